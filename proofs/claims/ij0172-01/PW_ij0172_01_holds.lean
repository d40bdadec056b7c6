import PyProof.Rows.All
import Wide.All
import OpenK.AllK
import Wide.FinOn
import KE.KIntText
import KE.KTryDeep
import PySem.Sre
import Lean
import PySem.Challenge.RW_ij0172_01
set_option Elab.async false
set_option compiler.extract_closed false
section
open PySem PySem.W PyProof.Rows
set_option Elab.async false
set_option compiler.extract_closed false
set_option linter.unusedVariables false
set_option maxRecDepth 100000
namespace Mine
noncomputable def stOf : List Stmt → Nat → Stmt
  | [], _ => .Pass ⟨0, 0, 0, 0⟩
  | x :: _, 0 => x
  | _ :: r, n + 1 => stOf r n
noncomputable def st (i : Nat) : Stmt := stOf PySem.Challenge.pw_ij0172_01.main.body i
noncomputable def cB : Stmt → List Stmt
  | .ClassDef _ _ _ b _ _ _ _ _ _ _ => b
  | _ => []
noncomputable def cst (i j : Nat) : Stmt := stOf (cB (st i)) j
noncomputable def fP : Stmt → Arguments
  | .FunctionDef _ a _ _ _ _ _ _ _ _ => a
  | _ => ⟨[], [], none, [], [], none, []⟩
noncomputable def fB : Stmt → List Stmt
  | .FunctionDef _ _ b _ _ _ _ _ _ _ => b
  | _ => []
noncomputable def fS : Stmt → Scope
  | .FunctionDef _ _ _ _ _ _ s _ _ _ => s
  | _ => ⟨.function, [], false, false, []⟩

noncomputable def o_0 (P : Params) : Obj := ⟨.type "dict", none, .dict [⟨PyData.keyHash P (Str.ofString "__name__"), .str (Str.ofString "__name__") 1, .str (Str.ofString "builtins") 160⟩, ⟨PyData.keyHash P (Str.ofString "__doc__"), .str (Str.ofString "__doc__") 2, .builtin "builtins.__doc__:str#opaque"⟩, ⟨PyData.keyHash P (Str.ofString "__package__"), .str (Str.ofString "__package__") 3, .builtin "builtins.__package__:str#opaque"⟩, ⟨PyData.keyHash P (Str.ofString "__loader__"), .str (Str.ofString "__loader__") 4, .builtin "builtins.__loader__:shared#opaque"⟩, ⟨PyData.keyHash P (Str.ofString "__spec__"), .str (Str.ofString "__spec__") 5, .builtin "builtins.__spec__#opaque"⟩, ⟨PyData.keyHash P (Str.ofString "__build_class__"), .str (Str.ofString "__build_class__") 6, .builtin "__build_class__"⟩, ⟨PyData.keyHash P (Str.ofString "__import__"), .str (Str.ofString "__import__") 7, .builtin "__import__"⟩, ⟨PyData.keyHash P (Str.ofString "abs"), .str (Str.ofString "abs") 8, .builtin "abs"⟩, ⟨PyData.keyHash P (Str.ofString "all"), .str (Str.ofString "all") 9, .builtin "all"⟩, ⟨PyData.keyHash P (Str.ofString "any"), .str (Str.ofString "any") 10, .builtin "any"⟩, ⟨PyData.keyHash P (Str.ofString "ascii"), .str (Str.ofString "ascii") 11, .builtin "ascii"⟩, ⟨PyData.keyHash P (Str.ofString "bin"), .str (Str.ofString "bin") 12, .builtin "bin"⟩, ⟨PyData.keyHash P (Str.ofString "breakpoint"), .str (Str.ofString "breakpoint") 13, .builtin "breakpoint"⟩, ⟨PyData.keyHash P (Str.ofString "callable"), .str (Str.ofString "callable") 14, .builtin "callable"⟩, ⟨PyData.keyHash P (Str.ofString "chr"), .str (Str.ofString "chr") 15, .builtin "chr"⟩, ⟨PyData.keyHash P (Str.ofString "compile"), .str (Str.ofString "compile") 16, .builtin "compile"⟩, ⟨PyData.keyHash P (Str.ofString "delattr"), .str (Str.ofString "delattr") 17, .builtin "delattr"⟩, ⟨PyData.keyHash P (Str.ofString "dir"), .str (Str.ofString "dir") 18, .builtin "dir"⟩, ⟨PyData.keyHash P (Str.ofString "divmod"), .str (Str.ofString "divmod") 19, .builtin "divmod"⟩, ⟨PyData.keyHash P (Str.ofString "eval"), .str (Str.ofString "eval") 20, .builtin "eval"⟩, ⟨PyData.keyHash P (Str.ofString "exec"), .str (Str.ofString "exec") 21, .builtin "exec"⟩, ⟨PyData.keyHash P (Str.ofString "format"), .str (Str.ofString "format") 22, .builtin "format"⟩, ⟨PyData.keyHash P (Str.ofString "getattr"), .str (Str.ofString "getattr") 23, .builtin "getattr"⟩, ⟨PyData.keyHash P (Str.ofString "globals"), .str (Str.ofString "globals") 24, .builtin "globals"⟩, ⟨PyData.keyHash P (Str.ofString "hasattr"), .str (Str.ofString "hasattr") 25, .builtin "hasattr"⟩, ⟨PyData.keyHash P (Str.ofString "hash"), .str (Str.ofString "hash") 26, .builtin "hash"⟩, ⟨PyData.keyHash P (Str.ofString "hex"), .str (Str.ofString "hex") 27, .builtin "hex"⟩, ⟨PyData.keyHash P (Str.ofString "id"), .str (Str.ofString "id") 28, .builtin "id"⟩, ⟨PyData.keyHash P (Str.ofString "input"), .str (Str.ofString "input") 29, .builtin "input"⟩, ⟨PyData.keyHash P (Str.ofString "isinstance"), .str (Str.ofString "isinstance") 30, .builtin "isinstance"⟩, ⟨PyData.keyHash P (Str.ofString "issubclass"), .str (Str.ofString "issubclass") 31, .builtin "issubclass"⟩, ⟨PyData.keyHash P (Str.ofString "iter"), .str (Str.ofString "iter") 32, .builtin "iter"⟩, ⟨PyData.keyHash P (Str.ofString "aiter"), .str (Str.ofString "aiter") 33, .builtin "aiter"⟩, ⟨PyData.keyHash P (Str.ofString "len"), .str (Str.ofString "len") 34, .builtin "len"⟩, ⟨PyData.keyHash P (Str.ofString "locals"), .str (Str.ofString "locals") 35, .builtin "locals"⟩, ⟨PyData.keyHash P (Str.ofString "max"), .str (Str.ofString "max") 36, .builtin "max"⟩, ⟨PyData.keyHash P (Str.ofString "min"), .str (Str.ofString "min") 37, .builtin "min"⟩, ⟨PyData.keyHash P (Str.ofString "next"), .str (Str.ofString "next") 38, .builtin "next"⟩, ⟨PyData.keyHash P (Str.ofString "anext"), .str (Str.ofString "anext") 39, .builtin "anext"⟩, ⟨PyData.keyHash P (Str.ofString "oct"), .str (Str.ofString "oct") 40, .builtin "oct"⟩, ⟨PyData.keyHash P (Str.ofString "ord"), .str (Str.ofString "ord") 41, .builtin "ord"⟩, ⟨PyData.keyHash P (Str.ofString "pow"), .str (Str.ofString "pow") 42, .builtin "pow"⟩, ⟨PyData.keyHash P (Str.ofString "print"), .str (Str.ofString "print") 43, .builtin "print"⟩, ⟨PyData.keyHash P (Str.ofString "repr"), .str (Str.ofString "repr") 44, .builtin "repr"⟩, ⟨PyData.keyHash P (Str.ofString "round"), .str (Str.ofString "round") 45, .builtin "round"⟩, ⟨PyData.keyHash P (Str.ofString "setattr"), .str (Str.ofString "setattr") 46, .builtin "setattr"⟩, ⟨PyData.keyHash P (Str.ofString "sorted"), .str (Str.ofString "sorted") 47, .builtin "sorted"⟩, ⟨PyData.keyHash P (Str.ofString "sum"), .str (Str.ofString "sum") 48, .builtin "sum"⟩, ⟨PyData.keyHash P (Str.ofString "vars"), .str (Str.ofString "vars") 49, .builtin "vars"⟩, ⟨PyData.keyHash P (Str.ofString "None"), .str (Str.ofString "None") 50, .none⟩, ⟨PyData.keyHash P (Str.ofString "Ellipsis"), .str (Str.ofString "Ellipsis") 51, .ellipsis⟩, ⟨PyData.keyHash P (Str.ofString "NotImplemented"), .str (Str.ofString "NotImplemented") 52, .notImplemented⟩, ⟨PyData.keyHash P (Str.ofString "False"), .str (Str.ofString "False") 53, .bool false⟩, ⟨PyData.keyHash P (Str.ofString "True"), .str (Str.ofString "True") 54, .bool true⟩, ⟨PyData.keyHash P (Str.ofString "bool"), .str (Str.ofString "bool") 55, .type "bool"⟩, ⟨PyData.keyHash P (Str.ofString "memoryview"), .str (Str.ofString "memoryview") 56, .type "memoryview"⟩, ⟨PyData.keyHash P (Str.ofString "bytearray"), .str (Str.ofString "bytearray") 57, .type "bytearray"⟩, ⟨PyData.keyHash P (Str.ofString "bytes"), .str (Str.ofString "bytes") 58, .type "bytes"⟩, ⟨PyData.keyHash P (Str.ofString "classmethod"), .str (Str.ofString "classmethod") 59, .type "classmethod"⟩, ⟨PyData.keyHash P (Str.ofString "complex"), .str (Str.ofString "complex") 60, .type "complex"⟩, ⟨PyData.keyHash P (Str.ofString "dict"), .str (Str.ofString "dict") 61, .type "dict"⟩, ⟨PyData.keyHash P (Str.ofString "enumerate"), .str (Str.ofString "enumerate") 62, .type "enumerate"⟩, ⟨PyData.keyHash P (Str.ofString "filter"), .str (Str.ofString "filter") 63, .type "filter"⟩, ⟨PyData.keyHash P (Str.ofString "float"), .str (Str.ofString "float") 64, .type "float"⟩, ⟨PyData.keyHash P (Str.ofString "frozenset"), .str (Str.ofString "frozenset") 65, .type "frozenset"⟩, ⟨PyData.keyHash P (Str.ofString "property"), .str (Str.ofString "property") 66, .type "property"⟩, ⟨PyData.keyHash P (Str.ofString "int"), .str (Str.ofString "int") 67, .type "int"⟩, ⟨PyData.keyHash P (Str.ofString "list"), .str (Str.ofString "list") 68, .type "list"⟩, ⟨PyData.keyHash P (Str.ofString "map"), .str (Str.ofString "map") 69, .type "map"⟩, ⟨PyData.keyHash P (Str.ofString "object"), .str (Str.ofString "object") 70, .type "object"⟩, ⟨PyData.keyHash P (Str.ofString "range"), .str (Str.ofString "range") 71, .type "range"⟩, ⟨PyData.keyHash P (Str.ofString "reversed"), .str (Str.ofString "reversed") 72, .type "reversed"⟩, ⟨PyData.keyHash P (Str.ofString "set"), .str (Str.ofString "set") 73, .type "set"⟩, ⟨PyData.keyHash P (Str.ofString "slice"), .str (Str.ofString "slice") 74, .type "slice"⟩, ⟨PyData.keyHash P (Str.ofString "staticmethod"), .str (Str.ofString "staticmethod") 75, .type "staticmethod"⟩, ⟨PyData.keyHash P (Str.ofString "str"), .str (Str.ofString "str") 76, .type "str"⟩, ⟨PyData.keyHash P (Str.ofString "super"), .str (Str.ofString "super") 77, .type "super"⟩, ⟨PyData.keyHash P (Str.ofString "tuple"), .str (Str.ofString "tuple") 78, .type "tuple"⟩, ⟨PyData.keyHash P (Str.ofString "type"), .str (Str.ofString "type") 79, .type "type"⟩, ⟨PyData.keyHash P (Str.ofString "zip"), .str (Str.ofString "zip") 80, .type "zip"⟩, ⟨PyData.keyHash P (Str.ofString "__debug__"), .str (Str.ofString "__debug__") 81, .bool true⟩, ⟨PyData.keyHash P (Str.ofString "BaseException"), .str (Str.ofString "BaseException") 82, .type "BaseException"⟩, ⟨PyData.keyHash P (Str.ofString "BaseExceptionGroup"), .str (Str.ofString "BaseExceptionGroup") 83, .type "BaseExceptionGroup"⟩, ⟨PyData.keyHash P (Str.ofString "Exception"), .str (Str.ofString "Exception") 84, .type "Exception"⟩, ⟨PyData.keyHash P (Str.ofString "GeneratorExit"), .str (Str.ofString "GeneratorExit") 85, .type "GeneratorExit"⟩, ⟨PyData.keyHash P (Str.ofString "KeyboardInterrupt"), .str (Str.ofString "KeyboardInterrupt") 86, .type "KeyboardInterrupt"⟩, ⟨PyData.keyHash P (Str.ofString "SystemExit"), .str (Str.ofString "SystemExit") 87, .type "SystemExit"⟩, ⟨PyData.keyHash P (Str.ofString "ArithmeticError"), .str (Str.ofString "ArithmeticError") 88, .type "ArithmeticError"⟩, ⟨PyData.keyHash P (Str.ofString "AssertionError"), .str (Str.ofString "AssertionError") 89, .type "AssertionError"⟩, ⟨PyData.keyHash P (Str.ofString "AttributeError"), .str (Str.ofString "AttributeError") 90, .type "AttributeError"⟩, ⟨PyData.keyHash P (Str.ofString "BufferError"), .str (Str.ofString "BufferError") 91, .type "BufferError"⟩, ⟨PyData.keyHash P (Str.ofString "EOFError"), .str (Str.ofString "EOFError") 92, .type "EOFError"⟩, ⟨PyData.keyHash P (Str.ofString "ImportError"), .str (Str.ofString "ImportError") 93, .type "ImportError"⟩, ⟨PyData.keyHash P (Str.ofString "LookupError"), .str (Str.ofString "LookupError") 94, .type "LookupError"⟩, ⟨PyData.keyHash P (Str.ofString "MemoryError"), .str (Str.ofString "MemoryError") 95, .type "MemoryError"⟩, ⟨PyData.keyHash P (Str.ofString "NameError"), .str (Str.ofString "NameError") 96, .type "NameError"⟩, ⟨PyData.keyHash P (Str.ofString "OSError"), .str (Str.ofString "OSError") 97, .type "OSError"⟩, ⟨PyData.keyHash P (Str.ofString "ReferenceError"), .str (Str.ofString "ReferenceError") 98, .type "ReferenceError"⟩, ⟨PyData.keyHash P (Str.ofString "RuntimeError"), .str (Str.ofString "RuntimeError") 99, .type "RuntimeError"⟩, ⟨PyData.keyHash P (Str.ofString "StopAsyncIteration"), .str (Str.ofString "StopAsyncIteration") 100, .type "StopAsyncIteration"⟩, ⟨PyData.keyHash P (Str.ofString "StopIteration"), .str (Str.ofString "StopIteration") 101, .type "StopIteration"⟩, ⟨PyData.keyHash P (Str.ofString "SyntaxError"), .str (Str.ofString "SyntaxError") 102, .type "SyntaxError"⟩, ⟨PyData.keyHash P (Str.ofString "SystemError"), .str (Str.ofString "SystemError") 103, .type "SystemError"⟩, ⟨PyData.keyHash P (Str.ofString "TypeError"), .str (Str.ofString "TypeError") 104, .type "TypeError"⟩, ⟨PyData.keyHash P (Str.ofString "ValueError"), .str (Str.ofString "ValueError") 105, .type "ValueError"⟩, ⟨PyData.keyHash P (Str.ofString "Warning"), .str (Str.ofString "Warning") 106, .type "Warning"⟩, ⟨PyData.keyHash P (Str.ofString "FloatingPointError"), .str (Str.ofString "FloatingPointError") 107, .type "FloatingPointError"⟩, ⟨PyData.keyHash P (Str.ofString "OverflowError"), .str (Str.ofString "OverflowError") 108, .type "OverflowError"⟩, ⟨PyData.keyHash P (Str.ofString "ZeroDivisionError"), .str (Str.ofString "ZeroDivisionError") 109, .type "ZeroDivisionError"⟩, ⟨PyData.keyHash P (Str.ofString "BytesWarning"), .str (Str.ofString "BytesWarning") 110, .type "BytesWarning"⟩, ⟨PyData.keyHash P (Str.ofString "DeprecationWarning"), .str (Str.ofString "DeprecationWarning") 111, .type "DeprecationWarning"⟩, ⟨PyData.keyHash P (Str.ofString "EncodingWarning"), .str (Str.ofString "EncodingWarning") 112, .type "EncodingWarning"⟩, ⟨PyData.keyHash P (Str.ofString "FutureWarning"), .str (Str.ofString "FutureWarning") 113, .type "FutureWarning"⟩, ⟨PyData.keyHash P (Str.ofString "ImportWarning"), .str (Str.ofString "ImportWarning") 114, .type "ImportWarning"⟩, ⟨PyData.keyHash P (Str.ofString "PendingDeprecationWarning"), .str (Str.ofString "PendingDeprecationWarning") 115, .type "PendingDeprecationWarning"⟩, ⟨PyData.keyHash P (Str.ofString "ResourceWarning"), .str (Str.ofString "ResourceWarning") 116, .type "ResourceWarning"⟩, ⟨PyData.keyHash P (Str.ofString "RuntimeWarning"), .str (Str.ofString "RuntimeWarning") 117, .type "RuntimeWarning"⟩, ⟨PyData.keyHash P (Str.ofString "SyntaxWarning"), .str (Str.ofString "SyntaxWarning") 118, .type "SyntaxWarning"⟩, ⟨PyData.keyHash P (Str.ofString "UnicodeWarning"), .str (Str.ofString "UnicodeWarning") 119, .type "UnicodeWarning"⟩, ⟨PyData.keyHash P (Str.ofString "UserWarning"), .str (Str.ofString "UserWarning") 120, .type "UserWarning"⟩, ⟨PyData.keyHash P (Str.ofString "BlockingIOError"), .str (Str.ofString "BlockingIOError") 121, .type "BlockingIOError"⟩, ⟨PyData.keyHash P (Str.ofString "ChildProcessError"), .str (Str.ofString "ChildProcessError") 122, .type "ChildProcessError"⟩, ⟨PyData.keyHash P (Str.ofString "ConnectionError"), .str (Str.ofString "ConnectionError") 123, .type "ConnectionError"⟩, ⟨PyData.keyHash P (Str.ofString "FileExistsError"), .str (Str.ofString "FileExistsError") 124, .type "FileExistsError"⟩, ⟨PyData.keyHash P (Str.ofString "FileNotFoundError"), .str (Str.ofString "FileNotFoundError") 125, .type "FileNotFoundError"⟩, ⟨PyData.keyHash P (Str.ofString "InterruptedError"), .str (Str.ofString "InterruptedError") 126, .type "InterruptedError"⟩, ⟨PyData.keyHash P (Str.ofString "IsADirectoryError"), .str (Str.ofString "IsADirectoryError") 127, .type "IsADirectoryError"⟩, ⟨PyData.keyHash P (Str.ofString "NotADirectoryError"), .str (Str.ofString "NotADirectoryError") 128, .type "NotADirectoryError"⟩, ⟨PyData.keyHash P (Str.ofString "PermissionError"), .str (Str.ofString "PermissionError") 129, .type "PermissionError"⟩, ⟨PyData.keyHash P (Str.ofString "ProcessLookupError"), .str (Str.ofString "ProcessLookupError") 130, .type "ProcessLookupError"⟩, ⟨PyData.keyHash P (Str.ofString "TimeoutError"), .str (Str.ofString "TimeoutError") 131, .type "TimeoutError"⟩, ⟨PyData.keyHash P (Str.ofString "IndentationError"), .str (Str.ofString "IndentationError") 132, .type "IndentationError"⟩, ⟨PyData.keyHash P (Str.ofString "_IncompleteInputError"), .str (Str.ofString "_IncompleteInputError") 133, .type "_IncompleteInputError"⟩, ⟨PyData.keyHash P (Str.ofString "IndexError"), .str (Str.ofString "IndexError") 134, .type "IndexError"⟩, ⟨PyData.keyHash P (Str.ofString "KeyError"), .str (Str.ofString "KeyError") 135, .type "KeyError"⟩, ⟨PyData.keyHash P (Str.ofString "ModuleNotFoundError"), .str (Str.ofString "ModuleNotFoundError") 136, .type "ModuleNotFoundError"⟩, ⟨PyData.keyHash P (Str.ofString "NotImplementedError"), .str (Str.ofString "NotImplementedError") 137, .type "NotImplementedError"⟩, ⟨PyData.keyHash P (Str.ofString "PythonFinalizationError"), .str (Str.ofString "PythonFinalizationError") 138, .type "PythonFinalizationError"⟩, ⟨PyData.keyHash P (Str.ofString "RecursionError"), .str (Str.ofString "RecursionError") 139, .type "RecursionError"⟩, ⟨PyData.keyHash P (Str.ofString "UnboundLocalError"), .str (Str.ofString "UnboundLocalError") 140, .type "UnboundLocalError"⟩, ⟨PyData.keyHash P (Str.ofString "UnicodeError"), .str (Str.ofString "UnicodeError") 141, .type "UnicodeError"⟩, ⟨PyData.keyHash P (Str.ofString "BrokenPipeError"), .str (Str.ofString "BrokenPipeError") 142, .type "BrokenPipeError"⟩, ⟨PyData.keyHash P (Str.ofString "ConnectionAbortedError"), .str (Str.ofString "ConnectionAbortedError") 143, .type "ConnectionAbortedError"⟩, ⟨PyData.keyHash P (Str.ofString "ConnectionRefusedError"), .str (Str.ofString "ConnectionRefusedError") 144, .type "ConnectionRefusedError"⟩, ⟨PyData.keyHash P (Str.ofString "ConnectionResetError"), .str (Str.ofString "ConnectionResetError") 145, .type "ConnectionResetError"⟩, ⟨PyData.keyHash P (Str.ofString "TabError"), .str (Str.ofString "TabError") 146, .type "TabError"⟩, ⟨PyData.keyHash P (Str.ofString "UnicodeDecodeError"), .str (Str.ofString "UnicodeDecodeError") 147, .type "UnicodeDecodeError"⟩, ⟨PyData.keyHash P (Str.ofString "UnicodeEncodeError"), .str (Str.ofString "UnicodeEncodeError") 148, .type "UnicodeEncodeError"⟩, ⟨PyData.keyHash P (Str.ofString "UnicodeTranslateError"), .str (Str.ofString "UnicodeTranslateError") 149, .type "UnicodeTranslateError"⟩, ⟨PyData.keyHash P (Str.ofString "ExceptionGroup"), .str (Str.ofString "ExceptionGroup") 150, .type "ExceptionGroup"⟩, ⟨PyData.keyHash P (Str.ofString "EnvironmentError"), .str (Str.ofString "EnvironmentError") 151, .type "OSError"⟩, ⟨PyData.keyHash P (Str.ofString "IOError"), .str (Str.ofString "IOError") 152, .type "OSError"⟩, ⟨PyData.keyHash P (Str.ofString "open"), .str (Str.ofString "open") 153, .builtin "open"⟩, ⟨PyData.keyHash P (Str.ofString "quit"), .str (Str.ofString "quit") 154, .builtin "builtins.quit#opaque"⟩, ⟨PyData.keyHash P (Str.ofString "exit"), .str (Str.ofString "exit") 155, .builtin "builtins.exit#opaque"⟩, ⟨PyData.keyHash P (Str.ofString "copyright"), .str (Str.ofString "copyright") 156, .builtin "builtins.copyright#opaque"⟩, ⟨PyData.keyHash P (Str.ofString "credits"), .str (Str.ofString "credits") 157, .builtin "builtins.credits#opaque"⟩, ⟨PyData.keyHash P (Str.ofString "license"), .str (Str.ofString "license") 158, .builtin "builtins.license#opaque"⟩, ⟨PyData.keyHash P (Str.ofString "help"), .str (Str.ofString "help") 159, .builtin "builtins.help#opaque"⟩].toArray 159, [].toArray⟩
noncomputable def o_1 (P : Params) : Obj := ⟨.type "dict", none, .dict [⟨PyData.keyHash P (Str.ofString "builtins"), .str (Str.ofString "builtins") 162, .ref 4⟩, ⟨PyData.keyHash P (Str.ofString "__main__"), .str (Str.ofString "__main__") 163, .ref 5⟩, ⟨PyData.keyHash P (Str.ofString "_sre"), .str (Str.ofString "_sre") 244, .ref 12⟩].toArray 3, [].toArray⟩
noncomputable def o_2 (P : Params) : Obj := ⟨.none, none, .dict [⟨PyData.keyHash P (Str.ofString "\x69mport.loaded._sre"), .str (Str.ofString "\x69mport.loaded._sre") 183, .bool true⟩, ⟨PyData.keyHash P (Str.ofString "class._frozen_importlib.BuiltinImporter"), .str (Str.ofString "class._frozen_importlib.BuiltinImporter") 185, .ref 14⟩, ⟨PyData.keyHash P (Str.ofString "watched.\x69mport"), .str (Str.ofString "watched.\x69mport") 206, .ref 18⟩, ⟨PyData.keyHash P (Str.ofString "class._frozen_importlib.ModuleSpec"), .str (Str.ofString "class._frozen_importlib.ModuleSpec") 216, .ref 22⟩, ⟨PyData.keyHash P (Str.ofString "sys.modules.booked-epoch"), .str (Str.ofString "sys.modules.booked-epoch") 245, .int (3) 0⟩, ⟨PyData.keyHash P (Str.ofString "\x69mport.later-laid._sre"), .str (Str.ofString "\x69mport.later-laid._sre") 270, .bool true⟩, ⟨PyData.keyHash P (Str.ofString "watched.library"), .str (Str.ofString "watched.library") 272, .ref 27⟩, ⟨PyData.keyHash P (Str.ofString "watched.library-objects"), .str (Str.ofString "watched.library-objects") 0, .str (Str.ofString "\x0c") 0⟩, ⟨PyData.keyHash P (Str.ofString "watched.library-deep._sre"), .str (Str.ofString "watched.library-deep._sre") 273, .str (Str.ofString "\x04\x00\x00\x0b\x04\x00\x00\x0b\x04\x00\x00\x03\x04\x00\x00\x0b\x08\x04dict\x02") 0⟩].toArray 9, [].toArray⟩
noncomputable def o_3 (P : Params) : Obj := ⟨.type "dict", none, .dict [⟨PyData.keyHash P (Str.ofString "__name__"), .str (Str.ofString "__name__") 165, .str (Str.ofString "law_ij0172_01") 759⟩, ⟨PyData.keyHash P (Str.ofString "__doc__"), .str (Str.ofString "__doc__") 166, .none⟩, ⟨PyData.keyHash P (Str.ofString "__package__"), .str (Str.ofString "__package__") 167, .none⟩, ⟨PyData.keyHash P (Str.ofString "__loader__"), .str (Str.ofString "__loader__") 168, .builtin "__main__.__loader__#opaque"⟩, ⟨PyData.keyHash P (Str.ofString "__spec__"), .str (Str.ofString "__spec__") 169, .none⟩, ⟨PyData.keyHash P (Str.ofString "__annotations__"), .str (Str.ofString "__annotations__") 170, .ref 6⟩, ⟨PyData.keyHash P (Str.ofString "__builtins__"), .str (Str.ofString "__builtins__") 171, .ref 4⟩, ⟨PyData.keyHash P (Str.ofString "__file__"), .str (Str.ofString "__file__") 173, .str (Str.ofString "/claim/cut.py") 172⟩, ⟨PyData.keyHash P (Str.ofString "__cached__"), .str (Str.ofString "__cached__") 174, .none⟩, ⟨PyData.keyHash P (Str.ofString "_sre"), .str (Str.ofString "_sre") 275, .ref 12⟩, ⟨PyData.keyHash P (Str.ofString "_wall"), .str (Str.ofString "_wall") 288, .ref 38⟩, ⟨PyData.keyHash P (Str.ofString "_WallAttr"), .str (Str.ofString "_WallAttr") 328, .ref 63⟩, ⟨PyData.keyHash P (Str.ofString "ASCII_CTRL"), .str (Str.ofString "ASCII_CTRL") 474, .ref 84⟩, ⟨PyData.keyHash P (Str.ofString "ILLEGAL_BASIC_STR_CHARS"), .str (Str.ofString "ILLEGAL_BASIC_STR_CHARS") 478, .ref 89⟩, ⟨PyData.keyHash P (Str.ofString "ILLEGAL_MULTILINE_BASIC_STR_CHARS"), .str (Str.ofString "ILLEGAL_MULTILINE_BASIC_STR_CHARS") 484, .ref 94⟩, ⟨PyData.keyHash P (Str.ofString "ILLEGAL_MULTILINE_LITERAL_STR_CHARS"), .str (Str.ofString "ILLEGAL_MULTILINE_LITERAL_STR_CHARS") 485, .ref 94⟩, ⟨PyData.keyHash P (Str.ofString "TOML_WS"), .str (Str.ofString "TOML_WS") 491, .ref 95⟩, ⟨PyData.keyHash P (Str.ofString "TOML_WS_AND_NEWLINE"), .str (Str.ofString "TOML_WS_AND_NEWLINE") 495, .ref 103⟩, ⟨PyData.keyHash P (Str.ofString "digits"), .str (Str.ofString "digits") 497, .str (Str.ofString "0123456789") 496⟩, ⟨PyData.keyHash P (Str.ofString "hexdigits"), .str (Str.ofString "hexdigits") 502, .str (Str.ofString "0123456789abcdefABCDEF") 501⟩, ⟨PyData.keyHash P (Str.ofString "HEXDIGIT_CHARS"), .str (Str.ofString "HEXDIGIT_CHARS") 547, .ref 104⟩, ⟨PyData.keyHash P (Str.ofString "MappingProxyType"), .str (Str.ofString "MappingProxyType") 551, .type "mappingproxy"⟩, ⟨PyData.keyHash P (Str.ofString "BASIC_STR_ESCAPE_REPLACEMENTS"), .str (Str.ofString "BASIC_STR_ESCAPE_REPLACEMENTS") 575, .ref 110⟩, ⟨PyData.keyHash P (Str.ofString "TOMLDecodeError"), .str (Str.ofString "TOMLDecodeError") 593, .ref 120⟩, ⟨PyData.keyHash P (Str.ofString "skip_chars"), .str (Str.ofString "skip_chars") 602, .ref 130⟩, ⟨PyData.keyHash P (Str.ofString "skip_until"), .str (Str.ofString "skip_until") 614, .ref 137⟩, ⟨PyData.keyHash P (Str.ofString "parse_basic_str_escape"), .str (Str.ofString "parse_basic_str_escape") 626, .ref 145⟩, ⟨PyData.keyHash P (Str.ofString "parse_basic_str_escape_multiline"), .str (Str.ofString "parse_basic_str_escape_multiline") 634, .ref 152⟩, ⟨PyData.keyHash P (Str.ofString "parse_hex_char"), .str (Str.ofString "parse_hex_char") 645, .ref 159⟩, ⟨PyData.keyHash P (Str.ofString "parse_multiline_str"), .str (Str.ofString "parse_multiline_str") 657, .ref 166⟩, ⟨PyData.keyHash P (Str.ofString "parse_basic_str"), .str (Str.ofString "parse_basic_str") 672, .ref 173⟩, ⟨PyData.keyHash P (Str.ofString "suffixed_err"), .str (Str.ofString "suffixed_err") 682, .ref 180⟩, ⟨PyData.keyHash P (Str.ofString "is_unicode_scalar_value"), .str (Str.ofString "is_unicode_scalar_value") 689, .ref 187⟩, ⟨PyData.keyHash P (Str.ofString "_twin_re_1"), .str (Str.ofString "_twin_re_1") 707, .ref 192⟩, ⟨PyData.keyHash P (Str.ofString "_twin_re_2"), .str (Str.ofString "_twin_re_2") 749, .ref 197⟩, ⟨PyData.keyHash P (Str.ofString "CRLF"), .str (Str.ofString "CRLF") 751, .str (Str.ofString "\r\n") 750⟩, ⟨PyData.keyHash P (Str.ofString "quotedata"), .str (Str.ofString "quotedata") 758, .ref 204⟩, ⟨PyData.keyHash P (Str.ofString "_law_odd"), .str (Str.ofString "_law_odd") 768, .ref 211⟩, ⟨PyData.keyHash P (Str.ofString "_law_strands"), .str (Str.ofString "_law_strands") 774, .ref 216⟩, ⟨PyData.keyHash P (Str.ofString "_law_written"), .str (Str.ofString "_law_written") 787, .ref 223⟩, ⟨PyData.keyHash P (Str.ofString "_law_words"), .str (Str.ofString "_law_words") 797, .ref 230⟩, ⟨PyData.keyHash P (Str.ofString "_law_due"), .str (Str.ofString "_law_due") 814, .ref 237⟩, ⟨PyData.keyHash P (Str.ofString "_law_asked"), .str (Str.ofString "_law_asked") 824, .ref 244⟩, ⟨PyData.keyHash P (Str.ofString "_law_held"), .str (Str.ofString "_law_held") 830, .ref 249⟩, ⟨PyData.keyHash P (Str.ofString "law"), .str (Str.ofString "law") 836, .ref 254⟩].toArray 45, [].toArray⟩
noncomputable def o_4 (P : Params) : Obj := ⟨.type "module", (some (0)), .plain, [].toArray⟩
noncomputable def o_5 (P : Params) : Obj := ⟨.type "module", (some (3)), .plain, [].toArray⟩
noncomputable def o_6 (P : Params) : Obj := ⟨.type "dict", none, .dict [].toArray 0, [].toArray⟩
noncomputable def o_7 (P : Params) : Obj := ⟨.type "tuple", none, .seq [].toArray 0, [].toArray⟩
noncomputable def o_8 (P : Params) : Obj := ⟨.none, none, .fields [].toArray, [].toArray⟩
noncomputable def o_9 (P : Params) : Obj := ⟨.type "code", none, .fields [.str (Str.ofString "<module>") 176, .str (Str.ofString "<module>") 177, .str (Str.ofString "/claim/cut.py") 178, .int (1) 0, .int (0) 0, .int (0) 0, .int (0) 0, .int (0) 0, .ref 7, .bool false, .int (175) 0, .ref 8, .none, .none, .none, .none, .int (179) 0, .int (1) 0, .str (Str.ofString "/claim/cut.py") 180].toArray, [].toArray⟩
noncomputable def o_10 (P : Params) : Obj := ⟨.type "frame", none, .plain, [(some (.ref 9)), (some (.ref 3)), (some (.ref 3)), none, (some (.str (Str.ofString "__main__") 164)), none, (some (.ref 0))].toArray⟩
noncomputable def o_11 (P : Params) : Obj := ⟨.type "dict", none, .dict [⟨PyData.keyHash P (Str.ofString "__name__"), .str (Str.ofString "__name__") 247, .str (Str.ofString "_sre") 246⟩, ⟨PyData.keyHash P (Str.ofString "__doc__"), .str (Str.ofString "__doc__") 248, .none⟩, ⟨PyData.keyHash P (Str.ofString "__package__"), .str (Str.ofString "__package__") 250, .str (Str.ofString "") 249⟩, ⟨PyData.keyHash P (Str.ofString "__loader__"), .str (Str.ofString "__loader__") 251, .builtin "off-the-table:_sre.__loader__:shared#opaque"⟩, ⟨PyData.keyHash P (Str.ofString "__spec__"), .str (Str.ofString "__spec__") 252, .builtin "off-the-table:_sre.__spec__:shared#opaque"⟩, ⟨PyData.keyHash P (Str.ofString "compile"), .str (Str.ofString "compile") 253, .builtin "_sre.compile"⟩, ⟨PyData.keyHash P (Str.ofString "template"), .str (Str.ofString "template") 254, .builtin "off-the-table:_sre.template:shared#opaque"⟩, ⟨PyData.keyHash P (Str.ofString "getcodesize"), .str (Str.ofString "getcodesize") 255, .builtin "off-the-table:_sre.getcodesize:shared#opaque"⟩, ⟨PyData.keyHash P (Str.ofString "ascii_iscased"), .str (Str.ofString "ascii_iscased") 256, .builtin "off-the-table:_sre.ascii_iscased:shared#opaque"⟩, ⟨PyData.keyHash P (Str.ofString "unicode_iscased"), .str (Str.ofString "unicode_iscased") 257, .builtin "off-the-table:_sre.unicode_iscased:shared#opaque"⟩, ⟨PyData.keyHash P (Str.ofString "ascii_tolower"), .str (Str.ofString "ascii_tolower") 258, .builtin "off-the-table:_sre.ascii_tolower:shared#opaque"⟩, ⟨PyData.keyHash P (Str.ofString "unicode_tolower"), .str (Str.ofString "unicode_tolower") 259, .builtin "off-the-table:_sre.unicode_tolower:shared#opaque"⟩, ⟨PyData.keyHash P (Str.ofString "MAGIC"), .str (Str.ofString "MAGIC") 261, .int (20230612) 260⟩, ⟨PyData.keyHash P (Str.ofString "CODESIZE"), .str (Str.ofString "CODESIZE") 263, .int (4) 262⟩, ⟨PyData.keyHash P (Str.ofString "MAXREPEAT"), .str (Str.ofString "MAXREPEAT") 265, .int (4294967295) 264⟩, ⟨PyData.keyHash P (Str.ofString "MAXGROUPS"), .str (Str.ofString "MAXGROUPS") 267, .int (1073741823) 266⟩, ⟨PyData.keyHash P (Str.ofString "copyright"), .str (Str.ofString "copyright") 269, .str (Str.ofString " SRE 2.2.2 Copyright (c) 1997-2002 by Secret Labs AB ") 268⟩].toArray 17, [].toArray⟩
noncomputable def o_12 (P : Params) : Obj := ⟨.type "module", (some (11)), .plain, [].toArray⟩
noncomputable def o_13 (P : Params) : Obj := ⟨.type "dict", none, .dict [⟨PyData.keyHash P (Str.ofString "__module__"), .str (Str.ofString "__module__") 189, .str (Str.ofString "_frozen_importlib") 186⟩, ⟨PyData.keyHash P (Str.ofString "__firstlineno__"), .str (Str.ofString "__firstlineno__") 190, .int (971) 187⟩, ⟨PyData.keyHash P (Str.ofString "__doc__"), .str (Str.ofString "__doc__") 191, .builtin "_frozen_importlib.BuiltinImporter.__doc__:str#opaque"⟩, ⟨PyData.keyHash P (Str.ofString "_ORIGIN"), .str (Str.ofString "_ORIGIN") 192, .str (Str.ofString "built-in") 188⟩, ⟨PyData.keyHash P (Str.ofString "find_spec"), .str (Str.ofString "find_spec") 193, .builtin "_frozen_importlib.BuiltinImporter.find_spec#opaque"⟩, ⟨PyData.keyHash P (Str.ofString "create_module"), .str (Str.ofString "create_module") 194, .builtin "_frozen_importlib.BuiltinImporter.create_module#opaque"⟩, ⟨PyData.keyHash P (Str.ofString "exec_module"), .str (Str.ofString "exec_module") 195, .builtin "_frozen_importlib.BuiltinImporter.exec_module#opaque"⟩, ⟨PyData.keyHash P (Str.ofString "get_code"), .str (Str.ofString "get_code") 196, .builtin "_frozen_importlib.BuiltinImporter.get_code#opaque"⟩, ⟨PyData.keyHash P (Str.ofString "get_source"), .str (Str.ofString "get_source") 197, .builtin "_frozen_importlib.BuiltinImporter.get_source#opaque"⟩, ⟨PyData.keyHash P (Str.ofString "is_package"), .str (Str.ofString "is_package") 198, .builtin "_frozen_importlib.BuiltinImporter.is_package#opaque"⟩, ⟨PyData.keyHash P (Str.ofString "load_module"), .str (Str.ofString "load_module") 199, .builtin "_frozen_importlib.BuiltinImporter.load_module#opaque"⟩, ⟨PyData.keyHash P (Str.ofString "__static_attributes__"), .str (Str.ofString "__static_attributes__") 200, .ref 15⟩, ⟨PyData.keyHash P (Str.ofString "__dict__"), .str (Str.ofString "__dict__") 202, .ref 16⟩, ⟨PyData.keyHash P (Str.ofString "__weakref__"), .str (Str.ofString "__weakref__") 204, .ref 17⟩].toArray 14, [].toArray⟩
noncomputable def o_14 (P : Params) : Obj := ⟨.type "type", none, .cls { name := (Str.ofString "BuiltinImporter"), bases := [.type "object"], mro := [.ref 14, .type "object"], ns := 13, qualname := (Str.ofString "BuiltinImporter"), hasDict := true, slotNames := [], subclasses := [], abstract := false, collection := none, hasDel := false }, [].toArray⟩
noncomputable def o_15 (P : Params) : Obj := ⟨.type "tuple", none, .seq [].toArray 0, [].toArray⟩
noncomputable def o_16 (P : Params) : Obj := ⟨.type "getset_descriptor", none, .fields [.str (Str.ofString "__dict__") 201, .ref 14, .builtin "function.__dict__", .builtin "function.__dict__#set"].toArray, [].toArray⟩
noncomputable def o_17 (P : Params) : Obj := ⟨.type "getset_descriptor", none, .fields [.str (Str.ofString "__weakref__") 203, .ref 14, .builtin "ExceptionGroup.__weakref__", .none].toArray, [].toArray⟩
noncomputable def o_18 (P : Params) : Obj := ⟨.none, none, .seq [.int (13) 0, .str (⟨#[6, 189, 10, 95, 95, 109, 111, 100, 117, 108, 101, 95, 95, 6, 186, 17, 95, 102, 114, 111, 122, 101, 110, 95, 105, 109, 112, 111, 114, 116, 108, 105, 98, 6, 190, 15, 95, 95, 102, 105, 114, 115, 116, 108, 105, 110, 101, 110, 111, 95, 95, 4, 187, 0, 971, 6, 191, 7, 95, 95, 100, 111, 99, 95, 95, 9, 52, 95, 102, 114, 111, 122, 101, 110, 95, 105, 109, 112, 111, 114, 116, 108, 105, 98, 46, 66, 117, 105, 108, 116, 105, 110, 73, 109, 112, 111, 114, 116, 101, 114, 46, 95, 95, 100, 111, 99, 95, 95, 58, 115, 116, 114, 35, 111, 112, 97, 113, 117, 101, 6, 192, 7, 95, 79, 82, 73, 71, 73, 78, 6, 188, 8, 98, 117, 105, 108, 116, 45, 105, 110, 6, 193, 9, 102, 105, 110, 100, 95, 115, 112, 101, 99, 9, 50, 95, 102, 114, 111, 122, 101, 110, 95, 105, 109, 112, 111, 114, 116, 108, 105, 98, 46, 66, 117, 105, 108, 116, 105, 110, 73, 109, 112, 111, 114, 116, 101, 114, 46, 102, 105, 110, 100, 95, 115, 112, 101, 99, 35, 111, 112, 97, 113, 117, 101, 6, 194, 13, 99, 114, 101, 97, 116, 101, 95, 109, 111, 100, 117, 108, 101, 9, 54, 95, 102, 114, 111, 122, 101, 110, 95, 105, 109, 112, 111, 114, 116, 108, 105, 98, 46, 66, 117, 105, 108, 116, 105, 110, 73, 109, 112, 111, 114, 116, 101, 114, 46, 99, 114, 101, 97, 116, 101, 95, 109, 111, 100, 117, 108, 101, 35, 111, 112, 97, 113, 117, 101, 6, 195, 11, 101, 120, 101, 99, 95, 109, 111, 100, 117, 108, 101, 9, 52, 95, 102, 114, 111, 122, 101, 110, 95, 105, 109, 112, 111, 114, 116, 108, 105, 98, 46, 66, 117, 105, 108, 116, 105, 110, 73, 109, 112, 111, 114, 116, 101, 114, 46, 101, 120, 101, 99, 95, 109, 111, 100, 117, 108, 101, 35, 111, 112, 97, 113, 117, 101, 6, 196, 8, 103, 101, 116, 95, 99, 111, 100, 101, 9, 49, 95, 102, 114, 111, 122, 101, 110, 95, 105, 109, 112, 111, 114, 116, 108, 105, 98, 46, 66, 117, 105, 108, 116, 105, 110, 73, 109, 112, 111, 114, 116, 101, 114, 46, 103, 101, 116, 95, 99, 111, 100, 101, 35, 111, 112, 97, 113, 117, 101, 6, 197, 10, 103, 101, 116, 95, 115, 111, 117, 114, 99, 101, 9, 51, 95, 102, 114, 111, 122, 101, 110, 95, 105, 109, 112, 111, 114, 116, 108, 105, 98, 46, 66, 117, 105, 108, 116, 105, 110, 73, 109, 112, 111, 114, 116, 101, 114, 46, 103, 101, 116, 95, 115, 111, 117, 114, 99, 101, 35, 111, 112, 97, 113, 117, 101, 6, 198, 10, 105, 115, 95, 112, 97, 99, 107, 97, 103, 101, 9, 51, 95, 102, 114, 111, 122, 101, 110, 95, 105, 109, 112, 111, 114, 116, 108, 105, 98, 46, 66, 117, 105, 108, 116, 105, 110, 73, 109, 112, 111, 114, 116, 101, 114, 46, 105, 115, 95, 112, 97, 99, 107, 97, 103, 101, 35, 111, 112, 97, 113, 117, 101, 6, 199, 11, 108, 111, 97, 100, 95, 109, 111, 100, 117, 108, 101, 9, 52, 95, 102, 114, 111, 122, 101, 110, 95, 105, 109, 112, 111, 114, 116, 108, 105, 98, 46, 66, 117, 105, 108, 116, 105, 110, 73, 109, 112, 111, 114, 116, 101, 114, 46, 108, 111, 97, 100, 95, 109, 111, 100, 117, 108, 101, 35, 111, 112, 97, 113, 117, 101, 6, 200, 21, 95, 95, 115, 116, 97, 116, 105, 99, 95, 97, 116, 116, 114, 105, 98, 117, 116, 101, 115, 95, 95, 4, 0, 0, 15, 6, 202, 8, 95, 95, 100, 105, 99, 116, 95, 95, 4, 0, 0, 16, 6, 204, 11, 95, 95, 119, 101, 97, 107, 114, 101, 102, 95, 95, 4, 0, 0, 17]⟩ : Str) 0, .bool true, .bool true, .str (Str.ofString "") 205, .int (21) 0, .str (⟨#[6, 227, 10, 95, 95, 109, 111, 100, 117, 108, 101, 95, 95, 6, 217, 17, 95, 102, 114, 111, 122, 101, 110, 95, 105, 109, 112, 111, 114, 116, 108, 105, 98, 6, 228, 15, 95, 95, 102, 105, 114, 115, 116, 108, 105, 110, 101, 110, 111, 95, 95, 4, 218, 0, 562, 6, 229, 7, 95, 95, 100, 111, 99, 95, 95, 9, 47, 95, 102, 114, 111, 122, 101, 110, 95, 105, 109, 112, 111, 114, 116, 108, 105, 98, 46, 77, 111, 100, 117, 108, 101, 83, 112, 101, 99, 46, 95, 95, 100, 111, 99, 95, 95, 58, 115, 116, 114, 35, 111, 112, 97, 113, 117, 101, 6, 230, 8, 95, 95, 105, 110, 105, 116, 95, 95, 9, 44, 95, 102, 114, 111, 122, 101, 110, 95, 105, 109, 112, 111, 114, 116, 108, 105, 98, 46, 77, 111, 100, 117, 108, 101, 83, 112, 101, 99, 46, 95, 95, 105, 110, 105, 116, 95, 95, 35, 111, 112, 97, 113, 117, 101, 6, 231, 8, 95, 95, 114, 101, 112, 114, 95, 95, 9, 44, 95, 102, 114, 111, 122, 101, 110, 95, 105, 109, 112, 111, 114, 116, 108, 105, 98, 46, 77, 111, 100, 117, 108, 101, 83, 112, 101, 99, 46, 95, 95, 114, 101, 112, 114, 95, 95, 35, 111, 112, 97, 113, 117, 101, 6, 232, 6, 95, 95, 101, 113, 95, 95, 9, 42, 95, 102, 114, 111, 122, 101, 110, 95, 105, 109, 112, 111, 114, 116, 108, 105, 98, 46, 77, 111, 100, 117, 108, 101, 83, 112, 101, 99, 46, 95, 95, 101, 113, 95, 95, 35, 111, 112, 97, 113, 117, 101, 6, 233, 6, 99, 97, 99, 104, 101, 100, 9, 42, 95, 102, 114, 111, 122, 101, 110, 95, 105, 109, 112, 111, 114, 116, 108, 105, 98, 46, 77, 111, 100, 117, 108, 101, 83, 112, 101, 99, 46, 99, 97, 99, 104, 101, 100, 35, 111, 112, 97, 113, 117, 101, 6, 234, 6, 112, 97, 114, 101, 110, 116, 9, 42, 95, 102, 114, 111, 122, 101, 110, 95, 105, 109, 112, 111, 114, 116, 108, 105, 98, 46, 77, 111, 100, 117, 108, 101, 83, 112, 101, 99, 46, 112, 97, 114, 101, 110, 116, 35, 111, 112, 97, 113, 117, 101, 6, 235, 12, 104, 97, 115, 95, 108, 111, 99, 97, 116, 105, 111, 110, 9, 48, 95, 102, 114, 111, 122, 101, 110, 95, 105, 109, 112, 111, 114, 116, 108, 105, 98, 46, 77, 111, 100, 117, 108, 101, 83, 112, 101, 99, 46, 104, 97, 115, 95, 108, 111, 99, 97, 116, 105, 111, 110, 35, 111, 112, 97, 113, 117, 101, 6, 236, 21, 95, 95, 115, 116, 97, 116, 105, 99, 95, 97, 116, 116, 114, 105, 98, 117, 116, 101, 115, 95, 95, 4, 0, 0, 23, 6, 238, 8, 95, 95, 100, 105, 99, 116, 95, 95, 4, 0, 0, 24, 6, 240, 11, 95, 95, 119, 101, 97, 107, 114, 101, 102, 95, 95, 4, 0, 0, 25, 6, 241, 8, 95, 95, 104, 97, 115, 104, 95, 95, 0]⟩ : Str) 0, .bool true, .bool true, .str (Str.ofString "") 242].toArray 1, [].toArray⟩
noncomputable def o_19 (P : Params) : Obj := ⟨.type "list", none, .seq [].toArray 0, [].toArray⟩
noncomputable def o_20 (P : Params) : Obj := ⟨.type "dict", none, .dict [⟨PyData.keyHash P (Str.ofString "name"), .str (Str.ofString "name") 208, .str (Str.ofString "_sre") 207⟩, ⟨PyData.keyHash P (Str.ofString "loader"), .str (Str.ofString "loader") 209, .ref 14⟩, ⟨PyData.keyHash P (Str.ofString "origin"), .str (Str.ofString "origin") 210, .str (Str.ofString "built-in") 184⟩, ⟨PyData.keyHash P (Str.ofString "loader_state"), .str (Str.ofString "loader_state") 211, .none⟩, ⟨PyData.keyHash P (Str.ofString "submodule_search_locations"), .str (Str.ofString "submodule_search_locations") 212, .none⟩, ⟨PyData.keyHash P (Str.ofString "_uninitialized_submodules"), .str (Str.ofString "_uninitialized_submodules") 213, .ref 19⟩, ⟨PyData.keyHash P (Str.ofString "_set_fileattr"), .str (Str.ofString "_set_fileattr") 214, .bool false⟩, ⟨PyData.keyHash P (Str.ofString "_cached"), .str (Str.ofString "_cached") 215, .none⟩, ⟨PyData.keyHash P (Str.ofString "_initializing"), .str (Str.ofString "_initializing") 243, .bool false⟩].toArray 9, [].toArray⟩
noncomputable def o_21 (P : Params) : Obj := ⟨.type "dict", none, .dict [⟨PyData.keyHash P (Str.ofString "__module__"), .str (Str.ofString "__module__") 227, .str (Str.ofString "_frozen_importlib") 217⟩, ⟨PyData.keyHash P (Str.ofString "__firstlineno__"), .str (Str.ofString "__firstlineno__") 228, .int (562) 218⟩, ⟨PyData.keyHash P (Str.ofString "__doc__"), .str (Str.ofString "__doc__") 229, .builtin "_frozen_importlib.ModuleSpec.__doc__:str#opaque"⟩, ⟨PyData.keyHash P (Str.ofString "__init__"), .str (Str.ofString "__init__") 230, .builtin "_frozen_importlib.ModuleSpec.__init__#opaque"⟩, ⟨PyData.keyHash P (Str.ofString "__repr__"), .str (Str.ofString "__repr__") 231, .builtin "_frozen_importlib.ModuleSpec.__repr__#opaque"⟩, ⟨PyData.keyHash P (Str.ofString "__eq__"), .str (Str.ofString "__eq__") 232, .builtin "_frozen_importlib.ModuleSpec.__eq__#opaque"⟩, ⟨PyData.keyHash P (Str.ofString "cached"), .str (Str.ofString "cached") 233, .builtin "_frozen_importlib.ModuleSpec.cached#opaque"⟩, ⟨PyData.keyHash P (Str.ofString "parent"), .str (Str.ofString "parent") 234, .builtin "_frozen_importlib.ModuleSpec.parent#opaque"⟩, ⟨PyData.keyHash P (Str.ofString "has_location"), .str (Str.ofString "has_location") 235, .builtin "_frozen_importlib.ModuleSpec.has_location#opaque"⟩, ⟨PyData.keyHash P (Str.ofString "__static_attributes__"), .str (Str.ofString "__static_attributes__") 236, .ref 23⟩, ⟨PyData.keyHash P (Str.ofString "__dict__"), .str (Str.ofString "__dict__") 238, .ref 24⟩, ⟨PyData.keyHash P (Str.ofString "__weakref__"), .str (Str.ofString "__weakref__") 240, .ref 25⟩, ⟨PyData.keyHash P (Str.ofString "__hash__"), .str (Str.ofString "__hash__") 241, .none⟩].toArray 13, [].toArray⟩
noncomputable def o_22 (P : Params) : Obj := ⟨.type "type", none, .cls { name := (Str.ofString "ModuleSpec"), bases := [.type "object"], mro := [.ref 22, .type "object"], ns := 21, qualname := (Str.ofString "ModuleSpec"), hasDict := true, slotNames := [], subclasses := [], abstract := false, collection := none, hasDel := false }, [].toArray⟩
noncomputable def o_23 (P : Params) : Obj := ⟨.type "tuple", none, .seq [.str (Str.ofString "_cached") 219, .str (Str.ofString "_set_fileattr") 220, .str (Str.ofString "_uninitialized_submodules") 221, .str (Str.ofString "loader") 222, .str (Str.ofString "loader_state") 223, .str (Str.ofString "name") 224, .str (Str.ofString "origin") 225, .str (Str.ofString "submodule_search_locations") 226].toArray 0, [].toArray⟩
noncomputable def o_24 (P : Params) : Obj := ⟨.type "getset_descriptor", none, .fields [.str (Str.ofString "__dict__") 237, .ref 22, .builtin "function.__dict__", .builtin "function.__dict__#set"].toArray, [].toArray⟩
noncomputable def o_25 (P : Params) : Obj := ⟨.type "getset_descriptor", none, .fields [.str (Str.ofString "__weakref__") 239, .ref 22, .builtin "ExceptionGroup.__weakref__", .none].toArray, [].toArray⟩
noncomputable def o_26 (P : Params) : Obj := ⟨.ref 22, (some (20)), .plain, [].toArray⟩
noncomputable def o_27 (P : Params) : Obj := ⟨.none, none, .seq [.int (11) 0, .str (⟨#[6, 247, 8, 95, 95, 110, 97, 109, 101, 95, 95, 6, 246, 4, 95, 115, 114, 101, 6, 248, 7, 95, 95, 100, 111, 99, 95, 95, 0, 6, 250, 11, 95, 95, 112, 97, 99, 107, 97, 103, 101, 95, 95, 6, 249, 0, 6, 251, 10, 95, 95, 108, 111, 97, 100, 101, 114, 95, 95, 4, 0, 0, 14, 6, 252, 8, 95, 95, 115, 112, 101, 99, 95, 95, 4, 0, 0, 26, 6, 253, 7, 99, 111, 109, 112, 105, 108, 101, 9, 12, 95, 115, 114, 101, 46, 99, 111, 109, 112, 105, 108, 101, 6, 254, 8, 116, 101, 109, 112, 108, 97, 116, 101, 9, 13, 95, 115, 114, 101, 46, 116, 101, 109, 112, 108, 97, 116, 101, 6, 255, 11, 103, 101, 116, 99, 111, 100, 101, 115, 105, 122, 101, 9, 16, 95, 115, 114, 101, 46, 103, 101, 116, 99, 111, 100, 101, 115, 105, 122, 101, 6, 256, 13, 97, 115, 99, 105, 105, 95, 105, 115, 99, 97, 115, 101, 100, 9, 18, 95, 115, 114, 101, 46, 97, 115, 99, 105, 105, 95, 105, 115, 99, 97, 115, 101, 100, 6, 257, 15, 117, 110, 105, 99, 111, 100, 101, 95, 105, 115, 99, 97, 115, 101, 100, 9, 20, 95, 115, 114, 101, 46, 117, 110, 105, 99, 111, 100, 101, 95, 105, 115, 99, 97, 115, 101, 100, 6, 258, 13, 97, 115, 99, 105, 105, 95, 116, 111, 108, 111, 119, 101, 114, 9, 18, 95, 115, 114, 101, 46, 97, 115, 99, 105, 105, 95, 116, 111, 108, 111, 119, 101, 114, 6, 259, 15, 117, 110, 105, 99, 111, 100, 101, 95, 116, 111, 108, 111, 119, 101, 114, 9, 20, 95, 115, 114, 101, 46, 117, 110, 105, 99, 111, 100, 101, 95, 116, 111, 108, 111, 119, 101, 114, 6, 261, 5, 77, 65, 71, 73, 67, 4, 260, 0, 20230612, 6, 263, 8, 67, 79, 68, 69, 83, 73, 90, 69, 4, 262, 0, 4, 6, 265, 9, 77, 65, 88, 82, 69, 80, 69, 65, 84, 4, 264, 0, 4294967295, 6, 267, 9, 77, 65, 88, 71, 82, 79, 85, 80, 83, 4, 266, 0, 1073741823, 6, 269, 9, 99, 111, 112, 121, 114, 105, 103, 104, 116, 6, 268, 53, 32, 83, 82, 69, 32, 50, 46, 50, 46, 50, 32, 67, 111, 112, 121, 114, 105, 103, 104, 116, 32, 40, 99, 41, 32, 49, 57, 57, 55, 45, 50, 48, 48, 50, 32, 98, 121, 32, 83, 101, 99, 114, 101, 116, 32, 76, 97, 98, 115, 32, 65, 66, 32]⟩ : Str) 0, .bool true, .bool false, .str (Str.ofString "_sre") 271].toArray 0, [].toArray⟩
noncomputable def o_28 (P : Params) : Obj := ⟨.type "tuple", none, .seq [].toArray 0, [].toArray⟩
noncomputable def o_29 (P : Params) : Obj := ⟨.none, none, .fields [.int (2) 0, .int (0) 0, .ref 37, .int (5) 0, .int (0) 0, .ref 44, .int (12) 0, .int (23) 0, .ref 72, .int (25) 0, .int (0) 0, .ref 116, .int (27) 0, .int (0) 0, .ref 129, .int (34) 0, .int (0) 0, .ref 136, .int (46) 0, .int (0) 0, .ref 144, .int (69) 0, .int (0) 0, .ref 151, .int (71) 0, .int (0) 0, .ref 158, .int (80) 0, .int (0) 0, .ref 165, .int (99) 0, .int (0) 0, .ref 172, .int (129) 0, .int (0) 0, .ref 179, .int (141) 0, .int (0) 0, .ref 186, .int (147) 0, .int (0) 0, .ref 203, .int (150) 0, .int (0) 0, .ref 210, .int (155) 0, .int (0) 0, .ref 215, .int (159) 0, .int (0) 0, .ref 222, .int (168) 0, .int (0) 0, .ref 229, .int (171) 0, .int (0) 0, .ref 236, .int (196) 0, .int (0) 0, .ref 243, .int (201) 0, .int (0) 0, .ref 248, .int (212) 0, .int (0) 0, .ref 253].toArray, [].toArray⟩
noncomputable def o_30 (P : Params) : Obj := ⟨.type "code", none, .fields [.str (Str.ofString "<module>") 277, .str (Str.ofString "<module>") 278, .str (Str.ofString "/claim/cut.py") 279, .int (1) 0, .int (0) 0, .int (0) 0, .int (0) 0, .int (0) 0, .ref 28, .bool false, .int (276) 0, .ref 29, .none, .none, .none, .none, .int (280) 0, .int (1) 0, .str (Str.ofString "/claim/cut.py") 281].toArray, [].toArray⟩
noncomputable def o_31 (P : Params) : Obj := ⟨.type "frame", none, .plain, [(some (.ref 30)), (some (.ref 3)), (some (.ref 3)), none, (some (.str (Str.ofString "__main__") 164)), none, (some (.ref 0))].toArray⟩
noncomputable def o_32 (P : Params) : Obj := ⟨.type "tuple", none, .seq [].toArray 0, [].toArray⟩
noncomputable def o_33 (P : Params) : Obj := ⟨.none, none, .fields [].toArray, [].toArray⟩
noncomputable def o_34 (P : Params) : Obj := ⟨.type "tuple", none, .seq [.str (Str.ofString "k") 285].toArray 0, [].toArray⟩
noncomputable def o_35 (P : Params) : Obj := ⟨.type "tuple", none, .seq [].toArray 0, [].toArray⟩
noncomputable def o_36 (P : Params) : Obj := ⟨.none, none, .func { name := (Str.ofString "_wall"), qualname := (Str.ofString "_wall"), params := fP (st 1), body := .stmts (fB (st 1)), scope := fS (st 1), globals := 0, closure := [], defaults := .none, kwdefaults := .none, doc := .none, pyModule := .none, annotations := none, code := .none, closureTuple := .none, builtins := 0 }, [].toArray⟩
noncomputable def o_37 (P : Params) : Obj := ⟨.type "code", none, .fields [.str (Str.ofString "_wall") 282, .str (Str.ofString "_wall") 283, .str (Str.ofString "/claim/cut.py") 284, .int (2) 0, .int (1) 0, .int (0) 0, .int (0) 0, .int (3) 0, .ref 32, .bool true, .int (276) 0, .ref 33, .none, .ref 34, .ref 35, .ref 36, .int (286) 0, .int (2) 0, .str (Str.ofString "/claim/cut.py") 287].toArray, [].toArray⟩
noncomputable def o_38 (P : Params) : Obj := ⟨.type "function", none, .func { name := (Str.ofString "_wall"), qualname := (Str.ofString "_wall"), params := fP (st 1), body := .stmts (fB (st 1)), scope := fS (st 1), globals := 3, closure := [], defaults := .none, kwdefaults := .none, doc := .none, pyModule := .str (Str.ofString "__main__") 164, annotations := none, code := .ref 37, closureTuple := .none, builtins := 0 }, [].toArray⟩
noncomputable def o_39 (P : Params) : Obj := ⟨.type "tuple", none, .seq [].toArray 0, [].toArray⟩
noncomputable def o_40 (P : Params) : Obj := ⟨.type "builtin_function_or_method", none, .fields [.builtin "type.__prepare__", .type "type"].toArray, [].toArray⟩
noncomputable def o_41 (P : Params) : Obj := ⟨.type "dict", none, .dict [⟨PyData.keyHash P (Str.ofString "__module__"), .str (Str.ofString "__module__") 296, .str (Str.ofString "__main__") 164⟩, ⟨PyData.keyHash P (Str.ofString "__qualname__"), .str (Str.ofString "__qualname__") 298, .str (Str.ofString "_WallAttr") 297⟩, ⟨PyData.keyHash P (Str.ofString "__firstlineno__"), .str (Str.ofString "__firstlineno__") 300, .int (5) 299⟩, ⟨PyData.keyHash P (Str.ofString "__init__"), .str (Str.ofString "__init__") 308, .ref 52⟩, ⟨PyData.keyHash P (Str.ofString "__get__"), .str (Str.ofString "__get__") 317, .ref 60⟩, ⟨PyData.keyHash P (Str.ofString "__set__"), .str (Str.ofString "__set__") 318, .ref 60⟩, ⟨PyData.keyHash P (Str.ofString "__delete__"), .str (Str.ofString "__delete__") 319, .ref 60⟩, ⟨PyData.keyHash P (Str.ofString "__static_attributes__"), .str (Str.ofString "__static_attributes__") 321, .ref 61⟩].toArray 8, [].toArray⟩
noncomputable def o_42 (P : Params) : Obj := ⟨.type "tuple", none, .seq [].toArray 0, [].toArray⟩
noncomputable def o_43 (P : Params) : Obj := ⟨.none, none, .fields [.int (6) 0, .int (4) 0, .ref 51, .int (8) 0, .int (4) 0, .ref 59].toArray, [].toArray⟩
noncomputable def o_44 (P : Params) : Obj := ⟨.type "code", none, .fields [.str (Str.ofString "_WallAttr") 291, .str (Str.ofString "_WallAttr") 292, .str (Str.ofString "/claim/cut.py") 293, .int (5) 0, .int (0) 0, .int (0) 0, .int (0) 0, .int (0) 0, .ref 42, .bool false, .int (276) 0, .ref 43, .none, .none, .none, .none, .int (294) 0, .int (5) 0, .str (Str.ofString "/claim/cut.py") 295].toArray, [].toArray⟩
noncomputable def o_45 (P : Params) : Obj := ⟨.type "frame", none, .plain, [(some (.ref 44)), (some (.ref 3)), (some (.ref 41)), none, (some (.str (Str.ofString "__main__") 164)), none, (some (.ref 0))].toArray⟩
noncomputable def o_46 (P : Params) : Obj := ⟨.type "tuple", none, .seq [].toArray 0, [].toArray⟩
noncomputable def o_47 (P : Params) : Obj := ⟨.none, none, .fields [].toArray, [].toArray⟩
noncomputable def o_48 (P : Params) : Obj := ⟨.type "tuple", none, .seq [.str (Str.ofString "self") 304, .str (Str.ofString "k") 305].toArray 0, [].toArray⟩
noncomputable def o_49 (P : Params) : Obj := ⟨.type "tuple", none, .seq [].toArray 0, [].toArray⟩
noncomputable def o_50 (P : Params) : Obj := ⟨.none, none, .func { name := (Str.ofString "__init__"), qualname := (Str.ofString "_WallAttr.__init__"), params := fP (cst 2 0), body := .stmts (fB (cst 2 0)), scope := fS (cst 2 0), globals := 0, closure := [], defaults := .none, kwdefaults := .none, doc := .none, pyModule := .none, annotations := none, code := .none, closureTuple := .none, builtins := 0 }, [].toArray⟩
noncomputable def o_51 (P : Params) : Obj := ⟨.type "code", none, .fields [.str (Str.ofString "__init__") 301, .str (Str.ofString "_WallAttr.__init__") 302, .str (Str.ofString "/claim/cut.py") 303, .int (6) 0, .int (2) 0, .int (0) 0, .int (0) 0, .int (3) 0, .ref 46, .bool true, .int (276) 0, .ref 47, .none, .ref 48, .ref 49, .ref 50, .int (306) 0, .int (6) 0, .str (Str.ofString "/claim/cut.py") 307].toArray, [].toArray⟩
noncomputable def o_52 (P : Params) : Obj := ⟨.type "function", none, .func { name := (Str.ofString "__init__"), qualname := (Str.ofString "_WallAttr.__init__"), params := fP (cst 2 0), body := .stmts (fB (cst 2 0)), scope := fS (cst 2 0), globals := 3, closure := [], defaults := .none, kwdefaults := .none, doc := .none, pyModule := .str (Str.ofString "__main__") 164, annotations := none, code := .ref 51, closureTuple := .none, builtins := 0 }, [].toArray⟩
noncomputable def o_53 (P : Params) : Obj := ⟨.type "tuple", none, .seq [.none].toArray 0, [].toArray⟩
noncomputable def o_54 (P : Params) : Obj := ⟨.type "tuple", none, .seq [].toArray 0, [].toArray⟩
noncomputable def o_55 (P : Params) : Obj := ⟨.none, none, .fields [].toArray, [].toArray⟩
noncomputable def o_56 (P : Params) : Obj := ⟨.type "tuple", none, .seq [.str (Str.ofString "self") 312, .str (Str.ofString "o") 313, .str (Str.ofString "t") 314].toArray 0, [].toArray⟩
noncomputable def o_57 (P : Params) : Obj := ⟨.type "tuple", none, .seq [].toArray 0, [].toArray⟩
noncomputable def o_58 (P : Params) : Obj := ⟨.none, none, .func { name := (Str.ofString "__get__"), qualname := (Str.ofString "_WallAttr.__get__"), params := fP (cst 2 1), body := .stmts (fB (cst 2 1)), scope := fS (cst 2 1), globals := 0, closure := [], defaults := .none, kwdefaults := .none, doc := .none, pyModule := .none, annotations := none, code := .none, closureTuple := .none, builtins := 0 }, [].toArray⟩
noncomputable def o_59 (P : Params) : Obj := ⟨.type "code", none, .fields [.str (Str.ofString "__get__") 309, .str (Str.ofString "_WallAttr.__get__") 310, .str (Str.ofString "/claim/cut.py") 311, .int (8) 0, .int (3) 0, .int (0) 0, .int (0) 0, .int (3) 0, .ref 54, .bool true, .int (276) 0, .ref 55, .none, .ref 56, .ref 57, .ref 58, .int (315) 0, .int (8) 0, .str (Str.ofString "/claim/cut.py") 316].toArray, [].toArray⟩
noncomputable def o_60 (P : Params) : Obj := ⟨.type "function", none, .func { name := (Str.ofString "__get__"), qualname := (Str.ofString "_WallAttr.__get__"), params := fP (cst 2 1), body := .stmts (fB (cst 2 1)), scope := fS (cst 2 1), globals := 3, closure := [], defaults := .ref 53, kwdefaults := .none, doc := .none, pyModule := .str (Str.ofString "__main__") 164, annotations := none, code := .ref 59, closureTuple := .none, builtins := 0 }, [].toArray⟩
noncomputable def o_61 (P : Params) : Obj := ⟨.type "tuple", none, .seq [.str (Str.ofString "k") 320].toArray 0, [].toArray⟩
noncomputable def o_62 (P : Params) : Obj := ⟨.type "dict", none, .dict [⟨PyData.keyHash P (Str.ofString "__module__"), .str (Str.ofString "__module__") 296, .str (Str.ofString "__main__") 164⟩, ⟨PyData.keyHash P (Str.ofString "__firstlineno__"), .str (Str.ofString "__firstlineno__") 300, .int (5) 299⟩, ⟨PyData.keyHash P (Str.ofString "__init__"), .str (Str.ofString "__init__") 308, .ref 52⟩, ⟨PyData.keyHash P (Str.ofString "__get__"), .str (Str.ofString "__get__") 317, .ref 60⟩, ⟨PyData.keyHash P (Str.ofString "__set__"), .str (Str.ofString "__set__") 318, .ref 60⟩, ⟨PyData.keyHash P (Str.ofString "__delete__"), .str (Str.ofString "__delete__") 319, .ref 60⟩, ⟨PyData.keyHash P (Str.ofString "__static_attributes__"), .str (Str.ofString "__static_attributes__") 321, .ref 61⟩, ⟨PyData.keyHash P (Str.ofString "__dict__"), .str (Str.ofString "__dict__") 323, .ref 64⟩, ⟨PyData.keyHash P (Str.ofString "__weakref__"), .str (Str.ofString "__weakref__") 325, .ref 65⟩, ⟨PyData.keyHash P (Str.ofString "__doc__"), .str (Str.ofString "__doc__") 326, .none⟩].toArray 4, [].toArray⟩
noncomputable def o_63 (P : Params) : Obj := ⟨.type "type", none, .cls { name := (Str.ofString "_WallAttr"), bases := [.type "object"], mro := [.ref 63, .type "object"], ns := 62, qualname := (Str.ofString "_WallAttr"), hasDict := true, slotNames := [], subclasses := [], abstract := false, collection := none, hasDel := false }, [none, none, (some (.str (Str.ofString "_WallAttr") 289)), (some (.str (Str.ofString "_WallAttr") 297)), (some (.builtin "object.__new__")), (some (.bool true))].toArray⟩
noncomputable def o_64 (P : Params) : Obj := ⟨.type "getset_descriptor", none, .fields [.str (Str.ofString "__dict__") 322, .ref 63, .builtin "function.__dict__", .builtin "function.__dict__#set"].toArray, [].toArray⟩
noncomputable def o_65 (P : Params) : Obj := ⟨.type "getset_descriptor", none, .fields [.str (Str.ofString "__weakref__") 324, .ref 63, .builtin "ExceptionGroup.__weakref__", .none].toArray, [].toArray⟩
noncomputable def o_66 (P : Params) : Obj := ⟨.type "super", none, .fields [.ref 63, .ref 63, .ref 63].toArray, [].toArray⟩
noncomputable def o_67 (P : Params) : Obj := ⟨.type "builtin_function_or_method", none, .fields [.builtin "object.__init_subclass__", .ref 63].toArray, [].toArray⟩
noncomputable def o_68 (P : Params) : Obj := ⟨.type "range", none, .fields [.int (0) 332, .int (32) 331, .int (1) 333].toArray, [].toArray⟩
noncomputable def o_69 (P : Params) : Obj := ⟨.type "range_iterator", none, .fields [.int (32) 0, .int (0) 0, .int (1) 0].toArray, [].toArray⟩
noncomputable def o_70 (P : Params) : Obj := ⟨.type "tuple", none, .seq [].toArray 0, [].toArray⟩
noncomputable def o_71 (P : Params) : Obj := ⟨.none, none, .fields [].toArray, [].toArray⟩
noncomputable def o_72 (P : Params) : Obj := ⟨.type "code", none, .fields [.str (Str.ofString "<genexpr>") 334, .str (Str.ofString "<genexpr>") 335, .str (Str.ofString "/claim/cut.py") 336, .int (12) 0, .int (1) 0, .int (0) 0, .int (0) 0, .int (35) 0, .ref 70, .bool true, .int (276) 0, .ref 71, .none, .none, .none, .none, .int (337) 0, .int (12) 0, .str (Str.ofString "/claim/cut.py") 338].toArray, [].toArray⟩
noncomputable def o_73 (P : Params) : Obj := ⟨.type "frame", none, .dict [⟨PyData.keyHash P (Str.ofString ".0"), .str (Str.ofString ".0") 339, .ref 69⟩, ⟨PyData.keyHash P (Str.ofString "i"), .str (Str.ofString "i") 343, .int (31) 466⟩].toArray 2, [].toArray⟩
noncomputable def o_74 (P : Params) : Obj := ⟨.type "generator", none, .fields [.int (0) 0, .str (Str.ofString "<genexpr>") 340, .str (Str.ofString "<genexpr>") 341].toArray, [].toArray⟩
noncomputable def o_76 (P : Params) : Obj := ⟨.type "tuple", none, .seq [].toArray 0, [].toArray⟩
noncomputable def o_77 (P : Params) : Obj := ⟨.type "StopIteration", none, .fields [.ref 76, .none, .none, .none, .bool false, .none].toArray, [].toArray⟩
noncomputable def o_78 (P : Params) : Obj := ⟨.type "tuple", none, .seq [].toArray 0, [].toArray⟩
noncomputable def o_79 (P : Params) : Obj := ⟨.type "StopIteration", none, .fields [.ref 78, .none, .none, .none, .bool false, .none].toArray, [].toArray⟩
noncomputable def o_81 (P : Params) : Obj := ⟨.type "str_ascii_iterator", none, .fields [.none, .int (1) 0].toArray, [].toArray⟩
noncomputable def o_82 (P : Params) : Obj := ⟨.type "tuple", none, .seq [].toArray 0, [].toArray⟩
noncomputable def o_83 (P : Params) : Obj := ⟨.type "StopIteration", none, .fields [.ref 82, .none, .none, .none, .bool false, .none].toArray, [].toArray⟩
noncomputable def o_86 (P : Params) : Obj := ⟨.type "str_ascii_iterator", none, .fields [.none, .int (1) 0].toArray, [].toArray⟩
noncomputable def o_87 (P : Params) : Obj := ⟨.type "tuple", none, .seq [].toArray 0, [].toArray⟩
noncomputable def o_88 (P : Params) : Obj := ⟨.type "StopIteration", none, .fields [.ref 87, .none, .none, .none, .bool false, .none].toArray, [].toArray⟩
noncomputable def o_91 (P : Params) : Obj := ⟨.type "str_ascii_iterator", none, .fields [.none, .int (2) 0].toArray, [].toArray⟩
noncomputable def o_92 (P : Params) : Obj := ⟨.type "tuple", none, .seq [].toArray 0, [].toArray⟩
noncomputable def o_93 (P : Params) : Obj := ⟨.type "StopIteration", none, .fields [.ref 92, .none, .none, .none, .bool false, .none].toArray, [].toArray⟩
noncomputable def o_96 (P : Params) : Obj := ⟨.type "str_ascii_iterator", none, .fields [.none, .int (2) 0].toArray, [].toArray⟩
noncomputable def o_97 (P : Params) : Obj := ⟨.type "tuple", none, .seq [].toArray 0, [].toArray⟩
noncomputable def o_98 (P : Params) : Obj := ⟨.type "StopIteration", none, .fields [.ref 97, .none, .none, .none, .bool false, .none].toArray, [].toArray⟩
noncomputable def o_100 (P : Params) : Obj := ⟨.type "str_ascii_iterator", none, .fields [.none, .int (1) 0].toArray, [].toArray⟩
noncomputable def o_101 (P : Params) : Obj := ⟨.type "tuple", none, .seq [].toArray 0, [].toArray⟩
noncomputable def o_102 (P : Params) : Obj := ⟨.type "StopIteration", none, .fields [.ref 101, .none, .none, .none, .bool false, .none].toArray, [].toArray⟩
noncomputable def o_105 (P : Params) : Obj := ⟨.type "str_ascii_iterator", none, .fields [.none, .int (22) 0].toArray, [].toArray⟩
noncomputable def o_106 (P : Params) : Obj := ⟨.type "tuple", none, .seq [].toArray 0, [].toArray⟩
noncomputable def o_107 (P : Params) : Obj := ⟨.type "StopIteration", none, .fields [.ref 106, .none, .none, .none, .bool false, .none].toArray, [].toArray⟩
noncomputable def o_108 (P : Params) : Obj := ⟨.type "mappingproxy", none, .fields [.ref 62].toArray, [].toArray⟩
noncomputable def o_109 (P : Params) : Obj := ⟨.type "dict", none, .dict [⟨PyData.keyHash P (Str.ofString "\\b"), .str (Str.ofString "\\b") 554, .str (Str.ofString "\x08") 555⟩, ⟨PyData.keyHash P (Str.ofString "\\t"), .str (Str.ofString "\\t") 556, .str (Str.ofString "\t") 557⟩, ⟨PyData.keyHash P (Str.ofString "\\n"), .str (Str.ofString "\\n") 558, .str (Str.ofString "\n") 559⟩, ⟨PyData.keyHash P (Str.ofString "\\f"), .str (Str.ofString "\\f") 560, .str (Str.ofString "\x0c") 561⟩, ⟨PyData.keyHash P (Str.ofString "\\r"), .str (Str.ofString "\\r") 562, .str (Str.ofString "\r") 563⟩, ⟨PyData.keyHash P (Str.ofString "\\\""), .str (Str.ofString "\\\"") 564, .str (Str.ofString "\"") 565⟩, ⟨PyData.keyHash P (Str.ofString "\\\\"), .str (Str.ofString "\\\\") 566, .str (Str.ofString "\\") 567⟩].toArray 7, [].toArray⟩
noncomputable def o_110 (P : Params) : Obj := ⟨.type "mappingproxy", none, .fields [.ref 109].toArray, [].toArray⟩
noncomputable def o_111 (P : Params) : Obj := ⟨.type "tuple", none, .seq [.type "ValueError"].toArray 0, [].toArray⟩
noncomputable def o_112 (P : Params) : Obj := ⟨.type "builtin_function_or_method", none, .fields [.builtin "type.__prepare__", .type "type"].toArray, [].toArray⟩
noncomputable def o_113 (P : Params) : Obj := ⟨.type "dict", none, .dict [⟨PyData.keyHash P (Str.ofString "__module__"), .str (Str.ofString "__module__") 583, .str (Str.ofString "cpy313.tomllib._parser") 552⟩, ⟨PyData.keyHash P (Str.ofString "__qualname__"), .str (Str.ofString "__qualname__") 585, .str (Str.ofString "TOMLDecodeError") 584⟩, ⟨PyData.keyHash P (Str.ofString "__firstlineno__"), .str (Str.ofString "__firstlineno__") 587, .int (25) 586⟩, ⟨PyData.keyHash P (Str.ofString "__static_attributes__"), .str (Str.ofString "__static_attributes__") 588, .ref 118⟩].toArray 4, [].toArray⟩
noncomputable def o_114 (P : Params) : Obj := ⟨.type "tuple", none, .seq [].toArray 0, [].toArray⟩
noncomputable def o_115 (P : Params) : Obj := ⟨.none, none, .fields [].toArray, [].toArray⟩
noncomputable def o_116 (P : Params) : Obj := ⟨.type "code", none, .fields [.str (Str.ofString "TOMLDecodeError") 578, .str (Str.ofString "TOMLDecodeError") 579, .str (Str.ofString "/claim/cut.py") 580, .int (25) 0, .int (0) 0, .int (0) 0, .int (0) 0, .int (0) 0, .ref 114, .bool false, .int (276) 0, .ref 115, .none, .none, .none, .none, .int (581) 0, .int (25) 0, .str (Str.ofString "/claim/cut.py") 582].toArray, [].toArray⟩
noncomputable def o_117 (P : Params) : Obj := ⟨.type "frame", none, .plain, [(some (.ref 116)), (some (.ref 3)), (some (.ref 113)), none, (some (.str (Str.ofString "cpy313.tomllib._parser") 552)), none, (some (.ref 0))].toArray⟩
noncomputable def o_118 (P : Params) : Obj := ⟨.type "tuple", none, .seq [].toArray 0, [].toArray⟩
noncomputable def o_119 (P : Params) : Obj := ⟨.type "dict", none, .dict [⟨PyData.keyHash P (Str.ofString "__module__"), .str (Str.ofString "__module__") 583, .str (Str.ofString "cpy313.tomllib._parser") 552⟩, ⟨PyData.keyHash P (Str.ofString "__firstlineno__"), .str (Str.ofString "__firstlineno__") 587, .int (25) 586⟩, ⟨PyData.keyHash P (Str.ofString "__static_attributes__"), .str (Str.ofString "__static_attributes__") 588, .ref 118⟩, ⟨PyData.keyHash P (Str.ofString "__weakref__"), .str (Str.ofString "__weakref__") 590, .ref 121⟩, ⟨PyData.keyHash P (Str.ofString "__doc__"), .str (Str.ofString "__doc__") 591, .none⟩].toArray 3, [].toArray⟩
noncomputable def o_120 (P : Params) : Obj := ⟨.type "type", none, .cls { name := (Str.ofString "TOMLDecodeError"), bases := [.type "ValueError"], mro := [.ref 120, .type "ValueError", .type "Exception", .type "BaseException", .type "object"], ns := 119, qualname := (Str.ofString "TOMLDecodeError"), hasDict := true, slotNames := [], subclasses := [], abstract := false, collection := none, hasDel := false }, [(some (.ref 111)), none, (some (.str (Str.ofString "TOMLDecodeError") 576)), (some (.str (Str.ofString "TOMLDecodeError") 584)), (some (.builtin "ValueError.__new__")), (some (.bool true))].toArray⟩
noncomputable def o_121 (P : Params) : Obj := ⟨.type "getset_descriptor", none, .fields [.str (Str.ofString "__weakref__") 589, .ref 120, .builtin "ExceptionGroup.__weakref__", .none].toArray, [].toArray⟩
noncomputable def o_122 (P : Params) : Obj := ⟨.type "super", none, .fields [.ref 120, .ref 120, .ref 120].toArray, [].toArray⟩
noncomputable def o_123 (P : Params) : Obj := ⟨.type "builtin_function_or_method", none, .fields [.builtin "object.__init_subclass__", .ref 120].toArray, [].toArray⟩
noncomputable def o_124 (P : Params) : Obj := ⟨.type "tuple", none, .seq [].toArray 0, [].toArray⟩
noncomputable def o_125 (P : Params) : Obj := ⟨.none, none, .fields [].toArray, [].toArray⟩
noncomputable def o_126 (P : Params) : Obj := ⟨.type "tuple", none, .seq [.str (Str.ofString "src") 597, .str (Str.ofString "pos") 598, .str (Str.ofString "chars") 599].toArray 0, [].toArray⟩
noncomputable def o_127 (P : Params) : Obj := ⟨.type "tuple", none, .seq [].toArray 0, [].toArray⟩
noncomputable def o_128 (P : Params) : Obj := ⟨.none, none, .func { name := (Str.ofString "skip_chars"), qualname := (Str.ofString "skip_chars"), params := fP (st 18), body := .stmts (fB (st 18)), scope := fS (st 18), globals := 0, closure := [], defaults := .none, kwdefaults := .none, doc := .none, pyModule := .none, annotations := none, code := .none, closureTuple := .none, builtins := 0 }, [].toArray⟩
noncomputable def o_129 (P : Params) : Obj := ⟨.type "code", none, .fields [.str (Str.ofString "skip_chars") 594, .str (Str.ofString "skip_chars") 595, .str (Str.ofString "/claim/cut.py") 596, .int (27) 0, .int (3) 0, .int (0) 0, .int (0) 0, .int (3) 0, .ref 124, .bool true, .int (276) 0, .ref 125, .none, .ref 126, .ref 127, .ref 128, .int (600) 0, .int (27) 0, .str (Str.ofString "/claim/cut.py") 601].toArray, [].toArray⟩
noncomputable def o_130 (P : Params) : Obj := ⟨.type "function", none, .func { name := (Str.ofString "skip_chars"), qualname := (Str.ofString "skip_chars"), params := fP (st 18), body := .stmts (fB (st 18)), scope := fS (st 18), globals := 3, closure := [], defaults := .none, kwdefaults := .none, doc := .none, pyModule := .str (Str.ofString "cpy313.tomllib._parser") 552, annotations := none, code := .ref 129, closureTuple := .none, builtins := 0 }, [].toArray⟩
noncomputable def o_131 (P : Params) : Obj := ⟨.type "tuple", none, .seq [].toArray 0, [].toArray⟩
noncomputable def o_132 (P : Params) : Obj := ⟨.none, none, .fields [].toArray, [].toArray⟩
noncomputable def o_133 (P : Params) : Obj := ⟨.type "tuple", none, .seq [.str (Str.ofString "src") 606, .str (Str.ofString "pos") 607, .str (Str.ofString "expect") 608, .str (Str.ofString "error_on") 609, .str (Str.ofString "error_on_eof") 610, .str (Str.ofString "new_pos") 611].toArray 0, [].toArray⟩
noncomputable def o_134 (P : Params) : Obj := ⟨.type "tuple", none, .seq [].toArray 0, [].toArray⟩
noncomputable def o_135 (P : Params) : Obj := ⟨.none, none, .func { name := (Str.ofString "skip_until"), qualname := (Str.ofString "skip_until"), params := fP (st 19), body := .stmts (fB (st 19)), scope := fS (st 19), globals := 0, closure := [], defaults := .none, kwdefaults := .none, doc := .none, pyModule := .none, annotations := none, code := .none, closureTuple := .none, builtins := 0 }, [].toArray⟩
noncomputable def o_136 (P : Params) : Obj := ⟨.type "code", none, .fields [.str (Str.ofString "skip_until") 603, .str (Str.ofString "skip_until") 604, .str (Str.ofString "/claim/cut.py") 605, .int (34) 0, .int (3) 0, .int (0) 0, .int (2) 0, .int (3) 0, .ref 131, .bool true, .int (276) 0, .ref 132, .none, .ref 133, .ref 134, .ref 135, .int (612) 0, .int (34) 0, .str (Str.ofString "/claim/cut.py") 613].toArray, [].toArray⟩
noncomputable def o_137 (P : Params) : Obj := ⟨.type "function", none, .func { name := (Str.ofString "skip_until"), qualname := (Str.ofString "skip_until"), params := fP (st 19), body := .stmts (fB (st 19)), scope := fS (st 19), globals := 3, closure := [], defaults := .none, kwdefaults := .none, doc := .none, pyModule := .str (Str.ofString "cpy313.tomllib._parser") 552, annotations := none, code := .ref 136, closureTuple := .none, builtins := 0 }, [].toArray⟩
noncomputable def o_138 (P : Params) : Obj := ⟨.type "dict", none, .dict [⟨PyData.keyHash P (Str.ofString "multiline"), .str (Str.ofString "multiline") 615, .bool false⟩].toArray 1, [].toArray⟩
noncomputable def o_139 (P : Params) : Obj := ⟨.type "tuple", none, .seq [].toArray 0, [].toArray⟩
noncomputable def o_140 (P : Params) : Obj := ⟨.none, none, .fields [].toArray, [].toArray⟩
noncomputable def o_141 (P : Params) : Obj := ⟨.type "tuple", none, .seq [.str (Str.ofString "src") 619, .str (Str.ofString "pos") 620, .str (Str.ofString "multiline") 621, .str (Str.ofString "escape_id") 622, .str (Str.ofString "char") 623].toArray 0, [].toArray⟩
noncomputable def o_142 (P : Params) : Obj := ⟨.type "tuple", none, .seq [].toArray 0, [].toArray⟩
noncomputable def o_143 (P : Params) : Obj := ⟨.none, none, .func { name := (Str.ofString "parse_basic_str_escape"), qualname := (Str.ofString "parse_basic_str_escape"), params := fP (st 20), body := .stmts (fB (st 20)), scope := fS (st 20), globals := 0, closure := [], defaults := .none, kwdefaults := .none, doc := .none, pyModule := .none, annotations := none, code := .none, closureTuple := .none, builtins := 0 }, [].toArray⟩
noncomputable def o_144 (P : Params) : Obj := ⟨.type "code", none, .fields [.str (Str.ofString "parse_basic_str_escape") 616, .str (Str.ofString "parse_basic_str_escape") 617, .str (Str.ofString "/claim/cut.py") 618, .int (46) 0, .int (2) 0, .int (0) 0, .int (1) 0, .int (3) 0, .ref 139, .bool true, .int (276) 0, .ref 140, .none, .ref 141, .ref 142, .ref 143, .int (624) 0, .int (46) 0, .str (Str.ofString "/claim/cut.py") 625].toArray, [].toArray⟩
noncomputable def o_145 (P : Params) : Obj := ⟨.type "function", none, .func { name := (Str.ofString "parse_basic_str_escape"), qualname := (Str.ofString "parse_basic_str_escape"), params := fP (st 20), body := .stmts (fB (st 20)), scope := fS (st 20), globals := 3, closure := [], defaults := .none, kwdefaults := .ref 138, doc := .none, pyModule := .str (Str.ofString "cpy313.tomllib._parser") 552, annotations := none, code := .ref 144, closureTuple := .none, builtins := 0 }, [].toArray⟩
noncomputable def o_146 (P : Params) : Obj := ⟨.type "tuple", none, .seq [].toArray 0, [].toArray⟩
noncomputable def o_147 (P : Params) : Obj := ⟨.none, none, .fields [].toArray, [].toArray⟩
noncomputable def o_148 (P : Params) : Obj := ⟨.type "tuple", none, .seq [.str (Str.ofString "src") 630, .str (Str.ofString "pos") 631].toArray 0, [].toArray⟩
noncomputable def o_149 (P : Params) : Obj := ⟨.type "tuple", none, .seq [].toArray 0, [].toArray⟩
noncomputable def o_150 (P : Params) : Obj := ⟨.none, none, .func { name := (Str.ofString "parse_basic_str_escape_multiline"), qualname := (Str.ofString "parse_basic_str_escape_multiline"), params := fP (st 21), body := .stmts (fB (st 21)), scope := fS (st 21), globals := 0, closure := [], defaults := .none, kwdefaults := .none, doc := .none, pyModule := .none, annotations := none, code := .none, closureTuple := .none, builtins := 0 }, [].toArray⟩
noncomputable def o_151 (P : Params) : Obj := ⟨.type "code", none, .fields [.str (Str.ofString "parse_basic_str_escape_multiline") 627, .str (Str.ofString "parse_basic_str_escape_multiline") 628, .str (Str.ofString "/claim/cut.py") 629, .int (69) 0, .int (2) 0, .int (0) 0, .int (0) 0, .int (3) 0, .ref 146, .bool true, .int (276) 0, .ref 147, .none, .ref 148, .ref 149, .ref 150, .int (632) 0, .int (69) 0, .str (Str.ofString "/claim/cut.py") 633].toArray, [].toArray⟩
noncomputable def o_152 (P : Params) : Obj := ⟨.type "function", none, .func { name := (Str.ofString "parse_basic_str_escape_multiline"), qualname := (Str.ofString "parse_basic_str_escape_multiline"), params := fP (st 21), body := .stmts (fB (st 21)), scope := fS (st 21), globals := 3, closure := [], defaults := .none, kwdefaults := .none, doc := .none, pyModule := .str (Str.ofString "cpy313.tomllib._parser") 552, annotations := none, code := .ref 151, closureTuple := .none, builtins := 0 }, [].toArray⟩
noncomputable def o_153 (P : Params) : Obj := ⟨.type "tuple", none, .seq [].toArray 0, [].toArray⟩
noncomputable def o_154 (P : Params) : Obj := ⟨.none, none, .fields [].toArray, [].toArray⟩
noncomputable def o_155 (P : Params) : Obj := ⟨.type "tuple", none, .seq [.str (Str.ofString "src") 638, .str (Str.ofString "pos") 639, .str (Str.ofString "hex_len") 640, .str (Str.ofString "hex_str") 641, .str (Str.ofString "hex_int") 642].toArray 0, [].toArray⟩
noncomputable def o_156 (P : Params) : Obj := ⟨.type "tuple", none, .seq [].toArray 0, [].toArray⟩
noncomputable def o_157 (P : Params) : Obj := ⟨.none, none, .func { name := (Str.ofString "parse_hex_char"), qualname := (Str.ofString "parse_hex_char"), params := fP (st 22), body := .stmts (fB (st 22)), scope := fS (st 22), globals := 0, closure := [], defaults := .none, kwdefaults := .none, doc := .none, pyModule := .none, annotations := none, code := .none, closureTuple := .none, builtins := 0 }, [].toArray⟩
noncomputable def o_158 (P : Params) : Obj := ⟨.type "code", none, .fields [.str (Str.ofString "parse_hex_char") 635, .str (Str.ofString "parse_hex_char") 636, .str (Str.ofString "/claim/cut.py") 637, .int (71) 0, .int (3) 0, .int (0) 0, .int (0) 0, .int (3) 0, .ref 153, .bool true, .int (276) 0, .ref 154, .none, .ref 155, .ref 156, .ref 157, .int (643) 0, .int (71) 0, .str (Str.ofString "/claim/cut.py") 644].toArray, [].toArray⟩
noncomputable def o_159 (P : Params) : Obj := ⟨.type "function", none, .func { name := (Str.ofString "parse_hex_char"), qualname := (Str.ofString "parse_hex_char"), params := fP (st 22), body := .stmts (fB (st 22)), scope := fS (st 22), globals := 3, closure := [], defaults := .none, kwdefaults := .none, doc := .none, pyModule := .str (Str.ofString "cpy313.tomllib._parser") 552, annotations := none, code := .ref 158, closureTuple := .none, builtins := 0 }, [].toArray⟩
noncomputable def o_160 (P : Params) : Obj := ⟨.type "tuple", none, .seq [].toArray 0, [].toArray⟩
noncomputable def o_161 (P : Params) : Obj := ⟨.none, none, .fields [].toArray, [].toArray⟩
noncomputable def o_162 (P : Params) : Obj := ⟨.type "tuple", none, .seq [.str (Str.ofString "src") 649, .str (Str.ofString "pos") 650, .str (Str.ofString "literal") 651, .str (Str.ofString "delim") 652, .str (Str.ofString "end_pos") 653, .str (Str.ofString "result") 654].toArray 0, [].toArray⟩
noncomputable def o_163 (P : Params) : Obj := ⟨.type "tuple", none, .seq [].toArray 0, [].toArray⟩
noncomputable def o_164 (P : Params) : Obj := ⟨.none, none, .func { name := (Str.ofString "parse_multiline_str"), qualname := (Str.ofString "parse_multiline_str"), params := fP (st 23), body := .stmts (fB (st 23)), scope := fS (st 23), globals := 0, closure := [], defaults := .none, kwdefaults := .none, doc := .none, pyModule := .none, annotations := none, code := .none, closureTuple := .none, builtins := 0 }, [].toArray⟩
noncomputable def o_165 (P : Params) : Obj := ⟨.type "code", none, .fields [.str (Str.ofString "parse_multiline_str") 646, .str (Str.ofString "parse_multiline_str") 647, .str (Str.ofString "/claim/cut.py") 648, .int (80) 0, .int (2) 0, .int (0) 0, .int (1) 0, .int (3) 0, .ref 160, .bool true, .int (276) 0, .ref 161, .none, .ref 162, .ref 163, .ref 164, .int (655) 0, .int (80) 0, .str (Str.ofString "/claim/cut.py") 656].toArray, [].toArray⟩
noncomputable def o_166 (P : Params) : Obj := ⟨.type "function", none, .func { name := (Str.ofString "parse_multiline_str"), qualname := (Str.ofString "parse_multiline_str"), params := fP (st 23), body := .stmts (fB (st 23)), scope := fS (st 23), globals := 3, closure := [], defaults := .none, kwdefaults := .none, doc := .none, pyModule := .str (Str.ofString "cpy313.tomllib._parser") 552, annotations := none, code := .ref 165, closureTuple := .none, builtins := 0 }, [].toArray⟩
noncomputable def o_167 (P : Params) : Obj := ⟨.type "tuple", none, .seq [].toArray 0, [].toArray⟩
noncomputable def o_168 (P : Params) : Obj := ⟨.none, none, .fields [].toArray, [].toArray⟩
noncomputable def o_169 (P : Params) : Obj := ⟨.type "tuple", none, .seq [.str (Str.ofString "src") 661, .str (Str.ofString "pos") 662, .str (Str.ofString "multiline") 663, .str (Str.ofString "error_on") 664, .str (Str.ofString "parse_escapes") 665, .str (Str.ofString "result") 666, .str (Str.ofString "start_pos") 667, .str (Str.ofString "char") 668, .str (Str.ofString "parsed_escape") 669].toArray 0, [].toArray⟩
noncomputable def o_170 (P : Params) : Obj := ⟨.type "tuple", none, .seq [].toArray 0, [].toArray⟩
noncomputable def o_171 (P : Params) : Obj := ⟨.none, none, .func { name := (Str.ofString "parse_basic_str"), qualname := (Str.ofString "parse_basic_str"), params := fP (st 24), body := .stmts (fB (st 24)), scope := fS (st 24), globals := 0, closure := [], defaults := .none, kwdefaults := .none, doc := .none, pyModule := .none, annotations := none, code := .none, closureTuple := .none, builtins := 0 }, [].toArray⟩
noncomputable def o_172 (P : Params) : Obj := ⟨.type "code", none, .fields [.str (Str.ofString "parse_basic_str") 658, .str (Str.ofString "parse_basic_str") 659, .str (Str.ofString "/claim/cut.py") 660, .int (99) 0, .int (2) 0, .int (0) 0, .int (1) 0, .int (3) 0, .ref 167, .bool true, .int (276) 0, .ref 168, .none, .ref 169, .ref 170, .ref 171, .int (670) 0, .int (99) 0, .str (Str.ofString "/claim/cut.py") 671].toArray, [].toArray⟩
noncomputable def o_173 (P : Params) : Obj := ⟨.type "function", none, .func { name := (Str.ofString "parse_basic_str"), qualname := (Str.ofString "parse_basic_str"), params := fP (st 24), body := .stmts (fB (st 24)), scope := fS (st 24), globals := 3, closure := [], defaults := .none, kwdefaults := .none, doc := .none, pyModule := .str (Str.ofString "cpy313.tomllib._parser") 552, annotations := none, code := .ref 172, closureTuple := .none, builtins := 0 }, [].toArray⟩
noncomputable def o_174 (P : Params) : Obj := ⟨.type "tuple", none, .seq [].toArray 0, [].toArray⟩
noncomputable def o_175 (P : Params) : Obj := ⟨.none, none, .fields [].toArray, [].toArray⟩
noncomputable def o_176 (P : Params) : Obj := ⟨.type "tuple", none, .seq [.str (Str.ofString "src") 676, .str (Str.ofString "pos") 677, .str (Str.ofString "msg") 678, .str (Str.ofString "coord_repr") 679].toArray 0, [].toArray⟩
noncomputable def o_177 (P : Params) : Obj := ⟨.type "tuple", none, .seq [].toArray 0, [].toArray⟩
noncomputable def o_178 (P : Params) : Obj := ⟨.none, none, .func { name := (Str.ofString "suffixed_err"), qualname := (Str.ofString "suffixed_err"), params := fP (st 25), body := .stmts (fB (st 25)), scope := fS (st 25), globals := 0, closure := [], defaults := .none, kwdefaults := .none, doc := .none, pyModule := .none, annotations := none, code := .none, closureTuple := .none, builtins := 0 }, [].toArray⟩
noncomputable def o_179 (P : Params) : Obj := ⟨.type "code", none, .fields [.str (Str.ofString "suffixed_err") 673, .str (Str.ofString "suffixed_err") 674, .str (Str.ofString "/claim/cut.py") 675, .int (129) 0, .int (3) 0, .int (0) 0, .int (0) 0, .int (3) 0, .ref 174, .bool true, .int (276) 0, .ref 175, .none, .ref 176, .ref 177, .ref 178, .int (680) 0, .int (129) 0, .str (Str.ofString "/claim/cut.py") 681].toArray, [].toArray⟩
noncomputable def o_180 (P : Params) : Obj := ⟨.type "function", none, .func { name := (Str.ofString "suffixed_err"), qualname := (Str.ofString "suffixed_err"), params := fP (st 25), body := .stmts (fB (st 25)), scope := fS (st 25), globals := 3, closure := [], defaults := .none, kwdefaults := .none, doc := .none, pyModule := .str (Str.ofString "cpy313.tomllib._parser") 552, annotations := none, code := .ref 179, closureTuple := .none, builtins := 0 }, [].toArray⟩
noncomputable def o_181 (P : Params) : Obj := ⟨.type "tuple", none, .seq [].toArray 0, [].toArray⟩
noncomputable def o_182 (P : Params) : Obj := ⟨.none, none, .fields [].toArray, [].toArray⟩
noncomputable def o_183 (P : Params) : Obj := ⟨.type "tuple", none, .seq [.str (Str.ofString "codepoint") 686].toArray 0, [].toArray⟩
noncomputable def o_184 (P : Params) : Obj := ⟨.type "tuple", none, .seq [].toArray 0, [].toArray⟩
noncomputable def o_185 (P : Params) : Obj := ⟨.none, none, .func { name := (Str.ofString "is_unicode_scalar_value"), qualname := (Str.ofString "is_unicode_scalar_value"), params := fP (st 26), body := .stmts (fB (st 26)), scope := fS (st 26), globals := 0, closure := [], defaults := .none, kwdefaults := .none, doc := .none, pyModule := .none, annotations := none, code := .none, closureTuple := .none, builtins := 0 }, [].toArray⟩
noncomputable def o_186 (P : Params) : Obj := ⟨.type "code", none, .fields [.str (Str.ofString "is_unicode_scalar_value") 683, .str (Str.ofString "is_unicode_scalar_value") 684, .str (Str.ofString "/claim/cut.py") 685, .int (141) 0, .int (1) 0, .int (0) 0, .int (0) 0, .int (3) 0, .ref 181, .bool true, .int (276) 0, .ref 182, .none, .ref 183, .ref 184, .ref 185, .int (687) 0, .int (141) 0, .str (Str.ofString "/claim/cut.py") 688].toArray, [].toArray⟩
noncomputable def o_187 (P : Params) : Obj := ⟨.type "function", none, .func { name := (Str.ofString "is_unicode_scalar_value"), qualname := (Str.ofString "is_unicode_scalar_value"), params := fP (st 26), body := .stmts (fB (st 26)), scope := fS (st 26), globals := 3, closure := [], defaults := .none, kwdefaults := .none, doc := .none, pyModule := .str (Str.ofString "cpy313.tomllib._parser") 552, annotations := none, code := .ref 186, closureTuple := .none, builtins := 0 }, [].toArray⟩
noncomputable def o_188 (P : Params) : Obj := ⟨.type "list", none, .seq [.int (14) 695, .int (4) 696, .int (0) 697, .int (1) 698, .int (1) 699, .int (6) 700, .int (1) 701, .int (16) 702, .int (46) 703, .int (1) 704].toArray 0, [].toArray⟩
noncomputable def o_189 (P : Params) : Obj := ⟨.type "dict", none, .dict [].toArray 0, [].toArray⟩
noncomputable def o_190 (P : Params) : Obj := ⟨.type "tuple", none, .seq [.none].toArray 0, [].toArray⟩
noncomputable def o_191 (P : Params) : Obj := ⟨.type "tuple", none, .seq [.int (14) 0, .int (4) 0, .int (0) 0, .int (1) 0, .int (1) 0, .int (6) 0, .int (1) 0, .int (16) 0, .int (46) 0, .int (1) 0].toArray 0, [].toArray⟩
noncomputable def o_192 (P : Params) : Obj := ⟨.type "re.Pattern", none, .fields [.str (Str.ofString "(?m)^\\.") 693, .int (40) 706, .int (0) 0, .none, .none, .ref 191, .int (0) 0].toArray, [].toArray⟩
noncomputable def o_193 (P : Params) : Obj := ⟨.type "list", none, .seq [.int (14) 711, .int (9) 712, .int (4) 713, .int (1) 714, .int (2) 715, .int (16) 716, .int (10) 717, .int (16) 718, .int (13) 719, .int (0) 720, .int (7) 721, .int (7) 722, .int (16) 723, .int (13) 724, .int (16) 725, .int (10) 726, .int (15) 727, .int (18) 728, .int (5) 729, .int (16) 730, .int (10) 731, .int (15) 732, .int (13) 733, .int (11) 734, .int (16) 735, .int (13) 736, .int (5) 737, .int (5) 738, .int (0) 739, .int (16) 740, .int (10) 741, .int (1) 742, .int (15) 743, .int (2) 744, .int (0) 745, .int (1) 746].toArray 0, [].toArray⟩
noncomputable def o_194 (P : Params) : Obj := ⟨.type "dict", none, .dict [].toArray 0, [].toArray⟩
noncomputable def o_195 (P : Params) : Obj := ⟨.type "tuple", none, .seq [.none].toArray 0, [].toArray⟩
noncomputable def o_196 (P : Params) : Obj := ⟨.type "tuple", none, .seq [.int (14) 0, .int (9) 0, .int (4) 0, .int (1) 0, .int (2) 0, .int (16) 0, .int (10) 0, .int (16) 0, .int (13) 0, .int (0) 0, .int (7) 0, .int (7) 0, .int (16) 0, .int (13) 0, .int (16) 0, .int (10) 0, .int (15) 0, .int (18) 0, .int (5) 0, .int (16) 0, .int (10) 0, .int (15) 0, .int (13) 0, .int (11) 0, .int (16) 0, .int (13) 0, .int (5) 0, .int (5) 0, .int (0) 0, .int (16) 0, .int (10) 0, .int (1) 0, .int (15) 0, .int (2) 0, .int (0) 0, .int (1) 0].toArray 0, [].toArray⟩
noncomputable def o_197 (P : Params) : Obj := ⟨.type "re.Pattern", none, .fields [.str (Str.ofString "(?:\\r\\n|\\n|\\r(?!\\n))") 709, .int (32) 748, .int (0) 0, .none, .none, .ref 196, .int (0) 0].toArray, [].toArray⟩
noncomputable def o_198 (P : Params) : Obj := ⟨.type "tuple", none, .seq [].toArray 0, [].toArray⟩
noncomputable def o_199 (P : Params) : Obj := ⟨.none, none, .fields [].toArray, [].toArray⟩
noncomputable def o_200 (P : Params) : Obj := ⟨.type "tuple", none, .seq [.str (Str.ofString "data") 755].toArray 0, [].toArray⟩
noncomputable def o_201 (P : Params) : Obj := ⟨.type "tuple", none, .seq [].toArray 0, [].toArray⟩
noncomputable def o_202 (P : Params) : Obj := ⟨.none, none, .func { name := (Str.ofString "quotedata"), qualname := (Str.ofString "quotedata"), params := fP (st 31), body := .stmts (fB (st 31)), scope := fS (st 31), globals := 0, closure := [], defaults := .none, kwdefaults := .none, doc := .none, pyModule := .none, annotations := none, code := .none, closureTuple := .none, builtins := 0 }, [].toArray⟩
noncomputable def o_203 (P : Params) : Obj := ⟨.type "code", none, .fields [.str (Str.ofString "quotedata") 752, .str (Str.ofString "quotedata") 753, .str (Str.ofString "/claim/cut.py") 754, .int (147) 0, .int (1) 0, .int (0) 0, .int (0) 0, .int (3) 0, .ref 198, .bool true, .int (276) 0, .ref 199, .none, .ref 200, .ref 201, .ref 202, .int (756) 0, .int (147) 0, .str (Str.ofString "/claim/cut.py") 757].toArray, [].toArray⟩
noncomputable def o_204 (P : Params) : Obj := ⟨.type "function", none, .func { name := (Str.ofString "quotedata"), qualname := (Str.ofString "quotedata"), params := fP (st 31), body := .stmts (fB (st 31)), scope := fS (st 31), globals := 3, closure := [], defaults := .none, kwdefaults := .none, doc := .none, pyModule := .str (Str.ofString "cpy313.smtplib") 690, annotations := none, code := .ref 203, closureTuple := .none, builtins := 0 }, [].toArray⟩
noncomputable def o_205 (P : Params) : Obj := ⟨.type "tuple", none, .seq [].toArray 0, [].toArray⟩
noncomputable def o_206 (P : Params) : Obj := ⟨.none, none, .fields [].toArray, [].toArray⟩
noncomputable def o_207 (P : Params) : Obj := ⟨.type "tuple", none, .seq [.str (Str.ofString "total") 764, .str (Str.ofString "c") 765].toArray 0, [].toArray⟩
noncomputable def o_208 (P : Params) : Obj := ⟨.type "tuple", none, .seq [].toArray 0, [].toArray⟩
noncomputable def o_209 (P : Params) : Obj := ⟨.none, none, .func { name := (Str.ofString "_law_odd"), qualname := (Str.ofString "_law_odd"), params := fP (st 33), body := .stmts (fB (st 33)), scope := fS (st 33), globals := 0, closure := [], defaults := .none, kwdefaults := .none, doc := .none, pyModule := .none, annotations := none, code := .none, closureTuple := .none, builtins := 0 }, [].toArray⟩
noncomputable def o_210 (P : Params) : Obj := ⟨.type "code", none, .fields [.str (Str.ofString "_law_odd") 761, .str (Str.ofString "_law_odd") 762, .str (Str.ofString "/claim/cut.py") 763, .int (150) 0, .int (1) 0, .int (0) 0, .int (0) 0, .int (3) 0, .ref 205, .bool true, .int (276) 0, .ref 206, .none, .ref 207, .ref 208, .ref 209, .int (766) 0, .int (150) 0, .str (Str.ofString "/claim/cut.py") 767].toArray, [].toArray⟩
noncomputable def o_211 (P : Params) : Obj := ⟨.type "function", none, .func { name := (Str.ofString "_law_odd"), qualname := (Str.ofString "_law_odd"), params := fP (st 33), body := .stmts (fB (st 33)), scope := fS (st 33), globals := 3, closure := [], defaults := .none, kwdefaults := .none, doc := .none, pyModule := .str (Str.ofString "law_ij0172_01") 759, annotations := none, code := .ref 210, closureTuple := .none, builtins := 0 }, [].toArray⟩
noncomputable def o_212 (P : Params) : Obj := ⟨.type "tuple", none, .seq [].toArray 0, [].toArray⟩
noncomputable def o_213 (P : Params) : Obj := ⟨.none, none, .fields [].toArray, [].toArray⟩
noncomputable def o_214 (P : Params) : Obj := ⟨.none, none, .func { name := (Str.ofString "_law_strands"), qualname := (Str.ofString "_law_strands"), params := fP (st 34), body := .stmts (fB (st 34)), scope := fS (st 34), globals := 0, closure := [], defaults := .none, kwdefaults := .none, doc := .none, pyModule := .none, annotations := none, code := .none, closureTuple := .none, builtins := 0 }, [].toArray⟩
noncomputable def o_215 (P : Params) : Obj := ⟨.type "code", none, .fields [.str (Str.ofString "_law_strands") 769, .str (Str.ofString "_law_strands") 770, .str (Str.ofString "/claim/cut.py") 771, .int (155) 0, .int (2) 0, .int (0) 0, .int (0) 0, .int (3) 0, .ref 212, .bool true, .int (276) 0, .ref 213, .none, .none, .none, .ref 214, .int (772) 0, .int (155) 0, .str (Str.ofString "/claim/cut.py") 773].toArray, [].toArray⟩
noncomputable def o_216 (P : Params) : Obj := ⟨.type "function", none, .func { name := (Str.ofString "_law_strands"), qualname := (Str.ofString "_law_strands"), params := fP (st 34), body := .stmts (fB (st 34)), scope := fS (st 34), globals := 3, closure := [], defaults := .none, kwdefaults := .none, doc := .none, pyModule := .str (Str.ofString "law_ij0172_01") 759, annotations := none, code := .ref 215, closureTuple := .none, builtins := 0 }, [].toArray⟩
noncomputable def o_217 (P : Params) : Obj := ⟨.type "tuple", none, .seq [].toArray 0, [].toArray⟩
noncomputable def o_218 (P : Params) : Obj := ⟨.none, none, .fields [].toArray, [].toArray⟩
noncomputable def o_219 (P : Params) : Obj := ⟨.type "tuple", none, .seq [.str (Str.ofString "drawn") 778, .str (Str.ofString "mark") 779, .str (Str.ofString "more") 780, .str (Str.ofString "text") 781, .str (Str.ofString "pair") 782, .str (Str.ofString "strand") 783, .str (Str.ofString "ends") 784].toArray 0, [].toArray⟩
noncomputable def o_220 (P : Params) : Obj := ⟨.type "tuple", none, .seq [].toArray 0, [].toArray⟩
noncomputable def o_221 (P : Params) : Obj := ⟨.none, none, .func { name := (Str.ofString "_law_written"), qualname := (Str.ofString "_law_written"), params := fP (st 35), body := .stmts (fB (st 35)), scope := fS (st 35), globals := 0, closure := [], defaults := .none, kwdefaults := .none, doc := .none, pyModule := .none, annotations := none, code := .none, closureTuple := .none, builtins := 0 }, [].toArray⟩
noncomputable def o_222 (P : Params) : Obj := ⟨.type "code", none, .fields [.str (Str.ofString "_law_written") 775, .str (Str.ofString "_law_written") 776, .str (Str.ofString "/claim/cut.py") 777, .int (159) 0, .int (3) 0, .int (0) 0, .int (0) 0, .int (3) 0, .ref 217, .bool true, .int (276) 0, .ref 218, .none, .ref 219, .ref 220, .ref 221, .int (785) 0, .int (159) 0, .str (Str.ofString "/claim/cut.py") 786].toArray, [].toArray⟩
noncomputable def o_223 (P : Params) : Obj := ⟨.type "function", none, .func { name := (Str.ofString "_law_written"), qualname := (Str.ofString "_law_written"), params := fP (st 35), body := .stmts (fB (st 35)), scope := fS (st 35), globals := 3, closure := [], defaults := .none, kwdefaults := .none, doc := .none, pyModule := .str (Str.ofString "law_ij0172_01") 759, annotations := none, code := .ref 222, closureTuple := .none, builtins := 0 }, [].toArray⟩
noncomputable def o_224 (P : Params) : Obj := ⟨.type "tuple", none, .seq [].toArray 0, [].toArray⟩
noncomputable def o_225 (P : Params) : Obj := ⟨.none, none, .fields [].toArray, [].toArray⟩
noncomputable def o_226 (P : Params) : Obj := ⟨.type "tuple", none, .seq [.str (Str.ofString "what") 791, .str (Str.ofString "laid") 792, .str (Str.ofString "further") 793, .str (Str.ofString "rows") 794].toArray 0, [].toArray⟩
noncomputable def o_227 (P : Params) : Obj := ⟨.type "tuple", none, .seq [].toArray 0, [].toArray⟩
noncomputable def o_228 (P : Params) : Obj := ⟨.none, none, .func { name := (Str.ofString "_law_words"), qualname := (Str.ofString "_law_words"), params := fP (st 36), body := .stmts (fB (st 36)), scope := fS (st 36), globals := 0, closure := [], defaults := .none, kwdefaults := .none, doc := .none, pyModule := .none, annotations := none, code := .none, closureTuple := .none, builtins := 0 }, [].toArray⟩
noncomputable def o_229 (P : Params) : Obj := ⟨.type "code", none, .fields [.str (Str.ofString "_law_words") 788, .str (Str.ofString "_law_words") 789, .str (Str.ofString "/claim/cut.py") 790, .int (168) 0, .int (3) 0, .int (0) 0, .int (0) 0, .int (3) 0, .ref 224, .bool true, .int (276) 0, .ref 225, .none, .ref 226, .ref 227, .ref 228, .int (795) 0, .int (168) 0, .str (Str.ofString "/claim/cut.py") 796].toArray, [].toArray⟩
noncomputable def o_230 (P : Params) : Obj := ⟨.type "function", none, .func { name := (Str.ofString "_law_words"), qualname := (Str.ofString "_law_words"), params := fP (st 36), body := .stmts (fB (st 36)), scope := fS (st 36), globals := 3, closure := [], defaults := .none, kwdefaults := .none, doc := .none, pyModule := .str (Str.ofString "law_ij0172_01") 759, annotations := none, code := .ref 229, closureTuple := .none, builtins := 0 }, [].toArray⟩
noncomputable def o_231 (P : Params) : Obj := ⟨.type "tuple", none, .seq [].toArray 0, [].toArray⟩
noncomputable def o_232 (P : Params) : Obj := ⟨.none, none, .fields [].toArray, [].toArray⟩
noncomputable def o_233 (P : Params) : Obj := ⟨.type "tuple", none, .seq [.str (Str.ofString "drawn") 801, .str (Str.ofString "mark") 802, .str (Str.ofString "more") 803, .str (Str.ofString "dot") 804, .str (Str.ofString "means") 805, .str (Str.ofString "laid") 806, .str (Str.ofString "text") 807, .str (Str.ofString "eaten") 808, .str (Str.ofString "k") 809, .str (Str.ofString "strand") 810, .str (Str.ofString "kind") 811].toArray 0, [].toArray⟩
noncomputable def o_234 (P : Params) : Obj := ⟨.type "tuple", none, .seq [].toArray 0, [].toArray⟩
noncomputable def o_235 (P : Params) : Obj := ⟨.none, none, .func { name := (Str.ofString "_law_due"), qualname := (Str.ofString "_law_due"), params := fP (st 37), body := .stmts (fB (st 37)), scope := fS (st 37), globals := 0, closure := [], defaults := .none, kwdefaults := .none, doc := .none, pyModule := .none, annotations := none, code := .none, closureTuple := .none, builtins := 0 }, [].toArray⟩
noncomputable def o_236 (P : Params) : Obj := ⟨.type "code", none, .fields [.str (Str.ofString "_law_due") 798, .str (Str.ofString "_law_due") 799, .str (Str.ofString "/claim/cut.py") 800, .int (171) 0, .int (4) 0, .int (0) 0, .int (0) 0, .int (3) 0, .ref 231, .bool true, .int (276) 0, .ref 232, .none, .ref 233, .ref 234, .ref 235, .int (812) 0, .int (171) 0, .str (Str.ofString "/claim/cut.py") 813].toArray, [].toArray⟩
noncomputable def o_237 (P : Params) : Obj := ⟨.type "function", none, .func { name := (Str.ofString "_law_due"), qualname := (Str.ofString "_law_due"), params := fP (st 37), body := .stmts (fB (st 37)), scope := fS (st 37), globals := 3, closure := [], defaults := .none, kwdefaults := .none, doc := .none, pyModule := .str (Str.ofString "law_ij0172_01") 759, annotations := none, code := .ref 236, closureTuple := .none, builtins := 0 }, [].toArray⟩
noncomputable def o_238 (P : Params) : Obj := ⟨.type "tuple", none, .seq [].toArray 0, [].toArray⟩
noncomputable def o_239 (P : Params) : Obj := ⟨.none, none, .fields [].toArray, [].toArray⟩
noncomputable def o_240 (P : Params) : Obj := ⟨.type "tuple", none, .seq [.str (Str.ofString "mail") 818, .str (Str.ofString "place") 819, .str (Str.ofString "mark") 820, .str (Str.ofString "fault") 821].toArray 0, [].toArray⟩
noncomputable def o_241 (P : Params) : Obj := ⟨.type "tuple", none, .seq [].toArray 0, [].toArray⟩
noncomputable def o_242 (P : Params) : Obj := ⟨.none, none, .func { name := (Str.ofString "_law_asked"), qualname := (Str.ofString "_law_asked"), params := fP (st 38), body := .stmts (fB (st 38)), scope := fS (st 38), globals := 0, closure := [], defaults := .none, kwdefaults := .none, doc := .none, pyModule := .none, annotations := none, code := .none, closureTuple := .none, builtins := 0 }, [].toArray⟩
noncomputable def o_243 (P : Params) : Obj := ⟨.type "code", none, .fields [.str (Str.ofString "_law_asked") 815, .str (Str.ofString "_law_asked") 816, .str (Str.ofString "/claim/cut.py") 817, .int (196) 0, .int (3) 0, .int (0) 0, .int (0) 0, .int (3) 0, .ref 238, .bool true, .int (276) 0, .ref 239, .none, .ref 240, .ref 241, .ref 242, .int (822) 0, .int (196) 0, .str (Str.ofString "/claim/cut.py") 823].toArray, [].toArray⟩
noncomputable def o_244 (P : Params) : Obj := ⟨.type "function", none, .func { name := (Str.ofString "_law_asked"), qualname := (Str.ofString "_law_asked"), params := fP (st 38), body := .stmts (fB (st 38)), scope := fS (st 38), globals := 3, closure := [], defaults := .none, kwdefaults := .none, doc := .none, pyModule := .str (Str.ofString "law_ij0172_01") 759, annotations := none, code := .ref 243, closureTuple := .none, builtins := 0 }, [].toArray⟩
noncomputable def o_245 (P : Params) : Obj := ⟨.type "tuple", none, .seq [].toArray 0, [].toArray⟩
noncomputable def o_246 (P : Params) : Obj := ⟨.none, none, .fields [].toArray, [].toArray⟩
noncomputable def o_247 (P : Params) : Obj := ⟨.none, none, .func { name := (Str.ofString "_law_held"), qualname := (Str.ofString "_law_held"), params := fP (st 39), body := .stmts (fB (st 39)), scope := fS (st 39), globals := 0, closure := [], defaults := .none, kwdefaults := .none, doc := .none, pyModule := .none, annotations := none, code := .none, closureTuple := .none, builtins := 0 }, [].toArray⟩
noncomputable def o_248 (P : Params) : Obj := ⟨.type "code", none, .fields [.str (Str.ofString "_law_held") 825, .str (Str.ofString "_law_held") 826, .str (Str.ofString "/claim/cut.py") 827, .int (201) 0, .int (2) 0, .int (0) 0, .int (0) 0, .int (3) 0, .ref 245, .bool true, .int (276) 0, .ref 246, .none, .none, .none, .ref 247, .int (828) 0, .int (201) 0, .str (Str.ofString "/claim/cut.py") 829].toArray, [].toArray⟩
noncomputable def o_249 (P : Params) : Obj := ⟨.type "function", none, .func { name := (Str.ofString "_law_held"), qualname := (Str.ofString "_law_held"), params := fP (st 39), body := .stmts (fB (st 39)), scope := fS (st 39), globals := 3, closure := [], defaults := .none, kwdefaults := .none, doc := .none, pyModule := .str (Str.ofString "law_ij0172_01") 759, annotations := none, code := .ref 248, closureTuple := .none, builtins := 0 }, [].toArray⟩
noncomputable def o_250 (P : Params) : Obj := ⟨.type "tuple", none, .seq [].toArray 0, [].toArray⟩
noncomputable def o_251 (P : Params) : Obj := ⟨.none, none, .fields [].toArray, [].toArray⟩
noncomputable def o_252 (P : Params) : Obj := ⟨.none, none, .func { name := (Str.ofString "law"), qualname := (Str.ofString "law"), params := fP (st 40), body := .stmts (fB (st 40)), scope := fS (st 40), globals := 0, closure := [], defaults := .none, kwdefaults := .none, doc := .none, pyModule := .none, annotations := none, code := .none, closureTuple := .none, builtins := 0 }, [].toArray⟩
noncomputable def o_253 (P : Params) : Obj := ⟨.type "code", none, .fields [.str (Str.ofString "law") 831, .str (Str.ofString "law") 832, .str (Str.ofString "/claim/cut.py") 833, .int (212) 0, .int (1) 0, .int (0) 0, .int (0) 0, .int (3) 0, .ref 250, .bool true, .int (276) 0, .ref 251, .none, .none, .none, .ref 252, .int (834) 0, .int (212) 0, .str (Str.ofString "/claim/cut.py") 835].toArray, [].toArray⟩
noncomputable def o_254 (P : Params) : Obj := ⟨.type "function", none, .func { name := (Str.ofString "law"), qualname := (Str.ofString "law"), params := fP (st 40), body := .stmts (fB (st 40)), scope := fS (st 40), globals := 3, closure := [], defaults := .none, kwdefaults := .none, doc := .none, pyModule := .str (Str.ofString "law_ij0172_01") 759, annotations := none, code := .ref 253, closureTuple := .none, builtins := 0 }, [].toArray⟩
noncomputable def hK (P : Params) : Frag := (nat_lit 2, o_2 P) :: (nat_lit 3, o_3 P) :: (nat_lit 109, o_109 P) :: (nat_lit 110, o_110 P) :: (nat_lit 111, o_111 P) :: (nat_lit 118, o_118 P) :: (nat_lit 119, o_119 P) :: (nat_lit 120, o_120 P) :: (nat_lit 121, o_121 P) :: (nat_lit 124, o_124 P) :: (nat_lit 126, o_126 P) :: (nat_lit 127, o_127 P) :: (nat_lit 129, o_129 P) :: (nat_lit 130, o_130 P) :: (nat_lit 131, o_131 P) :: (nat_lit 133, o_133 P) :: (nat_lit 134, o_134 P) :: (nat_lit 136, o_136 P) :: (nat_lit 137, o_137 P) :: (nat_lit 138, o_138 P) :: (nat_lit 139, o_139 P) :: (nat_lit 141, o_141 P) :: (nat_lit 142, o_142 P) :: (nat_lit 144, o_144 P) :: (nat_lit 145, o_145 P) :: (nat_lit 146, o_146 P) :: (nat_lit 148, o_148 P) :: (nat_lit 149, o_149 P) :: (nat_lit 151, o_151 P) :: (nat_lit 152, o_152 P) :: (nat_lit 153, o_153 P) :: (nat_lit 155, o_155 P) :: (nat_lit 156, o_156 P) :: (nat_lit 158, o_158 P) :: (nat_lit 159, o_159 P) :: (nat_lit 160, o_160 P) :: (nat_lit 162, o_162 P) :: (nat_lit 163, o_163 P) :: (nat_lit 165, o_165 P) :: (nat_lit 166, o_166 P) :: (nat_lit 167, o_167 P) :: (nat_lit 169, o_169 P) :: (nat_lit 170, o_170 P) :: (nat_lit 172, o_172 P) :: (nat_lit 173, o_173 P) :: (nat_lit 174, o_174 P) :: (nat_lit 176, o_176 P) :: (nat_lit 177, o_177 P) :: (nat_lit 179, o_179 P) :: (nat_lit 180, o_180 P) :: (nat_lit 181, o_181 P) :: (nat_lit 183, o_183 P) :: (nat_lit 184, o_184 P) :: (nat_lit 186, o_186 P) :: (nat_lit 187, o_187 P) :: (nat_lit 191, o_191 P) :: (nat_lit 192, o_192 P) :: (nat_lit 196, o_196 P) :: (nat_lit 197, o_197 P) :: (nat_lit 198, o_198 P) :: (nat_lit 200, o_200 P) :: (nat_lit 201, o_201 P) :: (nat_lit 203, o_203 P) :: (nat_lit 204, o_204 P) :: (nat_lit 205, o_205 P) :: (nat_lit 207, o_207 P) :: (nat_lit 208, o_208 P) :: (nat_lit 210, o_210 P) :: (nat_lit 211, o_211 P) :: (nat_lit 212, o_212 P) :: (nat_lit 215, o_215 P) :: (nat_lit 216, o_216 P) :: (nat_lit 217, o_217 P) :: (nat_lit 219, o_219 P) :: (nat_lit 220, o_220 P) :: (nat_lit 222, o_222 P) :: (nat_lit 223, o_223 P) :: (nat_lit 224, o_224 P) :: (nat_lit 226, o_226 P) :: (nat_lit 227, o_227 P) :: (nat_lit 229, o_229 P) :: (nat_lit 230, o_230 P) :: (nat_lit 231, o_231 P) :: (nat_lit 233, o_233 P) :: (nat_lit 234, o_234 P) :: (nat_lit 236, o_236 P) :: (nat_lit 237, o_237 P) :: (nat_lit 238, o_238 P) :: (nat_lit 240, o_240 P) :: (nat_lit 241, o_241 P) :: (nat_lit 243, o_243 P) :: (nat_lit 244, o_244 P) :: (nat_lit 245, o_245 P) :: (nat_lit 248, o_248 P) :: (nat_lit 249, o_249 P) :: (nat_lit 250, o_250 P) :: (nat_lit 253, o_253 P) :: (nat_lit 254, o_254 P) :: []
noncomputable def qv : Program := view PySem.Challenge.pw_ij0172_01 [0, 1, 2, 4, 5, 6, 7, 8, 9, 10, 11, 12, 14, 16, 17, 18, 19, 21, 22, 23, 24, 25, 26, 28, 29, 30, 31, 33, 34, 35, 36, 37, 38, 39, 40]
noncomputable def loose : List Str := [Str.ofString "_WallAttr", Str.ofString "ASCII_CTRL", Str.ofString "ILLEGAL_BASIC_STR_CHARS", Str.ofString "ILLEGAL_MULTILINE_BASIC_STR_CHARS", Str.ofString "ILLEGAL_MULTILINE_LITERAL_STR_CHARS", Str.ofString "TOML_WS", Str.ofString "TOML_WS_AND_NEWLINE", Str.ofString "hexdigits", Str.ofString "HEXDIGIT_CHARS", Str.ofString "MappingProxyType", Str.ofString "BASIC_STR_ESCAPE_REPLACEMENTS", Str.ofString "parse_basic_str_escape", Str.ofString "_twin_re_1", Str.ofString "_twin_re_2"]
noncomputable def Fill (_ : OpenLaw) (_ : Params → Frag) : Prop := True
end Mine
end
local macro_rules | `(tactic| walk_at "mine norm") => `(tactic| (
  conv in (occs := *) (Mine.fB _) => all_goals whnf
  conv in (occs := *) (Mine.fS _) => all_goals whnf))
section
open PySem PySem.W PyProof.Rows
set_option Elab.async false
set_option compiler.extract_closed false
set_option linter.unusedVariables false
namespace Mine
noncomputable abbrev PG : Program := PySem.Challenge.pw_ij0172_01
/-- single signs -/
noncomputable def ch (c : Nat) : Str := ⟨#[c]⟩
noncomputable def S94 (k : Str) : Bool := (k.cps.size == 1) && (let c := k.cps.getD 0 0; (c < 32 && c != 9 && c != 10) || c == 127)
noncomputable def S95 (k : Str) : Bool := (k.cps.size == 1) && (let c := k.cps.getD 0 0; c == 32 || c == 9)
noncomputable def S103 (k : Str) : Bool := (k.cps.size == 1) && (let c := k.cps.getD 0 0; c == 32 || c == 9 || c == 10)
noncomputable def S104 (k : Str) : Bool := (k.cps.size == 1) && (let c := k.cps.getD 0 0; (48 ≤ c && c ≤ 57) || (97 ≤ c && c ≤ 102) || (65 ≤ c && c ≤ 70))
structure Sets (w : World) (h : Heap) : Prop where
  s94 : FrozAt (strKind PG w) h 94 S94 31
  s95 : FrozAt (strKind PG w) h 95 S95 2
  s103 : FrozAt (strKind PG w) h 103 S103 3
  s104 : FrozAt (strKind PG w) h 104 S104 22
theorem froz_keeps {w : World} {h h' : Heap} {a n : Nat} {S : Str → Bool} (x : FrozAt (strKind PG w) h a S n) (k : ∀ b o, h.get? b = some o → h'.get? b = some o) : FrozAt (strKind PG w) h' a S n :=
  let ⟨es, ep, t, ho, r⟩ := x; ⟨es, ep, t, k _ _ ho, r⟩
theorem Sets.keeps {w : World} {h h' : Heap} (x : Sets w h) (k : ∀ b o, h.get? b = some o → h'.get? b = some o) : Sets w h' :=
  ⟨froz_keeps x.s94 k, froz_keeps x.s95 k, froz_keeps x.s103 k, froz_keeps x.s104 k⟩

noncomputable abbrev Spec (w : World) (p : Program) (lo : List Str) (mean : ExcName → Option Value) (mg mb : Str → Option Value) (C : ∀ (dp un : Nat) (gd : Option (List Code)) (cn : Str) (cs : Scope) (a : Addr) (ccd : Value) (cl : List (Str × Addr)) (outer : List Env) (h₀ : Heap) (L : Addr) (m : Str → Option Value) (news : List (Addr × Obj)) (s : Shared) (Q E : Value → Shared → Prop), Prop) : Prop :=
  ∀ (dp un : Nat) (gd : Option (List Code)) (cn : Str) (cs : Scope) (a : Addr) (ccd : Value) (cl : List (Str × Addr)) (outer : List Env) (A₀ : Around) (base h₀ : Heap) (L : Addr) (m : Str → Option Value) (news : List (Addr × Obj)) (s : Shared) (Q E : Value → Shared → Prop),
    Below A₀ base outer h₀ → Fr h₀ L s.heap m → (hK w.params).In h₀ → News h₀ L s.heap news → Top p lo mean mg mb h₀ → Sets w h₀ → CodeHd h₀ 179 175 → cs.kind = .function →
    C dp un gd cn cs a ccd cl outer h₀ L m news s Q E
noncomputable abbrev SpecB (w : World) (p : Program) (lo : List Str) (mean : ExcName → Option Value) (mg mb : Str → Option Value) (C : ∀ (dp un : Nat) (gd : Option (List Code)) (cn : Str) (cs : Scope) (a : Addr) (ccd : Value) (cl : List (Str × Addr)) (outer : List Env) (base h₀ : Heap) (L : Addr) (m : Str → Option Value) (news : List (Addr × Obj)) (s : Shared) (Q E : Value → Shared → Prop), Prop) : Prop :=
  ∀ (dp un : Nat) (gd : Option (List Code)) (cn : Str) (cs : Scope) (a : Addr) (ccd : Value) (cl : List (Str × Addr)) (outer : List Env) (A₀ : Around) (base h₀ : Heap) (L : Addr) (m : Str → Option Value) (news : List (Addr × Obj)) (s : Shared) (Q E : Value → Shared → Prop),
    Below A₀ base outer h₀ → Fr h₀ L s.heap m → (hK w.params).In h₀ → News h₀ L s.heap news → Top p lo mean mg mb h₀ → Sets w h₀ → CodeHd h₀ 179 175 → cs.kind = .function →
    C dp un gd cn cs a ccd cl outer base h₀ L m news s Q E
end Mine
end
section
open PySem PySem.W PyProof.Rows PySem.Builtin PySem.Builtin.Str
set_option Elab.async false
set_option compiler.extract_closed false
set_option linter.unusedVariables false
namespace Mine
noncomputable def cnt4 (x y : Str) (i j : Int) : Int := ((occurrences x y (fromIndex x.length i) (min (fromIndex x.length j) x.length) (x.length + 1)).length : Nat)
noncomputable def ridx (x y : Str) (i j : Int) : Option Nat := lastOccurrence x y (fromIndex x.length i) (min (fromIndex x.length j) x.length)
noncomputable def fidx (x y : Str) (i : Int) : Option Nat := (occurrences x y (fromIndex x.length i) x.length 1).head?
theorem g_count4 (x y : Str) (i j : Int) (t u v v2 : Tok) : Gives («str.count» ⟨[.str x t, .str y u, .int i v, .int j v2], []⟩) (.int (cnt4 x y i j)) := by
  show Gives (retInt (occurrences x y (fromIndex x.length i) (min (fromIndex x.length j) x.length) (x.length + 1)).length) _
  exact .of_eq rfl
theorem g_ridx (x y : Str) (i j : Int) (t u v v2 : Tok) (k : Nat) (h : ridx x y i j = some k) : Gives («str.rindex» ⟨[.str x t, .str y u, .int i v, .int j v2], []⟩) (.int k) := by
  show Gives (match ridx x y i j with | some k => retInt k | none => _) _
  rw [h]
  exact .of_eq rfl
theorem g_fidx (x y : Str) (i : Int) (t u v : Tok) (k : Nat) (h : fidx x y i = some k) : Gives («str.index» ⟨[.str x t, .str y u, .int i v], []⟩) (.int k) := by
  show Gives (match occurrences x y (fromIndex x.length i) (min x.length x.length) 1 with | k :: _ => retInt k | [] => _) _
  rw [Nat.min_self]
  unfold fidx at h
  cases q : occurrences x y (fromIndex x.length i) x.length 1 with
  | nil => rw [q] at h; cases h
  | cons a r => rw [q] at h; cases h; exact .of_eq rfl
section
variable {prog : Program} {w : World} {A : Around} {E : Value → Shared → Prop} {s : Shared} {x y : Str} {t u v v2 : Tok} {i j : Int} {k : Nat} {Q : Value → Shared → Prop}
theorem c_count4 (hq : Q (.int (cnt4 x y i j) s.toks) { s with toks := s.toks + 1 }) : wpAny (model prog w) A (call (.builtin "str.count") [.str x t, .str y u, .int i v, .int j v2]) Q E s :=
  call_gives F.slot_str_count (typeIs_str _ _ _) F.entry_str_count (F.args_str_count_4 _ _ _ _) (g_count4 x y i j t u v v2) hq
theorem c_ridx (h : ridx x y i j = some k) (hq : Q (.int k s.toks) { s with toks := s.toks + 1 }) : wpAny (model prog w) A (call (.builtin "str.rindex") [.str x t, .str y u, .int i v, .int j v2]) Q E s :=
  call_gives F.slot_str_rindex (typeIs_str _ _ _) F.entry_str_rindex (F.args_str_rindex_4 _ _ _ _) (g_ridx x y i j t u v v2 k h) hq
theorem c_fidx (h : fidx x y i = some k) (hq : Q (.int k s.toks) { s with toks := s.toks + 1 }) : wpAny (model prog w) A (call (.builtin "str.index") [.str x t, .str y u, .int i v]) Q E s :=
  call_gives F.slot_str_index (typeIs_str _ _ _) F.entry_str_index (F.args_str_index_3 _ _ _) (g_fidx x y i t u v k h) hq
end
end Mine
end
section
open PySem PySem.W PySem.Calls PyProof.Rows
set_option Elab.async false
set_option compiler.extract_closed false
set_option linter.unusedVariables false
namespace Mine
noncomputable abbrev excObj (t : Addr) : Obj := { cls := .ref 120, data := .fields #[.ref t, .none, .none, .none, .bool false, .none] }
noncomputable abbrev tupObj (vs : List Value) : Obj := { cls := .type "tuple", data := .seq vs.toArray }
section
variable {prog : Program} {w : World} {A : Around} {E : Value → Shared → Prop} {s : Shared} {h₀ h h' : Heap} {L e t : Addr} {m mg mb : Str → Option Value} {news : List (Addr × Obj)} {p : Program} {lo : List Str} {mean : ExcName → Option Value} {vs : List Value} {Q : Value → Shared → Prop}
theorem made_ledger (F : Fr h₀ L h m) (N : News h₀ L h news) {cls : Value} (hm : Heap.MadeExcOf h h' e cls vs) :
    ∃ t, Fr h₀ L h' m ∧ News h₀ L h' ((e, { cls := cls, data := .fields #[.ref t, .none, .none, .none, .bool false, .none] }) :: (t, tupObj vs) :: news) ∧ (∀ q ∈ news, q.1 ≠ e ∧ q.1 ≠ t) ∧ e ≠ t := by
  obtain ⟨t, h1, h2, h3⟩ := hm.there
  have hL : ∀ b, h.get? b = none → b ≠ L := fun b hb q => by
    obtain ⟨o, _, _, ho, _⟩ := F.ns
    rw [q, ho] at hb; cases hb
  have h0 : ∀ b, h.get? b = none → h₀.get? b = none := fun b hb => by
    cases q : h₀.get? b with
    | none => rfl
    | some o => rw [F.keep b o q] at hb; cases hb
  refine ⟨t, ⟨F.ns.keeps hm.keeps, fun b o q => hm.keeps b o (F.keep b o q), F.above⟩, fun q hq => ?_, fun q hq => ⟨fun z => ?_, fun z => ?_⟩, fun z => ?_⟩
  · rcases List.mem_cons.mp hq with rfl | hq
    · exact ⟨h1, hL _ hm.new, h0 _ hm.new⟩
    · rcases List.mem_cons.mp hq with rfl | hq
      · exact ⟨h3, hL _ h2, h0 _ h2⟩
      · exact ⟨hm.keeps _ _ (N q hq).1, (N q hq).2⟩
  · have := (N q hq).1; rw [z, hm.new] at this; cases this
  · have := (N q hq).1; rw [z, h2] at this; cases this
  · rw [z, h3] at h1; cases h1

theorem call_exc {C : Addr} {x : Str} (F : Fr h₀ L s.heap m) (N : News h₀ L s.heap news) (O : OwnCls x C [.type "ValueError", .type "Exception", .type "BaseException", .type "object"] "ValueError.__new__" mg h₀) (hz : vs.length ≤ sizeLine)
    (h : ∀ h' e t, Fr h₀ L h' m → News h₀ L h' ((e, { cls := .ref C, data := .fields #[.ref t, .none, .none, .none, .bool false, .none] }) :: (t, tupObj vs) :: news) → (∀ q ∈ news, q.1 ≠ e ∧ q.1 ≠ t) → e ≠ t → Q (.ref e) { s with heap := h' }) :
    wpAny (model prog w) A (call (.ref C) vs) Q E s := by
  obtain ⟨bm, NS, nm, q, bs, hdct, sn, sub, ab, col, dd, k0, k1, k2, k3, k5, mN, hC, hN, hni, T⟩ := (O.keeps F.keep).obj
  obtain ⟨hp, g, d, tk, os⟩ := s
  refine wpAny_call_exc_subT PySem.F.excBase_ValueError T hC hN hni (fun h' e hm => ?_) hz
  obtain ⟨t, F', N', l1, l2⟩ := made_ledger F N hm
  exact h h' e t F' N' l1 l2

/-- an exception object of the ledger, as if it were just made -/
theorem remade {cls : Value} (F : Fr h₀ L h m) (N : News h₀ L h ((e, { cls := cls, data := .fields #[.ref t, .none, .none, .none, .bool false, .none] }) :: (t, tupObj vs) :: news)) (ha : ∀ q ∈ news, q.1 ≠ e ∧ q.1 ≠ t) (het : e ≠ t) :
    ∃ g, Heap.MadeExcOf g h e cls vs ∧ Fr h₀ L g m ∧ News h₀ L g news := by
  have n1 := N _ (.head _)
  have n2 := N _ (.tail _ (.head _))
  refine ⟨hideAll h [e, t], ⟨fun b o q => of_hideAll _ q, hideAll_none _ (.head _), t, n1.1, hideAll_none _ (.tail _ (.head _)), n2.1⟩, ⟨?_, fun b o q => hideAll_get _ (F.keep b o q) fun hm => ?_, ?_⟩, fun q hq => ⟨hideAll_get _ (N q (.tail _ (.tail _ hq))).1 fun hm => ?_, (N q (.tail _ (.tail _ hq))).2⟩⟩
  · obtain ⟨o, es, ep, ho, r⟩ := F.ns
    refine ⟨o, es, ep, hideAll_get _ ho fun hm => ?_, r⟩
    rcases List.mem_cons.mp hm with z | hm
    · exact n1.2.1 z.symm
    · rcases List.mem_cons.mp hm with z | hm
      · exact n2.2.1 z.symm
      · cases hm
  · rcases List.mem_cons.mp hm with rfl | hm
    · rw [n1.2.2] at q; cases q
    · rcases List.mem_cons.mp hm with rfl | hm
      · rw [n2.2.2] at q; cases q
      · cases hm
  · exact F.above
  · rcases List.mem_cons.mp hm with z | hm
    · exact (ha q hq).1 z
    · rcases List.mem_cons.mp hm with z | hm
      · exact (ha q hq).2 z
      · cases hm
end
end Mine
end
section
local macro_rules | `(tactic| omega) => `(tactic| first | lia | omega +splitDisjunctions)
section
open PySem PySem.W PyProof.Rows PySem.Builtin
set_option Elab.async false
set_option compiler.extract_closed false
set_option linter.unusedVariables false
namespace Mine
theorem plainAttrs_frozenset : PlainAttrs "frozenset" :=
  ⟨⟨"object.__getattribute__", by rw [typeLookup_type, builtinLookup_eq_fast]; kernel_rfl, by decide +kernel⟩, by rw [typeLookup_type, builtinLookup_eq_fast]; kernel_rfl⟩
theorem slot_isdisjoint : Slot "frozenset" "isdisjoint" "frozenset.isdisjoint" :=
  .of (owner := "frozenset") (n := "isdisjoint") (by rw [typeLookup_type, builtinLookup_eq_fast]; kernel_rfl) (by decide +kernel) (by decide +kernel) (by decide +kernel)
    (by first | exact .inl (by decide +kernel) | exact .inr (by decide +kernel)) (by rw [isSubtype_type]; kernel_rfl)
theorem type_isdisjoint : typeOf (.builtin "frozenset.isdisjoint") = pure (.type "method_descriptor") := by show builtinType _ = _; rw [builtinType_eq_fast]; kernel_rfl
theorem entry_isdisjoint : entryFor table "frozenset.isdisjoint" = some Builtin.«frozenset.isdisjoint» := entryFor_of_tree (by kernel_rfl)
theorem entry_isdisjoint_loop : entryFor table "frozenset.isdisjoint.loop" = some Builtin.«frozenset.isdisjoint.loop» := entryFor_of_tree (by kernel_rfl)
theorem plain_isdisjoint_loop : plainId "frozenset.isdisjoint.loop" = true := by decide +kernel
theorem args_isdisjoint (a b : Value) : argsOk "frozenset.isdisjoint" ⟨[a, b], []⟩ := by
  unfold argsOk; rw [signature?_of (id := "frozenset.isdisjoint") (n := ['t', 'n', 'i', 'o', 'j', 's', 'i', 'd', 's', 'i']) (o := ['t', 'e', 's', 'n', 'e', 'z', 'o', 'r', 'f']) (by kernel_rfl) FB.owner_frozenset]; kernel_rfl
theorem slot_issuperset : Slot "frozenset" "issuperset" "frozenset.issuperset" :=
  .of (owner := "frozenset") (n := "issuperset") (by rw [typeLookup_type, builtinLookup_eq_fast]; kernel_rfl) (by decide +kernel) (by decide +kernel) (by decide +kernel)
    (by first | exact .inl (by decide +kernel) | exact .inr (by decide +kernel)) (by rw [isSubtype_type]; kernel_rfl)
theorem type_issuperset : typeOf (.builtin "frozenset.issuperset") = pure (.type "method_descriptor") := by show builtinType _ = _; rw [builtinType_eq_fast]; kernel_rfl
theorem entry_issuperset : entryFor table "frozenset.issuperset" = some Builtin.«frozenset.issuperset» := entryFor_of_tree (by kernel_rfl)
theorem entry_issuperset_loop : entryFor table "frozenset.issuperset.loop" = some Builtin.«frozenset.issuperset.loop» := entryFor_of_tree (by kernel_rfl)
theorem plain_issuperset_loop : plainId "frozenset.issuperset.loop" = true := by decide +kernel
theorem args_issuperset (a b : Value) : argsOk "frozenset.issuperset" ⟨[a, b], []⟩ := by
  unfold argsOk; rw [signature?_of (id := "frozenset.issuperset") (n := ['t', 'e', 's', 'r', 'e', 'p', 'u', 's', 's', 'i']) (o := ['t', 'e', 's', 'n', 'e', 'z', 'o', 'r', 'f']) (by kernel_rfl) FB.owner_frozenset]; kernel_rfl
theorem sub_str_set : isSubtype (.type "str") (.type "set") = pure false := by rw [isSubtype_type]; kernel_rfl
theorem sub_str_frozenset : isSubtype (.type "str") (.type "frozenset") = pure false := by rw [isSubtype_type]; kernel_rfl
section
variable {prog : Program} {w : World} {A : Around} {E : Value → Shared → Prop} {s : Shared} {a L : Addr} {S : Str → Bool} {n : Nat} {h₀ : Heap} {m : Str → Option Value} {news : List (Addr × Obj)}
theorem method_froz {name : Str} {id : String} {pl : Sem Bool} {Q : Value × List Value → Shared → Prop} (F : Fr h₀ L s.heap m) (hS : FrozAt (strKind prog w) h₀ a S n)
    (slot : Slot "frozenset" name id) (hty : typeOf (.builtin id) = pure (.type "method_descriptor")) (h : Q (.builtin id, [.ref a]) s) : wpAny (model prog w) A (getMethod (.ref a) name pl) Q E s := by
  obtain ⟨es, ep, t, ho, r⟩ := hS
  have ho := F.keep _ _ ho
  exact getMethod_builtin ⟨_, ho, rfl⟩ plainAttrs_frozenset slot hty (fun b e => by injection e with e; subst e; exact ⟨_, ho, rfl⟩) h

theorem has_str {k : Str} {u : Tok} {s : Shared} {Q : Bool → Shared → Prop} (hS : FrozAt (strKind prog w) s.heap a S n) (hb : n < 4096) (h : Q (S k) { s with toks := s.toks + 1 }) :
    wpAny (model prog w) A (Frozenset.addrOf (.ref a) >>= fun a => setContains a (.str k u)) Q E s := by
  obtain ⟨es, ep, t, ho, hel, hmem, hn, hf⟩ := hS
  unfold Frozenset.addrOf setContains
  refine wpAny_bind (wpAny_pure ?_)
  refine wpAny_holding ?_
  refine wpAny_bind ((strKind prog w).pyHash (k := k) (isStrOf_self k u) ?_)
  refine wpAny_bind (setFind_any (s := { s with toks := s.toks + 1 }) (isStrOf_self k u) rfl ho rfl hel hmem (by rw [hn]; exact hb) hf fun r hr => ?_)
  refine wpAny_pure ?_
  rw [hr]; exact h
theorem has_str' {k : Str} {u : Tok} {s : Shared} {Q : Bool → Shared → Prop} (hS : FrozAt (strKind prog w) s.heap a S n) (hb : n < 4096) (h : Q (S k) { s with toks := s.toks + 1 }) :
    wpAny (model prog w) A (setContains a (.str k u)) Q E s := by
  have := has_str (A := A) (E := E) (u := u) hS hb h
  exact this

noncomputable def signs (x : Str) : List Str := x.cps.toList.map fun c => ⟨#[c]⟩
end
section
variable {prog : Program} {w : World} {A : Around} {R : Result → Shared → Prop} {I a : Addr} {fp wr : List Addr} {G : Array GenState → Array GenState → Prop} {S : Str → Bool} {n : Nat} {x : Str} {St : Nat → Shared → Prop}
theorem loop_disj (W : WalksS prog w A.in1 I fp wr G x.cps.size (SignAt x) St) (hSw : a ∉ wr) (hb : n < 4096) :
    ∀ (k i : Nat) (s : Shared), x.cps.size - i = k → i ≤ x.cps.size → St i s → FrozAt (strKind prog w) s.heap a S n →
      (∀ s', Moved wr G s s' → R (.ok (.ret (.bool (((signs x).drop i).all fun c => !S c)))) s') →
      codeAny (model prog w) A (.builtin "frozenset.isdisjoint.loop" ⟨[.ref a, .ref I], []⟩) R s := by
  intro k
  induction k with
  | zero =>
    intro i s hk hi hst hS hR
    have hin : i = x.cps.size := by omega
    subst hin
    refine codeAny_builtin entry_isdisjoint_loop ?_
    rw [Around.under_plainId plain_isdisjoint_loop _]
    show wpAny _ A.in1 (pyNext (.ref I) >>= _) _ _ s
    refine wpAny_bind (W.done s _ _ hst fun s' hm => ?_)
    show wpAny _ A.in1 (ret (Value.bool true)) _ _ s'
    refine wpAny_pure ?_
    have := hR s' hm
    rw [List.drop_of_length_le (by simp [signs])] at this
    exact this
  | succ k ih =>
    intro i s hk hi hst hS hR
    have hlt : i < x.cps.size := by omega
    refine codeAny_builtin entry_isdisjoint_loop ?_
    rw [Around.under_plainId plain_isdisjoint_loop _]
    show wpAny _ A.in1 (pyNext (.ref I) >>= _) _ _ s
    refine wpAny_bind (W.item i s _ _ hlt hst fun v s' hP hst' hm => ?_)
    obtain ⟨c, u, hc, rfl⟩ := hP
    have hS' : FrozAt (strKind prog w) s'.heap a S n := let ⟨es, ep, t, ho, r⟩ := hS; ⟨es, ep, t, hm.heap a _ hSw ho, r⟩
    have hd : (signs x).drop i = ⟨#[c]⟩ :: (signs x).drop (i + 1) := by
      have hl : i < (signs x).length := by simpa [signs] using hlt
      rw [List.drop_eq_getElem_cons hl]
      have : (signs x)[i] = (⟨#[c]⟩ : Str) := by
        have hg : x.cps[i] = c := by rw [Array.getElem?_eq_getElem hlt] at hc; exact Option.some.inj hc
        simp [signs, hg]
      rw [this]
    show wpAny _ A.in1 (holding [Value.str ⟨#[c]⟩ u] (setContains a (.str ⟨#[c]⟩ u)) >>= _) _ _ s'
    refine wpAny_bind (wpAny_holding (has_str' hS' hb ?_))
    by_cases hc1 : S ⟨#[c]⟩ = true
    · rw [hc1]
      show wpAny _ A.in1 (ret (Value.bool false)) _ _ _
      refine wpAny_pure ?_
      have := hR { s' with toks := s'.toks + 1 } (hm.then_heap (Nat.le_succ _) fun b o hb e => e)
      rw [hd] at this
      simpa [hc1] using this
    · have hc0 : S ⟨#[c]⟩ = false := by simpa using hc1
      rw [hc0]
      show wpAny _ A.in1 (again _) _ _ _
      refine wpAny_pure ⟨plainId_quiet plain_isdisjoint_loop _, ih (i + 1) _ (by omega) hlt (W.frame _ s' _ _ hst' (Nat.le_succ _) fun b hb o e => e) hS' fun s'' hm'' => ?_⟩
      have := hR s'' (Moved.trans W.gtrans (hm.then_heap (Nat.le_succ _) fun b o hb e => e) hm'')
      rw [hd] at this
      simpa [hc0] using this
theorem loop_super (W : WalksS prog w A.in1 I fp wr G x.cps.size (SignAt x) St) (hSw : a ∉ wr) (hb : n < 4096) :
    ∀ (k i : Nat) (s : Shared), x.cps.size - i = k → i ≤ x.cps.size → St i s → FrozAt (strKind prog w) s.heap a S n →
      (∀ s', Moved wr G s s' → R (.ok (.ret (.bool (((signs x).drop i).all fun c => S c)))) s') →
      codeAny (model prog w) A (.builtin "frozenset.issuperset.loop" ⟨[.ref a, .ref I], []⟩) R s := by
  intro k
  induction k with
  | zero =>
    intro i s hk hi hst hS hR
    have hin : i = x.cps.size := by omega
    subst hin
    refine codeAny_builtin entry_issuperset_loop ?_
    rw [Around.under_plainId plain_issuperset_loop _]
    show wpAny _ A.in1 (pyNext (.ref I) >>= _) _ _ s
    refine wpAny_bind (W.done s _ _ hst fun s' hm => ?_)
    show wpAny _ A.in1 (ret (Value.bool true)) _ _ s'
    refine wpAny_pure ?_
    have := hR s' hm
    rw [List.drop_of_length_le (by simp [signs])] at this
    exact this
  | succ k ih =>
    intro i s hk hi hst hS hR
    have hlt : i < x.cps.size := by omega
    refine codeAny_builtin entry_issuperset_loop ?_
    rw [Around.under_plainId plain_issuperset_loop _]
    show wpAny _ A.in1 (pyNext (.ref I) >>= _) _ _ s
    refine wpAny_bind (W.item i s _ _ hlt hst fun v s' hP hst' hm => ?_)
    obtain ⟨c, u, hc, rfl⟩ := hP
    have hS' : FrozAt (strKind prog w) s'.heap a S n := let ⟨es, ep, t, ho, r⟩ := hS; ⟨es, ep, t, hm.heap a _ hSw ho, r⟩
    have hd : (signs x).drop i = ⟨#[c]⟩ :: (signs x).drop (i + 1) := by
      have hl : i < (signs x).length := by simpa [signs] using hlt
      rw [List.drop_eq_getElem_cons hl]
      have : (signs x)[i] = (⟨#[c]⟩ : Str) := by
        have hg : x.cps[i] = c := by rw [Array.getElem?_eq_getElem hlt] at hc; exact Option.some.inj hc
        simp [signs, hg]
      rw [this]
    show wpAny _ A.in1 (holding [Value.str ⟨#[c]⟩ u] (setContains a (.str ⟨#[c]⟩ u)) >>= _) _ _ s'
    refine wpAny_bind (wpAny_holding (has_str' hS' hb ?_))
    by_cases hc1 : S ⟨#[c]⟩ = true
    · rw [hc1]
      show wpAny _ A.in1 (again _) _ _ _
      refine wpAny_pure ⟨plainId_quiet plain_issuperset_loop _, ih (i + 1) _ (by omega) hlt (W.frame _ s' _ _ hst' (Nat.le_succ _) fun b hb o e => e) hS' fun s'' hm'' => ?_⟩
      have := hR s'' (Moved.trans W.gtrans (hm.then_heap (Nat.le_succ _) fun b o hb e => e) hm'')
      rw [hd] at this
      simpa [hc1] using this
    · have hc0 : S ⟨#[c]⟩ = false := by simpa using hc1
      rw [hc0]
      show wpAny _ A.in1 (ret (Value.bool false)) _ _ _
      refine wpAny_pure ?_
      have := hR { s' with toks := s'.toks + 1 } (hm.then_heap (Nat.le_succ _) fun b o hb e => e)
      rw [hd] at this
      simpa [hc0] using this
end
section
variable {prog : Program} {w : World} {A : Around} {E : Value → Shared → Prop} {s : Shared} {a L : Addr} {S : Str → Bool} {n : Nat} {h₀ : Heap} {m : Str → Option Value} {news : List (Addr × Obj)} {Q : Value → Shared → Prop} {x : Str} {t : Tok} {b : Bool}
theorem moved_keep {I : Addr} {s s' : Shared} {o : Obj} (F : Fr h₀ L s.heap m) (N : News h₀ L s.heap news) (hI : I = s.heap.objs.size) {G : Array GenState → Array GenState → Prop} {s₁ : Shared} (h1 : s₁.heap = s.heap.push o) (hm : Moved [I] G s₁ s') :
    Fr h₀ L s'.heap m ∧ News h₀ L s'.heap news := by
  have k : ∀ b ob, s.heap.get? b = some ob → s'.heap.get? b = some ob := fun b ob e => hm.heap b ob (fun hb => by
    rw [List.mem_singleton.mp hb, hI] at e; exact absurd (Heap.lt_size e) (Nat.lt_irrefl _)) (by rw [h1]; exact Heap.get?_push_of_some _ e)
  exact ⟨⟨F.ns.keeps k, fun b o e => k _ _ (F.keep b o e), F.above⟩, fun q hq => ⟨k _ _ (N q hq).1, (N q hq).2⟩⟩
theorem froz_keeps' {h h' : Heap} (x : FrozAt (strKind prog w) h a S n) (k : ∀ b o, h.get? b = some o → h'.get? b = some o) : FrozAt (strKind prog w) h' a S n :=
  let ⟨es, ep, t, ho, r⟩ := x; ⟨es, ep, t, k _ _ ho, r⟩
theorem froz_isdisjoint (hh : A.handled = none) (F : Fr h₀ L s.heap m) (N : News h₀ L s.heap news) (hS : FrozAt (strKind prog w) h₀ a S n) (hb : n < 4096) (hv : ((signs x).all fun c => !S c) = b)
    (hq : ∀ h' tk, Fr h₀ L h' m → News h₀ L h' news → Q (.bool b) { s with heap := h', toks := tk }) :
    wpAny (model prog w) A (call (.builtin "frozenset.isdisjoint") [.ref a, .str x t]) Q E s := by
  have hS₀ := froz_keeps' hS F.keep
  have hT : s.TypeIs (.ref a) "frozenset" := let ⟨_, _, _, ho, _⟩ := hS₀; ⟨_, ho, rfl⟩
  have ha : a ≠ s.heap.objs.size := let ⟨_, _, _, ho, _⟩ := hS₀; Nat.ne_of_lt (Heap.lt_size ho)
  refine wpAny_call (codeAny_call_builtin slot_isdisjoint.plain entry_isdisjoint (slot_isdisjoint.check _ _ _ _ _ _ _ _ hT (args_isdisjoint _ _) ?_))
  unfold Builtin.«frozenset.isdisjoint» Builtin.Frozenset.oneOther
  simp only [List.isEmpty_nil, bind_assoc]
  unfold Builtin.Frozenset.addrOf
  refine wpAny_bind (wpAny_pure ?_)
  try dsimp only
  refine wpAny_bind (wpAny_pure ?_)
  try dsimp only
  have e0 : (Value.str x t == Value.ref a) = false := rfl
  rw [e0, if_neg (by decide)]
  refine wpAny_bind (wpAny_typeOf (T := "str") (v := .str x t) rfl ?_)
  rw [if_neg (by decide)]
  refine wpAny_bind (wpAny_pyIter_str fun o St W hst => ?_)
  refine wpAny_pure ⟨plainId_quiet plain_isdisjoint_loop _, loop_disj (x := x) (W A.in1 hh).toS (fun hm => ha (List.mem_singleton.mp hm)) hb x.cps.size 0 _ rfl (Nat.zero_le _) (by exact hst) (froz_keeps' hS₀ fun b o e => Heap.get?_push_of_some _ e) fun s' hm => ?_⟩
  obtain ⟨F', N'⟩ := moved_keep F N rfl rfl hm
  obtain ⟨hp, g, d, tk, os⟩ := s
  obtain ⟨hp', g', d', tk', os'⟩ := s'
  obtain ⟨_, hg, hd, ho, _⟩ := hm
  cases hg; cases hd; cases ho
  rw [List.drop_zero, hv]
  exact hq _ _ F' N'
theorem froz_issuperset (hh : A.handled = none) (F : Fr h₀ L s.heap m) (N : News h₀ L s.heap news) (hS : FrozAt (strKind prog w) h₀ a S n) (hb : n < 4096) (hv : ((signs x).all fun c => S c) = b)
    (hq : ∀ h' tk, Fr h₀ L h' m → News h₀ L h' news → Q (.bool b) { s with heap := h', toks := tk }) :
    wpAny (model prog w) A (call (.builtin "frozenset.issuperset") [.ref a, .str x t]) Q E s := by
  have hS₀ := froz_keeps' hS F.keep
  have hT : s.TypeIs (.ref a) "frozenset" := let ⟨_, _, _, ho, _⟩ := hS₀; ⟨_, ho, rfl⟩
  have ha : a ≠ s.heap.objs.size := let ⟨_, _, _, ho, _⟩ := hS₀; Nat.ne_of_lt (Heap.lt_size ho)
  refine wpAny_call (codeAny_call_builtin slot_issuperset.plain entry_issuperset (slot_issuperset.check _ _ _ _ _ _ _ _ hT (args_issuperset _ _) ?_))
  unfold Builtin.«frozenset.issuperset» Builtin.Frozenset.oneOther
  simp only [List.isEmpty_nil, bind_assoc]
  unfold Builtin.Frozenset.addrOf Builtin.Frozenset.isAnySet
  refine wpAny_bind (wpAny_pure ?_)
  try dsimp only
  refine wpAny_bind (wpAny_pure ?_)
  try dsimp only
  refine wpAny_bind (m := isInstance _ _ <||> isInstance _ _) ?_
  refine wpAny_bind (m := isInstance _ _) (wpAny_isInstance (T := "str") (v := .str x t) (b := false) rfl sub_str_set ?_)
  refine wpAny_isInstance (T := "str") (v := .str x t) (b := false) rfl sub_str_frozenset ?_
  rw [if_neg (by decide)]
  refine wpAny_bind (wpAny_pyIter_str fun o St W hst => ?_)
  refine wpAny_pure ⟨plainId_quiet plain_issuperset_loop _, loop_super (x := x) (W A.in1 hh).toS (fun hm => ha (List.mem_singleton.mp hm)) hb x.cps.size 0 _ rfl (Nat.zero_le _) (by exact hst) (froz_keeps' hS₀ fun b o e => Heap.get?_push_of_some _ e) fun s' hm => ?_⟩
  obtain ⟨F', N'⟩ := moved_keep F N rfl rfl hm
  obtain ⟨hp, g, d, tk, os⟩ := s
  obtain ⟨hp', g', d', tk', os'⟩ := s'
  obtain ⟨_, hg, hd, ho, _⟩ := hm
  cases hg; cases hd; cases ho
  rw [List.drop_zero, hv]
  exact hq _ _ F' N'
end
end Mine
end
section
open PySem PySem.W PyProof.Rows
set_option Elab.async false
set_option compiler.extract_closed false
set_option linter.unusedVariables false
namespace Mine
structure HoldF (P : Prop) : Prop where
  out : P
theorem holdF {P : Prop} (h : HoldF P) : P := h.out
local macro_rules | `(tactic| walk_at "call ref") => `(tactic| (refine holdF ?_))

theorem c_ridx' {prog : Program} {w : World} {A : Around} {E : Value → Shared → Prop} {s : Shared} {x y : Str} {t u v v2 : Tok} {i j : Int} {Q : Value → Shared → Prop} {ln k : Int} (hx : ln ≠ 1 → ∃ n : Nat, ridx x y i j = some n ∧ k = n) (hl : ln ≠ 1) (hq : Q (.int k s.toks) { s with toks := s.toks + 1 }) : wpAny (model prog w) A (call (.builtin "str.rindex") [.str x t, .str y u, .int i v, .int j v2]) Q E s := by
  obtain ⟨n, h1, rfl⟩ := hx hl
  exact c_ridx h1 hq
theorem c_count4' {prog : Program} {w : World} {A : Around} {E : Value → Shared → Prop} {s : Shared} {x y : Str} {t u v v2 : Tok} {i j n : Int} {Q : Value → Shared → Prop} (h : cnt4 x y i j = n) (hq : Q (.int n s.toks) { s with toks := s.toks + 1 }) : wpAny (model prog w) A (call (.builtin "str.count") [.str x t, .str y u, .int i v, .int j v2]) Q E s := c_count4 (h ▸ hq)
local macro_rules | `(tactic| walk_at "call builtin:str.count") => `(tactic| (refine c_count4' (by assumption) ?_))
local macro_rules | `(tactic| walk_at "call builtin:str.rindex") => `(tactic| (refine c_ridx' (by assumption) (by omega) ?_))
structure TabL (ps : Array Value) (rest : List (Addr × Obj)) : Prop where
  apart : ∀ p ∈ rest, p.1 ≠ 175
  ok : ps = #[] ∨ ∃ c' oc vs t, ps = #[rawInt 131, rawInt 4, .ref c'] ∧ (c', oc) ∈ rest ∧ oc.data = .fields vs ∧ vs[1]? = some (.str (Str.ofString "suffixed_err.<locals>.coord_repr") t)
noncomputable def errText (msg : Str) (ln col : Int) : Str := msg ++ Str.ofString " (at " ++ (Str.ofString "line " ++ Str.ofString (toString ln) ++ Str.ofString ", column " ++ Str.ofString (toString col)) ++ Str.ofString ")"
noncomputable abbrev SufRet (h₀ : Heap) (L : Addr) (m : Str → Option Value) (s : Shared) (rest : List (Addr × Obj)) (T : Str) (Q : Value → Shared → Prop) : Prop :=
  ∀ h' tk tk' e t ps' rest', Fr h₀ L h' m → News h₀ L h' ((e, excObj t) :: (t, tupObj [.str T tk]) :: (175, tabObj ps') :: rest') → TabL ps' rest' → (∀ q ∈ (175, tabObj ps') :: rest', q.1 ≠ e ∧ q.1 ≠ t) → e ≠ t → (∀ q ∈ rest, q ∈ rest') → Q (.ref e) { s with heap := h', toks := tk' }
theorem suf_end {h₀ h9 : Heap} {L e t : Addr} {m : Str → Option Value} {s : Shared} {rest mid : List (Addr × Obj)} {T X : Str} {tk : Tok} {tk' : Nat} {Q : Value → Shared → Prop} (hret : SufRet h₀ L m s rest T Q) (kF : Fr h₀ L h9 m)
    (kN : News h₀ L h9 ((e, excObj t) :: (t, tupObj [.str X tk]) :: mid)) (l4 : ∀ q ∈ mid, q.1 ≠ e ∧ q.1 ≠ t) (l5 : e ≠ t) (hX : X = T) (ps' : Array Value) (rest' : List (Addr × Obj))
    (hm : ∀ q ∈ (175, tabObj ps') :: rest', q ∈ mid) (hT : TabL ps' rest') (hr : ∀ q ∈ rest, q ∈ rest') : Q (.ref e) { s with heap := h9, toks := tk' } := by
  subst hX
  refine hret h9 tk tk' e t ps' rest' kF (fun q hq => kN q ?_) hT (fun q hq => l4 q (hm q hq)) l5 hr
  rcases List.mem_cons.mp hq with rfl | hq
  · exact .head _
  · rcases List.mem_cons.mp hq with rfl | hq
    · exact .tail _ (.head _)
    · exact .tail _ (.tail _ (hm q hq))
/-- behind a statement that falls through, with what the locals then hold -/
noncomputable def IfMid (h₀ : Heap) (L : Addr) (led : List (Addr × Obj)) (K : (Str → Option Value) → Prop) (s₁ : Shared) (f : Flow) (s₂ : Shared) : Prop :=
  f = .next ∧ ∃ h' tk m₂, s₂ = { s₁ with heap := h', toks := tk } ∧ Fr h₀ L h' m₂ ∧ News h₀ L h' led ∧ K m₂
theorem if_mid {M : Model} {A : Around} {x : Sem Flow} {E : Value → Shared → Prop} {s s₁ : Shared} {h₀ hh h9 : Heap} {L : Addr} {m : Str → Option Value} {led : List (Addr × Obj)} {Q : Flow → Shared → Prop} (F : Fr h₀ L hh m) (N : News h₀ L h9 led) (K : (Str → Option Value) → Prop)
    (h : wpAny M A x (IfMid h₀ L led K s₁) E s) (h2 : ∀ h' tk m₂, Fr h₀ L h' m₂ → News h₀ L h' led → K m₂ → Q .next { s₁ with heap := h', toks := tk }) : wpAny M A x Q E s :=
  wpAny_mono h (fun f s' hc => by
    obtain ⟨rfl, h', tk, m₂, rfl, F, N, k⟩ := hc
    exact h2 h' tk m₂ F N k) fun _ _ e => e
local macro_rules | `(tactic| walk_at "exec If") => `(tactic| ((with_reducible show wpAny _ _ (exec (Stmt.If (PySem.Expr.Compare _ [PySem.CmpOp.Eq] _ _) _ _ _) _) _ _ _); (fail_if_success (with_reducible show wpAny _ _ _ (IfMid _ _ _ _ _) _ _)); refine holdF ?_))
local macro_rules | `(tactic| walk_at "IfMid") => `(tactic| (refine holdF ?_))
local macro_rules | `(tactic| walk_at "eval Name") => `(tactic| (k_here; k_dflt (refine' ld ?k1 ?k2 ?_; (case k1 => k_asm); (case k2 => assumption); k_whole)))
set_option maxRecDepth 100000 in
set_option maxHeartbeats 8000000 in
theorem spec_suf (w : World) (p : Program) (lo : List Str) (mean : ExcName → Option Value) (mg mb : Str → Option Value) (src msg : Str) (pos : Int) (t t2 t3 : Tok) : Fill PySem.Challenge.rw_ij0172_01 hK →
  Spec w p lo mean mg mb fun dp un gd cn cs a ccd cl outer h₀ L m news s Q E => ∀ ps rest, news = (175, tabObj ps) :: rest → TabL ps rest →
    dp + 2 < recursionLimit → un + 12 < cLine → src.length < 1000 → msg.length < 100 → 0 ≤ pos → pos < src.length → 
    ∀ (ln k col : Int), cnt4 src (Str.ofString "\n") 0 pos = ln - 1 → 1 ≤ ln → ln < 1000 → 0 ≤ k → k < 1000 → (ln = 1 → col = pos + 1) → (ln ≠ 1 → ∃ n : Nat, ridx src (Str.ofString "\n") 0 pos = some n ∧ k = n) → (ln ≠ 1 → col = pos - k) →
    SufRet h₀ L m s rest (errText msg ln col) Q →
    wpAny (model PG w) (ktrTop dp un gd cn cs L a ccd cl outer) (call (.ref 180) [.str src t, .int pos t2, .str msg t3]) Q E s := by
  w_top off
  k_fill
  intro _
  dsimp only [Spec]
  intro dp un gd cn cs a ccd cl outer A₀ base h₀ L m news s Q E B F X N T Z C hk ps rest hn hTab hd hu hlen hml h0 h1 ln k col hln hl1 hl2 hc1 hc2 hcA hcB hcC hret
  subst hn
  have hapart := hTab.apart
  have hm2 : msg.length ≤ 100 := by omega
  have e1 : ln - 1 + 1 = ln := by omega
  refine wpAny_call ?_
  k_dflt cell_enter
  walk_at "mine norm"
  (with_reducible rename Fr h₀ L _ _ => FG)
  have C' := CodeHd.keeps C (Fr.keep FG)
  clear C
  rename_i g' L' h' F' N' B' X' T'
  walk1
  refine nestDef_K rfl rfl rfl ?_
  rcases hTab.ok with rfl | ⟨c', oc', vs', t', rfl, hmem, d1', d2'⟩
  · refine nest_K F' N' T' C' rfl (UpdF.head hapart) (by kn_triples) (by kn_among) rfl ?_
    intro f' c' oc' vs' t' ct' dc' h' tk' F' N' d1' d2' l1 l2
    (try dsimp only at N')
    w_strict k_steps
    refine ⟨?_⟩
    w_strict (k_here; kn_here; k_dflt (refine wpAny_call ?_; (refine' code_nest ?k1 ?k2 ?k3 ?k4 ?k5 ?kA ?kF ?kK ?k6 ?k7 ?k8 ?k9 ?kB ?_ ?c2 ?c3 ?c4 ?c5; (case kA | kF | kK => exact rfl); (case k1 | k2 | k3 | k4 | k5 => k_asm); (case k6 => k_mem); (case k7 => first | exact codeRec_news (by k_asm) (by k_mem) (by assumption) (by assumption) | exact codeRec_news (by k_asm) (.tail _ (.tail _ hmem)) (by assumption) (by assumption) | exact codeRec_news (by k_asm) (List.Mem.tail _ (List.Mem.tail _ (by assumption))) (by assumption) (by assumption)); (case k8 => ktr_room); (case k9 => exact BindsTo.of_eq rfl); (case c5 => decide); (case kB => exact locs rfl); (case c2 | c3 | c4 => exact rfl); k_whole; intro g9 L9 h9 FG9 F9 N9 B9 X9 T9; (try dsimp only); (try k_lift B9); (try k_fold))))
    w_strict k_steps
    refine ⟨?_⟩
    (with_reducible rename Fr _ _ _ _ => F₀)
    (with_reducible rename News _ _ _ _ => N₀)
    refine if_mid F₀ N₀ (fun m₂ => ∃ tl tc, m₂ (Str.ofString "line") = some (.int (ln - 1 + 1) tl) ∧ m₂ (Str.ofString "column") = some (.int col tc)) (s₁ := s) ?_ ?_
    · w_strict k_steps
      · refine ⟨?_⟩
        (with_reducible rename Fr _ _ _ _ => F₇)
        (with_reducible rename News _ _ _ _ => N₈)
        have hcol := hcA (by omega)
        exact ⟨rfl, _, _, _, rfl, F₇, N₈, _, _, rfl, by rw [hcol]; rfl⟩
      · refine ⟨?_⟩
        (with_reducible rename Fr _ _ _ _ => F₇)
        (with_reducible rename News _ _ _ _ => N₈)
        have hcol := hcC (by omega)
        exact ⟨rfl, _, _, _, rfl, F₇, N₈, _, _, rfl, by rw [hcol]; rfl⟩
    · intro h₄ tk₄ m₄ F₄ N₄ K₄
      obtain ⟨tl, tc, c1, c2⟩ := K₄
      clear F₀ N₀
      dsimp only
      w_strict k_steps
      refine ⟨?_⟩
      w_strict (k_here; (with_reducible show wpAny _ _ (call (Value.ref 120) _ _) _ _ _); k_dflt (refine' call_exc (x := Str.ofString "TOMLDecodeError") ?F ?N ?O ?z ?_; (case F | N => k_asm); (case O => exact own_of_in (by k_asm) (by k_asm) (by k_is) (by k_exc)); (case z => (show 1 ≤ sizeLine; rw [sizeLine_eq]; omega)); k_whole); intro h8 e8 t8 F8 N8 l8 m8)
      w_strict k_steps
      rename_i kF kN kT kX
      refine suf_end hret kF kN l8 m8 (by simp only [errText, Str.empty_append, e1]) #[rawInt 131, rawInt 4, .ref c'] ((c', oc') :: rest) ?_ ⟨?_, .inr ⟨c', oc', vs', t', rfl, .head _, d1', d2'⟩⟩ fun q hq => .tail _ hq
      · intro q hq
        rcases List.mem_cons.mp hq with rfl | hq
        · exact .tail _ (.tail _ (.head _))
        · rcases List.mem_cons.mp hq with rfl | hq
          · exact .tail _ (.head _)
          · exact .tail _ (.tail _ (.tail _ hq))
      · intro q hq
        rcases List.mem_cons.mp hq with rfl | hq
        · exact Nat.ne_of_gt (l1 _ (.head _))
        · exact hapart q hq
  · refine nestHit_K F' N' T' C' rfl (.head _) (by kn_triples) (by kn_hit) rfl ?_
    intro f' ct' dc' h' tk' F' N' l1
    (try dsimp only at N')
    w_strict k_steps
    refine ⟨?_⟩
    w_strict (k_here; kn_here; k_dflt (refine wpAny_call ?_; (refine' code_nest ?k1 ?k2 ?k3 ?k4 ?k5 ?kA ?kF ?kK ?k6 ?k7 ?k8 ?k9 ?kB ?_ ?c2 ?c3 ?c4 ?c5; (case kA | kF | kK => exact rfl); (case k1 | k2 | k3 | k4 | k5 => k_asm); (case k6 => k_mem); (case k7 => first | exact codeRec_news (by k_asm) (by k_mem) (by assumption) (by assumption) | exact codeRec_news (by k_asm) (.tail _ (.tail _ hmem)) (by assumption) (by assumption) | exact codeRec_news (by k_asm) (List.Mem.tail _ (List.Mem.tail _ (by assumption))) (by assumption) (by assumption)); (case k8 => ktr_room); (case k9 => exact BindsTo.of_eq rfl); (case c5 => decide); (case kB => exact locs rfl); (case c2 | c3 | c4 => exact rfl); k_whole; intro g9 L9 h9 FG9 F9 N9 B9 X9 T9; (try dsimp only); (try k_lift B9); (try k_fold))))
    w_strict k_steps
    refine ⟨?_⟩
    (with_reducible rename Fr _ _ _ _ => F₀)
    (with_reducible rename News _ _ _ _ => N₀)
    refine if_mid F₀ N₀ (fun m₂ => ∃ tl tc, m₂ (Str.ofString "line") = some (.int (ln - 1 + 1) tl) ∧ m₂ (Str.ofString "column") = some (.int col tc)) (s₁ := s) ?_ ?_
    · w_strict k_steps
      · refine ⟨?_⟩
        (with_reducible rename Fr _ _ _ _ => F₇)
        (with_reducible rename News _ _ _ _ => N₈)
        have hcol := hcA (by omega)
        exact ⟨rfl, _, _, _, rfl, F₇, N₈, _, _, rfl, by rw [hcol]; rfl⟩
      · refine ⟨?_⟩
        (with_reducible rename Fr _ _ _ _ => F₇)
        (with_reducible rename News _ _ _ _ => N₈)
        have hcol := hcC (by omega)
        exact ⟨rfl, _, _, _, rfl, F₇, N₈, _, _, rfl, by rw [hcol]; rfl⟩
    · intro h₄ tk₄ m₄ F₄ N₄ K₄
      obtain ⟨tl, tc, c1, c2⟩ := K₄
      clear F₀ N₀
      dsimp only
      w_strict k_steps
      refine ⟨?_⟩
      w_strict (k_here; (with_reducible show wpAny _ _ (call (Value.ref 120) _ _) _ _ _); k_dflt (refine' call_exc (x := Str.ofString "TOMLDecodeError") ?F ?N ?O ?z ?_; (case F | N => k_asm); (case O => exact own_of_in (by k_asm) (by k_asm) (by k_is) (by k_exc)); (case z => (show 1 ≤ sizeLine; rw [sizeLine_eq]; omega)); k_whole); intro h8 e8 t8 F8 N8 l8 m8)
      w_strict k_steps
      rename_i kF kN kT kX
      exact suf_end hret kF kN l8 m8 (by simp only [errText, Str.empty_append, e1]) _ rest (fun q hq => .tail _ hq) hTab fun q hq => hq
end Mine
end
section
open PySem PySem.W PyProof.Rows
set_option Elab.async false
set_option compiler.extract_closed false
set_option linter.unusedVariables false
namespace Mine
theorem upd_same (m : Str → Option Value) (x : Str) (v v' : Option Value) : (fun y => if y = x then v' else bindM m x v y) = bindM m x v' := by
  funext y; unfold bindM; by_cases hy : y = x <;> simp [hy]
theorem while_np {w : World} {A : Around} {E : Value → Shared → Prop} {Q : Flow → Shared → Prop} {s : Shared} {env : Env} {h₀ : Heap} {L : Addr} {test : PySem.Expr} {body : List Stmt} {pos : Pos} {m : Str → Option Value} {news : List (Addr × Obj)}
    (J : Nat → (Str → Option Value) → List (Addr × Obj) → Prop) {n₀ : Nat}
    (F : Fr h₀ L s.heap m) (N : News h₀ L s.heap news) (hJ : J n₀ m news)
    (turn : ∀ n m₁ news₁ h₁ tk₁, Fr h₀ L h₁ m₁ → News h₀ L h₁ news₁ → J n m₁ news₁ →
      wpAny (model PG w) A (isTrue test env (eval test env)) (fun b s₂ =>
        if b = true then wpAny (model PG w) A (execs body env) (WhileStep2 h₀ L s J Q n) (fun _ _ => False) s₂ else Q .next s₂) (fun _ _ => False) { s with heap := h₁, toks := tk₁ }) :
    wpAny (model PG w) A (exec (.While test body [] pos) env) Q E s :=
  wpAny_mono (While_inv2 J F N hJ turn (hE := PassesOwn.never)) (fun _ _ h => h) (fun _ _ h => h.elim)

set_option maxRecDepth 100000 in
set_option maxHeartbeats 8000000 in
theorem spec_skip (w : World) (p : Program) (lo : List Str) (mean : ExcName → Option Value) (mg mb : Str → Option Value) (src : Str) (pos : Int) (t t2 : Tok) (ca : Addr) (S : Str → Bool) (kn : Nat) : Fill PySem.Challenge.rw_ij0172_01 hK →
  Spec w p lo mean mg mb fun dp un gd cn cs a ccd cl outer h₀ L m news s Q E =>
    dp + 1 < recursionLimit → un + 8 < cLine → src.length < 1000 → kn < 4096 → FrozAt (strKind PG w) h₀ ca S kn →
    ∀ e : Int, 0 ≤ pos → pos ≤ e → e < src.length → (∀ i : Int, pos ≤ i → i < e → S (Txt.item src i) = true) → S (Txt.item src e) = false →
    (∀ (h' : Heap) (tk tk' : Nat), Fr h₀ L h' m → News h₀ L h' news → Q (.int e tk) { s with heap := h', toks := tk' }) →
    wpAny (model PG w) (ktrTop dp un gd cn cs L a ccd cl outer) (call (.ref 130) [.str src t, .int pos t2, .ref ca]) Q E s := by
  w_top off
  k_fill
  intro _
  dsimp only [Spec]
  intro dp un gd cn cs a ccd cl outer A₀ base h₀ L m news s Q E B F X N T Z C hk hd hu hlen hkn hS e h0 h1 h2 h3 h4 hret
  refine wpAny_call ?_
  k_dflt cell_enter
  walk_at "mine norm"
  (with_reducible rename Fr h₀ L _ _ => FG)
  have hS' := froz_keeps hS (Fr.keep FG)
  clear hS
  walk1
  walk1
  walk1
  walk1
  rename_i g' L' h' _ F' N' B' X' T'
  refine while_np (n₀ := (e - pos).toNat) (fun n m₁ news₁ => ∃ (p : Int) (tp : Tok), pos ≤ p ∧ p ≤ e ∧ n = (e - p).toNat ∧ m₁ = bindM (fun y => [(Str.ofString "chars", Value.ref ca), (Str.ofString "pos", .int pos t2), (Str.ofString "src", .str src t)].lookup y) (Str.ofString "pos") (some (.int p tp)) ∧ news₁ = news) F' N' ?_ ?_
  · exact ⟨pos, t2, by omega, by omega, rfl, by funext y; unfold bindM; by_cases hy : y = Str.ofString "pos" <;> simp [hy, List.lookup] <;> rfl, rfl⟩
  · rintro n m₁ news₁ h₁ tk₁ F₁ N₁ ⟨p, tp, p1, p2, rfl, rfl, rfl⟩
    clear F' N'
    by_cases hp : p < e
    · have h5 := h3 p p1 hp
      k_steps
      exact ⟨_, _, _, _, (e - (p + 1)).toNat, rfl, by assumption, by assumption, by omega, p + 1, _, by omega, by omega, rfl, upd_same _ _ _ _, rfl⟩
    · obtain rfl : p = e := by omega
      k_steps
      exact hret _ _ _ (by assumption) (by assumption)
end Mine
end
section
open PySem PySem.W PySem.Calls PyProof.Rows
set_option Elab.async false
set_option compiler.extract_closed false
set_option linter.unusedVariables false
namespace Mine
structure Hold (P : Prop) : Prop where
  out : P
theorem hold {P : Prop} (h : Hold P) : P := h.out
section
variable {prog : Program} {w : World} {A : Around} {E : Value → Shared → Prop} {s : Shared} {env : Env} {h₀ : Heap} {C : Addr} {x : Str} {newId : String} {bmB : List Value} {mg : Str → Option Value}
theorem Raise_val {ex : PySem.Expr} {pos : Pos} {Q : Flow → Shared → Prop} (O : OwnCls x C bmB newId mg h₀) (hbase : bmB.contains (.type "BaseException") = true) (hh : A.handled = none)
    (h : wpAny (model prog w) A (eval ex env) (fun v s₁ => ∃ e t, v = .ref e ∧ (∀ b o, h₀.get? b = some o → s₁.heap.get? b = some o) ∧
      s₁.heap.get? e = some { cls := .ref C, data := .fields #[.ref t, .none, .none, .none, .bool false, .none] } ∧ E (.ref e) s₁) E s) :
    wpAny (model prog w) A (exec (.Raise (some ex) none pos) env) Q E s := by
  obtain ⟨bm, N, nm, q, bs, hdct, sn, sub, ab, col, dd, k0, k1, k2, k3, k5, mN, hC, hN, hni, T⟩ := O.obj
  rw [arm_exec_Raise]
  refine wpAny_bind (wpAny_standAt (wpAny_raiseStmt_made_sub (C := C) (nm := nm) (q := q) (N := N) (bs := bs) (bm := bm) (hdct := hdct) (sn := sn) (sub := sub) (ab := ab) (col := col) (dd := dd) (k0 := k0) (k1 := k1) (k2 := k2) (k3 := k3) (k5 := k5) (newId := newId) (T.hasType hbase) hh ?_))
  refine wpAny_bind (wpAny_mono h (fun v s₁ h₁ => ?_) fun _ _ x => x)
  refine wpAny_bind (wpAny_standAt (wpAny_pure ?_))
  obtain ⟨e, t, rfl, k, he, hE⟩ := h₁
  exact ⟨e, t, rfl, k _ _ hC, he, hE⟩
end
noncomputable def SeekJ (m : Str → Option Value) (x : Str) (lo q : Int) (news : List (Addr × Obj)) : Nat → (Str → Option Value) → List (Addr × Obj) → Prop :=
  fun n m₁ news₁ => ∃ (p : Int) (tp : Tok), lo ≤ p ∧ p ≤ q ∧ n = (q - p).toNat ∧ m₁ = bindM m x (some (.int p tp)) ∧ news₁ = news
theorem bindM_self {m : Str → Option Value} {x : Str} {v : Value} (h : m x = some v) : bindM m x (some v) = m := by
  funext y; unfold bindM; by_cases hy : y = x <;> simp [hy, h]
theorem while_seek {w : World} {A : Around} {E : Value → Shared → Prop} {Q : Flow → Shared → Prop} {s : Shared} {env : Env} {h₀ : Heap} {L : Addr} {test : PySem.Expr} {body : List Stmt} {pos : Pos} {m : Str → Option Value} {news : List (Addr × Obj)}
    {x : Str} {lo q : Int} {t₀ : Tok} (F : Fr h₀ L s.heap m) (N : News h₀ L s.heap news) (h0 : m x = some (.int lo t₀)) (hle : lo ≤ q)
    (turn : ∀ p tp h₁ tk₁, lo ≤ p → p ≤ q → Fr h₀ L h₁ (bindM m x (some (.int p tp))) → News h₀ L h₁ news →
      wpAny (model PG w) A (isTrue test env (eval test env)) (fun b s₂ =>
        if b = true then wpAny (model PG w) A (execs body env) (WhileStep2 h₀ L s (SeekJ m x lo q news) Q (q - p).toNat) (fun _ _ => False) s₂ else Q .next s₂) (fun _ _ => False) { s with heap := h₁, toks := tk₁ }) :
    wpAny (model PG w) A (exec (.While test body [] pos) env) Q E s := by
  refine while_np (SeekJ m x lo q news) (n₀ := (q - lo).toNat) F N ⟨lo, t₀, Int.le_refl _, hle, rfl, (bindM_self h0).symm, rfl⟩ ?_
  rintro n m₁ news₁ h₁ tk₁ F₁ N₁ ⟨p, tp, p1, p2, rfl, rfl, rfl⟩
  exact turn p tp h₁ tk₁ p1 p2 F₁ N₁
theorem seek_step {s : Shared} {Q : Flow → Shared → Prop} {h₀ h : Heap} {L : Addr} {m : Str → Option Value} {x : Str} {lo q p : Int} {tp tp' : Tok} {tk : Nat} {news : List (Addr × Obj)}
    (F : Fr h₀ L h (fun y => if y = x then some (.int (p + 1) tp') else bindM m x (some (.int p tp)) y)) (N : News h₀ L h news) (h1 : lo ≤ p) (h2 : p < q) :
    WhileStep2 h₀ L s (SeekJ m x lo q news) Q (q - p).toNat .next { s with heap := h, toks := tk } := by
  rw [upd_same] at F
  exact ⟨_, _, _, _, (q - (p + 1)).toNat, rfl, F, N, by omega, p + 1, _, by omega, by omega, rfl, rfl, rfl⟩
theorem Raise_our {w : World} {A : Around} {E : Value → Shared → Prop} {s : Shared} {env : Env} {h₀ : Heap} {mg : Str → Option Value} {ex : PySem.Expr} {pos : Pos} {Q : Flow → Shared → Prop}
    (O : OwnCls (Str.ofString "TOMLDecodeError") 120 [.type "ValueError", .type "Exception", .type "BaseException", .type "object"] "ValueError.__new__" mg h₀) (hh : A.handled = none)
    (h : wpAny (model PG w) A (eval ex env) (fun v s₁ => ∃ e t, v = .ref e ∧ (∀ b o, h₀.get? b = some o → s₁.heap.get? b = some o) ∧
      s₁.heap.get? e = some (excObj t) ∧ E (.ref e) s₁) E s) :
    wpAny (model PG w) A (exec (.Raise (some ex) none pos) env) Q E s := Raise_val O (by decide +kernel) hh h
noncomputable abbrev RaisesTo (base h₀ : Heap) (L : Addr) (m : Str → Option Value) (envs : List Env) (rest : List (Addr × Obj)) (T : Str) (E : Value → Shared → Prop) (s : Shared) : Prop :=
  ∀ h' g e t tk tk' ps' rest', Fr h₀ L g m → g.UpToSlots h' → RaisedS base g envs e (.ref 120) t [.str T tk] ((175, tabObj ps') :: rest') h' → TabL ps' rest' → (∀ q ∈ rest, q ∈ rest') → E (.ref e) { s with heap := h', toks := tk' }
theorem raise_end {w : World} {A : Around} {base h₀ g' h9 : Heap} {L L' e t a' : Addr} {m m' : Str → Option Value} {envs : List Env} {rest rest' : List (Addr × Obj)} {T : Str} {E E' : Value → Shared → Prop} {s : Shared} {tk : Tok} {tk' : Nat} {ps' : Array Value} {name : Str} {scope : Scope} {cd' : Value}
    (hr : RaisesTo base h₀ L m envs rest T E s) (FG : Fr h₀ L g' m) (B' : Below A base envs g') (kF : Fr g' L' h9 m') (kN : News g' L' h9 ((e, excObj t) :: (t, tupObj [.str T tk]) :: (175, tabObj ps') :: rest'))
    (hT : TabL ps' rest') (hl : ∀ q ∈ (175, tabObj ps') :: rest', q.1 ≠ e ∧ q.1 ≠ t) (het : e ≠ t) (hs : ∀ q ∈ rest, q ∈ rest') (hk : scope.kind = .function) :
    wpAny (model PG w) (A.deeper (envOf name scope L' a' cd')) (leaving (envOf name scope L' a' cd') (.ref e)) (fun _ s'' => E (.ref e) s'') E' { s with heap := h9, toks := tk' } := by
  obtain ⟨g, hm, F, N⟩ := remade kF kN hl het
  exact leave_raiseS B' hm F N (fun h' t R _ U => hr h' g' e t tk tk' ps' rest' FG U R hT hs) hk
theorem on_end {w : World} {A : Around} {base h₀ g' g : Heap} {L L' e t a' : Addr} {m m' : Str → Option Value} {envs : List Env} {rest rest' : List (Addr × Obj)} {T : Str} {E E' : Value → Shared → Prop} {s : Shared} {tk : Tok} {tk' : Nat} {h' : Heap} {ps' : Array Value} {name : Str} {scope : Scope} {cd' : Value}
    (hr : RaisesTo base h₀ L m envs rest T E s) (FG : Fr h₀ L g' m) (B' : Below A base envs g') (F : Fr g' L' g m') (U : g.UpToSlots h') (R : RaisedS base g (envOf name scope L' a' cd' :: envs) e (.ref 120) t [.str T tk] ((175, tabObj ps') :: rest') h')
    (hT : TabL ps' rest') (hs : ∀ q ∈ rest, q ∈ rest') :
    wpAny (model PG w) (A.deeper (envOf name scope L' a' cd')) (leaving (envOf name scope L' a' cd') (.ref e)) (fun _ s'' => E (.ref e) s'') E' { s with heap := h', toks := tk' } := by
  exact leave_onS B' F R U fun h'' R' _ U' => hr h'' g' e t tk tk' ps' rest' FG U' R' hT hs
/-- where a text stands: line and column of a place -/
structure Spot (src : Str) (pos ln col : Int) : Prop where
  line : cnt4 src (Str.ofString "\n") 0 pos = ln - 1
  pos1 : 1 ≤ ln
  small : ln < 1000
  first : ln = 1 → col = pos + 1
  later : ln ≠ 1 → ∃ n : Nat, ridx src (Str.ofString "\n") 0 pos = some n ∧ (n : Int) < 1000 ∧ col = pos - n
theorem suf_raise {w : World} {p : Program} {lo : List Str} {mean : ExcName → Option Value} {mg mb : Str → Option Value} {src msg : Str} {pos : Int} {t t2 t3 : Tok} {dp un : Nat} {gd : Option (List Code)} {cn : Str} {cs : Scope} {a : Addr} {ccd : Value} {cl : List (Str × Addr)} {outer : List Env} {A₀ : Around} {base h₀ : Heap} {L : Addr} {m : Str → Option Value} {s : Shared} {ps : Array Value} {rest : List (Addr × Obj)} {T : Str}
    {Ek Ek' : Value → Shared → Prop}
    (B : Below A₀ base outer h₀) (F : Fr h₀ L s.heap m) (X : (hK w.params).In h₀) (N : News h₀ L s.heap ((175, tabObj ps) :: rest)) (TT : Top p lo mean mg mb h₀) (Z : Sets w h₀) (C : CodeHd h₀ 179 175) (hk : cs.kind = .function) (hTab : TabL ps rest)
    (hd : dp + 2 < recursionLimit) (hu : un + 12 < cLine) (hlen : src.length < 1000) (hml : msg.length < 100) (h0 : 0 ≤ pos) (h1 : pos < src.length) {ln col : Int} (sp : Spot src pos ln col) (hT : errText msg ln col = T)
    (hend : ∀ h' tk tk' e t ps' rest', Fr h₀ L h' m → News h₀ L h' ((e, excObj t) :: (t, tupObj [.str T tk]) :: (175, tabObj ps') :: rest') → TabL ps' rest' → (∀ q ∈ (175, tabObj ps') :: rest', q.1 ≠ e ∧ q.1 ≠ t) → e ≠ t → (∀ q ∈ rest, q ∈ rest') → Ek (.ref e) { s with heap := h', toks := tk' }) :
    wpAny (model PG w) (ktrTop dp un gd cn cs L a ccd cl outer) (call (.ref 180) [.str src t, .int pos t2, .str msg t3])
      (fun v s₁ => ∃ e t, v = .ref e ∧ (∀ b o, h₀.get? b = some o → s₁.heap.get? b = some o) ∧ s₁.heap.get? e = some (excObj t) ∧ Ek (.ref e) s₁) Ek' s := by
  subst hT
  obtain ⟨s1, s2, s3, s4, s5⟩ := sp
  by_cases hl : ln = 1
  · exact spec_suf w p lo mean mg mb src msg pos t t2 t3 trivial dp un gd cn cs a ccd cl outer A₀ base h₀ L m _ s _ _ B F X N TT Z C hk ps rest rfl hTab hd hu hlen hml h0 h1 ln 0 col s1 s2 s3 (by decide) (by decide) s4 (fun h => absurd hl h) (fun h => absurd hl h)
      fun h' tk tk' e t ps' rest' kF kN hT hl het hs => ⟨e, t, rfl, kF.keep, (kN _ (.head _)).1, hend h' tk tk' e t ps' rest' kF kN hT hl het hs⟩
  · obtain ⟨n, n1, n2, n3⟩ := s5 hl
    exact spec_suf w p lo mean mg mb src msg pos t t2 t3 trivial dp un gd cn cs a ccd cl outer A₀ base h₀ L m _ s _ _ B F X N TT Z C hk ps rest rfl hTab hd hu hlen hml h0 h1 ln n col s1 s2 s3 (by omega) n2 s4 (fun _ => ⟨n, n1, rfl⟩) (fun _ => n3)
      fun h' tk tk' e t ps' rest' kF kN hT hl het hs => ⟨e, t, rfl, kF.keep, (kN _ (.head _)).1, hend h' tk tk' e t ps' rest' kF kN hT hl het hs⟩
end Mine
end
section
open PySem PySem.W PyProof.Rows PySem.Builtin
set_option Elab.async false
set_option compiler.extract_closed false
set_option linter.unusedVariables false
namespace Mine
theorem typeCall_int_2 (a b : Value) : checkTypeCall "int" ⟨[a, b], []⟩ = pure () := by kernel_rfl
theorem newCall_int_2 (a b : Value) : checkBuiltinCall "int.__new__" ⟨[.type "int", a, b], []⟩ = pure () := by kernel_rfl
noncomputable abbrev hexT : PySem.Str := PySem.Str.ofString "002E"
theorem hex_reads : (int_private% "readNumeral") 0 16 (hexT.cps.toList.takeWhile (· != 0)) = (int_private% "Numeral.value") 46 := by kernel_rfl
theorem hex_len : (hexT.cps.toList.takeWhile (· != 0)).length ≤ 640 := by decide +kernel
theorem hex_same : ((hexT.cps.toList.takeWhile (· != 0)).length == hexT.cps.toList.length) = true := by decide +kernel
theorem hex_text {M : Model} {A : Around} {E : Value → Shared → Prop} {s : Shared} {Q : Value → Shared → Prop} {v : Value} {text : List Nat} (ht : text = hexT.cps.toList)
    (h : Q (.int 46 s.toks) { s with toks := s.toks + 1 }) :
    wpAny M A ((int_private% "intFromText") v text 16) Q E s := by
  subst ht
  obtain ⟨hp, g, d, tk, os⟩ := s
  have hs := hex_len
  have hr := hex_reads
  have ha := hex_same
  generalize hexT.cps.toList = text at hs hr ha ⊢
  repeat (any_goals (first
    | assumption
    | (with_reducible refine wpAny_ite_true (decide_eq_true hs) ?_)
    | (with_reducible refine wpAny_ite_true (decide_eq_true ha) ?_)
    | wp_step))
  all_goals (try rw [hr])
  all_goals (try dsimp only)
  repeat (any_goals (first
    | assumption
    | (with_reducible refine wpAny_ite_true (decide_eq_true hs) ?_)
    | (with_reducible refine wpAny_ite_true (decide_eq_true ha) ?_)
    | wp_step))
set_option maxHeartbeats 4000000 in
theorem gives_hex {u v : Tok} : Gives (Builtin.«int.__new__» ⟨[.type "int", .str hexT u, .int 16 v], []⟩) (.int 46) :=
  .of_wp fun M A E s Q h => by
    obtain ⟨hp, g, d, tk, os⟩ := s
    have f1 := F.conv_sub_int
    have f2 := F.madeHere_int
    have f3 := KIN.str_int
    have f4 := KIN.str_idx
    have f5 := KIN.str_trunc
    have f6 : typeOf (.str hexT u) = pure (.type "str") := rfl
    repeat (any_goals (first
      | assumption
      | ((with_reducible show wpAny _ _ ((int_private% "intFromText") _ _ _) _ _ _); refine hex_text (by decide +kernel) ?_)
      | wp_step))
    all_goals first | exact ⟨_, rfl, h⟩ | skip
theorem call_hex {prog : Program} {w : World} {A : Around} {E : Value → Shared → Prop} {s : Shared} {Q : Value → Shared → Prop} {t u : Tok} (h : Q (.int 46 s.toks) { s with toks := s.toks + 1 }) :
    wpAny (model prog w) A (call (.type "int") [.str hexT t, .int 16 u]) Q E s :=
  callType_new F.called_int F.newNe_int (typeCall_int_2 _ _) (newCall_int_2 _ _) (fun obj => F.args_object_init_3 obj _ _) F.entry_int_new gives_hex.meets (show (Made.int 46).post _ s from ⟨rfl, h⟩)
end Mine
end
section
open PySem PySem.W PyProof.Rows
set_option Elab.async false
set_option compiler.extract_closed false
set_option linter.unusedVariables false
namespace Mine
local macro_rules | `(tactic| walk_at "getMethod ref") => `(tactic| ((with_reducible show wpAny _ _ (getMethod (Value.ref _) (PySem.Str.ofString "issuperset") _) _ _ _); refine method_froz (by assumption) (by assumption) slot_issuperset type_issuperset ?_))
local macro_rules | `(tactic| walk_at "call builtin:frozenset.issuperset") => `(tactic| (refine froz_issuperset rfl (by assumption) (by assumption) (by assumption) (by decide) (by assumption) ?_; intro h' tk' F' N'))
local macro_rules | `(tactic| walk_at "exec If") => `(tactic| ((rename Txt.slice _ _ _ = _ => qq); (with_reducible rename Fr _ _ _ _ => FX); rw [qq] at FX; clear qq))
local macro_rules | `(tactic| walk_at "call type:int") => `(tactic| (refine call_hex ?_))
local macro_rules | `(tactic| walk_at "call ref") => `(tactic| (refine hold ?_))
theorem sup_hex : ((signs (Str.ofString "002E")).all fun c => S104 c) = true := by decide +kernel
set_option maxRecDepth 100000 in
set_option maxHeartbeats 8000000 in
theorem spec_hex (w : World) (p : Program) (lo : List Str) (mean : ExcName → Option Value) (mg mb : Str → Option Value) (src : Str) (pos : Int) (t t2 t3 : Tok) : Fill PySem.Challenge.rw_ij0172_01 hK →
  Spec w p lo mean mg mb fun dp un gd cn cs a ccd cl outer h₀ L m news s Q E => 
    dp + 4 < recursionLimit → un + 24 < cLine → src.length < 1000 → 0 ≤ pos → pos + 4 ≤ src.length → FrozAt (strKind PG w) h₀ 104 S104 22 →
    Txt.slice src (some pos) (some (pos + 4)) = Str.ofString "002E" →
    (∀ (h' : Heap) (b : Addr) (t1 t2 : Tok) (tk' : Nat), Fr h₀ L h' m → News h₀ L h' ((b, tupObj [.int (pos + 4) t1, .str (Str.ofString ".") t2]) :: news) → Q (.ref b) { s with heap := h', toks := tk' }) →
    wpAny (model PG w) (ktrTop dp un gd cn cs L a ccd cl outer) (call (.ref 159) [.str src t, .int pos t2, .int 4 t3]) Q E s := by
  w_top off
  k_fill
  intro _
  dsimp only [Spec]
  intro dp un gd cn cs a ccd cl outer A₀ base h₀ L m news s Q E B F X N T Z C hk hd hu hlen hpos hp4 hS hsl hret
  have hsup := sup_hex
  refine wpAny_call ?_
  k_dflt cell_enter
  walk_at "mine norm"
  (with_reducible rename Fr h₀ L _ _ => FG)
  have hS' := froz_keeps hS (Fr.keep FG)
  clear hS
  rename_i g' L' h' F' N' B' X' T'
  w_strict k_steps
  refine ⟨?_⟩
  refine wpAny_call ?_
  k_dflt (refine' code_def ?k1 ?k2 ?k3 ?k4 ?k5 ?kA ?kF ?kK ?k6 ?k7 ?k8 ?k9 ?kB ?_ ?c2 ?c3 ?c4 ?c5; (case kA | kF | kK => exact rfl); (case k1 | k2 | k3 | k4 | k5 => k_asm); (case k6 | k7 => k_is); (case k8 => ktr_room); (case k9 => exact BindsTo.of_eq rfl); (case c5 => decide); (case kB => exact locs rfl); (case c2 | c3 | c4 => exact rfl); k_whole; intro g9 L9 h9 FG9 F9 N9 B9 X9 T9; (try dsimp only); (try k_lift B9); (try k_fold))
  walk_at "mine norm"
  w_strict k_steps
  exact hret _ _ _ _ _ (by assumption) (by assumption)
end Mine
end
section
open PySem PySem.Spec PySem.W PyProof.Rows PyProof.V PySem.Builtin
set_option Elab.async false
set_option compiler.extract_closed false
set_option linter.unusedVariables false
namespace Mine
theorem owner_mappingproxy : Manifest.owners.lookup (String.ofList ['y', 'x', 'o', 'r', 'p', 'g', 'n', 'i', 'p', 'p', 'a', 'm'].reverse) = some Manifest.sig_mappingproxy := by kernel_rfl
theorem slot_mp_getitem : Slot "mappingproxy" "__getitem__" "mappingproxy.__getitem__" :=
  .of (owner := "mappingproxy") (n := "__getitem__") (by rw [typeLookup_type, builtinLookup_eq_fast]; kernel_rfl) (by decide +kernel) (by decide +kernel) (by decide +kernel)
    (by first | exact .inl (by decide +kernel) | exact .inr (by decide +kernel)) (by rw [isSubtype_type]; kernel_rfl)
theorem entry_mp_getitem : entryFor table "mappingproxy.__getitem__" = some Builtin.«mappingproxy.__getitem__» := entryFor_of_tree (by kernel_rfl)
theorem args_mp_getitem (a b : Value) : argsOk "mappingproxy.__getitem__" ⟨[a, b], []⟩ := by
  unfold argsOk; rw [signature?_of (id := "mappingproxy.__getitem__") (n := ['_', '_', 'm', 'e', 't', 'i', 't', 'e', 'g', '_', '_']) (o := ['y', 'x', 'o', 'r', 'p', 'g', 'n', 'i', 'p', 'p', 'a', 'm']) (by kernel_rfl) owner_mappingproxy]; kernel_rfl
section
variable {prog : Program} {w : World} {A : Around} {E : Value → Shared → Prop} {s : Shared} {a d : Addr} {o : Obj} {vs : Array Value}
theorem item_proxy {value slice : PySem.Expr} {x : Str} {t : Tok} {dv : PyData} {D : List (PyData × PyData)} {Q : Value → Shared → Prop} (ho : s.heap.get? a = some o) (hc : o.cls = .type "mappingproxy") (hv : o.data = .fields vs) (h0 : vs[0]? = some (.ref d))
    (T : StrTab prog w s.heap d D) (hl : lookup (.str x) D = some dv) (h : ∀ v, Flat v dv → Q v { s with toks := s.toks + 1 })
    (hs : subscripted slice false (.ref a) (.str x t) = operate [.ref a, .str x t] (getItem (.ref a) (.str x t)) := by with_unfolding_all rfl) :
    wpAny (model prog w) A (subscriptTail value slice (.ref a) (.str x t)) Q E s := by
  have hT : s.TypeIs (.ref a) "mappingproxy" := ⟨_, ho, hc⟩
  obtain ⟨lo, kvs, hd, hf⟩ := T
  obtain ⟨v, hv', hfl⟩ := hf.of_lookup same_str hl
  refine subscriptTail_builtin_flat hT slot_mp_getitem.lookup (wpAny_getItem_slot hT (by decide) slot_mp_getitem (wpAny_call_entry slot_mp_getitem hT entry_mp_getitem ?_ (args_mp_getitem _ _))) hs
  unfold Builtin.«mappingproxy.__getitem__»
  refine wpAny_bind (wpAny_pure ?_)
  dsimp only
  refine wpAny_bind (wpAny_field ho hv h0 ?_)
  refine wpAny_bind (wpAny_getItem_of (strKind_is prog w x t) hd.mapOf hv' ?_)
  exact wpAny_pure ⟨_, rfl, Flat.notRef hfl, h v hfl⟩
end
noncomputable def escD : List (Str × PyData) := [(Str.ofString "\\b", .str (Str.ofString "\x08")), (Str.ofString "\\t", .str (Str.ofString "\t")), (Str.ofString "\\n", .str (Str.ofString "\n")), (Str.ofString "\\f", .str (Str.ofString "\x0c")), (Str.ofString "\\r", .str (Str.ofString "\r")), (Str.ofString "\\\"", .str (Str.ofString "\"")), (Str.ofString "\\\\", .str (Str.ofString "\\"))]
theorem tab109 (w : World) {h : Heap} (x : (hK w.params).In h) : StrTab PG w h 109 (escD.map fun p => (PyData.str p.1, p.2)) :=
  kt_tab_in PG w x (by kernel_rfl) (by decide) (by kernel_rfl)
theorem look109 : lookup (.str (Str.ofString "\\\\")) (escD.map fun p => (PyData.str p.1, p.2)) = some (.str (Str.ofString "\\")) := by kernel_rfl
theorem item_bs {w : World} {A : Around} {E : Value → Shared → Prop} {s : Shared} {h₀ : Heap} {L : Addr} {m : Str → Option Value} {value slice : PySem.Expr} {t : Tok} {Q : Value → Shared → Prop} (F : Fr h₀ L s.heap m) (X : (hK w.params).In h₀)
    (h : ∀ u tk, Q (.str (Str.ofString "\\") u) { s with toks := tk })
    (hs : subscripted slice false (.ref 110) (.str (Str.ofString "\\\\") t) = operate [.ref 110, .str (Str.ofString "\\\\") t] (getItem (.ref 110) (.str (Str.ofString "\\\\") t)) := by with_unfolding_all rfl) : wpAny (model PG w) A (subscriptTail value slice (.ref 110) (.str (Str.ofString "\\\\") t)) Q E s := by
  refine item_proxy (d := 109) (F.keep _ _ (X 110 (o_110 w.params) (by kernel_rfl))) rfl rfl rfl (tab109 w fun b o q => F.keep _ _ (X b o q)) look109 (fun v hv => ?_) hs
  obtain ⟨u, rfl⟩ : ∃ u, v = .str (Str.ofString "\\") u := by
    have r := hv {}
    cases r
    exact ⟨_, rfl⟩
  exact h _ _
end Mine
end
section
open PySem PySem.W PyProof.Rows
set_option Elab.async false
set_option compiler.extract_closed false
set_option linter.unusedVariables false
namespace Mine
local macro_rules | `(tactic| walk_at "exec If") => `(tactic| ((rename Txt.slice _ _ _ = _ => qq); (with_reducible rename Fr _ _ _ _ => FX); rw [qq] at FX; clear qq))
local macro_rules | `(tactic| walk_at "exec Raise some none") => `(tactic| (refine hold ?_))
local macro_rules | `(tactic| walk_at "subscriptTail") => `(tactic| ((with_reducible show wpAny _ _ (subscriptTail _ _ (Value.ref 110) (Value.str _ _)) _ _ _); refine item_bs (by assumption) (by assumption) ?_; intro u' tk'))
local macro_rules | `(tactic| walk_at "call ref") => `(tactic| (refine hold ?_))
theorem skip_at {w : World} {p : Program} {lo : List Str} {mean : ExcName → Option Value} {mg mb : Str → Option Value} {src : Str} {pos : Int} {t t2 : Tok} {ca : Addr} {S : Str → Bool} {kn : Nat} {dp un : Nat} {gd : Option (List Code)} {cn : Str} {cs : Scope} {a : Addr} {ccd : Value} {cl : List (Str × Addr)} {outer : List Env} {A₀ : Around} {base h₀ : Heap} {L : Addr} {m : Str → Option Value} {s : Shared} {news : List (Addr × Obj)} {Q E : Value → Shared → Prop}
    (B : Below A₀ base outer h₀) (F : Fr h₀ L s.heap m) (X : (hK w.params).In h₀) (N : News h₀ L s.heap news) (TT : Top p lo mean mg mb h₀) (Z : Sets w h₀) (C : CodeHd h₀ 179 175) (hk : cs.kind = .function)
    (hS : FrozAt (strKind PG w) h₀ ca S kn) (hd : dp + 1 < recursionLimit) (hu : un + 8 < cLine) (hlen : src.length < 1000) (hkn : kn < 4096) (e : Int) (h0 : 0 ≤ pos) (h1 : pos ≤ e) (h2 : e < src.length) (h3 : ∀ i : Int, pos ≤ i → i < e → S (Txt.item src i) = true) (h4 : S (Txt.item src e) = false)
    (hret : ∀ (h' : Heap) (tk tk' : Nat), Fr h₀ L h' m → News h₀ L h' news → Q (.int e tk) { s with heap := h', toks := tk' }) :
    wpAny (model PG w) (ktrTop dp un gd cn cs L a ccd cl outer) (call (.ref 130) [.str src t, .int pos t2, .ref ca]) Q E s :=
  spec_skip w p lo mean mg mb src pos t t2 ca S kn trivial dp un gd cn cs a ccd cl outer A₀ base h₀ L m news s Q E B F X N TT Z C hk hd hu hlen hkn hS e h0 h1 h2 h3 h4 hret
theorem news_drop2 {h₀ h : Heap} {L : Addr} {a b : Addr × Obj} {news : List (Addr × Obj)} (N : News h₀ L h (a :: b :: news)) : News h₀ L h (a :: news) := fun q hq => by
  rcases List.mem_cons.mp hq with rfl | hq
  · exact N _ (.head _)
  · exact N _ (.tail _ (.tail _ hq))
theorem news_tail {h₀ h : Heap} {L : Addr} {a : Addr × Obj} {news : List (Addr × Obj)} (N : News h₀ L h (a :: news)) : News h₀ L h news := fun q hq => N q (.tail _ hq)
theorem raise_hyp {base₀ : Heap} {A₀ : Around} {outer : List Env} {h₀ : Heap} (B : Below A₀ base₀ outer h₀) {P : Heap → Prop} (h : ∀ base A₀, Below A₀ base outer h₀ → P base) : P base₀ := h _ _ B
set_option maxRecDepth 100000 in
set_option maxHeartbeats 8000000 in
theorem esc_nl (w : World) (p : Program) (lo : List Str) (mean : ExcName → Option Value) (mg mb : Str → Option Value) (src : Str) (pos : Int) (t t2 : Tok) : Fill PySem.Challenge.rw_ij0172_01 hK →
  SpecB w p lo mean mg mb fun dp un gd cn cs a ccd cl outer base h₀ L m news s Q E => 
    dp + 6 < recursionLimit → un + 40 < cLine → src.length < 1000 → 0 ≤ pos → pos + 2 ≤ src.length → 
    Txt.slice src (some pos) (some (pos + 2)) = Str.ofString "\\\n" →
    ∀ e : Int, pos + 2 ≤ e → e < src.length → (∀ i : Int, pos + 2 ≤ i → i < e → S103 (Txt.item src i) = true) → S103 (Txt.item src e) = false →
    (∀ (h' : Heap) (b : Addr) (t1 t2 : Tok) (tk' : Nat), Fr h₀ L h' m → News h₀ L h' ((b, tupObj [.int e t1, .str (Str.ofString "") t2]) :: news) → Q (.ref b) { s with heap := h', toks := tk' }) →
    wpAny (model PG w) (ktrTop dp un gd cn cs L a ccd cl outer) (call (.ref 145) [.str src t, .int pos t2] [((Str.ofString "multiline"), .bool true)]) Q E s := by
  w_top off
  k_fill
  intro _
  dsimp only [SpecB]
  intro dp un gd cn cs a ccd cl outer A₀ base h₀ L m news s Q E B F X N T Z C hk hd hu hlen hpos hp2
  intro hsl e h1 h2 h3 h4 hret
  refine wpAny_call ?_
  k_dflt cell_enter
  walk_at "mine norm"
  (with_reducible rename Fr h₀ L _ _ => FG)
  have Z' := Sets.keeps Z (Fr.keep FG)
  have C' := CodeHd.keeps C (Fr.keep FG)
  rename_i g' L' h' F' N' B' X' T'
  w_strict k_steps
  refine ⟨?_⟩
  (with_reducible rename Fr g' L' _ _ => F₂)
  (with_reducible rename News g' L' _ _ => N₂)
  refine' skip_at B' F₂ X' N₂ T' Z' C' rfl Z'.s103 ?kd ?ku hlen (by decide) e ?k0 h1 h2 h3 h4 ?_
  case kd => ktr_room
  case ku => ktr_room
  case k0 => omega
  intro h₂ tk₂ tk₃ F₃ N₃
  clear F₂ N₂
  w_strict k_steps
  exact hret _ _ _ _ _ (by assumption) (news_drop2 (by assumption))

set_option maxRecDepth 100000 in
set_option maxHeartbeats 8000000 in
theorem esc_spb (w : World) (p : Program) (lo : List Str) (mean : ExcName → Option Value) (mg mb : Str → Option Value) (src : Str) (pos : Int) (t t2 : Tok) : Fill PySem.Challenge.rw_ij0172_01 hK →
  SpecB w p lo mean mg mb fun dp un gd cn cs a ccd cl outer base h₀ L m news s Q E => 
    dp + 6 < recursionLimit → un + 40 < cLine → src.length < 1000 → 0 ≤ pos → pos + 2 ≤ src.length → 
    Txt.slice src (some pos) (some (pos + 2)) = Str.ofString "\\ " → pos + 2 < src.length → S95 (Txt.item src (pos + 2)) = false →
    ((Txt.item src (pos + 2) != Str.ofString "\n") = true → ∃ (ps : Array Value) (rest : List (Addr × Obj)) (ln col : Int), news = (175, tabObj ps) :: rest ∧ TabL ps rest ∧ Spot src (pos + 2) ln col ∧ RaisesTo base h₀ L m (envX cn cs L a ccd cl :: outer) rest (errText (Str.ofString "Unescaped '\\' in a string") ln col) E s) →
    ((Txt.item src (pos + 2) != Str.ofString "\n") = false → ∃ e : Int, pos + 2 + 1 ≤ e ∧ e < src.length ∧ (∀ i : Int, pos + 2 + 1 ≤ i → i < e → S103 (Txt.item src i) = true) ∧ S103 (Txt.item src e) = false ∧
      ∀ (h' : Heap) (b : Addr) (t1 t2 : Tok) (tk' : Nat), Fr h₀ L h' m → News h₀ L h' ((b, tupObj [.int e t1, .str (Str.ofString "") t2]) :: news) → Q (.ref b) { s with heap := h', toks := tk' }) →
    wpAny (model PG w) (ktrTop dp un gd cn cs L a ccd cl outer) (call (.ref 145) [.str src t, .int pos t2] [((Str.ofString "multiline"), .bool true)]) Q E s := by
  k_fill
  intro _
  dsimp only [SpecB]
  intro dp un gd cn cs a ccd cl outer A₀ base h₀ L m news s Q E B F X N T Z C hk hd hu hlen hpos hp2
  intro hsl h2 h95 hbad hgood
  refine wpAny_call ?_
  k_dflt cell_enter
  walk_at "mine norm"
  (with_reducible rename Fr h₀ L _ _ => FG)
  have Z' := Sets.keeps Z (Fr.keep FG)
  have C' := CodeHd.keeps C (Fr.keep FG)
  rename_i g' L' h' F' N' B' X' T'
  w_strict k_steps
  refine ⟨?_⟩
  (with_reducible rename Fr g' L' _ _ => F₂)
  (with_reducible rename News g' L' _ _ => N₂)
  refine' skip_at B' F₂ X' N₂ T' Z' C' rfl Z'.s95 ?kd ?ku hlen (by decide) (pos + 2) ?k0 ?k1 h2 ?k3 h95 ?_
  case kd => ktr_room
  case ku => ktr_room
  case k0 => omega
  case k1 => exact Int.le_refl _
  case k3 => intro i i1 i2; exact absurd i2 (Int.not_lt.mpr i1)
  intro h₂ tk₂ tk₃ F₃ N₃
  clear F₂ N₂
  w_strict k_steps
  all_goals refine ⟨?_⟩
  · obtain ⟨ps, rest, ln, col, hn, hTab, hsp, hraise⟩ := hbad (by assumption)
    clear hgood hbad
    subst hn
    refine' Raise_our ?O rfl ?_; (case O => exact own_of_in X' (topRead_of T') (by k_is) (by k_exc))
    w_strict k_steps
    refine ⟨?_⟩
    (with_reducible rename Fr g' L' _ _ => F₂)
    (with_reducible rename News g' L' _ _ => N₂)
    refine' suf_raise B' F₂ X' (news_tail N₂) T' Z' C' rfl hTab ?kd ?ku hlen ?kl ?k0 h2 hsp rfl (fun h' tk tk' e t ps' rest' kF kN hT hl het hs => raise_end hraise FG B' kF kN hT hl het hs rfl)
    case kd => ktr_room
    case ku => ktr_room
    case kl => decide +kernel
    case k0 => omega
  · obtain ⟨e, h1, h2, h3, h4, hret⟩ := hgood (by assumption)
    clear hbad hgood
    (with_reducible rename Fr g' L' _ _ => F₂)
    (with_reducible rename News g' L' _ _ => N₂)
    refine' skip_at B' F₂ X' N₂ T' Z' C' rfl Z'.s103 ?kd ?ku hlen (by decide) e ?k0 h1 h2 h3 h4 ?_
    case kd => ktr_room
    case ku => ktr_room
    case k0 => omega
    intro h₂ tk₂ tk₃ F₃ N₃
    clear F₂ N₂
    w_strict k_steps
    exact hret _ _ _ _ _ (by assumption) (news_drop2 (by assumption))
theorem esc_sp (w : World) (p : Program) (lo : List Str) (mean : ExcName → Option Value) (mg mb : Str → Option Value) (src : Str) (pos : Int) (t t2 : Tok) : Fill PySem.Challenge.rw_ij0172_01 hK →
  SpecB w p lo mean mg mb fun dp un gd cn cs a ccd cl outer base h₀ L m news s Q E => 
    dp + 6 < recursionLimit → un + 40 < cLine → src.length < 1000 → 0 ≤ pos → pos + 2 ≤ src.length → 
    Txt.slice src (some pos) (some (pos + 2)) = Str.ofString "\\ " →
    ∀ e : Int, pos + 2 + 1 ≤ e → e < src.length → Txt.item src (pos + 2) = ch 10 → (∀ i : Int, pos + 2 + 1 ≤ i → i < e → S103 (Txt.item src i) = true) → S103 (Txt.item src e) = false →
    (∀ (h' : Heap) (b : Addr) (t1 t2 : Tok) (tk' : Nat), Fr h₀ L h' m → News h₀ L h' ((b, tupObj [.int e t1, .str (Str.ofString "") t2]) :: news) → Q (.ref b) { s with heap := h', toks := tk' }) →
    wpAny (model PG w) (ktrTop dp un gd cn cs L a ccd cl outer) (call (.ref 145) [.str src t, .int pos t2] [((Str.ofString "multiline"), .bool true)]) Q E s := by
  intro hf dp un gd cn cs a ccd cl outer A₀ base h₀ L m news s Q E B F X N T Z C hk hd hu hlen hpos hp2 hsl e h1 h2 hit h3 h4 hret
  refine esc_spb w p lo mean mg mb src pos t t2 hf dp un gd cn cs a ccd cl outer A₀ base h₀ L m news s Q E B F X N T Z C hk hd hu hlen hpos hp2 hsl (Int.lt_trans (Int.lt_of_lt_of_le (Int.lt_add_one_of_le (Int.le_refl _)) h1) h2) (by rw [hit]; decide) (fun h => ?_) fun _ => ⟨e, h1, h2, h3, h4, hret⟩
  rw [hit] at h
  exact absurd h (by decide)
theorem esc_bad (w : World) (p : Program) (lo : List Str) (mean : ExcName → Option Value) (mg mb : Str → Option Value) (src : Str) (pos : Int) (t t2 : Tok) : Fill PySem.Challenge.rw_ij0172_01 hK →
  SpecB w p lo mean mg mb fun dp un gd cn cs a ccd cl outer base h₀ L m news s Q E => 
    dp + 6 < recursionLimit → un + 40 < cLine → src.length < 1000 → 0 ≤ pos → pos + 2 ≤ src.length → 
    ∀ ps rest, news = (175, tabObj ps) :: rest → TabL ps rest →
    Txt.slice src (some pos) (some (pos + 2)) = Str.ofString "\\ " →
    ∀ ln col : Int, pos + 2 < src.length → S103 (Txt.item src (pos + 2)) = false → S95 (Txt.item src (pos + 2)) = false → (Txt.item src (pos + 2) != Str.ofString "\n") = true → Spot src (pos + 2) ln col →
    (RaisesTo base h₀ L m (envX cn cs L a ccd cl :: outer) rest (errText (Str.ofString "Unescaped '\\' in a string") ln col) E s) →
    wpAny (model PG w) (ktrTop dp un gd cn cs L a ccd cl outer) (call (.ref 145) [.str src t, .int pos t2] [((Str.ofString "multiline"), .bool true)]) Q E s := by
  intro hf dp un gd cn cs a ccd cl outer A₀ base h₀ L m news s Q E B F X N T Z C hk hd hu hlen hpos hp2 ps rest hn hTab hsl ln col h2 hit h95 hne hsp hraise
  exact esc_spb w p lo mean mg mb src pos t t2 hf dp un gd cn cs a ccd cl outer A₀ base h₀ L m news s Q E B F X N T Z C hk hd hu hlen hpos hp2 hsl h2 h95 (fun _ => ⟨ps, rest, ln, col, hn, hTab, hsp, hraise⟩) fun h => by rw [hne] at h; cases h
set_option maxRecDepth 100000 in
set_option maxHeartbeats 8000000 in
theorem esc_hex (w : World) (p : Program) (lo : List Str) (mean : ExcName → Option Value) (mg mb : Str → Option Value) (src : Str) (pos : Int) (t t2 : Tok) : Fill PySem.Challenge.rw_ij0172_01 hK →
  SpecB w p lo mean mg mb fun dp un gd cn cs a ccd cl outer base h₀ L m news s Q E => 
    dp + 6 < recursionLimit → un + 40 < cLine → src.length < 1000 → 0 ≤ pos → pos + 2 ≤ src.length → 
    Txt.slice src (some pos) (some (pos + 2)) = Str.ofString "\\u" → pos + 2 + 4 ≤ src.length →
    Txt.slice src (some (pos + 2)) (some (pos + 2 + 4)) = Str.ofString "002E" →
    (∀ (h' : Heap) (b : Addr) (t1 t2 : Tok) (tk' : Nat), Fr h₀ L h' m → News h₀ L h' ((b, tupObj [.int (pos + 2 + 4) t1, .str (Str.ofString ".") t2]) :: news) → Q (.ref b) { s with heap := h', toks := tk' }) →
    wpAny (model PG w) (ktrTop dp un gd cn cs L a ccd cl outer) (call (.ref 145) [.str src t, .int pos t2] [((Str.ofString "multiline"), .bool true)]) Q E s := by
  k_fill
  intro _
  dsimp only [SpecB]
  intro dp un gd cn cs a ccd cl outer A₀ base h₀ L m news s Q E B F X N T Z C hk hd hu hlen hpos hp2
  intro hsl h6 hsl2 hret
  have hq := Hold.mk hsl2
  clear hsl2
  refine wpAny_call ?_
  k_dflt cell_enter
  walk_at "mine norm"
  (with_reducible rename Fr h₀ L _ _ => FG)
  have Z' := Sets.keeps Z (Fr.keep FG)
  have C' := CodeHd.keeps C (Fr.keep FG)
  rename_i g' L' h' F' N' B' X' T'
  w_strict k_steps
  refine ⟨?_⟩
  (with_reducible rename Fr g' L' _ _ => F₂)
  (with_reducible rename News g' L' _ _ => N₂)
  refine spec_hex w _ _ _ _ _ src (pos + 2) _ _ _ trivial _ _ _ _ _ _ _ _ _ _ _ _ _ _ _ _ _ _ B' F₂ X' N₂ T' Z' C' rfl (by ktr_room) (by ktr_room) hlen (by omega) h6 Z'.s104 hq.out ?_
  intro h₂ b₂ tk₂ tk₃ tk₄ F₃ N₃
  clear F₂ N₂
  w_strict k_steps
  exact hret _ _ _ _ _ (by assumption) (news_drop2 (by assumption))

set_option maxRecDepth 100000 in
set_option maxHeartbeats 8000000 in
theorem esc_bs (w : World) (p : Program) (lo : List Str) (mean : ExcName → Option Value) (mg mb : Str → Option Value) (src : Str) (pos : Int) (t t2 : Tok) : Fill PySem.Challenge.rw_ij0172_01 hK →
  SpecB w p lo mean mg mb fun dp un gd cn cs a ccd cl outer base h₀ L m news s Q E => 
    dp + 6 < recursionLimit → un + 40 < cLine → src.length < 1000 → 0 ≤ pos → pos + 2 ≤ src.length → 
    Txt.slice src (some pos) (some (pos + 2)) = Str.ofString "\\\\" →
    (∀ (h' : Heap) (b : Addr) (t1 t2 : Tok) (tk' : Nat), Fr h₀ L h' m → News h₀ L h' ((b, tupObj [.int (pos + 2) t1, .str (Str.ofString "\\") t2]) :: news) → Q (.ref b) { s with heap := h', toks := tk' }) →
    wpAny (model PG w) (ktrTop dp un gd cn cs L a ccd cl outer) (call (.ref 145) [.str src t, .int pos t2] [((Str.ofString "multiline"), .bool true)]) Q E s := by
  k_fill
  intro _
  dsimp only [SpecB]
  intro dp un gd cn cs a ccd cl outer A₀ base h₀ L m news s Q E B F X N T Z C hk hd hu hlen hpos hp2
  intro hsl hret
  refine wpAny_call ?_
  k_dflt cell_enter
  walk_at "mine norm"
  (with_reducible rename Fr h₀ L _ _ => FG)
  have Z' := Sets.keeps Z (Fr.keep FG)
  have C' := CodeHd.keeps C (Fr.keep FG)
  rename_i g' L' h' F' N' B' X' T'
  w_strict k_steps
  exact hret _ _ _ _ _ (by assumption) (news_drop2 (by assumption))

end Mine
end
section
open PySem PySem.W PyProof.Rows
set_option Elab.async false
set_option compiler.extract_closed false
set_option linter.unusedVariables false
namespace Mine
local macro_rules | `(tactic| walk_at "call ref") => `(tactic| (refine hold ?_))
structure EscOk (src : Str) (pos e : Int) (r : Str) : Prop where
  pos0 : 0 ≤ pos
  two : pos + 2 ≤ e
  inb : e < src.length
  way : (Txt.slice src (some pos) (some (pos + 2)) = Str.ofString "\\\n" ∧ (∀ i : Int, pos + 2 ≤ i → i < e → S103 (Txt.item src i) = true) ∧ S103 (Txt.item src e) = false ∧ r = Str.ofString "") ∨
    (Txt.slice src (some pos) (some (pos + 2)) = Str.ofString "\\ " ∧ pos + 2 + 1 ≤ e ∧ Txt.item src (pos + 2) = ch 10 ∧ (∀ i : Int, pos + 2 + 1 ≤ i → i < e → S103 (Txt.item src i) = true) ∧ S103 (Txt.item src e) = false ∧ r = Str.ofString "") ∨
    (Txt.slice src (some pos) (some (pos + 2)) = Str.ofString "\\u" ∧ Txt.slice src (some (pos + 2)) (some (pos + 2 + 4)) = Str.ofString "002E" ∧ e = pos + 2 + 4 ∧ r = Str.ofString ".") ∨
    (Txt.slice src (some pos) (some (pos + 2)) = Str.ofString "\\\\" ∧ e = pos + 2 ∧ r = Str.ofString "\\")
structure EscBad (src : Str) (pos ln col : Int) : Prop where
  pos0 : 0 ≤ pos
  inb : pos + 2 < src.length
  two : Txt.slice src (some pos) (some (pos + 2)) = Str.ofString "\\ "
  n103 : S103 (Txt.item src (pos + 2)) = false
  n95 : S95 (Txt.item src (pos + 2)) = false
  ne : (Txt.item src (pos + 2) != Str.ofString "\n") = true
  spot : Spot src (pos + 2) ln col
theorem spec_esc_ok (w : World) (p : Program) (lo : List Str) (mean : ExcName → Option Value) (mg mb : Str → Option Value) (src : Str) (pos e : Int) (r : Str) (t t2 : Tok) (ok : EscOk src pos e r) :
  Spec w p lo mean mg mb fun dp un gd cn cs a ccd cl outer h₀ L m news s Q E => 
    dp + 6 < recursionLimit → un + 40 < cLine → src.length < 1000 →
    (∀ (h' : Heap) (b : Addr) (t1 t2 : Tok) (tk' : Nat), Fr h₀ L h' m → News h₀ L h' ((b, tupObj [.int e t1, .str r t2]) :: news) → Q (.ref b) { s with heap := h', toks := tk' }) →
    wpAny (model PG w) (ktrTop dp un gd cn cs L a ccd cl outer) (call (.ref 145) [.str src t, .int pos t2] [((Str.ofString "multiline"), .bool true)]) Q E s := by
  dsimp only [Spec]
  intro dp un gd cn cs a ccd cl outer A₀ base h₀ L m news s Q E B F X N T Z C hk hd hu hlen hret
  obtain ⟨p0, p2, p3, way⟩ := ok
  rcases way with ⟨e1, e2, e3, rfl⟩ | ⟨e1, e2, e3, e4, e5, rfl⟩ | ⟨e1, e2, rfl, rfl⟩ | ⟨e1, rfl, rfl⟩
  · exact esc_nl w p lo mean mg mb src pos t t2 trivial dp un gd cn cs a ccd cl outer A₀ base h₀ L m news s Q E B F X N T Z C hk hd hu hlen p0 (by omega) e1 e p2 p3 e2 e3 hret
  · exact esc_sp w p lo mean mg mb src pos t t2 trivial dp un gd cn cs a ccd cl outer A₀ base h₀ L m news s Q E B F X N T Z C hk hd hu hlen p0 (by omega) e1 e e2 p3 e3 e4 e5 hret
  · exact esc_hex w p lo mean mg mb src pos t t2 trivial dp un gd cn cs a ccd cl outer A₀ base h₀ L m news s Q E B F X N T Z C hk hd hu hlen p0 (by omega) e1 (by omega) e2 hret
  · exact esc_bs w p lo mean mg mb src pos t t2 trivial dp un gd cn cs a ccd cl outer A₀ base h₀ L m news s Q E B F X N T Z C hk hd hu hlen p0 (by omega) e1 hret
noncomputable abbrev unescT : Str := Str.ofString "Unescaped '\\' in a string"
set_option maxRecDepth 100000 in
set_option maxHeartbeats 8000000 in
theorem spec_escm_ok (w : World) (p : Program) (lo : List Str) (mean : ExcName → Option Value) (mg mb : Str → Option Value) (src : Str) (pos e : Int) (r : Str) (t t2 : Tok) (ok : EscOk src pos e r) : Fill PySem.Challenge.rw_ij0172_01 hK →
  Spec w p lo mean mg mb fun dp un gd cn cs a ccd cl outer h₀ L m news s Q E => 
    dp + 7 < recursionLimit → un + 44 < cLine → src.length < 1000 →
    (∀ (h' : Heap) (b : Addr) (t1 t2 : Tok) (tk' : Nat), Fr h₀ L h' m → News h₀ L h' ((b, tupObj [.int e t1, .str r t2]) :: news) → Q (.ref b) { s with heap := h', toks := tk' }) →
    wpAny (model PG w) (ktrTop dp un gd cn cs L a ccd cl outer) (call (.ref 152) [.str src t, .int pos t2]) Q E s := by
  w_top off
  k_fill
  intro _
  dsimp only [Spec]
  intro dp un gd cn cs a ccd cl outer A₀ base h₀ L m news s Q E B F X N T Z C hk hd hu hlen hret
  have ok' := Hold.mk ok
  clear ok
  refine wpAny_call ?_
  k_dflt cell_enter
  walk_at "mine norm"
  (with_reducible rename Fr h₀ L _ _ => FG)
  have Z' := Sets.keeps Z (Fr.keep FG)
  have C' := CodeHd.keeps C (Fr.keep FG)
  rename_i g' L' h' F' N' B' X' T'
  w_strict k_steps
  refine ⟨?_⟩
  (with_reducible rename Fr g' L' _ _ => F₂)
  (with_reducible rename News g' L' _ _ => N₂)
  refine spec_esc_ok w _ _ _ _ _ src pos e r _ _ ok'.out _ _ _ _ _ _ _ _ _ _ _ _ _ _ _ _ _ _ B' F₂ X' N₂ T' Z' C' rfl (by ktr_room) (by ktr_room) hlen ?_
  intro h₂ b₂ tk₂ tk₃ tk₄ F₃ N₃
  clear F₂ N₂
  w_strict k_steps
  exact hret _ _ _ _ _ (by assumption) (by assumption)
set_option maxRecDepth 100000 in
set_option maxHeartbeats 8000000 in
theorem spec_escm_bad (w : World) (p : Program) (lo : List Str) (mean : ExcName → Option Value) (mg mb : Str → Option Value) (src : Str) (pos ln col : Int) (t t2 : Tok) (bad : EscBad src pos ln col) : Fill PySem.Challenge.rw_ij0172_01 hK →
  SpecB w p lo mean mg mb fun dp un gd cn cs a ccd cl outer base h₀ L m news s Q E => ∀ ps rest, news = (175, tabObj ps) :: rest → TabL ps rest →
    dp + 7 < recursionLimit → un + 44 < cLine → src.length < 1000 →
    (RaisesTo base h₀ L m (envX cn cs L a ccd cl :: outer) rest (errText unescT ln col) E s) →
    wpAny (model PG w) (ktrTop dp un gd cn cs L a ccd cl outer) (call (.ref 152) [.str src t, .int pos t2]) Q E s := by
  k_fill
  intro _
  dsimp only [SpecB]
  intro dp un gd cn cs a ccd cl outer A₀ base h₀ L m news s Q E B F X N T Z C hk ps rest hn hTab hd hu hlen hraise
  subst hn
  have ok' := Hold.mk bad
  clear bad
  refine wpAny_call ?_
  k_dflt cell_enter
  walk_at "mine norm"
  (with_reducible rename Fr h₀ L _ _ => FG)
  have Z' := Sets.keeps Z (Fr.keep FG)
  have C' := CodeHd.keeps C (Fr.keep FG)
  rename_i g' L' h' F' N' B' X' T'
  w_strict k_steps
  refine ⟨?_⟩
  (with_reducible rename Fr g' L' _ _ => F₂)
  (with_reducible rename News g' L' _ _ => N₂)
  obtain ⟨b1, b2, b3, b4, b5, b6, b7⟩ := ok'.out
  refine esc_bad w _ _ _ _ _ src pos _ _ trivial _ _ _ _ _ _ _ _ _ _ _ _ _ _ _ _ _ _ B' F₂ X' N₂ T' Z' C' rfl (by ktr_room) (by ktr_room) hlen b1 (by omega) ps rest rfl hTab b3 ln col b2 b4 b5 b6 b7 ?_
  intro h₂ g₂ e₂ t₂ tk tk' ps' rest' Fg Ug R hT hs
  exact on_end hraise FG B' Fg Ug R hT hs
end Mine
end
section
open PySem PySem.W PyProof.Rows
set_option Elab.async false
set_option compiler.extract_closed false
set_option linter.unusedVariables false
namespace Mine
local macro_rules | `(tactic| walk_at "call builtin:str.index") => `(tactic| (refine c_fidx (by assumption) ?_))
local macro_rules | `(tactic| walk_at "getMethod ref") => `(tactic| ((with_reducible show wpAny _ _ (getMethod (Value.ref _) (PySem.Str.ofString "isdisjoint") _) _ _ _); refine method_froz (by assumption) (by assumption) slot_isdisjoint type_isdisjoint ?_))
local macro_rules | `(tactic| walk_at "call builtin:frozenset.isdisjoint") => `(tactic| (refine froz_isdisjoint rfl (by assumption) (by assumption) (by assumption) (by decide) (by assumption) ?_; intro h' tk' F' N'))
local macro_rules | `(tactic| walk_at "exec While") => `(tactic| (refine hold ?_))
local macro_rules | `(tactic| walk_at "pyReprObj str") => `(tactic| (refine hold ?_))
local macro_rules | `(tactic| walk_at "exec Raise some none") => `(tactic| (refine hold ?_))
local macro_rules | `(tactic| walk_at "call ref") => `(tactic| (refine hold ?_))
theorem repr_nul : reprText (ch 0) = Str.ofString "'\\x00'" := by decide +kernel
set_option maxRecDepth 100000 in
set_option maxHeartbeats 8000000 in
theorem spec_until (w : World) (p : Program) (lo : List Str) (mean : ExcName → Option Value) (mg mb : Str → Option Value) (src : Str) (pos : Int) (t t2 t3 : Tok) : Fill PySem.Challenge.rw_ij0172_01 hK →
  SpecB w p lo mean mg mb fun dp un gd cn cs a ccd cl outer base h₀ L m news s Q E => ∀ ps rest, news = (175, tabObj ps) :: rest → TabL ps rest →
    dp + 4 < recursionLimit → un + 24 < cLine → src.length < 1000 → 0 ≤ pos → FrozAt (strKind PG w) h₀ 94 S94 31 →
    ∀ e : Nat, fidx src (Str.ofString "'''") pos = some e → pos ≤ e → (e : Int) ≤ src.length → 
    ∀ b : Bool, ((signs (Txt.slice src (some pos) (some e))).all fun c => !S94 c) = b →
    ∀ (q ln col : Int), (b = false → pos ≤ q ∧ q < src.length ∧ (∀ i : Int, pos ≤ i → i < q → S94 (Txt.item src i) = false) ∧ Txt.item src q = ch 0 ∧ S94 (ch 0) = true ∧
      Spot src q ln col) →
    (b = true → ∀ (h' : Heap) (tk tk' : Nat), Fr h₀ L h' m → News h₀ L h' news → Q (.int e tk) { s with heap := h', toks := tk' }) →
    (b = false → RaisesTo base h₀ L m (envX cn cs L a ccd cl :: outer) rest (errText (Str.ofString "Found invalid character '\\x00'") ln col) E s) →
    wpAny (model PG w) (ktrTop dp un gd cn cs L a ccd cl outer) (call (.ref 137) [.str src t, .int pos t2, .str (Str.ofString "'''") t3] [((Str.ofString "error_on"), .ref 94), ((Str.ofString "error_on_eof"), .bool true)]) Q E s := by
  w_top off
  k_fill
  intro _
  dsimp only [SpecB]
  intro dp un gd cn cs a ccd cl outer A₀ base h₀ L m news s Q E B F X N T Z C hk ps rest hn hTab hd hu hlen hpos hS e hi h1 h2 b hb q ln col hbad hret hraise
  subst hn
  refine wpAny_call ?_
  k_dflt cell_enter
  walk_at "mine norm"
  (with_reducible rename Fr h₀ L _ _ => FG)
  have hS' := froz_keeps hS (Fr.keep FG)
  have C' := CodeHd.keeps C (Fr.keep FG)
  have Z' := Sets.keeps Z (Fr.keep FG)
  clear C
  rename_i g' L' h' F' N' B' X' T'
  cases b
  · obtain ⟨h3, h4, h5, h6, h6', h7⟩ := hbad rfl
    w_strict k_steps
    refine ⟨?_⟩
    (with_reducible rename Fr g' L' _ _ => F1)
    (with_reducible rename News g' L' _ _ => N1)
    refine' while_seek (x := Str.ofString "pos") (q := q) ?F ?N ?h0 h3 ?_; (case F => exact F1); (case N => exact N1); (case h0 => rfl)
    intro p tp h₁ tk₁ p1 p2 F₁ N₁
    clear F1 N1
    by_cases hp : p < q
    · have h5' := h5 p p1 hp
      w_strict k_steps
      all_goals first | (exfalso; (rename S94 _ = true => hx); rw [h5'] at hx; cases hx) | skip
      exact seek_step (by assumption) (by assumption) p1 hp
    · obtain rfl : p = q := by omega
      have h6'' : S94 (Txt.item src p) = true := by rw [h6]; exact h6'
      w_strict k_steps
      all_goals first | (exfalso; (rename S94 _ = false => hx); rw [h6''] at hx; cases hx) | skip
      refine ⟨?_⟩
      refine' Raise_our ?O rfl ?_; (case O => exact own_of_in X' (topRead_of T') (by k_is) (by k_exc))
      w_strict k_steps
      refine ⟨?_⟩
      simp only [h6]
      refine wpAny_pyReprObj_str ?_ (by rw [repr_nul]; decide +kernel)
      simp only [repr_nul]
      w_strict k_steps
      refine ⟨?_⟩
      (with_reducible rename Fr g' L' _ _ => F₂)
      (with_reducible rename News g' L' _ _ => N₂)
      refine' suf_raise B' F₂ X' N₂ T' Z' C' rfl hTab ?kd ?ku hlen ?kl ?k0 h4 h7 rfl (fun h' tk tk' e t ps' rest' kF kN hT hl het hs => raise_end (hraise rfl) FG B' kF kN hT hl het hs rfl)
      case kd => ktr_room
      case ku => ktr_room
      case kl => decide +kernel
      case k0 => omega
  · w_strict k_steps
    exact hret rfl _ _ _ (by assumption) (by assumption)
end Mine
end
section
open PySem PySem.W PyProof.Rows
set_option Elab.async false
set_option compiler.extract_closed false
set_option linter.unusedVariables false
namespace Mine
local macro_rules | `(tactic| walk_at "call ref") => `(tactic| (refine hold ?_))
local macro_rules | `(tactic| walk_at "exec While") => `(tactic| (refine hold ?_))
local macro_rules | `(tactic| walk_at "exec Raise some none") => `(tactic| (refine hold ?_))
local macro_rules | `(tactic| walk_at "eval Name") => `(tactic| (k_here; k_dflt (refine' ld ?k1 ?k2 ?_; (case k1 => k_asm); (case k2 => assumption); k_whole)))
local macro_rules | `(tactic| walk_at "loadName") => `(tactic| (k_dflt (refine' ldn ?k1 ?k2 ?_; (case k1 | k2 => assumption))))
local macro_rules | `(tactic| walk_at "exec If") => `(tactic| ((rename Txt.item _ _ = _ => qq); (with_reducible rename Fr _ _ _ _ => FX); rw [qq] at FX; clear qq))
inductive Out where
  | ok (e : Int) (r : Str)
  | err (T : Str)
inductive PB (src : Str) : Nat → Int → Str → Out → Prop
  | done {n : Nat} {pos : Int} {acc : Str} : 0 ≤ pos → pos + 3 ≤ src.length → Txt.item src pos = Str.ofString "\"" → Txt.startswith3 src (Str.ofString "\"\"\"") pos = true → PB src n pos acc (.ok (pos + 3) acc)
  | quote {n : Nat} {pos : Int} {acc : Str} {o : Out} : 0 ≤ pos → pos + 1 < src.length → Txt.item src pos = Str.ofString "\"" → Txt.startswith3 src (Str.ofString "\"\"\"") pos = false → PB src n (pos + 1) (acc ++ Str.ofString "\"") o → PB src (n + 1) pos acc o
  | esc {n : Nat} {pos e : Int} {acc r : Str} {o : Out} : Txt.item src pos = Str.ofString "\\" → EscOk src pos e r → r.length ≤ 1 → PB src n e (acc ++ r) o → PB src (n + 1) pos acc o
  | bad {n : Nat} {pos ln col : Int} {acc : Str} : Txt.item src pos = Str.ofString "\\" → EscBad src pos ln col → PB src n pos acc (.err (errText unescT ln col))
  | ill {n : Nat} {pos ln col : Int} {acc : Str} : 0 ≤ pos → pos < src.length → Txt.item src pos = ch 0 → Spot src pos ln col → PB src n pos acc (.err (errText (Str.ofString "Illegal character '\\x00'") ln col))
  | step {n : Nat} {pos : Int} {acc c : Str} {o : Out} : 0 ≤ pos → pos + 1 < src.length → Txt.item src pos = c → (c == Str.ofString "\"") = false → (c == Str.ofString "\\") = false → S94 c = false → PB src n (pos + 1) (acc ++ c) o → PB src (n + 1) pos acc o
structure Loc (m : Str → Option Value) (src : Str) (t : Tok) (p st : Int) (r : Str) (tp ts tr : Tok) : Prop where
  src : m (Str.ofString "src") = some (.str src t)
  mul : m (Str.ofString "multiline") = some (.bool true)
  bad : m (Str.ofString "error_on") = some (.ref 94)
  esc : m (Str.ofString "parse_escapes") = some (.ref 152)
  res : m (Str.ofString "result") = some (.str r tr)
  start : m (Str.ofString "start_pos") = some (.int st ts)
  pos : m (Str.ofString "pos") = some (.int p tp)
theorem tn1 {st p : Int} (h0 : 0 ≤ st) (h1 : st ≤ p) : (p + 1 - st).toNat = (p - st).toNat + 1 := by
  rw [show p + 1 - st = (p - st) + 1 by omega]
  exact Int.toNat_add (Int.sub_nonneg_of_le h1) (by decide)
theorem tn2 {st p : Int} (h0 : 0 ≤ st) (h1 : st ≤ p) : (p - st).toNat + st.toNat = p.toNat := by
  rw [← Int.toNat_add (Int.sub_nonneg_of_le h1) h0, Int.sub_add_cancel]
theorem tn3 {st p : Int} {n : Nat} (h0 : 0 ≤ st) (h1 : st ≤ p) (h2 : p ≤ n) : (p - st).toNat ≤ n - st.toNat :=
  Nat.le_sub_of_add_le (by rw [tn2 h0 h1]; exact Int.toNat_le.mpr h2)
theorem slice_snoc {src : Str} {st p : Int} (h0 : 0 ≤ st) (h1 : st ≤ p) (h2 : p < src.length) : Txt.slice src (some st) (some (p + 1)) = Txt.slice src (some st) (some p) ++ Txt.item src p := by
  have hp0 := Int.le_trans h0 h1
  have e1 := eq_of_beq (slice_closes (x := src) (i := st) (j := p + 1) ⟨h0, Int.le_trans h1 (Int.le_add_one (Int.le_refl _)), h2⟩)
  have e2 := eq_of_beq (slice_closes (x := src) (i := st) (j := p) ⟨h0, h1, Int.le_of_lt h2⟩)
  have hp : p.toNat < src.cps.size := (Int.toNat_lt hp0).mpr h2
  have e3 := item_meets (x := src) (i := p) (n := src.cps[p.toNat]) hp0 (Array.getElem?_eq_getElem hp)
  rw [e1, e2, e3]
  show _ = (⟨_⟩ : Str)
  congr 1
  apply Array.toList_inj.mp
  rw [tn1 h0 h1, List.take_add_one]
  simp [List.getElem?_drop, Nat.add_comm st.toNat, tn2 h0 h1, hp]
theorem slice_self {src : Str} {p : Int} (h0 : 0 ≤ p) (h2 : p ≤ src.length) : Txt.slice src (some p) (some p) = Str.empty := by
  have hl : src.cps.toList.length = src.length := by simp [Str.length]
  have e1 := eq_of_beq (slice_closes (x := src) (i := p) (j := p) ⟨h0, by omega, by omega⟩)
  rw [e1, Int.sub_self]; rfl
theorem slice_len {src : Str} {st p : Int} (h0 : 0 ≤ st) (h1 : st ≤ p) (h2 : p ≤ src.length) : (Txt.slice src (some st) (some p)).length = (p - st).toNat := by
  rw [eq_of_beq (slice_closes (x := src) (i := st) (j := p) ⟨h0, h1, h2⟩)]
  show ((src.cps.toList.drop st.toNat).take (p - st).toNat).toArray.size = _
  rw [List.size_toArray, List.length_take, List.length_drop, Array.length_toList]
  exact Nat.min_eq_left (tn3 h0 h1 h2)
theorem str_assoc (a b c : Str) : a ++ b ++ c = a ++ (b ++ c) := by
  show (⟨_⟩ : Str) = ⟨_⟩
  congr 1; exact Array.append_assoc
theorem str_app_empty (a : Str) : a ++ Str.empty = a := by
  show (⟨_⟩ : Str) = a
  cases a; rfl
theorem str_empty_app (a : Str) : Str.ofString "" ++ a = a := by
  show (⟨_⟩ : Str) = a
  cases a; congr 1; exact Array.empty_append
theorem str_len_app (a b : Str) : (a ++ b).length = a.length + b.length := by
  show (a.cps ++ b.cps).size = _
  simp [Str.length]
noncomputable abbrev BasicJ (src : Str) (t : Tok) (o : Out) (news : List (Addr × Obj)) : Nat → (Str → Option Value) → List (Addr × Obj) → Prop := fun n m₁ news₁ =>
  ∃ (p st : Int) (r : Str) (tp ts tr : Tok), PB src n p (r ++ Txt.slice src (some st) (some p)) o ∧ 0 ≤ st ∧ st ≤ p ∧ p < src.length ∧ r.length ≤ st ∧ Loc m₁ src t p st r tp ts tr ∧ news₁ = news
theorem basicJ_init {src : Str} {t : Tok} {o : Out} {news : List (Addr × Obj)} {n : Nat} {m : Str → Option Value} {pos : Int} (hpb : PB src n pos (Str.ofString "") o) (h0 : 0 ≤ pos) (h1 : pos < src.length)
    (hl : ∃ tp ts tr, Loc m src t pos pos (Str.ofString "") tp ts tr) : BasicJ src t o news n m news := by
  obtain ⟨tp, ts, tr, hl⟩ := hl
  refine ⟨pos, pos, _, tp, ts, tr, ?_, h0, Int.le_refl _, h1, ?_, hl, rfl⟩
  · rw [slice_self h0 (by omega)]; exact hpb
  · have : (Str.ofString "").length = 0 := by decide
    omega
theorem basic_next {src : Str} {t : Tok} {o : Out} {news : List (Addr × Obj)} {n : Nat} {m₂ : Str → Option Value} {g' h : Heap} {L' : Addr} {s : Shared} {tk : Nat} {Q : Flow → Shared → Prop} {p st : Int} {r acc : Str} (fl : Flow) (hfl : fl = .next ∨ fl = .cont)
    (F : Fr g' L' h m₂) (N : News g' L' h news) (hpb : PB src n p acc o) (hacc : r ++ Txt.slice src (some st) (some p) = acc) (i1 : 0 ≤ st) (i2 : st ≤ p) (i3 : p < src.length) (i4 : r.length ≤ st) (hl : ∃ tp ts tr, Loc m₂ src t p st r tp ts tr) :
    WhileStep2 g' L' s (BasicJ src t o news) Q (n + 1) fl { s with heap := h, toks := tk } := by
  obtain ⟨tp, ts, tr, hl⟩ := hl
  subst hacc
  rcases hfl with rfl | rfl <;> exact ⟨h, tk, m₂, news, n, rfl, F, N, by omega, p, st, r, tp, ts, tr, hpb, i1, i2, i3, i4, hl, rfl⟩
set_option maxRecDepth 100000 in
set_option maxHeartbeats 8000000 in
theorem spec_basic (w : World) (p : Program) (lo : List Str) (mean : ExcName → Option Value) (mg mb : Str → Option Value) (src : Str) (pos : Int) (t t2 : Tok) (n₀ : Nat) (o : Out) (hpb : PB src n₀ pos (Str.ofString "") o) : Fill PySem.Challenge.rw_ij0172_01 hK →
  SpecB w p lo mean mg mb fun dp un gd cn cs a ccd cl outer base h₀ L m news s Q E => ∀ ps rest, news = (175, tabObj ps) :: rest → TabL ps rest →
    dp + 9 < recursionLimit → un + 60 < cLine → src.length < 1000 → 0 ≤ pos → pos < src.length →
    (∀ (h' : Heap) (b : Addr) (t1 t2 : Tok) (tk' : Nat) (e : Int) (r : Str), o = .ok e r → Fr h₀ L h' m → News h₀ L h' ((b, tupObj [.int e t1, .str r t2]) :: news) → Q (.ref b) { s with heap := h', toks := tk' }) →
    (∀ T, o = .err T → RaisesTo base h₀ L m (envX cn cs L a ccd cl :: outer) rest T E s) →
    wpAny (model PG w) (ktrTop dp un gd cn cs L a ccd cl outer) (call (.ref 173) [.str src t, .int pos t2] [((Str.ofString "multiline"), .bool true)]) Q E s := by
  w_top off
  k_fill
  intro _
  dsimp only [SpecB]
  intro dp un gd cn cs a ccd cl outer A₀ base h₀ L m news s Q E B F X N T Z C hk ps rest hn hTab hd hu hlen hp0 hp1 hret hraise
  subst hn
  have hpb := Hold.mk hpb
  refine wpAny_call ?_
  k_dflt cell_enter
  walk_at "mine norm"
  (with_reducible rename Fr h₀ L _ _ => FG)
  have Z' := Sets.keeps Z (Fr.keep FG)
  have C' := CodeHd.keeps C (Fr.keep FG)
  rename_i g' L' h' F' N' B' X' T'
  w_strict k_steps
  refine ⟨?_⟩
  (with_reducible rename Fr g' L' _ _ => F₂)
  (with_reducible rename News g' L' _ _ => N₂)
  refine' While_inv2 (BasicJ src t o ((175, tabObj ps) :: rest)) (n₀ := n₀) F₂ N₂ ?J ?turn
  case J => exact basicJ_init hpb.out hp0 hp1 ⟨_, _, _, rfl, rfl, rfl, rfl, rfl, rfl, rfl⟩
  rintro n m₁ news₁ h₁ tk₁ F₁ N₁ ⟨p', st, r, tp, ts, tr, hpb', i1, i2, i3, i4, ⟨l1, l2, l3, l4, l5, l6, l7⟩, rfl⟩
  clear F₂ N₂ hpb
  have hs94 := Z'.s94
  generalize hacc : r ++ Txt.slice src (some st) (some p') = acc at hpb'
  cases hpb' with
  | done k1 k2 k3 k4 =>
    w_strict k_steps
    dsimp only [WhileStep2]
    w_strict k_steps
    rw [hacc] at *
    exact hret _ _ _ _ _ _ _ rfl (by assumption) (by assumption)
  | quote k1 k2 k3 k4 k5 =>
    have k3' := Hold.mk k3
    w_strict k_steps
    refine basic_next .cont (.inr rfl) (by assumption) (by assumption) k5 ?_ i1 (by omega) k2 i4 ⟨_, _, _, (by assumption), (by assumption), (by assumption), (by assumption), (by assumption), (by assumption), rfl⟩
    rw [slice_snoc i1 i2 i3, ← str_assoc, hacc, k3'.out]
  | esc k1 k2 k3 k4 =>
    obtain ⟨q0, q1, q2, q3⟩ := id k2
    have k2' := Hold.mk k2
    clear k2 q3
    w_strict k_steps
    refine ⟨?_⟩
    (with_reducible rename Fr g' L' _ _ => F₂)
    (with_reducible rename News g' L' _ _ => N₂)
    refine spec_escm_ok w _ _ _ _ _ src p' _ _ _ _ k2'.out trivial _ _ _ _ _ _ _ _ _ _ _ _ _ _ _ _ _ _ B' F₂ X' N₂ T' Z' C' rfl (by ktr_room) (by ktr_room) hlen ?_
    intro h₂ b₂ tk₂ tk₃ tk₄ F₃ N₃
    clear F₂ N₂
    have hal2 : (acc.length : Int) ≤ p' := by rw [← hacc, str_len_app, slice_len i1 i2 (by omega)]; omega
    have hal : acc.length ≤ 1000 := by omega
    have hal3 := Hold.mk hal2
    clear hal2
    rw [hacc] at *
    w_strict k_steps
    refine basic_next .cont (.inr rfl) (by assumption) (news_tail (by assumption)) k4 ?_ (by omega) (Int.le_refl _) (by omega) ?_ ⟨_, _, _, (by assumption), (by assumption), (by assumption), (by assumption), rfl, rfl, rfl⟩
    · rw [slice_self (by omega) (by omega), str_app_empty]
    · have := hal3.out
      rw [str_len_app]; omega
  | bad k1 k2 =>
    have k2' := Hold.mk k2
    clear k2
    w_strict k_steps
    refine ⟨?_⟩
    (with_reducible rename Fr g' L' _ _ => F₂)
    (with_reducible rename News g' L' _ _ => N₂)
    refine spec_escm_bad w _ _ _ _ _ src p' _ _ _ _ k2'.out trivial _ _ _ _ _ _ _ _ _ _ _ _ _ _ _ _ _ _ B' F₂ X' N₂ T' Z' C' rfl ps rest rfl hTab (by ktr_room) (by ktr_room) hlen ?_
    intro h₂ g₂ e₂ t₂ tk tk' ps' rest' Fg Ug R hT hs
    exact on_end (hraise _ rfl) FG B' Fg Ug R hT hs
  | ill k1 k2 k3 k4 =>
    have k4' := Hold.mk k4
    clear k4
    w_strict k_steps
    refine ⟨?_⟩
    refine' Raise_our ?O rfl ?_; (case O => exact own_of_in X' (topRead_of T') (by k_is) (by k_exc))
    w_strict k_steps
    refine wpAny_pyReprObj_str ?_ (by rw [repr_nul]; decide +kernel)
    simp only [repr_nul]
    w_strict k_steps
    refine ⟨?_⟩
    (with_reducible rename Fr g' L' _ _ => F₂)
    (with_reducible rename News g' L' _ _ => N₂)
    refine' suf_raise B' F₂ X' N₂ T' Z' C' rfl hTab ?kd ?ku hlen ?kl k1 k2 k4'.out rfl (fun h' tk tk' e t ps' rest' kF kN hT hl het hs => raise_end (hraise _ rfl) FG B' kF kN hT hl het hs rfl)
    case kd => ktr_room
    case ku => ktr_room
    case kl => decide +kernel
  | step k1 k2 k3 k4 k5 k6 k7 =>
    have k3' := Hold.mk k3
    w_strict k_steps
    refine basic_next .next (.inl rfl) (by assumption) (by assumption) k7 ?_ i1 (by omega) k2 i4 ⟨_, _, _, (by assumption), (by assumption), (by assumption), (by assumption), (by assumption), (by assumption), rfl⟩
    rw [slice_snoc i1 i2 i3, ← str_assoc, hacc, k3'.out]
end Mine
end
section
open PySem PySem.W PyProof.Rows
set_option Elab.async false
set_option compiler.extract_closed false
set_option linter.unusedVariables false
namespace Mine
local macro_rules | `(tactic| walk_at "call ref") => `(tactic| (refine hold ?_))
/-- behind the first line end -/
noncomputable def MMid (h₀ : Heap) (L : Addr) (led : List (Addr × Obj)) (src : Str) (t : Tok) (q : Int) (lit : Bool) (s₁ : Shared) (f : Flow) (s₂ : Shared) : Prop :=
  f = .next ∧ ∃ h' tk m₂ tq, s₂ = { s₁ with heap := h', toks := tk } ∧ Fr h₀ L h' m₂ ∧ News h₀ L h' led ∧ m₂ (Str.ofString "src") = some (.str src t) ∧ m₂ (Str.ofString "pos") = some (.int q tq) ∧ m₂ (Str.ofString "literal") = some (.bool lit)
local macro_rules | `(tactic| walk_at "exec If") => `(tactic| ((with_reducible show wpAny _ _ (exec (Stmt.If (PySem.Expr.Call _ _ _ _) _ _ _) _) _ _ _); (fail_if_success (with_reducible show wpAny _ _ _ (MMid _ _ _ _ _ _ _ _) _ _)); refine hold ?_))
local macro_rules | `(tactic| walk_at "MMid") => `(tactic| (refine hold ?_))
local macro_rules | `(tactic| walk_at "eval Name") => `(tactic| (k_here; k_dflt (refine' ld ?k1 ?k2 ?_; (case k1 => k_asm); (case k2 => assumption); k_whole)))
local macro_rules | `(tactic| walk_at "loadName") => `(tactic| (k_dflt (refine' ldn ?k1 ?k2 ?_; (case k1 => assumption); (case k2 => assumption))))
noncomputable def tailE (src d : Str) (e : Int) : Int := if Txt.startswith3 src d e = true then (if Txt.startswith3 src d (e + 1) = true then e + 1 + 1 else e + 1) else e
noncomputable def tailR (src d : Str) (e : Int) (r : Str) : Str := if Txt.startswith3 src d e = true then (if Txt.startswith3 src d (e + 1) = true then r ++ d ++ d else r ++ d) else r
noncomputable def headP (src : Str) (pos : Int) : Int := if Txt.startswith3 src (Str.ofString "\n") (pos + 3) = true then pos + 3 + 1 else pos + 3
set_option maxRecDepth 100000 in
set_option maxHeartbeats 8000000 in
theorem spec_multi_b (w : World) (p : Program) (lo : List Str) (mean : ExcName → Option Value) (mg mb : Str → Option Value) (src : Str) (pos : Int) (t t2 : Tok) (n₀ : Nat) (o : Out) (hpb : PB src n₀ (headP src pos) (Str.ofString "") o) : Fill PySem.Challenge.rw_ij0172_01 hK →
  SpecB w p lo mean mg mb fun dp un gd cn cs a ccd cl outer base h₀ L m news s Q E => ∀ ps rest, news = (175, tabObj ps) :: rest → TabL ps rest →
    dp + 12 < recursionLimit → un + 80 < cLine → src.length < 1000 → 0 ≤ pos → pos + 5 < src.length →
    (∀ e r, o = .ok e r → 0 ≤ e ∧ e < 2000 ∧ r.length < 2000) →
    (∀ (h' : Heap) (b : Addr) (t1 t2 : Tok) (tk' : Nat) (e : Int) (r : Str), o = .ok e r → Fr h₀ L h' m → News h₀ L h' ((b, tupObj [.int (tailE src (Str.ofString "\"") e) t1, .str (tailR src (Str.ofString "\"") e r) t2]) :: news) → Q (.ref b) { s with heap := h', toks := tk' }) →
    (∀ T, o = .err T → RaisesTo base h₀ L m (envX cn cs L a ccd cl :: outer) rest T E s) →
    wpAny (model PG w) (ktrTop dp un gd cn cs L a ccd cl outer) (call (.ref 166) [.str src t, .int pos t2] [((Str.ofString "literal"), .bool false)]) Q E s := by
  w_top off
  k_fill
  intro _
  dsimp only [SpecB]
  intro dp un gd cn cs a ccd cl outer A₀ base h₀ L m news s Q E B F X N T Z C hk ps rest hn hTab hd hu hlen hp0 hp1 hol hret hraise
  subst hn
  have hpb := Hold.mk hpb
  refine wpAny_call ?_
  k_dflt cell_enter
  walk_at "mine norm"
  (with_reducible rename Fr h₀ L _ _ => FG)
  have Z' := Sets.keeps Z (Fr.keep FG)
  have C' := CodeHd.keeps C (Fr.keep FG)
  rename_i g' L' h' F' N' B' X' T'
  obtain ⟨q, hq, hq0, hq1⟩ : ∃ q, headP src pos = q ∧ 0 ≤ q ∧ q < src.length := by
    refine ⟨_, rfl, ?_, ?_⟩ <;> unfold headP <;> split <;> omega
  rw [hq] at hpb
  w_strict k_steps
  refine ⟨?_⟩
  (with_reducible rename Fr g' L' _ _ => F₀)
  (with_reducible rename News g' L' _ _ => N₀)
  refine wpAny_mono (Q := MMid g' L' ((175, tabObj ps) :: rest) src t q false s) ?_ ?_ (fun _ _ e => e)
  · w_strict k_steps
    all_goals (
      refine ⟨?_⟩
      (with_reducible rename Fr g' L' _ _ => F₇)
      (with_reducible rename News g' L' _ _ => N₈)
      (rename Txt.startswith3 _ _ _ = _ => hb)
      unfold headP at hq
      simp only [hb, if_true, if_false, Bool.false_eq_true] at hq
      subst hq
      exact ⟨rfl, _, _, _, _, rfl, F₇, N₈, rfl, rfl, rfl⟩)
  · rintro f s₃ ⟨rfl, h₄, tk₄, m₄, tq, rfl, F₈, N₉, e1, e2, e3⟩
    dsimp only at *
    clear F₀ N₀ hq
    w_strict k_steps
    refine ⟨?_⟩
    (with_reducible rename Fr g' L' _ _ => F₂)
    (with_reducible rename News g' L' _ _ => N₂)
    refine spec_basic w _ _ _ _ _ src q _ _ n₀ o hpb.out trivial _ _ _ _ _ _ _ _ _ _ _ _ _ _ _ _ _ _ B' F₂ X' N₂ T' Z' C' rfl ps rest rfl hTab (by ktr_room) (by ktr_room) hlen hq0 hq1 ?_ ?_
    rotate_left
    · intro T hT h₂ g₂ e₂ t₂ tk tk' ps' rest' Fg Ug R hT' hs
      exact on_end (hraise _ hT) FG B' Fg Ug R hT' hs
    intro h₂ b₂ tk₂ tk₃ tk₄ e r ho F₃ N₃
    clear F₂ N₂
    have hret' := fun h' b t1 t2 tk' => hret h' b t1 t2 tk' e r ho
    obtain ⟨o1, o2, o3⟩ := hol e r ho
    clear hret hraise hol
    w_strict k_steps
    all_goals (
      unfold tailE tailR at hret'
      simp only [*, if_true, if_false, Bool.false_eq_true] at hret'
      exact hret' _ _ _ _ _ (by assumption) (news_drop2 (by assumption)))
end Mine
end
section
local macro_rules | `(tactic| walk_at "mine pad") => `(tactic| skip)
open PySem PySem.W PyProof.Rows
set_option Elab.async false
set_option compiler.extract_closed false
set_option linter.unusedVariables false
set_option linter.unusedSimpArgs false
namespace Mine
local macro_rules | `(tactic| walk_at "call ref") => `(tactic| (refine hold ?_))
local macro_rules | `(tactic| walk_at "exec If") => `(tactic| ((with_reducible show wpAny _ _ (exec (Stmt.If (PySem.Expr.Call _ _ _ _) _ _ _) _) _ _ _); (fail_if_success (with_reducible show wpAny _ _ _ (MMid _ _ _ _ _ _ _ _) _ _)); refine hold ?_))
local macro_rules | `(tactic| walk_at "MMid") => `(tactic| (refine hold ?_))
local macro_rules | `(tactic| walk_at "eval Name") => `(tactic| (k_here; k_dflt (refine' ld ?k1 ?k2 ?_; (case k1 => k_asm); (case k2 => assumption); k_whole)))
local macro_rules | `(tactic| walk_at "loadName") => `(tactic| (k_dflt (refine' ldn ?k1 ?k2 ?_; (case k1 => assumption); (case k2 => assumption))))
inductive LB (src : Str) (q : Int) : Out → Prop
  | ok (e : Nat) : fidx src (Str.ofString "'''") q = some e → q ≤ e → (e : Int) + 3 ≤ src.length → ((signs (Txt.slice src (some q) (some e))).all fun c => !S94 c) = true → LB src q (.ok (e + 3) (Txt.slice src (some q) (some e)))
  | bad (e : Nat) (i ln col : Int) : fidx src (Str.ofString "'''") q = some e → q ≤ e → (e : Int) ≤ src.length → ((signs (Txt.slice src (some q) (some e))).all fun c => !S94 c) = false → q ≤ i → i < src.length → (∀ j : Int, q ≤ j → j < i → S94 (Txt.item src j) = false) → Txt.item src i = ch 0 → Spot src i ln col → LB src q (.err (errText (Str.ofString "Found invalid character '\\x00'") ln col))
theorem s94_nul : S94 (ch 0) = true := by decide
set_option maxRecDepth 100000 in
set_option maxHeartbeats 8000000 in
theorem spec_multi_l (w : World) (p : Program) (lo : List Str) (mean : ExcName → Option Value) (mg mb : Str → Option Value) (src : Str) (pos : Int) (t t2 : Tok) (o : Out) (hlb : LB src (headP src pos) o) : Fill PySem.Challenge.rw_ij0172_01 hK →
  SpecB w p lo mean mg mb fun dp un gd cn cs a ccd cl outer base h₀ L m news s Q E => ∀ ps rest, news = (175, tabObj ps) :: rest → TabL ps rest →
    dp + 12 < recursionLimit → un + 80 < cLine → src.length < 1000 → 0 ≤ pos → pos + 5 < src.length →
    (∀ (h' : Heap) (b : Addr) (t1 t2 : Tok) (tk' : Nat) (e : Int) (r : Str), o = .ok e r → Fr h₀ L h' m → News h₀ L h' ((b, tupObj [.int (tailE src (Str.ofString "'") e) t1, .str (tailR src (Str.ofString "'") e r) t2]) :: news) → Q (.ref b) { s with heap := h', toks := tk' }) →
    (∀ T, o = .err T → RaisesTo base h₀ L m (envX cn cs L a ccd cl :: outer) rest T E s) →
    wpAny (model PG w) (ktrTop dp un gd cn cs L a ccd cl outer) (call (.ref 166) [.str src t, .int pos t2] [((Str.ofString "literal"), .bool true)]) Q E s := by
  w_top off
  k_fill
  intro _
  dsimp only [SpecB]
  intro dp un gd cn cs a ccd cl outer A₀ base h₀ L m news s Q E B F X N T Z C hk ps rest hn hTab hd hu hlen hp0 hp1 hret hraise
  subst hn
  have hlb := Hold.mk hlb
  refine wpAny_call ?_
  k_dflt cell_enter
  walk_at "mine norm"
  (with_reducible rename Fr h₀ L _ _ => FG)
  have Z' := Sets.keeps Z (Fr.keep FG)
  have C' := CodeHd.keeps C (Fr.keep FG)
  rename_i g' L' h' F' N' B' X' T'
  obtain ⟨q, hq, hq0, hq1⟩ : ∃ q, headP src pos = q ∧ 0 ≤ q ∧ q < src.length := by
    refine ⟨_, rfl, ?_, ?_⟩ <;> unfold headP <;> split <;> omega
  rw [hq] at hlb
  w_strict k_steps
  refine ⟨?_⟩
  (with_reducible rename Fr g' L' _ _ => F₀)
  (with_reducible rename News g' L' _ _ => N₀)
  refine wpAny_mono (Q := MMid g' L' ((175, tabObj ps) :: rest) src t q true s) ?_ ?_ (fun _ _ e => e)
  · w_strict k_steps
    all_goals (
      refine ⟨?_⟩
      (with_reducible rename Fr g' L' _ _ => F₇)
      (with_reducible rename News g' L' _ _ => N₈)
      (rename Txt.startswith3 _ _ _ = _ => hb)
      unfold headP at hq
      simp only [hb, if_true, if_false, Bool.false_eq_true] at hq
      subst hq
      exact ⟨rfl, _, _, _, _, rfl, F₇, N₈, rfl, rfl, rfl⟩)
  · rintro f s₃ ⟨rfl, h₄, tk₄, m₄, tq, rfl, F₈, N₉, e1, e2, e3⟩
    dsimp only at *
    clear F₀ N₀ hq
    w_strict k_steps
    refine ⟨?_⟩
    (with_reducible rename Fr g' L' _ _ => F₂)
    (with_reducible rename News g' L' _ _ => N₂)
    cases hlb.out with
    | bad e i ln col k1 k2 k3 k4 k5 k6 k7 k8 k9 =>
      refine spec_until w _ _ _ _ _ src q _ _ _ trivial _ _ _ _ _ _ _ _ _ _ _ _ _ _ _ _ _ _ B' F₂ X' N₂ T' Z' C' rfl ps rest rfl hTab (by ktr_room) (by ktr_room) hlen hq0 Z'.s94 e k1 k2 k3 false k4 i ln col (fun _ => ⟨k5, k6, k7, k8, s94_nul, k9⟩) (fun h => Bool.noConfusion h) ?_
      intro _ h₂ g₂ e₂ t₂ tk tk' ps' rest' Fg Ug R hT' hs
      exact on_end (hraise _ rfl) FG B' Fg Ug R hT' hs
    | ok e k1 k2 k3 k4 =>
      refine spec_until w _ _ _ _ _ src q _ _ _ trivial _ _ _ _ _ _ _ _ _ _ _ _ _ _ _ _ _ _ B' F₂ X' N₂ T' Z' C' rfl ps rest rfl hTab (by ktr_room) (by ktr_room) hlen hq0 Z'.s94 e k1 k2 (by omega) true k4 0 0 0 (fun h => Bool.noConfusion h) ?_ (fun h => Bool.noConfusion h)
      intro _ h₂ tk₂ tk₃ F₃ N₃
      clear F₂ N₂
      have hret' := fun h' b t1 t2 tk' => hret h' b t1 t2 tk' _ _ rfl
      clear hret hraise
      w_strict k_steps
      all_goals (
        unfold tailE tailR at hret'
        simp only [*, if_true, if_false, Bool.false_eq_true] at hret'
        exact hret' _ _ _ _ _ (by assumption) (by assumption))
end Mine
end
section
open PySem PySem.W PySem.Calls PyProof.Rows PySem.Builtin PySem.Builtin.Str PySem.Spec
set_option Elab.async false
set_option compiler.extract_closed false
set_option linter.unusedVariables false
namespace Mine
noncomputable def veTail : List Value := [.type "ValueError", .type "Exception", .type "BaseException", .type "object"]
theorem lookup_veTail_str : lookupAlong veTail "__str__" = pure (some (.builtin "BaseException.__str__")) := by
  have h := PySem.F.excStr_ValueError.str.lookup
  have hm : mroOf (.type "ValueError") = pure veTail := by rw [mroOf_type]; kernel_rfl
  rw [typeLookup_eq, hm] at h
  exact h
section
variable {prog : Program} {w : World} {A : Around} {E : Value → Shared → Prop} {h : Heap} {g : Array GenState} {d : Drawn} {t : Nat} {os : OsState} {e t0 C N : Addr} {o : Obj} {vs : Array Value} {u : Tok} {x : PySem.Str}
  {nm q : PySem.Str} {bs : List Value} {hdct : Bool} {sn : List PySem.Str} {sub : List Value} {ab : Bool} {col : Option Bool} {dd : Option Addr} {k0 k1 k2 k3 k5 : Option Value} {newId : String} {mN : PySem.Str → Option Value}
theorem lookup_str_own {Q : Option Value → Shared → Prop} (hC : h.get? C = some (excClassObj nm q C N bs veTail hdct sn sub ab col dd k0 k1 k2 k3 k5 newId)) (hN : h.Ns N mN) (hm : mN "__str__" = none)
    (hq : Q (some (.builtin "BaseException.__str__")) ⟨h, g, d, t, os⟩) : wpAny (model prog w) A (typeLookup (.ref C) "__str__") Q E ⟨h, g, d, t, os⟩ := by
  rw [typeLookup_eq]
  refine wpAny_bind (wpAny_mroOf_exc hC ?_)
  rw [lookupAlong_cons]
  refine wpAny_bind (wpAny_classOwn_exc hC hN ?_)
  rw [hm]
  show wpAny _ _ (lookupAlong veTail "__str__") _ _ _
  rw [lookup_veTail_str]
  exact wpAny_pure hq
theorem check_str_own {Q : Unit → Shared → Prop} (hC : h.get? C = some (excClassObj nm q C N bs veTail hdct sn sub ab col dd k0 k1 k2 k3 k5 newId)) (hx : h.get? e = some o) (hc : o.cls = .ref C)
    (hq : Q () ⟨h, g, d, t, os⟩) : wpAny (model prog w) A (checkBuiltinCall "BaseException.__str__" ⟨[.ref e], []⟩) Q E ⟨h, g, d, t, os⟩ := by
  have hk : builtinKind "BaseException.__str__" = some .slot := by decide +kernel
  have hsplit : splitId "BaseException.__str__" = some ("BaseException", "__str__") := by decide +kernel
  have hcB : (Value.ref C :: veTail).contains (.type "BaseException") = true := by rw [List.contains_cons]; rfl
  have ha := PySem.F.args_bexc_str (.ref e)
  simp only [checkBuiltinCall, hk, hsplit]
  refine wpAny_bind ?_
  unfold isInstance
  repeat (first | (with_reducible refine wpAny_loadPart_at hx ?_; rw [hc]) | (with_reducible refine wpAny_isSubtype_exc hC ?_; rw [hcB]) | wp_step)
  exact hq
theorem entry_str_own {Q : Fin → Shared → Prop} (hx : h.get? e = some o) (hd : o.data = .fields vs) (h0 : vs[0]? = some (.ref t0)) (ht : h.TupAt t0 [.str x u]) (hq : Q (.done (.ret (.str x u))) ⟨h, g, d, t, os⟩) :
    wpAny (model prog w) A (Builtin.«BaseException.__str__» ⟨[.ref e], []⟩) Q E ⟨h, g, d, t, os⟩ := by
  obtain ⟨ot, k, hto, _, htd⟩ := ht
  unfold Builtin.«BaseException.__str__» Builtin.BaseException.bexcArgs
  repeat (first | with_reducible refine wpAny_field hx hd h0 ?_ | with_reducible refine wpAny_seqItems hto htd ?_ | wp_step)
  exact hq
theorem strOf_own {Q : Value → Shared → Prop} (hu : A.units < cLine) (hC : h.get? C = some (excClassObj nm q C N bs veTail hdct sn sub ab col dd k0 k1 k2 k3 k5 newId)) (hN : h.Ns N mN) (hm : mN "__str__" = none)
    (hx : h.get? e = some o) (hc : o.cls = .ref C) (hd : o.data = .fields vs) (h0 : vs[0]? = some (.ref t0)) (ht : h.TupAt t0 [.str x u]) (hq : Q (.str x u) ⟨h, g, d, t, os⟩) :
    wpAny (model prog w) A (Builtin.Str.strOf (.ref e)) Q E ⟨h, g, d, t, os⟩ := by
  have fb := PySem.F.excStr_ValueError.str.bind (.ref e)
  unfold Builtin.Str.strOf
  repeat (any_goals (first | assumption | with_reducible refine wpAny_cRoomFor hu ?_ | (with_reducible refine wpAny_loadPart_at hx ?_; rw [hc]) | with_reducible refine lookup_str_own hC hN hm ?_ | wp_step))
  refine codeAny_call_builtin PySem.F.excStr_ValueError.str.plain PySem.F.entry_bexc_str (check_str_own hC hx hc (entry_str_own hx hd h0 ht ?_))
  dsimp only
  repeat (any_goals (first | assumption | wp_step))
theorem call_str_own {Q : Value → Shared → Prop} (hu : A.units + 2 < cLine) (hC : h.get? C = some (excClassObj nm q C N bs veTail hdct sn sub ab col dd k0 k1 k2 k3 k5 newId)) (hN : h.Ns N mN) (hm : mN "__str__" = none)
    (hx : h.get? e = some o) (hc : o.cls = .ref C) (hd : o.data = .fields vs) (h0 : vs[0]? = some (.ref t0)) (ht : h.TupAt t0 [.str x u]) (hq : Q (.str x u) ⟨h, g, d, t, os⟩) :
    wpAny (model prog w) A (call (.type "str") [.ref e]) Q E ⟨h, g, d, t, os⟩ :=
  callType_new PySem.F.called_str (by decide) (PySem.F.typeCall_str_1 _) (PySem.F.newCall_str_1 _) (fun obj => PySem.F.args_object_init_2 obj _) PySem.F.entry_str_new
    (meets_str_new (S := fun A' R s' => A'.units + 1 < cLine ∧ s' = ⟨h, g, d, t, os⟩ ∧ R (.ok (.ret (.str x u))) ⟨h, g, d, t, os⟩)
      fun _ _ A' R s' hq => by
        obtain ⟨q1, rfl, q3⟩ := hq
        exact strOf_own (A := A'.in1) q1 hC hN hm hx hc hd h0 ht q3)
    ⟨(show A.units + 1 + 1 < cLine from hu), rfl, typeIs_str _ _ _, hq⟩
end
/-- str() of an exception of the own class, by the ledger -/
theorem str_got_our {w : World} {A : Around} {E : Value → Shared → Prop} {h₀ h : Heap} {L e t0 : Addr} {m : PySem.Str → Option Value} {news : List (Addr × Obj)} {x : PySem.Str} {u : Tok} {g : Array GenState} {d : Drawn} {t : Nat} {os : OsState} {Q : Value → Shared → Prop}
    (F : Fr h₀ L h m) (X : (hK w.params).In h₀) (N : News h₀ L h news) (G : Got news e t0 (.ref 120) [.str x u]) (hu : A.units + 2 < cLine) (hq : Q (.str x u) ⟨h, g, d, t, os⟩) :
    wpAny (model PG w) A (call (.type "str") [.ref e]) Q E ⟨h, g, d, t, os⟩ := by
  obtain ⟨oe, ot, ws, nt, g1, g2, gc, gd, g0, gtc, gtd⟩ := G
  have XH : (hK w.params).In h := X.keeps F.keep
  have hC := XH 120 (o_120 w.params) (by kernel_rfl)
  have hns : nsOkIn (hK w.params) 119 = true := by kernel_rfl
  have hm : h.nsMap 119 (PySem.Str.ofString "__str__") = none := nsMap_none_of_in XH hns (by kernel_rfl)
  exact call_str_own hu hC (.of_isNs (isNs_of_in XH hns)) hm (N.get g1) gc gd g0 ⟨ot, nt, N.get g2, gtc, gtd⟩ hq
end Mine
end
section
open PySem PySem.W PyProof.Rows
set_option Elab.async false
set_option compiler.extract_closed false
set_option linter.unusedVariables false
set_option linter.unusedSimpArgs false
namespace Mine
local macro_rules | `(tactic| walk_at "call ref") => `(tactic| (refine hold ?_))
local macro_rules | `(tactic| walk_at "noteFrame ref") => `(tactic| (refine hold ?_))
local macro_rules | `(tactic| walk_at "call type:str") => `(tactic| ((with_reducible show wpAny _ _ (call (Value.type "str") [Value.ref _]) _ _ _); (refine' str_got_our ?F ?X ?N ?G ?U ?_; (case G | N | F | X => assumption); (case U => ((try dsimp only [Around.mark, Around.deeper]); omega)))))
theorem news_right {h₀ h : Heap} {L : Addr} {n₁ n₂ : List (Addr × Obj)} (N : News h₀ L h (n₁ ++ n₂)) : News h₀ L h n₂ := fun q hq => N q (List.mem_append_right _ hq)
noncomputable abbrev fsOf (outer : List Env) : List Addr := outer.filterMap (·.frame)
noncomputable abbrev SpecA (w : World) (p : Program) (lo : List Str) (mean : ExcName → Option Value) (mg mb : Str → Option Value) (C : ∀ (dp un : Nat) (gd : Option (List Code)) (cn : Str) (cs : Scope) (a : Addr) (ccd : Value) (outer : List Env) (A₀ : Around) (base h₀ : Heap) (L : Addr) (m : Str → Option Value) (news : List (Addr × Obj)) (s : Shared) (Q E : Value → Shared → Prop), Prop) : Prop :=
  ∀ (dp un : Nat) (gd : Option (List Code)) (cn : Str) (cs : Scope) (a : Addr) (ccd : Value) (outer : List Env) (A₀ : Around) (base h₀ : Heap) (L : Addr) (m : Str → Option Value) (news : List (Addr × Obj)) (s : Shared) (Q E : Value → Shared → Prop),
    Below A₀ base outer h₀ → Fr h₀ L s.heap m → (hK w.params).In h₀ → News h₀ L s.heap news → Top p lo mean mg mb h₀ → Sets w base → CodeHd base 179 175 → (hK w.params).In base → Top p lo mean mg mb base → KtsDicts (fsOf outer) h₀ → cs.kind = .function →
    C dp un gd cn cs a ccd outer A₀ base h₀ L m news s Q E
noncomputable def tailO (src d : Str) : Out → Out
  | .ok e r => .ok (tailE src d e) (tailR src d e r)
  | .err T => .err T
structure Asked (src : Str) (pos : Int) (mark : Str) (o : Out) : Prop where
  len : src.length < 1000
  pos0 : 0 ≤ pos
  inb : pos + 5 < src.length
  way : (mark = Str.ofString "\"" ∧ ∃ n o₁, PB src n (headP src pos) (Str.ofString "") o₁ ∧ (∀ e r, o₁ = .ok e r → 0 ≤ e ∧ e < 2000 ∧ r.length < 2000) ∧ o = tailO src mark o₁) ∨ (mark = Str.ofString "'" ∧ ∃ o₁, LB src (headP src pos) o₁ ∧ o = tailO src mark o₁)
set_option maxRecDepth 100000 in
set_option maxHeartbeats 8000000 in
theorem spec_asked (w : World) (p : Program) (lo : List Str) (mean : ExcName → Option Value) (mg mb : Str → Option Value) (src : Str) (pos : Int) (mark : Str) (t t2 t3 : Tok) (o : Out) (hask : Asked src pos mark o) : Fill PySem.Challenge.rw_ij0172_01 hK →
  SpecA w p lo mean mg mb fun dp un gd cn cs a ccd outer A₀ base h₀ L m news s Q E => ∀ ps rest, news = (175, tabObj ps) :: rest → TabL ps rest →
    dp + 16 < recursionLimit → un + 100 < cLine →
    (∀ (h' : Heap) (b : Addr) (t1 t2 : Tok) (tk' : Nat) (e : Int) (r : Str), o = .ok e r → Fr h₀ L h' m → News h₀ L h' ((b, tupObj [.int e t1, .str r t2]) :: news) → Q (.ref b) { s with heap := h', toks := tk' }) →
    (∀ (h₀' h' : Heap) (T : Str) (tk : Tok) (tk' : Nat) ps' rest', o = .err T → KtsTurn (fsOf outer) h₀ h₀' → Fr h₀' L h' m → News h₀' L h' ((175, tabObj ps') :: rest') → TabL ps' rest' → (∀ q ∈ rest, q ∈ rest') → Below A₀ base outer h₀' → (hK w.params).In h₀' → Top p lo mean mg mb h₀' → KtsDicts (fsOf outer) h₀' → Q (.str T tk) { s with heap := h', toks := tk' }) →
    wpAny (model PG w) (ktrTop dp un gd cn cs L a ccd [] outer) (call (.ref 244) [.str src t, .int pos t2, .str mark t3]) Q E s := by
  w_top off
  k_fill
  intro _
  dsimp only [SpecA]
  intro dp un gd cn cs a ccd outer A₀ base h₀ L m news s Q E B F X N T ZB CB XB TB D hk ps rest hn hTab hd hu hok herr
  subst hn
  obtain ⟨hlen, hp0, hp1, way⟩ := hask
  rcases way with ⟨rfl, n, o₁, hpb, hbd, ho⟩ | ⟨rfl, o₁, hlb, ho⟩
  · refine wpAny_call ?_
    k_dflt (refine' code_defS ?k1 ?k2 ?k3 ?k4 ?k5 ?kXB ?kTB ?kD ?kT0 ?kF ?k6 ?k7 ?k8 ?k9 ?kB ?_ ?kK ?c2 ?c3 ?c4 ?c5; (case kF => exact rfl); (case kK => assumption); (case k1 => k_asm); (case k2 => k_asm); (case k3 => k_asm); (case k4 => k_asm); (case k5 => k_asm); (case kXB => assumption); (case kTB => assumption); (case kD => assumption); (case kT0 => exact KtsTurn.refl); (case k6 => k_is); (case k7 => k_is); (case k8 => ktr_room); (case k9 => exact BindsTo.of_eq rfl); (case c5 => decide); (case kB => exact locs rfl); (case c2 => exact rfl); (case c3 => exact rfl); (case c4 => exact rfl); k_whole; intro g' L' h' FG' F' N' B' X' T' D'; (try dsimp only); (try k_lift B'); (try k_fold))
    walk_at "mine norm"
    (with_reducible rename Fr h₀ L _ _ => FG)
    have Z' := Sets.keeps ZB B'.stays
    have C' := CodeHd.keeps CB B'.stays
    have hpb := Hold.mk hpb
    w_strict k_steps
    refine ⟨?_⟩
    (with_reducible rename Fr g' L' _ _ => F₂)
    (with_reducible rename News g' L' _ _ => N₂)
    refine spec_multi_b w _ _ _ _ _ src pos _ _ n o₁ hpb.out trivial _ _ _ _ _ _ _ _ _ _ _ _ _ _ _ _ _ _ B' F₂ X' N₂ T' Z' C' rfl ps rest rfl hTab (by ktr_room) (by ktr_room) hlen hp0 hp1 hbd ?_ ?_
    · intro h₂ b₂ tk₂ tk₃ tk₄ e r ho₁ F₃ N₃
      clear F₂ N₂
      subst ho₁
      w_strict k_steps
      exact hok _ _ _ _ _ _ _ ho (by assumption) (by assumption)
    · intro TT hTT h₂ g₂ e₂ t₂ tk tk' ps' rest' Fg Ug R hT' hs
      subst hTT
      clear F₂ N₂
      refine' caught_SOB R Fg B' Ug XB TB D' KtsTurn.refl ?ex ?q ?_
      case ex => k_is
      case q => kernel_rfl
      intro h₃ g₃ news₃ tk₃ T₃ F₃ N₃ G₃ N₄ B₃ X₃ P₃ D₃
      have N₅ : News g₃ L' h₃ (news₃ ++ (175, tabObj ps') :: rest') := fun q hq => (List.mem_append.mp hq).elim (N₃ q) (N₄ q)
      w_strict k_steps
      exact herr _ _ _ _ _ _ _ ho (by assumption) (by assumption) (news_right (by assumption)) hT' hs (by assumption) (by assumption) (by assumption) (by assumption)
  · refine wpAny_call ?_
    k_dflt (refine' code_defS ?k1 ?k2 ?k3 ?k4 ?k5 ?kXB ?kTB ?kD ?kT0 ?kF ?k6 ?k7 ?k8 ?k9 ?kB ?_ ?kK ?c2 ?c3 ?c4 ?c5; (case kF => exact rfl); (case kK => assumption); (case k1 => k_asm); (case k2 => k_asm); (case k3 => k_asm); (case k4 => k_asm); (case k5 => k_asm); (case kXB => assumption); (case kTB => assumption); (case kD => assumption); (case kT0 => exact KtsTurn.refl); (case k6 => k_is); (case k7 => k_is); (case k8 => ktr_room); (case k9 => exact BindsTo.of_eq rfl); (case c5 => decide); (case kB => exact locs rfl); (case c2 => exact rfl); (case c3 => exact rfl); (case c4 => exact rfl); k_whole; intro g' L' h' FG' F' N' B' X' T' D'; (try dsimp only); (try k_lift B'); (try k_fold))
    walk_at "mine norm"
    (with_reducible rename Fr h₀ L _ _ => FG)
    have Z' := Sets.keeps ZB B'.stays
    have C' := CodeHd.keeps CB B'.stays
    have hlb := Hold.mk hlb
    w_strict k_steps
    refine ⟨?_⟩
    (with_reducible rename Fr g' L' _ _ => F₂)
    (with_reducible rename News g' L' _ _ => N₂)
    refine spec_multi_l w _ _ _ _ _ src pos _ _ o₁ hlb.out trivial _ _ _ _ _ _ _ _ _ _ _ _ _ _ _ _ _ _ B' F₂ X' N₂ T' Z' C' rfl ps rest rfl hTab (by ktr_room) (by ktr_room) hlen hp0 hp1 ?_ ?_
    · intro h₂ b₂ tk₂ tk₃ tk₄ e r ho₁ F₃ N₃
      clear F₂ N₂
      subst ho₁
      w_strict k_steps
      exact hok _ _ _ _ _ _ _ ho (by assumption) (by assumption)
    · intro TT hTT h₂ g₂ e₂ t₂ tk tk' ps' rest' Fg Ug R hT' hs
      subst hTT
      clear F₂ N₂
      refine' caught_SOB R Fg B' Ug XB TB D' KtsTurn.refl ?ex ?q ?_
      case ex => k_is
      case q => kernel_rfl
      intro h₃ g₃ news₃ tk₃ T₃ F₃ N₃ G₃ N₄ B₃ X₃ P₃ D₃
      have N₅ : News g₃ L' h₃ (news₃ ++ (175, tabObj ps') :: rest') := fun q hq => (List.mem_append.mp hq).elim (N₃ q) (N₄ q)
      w_strict k_steps
      exact herr _ _ _ _ _ _ _ ho (by assumption) (by assumption) (news_right (by assumption)) hT' hs (by assumption) (by assumption) (by assumption) (by assumption)
end Mine
end
section
open PySem PySem.W PySem.Spec PySem.Calls PyProof.Rows
set_option Elab.async false
set_option compiler.extract_closed false
set_option linter.unusedVariables false
namespace Mine
section
variable {prog : Program} {w : World} {A₀ A : Around} {s : Shared} {base h₀ : Heap} {L : Addr} {m : Str → Option Value} {news : List (Addr × Obj)} {K : Frag} {p : Program} {loose : List Str} {mean : ExcName → Option Value} {mg mb : Str → Option Value}
    {R : Result → Shared → Prop} {name qual : Str} {params : Arguments} {body : List Stmt} {scope : Scope} {dV kV doc pm cdv ct oc : Value} {an od : Option Addr} {osl : Array (Option Value)} {f : Addr} {args : Args} {binds : List (Str × Value)} {env : Env}
/-- entering a def from a frame that may hold cells, where the callee may catch: the ground of the frame is hidden below the made objects -/
theorem enter_env (B : Below A₀ base [] h₀) (F : Fr h₀ L s.heap m) (N : News h₀ L s.heap news) (hA : A.frames = some [env]) (hf : env.frame = some L) (hke : env.scope.kind = .function) :
    ∃ oL es ep, (hideAll s.heap (news.map (·.1))).get? L = some oL ∧ oL.data = .dict es ep ∧ (∀ (sl : Array (Option Value)) h', h'.get? L = some { oL with slots := sl } → Heap.Ns h' L m) ∧
      h₀.StaysIn (hideAll s.heap (news.map (·.1))) ∧ Below A base [env] (hideAll s.heap (news.map (·.1))) := by
  have off : ∀ b o, h₀.get? b = some o → b ∉ news.map (·.1) := fun b o e q => by
    obtain ⟨p, hp, rfl⟩ := List.mem_map.mp q
    rw [(N p hp).2.2] at e; cases e
  have st : h₀.StaysIn (hideAll s.heap (news.map (·.1))) := fun b o e => hideAll_get _ (F.keep b o e) (off b o e)
  obtain ⟨oL, es, ep, hL, hLd, hLk, hLf⟩ := F.ns
  have nL : L ∉ news.map (·.1) := fun q => by
    obtain ⟨p, hp, e⟩ := List.mem_map.mp q
    exact (N p hp).2.1 e
  have P := pushX B F hf hke
  refine ⟨oL, es, ep, hideAll_get _ hL nL, hLd, fun sl h' e => ⟨_, es, ep, e, hLd, hLk, hLf⟩, st, hA, fun b o e => st b o (B.stays b o e), funFrames_hideAll P.frames fun e he b hb hfr => ?_⟩
  rcases List.mem_cons.mp he with rfl | he
  · rw [hf] at hfr
    exact nL ((Option.some.inj hfr : L = b) ▸ hb)
  · cases he
/-- the end of such a def: as LeaveS0, and what it held outside its ledger stands, apart from all that it made -/
noncomputable def LeaveX (fs : List Addr) (h₀ : Heap) (L : Addr) (m : Str → Option Value) (s₀ : Heap) (as : List Addr) (g : Heap) (R : Result → Shared → Prop) (v : Value) (s' : Shared) : Prop :=
  ∃ g' L' m' news', KtsTurn fs g g' ∧ Fr g' L' s'.heap m' ∧ News g' L' s'.heap news' ∧ (Fr h₀ L s'.heap m → News h₀ L s'.heap news' → (∀ b o, s₀.get? b = some o → b ∉ as → b ≠ L → s'.heap.get? b = some o ∧ ∀ p ∈ news', p.1 ≠ b) → R (.ok (.ret v)) s')
theorem code_defSX (B : Below A₀ base [] h₀) (F : Fr h₀ L s.heap m) (X₀ : K.In h₀) (N : News h₀ L s.heap news) (T : Top p loose mean mg mb h₀) (hA : A.frames = some [env]) (hf : env.frame = some L) (hke : env.scope.kind = .function)
    (ho : K.lookup f = some ⟨oc, od, .func (fnOf name qual params body scope dV kV doc pm an cdv ct), osl⟩) (hcd : codeIn K cdv qual = true) (hroom : A.depth < recursionLimit)
    (hbind : BindsTo s (fnOf name qual params body scope dV kV doc pm an cdv ct) args binds) (hloc : ∀ y ∈ binds, scope.names.lookup y.1 = some .local)
    (h : ∀ g L' h₁, Fr h₀ L g m → Fr g L' h₁ (fun y => binds.reverse.lookup y) → News g L' h₁ news → Below A base [env] g → K.In g → Top p loose mean mg mb g → KtsDicts ([env].filterMap (·.frame)) g →
      wpAny (model prog w) (A.deeper (envOf qual scope L' f cdv)) (execs body (envOf qual scope L' f cdv))
        (fun fl s' => LeaveX ([env].filterMap (·.frame)) h₀ L m s.heap (news.map (·.1)) g R (match fl with | .ret v => v | _ => .none) s')
        (fun e s' => wpAny (model prog w) (A.deeper (envOf qual scope L' f cdv)) (leaving (envOf qual scope L' f cdv) e) (fun _ s'' => R (.error e) s'') (fun e' s'' => R (.error e') s'') s')
        { s with heap := h₁, toks := s.toks + binds.length })
    (hco : scope.isCoroutine = false) (hgen : scope.isGenerator = false) (hk : scope.kind = .function)
    (hcell : ∀ x ∈ scope.names, x.2 ≠ .cell) : codeAny (model prog w) A (.call (.ref f) args) R s := by
  have X := X₀.keeps F.keep
  have hfs : [env].filterMap (·.frame) = [L] := by simp [hf]
  refine codeAny_call_def (fd := fnOf name qual params body scope dV kV doc pm an cdv ct) (body := body) (binds := binds) hroom (X _ _ ho) rfl (T.nolimit.keeps F.keep) (codeRec_of X hcd) rfl hbind hcell hloc (fun h₁ hns hk₁ => ?_) hco hgen hk
  obtain ⟨oL, es, ep, hLg, hLd, hN, st, B₂⟩ := enter_env B F N hA hf hke
  have hN0 : Heap.Ns (hideAll s.heap (news.map (·.1))) L m := hN oL.slots _ hLg
  refine wpAny_mono (h _ s.heap.objs.size h₁ ⟨hN0, st, F.above⟩ ⟨hns, fun b o e => hk₁ b o (of_hideAll _ e), Nat.le_of_eq (hideAll_size _ _)⟩
    (fun p hp => ⟨hk₁ _ _ (N p hp).1, Nat.ne_of_lt (Heap.lt_size (N p hp).1), hideAll_none _ (List.mem_map_of_mem hp)⟩) B₂ (X₀.keeps st) (T.keeps st) (fun b hb => by
      rw [hfs] at hb
      obtain rfl := List.mem_singleton.mp hb
      exact ⟨oL, es, ep, hLg, hLd⟩)) (fun fl s' hl => ?_) fun _ _ y => y
  obtain ⟨g', L', m', news', T', F', N', k⟩ := hl
  rw [hfs] at T'
  have nL₀ : h₀.get? L = none := kts_self F
  obtain ⟨sl, hs⟩ := T'.up hLg
  refine k ⟨hN sl _ (F'.keep _ _ hs), fun b o e => F'.keep b o (T'.other b o (st b o e) (fun q => ?_)), F.above⟩ (fun p hp => ⟨(N' p hp).1, fun q => ?_, ?_⟩) fun b o e hb hL => ?_
  · obtain rfl := List.mem_singleton.mp q
    rw [nL₀] at e; cases e
  · have := (N' p hp).2.2
    rw [q, hs] at this; cases this
  · cases q : h₀.get? p.1 with
    | none => rfl
    | some o =>
      obtain ⟨sl', hs'⟩ := T'.up (st _ _ q)
      have := (N' p hp).2.2
      rw [hs'] at this
      cases this
  · have hg := hideAll_get (news.map (·.1)) e hb
    have hg' := T'.other b o hg (fun q => hL (List.mem_singleton.mp q))
    refine ⟨F'.keep b o hg', fun p hp q => ?_⟩
    have := (N' p hp).2.2
    rw [q, hg'] at this
    cases this
end
end Mine
end
section
open PySem PySem.W PySem.Spec PySem.Calls PyProof.Rows PyProof.Rows.LCg
set_option Elab.async false
set_option compiler.extract_closed false
set_option linter.unusedVariables false
namespace Mine
section
variable {prog : Program} {w : World} {A : Around} {s : Shared} {h₀ : Heap} {L : Addr} {m : Str → Option Value} {env : Env} {elt : PySem.Expr} {x : Str} {scope : Scope} {cl : List (Str × Addr)} {S : List (Addr × Obj) → Prop} {P : Nat → Value → Prop} {Fin : List Value → List (Addr × Obj) → Prop} {news₀ : List (Addr × Obj)}
theorem comp_rest_ind {n : Nat} (I : Nat → List Value → List (Addr × Obj) → Prop) (h0 : I 0 [] news₀)
    (step : ∀ i ys nw, i < n → I i ys nw → ∀ v I' oI C oC D m₂ h tk (E' : Value → Shared → Prop), P i v → NsObj oC m₂ → m₂ x = some v → Fr h₀ L h m → News h₀ L h ((I', oI) :: (C, oC) :: (D, lst ys) :: nw) → Off3 I' C D nw → ((@Ne Nat I' C) ∧ (@Ne Nat I' D) ∧ (@Ne Nat C D)) →
      wpAny (model prog w) A (eval elt (compEnvC scope cl C env)) (CompEnd h₀ L m { s with heap := h, toks := tk } I' oI C oC D (lst ys) S (fun y nw' => I (i + 1) (ys ++ [y]) nw')) E' { s with heap := h, toks := tk })
    (fin : ∀ ys nw, I n ys nw → Fin ys nw) : CompRest prog w A h₀ L m env elt x scope cl s S P Fin n 0 [] news₀ := by
  suffices H : ∀ k i ys nw, i + k = n → I i ys nw → CompRest prog w A h₀ L m env elt x scope cl s S P Fin k i ys nw from H n 0 [] news₀ (Nat.zero_add n) h0
  intro k
  induction k with
  | zero =>
    intro i ys nw hi hI
    obtain rfl : i = n := by omega
    exact CompRest.zero (fin _ _ hI)
  | succ k ih =>
    intro i ys nw hi hI
    refine CompRest.succ fun v I' oI C oC D m₂ h tk E' hP hoC hm F N off ne => ?_
    refine wpAny_mono (step i ys nw (by omega) hI v I' oI C oC D m₂ h tk E' hP hoC hm F N off ne) (fun y s₂ hy => ?_) fun _ _ e => e
    obtain ⟨h', tk', nw', e, F', N', off', hS, r⟩ := hy
    exact ⟨h', tk', nw', e, F', N', off', hS, ih (i + 1) _ _ (by omega) r⟩
end
noncomputable abbrev pairObj (st : Str) (t : Tok) (j : Int) (u : Tok) : Obj := W.listOf #[.str st t, .int j u] 0
/-- the drawn strands: a list of pairs, each a list of its own -/
inductive DrawnAt (news off : List (Addr × Obj)) : List (Str × Int) → List Value → Prop
  | nil : DrawnAt news off [] []
  | cons {st : Str} {j : Int} {t u : Tok} {a : Addr} {ds : List (Str × Int)} {ys : List Value} : (a, pairObj st t j u) ∈ news → (∀ p ∈ off, p.1 ≠ a) → DrawnAt news off ds ys → DrawnAt news off ((st, j) :: ds) (.ref a :: ys)
theorem DrawnAt.mono {news news' off : List (Addr × Obj)} {ds : List (Str × Int)} {ys : List Value} (x : DrawnAt news off ds ys) (h : ∀ q ∈ news, q ∈ news') : DrawnAt news' off ds ys := by
  induction x with
  | nil => exact .nil
  | cons m o _ ih => exact .cons (h _ m) o ih
theorem DrawnAt.snoc {news off : List (Addr × Obj)} {ds : List (Str × Int)} {ys : List Value} (x : DrawnAt news off ds ys) {st : Str} {j : Int} {t u : Tok} {a : Addr} (hm : (a, pairObj st t j u) ∈ news) (ho : ∀ p ∈ off, p.1 ≠ a) : DrawnAt news off (ds ++ [(st, j)]) (ys ++ [.ref a]) := by
  induction x with
  | nil => exact .cons hm ho .nil
  | cons m o _ ih => exact .cons m o ih
theorem DrawnAt.length {news off : List (Addr × Obj)} {ds : List (Str × Int)} {ys : List Value} (x : DrawnAt news off ds ys) : ys.length = ds.length := by
  induction x with
  | nil => rfl
  | cons _ _ _ ih => simp [ih]
/-- only the inner lists -/
theorem DrawnAt.inner {news off : List (Addr × Obj)} {ds : List (Str × Int)} {ys : List Value} (x : DrawnAt news off ds ys) : ∃ inn, DrawnAt inn off ds ys ∧ (∀ q ∈ inn, q ∈ news) ∧ ∀ q ∈ inn, ∀ p ∈ off, p.1 ≠ q.1 := by
  induction x with
  | nil => exact ⟨[], .nil, fun _ h => (nomatch h), fun _ h => (nomatch h)⟩
  | @cons st j t u a ds ys m o _ ih =>
    obtain ⟨inn, d, h1, h2⟩ := ih
    refine ⟨(a, pairObj st t j u) :: inn, .cons (.head _) o (d.mono fun q hq => .tail _ hq), fun q hq => ?_, fun q hq => ?_⟩
    · rcases List.mem_cons.mp hq with rfl | hq
      · exact m
      · exact h1 q hq
    · rcases List.mem_cons.mp hq with rfl | hq
      · exact o
      · exact h2 q hq
end Mine
end
section
open PySem PySem.W PySem.Spec PySem.Calls PyProof.Rows
set_option Elab.async false
set_option compiler.extract_closed false
set_option linter.unusedVariables false
namespace Mine
theorem strs_at {vs : List Value} {ys : List Str} (h : StrsAre vs ys) : ∀ (k : Nat) (e : Str), k < ys.length → ∃ u, vs[k]? = some (.str (ys.getD k e) u) := by
  induction h with
  | nil => intro k e hk; simp at hk
  | cons y t _ ih =>
    intro k e hk
    cases k with
    | zero => exact ⟨t, rfl⟩
    | succ k =>
      obtain ⟨u, hu⟩ := ih k e (by simpa using hk)
      exact ⟨u, by simpa using hu⟩
theorem item_sym {prog : Program} {w : World} {A : Around} {E : Value → Shared → Prop} {s : Shared} {l : Addr} {items : Array Value} {k : Int} {t u : Tok} {y : Str} {value slice : PySem.Expr} {Q : Value → Shared → Prop} (hl : s.heap.IsList l items) (h0 : 0 ≤ k) (h1 : k < 2 ^ 63)
    (hx : items[k.toNat]? = some (.str y u)) (h : Q (.str y u) s) (hs : subscripted slice false (.ref l) (.int k t) = operate [.ref l, .int k t] (getItem (.ref l) (.int k t)) := by with_unfolding_all rfl) :
    wpAny (model prog w) A (subscriptTail value slice (.ref l) (.int k t)) Q E s :=
  subscriptTail_builtin_flat hl.typeIs slot_list_getitem.lookup (wpAny_getItem_list hl h0 h1 hx ⟨fun a e => Value.noConfusion e, h⟩) hs
noncomputable def strandTab (odd : Str) : List Str := [Str.ofString ".", Str.ofString "\n", Str.ofString "\n", Str.ofString "\n", Str.ofString "a", Str.ofString "\\u002E", Str.ofString "\\\n", Str.ofString "\\ \n", Str.ofString " ", Str.ofString "\"-", Str.ofString "'-", Str.ofString "\\\\", odd, Str.ofString "..", Str.ofString "\x00", Str.ofString "\\ a"]
noncomputable def figList (v : Int) : List Int := (rangeKs 0 ((v.fdiv 6).fmod 7 - 0).toNat).map fun k => (v.fdiv (42 * 16 ^ k.toNat)).fmod 16
noncomputable def drawOf (odd : Str) (f : Int) : Str × Int := ((strandTab odd).getD f.toNat Str.empty, (f + 2).fmod 3)
theorem pow_ne (k : Int) : (42 * 16 ^ k.toNat : Int) ≠ 0 := by
  have h : (0 : Int) < 16 ^ k.toNat := Int.pow_pos (by decide)
  omega
theorem pow_log {k : Int} (h : k < 7) : (42 * 16 ^ k.toNat : Int).natAbs.log2 < 9000 := by
  have hk : k.toNat < 7 := by omega
  generalize k.toNat = j at hk
  match j, hk with
  | 0, _ => decide
  | 1, _ => decide
  | 2, _ => decide
  | 3, _ => decide
  | 4, _ => decide
  | 5, _ => decide
  | 6, _ => decide
  | j + 7, h => omega
theorem fig_bound {v f : Int} (h : f ∈ figList v) : 0 ≤ f ∧ f < 16 := by
  obtain ⟨k, _, rfl⟩ := List.mem_map.mp h
  exact ⟨Int.fmod_nonneg_of_pos _ (by decide), Int.fmod_lt_of_pos _ (by decide)⟩
theorem tab_strs (odd : Str) (t0 t1 t2 t3 t4 t5 t6 t7 t8 t9 t10 t11 t12 t13 t14 t15 : Tok) :
    StrsAre [.str (Str.ofString ".") t0, .str (Str.ofString "\n") t1, .str (Str.ofString "\n") t2, .str (Str.ofString "\n") t3, .str (Str.ofString "a") t4, .str (Str.ofString "\\u002E") t5, .str (Str.ofString "\\\n") t6, .str (Str.ofString "\\ \n") t7, .str (Str.ofString " ") t8, .str (Str.ofString "\"-") t9, .str (Str.ofString "'-") t10, .str (Str.ofString "\\\\") t11, .str odd t12, .str (Str.ofString "..") t13, .str (Str.ofString "\x00") t14, .str (Str.ofString "\\ a") t15] (strandTab odd) := by
  repeat constructor
theorem tab_at (odd : Str) (k : Nat) (hk : k < 16) (t0 t1 t2 t3 t4 t5 t6 t7 t8 t9 t10 t11 t12 t13 t14 t15 : Tok) :
    ∃ u, (#[Value.str (Str.ofString ".") t0, .str (Str.ofString "\n") t1, .str (Str.ofString "\n") t2, .str (Str.ofString "\n") t3, .str (Str.ofString "a") t4, .str (Str.ofString "\\u002E") t5, .str (Str.ofString "\\\n") t6, .str (Str.ofString "\\ \n") t7, .str (Str.ofString " ") t8, .str (Str.ofString "\"-") t9, .str (Str.ofString "'-") t10, .str (Str.ofString "\\\\") t11, .str odd t12, .str (Str.ofString "..") t13, .str (Str.ofString "\x00") t14, .str (Str.ofString "\\ a") t15] : Array Value)[k]? = some (.str ((strandTab odd).getD k Str.empty) u) := by
  obtain ⟨u, hu⟩ := strs_at (tab_strs odd t0 t1 t2 t3 t4 t5 t6 t7 t8 t9 t10 t11 t12 t13 t14 t15) k Str.empty hk
  exact ⟨u, by simpa using hu⟩
structure AllBelow (L : Nat) (news : List (Addr × Obj)) : Prop where
  out : ∀ q ∈ news, @LT.lt Nat _ q.1 L
theorem step_end {g' h' : Heap} {L' a I9 C9 D9 D' : Addr} {m : Str → Option Value} {s : Shared} {oI9 oC9 : Obj} {ys2 : List Value} {rest nw N0 news : List (Addr × Obj)} {its : Array Value} {st : Str} {t u : Tok} {j : Int} {ds : List (Str × Int)} {i : Nat} {tk : Nat}
    (F : Fr g' L' h' m) (N : News g' L' h' ((a, pairObj st t j u) :: (I9, oI9) :: (C9, oC9) :: (D9, LCg.lst ys2) :: rest)) (hrest : ∀ q ∈ nw, q ∈ rest) (hsub : ∀ q ∈ N0, q ∈ nw) (hnews : ∀ q ∈ news, q ∈ rest)
    (l1 : @LT.lt Nat _ I9 a ∧ @LT.lt Nat _ C9 a ∧ @LT.lt Nat _ D9 a ∧ AllLt a rest) (off : LCg.Off3 I9 C9 D9 nw) (hS : ∃ o, (D', o) ∈ N0 ∧ o.cls = .type "list" ∧ ∃ n, o.data = .seq its n)
    (hdr : DrawnAt nw news (ds.take i) ys2) (hds : ds.take (i + 1) = ds.take i ++ [(st, j)]) :
    LCg.CompEnd g' L' m s I9 oI9 C9 oC9 D9 (LCg.lst ys2) (LCg.SrcAt g' D' its) (fun y nw' => (∀ q ∈ N0, q ∈ nw') ∧ DrawnAt nw' news (ds.take (i + 1)) (ys2 ++ [y])) (.ref a) { s with heap := h', toks := tk } := by
  obtain ⟨q1, q2, q3, qa0⟩ := l1
  have qa := ktn_ltOf qa0
  refine LCg.CompEnd.intro F N ((a, pairObj st t j u) :: nw) (fun p hp => ?_) ⟨⟨Nat.ne_of_gt q1, Nat.ne_of_gt q2, Nat.ne_of_gt q3⟩, off⟩ ?_ ⟨fun q hq => .tail _ (hsub q hq), ?_⟩
  · rcases List.mem_cons.mp hp with rfl | hp
    · exact .tail _ (.head _)
    · rcases List.mem_cons.mp hp with rfl | hp
      · exact .tail _ (.tail _ (.head _))
      · rcases List.mem_cons.mp hp with rfl | hp
        · exact .tail _ (.tail _ (.tail _ (.head _)))
        · rcases List.mem_cons.mp hp with rfl | hp
          · exact .head _
          · exact .tail _ (.tail _ (.tail _ (.tail _ (hrest p hp))))
  · obtain ⟨o, hm, r⟩ := hS
    exact .inr ⟨o, .tail _ (hsub _ hm), r⟩
  · rw [hds]
    exact (hdr.mono fun q hq => .tail _ hq).snoc (.head _) fun p hp => Nat.ne_of_lt (qa p (hnews p hp))
theorem off1_mem {D : Addr} : ∀ {l : List (Addr × Obj)}, LCg.Off1 D l → ∀ p ∈ l, p.1 ≠ D
  | [], _, _, h => nomatch h
  | _ :: _, x, p, h => by
    rcases List.mem_cons.mp h with rfl | h
    · exact x.1
    · exact off1_mem x.2 p h
end Mine
end
section
open PySem PySem.W PySem.Spec PySem.Calls PyProof.Rows
set_option Elab.async false
set_option compiler.extract_closed false
set_option linter.unusedVariables false
namespace Mine
/-- the end of a turn of a loop: the ledger stands, or the loop is left by a return -/
noncomputable def TurnEnd (h₀ : Heap) (L : Addr) (led : List (Addr × Obj)) (Jn : (Str → Option Value) → Prop) (Q : Flow → Shared → Prop) (s₁ : Shared) (f : Flow) (s₂ : Shared) : Prop :=
  match f with
  | .ret v => Q (.ret v) s₂
  | .brk => False
  | _ => ∃ h' tk m₂, s₂ = { s₁ with heap := h', toks := tk } ∧ Fr h₀ L h' m₂ ∧ News h₀ L h' led ∧ Jn m₂
section
variable {prog : Program} {w : World} {A : Around} {s : Shared} {env : Env} {h₀ : Heap} {E : Value → Shared → Prop} {Q : Flow → Shared → Prop} {x : Str} {px pos : Pos} {iter : PySem.Expr} {body : List Stmt} {m : Str → Option Value} {news : List (Addr × Obj)}
theorem for_walk {I : Addr} {fp : List Addr} {n : Nat} {P : Nat → Value → Prop} {St : Nat → Heap → Prop} {s₂ : Shared} (W : Walks prog w A I fp [I] n P St) (hLf : env.locals ∉ fp) (hI : h₀.get? I = none) (hnw : ∀ p ∈ news, p.1 ≠ I) (hst : St 0 s₂.heap)
    (F : Fr h₀ env.locals s₂.heap m) (N : News h₀ env.locals s₂.heap news) (J : Nat → (Str → Option Value) → Prop) (h0 : J 0 m)
    (step : ∀ i v m₁ h tk own, i < n → P i v → J i m₁ → Fr h₀ env.locals h (fun y => if y = x then some v else m₁ y) → News h₀ env.locals h (news ++ own) →
      wpAny (model prog w) A (execs body env) (TurnEnd h₀ env.locals (news ++ own) (J (i + 1)) Q { s₂ with heap := h, toks := tk }) E { s₂ with heap := h, toks := tk })
    (fin : ∀ h' tk m', Fr h₀ env.locals h' m' → News h₀ env.locals h' news → J n m' → Q .next { s₂ with heap := h', toks := tk }) :
    LoopAt3 prog w A h₀ env x body Q E (.ref I) s₂ := by
  refine ⟨I, fp, [I], n, P, St, m, news, fun i m₁ news₁ => news₁ = news ∧ J i m₁, rfl, W, hLf, fun b hb => by rw [List.mem_singleton.mp hb]; exact hI, fun p hp hb => hnw p hp (List.mem_singleton.mp hb), hst, F, N, ⟨rfl, h0⟩, ?_, ?_⟩
  · rintro i v m₁ news₁ s₁ own ⟨h, tk, rfl⟩ hi hP ⟨rfl, hJ⟩ _ hown hall F₁ N₁
    have N₂ : News h₀ env.locals h (news₁ ++ own) := fun q hq => N₁ q (by
      rcases List.mem_append.mp hq with hq | hq
      · exact List.mem_append_right _ hq
      · exact List.mem_append_left _ hq)
    refine wpAny_mono (step i v m₁ h tk own hi hP hJ F₁ N₂) (fun f s₃ h₃ => ?_) fun _ _ e => e
    have back : (∃ h' tk' m₂, s₃ = { s₂ with heap := h', toks := tk' } ∧ Fr h₀ env.locals h' m₂ ∧ News h₀ env.locals h' (news₁ ++ own) ∧ J (i + 1) m₂) →
        LoopStep2 h₀ env.locals own news₁ (fun m₁ news₂ => news₂ = news₁ ∧ J (i + 1) m₁) { s₂ with heap := h, toks := tk } .next s₃ := by
      rintro ⟨h', tk', m₂, rfl, F₃, N₃, hJ₃⟩
      refine ⟨rfl, h', tk', m₂, news₁, rfl, F₃, fun q hq => N₃ q ?_, rfl, rfl, hJ₃⟩
      rcases List.mem_append.mp hq with hq | hq
      · exact List.mem_append_right _ hq
      · exact List.mem_append_left _ hq
    cases f with
    | ret v => exact h₃
    | brk => exact h₃.elim
    | cont => exact back h₃
    | next => exact back h₃
  · rintro h' tk m' news' F' N' _ ⟨rfl, hJ⟩
    exact fin h' tk m' F' N' hJ
/-- a loop over a list of the ledger -/
theorem for_list {D : Addr} {ys : List Value} (hx : env.kindOf x = some .local) (hp : (env.scope.kind == .class || (env.scope.kind == .module && env.locals != env.globals)) = false) (hh : A.handled = none)
    (hev : ∀ Q' : Value → Shared → Prop, Q' (.ref D) s → wpAny (model prog w) A (eval iter env) Q' E s) (F : Fr h₀ env.locals s.heap m) (N : News h₀ env.locals s.heap news) (hD : (D, LCg.lst ys) ∈ news) (hsz : ys.length ≤ 1000)
    (J : Nat → (Str → Option Value) → Prop) (h0 : J 0 m)
    (step : ∀ i v m₁ h tk own, i < ys.length → ys[i]? = some v → J i m₁ → Fr h₀ env.locals h (fun y => if y = x then some v else m₁ y) → News h₀ env.locals h (news ++ own) →
      wpAny (model prog w) A (execs body env) (TurnEnd h₀ env.locals (news ++ own) (J (i + 1)) Q { s with heap := h, toks := tk }) E { s with heap := h, toks := tk })
    (fin : ∀ h' tk m', Fr h₀ env.locals h' m' → News h₀ env.locals h' news → J ys.length m' → Q .next { s with heap := h', toks := tk })
    (hs : ∀ x, foldedSetIterable iter env x = pure x := by intro _; rfl) (hE : PassesOwn (model prog w) A env E := by passes_own) :
    wpAny (model prog w) A (exec (.For (.Name x px) iter body [] pos) env) Q E s := by
  have hl : s.heap.IsList D ys.toArray := ⟨_, (N _ hD).1, rfl, _, rfl⟩
  have hlt : D < s.heap.objs.size := Heap.lt_size (N _ hD).1
  refine For_inv3 h₀ hx hp (hev _ (wpAny_pyIter_list hl ?_)) hs hE
  have up : ∀ b o, s.heap.get? b = some o → (s.heap.push { cls := .type "list_iterator", data := .fields #[.ref D, .int 0 0] }).get? b = some o := fun b o e => Heap.get?_push_of_some _ e
  refine for_walk (Walks.list hh s.heap.objs.size D (Nat.ne_of_lt hlt) ys.toArray) (fun hm => ?_) (next_is_new F) (fun p hp => Nat.ne_of_lt (Heap.lt_size (N p hp).1)) ⟨⟨_, Heap.get?_push_size _ rfl, rfl, rfl⟩, hl.push _⟩ (F.keeps up) (N.grown up) J h0 ?_ ?_
  · rcases List.mem_cons.mp hm with e | hm
    · exact Nat.lt_irrefl _ (e ▸ F.ns.lt)
    · exact (N _ hD).2.1 (List.mem_singleton.mp hm).symm
  · intro i v m₁ h tk own hi hP hJ F₁ N₁
    exact step i v m₁ h tk own (by simpa using hi) (by simpa using hP) hJ F₁ N₁
  · intro h' tk m' F' N' hJ
    exact fin h' tk m' F' N' (by simpa using hJ)
end
end Mine
end
section
open PySem PySem.W PySem.Spec PySem.Calls PyProof.Rows
set_option Elab.async false
set_option compiler.extract_closed false
set_option linter.unusedVariables false
namespace Mine
noncomputable def endOf (text : Str) (j : Int) : Str := if j = 0 then (if (Txt.item text (-1) == Str.ofString "\r") = true then Str.ofString "\r\n" else Str.ofString "\n") else if j = 1 then Str.ofString "\r\n" else Str.ofString "\r"
noncomputable def wStep (text : Str) (d : Str × Int) : Str := if (Txt.item d.1 (-1) == Str.ofString "\n") = true then text ++ (Txt.slice d.1 none (some (-1)) ++ endOf text d.2) else text ++ d.1
noncomputable def text0 (mark : Str) : Str := Str.ofString ".a\r" ++ Txt.mul mark 3
noncomputable def writeText (ds : List (Str × Int)) (mark : Str) (more : Int) : Str := ds.foldl wStep (text0 mark) ++ Txt.mul mark 3 ++ Txt.mul mark more ++ Str.ofString ",\r."
structure LocW (m : Str → Option Value) (D : Addr) (mark : Str) (more : Int) (t2 t3 : Tok) (text : Str) : Prop where
  drawn : m (Str.ofString "drawn") = some (.ref D)
  mark : m (Str.ofString "mark") = some (.str mark t2)
  more : m (Str.ofString "more") = some (.int more t3)
  text : ∃ tx, m (Str.ofString "text") = some (.str text tx)
structure DsOk (ds : List (Str × Int)) : Prop where
  len : ds.length ≤ 6
  each : ∀ d ∈ ds, 1 ≤ d.1.length ∧ d.1.length ≤ 6 ∧ (d.2 = 0 ∨ d.2 = 1 ∨ d.2 = 2)
theorem mul3_len {mark : Str} (h : mark.length = 1) : (Txt.mul mark 3).length ≤ 3 := by
  obtain ⟨⟨l⟩⟩ := mark
  match l, h with
  | [c], _ => exact Nat.le_of_eq rfl
theorem mulm_len {mark : Str} {more : Int} (h : mark.length = 1) (h0 : 0 ≤ more) (h2 : more ≤ 2) : (Txt.mul mark more).length ≤ 2 := by
  obtain ⟨⟨l⟩⟩ := mark
  have hm : more = 0 ∨ more = 1 ∨ more = 2 := by omega
  match l, h with
  | [c], _ =>
    rcases hm with rfl | rfl | rfl
    · exact Nat.le_of_ble_eq_true rfl
    · exact Nat.le_of_ble_eq_true rfl
    · exact Nat.le_of_ble_eq_true rfl
theorem text0_len {mark : Str} (h : mark.length = 1) : (text0 mark).length ≤ 6 := by
  have := mul3_len h
  have h3 : (Str.ofString ".a\r").length = 3 := by decide
  unfold text0
  rw [str_len_app]; omega
theorem endOf_len (text : Str) (j : Int) : (endOf text j).length ≤ 2 := by
  unfold endOf
  split
  · split <;> decide
  · split <;> decide
theorem wStep_len (text : Str) (d : Str × Int) (h : d.1.length ≤ 6) : (wStep text d).length ≤ text.length + 8 := by
  unfold wStep
  split
  · rw [str_len_app, str_len_app]
    have := endOf_len text d.2
    have := Txt.slice_le d.1 none (some (-1))
    omega
  · rw [str_len_app]; omega
/-- a drawn pair by its place -/
theorem DrawnAt.at {news off : List (Addr × Obj)} {ds : List (Str × Int)} {ys : List Value} (x : DrawnAt news off ds ys) : ∀ (i : Nat) (v : Value), ys[i]? = some v → ∃ a t u d, v = .ref a ∧ ds[i]? = some d ∧ (a, pairObj d.1 t d.2 u) ∈ news := by
  induction x with
  | nil => intro i v h; simp at h
  | @cons st j t u a ds ys m _ _ ih =>
    intro i v h
    cases i with
    | zero => simp at h; exact ⟨a, t, u, (st, j), h.symm, rfl, m⟩
    | succ i => exact ih i v (by simpa using h)
theorem take_fold {α β : Type} {f : β → α → β} {b : β} {l : List α} {i : Nat} {d : α} (h : l[i]? = some d) : (l.take (i + 1)).foldl f b = f ((l.take i).foldl f b) d := by
  rw [List.take_add_one, h, List.foldl_append]; rfl
theorem w_yes {text st : Str} {j : Int} (h : (Txt.item st (-1) == Str.ofString "\n") = true) : wStep text (st, j) = text ++ (Txt.slice st none (some (-1)) ++ endOf text j) := by unfold wStep; rw [if_pos h]
theorem w_no {text st : Str} {j : Int} (h : (Txt.item st (-1) == Str.ofString "\n") = false) : wStep text (st, j) = text ++ st := by unfold wStep; rw [if_neg (by simp [h])]
theorem wStep_ge (text : Str) (d : Str × Int) : text.length ≤ (wStep text d).length := by
  unfold wStep
  split
  · rw [str_len_app]; omega
  · rw [str_len_app]; omega
theorem text0_ge {mark : Str} : 1 ≤ (text0 mark).length := by
  unfold text0
  have h3 : (Str.ofString ".a\r").length = 3 := by decide
  rw [str_len_app]; omega
theorem end0_y {t : Str} (h : (Txt.item t (-1) == Str.ofString "\r") = true) : endOf t 0 = Str.ofString "\r\n" := by unfold endOf; rw [if_pos rfl, if_pos h]
theorem end0_n {t : Str} (h : (Txt.item t (-1) == Str.ofString "\r") = false) : endOf t 0 = Str.ofString "\n" := by unfold endOf; rw [if_pos rfl, if_neg (by simp [h])]
theorem end1 {t : Str} : endOf t 1 = Str.ofString "\r\n" := rfl
theorem end2 {t : Str} : endOf t 2 = Str.ofString "\r" := rfl
theorem text_is {X : Option Value} {T T' : Str} (e : T = T') (h : ∃ (T'' : Str) (tx : Tok), X = some (.str T'' tx) ∧ T' = T'') : ∃ tx, X = some (.str T tx) := by
  obtain ⟨T'', tx, h, e'⟩ := h
  exact ⟨tx, by rw [e, e']; exact h⟩
theorem strs_len {vs : List Value} {ys : List Str} (h : StrsAre vs ys) : vs.length = ys.length := by
  induction h with
  | nil => rfl
  | cons _ _ _ ih => simp [ih]
theorem item_last {prog : Program} {w : World} {A : Around} {E : Value → Shared → Prop} {s : Shared} {a : Addr} {items : Array Value} {ys : List Str} {t : Tok} {value slice : PySem.Expr} {Q : Value → Shared → Prop} (hl : s.heap.IsList a items) (hi : StrsAre items.toList ys) (h1 : 1 ≤ ys.length) (h2 : ys.length < 1000)
    (h : ∀ u, Q (.str (ys.getD (ys.length - 1) Str.empty) u) s) (hs : subscripted slice false (.ref a) (.int (-1) t) = operate [.ref a, .int (-1) t] (getItem (.ref a) (.int (-1) t)) := by with_unfolding_all rfl) :
    wpAny (model prog w) A (subscriptTail value slice (.ref a) (.int (-1) t)) Q E s := by
  have hlen : items.size = ys.length := by rw [← strs_len hi]; simp
  obtain ⟨u, hu⟩ := strs_at hi (ys.length - 1) Str.empty (by omega)
  refine subscriptTail_builtin_flat hl.typeIs slot_list_getitem.lookup (wpAny_getItem_list_neg hl (by decide) (by omega) (by decide) (x := .str (ys.getD (ys.length - 1) Str.empty) u) ?_ ⟨fun b e => Value.noConfusion e, h u⟩) hs
  have e : (-1 + (items.size : Int)).toNat = ys.length - 1 := by omega
  rw [e]
  simpa using hu
noncomputable def lastRow (laid : Str) : Str := (Txt.split laid (Str.ofString "\n")).getD ((Txt.split laid (Str.ofString "\n")).length - 1) Str.empty
noncomputable def wordsText (what laid : Str) (further : Int) : Str := what ++ Str.ofString " (at line " ++ Str.ofString (toString ((Txt.split laid (Str.ofString "\n")).length : Int)) ++ Str.ofString ", column " ++ Str.ofString (toString (((lastRow laid).length : Int) + 1 + further)) ++ Str.ofString ")"
end Mine
end
end
section
open PySem PySem.W PySem.Spec PySem.Calls PyProof.Rows
set_option Elab.async false
set_option compiler.extract_closed false
set_option linter.unusedVariables false
namespace Mine
local macro_rules | `(tactic| walk_at "subscriptTail") => `(tactic| ((with_reducible show wpAny _ _ (subscriptTail _ _ (Value.ref _) (Value.int (-1) _)) _ _ _); refine hold ?_))
local macro_rules | `(tactic| walk_at "call type:str") => `(tactic| ((with_reducible show wpAny _ _ (call (Value.type "str") [Value.int _ _]) _ _ _); refine hold ?_))
theorem small_abs {a : Int} (h0 : 0 ≤ a) (h1 : a < 10000) : a.natAbs.log2 < 1920 := by
  have h : a.natAbs < 2 ^ 14 := by lia
  rcases Nat.eq_zero_or_pos a.natAbs with e | e
  · rw [e]; decide
  · have := (Nat.log2_lt (by lia)).mpr h
    lia
theorem small_text {a : Int} (h0 : 0 ≤ a) (h1 : a < 10000) : (Str.ofString (toString a)).length ≤ 10 := KT.len_num h0 (by lia)
set_option maxRecDepth 100000 in
set_option maxHeartbeats 8000000 in
theorem spec_words (w : World) (p : Program) (lo : List Str) (mean : ExcName → Option Value) (mg mb : Str → Option Value) (what laid : Str) (further : Int) (t t2 t3 : Tok) : Fill PySem.Challenge.rw_ij0172_01 hK →
  Spec w p lo mean mg mb fun dp un gd cn cs a ccd cl outer h₀ L m news s Q E =>
    dp + 4 < recursionLimit → un + 24 < cLine → what.length ≤ 50 → laid.length ≤ 200 → 0 ≤ further → further ≤ 2 → (Txt.split laid (Str.ofString "\n")).length ≤ 300 → 1 ≤ (Txt.split laid (Str.ofString "\n")).length → (lastRow laid).length ≤ 200 →
    (∀ (h' : Heap) (t1 : Tok) (tk' : Nat), Fr h₀ L h' m → News h₀ L h' news → Q (.str (wordsText what laid further) t1) { s with heap := h', toks := tk' }) →
    wpAny (model PG w) (ktrTop dp un gd cn cs L a ccd cl outer) (call (.ref 230) [.str what t, .str laid t2, .int further t3]) Q E s := by
  w_top off
  k_fill
  intro _
  dsimp only [Spec]
  intro dp un gd cn cs a ccd cl outer A₀ base h₀ L m news s Q E B F X N T Z C hk hd hu hwl hll hf0 hf2 hsp hsp1 hlr hret
  refine wpAny_call ?_
  k_dflt cell_enter
  walk_at "mine norm"
  rename_i g' L' h' FG' F' N' B' X' T'
  w_strict k_steps
  refine ⟨?_⟩
  (rename List.map _ _ = Txt.split _ _ => hlook)
  have hlen := congrArg List.length hlook
  rw [List.length_map] at hlen
  simp only [hlen]
  refine P.str_of_int (small_abs (by lia) (by lia)) ?_
  have hts := small_text (a := ((Txt.split laid (Str.ofString "\n")).length : Int)) (by lia) (by lia)
  w_strict k_steps
  refine ⟨?_⟩
  (with_reducible rename News g' L' _ _ => N₂)
  (with_reducible rename StrsAre _ _ => hsa)
  rw [hlook] at hsa
  refine item_last ⟨_, (N₂ _ (.head _)).1, rfl, _, rfl⟩ hsa hsp1 (by lia) ?_
  intro u
  show wpAny _ _ _ _ _ _
  have hlr' : ((Txt.split laid (Str.ofString "\n")).getD ((Txt.split laid (Str.ofString "\n")).length - 1) Str.empty).length ≤ 200 := hlr
  w_strict k_steps
  refine ⟨?_⟩
  refine P.str_of_int (small_abs (by lia) (by lia)) ?_
  have hts2 := small_text (a := (((Txt.split laid (Str.ofString "\n")).getD ((Txt.split laid (Str.ofString "\n")).length - 1) Str.empty).length : Int) + 1 + further) (by lia) (by lia)
  w_strict k_steps
  exact hret _ _ _ (by assumption) (by first | assumption | exact news_tail (by assumption))
end Mine
end
section
local macro_rules | `(tactic| omega) => `(tactic| first | lia | omega +splitDisjunctions)
section
open PySem PySem.W PySem.Spec PySem.Calls PyProof.Rows
set_option Elab.async false
set_option compiler.extract_closed false
set_option linter.unusedVariables false
namespace Mine
section
variable {prog : Program} {w : World} {A : Around} {s : Shared} {env : Env} {h₀ : Heap} {E : Value → Shared → Prop} {Q : Flow → Shared → Prop} {x : Str} {body : List Stmt} {m : Str → Option Value} {news : List (Addr × Obj)}
/-- a loop over a range that stands in the ledger, left by a return where need be -/
theorem for_range {r : Addr} {b₀ : Int} {t₀ u₀ v₀ : Tok} {n : Nat} (hh : A.handled = none) (hr : IsRange s.heap r 0 b₀ 1 t₀ u₀ v₀) (hsmall : Builtin.Range.small 0 b₀ 1 = true) (hn : Builtin.Range.rangeSize 0 b₀ 1 = (n : Int))
    (F : Fr h₀ env.locals s.heap m) (N : News h₀ env.locals s.heap news)
    (J : Nat → (Str → Option Value) → Prop) (h0 : J 0 m)
    (step : ∀ i t m₁ h tk own, i < n → J i m₁ → Fr h₀ env.locals h (fun y => if y = x then some (.int (i : Int) t) else m₁ y) → News h₀ env.locals h (news ++ own) →
      wpAny (model prog w) A (execs body env) (TurnEnd h₀ env.locals (news ++ own) (J (i + 1)) Q { s with heap := h, toks := tk }) E { s with heap := h, toks := tk })
    (fin : ∀ h' tk m', Fr h₀ env.locals h' m' → News h₀ env.locals h' news → J n m' → Q .next { s with heap := h', toks := tk }) :
    wpAny (model prog w) A (pyIter (.ref r)) (fun it s₂ => LoopAt3 prog w A h₀ env x body Q E it s₂) E s := by
  refine wpAny_pyIter_range hr hsmall ?_
  have up : ∀ b o, s.heap.get? b = some o → (s.heap.push { cls := .type "range_iterator", data := .fields #[rawInt 0, rawInt (Builtin.Range.rangeSize 0 b₀ 1), rawInt 1] }).get? b = some o := fun b o e => Heap.get?_push_of_some _ e
  have W : Walks prog w A s.heap.objs.size [s.heap.objs.size] [s.heap.objs.size] n (fun i v => i < n ∧ ∃ t, v = .int (0 + i * 1) t)
      (fun i h => IsRangeIter h s.heap.objs.size (0 + (i : Nat) * 1) ((n : Int) - (i : Nat)) 1) := (Walks.range hh _ 0 1 n).bound
  refine for_walk W (fun hm => absurd F.ns.lt ((List.mem_singleton.mp hm) ▸ Nat.lt_irrefl _)) (next_is_new F) (fun p hp => Nat.ne_of_lt (Heap.lt_size (N p hp).1)) (by show IsRangeIter _ _ _ _ _; rw [hn]; simpa using Heap.get?_push_size _ rfl) (F.keeps up) (N.grown up) J h0 ?_ ?_
  · rintro i v m₁ h tk own hi ⟨_, t, rfl⟩ hJ F₁ N₁
    have e1 : (0 : Int) + (i : Int) * 1 = (i : Int) := by omega
    rw [e1] at F₁
    exact step i t m₁ h tk own hi hJ F₁ N₁
  · exact fun h' tk m' F' N' hJ => fin h' tk m' F' N' hJ
end
/-- what a turn of _law_due carries -/
structure DueS where
  laid : Str
  text : Str
  eaten : Bool
noncomputable def dNul (mark laid : Str) : Str := wordsText ((if (mark == Str.ofString "\"") = true then Str.ofString "Illegal" else Str.ofString "Found invalid") ++ Str.ofString " character '\\x00'") laid 0
noncomputable def dEsc (laid : Str) : Str := wordsText (Str.ofString "Unescaped '\\' in a string") laid 2
noncomputable def dDots (dot strand : Str) (σ : DueS) : Bool := (Txt.item strand 0 == Str.ofString ".") && (Txt.item σ.laid (-1) == Str.ofString "\n")
noncomputable def dMeans (st : Str) : Str :=
  if (st == Str.ofString "\\u002E") = true then Str.ofString "." else if (st == Str.ofString "\\\n") = true then Str.ofString "" else if (st == Str.ofString "\\ \n") = true then Str.ofString "" else if (st == Str.ofString "\\\\") = true then Str.ofString "\\" else st
noncomputable def dStep (mark dot : Str) (k : Nat) (σ : DueS) (st : Str) : DueS :=
  let laid := if dDots dot st σ then σ.laid ++ dot else σ.laid
  let text := if dDots dot st σ then σ.text ++ dot else σ.text
  if (st == Str.ofString " ") || (st == Str.ofString "\n") then
    { laid := laid ++ st, text := if !σ.eaten && (decide (0 < k) || (st == Str.ofString " ")) then text ++ st else text, eaten := σ.eaten }
  else if mark == Str.ofString "'" then { laid := laid ++ st, text := text ++ st, eaten := σ.eaten }
  else { laid := laid ++ st, text := text ++ dMeans st, eaten := Txt.item st (-1) == Str.ofString "\n" }
noncomputable def dStop (mark : Str) (σ : DueS) (st : Str) : Option Str :=
  if (st == Str.ofString "\x00") = true then some (dNul mark σ.laid)
  else if ((st == Str.ofString "\\ a") && (mark == Str.ofString "\"")) = true then some (dEsc σ.laid) else none
inductive DueOut where
  | ok (pos : Int) (text : Str)
  | words (x : Str)
noncomputable def dueGo (mark dot : Str) (more : Int) : Nat → DueS → List Str → DueOut
  | k, σ, [] => .ok ((σ.laid.length : Int) + 3 + more) (σ.text ++ Txt.mul mark more)
  | k, σ, st :: rest => match dStop mark σ st with
    | some x => .words x
    | none => dueGo mark dot more (k + 1) (dStep mark dot k σ st) rest
noncomputable def due0 (mark dot : Str) : DueS := ⟨dot ++ Str.ofString ".a\n" ++ Txt.mul mark 3, Str.ofString "", false⟩
noncomputable def due (mark dot : Str) (more : Int) (sts : List Str) : DueOut := dueGo mark dot more 0 (due0 mark dot) sts
/-- what stands in the frame of _law_due -/
structure LocD (m : Str → Option Value) (D M : Addr) (mark dot : Str) (more : Int) (t2 t3 t4 : Tok) (σ : DueS) : Prop where
  drawn : m (Str.ofString "drawn") = some (.ref D)
  mark : m (Str.ofString "mark") = some (.str mark t2)
  more : m (Str.ofString "more") = some (.int more t3)
  dot : m (Str.ofString "dot") = some (.str dot t4)
  means : m (Str.ofString "means") = some (.ref M)
  laid : ∃ tx, m (Str.ofString "laid") = some (.str σ.laid tx)
  text : ∃ tx, m (Str.ofString "text") = some (.str σ.text tx)
  eaten : m (Str.ofString "eaten") = some (.bool σ.eaten)
/-- where the run of _law_due stands -/
structure DueAt (mark dot : Str) (more : Int) (sts : List Str) (i : Nat) (σ : DueS) : Prop where
  go : due mark dot more sts = dueGo mark dot more i σ (sts.drop i)
  len : σ.laid.length ≤ 7 + 7 * i
  ge : 1 ≤ σ.laid.length
  tlen : σ.text.length ≤ 7 * i
theorem due0_len {mark dot : Str} (h : mark.length = 1) (hd : dot.length ≤ 1) : (due0 mark dot).laid.length ≤ 7 ∧ 1 ≤ (due0 mark dot).laid.length := by
  have h3 : (Str.ofString ".a\n").length = 3 := by decide
  have := mul3_len h
  show (dot ++ Str.ofString ".a\n" ++ Txt.mul mark 3).length ≤ 7 ∧ 1 ≤ (dot ++ Str.ofString ".a\n" ++ Txt.mul mark 3).length
  rw [str_len_app, str_len_app]; omega
theorem DueAt.start {mark dot : Str} {more : Int} {sts : List Str} (h : mark.length = 1) (hd : dot.length ≤ 1) : DueAt mark dot more sts 0 (due0 mark dot) :=
  ⟨rfl, (due0_len h hd).1, (due0_len h hd).2, Nat.zero_le _⟩
theorem dMeans_len (st : Str) (hst : 1 ≤ st.length) : (dMeans st).length ≤ st.length := by
  unfold dMeans
  have h0 : (Str.ofString "").length = 0 := by decide
  have h1 : (Str.ofString ".").length = 1 := by decide
  have h2 : (Str.ofString "\\").length = 1 := by decide
  repeat' split
  all_goals omega
theorem dStep_laid (mark dot : Str) (k : Nat) (σ : DueS) (st : Str) : (dStep mark dot k σ st).laid = (if dDots dot st σ then σ.laid ++ dot else σ.laid) ++ st := by
  unfold dStep
  dsimp only
  repeat' split
  all_goals rfl
theorem dStep_text (mark dot : Str) (k : Nat) (σ : DueS) (st : Str) (h1 : 1 ≤ st.length) (hd : dot.length ≤ 1) : (dStep mark dot k σ st).text.length ≤ σ.text.length + 1 + st.length := by
  have hm := dMeans_len st h1
  have ht : (if dDots dot st σ = true then σ.text ++ dot else σ.text).length ≤ σ.text.length + 1 := by
    split
    · rw [str_len_app]; omega
    · omega
  unfold dStep
  dsimp only
  repeat' split
  all_goals dsimp only
  all_goals first | (simp only [str_len_app]; omega) | omega
theorem DueAt.stop {mark dot : Str} {more : Int} {sts : List Str} {i : Nat} {σ : DueS} {st x : Str} (h : DueAt mark dot more sts i σ) (hi : sts[i]? = some st) (hs : dStop mark σ st = some x) : due mark dot more sts = .words x := by
  have hlt : i < sts.length := by
    rcases Nat.lt_or_ge i sts.length with h | h
    · exact h
    · rw [List.getElem?_eq_none h] at hi; exact absurd hi (by simp)
  have he : sts[i] = st := by rw [List.getElem?_eq_getElem hlt] at hi; exact Option.some.inj hi
  rw [h.go, List.drop_eq_getElem_cons hlt, he]
  unfold dueGo
  rw [hs]
theorem DueAt.next {mark dot : Str} {more : Int} {sts : List Str} {i : Nat} {σ : DueS} {st : Str} (h : DueAt mark dot more sts i σ) (hi : sts[i]? = some st) (hs : dStop mark σ st = none) (hl1 : 1 ≤ st.length) (hl : st.length ≤ 6) (hd : dot.length ≤ 1) : DueAt mark dot more sts (i + 1) (dStep mark dot i σ st) := by
  have hlt : i < sts.length := by
    rcases Nat.lt_or_ge i sts.length with h | h
    · exact h
    · rw [List.getElem?_eq_none h] at hi; exact absurd hi (by simp)
  have he : sts[i] = st := by rw [List.getElem?_eq_getElem hlt] at hi; exact Option.some.inj hi
  have hlen : (dStep mark dot i σ st).laid.length ≤ σ.laid.length + 7 ∧ σ.laid.length ≤ (dStep mark dot i σ st).laid.length := by
    rw [dStep_laid, str_len_app]
    split
    · rw [str_len_app]; omega
    · omega
  have := h.len
  have := h.ge
  have := h.tlen
  have := dStep_text mark dot i σ st hl1 hd
  refine ⟨?_, by omega, by omega, by omega⟩
  rw [h.go, List.drop_eq_getElem_cons hlt, he]
  conv => lhs; unfold dueGo
  rw [hs]
theorem DueAt.fin {mark dot : Str} {more : Int} {sts : List Str} {σ : DueS} (h : DueAt mark dot more sts sts.length σ) : due mark dot more sts = .ok ((σ.laid.length : Int) + 3 + more) (σ.text ++ Txt.mul mark more) := by
  rw [h.go, List.drop_length]
  rfl
noncomputable def dMid (dot st : Str) (σ : DueS) : DueS := ⟨if dDots dot st σ then σ.laid ++ dot else σ.laid, if dDots dot st σ then σ.text ++ dot else σ.text, σ.eaten⟩
theorem mid_yes {dot st : Str} {σ : DueS} (h1 : (Txt.item st 0 == Str.ofString ".") = true) (h2 : (Txt.item σ.laid (-1) == Str.ofString "\n") = true) : dMid dot st σ = ⟨σ.laid ++ dot, σ.text ++ dot, σ.eaten⟩ := by
  have : dDots dot st σ = true := by unfold dDots; rw [h1, h2]; rfl
  unfold dMid; rw [if_pos this, if_pos this]
theorem mid_no1 {dot st : Str} {σ : DueS} (h1 : (Txt.item st 0 == Str.ofString ".") = false) : dMid dot st σ = σ := by
  have : ¬ dDots dot st σ = true := by unfold dDots; rw [h1]; simp
  unfold dMid; rw [if_neg this, if_neg this]
theorem mid_no2 {dot st : Str} {σ : DueS} (h2 : (Txt.item σ.laid (-1) == Str.ofString "\n") = false) : dMid dot st σ = σ := by
  have : ¬ dDots dot st σ = true := by unfold dDots; rw [h2]; simp
  unfold dMid; rw [if_neg this, if_neg this]
noncomputable def dLast (mark : Str) (k : Nat) (τ : DueS) (st : Str) : DueS :=
  if (st == Str.ofString " ") || (st == Str.ofString "\n") then
    { laid := τ.laid ++ st, text := if !τ.eaten && (decide (0 < k) || (st == Str.ofString " ")) then τ.text ++ st else τ.text, eaten := τ.eaten }
  else if mark == Str.ofString "'" then { laid := τ.laid ++ st, text := τ.text ++ st, eaten := τ.eaten }
  else { laid := τ.laid ++ st, text := τ.text ++ dMeans st, eaten := Txt.item st (-1) == Str.ofString "\n" }
theorem dStep_last (mark dot : Str) (k : Nat) (σ : DueS) (st : Str) : dStep mark dot k σ st = dLast mark k (dMid dot st σ) st := rfl
/-- behind the statement that doubles a dot -/
noncomputable def DueMid (h₀ : Heap) (L : Addr) (led : List (Addr × Obj)) (D M : Addr) (mark dot : Str) (more : Int) (t2 t3 t4 : Tok) (τ : DueS) (st : Str) (tv : Tok) (i : Nat) (ti : Tok) (s₁ : Shared) (f : Flow) (s₂ : Shared) : Prop :=
  f = .next ∧ ∃ h' tk m₂, s₂ = { s₁ with heap := h', toks := tk } ∧ Fr h₀ L h' m₂ ∧ News h₀ L h' led ∧ LocD m₂ D M mark dot more t2 t3 t4 τ ∧ m₂ (Str.ofString "strand") = some (.str st tv) ∧ m₂ (Str.ofString "k") = some (.int (i : Int) ti)
theorem dMid_len {dot st : Str} {σ : DueS} (h : dot.length ≤ 1) : (dMid dot st σ).laid.length ≤ σ.laid.length + 1 ∧ (dMid dot st σ).text.length ≤ σ.text.length + 1 := by
  unfold dMid
  dsimp only
  split
  · simp only [str_len_app]; omega
  · omega
theorem beq_flip (a b : Str) : (a == b) = (b == a) := by
  by_cases h : a = b
  · subst h; rfl
  · have h1 : (a == b) = false := by simpa using h
    have h2 : (b == a) = false := by simpa using fun e : b = a => h e.symm
    rw [h1, h2]
theorem means_data (st : Str) (t1 t2 t3 t4 u1 u2 u3 u4 : Tok) :
    (PySem.Spec.lookup (.str st) (strData [(.str (Str.ofString "\\u002E") t1, .str (Str.ofString ".") u1), (.str (Str.ofString "\\\n") t2, .str (Str.ofString "") u2), (.str (Str.ofString "\\ \n") t3, .str (Str.ofString "") u3), (.str (Str.ofString "\\\\") t4, .str (Str.ofString "\\") u4)])).getD (.str st) = .str (dMeans st) := by
  unfold dMeans
  rw [beq_flip st (Str.ofString "\\u002E"), beq_flip st (Str.ofString "\\\n"), beq_flip st (Str.ofString "\\ \n"), beq_flip st (Str.ofString "\\\\")]
  show (if (Str.ofString "\\u002E" == st) = true then some (PyData.str (Str.ofString ".")) else if (Str.ofString "\\\n" == st) = true then some (PyData.str (Str.ofString "")) else if (Str.ofString "\\ \n" == st) = true then some (PyData.str (Str.ofString "")) else if (Str.ofString "\\\\" == st) = true then some (PyData.str (Str.ofString "\\")) else none).getD (.str st) = _
  repeat' split
  all_goals rfl
theorem means_flat {v : Value} {st : Str} {t1 t2 t3 t4 u1 u2 u3 u4 : Tok} (h : PyProof.V.Flat v ((PySem.Spec.lookup (.str st) (strData [(.str (Str.ofString "\\u002E") t1, .str (Str.ofString ".") u1), (.str (Str.ofString "\\\n") t2, .str (Str.ofString "") u2), (.str (Str.ofString "\\ \n") t3, .str (Str.ofString "") u3), (.str (Str.ofString "\\\\") t4, .str (Str.ofString "\\") u4)])).getD (.str st))) : ∃ t, v = .str (dMeans st) t := by
  rw [means_data] at h
  exact h.str_inv
theorem pos_cast {i : Nat} {c : Prop} (h : 0 < (i : Int)) : decide (0 < i) = true := by simp; omega
theorem last_a {mark st : Str} {k : Nat} {τ : DueS} (h1 : (st == Str.ofString " ") = true) (h : τ.eaten = true) : dLast mark k τ st = ⟨τ.laid ++ st, τ.text, τ.eaten⟩ := by unfold dLast; simp [h1, h]
theorem last_b {mark st : Str} {k : Nat} {τ : DueS} (h1 : (st == Str.ofString " ") = true) (h : τ.eaten = false) : dLast mark k τ st = ⟨τ.laid ++ st, τ.text ++ st, τ.eaten⟩ := by unfold dLast; simp [h1, h]
theorem last_c {mark st : Str} {k : Nat} {τ : DueS} (h1 : (st == Str.ofString "\n") = true) (h : τ.eaten = true) : dLast mark k τ st = ⟨τ.laid ++ st, τ.text, τ.eaten⟩ := by unfold dLast; simp [h1, h]
theorem last_d {mark st : Str} {k : Nat} {τ : DueS} (h1 : (st == Str.ofString "\n") = true) (h : τ.eaten = false) (hk : 0 < (k : Int)) : dLast mark k τ st = ⟨τ.laid ++ st, τ.text ++ st, τ.eaten⟩ := by
  have hk' : 0 < k := by omega
  unfold dLast; simp [h1, h, hk']
theorem last_e {mark st : Str} {k : Nat} {τ : DueS} (h0 : (st == Str.ofString " ") = false) (h1 : (st == Str.ofString "\n") = true) (h : τ.eaten = false) (hk : ¬ 0 < (k : Int)) : dLast mark k τ st = ⟨τ.laid ++ st, τ.text, τ.eaten⟩ := by
  have hk' : k = 0 := by omega
  unfold dLast; rw [h0, h1, h, hk']; rfl
theorem last_f {mark st : Str} {k : Nat} {τ : DueS} (h0 : (st == Str.ofString " ") = false) (h1 : (st == Str.ofString "\n") = false) (h : (mark == Str.ofString "'") = true) : dLast mark k τ st = ⟨τ.laid ++ st, τ.text ++ st, τ.eaten⟩ := by unfold dLast; rw [h0, h1, h]; rfl
theorem last_g {mark st : Str} {k : Nat} {τ : DueS} (h0 : (st == Str.ofString " ") = false) (h1 : (st == Str.ofString "\n") = false) (h : (mark == Str.ofString "'") = false) : dLast mark k τ st = ⟨τ.laid ++ st, τ.text ++ dMeans st, Txt.item st (-1) == Str.ofString "\n"⟩ := by unfold dLast; rw [h0, h1, h]; rfl
theorem stop_no1 {mark st : Str} {σ : DueS} (h0 : (st == Str.ofString "\x00") = false) (h1 : (st == Str.ofString "\\ a") = false) : dStop mark σ st = none := by unfold dStop; rw [h0, h1]; rfl
theorem stop_no2 {mark st : Str} {σ : DueS} (h0 : (st == Str.ofString "\x00") = false) (h1 : (mark == Str.ofString "\"") = false) : dStop mark σ st = none := by unfold dStop; rw [h0, h1, Bool.and_false]; rfl
theorem stop_nul {mark st : Str} {σ : DueS} (h0 : (st == Str.ofString "\x00") = true) : dStop mark σ st = some (dNul mark σ.laid) := by unfold dStop; rw [h0]; rfl
theorem stop_esc {mark st : Str} {σ : DueS} (h0 : (st == Str.ofString "\x00") = false) (h1 : (st == Str.ofString "\\ a") = true) (h2 : (mark == Str.ofString "\"") = true) : dStop mark σ st = some (dEsc σ.laid) := by unfold dStop; rw [h0, h1, h2]; rfl
theorem sub_le (x : Str) (i j : Nat) : (Builtin.Str.strSub x i j).length ≤ x.length := by
  unfold Builtin.Str.strSub
  show (Array.extract _ _ _).size ≤ x.cps.size
  rw [Array.size_extract]
  omega
theorem split_room (x y : Str) : 1 ≤ (Txt.split x y).length ∧ (Txt.split x y).length ≤ x.length + 2 ∧ ∀ p ∈ Txt.split x y, p.length ≤ x.length := by
  unfold Txt.split
  split
  · exact ⟨Nat.le_refl _, by simp, fun p hp => by rw [List.mem_singleton.mp hp]; exact Nat.le_refl _⟩
  · split
    · exact ⟨Nat.le_refl _, by simp, fun p hp => by rw [List.mem_singleton.mp hp]; exact Nat.le_refl _⟩
    · have h := len_partsBetween x (Builtin.Str.occurrences x y 0 x.length (x.length + 1)) y.length
      have h2 := StrLaws.occ_length_le x y 0 x.length (x.length + 1)
      refine ⟨by omega, by omega, fun p hp => ?_⟩
      unfold Builtin.Str.partsBetween at hp
      obtain ⟨q, _, rfl⟩ := List.mem_map.mp hp
      exact sub_le _ _ _
theorem lastRow_le (x : Str) : (lastRow x).length ≤ x.length := by
  unfold lastRow
  have h := split_room x (Str.ofString "\n")
  have hlt : (Txt.split x (Str.ofString "\n")).length - 1 < (Txt.split x (Str.ofString "\n")).length := by omega
  rw [List.getD_eq_getElem?_getD, List.getElem?_eq_getElem hlt]
  exact h.2.2 _ (List.getElem_mem hlt)
theorem nul_a {mark st : Str} {σ : DueS} (h0 : (st == Str.ofString "\x00") = true) (h : (mark == Str.ofString "\"") = true) : dStop mark σ st = some (wordsText (Str.ofString "Illegal" ++ Str.ofString " character '\\x00'") σ.laid 0) := by
  rw [stop_nul h0]; unfold dNul; rw [if_pos h]
theorem nul_b {mark st : Str} {σ : DueS} (h0 : (st == Str.ofString "\x00") = true) (h : (mark == Str.ofString "\"") = false) : dStop mark σ st = some (wordsText (Str.ofString "Found invalid" ++ Str.ofString " character '\\x00'") σ.laid 0) := by
  rw [stop_nul h0]; unfold dNul; rw [if_neg (by rw [h]; simp)]
end Mine
end
section
open PySem PySem.W PySem.Spec PySem.Calls PyProof.Rows
set_option Elab.async false
set_option compiler.extract_closed false
set_option linter.unusedVariables false
namespace Mine
local macro_rules | `(tactic| walk_at "eval Name") => `(tactic| (k_here; k_dflt (refine' ld ?k1 ?k2 ?_; (case k1 => k_asm); (case k2 => assumption); k_whole)))
local macro_rules | `(tactic| walk_at "TurnEnd") => `(tactic| (refine hold ?_))
local macro_rules | `(tactic| walk_at "DueMid") => `(tactic| (refine hold ?_))
local macro_rules | `(tactic| walk_at "subscriptTail") => `(tactic| ((with_reducible show wpAny _ _ (subscriptTail _ _ (Value.ref _) (Value.int _ _)) _ _ _); refine hold ?_))
local macro_rules | `(tactic| walk_at "exec If") => `(tactic| ((with_reducible show wpAny _ _ (exec (Stmt.If (PySem.Expr.BoolOp _ [PySem.Expr.Compare (PySem.Expr.Subscript _ _ _) _ _ _, _] _) _ _ _) _) _ _ _); (fail_if_success (with_reducible show wpAny _ _ _ (DueMid _ _ _ _ _ _ _ _ _ _ _ _ _ _ _ _ _) _ _)); refine hold ?_))
local macro_rules | `(tactic| walk_at "exec For") => `(tactic| (refine hold ?_))
local macro_rules | `(tactic| walk_at "exec For Name Call cons nil") => `(tactic| (refine hold ?_))
local macro_rules | `(tactic| walk_at "call builtin:len") => `(tactic| ((with_reducible show wpAny _ _ (call (Value.builtin "len") [Value.ref _]) _ _ _); refine hold ?_))
local macro_rules | `(tactic| walk_at "exec For Name Call") => `(tactic| (refine hold ?_))
local macro_rules | `(tactic| walk_at "pyIter") => `(tactic| (refine hold ?_))
local macro_rules | `(tactic| walk_at "pyIter ref") => `(tactic| (refine hold ?_))
/-- what stands behind a statement that falls through -/
noncomputable def Cut (h₀ : Heap) (L : Addr) (m : Str → Option Value) (led : List (Addr × Obj)) (P : Prop) (s₁ : Shared) (Q : Flow → Shared → Prop) (f : Flow) (s₂ : Shared) : Prop :=
  (f = .next ∧ P ∧ ∃ h' tk, s₂ = { s₁ with heap := h', toks := tk } ∧ Fr h₀ L h' m ∧ News h₀ L h' led) ∨ Q f s₂
theorem if_cut {M : Model} {A : Around} {x : Sem Flow} {E : Value → Shared → Prop} {s s₁ : Shared} {h₀ hh : Heap} {L : Addr} {m : Str → Option Value} {led : List (Addr × Obj)} {Q : Flow → Shared → Prop} (F : Fr h₀ L hh m) (P : Prop)
    (h : wpAny M A x (Cut h₀ L m led P s₁ Q) E s) (h2 : P → ∀ h' tk, Fr h₀ L h' m → News h₀ L h' led → Q .next { s₁ with heap := h', toks := tk }) : wpAny M A x Q E s :=
  wpAny_mono h (fun f s' hc => by
    rcases hc with ⟨rfl, hp, h', tk, rfl, F, N⟩ | hq
    · exact h2 hp h' tk F N
    · exact hq) fun _ _ e => e
local macro_rules | `(tactic| walk_at "exec If") => `(tactic| ((with_reducible show wpAny _ _ (exec (Stmt.If (PySem.Expr.BoolOp .And [PySem.Expr.Compare (PySem.Expr.Name _ _) _ _ _, _] _) _ _ _) _) _ _ _); (fail_if_success (with_reducible show wpAny _ _ _ (Cut _ _ _ _ _ _ _) _ _)); refine hold ?_))
local macro_rules | `(tactic| walk_at "Cut") => `(tactic| (refine hold ?_))
set_option maxRecDepth 100000 in
set_option maxHeartbeats 8000000 in
theorem spec_due (w : World) (p : Program) (lo : List Str) (mean : ExcName → Option Value) (mg mb : Str → Option Value) (D : Addr) (ys : List Value) (ds : List (Str × Int)) (mark dot : Str) (more : Int) (t2 t3 t4 : Tok) (hds : DsOk ds) : Fill PySem.Challenge.rw_ij0172_01 hK →
  Spec w p lo mean mg mb fun dp un gd cn cs a ccd cl outer h₀ L m news s Q E => ∀ off,
    dp + 8 < recursionLimit → un + 60 < cLine → mark.length = 1 → dot.length ≤ 1 → 0 ≤ more → more ≤ 2 → (D, LCg.lst ys) ∈ news → DrawnAt news off ds ys →
    (∀ (h' : Heap) (b : Addr) (t1 t2 : Tok) (tk' : Nat) (e : Int) (r : Str), due mark dot more (ds.map (·.1)) = .ok e r → Fr h₀ L h' m → News h₀ L h' ((b, tupObj [.int e t1, .str r t2]) :: news) → Q (.ref b) { s with heap := h', toks := tk' }) →
    (∀ (h' : Heap) (T : Str) (t1 : Tok) (tk' : Nat), due mark dot more (ds.map (·.1)) = .words T → Fr h₀ L h' m → News h₀ L h' news → Q (.str T t1) { s with heap := h', toks := tk' }) →
    wpAny (model PG w) (ktrTop dp un gd cn cs L a ccd cl outer) (call (.ref 237) [.ref D, .str mark t2, .int more t3, .str dot t4]) Q E s := by
  w_top off
  k_fill
  intro _
  dsimp only [Spec]
  intro dp un gd cn cs a ccd cl outer A₀ base h₀ L m news s Q E B F X N T Z C hk off hd hu hmk hdt hm0 hm2 hD hdr hok hwd
  have hds' := Hold.mk hds
  clear hds
  refine wpAny_call ?_
  k_dflt cell_enter
  walk_at "mine norm"
  rename_i g' L' h' FG' F' N' B' X' T'
  (with_reducible rename Fr h₀ L _ _ => FG)
  have Z' := Sets.keeps Z (Fr.keep FG)
  have C' := CodeHd.keeps C (Fr.keep FG)
  have hl3 := mul3_len hmk
  have hlm := mulm_len hmk hm0 hm2
  w_strict k_steps
  refine ⟨?_⟩
  (with_reducible rename Fr g' L' _ _ => F₂)
  (with_reducible rename News g' L' _ _ => N₂)
  refine For_inv3 g' rfl rfl ?_
  w_strict k_steps
  refine ⟨?_⟩
  have hyl : ys.length ≤ 6 := by rw [hdr.length]; exact hds'.out.len
  (with_reducible rename News g' L' _ _ => N₃)
  refine len_list (items := ys.toArray) ⟨_, (N₃ _ (by first | exact hD | exact .tail _ hD)).1, rfl, _, rfl⟩ (by rw [List.size_toArray]; omega) ?_
  rw [List.size_toArray]
  w_strict k_steps
  refine ⟨?_⟩
  (with_reducible rename Fr g' L' _ _ => F₄)
  (with_reducible rename News g' L' _ _ => N₄)
  (with_reducible rename IsRange _ _ _ _ _ _ _ _ => hr)
  (rename Obj => oM)
  refine' for_range (n := ys.length) rfl hr ?hsm ?hn F₄ N₄ (fun i m₁ => ∃ σ, LocD m₁ D h'.objs.size mark dot more t2 t3 t4 σ ∧ DueAt mark dot more (ds.map (·.1)) i σ) ?h0 ?step ?fin
  case hsm => exact small_one (by decide) (by decide) (by omega) (by omega)
  case hn => rw [rangeSize_one]; split <;> omega
  case h0 => exact ⟨due0 mark dot, ⟨rfl, rfl, rfl, rfl, rfl, ⟨_, rfl⟩, ⟨_, rfl⟩, rfl⟩, .start hmk hdt⟩
  case fin =>
    intro h₃ tk₃ m₃ F₃ N₃ J₃
    change Fr g' L' h₃ m₃ at F₃
    change News g' L' h₃ (_ :: news) at N₃
    obtain ⟨σ, ⟨l1, l2, l3, l4, l5, ⟨u1, l6⟩, ⟨u2, l7⟩, l8⟩, hat⟩ := J₃
    have hdl : (ds.map (·.1)).length = ys.length := by rw [List.length_map, hdr.length]
    rw [← hdl] at hat
    have hfin := Hold.mk hat.fin
    have q1 := hat.len
    have q2 := hat.tlen
    rw [hdl] at q1 q2
    clear F₄ N₄ hr hat hdl
    w_strict k_steps
    (with_reducible rename News h₀ _ _ _ => NN)
    exact hok _ _ _ _ _ _ _ hfin.out (by assumption) (fun q hq => by
      rcases List.mem_cons.mp hq with rfl | hq
      · exact NN _ (.head _)
      · exact NN _ (.tail _ (.tail _ hq)))
  case step =>
    intro i ti m₁ h₃ tk₃ own hi J₃ F₃ N₃
    change Fr g' L' h₃ _ at F₃
    change News g' L' h₃ _ at N₃
    obtain ⟨σ, ⟨l1, l2, l3, l4, l5, ⟨u1, l6⟩, ⟨u2, l7⟩, l8⟩, hat⟩ := J₃
    obtain ⟨yv, hyv⟩ : ∃ yv, ys[i]? = some yv := ⟨_, List.getElem?_eq_getElem hi⟩
    obtain ⟨av, tv, uv, d, rfl, hd_i, hmem⟩ := hdr.at i yv hyv
    have hdm := List.mem_of_getElem? hd_i
    obtain ⟨d1, d2, d3⟩ := hds'.out.each d hdm
    have hst : (ds.map (·.1))[i]? = some d.1 := by rw [List.getElem?_map, hd_i]; rfl
    obtain ⟨st, j⟩ := d
    dsimp only at d1 d2 d3 hmem hst
    have N₅ : News g' L' h₃ ((av, pairObj st tv j uv) :: (_ :: news ++ own)) := fun q hq => by
      rcases List.mem_cons.mp hq with rfl | hq
      · exact N₃ _ (List.mem_append_left _ (.tail _ hmem))
      · exact N₃ q hq
    have q1 := hat.len
    have q2 := hat.tlen
    have q3 := hat.ge
    have hat' := Hold.mk hat
    clear N₃ F₄ N₄ hr hdm hat
    w_strict k_steps
    refine ⟨?_⟩
    refine item_listL (l := ys) ⟨_, (N₅ _ (by exact .tail _ (.tail _ (List.mem_append_left _ hD)))).1, rfl, _, rfl⟩ (by omega) (by omega) hyv ?_
    w_strict k_steps
    refine ⟨?_⟩
    (with_reducible rename News g' L' _ _ => N₆)
    refine item_sym (items := #[.str st tv, .int j uv]) (y := st) (u := tv) ⟨_, (N₆ _ (.head _)).1, rfl, _, rfl⟩ (by decide) (by decide) rfl ?_
    w_strict k_steps
    rotate_right 1
    · refine ⟨?_⟩
      (with_reducible rename Fr g' L' _ _ => F₆)
      (with_reducible rename News g' L' _ _ => N₇)
      refine if_cut F₆ (dStop mark σ st = none) (led := (h'.objs.size, oM) :: news ++ own) (s₁ := s) ?hh ?h2
      case hh =>
        w_strict k_steps
        all_goals first
          | (refine ⟨?_⟩
             (with_reducible rename Fr g' L' _ _ => F₇)
             (with_reducible rename News g' L' _ _ => N₈)
             refine .inl ⟨rfl, ?stop, _, _, rfl, F₇, fun q hq => N₈ q (.tail _ hq)⟩
             case stop => first | exact stop_no1 (by assumption) (by assumption) | exact stop_no2 (by assumption) (by assumption))
          | skip
        (with_reducible rename Fr g' L' _ _ => F₆)
        (with_reducible rename News g' L' _ _ => N₇)
        have hsr := split_room σ.laid (Str.ofString "\n")
        have hlr := lastRow_le σ.laid
        refine spec_words w _ _ _ _ _ _ σ.laid _ _ _ _ trivial _ _ _ _ _ _ _ _ _ _ _ _ _ _ _ _ _ _ B' F₆ X' N₇ T' Z' C' rfl (by ktr_room) (by ktr_room) (by decide) (by omega) (by decide) (by decide) (by omega) (by omega) (by omega) ?_
        intro h₅ t₅ tk₅ F₁₁ N₁₁
        clear F₆ N₇ hsr hlr
        refine .inr ?_
        dsimp only [TurnEnd]
        w_strict k_steps
        (with_reducible rename News h₀ _ _ _ => N₁₂)
        refine hwd _ _ _ _ ?_ (by assumption) (fun q hq => N₁₂ q (.tail _ (List.mem_append_left _ (.tail _ hq))))
        exact hat'.out.stop hst (stop_esc (by assumption) (by assumption) (by assumption))
      clear F₆ N₇
      intro hstop h₆ tk₆ F₆ N₇
      have hstop := Hold.mk hstop
      dsimp only
      w_strict k_steps
      refine ⟨?_⟩
      (with_reducible rename Fr g' L' _ _ => F₆)
      (with_reducible rename News g' L' _ _ => N₇)
      refine wpAny_mono (Q := DueMid g' L' ((h'.objs.size, oM) :: news ++ own) D h'.objs.size mark dot more t2 t3 t4 (dMid dot st σ) st tv i ti s) ?_ ?_ (fun _ _ e => e)
      · w_strict k_steps
        all_goals (
          refine ⟨?_⟩
          (with_reducible rename Fr g' L' _ _ => F₇)
          (with_reducible rename News g' L' _ _ => N₈)
          first
            | rw [mid_yes (dot := dot) (st := st) (σ := σ) (by assumption) (by assumption)]
            | rw [mid_no2 (dot := dot) (st := st) (σ := σ) (by assumption)]
            | rw [mid_no1 (dot := dot) (st := st) (σ := σ) (by assumption)]
          exact ⟨rfl, _, _, _, rfl, F₇, N₈, ⟨by assumption, by assumption, by assumption, by assumption, by assumption, by first | exact ⟨_, rfl⟩ | exact ⟨_, by assumption⟩, by first | exact ⟨_, rfl⟩ | exact ⟨_, by assumption⟩, by assumption⟩, by first | rfl | assumption, by first | rfl | assumption⟩)
      · rintro f s₃ ⟨rfl, h₄, tk₄, m₄, rfl, F₈, N₉, ⟨e1, e2, e3, e4, e5, ⟨u3, e6⟩, ⟨u4, e7⟩, e8⟩, e9, e10⟩
        dsimp only at *
        have hml := dMid_len (dot := dot) (st := st) (σ := σ) hdt
        obtain ⟨b1, b2⟩ := hml
        have hlast := Hold.mk (dStep_last mark dot i σ st)
        clear F₆ N₇
        generalize dMid dot st σ = τ at *
        w_strict k_steps
        rotate_right 1
        · (with_reducible rename PyProof.V.Flat _ _ => hfl)
          obtain ⟨u5, hu5⟩ := means_flat hfl
          subst hu5
          have hdm5 := dMeans_len st d1
          clear hfl
          w_strict k_steps
          all_goals (
          refine ⟨?_⟩
          (with_reducible rename Fr g' L' _ _ => F₁₀)
          (with_reducible rename News g' L' _ _ => N₁₀)
          refine ⟨_, _, _, rfl, F₁₀, ?n, dStep mark dot i σ st, ?loc, hat'.out.next hst ?stop d1 d2 hdt⟩
          case n => first | exact N₁₀ | exact fun q hq => N₁₀ q (.tail _ hq)
          case stop => exact hstop.out
          case loc =>
            rw [hlast.out]
            first
              | rw [last_a (mark := mark) (st := st) (k := i) (τ := τ) (by assumption) (by assumption)]
              | rw [last_b (mark := mark) (st := st) (k := i) (τ := τ) (by assumption) (by assumption)]
              | rw [last_c (mark := mark) (st := st) (k := i) (τ := τ) (by assumption) (by assumption)]
              | rw [last_d (mark := mark) (st := st) (k := i) (τ := τ) (by assumption) (by assumption) (by assumption)]
              | rw [last_e (mark := mark) (st := st) (k := i) (τ := τ) (by assumption) (by assumption) (by assumption) (by assumption)]
              | rw [last_f (mark := mark) (st := st) (k := i) (τ := τ) (by assumption) (by assumption) (by assumption)]
              | rw [last_g (mark := mark) (st := st) (k := i) (τ := τ) (by assumption) (by assumption) (by assumption)]
            exact ⟨by assumption, by assumption, by assumption, by assumption, by assumption, by first | exact ⟨_, rfl⟩ | exact ⟨_, by assumption⟩, by first | exact ⟨_, rfl⟩ | exact ⟨_, by assumption⟩, by first | rfl | assumption⟩)
        all_goals (
          refine ⟨?_⟩
          (with_reducible rename Fr g' L' _ _ => F₁₀)
          (with_reducible rename News g' L' _ _ => N₁₀)
          refine ⟨_, _, _, rfl, F₁₀, ?n, dStep mark dot i σ st, ?loc, hat'.out.next hst ?stop d1 d2 hdt⟩
          case n => first | exact N₁₀ | exact fun q hq => N₁₀ q (.tail _ hq)
          case stop => exact hstop.out
          case loc =>
            rw [hlast.out]
            first
              | rw [last_a (mark := mark) (st := st) (k := i) (τ := τ) (by assumption) (by assumption)]
              | rw [last_b (mark := mark) (st := st) (k := i) (τ := τ) (by assumption) (by assumption)]
              | rw [last_c (mark := mark) (st := st) (k := i) (τ := τ) (by assumption) (by assumption)]
              | rw [last_d (mark := mark) (st := st) (k := i) (τ := τ) (by assumption) (by assumption) (by assumption)]
              | rw [last_e (mark := mark) (st := st) (k := i) (τ := τ) (by assumption) (by assumption) (by assumption) (by assumption)]
              | rw [last_f (mark := mark) (st := st) (k := i) (τ := τ) (by assumption) (by assumption) (by assumption)]
              | rw [last_g (mark := mark) (st := st) (k := i) (τ := τ) (by assumption) (by assumption) (by assumption)]
            exact ⟨by assumption, by assumption, by assumption, by assumption, by assumption, by first | exact ⟨_, rfl⟩ | exact ⟨_, by assumption⟩, by first | exact ⟨_, rfl⟩ | exact ⟨_, by assumption⟩, by first | rfl | assumption⟩)
    · (with_reducible rename Fr g' L' _ _ => F₆)
      (with_reducible rename News g' L' _ _ => N₇)
      have hsr := split_room σ.laid (Str.ofString "\n")
      have hlr := lastRow_le σ.laid
      refine spec_words w _ _ _ _ _ _ σ.laid _ _ _ _ trivial _ _ _ _ _ _ _ _ _ _ _ _ _ _ _ _ _ _ B' F₆ X' N₇ T' Z' C' rfl (by ktr_room) (by ktr_room) (by decide) (by omega) (by decide) (by decide) (by omega) (by omega) (by omega) ?_
      intro h₅ t₅ tk₅ F₁₁ N₁₁
      clear F₆ N₇ hsr hlr
      dsimp only [TurnEnd]
      w_strict k_steps
      (with_reducible rename News h₀ _ _ _ => N₁₂)
      refine hwd _ _ _ _ ?_ (by assumption) (fun q hq => N₁₂ q (.tail _ (List.mem_append_left _ (.tail _ hq))))
      exact hat'.out.stop hst (nul_a (by assumption) (by assumption))
    · (with_reducible rename Fr g' L' _ _ => F₆)
      (with_reducible rename News g' L' _ _ => N₇)
      have hsr := split_room σ.laid (Str.ofString "\n")
      have hlr := lastRow_le σ.laid
      refine spec_words w _ _ _ _ _ _ σ.laid _ _ _ _ trivial _ _ _ _ _ _ _ _ _ _ _ _ _ _ _ _ _ _ B' F₆ X' N₇ T' Z' C' rfl (by ktr_room) (by ktr_room) (by decide) (by omega) (by decide) (by decide) (by omega) (by omega) (by omega) ?_
      intro h₅ t₅ tk₅ F₁₁ N₁₁
      clear F₆ N₇ hsr hlr
      dsimp only [TurnEnd]
      w_strict k_steps
      (with_reducible rename News h₀ _ _ _ => N₁₂)
      refine hwd _ _ _ _ ?_ (by assumption) (fun q hq => N₁₂ q (.tail _ (List.mem_append_left _ (.tail _ hq))))
      exact hat'.out.stop hst (nul_b (by assumption) (by assumption))
end Mine
end
section
open PySem PySem.W PySem.Spec PySem.Calls PyProof.Rows
set_option Elab.async false
set_option compiler.extract_closed false
set_option linter.unusedVariables false
namespace Mine
local macro_rules | `(tactic| walk_at "exec For") => `(tactic| (refine hold ?_))
local macro_rules | `(tactic| walk_at "exec For Name Name") => `(tactic| (refine hold ?_))
local macro_rules | `(tactic| walk_at "eval Name") => `(tactic| (k_here; k_dflt (refine' ld ?k1 ?k2 ?_; (case k1 => k_asm); (case k2 => assumption); k_whole)))
local macro_rules | `(tactic| walk_at "TurnEnd") => `(tactic| (refine hold ?_))
local macro_rules | `(tactic| walk_at "subscriptTail Name Constant ref int") => `(tactic| (k_here; (with_unfolding_all refine' PySem.W.item_litK ?k1 ?k2 ?k3 ?k4 ?_ ?k6; (case k1 => is_list); (case k2 | k3 => decide); (case k4 => rfl); (case k6 => with_unfolding_all rfl); k_whole)))
set_option maxRecDepth 100000 in
set_option maxHeartbeats 8000000 in
theorem spec_written (w : World) (p : Program) (lo : List Str) (mean : ExcName → Option Value) (mg mb : Str → Option Value) (D : Addr) (ys : List Value) (ds : List (Str × Int)) (mark : Str) (more : Int) (t2 t3 : Tok) (hds : DsOk ds) : Fill PySem.Challenge.rw_ij0172_01 hK →
  Spec w p lo mean mg mb fun dp un gd cn cs a ccd cl outer h₀ L m news s Q E => ∀ off,
    dp + 4 < recursionLimit → un + 24 < cLine → mark.length = 1 → 0 ≤ more → more ≤ 2 → (D, LCg.lst ys) ∈ news → DrawnAt news off ds ys →
    (∀ (h' : Heap) (t1 : Tok) (tk' : Nat), Fr h₀ L h' m → News h₀ L h' news → Q (.str (writeText ds mark more) t1) { s with heap := h', toks := tk' }) →
    wpAny (model PG w) (ktrTop dp un gd cn cs L a ccd cl outer) (call (.ref 223) [.ref D, .str mark t2, .int more t3]) Q E s := by
  w_top off
  k_fill
  intro _
  dsimp only [Spec]
  intro dp un gd cn cs a ccd cl outer A₀ base h₀ L m news s Q E B F X N T Z C hk off hd hu hmk hm0 hm2 hD hdr hret
  have hds' := Hold.mk hds
  clear hds
  refine wpAny_call ?_
  k_dflt cell_enter
  walk_at "mine norm"
  rename_i g' L' h' FG' F' N' B' X' T'
  have hl3 := mul3_len hmk
  have hlm := mulm_len hmk hm0 hm2
  w_strict k_steps
  refine ⟨?_⟩
  (with_reducible rename Fr g' L' _ _ => F₂)
  (with_reducible rename News g' L' _ _ => N₂)
  refine' for_list (D := D) (ys := ys) (F := F₂) (N := N₂) (hD := hD) ?hx ?hp rfl ?hev ?hsz (fun i m₁ => LocW m₁ D mark more t2 t3 ((ds.take i).foldl wStep (text0 mark)) ∧ ((ds.take i).foldl wStep (text0 mark)).length ≤ 6 + 8 * i ∧ 1 ≤ ((ds.take i).foldl wStep (text0 mark)).length) ?h0 ?step ?fin
  case hx => rfl
  case hp => rfl
  case hev => intro Q' hQ'; exact ld F₂ rfl hQ'
  case hsz => have := hdr.length; have := hds'.out.len; omega
  case h0 => exact ⟨⟨rfl, rfl, rfl, _, rfl⟩, text0_len hmk, text0_ge⟩
  case fin =>
    intro h₃ tk₃ m₃ F₃ N₃ J₃
    change Fr g' L' h₃ m₃ at F₃
    change News g' L' h₃ news at N₃
    rw [List.take_of_length_le (by rw [hdr.length]; exact Nat.le_refl _)] at J₃
    obtain ⟨⟨l1, l2, l3, tx, l4⟩, hlen, hge⟩ := J₃
    have hyl : ys.length ≤ 6 := by rw [hdr.length]; exact hds'.out.len
    have hlen2 : (ds.foldl wStep (text0 mark)).length ≤ 60 := by omega
    clear F₂ N₂ hlen hyl hge
    have hfin : writeText ds mark more = ds.foldl wStep (text0 mark) ++ Txt.mul mark 3 ++ Txt.mul mark more ++ Str.ofString ",\r." := rfl
    generalize ds.foldl wStep (text0 mark) = tt at hlen2 l4 hfin
    w_strict k_steps
    rw [← hfin]
    exact hret _ _ _ (by assumption) (by assumption)
  case step =>
    intro i v m₁ h₃ tk₃ own hi hv J₃ F₃ N₃
    change Fr g' L' h₃ _ at F₃
    change News g' L' h₃ _ at N₃
    obtain ⟨av, tv, uv, d, rfl, hd_i, hmem⟩ := hdr.at i v hv
    obtain ⟨⟨l1, l2, l3, tx, l4⟩, hlen, hge⟩ := J₃
    have hdm := List.mem_of_getElem? hd_i
    obtain ⟨d1, d2, d3⟩ := hds'.out.each d hdm
    have hi6 : i < 6 := by have := hdr.length; have := hds'.out.len; omega
    have hlen2 : ((ds.take i).foldl wStep (text0 mark)).length ≤ 60 := by omega
    have hwg := wStep_ge ((ds.take i).foldl wStep (text0 mark)) d
    have hwl := wStep_len ((ds.take i).foldl wStep (text0 mark)) d d2
    have htk := take_fold (f := wStep) (b := text0 mark) hd_i
    obtain ⟨st, j⟩ := d
    dsimp only at d1 d2 d3 hmem
    have N₄ : News g' L' h₃ ((av, pairObj st tv j uv) :: (news ++ own)) := fun q hq => by
      rcases List.mem_cons.mp hq with rfl | hq
      · exact N₃ _ (List.mem_append_left _ hmem)
      · exact N₃ q hq
    have hJ6 := Hold.mk (And.intro (Nat.le_trans hwl (Nat.add_le_add_right hlen 8)) (Nat.le_trans hge hwg))
    clear N₃ F₂ N₂ hlen hwl hdm hv hwg
    have htk' := Hold.mk htk
    clear htk
    generalize hgt : (ds.take i).foldl wStep (text0 mark) = tt at hlen2 l4 hJ6 htk' hge
    clear hgt
    rcases d3 with rfl | rfl | rfl
    all_goals
      w_strict k_steps
    all_goals
      refine ⟨?_⟩
      (with_reducible rename Fr g' L' _ _ => F₅)
      (with_reducible rename News g' L' _ _ => N₅)
      refine ⟨_, _, _, rfl, F₅, fun q hq => ?n, ⟨?a, ?b, ?c, ?t⟩, ?l⟩
      case n => first | exact N₅ q (.tail _ hq) | exact N₅ q (.tail _ (.tail _ hq))
      case a => assumption
      case b => assumption
      case c => assumption
      case l => rw [htk'.out]; exact ⟨by have := hJ6.out.1; omega, hJ6.out.2⟩
      case t =>
        refine text_is htk'.out ⟨_, _, rfl, ?_⟩
        (rename (Txt.item st (-1) == _) = _ => hc)
        first
          | exact w_no hc
          | (with_reducible rw [w_yes hc, end1])
          | (with_reducible rw [w_yes hc, end2])
          | ((rename (Txt.item tt (-1) == _) = _ => hc2); with_reducible rw [w_yes hc, end0_y hc2])
          | ((rename (Txt.item tt (-1) == _) = _ => hc2); with_reducible rw [w_yes hc, end0_n hc2])
end Mine
end
section
open PySem PySem.W PySem.Spec PySem.Calls PyProof.Rows
set_option Elab.async false
set_option compiler.extract_closed false
set_option linter.unusedVariables false
namespace Mine

theorem news_name {h₀ h : Heap} {L : Addr} {news : List (Addr × Obj)} (N : News h₀ L h news) : ∃ n, n = news ∧ News h₀ L h n := ⟨_, rfl, N⟩
local macro_rules | `(tactic| walk_at "CompEnd") => `(tactic| ((with_reducible show LCg.CompEnd _ _ _ _ _ _ _ _ _ _ _ _ (Value.ref _) _); refine hold ?_))
local macro_rules | `(tactic| walk_at "subscriptTail") => `(tactic| (refine hold ?_))
local macro_rules | `(tactic| walk_at "CompSrc") => `(tactic| ((with_reducible show LCg.CompSrc _ _ _ _ _ _ _ (PySem.Expr.List _ _) _ _ _ _ _ _); refine hold ?_))
local macro_rules | `(tactic| walk_at "eval ListComp") => `(tactic| (refine hold ?_))
local macro_rules | `(tactic| walk_at "binaryOp FloorDiv int int") => `(tactic| ((refine' floordiv_int (pow_ne _) ?_ (Or.inl (PyProof.noPylong_of_log2 (pow_log ?lt))); (case lt => omega))))
local macro_rules | `(tactic| walk_at "mine all") => `(tactic| ((rename (_ ∈ _) => hp); first | ((rename AllBelow _ _ => lX); have := lX.out _ hp; refine neN ?_; (try dsimp only); omega) | (rcases List.mem_cons.mp hp with rfl | hp; (refine neN ?_; (try dsimp only); omega); walk_at "mine all")))
local macro_rules | `(tactic| k_all) => `(tactic| (intro p hp; walk_at "mine all"))
set_option maxRecDepth 100000 in
set_option maxHeartbeats 8000000 in
theorem spec_strands (w : World) (p : Program) (lo : List Str) (mean : ExcName → Option Value) (mg mb : Str → Option Value) (v : Int) (odd : Str) (t t2 : Tok) : Fill PySem.Challenge.rw_ij0172_01 hK →
  Spec w p lo mean mg mb fun dp un gd cn cs a ccd cl outer h₀ L m news s Q E => 
    dp + 4 < recursionLimit → un + 24 < cLine → 0 ≤ v → v < 704643072 → odd.length = 1 →
    (∀ (h' : Heap) (D : Addr) (ys : List Value) (inn : List (Addr × Obj)) (tk' : Nat), Fr h₀ L h' m → News h₀ L h' ((D, LCg.lst ys) :: (inn ++ news)) → DrawnAt inn news ((figList v).map (drawOf odd)) ys → (∀ p ∈ news, p.1 ≠ D) → (∀ q ∈ inn, ∀ p ∈ news, p.1 ≠ q.1) → Q (.ref D) { s with heap := h', toks := tk' }) →
    wpAny (model PG w) (ktrTop dp un gd cn cs L a ccd cl outer) (call (.ref 216) [.int v t, .str odd t2]) Q E s := by
  w_top off
  k_fill
  intro _
  dsimp only [Spec]
  intro dp un gd cn cs a ccd cl outer A₀ base h₀ L m news s Q E B F X N T Z C hk hd hu hv0 hv1 hodd hret
  refine wpAny_call ?_
  k_dflt (refine' code_defC ?k1 ?k2 ?k3 ?k4 ?k5 ?kA ?kF ?kK ?k6 ?k7 ?k8 ?k9 ?kB ?kD ?_ ?c2 ?c3 ?c4; (case kA => exact rfl); (case kF => exact rfl); (case kK => assumption); (case k1 => k_asm); (case k2 => k_asm); (case k3 => k_asm); (case k4 => k_asm); (case k5 => k_asm); (case k6 => k_is); (case k7 => k_is); (case k8 => ktr_room); (case k9 => exact BindsTo.of_eq rfl); (case kB => exact rfl); (case kD => decide +kernel); (case c2 => exact rfl); (case c3 => exact rfl); (case c4 => exact rfl); k_whole; intro g' L' h' tk' cells' FG' F' N' Y' B' X' T' l1; (try k_lt l1); k_cells Y'; (try simp only [List.cons_append, List.nil_append] at N'); (try dsimp only); (try k_lift B'); (try k_fold))
  walk_at "mine norm"
  have hAB : AllBelow L' news := ⟨l1⟩
  w_strict k_steps
  refine ⟨?_⟩
  (with_reducible rename Fr g' L' _ _ => F₂)
  k_dflt (refine LCg.ListComp_U (F₀ := F₂) (by with_unfolding_all rfl) (by decide) (by rfl) (by decide) (by rfl) ?_)
  w_strict k_steps
  refine ⟨?_⟩
  (with_reducible rename News g' L' _ _ => N₂)
  rename IntsAre _ _ => hints0
  have hints : IntsAre _ (figList v) := hints0
  obtain ⟨N0, hN0, N₃⟩ := news_name N₂
  have hylen : ys.length = (figList v).length := hints.length
  have hy7 : ys.length < 7 := by
    rw [hylen]; unfold figList; rw [List.length_map, rangeKs_length]; omega
  refine LCg.CompSrc.ledger rfl F₂ N₂ (.head _) (by rw [sizeLine_eq]; show ys.length ≤ _; omega) ?_
  intro g₉
  rw [← hN0]
  refine comp_rest_ind (I := fun i ys2 nw => (∀ q ∈ N0, q ∈ nw) ∧ DrawnAt nw news (((figList v).map (drawOf odd)).take i) ys2) ⟨fun _ h => h, .nil⟩ ?step ?fin
  case fin =>
    rintro ys2 nw ⟨hsub, hdr⟩
    rw [List.take_of_length_le (by rw [List.length_map, ← hylen]; exact Nat.le_refl _)] at hdr
    have hnews : ∀ q ∈ news, q ∈ N0 := fun q hq => by rw [hN0]; exact .tail _ (.tail _ (.tail _ (.tail _ hq)))
    intro D₉ h₈ tk₈ F₈ N₈ o₈
    w_strict k_steps
    obtain ⟨inn, d1, d2, d3⟩ := hdr.inner
    (with_reducible rename News h₀ L _ _ => N₇)
    refine hret _ _ _ inn _ (by assumption) (fun q hq => ?_) d1 (fun p hp => off1_mem o₈ p (hsub p (hnews p hp))) d3
    rcases List.mem_cons.mp hq with rfl | hq
    · exact N₇ _ (.head _)
    · rcases List.mem_append.mp hq with hq | hq
      · exact N₇ _ (.tail _ (d2 q hq))
      · exact N₇ _ (.tail _ (hsub q (hnews q hq)))
  rintro i ys2 nw hi ⟨hsub, hdr⟩ v9 I9 oI9 C9 oC9 D9 m9 h9 tk9 E9 hP hoC hm9 F9 N9 off9 ne9
  obtain ⟨u9, rfl⟩ := hints.int_at i v9 (by simpa using hP)
  have hfm : (figList v).getD i 0 ∈ figList v := by
    have : i < (figList v).length := by rw [← hylen]; exact hi
    rw [List.getD_eq_getElem?_getD, List.getElem?_eq_getElem this]; exact List.getElem_mem this
  obtain ⟨f0, f1⟩ := fig_bound hfm
  have hfig : ((figList v).map (drawOf odd)).take (i + 1) = ((figList v).map (drawOf odd)).take i ++ [drawOf odd ((figList v).getD i 0)] := by
    have : i < (figList v).length := by rw [← hylen]; exact hi
    rw [List.take_add_one]
    simp [List.getD_eq_getElem?_getD, List.getElem?_eq_getElem this]
  generalize (figList v).getD i 0 = f at f0 f1 hfig hm9 hfm
  have N10 : News g' L' h9 ((I9, oI9) :: (C9, oC9) :: (D9, LCg.lst ys2) :: (N0 ++ nw)) := fun q hq => by
    rcases List.mem_cons.mp hq with rfl | hq
    · exact N9 _ (.head _)
    · rcases List.mem_cons.mp hq with rfl | hq
      · exact N9 _ (.tail _ (.head _))
      · rcases List.mem_cons.mp hq with rfl | hq
        · exact N9 _ (.tail _ (.tail _ (.head _)))
        · rcases List.mem_append.mp hq with hq | hq
          · exact N9 _ (.tail _ (.tail _ (.tail _ (hsub q hq))))
          · exact N9 _ (.tail _ (.tail _ (.tail _ hq)))
  rw [hN0] at N10
  simp only [List.cons_append] at N10
  clear N9 N₂ N₃ F₂
  w_strict k_steps
  refine ⟨?_⟩
  (with_reducible rename News g' L' _ _ => N₄)
  refine' item_sym ⟨_, (N₄ _ (.tail _ (.tail _ (.tail _ (.tail _ (.head _)))))).1, rfl, _, rfl⟩ f0 (Int.lt_trans f1 (by decide)) ?hx ?_
  case hx => exact Exists.choose_spec (tab_at odd f.toNat ((Int.toNat_lt f0).mpr f1) _ _ _ _ _ _ _ _ _ _ _ _ _ _ _ _)
  w_strict k_steps
  refine ⟨?_⟩
  (with_reducible rename News g' L' _ _ => N₅)
  (with_reducible rename Fr g' L' _ _ => F₅)
  refine step_end F₅ N₅ (fun q hq => .tail _ (.tail _ (.tail _ (.tail _ (List.mem_append_right _ hq))))) hsub (fun q hq => .tail _ (.tail _ (.tail _ (.tail _ (List.mem_append_left _ hq))))) (by assumption) off9 ⟨_, by rw [hN0]; exact .head _, rfl, _, rfl⟩ hdr hfig
end Mine
end
section
open PySem PySem.Sre
set_option Elab.async false
set_option compiler.extract_closed false
set_option linter.unusedVariables false
set_option linter.unusedSimpArgs false
namespace Mine
noncomputable abbrev code1 : Array Nat := #[14, 4, 0, 1, 1, 6, 1, 16, 46, 1]
noncomputable abbrev code2 : Array Nat := #[14, 9, 4, 1, 2, 16, 10, 16, 13, 0, 7, 7, 16, 13, 16, 10, 15, 18, 5, 16, 10, 15, 13, 11, 16, 13, 5, 5, 0, 16, 10, 1, 15, 2, 0, 1]
noncomputable abbrev St (code x : Array Nat) (lim st ls : Nat) (must : Bool) (pc pos hd : Nat) (om : Bool) (fs : List PySem.Sre.Frame) (wt : Nat) (ans : Option Bool) (sn : Seen) : M :=
  { code, text := x, lim, start := st, lastStart := ls, mustAdvance := must, pc, pos, handed := hd, outermost := om, marks := #[], frames := fs, weight := wt, answer := ans, seen := sn }
theorem runFor_stop {m : M} (h : m.outcome.isSome = true) : ∀ n, m.runFor n = m
  | 0 => rfl
  | n + 1 => by unfold M.runFor; rw [if_pos h]
theorem runFor_add (a b : Nat) (m : M) : m.runFor (a + b) = (m.runFor a).runFor b := by
  induction a generalizing m with
  | zero => rw [Nat.zero_add]; rfl
  | succ a ih =>
    by_cases h : m.outcome.isSome = true
    · rw [runFor_stop h, runFor_stop h, runFor_stop h]
    · have e : a + 1 + b = (a + b) + 1 := by omega
      rw [e]
      show (if m.outcome.isSome = true then m else M.runFor (a + b) m.step) = (if m.outcome.isSome = true then m else M.runFor a m.step).runFor b
      rw [if_neg h, if_neg h, ih]
section
variable {x : Array Nat} {lim st p ls hd pc0 pos wt : Nat} {om must : Bool} {fs : List PySem.Sre.Frame} {sn : Seen}
/-- what a literal's step gives -/
noncomputable def litR (code x : Array Nat) (lim st ls : Nat) (must : Bool) (pc pos hd : Nat) (om : Bool) (fs : List PySem.Sre.Frame) (wt : Nat) (sn : Seen) (c : Nat) : M :=
  if pos ≥ lim then St code x lim st ls must pc pos hd om fs wt (some false) (sn.add 16) else
  match (x.getD pos 0 == c) with
  | false => St code x lim st ls must pc pos hd om fs wt (some false) (sn.add 16)
  | true => St code x lim st ls must (pc + 2) (pos + 1) hd om fs wt none (sn.add 16)
theorem litR_yes {code : Array Nat} {pc c : Nat} (hp : pos < lim) (hc : (x.getD pos 0 == c) = true) : litR code x lim st ls must pc pos hd om fs wt sn c = St code x lim st ls must (pc + 2) (pos + 1) hd om fs wt none (sn.add 16) := by
  unfold litR
  rw [if_neg (Nat.not_le.mpr hp), hc]
theorem litR_no {code : Array Nat} {pc c : Nat} (hc : (x.getD pos 0 == c) = false) : litR code x lim st ls must pc pos hd om fs wt sn c = St code x lim st ls must pc pos hd om fs wt (some false) (sn.add 16) := by
  unfold litR
  rw [hc]
  exact ite_self _
theorem litR_end {code : Array Nat} {pc c : Nat} (hp : lim ≤ pos) : litR code x lim st ls must pc pos hd om fs wt sn c = St code x lim st ls must pc pos hd om fs wt (some false) (sn.add 16) := by
  unfold litR
  rw [if_pos hp]
theorem go1 {m m' : M} {n : Nat} {P : M → Prop} (h : m.outcome = none) (e : m.step = m') (r : ∃ k, k ≤ n ∧ P (m'.runFor k)) : ∃ k, k ≤ n + 1 ∧ P (m.runFor k) := by
  obtain ⟨k, hk, r⟩ := r
  refine ⟨k + 1, Nat.succ_le_succ hk, ?_⟩
  show P (if m.outcome.isSome = true then m else M.runFor k m.step)
  rw [h, e]
  exact r
theorem go0 {m : M} {P : M → Prop} (h : P m) : ∃ k, k ≤ 0 ∧ P (m.runFor k) := ⟨0, Nat.le_refl _, h⟩
abbrev fS0 (pc p : Nat) (om : Bool) : PySem.Sre.Frame := { wait := .nextStart, pc := pc, pos := p, outermost := om }
abbrev fB0 (pc p : Nat) (om : Bool) : PySem.Sre.Frame := { wait := .nextBranch, pc := pc, pos := p, outermost := om }
abbrev fN0 (pc p : Nat) (om : Bool) : PySem.Sre.Frame := { wait := .lookNot, pc := pc, pos := p, outermost := om }
theorem s2_12 : (St code2 x lim st ls must 12 pos hd om fs wt none sn).step = litR code2 x lim st ls must 12 pos hd om fs wt sn 13 := by kernel_rfl
theorem s2_14 : (St code2 x lim st ls must 14 pos hd om fs wt none sn).step = litR code2 x lim st ls must 14 pos hd om fs wt sn 10 := by kernel_rfl
theorem s2_19 : (St code2 x lim st ls must 19 pos hd om fs wt none sn).step = litR code2 x lim st ls must 19 pos hd om fs wt sn 10 := by kernel_rfl
theorem s2_24 : (St code2 x lim st ls must 24 pos hd om fs wt none sn).step = litR code2 x lim st ls must 24 pos hd om fs wt sn 13 := by kernel_rfl
theorem s2_29 : (St code2 x lim st ls must 29 pos hd om fs wt none sn).step = litR code2 x lim st ls must 29 pos hd om fs wt sn 10 := by kernel_rfl
theorem s2_10 : (St code2 x lim st ls must 10 pos hd om fs 1 none sn).step = St code2 x lim st ls must 12 pos pos om (fB0 11 pos om :: fs) 2 none (sn.add 7) := rfl
theorem s2_16 : (St code2 x lim st ls must 16 pos hd om fs wt none sn).step = St code2 x lim st ls must 35 pos hd om fs wt none (sn.add 15) := rfl
theorem s2_21 : (St code2 x lim st ls must 21 pos hd om fs wt none sn).step = St code2 x lim st ls must 35 pos hd om fs wt none (sn.add 15) := rfl
theorem s2_32 : (St code2 x lim st ls must 32 pos hd om fs wt none sn).step = St code2 x lim st ls must 35 pos hd om fs wt none (sn.add 15) := rfl
theorem s2_26 : (St code2 x lim st ls must 26 pos hd om fs 2 none sn).step = St code2 x lim st ls must 29 pos pos false (fN0 26 pos om :: fs) 3 none (sn.add 5) := rfl
theorem s2_35 : (St code2 x lim st ls false 35 pos hd om fs wt none sn).step = St code2 x lim st ls false 35 pos pos om fs wt (some true) (sn.add 1) := by cases om <;> rfl
theorem b2_11 {pc q : Nat} {o : Bool} : (St code2 x lim st ls must pc q hd o (fB0 11 pos om :: fs) 2 (some false) sn).step = St code2 x lim st ls must 19 pos pos om (fB0 18 pos om :: fs) 2 none sn := rfl
theorem b2_18 {pc q : Nat} {o : Bool} : (St code2 x lim st ls must pc q hd o (fB0 18 pos om :: fs) 2 (some false) sn).step = St code2 x lim st ls must 24 pos pos om (fB0 23 pos om :: fs) 2 none sn := rfl
theorem n2_26 {pc q : Nat} {o : Bool} : (St code2 x lim st ls must pc q hd o (fN0 26 pos om :: fs) 3 (some false) sn).step = St code2 x lim st ls must 32 pos hd om fs 2 none sn := rfl
theorem y2_b {pc q b : Nat} {o : Bool} : (St code2 x lim st ls must pc q hd o (fB0 b pos om :: fs) 2 (some true) sn).step = St code2 x lim st ls must b pos hd om fs 1 (some true) sn := rfl
theorem y_s {code : Array Nat} {pc q b : Nat} {o : Bool} : (St code x lim st ls must pc q hd o (fS0 b pos om :: fs) 1 (some true) sn).step = St code x lim st ls must b pos hd om fs 0 (some true) sn := rfl
theorem fin_y {code : Array Nat} {pc : Nat} : (St code x lim st ls must pc pos hd om [] wt (some true) sn).step = { St code x lim st ls must pc pos hd om [] wt (some true) sn with outcome := some .matched } := rfl
theorem fin_n {code : Array Nat} {pc : Nat} : (St code x lim st ls must pc pos hd om [] wt (some false) sn).step = { St code x lim st ls must pc pos hd om [] wt (some false) sn with outcome := some .failed } := rfl
/-- the end of a search that finds -/
abbrev Met (b e : Nat) (m : M) : Prop := m.outcome = some .matched ∧ m.start = b ∧ m.handed = e
theorem endR2 {q : Nat} : ∃ k, k ≤ 4 ∧ Met st pos ((St code2 x lim st ls false 35 pos hd om [fB0 q p om, fS0 pc0 p om] 2 none sn).runFor k) :=
  go1 rfl s2_35 (go1 rfl y2_b (go1 rfl y_s (go1 rfl fin_y (go0 ⟨rfl, rfl, rfl⟩))))
theorem to_n {P : M → Prop} {n k : Nat} {m : M} (h : ∃ k, k ≤ n ∧ (Met st pos) (m.runFor k)) (hn : n ≤ k) : ∃ m', m.runFor k = m' ∧ m'.outcome = some .matched ∧ m'.start = st ∧ m'.handed = pos := by
  obtain ⟨j, hj, h⟩ := h
  refine ⟨m.runFor j, ?_, h⟩
  obtain ⟨d, rfl⟩ : ∃ d, k = j + d := ⟨k - j, (Nat.add_sub_cancel' (Nat.le_trans hj hn)).symm⟩
  rw [runFor_add]
  exact runFor_stop (by rw [h.1]; rfl) d
theorem run2_b (hp : p < lim) (h1 : (x.getD p 0 == 13) = false) (h2 : (x.getD p 0 == 10) = true) :
    ∃ m, (St code2 x lim p ls false 10 p hd om [fS0 pc0 p om] 1 none sn).runFor 20 = m ∧ m.outcome = some .matched ∧ m.start = p ∧ m.handed = p + 1 :=
  to_n (P := fun _ => True) (go1 rfl s2_10 (go1 rfl (s2_12.trans (litR_no h1)) (go1 rfl b2_11 (go1 rfl (s2_19.trans (litR_yes hp h2)) (go1 rfl s2_21 endR2))))) (by decide)
theorem run2_a (hp : p + 1 < lim) (h1 : (x.getD p 0 == 13) = true) (h2 : (x.getD (p + 1) 0 == 10) = true) :
    ∃ m, (St code2 x lim p ls false 10 p hd om [fS0 pc0 p om] 1 none sn).runFor 20 = m ∧ m.outcome = some .matched ∧ m.start = p ∧ m.handed = p + 2 :=
  to_n (P := fun _ => True) (go1 rfl s2_10 (go1 rfl (s2_12.trans (litR_yes (Nat.lt_of_succ_lt hp) h1)) (go1 rfl (s2_14.trans (litR_yes hp h2)) (go1 rfl s2_16 endR2)))) (by decide)
theorem run2_c {P : Prop} (hp : p < lim) (h1 : (x.getD p 0 == 13) = true) (h2 : (x.getD p 0 == 10) = false)
    (h3 : ∀ {st ls hd pc wt : Nat} {must om : Bool} {fs : List PySem.Sre.Frame} {sn : Seen}, litR code2 x lim st ls must pc (p + 1) hd om fs wt sn 10 = St code2 x lim st ls must pc (p + 1) hd om fs wt (some false) (sn.add 16)) :
    ∃ m, (St code2 x lim p ls false 10 p hd om [fS0 pc0 p om] 1 none sn).runFor 30 = m ∧ m.outcome = some .matched ∧ m.start = p ∧ m.handed = p + 1 :=
  to_n (P := fun _ => True) (go1 rfl s2_10 (go1 rfl (s2_12.trans (litR_yes hp h1)) (go1 rfl (s2_14.trans h3) (go1 rfl b2_11 (go1 rfl (s2_19.trans (litR_no h2)) (go1 rfl b2_18
    (go1 rfl (s2_24.trans (litR_yes hp h1)) (go1 rfl s2_26 (go1 rfl (s2_29.trans h3) (go1 rfl n2_26 (go1 rfl s2_32 endR2))))))))))) (by decide)
theorem run2_c1 (hp : p + 1 < lim) (h1 : (x.getD p 0 == 13) = true) (h2 : (x.getD p 0 == 10) = false) (h3 : (x.getD (p + 1) 0 == 10) = false) :
    ∃ m, (St code2 x lim p ls false 10 p hd om [fS0 pc0 p om] 1 none sn).runFor 30 = m ∧ m.outcome = some .matched ∧ m.start = p ∧ m.handed = p + 1 :=
  run2_c (P := True) (Nat.lt_of_succ_lt hp) h1 h2 (litR_no h3)
theorem run2_c2 (hp : p + 1 = lim) (h1 : (x.getD p 0 == 13) = true) (h2 : (x.getD p 0 == 10) = false) :
    ∃ m, (St code2 x lim p ls false 10 p hd om [fS0 pc0 p om] 1 none sn).runFor 30 = m ∧ m.outcome = some .matched ∧ m.start = p ∧ m.handed = p + 1 :=
  run2_c (P := True) (Nat.lt_of_lt_of_eq (Nat.lt_succ_self p) hp) h1 h2 (litR_end (Nat.le_of_eq hp.symm))
theorem s1_5 : (St code1 x lim st ls must 5 pos hd om fs wt none sn).step = if (pos == 0 || x.getD (pos - 1) 0 == 10) = true then St code1 x lim st ls must 7 pos hd om fs wt none ((sn.add 6).add 44) else St code1 x lim st ls must 5 pos hd om fs wt (some false) ((sn.add 6).add 44) := rfl
theorem s1_7 : (St code1 x lim st ls must 7 pos hd om fs wt none sn).step = litR code1 x lim st ls must 7 pos hd om fs wt sn 46 := by kernel_rfl
theorem s1_9 : (St code1 x lim st ls false 9 pos hd om fs wt none sn).step = St code1 x lim st ls false 9 pos pos om fs wt (some true) (sn.add 1) := by cases om <;> rfl
theorem b1_5 {pc q : Nat} {o : Bool} : (St code1 x lim p ls false pc q hd o [fS0 5 p om] 1 (some false) sn).step = if p < ls then St code1 x lim (p + 1) ls false 5 (p + 1) (p + 1) false [fS0 5 (p + 1) false] 1 none sn else St code1 x lim p ls false 5 p hd om [] 0 (some false) sn := rfl
theorem at_eq {p : Nat} {b : Bool} (h0 : (p == 0 || x[p - 1]?.getD 0 == 10) = b) : (p == 0 || x.getD (p - 1) 0 == 10) = b := by rw [Array.getD_eq_getD_getElem?]; exact h0
theorem lit_eq {p c : Nat} {b : Bool} (h0 : (x[p]?.getD 0 == c) = b) : (x.getD p 0 == c) = b := by rw [Array.getD_eq_getD_getElem?]; exact h0
/-- pattern 1 at a place where it stands -/
theorem run1_yes (hp : p < lim) (h0 : (p == 0 || x[p - 1]?.getD 0 == 10) = true) (h1 : (x[p]?.getD 0 == 46) = true) :
    ∃ m, (St code1 x lim p ls false 5 p hd om [fS0 5 p om] 1 none sn).runFor 8 = m ∧ m.outcome = some .matched ∧ m.start = p ∧ m.handed = p + 1 :=
  to_n (P := fun _ => True) (go1 rfl (s1_5.trans (if_pos (at_eq h0))) (go1 rfl (s1_7.trans (litR_yes hp (lit_eq h1))) (go1 rfl s1_9 (go1 rfl y_s (go1 rfl fin_y (go0 ⟨rfl, rfl, rfl⟩)))))) (by decide)
noncomputable def Out1 (m : M) : Prop := m.outcome = some .failed
noncomputable def Nxt (x : Array Nat) (lim p ls : Nat) (m : M) : Prop := ∃ sn', m = St code1 x lim (p + 1) ls false 5 (p + 1) (p + 1) false [fS0 5 (p + 1) false] 1 none sn'
theorem run1_no (hp : p < ls) (hl : p < lim) (h0 : ((p == 0 || x[p - 1]?.getD 0 == 10) && x[p]?.getD 0 == 46) = false) :
    ∃ k, k ≤ 3 ∧ ∃ sn', (St code1 x lim p ls false 5 p hd om [fS0 5 p om] 1 none sn).runFor k = St code1 x lim (p + 1) ls false 5 (p + 1) (p + 1) false [fS0 5 (p + 1) false] 1 none sn' := by
  cases ha : (p == 0 || x[p - 1]?.getD 0 == 10) with
  | false =>
    refine go1 (n := 2) (P := Nxt x lim p ls) rfl (s1_5.trans (if_neg (by rw [at_eq ha]; exact Bool.noConfusion))) ?_
    obtain ⟨k, hk, r⟩ := go1 (n := 0) (P := Nxt x lim p ls) rfl ((b1_5 (hd := hd) (pc := 5) (q := p) (o := om) (om := om) (sn := (sn.add 6).add 44)).trans (if_pos hp)) (go0 ⟨_, rfl⟩)
    exact ⟨k, Nat.le_trans hk (by decide), r⟩
  | true =>
    have h1 : (x[p]?.getD 0 == 46) = false := by rw [ha] at h0; exact h0
    refine go1 (n := 2) (P := Nxt x lim p ls) rfl (s1_5.trans (if_pos (at_eq ha))) ?_
    refine go1 (n := 1) (P := Nxt x lim p ls) rfl (s1_7.trans (litR_no (lit_eq h1))) ?_
    exact go1 (n := 0) (P := Nxt x lim p ls) rfl (b1_5.trans (if_pos hp)) (go0 ⟨_, rfl⟩)
theorem run1_end (h0 : lim = ls) :
    ∃ k, k ≤ 4 ∧ ((St code1 x lim lim ls false 5 lim hd om [fS0 5 lim om] 1 none sn).runFor k).outcome = some .failed := by
  have hn : ¬ lim < ls := by rw [h0]; exact Nat.lt_irrefl _
  cases ha : (lim == 0 || x[lim - 1]?.getD 0 == 10) with
  | false =>
    refine go1 (n := 3) (P := Out1) rfl (s1_5.trans (if_neg (by rw [at_eq ha]; exact Bool.noConfusion))) ?_
    obtain ⟨k, hk, r⟩ := go1 (n := 1) (P := Out1) rfl ((b1_5 (hd := hd) (pc := 5) (q := lim) (o := om) (om := om) (sn := (sn.add 6).add 44)).trans (if_neg hn)) (go1 rfl fin_n (go0 rfl))
    exact ⟨k, Nat.le_trans hk (by decide), r⟩
  | true =>
    refine go1 (n := 3) (P := Out1) rfl (s1_5.trans (if_pos (at_eq ha))) ?_
    refine go1 (n := 2) (P := Out1) rfl (s1_7.trans (litR_end (Nat.le_refl _))) ?_
    exact go1 (n := 1) (P := Out1) rfl (b1_5.trans (if_neg hn)) (go1 rfl fin_n (go0 rfl))
end
/-- what a search finds -/
noncomputable def FoundIs (m : M) : Option (Nat × Nat) → Prop
  | none => m.outcome = some .failed
  | some (b, e) => m.outcome = some .matched ∧ m.start = b ∧ m.handed = e
noncomputable def Finds (code x : Array Nat) (start : Nat) (r : Option (Nat × Nat)) : Prop :=
  ∃ N, N ≤ 100000 ∧ FoundIs ((forSearch code x 0 start x.size false).runFor N) r
theorem sub_one {a b k : Nat} (h : a - b = k + 1) : a - (b + 1) = k := by rw [Nat.sub_succ, h]; rfl
theorem bnd {j N k : Nat} (hj : j ≤ 3) (hN : N ≤ 3 * k + 8) : j + N ≤ 3 * (k + 1) + 8 := by omega
theorem search1_at {x : Array Nat} {ls : Nat} (hs : x.size ≤ 1000) : ∀ (k start : Nat) (hd : Nat) (om : Bool) (sn : Seen) (p : Nat), p - start = k → start ≤ p → p < x.size → ls = x.size →
    (∀ i, start ≤ i → i < p → ((i == 0 || x[i - 1]?.getD 0 == 10) && x[i]?.getD 0 == 46) = false) → ((p == 0 || x[p - 1]?.getD 0 == 10) && x[p]?.getD 0 == 46) = true →
    ∃ N, N ≤ 3 * k + 8 ∧ ∃ m, (St code1 x x.size start ls false 5 start hd om [{ wait := .nextStart, pc := 5, pos := start, outermost := om }] 1 none sn).runFor N = m ∧ m.outcome = some .matched ∧ m.start = p ∧ m.handed = p + 1 := by
  intro k
  induction k with
  | zero =>
    intro start hd om sn p hk hle hp hls hno hyes
    obtain rfl : start = p := Nat.le_antisymm hle (Nat.le_of_sub_eq_zero hk)
    have h2 := Bool.and_eq_true_iff.mp hyes
    obtain ⟨m, h⟩ := run1_yes (ls := ls) (hd := hd) (om := om) (sn := sn) hp h2.1 h2.2
    exact ⟨8, Nat.le_refl _, m, h⟩
  | succ k ih =>
    intro start hd om sn p hk hle hp hls hno hyes
    have hlt : start < p := Nat.sub_pos_iff_lt.mp (Nat.lt_of_lt_of_eq (Nat.succ_pos k) hk.symm)
    obtain ⟨j, hj, sn', e⟩ := run1_no (ls := ls) (lim := x.size) (hd := hd) (om := om) (sn := sn) (Nat.lt_of_lt_of_eq (Nat.lt_trans hlt hp) hls.symm) (Nat.lt_trans hlt hp) (hno start (Nat.le_refl _) hlt)
    obtain ⟨N, hN, m, hm, r⟩ := ih (start + 1) (start + 1) false sn' p (sub_one hk) hlt hp hls (fun i i1 i2 => hno i (Nat.le_of_succ_le i1) i2) hyes
    exact ⟨j + N, bnd hj hN, m, by rw [runFor_add, e, hm], r⟩
theorem search1_none {x : Array Nat} {ls : Nat} : ∀ (k start : Nat) (hd : Nat) (om : Bool) (sn : Seen), x.size - start = k → start ≤ x.size → ls = x.size →
    (∀ i, start ≤ i → i < x.size → ((i == 0 || x[i - 1]?.getD 0 == 10) && x[i]?.getD 0 == 46) = false) →
    ∃ N, N ≤ 3 * k + 8 ∧ ((St code1 x x.size start ls false 5 start hd om [{ wait := .nextStart, pc := 5, pos := start, outermost := om }] 1 none sn).runFor N).outcome = some .failed := by
  intro k
  induction k with
  | zero =>
    intro start hd om sn hk hle hls hno
    obtain rfl : start = x.size := Nat.le_antisymm hle (Nat.le_of_sub_eq_zero hk)
    obtain ⟨k, hk, h⟩ := run1_end (x := x) (lim := x.size) (hd := hd) (om := om) (sn := sn) hls.symm
    exact ⟨k, Nat.le_trans hk (by decide), h⟩
  | succ k ih =>
    intro start hd om sn hk hle hls hno
    have hlt : start < x.size := Nat.sub_pos_iff_lt.mp (Nat.lt_of_lt_of_eq (Nat.succ_pos k) hk.symm)
    obtain ⟨j, hj, sn', e⟩ := run1_no (ls := ls) (lim := x.size) (hd := hd) (om := om) (sn := sn) (Nat.lt_of_lt_of_eq hlt hls.symm) hlt (hno start (Nat.le_refl _) hlt)
    obtain ⟨N, hN, r⟩ := ih (start + 1) (start + 1) false sn' (sub_one hk) hlt hls (fun i i1 i2 => hno i (Nat.le_of_succ_le i1) i2)
    exact ⟨j + N, bnd hj hN, by rw [runFor_add, e]; exact r⟩
theorem forSearch1 (x : Array Nat) (start lim : Nat) : forSearch code1 x 0 start lim false = (if (decide (start > lim) || decide (lim - start < 1)) = true then (St code1 x lim start 0 false 5 start start true [] 0 none (({} : Seen).add 14)).say false
    else (St code1 x lim start lim false 5 start start true [] 0 none (({} : Seen).add 14)).attemptFrom start true) := rfl
theorem forSearch2 (x : Array Nat) (start lim : Nat) : forSearch code2 x 0 start lim false = (if (decide (start > lim) || decide (lim - start < 1)) = true then (St code2 x lim start 0 false 10 start start true [] 0 none (({} : Seen).add 14)).say false
    else (St code2 x lim start lim false 10 start start true [] 0 none (({} : Seen).add 14)).attemptFrom start true) := rfl
theorem cond_no {start n : Nat} (h : start < n) : ¬ ((decide (start > n) || decide (n - start < 1)) = true) := by
  rw [decide_eq_false (Nat.not_lt.mpr (Nat.le_of_lt h)), decide_eq_false (Nat.not_lt.mpr (Nat.sub_pos_of_lt h))]
  decide
theorem cond_yes (n : Nat) : (decide (n > n) || decide (n - n < 1)) = true := by
  rw [Nat.sub_self]
  exact Bool.or_true _
theorem start1 {x : Array Nat} {start : Nat} (h : start < x.size) : ∃ sn, forSearch code1 x 0 start x.size false = St code1 x x.size start x.size false 5 start start true [{ wait := .nextStart, pc := 5, pos := start, outermost := true }] 1 none sn :=
  ⟨_, (forSearch1 x start x.size).trans ((if_neg (cond_no h)).trans rfl)⟩
theorem finds1_some {x : Array Nat} {start p : Nat} (hs : x.size ≤ 1000) (hle : start ≤ p) (hp : p < x.size) (hno : ∀ i, start ≤ i → i < p → ((i == 0 || x[i - 1]?.getD 0 == 10) && x[i]?.getD 0 == 46) = false)
    (hyes : ((p == 0 || x[p - 1]?.getD 0 == 10) && x[p]?.getD 0 == 46) = true) : Finds code1 x start (some (p, p + 1)) := by
  obtain ⟨sn, e⟩ := start1 (x := x) (start := start) (Nat.lt_of_le_of_lt hle hp)
  obtain ⟨N, hN, m, hm, r1, r2, r3⟩ := search1_at hs (p - start) start start true sn p rfl hle hp rfl hno hyes
  exact ⟨N, by omega, by rw [e, hm]; exact ⟨r1, r2, r3⟩⟩
theorem finds1_none {x : Array Nat} {start : Nat} (hs : x.size ≤ 1000) (hle : start ≤ x.size) (hno : ∀ i, start ≤ i → i < x.size → ((i == 0 || x[i - 1]?.getD 0 == 10) && x[i]?.getD 0 == 46) = false) : Finds code1 x start none := by
  by_cases h : start < x.size
  · obtain ⟨sn, e⟩ := start1 h
    obtain ⟨N, hN, r⟩ := search1_none (x.size - start) start start true sn rfl hle rfl hno
    exact ⟨N, by omega, by rw [e]; exact r⟩
  · obtain rfl : start = x.size := Nat.le_antisymm hle (Nat.not_lt.mp h)
    refine ⟨1, by decide, ?_⟩
    show (M.runFor 1 (forSearch code1 x 0 x.size x.size false)).outcome = _
    rw [forSearch1, if_pos (cond_yes _)]
    rfl
theorem in2 (c : Nat) (sn : Seen) : inSet code2 c 36 5 true sn = if (c == 10) = true then .ok (true, sn.add 16) else if (c == 13) = true then .ok (true, (sn.add 16).add 16) else .ok (false, ((sn.add 16).add 16).add 0) := by kernel_rfl
theorem set2_yes (c : Nat) (sn : Seen) (h : c = 10 ∨ c = 13) : ∃ sn', inSet code2 c 36 5 true sn = .ok (true, sn') := by
  rcases h with rfl | rfl
  · exact ⟨_, (in2 _ _).trans (if_pos rfl)⟩
  · exact ⟨_, (in2 _ _).trans ((if_neg (by decide)).trans (if_pos rfl))⟩
theorem set2_no (c : Nat) (sn : Seen) (h1 : c ≠ 10) (h2 : c ≠ 13) : ∃ sn', inSet code2 c 36 5 true sn = .ok (false, sn') :=
  ⟨_, (in2 _ _).trans ((if_neg (by rw [beq_eq_false_iff_ne.mpr h1]; decide)).trans (if_neg (by rw [beq_eq_false_iff_ne.mpr h2]; decide)))⟩
theorem admitted_some {m : M} (hc : m.code = code2) : ∀ (k s : Nat) (sn : Seen) (p : Nat) (fuel : Nat), p - s = k → s ≤ p → p < m.lim → k < fuel → (∀ i, s ≤ i → i < p → m.text.getD i 0 ≠ 10 ∧ m.text.getD i 0 ≠ 13) →
    (m.text.getD p 0 = 10 ∨ m.text.getD p 0 = 13) → ∃ sn', m.admitted fuel s sn = .ok (some p, sn') := by
  intro k
  induction k with
  | zero =>
    intro s sn p fuel hk hle hp hf hno hyes
    obtain rfl : s = p := Nat.le_antisymm hle (Nat.le_of_sub_eq_zero hk)
    obtain ⟨f, rfl⟩ : ∃ f, fuel = f + 1 := ⟨fuel - 1, (Nat.sub_one_add_one (Nat.ne_of_gt (Nat.lt_of_le_of_lt (Nat.zero_le _) hf))).symm⟩
    obtain ⟨sn', e⟩ := set2_yes _ sn hyes
    unfold M.admitted
    rw [if_neg (Nat.not_le.mpr hp), hc, show code2.size = 36 from rfl, e]
    exact ⟨_, rfl⟩
  | succ k ih =>
    intro s sn p fuel hk hle hp hf hno hyes
    obtain ⟨f, rfl⟩ : ∃ f, fuel = f + 1 := ⟨fuel - 1, (Nat.sub_one_add_one (Nat.ne_of_gt (Nat.lt_of_le_of_lt (Nat.zero_le _) hf))).symm⟩
    have hlt : s < p := Nat.sub_pos_iff_lt.mp (Nat.lt_of_lt_of_eq (Nat.succ_pos k) hk.symm)
    obtain ⟨n1, n2⟩ := hno s (Nat.le_refl _) hlt
    obtain ⟨sn', e⟩ := set2_no _ sn n1 n2
    unfold M.admitted
    rw [if_neg (Nat.not_le.mpr (Nat.lt_trans hlt hp)), hc, show code2.size = 36 from rfl, e]
    exact ih (s + 1) sn' p f (sub_one hk) hlt hp (Nat.lt_of_succ_lt_succ hf) (fun i i1 i2 => hno i (Nat.le_of_succ_le i1) i2) hyes
theorem admitted_none {m : M} (hc : m.code = code2) : ∀ (k s : Nat) (sn : Seen) (fuel : Nat), m.lim - s = k → k < fuel → (∀ i, s ≤ i → i < m.lim → m.text.getD i 0 ≠ 10 ∧ m.text.getD i 0 ≠ 13) →
    ∃ sn', m.admitted fuel s sn = .ok (none, sn') := by
  intro k
  induction k with
  | zero =>
    intro s sn fuel hk hf hno
    obtain ⟨f, rfl⟩ : ∃ f, fuel = f + 1 := ⟨fuel - 1, (Nat.sub_one_add_one (Nat.ne_of_gt (Nat.lt_of_le_of_lt (Nat.zero_le _) hf))).symm⟩
    unfold M.admitted
    rw [if_pos (Nat.le_of_sub_eq_zero hk)]
    exact ⟨_, rfl⟩
  | succ k ih =>
    intro s sn fuel hk hf hno
    obtain ⟨f, rfl⟩ : ∃ f, fuel = f + 1 := ⟨fuel - 1, (Nat.sub_one_add_one (Nat.ne_of_gt (Nat.lt_of_le_of_lt (Nat.zero_le _) hf))).symm⟩
    have hlt : s < m.lim := Nat.sub_pos_iff_lt.mp (Nat.lt_of_lt_of_eq (Nat.succ_pos k) hk.symm)
    obtain ⟨n1, n2⟩ := hno s (Nat.le_refl _) hlt
    obtain ⟨sn', e⟩ := set2_no _ sn n1 n2
    unfold M.admitted
    rw [if_neg (Nat.not_le.mpr hlt), hc, show code2.size = 36 from rfl, e]
    exact ih (s + 1) sn' f (sub_one hk) (Nat.lt_of_succ_lt_succ hf) (fun i i1 i2 => hno i (Nat.le_of_succ_le i1) i2)
theorem from2 {x : Array Nat} {start n p : Nat} {sn sn' : Seen} (e : (St code2 x n start n false 10 start start true [] 0 none sn).admitted (n + 1 - start) start sn = .ok (some p, sn')) :
    (St code2 x n start n false 10 start start true [] 0 none sn).attemptFrom start true = St code2 x n p n false 10 p p true [fS0 10 p true] 1 none sn' := by
  show (match (St code2 x n start n false 10 start start true [] 0 none sn).admitted (n + 1 - start) start sn with
    | .ok (some s, seen) => ({ (St code2 x n start n false 10 start start true [] 0 none sn) with mustAdvance := false, seen } : M).attemptAt s true
    | .ok (none, seen) => ({ (St code2 x n start n false 10 start start true [] 0 none sn) with seen } : M).say false
    | .error why => (St code2 x n start n false 10 start start true [] 0 none sn).stick why) = _
  rw [e]
  rfl
theorem from2n {x : Array Nat} {start n : Nat} {sn sn' : Seen} (e : (St code2 x n start n false 10 start start true [] 0 none sn).admitted (n + 1 - start) start sn = .ok (none, sn')) :
    (St code2 x n start n false 10 start start true [] 0 none sn).attemptFrom start true = St code2 x n start n false 10 start start true [] 0 (some false) sn' := by
  show (match (St code2 x n start n false 10 start start true [] 0 none sn).admitted (n + 1 - start) start sn with
    | .ok (some s, seen) => ({ (St code2 x n start n false 10 start start true [] 0 none sn) with mustAdvance := false, seen } : M).attemptAt s true
    | .ok (none, seen) => ({ (St code2 x n start n false 10 start start true [] 0 none sn) with seen } : M).say false
    | .error why => (St code2 x n start n false 10 start start true [] 0 none sn).stick why) = _
  rw [e]
  rfl
theorem start2 {x : Array Nat} {start p : Nat} (hp : p < x.size) (hle : start ≤ p) (hno : ∀ i, start ≤ i → i < p → x.getD i 0 ≠ 10 ∧ x.getD i 0 ≠ 13) (hyes : x.getD p 0 = 10 ∨ x.getD p 0 = 13) :
    ∃ sn, forSearch code2 x 0 start x.size false = St code2 x x.size p x.size false 10 p p true [{ wait := .nextStart, pc := 10, pos := p, outermost := true }] 1 none sn := by
  obtain ⟨sn', e⟩ := admitted_some (m := St code2 x x.size start x.size false 10 start start true [] 0 none (({} : Seen).add 14)) rfl (p - start) start (({} : Seen).add 14) p (x.size + 1 - start) rfl hle hp (by omega) hno hyes
  exact ⟨_, (forSearch2 x start x.size).trans ((if_neg (cond_no (Nat.lt_of_le_of_lt hle hp))).trans (from2 e))⟩
theorem finds2_some {x : Array Nat} {start p : Nat} (hp : p < x.size) (hle : start ≤ p) (hno : ∀ i, start ≤ i → i < p → x.getD i 0 ≠ 10 ∧ x.getD i 0 ≠ 13) (hyes : x.getD p 0 = 10 ∨ x.getD p 0 = 13) :
    Finds code2 x start (some (p, if x.getD p 0 = 13 ∧ p + 1 < x.size ∧ x.getD (p + 1) 0 = 10 then p + 2 else p + 1)) := by
  obtain ⟨sn, e⟩ := start2 hp hle hno hyes
  by_cases h10 : x.getD p 0 = 10
  · have h1 : (x.getD p 0 == 13) = false := by rw [h10]; decide
    have h2 : (x.getD p 0 == 10) = true := by rw [h10]; decide
    obtain ⟨m, hm, r⟩ := run2_b (ls := x.size) (hd := p) (pc0 := 10) (om := true) (sn := sn) hp h1 h2
    rw [if_neg (by rw [h10]; simp)]
    exact ⟨20, by decide, by rw [e, hm]; exact r⟩
  · have h13 : x.getD p 0 = 13 := by rcases hyes with h | h; exact absurd h h10; exact h
    have h1 : (x.getD p 0 == 13) = true := by rw [h13]; decide
    have h2 : (x.getD p 0 == 10) = false := by rw [h13]; decide
    by_cases hl : p + 1 < x.size
    · by_cases hn : x.getD (p + 1) 0 = 10
      · have h3 : (x.getD (p + 1) 0 == 10) = true := by rw [hn]; decide
        obtain ⟨m, hm, r⟩ := run2_a (ls := x.size) (hd := p) (pc0 := 10) (om := true) (sn := sn) hl h1 h3
        rw [if_pos ⟨h13, hl, hn⟩]
        exact ⟨20, by decide, by rw [e, hm]; exact r⟩
      · have h3 : (x.getD (p + 1) 0 == 10) = false := beq_eq_false_iff_ne.mpr hn
        obtain ⟨m, hm, r⟩ := run2_c1 (ls := x.size) (hd := p) (pc0 := 10) (om := true) (sn := sn) hl h1 h2 h3
        rw [if_neg (fun h => hn h.2.2)]
        exact ⟨30, by decide, by rw [e, hm]; exact r⟩
    · obtain ⟨m, hm, r⟩ := run2_c2 (x := x) (ls := x.size) (hd := p) (pc0 := 10) (om := true) (sn := sn) (lim := x.size) (p := p) (Nat.le_antisymm hp (Nat.not_lt.mp hl)) h1 h2
      rw [if_neg (fun h => hl h.2.1)]
      exact ⟨30, by decide, by rw [e, hm]; exact r⟩
theorem finds2_none {x : Array Nat} {start : Nat} (hle : start ≤ x.size) (hno : ∀ i, start ≤ i → i < x.size → x.getD i 0 ≠ 10 ∧ x.getD i 0 ≠ 13) : Finds code2 x start none := by
  refine ⟨1, by decide, ?_⟩
  show (M.runFor 1 (forSearch code2 x 0 start x.size false)).outcome = _
  rw [forSearch2]
  by_cases h : start < x.size
  · obtain ⟨sn', e⟩ := admitted_none (m := St code2 x x.size start x.size false 10 start start true [] 0 none (({} : Seen).add 14)) rfl (x.size - start) start (({} : Seen).add 14) (x.size + 1 - start) rfl (by omega) hno
    rw [if_neg (cond_no h), from2n e]
    rfl
  · obtain rfl : start = x.size := Nat.le_antisymm hle (Nat.not_lt.mp h)
    rw [if_pos (cond_yes _)]
    rfl
end Mine
end
section
open PySem PySem.W PyProof.Rows PySem.Builtin PySem.Builtin.Re
set_option Elab.async false
set_option compiler.extract_closed false
set_option linter.unusedVariables false
namespace Mine
section
variable {M : Model} {A : Around} {E : Value → Shared → Prop} {s : Shared}
theorem drive_wp : ∀ (N t : Nat) (m : Sre.M) (s : Shared) (Q : Sre.M → Shared → Prop), (m.runFor N).outcome.isSome = true → N ≤ t → Q (m.runFor N) s → wpAny M A (reDrive (t + 1) m) Q E s := by
  intro N
  induction N using Nat.strongRecOn with
  | _ N ih =>
    intro t m s Q ho hN hq
    unfold reDrive
    dsimp only
    by_cases h1 : (m.runFor reTurnSteps).outcome.isSome = true
    · rw [if_pos h1]
      have e : m.runFor N = m.runFor reTurnSteps := by
        rcases Nat.le_total reTurnSteps N with h | h
        · have := runFor_add reTurnSteps (N - reTurnSteps) m
          rw [show reTurnSteps + (N - reTurnSteps) = N by omega] at this
          rw [this, runFor_stop h1]
        · have := runFor_add N (reTurnSteps - N) m
          rw [show N + (reTurnSteps - N) = reTurnSteps by omega] at this
          rw [this, runFor_stop ho]
      rw [← e]
      exact wpAny_pure hq
    · rw [if_neg h1]
      have hlt : reTurnSteps < N := by
        rcases Nat.lt_or_ge reTurnSteps N with h | h
        · exact h
        · have := runFor_add N (reTurnSteps - N) m
          rw [show N + (reTurnSteps - N) = reTurnSteps by omega, runFor_stop ho] at this
          rw [this] at h1
          exact absurd ho h1
      have e := runFor_add reTurnSteps (N - reTurnSteps) m
      rw [show reTurnSteps + (N - reTurnSteps) = N by omega] at e
      have h4 : reTurnSteps = 4 := rfl
      obtain ⟨t', rfl⟩ : ∃ t', t = t' + 1 := ⟨t - 1, by omega⟩
      refine wpAny_bind (wpAny_rule ?_)
      exact ih (N - reTurnSteps) (by omega) t' _ s Q (by rw [← e]; exact ho) (by omega) (by rw [← e]; exact hq)
theorem rules_wp {f : Nat → PUnit → Sem (ForInStep PUnit)} (hf : ∀ i u (s : Shared) (Q : ForInStep PUnit → Shared → Prop), Q (.yield ⟨⟩) s → wpAny M A (f i u) Q E s) :
    ∀ (l : List Nat) (s : Shared) (Q : PUnit → Shared → Prop), Q ⟨⟩ s → wpAny M A (forIn l (⟨⟩ : PUnit) f) Q E s
  | [], s, Q, h => by rw [List.forIn_nil]; exact wpAny_pure h
  | i :: l, s, Q, h => by
    rw [List.forIn_cons]
    exact wpAny_bind (hf i _ s _ (rules_wp hf l s Q h))
noncomputable def FoundQ (Q : Option Sre.M → Shared → Prop) (s : Shared) : Option (Nat × Nat) → Prop
  | none => Q none s
  | some (b, e) => ∀ m' : Sre.M, m'.start = b → m'.handed = e → Q (some m') s
theorem toEnd_wp {m : Sre.M} {N : Nat} {r : Option (Nat × Nat)} {Q : Option Sre.M → Shared → Prop} (hN : N ≤ 100000) (hr : FoundIs (m.runFor N) r)
    (hq : FoundQ Q s r) : wpAny M A (reRunToEnd m) Q E s := by
  have ho : (m.runFor N).outcome.isSome = true := by
    cases r with
    | none => have : _ = _ := hr; rw [this]; rfl
    | some p => have := hr.1; rw [this]; rfl
  unfold reRunToEnd
  obtain ⟨t, ht, htb⟩ : ∃ t : Nat, 2 ^ 64 = t + 1 ∧ 100000 ≤ t := ⟨2 ^ 64 - 1, by decide, by decide⟩
  rw [ht]
  refine wpAny_bind (drive_wp N t m s _ ho (by omega) ?_)
  refine wpAny_bind (rules_wp (fun i u s Q h => ?_) _ _ _ ?_)
  · split
    · exact wpAny_bind (wpAny_rule (wpAny_pure h))
    · exact wpAny_pure h
  cases r with
  | none =>
    have e : (m.runFor N).outcome = some .failed := hr
    rw [e]
    exact wpAny_pure hq
  | some p =>
    obtain ⟨e1, e2, e3⟩ := hr
    rw [e1]
    exact wpAny_pure (hq _ e2 e3)
structure PatAt (h : Heap) (p : Addr) (code : Array Nat) : Prop where
  obj : ∃ o vs c oc items n, h.get? p = some o ∧ o.cls = .type "re.Pattern" ∧ o.dict = none ∧ o.data = .fields vs ∧ vs.getD 5 .none = .ref c ∧ vs.getD 6 .none = .int 0 0 ∧ vs.getD 2 .none = .int 0 0 ∧ h.get? c = some oc ∧ oc.data = .seq items n ∧ (items.map reRawOf).map Int.toNat = code
theorem PatAt.keeps {h h' : Heap} {p : Addr} {code : Array Nat} (x : PatAt h p code) (k : ∀ b o, h.get? b = some o → h'.get? b = some o) : PatAt h' p code := by
  obtain ⟨o, vs, c, oc, items, n, h1, h2, h3, h4, h5, h6, h7, h8, h9, h10⟩ := x.obj
  exact ⟨o, vs, c, oc, items, n, k _ _ h1, h2, h3, h4, h5, h6, h7, k _ _ h8, h9, h10⟩
theorem whole_wp {p : Addr} {code : Array Nat} {x : Str} {t : Tok} {Q : ReTarget → Shared → Prop} (P : PatAt s.heap p code)
    (hq : Q { pattern := .ref p, string := .str x t, code, text := x.cps, kind := 0, groups := 0, pos := 0, lim := x.cps.size } s) : wpAny M A (reWholeTarget (.ref p) (.str x t)) Q E s := by
  obtain ⟨o, vs, c, oc, items, n, h1, h2, h3, h4, h5, h6, h7, h8, h9, h10⟩ := P.obj
  unfold reWholeTarget
  refine wpAny_bind (wpAny_fieldsOf h1 h4 ?_)
  unfold reTextOf
  refine wpAny_bind (wpAny_bind (wpAny_pure (wpAny_pure ?_)))
  dsimp only
  rw [h6, h7, h5]
  have e1 : reRawNat (.int 0 0) = 0 := rfl
  simp only [e1]
  rw [if_neg (by decide), if_neg (by decide)]
  refine wpAny_bind ?_
  unfold reNoCollectionInside
  rw [if_neg (by decide)]
  refine wpAny_pure ?_
  unfold reRawItems
  refine wpAny_bind (wpAny_bind (wpAny_seqItems h8 h9 (wpAny_pure ?_)))
  refine wpAny_pure ?_
  show Q _ s
  have e2 : Array.map (fun x => Int.toNat x) (Array.map reRawOf ((some items).getD #[])) = code := h10
  rw [e2]
  exact hq
theorem next_wp {t : ReTarget} {code x : Array Nat} {start : Nat} {r : Option (Nat × Nat)} {Q : Option Sre.M → Shared → Prop} (F : Finds code x start r) (e1 : t.code = code) (e2 : t.text = x) (e3 : t.groups = 0) (e4 : t.lim = x.size)
    (hq : FoundQ Q s r) : wpAny M A (reNextFound t start false) Q E s := by
  obtain ⟨N, hN, hr⟩ := F
  unfold reNextFound
  rw [e1, e2, e3, e4]
  exact toEnd_wp hN hr hq
end
theorem plain_sub_loop : plainId "re.Pattern.sub.loop" = true := by decide +kernel
theorem entry_sub_loop : entryFor table "re.Pattern.sub.loop" = some Builtin.«re.Pattern.sub.loop» := entryFor_of_tree (by kernel_rfl)
theorem entry_sub : entryFor table "re.Pattern.sub" = some Builtin.«re.Pattern.sub» := entryFor_of_tree (by kernel_rfl)
/-- the pieces that a substitution lays -/
inductive Subs (code x : Array Nat) (rp : Str) : Nat → List Str → Prop
  | last {st : Nat} : Finds code x st none → Subs code x rp st (if st < x.size then [⟨x.extract st x.size⟩] else [])
  | next {st b e : Nat} {ps : List Str} : Finds code x st (some (b, e)) → b < e → st ≤ b → Subs code x rp e ps → Subs code x rp st ((if st < b then [⟨x.extract st b⟩] else []) ++ rp :: ps)
theorem strsAre_snoc {vs : List Value} {ys : List Str} (h : StrsAre vs ys) (y : Str) (t : Tok) : StrsAre (vs ++ [.str y t]) (ys ++ [y]) := by
  induction h with
  | nil => exact .cons y t .nil
  | cons z u _ ih => exact .cons z u ih
section
variable {prog : Program} {w : World} {A : Around} {R : Result → Shared → Prop}
noncomputable abbrev subArgs (p list : Addr) (x rp : Str) (t u : Tok) (n d : Nat) : Args := ⟨[.ref p, .str x t, .str rp u, rawInt 0, rawInt 0, rawInt n, rawInt d, rawInt d, .bool false, .ref list, .bool false], []⟩
theorem push_wp {list : Addr} {items : Array Value} {v : Value} {E : Value → Shared → Prop} {s : Shared} {Q : Unit → Shared → Prop} (hl : s.heap.PlainList list items) (hz : items.size < 4000)
    (hq : ∀ h', h'.PlainList list (items.push v) → Heap.SameBut list s.heap h' → Q () { s with heap := h' }) : wpAny (model prog w) A (updateSeq list (·.push v)) Q E s := by
  obtain ⟨n, ho⟩ := hl
  refine wpAny_updateSeq ho rfl (hq _ ?_ (Heap.SameBut.update ..)) (by rw [sizeLine_eq]; omega) (by rw [sizeLine_eq, Array.size_push]; omega)
  exact ⟨_, Heap.get?_update_self _ ho rfl⟩
theorem slice_wp {M : Model} {A : Around} {E : Value → Shared → Prop} {s : Shared} {x : Array Nat} {b e : Nat} {Q : Value → Shared → Prop} (hx : x.size ≤ 1000) (hq : Q (.str ⟨x.extract b e⟩ s.toks) { s with toks := s.toks + 1 }) : wpAny M A (reSlice x 0 b e) Q E s := by
  unfold reSlice
  rw [if_pos (by decide)]
  refine wpAny_mkStr hq ?_
  rw [sizeLine_eq]
  show (x.extract b e).size ≤ _
  rw [Array.size_extract]; omega
theorem extract_zero (x : Array Nat) : x.extract 0 0 = #[] := by simp
/-- the end of a substitution -/
theorem finish_wp {list : Addr} {x : Array Nat} {E : Value → Shared → Prop} {s : Shared} {items : Array Value} {acc : List Str} {Q : Fin → Shared → Prop} {nn : Sem Value} (hl : s.heap.PlainList list items) (hi : StrsAre items.toList acc) (hx : x.size ≤ 1000)
    (hsum : (acc.map (·.length)).sum ≤ 100000) (hq : ∀ t' tk, Q (.done (.ret (.str (Str.join ⟨#[]⟩ acc) t'))) { s with toks := tk }) :
    wpAny (model prog w) A (do
      let joiner ← reSlice x 0 0 0
      let __do_lift ← seqItems? (.ref list)
      if (__do_lift.getD #[]).isEmpty = true then do
        let text ← pure joiner
        if false = true then do
          let v ← nn
          ret v
        else ret text
      else do
        let text ← call (Value.builtin (if (0 == 0) = true then "str.join" else "bytes.join")) [joiner, Value.ref list]
        if false = true then do
          let v ← nn
          ret v
        else ret text) Q E s := by
  refine wpAny_bind (slice_wp hx ?_)
  rw [extract_zero]
  obtain ⟨k, ho⟩ := hl
  refine wpAny_bind (wpAny_seqItems (s := { s with toks := s.toks + 1 }) ho rfl ?_)
  cases hi' : items.isEmpty with
  | true =>
    rw [if_pos (by simpa using hi')]
    refine wpAny_bind (wpAny_pure ?_)
    rw [if_neg (by decide)]
    have : acc = [] := by
      have e : items.toList = [] := by simpa using hi'
      rw [e] at hi
      cases hi
      rfl
    subst this
    exact wpAny_pure (hq _ _)
  | false =>
    rw [if_neg (by simpa using hi')]
    refine wpAny_bind ?_
    rw [if_pos (by decide)]
    refine join_list (s := { s with toks := s.toks + 1 }) ⟨_, ho, rfl, _, rfl⟩ hi (by show _ + _ * 0 ≤ _; omega) fun t' k' => ?_
    rw [if_neg (by decide)]
    have e : Txt.join ⟨#[]⟩ acc = Str.join ⟨#[]⟩ acc := StrLaws.glued_eq_join _ _
    rw [e]
    exact wpAny_pure (hq _ _)
theorem loop_wp {code : Array Nat} {p list : Addr} {x rp : Str} {t u : Tok} {g : Heap} (P : PatAt g p code) (hn : g.get? list = none) (hx : x.length ≤ 1000) :
    ∀ {st : Nat} {ps : List Str} (S : Subs code x.cps rp st ps) (s : Shared) (items : Array Value) (acc : List Str) (n : Nat), (∀ b o, g.get? b = some o → s.heap.get? b = some o) → s.heap.PlainList list items → StrsAre items.toList acc → items.size = acc.length →
      acc.length + ps.length < 3000 → ((acc ++ ps).map (·.length)).sum ≤ 100000 →
      (∀ h' tk t', (∀ b o, b ≠ list → s.heap.get? b = some o → h'.get? b = some o) → R (.ok (.ret (.str (Str.join ⟨#[]⟩ (acc ++ ps)) t'))) { s with heap := h', toks := tk }) →
      codeAny (model prog w) A (.builtin "re.Pattern.sub.loop" (subArgs p list x rp t u n st)) R s := by
  have hx' : x.cps.size ≤ 1000 := hx
  intro st ps S
  induction S with
  | @last st F =>
    intro s items acc n k hl hi hz hc hsum hR
    refine codeAny_builtin entry_sub_loop ?_
    rw [Around.under_plainId plain_sub_loop _]
    unfold Builtin.«re.Pattern.sub.loop»
    dsimp only [subArgs, rawInt]
    refine wpAny_bind (whole_wp (P.keeps k) ?_)
    dsimp only
    simp only [Int.toNat_natCast]
    rw [if_pos (by decide)]
    unfold reLiteralCannotBeTurned
    refine wpAny_bind (wpAny_bind (wpAny_pure ?_))
    rw [if_neg (fun h : (some rp).isNone = true => Bool.noConfusion h)]
    refine wpAny_pure ?_
    refine wpAny_bind ?_
    rw [if_neg (fun h : (((0 : Int) != 0) && decide ((n : Int) ≥ 0)) = true => Bool.noConfusion h)]
    refine next_wp F rfl rfl rfl rfl ?_
    show wpAny _ _ _ _ _ _
    dsimp only
    by_cases hlt : st < x.cps.size
    · rw [if_pos hlt] at hR hsum
      rw [if_pos hlt]
      refine wpAny_bind (slice_wp hx' ?_)
      refine wpAny_bind (push_wp (s := { s with toks := s.toks + 1 }) hl (by omega) fun h' hl' hs => ?_)
      refine finish_wp (nn := pure .none) (s := { s with heap := h', toks := s.toks + 1 }) hl' (by rw [Array.toList_push]; exact strsAre_snoc hi _ _) hx' hsum fun t' tk => ?_
      exact hR h' tk t' fun b o hb e => (hs.2 b hb).trans e
    · rw [if_neg hlt] at hR hsum
      rw [if_neg hlt]
      rw [List.append_nil] at hR hsum
      exact finish_wp (nn := pure .none) hl hi hx' hsum fun t' tk => hR s.heap tk t' fun _ _ _ e => e
  | @next st b e ps F hbe hsb S ih =>
    intro s items acc n k hl hi hz hc hsum hR
    refine codeAny_builtin entry_sub_loop ?_
    rw [Around.under_plainId plain_sub_loop _]
    unfold Builtin.«re.Pattern.sub.loop»
    dsimp only [subArgs, rawInt]
    refine wpAny_bind (whole_wp (P.keeps k) ?_)
    dsimp only
    simp only [Int.toNat_natCast]
    rw [if_pos (by decide)]
    unfold reLiteralCannotBeTurned
    refine wpAny_bind (wpAny_bind (wpAny_pure ?_))
    rw [if_neg (fun h : (some rp).isNone = true => Bool.noConfusion h)]
    refine wpAny_pure ?_
    refine wpAny_bind ?_
    rw [if_neg (fun h : (((0 : Int) != 0) && decide ((n : Int) ≥ 0)) = true => Bool.noConfusion h)]
    refine next_wp F rfl rfl rfl rfl ?_
    intro m hm1 hm2
    dsimp only
    rw [hm1, hm2]
    have hmust : (e == b) = false := by simp; omega
    rw [hmust]
    have hitem : (Value.str rp u != Value.none) = true := rfl
    by_cases hlt : st < b
    · rw [if_pos hlt] at hR hsum hc
      rw [if_pos hlt]
      refine wpAny_bind (slice_wp hx' ?_)
      refine wpAny_bind (push_wp (s := { s with toks := s.toks + 1 }) hl (by omega) fun h₁ hl₁ hs₁ => ?_)
      rw [if_pos (by decide)]
      refine wpAny_bind (wpAny_pure ?_)
      rw [if_pos hitem]
      refine wpAny_bind (push_wp (s := { s with heap := h₁, toks := s.toks + 1 }) hl₁ (by rw [Array.size_push]; simp at hc; omega) fun h₂ hl₂ hs₂ => ?_)
      refine wpAny_pure ⟨plainId_quiet plain_sub_loop _, ?_⟩
      have kk : ∀ b o, b ≠ list → s.heap.get? b = some o → h₂.get? b = some o := fun b o hb e => (hs₂.2 b hb).trans ((hs₁.2 b hb).trans e)
      have ea : acc ++ ([⟨x.cps.extract st b⟩] ++ rp :: ps) = (acc ++ [⟨x.cps.extract st b⟩] ++ [rp]) ++ ps := by simp
      rw [ea] at hR hsum
      refine ih { s with heap := h₂, toks := s.toks + 1 } _ (acc ++ [⟨x.cps.extract st b⟩] ++ [rp]) (n + 1) (fun b o eb => kk b o (fun z => by rw [z, hn] at eb; cases eb) (k b o eb)) hl₂ ?_ ?_ ?_ hsum ?_
      · rw [Array.toList_push, Array.toList_push]; exact strsAre_snoc (strsAre_snoc hi _ _) _ _
      · simp [hz]
      · simp at hc ⊢; omega
      · intro h' tk t' k'
        exact hR h' tk t' fun b o hb e => k' b o hb (kk b o hb e)
    · rw [if_neg hlt] at hR hsum hc
      rw [if_neg hlt]
      rw [if_pos (by decide)]
      refine wpAny_bind (wpAny_pure ?_)
      rw [if_pos hitem]
      refine wpAny_bind (push_wp hl (by omega) fun h₂ hl₂ hs₂ => ?_)
      refine wpAny_pure ⟨plainId_quiet plain_sub_loop _, ?_⟩
      have ea : acc ++ ([] ++ rp :: ps) = (acc ++ [rp]) ++ ps := by simp
      rw [ea] at hR hsum
      refine ih { s with heap := h₂ } _ (acc ++ [rp]) (n + 1) (fun b o eb => (hs₂.2 b (fun z => by rw [z, hn] at eb; cases eb)).trans (k b o eb)) hl₂ ?_ ?_ ?_ hsum ?_
      · rw [Array.toList_push]; exact strsAre_snoc hi _ _
      · simp [hz]
      · simp at hc ⊢; omega
      · intro h' tk t' k'
        exact hR h' tk t' fun b o hb e => k' b o hb ((hs₂.2 b hb).trans e)
end
end Mine
end
section
open PySem PySem.W PyProof.Rows PySem.Builtin PySem.Builtin.Re
set_option Elab.async false
set_option compiler.extract_closed false
set_option linter.unusedVariables false
namespace Mine
theorem plainAttrs_pattern : PlainAttrs "re.Pattern" :=
  ⟨⟨"object.__getattribute__", by rw [typeLookup_type, builtinLookup_eq_fast]; kernel_rfl, by decide +kernel⟩, by rw [typeLookup_type, builtinLookup_eq_fast]; kernel_rfl⟩
theorem slot_sub : Slot "re.Pattern" "sub" "re.Pattern.sub" :=
  .of (owner := "re.Pattern") (n := "sub") (by rw [typeLookup_type, builtinLookup_eq_fast]; kernel_rfl) (by decide +kernel) (by decide +kernel) (by decide +kernel)
    (by first | exact .inl (by decide +kernel) | exact .inr (by decide +kernel)) (by rw [isSubtype_type]; kernel_rfl)
theorem type_sub : typeOf (.builtin "re.Pattern.sub") = pure (.type "method_descriptor") := by show builtinType _ = _; rw [builtinType_eq_fast]; kernel_rfl
theorem args_sub (a b c : Value) : argsOk "re.Pattern.sub" ⟨[a, b, c], []⟩ := by kernel_rfl
theorem str_nocall : typeLookup (.type "str") "__call__" = pure none := by rw [typeLookup_type, builtinLookup_eq_fast]; kernel_rfl
theorem named_sub (a b : Value) : reNamed "re.Pattern.sub" "sub" ["repl", "string", "count"] 2 [a, b] [] = pure [some a, some b, none] := by kernel_rfl
section
variable {prog : Program} {w : World} {A : Around} {E : Value → Shared → Prop} {s : Shared} {h₀ : Heap} {p L : Addr} {code : Array Nat} {x rp : Str} {t u : Tok} {m : Str → Option Value} {news : List (Addr × Obj)} {ps : List Str} {Q : Value → Shared → Prop}
theorem method_sub {pl : Sem Bool} {Q : Value × List Value → Shared → Prop} (P : PatAt h₀ p code) (F : Fr h₀ L s.heap m) (h : Q (.builtin "re.Pattern.sub", [.ref p]) s) : wpAny (model prog w) A (getMethod (.ref p) "sub" pl) Q E s := by
  obtain ⟨o, vs, c, oc, items, n, h1, h2, h3, r⟩ := (P.keeps F.keep).obj
  exact getMethod_builtin ⟨_, h1, h2⟩ plainAttrs_pattern slot_sub type_sub (fun b e => by injection e with e; subst e; exact ⟨_, h1, h3⟩) h
theorem call_sub (P : PatAt h₀ p code) (F : Fr h₀ L s.heap m) (N : News h₀ L s.heap news) (hrp : rp.cps.contains 92 = false) (hx : x.length ≤ 1000) (S : Subs code x.cps rp 0 ps) (hc : ps.length < 3000) (hsum : (ps.map (·.length)).sum ≤ 100000)
    (hq : ∀ h' tk t', Fr h₀ L h' m → News h₀ L h' news → Q (.str (Str.join ⟨#[]⟩ ps) t') { s with heap := h', toks := tk }) :
    wpAny (model prog w) A (call (.builtin "re.Pattern.sub") [.ref p, .str rp u, .str x t]) Q E s := by
  have P₀ := P.keeps F.keep
  have hT : s.TypeIs (.ref p) "re.Pattern" := by
    obtain ⟨o, _, _, _, _, _, h1, h2, _⟩ := P₀.obj
    exact ⟨o, h1, h2⟩
  refine wpAny_call (codeAny_call_builtin slot_sub.plain entry_sub (slot_sub.check _ _ _ _ _ _ _ _ hT (args_sub _ _ _) ?_))
  unfold Builtin.«re.Pattern.sub» reSubstitute
  dsimp only
  rw [named_sub]
  refine wpAny_bind (wpAny_pure ?_)
  dsimp only
  refine wpAny_bind (wpAny_pure ?_)
  refine wpAny_bind (wpAny_specialOf (T := "str") (v := .str rp u) rfl str_nocall ?_)
  refine wpAny_bind ?_
  refine wpAny_pure ?_
  dsimp only
  refine wpAny_bind (wpAny_pure ?_)
  rw [if_neg (by decide), hrp, if_pos (by decide)]
  refine wpAny_bind (wpAny_pure ?_)
  dsimp only
  refine wpAny_bind (wpAny_holding (whole_wp P₀ ?_))
  rw [if_neg (by decide)]
  refine wpAny_bind (wpAny_newObj_type ?_)
  have hlt : ∀ b o, s.heap.get? b = some o → (s.heap.push { cls := .type "list", data := .seq ([] : List Value).toArray }).get? b = some o := fun b o e => Heap.get?_push_of_some _ e
  have hne : ∀ b o, s.heap.get? b = some o → b ≠ s.heap.objs.size := fun b o e => Nat.ne_of_lt (Heap.lt_size e)
  refine wpAny_pure ⟨plainId_quiet plain_sub_loop _, ?_⟩
  have hnone : s.heap.get? s.heap.objs.size = none := by
    cases q : s.heap.get? s.heap.objs.size with
    | none => rfl
    | some o => exact absurd (Heap.lt_size q) (Nat.lt_irrefl _)
  refine loop_wp (g := s.heap) P₀ hnone hx S { s with heap := s.heap.push { cls := .type "list", data := .seq ([] : List Value).toArray } } #[] [] 0 hlt ⟨_, Heap.get?_push_size _ rfl⟩ .nil rfl (by simpa using hc) (by simpa using hsum) fun h' tk t' k => ?_
  have kk : ∀ b o, s.heap.get? b = some o → h'.get? b = some o := fun b o e => k b o (hne b o e) (hlt b o e)
  exact hq h' tk t' ⟨F.ns.keeps kk, fun b o e => kk _ _ (F.keep b o e), F.above⟩ fun q hq => ⟨kk _ _ (N q hq).1, (N q hq).2⟩
theorem pat1 {w : World} {h : Heap} (X : (hK w.params).In h) : PatAt h 192 code1 :=
  ⟨⟨o_192 w.params, _, 191, o_191 w.params, _, _, X 192 _ (by kernel_rfl), rfl, rfl, rfl, rfl, rfl, rfl, X 191 _ (by kernel_rfl), rfl, by decide +kernel⟩⟩
theorem pat2 {w : World} {h : Heap} (X : (hK w.params).In h) : PatAt h 197 code2 :=
  ⟨⟨o_197 w.params, _, 196, o_196 w.params, _, _, X 197 _ (by kernel_rfl), rfl, rfl, rfl, rfl, rfl, rfl, X 196 _ (by kernel_rfl), rfl, by decide +kernel⟩⟩
end
end Mine
end
section
open PySem PySem.W PyProof.Rows
set_option Elab.async false
set_option compiler.extract_closed false
set_option linter.unusedVariables false
namespace Mine
local macro_rules | `(tactic| walk_at "getMethod ref") => `(tactic| (first | ((with_reducible show wpAny _ _ (getMethod (Value.ref 192) _ _) _ _ _); refine method_sub (pat1 (by assumption)) (by assumption) ?_) | ((with_reducible show wpAny _ _ (getMethod (Value.ref 197) _ _) _ _ _); refine method_sub (pat2 (by assumption)) (by assumption) ?_)))
local macro_rules | `(tactic| walk_at "call builtin:re.Pattern.sub") => `(tactic| (refine hold ?_))
structure Quoted (x y z : Str) : Prop where
  lx : x.length ≤ 1000
  ly : y.length ≤ 1000
  two : ∃ ps, Subs code2 x.cps (Str.ofString "\r\n") 0 ps ∧ ps.length < 3000 ∧ (ps.map (·.length)).sum ≤ 100000 ∧ Str.join ⟨#[]⟩ ps = y
  one : ∃ ps, Subs code1 y.cps (Str.ofString "..") 0 ps ∧ ps.length < 3000 ∧ (ps.map (·.length)).sum ≤ 100000 ∧ Str.join ⟨#[]⟩ ps = z
set_option maxRecDepth 100000 in
set_option maxHeartbeats 8000000 in
theorem spec_quote (w : World) (p : Program) (lo : List Str) (mean : ExcName → Option Value) (mg mb : Str → Option Value) (x y z : Str) (t : Tok) (hx : Quoted x y z) : Fill PySem.Challenge.rw_ij0172_01 hK →
  Spec w p lo mean mg mb fun dp un gd cn cs a ccd cl outer h₀ L m news s Q E => 
    dp + 4 < recursionLimit → un + 24 < cLine →
    (∀ (h' : Heap) (t1 : Tok) (tk' : Nat), Fr h₀ L h' m → News h₀ L h' news → Q (.str z t1) { s with heap := h', toks := tk' }) →
    wpAny (model PG w) (ktrTop dp un gd cn cs L a ccd cl outer) (call (.ref 204) [.str x t]) Q E s := by
  w_top off
  k_fill
  intro _
  dsimp only [Spec]
  intro dp un gd cn cs a ccd cl outer A₀ base h₀ L m news s Q E B F X N T Z C hk hd hu hret
  have hx := Hold.mk hx
  refine wpAny_call ?_
  k_dflt cell_enter
  walk_at "mine norm"
  (with_reducible rename Fr h₀ L _ _ => FG)
  rename_i g' L' h' F' N' B' X' T'
  w_strict k_steps
  refine ⟨?_⟩
  obtain ⟨lx, ly, ⟨ps2, s2, c2, b2, e2⟩, ps1, s1, c1, b1, e1⟩ := hx.out
  (with_reducible rename Fr g' L' _ _ => F₂)
  (with_reducible rename News g' L' _ _ => N₂)
  refine call_sub (pat2 X') F₂ N₂ (by decide +kernel) lx s2 c2 b2 ?_
  rw [e2]
  intro h₂ tk₂ t₂ F₃ N₃
  clear F₂ N₂
  w_strict k_steps
  refine ⟨?_⟩
  refine call_sub (pat1 X') F₃ N₃ (by decide +kernel) ly s1 c1 b1 ?_
  rw [e1]
  intro h₄ tk₄ t₄ F₄ N₄
  clear F₃ N₃
  w_strict k_steps
  exact hret _ _ _ (by assumption) (by assumption)
end Mine
end
end
section
open PySem PySem.W PySem.Spec PySem.Calls PyProof.Rows
set_option Elab.async false
set_option compiler.extract_closed false
set_option linter.unusedVariables false
namespace Mine
local macro_rules | `(tactic| walk_at "call ref") => `(tactic| (refine hold ?_))
noncomputable def MidV (x : Str) (g : Heap) (L : Addr) (m : Str → Option Value) (news : List (Addr × Obj)) (S : Shared) : Value → Shared → Prop := fun v s₂ => ∃ h tv tk, v = .str x tv ∧ s₂ = { S with heap := h, toks := tk } ∧ Fr g L h m ∧ News g L h news
theorem mid_val {M : Model} {A : Around} {tree : Sem Value} {Q E : Value → Shared → Prop} {S : Shared} {g h : Heap} {L : Addr} {m : Str → Option Value} {news : List (Addr × Obj)} (x : Str) (F : Fr g L h m) (N : News g L h news) (h1 : wpAny M A tree (MidV x g L m news S) (fun _ _ => False) S)
    (h2 : ∀ h tv tk, Fr g L h m → News g L h news → Q (.str x tv) { S with heap := h, toks := tk }) : wpAny M A tree Q E S :=
  wpAny_mono h1 (fun _ _ ⟨h, tv, tk, e1, e2, F, N⟩ => by subst e1 e2; exact h2 h tv tk F N) fun _ _ e => e.elim
local macro_rules | `(tactic| walk_at "eval IfExp") => `(tactic| ((fail_if_success (with_reducible show wpAny _ _ _ (MidV _ _ _ _ _ _) _ _)); refine hold ?_))
local macro_rules | `(tactic| walk_at "MidV") => `(tactic| (refine hold ?_))
local macro_rules | `(tactic| walk_at "call builtin:str.join") => `(tactic| (refine hold ?_))
structure InIf : Prop where
  out : True
local macro_rules | `(tactic| walk_at "exec If") => `(tactic| ((fail_if_success (rename InIf => hInIf)); refine hold ?_))
local macro_rules | `(tactic| walk_at "CompSrc") => `(tactic| (refine hold ?_))
local macro_rules | `(tactic| walk_at "CompEnd") => `(tactic| (refine hold ?_))
local macro_rules | `(tactic| walk_at "LeaveX") => `(tactic| (refine hold ?_))
local macro_rules | `(tactic| walk_at "HMid") => `(tactic| (refine hold ?_))
local macro_rules | `(tactic| walk_at "eval ListComp") => `(tactic| (refine hold ?_))
noncomputable def HMid (w : World) (A : Around) (base : Heap) (env : Env) (p : Program) (lo : List Str) (mean : ExcName → Option Value) (mg mb : Str → Option Value) (g' : Heap) (L' : Addr) (m : Str → Option Value) (R₂ : List (Addr × Obj)) (s : Shared) : Flow → Shared → Prop := fun fl s₂ =>
  fl = .next ∧ ∃ g h tk ps R, s₂ = { s with heap := h, toks := tk } ∧ KtsTurn (fsOf [env]) g' g ∧ Fr g L' h m ∧ News g L' h ((175, tabObj ps) :: R) ∧ TabL ps R ∧ (∀ q ∈ R₂, q ∈ R) ∧ Below A base [env] g ∧ (hK w.params).In g ∧ Top p lo mean mg mb g ∧ KtsDicts (fsOf [env]) g
theorem hmid {w : World} {M : Model} {A A' : Around} {base : Heap} {env : Env} {p : Program} {lo : List Str} {mean : ExcName → Option Value} {mg mb : Str → Option Value} {g' h : Heap} {L' : Addr} {m : Str → Option Value} {R₂ : List (Addr × Obj)} {tree : Sem Flow} {Q : Flow → Shared → Prop} {E : Value → Shared → Prop} {S : Shared}
    (B : Below A base [env] g') (T : Top p lo mean mg mb g') (F : Fr g' L' h m) (h1 : wpAny M A' tree (HMid w A base env p lo mean mg mb g' L' m R₂ S) E S)
    (h2 : ∀ g h tk ps R, KtsTurn (fsOf [env]) g' g → Fr g L' h m → News g L' h ((175, tabObj ps) :: R) → TabL ps R → (∀ q ∈ R₂, q ∈ R) → Below A base [env] g → (hK w.params).In g → Top p lo mean mg mb g → KtsDicts (fsOf [env]) g → Q .next { S with heap := h, toks := tk }) :
    wpAny M A' tree Q E S :=
  wpAny_mono h1 (fun f s' hm => by
    have e1 := hm.1
    obtain ⟨g, h, tk, ps, R, hr⟩ := hm.2
    have e2 := hr.1
    subst e1 e2
    have r := hr.2
    exact h2 g h tk ps R r.1 r.2.1 r.2.2.1 r.2.2.2.1 r.2.2.2.2.1 r.2.2.2.2.2.1 r.2.2.2.2.2.2.1 r.2.2.2.2.2.2.2.1 r.2.2.2.2.2.2.2.2) fun _ _ e => e
noncomputable def dueO : Out → DueOut
  | .ok e r => .ok e r
  | .err T => .words T
noncomputable def dsOf (v : Int) (odd : Str) : List (Str × Int) := (figList v).map (drawOf odd)
noncomputable def markOf (v : Int) : Str := if v.fmod 2 = 1 then Str.ofString "'" else Str.ofString "\""
noncomputable def unstuff (row : Str) : Str := if (Txt.slice row none (some 1) == Str.ofString ".") = true then Txt.slice row (some 1) none else row
section
variable {prog : Program} {w : World} {A : Around} {E : Value → Shared → Prop} {s : Shared} {a b : Addr} {e : Int} {r : Str} {t1 t2 t3 t4 : Tok} {Q : Value → Shared → Prop}
theorem pair_reads (h1 : s.heap.get? a = some (tupObj [.int e t1, .str r t2])) : Reads s.heap (.ref a) (.tuple [.int e, .str r]) [] :=
  reads_tuple_at h1 rfl rfl (ReadsAll.cons (Reads.int _ _) (ReadsAll.cons (Reads.str _ _) ReadsAll.nil))
theorem pair_shaped (hr : PyData.strOk r = true) : SeqAt.shaped (.tuple [.int e, .str r]) = true := by
  simp [SeqAt.shaped, PyData.canLay0, PyData.canLayAll0, PyData.depth, PyData.depthAll, hr]
theorem ne_pair (h1 : s.heap.get? a = some (tupObj [.int e t1, .str r t2])) (h2 : s.heap.get? b = some (tupObj [.int e t3, .str r t4])) (hr : PyData.strOk r = true) (hu : A.units + 64 < cLine) (h : Q (.bool false) s) :
    wpAny (model prog w) A (compareOp .NotEq (.ref a) (.ref b)) Q E s :=
  ne_dataH (pair_reads h1) (pair_reads h2) (pair_shaped hr) (pair_shaped hr) hu (by simpa [PyData.eqv, PyData.eqvAll] using h)
theorem eq_pair (h1 : s.heap.get? a = some (tupObj [.int e t1, .str r t2])) (h2 : s.heap.get? b = some (tupObj [.int e t3, .str r t4])) (hr : PyData.strOk r = true) (hu : A.units + 64 < cLine) (h : Q (.bool true) s) :
    wpAny (model prog w) A (compareOp .Eq (.ref a) (.ref b)) Q E s :=
  eq_dataH (pair_reads h1) (pair_reads h2) (pair_shaped hr) (pair_shaped hr) hu (by simpa [PyData.eqv, PyData.eqvAll] using h)
end
structure HeldOk (v : Int) (odd y z : Str) (o₁ o₂ : Out) : Prop where
  ds : DsOk (dsOf v odd)
  quoted : Quoted (writeText (dsOf v odd) (markOf v) ((v.fdiv 2).fmod 3)) y z
  zlen : z.length ≤ 300
  rows : (Txt.split z (Str.ofString "\r\n")).length ≤ 100
  row : ∀ r ∈ Txt.split z (Str.ofString "\r\n"), r.length ≤ 100
  asked₁ : Asked (Txt.join (Str.ofString "\n") (Txt.split z (Str.ofString "\r\n"))) 4 (markOf v) o₁
  due₁ : due (markOf v) (Str.ofString ".") ((v.fdiv 2).fmod 3) ((dsOf v odd).map (·.1)) = dueO o₁
  ok₁ : ∀ e r, o₁ = .ok e r → PyData.strOk r = true
  asked₂ : Asked (Txt.join (Str.ofString "\n") ((Txt.split z (Str.ofString "\r\n")).map unstuff)) 3 (markOf v) o₂
  due₂ : due (markOf v) (Str.ofString "") ((v.fdiv 2).fmod 3) ((dsOf v odd).map (·.1)) = dueO o₂
  ok₂ : ∀ e r, o₂ = .ok e r → PyData.strOk r = true
theorem mark_a {v : Int} (h : v.fmod 2 = 1) : markOf v = Str.ofString "'" := if_pos h
theorem mark_b {v : Int} (h : ¬ v.fmod 2 = 1) : markOf v = Str.ofString "\"" := if_neg h
theorem mark_len (v : Int) : (markOf v).length = 1 := by unfold markOf; split <;> rfl
theorem TabL.more {ps : Array Value} {rest R : List (Addr × Obj)} (h : TabL ps rest) (hs : ∀ q ∈ rest, q ∈ R) (ha : ∀ p ∈ R, p.1 ≠ 175) : TabL ps R :=
  ⟨ha, h.ok.imp id fun ⟨c', oc, vs, t, e1, e2, e3⟩ => ⟨c', oc, vs, t, e1, hs _ e2, e3⟩⟩
theorem room_push {h₀ h : Heap} {L W : Addr} {o : Obj} {ps : Array Value} {R : List (Addr × Obj)} (hT : TabL ps R) (N : News h₀ L h ((W, o) :: (175, tabObj ps) :: R)) (ho : o ≠ tabObj ps) :
    ∃ R₂, News h₀ L h ((175, tabObj ps) :: R₂) ∧ TabL ps R₂ ∧ (W, o) ∈ R₂ ∧ ∀ q ∈ R, q ∈ R₂ := by
  refine ⟨(W, o) :: R, fun q hq => N q ?_, hT.more (fun q hq => .tail _ hq) fun p hp => ?_, .head _, fun q hq => .tail _ hq⟩
  · rcases List.mem_cons.mp hq with rfl | hq
    · exact .tail _ (.head _)
    · rcases List.mem_cons.mp hq with rfl | hq
      · exact .head _
      · exact .tail _ (.tail _ hq)
  · rcases List.mem_cons.mp hp with rfl | hp
    · intro e
      have h1 := (N _ (.head _)).1
      have h2 := (N _ (.tail _ (.head _))).1
      dsimp only at e h1 h2
      rw [e, h2] at h1
      exact ho (Option.some.inj h1).symm
    · exact hT.apart p hp
theorem join_room {ys : List Str} (h1 : ys.length ≤ 100) (h2 : ∀ r ∈ ys, r.length ≤ 100) : (ys.map (·.length)).sum + ys.length * 64 ≤ 16777216 := by
  have : ∀ ys : List Str, (∀ r ∈ ys, r.length ≤ 100) → (ys.map (·.length)).sum ≤ ys.length * 100 := by
    intro ys
    induction ys with
    | nil => intro _; exact Nat.le_refl _
    | cons a r ih =>
      intro h
      have := ih fun x hx => h x (.tail _ hx)
      have := h a (.head _)
      simp only [List.map_cons, List.sum_cons, List.length_cons]
      lia
  have := this ys h2
  lia
theorem un_a {row : Str} (h : (Txt.slice row none (some 1) == Str.ofString ".") = true) : unstuff row = Txt.slice row (some 1) none := if_pos h
theorem un_b {row : Str} (h : (Txt.slice row none (some 1) == Str.ofString ".") = false) : unstuff row = row := if_neg (by simp [h])
theorem unstuff_all {rows : List Str} (h : ∀ r ∈ rows, r.length ≤ 100) : ∀ r ∈ rows.map unstuff, r.length ≤ 100 := by
  intro r hr
  obtain ⟨q, hq, rfl⟩ := List.mem_map.mp hr
  have := h q hq
  unfold unstuff
  split
  · have := Txt.slice_le q (some 1) none
    lia
  · exact this
theorem drawn_off {news off : List (Addr × Obj)} {ds : List (Str × Int)} {ys : List Value} (x : DrawnAt news off ds ys) : DrawnAt news [] ds ys := by
  induction x with
  | nil => exact .nil
  | cons m o _ ih => exact .cons m (fun _ h => nomatch h) ih
theorem held_room {h₀ h : Heap} {L D : Addr} {ps : Array Value} {rest inn : List (Addr × Obj)} {ds : List (Str × Int)} {ys : List Value} (hTab : TabL ps rest) (N : News h₀ L h ((D, LCg.lst ys) :: (inn ++ (175, tabObj ps) :: rest)))
    (hdr : DrawnAt inn ((175, tabObj ps) :: rest) ds ys) (hD : ∀ p ∈ (175, tabObj ps) :: rest, p.1 ≠ D) (hinn : ∀ q ∈ inn, ∀ p ∈ (175, tabObj ps) :: rest, p.1 ≠ q.1) :
    ∃ R, News h₀ L h ((175, tabObj ps) :: R) ∧ TabL ps R ∧ (D, LCg.lst ys) ∈ R ∧ DrawnAt R [] ds ys ∧ ∀ q ∈ rest, q ∈ R := by
  refine ⟨(D, LCg.lst ys) :: (inn ++ rest), fun q hq => N q ?_, hTab.more (fun q hq => .tail _ (List.mem_append_right _ hq)) fun p hp => ?_, .head _, ?_, fun q hq => .tail _ (List.mem_append_right _ hq)⟩
  · rcases List.mem_cons.mp hq with rfl | hq
    · exact .tail _ (List.mem_append_right _ (.head _))
    · rcases List.mem_cons.mp hq with rfl | hq
      · exact .head _
      · rcases List.mem_append.mp hq with hq | hq
        · exact .tail _ (List.mem_append_left _ hq)
        · exact .tail _ (List.mem_append_right _ (.tail _ hq))
  · rcases List.mem_cons.mp hp with rfl | hp
    · exact (hD _ (.head _)).symm
    · rcases List.mem_append.mp hp with hp | hp
      · exact (hinn p hp _ (.head _)).symm
      · exact hTab.apart p hp
  · exact drawn_off (hdr.mono fun q hq => .tail _ (List.mem_append_left _ hq))
set_option maxRecDepth 100000 in
set_option maxHeartbeats 8000000 in
theorem spec_held (w : World) (p : Program) (lo : List Str) (mean : ExcName → Option Value) (mg mb : Str → Option Value) (x : Int) (odd : Str) (t t2 : Tok) (y z : Str) (o₁ o₂ : Out) (hh : HeldOk (x.fmod 704643072) odd y z o₁ o₂) (hodd : odd.length = 1) : Fill PySem.Challenge.rw_ij0172_01 hK →
  ∀ (dp un : Nat) (gd : Option (List Code)) (cn : Str) (cs : Scope) (a : Addr) (ccd : Value) (cl : List (Str × Addr)) (A₀ : Around) (base h₀ : Heap) (L : Addr) (m : Str → Option Value) (news : List (Addr × Obj)) (s : Shared) (Q E : Value → Shared → Prop),
    Below A₀ base [] h₀ → Fr h₀ L s.heap m → (hK w.params).In h₀ → News h₀ L s.heap news → Top p lo mean mg mb h₀ → Sets w base → CodeHd base 179 175 → (hK w.params).In base → Top p lo mean mg mb base → cs.kind = .function →
    ∀ ps rest, news = (175, tabObj ps) :: rest → TabL ps rest →
    dp + 30 < recursionLimit → un + 200 < cLine →
    (∀ (h' : Heap) (tk' : Nat) ps' rest', Fr h₀ L h' m → News h₀ L h' ((175, tabObj ps') :: rest') → TabL ps' rest' → (∀ q ∈ rest, q ∈ rest') → (∀ b o, s.heap.get? b = some o → b ∉ news.map (·.1) → b ≠ L → h'.get? b = some o ∧ ∀ p ∈ (175, tabObj ps') :: rest', p.1 ≠ b) → Q (.bool true) { s with heap := h', toks := tk' }) →
    wpAny (model PG w) (ktrTop dp un gd cn cs L a ccd cl []) (call (.ref 249) [.int x t, .str odd t2]) Q E s := by
  w_top off
  k_fill
  intro _
  intro dp un gd cn cs a ccd cl A₀ base h₀ L m news s Q E B F X N T ZB CB XB TB hk ps rest hn hTab hd hu hret
  subst hn
  have hh := Hold.mk hh
  refine wpAny_call ?_
  k_dflt (refine' code_defSX ?k1 ?k2 ?k3 ?k4 ?k5 ?kA ?kF ?kK ?k6 ?k7 ?k8 ?k9 ?kB ?_ ?c2 ?c3 ?c4 ?c5; (case kA => exact rfl); (case kF => exact rfl); (case kK => assumption); (case k1 => k_asm); (case k2 => k_asm); (case k3 => k_asm); (case k4 => k_asm); (case k5 => k_asm); (case k6 => k_is); (case k7 => k_is); (case k8 => ktr_room); (case k9 => exact BindsTo.of_eq rfl); (case c5 => decide); (case kB => exact locs rfl); (case c2 => exact rfl); (case c3 => exact rfl); (case c4 => exact rfl); k_whole; intro g' L' h' FG' F' N' B' X' T' D'; (try dsimp only); (try k_lift B'); (try k_fold))
  walk_at "mine norm"
  (with_reducible rename Fr h₀ L _ _ => FG)
  have Z' := Sets.keeps ZB B'.stays
  have C' := CodeHd.keeps CB B'.stays
  w_strict k_steps
  refine ⟨?_⟩
  have hv0 := Int.fmod_nonneg_of_pos x (b := 704643072) (by decide)
  have hv1 := Int.fmod_lt_of_pos x (b := 704643072) (by decide)
  generalize hgv : x.fmod 704643072 = v at *
  clear hgv
  (with_reducible rename Fr g' L' _ _ => F₂)
  (with_reducible rename News g' L' _ _ => N₂)
  refine mid_val (markOf v) F₂ N₂ ?_ ?_
  · w_strict k_steps
    · refine ⟨?_⟩
      exact ⟨_, _, _, by rw [mark_a (by assumption)], rfl, by assumption, by assumption⟩
    · refine ⟨?_⟩
      exact ⟨_, _, _, by rw [mark_b (by assumption)], rfl, by assumption, by assumption⟩
  clear F₂ N₂
  intro h₂ tv tk F₂ N₂
  have hm1 : (markOf v).length = 1 := mark_len v
  w_strict k_steps
  refine ⟨?_⟩
  (with_reducible rename Fr g' L' _ _ => F₂)
  (with_reducible rename News g' L' _ _ => N₂)
  refine spec_strands w _ _ _ _ _ v odd _ _ trivial _ _ _ _ _ _ _ _ _ _ _ _ _ _ _ _ _ _ B' F₂ X' N₂ T' Z' C' rfl (by ktr_room) (by ktr_room) hv0 hv1 hodd ?_
  intro h₂ D ys inn tk₂ F₃ N₃ hdr hD hinn
  obtain ⟨R, N₄, hT₄, hDR, hdrR, hsub⟩ := held_room hTab N₃ hdr hD hinn
  clear F₂ N₂ N₃ hdr hinn hD
  w_strict k_steps
  refine ⟨?_⟩
  (with_reducible rename Fr g' L' _ _ => F₂)
  (with_reducible rename News g' L' _ _ => N₂)
  have hmo0 := Int.fmod_nonneg_of_pos (v.fdiv 2) (b := 3) (by decide)
  have hmo1 := Int.fmod_lt_of_pos (v.fdiv 2) (b := 3) (by decide)
  refine spec_written w _ _ _ _ _ D ys (dsOf v odd) (markOf v) ((v.fdiv 2).fmod 3) _ _ hh.out.ds trivial _ _ _ _ _ _ _ _ _ _ _ _ _ _ _ _ _ _ B' F₂ X' N₂ T' Z' C' rfl _ (by ktr_room) (by ktr_room) hm1 hmo0 (by lia) (.tail _ hDR) (hdrR.mono fun q hq => .tail _ hq) ?_
  intro h₃ t₃ tk₃ F₄ N₅
  clear F₂ N₂
  w_strict k_steps
  refine ⟨?_⟩
  (with_reducible rename Fr g' L' _ _ => F₂)
  (with_reducible rename News g' L' _ _ => N₂)
  refine spec_quote w _ _ _ _ _ _ y z _ hh.out.quoted trivial _ _ _ _ _ _ _ _ _ _ _ _ _ _ _ _ _ _ B' F₂ X' N₂ T' Z' C' rfl (by ktr_room) (by ktr_room) ?_
  intro h₄ t₄ tk₄ F₅ N₆
  clear F₂ N₂
  have hzl := hh.out.zlen
  w_strict k_steps
  refine ⟨?_⟩
  (with_reducible rename News g' L' _ _ => N₂)
  (with_reducible rename Fr g' L' _ _ => F₂)
  (rename List.map _ _ = Txt.split _ _ => hlook)
  (with_reducible rename StrsAre _ _ => hsa)
  rw [hlook] at hsa
  obtain ⟨R₂, N₇, hT₂, hWR, hRR⟩ := room_push hT₄ N₂ (fun e => by cases e)
  refine join_listC (ys := Txt.split z (Str.ofString "\r\n")) ⟨_, (N₂ _ (.head _)).1, rfl, _, rfl⟩ hsa (by decide) (join_room hh.out.rows hh.out.row) ?_
  intro t₅ tk₅
  have hDR₂ := hRR _ hDR
  have hdr₂ := hdrR.mono hRR
  have hsub₂ : ∀ q ∈ rest, q ∈ R₂ := fun q hq => hRR q (hsub q hq)
  clear N₂ hT₄ hDR hdrR hRR hsub hlook
  w_strict k_steps
  refine ⟨?_⟩
  (with_reducible rename Fr g' L' _ _ => F₂)
  refine hmid (w := w) (R₂ := R₂) B' T' F₂ ?_ ?_
  · have hmark := InIf.mk trivial
    w_strict k_steps
    refine ⟨?_⟩
    (with_reducible rename Fr g' L' _ _ => F₂)
    (with_reducible rename News g' L' _ _ => N₂)
    refine spec_asked w _ _ _ _ _ _ 4 (markOf v) _ _ _ o₁ hh.out.asked₁ trivial _ _ _ _ _ _ _ _ _ _ _ _ _ _ _ _ _ B' F₂ X' N₂ T' ZB CB XB TB D' rfl ps R₂ rfl hT₂ (by ktr_room) (by ktr_room) ?_ ?_
    · intro h₅ b₅ t₆ t₇ tk₆ e r ho F₃ N₃
      clear F₂ N₂
      w_strict k_steps
      refine ⟨?_⟩
      (with_reducible rename Fr g' L' _ _ => F₂)
      (with_reducible rename News g' L' _ _ => N₂)
      have hdue := hh.out.due₁
      rw [ho] at hdue
      refine spec_due w _ _ _ _ _ D ys (dsOf v odd) (markOf v) (Str.ofString ".") ((v.fdiv 2).fmod 3) _ _ _ hh.out.ds trivial _ _ _ _ _ _ _ _ _ _ _ _ _ _ _ _ _ _ B' F₂ X' N₂ T' Z' C' rfl [] (by ktr_room) (by ktr_room) hm1 (by decide) hmo0 (by lia) (.tail _ (.tail _ hDR₂)) (hdr₂.mono fun q hq => .tail _ (.tail _ hq)) ?_ ?_
      · intro h₇ b₇ t₈ t₉ tk₇ e' r' hd' F₅ N₅
        rw [hdue] at hd'
        injection hd' with q1 q2
        subst q1 q2
        clear F₂ N₂ hdue
        w_strict k_steps
        (with_reducible rename News g' L' _ _ => N₂)
        refine ne_pair (N₂ _ (.tail _ (.head _))).1 (N₂ _ (.head _)).1 (hh.out.ok₁ _ _ ho) (by (try dsimp only [Around.mark, Around.deeper]); lia) ?_
        w_strict k_steps
        refine ⟨?_⟩
        exact ⟨rfl, g', _, _, ps, R₂, rfl, KtsTurn.refl, by assumption, fun q hq => N₂ q (.tail _ (.tail _ hq)), hT₂, fun q hq => hq, B', X', T', D'⟩
      · intro h₇ T'' t₈ tk₇ hd'
        rw [hdue] at hd'
        cases hd'
    · intro g₃ h₅ T₁ t₆ tk₆ ps₃ R₃ ho T₃ F₃ N₃ hT₃ hs₃ B₃ X₃ P₃ D₃
      clear F₂ N₂
      have Z₃ := Sets.keeps ZB B₃.stays
      have C₃ := CodeHd.keeps CB B₃.stays
      w_strict k_steps
      refine ⟨?_⟩
      (with_reducible rename Fr g₃ L' _ _ => F₂)
      (with_reducible rename News g₃ L' _ _ => N₂)
      have hdue := hh.out.due₁
      rw [ho] at hdue
      refine spec_due w _ _ _ _ _ D ys (dsOf v odd) (markOf v) (Str.ofString ".") ((v.fdiv 2).fmod 3) _ _ _ hh.out.ds trivial _ _ _ _ _ _ _ _ _ _ _ _ _ _ _ _ _ _ B₃ F₂ X₃ N₂ P₃ Z₃ C₃ rfl [] (by ktr_room) (by ktr_room) hm1 (by decide) hmo0 (by lia) (.tail _ (hs₃ _ hDR₂)) (hdr₂.mono fun q hq => .tail _ (hs₃ _ hq)) ?_ ?_
      · intro h₇ b₇ t₈ t₉ tk₇ e' r' hd'
        rw [hdue] at hd'
        cases hd'
      · intro h₇ T'' t₈ tk₇ hd' F₅ N₅
        rw [hdue] at hd'
        injection hd' with q1
        subst q1
        clear F₂ N₂ hdue
        w_strict k_steps
        · exact absurd (by assumption : (T₁ != T₁) = true) (by simp)
        refine ⟨?_⟩
        exact ⟨rfl, g₃, _, _, ps₃, R₃, rfl, T₃, by assumption, by assumption, hT₃, hs₃, B₃, X₃, P₃, D₃⟩
  intro g₃ h₆ tk₆ ps₃ R₃ T₃ F₃ N₃ hT₃ hs₃ B₃ X₃ P₃ D₃
  have Z₃ := Sets.keeps ZB B₃.stays
  have C₃ := CodeHd.keeps CB B₃.stays
  have hWR₃ := hs₃ _ hWR
  have hDR₃ := hs₃ _ hDR₂
  have hdr₃ := hdr₂.mono hs₃
  have hsub₃ : ∀ q ∈ rest, q ∈ R₃ := fun q hq => hs₃ q (hsub₂ q hq)
  clear F₂ hT₂ hWR hDR₂ hdr₂ hsub₂ hs₃
  w_strict k_steps
  refine ⟨?_⟩
  (with_reducible rename Fr g₃ L' _ _ => F₂)
  k_dflt (refine LCg.ListComp_U (F₀ := F₂) (by with_unfolding_all rfl) (by decide) (by rfl) (by decide) (by rfl) ?_)
  w_strict k_steps
  refine ⟨?_⟩
  (with_reducible rename News g₃ L' _ _ => N₂)
  have hlv := strs_len hsa
  have hrn := hh.out.rows
  refine LCg.CompSrc.ledger rfl F₂ N₂ (.tail _ hWR₃) (by rw [sizeLine_eq, List.size_toArray, hlv]; lia) ?_
  intro g₉
  refine comp_rest_ind (I := fun i ys2 nw => nw = (175, tabObj ps₃) :: R₃ ∧ StrsAre ys2 (((Txt.split z (Str.ofString "\r\n")).map unstuff).take i)) ⟨rfl, .nil⟩ ?step ?fin
  case fin =>
    rintro ys2 nw ⟨rfl, hst⟩
    rw [List.take_of_length_le (by rw [List.length_map, List.size_toArray, hlv]; exact Nat.le_refl _)] at hst
    intro D₉ h₈ tk₈ F₈ N₈ o₈
    clear F₂ N₂
    w_strict k_steps
    refine ⟨?_⟩
    (with_reducible rename News g₃ L' _ _ => N₂)
    obtain ⟨R₄, N₄, hT₄, _, hRR⟩ := room_push hT₃ N₂ (fun e => by cases e)
    refine join_listC (ys := (Txt.split z (Str.ofString "\r\n")).map unstuff) ⟨_, (N₂ _ (.head _)).1, rfl, _, rfl⟩ (by rw [List.toList_toArray]; exact hst) (by decide) (join_room (by rw [List.length_map]; exact hh.out.rows) (unstuff_all hh.out.row)) ?_
    intro t₅ tk₅
    have hDR₄ := hRR _ hDR₃
    have hdr₄ := hdr₃.mono hRR
    have hsub₄ : ∀ q ∈ rest, q ∈ R₄ := fun q hq => hRR q (hsub₃ q hq)
    clear N₂ hT₃ hDR₃ hdr₃ hRR hsub₃
    w_strict k_steps
    refine ⟨?_⟩
    (with_reducible rename Fr g₃ L' _ _ => F₂)
    (with_reducible rename News g₃ L' _ _ => N₂)
    refine spec_asked w _ _ _ _ _ _ 3 (markOf v) _ _ _ o₂ hh.out.asked₂ trivial _ _ _ _ _ _ _ _ _ _ _ _ _ _ _ _ _ B₃ F₂ X₃ N₂ P₃ ZB CB XB TB D₃ rfl ps₃ R₄ rfl hT₄ (by ktr_room) (by ktr_room) ?_ ?_
    · intro h₅ b₅ t₆ t₇ tk₆ e r ho F₃ N₃
      clear F₂ N₂
      w_strict k_steps
      refine ⟨?_⟩
      (with_reducible rename Fr g₃ L' _ _ => F₂)
      (with_reducible rename News g₃ L' _ _ => N₂)
      have hdue := hh.out.due₂
      rw [ho] at hdue
      refine spec_due w _ _ _ _ _ D ys (dsOf v odd) (markOf v) (Str.ofString "") ((v.fdiv 2).fmod 3) _ _ _ hh.out.ds trivial _ _ _ _ _ _ _ _ _ _ _ _ _ _ _ _ _ _ B₃ F₂ X₃ N₂ P₃ Z₃ C₃ rfl [] (by ktr_room) (by ktr_room) hm1 (by decide) hmo0 (by lia) (.tail _ (.tail _ hDR₄)) (hdr₄.mono fun q hq => .tail _ (.tail _ hq)) ?_ ?_
      · intro h₇ b₇ t₈ t₉ tk₇ e' r' hd' F₅ N₅
        rw [hdue] at hd'
        injection hd' with q1 q2
        subst q1 q2
        clear F₂ N₂ hdue
        w_strict k_steps
        (with_reducible rename News g₃ L' _ _ => N₂)
        refine eq_pair (N₂ _ (.tail _ (.head _))).1 (N₂ _ (.head _)).1 (hh.out.ok₂ _ _ ho) (by (try dsimp only [Around.mark, Around.deeper]); lia) ?_
        w_strict k_steps
        refine ⟨?_⟩
        (with_reducible rename Fr g₃ L' _ _ => F₂)
        refine ⟨g₃, L', _, (175, tabObj ps₃) :: R₄, T₃, F₂, fun q hq => N₂ q (.tail _ (.tail _ hq)), fun F0 N0 K0 => ?_⟩
        exact hret _ _ _ _ F0 N0 hT₄ hsub₄ K0
      · intro h₇ T'' t₈ tk₇ hd'
        rw [hdue] at hd'
        cases hd'
    · intro g₄ h₅ T₁ t₆ tk₆ ps₄ R₅ ho T₄ F₃ N₃ hT₅ hs₅ B₅ X₅ P₅ D₅
      clear F₂ N₂
      have Z₅ := Sets.keeps ZB B₅.stays
      have C₅ := CodeHd.keeps CB B₅.stays
      w_strict k_steps
      refine ⟨?_⟩
      (with_reducible rename Fr g₄ L' _ _ => F₂)
      (with_reducible rename News g₄ L' _ _ => N₂)
      have hdue := hh.out.due₂
      rw [ho] at hdue
      refine spec_due w _ _ _ _ _ D ys (dsOf v odd) (markOf v) (Str.ofString "") ((v.fdiv 2).fmod 3) _ _ _ hh.out.ds trivial _ _ _ _ _ _ _ _ _ _ _ _ _ _ _ _ _ _ B₅ F₂ X₅ N₂ P₅ Z₅ C₅ rfl [] (by ktr_room) (by ktr_room) hm1 (by decide) hmo0 (by lia) (.tail _ (hs₅ _ hDR₄)) (hdr₄.mono fun q hq => .tail _ (hs₅ _ hq)) ?_ ?_
      · intro h₇ b₇ t₈ t₉ tk₇ e' r' hd'
        rw [hdue] at hd'
        cases hd'
      · intro h₇ T'' t₈ tk₇ hd' F₅ N₅
        rw [hdue] at hd'
        injection hd' with q1
        subst q1
        clear F₂ N₂ hdue
        w_strict k_steps
        refine ⟨?_⟩
        (with_reducible rename Fr g₄ L' _ _ => F₂)
        (with_reducible rename News g₄ L' _ _ => N₂)
        refine ⟨g₄, L', _, (175, tabObj ps₄) :: R₅, T₃.trans T₄, F₂, N₂, fun F0 N0 K0 => ?_⟩
        rw [beq_self_eq_true]
        exact hret _ _ _ _ F0 N0 hT₅ (fun q hq => hs₅ q (hsub₄ q hq)) K0
  rintro i ys2 nw hi ⟨rfl, hst⟩ v9 I9 oI9 C9 oC9 D9 m9 h9 tk9 E9 hP hoC hm9 F9 N9 off9 ne9
  rw [List.size_toArray, hlv] at hi
  obtain ⟨u9, hu9⟩ := strs_at hsa i Str.empty hi
  have hv9 : v9 = .str ((Txt.split z (Str.ofString "\r\n")).getD i Str.empty) u9 := by
    have hP' : _ = some v9 := hP
    rw [List.getElem?_toArray, hu9] at hP'
    exact (Option.some.inj hP').symm
  subst hv9
  have hrow : (Txt.split z (Str.ofString "\r\n")).getD i Str.empty ∈ Txt.split z (Str.ofString "\r\n") := by
    rw [List.getD_eq_getElem?_getD, List.getElem?_eq_getElem hi]; exact List.getElem_mem hi
  have hrl := hh.out.row _ hrow
  have htk : ((Txt.split z (Str.ofString "\r\n")).map unstuff).take (i + 1) = ((Txt.split z (Str.ofString "\r\n")).map unstuff).take i ++ [unstuff ((Txt.split z (Str.ofString "\r\n")).getD i Str.empty)] := by
    rw [List.take_add_one]
    simp [List.getD_eq_getElem?_getD, List.getElem?_eq_getElem hi]
  have htk := Hold.mk htk
  clear F₂ N₂ hrow hP
  generalize (Txt.split z (Str.ofString "\r\n")).getD i Str.empty = row at hrl htk hm9
  w_strict k_steps
  refine ⟨?_⟩
  (with_reducible rename Fr g₃ L' _ _ => F₂)
  (with_reducible rename News g₃ L' _ _ => N₂)
  refine mid_val (unstuff row) F₂ N₂ ?_ ?_
  · w_strict k_steps
    · refine ⟨?_⟩
      exact ⟨_, _, _, by rw [un_a (by assumption)], rfl, by assumption, by assumption⟩
    · refine ⟨?_⟩
      exact ⟨_, _, _, by rw [un_b (by assumption)], rfl, by assumption, by assumption⟩
  intro h₁₀ t₉ tk₁₀ F₁₀ N₁₀
  refine LCg.CompEnd.intro F₁₀ N₁₀ ((175, tabObj ps₃) :: R₃) (fun q hq => hq) off9 (.inr ⟨_, .tail _ hWR₃, rfl, _, rfl⟩) ⟨rfl, ?_⟩
  rw [htk.out]
  exact hst.append' (.cons _ _ .nil)
end Mine
end
section
local macro_rules | `(tactic| omega) => `(tactic| first | lia | omega +splitDisjunctions)
section
open PySem PySem.W PySem.Spec PySem.Calls PyProof.Rows
set_option Elab.async false
set_option compiler.extract_closed false
set_option linter.unusedVariables false
namespace Mine
set_option maxRecDepth 100000 in
set_option maxHeartbeats 8000000 in
theorem spec_odd (w : World) (p : Program) (lo : List Str) (mean : ExcName → Option Value) (mg mb : Str → Option Value) (tot : Int) (t : Tok) : Fill PySem.Challenge.rw_ij0172_01 hK →
  Spec w p lo mean mg mb fun dp un gd cn cs a ccd cl outer h₀ L m news s Q E =>
    dp + 4 < recursionLimit → un + 24 < cLine →
    (∀ (h' : Heap) (c : Str) (t1 : Tok) (tk' : Nat), c.length = 1 → (∃ n : Nat, c = ⟨#[n]⟩ ∧ 128 ≤ n ∧ n ≤ 0x10FFFF ∧ ¬(0xD800 ≤ n ∧ n ≤ 0xDFFF)) → Fr h₀ L h' m → News h₀ L h' news → Q (.str c t1) { s with heap := h', toks := tk' }) →
    wpAny (model PG w) (ktrTop dp un gd cn cs L a ccd cl outer) (call (.ref 211) [.int tot t] []) Q E s := by
  w_top off
  k_fill
  intro _
  dsimp only [Spec]
  intro dp un gd cn cs a ccd cl outer A₀ base h₀ L m news s Q E B F X N T Z C hk hd hu hret
  refine wpAny_call ?_
  k_dflt cell_enter
  walk_at "mine norm"
  rename_i g' L' h' FG' F' N' B' X' T'
  w_strict k_steps
  all_goals (
    have hm0 := Int.fmod_nonneg_of_pos (tot + 8104) (b := 1111936) (by decide)
    have hm1 := Int.fmod_lt_of_pos (tot + 8104) (b := 1111936) (by decide)
    generalize (tot + 8104).fmod 1111936 = z at *)
  all_goals first | exact hret _ _ _ _ rfl ⟨_, rfl, by omega, by omega, by omega⟩ (by assumption) (by first | assumption | exact news_tail (by assumption)) | skip
end Mine
end
section
open PySem PySem.W PySem.Spec PySem.Calls PyProof.Rows
set_option Elab.async false
set_option compiler.extract_closed false
set_option linter.unusedVariables false
namespace Mine
local macro_rules | `(tactic| walk_at "call ref") => `(tactic| (refine hold ?_))
local macro_rules | `(tactic| walk_at "eval ListComp") => `(tactic| (refine hold ?_))
section
open LCg LCt
variable {prog : Program} {w : World} {A : Around} {s : Shared} {h₀ : Heap} {L : Addr} {m : Str → Option Value} {env : Env} {ct elt : PySem.Expr} {x : Str} {scope : Scope} {cl : List (Str × Addr)} {S : List (Addr × Obj) → Prop} {P : Nat → Value → Prop} {Fin : List Value → List (Addr × Obj) → Prop} {news₀ : List (Addr × Obj)}
/-- a comprehension whose test is false at every item -/
theorem comp_none {n : Nat} (J : List (Addr × Obj) → Prop) (h0 : J news₀)
    (step : ∀ i nw, i < n → J nw → ∀ v I' oI C oC D m₂ h tk (E' : Value → Shared → Prop), P i v → NsObj oC m₂ → m₂ x = some v → Fr h₀ L h m → News h₀ L h ((I', oI) :: (C, oC) :: (D, lst []) :: nw) → Off3 I' C D nw → ((@Ne Nat I' C) ∧ (@Ne Nat I' D) ∧ (@Ne Nat C D)) →
      wpAny (model prog w) A (isTrue ct (compEnvC scope cl C env) (eval ct (compEnvC scope cl C env))) (fun ok s' => ok = false ∧ CompEnd h₀ L m { s with heap := h, toks := tk } I' oI C oC D (lst []) S (fun _ nw' => J nw') Value.none s') E' { s with heap := h, toks := tk })
    (fin : ∀ nw, J nw → Fin [] nw) : CompRestT prog w A h₀ L m env ct elt x scope cl s S P Fin n 0 [] news₀ := by
  suffices H : ∀ k i nw, i + k = n → J nw → CompRestT prog w A h₀ L m env ct elt x scope cl s S P Fin k i [] nw from H n 0 news₀ (Nat.zero_add n) h0
  intro k
  induction k with
  | zero => intro i nw _ hI; exact CompRestT.zero (fin _ hI)
  | succ k ih =>
    intro i nw hi hI
    refine CompRestT.succ fun v I' oI C oC D m₂ h tk E' hP hoC hm F N off ne => ?_
    refine wpAny_mono (step i nw (by omega) hI v I' oI C oC D m₂ h tk E' hP hoC hm F N off ne) (fun ok s₂ hy => ?_) fun _ _ e => e
    obtain ⟨rfl, h', tk', nw', e, F', N', off', hS, r⟩ := hy
    rw [if_neg (by simp)]
    exact ⟨h', tk', nw', e, F', N', off', hS, ih (i + 1) _ (by omega) r⟩
end
local macro_rules | `(tactic| walk_at "CompSrcT") => `(tactic| (refine hold ?_))
local macro_rules | `(tactic| walk_at "CompEnd") => `(tactic| (refine hold ?_))
theorem off175 {h₀ h : Heap} {L a : Addr} {o : Obj} {ps : Array Value} {news : List (Addr × Obj)} (N : News h₀ L h news) (ht : (175, tabObj ps) ∈ news) (ho : (a, o) ∈ news) (hne : o ≠ tabObj ps) : a ≠ 175 := fun e => by
  have h1 := (N _ ht).1
  have h2 := (N _ ho).1
  dsimp only at h1 h2
  rw [e, h1] at h2
  exact hne (Option.some.inj h2).symm
noncomputable def OddOk (odd : Str) : Prop := ∃ n : Nat, odd = ⟨#[n]⟩ ∧ 128 ≤ n ∧ n ≤ 0x10FFFF ∧ ¬(0xD800 ≤ n ∧ n ≤ 0xDFFF)
noncomputable def AllHeld : Prop := ∀ (v : Int) (odd : Str), 0 ≤ v → v < 704643072 → OddOk odd → ∃ y z o₁ o₂, HeldOk v odd y z o₁ o₂
noncomputable def LawEnd (s : Shared) (v : Value) (s' : Shared) : Prop := v = .bool true ∧ s'.os = s.os ∧ s'.gens = s.gens ∧ (∀ b o, b ≠ 175 → s.heap.get? b = some o → s'.heap.get? b = some o) ∧ ∃ ps, s'.heap.get? 175 = some (tabObj ps)
theorem sets_ghost {w : World} {h : Heap} (x : Sets w h) : Sets w (ghostOf h [(179, 175)]) :=
  have k : ∀ {a n : Nat} {S : Str → Bool}, FrozAt (strKind PG w) h a S n → a ≠ 175 → FrozAt (strKind PG w) (ghostOf h [(179, 175)]) a S n := fun ⟨es, ep, t, ho, r⟩ ha => ⟨es, ep, t, hideAll_get _ ho (by simpa using ha), r⟩
  ⟨k x.s94 (by decide), k x.s95 (by decide), k x.s103 (by decide), k x.s104 (by decide)⟩
set_option maxRecDepth 100000 in
set_option maxHeartbeats 8000000 in
theorem law_spec (hheld : AllHeld) (w : World) (p : Program) (lo : List Str) (mean : ExcName → Option Value) (mg mb : Str → Option Value) : Fill PySem.Challenge.rw_ij0172_01 hK →
  ∀ (s : Shared) (sa : Addr) (items : List Value) (ns : List Int), (hK w.params).In s.heap → s.heap.get? 175 = some (tabObj #[]) → Sets w s.heap → Top p lo mean mg mb s.heap → s.heap.IsList sa items.toArray → IntsAre items ns → ns.length ≤ 63 →
    wpAny (model PG w) callerA (call (.ref 254) [.ref sa]) (LawEnd s) (fun _ _ => False) s := by
  w_top off
  k_fill
  intro _
  intro s sa items ns X0 h175 Z0 T0 hl hints hlen
  have hT9 : TabsAt ([(179, 175)] : List (Addr × Addr)) s.heap := List.forall_mem_cons.mpr ⟨⟨codeHd_of_K (c := 179) (P := 175) X0 (by kernel_rfl), h175⟩, fun _ h => nomatch h⟩
  have hgl := ghost_list hT9 hl
  refine wpAny_call ?_
  refine call_cellsN (name := Str.ofString "law") (params := fP (st 40)) (body := fB (st 40)) (scope := fS (st 40)) (o := o_254 w.params) (cd := .ref 253) (binds := [(Str.ofString "script", .ref sa)]) (by decide) (X0 254 _ (by kernel_rfl)) rfl (Top.nolimit T0) (codeRec_of (K := hK w.params) X0 (by kernel_rfl)) rfl (kinds_of (by kinds_ok)) (by decide) fun h₁ tk₁ cells F₁ N₁ Y₁ => ?_
  cells_open Y₁
  have C' := (ghost_code hT9).1
  have X' := ghost_K hT9 X0 (by kernel_rfl)
  have T' := ghost_top hT9 T0
  have B' := ghost_below hT9
  have N' := ghost_news hT9 F₁ N₁
  have F' := ghost_fr hT9 F₁
  have Z' := sets_ghost Z0
  have hgk : ∀ b o, b ≠ 175 → s.heap.get? b = some o → (ghostOf s.heap [(179, 175)]).get? b = some o := fun b o hb e => hideAll_get _ e (by simpa using hb)
  simp only [tabNews, List.map_cons, List.map_nil, List.nil_append, List.cons_append] at N'
  clear hT9 F₁ N₁ X0 T0 Z0
  generalize ghostOf s.heap [(179, 175)] = g at *
  generalize s.heap.objs.size = L' at *
  walk_at "mine norm"
  w_strict k_steps
  refine ⟨?_⟩
  (with_reducible rename Fr g L' _ _ => F₂)
  (with_reducible rename News g L' _ _ => N₂)
  refine spec_odd w _ _ _ _ _ ns.sum _ trivial _ _ _ _ _ _ _ _ _ _ _ _ _ _ _ _ _ _ B' F₂ X' N₂ T' Z' C' rfl (by ktr_room) (by ktr_room) ?_
  intro h₂ odd t₂ tk₂ hol hodd F₃ N₃
  clear F₂ N₂
  w_strict k_steps
  refine ⟨?_⟩
  (with_reducible rename Fr g L' _ _ => F₂)
  k_dflt (refine LCt.ListComp_T (F₀ := F₂) (by with_unfolding_all rfl) (by decide) (by rfl) (by decide) (by rfl) ?_)
  w_strict k_steps
  refine ⟨?_⟩
  (with_reducible rename News g L' _ _ => N₂)
  (with_reducible rename IntsAre _ _ => hi₀)
  rename_i oc hcell tk₃ l₁ h₈ la D₂ ws₂ h₇ hI₂ hC₂ hL₂ lb D₁ ws₁ h₆ lc h₅
  have N₀ : News g L' _ ((175, tabObj #[]) :: [(D₁, W.listOf ws₁.toArray 0), (L' + 1, oc)]) := fun q hq => by
    rcases List.mem_cons.mp hq with rfl | hq
    · exact N₂ _ (.tail _ (.tail _ (.tail _ (.tail _ (.head _)))))
    · rcases List.mem_cons.mp hq with rfl | hq
      · exact N₂ _ (.head _)
      · rcases List.mem_cons.mp hq with rfl | hq
        · exact N₂ _ (.tail _ (.tail _ (.tail _ (.head _))))
        · cases hq
  have hap : ∀ q ∈ ([(D₁, W.listOf ws₁.toArray 0), (L' + 1, oc)] : List (Addr × Obj)), q.1 ≠ 175 := fun q hq => by
    rcases List.mem_cons.mp hq with rfl | hq
    · exact off175 N₀ (.head _) (.tail _ (.head _)) (fun e => by cases e)
    · rcases List.mem_cons.mp hq with rfl | hq
      · exact off175 N₀ (.head _) (.tail _ (.tail _ (.head _))) (fun e => by rw [e] at hcell; cases hcell)
      · cases hq
  have hT₀ : TabL #[] [(D₁, W.listOf ws₁.toArray 0), (L' + 1, oc)] := ⟨hap, .inl rfl⟩
  have hwl : ws₁.length ≤ 8 := by
    rw [hi₀.length, List.length_append]
    have : (List.take 4 ns).length ≤ 4 := by rw [hC₂]; omega
    simp only [List.length_cons, List.length_nil]; omega
  k_dflt (refine LCt.CompSrcT.ledger rfl F₂ N₀ (.tail _ (.head _)) (by rw [sizeLine_eq, List.size_toArray]; omega) ?_)
  intro g₉
  refine comp_none (J := fun nw => ∃ ps R, nw = (175, tabObj ps) :: R ∧ TabL ps R ∧ (D₁, W.listOf ws₁.toArray 0) ∈ R ∧ (L' + 1, oc) ∈ R) ⟨_, _, rfl, hT₀, .head _, .tail _ (.head _)⟩ ?step ?fin
  case fin =>
    rintro nw ⟨ps, R, rfl, hT, m1, m2⟩
    intro D₉ h₈ tk₈ F₈ N₈ o₈
    clear F₂ N₂ N₀
    w_strict k_steps
    (with_reducible rename Fr g L' _ _ => F₂)
    (with_reducible rename News g L' _ _ => N₂)
    exact ⟨rfl, rfl, rfl, fun b o hb e => F₂.keep b o (hgk b o hb e), ps, (N₂ _ (.tail _ (.tail _ (.head _)))).1⟩
  rintro i nw hi ⟨ps, R, rfl, hT, m1, m2⟩ v9 I9 oI9 C9 oC9 D9 m9 h9 tk9 E9 hP hoC hm9 F9 N9 off9 ne9
  obtain ⟨u9, rfl⟩ := hi₀.int_at i v9 (by simpa using hP)
  generalize ([256220324, 532924265, 668951676, 150589] ++ List.take 4 ns).getD i 0 = x9 at hm9
  have N10 : News g L' h9 ((I9, oI9) :: (C9, oC9) :: (D9, LCg.lst []) :: (L' + 1, oc) :: (175, tabObj ps) :: R) := fun q hq => by
    rcases List.mem_cons.mp hq with rfl | hq
    · exact N9 _ (.head _)
    · rcases List.mem_cons.mp hq with rfl | hq
      · exact N9 _ (.tail _ (.head _))
      · rcases List.mem_cons.mp hq with rfl | hq
        · exact N9 _ (.tail _ (.tail _ (.head _)))
        · rcases List.mem_cons.mp hq with rfl | hq
          · exact N9 _ (.tail _ (.tail _ (.tail _ (.tail _ m2))))
          · exact N9 _ (.tail _ (.tail _ (.tail _ hq)))
  clear F₂ N₂ N₀
  have hx0 := Int.fmod_nonneg_of_pos x9 (b := 704643072) (by decide)
  have hx1 := Int.fmod_lt_of_pos x9 (b := 704643072) (by decide)
  obtain ⟨y, z, o₁, o₂, hh⟩ := hheld _ odd hx0 hx1 hodd
  have hh := Hold.mk hh
  have N9' := Hold.mk N9
  clear N9
  w_strict k_steps
  refine ⟨?_⟩
  (with_reducible rename Fr g L' _ _ => F₂)
  (with_reducible rename News g L' _ _ => N₂)
  refine spec_held w _ _ _ _ _ x9 odd _ _ y z o₁ o₂ hh.out hol trivial _ _ _ _ _ _ _ _ callerA g g L' _ ((175, tabObj ps) :: R) _ _ _ B' F₂ X' (fun q hq => N₂ q (.tail _ (.tail _ (.tail _ (.tail _ hq))))) T' Z' C' X' T' rfl ps R rfl hT (by ktr_room) (by ktr_room) ?_
  intro h₇ tk₇ ps₇ R₇ F₇ N₇ hT₇ hs₇ K₇
  clear F₂ N₂
  w_strict k_steps
  refine ⟨?_⟩
  have hoff : ∀ q ∈ (175, tabObj ps) :: R, q.1 ≠ I9 ∧ q.1 ≠ C9 ∧ q.1 ≠ D9 := LCg.Off3.mem off9
  have hK : ∀ b ob, News g L' h9 [(b, ob)] → (∀ q ∈ (175, tabObj ps) :: R, q.1 ≠ b) → h₇.get? b = some ob ∧ ∀ q ∈ (175, tabObj ps₇) :: R₇, q.1 ≠ b := fun b ob hN hb =>
    K₇ b ob (hN _ (.head _)).1 (fun hm => by
      obtain ⟨q, hq, e⟩ := List.mem_map.mp hm
      exact hb q hq e) (hN _ (.head _)).2.1
  have hI := hK I9 oI9 (fun q hq => N9'.out q (by rw [List.mem_singleton.mp hq]; exact .head _)) fun q hq => (hoff q hq).1
  have hC := hK C9 oC9 (fun q hq => N9'.out q (by rw [List.mem_singleton.mp hq]; exact .tail _ (.head _))) fun q hq => (hoff q hq).2.1
  have hD := hK D9 (LCg.lst []) (fun q hq => N9'.out q (by rw [List.mem_singleton.mp hq]; exact .tail _ (.tail _ (.head _)))) fun q hq => (hoff q hq).2.2
  refine LCg.CompEnd.intro F₇ (all := (I9, oI9) :: (C9, oC9) :: (D9, LCg.lst []) :: (175, tabObj ps₇) :: R₇) (fun q hq => ?_) ((175, tabObj ps₇) :: R₇) (fun q hq => hq) (LCg.Off3.of fun q hq => ⟨hI.2 q hq, hC.2 q hq, hD.2 q hq⟩) (.inr ⟨_, .tail _ (hs₇ _ m1), rfl, _, rfl⟩) ⟨ps₇, R₇, rfl, hT₇, hs₇ _ m1, hs₇ _ m2⟩
  rcases List.mem_cons.mp hq with rfl | hq
  · exact ⟨hI.1, (N9'.out _ (.head _)).2⟩
  · rcases List.mem_cons.mp hq with rfl | hq
    · exact ⟨hC.1, (N9'.out _ (.tail _ (.head _))).2⟩
    · rcases List.mem_cons.mp hq with rfl | hq
      · exact ⟨hD.1, (N9'.out _ (.tail _ (.tail _ (.head _)))).2⟩
      · exact N₇ q hq
end Mine
end
section
open PySem PySem.W PyProof.Rows PySem.Builtin PySem.Builtin.Str PySem.StrLaws
set_option Elab.async false
set_option compiler.extract_closed false
set_option linter.unusedVariables false
set_option linter.unusedSimpArgs false
namespace Mine.PL
/-- a text by the list of its signs -/
noncomputable abbrev tx (l : List Nat) : Str := ⟨l.toArray⟩
theorem tx_len (l : List Nat) : (tx l).length = l.length := by simp [Str.length]
theorem tx_app (a b : List Nat) : tx a ++ tx b = tx (a ++ b) := by
  show (⟨a.toArray ++ b.toArray⟩ : Str) = _
  simp
theorem tx_inj {a b : List Nat} : tx a = tx b ↔ a = b := by
  constructor
  · intro h
    have := congrArg (fun s : Str => s.cps.toList) h
    simpa using this
  · rintro rfl; rfl
theorem tx_beq (a b : List Nat) : (tx a == tx b) = decide (a = b) := by
  rw [Bool.eq_iff_iff, beq_iff_eq, tx_inj, decide_eq_true_iff]
theorem str_tx (s : Str) : s = tx s.cps.toList := by cases s; rfl
theorem item_at {l : List Nat} {i : Int} {n : Nat} (h0 : 0 ≤ i) (h : l[i.toNat]? = some n) : Txt.item (tx l) i = ⟨#[n]⟩ := item_meets h0 (by simpa using h)
theorem item_mid (p q : List Nat) (c : Nat) : Txt.item (tx (p ++ c :: q)) p.length = ⟨#[c]⟩ := item_at (by omega) (by simp)
theorem item_last {l : List Nat} {c : Nat} : Txt.item (tx (l ++ [c])) (-1) = ⟨#[c]⟩ := by
  unfold Txt.item Txt.charAt seqIndex?
  have e : (-1 + ((l.length : Int) + 1)) = l.length := by omega
  have e2 : (l.length : Int) < l.length + 1 := by omega
  simp [Str.length, e, e2]
theorem slice_tx {l : List Nat} {i j : Int} (h0 : 0 ≤ i) (h1 : i ≤ j) (h2 : j ≤ l.length) : Txt.slice (tx l) (some i) (some j) = tx ((l.drop i.toNat).take (j - i).toNat) := by
  have := eq_of_beq (slice_closes (x := tx l) (i := i) (j := j) ⟨h0, h1, by simpa using h2⟩)
  simpa using this
theorem slice_mid (p q r : List Nat) : Txt.slice (tx (p ++ (q ++ r))) (some p.length) (some ((p.length : Int) + q.length)) = tx q := by
  rw [slice_tx (by omega) (by omega) (by simp; omega)]
  congr 2
  have : ((p.length : Int) + q.length - p.length).toNat = q.length := by omega
  rw [this]
  simp
theorem slice_to {l : List Nat} {k : Nat} (h : k ≤ l.length) : Txt.slice (tx l) none (some (k : Int)) = tx (l.take k) := by
  have := eq_of_beq (slice_closes_to (x := tx l) (j := k) ⟨by omega, by simp; omega⟩)
  simpa using this
theorem slice_from {l : List Nat} {k : Nat} (h : k ≤ l.length) : Txt.slice (tx l) (some (k : Int)) none = tx (l.drop k) := by
  have := eq_of_beq (slice_closes_from (x := tx l) (i := k) ⟨by omega, by simp; omega⟩)
  rw [this, tx_inj]
  show ((l.toArray.toList.drop (k : Int).toNat).take ((l.toArray.toList.length : Int) - k).toNat) = _
  exact List.take_of_length_le (by simp)
theorem from_nat {n i : Nat} : fromIndex n (i : Int) = i := by
  unfold fromIndex
  rw [if_neg (by omega)]
  omega
theorem sub_at {l y : List Nat} {i : Nat} : subAt (tx l) (tx y) i = true ↔ (l.drop i).take y.length = y := by
  unfold subAt
  rw [beq_iff_eq]
  constructor
  · intro h
    have := congrArg Array.toList h
    simpa [Str.length, List.extract_eq_take_drop] using this
  · intro h
    apply Array.toList_inj.mp
    simpa [Str.length, List.extract_eq_take_drop] using h
theorem starts_at {l y : List Nat} {i : Nat} (hi : i ≤ l.length) : Txt.startswith3 (tx l) (tx y) (i : Int) = y.isPrefixOf (l.drop i) := by
  rw [Bool.eq_iff_iff]
  unfold Txt.startswith3
  rw [from_nat, Bool.and_eq_true, decide_eq_true_eq, sub_at, tx_len, tx_len, List.isPrefixOf_iff_prefix, List.prefix_iff_eq_take]
  constructor
  · rintro ⟨h1, h2⟩; exact h2.symm
  · intro h
    refine ⟨?_, h.symm⟩
    have := congrArg List.length h
    simp at this
    omega
theorem starts_mid (p q y : List Nat) : Txt.startswith3 (tx (p ++ q)) (tx y) (p.length : Int) = y.isPrefixOf q := by
  rw [starts_at (by simp)]
  simp
end Mine.PL
end
section
open PySem PySem.W PyProof.Rows PySem.Builtin PySem.Builtin.Str PySem.StrLaws
set_option Elab.async false
set_option compiler.extract_closed false
set_option linter.unusedVariables false
set_option linter.unusedSimpArgs false
namespace Mine.PL
noncomputable abbrev cut_free (x y : Str) (hi f : Nat) : Prop := ∀ k, f ≤ k → ¬ At x y hi k
theorem chain_eq {s s' y : Str} {hi hi' : Nat} (hAt : ∀ k, At s y hi k ↔ At s' y hi' k) : ∀ {a f f' : Nat} {l l' : List Nat}, ChainG s y hi a l f → cut_free s y hi f → ChainG s' y hi' a l' f' → cut_free s' y hi' f' → l = l' ∧ f = f'
  | a, f, f', [], [], h, _, h', _ => ⟨rfl, h.trans h'.symm⟩
  | a, f, f', [], c :: r, h, n, h', _ => by
    obtain ⟨h1, h2, _⟩ := h'
    exact absurd ((hAt c).mpr h2) (n c (by rw [show f = a from h]; exact h1))
  | a, f, f', c :: r, [], h, _, h', n => by
    obtain ⟨h1, h2, _⟩ := h
    exact absurd ((hAt c).mp h2) (n c (by rw [show f' = a from h']; exact h1))
  | a, f, f', c :: r, c' :: r', h, n, h', n' => by
    obtain ⟨h1, h2, h3, h4⟩ := h
    obtain ⟨g1, g2, g3, g4⟩ := h'
    have e : c = c' := by
      rcases Nat.lt_trichotomy c c' with q | q | q
      · exact absurd ((hAt c).mp h2) (g3 c h1 q)
      · exact q
      · exact absurd ((hAt c').mpr g2) (h3 c' g1 q)
    subst e
    obtain ⟨e1, e2⟩ := chain_eq hAt h4 n g4 n'
    exact ⟨by rw [e1], e2⟩
theorem occ_cuts (x y : Str) {hi limit : Nat} (hw : 1 ≤ y.length) (hl : hi + 1 ≤ limit) : ∃ f, ChainG x y hi 0 (occurrences x y 0 hi limit) f ∧ cut_free x y hi f := by
  rw [occ_eq]
  have key := tight_run x y hi limit 0 hw (hi + 1 - 0) 0 ((#[] : Array Nat), 0) rfl (fun k _ h => by omega) (by simp; omega)
  refine ⟨_, key.1, fun k hk hA => ?_⟩
  exact key.2 k hk (by have := hA.1; omega) hA
theorem at_tx {l y : List Nat} {hi k : Nat} : At (tx l) (tx y) hi k ↔ k + y.length ≤ hi ∧ (l.drop k).take y.length = y := by
  unfold At
  rw [tx_len, sub_at]
theorem at_nl {l : List Nat} {hi k : Nat} : At (tx l) (tx [10]) hi k ↔ k < hi ∧ l[k]? = some 10 := by
  rw [at_tx]
  constructor
  · rintro ⟨h1, h2⟩
    refine ⟨h1, ?_⟩
    have := congrArg (fun z : List Nat => z[0]?) h2
    simpa using this
  · rintro ⟨h1, h2⟩
    refine ⟨h1, ?_⟩
    obtain ⟨hk, e⟩ := List.getElem?_eq_some_iff.mp h2
    rw [List.drop_eq_getElem_cons hk, e]
    rfl
theorem chain_end {s y : Str} {hi : Nat} : ∀ {a f : Nat} {l : List Nat}, ChainG s y hi a l f → (l = [] ∧ f = a) ∨ ∃ c, l.getLast? = some c ∧ f = c + y.length ∧ At s y hi c
  | a, f, [], h => .inl ⟨rfl, h⟩
  | a, f, c :: r, h => by
    obtain ⟨h1, h2, h3, h4⟩ := h
    rcases chain_end h4 with ⟨rfl, e⟩ | ⟨d, e, e1, e2⟩
    · exact .inr ⟨c, rfl, e, h2⟩
    · refine .inr ⟨d, ?_, e1, e2⟩
      cases r with
      | nil => simp at e
      | cons b r => simpa [List.getLast?_cons_cons] using e
theorem parts_end {x s y : Str} {hi : Nat} : ∀ {a f : Nat} {l : List Nat}, ChainG s y hi a l f → (partsFrom x y.length a l).getLast? = some (strSub x f x.length)
  | a, f, [], h => by rw [show f = a from h]; rfl
  | a, f, c :: r, h => by
    have ih := parts_end (x := x) h.2.2.2
    obtain ⟨p, q, e⟩ := partsFrom_ne x y.length (c + y.length) r
    show (strSub x a c :: partsFrom x y.length (c + y.length) r).getLast? = _
    rw [e] at ih ⊢
    simpa [List.getLast?_cons_cons] using ih
theorem nl_tx : Str.ofString "\n" = tx [10] := by decide
theorem split_nl (l : List Nat) : ∃ f, ChainG (tx l) (tx [10]) l.length 0 (occurrences (tx l) (tx [10]) 0 l.length (l.length + 1)) f ∧ cut_free (tx l) (tx [10]) l.length f ∧
    (Txt.split (tx l) (Str.ofString "\n")).length = (occurrences (tx l) (tx [10]) 0 l.length (l.length + 1)).length + 1 ∧ (lastRow (tx l)).length = l.length - f := by
  obtain ⟨f, hc, hn⟩ := occ_cuts (tx l) (tx [10]) (hi := l.length) (limit := l.length + 1) (by decide) (Nat.le_refl _)
  refine ⟨f, hc, hn, ?_⟩
  have hkind : PySem.Builtin.Str.strKind (tx [10]) = 1 := by decide +kernel
  have hk1 : 1 ≤ PySem.Builtin.Str.strKind (tx l) := by unfold PySem.Builtin.Str.strKind; split <;> (try split) <;> decide
  have hsub : ∀ g, (strSub (tx l) g (tx l).length).length = l.length - g := by
    intro g
    have := congrArg List.length (strSub_toList (tx l) g (tx l).length)
    simp [Str.length] at this ⊢
    exact this
  have hsplit : (occurrences (tx l) (tx [10]) 0 l.length (l.length + 1) = [] ∧ Txt.split (tx l) (Str.ofString "\n") = [tx l]) ∨ Txt.split (tx l) (Str.ofString "\n") = partsFrom (tx l) (tx [10]).length 0 (occurrences (tx l) (tx [10]) 0 l.length (l.length + 1)) := by
    unfold Txt.split
    rw [nl_tx]
    by_cases h1 : (decide ((tx l).length < (tx [10]).length) || decide (strKind (tx l) < strKind (tx [10]))) = true
    · rw [if_pos h1]
      rw [hkind, Bool.or_eq_true, decide_eq_true_eq, decide_eq_true_eq] at h1
      have hl0 : l = [] := by
        rcases h1 with h | h
        · rw [tx_len, tx_len] at h
          simp at h
          exact h
        · omega
      subst hl0
      exact .inl ⟨by decide +kernel, rfl⟩
    · rw [if_neg h1, tx_len]
      cases ho : occurrences (tx l) (tx [10]) 0 l.length (l.length + 1) with
      | nil => exact .inl ⟨rfl, by rw [if_pos (by rfl)]⟩
      | cons c r => exact .inr (by rw [if_neg (by simp), partsBetween_eq])
  unfold lastRow
  rcases hsplit with ⟨h0, hs⟩ | hs
  · rw [hs, h0]
    rw [h0] at hc
    have : f = 0 := hc
    subst this
    refine ⟨rfl, ?_⟩
    show (tx l).length = _
    rw [tx_len]; rfl
  · have hlen : ∀ (a : Nat) (c : List Nat), (partsFrom (tx l) (tx [10]).length a c).length = c.length + 1 := by
      intro a c
      induction c generalizing a with
      | nil => rfl
      | cons b r ih => show (_ :: partsFrom _ _ _ r).length = _; rw [List.length_cons, ih]; rfl
    rw [hs]
    refine ⟨hlen _ _, ?_⟩
    have h2 := parts_end (x := tx l) hc
    rw [List.getD_eq_getElem?_getD]
    rw [List.getLast?_eq_getElem?] at h2
    rw [h2]
    exact hsub f
end Mine.PL
end
section
open PySem PySem.W PyProof.Rows PySem.Builtin PySem.Builtin.Str PySem.StrLaws
set_option Elab.async false
set_option compiler.extract_closed false
set_option linter.unusedVariables false
set_option linter.unusedSimpArgs false
namespace Mine.PL
/-- line ends made line feeds; the state tells whether a carriage return stands before -/
noncomputable def lf : Bool → List Nat → List Nat
  | _, [] => []
  | p, c :: r => if c = 13 then 10 :: lf true r else if c = 10 then (if p then lf false r else 10 :: lf false r) else c :: lf false r
noncomputable def endp : Bool → List Nat → Bool
  | p, [] => p
  | _, c :: r => endp (c == 13) r
theorem lf_cons (p : Bool) (c : Nat) (r : List Nat) : lf p (c :: r) = if c = 13 then 10 :: lf true r else if c = 10 then (if p then lf false r else 10 :: lf false r) else c :: lf false r := rfl
theorem lf_app : ∀ (a b : List Nat) (p : Bool), lf p (a ++ b) = lf p a ++ lf (endp p a) b
  | [], b, p => rfl
  | c :: a, b, p => by
    show lf p (c :: (a ++ b)) = lf p (c :: a) ++ lf (endp (c == 13) a) b
    rw [lf_cons, lf_cons]
    by_cases h : c = 13
    · rw [if_pos h, if_pos h, lf_app]
      have e : (c == 13) = true := by simpa using h
      rw [e]; rfl
    · rw [if_neg h, if_neg h]
      have e : (c == 13) = false := by simpa using h
      rw [e]
      by_cases h2 : c = 10
      · rw [if_pos h2, if_pos h2, lf_app]
        cases p <;> simp
      · rw [if_neg h2, if_neg h2, lf_app]
        rfl
theorem lf_plain : ∀ (q : List Nat), (∀ c ∈ q, c ≠ 10 ∧ c ≠ 13) → ∀ p, lf p q = q ∧ (q ≠ [] → endp p q = false)
  | [], _, p => ⟨rfl, fun h => absurd rfl h⟩
  | c :: q, h, p => by
    obtain ⟨h1, h2⟩ := h c (List.mem_cons_self ..)
    obtain ⟨i1, i2⟩ := lf_plain q (fun x hx => h x (List.mem_cons_of_mem _ hx)) false
    have e : (c == 13) = false := by simpa using h2
    refine ⟨?_, fun _ => ?_⟩
    · rw [lf_cons, if_neg h2, if_neg h1, i1]
    · show endp (c == 13) q = false
      rw [e]
      cases q with
      | nil => rfl
      | cons d q => exact i2 (by simp)
theorem lf_true {r : List Nat} (h : r.head? ≠ some 10) : lf true r = lf false r := by
  cases r with
  | nil => rfl
  | cons c r =>
    have : c ≠ 10 := by simpa using h
    rw [lf_cons, lf_cons, if_neg this, if_neg this]
/-- line feeds made both signs -/
noncomputable def E (t : List Nat) : List Nat := t.flatMap fun c => if c = 10 then [13, 10] else [c]
theorem E_app (a b : List Nat) : E (a ++ b) = E a ++ E b := by unfold E; rw [List.flatMap_append]
theorem E_plain {q : List Nat} (h : ∀ c ∈ q, c ≠ 10) : E q = q := by
  induction q with
  | nil => rfl
  | cons c q ih =>
    show (if c = 10 then [13, 10] else [c]) ++ E q = _
    rw [if_neg (h c (List.mem_cons_self ..)), ih fun x hx => h x (List.mem_cons_of_mem _ hx)]; rfl
theorem E_nl (r : List Nat) : E (10 :: r) = 13 :: 10 :: E r := rfl
theorem E_len (t : List Nat) : (E t).length ≤ 2 * t.length := by
  induction t with
  | nil => exact Nat.le_refl _
  | cons c t ih =>
    show ((if c = 10 then [13, 10] else [c]) ++ E t).length ≤ _
    rw [List.length_append, List.length_cons]
    split <;> simp <;> omega
theorem lf_len : ∀ (t : List Nat) (p : Bool), (lf p t).length ≤ t.length
  | [], p => Nat.le_refl _
  | c :: t, p => by
    rw [lf_cons]
    have h1 := lf_len t true
    have h2 := lf_len t false
    split
    · simp; exact h1
    · split
      · split
        · simp; omega
        · simp; exact h2
      · simp; exact h2
noncomputable def glue (ps : List Str) : List Nat := ps.flatMap fun p => p.cps.toList
theorem glue_join : ∀ (ps : List Str), Str.join ⟨#[]⟩ ps = tx (glue ps)
  | [] => rfl
  | [p] => by
    show p = tx (p.cps.toList ++ [])
    rw [List.append_nil]
  | p :: q :: r => by
    show p ++ ⟨#[]⟩ ++ Str.join ⟨#[]⟩ (q :: r) = _
    rw [glue_join (q :: r)]
    have e1 : p ++ (⟨#[]⟩ : Str) = p := by
      show (⟨p.cps ++ #[]⟩ : Str) = p
      simp
    rw [e1]
    conv => lhs; rw [str_tx p]
    rw [tx_app]; rfl
theorem split_first (p : Nat → Bool) : ∀ (S : List Nat), (∀ c ∈ S, p c = false) ∨ ∃ q c r, S = q ++ c :: r ∧ (∀ x ∈ q, p x = false) ∧ p c = true
  | [] => .inl fun c h => nomatch h
  | c :: S => by
    cases h : p c with
    | true => exact .inr ⟨[], c, S, rfl, (fun x h => nomatch h), h⟩
    | false =>
      rcases split_first p S with h2 | ⟨q, d, r, rfl, h2, h3⟩
      · refine .inl fun x hx => ?_
        rcases List.mem_cons.mp hx with rfl | hx
        · exact h
        · exact h2 x hx
      · refine .inr ⟨c :: q, d, r, rfl, fun x hx => ?_, h3⟩
        rcases List.mem_cons.mp hx with rfl | hx
        · exact h
        · exact h2 x hx
theorem sum_map_glue (ps : List Str) : (ps.map (·.length)).sum = (glue ps).length := by
  induction ps with
  | nil => rfl
  | cons p ps ih =>
    rw [List.map_cons, List.sum_cons, ih]
    show _ = (p.cps.toList ++ glue ps).length
    rw [List.length_append, Array.length_toList]; rfl
theorem piece_glue (P q r : List Nat) : glue (if P.length < P.length + q.length then [(⟨(P ++ (q ++ r)).toArray.extract P.length (P.length + q.length)⟩ : Str)] else []) = q := by
  cases q with
  | nil => simp [glue]
  | cons c q =>
    rw [if_pos (by simp)]
    simp [glue, List.extract_eq_take_drop]
theorem pieces_len (P q r : List Nat) : (if P.length < P.length + q.length then [(⟨(P ++ (q ++ r)).toArray.extract P.length (P.length + q.length)⟩ : Str)] else []).length ≤ 1 := by
  split <;> simp
theorem crlf_tx : Str.ofString "\r\n" = tx [13, 10] := by decide
theorem dots_tx : Str.ofString ".." = tx [46, 46] := by decide
/-- the first pattern's pieces -/
theorem subs2 : ∀ (k : Nat) (S P : List Nat), S.length ≤ k → ∃ ps, Subs code2 (P ++ S).toArray (tx [13, 10]) P.length ps ∧ ps.length ≤ 2 * S.length + 1 ∧ glue ps = E (lf false S) := by
  intro k
  induction k with
  | zero =>
    intro S P h
    have : S = [] := List.eq_nil_of_length_eq_zero (by omega)
    subst this
    refine ⟨_, .last (finds2_none (by simp) (fun i h1 h2 => by simp at h2; omega)), ?_, ?_⟩
    · split <;> simp
    · rw [if_neg (by simp)]; rfl
  | succ k ih =>
    intro S P h
    rcases split_first (fun c => c == 10 || c == 13) S with hno | ⟨q, c, r, rfl, hq, hc⟩
    · refine ⟨_, .last (finds2_none (by simp) (fun i h1 h2 => ?_)), ?_, ?_⟩
      · have h2' : i < P.length + S.length := by simpa using h2
        have hm : (P ++ S).toArray.getD i 0 ∈ S := by
          rw [Array.getD_eq_getD_getElem?]
          simp only [List.getElem?_toArray]
          rw [List.getElem?_append_right h1, List.getElem?_eq_getElem (by omega)]
          exact List.getElem_mem _
        have := hno _ hm
        simp only [Bool.or_eq_false_iff, beq_eq_false_iff_ne] at this
        exact this
      · split <;> simp
      · have hpl := lf_plain S (fun c hc => by have := hno c hc; simp only [Bool.or_eq_false_iff, beq_eq_false_iff_ne] at this; exact this) false
        rw [hpl.1, E_plain fun c hc => by have := hno c hc; simp only [Bool.or_eq_false_iff, beq_eq_false_iff_ne] at this; exact this.1]
        have := piece_glue P S []
        simpa using this
    · have hq' : ∀ x ∈ q, x ≠ 10 ∧ x ≠ 13 := fun x hx => by have := hq x hx; simp only [Bool.or_eq_false_iff, beq_eq_false_iff_ne] at this; exact this
      have hpc : (P ++ (q ++ c :: r)).toArray.getD (P.length + q.length) 0 = c := by
        rw [Array.getD_eq_getD_getElem?]
        simp
      have hpn : ∀ d, (P ++ (q ++ c :: d)).toArray.getD (P.length + q.length + 1) 0 = d.head?.getD 0 := by
        intro d
        rw [Array.getD_eq_getD_getElem?]
        simp only [List.getElem?_toArray]
        rw [List.getElem?_append_right (by omega), List.getElem?_append_right (by omega)]
        rw [show P.length + q.length + 1 - P.length - q.length = 1 by omega]
        cases d <;> rfl
      have hf := finds2_some (x := (P ++ (q ++ c :: r)).toArray) (start := P.length) (p := P.length + q.length) (by simp) (by omega) (fun i h1 h2 => by
        have hm : (P ++ (q ++ c :: r)).toArray.getD i 0 ∈ q := by
          rw [Array.getD_eq_getD_getElem?]
          simp only [List.getElem?_toArray]
          rw [List.getElem?_append_right h1, List.getElem?_append_left (by omega), List.getElem?_eq_getElem (by omega)]
          exact List.getElem_mem _
        exact hq' _ hm) (by rw [hpc]; simp only [Bool.or_eq_true, beq_iff_eq] at hc; exact hc)
      have hpl := lf_plain q hq' false
      have hlf : ∀ t, lf false (q ++ t) = q ++ lf false t := by
        intro t
        rw [lf_app, hpl.1]
        cases q with
        | nil => rfl
        | cons d q => rw [hpl.2 (by simp)]
      have hEq : E q = q := E_plain fun x hx => (hq' x hx).1
      have next : ∀ (m r' : List Nat), c :: r = m ++ r' → 1 ≤ m.length → (if (P ++ (q ++ c :: r)).toArray.getD (P.length + q.length) 0 = 13 ∧ P.length + q.length + 1 < (P ++ (q ++ c :: r)).toArray.size ∧ (P ++ (q ++ c :: r)).toArray.getD (P.length + q.length + 1) 0 = 10 then P.length + q.length + 2 else P.length + q.length + 1) = P.length + q.length + m.length →
          lf false (c :: r) = 10 :: lf false r' → ∃ ps, Subs code2 (P ++ (q ++ c :: r)).toArray (tx [13, 10]) P.length ps ∧ ps.length ≤ 2 * (q ++ c :: r).length + 1 ∧ glue ps = E (lf false (q ++ c :: r)) := by
        intro m r' e1 hm e2 e3
        have hlen := congrArg List.length e1
        rw [List.length_append, List.length_cons] at hlen
        rw [List.length_append, List.length_cons] at h
        obtain ⟨ps, g1, g2, g3⟩ := ih r' (P ++ q ++ m) (by omega)
        rw [e2] at hf
        have e4 : P ++ q ++ m ++ r' = P ++ (q ++ c :: r) := by rw [e1]; simp
        rw [e4, show (P ++ q ++ m).length = P.length + q.length + m.length by simp; omega] at g1
        refine ⟨_, .next hf (by omega) (by omega) g1, ?_, ?_⟩
        · rw [List.length_append, List.length_cons]
          have := pieces_len P q (c :: r)
          simp only [List.length_append, List.length_cons]
          omega
        · rw [hlf, e3, E_app, hEq, E_nl]
          have := piece_glue P q (c :: r)
          show (_ ++ _ :: ps).flatMap _ = _
          rw [List.flatMap_append]
          show glue _ ++ ([13, 10] ++ glue ps) = _
          rw [this, g3]; rfl
      by_cases hc10 : c = 10
      · subst hc10
        exact next [10] r rfl (by simp) (by rw [if_neg (by rw [hpc]; simp)]; rfl) (by simp [lf])
      · have hc13 : c = 13 := by simpa [hc10] using hc
        subst hc13
        cases r with
        | nil => exact next [13] [] rfl (by simp) (by rw [if_neg (by rw [hpn]; simp)]; rfl) (by simp [lf])
        | cons d r =>
          by_cases hd : d = 10
          · subst hd
            exact next [13, 10] r rfl (by simp) (by rw [if_pos ⟨hpc, by simp; omega, by rw [hpn]; rfl⟩]; rfl) (by simp [lf])
          · exact next [13] (d :: r) rfl (by simp) (by rw [if_neg (by rw [hpn]; simp [hd])]; rfl) (by
              have := lf_true (r := d :: r) (by simpa using hd)
              show lf false (13 :: d :: r) = _
              rw [lf_cons, if_pos rfl, this])
end Mine.PL
end
section
open PySem PySem.W PyProof.Rows PySem.Builtin PySem.Builtin.Str PySem.StrLaws
set_option Elab.async false
set_option compiler.extract_closed false
set_option linter.unusedVariables false
set_option linter.unusedSimpArgs false
namespace Mine.PL
/-- a dot at a row's begin is doubled -/
noncomputable def stf : Bool → List Nat → List Nat
  | _, [] => []
  | b, c :: r => if b && c == 46 then 46 :: 46 :: stf false r else c :: stf (c == 10) r
noncomputable def bolS : Bool → List Nat → Bool
  | b, [] => b
  | _, c :: r => bolS (c == 10) r
theorem stf_cons (b : Bool) (c : Nat) (r : List Nat) : stf b (c :: r) = if b && c == 46 then 46 :: 46 :: stf false r else c :: stf (c == 10) r := rfl
theorem stf_app : ∀ (a c : List Nat) (b : Bool), stf b (a ++ c) = stf b a ++ stf (bolS b a) c
  | [], c, b => rfl
  | x :: a, c, b => by
    show stf b (x :: (a ++ c)) = stf b (x :: a) ++ stf (bolS (x == 10) a) c
    rw [stf_cons, stf_cons]
    by_cases h : (b && x == 46) = true
    · rw [if_pos h, if_pos h, stf_app]
      rw [Bool.and_eq_true, beq_iff_eq] at h
      rw [h.2]; rfl
    · rw [if_neg h, if_neg h, stf_app]; rfl
theorem stf_len : ∀ (a : List Nat) (b : Bool), (stf b a).length ≤ 2 * a.length
  | [], b => Nat.le_refl _
  | x :: a, b => by
    have h1 := stf_len a false
    have h2 := stf_len a (x == 10)
    rw [stf_cons]
    split
    · simp; omega
    · simp; omega
theorem stf_E : ∀ (t : List Nat) (b : Bool), stf b (E t) = E (stf b t)
  | [], b => rfl
  | c :: t, b => by
    by_cases h : c = 10
    · subst h
      rw [E_nl, stf_cons, if_neg (by simp), stf_cons, if_neg (by simp), stf_cons, if_neg (by simp), E_nl]
      rw [← stf_E t]
    · have e : E (c :: t) = c :: E t := by show (if c = 10 then [13, 10] else [c]) ++ E t = _; rw [if_neg h]; rfl
      rw [e, stf_cons, stf_cons]
      by_cases h2 : (b && c == 46) = true
      · rw [if_pos h2, if_pos h2, stf_E t]
        show _ = (if (46:Nat) = 10 then [13, 10] else [46]) ++ ((if (46:Nat) = 10 then [13, 10] else [46]) ++ E (stf false t))
        rfl
      · rw [if_neg h2, if_neg h2, stf_E t]
        show _ = (if c = 10 then [13, 10] else [c]) ++ E (stf (c == 10) t)
        rw [if_neg h]; rfl
noncomputable def hit (b : Bool) (S : List Nat) (i : Nat) : Bool := (if i = 0 then b else S[i - 1]? == some 10) && S[i]? == some 46
theorem hit_succ (b : Bool) (c : Nat) (S : List Nat) (i : Nat) : hit b (c :: S) (i + 1) = hit (c == 10) S i := by
  unfold hit
  cases i with
  | zero => simp
  | succ i => simp
theorem split1 : ∀ (S : List Nat) (b : Bool), (stf b S = S ∧ ∀ i, i < S.length → hit b S i = false) ∨ ∃ q r, S = q ++ 46 :: r ∧ (∀ i, i < q.length → hit b S i = false) ∧ hit b S q.length = true ∧ stf b S = q ++ 46 :: 46 :: stf false r
  | [], b => .inl ⟨rfl, fun i h => absurd h (Nat.not_lt_zero _)⟩
  | c :: S, b => by
    by_cases h : (b && c == 46) = true
    · rw [Bool.and_eq_true, beq_iff_eq] at h
      obtain ⟨rfl, rfl⟩ := h
      refine .inr ⟨[], S, rfl, fun i h => absurd h (Nat.not_lt_zero _), by simp [hit], ?_⟩
      rw [stf_cons, if_pos (by simp)]; rfl
    · have h0 : hit b (c :: S) 0 = false := by
        unfold hit
        simp at h ⊢
        exact h
      rcases split1 S (c == 10) with ⟨e, hn⟩ | ⟨q, r, rfl, hn, hy, e⟩
      · refine .inl ⟨by rw [stf_cons, if_neg h, e], fun i hi => ?_⟩
        cases i with
        | zero => exact h0
        | succ i => rw [hit_succ]; exact hn i (by simpa using hi)
      · refine .inr ⟨c :: q, r, rfl, fun i hi => ?_, ?_, by rw [stf_cons, if_neg h, e]; rfl⟩
        · cases i with
          | zero => exact h0
          | succ i => rw [hit_succ]; exact hn i (by simpa using hi)
        · show hit b (c :: (q ++ 46 :: r)) (q.length + 1) = true
          rw [hit_succ]; exact hy
noncomputable def bol (P : List Nat) : Bool := P.isEmpty || P.getLast? == some 10
theorem cond_eq (P S : List Nat) (j : Nat) (hj : j < S.length) : ((P.length + j == 0 || (P ++ S).toArray[P.length + j - 1]?.getD 0 == 10) && (P ++ S).toArray[P.length + j]?.getD 0 == 46) = hit (bol P) S j := by
  have e1 : (P ++ S).toArray[P.length + j]?.getD 0 = S[j] := by
    simp only [List.getElem?_toArray]
    rw [List.getElem?_append_right (by omega), show P.length + j - P.length = j by omega, List.getElem?_eq_getElem hj]; rfl
  have e2 : (S[j]? == some 46) = (S[j] == 46) := by rw [List.getElem?_eq_getElem hj]; rfl
  rw [e1]
  unfold hit bol
  rw [e2]
  congr 1
  cases j with
  | zero =>
    rw [if_pos rfl]
    rcases List.eq_nil_or_concat P with rfl | ⟨P', c, rfl⟩
    · rfl
    · simp
  | succ j =>
    rw [if_neg (by omega)]
    have : (P.length + (j + 1) == 0) = false := by simp
    rw [this, Bool.false_or]
    simp only [List.getElem?_toArray]
    rw [List.getElem?_append_right (by omega), show P.length + (j + 1) - 1 - P.length = j by omega, Nat.add_sub_cancel, List.getElem?_eq_getElem (by omega)]
    rfl
theorem subs1 : ∀ (k : Nat) (S P : List Nat), S.length ≤ k → (P ++ S).length ≤ 1000 → ∃ ps, Subs code1 (P ++ S).toArray (tx [46, 46]) P.length ps ∧ ps.length ≤ 2 * S.length + 1 ∧ glue ps = stf (bol P) S := by
  intro k
  induction k with
  | zero =>
    intro S P h hs
    have : S = [] := List.eq_nil_of_length_eq_zero (by omega)
    subst this
    refine ⟨_, .last (finds1_none (by simpa using hs) (by simp) (fun i h1 h2 => by simp at h2; omega)), ?_, ?_⟩
    · split <;> simp
    · rw [if_neg (by simp)]; rfl
  | succ k ih =>
    intro S P h hs
    rcases split1 S (bol P) with ⟨e, hn⟩ | ⟨q, r, rfl, hn, hy, e⟩
    · refine ⟨_, .last (finds1_none (by simpa using hs) (by simp) (fun i h1 h2 => ?_)), ?_, ?_⟩
      · have h2' : i < P.length + S.length := by simpa using h2
        have := cond_eq P S (i - P.length) (by omega)
        rw [show P.length + (i - P.length) = i by omega] at this
        rw [this]
        exact hn _ (by omega)
      · split <;> simp
      · rw [e]
        have := piece_glue P S []
        simpa using this
    · have hq : q.length < (q ++ 46 :: r).length := by simp
      have hf := finds1_some (x := (P ++ (q ++ 46 :: r)).toArray) (start := P.length) (p := P.length + q.length) (by simpa using hs) (by omega) (by simp) (fun i h1 h2 => by
        have := cond_eq P (q ++ 46 :: r) (i - P.length) (by omega)
        rw [show P.length + (i - P.length) = i by omega] at this
        rw [this]
        exact hn _ (by omega)) (by rw [cond_eq P (q ++ 46 :: r) q.length hq]; exact hy)
      rw [List.length_append, List.length_cons] at h
      have e4 : P ++ q ++ [46] ++ r = P ++ (q ++ 46 :: r) := by simp
      obtain ⟨ps, g1, g2, g3⟩ := ih r (P ++ q ++ [46]) (by omega) (by rw [e4]; exact hs)
      have e5 : (P ++ q ++ [46]).length = P.length + q.length + 1 := by simp; omega
      rw [e4, e5] at g1
      refine ⟨_, .next hf (by omega) (by omega) g1, ?_, ?_⟩
      · have := pieces_len P q (46 :: r)
        simp only [List.length_append, List.length_cons]
        omega
      · rw [e]
        have := piece_glue P q (46 :: r)
        show (_ ++ _ :: ps).flatMap _ = _
        rw [List.flatMap_append]
        show glue _ ++ ([46, 46] ++ glue ps) = _
        rw [this, g3]
        have : bol (P ++ q ++ [46]) = false := by simp [bol]
        rw [this]; rfl
/-- what quotedata makes of a text -/
theorem quoted_tx (X : List Nat) (hX : X.length ≤ 240) : Quoted (tx X) (tx (E (lf false X))) (tx (E (stf true (lf false X)))) := by
  have l1 := E_len (lf false X)
  have l2 := lf_len X false
  have l3 := stf_len (E (lf false X)) true
  rw [stf_E] at l3
  refine ⟨by rw [tx_len]; omega, by rw [tx_len]; omega, ?_, ?_⟩
  · obtain ⟨ps, h1, h2, h3⟩ := subs2 X.length X [] (Nat.le_refl _)
    refine ⟨ps, ?_, by omega, by rw [sum_map_glue, h3]; omega, by rw [glue_join, h3]⟩
    rw [crlf_tx]; exact h1
  · obtain ⟨ps, h1, h2, h3⟩ := subs1 (E (lf false X)).length (E (lf false X)) [] (Nat.le_refl _) (by simp; omega)
    have h3 : glue ps = stf true (E (lf false X)) := h3
    rw [stf_E] at h3
    refine ⟨ps, ?_, by omega, by rw [sum_map_glue, h3]; omega, by rw [glue_join, h3]⟩
    rw [dots_tx]; exact h1
end Mine.PL
end
section
open PySem PySem.W PyProof.Rows PySem.Builtin PySem.Builtin.Str PySem.StrLaws
set_option Elab.async false
set_option compiler.extract_closed false
set_option linter.unusedVariables false
set_option linter.unusedSimpArgs false
namespace Mine.PL
/-- the rows of a text, cut at its line feeds -/
noncomputable def rowsOf : List Nat → List Nat × List (List Nat)
  | [] => ([], [])
  | c :: r => if c = 10 then ([], (rowsOf r).1 :: (rowsOf r).2) else (c :: (rowsOf r).1, (rowsOf r).2)
noncomputable def rows (t : List Nat) : List (List Nat) := (rowsOf t).1 :: (rowsOf t).2
noncomputable def cutsAt : Nat → List Nat → List Nat
  | _, [] => []
  | a, c :: r => if c = 10 then a :: cutsAt (a + 2) r else cutsAt (a + 1) r
theorem at_crlf {l : List Nat} {hi k : Nat} : At (tx l) (tx [13, 10]) hi k → l[k]? = some 13 := by
  rw [at_tx]
  rintro ⟨h1, h2⟩
  have := congrArg (fun z : List Nat => z[0]?) h2
  simpa using this
theorem chain_rows : ∀ (t D q : List Nat), (∀ c ∈ t, c ≠ 13) → (∀ c ∈ q, c ≠ 13) → ∃ f, ChainG (tx (D ++ (q ++ E t))) (tx [13, 10]) (D ++ (q ++ E t)).length D.length (cutsAt (D.length + q.length) t) f ∧ cut_free (tx (D ++ (q ++ E t))) (tx [13, 10]) (D ++ (q ++ E t)).length f ∧
    partsFrom (tx (D ++ (q ++ E t))) 2 D.length (cutsAt (D.length + q.length) t) = ((q ++ (rowsOf t).1) :: (rowsOf t).2).map tx
  | [], D, q, ht, hq => by
    refine ⟨D.length, rfl, ?_, ?_⟩
    · intro k hk hA
      have h1 := at_crlf hA
      have h2 := hA.1
      rw [tx_len] at h2
      simp [E] at h2
      rw [List.getElem?_append_right hk] at h1
      simp [E] at h1
      exact hq 13 (List.mem_of_getElem? h1) rfl
    · show [strSub _ _ _] = [tx _]
      congr 1
      rw [str_tx (strSub _ _ _), strSub_toList]
      congr 1
      simp [E, rowsOf]
      rw [List.take_of_length_le]
      rw [tx_len]; simp
  | c :: t, D, q, ht, hq => by
    have ht' : ∀ x ∈ t, x ≠ 13 := fun x hx => ht x (List.mem_cons_of_mem _ hx)
    by_cases h : c = 10
    · subst h
      obtain ⟨f, h1, h2, h3⟩ := chain_rows t (D ++ q ++ [13, 10]) [] ht' (fun x hx => nomatch hx)
      have e1 : D ++ q ++ [13, 10] ++ ([] ++ E t) = D ++ (q ++ E (10 :: t)) := by rw [E_nl]; simp
      have e2 : (D ++ q ++ [13, 10]).length = D.length + q.length + 2 := by simp; omega
      rw [e1, e2] at h1 h3
      rw [e1] at h2
      have ec : cutsAt (D.length + q.length) (10 :: t) = (D.length + q.length) :: cutsAt (D.length + q.length + 2) t := rfl
      have e0 : D.length + q.length + 2 + ([] : List Nat).length = D.length + q.length + 2 := rfl
      rw [e0] at h1 h3
      refine ⟨f, ?_, h2, ?_⟩
      · rw [ec]
        refine ⟨by omega, ?_, ?_, h1⟩
        · rw [at_tx]
          refine ⟨by rw [E_nl]; simp; omega, ?_⟩
          rw [E_nl, ← List.append_assoc, List.drop_append_of_le_length (by simp)]
          simp
        · intro k hk1 hk2 hA
          have := at_crlf hA
          rw [List.getElem?_append_right hk1, List.getElem?_append_left (by omega)] at this
          exact hq 13 (List.mem_of_getElem? this) rfl
      · rw [ec]
        show strSub _ _ _ :: partsFrom _ 2 (D.length + q.length + 2) _ = _
        rw [h3]
        have er : rowsOf (10 :: t) = ([], (rowsOf t).1 :: (rowsOf t).2) := rfl
        rw [er]
        show _ :: _ = tx (q ++ []) :: _
        rw [str_tx (strSub _ _ _), strSub_toList]
        simp
    · obtain ⟨f, h1, h2, h3⟩ := chain_rows t D (q ++ [c]) ht' (fun x hx => by
        rcases List.mem_append.mp hx with hx | hx
        · exact hq x hx
        · rw [List.mem_singleton] at hx; subst hx; exact ht _ (List.mem_cons_self ..))
      have ee : E (c :: t) = c :: E t := by show (if c = 10 then [13, 10] else [c]) ++ E t = _; rw [if_neg h]; rfl
      have e1 : D ++ (q ++ [c] ++ E t) = D ++ (q ++ E (c :: t)) := by rw [ee]; simp
      have e2 : D.length + (q ++ [c]).length = D.length + q.length + 1 := by simp; omega
      rw [e1, e2] at h1 h3
      rw [e1] at h2
      have ec : cutsAt (D.length + q.length) (c :: t) = cutsAt (D.length + q.length + 1) t := by show (if c = 10 then _ else _) = _; rw [if_neg h]
      have er : rowsOf (c :: t) = (c :: (rowsOf t).1, (rowsOf t).2) := by show (if c = 10 then _ else _) = _; rw [if_neg h]
      rw [ec, er]
      refine ⟨f, h1, h2, ?_⟩
      rw [h3]
      simp
theorem split_rows {t : List Nat} (ht : ∀ c ∈ t, c ≠ 13) (h2 : 2 ≤ (E t).length) : Txt.split (tx (E t)) (Str.ofString "\r\n") = (rows t).map tx := by
  obtain ⟨f, h1, hn, h3⟩ := chain_rows t [] [] ht (fun x hx => nomatch hx)
  simp only [List.nil_append, List.length_nil, Nat.zero_add, Nat.add_zero] at h1 hn h3
  obtain ⟨f', g1, gn⟩ := occ_cuts (tx (E t)) (tx [13, 10]) (hi := (E t).length) (limit := (E t).length + 1) (by decide) (Nat.le_refl _)
  obtain ⟨e1, e2⟩ := chain_eq (fun k => Iff.rfl) g1 gn h1 hn
  unfold Txt.split
  rw [crlf_tx]
  have hkind : PySem.Builtin.Str.strKind (tx [13, 10]) = 1 := by decide +kernel
  have hk1 : 1 ≤ PySem.Builtin.Str.strKind (tx (E t)) := by unfold PySem.Builtin.Str.strKind; split <;> (try split) <;> decide
  have hc : ¬ (decide ((tx (E t)).length < (tx [13, 10]).length) || decide (strKind (tx (E t)) < strKind (tx [13, 10]))) = true := by
    rw [hkind, Bool.or_eq_true, decide_eq_true_eq, decide_eq_true_eq, tx_len, tx_len]
    simp; omega
  rw [if_neg hc, tx_len, e1]
  have e3 : ((rowsOf t).1 :: (rowsOf t).2).map tx = (rows t).map tx := rfl
  rw [e3] at h3
  have hw : (tx [13, 10]).length = 2 := by decide
  cases ho : cutsAt 0 t with
  | nil =>
    rw [if_pos (by rfl), ← h3, ho]
    show _ = [strSub _ _ _]
    rw [str_tx (strSub _ _ _), strSub_toList]
    simp
    rw [List.take_of_length_le]
    rw [tx_len]; exact Nat.le_refl _
  | cons c r =>
    rw [if_neg (by simp), partsBetween_eq, hw, ← h3, ho]
theorem join_tx : ∀ (r : List (List Nat)) (h : List Nat), Txt.join (Str.ofString "\n") ((h :: r).map tx) = tx (h ++ r.flatMap fun x => 10 :: x) := by
  intro r h
  unfold Txt.join Str.glued
  rw [nl_tx]
  show (⟨(r.map tx).foldl (fun acc p => acc ++ #[10] ++ p.cps) h.toArray⟩ : Str) = _
  congr 1
  induction r generalizing h with
  | nil => simp
  | cons x r ih =>
    show (r.map tx).foldl (fun acc p => acc ++ #[10] ++ p.cps) (h.toArray ++ #[10] ++ x.toArray) = _
    have e : h.toArray ++ #[10] ++ x.toArray = (h ++ 10 :: x).toArray := by simp
    rw [e, ih]
    simp
theorem rows_glue : ∀ (t : List Nat), (rowsOf t).1 ++ (rowsOf t).2.flatMap (fun x => 10 :: x) = t
  | [] => rfl
  | c :: t => by
    have ih := rows_glue t
    unfold rowsOf
    split
    · rename_i h
      show [] ++ ((10 :: (rowsOf t).1) ++ (rowsOf t).2.flatMap fun x => 10 :: x) = _
      rw [List.nil_append, List.cons_append, ih, h]
    · show (c :: (rowsOf t).1) ++ _ = _
      rw [List.cons_append, ih]
theorem join_rows (t : List Nat) : Txt.join (Str.ofString "\n") ((rows t).map tx) = tx t := by
  unfold rows
  rw [join_tx, rows_glue]
noncomputable def uns : List Nat → List Nat
  | [] => []
  | c :: r => if c = 46 then r else c :: r
noncomputable def stu : List Nat → List Nat
  | [] => []
  | c :: r => if c = 46 then 46 :: 46 :: r else c :: r
theorem uns_cons (c : Nat) (r : List Nat) : uns (c :: r) = if c = 46 then r else c :: r := rfl
theorem stu_cons (c : Nat) (r : List Nat) : stu (c :: r) = if c = 46 then 46 :: 46 :: r else c :: r := rfl
theorem uns_stu (h : List Nat) : uns (stu h) = h := by
  cases h with
  | nil => rfl
  | cons c r =>
    rw [stu_cons]
    by_cases e : c = 46
    · rw [if_pos e, e]; rfl
    · rw [if_neg e, uns_cons, if_neg e]
theorem unstuff_tx (row : List Nat) : unstuff (tx row) = tx (uns row) := by
  unfold unstuff
  cases row with
  | nil => decide +kernel
  | cons c r =>
    have e1 := slice_to (l := c :: r) (k := 1) (by simp)
    have e2 := slice_from (l := c :: r) (k := 1) (by simp)
    have e1 : Txt.slice (tx (c :: r)) none (some 1) = tx [c] := e1
    have e2 : Txt.slice (tx (c :: r)) (some 1) none = tx r := e2
    rw [e1, e2]
    have ed : Str.ofString "." = tx [46] := by decide
    rw [ed, tx_beq]
    rw [uns_cons]
    by_cases h : c = 46
    · rw [if_pos (by simpa using h), if_pos h]
    · rw [if_neg (by simpa using h), if_neg h]
theorem rows_stf : ∀ (u : List Nat) (b : Bool), rowsOf (stf b u) = ((if b then stu (rowsOf u).1 else (rowsOf u).1), (rowsOf u).2.map stu)
  | [], b => by cases b <;> rfl
  | c :: u, b => by
    rw [stf_cons]
    by_cases h : (b && c == 46) = true
    · rw [if_pos h]
      rw [Bool.and_eq_true, beq_iff_eq] at h
      obtain ⟨rfl, rfl⟩ := h
      have ih := rows_stf u false
      have e1 : rowsOf (46 :: 46 :: stf false u) = (46 :: 46 :: (rowsOf (stf false u)).1, (rowsOf (stf false u)).2) := rfl
      have e2 : rowsOf (46 :: u) = (46 :: (rowsOf u).1, (rowsOf u).2) := rfl
      rw [e1, e2, ih]
      rfl
    · rw [if_neg h]
      by_cases h2 : c = 10
      · subst h2
        have ih := rows_stf u true
        have e1 : ∀ z, rowsOf (10 :: z) = ([], (rowsOf z).1 :: (rowsOf z).2) := fun z => rfl
        rw [e1, e1]
        show ([], (rowsOf (stf true u)).1 :: (rowsOf (stf true u)).2) = _
        rw [ih]
        cases b <;> rfl
      · have e0 : (c == 10) = false := by simpa using h2
        have e1 : ∀ z, rowsOf (c :: z) = (c :: (rowsOf z).1, (rowsOf z).2) := fun z => by show (if c = 10 then _ else _) = _; rw [if_neg h2]
        have ih := rows_stf u false
        rw [e0, e1, e1, ih]
        cases b with
        | false => rfl
        | true =>
          have : c ≠ 46 := by simpa using h
          simp [stu, this]
theorem join_uns (u : List Nat) : Txt.join (Str.ofString "\n") (((rows (stf true u)).map tx).map unstuff) = tx u := by
  have e : ((rows (stf true u)).map tx).map unstuff = (rows u).map tx := by
    rw [List.map_map]
    unfold rows
    rw [rows_stf]
    simp only [↓reduceIte, List.map_cons, List.map_map]
    congr 1
    · show unstuff (tx _) = _
      rw [unstuff_tx, uns_stu]
    · congr 1
      funext x
      show unstuff (tx _) = _
      rw [unstuff_tx, uns_stu]
  rw [e, join_rows]
theorem rows_len : ∀ (t : List Nat), (rows t).length ≤ t.length + 1 ∧ ∀ r ∈ rows t, r.length ≤ t.length
  | [] => ⟨Nat.le_refl _, fun r hr => by
      have : r = [] := by simpa [rows, rowsOf] using hr
      subst this; exact Nat.le_refl _⟩
  | c :: t => by
    obtain ⟨h1, h2⟩ := rows_len t
    unfold rows at *
    unfold rowsOf
    split
    · refine ⟨by simpa using h1, fun r hr => ?_⟩
      rcases List.mem_cons.mp hr with rfl | hr
      · exact Nat.zero_le _
      · have := h2 r hr
        simp; omega
    · refine ⟨by simp at h1 ⊢; omega, fun r hr => ?_⟩
      rcases List.mem_cons.mp hr with rfl | hr
      · have := h2 (rowsOf t).1 (List.mem_cons_self ..)
        simpa using this
      · have := h2 r (List.mem_cons_of_mem _ hr)
        simp; omega
end Mine.PL
end
section
open PySem PySem.W PyProof.Rows PySem.Builtin PySem.Builtin.Str PySem.StrLaws
set_option Elab.async false
set_option compiler.extract_closed false
set_option linter.unusedVariables false
set_option linter.unusedSimpArgs false
namespace Mine.PL
inductive K | dot | nl | a | u | bnl | bsnl | sp | q | ap | bb | odd | dots | nul | bad
  deriving DecidableEq
noncomputable def K.tx (n : Nat) : K → List Nat
  | dot => [46] | nl => [10] | a => [97] | u => [92, 117, 48, 48, 50, 69] | bnl => [92, 10] | bsnl => [92, 32, 10] | sp => [32] | q => [34, 45] | ap => [39, 45]
  | bb => [92, 92] | odd => [n] | dots => [46, 46] | nul => [0] | bad => [92, 32, 97]
noncomputable def kinds16 : List K := [.dot, .nl, .nl, .nl, .a, .u, .bnl, .bsnl, .sp, .q, .ap, .bb, .odd, .dots, .nul, .bad]
theorem tab_kinds (n : Nat) : strandTab (tx [n]) = kinds16.map fun k => tx (k.tx n) := by kernel_rfl
theorem draw_kind (n : Nat) (f : Int) (h0 : 0 ≤ f) (h1 : f < 16) : ∃ (k : K) (j : Int), (j = 0 ∨ j = 1 ∨ j = 2) ∧ drawOf (tx [n]) f = (tx (k.tx n), j) := by
  have hi : f.toNat < (kinds16.map fun k => tx (k.tx n)).length := by rw [List.length_map]; exact (Int.toNat_lt h0).mpr h1
  have hk : f.toNat < kinds16.length := by rw [List.length_map] at hi; exact hi
  have g0 := Int.fmod_nonneg_of_pos (f + 2) (b := 3) (by decide)
  have g1 := Int.fmod_lt_of_pos (f + 2) (b := 3) (by decide)
  refine ⟨kinds16[f.toNat]'hk, (f + 2).fmod 3, by clear h0 h1 hi hk; omega, ?_⟩
  unfold drawOf
  rw [tab_kinds, List.getD_eq_getElem?_getD, List.getElem?_eq_getElem hi, List.getElem_map]
  rfl
theorem ks_of (n : Nat) : ∀ (fs : List Int), (∀ f ∈ fs, 0 ≤ f ∧ f < 16) → ∃ ks : List (K × Int), ks.length = fs.length ∧ (∀ q ∈ ks, q.2 = 0 ∨ q.2 = 1 ∨ q.2 = 2) ∧ fs.map (drawOf (tx [n])) = ks.map fun q => (tx (q.1.tx n), q.2)
  | [], _ => ⟨[], rfl, (fun q h => nomatch h), rfl⟩
  | f :: fs, h => by
    obtain ⟨ks, h1, h2, h3⟩ := ks_of n fs fun x hx => h x (List.mem_cons_of_mem _ hx)
    obtain ⟨k, j, g1, g2⟩ := draw_kind n f (h f (List.mem_cons_self ..)).1 (h f (List.mem_cons_self ..)).2
    refine ⟨(k, j) :: ks, by simp [h1], fun q hq => ?_, by rw [List.map_cons, List.map_cons, g2, h3]⟩
    rcases List.mem_cons.mp hq with rfl | hq
    · exact g1
    · exact h2 q hq
theorem figs_ok (v : Int) : (figList v).length ≤ 6 ∧ ∀ f ∈ figList v, 0 ≤ f ∧ f < 16 := by
  have g0 := Int.fmod_nonneg_of_pos (v.fdiv 6) (b := 7) (by decide)
  have g1 := Int.fmod_lt_of_pos (v.fdiv 6) (b := 7) (by decide)
  unfold figList
  constructor
  · rw [List.length_map]
    simp [rangeKs]
    omega
  · intro f hf
    obtain ⟨k, _, rfl⟩ := List.mem_map.mp hf
    exact ⟨Int.fmod_nonneg_of_pos _ (by decide), Int.fmod_lt_of_pos _ (by decide)⟩
theorem kx_len (n : Nat) (k : K) : 1 ≤ (k.tx n).length ∧ (k.tx n).length ≤ 6 := by cases k <;> simp [K.tx]
theorem endp_last : ∀ (A : List Nat) (p : Bool), A ≠ [] → endp p A = (A.getLast? == some 13)
  | [], p, h => absurd rfl h
  | [c], p, _ => by simp [endp]
  | c :: d :: A, p, _ => by
    show endp (c == 13) (d :: A) = _
    rw [endp_last (d :: A) _ (by simp)]
    simp [List.getLast?_cons_cons]
theorem cr_tx : Str.ofString "\r" = tx [13] := by decide
theorem wstep_tx {n : Nat} (hn : 128 ≤ n) (k : K) (j : Int) (hj : j = 0 ∨ j = 1 ∨ j = 2) (A : List Nat) (hA : A ≠ []) : ∃ w, wStep (tx A) (tx (k.tx n), j) = tx (A ++ w) ∧ lf (endp false A) w = k.tx n ∧ w.length ≤ 7 := by
  have hlast : Txt.item (tx A) (-1) = tx [A.getLast hA] := by
    conv => lhs; rw [← List.dropLast_concat_getLast hA]
    rw [item_last]
  have hend : endp false A = (A.getLast hA == 13) := by
    rw [endp_last A false hA, List.getLast?_eq_some_getLast hA]; rfl
  have hp : ∀ s : List Nat, Txt.item (tx s) (-1) = tx [10] → ∀ s', s = s' ++ [10] → wStep (tx A) (tx s, j) = tx (A ++ (s' ++ (if j = 0 then (if A.getLast hA == 13 then [13, 10] else [10]) else if j = 1 then [13, 10] else [13]))) := by
    intro s h1 s' h2
    unfold wStep
    rw [h1, nl_tx, tx_beq, if_pos (by simp)]
    have e3 : Txt.slice (tx s) none (some (-1)) = tx s' := by
      subst h2
      have hs := eq_of_beq (slice_closes_to_neg (x := tx (s' ++ [10])) (j := -1) (k := s'.length) (by decide) (by rw [tx_len]; simp; omega) (by rw [tx_len]; simp; omega))
      rw [hs]
      simp
    show tx A ++ (Txt.slice (tx s) none (some (-1)) ++ endOf (tx A) j) = _
    rw [e3]
    have e4 : endOf (tx A) j = tx (if j = 0 then (if A.getLast hA == 13 then [13, 10] else [10]) else if j = 1 then [13, 10] else [13]) := by
      unfold endOf
      rw [hlast, cr_tx, tx_beq, crlf_tx, nl_tx]
      split
      · by_cases h : A.getLast hA = 13
        · simp [h]
        · simp [h]
      · split <;> rfl
    rw [e4, tx_app, tx_app]
  have key : ∀ (s' : List Nat), (∀ p, lf p (s' ++ [13, 10]) = s' ++ [10]) → (∀ p, lf p (s' ++ [13]) = s' ++ [10]) → (lf false (s' ++ [10]) = s' ++ [10]) → s'.length ≤ 2 → k.tx n = s' ++ [10] → ∃ w, wStep (tx A) (tx (k.tx n), j) = tx (A ++ w) ∧ lf (endp false A) w = k.tx n ∧ w.length ≤ 7 := by
    intro s' e1 e2 e3 hl hk
    refine ⟨_, hp (k.tx n) (by rw [hk, item_last]) s' hk, ?_, ?_⟩
    · rw [hk, hend]
      split
      · split
        · exact e1 _
        · rename_i h
          rw [Bool.not_eq_true] at h
          rw [h]; exact e3
      · split
        · exact e1 _
        · exact e2 _
    · simp only [List.length_append]
      split
      · split <;> simp <;> omega
      · split <;> simp <;> omega
  have plain : (∀ c ∈ k.tx n, c ≠ 10 ∧ c ≠ 13) → (k.tx n) ≠ [] → ∃ w, wStep (tx A) (tx (k.tx n), j) = tx (A ++ w) ∧ lf (endp false A) w = k.tx n ∧ w.length ≤ 7 := by
    intro h hne
    refine ⟨k.tx n, ?_, (lf_plain _ h _).1, by have := (kx_len n k).2; omega⟩
    unfold wStep
    have hl : Txt.item (tx (k.tx n)) (-1) = tx [(k.tx n).getLast hne] := by
      conv => lhs; rw [← List.dropLast_concat_getLast hne]
      rw [item_last]
    rw [hl, nl_tx, tx_beq, if_neg (by simpa using (h _ (List.getLast_mem hne)).1), tx_app]
  cases k with
  | nl => exact key [] (fun p => by cases p <;> rfl) (fun p => by cases p <;> rfl) rfl (by simp) rfl
  | bnl => exact key [92] (fun p => by cases p <;> rfl) (fun p => by cases p <;> rfl) rfl (by simp) rfl
  | bsnl => exact key [92, 32] (fun p => by cases p <;> rfl) (fun p => by cases p <;> rfl) rfl (by simp) rfl
  | odd => exact plain (fun c hc => by simp [K.tx] at hc; omega) (by simp [K.tx])
  | dot => exact plain (fun c hc => by simp [K.tx] at hc; omega) (by simp [K.tx])
  | a => exact plain (fun c hc => by simp [K.tx] at hc; omega) (by simp [K.tx])
  | u => exact plain (fun c hc => by simp [K.tx] at hc; omega) (by simp [K.tx])
  | sp => exact plain (fun c hc => by simp [K.tx] at hc; omega) (by simp [K.tx])
  | q => exact plain (fun c hc => by simp [K.tx] at hc; omega) (by simp [K.tx])
  | ap => exact plain (fun c hc => by simp [K.tx] at hc; omega) (by simp [K.tx])
  | bb => exact plain (fun c hc => by simp [K.tx] at hc; omega) (by simp [K.tx])
  | dots => exact plain (fun c hc => by simp [K.tx] at hc; omega) (by simp [K.tx])
  | nul => exact plain (fun c hc => by simp [K.tx] at hc; omega) (by simp [K.tx])
  | bad => exact plain (fun c hc => by simp [K.tx] at hc; omega) (by simp [K.tx])
theorem fold_tx {n : Nat} (hn : 128 ≤ n) : ∀ (ks : List (K × Int)) (A : List Nat), A ≠ [] → (∀ q ∈ ks, q.2 = 0 ∨ q.2 = 1 ∨ q.2 = 2) → ∃ X, (ks.map fun q => (tx (q.1.tx n), q.2)).foldl wStep (tx A) = tx X ∧ lf false X = lf false A ++ ks.flatMap (fun q => q.1.tx n) ∧ X.length ≤ A.length + 7 * ks.length ∧ X ≠ []
  | [], A, hA, _ => ⟨A, rfl, by simp, by simp, hA⟩
  | q :: ks, A, hA, h => by
    obtain ⟨w, h1, h2, h3⟩ := wstep_tx hn q.1 q.2 (h q (List.mem_cons_self ..)) A hA
    obtain ⟨X, g1, g2, g3, g4⟩ := fold_tx hn ks (A ++ w) (by simp [hA]) fun x hx => h x (List.mem_cons_of_mem _ hx)
    refine ⟨X, ?_, ?_, ?_, g4⟩
    · rw [List.map_cons, List.foldl_cons, h1]; exact g1
    · rw [g2, lf_app, h2, List.flatMap_cons]; simp
    · simp at g3 ⊢; omega
/-- the text with line feeds alone -/
noncomputable def R (n m e : Nat) (ks : List K) : List Nat := [46, 97, 10, m, m, m] ++ (ks.flatMap (fun k => k.tx n) ++ ([m, m, m] ++ (List.replicate e m ++ [44, 10, 46])))
theorem write_tx {n m : Nat} {more : Int} (hn : 128 ≤ n) (hm : m = 34 ∨ m = 39) (hmore : more = 0 ∨ more = 1 ∨ more = 2) (ks : List (K × Int)) (hj : ∀ q ∈ ks, q.2 = 0 ∨ q.2 = 1 ∨ q.2 = 2) :
    ∃ X, writeText (ks.map fun q => (tx (q.1.tx n), q.2)) (tx [m]) more = tx X ∧ lf false X = R n m more.toNat (ks.map (·.1)) ∧ X.length ≤ 7 * ks.length + 20 := by
  have e0 : text0 (tx [m]) = tx [46, 97, 13, m, m, m] := by rcases hm with rfl | rfl <;> decide
  have e3 : Txt.mul (tx [m]) 3 = tx [m, m, m] := by rcases hm with rfl | rfl <;> decide
  have em : Txt.mul (tx [m]) more = tx (List.replicate more.toNat m) := by rcases hm with rfl | rfl <;> rcases hmore with rfl | rfl | rfl <;> decide
  have ec : Str.ofString ",\r." = tx [44, 13, 46] := by decide
  obtain ⟨X, h1, h2, h3, h4⟩ := fold_tx hn ks [46, 97, 13, m, m, m] (by simp) hj
  refine ⟨X ++ [m, m, m] ++ List.replicate more.toNat m ++ [44, 13, 46], ?_, ?_, ?_⟩
  · unfold writeText
    rw [e0, h1, e3, em, ec, tx_app, tx_app, tx_app]
  · have hl : ∀ p, lf p ([m, m, m] ++ List.replicate more.toNat m ++ [44, 13, 46]) = [m, m, m] ++ List.replicate more.toNat m ++ [44, 10, 46] := by
      intro p
      rcases hm with rfl | rfl <;> rcases hmore with rfl | rfl | rfl <;> cases p <;> decide
    rw [show X ++ [m, m, m] ++ List.replicate more.toNat m ++ [44, 13, 46] = X ++ ([m, m, m] ++ List.replicate more.toNat m ++ [44, 13, 46]) by simp, lf_app, hl, h2]
    have e1 : lf false [46, 97, 13, m, m, m] = [46, 97, 10, m, m, m] := by rcases hm with rfl | rfl <;> decide
    rw [e1]
    unfold R
    rw [List.flatMap_map]
    simp
  · simp at h3 ⊢
    rcases hmore with rfl | rfl | rfl <;> simp <;> omega
end Mine.PL
end
section
open PySem PySem.W PyProof.Rows PySem.Builtin PySem.Builtin.Str PySem.StrLaws
set_option Elab.async false
set_option compiler.extract_closed false
set_option linter.unusedVariables false
set_option linter.unusedSimpArgs false
namespace Mine.PL
theorem last_hi (x y : Str) (hi : Nat) : (lastOccurrence x y 0 hi = none ∧ ∀ i, ¬ At x y hi i) ∨ ∃ i, lastOccurrence x y 0 hi = some i ∧ At x y hi i ∧ ∀ k, i < k → ¬ At x y hi k := by
  rw [last_eq]
  have key := last_run x y hi (List.range' 0 (hi + 1 - 0)) [] none (fun _ h => nomatch h) (fun _ h => nomatch h) (by simpa using List.pairwise_lt_range' (s := 0) (n := hi + 1 - 0))
  have mem : ∀ i, At x y hi i → i ∈ [] ++ List.range' 0 (hi + 1 - 0) := fun i hi' => by have := hi'.1; simp [List.mem_range'] <;> omega
  cases hr : (forIn (List.range' 0 (hi + 1 - 0)) none (lastBody x y hi)).run with
  | none => rw [hr] at key; exact .inl ⟨rfl, fun i hi => key i (mem i hi) hi⟩
  | some a => rw [hr] at key; exact .inr ⟨a, rfl, key.1, fun k hk hA => key.2 k (mem k hA) hk hA⟩
theorem fidx_at {l y : List Nat} {q e : Nat} (hq : q ≤ e) (hA : At (tx l) (tx y) l.length e) (hno : ∀ k, q ≤ k → k < e → ¬ At (tx l) (tx y) l.length k) : fidx (tx l) (tx y) (q : Int) = some e := by
  have hel : e ≤ l.length := by have := hA.1; omega
  unfold fidx
  rw [from_nat, tx_len, occ_eq]
  rcases occ_first (tx l) (tx y) l.length 1 (Nat.le_refl _) (List.range' q (l.length + 1 - q)) q (fun i hi => (List.mem_range'_1.mp hi).1) with ⟨h1, h2⟩ | ⟨pre, a, post, h1, h2, h3, h4⟩
  · exact absurd hA (h2 e (by rw [List.mem_range'_1]; omega))
  · have ha : a ∈ List.range' q (l.length + 1 - q) := by rw [h1]; simp
    have haq := (List.mem_range'_1.mp ha).1
    have he : e ∈ pre ++ a :: post := by rw [← h1, List.mem_range'_1]; omega
    have hae : a = e := by
      rcases List.mem_append.mp he with h | h
      · exact absurd hA (h4 e h)
      · rcases List.mem_cons.mp h with h | h
        · exact h.symm
        · exfalso
          have hp := List.pairwise_lt_range' (s := q) (n := l.length + 1 - q)
          rw [h1] at hp
          have := (List.pairwise_cons.mp (List.pairwise_append.mp hp).2.1).1 e h
          exact hno a haq this h3
    subst hae
    rw [List.head?_eq_getElem?, Array.getElem?_toList]; exact h2
theorem spot_of {laid mid rest : List Nat} (hm : ∀ c ∈ mid, c ≠ 10) (hl : laid.length < 900) (hm2 : mid.length < 50) : Spot (tx (laid ++ (mid ++ rest))) ((laid.length : Int) + mid.length) ((Txt.split (tx laid) (Str.ofString "\n")).length : Int) (((lastRow (tx laid)).length : Int) + 1 + mid.length) := by
  obtain ⟨f, hc, hn, e1, e2⟩ := split_nl laid
  obtain ⟨f', gc, gn⟩ := occ_cuts (tx (laid ++ (mid ++ rest))) (tx [10]) (hi := laid.length + mid.length) (limit := (laid ++ (mid ++ rest)).length + 1) (by decide) (by simp)
  have hat : ∀ k, At (tx laid) (tx [10]) laid.length k ↔ At (tx (laid ++ (mid ++ rest))) (tx [10]) (laid.length + mid.length) k := by
    intro k
    rw [at_nl, at_nl]
    constructor
    · rintro ⟨h1, h2⟩
      exact ⟨by omega, by rw [List.getElem?_append_left h1]; exact h2⟩
    · rintro ⟨h1, h2⟩
      by_cases hk : k < laid.length
      · rw [List.getElem?_append_left hk] at h2
        exact ⟨hk, h2⟩
      · rw [List.getElem?_append_right (by omega), List.getElem?_append_left (by omega)] at h2
        exact absurd rfl (hm 10 (List.mem_of_getElem? h2))
  obtain ⟨eo, ef⟩ := chain_eq hat hc hn gc gn
  have hpos : ((laid.length : Int) + mid.length) = ((laid.length + mid.length : Nat) : Int) := by omega
  have hmin : min (laid.length + mid.length) (laid ++ (mid ++ rest)).length = laid.length + mid.length := by simp
  have hf0 : fromIndex (laid ++ (mid ++ rest)).length 0 = 0 := from_nat (i := 0)
  have hocc : (occurrences (tx laid) (tx [10]) 0 laid.length (laid.length + 1)).length ≤ laid.length := by
    have hb : ∀ {a : Nat} {c : List Nat} {f : Nat}, ChainG (tx laid) (tx [10]) laid.length a c f → c.length + a ≤ f ∧ (a ≤ laid.length → f ≤ laid.length) := by
      intro a c
      induction c generalizing a with
      | nil => intro f h; rw [show f = a from h]; exact ⟨by simp, fun x => x⟩
      | cons x r ih =>
        intro f h
        obtain ⟨h1, h2, h3, h4⟩ := h
        obtain ⟨i1, i2⟩ := ih h4
        have := h2.1
        rw [show (tx [10]).length = 1 by decide] at i1 i2 this
        rw [List.length_cons]
        exact ⟨by omega, fun _ => i2 this⟩
    have := hb hc
    omega
  refine ⟨?_, ?_, ?_, ?_, ?_⟩
  · unfold cnt4
    rw [nl_tx, hpos, tx_len, from_nat, hf0, hmin, ← eo]
    rw [nl_tx] at e1
    rw [e1]
    omega
  · omega
  · omega
  · intro h
    have h0 : occurrences (tx laid) (tx [10]) 0 laid.length (laid.length + 1) = [] := List.eq_nil_of_length_eq_zero (by omega)
    rw [h0] at hc
    have : f = 0 := hc
    omega
  · intro h
    rcases chain_end hc with ⟨h0, _⟩ | ⟨c, h1, h2, h3⟩
    · rw [h0] at e1
      simp at e1
      omega
    · rw [show (tx [10]).length = 1 by decide] at h2
      have hc1 := (at_nl.mp h3).1
      refine ⟨c, ?_, by omega, by omega⟩
      unfold ridx
      rw [nl_tx, hpos, tx_len, from_nat, hf0, hmin]
      rcases last_hi (tx (laid ++ (mid ++ rest))) (tx [10]) (laid.length + mid.length) with ⟨_, g⟩ | ⟨i, g1, g2, g3⟩
      · exact absurd ((hat c).mp h3) (g c)
      · rw [g1]
        congr 1
        rcases Nat.lt_trichotomy i c with q | q | q
        · exact absurd ((hat c).mp h3) (g3 c q)
        · exact q
        · exact absurd g2 (gn i (by omega))
theorem err_words (what : Str) (laid : List Nat) (d : Nat) : errText what ((Txt.split (tx laid) (Str.ofString "\n")).length : Int) (((lastRow (tx laid)).length : Int) + 1 + d) = wordsText what (tx laid) d := by
  unfold errText wordsText
  have ha : ∀ a b c : Str, a ++ b ++ c = a ++ (b ++ c) := by
    rintro ⟨a⟩ ⟨b⟩ ⟨c⟩
    show (⟨a ++ b ++ c⟩ : Str) = ⟨a ++ (b ++ c)⟩
    rw [Array.append_assoc]
  have e : Str.ofString " (at line " = Str.ofString " (at " ++ Str.ofString "line " := by decide +kernel
  rw [e]
  simp only [ha]
end Mine.PL
end
section
open PySem PySem.W PyProof.Rows PySem.Builtin PySem.Builtin.Str PySem.StrLaws
set_option Elab.async false
set_option compiler.extract_closed false
set_option linter.unusedVariables false
set_option linter.unusedSimpArgs false
namespace Mine.PL
noncomputable def K.isDot : K → Bool
  | dot => true | dots => true | _ => false
noncomputable def K.ends : K → Bool
  | nl => true | bnl => true | bsnl => true | _ => false
noncomputable def K.means (n : Nat) : K → List Nat
  | u => [46] | bnl => [] | bsnl => [] | bb => [92] | k => k.tx n
noncomputable def pre (dot : List Nat) (b : Bool) (k : K) : List Nat := if b && k.isDot then dot else []
noncomputable def bd (n : Nat) (dot : List Nat) : Bool → List K → List Nat
  | _, [] => []
  | b, k :: ks => pre dot b k ++ (k.tx n ++ bd n dot k.ends ks)
noncomputable def endK : Bool → List K → Bool
  | b, [] => b
  | _, k :: ks => endK k.ends ks
theorem stf_k {n : Nat} (hn : 128 ≤ n) (b : Bool) (k : K) : stf b (k.tx n) = pre [46] b k ++ k.tx n ∧ bolS b (k.tx n) = k.ends := by
  have h1 : (n == 46) = false := by simp; omega
  have h2 : (n == 10) = false := by simp; omega
  cases k <;> cases b <;> simp [K.tx, stf, bolS, pre, K.isDot, K.ends, h1, h2] <;> omega
theorem stf_ks {n : Nat} (hn : 128 ≤ n) : ∀ (ks : List K) (b : Bool) (r : List Nat), stf b (ks.flatMap (fun k => k.tx n) ++ r) = bd n [46] b ks ++ stf (endK b ks) r
  | [], b, r => rfl
  | k :: ks, b, r => by
    rw [List.flatMap_cons, List.append_assoc, stf_app, (stf_k hn b k).1, (stf_k hn b k).2, stf_ks hn ks]
    show _ = (pre [46] b k ++ (k.tx n ++ bd n [46] k.ends ks)) ++ _
    simp [endK]
theorem bd_nil (n : Nat) : ∀ (ks : List K) (b : Bool), bd n [] b ks = ks.flatMap (fun k => k.tx n)
  | [], b => rfl
  | k :: ks, b => by
    show pre [] b k ++ (k.tx n ++ bd n [] k.ends ks) = _
    rw [bd_nil n ks, List.flatMap_cons]
    simp [pre]
/-- the mail and what is received -/
noncomputable def tailT (dot : List Nat) (m e : Nat) : List Nat := [m, m, m] ++ (List.replicate e m ++ ([44, 10, 46] ++ dot))
noncomputable def srcT (n : Nat) (dot : List Nat) (m e : Nat) (ks : List K) : List Nat := (dot ++ [46, 97, 10, m, m, m]) ++ (bd n dot false ks ++ tailT dot m e)
theorem R_recv (n m e : Nat) (ks : List K) : R n m e ks = srcT n [] m e ks := by
  unfold R srcT tailT
  rw [bd_nil]
  simp
theorem R_mail {n m e : Nat} (hn : 128 ≤ n) (hm : m = 34 ∨ m = 39) (he : e ≤ 2) (ks : List K) : stf true (R n m e ks) = srcT n [46] m e ks := by
  unfold R srcT tailT
  rw [stf_app]
  have e1 : stf true [46, 97, 10, m, m, m] = [46] ++ [46, 97, 10, m, m, m] := by rcases hm with rfl | rfl <;> decide
  have e2 : bolS true [46, 97, 10, m, m, m] = false := by rcases hm with rfl | rfl <;> decide
  rw [e1, e2, stf_ks hn]
  have e3 : ∀ b, stf b ([m, m, m] ++ (List.replicate e m ++ [44, 10, 46])) = [m, m, m] ++ (List.replicate e m ++ ([44, 10, 46] ++ [46])) := by
    intro b
    have : e = 0 ∨ e = 1 ∨ e = 2 := by omega
    rcases hm with rfl | rfl <;> rcases this with rfl | rfl | rfl <;> cases b <;> decide
  rw [e3]
theorem R_no13 {n m e : Nat} (hn : 128 ≤ n) (hm : m = 34 ∨ m = 39) (ks : List K) : ∀ c ∈ R n m e ks, c ≠ 13 := by
  intro c hc
  unfold R at hc
  simp only [List.mem_append, List.mem_flatMap, List.mem_replicate, List.mem_cons, List.not_mem_nil, or_false] at hc
  rcases hc with h | ⟨k, _, h⟩ | h | h | h
  · omega
  · cases k <;> simp [K.tx] at h <;> omega
  · omega
  · omega
  · omega
theorem stf_no13 : ∀ (l : List Nat) (b : Bool), (∀ c ∈ l, c ≠ 13) → ∀ c ∈ stf b l, c ≠ 13
  | [], b, h, c, hc => nomatch hc
  | x :: l, b, h, c, hc => by
    rw [stf_cons] at hc
    have h' : ∀ c ∈ l, c ≠ 13 := fun y hy => h y (List.mem_cons_of_mem _ hy)
    split at hc
    · rcases List.mem_cons.mp hc with rfl | hc
      · decide
      · rcases List.mem_cons.mp hc with rfl | hc
        · decide
        · exact stf_no13 l _ h' c hc
    · rcases List.mem_cons.mp hc with rfl | hc
      · exact h _ (List.mem_cons_self ..)
      · exact stf_no13 l _ h' c hc
theorem pre_len {dot : List Nat} (hd : dot.length ≤ 1) (b : Bool) (k : K) : (pre dot b k).length ≤ 1 := by
  unfold pre; split
  · exact hd
  · exact Nat.zero_le _
theorem bd_len (n : Nat) {dot : List Nat} (hd : dot.length ≤ 1) : ∀ (ks : List K) (b : Bool), (bd n dot b ks).length ≤ 7 * ks.length
  | [], b => Nat.le_refl _
  | k :: ks, b => by
    have h1 := bd_len n hd ks k.ends
    have h2 := pre_len hd b k
    have h3 := (kx_len n k).2
    show (pre dot b k ++ (k.tx n ++ bd n dot k.ends ks)).length ≤ _
    simp; omega
theorem src_len {n m e : Nat} {dot : List Nat} (hd : dot.length ≤ 1) (he : e ≤ 2) {ks : List K} (hk : ks.length ≤ 6) : (srcT n dot m e ks).length ≤ 60 := by
  have := bd_len n hd ks false
  unfold srcT tailT
  simp; omega
theorem item0 (c : Nat) (r : List Nat) : Txt.item (tx (c :: r)) 0 = tx [c] := item_mid [] r c
theorem d_tx : Str.ofString "." = tx [46] := by decide
theorem s_tx : Str.ofString " " = tx [32] := by decide
theorem u_tx : Str.ofString "\\u002E" = tx [92, 117, 48, 48, 50, 69] := by decide
theorem bn_tx : Str.ofString "\\\n" = tx [92, 10] := by decide
theorem bsn_tx : Str.ofString "\\ \n" = tx [92, 32, 10] := by decide
theorem bb_tx : Str.ofString "\\\\" = tx [92, 92] := by decide
theorem b_tx : Str.ofString "\\" = tx [92] := by decide
theorem e_tx : Str.ofString "" = tx [] := by decide
theorem q_tx : Str.ofString "\"" = tx [34] := by decide
theorem ap_tx : Str.ofString "'" = tx [39] := by decide
theorem nul_tx : Str.ofString "\x00" = tx [0] := by decide
theorem bad_tx : Str.ofString "\\ a" = tx [92, 32, 97] := by decide
theorem dots_eq {n : Nat} (hn : 128 ≤ n) (dot : List Nat) (kd : K) (l0 : List Nat) (c : Nat) (T : Str) (ea : Bool) : dDots (tx dot) (tx (kd.tx n)) ⟨tx (l0 ++ [c]), T, ea⟩ = ((c == 10) && kd.isDot) := by
  have hl : Txt.item (tx (l0 ++ [c])) (-1) = tx [c] := item_last
  have hn46 : ¬ n = 46 := by omega
  have e46 : (Txt.item (tx (kd.tx n)) 0 == tx [46]) = kd.isDot := by
    cases kd <;> simp only [K.tx, item0, K.isDot, tx_beq] <;> simp [hn46]
  have e10 : (tx [c] == tx [10]) = (c == 10) := by
    rw [tx_beq]
    by_cases h : c = 10 <;> simp [h]
  unfold dDots
  dsimp only
  rw [hl, d_tx, nl_tx, e46, e10, Bool.and_comm]
theorem ends_z {n : Nat} (hn : 128 ≤ n) (k : K) : (Txt.item (tx (k.tx n)) (-1) == tx [10]) = k.ends := by
  have hn10 : ¬ n = 10 := by omega
  have go : ∀ (l : List Nat) (c : Nat) (b : Bool), decide (c = 10) = b → (Txt.item (tx (l ++ [c])) (-1) == tx [10]) = b := by
    intro l c b h
    rw [item_last]
    show (tx [c] == tx [10]) = b
    rw [tx_beq, ← h]
    by_cases q : c = 10 <;> simp [q]
  cases k with
  | dot => exact go [] 46 _ rfl
  | nl => exact go [] 10 _ rfl
  | a => exact go [] 97 _ rfl
  | u => exact go [92, 117, 48, 48, 50] 69 _ rfl
  | bnl => exact go [92] 10 _ rfl
  | bsnl => exact go [92, 32] 10 _ rfl
  | sp => exact go [] 32 _ rfl
  | q => exact go [34] 45 _ rfl
  | ap => exact go [39] 45 _ rfl
  | bb => exact go [92] 92 _ rfl
  | odd => exact go [] n _ (by simp [hn10, K.ends])
  | dots => exact go [46] 46 _ rfl
  | nul => exact go [] 0 _ rfl
  | bad => exact go [92, 32] 97 _ rfl
/-- a turn of what is due, over lists -/
theorem dmid_eq {n : Nat} (hn : 128 ≤ n) (dot : List Nat) (kd : K) (l0 : List Nat) (c : Nat) (text : List Nat) (ea : Bool) : dMid (tx dot) (tx (kd.tx n)) ⟨tx (l0 ++ [c]), tx text, ea⟩ = ⟨tx (l0 ++ [c] ++ pre dot (c == 10) kd), tx (text ++ pre dot (c == 10) kd), ea⟩ := by
  unfold dMid
  dsimp only
  rw [dots_eq hn]
  unfold pre
  by_cases h : ((c == 10) && kd.isDot) = true
  · rw [if_pos h, if_pos h, if_pos h, tx_app, tx_app]
  · rw [if_neg h, if_neg h, if_neg h, List.append_nil, List.append_nil]
theorem step_b {n : Nat} (hn : 128 ≤ n) (dot : List Nat) (k : Nat) (kd : K) (l0 : List Nat) (c : Nat) (text : List Nat) (ea : Bool) (h1 : kd ≠ .nl) (h2 : kd ≠ .sp) : dStep (tx [34]) (tx dot) k ⟨tx (l0 ++ [c]), tx text, ea⟩ (tx (kd.tx n)) =
    ⟨tx (l0 ++ [c] ++ pre dot (c == 10) kd ++ kd.tx n), tx (text ++ pre dot (c == 10) kd ++ kd.means n), kd.ends⟩ := by
  rw [dStep_last, dmid_eq hn]
  have hn32 : ¬ n = 32 := by omega
  have hn10 : ¬ n = 10 := by omega
  have e1 : ((tx (kd.tx n) == Str.ofString " ") || (tx (kd.tx n) == Str.ofString "\n")) = false := by
    rw [s_tx, nl_tx, tx_beq, tx_beq]
    cases kd <;> simp_all [K.tx]
  have e2 : (tx [34] == Str.ofString "'") = false := by decide
  unfold dLast
  rw [e1, e2]
  simp only [Bool.false_eq_true, ↓reduceIte]
  have e3 : dMeans (tx (kd.tx n)) = tx (kd.means n) := by
    unfold dMeans
    rw [u_tx, bn_tx, bsn_tx, bb_tx, tx_beq, tx_beq, tx_beq, tx_beq, d_tx, e_tx, b_tx]
    cases kd <;> simp [K.tx, K.means]
  have e4 : (Txt.item (tx (kd.tx n)) (-1) == Str.ofString "\n") = kd.ends := by
    rw [nl_tx]
    exact ends_z hn kd
  rw [e3, e4, tx_app, tx_app]
theorem step_l {n : Nat} (hn : 128 ≤ n) (dot : List Nat) (k : Nat) (kd : K) (l0 : List Nat) (c : Nat) (text : List Nat) (ea : Bool) (h1 : kd ≠ .nl) (h2 : kd ≠ .sp) : dStep (tx [39]) (tx dot) k ⟨tx (l0 ++ [c]), tx text, ea⟩ (tx (kd.tx n)) =
    ⟨tx (l0 ++ [c] ++ pre dot (c == 10) kd ++ kd.tx n), tx (text ++ pre dot (c == 10) kd ++ kd.tx n), ea⟩ := by
  rw [dStep_last, dmid_eq hn]
  have hn32 : ¬ n = 32 := by omega
  have hn10 : ¬ n = 10 := by omega
  have e1 : ((tx (kd.tx n) == Str.ofString " ") || (tx (kd.tx n) == Str.ofString "\n")) = false := by
    rw [s_tx, nl_tx, tx_beq, tx_beq]
    cases kd <;> simp_all [K.tx]
  have e2 : (tx [39] == Str.ofString "'") = true := by decide
  unfold dLast
  rw [e1, e2]
  simp only [Bool.false_eq_true, ↓reduceIte]
  rw [tx_app, tx_app]
theorem step_ws {n : Nat} (hn : 128 ≤ n) (mark : Str) (dot : List Nat) (k : Nat) (kd : K) (l0 : List Nat) (c : Nat) (text : List Nat) (ea : Bool) (h : kd = .nl ∨ kd = .sp) : dStep mark (tx dot) k ⟨tx (l0 ++ [c]), tx text, ea⟩ (tx (kd.tx n)) =
    ⟨tx (l0 ++ [c] ++ kd.tx n), tx (if !ea && (decide (0 < k) || decide (kd = .sp)) then text ++ kd.tx n else text), ea⟩ := by
  rw [dStep_last, dmid_eq hn]
  have e1 : ((tx (kd.tx n) == Str.ofString " ") || (tx (kd.tx n) == Str.ofString "\n")) = true := by
    rw [s_tx, nl_tx, tx_beq, tx_beq]
    rcases h with rfl | rfl <;> simp [K.tx]
  have e2 : (tx (kd.tx n) == Str.ofString " ") = decide (kd = .sp) := by
    rw [s_tx, tx_beq]
    rcases h with rfl | rfl <;> simp [K.tx]
  have e3 : pre dot (c == 10) kd = [] := by
    unfold pre
    rcases h with rfl | rfl <;> simp [K.isDot]
  unfold dLast
  rw [e1, e2, e3]
  simp only [↓reduceIte, List.append_nil]
  rw [tx_app]
  split <;> simp [tx_app]
end Mine.PL
end
section
open PySem PySem.W PyProof.Rows PySem.Builtin PySem.Builtin.Str PySem.StrLaws
set_option Elab.async false
set_option compiler.extract_closed false
set_option linter.unusedVariables false
set_option linter.unusedSimpArgs false
namespace Mine.PL
noncomputable def pc (c : Nat) : Prop := c ≠ 34 ∧ c ≠ 92 ∧ S94 (tx [c]) = false
theorem item_eq {src p q : List Nat} {c : Nat} (h : src = p ++ c :: q) : Txt.item (tx src) (p.length : Int) = tx [c] := by subst h; exact item_mid p q c
theorem run_plain {src : List Nat} {o : Out} : ∀ (q p r acc : List Nat) {N : Nat}, src = p ++ (q ++ r) → r ≠ [] → (∀ c ∈ q, pc c) → PB (tx src) N ((p ++ q).length : Int) (tx (acc ++ q)) o → ∃ N', PB (tx src) N' (p.length : Int) (tx acc) o
  | [], p, r, acc, N, _, _, _, h => ⟨N, by simpa using h⟩
  | c :: q, p, r, acc, N, hs, hr, hq, h => by
    obtain ⟨h1, h2, h3⟩ := hq c (List.mem_cons_self ..)
    obtain ⟨N', h4⟩ := run_plain (src := src) q (p ++ [c]) r (acc ++ [c]) (by rw [hs]; simp) hr (fun x hx => hq x (List.mem_cons_of_mem _ hx)) (N := N) (by simpa using h)
    refine ⟨N' + 1, .step (c := tx [c]) (by omega) ?_ (item_eq (q := q ++ r) (by rw [hs]; simp)) ?_ ?_ h3 ?_⟩
    · rw [tx_len, hs]
      have := List.length_pos_iff.mpr hr
      simp; omega
    · rw [q_tx, tx_beq]; simpa using h1
    · rw [b_tx, tx_beq]; simpa using h2
    · rw [tx_app]
      have e : ((p.length : Int) + 1) = ((p ++ [c]).length : Int) := by simp
      rw [e]; exact h4
noncomputable def Ran (src laid text : List Nat) (ea : Bool) (D : DueOut) (mx : Nat) : Prop :=
  ∃ (pos : Nat) (o : Out), (ea = false → pos = laid.length) ∧ laid.length ≤ pos ∧ pos < src.length ∧ (∀ i : Nat, laid.length ≤ i → i < pos → S103 (Txt.item (tx src) (i : Int)) = true) ∧ (ea = true → S103 (Txt.item (tx src) (pos : Int)) = false) ∧
    (∃ N, PB (tx src) N (pos : Int) (tx text) o) ∧ D = dueO (tailO (tx src) (tx [34]) o) ∧ ∀ e r, o = .ok e r → 0 ≤ e ∧ e ≤ src.length ∧ ∃ t, r = tx t ∧ t.length ≤ mx ∧ ∀ c ∈ t, c < 0x110000
/-- what a way gives, taken apart at once -/
theorem Ran.elim {src laid text : List Nat} {ea : Bool} {D : DueOut} {mx : Nat} {C : Prop} (h : Ran src laid text ea D mx)
    (k : ∀ (pos : Nat) (o : Out), (ea = false → pos = laid.length) → laid.length ≤ pos → pos < src.length → (∀ i : Nat, laid.length ≤ i → i < pos → S103 (Txt.item (tx src) (i : Int)) = true) → (ea = true → S103 (Txt.item (tx src) (pos : Int)) = false) →
      (∃ N, PB (tx src) N (pos : Int) (tx text) o) → D = dueO (tailO (tx src) (tx [34]) o) → (∀ e r, o = .ok e r → 0 ≤ e ∧ e ≤ src.length ∧ ∃ t, r = tx t ∧ t.length ≤ mx ∧ ∀ c ∈ t, c < 0x110000) → C) : C :=
  let ⟨pos, o, h⟩ := h
  k pos o h.1 h.2.1 h.2.2.1 h.2.2.2.1 h.2.2.2.2.1 h.2.2.2.2.2.1 h.2.2.2.2.2.2.1 h.2.2.2.2.2.2.2
theorem starts_eq {src p q y : List Nat} (h : src = p ++ q) : Txt.startswith3 (tx src) (tx y) (p.length : Int) = y.isPrefixOf q := by subst h; exact starts_mid p q y
theorem slice_eq {src p q r : List Nat} (h : src = p ++ (q ++ r)) {b : Int} (hb : b = (p.length : Int) + q.length) : Txt.slice (tx src) (some (p.length : Int)) (some b) = tx q := by subst h hb; exact slice_mid p q r
theorem q3_tx : Str.ofString "\"\"\"" = tx [34, 34, 34] := by decide
theorem kx_last {n : Nat} (hn : 128 ≤ n) (k : K) : ∃ kt c, k.tx n = kt ++ [c] ∧ (c == 10) = k.ends := by
  have h : (n == 10) = false := by simp; omega
  cases k with
  | dot => exact ⟨[], 46, rfl, rfl⟩
  | nl => exact ⟨[], 10, rfl, rfl⟩
  | a => exact ⟨[], 97, rfl, rfl⟩
  | u => exact ⟨[92, 117, 48, 48, 50], 69, rfl, rfl⟩
  | bnl => exact ⟨[92], 10, rfl, rfl⟩
  | bsnl => exact ⟨[92, 32], 10, rfl, rfl⟩
  | sp => exact ⟨[], 32, rfl, rfl⟩
  | q => exact ⟨[34], 45, rfl, rfl⟩
  | ap => exact ⟨[39], 45, rfl, rfl⟩
  | bb => exact ⟨[92], 92, rfl, rfl⟩
  | odd => exact ⟨[], n, rfl, h⟩
  | dots => exact ⟨[46], 46, rfl, rfl⟩
  | nul => exact ⟨[], 0, rfl, rfl⟩
  | bad => exact ⟨[92, 32], 97, rfl, rfl⟩
/-- the closing marks -/
theorem ran_end {dot : List Nat} {src laid text : List Nat} {e k : Nat} {more : Int} {ea : Bool} (hmore : more = 0 ∨ more = 1 ∨ more = 2) (he : e = more.toNat) (hs : src = laid ++ tailT dot 34 e) (hc : ∀ c ∈ text, c < 0x110000) :
    Ran src laid text ea (dueGo (tx [34]) (tx dot) more k ⟨tx laid, tx text, ea⟩ []) text.length := by
  have hs1 : src = laid ++ 34 :: ([34, 34] ++ (List.replicate e 34 ++ ([44, 10, 46] ++ dot))) := hs
  have hlen : src.length = laid.length + 3 + e + 3 + dot.length := by rw [hs]; unfold tailT; simp; omega
  refine ⟨laid.length, .ok ((laid.length : Int) + 3) (tx text), fun _ => rfl, Nat.le_refl _, by omega, fun i h1 h2 => by omega, fun _ => ?_, ⟨0, .done (by omega) (by rw [tx_len]; omega) ?_ ?_⟩, ?_, ?_⟩
  · rw [item_eq hs1]; rfl
  · rw [item_eq hs1, q_tx]
  · rw [q3_tx, starts_eq hs]
    unfold tailT
    rfl
  · have h3 : src = (laid ++ [34, 34, 34]) ++ (List.replicate e 34 ++ ([44, 10, 46] ++ dot)) := by rw [hs]; unfold tailT; simp
    have e3 : ((laid.length : Int) + 3) = ((laid ++ [34, 34, 34]).length : Int) := by simp
    have s1 := starts_eq (y := [34]) h3
    rw [← e3] at s1
    show DueOut.ok (((tx laid).length : Int) + 3 + more) (tx text ++ Txt.mul (tx [34]) more) = dueO (.ok (tailE (tx src) (tx [34]) _) (tailR (tx src) (tx [34]) _ _))
    rw [tx_len]
    unfold tailE tailR dueO
    rw [s1]
    rcases hmore with rfl | rfl | rfl
    · have : e = 0 := he
      subst this
      rw [if_neg (by simp), if_neg (by simp)]
      have em : Txt.mul (tx [34]) 0 = tx [] := by decide
      rw [em, tx_app]; simp
    · have : e = 1 := he
      subst this
      have h4 : src = (laid ++ [34, 34, 34, 34]) ++ ([44, 10, 46] ++ dot) := by rw [h3]; simp
      have e4 : ((laid.length : Int) + 3 + 1) = ((laid ++ [34, 34, 34, 34]).length : Int) := by simp; omega
      have s2 := starts_eq (y := [34]) h4
      rw [← e4] at s2
      have c1 : [34].isPrefixOf (List.replicate 1 34 ++ ([44, 10, 46] ++ dot)) = true := by simp
      have c2 : [34].isPrefixOf ([44, 10, 46] ++ dot) = false := rfl
      have em : Txt.mul (tx [34]) 1 = tx [34] := by decide
      rw [s2, c1, c2, em]
      simp only [↓reduceIte, Bool.false_eq_true]
    · have : e = 2 := he
      subst this
      have h4 : src = (laid ++ [34, 34, 34, 34]) ++ (34 :: ([44, 10, 46] ++ dot)) := by rw [h3]; simp
      have e4 : ((laid.length : Int) + 3 + 1) = ((laid ++ [34, 34, 34, 34]).length : Int) := by simp; omega
      have s2 := starts_eq (y := [34]) h4
      rw [← e4] at s2
      have c1 : [34].isPrefixOf (List.replicate 2 34 ++ ([44, 10, 46] ++ dot)) = true := by simp
      have c2 : [34].isPrefixOf (34 :: ([44, 10, 46] ++ dot)) = true := by simp
      have em : Txt.mul (tx [34]) 2 = tx [34, 34] := by decide
      rw [s2, c1, c2, em]
      simp only [↓reduceIte]
      have e5 : ((laid.length : Int) + 3 + 2) = laid.length + 3 + 1 + 1 := by omega
      rw [e5, tx_app, tx_app, tx_app, List.append_assoc]
      rfl
  · intro e' r h
    cases h
    exact ⟨by omega, by omega, text, rfl, Nat.le_refl _, hc⟩
end Mine.PL
end
section
open PySem PySem.W PyProof.Rows PySem.Builtin PySem.Builtin.Str PySem.StrLaws
set_option Elab.async false
set_option compiler.extract_closed false
set_option linter.unusedVariables false
set_option linter.unusedSimpArgs false
namespace Mine.PL
theorem pc_n {n : Nat} (hn : 128 ≤ n) : pc n := by
  refine ⟨by omega, by omega, ?_⟩
  have h1 : decide (n < 32) = false := by simp; omega
  have h2 : (n == 127) = false := by simp; omega
  show ((1 == 1) && ((decide (n < 32) && n != 9 && n != 10) || n == 127)) = false
  rw [h1, h2]; rfl
theorem nx_tx : Str.ofString "\\u" = tx [92, 117] := by decide
theorem hx_tx : Str.ofString "002E" = tx [48, 48, 50, 69] := by decide
theorem bs_tx : Str.ofString "\\ " = tx [92, 32] := by decide
theorem ch_tx (c : Nat) : ch c = tx [c] := rfl
/-- the way of one strand that is neither blank nor line end nor a fault -/
theorem strand_b {n : Nat} (hn : 128 ≤ n) {src p r acc : List Nat} {kd : K} {pos : Nat} {o : Out} (hs : src = p ++ (kd.tx n ++ r)) (hr : r ≠ []) (h1 : kd ≠ .nul) (h2 : kd ≠ .bad) (h3 : kd ≠ .nl) (h4 : kd ≠ .sp)
    (a1 : kd.ends = false → pos = (p ++ kd.tx n).length) (a2 : (p ++ kd.tx n).length ≤ pos) (a3 : pos < src.length) (a4 : ∀ i : Nat, (p ++ kd.tx n).length ≤ i → i < pos → S103 (Txt.item (tx src) (i : Int)) = true) (a5 : kd.ends = true → S103 (Txt.item (tx src) (pos : Int)) = false)
    (h : ∃ N, PB (tx src) N (pos : Int) (tx (acc ++ kd.means n)) o) : ∃ N, PB (tx src) N (p.length : Int) (tx acc) o := by
  obtain ⟨N, h⟩ := h
  have plain : kd.means n = kd.tx n → kd.ends = false → (∀ c ∈ kd.tx n, pc c) → ∃ N, PB (tx src) N (p.length : Int) (tx acc) o := by
    intro e1 e2 e3
    rw [a1 e2, e1] at h
    exact run_plain (kd.tx n) p r acc hs hr e3 h
  have back : ∀ {e : Int} {r' : List Nat}, Txt.item (tx src) (p.length : Int) = tx [92] → EscOk (tx src) (p.length : Int) e (tx r') → r'.length ≤ 1 → e = (pos : Int) → kd.means n = r' → ∃ N, PB (tx src) N (p.length : Int) (tx acc) o := by
    intro e r' e1 e2 e3 e4 e5
    subst e4
    rw [e5] at h
    exact ⟨N + 1, .esc (by rw [b_tx]; exact e1) e2 (by rw [tx_len]; exact e3) (by rw [tx_app]; exact h)⟩
  have allI : ∀ (lo : Int), ((p ++ kd.tx n).length : Int) = lo → ∀ i : Int, lo ≤ i → i < pos → S103 (Txt.item (tx src) i) = true := by
    intro lo hlo i hi1 hi2
    have := a4 i.toNat (by omega) (by omega)
    rwa [show ((i.toNat : Nat) : Int) = i by omega] at this
  have hlp : (tx src).length = src.length := tx_len src
  cases kd with
  | nul => exact absurd rfl h1
  | bad => exact absurd rfl h2
  | nl => exact absurd rfl h3
  | sp => exact absurd rfl h4
  | dot => exact plain rfl rfl (fun c hc => by have : c = 46 := by simpa [K.tx] using hc
                                               subst this; exact ⟨by decide, by decide, rfl⟩)
  | dots => exact plain rfl rfl (fun c hc => by have : c = 46 := by simpa [K.tx] using hc
                                                subst this; exact ⟨by decide, by decide, rfl⟩)
  | a => exact plain rfl rfl (fun c hc => by have : c = 97 := by simpa [K.tx] using hc
                                             subst this; exact ⟨by decide, by decide, rfl⟩)
  | odd => exact plain rfl rfl (fun c hc => by have : c = n := by simpa [K.tx] using hc
                                               subst this; exact pc_n hn)
  | ap => exact plain rfl rfl (fun c hc => by
      have : c = 39 ∨ c = 45 := by simpa [K.tx] using hc
      rcases this with rfl | rfl <;> exact ⟨by decide, by decide, rfl⟩)
  | q =>
    have hs : src = p ++ 34 :: (45 :: r) := hs
    rw [a1 rfl] at h
    have h5 := run_plain (src := src) [45] (p ++ [34]) r (acc ++ [34]) (by rw [hs]; simp) hr (fun c hc => by
      have : c = 45 := by simpa using hc
      subst this; exact ⟨by decide, by decide, rfl⟩) (N := N) (o := o) (by simpa [K.tx, K.means] using h)
    obtain ⟨N', h5⟩ := h5
    refine ⟨N' + 1, .quote (by omega) ?_ ?_ ?_ ?_⟩
    · rw [hlp, hs]; simp; omega
    · rw [item_eq hs, q_tx]
    · rw [q3_tx, starts_eq hs]; rfl
    · rw [q_tx, tx_app]
      have e : ((p.length : Int) + 1) = ((p ++ [34]).length : Int) := by simp
      rw [e]; exact h5
  | bb =>
    have hs : src = p ++ ([92, 92] ++ r) := hs
    refine back (e := (p.length : Int) + 2) (r' := [92]) (item_eq hs) ⟨by omega, by omega, ?_, .inr (.inr (.inr ⟨?_, rfl, ?_⟩))⟩ (by decide) ?_ rfl
    · rw [hlp, hs]; have := List.length_pos_iff.mpr hr; simp; omega
    · rw [bb_tx]; exact slice_eq hs (by simp)
    · rw [b_tx]
    · rw [a1 rfl]; simp [K.tx]
  | u =>
    have hs : src = p ++ ([92, 117] ++ ([48, 48, 50, 69] ++ r)) := hs
    refine back (e := (p.length : Int) + 2 + 4) (r' := [46]) (item_eq hs) ⟨by omega, by omega, ?_, .inr (.inr (.inl ⟨?_, ?_, rfl, ?_⟩))⟩ (by decide) ?_ rfl
    · rw [hlp, hs]; have := List.length_pos_iff.mpr hr; simp; omega
    · rw [nx_tx]; exact slice_eq hs (by simp)
    · rw [hx_tx]
      have h6 := slice_eq (src := src) (p := p ++ [92, 117]) (q := [48, 48, 50, 69]) (r := r) (by rw [hs]; simp) (b := (p.length : Int) + 2 + 4) (by simp)
      have e : (((p ++ [92, 117]).length : Nat) : Int) = (p.length : Int) + 2 := by simp
      rw [e] at h6
      exact h6
    · rw [d_tx]
    · rw [a1 rfl]; simp [K.tx]; omega
  | bnl =>
    have hs : src = p ++ ([92, 10] ++ r) := hs
    have a2' : p.length + 2 ≤ pos := by simpa [K.tx] using a2
    refine back (e := (pos : Int)) (r' := []) (item_eq hs) ⟨by omega, by omega, by rw [hlp]; omega, .inl ⟨?_, ?_, a5 rfl, ?_⟩⟩ (by decide) rfl rfl
    · rw [bn_tx]; exact slice_eq hs (by simp)
    · exact allI _ (by simp [K.tx])
    · rw [e_tx]
  | bsnl =>
    have hs : src = p ++ ([92, 32] ++ (10 :: r)) := hs
    have a2' : p.length + 3 ≤ pos := by simpa [K.tx] using a2
    refine back (e := (pos : Int)) (r' := []) (item_eq hs) ⟨by omega, by omega, by rw [hlp]; omega, .inr (.inl ⟨?_, by omega, ?_, ?_, a5 rfl, ?_⟩)⟩ (by decide) rfl rfl
    · rw [bs_tx]; exact slice_eq hs (by simp)
    · have h6 := item_eq (src := src) (p := p ++ [92, 32]) (q := r) (c := 10) (by rw [hs]; simp)
      have e : (((p ++ [92, 32]).length : Nat) : Int) = (p.length : Int) + 2 := by simp
      rw [e] at h6
      exact h6
    · exact allI _ (by simp [K.tx]; omega)
    · rw [e_tx]
end Mine.PL
end
section
open PySem PySem.W PyProof.Rows PySem.Builtin PySem.Builtin.Str PySem.StrLaws
set_option Elab.async false
set_option compiler.extract_closed false
set_option linter.unusedVariables false
set_option linter.unusedSimpArgs false
namespace Mine.PL
theorem means_len (n : Nat) (k : K) : (k.means n).length ≤ 6 := by cases k <;> simp [K.means, K.tx]
theorem means_ok {n : Nat} (h : n < 0x110000) (k : K) : ∀ c ∈ k.means n, c < 0x110000 := by
  intro c hc
  cases k <;> simp [K.means, K.tx] at hc <;> omega
theorem tx_ok {n : Nat} (h : n < 0x110000) (k : K) : ∀ c ∈ k.tx n, c < 0x110000 := by
  intro c hc
  cases k <;> simp [K.tx] at hc <;> omega
theorem pre_ok {dot : List Nat} (hd : dot = [] ∨ dot = [46]) (b : Bool) (k : K) : (∀ c ∈ pre dot b k, c = 46) ∧ (pre dot b k).length ≤ 1 := by
  unfold pre
  split
  · rcases hd with rfl | rfl
    · exact ⟨(fun c h => nomatch h), by simp⟩
    · exact ⟨fun c h => by simpa using h, by simp⟩
  · exact ⟨(fun c h => nomatch h), by simp⟩
theorem dueGo_cons (mark dot : Str) (more : Int) (k : Nat) (σ : DueS) (st : Str) (rest : List Str) : dueGo mark dot more k σ (st :: rest) = match dStop mark σ st with | some x => .words x | none => dueGo mark dot more (k + 1) (dStep mark dot k σ st) rest := rfl
theorem stop_none {n : Nat} (hn : 128 ≤ n) (mark : Str) (σ : DueS) (kd : K) (h1 : kd ≠ .nul) (h2 : kd ≠ .bad) : dStop mark σ (tx (kd.tx n)) = none := by
  have hn0 : ¬ n = 0 := by omega
  unfold dStop
  have e1 : (tx (kd.tx n) == Str.ofString "\x00") = false := by
    rw [nul_tx, tx_beq]
    cases kd <;> simp_all [K.tx]
  have e2 : (tx (kd.tx n) == Str.ofString "\\ a") = false := by
    rw [bad_tx, tx_beq]
    cases kd <;> simp_all [K.tx]
  rw [e1, e2]
  rfl
theorem basic_run {n : Nat} (hn : 128 ≤ n) (hn2 : n < 0x110000) {dot : List Nat} (hdot : dot = [] ∨ dot = [46]) {src : List Nat} {e : Nat} {more : Int} (hmore : more = 0 ∨ more = 1 ∨ more = 2) (he : e = more.toNat) (hlen : src.length ≤ 100) :
    ∀ (ks : List K) (l0 : List Nat) (c : Nat) (text : List Nat) (ea : Bool) (k : Nat), src = (l0 ++ [c]) ++ (bd n dot (c == 10) ks ++ tailT dot 34 e) → (k = 0 → ks.head? ≠ some .nl) → (∀ c ∈ text, c < 0x110000) →
      Ran src (l0 ++ [c]) text ea (dueGo (tx [34]) (tx dot) more k ⟨tx (l0 ++ [c]), tx text, ea⟩ (ks.map fun q => tx (q.tx n))) (text.length + 7 * ks.length)
  | [], l0, c, text, ea, k, hs, hk, ht => by
    have := ran_end (ea := ea) (k := k) hmore he (laid := l0 ++ [c]) (text := text) hs ht
    simpa using this
  | kd :: ks, l0, c, text, ea, k, hs, hk, ht => by
    have hb : bd n dot (c == 10) (kd :: ks) = pre dot (c == 10) kd ++ (kd.tx n ++ bd n dot kd.ends ks) := rfl
    rw [hb] at hs
    rw [List.map_cons, dueGo_cons]
    have hne : bd n dot kd.ends ks ++ tailT dot 34 e ≠ [] := by unfold tailT; simp
    have hll : (l0 ++ [c]).length < 900 := by
      have := congrArg List.length hs
      rw [List.length_append] at this
      omega
    have hltail : 6 ≤ (bd n dot kd.ends ks ++ tailT dot 34 e).length := by unfold tailT; simp; omega
    by_cases hnul : kd = .nul
    · subst hnul
      have hp : pre dot (c == 10) .nul = [] := by unfold pre; simp [K.isDot]
      rw [hp] at hs
      have hs1 : src = (l0 ++ [c]) ++ 0 :: (bd n dot K.nul.ends ks ++ tailT dot 34 e) := by rw [hs]; simp [K.tx]
      have sp := spot_of (laid := l0 ++ [c]) (mid := []) (rest := 0 :: (bd n dot K.nul.ends ks ++ tailT dot 34 e)) (fun c h => nomatch h) hll (by decide)
      have est : dStop (tx [34]) ⟨tx (l0 ++ [c]), tx text, ea⟩ (tx (K.nul.tx n)) = some (dNul (tx [34]) (tx (l0 ++ [c]))) := by
        unfold dStop
        rw [if_pos (by rw [nul_tx, tx_beq]; rfl)]
      rw [est]
      have hd : dNul (tx [34]) (tx (l0 ++ [c])) = wordsText (Str.ofString "Illegal character '\\x00'") (tx (l0 ++ [c])) ((0 : Nat) : Int) := by
        unfold dNul
        have e1 : (if (tx [34] == Str.ofString "\"") = true then Str.ofString "Illegal" else Str.ofString "Found invalid") ++ Str.ofString " character '\\x00'" = Str.ofString "Illegal character '\\x00'" := by decide +kernel
        rw [e1]; rfl
      refine ⟨(l0 ++ [c]).length, .err (errText (Str.ofString "Illegal character '\\x00'") ((Txt.split (tx (l0 ++ [c])) (Str.ofString "\n")).length : Int) (((lastRow (tx (l0 ++ [c]))).length : Int) + 1 + ((0 : Nat) : Int))), fun _ => rfl, Nat.le_refl _, by rw [hs1]; simp, fun i h1 h2 => by omega, fun _ => ?_, ⟨0, .ill (by omega) (by rw [tx_len, hs1]; simp; omega) (by rw [item_eq hs1]; rfl) ?_⟩, ?_, fun _ _ h => by cases h⟩
      · rw [item_eq hs1]; rfl
      · have e2 : (l0 ++ [c]) ++ ([] ++ 0 :: (bd n dot K.nul.ends ks ++ tailT dot 34 e)) = src := by rw [hs1]; rfl
        rw [e2] at sp
        simpa using sp
      · have := err_words (Str.ofString "Illegal character '\\x00'") (l0 ++ [c]) 0
        show DueOut.words _ = DueOut.words _
        rw [hd]
        exact congrArg _ this.symm
    · by_cases hbad : kd = .bad
      · subst hbad
        have hp : pre dot (c == 10) .bad = [] := by unfold pre; simp [K.isDot]
        rw [hp] at hs
        have hs1 : src = (l0 ++ [c]) ++ ([92, 32] ++ (97 :: (bd n dot K.bad.ends ks ++ tailT dot 34 e))) := by rw [hs]; simp [K.tx]
        have sp := spot_of (laid := l0 ++ [c]) (mid := [92, 32]) (rest := 97 :: (bd n dot K.bad.ends ks ++ tailT dot 34 e)) (by decide) hll (by decide)
        rw [← hs1] at sp
        have est : dStop (tx [34]) ⟨tx (l0 ++ [c]), tx text, ea⟩ (tx (K.bad.tx n)) = some (dEsc (tx (l0 ++ [c]))) := by
          unfold dStop
          rw [if_neg (by rw [nul_tx, tx_beq]; simp [K.tx]), if_pos (by rw [bad_tx, tx_beq]; simp [K.tx]; decide)]
        rw [est]
        have hi0 := item_eq (src := src) (p := l0 ++ [c]) (c := 92) (q := 32 :: (97 :: (bd n dot K.bad.ends ks ++ tailT dot 34 e))) (by rw [hs1]; rfl)
        have hi2 := item_eq (src := src) (p := (l0 ++ [c]) ++ [92, 32]) (c := 97) (q := bd n dot K.bad.ends ks ++ tailT dot 34 e) (by rw [hs1]; simp)
        have e2 : ((((l0 ++ [c]) ++ [92, 32]).length : Nat) : Int) = (((l0 ++ [c]).length : Nat) : Int) + 2 := by simp; omega
        rw [e2] at hi2
        refine ⟨(l0 ++ [c]).length, .err (errText unescT ((Txt.split (tx (l0 ++ [c])) (Str.ofString "\n")).length : Int) (((lastRow (tx (l0 ++ [c]))).length : Int) + 1 + ((2 : Nat) : Int))), fun _ => rfl, Nat.le_refl _, by rw [hs1]; simp, fun i h1 h2 => by omega, fun _ => ?_, ⟨0, .bad (by rw [b_tx]; exact hi0) ⟨by omega, by rw [tx_len, hs1]; simp; omega, ?_, ?_, ?_, ?_, ?_⟩⟩, ?_, fun _ _ h => by cases h⟩
        · rw [hi0]; rfl
        · rw [bs_tx]; exact slice_eq hs1 (by simp)
        · rw [hi2]; rfl
        · rw [hi2]; rfl
        · rw [hi2, nl_tx]; decide
        · exact sp
        · have := err_words unescT (l0 ++ [c]) 2
          show DueOut.words _ = DueOut.words _
          exact congrArg _ this.symm
      · rw [stop_none hn _ _ _ hnul hbad]
        dsimp only
        by_cases hws : kd = .nl ∨ kd = .sp
        · have hp : pre dot (c == 10) kd = [] := by rcases hws with h | h <;> (rw [h]; unfold pre; simp [K.isDot])
          rw [hp, List.nil_append] at hs
          obtain ⟨c', hc', hce, hs103, hpc⟩ : ∃ c', kd.tx n = [c'] ∧ (c' == 10) = kd.ends ∧ S103 (tx [c']) = true ∧ pc c' := by
            rcases hws with h | h
            · rw [h]; exact ⟨10, rfl, rfl, rfl, by decide, by decide, rfl⟩
            · rw [h]; exact ⟨32, rfl, rfl, rfl, by decide, by decide, rfl⟩
          rw [step_ws hn _ _ _ _ _ _ _ _ hws]
          have hs2 : src = ((l0 ++ [c]) ++ [c']) ++ (bd n dot (c' == 10) ks ++ tailT dot 34 e) := by rw [hs, hc', hce]; simp
          have htx : (if (!ea && (decide (0 < k) || decide (kd = .sp))) = true then text ++ kd.tx n else text) = if ea then text else text ++ [c'] := by
            cases ea with
            | true => simp
            | false =>
              rw [hc']
              have : (decide (0 < k) || decide (kd = .sp)) = true := by
                rcases hws with h | h
                · have : k ≠ 0 := fun h0 => hk h0 (by rw [h]; rfl)
                  rw [decide_eq_true (Nat.pos_of_ne_zero this)]; rfl
                · rw [decide_eq_true h, Bool.or_true]
              rw [this]; simp
          rw [htx, hc']
          have hok : ∀ x ∈ (if ea then text else text ++ [c']), x < 0x110000 := by
            intro x hx
            cases ea with
            | true => exact ht x hx
            | false =>
              rcases List.mem_append.mp hx with hx | hx
              · exact ht x hx
              · rw [List.mem_singleton] at hx
                exact tx_ok hn2 kd x (by rw [hc', hx]; exact List.mem_singleton.mpr rfl)
          refine Ran.elim (basic_run hn hn2 hdot hmore he hlen ks (l0 ++ [c]) c' (if ea then text else text ++ [c']) ea (k + 1) hs2 (fun h => by omega) hok) fun pos o b1 b2 b3 b4 b5 b6 b7 b8 => ?_
          have hll2 : ((l0 ++ [c]) ++ [c']).length = (l0 ++ [c]).length + 1 := by simp
          rw [hll2] at b1 b2 b4
          have hi0 := item_eq (src := src) (p := l0 ++ [c]) (c := c') (q := bd n dot (c' == 10) ks ++ tailT dot 34 e) (by rw [hs2]; simp)
          cases ea with
          | true =>
            refine ⟨pos, o, (fun h => by cases h), by omega, b3, fun i h1 h2 => ?_, b5, b6, b7, fun e' r h => ?_⟩
            · by_cases hi : i = (l0 ++ [c]).length
              · rw [hi, hi0]; exact hs103
              · exact b4 i (by omega) h2
            · obtain ⟨z1, z2, t, z3, z4, z5⟩ := b8 e' r h
              exact ⟨z1, z2, t, z3, by simp at z4 ⊢; omega, z5⟩
          | false =>
            have hpos := b1 rfl
            obtain ⟨N, hN⟩ := b6
            refine ⟨(l0 ++ [c]).length, o, fun _ => rfl, Nat.le_refl _, by omega, fun i h1 h2 => by omega, (fun h => by cases h), ?_, b7, fun e' r h => ?_⟩
            · refine run_plain (src := src) [c'] (l0 ++ [c]) (bd n dot (c' == 10) ks ++ tailT dot 34 e) text (by rw [hs2]; simp) (by unfold tailT; simp) (fun x hx => ?_) (N := N) ?_
              · rw [List.mem_singleton.mp hx]; exact hpc
              · rw [hll2, ← hpos]; exact hN
            · obtain ⟨z1, z2, t, z3, z4, z5⟩ := b8 e' r h
              exact ⟨z1, z2, t, z3, by simp at z4 ⊢; omega, z5⟩
        · have hnl : kd ≠ .nl := fun h => hws (.inl h)
          have hsp : kd ≠ .sp := fun h => hws (.inr h)
          rw [step_b hn _ _ _ _ _ _ _ hnl hsp]
          obtain ⟨kt, c', hkt, hce⟩ := kx_last hn kd
          obtain ⟨hp46, hpl⟩ := pre_ok hdot (c == 10) kd
          have hlaid : l0 ++ [c] ++ pre dot (c == 10) kd ++ kd.tx n = (l0 ++ [c] ++ pre dot (c == 10) kd ++ kt) ++ [c'] := by rw [hkt]; simp
          have hs2 : src = ((l0 ++ [c] ++ pre dot (c == 10) kd ++ kt) ++ [c']) ++ (bd n dot (c' == 10) ks ++ tailT dot 34 e) := by rw [← hlaid, hs, hce]; simp
          have hok : ∀ x ∈ text ++ pre dot (c == 10) kd ++ kd.means n, x < 0x110000 := by
            intro x hx
            rcases List.mem_append.mp hx with hx | hx
            · rcases List.mem_append.mp hx with hx | hx
              · exact ht x hx
              · rw [hp46 x hx]; decide
            · exact means_ok hn2 kd x hx
          refine Ran.elim (basic_run hn hn2 hdot hmore he hlen ks (l0 ++ [c] ++ pre dot (c == 10) kd ++ kt) c' (text ++ pre dot (c == 10) kd ++ kd.means n) kd.ends (k + 1) hs2 (fun h => by omega) hok) fun pos o b1 b2 b3 b4 b5 b6 b7 b8 => ?_
          rw [← hlaid] at b1 b2 b4 b7
          have hs3 : src = (l0 ++ [c] ++ pre dot (c == 10) kd) ++ (kd.tx n ++ (bd n dot kd.ends ks ++ tailT dot 34 e)) := by rw [hs]; simp
          obtain ⟨N, hN⟩ := strand_b hn hs3 hne hnul hbad hnl hsp b1 b2 b3 b4 b5 b6
          have hfin : ∃ N, PB (tx src) N ((l0 ++ [c]).length : Int) (tx text) o := by
            refine run_plain (src := src) (pre dot (c == 10) kd) (l0 ++ [c]) (kd.tx n ++ (bd n dot kd.ends ks ++ tailT dot 34 e)) text (by rw [hs]; simp) (by simp [hne]) (fun x hx => ?_) (N := N) hN
            rw [hp46 x hx]
            exact ⟨by decide, by decide, rfl⟩
          refine ⟨(l0 ++ [c]).length, o, fun _ => rfl, Nat.le_refl _, by have h9 := b2; simp only [List.length_append] at h9 ⊢; omega, fun i h1 h2 => by omega, fun _ => ?_, hfin, b7, fun e' r h => ?_⟩
          · have head : ∃ h t, pre dot (c == 10) kd ++ kd.tx n = h :: t ∧ S103 (tx [h]) = false := by
              cases hpre : pre dot (c == 10) kd with
              | cons x y =>
                have : x = 46 := hp46 x (by rw [hpre]; simp)
                rw [this]
                exact ⟨46, _, rfl, rfl⟩
              | nil =>
                have hn32 : (n == 32) = false := by simp; omega
                have hn9 : (n == 9) = false := by simp; omega
                have hn10 : (n == 10) = false := by simp; omega
                cases kd with
                | nl => exact absurd rfl hnl
                | sp => exact absurd rfl hsp
                | odd =>
                  refine ⟨n, [], rfl, ?_⟩
                  show ((1 == 1) && (n == 32 || n == 9 || n == 10)) = false
                  rw [hn32, hn9, hn10]; rfl
                | _ => exact ⟨_, _, rfl, rfl⟩
            obtain ⟨h, t, e1, e2⟩ := head
            have hs4 : src = (l0 ++ [c]) ++ h :: (t ++ (bd n dot kd.ends ks ++ tailT dot 34 e)) := by
              rw [hs]
              have : pre dot (c == 10) kd ++ (kd.tx n ++ bd n dot kd.ends ks) = (pre dot (c == 10) kd ++ kd.tx n) ++ bd n dot kd.ends ks := by simp
              rw [this, e1]; simp
            rw [item_eq hs4]; exact e2
          · obtain ⟨z1, z2, t, z3, z4, z5⟩ := b8 e' r h
            have hm := means_len n kd
            exact ⟨z1, z2, t, z3, by simp at z4 ⊢; omega, z5⟩
end Mine.PL
end
section
open PySem PySem.W PyProof.Rows PySem.Builtin PySem.Builtin.Str PySem.StrLaws
set_option Elab.async false
set_option compiler.extract_closed false
set_option linter.unusedVariables false
set_option linter.unusedSimpArgs false
set_option linter.constructorNameAsVariable false
namespace Mine.PL
theorem strOk_tx {t : List Nat} (h : ∀ c ∈ t, c < 0x110000) : PyData.strOk (tx t) = true := by
  unfold PyData.strOk
  simp
  intro c hc
  have := h c hc
  omega
theorem kx_head {n : Nat} (hn : 128 ≤ n) (k : K) (h : k ≠ .nl) : ∃ c t, k.tx n = c :: t ∧ c ≠ 10 := by
  cases k with
  | nl => exact absurd rfl h
  | odd => exact ⟨n, [], rfl, by omega⟩
  | dot => exact ⟨46, [], rfl, by decide⟩
  | a => exact ⟨97, [], rfl, by decide⟩
  | u => exact ⟨92, _, rfl, by decide⟩
  | bnl => exact ⟨92, _, rfl, by decide⟩
  | bsnl => exact ⟨92, _, rfl, by decide⟩
  | sp => exact ⟨32, [], rfl, by decide⟩
  | q => exact ⟨34, _, rfl, by decide⟩
  | ap => exact ⟨39, _, rfl, by decide⟩
  | bb => exact ⟨92, _, rfl, by decide⟩
  | dots => exact ⟨46, _, rfl, by decide⟩
  | nul => exact ⟨0, [], rfl, by decide⟩
  | bad => exact ⟨92, _, rfl, by decide⟩
theorem pre_false (dot : List Nat) (k : K) : pre dot false k = [] := rfl
/-- where the string's text begins -/
theorem head_no {n m e : Nat} (hn : 128 ≤ n) (hm : m = 34 ∨ m = 39) (dot : List Nat) {ks : List K} (h : ks.head? ≠ some .nl) : headP (tx (srcT n dot m e ks)) ((dot.length : Int) + 3) = ((dot ++ [46, 97, 10, m, m, m]).length : Int) := by
  have e1 : ((dot.length : Int) + 3 + 3) = ((dot ++ [46, 97, 10, m, m, m]).length : Int) := by simp; omega
  unfold headP
  rw [e1, nl_tx]
  have hs : srcT n dot m e ks = (dot ++ [46, 97, 10, m, m, m]) ++ (bd n dot false ks ++ tailT dot m e) := rfl
  rw [starts_eq hs]
  have : ∃ c t, bd n dot false ks ++ tailT dot m e = c :: t ∧ c ≠ 10 := by
    cases ks with
    | nil => exact ⟨m, _, rfl, by omega⟩
    | cons k ks =>
      obtain ⟨c, t, h1, h2⟩ := kx_head hn k (by simpa using h)
      refine ⟨c, t ++ bd n dot k.ends ks ++ tailT dot m e, ?_, h2⟩
      show pre dot false k ++ (k.tx n ++ bd n dot k.ends ks) ++ _ = _
      rw [pre_false, h1]; simp
  obtain ⟨c, t, h1, h2⟩ := this
  rw [h1]
  have : [10].isPrefixOf (c :: t) = false := by
    have : (10 == c) = false := by simp; omega
    simp [List.isPrefixOf, this]
  rw [this, if_neg (by simp)]
theorem head_nl {n m e : Nat} (dot : List Nat) {ks : List K} : headP (tx (srcT n dot m e (.nl :: ks))) ((dot.length : Int) + 3) = ((dot ++ [46, 97, 10, m, m, m] ++ [10]).length : Int) := by
  have e1 : ((dot.length : Int) + 3 + 3) = ((dot ++ [46, 97, 10, m, m, m]).length : Int) := by simp; omega
  unfold headP
  rw [e1, nl_tx]
  have hs : srcT n dot m e (.nl :: ks) = (dot ++ [46, 97, 10, m, m, m]) ++ (10 :: (bd n dot true ks ++ tailT dot m e)) := rfl
  rw [starts_eq hs, if_pos (by rfl)]
  simp
  omega
theorem due0_tx {m : Nat} (hm : m = 34 ∨ m = 39) (dot : List Nat) : due0 (tx [m]) (tx dot) = ⟨tx ((dot ++ [46, 97, 10, m, m]) ++ [m]), tx [], false⟩ := by
  unfold due0
  have e1 : Str.ofString ".a\n" = tx [46, 97, 10] := by decide
  have e2 : Txt.mul (tx [m]) 3 = tx [m, m, m] := by rcases hm with rfl | rfl <;> decide
  rw [e1, e2, e_tx, tx_app, tx_app]
  simp
theorem len_src {n m e : Nat} (dot : List Nat) (ks : List K) : (srcT n dot m e ks).length = dot.length + 6 + (bd n dot false ks).length + (6 + e + dot.length) := by
  unfold srcT tailT; simp; omega
theorem asked_b {n : Nat} (hn : 128 ≤ n) (hn2 : n < 0x110000) {dot : List Nat} (hdot : dot = [] ∨ dot = [46]) {e : Nat} {more : Int} (hmore : more = 0 ∨ more = 1 ∨ more = 2) (he : e = more.toNat) (ks : List K) (hks : ks.length ≤ 6) :
    ∃ o, Asked (tx (srcT n dot 34 e ks)) ((dot.length : Int) + 3) (tx [34]) o ∧ due (tx [34]) (tx dot) more (ks.map fun q => tx (q.tx n)) = dueO o ∧ ∀ e r, o = .ok e r → PyData.strOk r = true := by
  have he2 : e ≤ 2 := by omega
  have hd1 : dot.length ≤ 1 := by rcases hdot with rfl | rfl <;> simp
  have hlen := src_len (n := n) (m := 34) hd1 he2 hks
  have hlen2 := len_src (n := n) (m := 34) (e := e) dot ks
  have fin : ∀ (laid text : List Nat) (D : DueOut) (mx : Nat), mx ≤ 50 → Ran (srcT n dot 34 e ks) laid text false D mx → headP (tx (srcT n dot 34 e ks)) ((dot.length : Int) + 3) = (laid.length : Int) → text = [] → due (tx [34]) (tx dot) more (ks.map fun q => tx (q.tx n)) = D →
      ∃ o, Asked (tx (srcT n dot 34 e ks)) ((dot.length : Int) + 3) (tx [34]) o ∧ due (tx [34]) (tx dot) more (ks.map fun q => tx (q.tx n)) = dueO o ∧ ∀ e r, o = .ok e r → PyData.strOk r = true := by
    intro laid text D mx hmx hR hh ht hdue
    refine Ran.elim hR fun pos o b1 b2 b3 b4 b5 b6 b7 b8 => ?_
    obtain ⟨N, b6⟩ := b6
    have hp := b1 rfl
    rw [hp, ht] at b6
    refine ⟨tailO (tx (srcT n dot 34 e ks)) (tx [34]) o, ⟨by rw [tx_len]; omega, by omega, by rw [tx_len]; omega, .inl ⟨by rw [q_tx], N, o, ?_, ?_, rfl⟩⟩, hdue.trans b7, ?_⟩
    · rw [hh, e_tx]; exact b6
    · intro e' r h
      obtain ⟨z1, z2, t, z3, z4, z5⟩ := b8 e' r h
      refine ⟨z1, by omega, ?_⟩
      rw [z3, tx_len]; omega
    · intro e' r h
      cases o with
      | err T => cases h
      | ok e1 r1 =>
        obtain ⟨z1, z2, t, z3, z4, z5⟩ := b8 e1 r1 rfl
        cases h
        unfold tailR
        subst z3
        have z6 : ∀ c ∈ t ++ [34], c < 0x110000 := fun c hc => by
          rcases List.mem_append.mp hc with hc | hc
          · exact z5 c hc
          · rw [List.mem_singleton] at hc; omega
        have z7 : ∀ c ∈ t ++ [34] ++ [34], c < 0x110000 := fun c hc => by
          rcases List.mem_append.mp hc with hc | hc
          · exact z6 c hc
          · rw [List.mem_singleton] at hc; omega
        split
        · split
          · rw [tx_app, tx_app]; exact strOk_tx z7
          · rw [tx_app]; exact strOk_tx z6
        · exact strOk_tx z5
  by_cases hnl : ks.head? = some .nl
  · cases ks with
    | nil => cases hnl
    | cons k ks =>
      have : k = .nl := by simpa using hnl
      subst this
      have hs : srcT n dot 34 e (.nl :: ks) = ((dot ++ [46, 97, 10, 34, 34, 34]) ++ [10]) ++ (bd n dot (10 == 10) ks ++ tailT dot 34 e) := by
        show _ ++ ([] ++ ([10] ++ bd n dot true ks) ++ _) = _
        simp
      have hr := basic_run hn hn2 hdot hmore he (by omega) ks (dot ++ [46, 97, 10, 34, 34, 34]) 10 [] false 1 hs (fun h => by omega) (fun c h => nomatch h)
      refine fin _ [] _ _ ?_ hr (head_nl dot) rfl ?_
      · simp at hks ⊢; omega
      · unfold due
        rw [due0_tx (.inl rfl), List.map_cons, dueGo_cons, stop_none hn _ _ _ (by decide) (by decide)]
        dsimp only
        rw [step_ws hn _ _ _ _ _ _ _ _ (.inl rfl)]
        have e1 : dot ++ [46, 97, 10, 34, 34] ++ [34] ++ K.nl.tx n = dot ++ [46, 97, 10, 34, 34, 34] ++ [10] := by simp [K.tx]
        rw [e1]
        rfl
  · have hs : srcT n dot 34 e ks = ((dot ++ [46, 97, 10, 34, 34]) ++ [34]) ++ (bd n dot (34 == 10) ks ++ tailT dot 34 e) := by
      unfold srcT; simp
    have hr := basic_run hn hn2 hdot hmore he (by omega) ks (dot ++ [46, 97, 10, 34, 34]) 34 [] false 0 hs (fun _ => hnl) (fun c h => nomatch h)
    refine fin _ [] _ _ ?_ hr ?_ rfl ?_
    · simp; omega
    · rw [head_no hn (.inl rfl) dot hnl]; simp
    · unfold due
      rw [due0_tx (.inl rfl)]
end Mine.PL
end
section
open PySem PySem.W PyProof.Rows PySem.Builtin PySem.Builtin.Str PySem.StrLaws
set_option Elab.async false
set_option compiler.extract_closed false
set_option linter.unusedVariables false
set_option linter.unusedSimpArgs false
set_option linter.constructorNameAsVariable false
namespace Mine.PL
theorem stop_l {n : Nat} (hn : 128 ≤ n) (σ : DueS) (kd : K) (h1 : kd ≠ .nul) : dStop (tx [39]) σ (tx (kd.tx n)) = none := by
  have hn0 : ¬ n = 0 := by omega
  unfold dStop
  have e1 : (tx (kd.tx n) == Str.ofString "\x00") = false := by
    rw [nul_tx, tx_beq]
    cases kd <;> simp_all [K.tx]
  have e2 : (tx [39] == Str.ofString "\"") = false := by decide
  rw [e1, e2, Bool.and_false]
  rfl
theorem stop_nul {n : Nat} (σ : DueS) : dStop (tx [39]) σ (tx (K.nul.tx n)) = some (dNul (tx [39]) σ.laid) := by
  unfold dStop
  rw [if_pos (by rw [nul_tx, tx_beq]; rfl)]
/-- the turns up to the first sign 0 -/
theorem lit_go {n : Nat} (hn : 128 ≤ n) (dot : List Nat) (more : Int) (rest : List Str) : ∀ (ks : List K) (l0 : List Nat) (c : Nat) (text : List Nat) (k : Nat), (∀ q ∈ ks, q ≠ .nul) → (k = 0 → ks.head? ≠ some .nl) →
    ∃ k', dueGo (tx [39]) (tx dot) more k ⟨tx (l0 ++ [c]), tx text, false⟩ (ks.map (fun q => tx (q.tx n)) ++ rest) = dueGo (tx [39]) (tx dot) more k' ⟨tx (l0 ++ [c] ++ bd n dot (c == 10) ks), tx (text ++ bd n dot (c == 10) ks), false⟩ rest
  | [], l0, c, text, k, _, _ => ⟨k, by
      show dueGo _ _ _ _ _ rest = dueGo _ _ _ _ ⟨tx (l0 ++ [c] ++ []), tx (text ++ []), false⟩ rest
      rw [List.append_nil, List.append_nil]⟩
  | kd :: ks, l0, c, text, k, h, hk => by
    have hnul := h kd (List.mem_cons_self ..)
    have hb : bd n dot (c == 10) (kd :: ks) = pre dot (c == 10) kd ++ (kd.tx n ++ bd n dot kd.ends ks) := rfl
    obtain ⟨kt, c', hkt, hce⟩ := kx_last hn kd
    have step : dStep (tx [39]) (tx dot) k ⟨tx (l0 ++ [c]), tx text, false⟩ (tx (kd.tx n)) = ⟨tx (l0 ++ [c] ++ pre dot (c == 10) kd ++ kd.tx n), tx (text ++ pre dot (c == 10) kd ++ kd.tx n), false⟩ := by
      by_cases hws : kd = .nl ∨ kd = .sp
      · have hp : pre dot (c == 10) kd = [] := by unfold pre; rcases hws with rfl | rfl <;> simp [K.isDot]
        rw [step_ws hn _ _ _ _ _ _ _ _ hws, hp, List.append_nil, List.append_nil]
        have : (!false && (decide (0 < k) || decide (kd = .sp))) = true := by
          rcases hws with rfl | rfl
          · have : k ≠ 0 := fun h0 => hk h0 rfl
            simp; omega
          · simp
        rw [if_pos this]
      · exact step_l hn _ _ _ _ _ _ _ (fun h => hws (.inl h)) (fun h => hws (.inr h))
    have e1 : l0 ++ [c] ++ pre dot (c == 10) kd ++ kd.tx n = (l0 ++ [c] ++ pre dot (c == 10) kd ++ kt) ++ [c'] := by rw [hkt]; simp
    obtain ⟨k', ih⟩ := lit_go hn dot more rest ks (l0 ++ [c] ++ pre dot (c == 10) kd ++ kt) c' (text ++ pre dot (c == 10) kd ++ kd.tx n) (k + 1) (fun q hq => h q (List.mem_cons_of_mem _ hq)) (fun h0 => by omega)
    refine ⟨k', ?_⟩
    rw [List.map_cons, List.cons_append, dueGo_cons, stop_l hn _ _ hnul]
    dsimp only
    rw [step, e1, ih, ← e1, hce, hb]
    simp only [List.append_assoc]
/-- behind each apostrophe stands a hyphen -/
noncomputable def noT (l : List Nat) : Prop := ∀ i, l[i]? = some 39 → l[i + 1]? = some 45
theorem noT_app {a b : List Nat} (ha : noT a) (hb : noT b) : noT (a ++ b) := by
  intro i h
  by_cases hi : i < a.length
  · rw [List.getElem?_append_left hi] at h
    have h2 := ha i h
    obtain ⟨h3, _⟩ := List.getElem?_eq_some_iff.mp h2
    rw [List.getElem?_append_left h3]; exact h2
  · rw [List.getElem?_append_right (by omega)] at h
    have := hb _ h
    rw [List.getElem?_append_right (by omega), show i + 1 - a.length = i - a.length + 1 by omega]
    exact this
theorem noT_free {a : List Nat} (h : ∀ c ∈ a, c ≠ 39) : noT a := fun i hi => absurd rfl (h 39 (List.mem_of_getElem? hi))
theorem noT_k {n : Nat} (hn : 128 ≤ n) (k : K) : noT (k.tx n) := by
  cases k with
  | ap =>
    intro i hi
    match i, hi with
    | 0, _ => rfl
    | 1, hi => simp [K.tx] at hi
    | i + 2, hi => simp [K.tx] at hi
  | _ => exact noT_free fun c hc => by simp [K.tx] at hc; omega
theorem noT_bd {n : Nat} (hn : 128 ≤ n) {dot : List Nat} (hd : dot = [] ∨ dot = [46]) : ∀ (ks : List K) (b : Bool), noT (bd n dot b ks)
  | [], b => noT_free fun c h => nomatch h
  | k :: ks, b => noT_app (noT_free fun c hc => by rw [(pre_ok hd b k).1 c hc]; decide) (noT_app (noT_k hn k) (noT_bd hn hd ks k.ends))
theorem s94_n {n : Nat} (hn : 128 ≤ n) : S94 (tx [n]) = false := (pc_n hn).2.2
theorem s94_k {n : Nat} (hn : 128 ≤ n) (k : K) (h : k ≠ .nul) : ∀ c ∈ k.tx n, S94 (tx [c]) = false := by
  intro c hc
  cases k with
  | nul => exact absurd rfl h
  | odd =>
    have : c = n := by simpa [K.tx] using hc
    subst this; exact s94_n hn
  | dot => simp [K.tx] at hc; subst hc; rfl
  | nl => simp [K.tx] at hc; subst hc; rfl
  | a => simp [K.tx] at hc; subst hc; rfl
  | sp => simp [K.tx] at hc; subst hc; rfl
  | u => simp [K.tx] at hc; rcases hc with rfl | rfl | rfl | rfl | rfl <;> rfl
  | bnl => simp [K.tx] at hc; rcases hc with rfl | rfl <;> rfl
  | bsnl => simp [K.tx] at hc; rcases hc with rfl | rfl | rfl <;> rfl
  | q => simp [K.tx] at hc; rcases hc with rfl | rfl <;> rfl
  | ap => simp [K.tx] at hc; rcases hc with rfl | rfl <;> rfl
  | bb => simp [K.tx] at hc; subst hc; rfl
  | dots => simp [K.tx] at hc; subst hc; rfl
  | bad => simp [K.tx] at hc; rcases hc with rfl | rfl | rfl <;> rfl
theorem s94_bd {n : Nat} (hn : 128 ≤ n) {dot : List Nat} (hd : dot = [] ∨ dot = [46]) : ∀ (ks : List K) (b : Bool), (∀ q ∈ ks, q ≠ .nul) → ∀ c ∈ bd n dot b ks, S94 (tx [c]) = false
  | [], b, h, c, hc => nomatch hc
  | k :: ks, b, h, c, hc => by
    rcases List.mem_append.mp hc with hc | hc
    · rw [(pre_ok hd b k).1 c hc]; rfl
    · rcases List.mem_append.mp hc with hc | hc
      · exact s94_k hn k (h k (List.mem_cons_self ..)) c hc
      · exact s94_bd hn hd ks k.ends (fun q hq => h q (List.mem_cons_of_mem _ hq)) c hc
theorem lt_bd {n : Nat} (hn : n < 0x110000) {dot : List Nat} (hd : dot = [] ∨ dot = [46]) : ∀ (ks : List K) (b : Bool), ∀ c ∈ bd n dot b ks, c < 0x110000
  | [], b, c, hc => nomatch hc
  | k :: ks, b, c, hc => by
    rcases List.mem_append.mp hc with hc | hc
    · rw [(pre_ok hd b k).1 c hc]; decide
    · rcases List.mem_append.mp hc with hc | hc
      · exact tx_ok hn k c hc
      · exact lt_bd hn hd ks k.ends c hc
theorem bd_app (n : Nat) (dot : List Nat) : ∀ (a b : List K) (x : Bool), bd n dot x (a ++ b) = bd n dot x a ++ bd n dot (endK x a) b
  | [], b, x => rfl
  | k :: a, b, x => by
    show pre dot x k ++ (k.tx n ++ bd n dot k.ends (a ++ b)) = (pre dot x k ++ (k.tx n ++ bd n dot k.ends a)) ++ bd n dot (endK k.ends a) b
    rw [bd_app n dot a b]
    simp
theorem a3_tx : Str.ofString "'''" = tx [39, 39, 39] := by decide
/-- where the closing apostrophes stand -/
theorem close_l {laid B dot : List Nat} {e : Nat} (hB : noT B) : fidx (tx (laid ++ (B ++ tailT dot 39 e))) (tx [39, 39, 39]) (laid.length : Int) = some (laid.length + B.length) := by
  refine fidx_at (by omega) ?_ ?_
  · rw [at_tx]
    refine ⟨by unfold tailT; simp; omega, ?_⟩
    rw [← List.append_assoc, List.drop_append_of_le_length (by simp), List.drop_of_length_le (by simp)]
    rfl
  · intro k h1 h2 hA
    rw [at_tx] at hA
    obtain ⟨hA1, hA2⟩ := hA
    have g0 := congrArg (fun z : List Nat => z[0]?) hA2
    have g1 := congrArg (fun z : List Nat => z[1]?) hA2
    simp at g0 g1
    rw [List.getElem?_append_right h1, List.getElem?_append_left (by omega)] at g0
    have h3 := hB _ g0
    obtain ⟨h4, _⟩ := List.getElem?_eq_some_iff.mp h3
    rw [List.getElem?_append_right (by omega), List.getElem?_append_left (by omega), show k + 1 - laid.length = k - laid.length + 1 by omega, h3] at g1
    cases g1
end Mine.PL
end
section
open PySem PySem.W PyProof.Rows PySem.Builtin PySem.Builtin.Str PySem.StrLaws
set_option Elab.async false
set_option compiler.extract_closed false
set_option linter.unusedVariables false
set_option linter.unusedSimpArgs false
set_option linter.constructorNameAsVariable false
namespace Mine.PL
theorem tail_eq {src laid text dot : List Nat} {e : Nat} {more : Int} (hmore : more = 0 ∨ more = 1 ∨ more = 2) (he : e = more.toNat) (hs : src = laid ++ tailT dot 39 e) :
    tailE (tx src) (tx [39]) ((laid.length : Int) + 3) = (laid.length : Int) + 3 + more ∧ tailR (tx src) (tx [39]) ((laid.length : Int) + 3) (tx text) = tx text ++ Txt.mul (tx [39]) more := by
  have h3 : src = (laid ++ [39, 39, 39]) ++ (List.replicate e 39 ++ ([44, 10, 46] ++ dot)) := by rw [hs]; unfold tailT; simp
  have e3 : ((laid.length : Int) + 3) = ((laid ++ [39, 39, 39]).length : Int) := by simp
  have s1 := starts_eq (y := [39]) h3
  rw [← e3] at s1
  unfold tailE tailR
  rw [s1]
  rcases hmore with rfl | rfl | rfl
  · have : e = 0 := he
    subst this
    have c1 : [39].isPrefixOf (List.replicate 0 39 ++ ([44, 10, 46] ++ dot)) = false := rfl
    have em : Txt.mul (tx [39]) 0 = tx [] := by decide
    rw [c1, em]
    simp only [Bool.false_eq_true, ↓reduceIte]
    rw [tx_app]; simp
  · have : e = 1 := he
    subst this
    have h4 : src = (laid ++ [39, 39, 39, 39]) ++ ([44, 10, 46] ++ dot) := by rw [h3]; simp
    have e4 : ((laid.length : Int) + 3 + 1) = ((laid ++ [39, 39, 39, 39]).length : Int) := by simp; omega
    have s2 := starts_eq (y := [39]) h4
    rw [← e4] at s2
    have c1 : [39].isPrefixOf (List.replicate 1 39 ++ ([44, 10, 46] ++ dot)) = true := by simp
    have c2 : [39].isPrefixOf ([44, 10, 46] ++ dot) = false := rfl
    have em : Txt.mul (tx [39]) 1 = tx [39] := by decide
    rw [s2, c1, c2, em]
    simp only [↓reduceIte, Bool.false_eq_true]
    exact ⟨trivial, trivial⟩
  · have : e = 2 := he
    subst this
    have h4 : src = (laid ++ [39, 39, 39, 39]) ++ (39 :: ([44, 10, 46] ++ dot)) := by rw [h3]; simp
    have e4 : ((laid.length : Int) + 3 + 1) = ((laid ++ [39, 39, 39, 39]).length : Int) := by simp; omega
    have s2 := starts_eq (y := [39]) h4
    rw [← e4] at s2
    have c1 : [39].isPrefixOf (List.replicate 2 39 ++ ([44, 10, 46] ++ dot)) = true := by simp
    have c2 : [39].isPrefixOf (39 :: ([44, 10, 46] ++ dot)) = true := by simp
    have em : Txt.mul (tx [39]) 2 = tx [39, 39] := by decide
    rw [s2, c1, c2, em]
    simp only [↓reduceIte]
    rw [tx_app, tx_app, tx_app, List.append_assoc]
    exact ⟨by omega, rfl⟩
theorem split_nul : ∀ (ks : List K), (∀ q ∈ ks, q ≠ .nul) ∨ ∃ a b, ks = a ++ .nul :: b ∧ ∀ q ∈ a, q ≠ .nul
  | [] => .inl fun q h => nomatch h
  | k :: ks => by
    by_cases h : k = .nul
    · exact .inr ⟨[], ks, by rw [h]; rfl, fun q h => nomatch h⟩
    · rcases split_nul ks with h2 | ⟨a, b, rfl, h2⟩
      · refine .inl fun q hq => ?_
        rcases List.mem_cons.mp hq with rfl | hq
        · exact h
        · exact h2 q hq
      · refine .inr ⟨k :: a, b, rfl, fun q hq => ?_⟩
        rcases List.mem_cons.mp hq with rfl | hq
        · exact h
        · exact h2 q hq
theorem all_signs {B : List Nat} (h : ∀ c ∈ B, S94 (tx [c]) = false) : ((signs (tx B)).all fun c => !S94 c) = true := by
  rw [List.all_eq_true]
  intro x hx
  obtain ⟨c, hc, rfl⟩ := List.mem_map.mp hx
  have hc : c ∈ B := by simpa using hc
  have := h c hc
  show (!S94 (tx [c])) = true
  rw [this]; rfl
theorem not_all_signs {B : List Nat} (h : 0 ∈ B) : ((signs (tx B)).all fun c => !S94 c) = false := by
  rw [List.all_eq_false]
  exact ⟨tx [0], List.mem_map.mpr ⟨0, by simpa using h, rfl⟩, by decide⟩
theorem lit_run {n : Nat} (hn : 128 ≤ n) (hn2 : n < 0x110000) {dot : List Nat} (hdot : dot = [] ∨ dot = [46]) {src : List Nat} {e : Nat} {more : Int} (hmore : more = 0 ∨ more = 1 ∨ more = 2) (he : e = more.toNat) (hlen : src.length ≤ 100)
    (ks : List K) (l0 : List Nat) (c : Nat) (k : Nat) (hs : src = (l0 ++ [c]) ++ (bd n dot (c == 10) ks ++ tailT dot 39 e)) (hk : k = 0 → ks.head? ≠ some .nl) :
    ∃ o, LB (tx src) ((l0 ++ [c]).length : Int) o ∧ dueGo (tx [39]) (tx dot) more k ⟨tx (l0 ++ [c]), tx [], false⟩ (ks.map fun q => tx (q.tx n)) = dueO (tailO (tx src) (tx [39]) o) ∧ ∀ e r, o = .ok e r → ∃ t, r = tx t ∧ ∀ c ∈ t, c < 0x110000 := by
  have hB := noT_bd hn hdot ks (c == 10)
  have hfi := close_l (laid := l0 ++ [c]) (dot := dot) (e := e) hB
  rw [← hs, ← a3_tx] at hfi
  have hsl := slice_eq hs (b := ((l0 ++ [c]).length : Int) + (bd n dot (c == 10) ks).length) rfl
  have hcast : (((l0 ++ [c]).length + (bd n dot (c == 10) ks).length : Nat) : Int) = ((l0 ++ [c]).length : Int) + (bd n dot (c == 10) ks).length := Int.natCast_add _ _
  have hl1 : src.length = (l0 ++ [c]).length + ((bd n dot (c == 10) ks).length + (6 + e + dot.length)) := by
    rw [hs]; unfold tailT; simp; omega
  have hltx : (tx src).length = src.length := tx_len src
  rcases split_nul ks with hno | ⟨a, b, hab, hno⟩
  · refine ⟨_, .ok ((l0 ++ [c]).length + (bd n dot (c == 10) ks).length) hfi (by omega) (by rw [hltx]; omega) ?_, ?_, ?_⟩
    · rw [hcast, hsl]
      exact all_signs (s94_bd hn hdot ks _ hno)
    · obtain ⟨k', hgo⟩ := lit_go hn dot more [] ks l0 c [] k hno hk
      rw [List.append_nil] at hgo
      rw [hgo, hcast, hsl]
      have ht := tail_eq (dot := dot) (text := bd n dot (c == 10) ks) hmore he (src := src) (laid := (l0 ++ [c]) ++ bd n dot (c == 10) ks) (by rw [hs]; simp)
      have hlc : (((l0 ++ [c]) ++ bd n dot (c == 10) ks).length : Int) = ((l0 ++ [c]).length : Int) + (bd n dot (c == 10) ks).length := by rw [List.length_append]; exact Int.natCast_add _ _
      rw [hlc] at ht
      show DueOut.ok (((tx _).length : Int) + 3 + more) (tx _ ++ Txt.mul (tx [39]) more) = DueOut.ok (tailE _ _ _) (tailR _ _ _ _)
      rw [ht.1, ht.2, tx_len, hlc]
      rfl
    · intro e' r h
      cases h
      rw [hcast, hsl]
      exact ⟨_, rfl, lt_bd hn2 hdot ks _⟩
  · subst hab
    have hbd : bd n dot (c == 10) (a ++ .nul :: b) = bd n dot (c == 10) a ++ (0 :: bd n dot false b) := by
      rw [bd_app]
      show _ ++ (pre dot _ K.nul ++ ([0] ++ bd n dot false b)) = _
      have : pre dot (endK (c == 10) a) K.nul = [] := by unfold pre; simp [K.isDot]
      rw [this]; rfl
    have hs2 : src = ((l0 ++ [c]) ++ bd n dot (c == 10) a) ++ ([] ++ (0 :: (bd n dot false b ++ tailT dot 39 e))) := by rw [hs, hbd]; simp
    have hbl : (bd n dot (c == 10) (a ++ .nul :: b)).length = (bd n dot (c == 10) a).length + 1 + (bd n dot false b).length := by rw [hbd]; simp; omega
    have hlai : (((l0 ++ [c]) ++ bd n dot (c == 10) a).length : Int) = ((l0 ++ [c]).length : Int) + (bd n dot (c == 10) a).length := by rw [List.length_append]; exact Int.natCast_add _ _
    have sp := spot_of (laid := (l0 ++ [c]) ++ bd n dot (c == 10) a) (mid := []) (rest := 0 :: (bd n dot false b ++ tailT dot 39 e)) (fun c h => nomatch h) (by rw [List.length_append]; omega) (by decide)
    rw [← hs2] at sp
    have hit0 := item_eq (src := src) (p := (l0 ++ [c]) ++ bd n dot (c == 10) a) (c := 0) (q := bd n dot false b ++ tailT dot 39 e) (by rw [hs2]; rfl)
    refine ⟨_, .bad ((l0 ++ [c]).length + (bd n dot (c == 10) (a ++ .nul :: b)).length) ((((l0 ++ [c]) ++ bd n dot (c == 10) a).length : Int)) ((Txt.split (tx ((l0 ++ [c]) ++ bd n dot (c == 10) a)) (Str.ofString "\n")).length : Int) (((lastRow (tx ((l0 ++ [c]) ++ bd n dot (c == 10) a))).length : Int) + 1 + ((0 : Nat) : Int)) hfi (by omega) (by rw [hltx]; omega) ?_ (by omega) (by rw [hltx]; omega) ?_ (hit0.trans rfl) (by simpa using sp), ?_, fun e' r h => by cases h⟩
    · rw [hcast, hsl]
      exact not_all_signs (by rw [hbd]; simp)
    · intro j h1 h2
      rw [hlai] at h2
      have hj : j.toNat - (l0 ++ [c]).length < (bd n dot (c == 10) a).length := by omega
      have hg : src[j.toNat]? = some ((bd n dot (c == 10) a)[j.toNat - (l0 ++ [c]).length]) := by
        rw [hs2, List.append_assoc, List.getElem?_append_right (by omega), List.getElem?_append_left hj, List.getElem?_eq_getElem hj]
      rw [item_at (by omega) hg]
      exact s94_bd hn hdot a _ hno _ (List.getElem_mem _)
    · obtain ⟨k', hgo⟩ := lit_go hn dot more ((K.nul :: b).map fun q => tx (q.tx n)) a l0 c [] k hno (fun h0 => by
        have := hk h0
        cases a with
        | nil => simp
        | cons x y => simpa using this)
      rw [List.map_append, hgo, List.map_cons, dueGo_cons, stop_nul]
      have hd : ∀ l, dNul (tx [39]) (tx l) = wordsText (Str.ofString "Found invalid character '\\x00'") (tx l) ((0 : Nat) : Int) := by
        intro l
        unfold dNul
        have e1 : (if (tx [39] == Str.ofString "\"") = true then Str.ofString "Illegal" else Str.ofString "Found invalid") ++ Str.ofString " character '\\x00'" = Str.ofString "Found invalid character '\\x00'" := by decide +kernel
        rw [e1]; rfl
      show DueOut.words _ = DueOut.words _
      dsimp only
      rw [hd]
      exact congrArg _ (err_words (Str.ofString "Found invalid character '\\x00'") ((l0 ++ [c]) ++ bd n dot (c == 10) a) 0).symm
theorem asked_l {n : Nat} (hn : 128 ≤ n) (hn2 : n < 0x110000) {dot : List Nat} (hdot : dot = [] ∨ dot = [46]) {e : Nat} {more : Int} (hmore : more = 0 ∨ more = 1 ∨ more = 2) (he : e = more.toNat) (ks : List K) (hks : ks.length ≤ 6) :
    ∃ o, Asked (tx (srcT n dot 39 e ks)) ((dot.length : Int) + 3) (tx [39]) o ∧ due (tx [39]) (tx dot) more (ks.map fun q => tx (q.tx n)) = dueO o ∧ ∀ e r, o = .ok e r → PyData.strOk r = true := by
  have he2 : e ≤ 2 := by omega
  have hd1 : dot.length ≤ 1 := by rcases hdot with rfl | rfl <;> simp
  have hlen := src_len (n := n) (m := 39) hd1 he2 hks
  have hlen2 := len_src (n := n) (m := 39) (e := e) dot ks
  have fin : ∀ (D : DueOut), (∃ o, LB (tx (srcT n dot 39 e ks)) (headP (tx (srcT n dot 39 e ks)) ((dot.length : Int) + 3)) o ∧ D = dueO (tailO (tx (srcT n dot 39 e ks)) (tx [39]) o) ∧ ∀ e r, o = .ok e r → ∃ t, r = tx t ∧ ∀ c ∈ t, c < 0x110000) → due (tx [39]) (tx dot) more (ks.map fun q => tx (q.tx n)) = D →
      ∃ o, Asked (tx (srcT n dot 39 e ks)) ((dot.length : Int) + 3) (tx [39]) o ∧ due (tx [39]) (tx dot) more (ks.map fun q => tx (q.tx n)) = dueO o ∧ ∀ e r, o = .ok e r → PyData.strOk r = true := by
    rintro D ⟨o, b1, b2, b3⟩ hdue
    refine ⟨tailO (tx (srcT n dot 39 e ks)) (tx [39]) o, ⟨by rw [tx_len]; omega, by omega, by rw [tx_len]; omega, .inr ⟨by rw [ap_tx], o, b1, rfl⟩⟩, hdue.trans b2, ?_⟩
    intro e' r h
    cases o with
    | err T => cases h
    | ok e1 r1 =>
      obtain ⟨t, z3, z5⟩ := b3 e1 r1 rfl
      cases h
      unfold tailR
      subst z3
      have z6 : ∀ c ∈ t ++ [39], c < 0x110000 := fun c hc => by
        rcases List.mem_append.mp hc with hc | hc
        · exact z5 c hc
        · rw [List.mem_singleton] at hc; omega
      have z7 : ∀ c ∈ t ++ [39] ++ [39], c < 0x110000 := fun c hc => by
        rcases List.mem_append.mp hc with hc | hc
        · exact z6 c hc
        · rw [List.mem_singleton] at hc; omega
      split
      · split
        · rw [tx_app, tx_app]; exact strOk_tx z7
        · rw [tx_app]; exact strOk_tx z6
      · exact strOk_tx z5
  by_cases hnl : ks.head? = some .nl
  · cases ks with
    | nil => cases hnl
    | cons k ks =>
      have : k = .nl := by simpa using hnl
      subst this
      have hs : srcT n dot 39 e (.nl :: ks) = ((dot ++ [46, 97, 10, 39, 39, 39]) ++ [10]) ++ (bd n dot (10 == 10) ks ++ tailT dot 39 e) := by
        show _ ++ ([] ++ ([10] ++ bd n dot true ks) ++ _) = _
        simp
      have hr := lit_run hn hn2 hdot hmore he (by omega) ks (dot ++ [46, 97, 10, 39, 39, 39]) 10 1 hs (fun h => by omega)
      have hh := head_nl (n := n) (m := 39) (e := e) dot (ks := ks)
      rw [← hh] at hr
      refine fin _ hr ?_
      · unfold due
        rw [due0_tx (.inr rfl), List.map_cons, dueGo_cons, stop_l hn _ _ (by decide)]
        dsimp only
        rw [step_ws hn _ _ _ _ _ _ _ _ (.inl rfl)]
        have e1 : dot ++ [46, 97, 10, 39, 39] ++ [39] ++ K.nl.tx n = dot ++ [46, 97, 10, 39, 39, 39] ++ [10] := by simp [K.tx]
        rw [e1]
        rfl
  · have hs : srcT n dot 39 e ks = ((dot ++ [46, 97, 10, 39, 39]) ++ [39]) ++ (bd n dot (39 == 10) ks ++ tailT dot 39 e) := by
      unfold srcT; simp
    have hr := lit_run hn hn2 hdot hmore he (by omega) ks (dot ++ [46, 97, 10, 39, 39]) 39 0 hs (fun _ => hnl)
    have hh := head_no (e := e) hn (.inr rfl : 39 = 34 ∨ 39 = 39) dot hnl
    have e0 : dot ++ [46, 97, 10, 39, 39, 39] = (dot ++ [46, 97, 10, 39, 39]) ++ [39] := by simp
    rw [e0] at hh
    rw [← hh] at hr
    refine fin _ hr ?_
    · unfold due
      rw [due0_tx (.inr rfl)]
end Mine.PL
end
section
open PySem PySem.W PyProof.Rows PySem.Builtin PySem.Builtin.Str PySem.StrLaws
set_option Elab.async false
set_option compiler.extract_closed false
set_option linter.unusedVariables false
set_option linter.unusedSimpArgs false
set_option linter.constructorNameAsVariable false
namespace Mine.PL
theorem mark_tx (v : Int) : ∃ m, (m = 34 ∨ m = 39) ∧ markOf v = tx [m] := by
  unfold markOf
  split
  · exact ⟨39, .inr rfl, ap_tx⟩
  · exact ⟨34, .inl rfl, q_tx⟩
theorem asked_m {n m : Nat} (hm : m = 34 ∨ m = 39) (hn : 128 ≤ n) (hn2 : n < 0x110000) {dot : List Nat} (hdot : dot = [] ∨ dot = [46]) {e : Nat} {more : Int} (hmore : more = 0 ∨ more = 1 ∨ more = 2) (he : e = more.toNat) (ks : List K) (hks : ks.length ≤ 6) :
    ∃ o, Asked (tx (srcT n dot m e ks)) ((dot.length : Int) + 3) (tx [m]) o ∧ due (tx [m]) (tx dot) more (ks.map fun q => tx (q.tx n)) = dueO o ∧ ∀ e r, o = .ok e r → PyData.strOk r = true := by
  rcases hm with rfl | rfl
  · exact asked_b hn hn2 hdot hmore he ks hks
  · exact asked_l hn hn2 hdot hmore he ks hks
theorem all_held : AllHeld := by
  rintro v odd h0 h1 ⟨n, hodd, hn, hn2, _⟩
  have hodd : odd = tx [n] := hodd
  obtain ⟨hfl, hf⟩ := figs_ok v
  obtain ⟨ks, k1, k2, k3⟩ := ks_of n (figList v) hf
  have hds : dsOf v odd = ks.map fun q => (tx (q.1.tx n), q.2) := by unfold dsOf; rw [hodd]; exact k3
  obtain ⟨m, hm, hmark⟩ := mark_tx v
  have g0 := Int.fmod_nonneg_of_pos (v.fdiv 2) (b := 3) (by decide)
  have g1 := Int.fmod_lt_of_pos (v.fdiv 2) (b := 3) (by decide)
  have hmore : (v.fdiv 2).fmod 3 = 0 ∨ (v.fdiv 2).fmod 3 = 1 ∨ (v.fdiv 2).fmod 3 = 2 := by omega
  obtain ⟨X, w1, w2, w3⟩ := write_tx hn hm hmore ks k2
  have hkl : (ks.map (·.1)).length ≤ 6 := by rw [List.length_map]; omega
  have he2 : ((v.fdiv 2).fmod 3).toNat ≤ 2 := by omega
  have hR1 := R_mail hn hm he2 (ks.map (·.1))
  have hR2 := R_recv n m ((v.fdiv 2).fmod 3).toNat (ks.map (·.1))
  have hq := quoted_tx X (by omega)
  rw [w2] at hq
  have hz : tx (E (stf true (R n m ((v.fdiv 2).fmod 3).toNat (ks.map (·.1))))) = tx (E (srcT n [46] m ((v.fdiv 2).fmod 3).toNat (ks.map (·.1)))) := by rw [hR1]
  rw [hz] at hq
  have h13 : ∀ c ∈ srcT n [46] m ((v.fdiv 2).fmod 3).toNat (ks.map (·.1)), c ≠ 13 := by
    rw [← hR1]
    exact stf_no13 _ _ (R_no13 hn hm _)
  have hl := src_len (n := n) (m := m) (e := ((v.fdiv 2).fmod 3).toNat) (dot := [46]) (by simp) he2 hkl
  have hl6 := len_src (n := n) (m := m) (e := ((v.fdiv 2).fmod 3).toNat) [46] (ks.map (·.1))
  have hEl := E_len (srcT n [46] m ((v.fdiv 2).fmod 3).toNat (ks.map (·.1)))
  have hE2 : (srcT n [46] m ((v.fdiv 2).fmod 3).toNat (ks.map (·.1))).length ≤ (E (srcT n [46] m ((v.fdiv 2).fmod 3).toNat (ks.map (·.1)))).length := by
    generalize srcT n [46] m ((v.fdiv 2).fmod 3).toNat (ks.map (·.1)) = t
    induction t with
    | nil => exact Nat.le_refl _
    | cons c t ih =>
      show _ ≤ ((if c = 10 then [13, 10] else [c]) ++ E t).length
      rw [List.length_append, List.length_cons]
      split <;> simp <;> omega
  have hsp := split_rows h13 (by omega)
  have hrl := rows_len (srcT n [46] m ((v.fdiv 2).fmod 3).toNat (ks.map (·.1)))
  have hsts : (dsOf v odd).map (·.1) = (ks.map (·.1)).map fun q => tx (q.tx n) := by
    rw [hds, List.map_map, List.map_map]; rfl
  obtain ⟨o₁, a1, a2, a3⟩ := asked_m (dot := [46]) hm hn (by omega) (.inr rfl) hmore rfl (ks.map (·.1)) hkl
  obtain ⟨o₂, b1, b2, b3⟩ := asked_m (dot := []) hm hn (by omega) (.inl rfl) hmore rfl (ks.map (·.1)) hkl
  refine ⟨tx (E (R n m ((v.fdiv 2).fmod 3).toNat (ks.map (·.1)))), tx (E (srcT n [46] m ((v.fdiv 2).fmod 3).toNat (ks.map (·.1)))), o₁, o₂, ⟨?_, ?_, ?_, ?_, ?_, ?_, ?_, a3, ?_, ?_, b3⟩⟩
  rotate_left
  · rw [hds, hmark, w1]; exact hq
  · rw [tx_len]; omega
  · rw [hsp, List.length_map]
    have := hrl.1
    omega
  · intro r hr
    rw [hsp] at hr
    obtain ⟨x, hx, rfl⟩ := List.mem_map.mp hr
    have := hrl.2 x hx
    rw [tx_len]; omega
  · rw [hsp, join_rows, hmark]
    exact a1
  · rw [hsts, hmark, d_tx]
    exact a2
  · rw [hsp, ← hR1, join_uns, hR2, hmark]
    exact b1
  · rw [hsts, hmark, e_tx]
    exact b2
  · rw [hds]
    refine ⟨by rw [List.length_map]; omega, fun d hd => ?_⟩
    obtain ⟨q, hq', rfl⟩ := List.mem_map.mp hd
    have := kx_len n q.1
    exact ⟨by rw [tx_len]; exact this.1, by rw [tx_len]; exact this.2, k2 q hq'⟩
end Mine.PL
end
section
open PySem PySem.W PyProof.Rows
set_option Elab.async false
set_option compiler.extract_closed false
set_option linter.unusedVariables false
set_option maxRecDepth 100000
namespace Mine
structure FS where
  es : Array (Int × Value)
  ep : Nat
  t : SetTable
noncomputable def frz (F : FS) : Obj := ⟨.type "frozenset", none, .set F.es F.ep F.t, #[]⟩
noncomputable def upd (x : Nat → FS) (a : Nat) (F : FS) (i : Nat) : FS := match Nat.beq i a with
  | true => F
  | false => x i
noncomputable def sit (s : Value) (i : Nat) : Obj := ⟨.type "str_ascii_iterator", none, .fields [s, .int i 0].toArray, [].toArray⟩
noncomputable def ri (i : Nat) : Obj := ⟨.type "range_iterator", none, .fields [.int i 0, .int (32 - i : Int) 0, .int (1) 0].toArray, [].toArray⟩
noncomputable def ed0 (P : Params) : Obj := ⟨.type "frame", none, .dict [⟨PyData.keyHash P (Str.ofString ".0"), .str (Str.ofString ".0") 339, .ref 69⟩].toArray 1, [].toArray⟩
noncomputable def ed (P : Params) (i : Nat) : Obj := ⟨.type "frame", none, .dict [⟨PyData.keyHash P (Str.ofString ".0"), .str (Str.ofString ".0") 339, .ref 69⟩, ⟨PyData.keyHash P (Str.ofString "i"), .str (Str.ofString "i") 343, .int i (342 + 4 * i)⟩].toArray 2, [].toArray⟩
noncomputable def o0_3 (P : Params) : Obj := ⟨.type "dict", none, .dict [⟨PyData.keyHash P (Str.ofString "__name__"), .str (Str.ofString "__name__") 165, .str (Str.ofString "__main__") 164⟩, ⟨PyData.keyHash P (Str.ofString "__doc__"), .str (Str.ofString "__doc__") 166, .none⟩, ⟨PyData.keyHash P (Str.ofString "__package__"), .str (Str.ofString "__package__") 167, .none⟩, ⟨PyData.keyHash P (Str.ofString "__loader__"), .str (Str.ofString "__loader__") 168, .builtin "__main__.__loader__#opaque"⟩, ⟨PyData.keyHash P (Str.ofString "__spec__"), .str (Str.ofString "__spec__") 169, .none⟩, ⟨PyData.keyHash P (Str.ofString "__annotations__"), .str (Str.ofString "__annotations__") 170, .ref 6⟩, ⟨PyData.keyHash P (Str.ofString "__builtins__"), .str (Str.ofString "__builtins__") 171, .ref 4⟩, ⟨PyData.keyHash P (Str.ofString "__file__"), .str (Str.ofString "__file__") 173, .str (Str.ofString "/claim/cut.py") 172⟩, ⟨PyData.keyHash P (Str.ofString "__cached__"), .str (Str.ofString "__cached__") 174, .none⟩, ⟨PyData.keyHash P (Str.ofString "_sre"), .str (Str.ofString "_sre") 275, .ref 12⟩].toArray 10, [].toArray⟩
noncomputable def oa_29 (P : Params) : Obj := ⟨.none, none, .fields [].toArray, [].toArray⟩
noncomputable def oa_3 (P : Params) : Obj := ⟨.type "dict", none, .dict [⟨PyData.keyHash P (Str.ofString "__name__"), .str (Str.ofString "__name__") 165, .str (Str.ofString "__main__") 164⟩, ⟨PyData.keyHash P (Str.ofString "__doc__"), .str (Str.ofString "__doc__") 166, .none⟩, ⟨PyData.keyHash P (Str.ofString "__package__"), .str (Str.ofString "__package__") 167, .none⟩, ⟨PyData.keyHash P (Str.ofString "__loader__"), .str (Str.ofString "__loader__") 168, .builtin "__main__.__loader__#opaque"⟩, ⟨PyData.keyHash P (Str.ofString "__spec__"), .str (Str.ofString "__spec__") 169, .none⟩, ⟨PyData.keyHash P (Str.ofString "__annotations__"), .str (Str.ofString "__annotations__") 170, .ref 6⟩, ⟨PyData.keyHash P (Str.ofString "__builtins__"), .str (Str.ofString "__builtins__") 171, .ref 4⟩, ⟨PyData.keyHash P (Str.ofString "__file__"), .str (Str.ofString "__file__") 173, .str (Str.ofString "/claim/cut.py") 172⟩, ⟨PyData.keyHash P (Str.ofString "__cached__"), .str (Str.ofString "__cached__") 174, .none⟩, ⟨PyData.keyHash P (Str.ofString "_sre"), .str (Str.ofString "_sre") 275, .ref 12⟩].toArray 10, [].toArray⟩
noncomputable def oq10_3 (P : Params) : Obj := ⟨.type "dict", none, .dict [⟨PyData.keyHash P (Str.ofString "__name__"), .str (Str.ofString "__name__") 165, .str (Str.ofString "cpy313.tomllib._parser") 329⟩, ⟨PyData.keyHash P (Str.ofString "__doc__"), .str (Str.ofString "__doc__") 166, .none⟩, ⟨PyData.keyHash P (Str.ofString "__package__"), .str (Str.ofString "__package__") 167, .none⟩, ⟨PyData.keyHash P (Str.ofString "__loader__"), .str (Str.ofString "__loader__") 168, .builtin "__main__.__loader__#opaque"⟩, ⟨PyData.keyHash P (Str.ofString "__spec__"), .str (Str.ofString "__spec__") 169, .none⟩, ⟨PyData.keyHash P (Str.ofString "__annotations__"), .str (Str.ofString "__annotations__") 170, .ref 6⟩, ⟨PyData.keyHash P (Str.ofString "__builtins__"), .str (Str.ofString "__builtins__") 171, .ref 4⟩, ⟨PyData.keyHash P (Str.ofString "__file__"), .str (Str.ofString "__file__") 173, .str (Str.ofString "/claim/cut.py") 172⟩, ⟨PyData.keyHash P (Str.ofString "__cached__"), .str (Str.ofString "__cached__") 174, .none⟩, ⟨PyData.keyHash P (Str.ofString "_sre"), .str (Str.ofString "_sre") 275, .ref 12⟩, ⟨PyData.keyHash P (Str.ofString "_wall"), .str (Str.ofString "_wall") 288, .ref 38⟩, ⟨PyData.keyHash P (Str.ofString "_WallAttr"), .str (Str.ofString "_WallAttr") 328, .ref 63⟩, ⟨PyData.keyHash P (Str.ofString "ASCII_CTRL"), .str (Str.ofString "ASCII_CTRL") 474, .ref 84⟩, ⟨PyData.keyHash P (Str.ofString "ILLEGAL_BASIC_STR_CHARS"), .str (Str.ofString "ILLEGAL_BASIC_STR_CHARS") 478, .ref 89⟩, ⟨PyData.keyHash P (Str.ofString "ILLEGAL_MULTILINE_BASIC_STR_CHARS"), .str (Str.ofString "ILLEGAL_MULTILINE_BASIC_STR_CHARS") 484, .ref 94⟩, ⟨PyData.keyHash P (Str.ofString "ILLEGAL_MULTILINE_LITERAL_STR_CHARS"), .str (Str.ofString "ILLEGAL_MULTILINE_LITERAL_STR_CHARS") 485, .ref 94⟩, ⟨PyData.keyHash P (Str.ofString "TOML_WS"), .str (Str.ofString "TOML_WS") 491, .ref 95⟩, ⟨PyData.keyHash P (Str.ofString "TOML_WS_AND_NEWLINE"), .str (Str.ofString "TOML_WS_AND_NEWLINE") 495, .ref 103⟩, ⟨PyData.keyHash P (Str.ofString "digits"), .str (Str.ofString "digits") 497, .str (Str.ofString "0123456789") 496⟩, ⟨PyData.keyHash P (Str.ofString "hexdigits"), .str (Str.ofString "hexdigits") 502, .str (Str.ofString "0123456789abcdefABCDEF") 501⟩].toArray 20, [].toArray⟩
noncomputable def oq11_29 (P : Params) : Obj := ⟨.none, none, .fields [.int (2) 0, .int (0) 0, .ref 37, .int (5) 0, .int (0) 0, .ref 44, .int (12) 0, .int (23) 0, .ref 72].toArray, [].toArray⟩
noncomputable def oq11_3 (P : Params) : Obj := ⟨.type "dict", none, .dict [⟨PyData.keyHash P (Str.ofString "__name__"), .str (Str.ofString "__name__") 165, .str (Str.ofString "cpy313.tomllib._parser") 329⟩, ⟨PyData.keyHash P (Str.ofString "__doc__"), .str (Str.ofString "__doc__") 166, .none⟩, ⟨PyData.keyHash P (Str.ofString "__package__"), .str (Str.ofString "__package__") 167, .none⟩, ⟨PyData.keyHash P (Str.ofString "__loader__"), .str (Str.ofString "__loader__") 168, .builtin "__main__.__loader__#opaque"⟩, ⟨PyData.keyHash P (Str.ofString "__spec__"), .str (Str.ofString "__spec__") 169, .none⟩, ⟨PyData.keyHash P (Str.ofString "__annotations__"), .str (Str.ofString "__annotations__") 170, .ref 6⟩, ⟨PyData.keyHash P (Str.ofString "__builtins__"), .str (Str.ofString "__builtins__") 171, .ref 4⟩, ⟨PyData.keyHash P (Str.ofString "__file__"), .str (Str.ofString "__file__") 173, .str (Str.ofString "/claim/cut.py") 172⟩, ⟨PyData.keyHash P (Str.ofString "__cached__"), .str (Str.ofString "__cached__") 174, .none⟩, ⟨PyData.keyHash P (Str.ofString "_sre"), .str (Str.ofString "_sre") 275, .ref 12⟩, ⟨PyData.keyHash P (Str.ofString "_wall"), .str (Str.ofString "_wall") 288, .ref 38⟩, ⟨PyData.keyHash P (Str.ofString "_WallAttr"), .str (Str.ofString "_WallAttr") 328, .ref 63⟩, ⟨PyData.keyHash P (Str.ofString "ASCII_CTRL"), .str (Str.ofString "ASCII_CTRL") 474, .ref 84⟩, ⟨PyData.keyHash P (Str.ofString "ILLEGAL_BASIC_STR_CHARS"), .str (Str.ofString "ILLEGAL_BASIC_STR_CHARS") 478, .ref 89⟩, ⟨PyData.keyHash P (Str.ofString "ILLEGAL_MULTILINE_BASIC_STR_CHARS"), .str (Str.ofString "ILLEGAL_MULTILINE_BASIC_STR_CHARS") 484, .ref 94⟩, ⟨PyData.keyHash P (Str.ofString "ILLEGAL_MULTILINE_LITERAL_STR_CHARS"), .str (Str.ofString "ILLEGAL_MULTILINE_LITERAL_STR_CHARS") 485, .ref 94⟩, ⟨PyData.keyHash P (Str.ofString "TOML_WS"), .str (Str.ofString "TOML_WS") 491, .ref 95⟩, ⟨PyData.keyHash P (Str.ofString "TOML_WS_AND_NEWLINE"), .str (Str.ofString "TOML_WS_AND_NEWLINE") 495, .ref 103⟩, ⟨PyData.keyHash P (Str.ofString "digits"), .str (Str.ofString "digits") 497, .str (Str.ofString "0123456789") 496⟩, ⟨PyData.keyHash P (Str.ofString "hexdigits"), .str (Str.ofString "hexdigits") 502, .str (Str.ofString "0123456789abcdefABCDEF") 501⟩, ⟨PyData.keyHash P (Str.ofString "HEXDIGIT_CHARS"), .str (Str.ofString "HEXDIGIT_CHARS") 547, .ref 104⟩].toArray 21, [].toArray⟩
noncomputable def oq14_29 (P : Params) : Obj := ⟨.none, none, .fields [.int (2) 0, .int (0) 0, .ref 37, .int (5) 0, .int (0) 0, .ref 44, .int (12) 0, .int (23) 0, .ref 72].toArray, [].toArray⟩
noncomputable def oq14_3 (P : Params) : Obj := ⟨.type "dict", none, .dict [⟨PyData.keyHash P (Str.ofString "__name__"), .str (Str.ofString "__name__") 165, .str (Str.ofString "cpy313.tomllib._parser") 552⟩, ⟨PyData.keyHash P (Str.ofString "__doc__"), .str (Str.ofString "__doc__") 166, .none⟩, ⟨PyData.keyHash P (Str.ofString "__package__"), .str (Str.ofString "__package__") 167, .none⟩, ⟨PyData.keyHash P (Str.ofString "__loader__"), .str (Str.ofString "__loader__") 168, .builtin "__main__.__loader__#opaque"⟩, ⟨PyData.keyHash P (Str.ofString "__spec__"), .str (Str.ofString "__spec__") 169, .none⟩, ⟨PyData.keyHash P (Str.ofString "__annotations__"), .str (Str.ofString "__annotations__") 170, .ref 6⟩, ⟨PyData.keyHash P (Str.ofString "__builtins__"), .str (Str.ofString "__builtins__") 171, .ref 4⟩, ⟨PyData.keyHash P (Str.ofString "__file__"), .str (Str.ofString "__file__") 173, .str (Str.ofString "/claim/cut.py") 172⟩, ⟨PyData.keyHash P (Str.ofString "__cached__"), .str (Str.ofString "__cached__") 174, .none⟩, ⟨PyData.keyHash P (Str.ofString "_sre"), .str (Str.ofString "_sre") 275, .ref 12⟩, ⟨PyData.keyHash P (Str.ofString "_wall"), .str (Str.ofString "_wall") 288, .ref 38⟩, ⟨PyData.keyHash P (Str.ofString "_WallAttr"), .str (Str.ofString "_WallAttr") 328, .ref 63⟩, ⟨PyData.keyHash P (Str.ofString "ASCII_CTRL"), .str (Str.ofString "ASCII_CTRL") 474, .ref 84⟩, ⟨PyData.keyHash P (Str.ofString "ILLEGAL_BASIC_STR_CHARS"), .str (Str.ofString "ILLEGAL_BASIC_STR_CHARS") 478, .ref 89⟩, ⟨PyData.keyHash P (Str.ofString "ILLEGAL_MULTILINE_BASIC_STR_CHARS"), .str (Str.ofString "ILLEGAL_MULTILINE_BASIC_STR_CHARS") 484, .ref 94⟩, ⟨PyData.keyHash P (Str.ofString "ILLEGAL_MULTILINE_LITERAL_STR_CHARS"), .str (Str.ofString "ILLEGAL_MULTILINE_LITERAL_STR_CHARS") 485, .ref 94⟩, ⟨PyData.keyHash P (Str.ofString "TOML_WS"), .str (Str.ofString "TOML_WS") 491, .ref 95⟩, ⟨PyData.keyHash P (Str.ofString "TOML_WS_AND_NEWLINE"), .str (Str.ofString "TOML_WS_AND_NEWLINE") 495, .ref 103⟩, ⟨PyData.keyHash P (Str.ofString "digits"), .str (Str.ofString "digits") 497, .str (Str.ofString "0123456789") 496⟩, ⟨PyData.keyHash P (Str.ofString "hexdigits"), .str (Str.ofString "hexdigits") 502, .str (Str.ofString "0123456789abcdefABCDEF") 501⟩, ⟨PyData.keyHash P (Str.ofString "HEXDIGIT_CHARS"), .str (Str.ofString "HEXDIGIT_CHARS") 547, .ref 104⟩, ⟨PyData.keyHash P (Str.ofString "MappingProxyType"), .str (Str.ofString "MappingProxyType") 551, .type "mappingproxy"⟩].toArray 22, [].toArray⟩
noncomputable def oq15_29 (P : Params) : Obj := ⟨.none, none, .fields [.int (2) 0, .int (0) 0, .ref 37, .int (5) 0, .int (0) 0, .ref 44, .int (12) 0, .int (23) 0, .ref 72].toArray, [].toArray⟩
noncomputable def oq15_3 (P : Params) : Obj := ⟨.type "dict", none, .dict [⟨PyData.keyHash P (Str.ofString "__name__"), .str (Str.ofString "__name__") 165, .str (Str.ofString "cpy313.tomllib._parser") 552⟩, ⟨PyData.keyHash P (Str.ofString "__doc__"), .str (Str.ofString "__doc__") 166, .none⟩, ⟨PyData.keyHash P (Str.ofString "__package__"), .str (Str.ofString "__package__") 167, .none⟩, ⟨PyData.keyHash P (Str.ofString "__loader__"), .str (Str.ofString "__loader__") 168, .builtin "__main__.__loader__#opaque"⟩, ⟨PyData.keyHash P (Str.ofString "__spec__"), .str (Str.ofString "__spec__") 169, .none⟩, ⟨PyData.keyHash P (Str.ofString "__annotations__"), .str (Str.ofString "__annotations__") 170, .ref 6⟩, ⟨PyData.keyHash P (Str.ofString "__builtins__"), .str (Str.ofString "__builtins__") 171, .ref 4⟩, ⟨PyData.keyHash P (Str.ofString "__file__"), .str (Str.ofString "__file__") 173, .str (Str.ofString "/claim/cut.py") 172⟩, ⟨PyData.keyHash P (Str.ofString "__cached__"), .str (Str.ofString "__cached__") 174, .none⟩, ⟨PyData.keyHash P (Str.ofString "_sre"), .str (Str.ofString "_sre") 275, .ref 12⟩, ⟨PyData.keyHash P (Str.ofString "_wall"), .str (Str.ofString "_wall") 288, .ref 38⟩, ⟨PyData.keyHash P (Str.ofString "_WallAttr"), .str (Str.ofString "_WallAttr") 328, .ref 63⟩, ⟨PyData.keyHash P (Str.ofString "ASCII_CTRL"), .str (Str.ofString "ASCII_CTRL") 474, .ref 84⟩, ⟨PyData.keyHash P (Str.ofString "ILLEGAL_BASIC_STR_CHARS"), .str (Str.ofString "ILLEGAL_BASIC_STR_CHARS") 478, .ref 89⟩, ⟨PyData.keyHash P (Str.ofString "ILLEGAL_MULTILINE_BASIC_STR_CHARS"), .str (Str.ofString "ILLEGAL_MULTILINE_BASIC_STR_CHARS") 484, .ref 94⟩, ⟨PyData.keyHash P (Str.ofString "ILLEGAL_MULTILINE_LITERAL_STR_CHARS"), .str (Str.ofString "ILLEGAL_MULTILINE_LITERAL_STR_CHARS") 485, .ref 94⟩, ⟨PyData.keyHash P (Str.ofString "TOML_WS"), .str (Str.ofString "TOML_WS") 491, .ref 95⟩, ⟨PyData.keyHash P (Str.ofString "TOML_WS_AND_NEWLINE"), .str (Str.ofString "TOML_WS_AND_NEWLINE") 495, .ref 103⟩, ⟨PyData.keyHash P (Str.ofString "digits"), .str (Str.ofString "digits") 497, .str (Str.ofString "0123456789") 496⟩, ⟨PyData.keyHash P (Str.ofString "hexdigits"), .str (Str.ofString "hexdigits") 502, .str (Str.ofString "0123456789abcdefABCDEF") 501⟩, ⟨PyData.keyHash P (Str.ofString "HEXDIGIT_CHARS"), .str (Str.ofString "HEXDIGIT_CHARS") 547, .ref 104⟩, ⟨PyData.keyHash P (Str.ofString "MappingProxyType"), .str (Str.ofString "MappingProxyType") 551, .type "mappingproxy"⟩, ⟨PyData.keyHash P (Str.ofString "BASIC_STR_ESCAPE_REPLACEMENTS"), .str (Str.ofString "BASIC_STR_ESCAPE_REPLACEMENTS") 575, .ref 110⟩].toArray 23, [].toArray⟩
noncomputable def oq20_29 (P : Params) : Obj := ⟨.none, none, .fields [.int (2) 0, .int (0) 0, .ref 37, .int (5) 0, .int (0) 0, .ref 44, .int (12) 0, .int (23) 0, .ref 72, .int (25) 0, .int (0) 0, .ref 116, .int (27) 0, .int (0) 0, .ref 129, .int (34) 0, .int (0) 0, .ref 136, .int (46) 0, .int (0) 0, .ref 144, .int (69) 0, .int (0) 0, .ref 151].toArray, [].toArray⟩
noncomputable def oq20_3 (P : Params) : Obj := ⟨.type "dict", none, .dict [⟨PyData.keyHash P (Str.ofString "__name__"), .str (Str.ofString "__name__") 165, .str (Str.ofString "cpy313.tomllib._parser") 552⟩, ⟨PyData.keyHash P (Str.ofString "__doc__"), .str (Str.ofString "__doc__") 166, .none⟩, ⟨PyData.keyHash P (Str.ofString "__package__"), .str (Str.ofString "__package__") 167, .none⟩, ⟨PyData.keyHash P (Str.ofString "__loader__"), .str (Str.ofString "__loader__") 168, .builtin "__main__.__loader__#opaque"⟩, ⟨PyData.keyHash P (Str.ofString "__spec__"), .str (Str.ofString "__spec__") 169, .none⟩, ⟨PyData.keyHash P (Str.ofString "__annotations__"), .str (Str.ofString "__annotations__") 170, .ref 6⟩, ⟨PyData.keyHash P (Str.ofString "__builtins__"), .str (Str.ofString "__builtins__") 171, .ref 4⟩, ⟨PyData.keyHash P (Str.ofString "__file__"), .str (Str.ofString "__file__") 173, .str (Str.ofString "/claim/cut.py") 172⟩, ⟨PyData.keyHash P (Str.ofString "__cached__"), .str (Str.ofString "__cached__") 174, .none⟩, ⟨PyData.keyHash P (Str.ofString "_sre"), .str (Str.ofString "_sre") 275, .ref 12⟩, ⟨PyData.keyHash P (Str.ofString "_wall"), .str (Str.ofString "_wall") 288, .ref 38⟩, ⟨PyData.keyHash P (Str.ofString "_WallAttr"), .str (Str.ofString "_WallAttr") 328, .ref 63⟩, ⟨PyData.keyHash P (Str.ofString "ASCII_CTRL"), .str (Str.ofString "ASCII_CTRL") 474, .ref 84⟩, ⟨PyData.keyHash P (Str.ofString "ILLEGAL_BASIC_STR_CHARS"), .str (Str.ofString "ILLEGAL_BASIC_STR_CHARS") 478, .ref 89⟩, ⟨PyData.keyHash P (Str.ofString "ILLEGAL_MULTILINE_BASIC_STR_CHARS"), .str (Str.ofString "ILLEGAL_MULTILINE_BASIC_STR_CHARS") 484, .ref 94⟩, ⟨PyData.keyHash P (Str.ofString "ILLEGAL_MULTILINE_LITERAL_STR_CHARS"), .str (Str.ofString "ILLEGAL_MULTILINE_LITERAL_STR_CHARS") 485, .ref 94⟩, ⟨PyData.keyHash P (Str.ofString "TOML_WS"), .str (Str.ofString "TOML_WS") 491, .ref 95⟩, ⟨PyData.keyHash P (Str.ofString "TOML_WS_AND_NEWLINE"), .str (Str.ofString "TOML_WS_AND_NEWLINE") 495, .ref 103⟩, ⟨PyData.keyHash P (Str.ofString "digits"), .str (Str.ofString "digits") 497, .str (Str.ofString "0123456789") 496⟩, ⟨PyData.keyHash P (Str.ofString "hexdigits"), .str (Str.ofString "hexdigits") 502, .str (Str.ofString "0123456789abcdefABCDEF") 501⟩, ⟨PyData.keyHash P (Str.ofString "HEXDIGIT_CHARS"), .str (Str.ofString "HEXDIGIT_CHARS") 547, .ref 104⟩, ⟨PyData.keyHash P (Str.ofString "MappingProxyType"), .str (Str.ofString "MappingProxyType") 551, .type "mappingproxy"⟩, ⟨PyData.keyHash P (Str.ofString "BASIC_STR_ESCAPE_REPLACEMENTS"), .str (Str.ofString "BASIC_STR_ESCAPE_REPLACEMENTS") 575, .ref 110⟩, ⟨PyData.keyHash P (Str.ofString "TOMLDecodeError"), .str (Str.ofString "TOMLDecodeError") 593, .ref 120⟩, ⟨PyData.keyHash P (Str.ofString "skip_chars"), .str (Str.ofString "skip_chars") 602, .ref 130⟩, ⟨PyData.keyHash P (Str.ofString "skip_until"), .str (Str.ofString "skip_until") 614, .ref 137⟩, ⟨PyData.keyHash P (Str.ofString "parse_basic_str_escape"), .str (Str.ofString "parse_basic_str_escape") 626, .ref 145⟩, ⟨PyData.keyHash P (Str.ofString "parse_basic_str_escape_multiline"), .str (Str.ofString "parse_basic_str_escape_multiline") 634, .ref 152⟩].toArray 28, [].toArray⟩
noncomputable def oq28_29 (P : Params) : Obj := ⟨.none, none, .fields [.int (2) 0, .int (0) 0, .ref 37, .int (5) 0, .int (0) 0, .ref 44, .int (12) 0, .int (23) 0, .ref 72, .int (25) 0, .int (0) 0, .ref 116, .int (27) 0, .int (0) 0, .ref 129, .int (34) 0, .int (0) 0, .ref 136, .int (46) 0, .int (0) 0, .ref 144, .int (69) 0, .int (0) 0, .ref 151, .int (71) 0, .int (0) 0, .ref 158, .int (80) 0, .int (0) 0, .ref 165, .int (99) 0, .int (0) 0, .ref 172, .int (129) 0, .int (0) 0, .ref 179, .int (141) 0, .int (0) 0, .ref 186].toArray, [].toArray⟩
noncomputable def oq28_3 (P : Params) : Obj := ⟨.type "dict", none, .dict [⟨PyData.keyHash P (Str.ofString "__name__"), .str (Str.ofString "__name__") 165, .str (Str.ofString "cpy313.smtplib") 690⟩, ⟨PyData.keyHash P (Str.ofString "__doc__"), .str (Str.ofString "__doc__") 166, .none⟩, ⟨PyData.keyHash P (Str.ofString "__package__"), .str (Str.ofString "__package__") 167, .none⟩, ⟨PyData.keyHash P (Str.ofString "__loader__"), .str (Str.ofString "__loader__") 168, .builtin "__main__.__loader__#opaque"⟩, ⟨PyData.keyHash P (Str.ofString "__spec__"), .str (Str.ofString "__spec__") 169, .none⟩, ⟨PyData.keyHash P (Str.ofString "__annotations__"), .str (Str.ofString "__annotations__") 170, .ref 6⟩, ⟨PyData.keyHash P (Str.ofString "__builtins__"), .str (Str.ofString "__builtins__") 171, .ref 4⟩, ⟨PyData.keyHash P (Str.ofString "__file__"), .str (Str.ofString "__file__") 173, .str (Str.ofString "/claim/cut.py") 172⟩, ⟨PyData.keyHash P (Str.ofString "__cached__"), .str (Str.ofString "__cached__") 174, .none⟩, ⟨PyData.keyHash P (Str.ofString "_sre"), .str (Str.ofString "_sre") 275, .ref 12⟩, ⟨PyData.keyHash P (Str.ofString "_wall"), .str (Str.ofString "_wall") 288, .ref 38⟩, ⟨PyData.keyHash P (Str.ofString "_WallAttr"), .str (Str.ofString "_WallAttr") 328, .ref 63⟩, ⟨PyData.keyHash P (Str.ofString "ASCII_CTRL"), .str (Str.ofString "ASCII_CTRL") 474, .ref 84⟩, ⟨PyData.keyHash P (Str.ofString "ILLEGAL_BASIC_STR_CHARS"), .str (Str.ofString "ILLEGAL_BASIC_STR_CHARS") 478, .ref 89⟩, ⟨PyData.keyHash P (Str.ofString "ILLEGAL_MULTILINE_BASIC_STR_CHARS"), .str (Str.ofString "ILLEGAL_MULTILINE_BASIC_STR_CHARS") 484, .ref 94⟩, ⟨PyData.keyHash P (Str.ofString "ILLEGAL_MULTILINE_LITERAL_STR_CHARS"), .str (Str.ofString "ILLEGAL_MULTILINE_LITERAL_STR_CHARS") 485, .ref 94⟩, ⟨PyData.keyHash P (Str.ofString "TOML_WS"), .str (Str.ofString "TOML_WS") 491, .ref 95⟩, ⟨PyData.keyHash P (Str.ofString "TOML_WS_AND_NEWLINE"), .str (Str.ofString "TOML_WS_AND_NEWLINE") 495, .ref 103⟩, ⟨PyData.keyHash P (Str.ofString "digits"), .str (Str.ofString "digits") 497, .str (Str.ofString "0123456789") 496⟩, ⟨PyData.keyHash P (Str.ofString "hexdigits"), .str (Str.ofString "hexdigits") 502, .str (Str.ofString "0123456789abcdefABCDEF") 501⟩, ⟨PyData.keyHash P (Str.ofString "HEXDIGIT_CHARS"), .str (Str.ofString "HEXDIGIT_CHARS") 547, .ref 104⟩, ⟨PyData.keyHash P (Str.ofString "MappingProxyType"), .str (Str.ofString "MappingProxyType") 551, .type "mappingproxy"⟩, ⟨PyData.keyHash P (Str.ofString "BASIC_STR_ESCAPE_REPLACEMENTS"), .str (Str.ofString "BASIC_STR_ESCAPE_REPLACEMENTS") 575, .ref 110⟩, ⟨PyData.keyHash P (Str.ofString "TOMLDecodeError"), .str (Str.ofString "TOMLDecodeError") 593, .ref 120⟩, ⟨PyData.keyHash P (Str.ofString "skip_chars"), .str (Str.ofString "skip_chars") 602, .ref 130⟩, ⟨PyData.keyHash P (Str.ofString "skip_until"), .str (Str.ofString "skip_until") 614, .ref 137⟩, ⟨PyData.keyHash P (Str.ofString "parse_basic_str_escape"), .str (Str.ofString "parse_basic_str_escape") 626, .ref 145⟩, ⟨PyData.keyHash P (Str.ofString "parse_basic_str_escape_multiline"), .str (Str.ofString "parse_basic_str_escape_multiline") 634, .ref 152⟩, ⟨PyData.keyHash P (Str.ofString "parse_hex_char"), .str (Str.ofString "parse_hex_char") 645, .ref 159⟩, ⟨PyData.keyHash P (Str.ofString "parse_multiline_str"), .str (Str.ofString "parse_multiline_str") 657, .ref 166⟩, ⟨PyData.keyHash P (Str.ofString "parse_basic_str"), .str (Str.ofString "parse_basic_str") 672, .ref 173⟩, ⟨PyData.keyHash P (Str.ofString "suffixed_err"), .str (Str.ofString "suffixed_err") 682, .ref 180⟩, ⟨PyData.keyHash P (Str.ofString "is_unicode_scalar_value"), .str (Str.ofString "is_unicode_scalar_value") 689, .ref 187⟩, ⟨PyData.keyHash P (Str.ofString "_twin_re_1"), .str (Str.ofString "_twin_re_1") 707, .ref 192⟩, ⟨PyData.keyHash P (Str.ofString "_twin_re_2"), .str (Str.ofString "_twin_re_2") 749, .ref 197⟩].toArray 35, [].toArray⟩
noncomputable def oq2_29 (P : Params) : Obj := ⟨.none, none, .fields [.int (2) 0, .int (0) 0, .ref 37, .int (5) 0, .int (0) 0, .ref 44].toArray, [].toArray⟩
noncomputable def oq2_3 (P : Params) : Obj := ⟨.type "dict", none, .dict [⟨PyData.keyHash P (Str.ofString "__name__"), .str (Str.ofString "__name__") 165, .str (Str.ofString "cpy313.tomllib._parser") 329⟩, ⟨PyData.keyHash P (Str.ofString "__doc__"), .str (Str.ofString "__doc__") 166, .none⟩, ⟨PyData.keyHash P (Str.ofString "__package__"), .str (Str.ofString "__package__") 167, .none⟩, ⟨PyData.keyHash P (Str.ofString "__loader__"), .str (Str.ofString "__loader__") 168, .builtin "__main__.__loader__#opaque"⟩, ⟨PyData.keyHash P (Str.ofString "__spec__"), .str (Str.ofString "__spec__") 169, .none⟩, ⟨PyData.keyHash P (Str.ofString "__annotations__"), .str (Str.ofString "__annotations__") 170, .ref 6⟩, ⟨PyData.keyHash P (Str.ofString "__builtins__"), .str (Str.ofString "__builtins__") 171, .ref 4⟩, ⟨PyData.keyHash P (Str.ofString "__file__"), .str (Str.ofString "__file__") 173, .str (Str.ofString "/claim/cut.py") 172⟩, ⟨PyData.keyHash P (Str.ofString "__cached__"), .str (Str.ofString "__cached__") 174, .none⟩, ⟨PyData.keyHash P (Str.ofString "_sre"), .str (Str.ofString "_sre") 275, .ref 12⟩, ⟨PyData.keyHash P (Str.ofString "_wall"), .str (Str.ofString "_wall") 288, .ref 38⟩, ⟨PyData.keyHash P (Str.ofString "_WallAttr"), .str (Str.ofString "_WallAttr") 328, .ref 63⟩].toArray 12, [].toArray⟩
noncomputable def oq3_29 (P : Params) : Obj := ⟨.none, none, .fields [.int (2) 0, .int (0) 0, .ref 37, .int (5) 0, .int (0) 0, .ref 44, .int (12) 0, .int (23) 0, .ref 72].toArray, [].toArray⟩
noncomputable def oq3_3 (P : Params) : Obj := ⟨.type "dict", none, .dict [⟨PyData.keyHash P (Str.ofString "__name__"), .str (Str.ofString "__name__") 165, .str (Str.ofString "cpy313.tomllib._parser") 329⟩, ⟨PyData.keyHash P (Str.ofString "__doc__"), .str (Str.ofString "__doc__") 166, .none⟩, ⟨PyData.keyHash P (Str.ofString "__package__"), .str (Str.ofString "__package__") 167, .none⟩, ⟨PyData.keyHash P (Str.ofString "__loader__"), .str (Str.ofString "__loader__") 168, .builtin "__main__.__loader__#opaque"⟩, ⟨PyData.keyHash P (Str.ofString "__spec__"), .str (Str.ofString "__spec__") 169, .none⟩, ⟨PyData.keyHash P (Str.ofString "__annotations__"), .str (Str.ofString "__annotations__") 170, .ref 6⟩, ⟨PyData.keyHash P (Str.ofString "__builtins__"), .str (Str.ofString "__builtins__") 171, .ref 4⟩, ⟨PyData.keyHash P (Str.ofString "__file__"), .str (Str.ofString "__file__") 173, .str (Str.ofString "/claim/cut.py") 172⟩, ⟨PyData.keyHash P (Str.ofString "__cached__"), .str (Str.ofString "__cached__") 174, .none⟩, ⟨PyData.keyHash P (Str.ofString "_sre"), .str (Str.ofString "_sre") 275, .ref 12⟩, ⟨PyData.keyHash P (Str.ofString "_wall"), .str (Str.ofString "_wall") 288, .ref 38⟩, ⟨PyData.keyHash P (Str.ofString "_WallAttr"), .str (Str.ofString "_WallAttr") 328, .ref 63⟩, ⟨PyData.keyHash P (Str.ofString "ASCII_CTRL"), .str (Str.ofString "ASCII_CTRL") 474, .ref 84⟩].toArray 13, [].toArray⟩
noncomputable def oq4_3 (P : Params) : Obj := ⟨.type "dict", none, .dict [⟨PyData.keyHash P (Str.ofString "__name__"), .str (Str.ofString "__name__") 165, .str (Str.ofString "cpy313.tomllib._parser") 329⟩, ⟨PyData.keyHash P (Str.ofString "__doc__"), .str (Str.ofString "__doc__") 166, .none⟩, ⟨PyData.keyHash P (Str.ofString "__package__"), .str (Str.ofString "__package__") 167, .none⟩, ⟨PyData.keyHash P (Str.ofString "__loader__"), .str (Str.ofString "__loader__") 168, .builtin "__main__.__loader__#opaque"⟩, ⟨PyData.keyHash P (Str.ofString "__spec__"), .str (Str.ofString "__spec__") 169, .none⟩, ⟨PyData.keyHash P (Str.ofString "__annotations__"), .str (Str.ofString "__annotations__") 170, .ref 6⟩, ⟨PyData.keyHash P (Str.ofString "__builtins__"), .str (Str.ofString "__builtins__") 171, .ref 4⟩, ⟨PyData.keyHash P (Str.ofString "__file__"), .str (Str.ofString "__file__") 173, .str (Str.ofString "/claim/cut.py") 172⟩, ⟨PyData.keyHash P (Str.ofString "__cached__"), .str (Str.ofString "__cached__") 174, .none⟩, ⟨PyData.keyHash P (Str.ofString "_sre"), .str (Str.ofString "_sre") 275, .ref 12⟩, ⟨PyData.keyHash P (Str.ofString "_wall"), .str (Str.ofString "_wall") 288, .ref 38⟩, ⟨PyData.keyHash P (Str.ofString "_WallAttr"), .str (Str.ofString "_WallAttr") 328, .ref 63⟩, ⟨PyData.keyHash P (Str.ofString "ASCII_CTRL"), .str (Str.ofString "ASCII_CTRL") 474, .ref 84⟩, ⟨PyData.keyHash P (Str.ofString "ILLEGAL_BASIC_STR_CHARS"), .str (Str.ofString "ILLEGAL_BASIC_STR_CHARS") 478, .ref 89⟩].toArray 14, [].toArray⟩
noncomputable def oq5_3 (P : Params) : Obj := ⟨.type "dict", none, .dict [⟨PyData.keyHash P (Str.ofString "__name__"), .str (Str.ofString "__name__") 165, .str (Str.ofString "cpy313.tomllib._parser") 329⟩, ⟨PyData.keyHash P (Str.ofString "__doc__"), .str (Str.ofString "__doc__") 166, .none⟩, ⟨PyData.keyHash P (Str.ofString "__package__"), .str (Str.ofString "__package__") 167, .none⟩, ⟨PyData.keyHash P (Str.ofString "__loader__"), .str (Str.ofString "__loader__") 168, .builtin "__main__.__loader__#opaque"⟩, ⟨PyData.keyHash P (Str.ofString "__spec__"), .str (Str.ofString "__spec__") 169, .none⟩, ⟨PyData.keyHash P (Str.ofString "__annotations__"), .str (Str.ofString "__annotations__") 170, .ref 6⟩, ⟨PyData.keyHash P (Str.ofString "__builtins__"), .str (Str.ofString "__builtins__") 171, .ref 4⟩, ⟨PyData.keyHash P (Str.ofString "__file__"), .str (Str.ofString "__file__") 173, .str (Str.ofString "/claim/cut.py") 172⟩, ⟨PyData.keyHash P (Str.ofString "__cached__"), .str (Str.ofString "__cached__") 174, .none⟩, ⟨PyData.keyHash P (Str.ofString "_sre"), .str (Str.ofString "_sre") 275, .ref 12⟩, ⟨PyData.keyHash P (Str.ofString "_wall"), .str (Str.ofString "_wall") 288, .ref 38⟩, ⟨PyData.keyHash P (Str.ofString "_WallAttr"), .str (Str.ofString "_WallAttr") 328, .ref 63⟩, ⟨PyData.keyHash P (Str.ofString "ASCII_CTRL"), .str (Str.ofString "ASCII_CTRL") 474, .ref 84⟩, ⟨PyData.keyHash P (Str.ofString "ILLEGAL_BASIC_STR_CHARS"), .str (Str.ofString "ILLEGAL_BASIC_STR_CHARS") 478, .ref 89⟩, ⟨PyData.keyHash P (Str.ofString "ILLEGAL_MULTILINE_BASIC_STR_CHARS"), .str (Str.ofString "ILLEGAL_MULTILINE_BASIC_STR_CHARS") 484, .ref 94⟩].toArray 15, [].toArray⟩
noncomputable def oq6_3 (P : Params) : Obj := ⟨.type "dict", none, .dict [⟨PyData.keyHash P (Str.ofString "__name__"), .str (Str.ofString "__name__") 165, .str (Str.ofString "cpy313.tomllib._parser") 329⟩, ⟨PyData.keyHash P (Str.ofString "__doc__"), .str (Str.ofString "__doc__") 166, .none⟩, ⟨PyData.keyHash P (Str.ofString "__package__"), .str (Str.ofString "__package__") 167, .none⟩, ⟨PyData.keyHash P (Str.ofString "__loader__"), .str (Str.ofString "__loader__") 168, .builtin "__main__.__loader__#opaque"⟩, ⟨PyData.keyHash P (Str.ofString "__spec__"), .str (Str.ofString "__spec__") 169, .none⟩, ⟨PyData.keyHash P (Str.ofString "__annotations__"), .str (Str.ofString "__annotations__") 170, .ref 6⟩, ⟨PyData.keyHash P (Str.ofString "__builtins__"), .str (Str.ofString "__builtins__") 171, .ref 4⟩, ⟨PyData.keyHash P (Str.ofString "__file__"), .str (Str.ofString "__file__") 173, .str (Str.ofString "/claim/cut.py") 172⟩, ⟨PyData.keyHash P (Str.ofString "__cached__"), .str (Str.ofString "__cached__") 174, .none⟩, ⟨PyData.keyHash P (Str.ofString "_sre"), .str (Str.ofString "_sre") 275, .ref 12⟩, ⟨PyData.keyHash P (Str.ofString "_wall"), .str (Str.ofString "_wall") 288, .ref 38⟩, ⟨PyData.keyHash P (Str.ofString "_WallAttr"), .str (Str.ofString "_WallAttr") 328, .ref 63⟩, ⟨PyData.keyHash P (Str.ofString "ASCII_CTRL"), .str (Str.ofString "ASCII_CTRL") 474, .ref 84⟩, ⟨PyData.keyHash P (Str.ofString "ILLEGAL_BASIC_STR_CHARS"), .str (Str.ofString "ILLEGAL_BASIC_STR_CHARS") 478, .ref 89⟩, ⟨PyData.keyHash P (Str.ofString "ILLEGAL_MULTILINE_BASIC_STR_CHARS"), .str (Str.ofString "ILLEGAL_MULTILINE_BASIC_STR_CHARS") 484, .ref 94⟩, ⟨PyData.keyHash P (Str.ofString "ILLEGAL_MULTILINE_LITERAL_STR_CHARS"), .str (Str.ofString "ILLEGAL_MULTILINE_LITERAL_STR_CHARS") 485, .ref 94⟩].toArray 16, [].toArray⟩
noncomputable def oq7_3 (P : Params) : Obj := ⟨.type "dict", none, .dict [⟨PyData.keyHash P (Str.ofString "__name__"), .str (Str.ofString "__name__") 165, .str (Str.ofString "cpy313.tomllib._parser") 329⟩, ⟨PyData.keyHash P (Str.ofString "__doc__"), .str (Str.ofString "__doc__") 166, .none⟩, ⟨PyData.keyHash P (Str.ofString "__package__"), .str (Str.ofString "__package__") 167, .none⟩, ⟨PyData.keyHash P (Str.ofString "__loader__"), .str (Str.ofString "__loader__") 168, .builtin "__main__.__loader__#opaque"⟩, ⟨PyData.keyHash P (Str.ofString "__spec__"), .str (Str.ofString "__spec__") 169, .none⟩, ⟨PyData.keyHash P (Str.ofString "__annotations__"), .str (Str.ofString "__annotations__") 170, .ref 6⟩, ⟨PyData.keyHash P (Str.ofString "__builtins__"), .str (Str.ofString "__builtins__") 171, .ref 4⟩, ⟨PyData.keyHash P (Str.ofString "__file__"), .str (Str.ofString "__file__") 173, .str (Str.ofString "/claim/cut.py") 172⟩, ⟨PyData.keyHash P (Str.ofString "__cached__"), .str (Str.ofString "__cached__") 174, .none⟩, ⟨PyData.keyHash P (Str.ofString "_sre"), .str (Str.ofString "_sre") 275, .ref 12⟩, ⟨PyData.keyHash P (Str.ofString "_wall"), .str (Str.ofString "_wall") 288, .ref 38⟩, ⟨PyData.keyHash P (Str.ofString "_WallAttr"), .str (Str.ofString "_WallAttr") 328, .ref 63⟩, ⟨PyData.keyHash P (Str.ofString "ASCII_CTRL"), .str (Str.ofString "ASCII_CTRL") 474, .ref 84⟩, ⟨PyData.keyHash P (Str.ofString "ILLEGAL_BASIC_STR_CHARS"), .str (Str.ofString "ILLEGAL_BASIC_STR_CHARS") 478, .ref 89⟩, ⟨PyData.keyHash P (Str.ofString "ILLEGAL_MULTILINE_BASIC_STR_CHARS"), .str (Str.ofString "ILLEGAL_MULTILINE_BASIC_STR_CHARS") 484, .ref 94⟩, ⟨PyData.keyHash P (Str.ofString "ILLEGAL_MULTILINE_LITERAL_STR_CHARS"), .str (Str.ofString "ILLEGAL_MULTILINE_LITERAL_STR_CHARS") 485, .ref 94⟩, ⟨PyData.keyHash P (Str.ofString "TOML_WS"), .str (Str.ofString "TOML_WS") 491, .ref 95⟩].toArray 17, [].toArray⟩
noncomputable def oq8_3 (P : Params) : Obj := ⟨.type "dict", none, .dict [⟨PyData.keyHash P (Str.ofString "__name__"), .str (Str.ofString "__name__") 165, .str (Str.ofString "cpy313.tomllib._parser") 329⟩, ⟨PyData.keyHash P (Str.ofString "__doc__"), .str (Str.ofString "__doc__") 166, .none⟩, ⟨PyData.keyHash P (Str.ofString "__package__"), .str (Str.ofString "__package__") 167, .none⟩, ⟨PyData.keyHash P (Str.ofString "__loader__"), .str (Str.ofString "__loader__") 168, .builtin "__main__.__loader__#opaque"⟩, ⟨PyData.keyHash P (Str.ofString "__spec__"), .str (Str.ofString "__spec__") 169, .none⟩, ⟨PyData.keyHash P (Str.ofString "__annotations__"), .str (Str.ofString "__annotations__") 170, .ref 6⟩, ⟨PyData.keyHash P (Str.ofString "__builtins__"), .str (Str.ofString "__builtins__") 171, .ref 4⟩, ⟨PyData.keyHash P (Str.ofString "__file__"), .str (Str.ofString "__file__") 173, .str (Str.ofString "/claim/cut.py") 172⟩, ⟨PyData.keyHash P (Str.ofString "__cached__"), .str (Str.ofString "__cached__") 174, .none⟩, ⟨PyData.keyHash P (Str.ofString "_sre"), .str (Str.ofString "_sre") 275, .ref 12⟩, ⟨PyData.keyHash P (Str.ofString "_wall"), .str (Str.ofString "_wall") 288, .ref 38⟩, ⟨PyData.keyHash P (Str.ofString "_WallAttr"), .str (Str.ofString "_WallAttr") 328, .ref 63⟩, ⟨PyData.keyHash P (Str.ofString "ASCII_CTRL"), .str (Str.ofString "ASCII_CTRL") 474, .ref 84⟩, ⟨PyData.keyHash P (Str.ofString "ILLEGAL_BASIC_STR_CHARS"), .str (Str.ofString "ILLEGAL_BASIC_STR_CHARS") 478, .ref 89⟩, ⟨PyData.keyHash P (Str.ofString "ILLEGAL_MULTILINE_BASIC_STR_CHARS"), .str (Str.ofString "ILLEGAL_MULTILINE_BASIC_STR_CHARS") 484, .ref 94⟩, ⟨PyData.keyHash P (Str.ofString "ILLEGAL_MULTILINE_LITERAL_STR_CHARS"), .str (Str.ofString "ILLEGAL_MULTILINE_LITERAL_STR_CHARS") 485, .ref 94⟩, ⟨PyData.keyHash P (Str.ofString "TOML_WS"), .str (Str.ofString "TOML_WS") 491, .ref 95⟩, ⟨PyData.keyHash P (Str.ofString "TOML_WS_AND_NEWLINE"), .str (Str.ofString "TOML_WS_AND_NEWLINE") 495, .ref 103⟩].toArray 18, [].toArray⟩
noncomputable def heap0 (P : Params) : Heap := ⟨#[o_0 P, o_1 P, o_2 P, o0_3 P, o_4 P, o_5 P, o_6 P, o_7 P, o_8 P, o_9 P, o_10 P, o_11 P, o_12 P, o_13 P, o_14 P, o_15 P, o_16 P, o_17 P, o_18 P, o_19 P, o_20 P, o_21 P, o_22 P, o_23 P, o_24 P, o_25 P, o_26 P, o_27 P], {}⟩
noncomputable def T_0 (P : Params) : BT := .node (o_0 P) (.node (o_1 P) (.node (o0_3 P) (.node (o_7 P) (.node (o_15 P) (.nil) (.nil)) (.node (o_23 P) (.nil) (.nil))) (.node (o_11 P) (.node (o_19 P) (.nil) (.nil)) (.node (o_27 P) (.nil) (.nil)))) (.node (o_5 P) (.node (o_9 P) (.node (o_17 P) (.nil) (.nil)) (.node (o_25 P) (.nil) (.nil))) (.node (o_13 P) (.node (o_21 P) (.nil) (.nil)) (.nil)))) (.node (o_2 P) (.node (o_4 P) (.node (o_8 P) (.node (o_16 P) (.nil) (.nil)) (.node (o_24 P) (.nil) (.nil))) (.node (o_12 P) (.node (o_20 P) (.nil) (.nil)) (.nil))) (.node (o_6 P) (.node (o_10 P) (.node (o_18 P) (.nil) (.nil)) (.node (o_26 P) (.nil) (.nil))) (.node (o_14 P) (.node (o_22 P) (.nil) (.nil)) (.nil))))
noncomputable def T_a (P : Params) (x : Nat → FS) : BT := .node (o_0 P) (.node (o_1 P) (.node (oa_3 P) (.node (o_7 P) (.node (o_15 P) (.node (o_31 P) (.nil) (.nil)) (.nil)) (.node (o_23 P) (.nil) (.nil))) (.node (o_11 P) (.node (o_19 P) (.nil) (.nil)) (.node (o_27 P) (.nil) (.nil)))) (.node (o_5 P) (.node (o_9 P) (.node (o_17 P) (.nil) (.nil)) (.node (o_25 P) (.nil) (.nil))) (.node (o_13 P) (.node (o_21 P) (.nil) (.nil)) (.node (oa_29 P) (.nil) (.nil))))) (.node (o_2 P) (.node (o_4 P) (.node (o_8 P) (.node (o_16 P) (.nil) (.nil)) (.node (o_24 P) (.nil) (.nil))) (.node (o_12 P) (.node (o_20 P) (.nil) (.nil)) (.node (o_28 P) (.nil) (.nil)))) (.node (o_6 P) (.node (o_10 P) (.node (o_18 P) (.nil) (.nil)) (.node (o_26 P) (.nil) (.nil))) (.node (o_14 P) (.node (o_22 P) (.nil) (.nil)) (.node (o_30 P) (.nil) (.nil)))))
noncomputable def T_q2 (P : Params) (x : Nat → FS) : BT := .node (o_0 P) (.node (o_1 P) (.node (oq2_3 P) (.node (o_7 P) (.node (o_15 P) (.node (o_31 P) (.node (o_63 P) (.nil) (.nil)) (.nil)) (.node (o_47 P) (.nil) (.nil))) (.node (o_23 P) (.node (o_39 P) (.nil) (.nil)) (.node (o_55 P) (.nil) (.nil)))) (.node (o_11 P) (.node (o_19 P) (.node (o_35 P) (.node (o_67 P) (.nil) (.nil)) (.nil)) (.node (o_51 P) (.nil) (.nil))) (.node (o_27 P) (.node (o_43 P) (.nil) (.nil)) (.node (o_59 P) (.nil) (.nil))))) (.node (o_5 P) (.node (o_9 P) (.node (o_17 P) (.node (o_33 P) (.node (o_65 P) (.nil) (.nil)) (.nil)) (.node (o_49 P) (.nil) (.nil))) (.node (o_25 P) (.node (o_41 P) (.nil) (.nil)) (.node (o_57 P) (.nil) (.nil)))) (.node (o_13 P) (.node (o_21 P) (.node (o_37 P) (.nil) (.nil)) (.node (o_53 P) (.nil) (.nil))) (.node (oq2_29 P) (.node (o_45 P) (.nil) (.nil)) (.node (o_61 P) (.nil) (.nil)))))) (.node (o_2 P) (.node (o_4 P) (.node (o_8 P) (.node (o_16 P) (.node (o_32 P) (.node (o_64 P) (.nil) (.nil)) (.nil)) (.node (o_48 P) (.nil) (.nil))) (.node (o_24 P) (.node (o_40 P) (.nil) (.nil)) (.node (o_56 P) (.nil) (.nil)))) (.node (o_12 P) (.node (o_20 P) (.node (o_36 P) (.nil) (.nil)) (.node (o_52 P) (.nil) (.nil))) (.node (o_28 P) (.node (o_44 P) (.nil) (.nil)) (.node (o_60 P) (.nil) (.nil))))) (.node (o_6 P) (.node (o_10 P) (.node (o_18 P) (.node (o_34 P) (.node (o_66 P) (.nil) (.nil)) (.nil)) (.node (o_50 P) (.nil) (.nil))) (.node (o_26 P) (.node (o_42 P) (.nil) (.nil)) (.node (o_58 P) (.nil) (.nil)))) (.node (o_14 P) (.node (o_22 P) (.node (o_38 P) (.nil) (.nil)) (.node (o_54 P) (.nil) (.nil))) (.node (o_30 P) (.node (o_46 P) (.nil) (.nil)) (.node (o_62 P) (.nil) (.nil))))))
noncomputable def T_loop (P : Params) (r e : Obj) (x : Nat → FS) : BT := .node (o_0 P) (.node (o_1 P) (.node (oq2_3 P) (.node (o_7 P) (.node (o_15 P) (.node (o_31 P) (.node (o_63 P) (.nil) (.nil)) (.nil)) (.node (o_47 P) (.nil) (.nil))) (.node (o_23 P) (.node (o_39 P) (.node (o_71 P) (.nil) (.nil)) (.nil)) (.node (o_55 P) (.nil) (.nil)))) (.node (o_11 P) (.node (o_19 P) (.node (o_35 P) (.node (o_67 P) (.nil) (.nil)) (.nil)) (.node (o_51 P) (.nil) (.nil))) (.node (o_27 P) (.node (o_43 P) (.node (frz (x 75)) (.nil) (.nil)) (.nil)) (.node (o_59 P) (.nil) (.nil))))) (.node (o_5 P) (.node (o_9 P) (.node (o_17 P) (.node (o_33 P) (.node (o_65 P) (.nil) (.nil)) (.nil)) (.node (o_49 P) (.nil) (.nil))) (.node (o_25 P) (.node (o_41 P) (.node (e) (.nil) (.nil)) (.nil)) (.node (o_57 P) (.nil) (.nil)))) (.node (o_13 P) (.node (o_21 P) (.node (o_37 P) (.node (r) (.nil) (.nil)) (.nil)) (.node (o_53 P) (.nil) (.nil))) (.node (oq3_29 P) (.node (o_45 P) (.nil) (.nil)) (.node (o_61 P) (.nil) (.nil)))))) (.node (o_2 P) (.node (o_4 P) (.node (o_8 P) (.node (o_16 P) (.node (o_32 P) (.node (o_64 P) (.nil) (.nil)) (.nil)) (.node (o_48 P) (.nil) (.nil))) (.node (o_24 P) (.node (o_40 P) (.node (o_72 P) (.nil) (.nil)) (.nil)) (.node (o_56 P) (.nil) (.nil)))) (.node (o_12 P) (.node (o_20 P) (.node (o_36 P) (.node (o_68 P) (.nil) (.nil)) (.nil)) (.node (o_52 P) (.nil) (.nil))) (.node (o_28 P) (.node (o_44 P) (.nil) (.nil)) (.node (o_60 P) (.nil) (.nil))))) (.node (o_6 P) (.node (o_10 P) (.node (o_18 P) (.node (o_34 P) (.node (o_66 P) (.nil) (.nil)) (.nil)) (.node (o_50 P) (.nil) (.nil))) (.node (o_26 P) (.node (o_42 P) (.node (o_74 P) (.nil) (.nil)) (.nil)) (.node (o_58 P) (.nil) (.nil)))) (.node (o_14 P) (.node (o_22 P) (.node (o_38 P) (.node (o_70 P) (.nil) (.nil)) (.nil)) (.node (o_54 P) (.nil) (.nil))) (.node (o_30 P) (.node (o_46 P) (.nil) (.nil)) (.node (o_62 P) (.nil) (.nil))))))
noncomputable def T_3b (P : Params) (x : Nat → FS) : BT := .node (o_0 P) (.node (o_1 P) (.node (oq2_3 P) (.node (o_7 P) (.node (o_15 P) (.node (o_31 P) (.node (o_63 P) (.nil) (.nil)) (.nil)) (.node (o_47 P) (.node (o_79 P) (.nil) (.nil)) (.nil))) (.node (o_23 P) (.node (o_39 P) (.node (o_71 P) (.nil) (.nil)) (.nil)) (.node (o_55 P) (.nil) (.nil)))) (.node (o_11 P) (.node (o_19 P) (.node (o_35 P) (.node (o_67 P) (.nil) (.nil)) (.nil)) (.node (o_51 P) (.nil) (.nil))) (.node (o_27 P) (.node (o_43 P) (.node (frz (x 75)) (.nil) (.nil)) (.nil)) (.node (o_59 P) (.nil) (.nil))))) (.node (o_5 P) (.node (o_9 P) (.node (o_17 P) (.node (o_33 P) (.node (o_65 P) (.nil) (.nil)) (.nil)) (.node (o_49 P) (.node (sit (.str (Str.ofString "\x7f") 471) 1) (.nil) (.nil)) (.nil))) (.node (o_25 P) (.node (o_41 P) (.node (o_73 P) (.nil) (.nil)) (.nil)) (.node (o_57 P) (.nil) (.nil)))) (.node (o_13 P) (.node (o_21 P) (.node (o_37 P) (.node (o_69 P) (.nil) (.nil)) (.nil)) (.node (o_53 P) (.nil) (.nil))) (.node (oq3_29 P) (.node (o_45 P) (.node (o_77 P) (.nil) (.nil)) (.nil)) (.node (o_61 P) (.nil) (.nil)))))) (.node (o_2 P) (.node (o_4 P) (.node (o_8 P) (.node (o_16 P) (.node (o_32 P) (.node (o_64 P) (.nil) (.nil)) (.nil)) (.node (o_48 P) (.node (frz (x 80)) (.nil) (.nil)) (.nil))) (.node (o_24 P) (.node (o_40 P) (.node (o_72 P) (.nil) (.nil)) (.nil)) (.node (o_56 P) (.nil) (.nil)))) (.node (o_12 P) (.node (o_20 P) (.node (o_36 P) (.node (o_68 P) (.nil) (.nil)) (.nil)) (.node (o_52 P) (.nil) (.nil))) (.node (o_28 P) (.node (o_44 P) (.node (o_76 P) (.nil) (.nil)) (.nil)) (.node (o_60 P) (.nil) (.nil))))) (.node (o_6 P) (.node (o_10 P) (.node (o_18 P) (.node (o_34 P) (.node (o_66 P) (.nil) (.nil)) (.nil)) (.node (o_50 P) (.nil) (.nil))) (.node (o_26 P) (.node (o_42 P) (.node (o_74 P) (.nil) (.nil)) (.nil)) (.node (o_58 P) (.nil) (.nil)))) (.node (o_14 P) (.node (o_22 P) (.node (o_38 P) (.node (o_70 P) (.nil) (.nil)) (.nil)) (.node (o_54 P) (.nil) (.nil))) (.node (o_30 P) (.node (o_46 P) (.node (o_78 P) (.nil) (.nil)) (.nil)) (.node (o_62 P) (.nil) (.nil))))))
noncomputable def T_3o (P : Params) (x : Nat → FS) : BT := .node (o_0 P) (.node (o_1 P) (.node (oq2_3 P) (.node (o_7 P) (.node (o_15 P) (.node (o_31 P) (.node (o_63 P) (.nil) (.nil)) (.nil)) (.node (o_47 P) (.node (o_79 P) (.nil) (.nil)) (.nil))) (.node (o_23 P) (.node (o_39 P) (.node (o_71 P) (.nil) (.nil)) (.nil)) (.node (o_55 P) (.nil) (.nil)))) (.node (o_11 P) (.node (o_19 P) (.node (o_35 P) (.node (o_67 P) (.nil) (.nil)) (.nil)) (.node (o_51 P) (.node (o_83 P) (.nil) (.nil)) (.nil))) (.node (o_27 P) (.node (o_43 P) (.node (frz (x 75)) (.nil) (.nil)) (.nil)) (.node (o_59 P) (.nil) (.nil))))) (.node (o_5 P) (.node (o_9 P) (.node (o_17 P) (.node (o_33 P) (.node (o_65 P) (.nil) (.nil)) (.nil)) (.node (o_49 P) (.node (o_81 P) (.nil) (.nil)) (.nil))) (.node (o_25 P) (.node (o_41 P) (.node (o_73 P) (.nil) (.nil)) (.nil)) (.node (o_57 P) (.nil) (.nil)))) (.node (o_13 P) (.node (o_21 P) (.node (o_37 P) (.node (o_69 P) (.nil) (.nil)) (.nil)) (.node (o_53 P) (.nil) (.nil))) (.node (oq3_29 P) (.node (o_45 P) (.node (o_77 P) (.nil) (.nil)) (.nil)) (.node (o_61 P) (.nil) (.nil)))))) (.node (o_2 P) (.node (o_4 P) (.node (o_8 P) (.node (o_16 P) (.node (o_32 P) (.node (o_64 P) (.nil) (.nil)) (.nil)) (.node (o_48 P) (.node (frz (x 80)) (.nil) (.nil)) (.nil))) (.node (o_24 P) (.node (o_40 P) (.node (o_72 P) (.nil) (.nil)) (.nil)) (.node (o_56 P) (.nil) (.nil)))) (.node (o_12 P) (.node (o_20 P) (.node (o_36 P) (.node (o_68 P) (.nil) (.nil)) (.nil)) (.node (o_52 P) (.node (frz (x 84)) (.nil) (.nil)) (.nil))) (.node (o_28 P) (.node (o_44 P) (.node (o_76 P) (.nil) (.nil)) (.nil)) (.node (o_60 P) (.nil) (.nil))))) (.node (o_6 P) (.node (o_10 P) (.node (o_18 P) (.node (o_34 P) (.node (o_66 P) (.nil) (.nil)) (.nil)) (.node (o_50 P) (.node (o_82 P) (.nil) (.nil)) (.nil))) (.node (o_26 P) (.node (o_42 P) (.node (o_74 P) (.nil) (.nil)) (.nil)) (.node (o_58 P) (.nil) (.nil)))) (.node (o_14 P) (.node (o_22 P) (.node (o_38 P) (.node (o_70 P) (.nil) (.nil)) (.nil)) (.node (o_54 P) (.nil) (.nil))) (.node (o_30 P) (.node (o_46 P) (.node (o_78 P) (.nil) (.nil)) (.nil)) (.node (o_62 P) (.nil) (.nil))))))
noncomputable def T_q3 (P : Params) (x : Nat → FS) : BT := .node (o_0 P) (.node (o_1 P) (.node (oq3_3 P) (.node (o_7 P) (.node (o_15 P) (.node (o_31 P) (.node (o_63 P) (.nil) (.nil)) (.nil)) (.node (o_47 P) (.node (o_79 P) (.nil) (.nil)) (.nil))) (.node (o_23 P) (.node (o_39 P) (.node (o_71 P) (.nil) (.nil)) (.nil)) (.node (o_55 P) (.nil) (.nil)))) (.node (o_11 P) (.node (o_19 P) (.node (o_35 P) (.node (o_67 P) (.nil) (.nil)) (.nil)) (.node (o_51 P) (.node (o_83 P) (.nil) (.nil)) (.nil))) (.node (o_27 P) (.node (o_43 P) (.node (frz (x 75)) (.nil) (.nil)) (.nil)) (.node (o_59 P) (.nil) (.nil))))) (.node (o_5 P) (.node (o_9 P) (.node (o_17 P) (.node (o_33 P) (.node (o_65 P) (.nil) (.nil)) (.nil)) (.node (o_49 P) (.node (o_81 P) (.nil) (.nil)) (.nil))) (.node (o_25 P) (.node (o_41 P) (.node (o_73 P) (.nil) (.nil)) (.nil)) (.node (o_57 P) (.nil) (.nil)))) (.node (o_13 P) (.node (o_21 P) (.node (o_37 P) (.node (o_69 P) (.nil) (.nil)) (.nil)) (.node (o_53 P) (.nil) (.nil))) (.node (oq3_29 P) (.node (o_45 P) (.node (o_77 P) (.nil) (.nil)) (.nil)) (.node (o_61 P) (.nil) (.nil)))))) (.node (o_2 P) (.node (o_4 P) (.node (o_8 P) (.node (o_16 P) (.node (o_32 P) (.node (o_64 P) (.nil) (.nil)) (.nil)) (.node (o_48 P) (.node (frz (x 80)) (.nil) (.nil)) (.nil))) (.node (o_24 P) (.node (o_40 P) (.node (o_72 P) (.nil) (.nil)) (.nil)) (.node (o_56 P) (.nil) (.nil)))) (.node (o_12 P) (.node (o_20 P) (.node (o_36 P) (.node (o_68 P) (.nil) (.nil)) (.nil)) (.node (o_52 P) (.node (frz (x 84)) (.nil) (.nil)) (.nil))) (.node (o_28 P) (.node (o_44 P) (.node (o_76 P) (.nil) (.nil)) (.nil)) (.node (o_60 P) (.nil) (.nil))))) (.node (o_6 P) (.node (o_10 P) (.node (o_18 P) (.node (o_34 P) (.node (o_66 P) (.nil) (.nil)) (.nil)) (.node (o_50 P) (.node (o_82 P) (.nil) (.nil)) (.nil))) (.node (o_26 P) (.node (o_42 P) (.node (o_74 P) (.nil) (.nil)) (.nil)) (.node (o_58 P) (.nil) (.nil)))) (.node (o_14 P) (.node (o_22 P) (.node (o_38 P) (.node (o_70 P) (.nil) (.nil)) (.nil)) (.node (o_54 P) (.nil) (.nil))) (.node (o_30 P) (.node (o_46 P) (.node (o_78 P) (.nil) (.nil)) (.nil)) (.node (o_62 P) (.nil) (.nil))))))
noncomputable def T_4b (P : Params) (x : Nat → FS) : BT := .node (o_0 P) (.node (o_1 P) (.node (oq3_3 P) (.node (o_7 P) (.node (o_15 P) (.node (o_31 P) (.node (o_63 P) (.nil) (.nil)) (.nil)) (.node (o_47 P) (.node (o_79 P) (.nil) (.nil)) (.nil))) (.node (o_23 P) (.node (o_39 P) (.node (o_71 P) (.nil) (.nil)) (.nil)) (.node (o_55 P) (.nil) (.nil)))) (.node (o_11 P) (.node (o_19 P) (.node (o_35 P) (.node (o_67 P) (.nil) (.nil)) (.nil)) (.node (o_51 P) (.node (o_83 P) (.nil) (.nil)) (.nil))) (.node (o_27 P) (.node (o_43 P) (.node (frz (x 75)) (.nil) (.nil)) (.nil)) (.node (o_59 P) (.nil) (.nil))))) (.node (o_5 P) (.node (o_9 P) (.node (o_17 P) (.node (o_33 P) (.node (o_65 P) (.nil) (.nil)) (.nil)) (.node (o_49 P) (.node (o_81 P) (.nil) (.nil)) (.nil))) (.node (o_25 P) (.node (o_41 P) (.node (o_73 P) (.nil) (.nil)) (.nil)) (.node (o_57 P) (.nil) (.nil)))) (.node (o_13 P) (.node (o_21 P) (.node (o_37 P) (.node (o_69 P) (.nil) (.nil)) (.nil)) (.node (o_53 P) (.node (frz (x 85)) (.nil) (.nil)) (.nil))) (.node (oq3_29 P) (.node (o_45 P) (.node (o_77 P) (.nil) (.nil)) (.nil)) (.node (o_61 P) (.nil) (.nil)))))) (.node (o_2 P) (.node (o_4 P) (.node (o_8 P) (.node (o_16 P) (.node (o_32 P) (.node (o_64 P) (.nil) (.nil)) (.nil)) (.node (o_48 P) (.node (frz (x 80)) (.nil) (.nil)) (.nil))) (.node (o_24 P) (.node (o_40 P) (.node (o_72 P) (.nil) (.nil)) (.nil)) (.node (o_56 P) (.nil) (.nil)))) (.node (o_12 P) (.node (o_20 P) (.node (o_36 P) (.node (o_68 P) (.nil) (.nil)) (.nil)) (.node (o_52 P) (.node (frz (x 84)) (.nil) (.nil)) (.nil))) (.node (o_28 P) (.node (o_44 P) (.node (o_76 P) (.nil) (.nil)) (.nil)) (.node (o_60 P) (.nil) (.nil))))) (.node (o_6 P) (.node (o_10 P) (.node (o_18 P) (.node (o_34 P) (.node (o_66 P) (.nil) (.nil)) (.nil)) (.node (o_50 P) (.node (o_82 P) (.nil) (.nil)) (.nil))) (.node (o_26 P) (.node (o_42 P) (.node (o_74 P) (.nil) (.nil)) (.nil)) (.node (o_58 P) (.nil) (.nil)))) (.node (o_14 P) (.node (o_22 P) (.node (o_38 P) (.node (o_70 P) (.nil) (.nil)) (.nil)) (.node (o_54 P) (.node (sit (.str (Str.ofString "\t") 475) 1) (.nil) (.nil)) (.nil))) (.node (o_30 P) (.node (o_46 P) (.node (o_78 P) (.nil) (.nil)) (.nil)) (.node (o_62 P) (.nil) (.nil))))))
noncomputable def T_4o (P : Params) (x : Nat → FS) : BT := .node (o_0 P) (.node (o_1 P) (.node (oq3_3 P) (.node (o_7 P) (.node (o_15 P) (.node (o_31 P) (.node (o_63 P) (.nil) (.nil)) (.nil)) (.node (o_47 P) (.node (o_79 P) (.nil) (.nil)) (.nil))) (.node (o_23 P) (.node (o_39 P) (.node (o_71 P) (.nil) (.nil)) (.nil)) (.node (o_55 P) (.node (o_87 P) (.nil) (.nil)) (.nil)))) (.node (o_11 P) (.node (o_19 P) (.node (o_35 P) (.node (o_67 P) (.nil) (.nil)) (.nil)) (.node (o_51 P) (.node (o_83 P) (.nil) (.nil)) (.nil))) (.node (o_27 P) (.node (o_43 P) (.node (frz (x 75)) (.nil) (.nil)) (.nil)) (.node (o_59 P) (.nil) (.nil))))) (.node (o_5 P) (.node (o_9 P) (.node (o_17 P) (.node (o_33 P) (.node (o_65 P) (.nil) (.nil)) (.nil)) (.node (o_49 P) (.node (o_81 P) (.nil) (.nil)) (.nil))) (.node (o_25 P) (.node (o_41 P) (.node (o_73 P) (.nil) (.nil)) (.nil)) (.node (o_57 P) (.nil) (.nil)))) (.node (o_13 P) (.node (o_21 P) (.node (o_37 P) (.node (o_69 P) (.nil) (.nil)) (.nil)) (.node (o_53 P) (.node (frz (x 85)) (.nil) (.nil)) (.nil))) (.node (oq3_29 P) (.node (o_45 P) (.node (o_77 P) (.nil) (.nil)) (.nil)) (.node (o_61 P) (.nil) (.nil)))))) (.node (o_2 P) (.node (o_4 P) (.node (o_8 P) (.node (o_16 P) (.node (o_32 P) (.node (o_64 P) (.nil) (.nil)) (.nil)) (.node (o_48 P) (.node (frz (x 80)) (.nil) (.nil)) (.nil))) (.node (o_24 P) (.node (o_40 P) (.node (o_72 P) (.nil) (.nil)) (.nil)) (.node (o_56 P) (.node (o_88 P) (.nil) (.nil)) (.nil)))) (.node (o_12 P) (.node (o_20 P) (.node (o_36 P) (.node (o_68 P) (.nil) (.nil)) (.nil)) (.node (o_52 P) (.node (frz (x 84)) (.nil) (.nil)) (.nil))) (.node (o_28 P) (.node (o_44 P) (.node (o_76 P) (.nil) (.nil)) (.nil)) (.node (o_60 P) (.nil) (.nil))))) (.node (o_6 P) (.node (o_10 P) (.node (o_18 P) (.node (o_34 P) (.node (o_66 P) (.nil) (.nil)) (.nil)) (.node (o_50 P) (.node (o_82 P) (.nil) (.nil)) (.nil))) (.node (o_26 P) (.node (o_42 P) (.node (o_74 P) (.nil) (.nil)) (.nil)) (.node (o_58 P) (.nil) (.nil)))) (.node (o_14 P) (.node (o_22 P) (.node (o_38 P) (.node (o_70 P) (.nil) (.nil)) (.nil)) (.node (o_54 P) (.node (o_86 P) (.nil) (.nil)) (.nil))) (.node (o_30 P) (.node (o_46 P) (.node (o_78 P) (.nil) (.nil)) (.nil)) (.node (o_62 P) (.nil) (.nil))))))
noncomputable def T_4p (P : Params) (x : Nat → FS) : BT := .node (o_0 P) (.node (o_1 P) (.node (oq3_3 P) (.node (o_7 P) (.node (o_15 P) (.node (o_31 P) (.node (o_63 P) (.nil) (.nil)) (.nil)) (.node (o_47 P) (.node (o_79 P) (.nil) (.nil)) (.nil))) (.node (o_23 P) (.node (o_39 P) (.node (o_71 P) (.nil) (.nil)) (.nil)) (.node (o_55 P) (.node (o_87 P) (.nil) (.nil)) (.nil)))) (.node (o_11 P) (.node (o_19 P) (.node (o_35 P) (.node (o_67 P) (.nil) (.nil)) (.nil)) (.node (o_51 P) (.node (o_83 P) (.nil) (.nil)) (.nil))) (.node (o_27 P) (.node (o_43 P) (.node (frz (x 75)) (.nil) (.nil)) (.nil)) (.node (o_59 P) (.nil) (.nil))))) (.node (o_5 P) (.node (o_9 P) (.node (o_17 P) (.node (o_33 P) (.node (o_65 P) (.nil) (.nil)) (.nil)) (.node (o_49 P) (.node (o_81 P) (.nil) (.nil)) (.nil))) (.node (o_25 P) (.node (o_41 P) (.node (o_73 P) (.nil) (.nil)) (.nil)) (.node (o_57 P) (.node (frz (x 89)) (.nil) (.nil)) (.nil)))) (.node (o_13 P) (.node (o_21 P) (.node (o_37 P) (.node (o_69 P) (.nil) (.nil)) (.nil)) (.node (o_53 P) (.node (frz (x 85)) (.nil) (.nil)) (.nil))) (.node (oq3_29 P) (.node (o_45 P) (.node (o_77 P) (.nil) (.nil)) (.nil)) (.node (o_61 P) (.nil) (.nil)))))) (.node (o_2 P) (.node (o_4 P) (.node (o_8 P) (.node (o_16 P) (.node (o_32 P) (.node (o_64 P) (.nil) (.nil)) (.nil)) (.node (o_48 P) (.node (frz (x 80)) (.nil) (.nil)) (.nil))) (.node (o_24 P) (.node (o_40 P) (.node (o_72 P) (.nil) (.nil)) (.nil)) (.node (o_56 P) (.node (o_88 P) (.nil) (.nil)) (.nil)))) (.node (o_12 P) (.node (o_20 P) (.node (o_36 P) (.node (o_68 P) (.nil) (.nil)) (.nil)) (.node (o_52 P) (.node (frz (x 84)) (.nil) (.nil)) (.nil))) (.node (o_28 P) (.node (o_44 P) (.node (o_76 P) (.nil) (.nil)) (.nil)) (.node (o_60 P) (.nil) (.nil))))) (.node (o_6 P) (.node (o_10 P) (.node (o_18 P) (.node (o_34 P) (.node (o_66 P) (.nil) (.nil)) (.nil)) (.node (o_50 P) (.node (o_82 P) (.nil) (.nil)) (.nil))) (.node (o_26 P) (.node (o_42 P) (.node (o_74 P) (.nil) (.nil)) (.nil)) (.node (o_58 P) (.nil) (.nil)))) (.node (o_14 P) (.node (o_22 P) (.node (o_38 P) (.node (o_70 P) (.nil) (.nil)) (.nil)) (.node (o_54 P) (.node (o_86 P) (.nil) (.nil)) (.nil))) (.node (o_30 P) (.node (o_46 P) (.node (o_78 P) (.nil) (.nil)) (.nil)) (.node (o_62 P) (.nil) (.nil))))))
noncomputable def T_q4 (P : Params) (x : Nat → FS) : BT := .node (o_0 P) (.node (o_1 P) (.node (oq4_3 P) (.node (o_7 P) (.node (o_15 P) (.node (o_31 P) (.node (o_63 P) (.nil) (.nil)) (.nil)) (.node (o_47 P) (.node (o_79 P) (.nil) (.nil)) (.nil))) (.node (o_23 P) (.node (o_39 P) (.node (o_71 P) (.nil) (.nil)) (.nil)) (.node (o_55 P) (.node (o_87 P) (.nil) (.nil)) (.nil)))) (.node (o_11 P) (.node (o_19 P) (.node (o_35 P) (.node (o_67 P) (.nil) (.nil)) (.nil)) (.node (o_51 P) (.node (o_83 P) (.nil) (.nil)) (.nil))) (.node (o_27 P) (.node (o_43 P) (.node (frz (x 75)) (.nil) (.nil)) (.nil)) (.node (o_59 P) (.nil) (.nil))))) (.node (o_5 P) (.node (o_9 P) (.node (o_17 P) (.node (o_33 P) (.node (o_65 P) (.nil) (.nil)) (.nil)) (.node (o_49 P) (.node (o_81 P) (.nil) (.nil)) (.nil))) (.node (o_25 P) (.node (o_41 P) (.node (o_73 P) (.nil) (.nil)) (.nil)) (.node (o_57 P) (.node (frz (x 89)) (.nil) (.nil)) (.nil)))) (.node (o_13 P) (.node (o_21 P) (.node (o_37 P) (.node (o_69 P) (.nil) (.nil)) (.nil)) (.node (o_53 P) (.node (frz (x 85)) (.nil) (.nil)) (.nil))) (.node (oq3_29 P) (.node (o_45 P) (.node (o_77 P) (.nil) (.nil)) (.nil)) (.node (o_61 P) (.nil) (.nil)))))) (.node (o_2 P) (.node (o_4 P) (.node (o_8 P) (.node (o_16 P) (.node (o_32 P) (.node (o_64 P) (.nil) (.nil)) (.nil)) (.node (o_48 P) (.node (frz (x 80)) (.nil) (.nil)) (.nil))) (.node (o_24 P) (.node (o_40 P) (.node (o_72 P) (.nil) (.nil)) (.nil)) (.node (o_56 P) (.node (o_88 P) (.nil) (.nil)) (.nil)))) (.node (o_12 P) (.node (o_20 P) (.node (o_36 P) (.node (o_68 P) (.nil) (.nil)) (.nil)) (.node (o_52 P) (.node (frz (x 84)) (.nil) (.nil)) (.nil))) (.node (o_28 P) (.node (o_44 P) (.node (o_76 P) (.nil) (.nil)) (.nil)) (.node (o_60 P) (.nil) (.nil))))) (.node (o_6 P) (.node (o_10 P) (.node (o_18 P) (.node (o_34 P) (.node (o_66 P) (.nil) (.nil)) (.nil)) (.node (o_50 P) (.node (o_82 P) (.nil) (.nil)) (.nil))) (.node (o_26 P) (.node (o_42 P) (.node (o_74 P) (.nil) (.nil)) (.nil)) (.node (o_58 P) (.nil) (.nil)))) (.node (o_14 P) (.node (o_22 P) (.node (o_38 P) (.node (o_70 P) (.nil) (.nil)) (.nil)) (.node (o_54 P) (.node (o_86 P) (.nil) (.nil)) (.nil))) (.node (o_30 P) (.node (o_46 P) (.node (o_78 P) (.nil) (.nil)) (.nil)) (.node (o_62 P) (.nil) (.nil))))))
noncomputable def T_5b (P : Params) (i : Nat) (x : Nat → FS) : BT := .node (o_0 P) (.node (o_1 P) (.node (oq4_3 P) (.node (o_7 P) (.node (o_15 P) (.node (o_31 P) (.node (o_63 P) (.nil) (.nil)) (.nil)) (.node (o_47 P) (.node (o_79 P) (.nil) (.nil)) (.nil))) (.node (o_23 P) (.node (o_39 P) (.node (o_71 P) (.nil) (.nil)) (.nil)) (.node (o_55 P) (.node (o_87 P) (.nil) (.nil)) (.nil)))) (.node (o_11 P) (.node (o_19 P) (.node (o_35 P) (.node (o_67 P) (.nil) (.nil)) (.nil)) (.node (o_51 P) (.node (o_83 P) (.nil) (.nil)) (.nil))) (.node (o_27 P) (.node (o_43 P) (.node (frz (x 75)) (.nil) (.nil)) (.nil)) (.node (o_59 P) (.node (sit (.str (Str.ofString "\t\n") 479) i) (.nil) (.nil)) (.nil))))) (.node (o_5 P) (.node (o_9 P) (.node (o_17 P) (.node (o_33 P) (.node (o_65 P) (.nil) (.nil)) (.nil)) (.node (o_49 P) (.node (o_81 P) (.nil) (.nil)) (.nil))) (.node (o_25 P) (.node (o_41 P) (.node (o_73 P) (.nil) (.nil)) (.nil)) (.node (o_57 P) (.node (frz (x 89)) (.nil) (.nil)) (.nil)))) (.node (o_13 P) (.node (o_21 P) (.node (o_37 P) (.node (o_69 P) (.nil) (.nil)) (.nil)) (.node (o_53 P) (.node (frz (x 85)) (.nil) (.nil)) (.nil))) (.node (oq3_29 P) (.node (o_45 P) (.node (o_77 P) (.nil) (.nil)) (.nil)) (.node (o_61 P) (.nil) (.nil)))))) (.node (o_2 P) (.node (o_4 P) (.node (o_8 P) (.node (o_16 P) (.node (o_32 P) (.node (o_64 P) (.nil) (.nil)) (.nil)) (.node (o_48 P) (.node (frz (x 80)) (.nil) (.nil)) (.nil))) (.node (o_24 P) (.node (o_40 P) (.node (o_72 P) (.nil) (.nil)) (.nil)) (.node (o_56 P) (.node (o_88 P) (.nil) (.nil)) (.nil)))) (.node (o_12 P) (.node (o_20 P) (.node (o_36 P) (.node (o_68 P) (.nil) (.nil)) (.nil)) (.node (o_52 P) (.node (frz (x 84)) (.nil) (.nil)) (.nil))) (.node (o_28 P) (.node (o_44 P) (.node (o_76 P) (.nil) (.nil)) (.nil)) (.node (o_60 P) (.nil) (.nil))))) (.node (o_6 P) (.node (o_10 P) (.node (o_18 P) (.node (o_34 P) (.node (o_66 P) (.nil) (.nil)) (.nil)) (.node (o_50 P) (.node (o_82 P) (.nil) (.nil)) (.nil))) (.node (o_26 P) (.node (o_42 P) (.node (o_74 P) (.nil) (.nil)) (.nil)) (.node (o_58 P) (.node (frz (x 90)) (.nil) (.nil)) (.nil)))) (.node (o_14 P) (.node (o_22 P) (.node (o_38 P) (.node (o_70 P) (.nil) (.nil)) (.nil)) (.node (o_54 P) (.node (o_86 P) (.nil) (.nil)) (.nil))) (.node (o_30 P) (.node (o_46 P) (.node (o_78 P) (.nil) (.nil)) (.nil)) (.node (o_62 P) (.nil) (.nil))))))
noncomputable def T_5o (P : Params) (x : Nat → FS) : BT := .node (o_0 P) (.node (o_1 P) (.node (oq4_3 P) (.node (o_7 P) (.node (o_15 P) (.node (o_31 P) (.node (o_63 P) (.nil) (.nil)) (.nil)) (.node (o_47 P) (.node (o_79 P) (.nil) (.nil)) (.nil))) (.node (o_23 P) (.node (o_39 P) (.node (o_71 P) (.nil) (.nil)) (.nil)) (.node (o_55 P) (.node (o_87 P) (.nil) (.nil)) (.nil)))) (.node (o_11 P) (.node (o_19 P) (.node (o_35 P) (.node (o_67 P) (.nil) (.nil)) (.nil)) (.node (o_51 P) (.node (o_83 P) (.nil) (.nil)) (.nil))) (.node (o_27 P) (.node (o_43 P) (.node (frz (x 75)) (.nil) (.nil)) (.nil)) (.node (o_59 P) (.node (o_91 P) (.nil) (.nil)) (.nil))))) (.node (o_5 P) (.node (o_9 P) (.node (o_17 P) (.node (o_33 P) (.node (o_65 P) (.nil) (.nil)) (.nil)) (.node (o_49 P) (.node (o_81 P) (.nil) (.nil)) (.nil))) (.node (o_25 P) (.node (o_41 P) (.node (o_73 P) (.nil) (.nil)) (.nil)) (.node (o_57 P) (.node (frz (x 89)) (.nil) (.nil)) (.nil)))) (.node (o_13 P) (.node (o_21 P) (.node (o_37 P) (.node (o_69 P) (.nil) (.nil)) (.nil)) (.node (o_53 P) (.node (frz (x 85)) (.nil) (.nil)) (.nil))) (.node (oq3_29 P) (.node (o_45 P) (.node (o_77 P) (.nil) (.nil)) (.nil)) (.node (o_61 P) (.node (o_93 P) (.nil) (.nil)) (.nil)))))) (.node (o_2 P) (.node (o_4 P) (.node (o_8 P) (.node (o_16 P) (.node (o_32 P) (.node (o_64 P) (.nil) (.nil)) (.nil)) (.node (o_48 P) (.node (frz (x 80)) (.nil) (.nil)) (.nil))) (.node (o_24 P) (.node (o_40 P) (.node (o_72 P) (.nil) (.nil)) (.nil)) (.node (o_56 P) (.node (o_88 P) (.nil) (.nil)) (.nil)))) (.node (o_12 P) (.node (o_20 P) (.node (o_36 P) (.node (o_68 P) (.nil) (.nil)) (.nil)) (.node (o_52 P) (.node (frz (x 84)) (.nil) (.nil)) (.nil))) (.node (o_28 P) (.node (o_44 P) (.node (o_76 P) (.nil) (.nil)) (.nil)) (.node (o_60 P) (.node (o_92 P) (.nil) (.nil)) (.nil))))) (.node (o_6 P) (.node (o_10 P) (.node (o_18 P) (.node (o_34 P) (.node (o_66 P) (.nil) (.nil)) (.nil)) (.node (o_50 P) (.node (o_82 P) (.nil) (.nil)) (.nil))) (.node (o_26 P) (.node (o_42 P) (.node (o_74 P) (.nil) (.nil)) (.nil)) (.node (o_58 P) (.node (frz (x 90)) (.nil) (.nil)) (.nil)))) (.node (o_14 P) (.node (o_22 P) (.node (o_38 P) (.node (o_70 P) (.nil) (.nil)) (.nil)) (.node (o_54 P) (.node (o_86 P) (.nil) (.nil)) (.nil))) (.node (o_30 P) (.node (o_46 P) (.node (o_78 P) (.nil) (.nil)) (.nil)) (.node (o_62 P) (.nil) (.nil))))))
noncomputable def T_5p (P : Params) (x : Nat → FS) : BT := .node (o_0 P) (.node (o_1 P) (.node (oq4_3 P) (.node (o_7 P) (.node (o_15 P) (.node (o_31 P) (.node (o_63 P) (.nil) (.nil)) (.nil)) (.node (o_47 P) (.node (o_79 P) (.nil) (.nil)) (.nil))) (.node (o_23 P) (.node (o_39 P) (.node (o_71 P) (.nil) (.nil)) (.nil)) (.node (o_55 P) (.node (o_87 P) (.nil) (.nil)) (.nil)))) (.node (o_11 P) (.node (o_19 P) (.node (o_35 P) (.node (o_67 P) (.nil) (.nil)) (.nil)) (.node (o_51 P) (.node (o_83 P) (.nil) (.nil)) (.nil))) (.node (o_27 P) (.node (o_43 P) (.node (frz (x 75)) (.nil) (.nil)) (.nil)) (.node (o_59 P) (.node (o_91 P) (.nil) (.nil)) (.nil))))) (.node (o_5 P) (.node (o_9 P) (.node (o_17 P) (.node (o_33 P) (.node (o_65 P) (.nil) (.nil)) (.nil)) (.node (o_49 P) (.node (o_81 P) (.nil) (.nil)) (.nil))) (.node (o_25 P) (.node (o_41 P) (.node (o_73 P) (.nil) (.nil)) (.nil)) (.node (o_57 P) (.node (frz (x 89)) (.nil) (.nil)) (.nil)))) (.node (o_13 P) (.node (o_21 P) (.node (o_37 P) (.node (o_69 P) (.nil) (.nil)) (.nil)) (.node (o_53 P) (.node (frz (x 85)) (.nil) (.nil)) (.nil))) (.node (oq3_29 P) (.node (o_45 P) (.node (o_77 P) (.nil) (.nil)) (.nil)) (.node (o_61 P) (.node (o_93 P) (.nil) (.nil)) (.nil)))))) (.node (o_2 P) (.node (o_4 P) (.node (o_8 P) (.node (o_16 P) (.node (o_32 P) (.node (o_64 P) (.nil) (.nil)) (.nil)) (.node (o_48 P) (.node (frz (x 80)) (.nil) (.nil)) (.nil))) (.node (o_24 P) (.node (o_40 P) (.node (o_72 P) (.nil) (.nil)) (.nil)) (.node (o_56 P) (.node (o_88 P) (.nil) (.nil)) (.nil)))) (.node (o_12 P) (.node (o_20 P) (.node (o_36 P) (.node (o_68 P) (.nil) (.nil)) (.nil)) (.node (o_52 P) (.node (frz (x 84)) (.nil) (.nil)) (.nil))) (.node (o_28 P) (.node (o_44 P) (.node (o_76 P) (.nil) (.nil)) (.nil)) (.node (o_60 P) (.node (o_92 P) (.nil) (.nil)) (.nil))))) (.node (o_6 P) (.node (o_10 P) (.node (o_18 P) (.node (o_34 P) (.node (o_66 P) (.nil) (.nil)) (.nil)) (.node (o_50 P) (.node (o_82 P) (.nil) (.nil)) (.nil))) (.node (o_26 P) (.node (o_42 P) (.node (o_74 P) (.nil) (.nil)) (.nil)) (.node (o_58 P) (.node (frz (x 90)) (.nil) (.nil)) (.nil)))) (.node (o_14 P) (.node (o_22 P) (.node (o_38 P) (.node (o_70 P) (.nil) (.nil)) (.nil)) (.node (o_54 P) (.node (o_86 P) (.nil) (.nil)) (.nil))) (.node (o_30 P) (.node (o_46 P) (.node (o_78 P) (.nil) (.nil)) (.nil)) (.node (o_62 P) (.node (frz (x 94)) (.nil) (.nil)) (.nil))))))
noncomputable def T_q5 (P : Params) (x : Nat → FS) : BT := .node (o_0 P) (.node (o_1 P) (.node (oq5_3 P) (.node (o_7 P) (.node (o_15 P) (.node (o_31 P) (.node (o_63 P) (.nil) (.nil)) (.nil)) (.node (o_47 P) (.node (o_79 P) (.nil) (.nil)) (.nil))) (.node (o_23 P) (.node (o_39 P) (.node (o_71 P) (.nil) (.nil)) (.nil)) (.node (o_55 P) (.node (o_87 P) (.nil) (.nil)) (.nil)))) (.node (o_11 P) (.node (o_19 P) (.node (o_35 P) (.node (o_67 P) (.nil) (.nil)) (.nil)) (.node (o_51 P) (.node (o_83 P) (.nil) (.nil)) (.nil))) (.node (o_27 P) (.node (o_43 P) (.node (frz (x 75)) (.nil) (.nil)) (.nil)) (.node (o_59 P) (.node (o_91 P) (.nil) (.nil)) (.nil))))) (.node (o_5 P) (.node (o_9 P) (.node (o_17 P) (.node (o_33 P) (.node (o_65 P) (.nil) (.nil)) (.nil)) (.node (o_49 P) (.node (o_81 P) (.nil) (.nil)) (.nil))) (.node (o_25 P) (.node (o_41 P) (.node (o_73 P) (.nil) (.nil)) (.nil)) (.node (o_57 P) (.node (frz (x 89)) (.nil) (.nil)) (.nil)))) (.node (o_13 P) (.node (o_21 P) (.node (o_37 P) (.node (o_69 P) (.nil) (.nil)) (.nil)) (.node (o_53 P) (.node (frz (x 85)) (.nil) (.nil)) (.nil))) (.node (oq3_29 P) (.node (o_45 P) (.node (o_77 P) (.nil) (.nil)) (.nil)) (.node (o_61 P) (.node (o_93 P) (.nil) (.nil)) (.nil)))))) (.node (o_2 P) (.node (o_4 P) (.node (o_8 P) (.node (o_16 P) (.node (o_32 P) (.node (o_64 P) (.nil) (.nil)) (.nil)) (.node (o_48 P) (.node (frz (x 80)) (.nil) (.nil)) (.nil))) (.node (o_24 P) (.node (o_40 P) (.node (o_72 P) (.nil) (.nil)) (.nil)) (.node (o_56 P) (.node (o_88 P) (.nil) (.nil)) (.nil)))) (.node (o_12 P) (.node (o_20 P) (.node (o_36 P) (.node (o_68 P) (.nil) (.nil)) (.nil)) (.node (o_52 P) (.node (frz (x 84)) (.nil) (.nil)) (.nil))) (.node (o_28 P) (.node (o_44 P) (.node (o_76 P) (.nil) (.nil)) (.nil)) (.node (o_60 P) (.node (o_92 P) (.nil) (.nil)) (.nil))))) (.node (o_6 P) (.node (o_10 P) (.node (o_18 P) (.node (o_34 P) (.node (o_66 P) (.nil) (.nil)) (.nil)) (.node (o_50 P) (.node (o_82 P) (.nil) (.nil)) (.nil))) (.node (o_26 P) (.node (o_42 P) (.node (o_74 P) (.nil) (.nil)) (.nil)) (.node (o_58 P) (.node (frz (x 90)) (.nil) (.nil)) (.nil)))) (.node (o_14 P) (.node (o_22 P) (.node (o_38 P) (.node (o_70 P) (.nil) (.nil)) (.nil)) (.node (o_54 P) (.node (o_86 P) (.nil) (.nil)) (.nil))) (.node (o_30 P) (.node (o_46 P) (.node (o_78 P) (.nil) (.nil)) (.nil)) (.node (o_62 P) (.node (frz (x 94)) (.nil) (.nil)) (.nil))))))
noncomputable def T_7b (P : Params) (i : Nat) (x : Nat → FS) : BT := .node (o_0 P) (.node (o_1 P) (.node (oq6_3 P) (.node (o_7 P) (.node (o_15 P) (.node (o_31 P) (.node (o_63 P) (.nil) (.nil)) (.node (frz (x 95)) (.nil) (.nil))) (.node (o_47 P) (.node (o_79 P) (.nil) (.nil)) (.nil))) (.node (o_23 P) (.node (o_39 P) (.node (o_71 P) (.nil) (.nil)) (.nil)) (.node (o_55 P) (.node (o_87 P) (.nil) (.nil)) (.nil)))) (.node (o_11 P) (.node (o_19 P) (.node (o_35 P) (.node (o_67 P) (.nil) (.nil)) (.nil)) (.node (o_51 P) (.node (o_83 P) (.nil) (.nil)) (.nil))) (.node (o_27 P) (.node (o_43 P) (.node (frz (x 75)) (.nil) (.nil)) (.nil)) (.node (o_59 P) (.node (o_91 P) (.nil) (.nil)) (.nil))))) (.node (o_5 P) (.node (o_9 P) (.node (o_17 P) (.node (o_33 P) (.node (o_65 P) (.nil) (.nil)) (.nil)) (.node (o_49 P) (.node (o_81 P) (.nil) (.nil)) (.nil))) (.node (o_25 P) (.node (o_41 P) (.node (o_73 P) (.nil) (.nil)) (.nil)) (.node (o_57 P) (.node (frz (x 89)) (.nil) (.nil)) (.nil)))) (.node (o_13 P) (.node (o_21 P) (.node (o_37 P) (.node (o_69 P) (.nil) (.nil)) (.nil)) (.node (o_53 P) (.node (frz (x 85)) (.nil) (.nil)) (.nil))) (.node (oq3_29 P) (.node (o_45 P) (.node (o_77 P) (.nil) (.nil)) (.nil)) (.node (o_61 P) (.node (o_93 P) (.nil) (.nil)) (.nil)))))) (.node (o_2 P) (.node (o_4 P) (.node (o_8 P) (.node (o_16 P) (.node (o_32 P) (.node (o_64 P) (.nil) (.nil)) (.node (sit (.str (Str.ofString " \t") 486) i) (.nil) (.nil))) (.node (o_48 P) (.node (frz (x 80)) (.nil) (.nil)) (.nil))) (.node (o_24 P) (.node (o_40 P) (.node (o_72 P) (.nil) (.nil)) (.nil)) (.node (o_56 P) (.node (o_88 P) (.nil) (.nil)) (.nil)))) (.node (o_12 P) (.node (o_20 P) (.node (o_36 P) (.node (o_68 P) (.nil) (.nil)) (.nil)) (.node (o_52 P) (.node (frz (x 84)) (.nil) (.nil)) (.nil))) (.node (o_28 P) (.node (o_44 P) (.node (o_76 P) (.nil) (.nil)) (.nil)) (.node (o_60 P) (.node (o_92 P) (.nil) (.nil)) (.nil))))) (.node (o_6 P) (.node (o_10 P) (.node (o_18 P) (.node (o_34 P) (.node (o_66 P) (.nil) (.nil)) (.nil)) (.node (o_50 P) (.node (o_82 P) (.nil) (.nil)) (.nil))) (.node (o_26 P) (.node (o_42 P) (.node (o_74 P) (.nil) (.nil)) (.nil)) (.node (o_58 P) (.node (frz (x 90)) (.nil) (.nil)) (.nil)))) (.node (o_14 P) (.node (o_22 P) (.node (o_38 P) (.node (o_70 P) (.nil) (.nil)) (.nil)) (.node (o_54 P) (.node (o_86 P) (.nil) (.nil)) (.nil))) (.node (o_30 P) (.node (o_46 P) (.node (o_78 P) (.nil) (.nil)) (.nil)) (.node (o_62 P) (.node (frz (x 94)) (.nil) (.nil)) (.nil))))))
noncomputable def T_q7 (P : Params) (x : Nat → FS) : BT := .node (o_0 P) (.node (o_1 P) (.node (oq7_3 P) (.node (o_7 P) (.node (o_15 P) (.node (o_31 P) (.node (o_63 P) (.nil) (.nil)) (.node (frz (x 95)) (.nil) (.nil))) (.node (o_47 P) (.node (o_79 P) (.nil) (.nil)) (.nil))) (.node (o_23 P) (.node (o_39 P) (.node (o_71 P) (.nil) (.nil)) (.nil)) (.node (o_55 P) (.node (o_87 P) (.nil) (.nil)) (.nil)))) (.node (o_11 P) (.node (o_19 P) (.node (o_35 P) (.node (o_67 P) (.nil) (.nil)) (.nil)) (.node (o_51 P) (.node (o_83 P) (.nil) (.nil)) (.nil))) (.node (o_27 P) (.node (o_43 P) (.node (frz (x 75)) (.nil) (.nil)) (.nil)) (.node (o_59 P) (.node (o_91 P) (.nil) (.nil)) (.nil))))) (.node (o_5 P) (.node (o_9 P) (.node (o_17 P) (.node (o_33 P) (.node (o_65 P) (.nil) (.nil)) (.node (o_97 P) (.nil) (.nil))) (.node (o_49 P) (.node (o_81 P) (.nil) (.nil)) (.nil))) (.node (o_25 P) (.node (o_41 P) (.node (o_73 P) (.nil) (.nil)) (.nil)) (.node (o_57 P) (.node (frz (x 89)) (.nil) (.nil)) (.nil)))) (.node (o_13 P) (.node (o_21 P) (.node (o_37 P) (.node (o_69 P) (.nil) (.nil)) (.nil)) (.node (o_53 P) (.node (frz (x 85)) (.nil) (.nil)) (.nil))) (.node (oq3_29 P) (.node (o_45 P) (.node (o_77 P) (.nil) (.nil)) (.nil)) (.node (o_61 P) (.node (o_93 P) (.nil) (.nil)) (.nil)))))) (.node (o_2 P) (.node (o_4 P) (.node (o_8 P) (.node (o_16 P) (.node (o_32 P) (.node (o_64 P) (.nil) (.nil)) (.node (o_96 P) (.nil) (.nil))) (.node (o_48 P) (.node (frz (x 80)) (.nil) (.nil)) (.nil))) (.node (o_24 P) (.node (o_40 P) (.node (o_72 P) (.nil) (.nil)) (.nil)) (.node (o_56 P) (.node (o_88 P) (.nil) (.nil)) (.nil)))) (.node (o_12 P) (.node (o_20 P) (.node (o_36 P) (.node (o_68 P) (.nil) (.nil)) (.nil)) (.node (o_52 P) (.node (frz (x 84)) (.nil) (.nil)) (.nil))) (.node (o_28 P) (.node (o_44 P) (.node (o_76 P) (.nil) (.nil)) (.nil)) (.node (o_60 P) (.node (o_92 P) (.nil) (.nil)) (.nil))))) (.node (o_6 P) (.node (o_10 P) (.node (o_18 P) (.node (o_34 P) (.node (o_66 P) (.nil) (.nil)) (.node (o_98 P) (.nil) (.nil))) (.node (o_50 P) (.node (o_82 P) (.nil) (.nil)) (.nil))) (.node (o_26 P) (.node (o_42 P) (.node (o_74 P) (.nil) (.nil)) (.nil)) (.node (o_58 P) (.node (frz (x 90)) (.nil) (.nil)) (.nil)))) (.node (o_14 P) (.node (o_22 P) (.node (o_38 P) (.node (o_70 P) (.nil) (.nil)) (.nil)) (.node (o_54 P) (.node (o_86 P) (.nil) (.nil)) (.nil))) (.node (o_30 P) (.node (o_46 P) (.node (o_78 P) (.nil) (.nil)) (.nil)) (.node (o_62 P) (.node (frz (x 94)) (.nil) (.nil)) (.nil))))))
noncomputable def T_8b (P : Params) (x : Nat → FS) : BT := .node (o_0 P) (.node (o_1 P) (.node (oq7_3 P) (.node (o_7 P) (.node (o_15 P) (.node (o_31 P) (.node (o_63 P) (.nil) (.nil)) (.node (frz (x 95)) (.nil) (.nil))) (.node (o_47 P) (.node (o_79 P) (.nil) (.nil)) (.nil))) (.node (o_23 P) (.node (o_39 P) (.node (o_71 P) (.nil) (.nil)) (.nil)) (.node (o_55 P) (.node (o_87 P) (.nil) (.nil)) (.nil)))) (.node (o_11 P) (.node (o_19 P) (.node (o_35 P) (.node (o_67 P) (.nil) (.nil)) (.node (frz (x 99)) (.nil) (.nil))) (.node (o_51 P) (.node (o_83 P) (.nil) (.nil)) (.nil))) (.node (o_27 P) (.node (o_43 P) (.node (frz (x 75)) (.nil) (.nil)) (.nil)) (.node (o_59 P) (.node (o_91 P) (.nil) (.nil)) (.nil))))) (.node (o_5 P) (.node (o_9 P) (.node (o_17 P) (.node (o_33 P) (.node (o_65 P) (.nil) (.nil)) (.node (o_97 P) (.nil) (.nil))) (.node (o_49 P) (.node (o_81 P) (.nil) (.nil)) (.nil))) (.node (o_25 P) (.node (o_41 P) (.node (o_73 P) (.nil) (.nil)) (.nil)) (.node (o_57 P) (.node (frz (x 89)) (.nil) (.nil)) (.nil)))) (.node (o_13 P) (.node (o_21 P) (.node (o_37 P) (.node (o_69 P) (.nil) (.nil)) (.nil)) (.node (o_53 P) (.node (frz (x 85)) (.nil) (.nil)) (.nil))) (.node (oq3_29 P) (.node (o_45 P) (.node (o_77 P) (.nil) (.nil)) (.nil)) (.node (o_61 P) (.node (o_93 P) (.nil) (.nil)) (.nil)))))) (.node (o_2 P) (.node (o_4 P) (.node (o_8 P) (.node (o_16 P) (.node (o_32 P) (.node (o_64 P) (.nil) (.nil)) (.node (o_96 P) (.nil) (.nil))) (.node (o_48 P) (.node (frz (x 80)) (.nil) (.nil)) (.nil))) (.node (o_24 P) (.node (o_40 P) (.node (o_72 P) (.nil) (.nil)) (.nil)) (.node (o_56 P) (.node (o_88 P) (.nil) (.nil)) (.nil)))) (.node (o_12 P) (.node (o_20 P) (.node (o_36 P) (.node (o_68 P) (.nil) (.nil)) (.node (sit (.str (Str.ofString "\n") 492) 1) (.nil) (.nil))) (.node (o_52 P) (.node (frz (x 84)) (.nil) (.nil)) (.nil))) (.node (o_28 P) (.node (o_44 P) (.node (o_76 P) (.nil) (.nil)) (.nil)) (.node (o_60 P) (.node (o_92 P) (.nil) (.nil)) (.nil))))) (.node (o_6 P) (.node (o_10 P) (.node (o_18 P) (.node (o_34 P) (.node (o_66 P) (.nil) (.nil)) (.node (o_98 P) (.nil) (.nil))) (.node (o_50 P) (.node (o_82 P) (.nil) (.nil)) (.nil))) (.node (o_26 P) (.node (o_42 P) (.node (o_74 P) (.nil) (.nil)) (.nil)) (.node (o_58 P) (.node (frz (x 90)) (.nil) (.nil)) (.nil)))) (.node (o_14 P) (.node (o_22 P) (.node (o_38 P) (.node (o_70 P) (.nil) (.nil)) (.nil)) (.node (o_54 P) (.node (o_86 P) (.nil) (.nil)) (.nil))) (.node (o_30 P) (.node (o_46 P) (.node (o_78 P) (.nil) (.nil)) (.nil)) (.node (o_62 P) (.node (frz (x 94)) (.nil) (.nil)) (.nil))))))
noncomputable def T_8o (P : Params) (x : Nat → FS) : BT := .node (o_0 P) (.node (o_1 P) (.node (oq7_3 P) (.node (o_7 P) (.node (o_15 P) (.node (o_31 P) (.node (o_63 P) (.nil) (.nil)) (.node (frz (x 95)) (.nil) (.nil))) (.node (o_47 P) (.node (o_79 P) (.nil) (.nil)) (.nil))) (.node (o_23 P) (.node (o_39 P) (.node (o_71 P) (.nil) (.nil)) (.node (frz (x 103)) (.nil) (.nil))) (.node (o_55 P) (.node (o_87 P) (.nil) (.nil)) (.nil)))) (.node (o_11 P) (.node (o_19 P) (.node (o_35 P) (.node (o_67 P) (.nil) (.nil)) (.node (frz (x 99)) (.nil) (.nil))) (.node (o_51 P) (.node (o_83 P) (.nil) (.nil)) (.nil))) (.node (o_27 P) (.node (o_43 P) (.node (frz (x 75)) (.nil) (.nil)) (.nil)) (.node (o_59 P) (.node (o_91 P) (.nil) (.nil)) (.nil))))) (.node (o_5 P) (.node (o_9 P) (.node (o_17 P) (.node (o_33 P) (.node (o_65 P) (.nil) (.nil)) (.node (o_97 P) (.nil) (.nil))) (.node (o_49 P) (.node (o_81 P) (.nil) (.nil)) (.nil))) (.node (o_25 P) (.node (o_41 P) (.node (o_73 P) (.nil) (.nil)) (.nil)) (.node (o_57 P) (.node (frz (x 89)) (.nil) (.nil)) (.nil)))) (.node (o_13 P) (.node (o_21 P) (.node (o_37 P) (.node (o_69 P) (.nil) (.nil)) (.node (o_101 P) (.nil) (.nil))) (.node (o_53 P) (.node (frz (x 85)) (.nil) (.nil)) (.nil))) (.node (oq3_29 P) (.node (o_45 P) (.node (o_77 P) (.nil) (.nil)) (.nil)) (.node (o_61 P) (.node (o_93 P) (.nil) (.nil)) (.nil)))))) (.node (o_2 P) (.node (o_4 P) (.node (o_8 P) (.node (o_16 P) (.node (o_32 P) (.node (o_64 P) (.nil) (.nil)) (.node (o_96 P) (.nil) (.nil))) (.node (o_48 P) (.node (frz (x 80)) (.nil) (.nil)) (.nil))) (.node (o_24 P) (.node (o_40 P) (.node (o_72 P) (.nil) (.nil)) (.nil)) (.node (o_56 P) (.node (o_88 P) (.nil) (.nil)) (.nil)))) (.node (o_12 P) (.node (o_20 P) (.node (o_36 P) (.node (o_68 P) (.nil) (.nil)) (.node (o_100 P) (.nil) (.nil))) (.node (o_52 P) (.node (frz (x 84)) (.nil) (.nil)) (.nil))) (.node (o_28 P) (.node (o_44 P) (.node (o_76 P) (.nil) (.nil)) (.nil)) (.node (o_60 P) (.node (o_92 P) (.nil) (.nil)) (.nil))))) (.node (o_6 P) (.node (o_10 P) (.node (o_18 P) (.node (o_34 P) (.node (o_66 P) (.nil) (.nil)) (.node (o_98 P) (.nil) (.nil))) (.node (o_50 P) (.node (o_82 P) (.nil) (.nil)) (.nil))) (.node (o_26 P) (.node (o_42 P) (.node (o_74 P) (.nil) (.nil)) (.nil)) (.node (o_58 P) (.node (frz (x 90)) (.nil) (.nil)) (.nil)))) (.node (o_14 P) (.node (o_22 P) (.node (o_38 P) (.node (o_70 P) (.nil) (.nil)) (.node (o_102 P) (.nil) (.nil))) (.node (o_54 P) (.node (o_86 P) (.nil) (.nil)) (.nil))) (.node (o_30 P) (.node (o_46 P) (.node (o_78 P) (.nil) (.nil)) (.nil)) (.node (o_62 P) (.node (frz (x 94)) (.nil) (.nil)) (.nil))))))
noncomputable def T_q8 (P : Params) (x : Nat → FS) : BT := .node (o_0 P) (.node (o_1 P) (.node (oq8_3 P) (.node (o_7 P) (.node (o_15 P) (.node (o_31 P) (.node (o_63 P) (.nil) (.nil)) (.node (frz (x 95)) (.nil) (.nil))) (.node (o_47 P) (.node (o_79 P) (.nil) (.nil)) (.nil))) (.node (o_23 P) (.node (o_39 P) (.node (o_71 P) (.nil) (.nil)) (.node (frz (x 103)) (.nil) (.nil))) (.node (o_55 P) (.node (o_87 P) (.nil) (.nil)) (.nil)))) (.node (o_11 P) (.node (o_19 P) (.node (o_35 P) (.node (o_67 P) (.nil) (.nil)) (.node (frz (x 99)) (.nil) (.nil))) (.node (o_51 P) (.node (o_83 P) (.nil) (.nil)) (.nil))) (.node (o_27 P) (.node (o_43 P) (.node (frz (x 75)) (.nil) (.nil)) (.nil)) (.node (o_59 P) (.node (o_91 P) (.nil) (.nil)) (.nil))))) (.node (o_5 P) (.node (o_9 P) (.node (o_17 P) (.node (o_33 P) (.node (o_65 P) (.nil) (.nil)) (.node (o_97 P) (.nil) (.nil))) (.node (o_49 P) (.node (o_81 P) (.nil) (.nil)) (.nil))) (.node (o_25 P) (.node (o_41 P) (.node (o_73 P) (.nil) (.nil)) (.nil)) (.node (o_57 P) (.node (frz (x 89)) (.nil) (.nil)) (.nil)))) (.node (o_13 P) (.node (o_21 P) (.node (o_37 P) (.node (o_69 P) (.nil) (.nil)) (.node (o_101 P) (.nil) (.nil))) (.node (o_53 P) (.node (frz (x 85)) (.nil) (.nil)) (.nil))) (.node (oq3_29 P) (.node (o_45 P) (.node (o_77 P) (.nil) (.nil)) (.nil)) (.node (o_61 P) (.node (o_93 P) (.nil) (.nil)) (.nil)))))) (.node (o_2 P) (.node (o_4 P) (.node (o_8 P) (.node (o_16 P) (.node (o_32 P) (.node (o_64 P) (.nil) (.nil)) (.node (o_96 P) (.nil) (.nil))) (.node (o_48 P) (.node (frz (x 80)) (.nil) (.nil)) (.nil))) (.node (o_24 P) (.node (o_40 P) (.node (o_72 P) (.nil) (.nil)) (.nil)) (.node (o_56 P) (.node (o_88 P) (.nil) (.nil)) (.nil)))) (.node (o_12 P) (.node (o_20 P) (.node (o_36 P) (.node (o_68 P) (.nil) (.nil)) (.node (o_100 P) (.nil) (.nil))) (.node (o_52 P) (.node (frz (x 84)) (.nil) (.nil)) (.nil))) (.node (o_28 P) (.node (o_44 P) (.node (o_76 P) (.nil) (.nil)) (.nil)) (.node (o_60 P) (.node (o_92 P) (.nil) (.nil)) (.nil))))) (.node (o_6 P) (.node (o_10 P) (.node (o_18 P) (.node (o_34 P) (.node (o_66 P) (.nil) (.nil)) (.node (o_98 P) (.nil) (.nil))) (.node (o_50 P) (.node (o_82 P) (.nil) (.nil)) (.nil))) (.node (o_26 P) (.node (o_42 P) (.node (o_74 P) (.nil) (.nil)) (.nil)) (.node (o_58 P) (.node (frz (x 90)) (.nil) (.nil)) (.nil)))) (.node (o_14 P) (.node (o_22 P) (.node (o_38 P) (.node (o_70 P) (.nil) (.nil)) (.node (o_102 P) (.nil) (.nil))) (.node (o_54 P) (.node (o_86 P) (.nil) (.nil)) (.nil))) (.node (o_30 P) (.node (o_46 P) (.node (o_78 P) (.nil) (.nil)) (.nil)) (.node (o_62 P) (.node (frz (x 94)) (.nil) (.nil)) (.nil))))))
noncomputable def T_11b (P : Params) (i : Nat) (x : Nat → FS) : BT := .node (o_0 P) (.node (o_1 P) (.node (oq10_3 P) (.node (o_7 P) (.node (o_15 P) (.node (o_31 P) (.node (o_63 P) (.nil) (.nil)) (.node (frz (x 95)) (.nil) (.nil))) (.node (o_47 P) (.node (o_79 P) (.nil) (.nil)) (.nil))) (.node (o_23 P) (.node (o_39 P) (.node (o_71 P) (.nil) (.nil)) (.node (frz (x 103)) (.nil) (.nil))) (.node (o_55 P) (.node (o_87 P) (.nil) (.nil)) (.nil)))) (.node (o_11 P) (.node (o_19 P) (.node (o_35 P) (.node (o_67 P) (.nil) (.nil)) (.node (frz (x 99)) (.nil) (.nil))) (.node (o_51 P) (.node (o_83 P) (.nil) (.nil)) (.nil))) (.node (o_27 P) (.node (o_43 P) (.node (frz (x 75)) (.nil) (.nil)) (.nil)) (.node (o_59 P) (.node (o_91 P) (.nil) (.nil)) (.nil))))) (.node (o_5 P) (.node (o_9 P) (.node (o_17 P) (.node (o_33 P) (.node (o_65 P) (.nil) (.nil)) (.node (o_97 P) (.nil) (.nil))) (.node (o_49 P) (.node (o_81 P) (.nil) (.nil)) (.nil))) (.node (o_25 P) (.node (o_41 P) (.node (o_73 P) (.nil) (.nil)) (.node (sit (.str (Str.ofString "0123456789abcdefABCDEF") 501) i) (.nil) (.nil))) (.node (o_57 P) (.node (frz (x 89)) (.nil) (.nil)) (.nil)))) (.node (o_13 P) (.node (o_21 P) (.node (o_37 P) (.node (o_69 P) (.nil) (.nil)) (.node (o_101 P) (.nil) (.nil))) (.node (o_53 P) (.node (frz (x 85)) (.nil) (.nil)) (.nil))) (.node (oq3_29 P) (.node (o_45 P) (.node (o_77 P) (.nil) (.nil)) (.nil)) (.node (o_61 P) (.node (o_93 P) (.nil) (.nil)) (.nil)))))) (.node (o_2 P) (.node (o_4 P) (.node (o_8 P) (.node (o_16 P) (.node (o_32 P) (.node (o_64 P) (.nil) (.nil)) (.node (o_96 P) (.nil) (.nil))) (.node (o_48 P) (.node (frz (x 80)) (.nil) (.nil)) (.nil))) (.node (o_24 P) (.node (o_40 P) (.node (o_72 P) (.nil) (.nil)) (.node (frz (x 104)) (.nil) (.nil))) (.node (o_56 P) (.node (o_88 P) (.nil) (.nil)) (.nil)))) (.node (o_12 P) (.node (o_20 P) (.node (o_36 P) (.node (o_68 P) (.nil) (.nil)) (.node (o_100 P) (.nil) (.nil))) (.node (o_52 P) (.node (frz (x 84)) (.nil) (.nil)) (.nil))) (.node (o_28 P) (.node (o_44 P) (.node (o_76 P) (.nil) (.nil)) (.nil)) (.node (o_60 P) (.node (o_92 P) (.nil) (.nil)) (.nil))))) (.node (o_6 P) (.node (o_10 P) (.node (o_18 P) (.node (o_34 P) (.node (o_66 P) (.nil) (.nil)) (.node (o_98 P) (.nil) (.nil))) (.node (o_50 P) (.node (o_82 P) (.nil) (.nil)) (.nil))) (.node (o_26 P) (.node (o_42 P) (.node (o_74 P) (.nil) (.nil)) (.nil)) (.node (o_58 P) (.node (frz (x 90)) (.nil) (.nil)) (.nil)))) (.node (o_14 P) (.node (o_22 P) (.node (o_38 P) (.node (o_70 P) (.nil) (.nil)) (.node (o_102 P) (.nil) (.nil))) (.node (o_54 P) (.node (o_86 P) (.nil) (.nil)) (.nil))) (.node (o_30 P) (.node (o_46 P) (.node (o_78 P) (.nil) (.nil)) (.nil)) (.node (o_62 P) (.node (frz (x 94)) (.nil) (.nil)) (.nil))))))
noncomputable def T_q11 (P : Params) (x : Nat → FS) : BT := .node (o_0 P) (.node (o_1 P) (.node (oq11_3 P) (.node (o_7 P) (.node (o_15 P) (.node (o_31 P) (.node (o_63 P) (.nil) (.nil)) (.node (frz (x 95)) (.nil) (.nil))) (.node (o_47 P) (.node (o_79 P) (.nil) (.nil)) (.nil))) (.node (o_23 P) (.node (o_39 P) (.node (o_71 P) (.nil) (.nil)) (.node (frz (x 103)) (.nil) (.nil))) (.node (o_55 P) (.node (o_87 P) (.nil) (.nil)) (.nil)))) (.node (o_11 P) (.node (o_19 P) (.node (o_35 P) (.node (o_67 P) (.nil) (.nil)) (.node (frz (x 99)) (.nil) (.nil))) (.node (o_51 P) (.node (o_83 P) (.nil) (.nil)) (.nil))) (.node (o_27 P) (.node (o_43 P) (.node (frz (x 75)) (.nil) (.nil)) (.node (o_107 P) (.nil) (.nil))) (.node (o_59 P) (.node (o_91 P) (.nil) (.nil)) (.nil))))) (.node (o_5 P) (.node (o_9 P) (.node (o_17 P) (.node (o_33 P) (.node (o_65 P) (.nil) (.nil)) (.node (o_97 P) (.nil) (.nil))) (.node (o_49 P) (.node (o_81 P) (.nil) (.nil)) (.nil))) (.node (o_25 P) (.node (o_41 P) (.node (o_73 P) (.nil) (.nil)) (.node (o_105 P) (.nil) (.nil))) (.node (o_57 P) (.node (frz (x 89)) (.nil) (.nil)) (.nil)))) (.node (o_13 P) (.node (o_21 P) (.node (o_37 P) (.node (o_69 P) (.nil) (.nil)) (.node (o_101 P) (.nil) (.nil))) (.node (o_53 P) (.node (frz (x 85)) (.nil) (.nil)) (.nil))) (.node (oq11_29 P) (.node (o_45 P) (.node (o_77 P) (.nil) (.nil)) (.nil)) (.node (o_61 P) (.node (o_93 P) (.nil) (.nil)) (.nil)))))) (.node (o_2 P) (.node (o_4 P) (.node (o_8 P) (.node (o_16 P) (.node (o_32 P) (.node (o_64 P) (.nil) (.nil)) (.node (o_96 P) (.nil) (.nil))) (.node (o_48 P) (.node (frz (x 80)) (.nil) (.nil)) (.nil))) (.node (o_24 P) (.node (o_40 P) (.node (o_72 P) (.nil) (.nil)) (.node (frz (x 104)) (.nil) (.nil))) (.node (o_56 P) (.node (o_88 P) (.nil) (.nil)) (.nil)))) (.node (o_12 P) (.node (o_20 P) (.node (o_36 P) (.node (o_68 P) (.nil) (.nil)) (.node (o_100 P) (.nil) (.nil))) (.node (o_52 P) (.node (frz (x 84)) (.nil) (.nil)) (.nil))) (.node (o_28 P) (.node (o_44 P) (.node (o_76 P) (.nil) (.nil)) (.nil)) (.node (o_60 P) (.node (o_92 P) (.nil) (.nil)) (.nil))))) (.node (o_6 P) (.node (o_10 P) (.node (o_18 P) (.node (o_34 P) (.node (o_66 P) (.nil) (.nil)) (.node (o_98 P) (.nil) (.nil))) (.node (o_50 P) (.node (o_82 P) (.nil) (.nil)) (.nil))) (.node (o_26 P) (.node (o_42 P) (.node (o_74 P) (.nil) (.nil)) (.node (o_106 P) (.nil) (.nil))) (.node (o_58 P) (.node (frz (x 90)) (.nil) (.nil)) (.nil)))) (.node (o_14 P) (.node (o_22 P) (.node (o_38 P) (.node (o_70 P) (.nil) (.nil)) (.node (o_102 P) (.nil) (.nil))) (.node (o_54 P) (.node (o_86 P) (.nil) (.nil)) (.nil))) (.node (o_30 P) (.node (o_46 P) (.node (o_78 P) (.nil) (.nil)) (.nil)) (.node (o_62 P) (.node (frz (x 94)) (.nil) (.nil)) (.nil))))))
noncomputable def T_q14 (P : Params) (x : Nat → FS) : BT := .node (o_0 P) (.node (o_1 P) (.node (oq14_3 P) (.node (o_7 P) (.node (o_15 P) (.node (o_31 P) (.node (o_63 P) (.nil) (.nil)) (.node (frz (x 95)) (.nil) (.nil))) (.node (o_47 P) (.node (o_79 P) (.nil) (.nil)) (.nil))) (.node (o_23 P) (.node (o_39 P) (.node (o_71 P) (.nil) (.nil)) (.node (frz (x 103)) (.nil) (.nil))) (.node (o_55 P) (.node (o_87 P) (.nil) (.nil)) (.nil)))) (.node (o_11 P) (.node (o_19 P) (.node (o_35 P) (.node (o_67 P) (.nil) (.nil)) (.node (frz (x 99)) (.nil) (.nil))) (.node (o_51 P) (.node (o_83 P) (.nil) (.nil)) (.nil))) (.node (o_27 P) (.node (o_43 P) (.node (frz (x 75)) (.nil) (.nil)) (.node (o_107 P) (.nil) (.nil))) (.node (o_59 P) (.node (o_91 P) (.nil) (.nil)) (.nil))))) (.node (o_5 P) (.node (o_9 P) (.node (o_17 P) (.node (o_33 P) (.node (o_65 P) (.nil) (.nil)) (.node (o_97 P) (.nil) (.nil))) (.node (o_49 P) (.node (o_81 P) (.nil) (.nil)) (.nil))) (.node (o_25 P) (.node (o_41 P) (.node (o_73 P) (.nil) (.nil)) (.node (o_105 P) (.nil) (.nil))) (.node (o_57 P) (.node (frz (x 89)) (.nil) (.nil)) (.nil)))) (.node (o_13 P) (.node (o_21 P) (.node (o_37 P) (.node (o_69 P) (.nil) (.nil)) (.node (o_101 P) (.nil) (.nil))) (.node (o_53 P) (.node (frz (x 85)) (.nil) (.nil)) (.nil))) (.node (oq14_29 P) (.node (o_45 P) (.node (o_77 P) (.nil) (.nil)) (.nil)) (.node (o_61 P) (.node (o_93 P) (.nil) (.nil)) (.nil)))))) (.node (o_2 P) (.node (o_4 P) (.node (o_8 P) (.node (o_16 P) (.node (o_32 P) (.node (o_64 P) (.nil) (.nil)) (.node (o_96 P) (.nil) (.nil))) (.node (o_48 P) (.node (frz (x 80)) (.nil) (.nil)) (.nil))) (.node (o_24 P) (.node (o_40 P) (.node (o_72 P) (.nil) (.nil)) (.node (frz (x 104)) (.nil) (.nil))) (.node (o_56 P) (.node (o_88 P) (.nil) (.nil)) (.nil)))) (.node (o_12 P) (.node (o_20 P) (.node (o_36 P) (.node (o_68 P) (.nil) (.nil)) (.node (o_100 P) (.nil) (.nil))) (.node (o_52 P) (.node (frz (x 84)) (.nil) (.nil)) (.nil))) (.node (o_28 P) (.node (o_44 P) (.node (o_76 P) (.nil) (.nil)) (.node (o_108 P) (.nil) (.nil))) (.node (o_60 P) (.node (o_92 P) (.nil) (.nil)) (.nil))))) (.node (o_6 P) (.node (o_10 P) (.node (o_18 P) (.node (o_34 P) (.node (o_66 P) (.nil) (.nil)) (.node (o_98 P) (.nil) (.nil))) (.node (o_50 P) (.node (o_82 P) (.nil) (.nil)) (.nil))) (.node (o_26 P) (.node (o_42 P) (.node (o_74 P) (.nil) (.nil)) (.node (o_106 P) (.nil) (.nil))) (.node (o_58 P) (.node (frz (x 90)) (.nil) (.nil)) (.nil)))) (.node (o_14 P) (.node (o_22 P) (.node (o_38 P) (.node (o_70 P) (.nil) (.nil)) (.node (o_102 P) (.nil) (.nil))) (.node (o_54 P) (.node (o_86 P) (.nil) (.nil)) (.nil))) (.node (o_30 P) (.node (o_46 P) (.node (o_78 P) (.nil) (.nil)) (.nil)) (.node (o_62 P) (.node (frz (x 94)) (.nil) (.nil)) (.nil))))))
noncomputable def T_q15 (P : Params) (x : Nat → FS) : BT := .node (o_0 P) (.node (o_1 P) (.node (oq15_3 P) (.node (o_7 P) (.node (o_15 P) (.node (o_31 P) (.node (o_63 P) (.nil) (.nil)) (.node (frz (x 95)) (.nil) (.nil))) (.node (o_47 P) (.node (o_79 P) (.nil) (.nil)) (.nil))) (.node (o_23 P) (.node (o_39 P) (.node (o_71 P) (.nil) (.nil)) (.node (frz (x 103)) (.nil) (.nil))) (.node (o_55 P) (.node (o_87 P) (.nil) (.nil)) (.nil)))) (.node (o_11 P) (.node (o_19 P) (.node (o_35 P) (.node (o_67 P) (.nil) (.nil)) (.node (frz (x 99)) (.nil) (.nil))) (.node (o_51 P) (.node (o_83 P) (.nil) (.nil)) (.nil))) (.node (o_27 P) (.node (o_43 P) (.node (frz (x 75)) (.nil) (.nil)) (.node (o_107 P) (.nil) (.nil))) (.node (o_59 P) (.node (o_91 P) (.nil) (.nil)) (.nil))))) (.node (o_5 P) (.node (o_9 P) (.node (o_17 P) (.node (o_33 P) (.node (o_65 P) (.nil) (.nil)) (.node (o_97 P) (.nil) (.nil))) (.node (o_49 P) (.node (o_81 P) (.nil) (.nil)) (.nil))) (.node (o_25 P) (.node (o_41 P) (.node (o_73 P) (.nil) (.nil)) (.node (o_105 P) (.nil) (.nil))) (.node (o_57 P) (.node (frz (x 89)) (.nil) (.nil)) (.nil)))) (.node (o_13 P) (.node (o_21 P) (.node (o_37 P) (.node (o_69 P) (.nil) (.nil)) (.node (o_101 P) (.nil) (.nil))) (.node (o_53 P) (.node (frz (x 85)) (.nil) (.nil)) (.nil))) (.node (oq15_29 P) (.node (o_45 P) (.node (o_77 P) (.nil) (.nil)) (.node (o_109 P) (.nil) (.nil))) (.node (o_61 P) (.node (o_93 P) (.nil) (.nil)) (.nil)))))) (.node (o_2 P) (.node (o_4 P) (.node (o_8 P) (.node (o_16 P) (.node (o_32 P) (.node (o_64 P) (.nil) (.nil)) (.node (o_96 P) (.nil) (.nil))) (.node (o_48 P) (.node (frz (x 80)) (.nil) (.nil)) (.nil))) (.node (o_24 P) (.node (o_40 P) (.node (o_72 P) (.nil) (.nil)) (.node (frz (x 104)) (.nil) (.nil))) (.node (o_56 P) (.node (o_88 P) (.nil) (.nil)) (.nil)))) (.node (o_12 P) (.node (o_20 P) (.node (o_36 P) (.node (o_68 P) (.nil) (.nil)) (.node (o_100 P) (.nil) (.nil))) (.node (o_52 P) (.node (frz (x 84)) (.nil) (.nil)) (.nil))) (.node (o_28 P) (.node (o_44 P) (.node (o_76 P) (.nil) (.nil)) (.node (o_108 P) (.nil) (.nil))) (.node (o_60 P) (.node (o_92 P) (.nil) (.nil)) (.nil))))) (.node (o_6 P) (.node (o_10 P) (.node (o_18 P) (.node (o_34 P) (.node (o_66 P) (.nil) (.nil)) (.node (o_98 P) (.nil) (.nil))) (.node (o_50 P) (.node (o_82 P) (.nil) (.nil)) (.nil))) (.node (o_26 P) (.node (o_42 P) (.node (o_74 P) (.nil) (.nil)) (.node (o_106 P) (.nil) (.nil))) (.node (o_58 P) (.node (frz (x 90)) (.nil) (.nil)) (.nil)))) (.node (o_14 P) (.node (o_22 P) (.node (o_38 P) (.node (o_70 P) (.nil) (.nil)) (.node (o_102 P) (.nil) (.nil))) (.node (o_54 P) (.node (o_86 P) (.nil) (.nil)) (.nil))) (.node (o_30 P) (.node (o_46 P) (.node (o_78 P) (.nil) (.nil)) (.node (o_110 P) (.nil) (.nil))) (.node (o_62 P) (.node (frz (x 94)) (.nil) (.nil)) (.nil))))))
noncomputable def T_q20 (P : Params) (x : Nat → FS) : BT := .node (o_0 P) (.node (o_1 P) (.node (oq20_3 P) (.node (o_7 P) (.node (o_15 P) (.node (o_31 P) (.node (o_63 P) (.node (o_127 P) (.nil) (.nil)) (.nil)) (.node (frz (x 95)) (.nil) (.nil))) (.node (o_47 P) (.node (o_79 P) (.node (o_143 P) (.nil) (.nil)) (.nil)) (.node (o_111 P) (.nil) (.nil)))) (.node (o_23 P) (.node (o_39 P) (.node (o_71 P) (.node (o_135 P) (.nil) (.nil)) (.nil)) (.node (frz (x 103)) (.nil) (.nil))) (.node (o_55 P) (.node (o_87 P) (.node (o_151 P) (.nil) (.nil)) (.nil)) (.node (o_119 P) (.nil) (.nil))))) (.node (o_11 P) (.node (o_19 P) (.node (o_35 P) (.node (o_67 P) (.node (o_131 P) (.nil) (.nil)) (.nil)) (.node (frz (x 99)) (.nil) (.nil))) (.node (o_51 P) (.node (o_83 P) (.node (o_147 P) (.nil) (.nil)) (.nil)) (.node (o_115 P) (.nil) (.nil)))) (.node (o_27 P) (.node (o_43 P) (.node (frz (x 75)) (.node (o_139 P) (.nil) (.nil)) (.nil)) (.node (o_107 P) (.nil) (.nil))) (.node (o_59 P) (.node (o_91 P) (.nil) (.nil)) (.node (o_123 P) (.nil) (.nil)))))) (.node (o_5 P) (.node (o_9 P) (.node (o_17 P) (.node (o_33 P) (.node (o_65 P) (.node (o_129 P) (.nil) (.nil)) (.nil)) (.node (o_97 P) (.nil) (.nil))) (.node (o_49 P) (.node (o_81 P) (.node (o_145 P) (.nil) (.nil)) (.nil)) (.node (o_113 P) (.nil) (.nil)))) (.node (o_25 P) (.node (o_41 P) (.node (o_73 P) (.node (o_137 P) (.nil) (.nil)) (.nil)) (.node (o_105 P) (.nil) (.nil))) (.node (o_57 P) (.node (frz (x 89)) (.nil) (.nil)) (.node (o_121 P) (.nil) (.nil))))) (.node (o_13 P) (.node (o_21 P) (.node (o_37 P) (.node (o_69 P) (.node (o_133 P) (.nil) (.nil)) (.nil)) (.node (o_101 P) (.nil) (.nil))) (.node (o_53 P) (.node (frz (x 85)) (.node (o_149 P) (.nil) (.nil)) (.nil)) (.node (o_117 P) (.nil) (.nil)))) (.node (oq20_29 P) (.node (o_45 P) (.node (o_77 P) (.node (o_141 P) (.nil) (.nil)) (.nil)) (.node (o_109 P) (.nil) (.nil))) (.node (o_61 P) (.node (o_93 P) (.nil) (.nil)) (.node (o_125 P) (.nil) (.nil))))))) (.node (o_2 P) (.node (o_4 P) (.node (o_8 P) (.node (o_16 P) (.node (o_32 P) (.node (o_64 P) (.node (o_128 P) (.nil) (.nil)) (.nil)) (.node (o_96 P) (.nil) (.nil))) (.node (o_48 P) (.node (frz (x 80)) (.node (o_144 P) (.nil) (.nil)) (.nil)) (.node (o_112 P) (.nil) (.nil)))) (.node (o_24 P) (.node (o_40 P) (.node (o_72 P) (.node (o_136 P) (.nil) (.nil)) (.nil)) (.node (frz (x 104)) (.nil) (.nil))) (.node (o_56 P) (.node (o_88 P) (.node (o_152 P) (.nil) (.nil)) (.nil)) (.node (o_120 P) (.nil) (.nil))))) (.node (o_12 P) (.node (o_20 P) (.node (o_36 P) (.node (o_68 P) (.node (o_132 P) (.nil) (.nil)) (.nil)) (.node (o_100 P) (.nil) (.nil))) (.node (o_52 P) (.node (frz (x 84)) (.node (o_148 P) (.nil) (.nil)) (.nil)) (.node (o_116 P) (.nil) (.nil)))) (.node (o_28 P) (.node (o_44 P) (.node (o_76 P) (.node (o_140 P) (.nil) (.nil)) (.nil)) (.node (o_108 P) (.nil) (.nil))) (.node (o_60 P) (.node (o_92 P) (.nil) (.nil)) (.node (o_124 P) (.nil) (.nil)))))) (.node (o_6 P) (.node (o_10 P) (.node (o_18 P) (.node (o_34 P) (.node (o_66 P) (.node (o_130 P) (.nil) (.nil)) (.nil)) (.node (o_98 P) (.nil) (.nil))) (.node (o_50 P) (.node (o_82 P) (.node (o_146 P) (.nil) (.nil)) (.nil)) (.node (o_114 P) (.nil) (.nil)))) (.node (o_26 P) (.node (o_42 P) (.node (o_74 P) (.node (o_138 P) (.nil) (.nil)) (.nil)) (.node (o_106 P) (.nil) (.nil))) (.node (o_58 P) (.node (frz (x 90)) (.nil) (.nil)) (.node (o_122 P) (.nil) (.nil))))) (.node (o_14 P) (.node (o_22 P) (.node (o_38 P) (.node (o_70 P) (.node (o_134 P) (.nil) (.nil)) (.nil)) (.node (o_102 P) (.nil) (.nil))) (.node (o_54 P) (.node (o_86 P) (.node (o_150 P) (.nil) (.nil)) (.nil)) (.node (o_118 P) (.nil) (.nil)))) (.node (o_30 P) (.node (o_46 P) (.node (o_78 P) (.node (o_142 P) (.nil) (.nil)) (.nil)) (.node (o_110 P) (.nil) (.nil))) (.node (o_62 P) (.node (frz (x 94)) (.nil) (.nil)) (.node (o_126 P) (.nil) (.nil)))))))
noncomputable def T_q28 (P : Params) (x : Nat → FS) : BT := .node (o_0 P) (.node (o_1 P) (.node (oq28_3 P) (.node (o_7 P) (.node (o_15 P) (.node (o_31 P) (.node (o_63 P) (.node (o_127 P) (.nil) (.nil)) (.node (o_191 P) (.nil) (.nil))) (.node (frz (x 95)) (.node (o_159 P) (.nil) (.nil)) (.nil))) (.node (o_47 P) (.node (o_79 P) (.node (o_143 P) (.nil) (.nil)) (.nil)) (.node (o_111 P) (.node (o_175 P) (.nil) (.nil)) (.nil)))) (.node (o_23 P) (.node (o_39 P) (.node (o_71 P) (.node (o_135 P) (.nil) (.nil)) (.nil)) (.node (frz (x 103)) (.node (o_167 P) (.nil) (.nil)) (.nil))) (.node (o_55 P) (.node (o_87 P) (.node (o_151 P) (.nil) (.nil)) (.nil)) (.node (o_119 P) (.node (o_183 P) (.nil) (.nil)) (.nil))))) (.node (o_11 P) (.node (o_19 P) (.node (o_35 P) (.node (o_67 P) (.node (o_131 P) (.nil) (.nil)) (.node (o_195 P) (.nil) (.nil))) (.node (frz (x 99)) (.node (o_163 P) (.nil) (.nil)) (.nil))) (.node (o_51 P) (.node (o_83 P) (.node (o_147 P) (.nil) (.nil)) (.nil)) (.node (o_115 P) (.node (o_179 P) (.nil) (.nil)) (.nil)))) (.node (o_27 P) (.node (o_43 P) (.node (frz (x 75)) (.node (o_139 P) (.nil) (.nil)) (.nil)) (.node (o_107 P) (.node (o_171 P) (.nil) (.nil)) (.nil))) (.node (o_59 P) (.node (o_91 P) (.node (o_155 P) (.nil) (.nil)) (.nil)) (.node (o_123 P) (.node (o_187 P) (.nil) (.nil)) (.nil)))))) (.node (o_5 P) (.node (o_9 P) (.node (o_17 P) (.node (o_33 P) (.node (o_65 P) (.node (o_129 P) (.nil) (.nil)) (.node (o_193 P) (.nil) (.nil))) (.node (o_97 P) (.node (o_161 P) (.nil) (.nil)) (.nil))) (.node (o_49 P) (.node (o_81 P) (.node (o_145 P) (.nil) (.nil)) (.nil)) (.node (o_113 P) (.node (o_177 P) (.nil) (.nil)) (.nil)))) (.node (o_25 P) (.node (o_41 P) (.node (o_73 P) (.node (o_137 P) (.nil) (.nil)) (.nil)) (.node (o_105 P) (.node (o_169 P) (.nil) (.nil)) (.nil))) (.node (o_57 P) (.node (frz (x 89)) (.node (o_153 P) (.nil) (.nil)) (.nil)) (.node (o_121 P) (.node (o_185 P) (.nil) (.nil)) (.nil))))) (.node (o_13 P) (.node (o_21 P) (.node (o_37 P) (.node (o_69 P) (.node (o_133 P) (.nil) (.nil)) (.node (o_197 P) (.nil) (.nil))) (.node (o_101 P) (.node (o_165 P) (.nil) (.nil)) (.nil))) (.node (o_53 P) (.node (frz (x 85)) (.node (o_149 P) (.nil) (.nil)) (.nil)) (.node (o_117 P) (.node (o_181 P) (.nil) (.nil)) (.nil)))) (.node (oq28_29 P) (.node (o_45 P) (.node (o_77 P) (.node (o_141 P) (.nil) (.nil)) (.nil)) (.node (o_109 P) (.node (o_173 P) (.nil) (.nil)) (.nil))) (.node (o_61 P) (.node (o_93 P) (.node (o_157 P) (.nil) (.nil)) (.nil)) (.node (o_125 P) (.node (o_189 P) (.nil) (.nil)) (.nil))))))) (.node (o_2 P) (.node (o_4 P) (.node (o_8 P) (.node (o_16 P) (.node (o_32 P) (.node (o_64 P) (.node (o_128 P) (.nil) (.nil)) (.node (o_192 P) (.nil) (.nil))) (.node (o_96 P) (.node (o_160 P) (.nil) (.nil)) (.nil))) (.node (o_48 P) (.node (frz (x 80)) (.node (o_144 P) (.nil) (.nil)) (.nil)) (.node (o_112 P) (.node (o_176 P) (.nil) (.nil)) (.nil)))) (.node (o_24 P) (.node (o_40 P) (.node (o_72 P) (.node (o_136 P) (.nil) (.nil)) (.nil)) (.node (frz (x 104)) (.node (o_168 P) (.nil) (.nil)) (.nil))) (.node (o_56 P) (.node (o_88 P) (.node (o_152 P) (.nil) (.nil)) (.nil)) (.node (o_120 P) (.node (o_184 P) (.nil) (.nil)) (.nil))))) (.node (o_12 P) (.node (o_20 P) (.node (o_36 P) (.node (o_68 P) (.node (o_132 P) (.nil) (.nil)) (.node (o_196 P) (.nil) (.nil))) (.node (o_100 P) (.node (o_164 P) (.nil) (.nil)) (.nil))) (.node (o_52 P) (.node (frz (x 84)) (.node (o_148 P) (.nil) (.nil)) (.nil)) (.node (o_116 P) (.node (o_180 P) (.nil) (.nil)) (.nil)))) (.node (o_28 P) (.node (o_44 P) (.node (o_76 P) (.node (o_140 P) (.nil) (.nil)) (.nil)) (.node (o_108 P) (.node (o_172 P) (.nil) (.nil)) (.nil))) (.node (o_60 P) (.node (o_92 P) (.node (o_156 P) (.nil) (.nil)) (.nil)) (.node (o_124 P) (.node (o_188 P) (.nil) (.nil)) (.nil)))))) (.node (o_6 P) (.node (o_10 P) (.node (o_18 P) (.node (o_34 P) (.node (o_66 P) (.node (o_130 P) (.nil) (.nil)) (.node (o_194 P) (.nil) (.nil))) (.node (o_98 P) (.node (o_162 P) (.nil) (.nil)) (.nil))) (.node (o_50 P) (.node (o_82 P) (.node (o_146 P) (.nil) (.nil)) (.nil)) (.node (o_114 P) (.node (o_178 P) (.nil) (.nil)) (.nil)))) (.node (o_26 P) (.node (o_42 P) (.node (o_74 P) (.node (o_138 P) (.nil) (.nil)) (.nil)) (.node (o_106 P) (.node (o_170 P) (.nil) (.nil)) (.nil))) (.node (o_58 P) (.node (frz (x 90)) (.node (o_154 P) (.nil) (.nil)) (.nil)) (.node (o_122 P) (.node (o_186 P) (.nil) (.nil)) (.nil))))) (.node (o_14 P) (.node (o_22 P) (.node (o_38 P) (.node (o_70 P) (.node (o_134 P) (.nil) (.nil)) (.nil)) (.node (o_102 P) (.node (o_166 P) (.nil) (.nil)) (.nil))) (.node (o_54 P) (.node (o_86 P) (.node (o_150 P) (.nil) (.nil)) (.nil)) (.node (o_118 P) (.node (o_182 P) (.nil) (.nil)) (.nil)))) (.node (o_30 P) (.node (o_46 P) (.node (o_78 P) (.node (o_142 P) (.nil) (.nil)) (.nil)) (.node (o_110 P) (.node (o_174 P) (.nil) (.nil)) (.nil))) (.node (o_62 P) (.node (frz (x 94)) (.node (o_158 P) (.nil) (.nil)) (.nil)) (.node (o_126 P) (.node (o_190 P) (.nil) (.nil)) (.nil)))))))
noncomputable def T_fin (P : Params) (x : Nat → FS) : BT := .node (o_0 P) (.node (o_1 P) (.node (o_3 P) (.node (o_7 P) (.node (o_15 P) (.node (o_31 P) (.node (o_63 P) (.node (o_127 P) (.nil) (.nil)) (.node (o_191 P) (.nil) (.nil))) (.node (frz (x 95)) (.node (o_159 P) (.nil) (.nil)) (.node (o_223 P) (.nil) (.nil)))) (.node (o_47 P) (.node (o_79 P) (.node (o_143 P) (.nil) (.nil)) (.node (o_207 P) (.nil) (.nil))) (.node (o_111 P) (.node (o_175 P) (.nil) (.nil)) (.node (o_239 P) (.nil) (.nil))))) (.node (o_23 P) (.node (o_39 P) (.node (o_71 P) (.node (o_135 P) (.nil) (.nil)) (.node (o_199 P) (.nil) (.nil))) (.node (frz (x 103)) (.node (o_167 P) (.nil) (.nil)) (.node (o_231 P) (.nil) (.nil)))) (.node (o_55 P) (.node (o_87 P) (.node (o_151 P) (.nil) (.nil)) (.node (o_215 P) (.nil) (.nil))) (.node (o_119 P) (.node (o_183 P) (.nil) (.nil)) (.node (o_247 P) (.nil) (.nil)))))) (.node (o_11 P) (.node (o_19 P) (.node (o_35 P) (.node (o_67 P) (.node (o_131 P) (.nil) (.nil)) (.node (o_195 P) (.nil) (.nil))) (.node (frz (x 99)) (.node (o_163 P) (.nil) (.nil)) (.node (o_227 P) (.nil) (.nil)))) (.node (o_51 P) (.node (o_83 P) (.node (o_147 P) (.nil) (.nil)) (.node (o_211 P) (.nil) (.nil))) (.node (o_115 P) (.node (o_179 P) (.nil) (.nil)) (.node (o_243 P) (.nil) (.nil))))) (.node (o_27 P) (.node (o_43 P) (.node (frz (x 75)) (.node (o_139 P) (.nil) (.nil)) (.node (o_203 P) (.nil) (.nil))) (.node (o_107 P) (.node (o_171 P) (.nil) (.nil)) (.node (o_235 P) (.nil) (.nil)))) (.node (o_59 P) (.node (o_91 P) (.node (o_155 P) (.nil) (.nil)) (.node (o_219 P) (.nil) (.nil))) (.node (o_123 P) (.node (o_187 P) (.nil) (.nil)) (.node (o_251 P) (.nil) (.nil))))))) (.node (o_5 P) (.node (o_9 P) (.node (o_17 P) (.node (o_33 P) (.node (o_65 P) (.node (o_129 P) (.nil) (.nil)) (.node (o_193 P) (.nil) (.nil))) (.node (o_97 P) (.node (o_161 P) (.nil) (.nil)) (.node (o_225 P) (.nil) (.nil)))) (.node (o_49 P) (.node (o_81 P) (.node (o_145 P) (.nil) (.nil)) (.node (o_209 P) (.nil) (.nil))) (.node (o_113 P) (.node (o_177 P) (.nil) (.nil)) (.node (o_241 P) (.nil) (.nil))))) (.node (o_25 P) (.node (o_41 P) (.node (o_73 P) (.node (o_137 P) (.nil) (.nil)) (.node (o_201 P) (.nil) (.nil))) (.node (o_105 P) (.node (o_169 P) (.nil) (.nil)) (.node (o_233 P) (.nil) (.nil)))) (.node (o_57 P) (.node (frz (x 89)) (.node (o_153 P) (.nil) (.nil)) (.node (o_217 P) (.nil) (.nil))) (.node (o_121 P) (.node (o_185 P) (.nil) (.nil)) (.node (o_249 P) (.nil) (.nil)))))) (.node (o_13 P) (.node (o_21 P) (.node (o_37 P) (.node (o_69 P) (.node (o_133 P) (.nil) (.nil)) (.node (o_197 P) (.nil) (.nil))) (.node (o_101 P) (.node (o_165 P) (.nil) (.nil)) (.node (o_229 P) (.nil) (.nil)))) (.node (o_53 P) (.node (frz (x 85)) (.node (o_149 P) (.nil) (.nil)) (.node (o_213 P) (.nil) (.nil))) (.node (o_117 P) (.node (o_181 P) (.nil) (.nil)) (.node (o_245 P) (.nil) (.nil))))) (.node (o_29 P) (.node (o_45 P) (.node (o_77 P) (.node (o_141 P) (.nil) (.nil)) (.node (o_205 P) (.nil) (.nil))) (.node (o_109 P) (.node (o_173 P) (.nil) (.nil)) (.node (o_237 P) (.nil) (.nil)))) (.node (o_61 P) (.node (o_93 P) (.node (o_157 P) (.nil) (.nil)) (.node (o_221 P) (.nil) (.nil))) (.node (o_125 P) (.node (o_189 P) (.nil) (.nil)) (.node (o_253 P) (.nil) (.nil)))))))) (.node (o_2 P) (.node (o_4 P) (.node (o_8 P) (.node (o_16 P) (.node (o_32 P) (.node (o_64 P) (.node (o_128 P) (.nil) (.nil)) (.node (o_192 P) (.nil) (.nil))) (.node (o_96 P) (.node (o_160 P) (.nil) (.nil)) (.node (o_224 P) (.nil) (.nil)))) (.node (o_48 P) (.node (frz (x 80)) (.node (o_144 P) (.nil) (.nil)) (.node (o_208 P) (.nil) (.nil))) (.node (o_112 P) (.node (o_176 P) (.nil) (.nil)) (.node (o_240 P) (.nil) (.nil))))) (.node (o_24 P) (.node (o_40 P) (.node (o_72 P) (.node (o_136 P) (.nil) (.nil)) (.node (o_200 P) (.nil) (.nil))) (.node (frz (x 104)) (.node (o_168 P) (.nil) (.nil)) (.node (o_232 P) (.nil) (.nil)))) (.node (o_56 P) (.node (o_88 P) (.node (o_152 P) (.nil) (.nil)) (.node (o_216 P) (.nil) (.nil))) (.node (o_120 P) (.node (o_184 P) (.nil) (.nil)) (.node (o_248 P) (.nil) (.nil)))))) (.node (o_12 P) (.node (o_20 P) (.node (o_36 P) (.node (o_68 P) (.node (o_132 P) (.nil) (.nil)) (.node (o_196 P) (.nil) (.nil))) (.node (o_100 P) (.node (o_164 P) (.nil) (.nil)) (.node (o_228 P) (.nil) (.nil)))) (.node (o_52 P) (.node (frz (x 84)) (.node (o_148 P) (.nil) (.nil)) (.node (o_212 P) (.nil) (.nil))) (.node (o_116 P) (.node (o_180 P) (.nil) (.nil)) (.node (o_244 P) (.nil) (.nil))))) (.node (o_28 P) (.node (o_44 P) (.node (o_76 P) (.node (o_140 P) (.nil) (.nil)) (.node (o_204 P) (.nil) (.nil))) (.node (o_108 P) (.node (o_172 P) (.nil) (.nil)) (.node (o_236 P) (.nil) (.nil)))) (.node (o_60 P) (.node (o_92 P) (.node (o_156 P) (.nil) (.nil)) (.node (o_220 P) (.nil) (.nil))) (.node (o_124 P) (.node (o_188 P) (.nil) (.nil)) (.node (o_252 P) (.nil) (.nil))))))) (.node (o_6 P) (.node (o_10 P) (.node (o_18 P) (.node (o_34 P) (.node (o_66 P) (.node (o_130 P) (.nil) (.nil)) (.node (o_194 P) (.nil) (.nil))) (.node (o_98 P) (.node (o_162 P) (.nil) (.nil)) (.node (o_226 P) (.nil) (.nil)))) (.node (o_50 P) (.node (o_82 P) (.node (o_146 P) (.nil) (.nil)) (.node (o_210 P) (.nil) (.nil))) (.node (o_114 P) (.node (o_178 P) (.nil) (.nil)) (.node (o_242 P) (.nil) (.nil))))) (.node (o_26 P) (.node (o_42 P) (.node (o_74 P) (.node (o_138 P) (.nil) (.nil)) (.node (o_202 P) (.nil) (.nil))) (.node (o_106 P) (.node (o_170 P) (.nil) (.nil)) (.node (o_234 P) (.nil) (.nil)))) (.node (o_58 P) (.node (frz (x 90)) (.node (o_154 P) (.nil) (.nil)) (.node (o_218 P) (.nil) (.nil))) (.node (o_122 P) (.node (o_186 P) (.nil) (.nil)) (.node (o_250 P) (.nil) (.nil)))))) (.node (o_14 P) (.node (o_22 P) (.node (o_38 P) (.node (o_70 P) (.node (o_134 P) (.nil) (.nil)) (.node (o_198 P) (.nil) (.nil))) (.node (o_102 P) (.node (o_166 P) (.nil) (.nil)) (.node (o_230 P) (.nil) (.nil)))) (.node (o_54 P) (.node (o_86 P) (.node (o_150 P) (.nil) (.nil)) (.node (o_214 P) (.nil) (.nil))) (.node (o_118 P) (.node (o_182 P) (.nil) (.nil)) (.node (o_246 P) (.nil) (.nil))))) (.node (o_30 P) (.node (o_46 P) (.node (o_78 P) (.node (o_142 P) (.nil) (.nil)) (.node (o_206 P) (.nil) (.nil))) (.node (o_110 P) (.node (o_174 P) (.nil) (.nil)) (.node (o_238 P) (.nil) (.nil)))) (.node (o_62 P) (.node (frz (x 94)) (.node (o_158 P) (.nil) (.nil)) (.node (o_222 P) (.nil) (.nil))) (.node (o_126 P) (.node (o_190 P) (.nil) (.nil)) (.node (o_254 P) (.nil) (.nil))))))))
noncomputable abbrev envM : Env := { scope := PySem.Challenge.pw_ij0172_01.main.scope, locals := mainNs, globals := mainNs, cells := [], code := .ref 30, frame := some 31 }
noncomputable abbrev bodyM : List Stmt := behindTheImports PySem.Challenge.pw_ij0172_01
noncomputable abbrev codeM : Code := .body bodyM envM
noncomputable abbrev BM : List Frame := [topFrame ⟨0, 0, 0, 0⟩]
end Mine
end
section
open PySem PySem.W PyProof.Rows PySem.Builtin PySem.Builtin.Frozenset
set_option Elab.async false
set_option compiler.extract_closed false
set_option linter.unusedVariables false
set_option linter.unusedSimpArgs false
namespace Mine
noncomputable abbrev kd (w : World) : PySem.KeyKind PySem.Challenge.pw_ij0172_01 w Str := PySem.strKind PySem.Challenge.pw_ij0172_01 w
noncomputable def keyStr : Value → Str
  | .str s _ => s
  | _ => ⟨#[]⟩
noncomputable abbrev one (c : Nat) : Str := ⟨#[c]⟩
/-- what a frozenset of single signs holds -/
structure Has (w : World) (F : FS) (l : List Nat) : Prop where
  el : ElemsOf (kd w) F.es.toList
  perm : (F.es.toList.map fun e => keyStr e.2).Perm (l.map one)
  fits : F.t.fits F.es.size = true
  dum : F.t.dummies = #[]
theorem Has.size {w : World} {F : FS} {l : List Nat} (h : Has w F l) : F.es.size = l.length := by
  have := h.perm.length_eq
  simpa using this
theorem one_inj {a b : Nat} (h : one a = one b) : a = b := by
  have := congrArg (fun s : Str => s.cps.toList) h
  simpa using this
theorem is_str {w : World} {k : Str} {v : Value} : (kd w).is k v = true ↔ ∃ t, v = .str k t := by
  constructor
  · intro h; exact Value.isStrOf_shape h
  · rintro ⟨t, rfl⟩; exact isStrOf_self k t
theorem is_key {w : World} {F : FS} {l : List Nat} (h : Has w F l) {e : Int × Value} (he : e ∈ F.es.toList) (k : Str) : (kd w).is k e.2 = true ↔ keyStr e.2 = k := by
  obtain ⟨⟨k', hk', _⟩, _⟩ := h.el e he
  obtain ⟨t, ht⟩ := is_str.mp hk'
  rw [is_str, ht]
  constructor
  · rintro ⟨u, hu⟩; injection hu
  · intro hk; exact ⟨t, by rw [← hk]; rfl⟩
theorem Has.mem {w : World} {F : FS} {l : List Nat} (h : Has w F l) (k : Str) : (∃ e ∈ F.es.toList, (kd w).is k e.2 = true) ↔ ∃ c ∈ l, k = one c := by
  constructor
  · rintro ⟨e, he, hk⟩
    have hm : keyStr e.2 ∈ F.es.toList.map fun e => keyStr e.2 := List.mem_map_of_mem he
    obtain ⟨c, hc, e2⟩ := List.mem_map.mp (h.perm.mem_iff.mp hm)
    exact ⟨c, hc, ((is_key h he k).mp hk).symm.trans e2.symm⟩
  · rintro ⟨c, hc, rfl⟩
    obtain ⟨e, he, e2⟩ := List.mem_map.mp (h.perm.mem_iff.mpr (List.mem_map_of_mem hc))
    exact ⟨e, he, (is_key h he _).mpr e2⟩
theorem Has.find_none {w : World} {F : FS} {l : List Nat} (h : Has w F l) {c : Nat} (hc : c ∉ l) : F.es.toList.findIdx? (fun e => (kd w).is (one c) e.2) = none := by
  rw [List.findIdx?_eq_none_iff]
  intro e he
  rw [Bool.eq_false_iff]
  intro hk
  obtain ⟨c', hc', e2⟩ := (h.mem _).mp ⟨e, he, hk⟩
  exact hc (one_inj e2 ▸ hc')
theorem has_none (j : Nat) : SetTable.has #[] j = false := by
  unfold SetTable.has; simp
theorem put_dum {t : SetTable} (h : t.dummies = #[]) (j : Nat) : (t.put j).1.dummies = #[] := by
  unfold SetTable.put
  dsimp only
  rw [h, has_none]
  rfl
theorem orStandIn_dum {t : SetTable} (h : t.dummies = #[]) (n : Nat) : (t.orStandIn n).dummies = #[] := by
  unfold SetTable.orStandIn
  split
  · exact h
  · rfl
theorem layNew_dum {t : SetTable} (h : t.dummies = #[]) (es : Array (Int × Value)) (hh : Int) (x : Value) : (layNew t es hh x).2.1.dummies = #[] := by
  unfold layNew
  split
  · exact orStandIn_dum (put_dum h _) _
  · rfl
theorem laid_dum {mask finger moves : Nat} {led plain : Bool} {hs : Array Int} {r : SetTable × Array Nat} (h : SetTable.laid mask finger moves led plain hs = some r) : r.1.dummies = #[] := by
  unfold SetTable.laid at h
  simp only [Option.bind_eq_bind, Option.bind_eq_some_iff] at h
  obtain ⟨o, _, h⟩ := h
  cases h
  rfl
theorem relayAll_dum {t : SetTable} (h : t.dummies = #[]) (es : Array (Int × Value)) (n : Nat) : (relayAll t es n).2.1.dummies = #[] := by
  unfold relayAll
  split
  · rename_i t' order hr
    dsimp only
    split
    · exact laid_dum hr
    · rfl
  · rfl
theorem upd_const {h : Heap} {a : Addr} {o : Obj} (f : Obj → Obj) (ho : h.get? a = some o) : h.update a f = h.update a (fun _ => f o) := by
  have h1 := (Heap.get?_some_iff.mp ho).1
  obtain ⟨objs, life⟩ := h
  show Heap.mk _ _ = Heap.mk _ _
  congr 1
  apply Array.ext_getElem?
  intro i
  rw [Array.getElem?_modify, Array.getElem?_modify]
  by_cases hi : a = i
  · subst hi
    rw [if_pos rfl, if_pos rfl]
    have h2 : objs[a]? = some o := h1
    rw [h2]; rfl
  · rw [if_neg hi, if_neg hi]
theorem upd_upd {h : Heap} {a : Addr} (x y : Obj) : (h.update a fun _ => x).update a (fun _ => y) = h.update a fun _ => y := by
  obtain ⟨objs, life⟩ := h
  show Heap.mk _ _ = Heap.mk _ _
  congr 1
  apply Array.ext_getElem?
  intro i
  simp only [Array.getElem?_modify]
  by_cases hi : a = i
  · subst hi; simp; cases objs[a]? <;> rfl
  · simp [hi]
theorem get_upd {h : Heap} {a : Addr} {o : Obj} {F : FS} (ho : h.get? a = some o) : (h.update a fun _ => frz F).get? a = some (frz F) := Heap.get?_update_self (fun _ => frz F) ho rfl
section
variable {w : World} {A : Around} {E : Value → Shared → Prop} {s : Shared} {a : Addr} {F : FS} {l : List Nat}
theorem store_froz {es' : Array (Int × Value)} {t' : SetTable} {Q : Unit → Shared → Prop} (ho : s.heap.get? a = some (frz F)) (hz : es'.size < 4096)
    (h : Q () { s with heap := s.heap.update a fun _ => frz ⟨es', F.ep + 1, t'⟩ }) : wpAny (model PySem.Challenge.pw_ij0172_01 w) A (storeSet a es' t') Q E s := by
  refine wpAny_storeSet_of ho (o := frz F) (es := F.es) (ep := F.ep) (t := F.t) rfl ?_ (fits_of_scanBound hz)
  rw [upd_const _ ho]
  exact h
theorem state_froz {Q : (Array (Int × Value) × Nat × SetTable) → Shared → Prop} (ho : s.heap.get? a = some (frz F)) (hf : F.t.fits F.es.size = true) (h : Q (F.es, F.ep, F.t) s) :
    wpAny (model PySem.Challenge.pw_ij0172_01 w) A (setState a) Q E s := wpAny_setState_of ho (o := frz F) rfl hf h
/-- a new sign goes in -/
theorem addHashed_froz {c : Nat} {u : Tok} {Q : Bool → Shared → Prop} (hh : Has w F l) (hc : c ∉ l) (hn : l.length < 4000) (ho : s.heap.get? a = some (frz F))
    (h : ∀ F', Has w F' (l ++ [c]) → Q true { s with heap := s.heap.update a fun _ => frz F' }) :
    wpAny (model PySem.Challenge.pw_ij0172_01 w) A (setAddHashed a (.str (one c) u) ((kd w).hash (one c))) Q E s := by
  have hsz := hh.size
  have hkey : (kd w).is (one c) (.str (one c) u) = true := isStrOf_self (one c) u
  unfold setAddHashed setAddHashedIn
  refine wpAny_holding (wpAny_bind (state_froz ho hh.fits ?_))
  dsimp only
  rw [byScan_of (x := .str (one c) u) rfl (by rw [hsz]; exact Nat.lt_trans hn (by decide)) hh.el]
  simp only [↓reduceIte]
  unfold setAddByScan
  refine wpAny_bind ?_
  refine wpAny_bind (wpAny_rule ?_)
  refine wpAny_bind (wpAny_setScan_of (o := frz F) hkey ho rfl hh.fits hh.el ?_)
  rw [hh.find_none hc]
  dsimp only
  have hgw : ∀ (b : Bool) {s₁ : Shared} {Q' : Unit → Shared → Prop}, Q' () s₁ → wpAny (model PySem.Challenge.pw_ij0172_01 w) A (match b with | true => rule "set.scan.the-table-gave-way" | false => pure ()) Q' E s₁ :=
    fun b s₁ Q' hq => by cases b <;> first | exact wpAny_pure hq | exact wpAny_rule hq
  have hperm := layNew_perm F.t F.es ((kd w).hash (one c)) (.str (one c) u)
  have hfits := layNew_fits F.t F.es ((kd w).hash (one c)) (.str (one c) u)
  have hdum := layNew_dum hh.dum F.es ((kd w).hash (one c)) (.str (one c) u)
  generalize hL : layNew F.t F.es ((kd w).hash (one c)) (.str (one c) u) = L at hperm hfits hdum ⊢
  obtain ⟨es1, t1, wasDummy, gave⟩ := L
  dsimp only at hperm hfits hdum ⊢
  rw [Array.toList_push] at hperm
  have hel1 : ElemsOf (kd w) es1.toList := (hh.el.push hkey rfl).perm hperm
  have hp1 : (es1.toList.map fun e => keyStr e.2).Perm ((l ++ [c]).map one) := by
    refine (hperm.map _).trans ?_
    rw [List.map_append, List.map_append]
    exact hh.perm.append_right _
  have hsz1 : es1.size = l.length + 1 := by
    have := hp1.length_eq
    simpa using this
  have hb1 : es1.size < 4096 := by omega
  have tail : ∀ (t2 : SetTable), t2.fits es1.size = true → t2.dummies = #[] → wpAny (model PySem.Challenge.pw_ij0172_01 w) A (do
      storeSet a es1 t2
      if (!wasDummy && t2.tooFull) = true then do
          (match (relayAll t2 es1 (SetTable.grown es1.size)).2.2 with | true => rule "set.scan.the-table-gave-way" | false => pure ())
          storeSet a (relayAll t2 es1 (SetTable.grown es1.size)).1 (relayAll t2 es1 (SetTable.grown es1.size)).2.1
          pure (some true)
        else pure (some true)) (fun r s' => r = some true ∧ Q true s') E s := by
    intro t2 hf2 hd2
    refine wpAny_bind (store_froz ho hb1 ?_)
    have ho1 := get_upd (F := ⟨es1, F.ep + 1, t2⟩) ho
    have hh1 : Has w ⟨es1, F.ep + 1, t2⟩ (l ++ [c]) := ⟨hel1, hp1, hf2, hd2⟩
    split
    · have hp := relayAll_perm t2 es1 (SetTable.grown es1.size)
      have hfr := relayAll_fits t2 es1 (SetTable.grown es1.size)
      have hdr := relayAll_dum hd2 es1 (SetTable.grown es1.size)
      generalize hRl : relayAll t2 es1 (SetTable.grown es1.size) = Rl at hp hfr hdr ⊢
      obtain ⟨es2, t3, gave2⟩ := Rl
      dsimp only at hp hfr hdr ⊢
      refine wpAny_bind (hgw _ ?_)
      have hsz2 : es2.size = es1.size := by rw [← Array.length_toList, hp.length_eq, Array.length_toList]
      refine wpAny_bind (store_froz (F := ⟨es1, F.ep + 1, t2⟩) ho1 (by rw [hsz2]; exact hb1) ?_)
      refine wpAny_pure ⟨rfl, ?_⟩
      dsimp only
      rw [upd_upd]
      exact h _ ⟨hel1.perm hp, (hp.map _).trans hp1, hfr, hdr⟩
    · exact wpAny_pure ⟨rfl, h _ hh1⟩
  refine wpAny_bind (hgw _ ?_)
  split
  · refine wpAny_bind ?_
    rw [hashByValue_scannable 8 (x := .str (one c) u) rfl]
    refine wpAny_pure ?_
    refine wpAny_mono (tail _ ?_ ?_) (fun r s' hr => ?_) (fun _ _ e => e)
    · split
      · exact hfits
      · exact SetTable.fits_plain_off hfits
    · split <;> exact hdum
    · obtain ⟨rfl, hr⟩ := hr
      exact wpAny_pure hr
  · refine wpAny_bind (wpAny_pure ?_)
    simp only [↓reduceIte]
    refine wpAny_mono (tail _ hfits hdum) (fun r s' hr => ?_) (fun _ _ e => e)
    obtain ⟨rfl, hr⟩ := hr
    exact wpAny_pure hr
theorem add_froz {c : Nat} {u : Tok} {Q : Bool → Shared → Prop} (hh : Has w F l) (hc : c ∉ l) (hn : l.length < 4000) (ho : s.heap.get? a = some (frz F))
    (h : ∀ F', Has w F' (l ++ [c]) → Q true { s with heap := s.heap.update a fun _ => frz F', toks := s.toks + 1 }) :
    wpAny (model PySem.Challenge.pw_ij0172_01 w) A (holding [.str (one c) u] (setAdd a (.str (one c) u))) Q E s := by
  refine wpAny_holding ?_
  unfold setAdd
  refine wpAny_holding ?_
  refine wpAny_bind ((kd w).pyHash (k := one c) (isStrOf_self (one c) u) ?_)
  exact addHashed_froz (s := { s with toks := s.toks + 1 }) hh hc hn ho h
end
end Mine
end
section
open PySem PySem.W PyProof.Rows PySem.Builtin PySem.Builtin.Frozenset
set_option Elab.async false
set_option compiler.extract_closed false
set_option linter.unusedVariables false
set_option linter.unusedSimpArgs false
namespace Mine
noncomputable def nxt (mask : Nat) (i : Nat) : Nat := (i * 5 + 1) % (mask + 1)
noncomputable def orb (mask : Nat) : Nat → Nat → List Nat
  | 0, _ => []
  | n + 1, a => a :: orb mask n (nxt mask a)
noncomputable def itn (mask : Nat) : Nat → Nat → Nat
  | 0, a => a
  | n + 1, a => itn mask n (nxt mask a)
theorem orb_mem {mask : Nat} : ∀ {n a j : Nat}, j ∈ orb mask n a → ∃ s, s < n ∧ itn mask s a = j
  | 0, _, _, h => by cases h
  | n + 1, a, j, h => by
    rcases List.mem_cons.mp h with rfl | h
    · exact ⟨0, by omega, rfl⟩
    · obtain ⟨s, hs, e⟩ := orb_mem h
      exact ⟨s + 1, by omega, e⟩
theorem itn_add {mask : Nat} : ∀ (m n a : Nat), itn mask (m + n) a = itn mask n (itn mask m a)
  | 0, n, a => by rw [Nat.zero_add]; rfl
  | m + 1, n, a => by
    rw [show m + 1 + n = (m + n) + 1 by omega]
    exact itn_add m n _
theorem orb7 : (∀ j, j < 8 → j ∈ orb 7 8 0) ∧ itn 7 8 0 = 0 := by decide +kernel
theorem orb127 : (∀ j, j < 128 → j ∈ orb 127 128 0) ∧ itn 127 128 0 = 0 := by decide +kernel
theorem full {mask : Nat} (hm : mask = 7 ∨ mask = 127) {a j : Nat} (ha : a ≤ mask) (hj : j ≤ mask) : ∃ s, s ≤ mask ∧ itn mask s a = j := by
  have key : (∀ j, j < mask + 1 → j ∈ orb mask (mask + 1) 0) ∧ itn mask (mask + 1) 0 = 0 := by
    rcases hm with rfl | rfl
    · exact orb7
    · exact orb127
  obtain ⟨b, hb, eb⟩ := orb_mem (key.1 a (by omega))
  obtain ⟨c, hc, ec⟩ := orb_mem (key.1 j (by omega))
  by_cases h : b ≤ c
  · refine ⟨c - b, by omega, ?_⟩
    rw [← eb, ← itn_add, show b + (c - b) = c by omega, ec]
  · refine ⟨mask + 1 + c - b, by omega, ?_⟩
    rw [← eb, ← itn_add, show b + (mask + 1 + c - b) = (mask + 1) + c by omega, itn_add, key.2, ec]
noncomputable def lps (mask : Nat) : Nat → Nat × Nat → Nat × Nat
  | 0, x => x
  | n + 1, x => lps mask n (SetTable.leap mask x.1 x.2)
theorem lps_add {mask : Nat} : ∀ (m n : Nat) (x : Nat × Nat), lps mask (m + n) x = lps mask n (lps mask m x)
  | 0, n, x => by rw [Nat.zero_add]; rfl
  | m + 1, n, x => by
    rw [show m + 1 + n = (m + n) + 1 by omega]
    exact lps_add m n _
theorem lps_snd {mask : Nat} : ∀ (n : Nat) (x : Nat × Nat), (lps mask n x).2 = x.2 / 32 ^ n
  | 0, x => by simp [lps]
  | n + 1, x => by
    show (lps mask n (SetTable.leap mask x.1 x.2)).2 = _
    rw [lps_snd]
    show x.2 / 32 / 32 ^ n = _
    rw [Nat.div_div_eq_div_mul, Nat.pow_succ, Nat.mul_comm]
theorem lps_zero {mask : Nat} : ∀ (n a : Nat), lps mask n (a, 0) = (itn mask n a, 0)
  | 0, a => rfl
  | n + 1, a => by
    show lps mask n (SetTable.leap mask a 0) = _
    have : SetTable.leap mask a 0 = (nxt mask a, 0) := by simp [SetTable.leap, nxt]
    rw [this, lps_zero]
    rfl
theorem free_visit {mask : Nat} {owner : Array (Option Nat)} : ∀ (fuel i p t : Nat), t < fuel → owner[(lps mask t (i, p)).1]? = some none → ∃ j, SetTable.layClean.free mask owner fuel i p = some j ∧ owner[j]? = some none
  | 0, _, _, _, h, _ => by omega
  | fuel + 1, i, p, t, ht, ho => by
    unfold SetTable.layClean.free
    cases hf : (List.range (SetTable.runEnd mask i + 1 - i)).find? fun k => (owner.getD (i + k) (some 0)).isNone with
    | some k =>
      refine ⟨i + k, rfl, ?_⟩
      have h1 := List.find?_some hf
      rw [Array.getD_eq_getD_getElem?] at h1
      cases hq : owner[i + k]? with
      | none => rw [hq] at h1; simp at h1
      | some v => rw [hq] at h1; cases v with
        | none => rfl
        | some z => simp at h1
    | none =>
      dsimp only
      cases t with
      | zero =>
        exfalso
        have h0 : owner[i]? = some none := ho
        have := List.find?_eq_none.mp hf 0 (by
          rw [List.mem_range]
          unfold SetTable.runEnd
          split <;> omega)
        apply this
        rw [Nat.add_zero, Array.getD_eq_getD_getElem?, h0]
        rfl
      | succ t => exact free_visit fuel _ _ t (by omega) ho
theorem free_ok {mask : Nat} (hm : mask = 7 ∨ mask = 127) {owner : Array (Option Nat)} {j : Nat} (hj : j ≤ mask) (ho : owner[j]? = some none) (h : Int) :
    ∃ j, SetTable.layClean.free mask owner (SetTable.turns mask) (SetTable.bits h % (mask + 1)) (SetTable.bits h) = some j ∧ owner[j]? = some none := by
  have hb : SetTable.bits h < 2 ^ 64 := by
    unfold SetTable.bits
    have h1 := Int.emod_nonneg h (b := 2 ^ 64) (by decide)
    have h2 := Int.emod_lt_of_pos h (b := 2 ^ 64) (by decide)
    omega
  generalize SetTable.bits h = p at hb
  have hx : (lps mask 13 (p % (mask + 1), p)).2 = 0 := by
    rw [lps_snd]
    exact Nat.div_eq_of_lt (Nat.lt_trans hb (by decide))
  have hx1 : (lps mask 13 (p % (mask + 1), p)).1 ≤ mask := by
    have e : lps mask 13 (p % (mask + 1), p) = lps mask 1 (lps mask 12 (p % (mask + 1), p)) := lps_add 12 1 _
    rw [e]
    generalize lps mask 12 (p % (mask + 1), p) = y
    show (y.1 * 5 + 1 + y.2 / 32) % (mask + 1) ≤ mask
    have := Nat.mod_lt (y.1 * 5 + 1 + y.2 / 32) (show mask + 1 > 0 by omega)
    omega
  obtain ⟨s, hs, es⟩ := full hm hx1 hj
  refine free_visit (SetTable.turns mask) _ _ (13 + s) (by unfold SetTable.turns; omega) ?_
  rw [lps_add]
  have e : lps mask 13 (p % (mask + 1), p) = ((lps mask 13 (p % (mask + 1), p)).1, 0) := Prod.ext rfl hx
  rw [e, lps_zero, es]
  exact ho
theorem set_perm (k : Nat) : ∀ (L : List (Option Nat)) (j : Nat), L[j]? = some none → ((L.set j (some k)).filterMap id).Perm (k :: L.filterMap id)
  | [], j, h => by simp at h
  | x :: L, 0, h => by
    have : x = none := by simpa using h
    subst this
    exact List.Perm.refl _
  | x :: L, j + 1, h => by
    have ih := set_perm k L j (by simpa using h)
    cases x with
    | none => exact ih
    | some v => exact (ih.cons v).trans (List.Perm.swap k v _)
theorem none_of_short : ∀ (L : List (Option Nat)), (L.filterMap id).length < L.length → ∃ j, j < L.length ∧ L[j]? = some none
  | [], h => by simp at h
  | none :: L, _ => ⟨0, by simp, rfl⟩
  | some v :: L, h => by
    obtain ⟨j, hj, e⟩ := none_of_short L (by simpa using h)
    exact ⟨j + 1, by simpa using hj, by simpa using e⟩
theorem layClean_run {mask : Nat} (hm : mask = 7 ∨ mask = 127) : ∀ (hs : List Int) (owner : Array (Option Nat)) (k : Nat), owner.size = mask + 1 → (owner.toList.filterMap id).Perm (List.range k) → k + hs.length ≤ mask →
    ∃ owner', (hs.foldl (fun (acc : Option (Array (Option Nat) × Nat)) h => do
        let (owner, k) ← acc
        let j ← SetTable.layClean.free mask owner (SetTable.turns mask) (SetTable.bits h % (mask + 1)) (SetTable.bits h)
        pure (owner.setIfInBounds j (some k), k + 1)) (some (owner, k))) = some (owner', k + hs.length) ∧ owner'.size = mask + 1 ∧ (owner'.toList.filterMap id).Perm (List.range (k + hs.length))
  | [], owner, k, h1, h2, _ => ⟨owner, rfl, h1, h2⟩
  | h :: hs, owner, k, h1, h2, h3 => by
    rw [List.length_cons] at h3 ⊢
    obtain ⟨j, hj, e⟩ := none_of_short owner.toList (by
      have := h2.length_eq
      rw [List.length_range] at this
      rw [this, Array.length_toList, h1]; omega)
    rw [Array.length_toList, h1] at hj
    rw [Array.getElem?_toList] at e
    obtain ⟨j', hfree, e'⟩ := free_ok hm (by omega) e h
    have hp : ((owner.setIfInBounds j' (some k)).toList.filterMap id).Perm (List.range (k + 1)) := by
      rw [Array.toList_setIfInBounds]
      refine (set_perm k owner.toList j' (by rw [Array.getElem?_toList]; exact e')).trans ?_
      refine (h2.cons k).trans ?_
      rw [List.range_succ]
      exact (List.perm_append_comm (l₁ := [k]) (l₂ := List.range k))
    obtain ⟨o', f1, f2, f3⟩ := layClean_run hm hs (owner.setIfInBounds j' (some k)) (k + 1) (by simpa using h1) hp (by omega)
    refine ⟨o', ?_, f2, by rw [show k + (hs.length + 1) = k + 1 + hs.length by omega]; exact f3⟩
    rw [List.foldl_cons]
    have : ((some (owner, k)) >>= fun x => (SetTable.layClean.free mask x.1 (SetTable.turns mask) (SetTable.bits h % (mask + 1)) (SetTable.bits h)) >>= fun j => pure (x.1.setIfInBounds j (some x.2), x.2 + 1)) = some (owner.setIfInBounds j' (some k), k + 1) := by
      show (SetTable.layClean.free mask owner (SetTable.turns mask) (SetTable.bits h % (mask + 1)) (SetTable.bits h)) >>= _ = _
      rw [hfree]; rfl
    show List.foldl _ ((some (owner, k)) >>= fun x => (SetTable.layClean.free mask x.1 (SetTable.turns mask) (SetTable.bits h % (mask + 1)) (SetTable.bits h)) >>= fun j => pure (x.1.setIfInBounds j (some x.2), x.2 + 1)) hs = _
    rw [this, show k + (hs.length + 1) = k + 1 + hs.length by omega]
    exact f1
theorem fill_none : ∀ (n : Nat), ((Array.replicate n (none : Option Nat)).toList.filterMap id) = [] := by
  intro n
  rw [Array.toList_replicate]
  induction n with
  | zero => rfl
  | succ n ih => simpa [List.replicate_succ] using ih
/-- the fresh table takes all the hashes, each once -/
theorem laid_ok {mask : Nat} (hm : mask = 7 ∨ mask = 127) {finger moves : Nat} {led plain : Bool} {hs : Array Int} (hn : hs.size ≤ mask) :
    ∃ t order, SetTable.laid mask finger moves led plain hs = some (t, order) ∧ order.toList.Perm (List.range hs.size) ∧ t.mask = mask ∧ t.dummies = #[] ∧ t.place.size = hs.size := by
  obtain ⟨owner, f1, f2, f3⟩ := layClean_run hm hs.toList (Array.replicate (mask + 1) none) 0 (by simp) (by rw [fill_none]; exact List.Perm.refl _) (by simpa using hn)
  have hlay : SetTable.layClean mask hs = some owner := by
    unfold SetTable.layClean
    rw [← Array.foldl_toList]
    rw [f1]
    rfl
  unfold SetTable.laid
  rw [hlay]
  have hlive : ((List.range (mask + 1)).filterMap fun j => (owner.getD j none).map (j, ·)).map (·.2) = owner.toList.filterMap id := by
    rw [List.map_filterMap]
    have : ∀ (L : List (Option Nat)), ((List.range L.length).filterMap fun j => (L.getD j none)) = L.filterMap id := by
      intro L
      have e : L = (List.range L.length).map fun j => L.getD j none := by
        apply List.ext_getElem
        · simp
        · intro i h1 h2
          simp [List.getD_eq_getElem?_getD, List.getElem?_eq_getElem h1]
      conv => rhs; rw [e]
      rw [List.filterMap_map]
      rfl
    rw [← this owner.toList, Array.length_toList, f2]
    congr 1
    funext j
    rw [Array.getD_eq_getD_getElem?, List.getD_eq_getElem?_getD, Array.getElem?_toList]
    cases owner[j]?.getD none <;> rfl
  have hlen : ((List.range (mask + 1)).filterMap fun j => (owner.getD j none).map (j, ·)).length = hs.size := by
    have h1 := congrArg List.length hlive
    have h2 := f3.length_eq
    rw [List.length_map] at h1
    rw [h1, h2, List.length_range, Nat.zero_add, Array.length_toList]
  refine ⟨_, _, rfl, ?_, rfl, rfl, ?_⟩
  · rw [List.toList_toArray, hlive]
    rw [Nat.zero_add, Array.length_toList] at f3
    exact f3
  · rw [List.size_toArray, List.length_map]
    exact hlen
end Mine
end
section
open PySem PySem.W PyProof.Rows
set_option Elab.async false
set_option compiler.extract_closed false
set_option linter.unusedVariables false
set_option maxRecDepth 100000
namespace Mine
noncomputable abbrev PGm : Program := PySem.Challenge.pw_ij0172_01
/-- one step with kept lists forgotten, over a tree -/
noncomputable def stepTK (den : Code → Sem Fin) (p : Program) (w : World) (S : SharedT) : Thread → Option (SharedT × Thread)
  | ⟨cur, code, pos, stack⟩ => match cur with
    | .pure (.again c) => some (S, ⟨den c, c, pos, stack⟩)
    | .call c h g l k => some (S, ⟨den c, c, pos, .ret k h g l code pos [] :: stack⟩)
    | cur => stepT den p w S ⟨cur, code, pos, stack⟩
theorem stepTK_other {den : Code → Sem Fin} {p : Program} {w : World} {S : SharedT} {cur : Sem Fin} {code : Code} {pos : Pos} {stack : List Frame} (h1 : ∀ c, cur ≠ .pure (.again c)) (h2 : ∀ c h g l k, cur ≠ .call c h g l k) :
    stepTK den p w S ⟨cur, code, pos, stack⟩ = stepT den p w S ⟨cur, code, pos, stack⟩ := by
  cases cur with
  | pure f => cases f with
    | again c => exact absurd rfl (h1 c)
    | done f => rfl
  | call c h g l k => exact absurd rfl (h2 c h g l k)
  | _ => rfl
theorem stepK_other {den : Code → Sem Fin} {p : Program} {w : World} {s : Shared} {cur : Sem Fin} {code : Code} {pos : Pos} {stack : List Frame} (h1 : ∀ c, cur ≠ .pure (.again c)) (h2 : ∀ c h g l k, cur ≠ .call c h g l k) :
    stepK den p w s ⟨cur, code, pos, stack⟩ = step den p w s ⟨cur, code, pos, stack⟩ := by
  cases cur with
  | pure f => cases f with
    | again c => exact absurd rfl (h1 c)
    | done f => rfl
  | call c h g l k => exact absurd rfl (h2 c h g l k)
  | _ => rfl
theorem stepTK_spec {den : Code → Sem Fin} {p : Program} {w : World} {S S' : SharedT} {t t' : Thread} (h : stepTK den p w S t = some (S', t')) : stepK den p w S.abs t = .go S'.abs t' := by
  obtain ⟨cur, code, pos, stack⟩ := t
  by_cases h1 : ∃ c, cur = .pure (.again c)
  · obtain ⟨c, rfl⟩ := h1; cases h; rfl
  · by_cases h2 : ∃ c hd g l k, cur = .call c hd g l k
    · obtain ⟨c, hd, g, l, k, rfl⟩ := h2; cases h; rfl
    · have a1 : ∀ c, cur ≠ .pure (.again c) := fun c e => h1 ⟨c, e⟩
      have a2 : ∀ c hd g l k, cur ≠ .call c hd g l k := fun c hd g l k e => h2 ⟨c, hd, g, l, k, e⟩
      rw [stepTK_other a1 a2] at h
      rw [stepK_other a1 a2]
      exact stepT_spec h
noncomputable def goK (tb : String → Option Builtin) (p : Program) (w : World) : Nat → SharedT → Thread → Option (SharedT × Thread)
  | 0, S, t => some (S, t)
  | n + 1, S, t => match t.loud with
    | true => none
    | false => match stepTK (denote tb) p w S t with
      | some (S', t') => goK tb p w n S' t'
      | none => none
theorem goK_comes {w : World} : ∀ {n : Nat} {S S' : SharedT} {t t' : Thread}, goK treeTable PGm w n S t = some (S', t') → Comes (model PGm w) S.abs t S'.abs t'
  | 0, S, S', t, t', h => by cases h; exact .refl _ _
  | n + 1, S, S', t, t', h => by
    unfold goK at h
    cases hl : t.loud with
    | true => rw [hl] at h; cases h
    | false =>
      rw [hl] at h
      cases hs : stepTK (denote treeTable) PGm w S t with
      | none => rw [hs] at h; cases h
      | some r =>
        obtain ⟨S₁, t₁⟩ := r
        rw [hs] at h
        refine .step ?_ (goK_comes h)
        have h1 := stepTK_spec hs
        rw [← table_eq_tree] at h1
        show stepI (denote table) PGm w S.abs t = _
        rw [stepI_quiet _ _ _ hl]
        exact h1
noncomputable def restK (l : List Stmt) (pos : Pos) : Thread := ⟨((execs l envM).onRaise (leaving envM)).bind fun f => (Sem.pure (Fin.done f) : Sem Fin), codeM, pos, BM⟩
noncomputable abbrev tops (k : Nat) : List Stmt := bodyM.drop k
end Mine
end
section
open PySem PySem.W PyProof.Rows
set_option Elab.async false
set_option compiler.extract_closed false
set_option maxRecDepth 100000
set_option maxHeartbeats 0
namespace Mine
noncomputable abbrev d0 : Drawn := ⟨0, 0, 0, 0⟩
noncomputable abbrev loopA : Code := .builtin "set.update.loop" ⟨[.ref 75, .ref 74], []⟩
noncomputable abbrev p12 : Pos := ⟨12, 13, 12, 51⟩
noncomputable def run86 (w : World) : Option (SharedT × Thread) := goK treeTable PGm (w.withFollow "special-get-raises" false) 86 ⟨T_q2 w.params (fun _ => ⟨#[], 0, default⟩), 68, {}, #[], d0, 331, default⟩ (restK (tops 3) ⟨11, 0, 11, 8⟩)
noncomputable def gen0 (w : World) : Array GenState := (run86 w).elim #[] fun r => r.1.gens
noncomputable def ST0 (w : World) : List Frame := (run86 w).elim [] fun r => r.2.stack
noncomputable def newF (w : World) : FS := ⟨#[], 0, .fresh 0 0 (!w.params.followText "set-order")⟩
theorem h_86 : ∀ (w : World), ∀ (os : OsState) (x : Nat → FS), goK treeTable PGm w 86 ⟨T_q2 w.params x, 68, {}, #[], d0, 331, os⟩ (restK (tops 3) ⟨11, 0, 11, 8⟩) = some (⟨T_loop w.params (ri 0) (ed0 w.params) (upd x 75 (newF w)), 76, {}, gen0 w, d0, 342, os⟩, ⟨denote treeTable loopA, loopA, p12, ST0 w⟩) := by
  refine byRow2 "special-get-raises" (fun w os x => ?_) (fun w os x => ?_)
  · kernel_rfl
  · kernel_rfl
end Mine
end
section
open PySem PySem.W PyProof.Rows
set_option Elab.async false
set_option compiler.extract_closed false
set_option maxRecDepth 100000
set_option maxHeartbeats 0
namespace Mine
noncomputable abbrev sgn (i t : Nat) : Value := .str ⟨#[i]⟩ t
noncomputable def addT (a : Addr) (lp : Code) (x : Value) (p : Pos) (st : List Frame) : Thread := ⟨(holding [x] (setAdd a x)).bind fun _ => (again lp : Sem Fin), lp, p, st⟩
noncomputable def loopT (lp : Code) (p : Pos) (st : List Frame) : Thread := ⟨denote treeTable lp, lp, p, st⟩
noncomputable def run1 (w : World) : Option (SharedT × Thread) := goK treeTable PGm ((w.withFollow "special-get-raises" false).withFollow "comprehension-iter-twice" true) 46 ⟨T_loop w.params (ri 0) (ed0 w.params) (fun _ => ⟨#[], 0, default⟩), 76, {}, gen0 w, d0, 342, default⟩ (loopT loopA p12 (ST0 w))
noncomputable def gen1 (w : World) : Array GenState := (run1 w).elim #[] fun r => r.1.gens
theorem h_it0 : ∀ (w : World), ∀ (os : OsState) (x : Nat → FS), ∃ n, goK treeTable PGm w n ⟨T_loop w.params (ri 0) (ed0 w.params) x, 76, {}, gen0 w, d0, 342, os⟩ (loopT loopA p12 (ST0 w)) = some (⟨T_loop w.params (ri 1) (ed w.params 0) x, 76, {}, gen1 w, d0, 345, os⟩, addT 75 loopA (sgn 0 344) p12 (ST0 w)) := by
  refine byRow2 "comprehension-iter-twice" (byRow2 "special-get-raises" (fun w os x => ⟨56, ?_⟩) (fun w os x => ⟨56, ?_⟩)) (byRow2 "special-get-raises" (fun w os x => ⟨46, ?_⟩) (fun w os x => ⟨46, ?_⟩))
  · kernel_rfl
  · kernel_rfl
  · kernel_rfl
  · kernel_rfl
theorem h_its (w : World) (os : OsState) (x : Nat → FS) (p : Pos) : ((List.range' 1 31).map fun i => goK treeTable PGm w 45 ⟨T_loop w.params (ri i) (ed w.params (i - 1)) x, 76, {}, gen1 w, d0, 342 + 4 * i, os⟩ (loopT loopA p (ST0 w))) =
    (List.range' 1 31).map fun i => some (⟨T_loop w.params (ri (i + 1)) (ed w.params i) x, 76, {}, gen1 w, d0, 345 + 4 * i, os⟩, addT 75 loopA (sgn i (344 + 4 * i)) p (ST0 w)) := by
  kernel_rfl
end Mine
end
section
open PySem PySem.W PyProof.Rows PySem.Builtin PySem.Builtin.Frozenset
set_option Elab.async false
set_option compiler.extract_closed false
set_option linter.unusedVariables false
set_option maxRecDepth 100000
set_option maxHeartbeats 0
namespace Mine
noncomputable abbrev loopC (a b : Addr) : Code := .builtin "set.update.loop" ⟨[.ref a, .ref b], []⟩
noncomputable def idOf (name : String) : String := s!"frozenset.{name}"
noncomputable def orCur (n l r : Addr) : Sem Fin := ((((setMerge n l).bind fun _ => (pure (.ref n) : Sem Value)).bind fun result => (if (Value.ref r) != .ref l then (addrOf result).bind fun a => (holding [result] (updateFrom (idOf "__or__") a (.ref r))).bind fun _ => (pure result : Sem Value) else (pure result : Sem Value))).bind fun v => (ret v : Sem Fin))
noncomputable def hexes : List Nat := [48, 49, 50, 51, 52, 53, 54, 55, 56, 57, 97, 98, 99, 100, 101, 102, 65, 66, 67, 68, 69, 70]
noncomputable def ST1 (w : World) : List Frame := (goK treeTable PGm (w.withFollow "special-get-raises" false) (78) ⟨T_loop w.params (ri 32) (ed w.params 31) (fun _ => ⟨#[], 0, default⟩), 76, {}, gen1 w, d0, 470, default⟩ (loopT loopA p12 (ST0 w))).elim [] fun r => r.2.stack
theorem seg_3b : ∀ (w : World) (os : OsState) (x : Nat → FS) (p : Pos), goK treeTable PGm w (78) ⟨T_loop w.params (ri 32) (ed w.params 31) x, 76, {}, gen1 w, d0, 470, os⟩ (loopT loopA p (ST0 w)) = some (⟨T_3b w.params (upd x 80 (newF w)), 82, {}, #[.finished], d0, 473, os⟩, addT 80 (loopC 80 81) (sgn 127 472) ⟨12, 54, 12, 73⟩ (ST1 w)) := by
  refine byRow2 "special-get-raises" (fun w os x p => ?_) (fun w os x p => ?_)
  · kernel_rfl
  · kernel_rfl
noncomputable def ST2 (w : World) : List Frame := (goK treeTable PGm (w.withFollow "special-get-raises" false) (40) ⟨T_3b w.params (fun _ => ⟨#[], 0, default⟩), 82, {}, #[.finished], d0, 474, default⟩ (loopT (loopC 80 81) ⟨12, 54, 12, 73⟩ (ST1 w))).elim [] fun r => r.2.stack
theorem seg_3o (w : World) (os : OsState) (x : Nat → FS) (p : Pos) : goK treeTable PGm w (40) ⟨T_3b w.params x, 82, {}, #[.finished], d0, 474, os⟩ (loopT (loopC 80 81) p (ST1 w)) = some (⟨T_3o w.params (upd x 84 (newF w)), 85, {}, #[.finished], d0, 474, os⟩, ⟨orCur 84 75 80, (.builtin "frozenset.__or__" ⟨[.ref 75, .ref 80], []⟩ : Code), ⟨12, 13, 12, 73⟩, ST2 w⟩) := by
  kernel_rfl
theorem seg_3e (w : World) (os : OsState) (x : Nat → FS) (p : Pos) : goK treeTable PGm w (9) ⟨T_3o w.params x, 85, {}, #[.finished], d0, 474, os⟩ (⟨.pure (.done (.ret (.ref 84))), (.builtin "frozenset.__or__" ⟨[.ref 75, .ref 80], []⟩ : Code), p, ST2 w⟩) = some (⟨T_q3 w.params x, 85, {}, #[.finished], d0, 475, os⟩, restK (tops 4) ⟨12, 0, 12, 10⟩) := by
  kernel_rfl
end Mine
end
section
open PySem PySem.W PyProof.Rows PySem.Builtin PySem.Builtin.Frozenset
set_option Elab.async false
set_option compiler.extract_closed false
set_option linter.unusedVariables false
set_option linter.unusedSimpArgs false
namespace Mine
theorem pick_perm {α : Type} (next : Nat → Nat) : ∀ (xs : Array α), xs.size ≤ 2 → (pickOrder next xs).toList.Perm xs.toList := by
  rintro ⟨l⟩ h
  match l, h with
  | [], _ => exact List.Perm.refl _
  | [a], _ =>
    have e : next 0 % 1 = 0 := Nat.mod_one _
    simp [pickOrder, pickOrder.go, e]
  | [a, b], _ =>
    have e : next 1 % 1 = 0 := Nat.mod_one _
    rcases Nat.mod_two_eq_zero_or_one (next 0) with h0 | h0
    · simp [pickOrder, pickOrder.go, e, h0]
    · simp [pickOrder, pickOrder.go, e, h0]
      exact List.Perm.swap _ _ _
  | a :: b :: c :: l, h => simp at h
theorem filterMap_perm {α : Type} (es : Array α) {order : Array Nat} (h : order.toList.Perm (List.range es.size)) : (order.filterMap (es[·]?)).toList.Perm es.toList := by
  rw [Array.toList_filterMap]
  refine (h.filterMap _).trans ?_
  have : (List.range es.size).filterMap (es[·]?) = es.toList := by
    apply List.ext_getElem?
    intro i
    have key : ∀ (l : List α), (List.range l.length).filterMap (l[·]?) = l := by
      intro l
      induction l with
      | nil => rfl
      | cons a l ih =>
        rw [List.length_cons, List.range_succ_eq_map, List.filterMap_cons]
        simp only [List.getElem?_cons_zero, List.filterMap_map]
        congr 1
    have h2 := key es.toList
    rw [Array.length_toList] at h2
    have e2 : (fun x : Nat => es.toList[x]?) = fun x : Nat => es[x]? := by funext x; rw [Array.getElem?_toList]
    rw [e2] at h2
    rw [h2]
  rw [this]
section
variable {w : World} {A : Around} {E : Value → Shared → Prop} {s : Shared} {a : Addr} {F : FS} {l : List Nat}
theorem wp_reord {es : Array (Int × Value)} {laid : Option (SetTable × Array Nat)} {t : SetTable} {order : Array Nat} {Q : Array (Int × Value) × SetTable → Shared → Prop} (hl : laid = some (t, order)) (hp : order.toList.Perm (List.range es.size))
    (h : Q (order.filterMap (es[·]?), t) s) : wpAny (model PySem.Challenge.pw_ij0172_01 w) A (do
      let some (t, order) := laid | unsupported "internal:set-table-without-room"
      let es' := order.filterMap (es[·]?)
      if es'.size != es.size then unsupported "internal:set-table-lost-an-element"
      pure (es', t) : Sem (Array (Int × Value) × SetTable)) Q E s := by
  subst hl
  dsimp only
  have hs : (order.filterMap (es[·]?)).size = es.size := by
    have := (filterMap_perm es hp).length_eq
    rwa [Array.length_toList, Array.length_toList] at this
  have hc : ((order.filterMap (es[·]?)).size != es.size) = false := by rw [hs]; simp
  rw [hc]
  simp only [Bool.false_eq_true, ↓reduceIte]
  exact wpAny_pure h
theorem room_none {t : SetTable} {n : Nat} (h : t.roomFor n = none) {Q : Unit → Shared → Prop} (ho : s.heap.get? a = some (frz F)) (hf : F.t.fits F.es.size = true) (ht : F.t = t)
    (hq : Q () s) : wpAny (model PySem.Challenge.pw_ij0172_01 w) A (setRoomFor a n) Q E s := by
  unfold setRoomFor
  refine wpAny_bind (state_froz ho hf ?_)
  dsimp only
  rw [ht, h]
  exact wpAny_pure hq
theorem room_some {n wanted : Nat} {Q : Unit → Shared → Prop} (hr : F.t.roomFor n = some wanted) (hw : SetTable.sizeAbove wanted = 128) (ho : s.heap.get? a = some (frz F)) (hf : F.t.fits F.es.size = true) (he : F.es = #[])
    (hq : ∀ F', F'.es = #[] → F'.t.mask = 127 → F'.t.place.size = 0 → F'.t.dummies = #[] → Q () { s with heap := s.heap.update a fun _ => frz F' }) : wpAny (model PySem.Challenge.pw_ij0172_01 w) A (setRoomFor a n) Q E s := by
  unfold setRoomFor
  refine wpAny_bind (state_froz ho hf ?_)
  dsimp only
  rw [hr]
  dsimp only
  unfold setRelay
  refine wpAny_bind (state_froz ho hf ?_)
  dsimp only
  rw [hw]
  have h0 : ¬ (128 > sizeLine) := by decide
  rw [if_neg h0]
  have hes : F.es.map (·.1) = #[] := by rw [he]; simp
  obtain ⟨t, order, h1, h2, h3, h4, h5⟩ := laid_ok (mask := 127) (.inr rfl) (finger := F.t.finger) (moves := F.t.movedTo (SetTable.sizeAbove wanted - 1)) (led := F.t.led) (plain := F.t.plain) (hs := F.es.map (·.1)) (by rw [hes]; decide)
  have h1' : F.t.relaid (F.es.map (·.1)) wanted = some (t, order) := by
    unfold SetTable.relaid
    rw [hw] at h1 ⊢
    exact h1
  refine wpAny_bind (wp_reord h1' (by simpa using h2) ?_)
  dsimp only
  have hempty : order.filterMap (F.es[·]?) = #[] := by
    rw [he]
    rw [he] at h2
    have := h2.length_eq
    have : order = #[] := by simpa using this
    rw [this]; rfl
  rw [hempty]
  refine store_froz ho (by decide) (hq ⟨#[], F.ep + 1, t⟩ rfl h3 (by rw [h5, hes]; rfl) h4)
theorem merge_copy {n o : Addr} {each : Sem Unit} {Q : Unit → Shared → Prop} (hne : n ≠ o) (hn : s.heap.get? n = some (frz (newF w))) (ho : s.heap.get? o = some (frz F)) (hh : Has w F l) (hl : l.length = 2 ∨ l.length = 32 ∨ l.length = 33)
    (h : ∀ F', Has w F' l → F'.t.mask = (if l.length = 2 then 7 else 127) → Q () { s with heap := s.heap.update n fun _ => frz F' }) : wpAny (model PySem.Challenge.pw_ij0172_01 w) A (setMerge n o each) Q E s := by
  have hsz := hh.size
  have hsz2 : F.es.size ≤ 33 := by omega
  unfold setMerge
  have e1 : (n == o) = false := by simpa using hne
  rw [e1]
  simp only [Bool.false_eq_true, ↓reduceIte]
  refine wpAny_bind (state_froz ho hh.fits ?_)
  dsimp only
  have e2 : F.es.isEmpty = false := by
    rw [Array.isEmpty_eq_false_iff]
    intro e; rw [e] at hsz; simp at hsz; omega
  rw [e2]
  simp only [Bool.false_eq_true, ↓reduceIte]
  have tail : ∀ (F0 : FS) (m : Nat), F0.es = #[] → F0.t.mask = m → (m = 7 ∨ m = 127) → l.length ≤ m → m = (if l.length = 2 then 7 else 127) → F0.t.place.size = 0 → F0.t.dummies = #[] → ∀ (hp : Heap), hp.get? n = some (frz F0) → hp.get? o = some (frz F) → (∀ F', hp.update n (fun _ => frz F') = s.heap.update n fun _ => frz F') →
      wpAny (model PySem.Challenge.pw_ij0172_01 w) A (do
        let (_, _, ts) ← setState n
        match ts.road F.t with
        | .slotForSlot => storeSet n F.es { F.t with finger := ts.finger, led := ts.led && F.t.led, moves := ts.moves, plain := ts.plain && F.t.plain }
        | .clean =>
          let (es, t) ← (do
            let some (t, order) := SetTable.laid ts.mask ts.finger ts.moves (led := ts.led && F.t.led) (plain := ts.plain && F.t.plain) (F.es.map (·.1)) | unsupported "internal:set-table-without-room"
            let es' := order.filterMap (F.es[·]?)
            if es'.size != F.es.size then unsupported "internal:set-table-lost-an-element"
            pure (es', t) : Sem (Array (Int × Value) × SetTable))
          storeSet n es t
        | .oneByOne =>
          for (h, x) in ← setWalkUnseen o [n] (some n) do
            let _ ← holding [x] (setAddHashed n x h)
            each
            if (← setState o).2.1 != F.ep then unsupported "set.changed-during-merge") Q E { s with heap := hp } := by
    intro F0 m h0 hm hm2 hlm hres hp0 hd0 hp hpn hpo hup
    have hf0 : F0.t.fits F0.es.size = true := by
      unfold SetTable.fits SetTable.fill
      rw [h0, hp0, hd0]; simp
    refine wpAny_bind (state_froz (F := F0) hpn hf0 ?_)
    dsimp only
    have hfill : F0.t.fill = 0 := by unfold SetTable.fill; rw [hp0, hd0]; rfl
    have hroad : F0.t.road F.t = if (F0.t.mask == F.t.mask && F.t.dummies.isEmpty) = true then .slotForSlot else .clean := by
      unfold SetTable.road
      rw [hfill]; simp
    rw [hroad]
    by_cases hc : (F0.t.mask == F.t.mask && F.t.dummies.isEmpty) = true
    · rw [if_pos hc]
      dsimp only
      refine store_froz (F := F0) hpn (by omega) ?_
      dsimp only
      rw [hup]
      rw [Bool.and_eq_true, beq_iff_eq] at hc
      refine h _ ⟨hh.el, hh.perm, hh.fits, hh.dum⟩ ?_
      exact (hc.1.symm.trans hm).trans hres
    · rw [if_neg hc]
      dsimp only
      obtain ⟨t, order, h1, h2, h3, h4, h5⟩ := laid_ok (mask := F0.t.mask) (by rw [hm]; exact hm2) (finger := F0.t.finger) (moves := F0.t.moves) (led := F0.t.led && F.t.led) (plain := F0.t.plain && F.t.plain) (hs := F.es.map (·.1)) (by rw [Array.size_map, hm, hsz]; exact hlm)
      rw [Array.size_map] at h2 h5
      refine wpAny_bind (wp_reord h1 h2 ?_)
      dsimp only
      have hperm := filterMap_perm F.es h2
      have hsz3 : (order.filterMap (F.es[·]?)).size = F.es.size := by
        have := hperm.length_eq
        rwa [Array.length_toList, Array.length_toList] at this
      refine store_froz (F := F0) hpn (by rw [hsz3]; omega) ?_
      dsimp only
      rw [hup]
      refine h _ ⟨hh.el.perm hperm, (hperm.map _).trans hh.perm, ?_, h4⟩ ?_
      · dsimp only
        unfold SetTable.fits SetTable.fill
        rw [hsz3, h5, h4, h3, hm, hsz]
        simp
        exact hlm
      · dsimp only
        rw [h3, hm]
        exact hres
  rcases Nat.lt_or_ge l.length 5 with hlt | hge
  · have hl2 : l.length = 2 := by omega
    refine wpAny_bind (room_none (t := (newF w).t) ?_ hn ?_ rfl ?_)
    · rw [hsz, hl2]; rfl
    · rfl
    · exact tail (newF w) 7 rfl rfl (.inl rfl) (by omega) (by rw [if_pos hl2]) rfl rfl s.heap hn ho (fun _ => rfl)
  · obtain ⟨wanted, hw1, hw2⟩ : ∃ wanted, (newF w).t.roomFor F.es.size = some wanted ∧ SetTable.sizeAbove wanted = 128 := by
      have : l.length = 32 ∨ l.length = 33 := by omega
      rcases this with e | e
      · exact ⟨64, by rw [hsz, e]; rfl, by decide⟩
      · exact ⟨66, by rw [hsz, e]; rfl, by decide⟩
    refine wpAny_bind (room_some hw1 hw2 hn rfl rfl ?_)
    intro F0 q1 q2 q3 q4
    exact tail F0 127 q1 q2 (.inr rfl) (by omega) (by rw [if_neg (by omega)]) q3 q4 _ (get_upd hn) (by rw [Heap.get?_update_ne _ _ _ _ hne.symm]; exact ho) (fun F' => upd_upd _ _)
end
end Mine
end
section
open PySem PySem.W PyProof.Rows PySem.Builtin PySem.Builtin.Frozenset
set_option Elab.async false
set_option compiler.extract_closed false
set_option linter.unusedVariables false
set_option linter.unusedSimpArgs false
namespace Mine
section
variable {w : World} {A : Around} {E : Value → Shared → Prop} {s : Shared} {a : Addr} {F : FS} {l : List Nat}
theorem typ_froz (ho : s.heap.get? a = some (frz F)) : s.TypeIs (.ref a) "frozenset" := ⟨frz F, ho, rfl⟩
theorem isAny_froz {Q : Bool → Shared → Prop} (ho : s.heap.get? a = some (frz F)) (h : Q true s) : wpAny (model PySem.Challenge.pw_ij0172_01 w) A (isAnySet (.ref a)) Q E s := by
  unfold isAnySet
  refine wpAny_bind ?_
  refine wpAny_isInstance (b := false) (typ_froz ho) ?_ ?_
  · rw [isSubtype_type]; kernel_rfl
  · refine wpAny_isInstance (b := true) (typ_froz ho) ?_ h
    rw [isSubtype_type]; kernel_rfl
theorem base_froz {Q : Value → Shared → Prop} (ho : s.heap.get? a = some (frz F)) (h : Q (.type "frozenset") s) : wpAny (model PySem.Challenge.pw_ij0172_01 w) A (baseOf a) Q E s := by
  unfold baseOf
  refine wpAny_bind ?_
  refine wpAny_isInstance (b := false) (typ_froz ho) ?_ ?_
  · rw [isSubtype_type]; kernel_rfl
  · exact wpAny_pure h
theorem byText_froz {Q : Bool → Shared → Prop} (h : Q (w.params.followText "set-order") s) : wpAny (model PySem.Challenge.pw_ij0172_01 w) A setsByText Q E s := by
  unfold setsByText
  exact wpAny_bind (wpAny_askSetting (wpAny_pure h))
theorem newSet_froz {Q : Value → Shared → Prop} (h : Q (.ref s.heap.objs.size) { s with heap := s.heap.push (frz (newF w)) }) : wpAny (model PySem.Challenge.pw_ij0172_01 w) A (newSet (.type "frozenset")) Q E s := by
  unfold newSet
  refine wpAny_bind (byText_froz ?_)
  exact wpAny_newObj_type h
theorem led_ok {es : Array (Int × Value)} {t : SetTable} {Q : Unit → Shared → Prop} (hc : es.size ≤ 1 ∨ t.led = true) (h : Q () s) : wpAny (model PySem.Challenge.pw_ij0172_01 w) A (if !t.led && es.size > 1 then unsupported "set:maker-not-led" else pure () : Sem Unit) Q E s := by
  have : (!t.led && decide (es.size > 1)) = false := by
    rcases hc with hc | hc
    · have : ¬ es.size > 1 := by omega
      simp [this]
    · simp [hc]
  rw [this]
  exact wpAny_pure h
theorem setWalk_small {Q : Array (Int × Value) → Shared → Prop} (hh : Has w F l) (hl : l.length ≤ 2) (hs : l.length ≤ 1 ∨ F.t.led = true ∨ w.params.followText "set-order" = true) (hp : l.length ≤ 1 ∨ F.t.plain = true ∨ w.params.followText "set-order" = true) (ho : s.heap.get? a = some (frz F)) (h : ∀ xs : Array (Int × Value), xs.toList.Perm F.es.toList → Q xs s) :
    wpAny (model PySem.Challenge.pw_ij0172_01 w) A (setWalk a) Q E s := by
  have hsz := hh.size
  unfold setWalk
  refine wpAny_bind (state_froz ho hh.fits ?_)
  dsimp only
  refine wpAny_bind (byText_froz ?_)
  by_cases hb : w.params.followText "set-order" = true
  · rw [if_pos hb]
    refine wpAny_bind (wpAny_askSetting (wpAny_pure (h _ ?_)))
    exact pick_perm _ _ (by rw [hsz]; exact hl)
  · rw [if_neg hb]
    have hd : (!F.t.plain && decide (F.es.size > 1)) = false := by
      rcases hp with hp | hp | hp
      · have : ¬ F.es.size > 1 := by omega
        simp [this]
      · simp [hp]
      · exact absurd hp hb
    split
    · rename_i hx
      have hx2 : (!F.t.plain && decide (F.es.size > 1)) = true := hx
      rw [hd] at hx2
      exact Bool.noConfusion hx2
    · refine wpAny_bind (led_ok (es := F.es) (t := F.t) ?_ ?_)
      · rw [hsz]; exact hs.elim .inl fun x => x.elim .inr fun y => absurd y hb
      · exact wpAny_pure (h _ (List.Perm.refl _))
/-- strs alone: nobody can be asked -/
theorem quiet_froz {sets : List Addr} {Q : Bool → Shared → Prop} (hs : ∀ b ∈ sets, ∃ F' l', s.heap.get? b = some (frz F') ∧ Has w F' l') (h : Q true s) : wpAny (model PySem.Challenge.pw_ij0172_01 w) A (setsQuiet sets) Q E s := by
  unfold setsQuiet
  refine wpAny_bind (wpAny_forIn_list _ (fun rest b s' => b.1 = none ∧ s' = s ∧ ∀ b ∈ rest, ∃ F' l', s.heap.get? b = some (frz F') ∧ Has w F' l') _ ?_ ?_ sets _ ⟨rfl, rfl, hs⟩)
  · rintro x rest b s' ⟨hb, rfl, hr⟩
    obtain ⟨F', l', ho, hh⟩ := hr x (List.mem_cons_self ..)
    refine wpAny_bind (wpAny_setEntries_of (o := frz F') (es := F'.es) (ep := F'.ep) (t := F'.t) ho rfl hh.fits ?_)
    refine wpAny_bind (PySem.MeetsSeq2.wpAny_forIn_array _ (fun rest b s2 => b.1 = none ∧ s2 = s' ∧ ∀ e ∈ rest, e ∈ F'.es.toList) _ ?_ ?_ F'.es _ ⟨rfl, rfl, fun _ h => h⟩)
    · rintro ⟨hh1, v⟩ rest2 b2 s2 ⟨hb2, rfl, hm⟩
      obtain ⟨⟨k, hk, _⟩, _⟩ := hh.el _ (hm _ (List.mem_cons_self ..))
      obtain ⟨t, rfl⟩ := is_str.mp hk
      dsimp only
      exact wpAny_pure ⟨rfl, rfl, fun e he => hm e (List.mem_cons_of_mem _ he)⟩
    · rintro b2 s2 ⟨hb2, rfl, _⟩
      obtain ⟨b2o, b2u⟩ := b2
      cases hb2
      dsimp only
      exact wpAny_pure ⟨rfl, rfl, fun b h => hr b (List.mem_cons_of_mem _ h)⟩
  · rintro b s' ⟨hb, rfl, _⟩
    obtain ⟨bo, bu⟩ := b
    cases hb
    dsimp only
    exact wpAny_pure h
theorem walkUnseen_small {others : List Addr} {filled : Option Addr} {Q : Array (Int × Value) → Shared → Prop} (hh : Has w F l) (hl : l.length ≤ 2) (hf : l.length ≤ 1 ∨ filled = none) (ho : s.heap.get? a = some (frz F))
    (hs : ∀ b ∈ others, ∃ F' l', s.heap.get? b = some (frz F') ∧ Has w F' l') (h : ∀ xs : Array (Int × Value), xs.toList.Perm F.es.toList → Q xs s) :
    wpAny (model PySem.Challenge.pw_ij0172_01 w) A (setWalkUnseen a others filled) Q E s := by
  have hsz := hh.size
  unfold setWalkUnseen
  refine wpAny_bind (state_froz ho hh.fits ?_)
  dsimp only
  refine wpAny_bind (byText_froz ?_)
  split
  · rename_i hc
    simp only [Bool.or_eq_true, Bool.and_eq_true, decide_eq_true_eq] at hc
    refine setWalk_small hh hl ?_ ?_ ho h
    · rcases hc with (hc | hc) | hc
      · exact .inr (.inr hc)
      · exact .inr (.inl hc.1)
      · exact .inl (by omega)
    · rcases hc with (hc | hc) | hc
      · exact .inr (.inr hc)
      · exact .inr (.inl hc.2)
      · exact .inl (by omega)
  · rename_i hc
    simp only [Bool.or_eq_true, Bool.and_eq_true, decide_eq_true_eq, not_or] at hc
    refine wpAny_bind (quiet_froz (sets := a :: others) ?_ ?_)
    · intro b hb
      rcases List.mem_cons.mp hb with rfl | hb
      · exact ⟨F, l, ho, hh⟩
      · exact hs b hb
    · simp only [Bool.not_true, Bool.false_eq_true, ↓reduceIte]
      refine wpAny_bind (wpAny_rule ?_)
      have : filled = none := hf.elim (fun x => absurd (by omega) hc.2) id
      rw [this]
      dsimp only
      exact wpAny_pure (h _ (List.Perm.refl _))
theorem epoch_froz {Q : Nat → Shared → Prop} (ho : s.heap.get? a = some (frz F)) (hf : F.t.fits F.es.size = true) (h : Q F.ep s) : wpAny (model PySem.Challenge.pw_ij0172_01 w) A (setEpoch a) Q E s :=
  wpAny_setEpoch_of (o := frz F) ho rfl hf h
theorem unchanged_froz {id : String} {Q : Unit → Shared → Prop} (ho : s.heap.get? a = some (frz F)) (hf : F.t.fits F.es.size = true) (h : Q () s) : wpAny (model PySem.Challenge.pw_ij0172_01 w) A (unchanged id a F.ep) Q E s := by
  unfold unchanged
  refine wpAny_bind (epoch_froz ho hf ?_)
  simp only [bne_self_eq_false, Bool.false_eq_true, ↓reduceIte]
  exact wpAny_pure h
theorem list_one {α : Type} {l : List α} (h : l.length = 1) : ∃ x, l = [x] := by
  cases l with
  | nil => cases h
  | cons x r => cases r with
    | nil => exact ⟨x, rfl⟩
    | cons y r => cases h
theorem Has.single {c : Nat} (h : Has w F [c]) : ∃ e u, F.es.toList = [(e, .str (one c) u)] ∧ e = (kd w).hash (one c) := by
  obtain ⟨q, hq⟩ := list_one (l := F.es.toList) h.size
  obtain ⟨e, v⟩ := q
  obtain ⟨⟨k, hk, he⟩, _⟩ := h.el (e, v) (by rw [hq]; exact List.mem_singleton.mpr rfl)
  obtain ⟨u, hu⟩ := is_str.mp hk
  dsimp only at hu he
  subst hu
  have := h.perm
  rw [hq] at this
  have e2 : k = one c := by simpa [keyStr] using this
  subst e2
  exact ⟨e, u, hq, he⟩
theorem or_one {id : String} {n r c : Addr} {G : FS} {Q : Unit → Shared → Prop} (hne : n ≠ r) (hn : s.heap.get? n = some (frz F)) (hh : Has w F l) (hl0 : l.length ≠ 0) (hl : l.length < 4000) (hroom : F.t.roomFor 1 = none)
    (hr : s.heap.get? r = some (frz G)) (hg : Has w G [c]) (hc : c ∉ l) (h : ∀ F', Has w F' (l ++ [c]) → Q () { s with heap := s.heap.update n fun _ => frz F' }) :
    wpAny (model PySem.Challenge.pw_ij0172_01 w) A (holding [.ref n] (updateFrom id n (.ref r))) Q E s := by
  refine wpAny_holding ?_
  unfold updateFrom
  refine wpAny_bind (isAny_froz hr ?_)
  simp only [↓reduceIte]
  refine wpAny_bind (wpAny_pure ?_)
  unfold merge
  refine wpAny_bind (epoch_froz hr hg.fits ?_)
  unfold setMerge
  have e1 : (n == r) = false := by simpa using hne
  rw [e1]
  simp only [Bool.false_eq_true, ↓reduceIte]
  refine wpAny_bind (state_froz hr hg.fits ?_)
  dsimp only
  obtain ⟨e, u, he, hk⟩ := hg.single
  have hsz := hg.size
  have e2 : G.es.isEmpty = false := by
    rw [Array.isEmpty_eq_false_iff]
    intro e; rw [e] at hsz; simp at hsz
  rw [e2]
  simp only [Bool.false_eq_true, ↓reduceIte]
  refine wpAny_bind (room_none (t := F.t) (by rw [hsz]; exact hroom) hn hh.fits rfl ?_)
  refine wpAny_bind (state_froz hn hh.fits ?_)
  dsimp only
  have hfill : F.t.fill ≠ 0 := by
    have hf := hh.fits
    unfold SetTable.fits at hf
    rw [Bool.and_eq_true, beq_iff_eq] at hf
    unfold SetTable.fill
    have := hh.size
    omega
  have hroad : F.t.road G.t = .oneByOne := by
    unfold SetTable.road
    simp [hfill]
  rw [hroad]
  dsimp only
  refine wpAny_bind (walkUnseen_small hg (by simp) (.inl (by simp)) hr (by
    intro b hb
    rw [List.mem_singleton] at hb
    subst hb
    exact ⟨F, l, hn, hh⟩) fun xs hx => ?_)
  rw [he] at hx
  have hx2 : xs = #[(e, .str (one c) u)] := by
    apply Array.toList_inj.mp
    exact List.perm_singleton.mp hx
  subst hx2
  subst hk
  rw [← Array.forIn_toList]
  dsimp only
  rw [List.forIn_cons]
  refine wpAny_bind ?_
  refine wpAny_bind ?_
  dsimp only
  refine wpAny_bind (wpAny_holding (addHashed_froz hh hc hl hn fun F' hF' => ?_))
  have hr' : (s.heap.update n fun _ => frz F').get? r = some (frz G) := by rw [Heap.get?_update_ne _ _ _ _ hne.symm]; exact hr
  refine wpAny_bind (unchanged_froz hr' hg.fits ?_)
  refine wpAny_bind (state_froz hr' hg.fits ?_)
  simp only [bne_self_eq_false, Bool.false_eq_true, ↓reduceIte]
  refine wpAny_pure ?_
  dsimp only
  rw [List.forIn_nil]
  refine wpAny_pure ?_
  exact wpAny_pure (h F' hF')
end
end Mine
end
section
open PySem PySem.W PyProof.Rows PySem.Builtin PySem.Builtin.Frozenset
set_option Elab.async false
set_option compiler.extract_closed false
set_option linter.unusedVariables false
set_option linter.unusedSimpArgs false
namespace Mine
/-- as `Has`, but with at most `d` dummies in a table of 128 -/
structure HasD (w : World) (F : FS) (l : List Nat) (d : Nat) : Prop where
  el : ElemsOf (kd w) F.es.toList
  perm : (F.es.toList.map fun e => keyStr e.2).Perm (l.map one)
  fits : F.t.fits F.es.size = true
  dum : F.t.dummies.size = d
  mask : F.t.mask = 127
theorem HasD.size {w : World} {F : FS} {l : List Nat} {d : Nat} (h : HasD w F l d) : F.es.size = l.length := by
  have := h.perm.length_eq
  simpa using this
theorem erase_size {α : Type} (xs : Array α) {i : Nat} (h : i < xs.size) : (SetTable.eraseAt xs i).size = xs.size - 1 := by
  simp [SetTable.eraseAt]; omega
theorem insert_size {α : Type} (xs : Array α) (p : Nat) (x : α) : (SetTable.insertAt xs p x).size = xs.size + 1 := by
  simp [SetTable.insertAt]; omega
theorem erase_list {α : Type} (xs : Array α) {i : Nat} (h : i < xs.size) : (SetTable.eraseAt xs i).toList = xs.toList.eraseIdx i := by
  obtain ⟨l⟩ := xs
  simp [SetTable.eraseAt, List.eraseIdx_eq_take_drop_succ] at *
  rw [List.take_of_length_le]; simp
theorem eraseIdx_cons {α : Type} {l : List α} {j : Nat} (hj : j < l.length) : (l[j] :: l.eraseIdx j).Perm l := by
  rw [List.eraseIdx_eq_take_drop_succ]
  have e : l = l.take j ++ l[j] :: l.drop (j + 1) := by
    rw [← List.drop_eq_getElem_cons hj, List.take_append_drop]
  conv => rhs; rw [e]
  exact List.perm_middle.symm
theorem push_upd {h : Heap} {o x : Obj} : (h.push o).update h.objs.size (fun _ => x) = h.push x := by
  obtain ⟨objs, life⟩ := h
  show Heap.mk _ _ = Heap.mk _ _
  congr 1
  apply Array.ext_getElem?
  intro i
  rw [Array.getElem?_modify, Array.getElem?_push, Array.getElem?_push]
  by_cases hi : objs.size = i
  · subst hi; simp
  · rw [if_neg hi]
    have : ¬ i = objs.size := fun e => hi e.symm
    rw [if_neg this, if_neg this]
theorem ones_of {L : List Str} {ds : List Nat} (h : L.Perm (ds.map one)) : ∃ rs : List Nat, rs.Perm ds ∧ L = rs.map one := by
  refine ⟨L.map fun s => s.cps.getD 0 0, ?_, ?_⟩
  · refine (h.map _).trans ?_
    rw [List.map_map]
    have : ((fun s : Str => s.cps.getD 0 0) ∘ one) = _root_.id := by funext c; rfl
    rw [this, List.map_id]
  · rw [List.map_map]
    conv => lhs; rw [← List.map_id L]
    apply List.map_congr_left
    intro x hx
    obtain ⟨c, _, rfl⟩ := List.mem_map.mp (h.mem_iff.mp hx)
    rfl
section
variable {w : World} {A : Around} {E : Value → Shared → Prop} {s : Shared} {a : Addr} {F : FS} {l : List Nat}
theorem find_froz {c : Nat} {u : Tok} {d : Nat} {Q : Option Nat → Shared → Prop} (hh : HasD w F l d) (hc : c ∈ l) (hn : l.length < 4000) (ho : s.heap.get? a = some (frz F))
    (h : ∀ j, (hj : j < F.es.toList.length) → keyStr (F.es.toList[j]).2 = one c → Q (some j) s) :
    wpAny (model PySem.Challenge.pw_ij0172_01 w) A (setFind a (.str (one c) u) ((kd w).hash (one c))) Q E s := by
  have hsz := hh.size
  have hkey : (kd w).is (one c) (.str (one c) u) = true := isStrOf_self (one c) u
  unfold setFind setFindIn
  refine wpAny_bind (state_froz ho hh.fits ?_)
  dsimp only
  rw [byScan_of (x := .str (one c) u) rfl (by rw [hsz]; exact Nat.lt_trans hn (by decide)) hh.el]
  simp only [↓reduceIte]
  refine wpAny_bind (wpAny_rule ?_)
  refine wpAny_bind (wpAny_setScan_of (o := frz F) hkey ho rfl hh.fits hh.el ?_)
  have hex : ∃ e ∈ F.es.toList, keyStr e.2 = one c := by
    have := hh.perm.mem_iff.mpr (List.mem_map_of_mem (f := one) hc)
    obtain ⟨e, he, e2⟩ := List.mem_map.mp this
    exact ⟨e, he, e2⟩
  have isk : ∀ e ∈ F.es.toList, (kd w).is (one c) e.2 = true ↔ keyStr e.2 = one c := by
    intro e he
    obtain ⟨⟨k', hk', _⟩, _⟩ := hh.el e he
    obtain ⟨t, ht⟩ := is_str.mp hk'
    rw [is_str, ht]
    constructor
    · rintro ⟨u, hu⟩; injection hu
    · intro hk; exact ⟨t, by rw [← hk]; rfl⟩
  cases hr : List.findIdx? (fun e => (kd w).is (one c) e.2) F.es.toList with
  | none =>
    obtain ⟨e, he, e2⟩ := hex
    have := List.findIdx?_eq_none_iff.mp hr e he
    rw [(isk e he).mpr e2] at this
    exact Bool.noConfusion this
  | some j =>
    dsimp only
    obtain ⟨hj, hpj, _⟩ := List.findIdx?_eq_some_iff_getElem.mp hr
    rw [Nat.zero_add]
    exact wpAny_pure (h j hj ((isk _ (List.getElem_mem hj)).mp hpj))
theorem discard_froz {c : Nat} {u : Tok} {d : Nat} {Q : Bool → Shared → Prop} (hh : HasD w F l d) (hc : c ∈ l) (hn : l.length < 4000) (ho : s.heap.get? a = some (frz F))
    (h : ∀ F', HasD w F' (l.erase c) (d + 1) → Q true { s with heap := s.heap.update a fun _ => frz F' }) :
    wpAny (model PySem.Challenge.pw_ij0172_01 w) A (setDiscardHashed a (.str (one c) u) ((kd w).hash (one c))) Q E s := by
  have hsz := hh.size
  unfold setDiscardHashed
  refine wpAny_bind (find_froz hh hc hn ho fun j hj hk => ?_)
  dsimp only
  refine wpAny_bind (state_froz ho hh.fits ?_)
  dsimp only
  have hj2 : j < F.es.size := by rw [← Array.length_toList]; exact hj
  have hfits := hh.fits
  unfold SetTable.fits at hfits
  rw [Bool.and_eq_true, beq_iff_eq, decide_eq_true_eq] at hfits
  have hpl : F.t.place[j]? = some (F.t.place[j]'(by omega)) := Array.getElem?_eq_getElem (by omega)
  refine wpAny_bind (store_froz ho (by rw [erase_size _ hj2]; omega) ?_)
  refine wpAny_bind (wpAny_point ?_)
  refine wpAny_pure (h _ ⟨?_, ?_, ?_, ?_, ?_⟩)
  · dsimp only
    rw [erase_list _ hj2]
    exact fun e he => hh.el e (List.mem_of_mem_eraseIdx he)
  · dsimp only
    rw [erase_list _ hj2]
    have p1 : (F.es.toList[j] :: F.es.toList.eraseIdx j).Perm F.es.toList := eraseIdx_cons hj
    have p2 := (p1.map fun e => keyStr e.2).trans hh.perm
    rw [List.map_cons, hk] at p2
    have p3 := (List.perm_cons_erase hc).map one
    rw [List.map_cons] at p3
    exact (p2.trans p3).cons_inv
  · dsimp only
    unfold SetTable.drop SetTable.fits SetTable.fill
    rw [hpl]
    dsimp only
    unfold SetTable.fill at hfits
    rw [erase_size _ hj2, erase_size _ (by omega), insert_size]
    rw [Bool.and_eq_true, beq_iff_eq, decide_eq_true_eq]
    omega
  · dsimp only
    unfold SetTable.drop
    rw [hpl]
    dsimp only
    rw [insert_size, hh.dum]
  · dsimp only
    unfold SetTable.drop
    rw [hpl]
    exact hh.mask
theorem size_froz {Q : Nat → Shared → Prop} (ho : s.heap.get? a = some (frz F)) (hf : F.t.fits F.es.size = true) (h : Q F.es.size s) : wpAny (model PySem.Challenge.pw_ij0172_01 w) A (Frozenset.sizeOf a) Q E s := by
  unfold Frozenset.sizeOf
  exact wpAny_bind (wpAny_setEntries_of (o := frz F) ho rfl hf (wpAny_pure h))
/-- what is left of a frozenset of 33 signs when one or two of them go -/
theorem diff_froz {id : String} {o r : Addr} {G : FS} {ds : List Nat} {Q : Value → Shared → Prop} (ho : s.heap.get? o = some (frz F)) (hh : Has w F l) (hl : l.length = 33) (hnd : l.Nodup)
    (hr : s.heap.get? r = some (frz G)) (hg : Has w G ds) (hdl : ds.length = 1 ∨ ds.length = 2) (hdn : ds.Nodup) (hds : ∀ c ∈ ds, c ∈ l)
    (h : ∀ F' l', HasD w F' l' ds.length → (∀ c, c ∈ l' ↔ c ∈ l ∧ c ∉ ds) → l'.length + ds.length = 33 → Q (.ref s.heap.objs.size) { s with heap := s.heap.push (frz F') }) :
    wpAny (model PySem.Challenge.pw_ij0172_01 w) A (difference id o (.ref r)) Q E s := by
  have hsz := hh.size
  have hgz := hg.size
  unfold difference
  dsimp only
  refine wpAny_bind (isAny_froz hr ?_)
  simp only [Bool.not_true, Bool.false_eq_true, ↓reduceIte, Bool.false_and]
  refine wpAny_bind (wpAny_pure ?_)
  refine wpAny_bind (size_froz hr hg.fits ?_)
  refine wpAny_bind (size_froz ho hh.fits ?_)
  rw [hsz, hgz, hl, if_pos (by omega)]
  refine wpAny_bind (wpAny_rule ?_)
  refine wpAny_bind ?_
  unfold copyOf
  refine wpAny_bind (base_froz ho ?_)
  refine wpAny_bind (newSet_froz ?_)
  have hn0 : (s.heap.push (frz (newF w))).get? s.heap.objs.size = some (frz (newF w)) := Heap.get?_push_size _ rfl
  have hlo : o < s.heap.objs.size := Heap.lt_size ho
  have hlr : r < s.heap.objs.size := Heap.lt_size hr
  have keep : ∀ {b : Addr} {ob : Obj} (F' : FS), s.heap.get? b = some ob → (s.heap.push (frz F')).get? b = some ob := fun F' hb => Heap.get?_push_of_some _ hb
  refine wpAny_bind (wpAny_pure ?_)
  refine wpAny_bind (merge_copy (s := { s with heap := s.heap.push (frz (newF w)) }) (F := F) (l := l) (Nat.ne_of_gt hlo) hn0 (keep _ ho) hh (by omega) fun F₁ h₁ m₁ => ?_)
  rw [if_neg (by omega)] at m₁
  dsimp only
  rw [push_upd]
  refine wpAny_pure ?_
  refine wpAny_bind (wpAny_pure ?_)
  refine wpAny_bind (wpAny_holding ?_)
  unfold differenceUpdate
  have e1 : (Value.ref r == Value.ref s.heap.objs.size) = false := by
    have : r ≠ s.heap.objs.size := Nat.ne_of_lt hlr
    simpa using this
  rw [e1]
  simp only [Bool.false_eq_true, ↓reduceIte]
  refine wpAny_bind (isAny_froz (keep _ hr) ?_)
  simp only [↓reduceIte]
  have hn1 : (s.heap.push (frz F₁)).get? s.heap.objs.size = some (frz F₁) := Heap.get?_push_size _ rfl
  have hs1 := h₁.size
  refine wpAny_bind (wpAny_pure ?_)
  refine wpAny_bind (size_froz (keep _ hr) hg.fits ?_)
  refine wpAny_bind (size_froz hn1 h₁.fits ?_)
  rw [hgz, hs1, hl, if_neg (by omega)]
  refine wpAny_bind (epoch_froz (keep _ hr) hg.fits ?_)
  refine wpAny_bind (wpAny_holding ?_)
  refine wpAny_bind (walkUnseen_small hg (by omega) (.inr rfl) (keep _ hr) (by
    intro b hb
    rw [List.mem_singleton] at hb
    subst hb
    exact ⟨F₁, l, hn1, h₁⟩) fun xs hx => ?_)
  obtain ⟨rs, hrs, hrx⟩ := ones_of ((hx.map fun e => keyStr e.2).trans hg.perm)
  have hD : HasD w F₁ l 0 := ⟨h₁.el, h₁.perm, h₁.fits, by rw [h₁.dum]; rfl, m₁⟩
  refine wpAny_bind ?_
  refine PySem.MeetsSeq2.wpAny_forIn_array _ (fun rest b s' => ∃ F' l' rs', s' = { s with heap := s.heap.push (frz F') } ∧ HasD w F' l' (ds.length - rs'.length) ∧ (∀ e ∈ rest, e ∈ G.es.toList) ∧ (rest.map fun e => keyStr e.2) = rs'.map one ∧ rs'.Nodup ∧ rs'.length ≤ ds.length ∧
    (∀ c ∈ rs', c ∈ l') ∧ l'.Nodup ∧ (∀ c, (c ∈ l' ∧ c ∉ rs') ↔ c ∈ l ∧ c ∉ ds) ∧ l'.length + (ds.length - rs'.length) = 33) _ ?_ ?_ xs _ ⟨F₁, l, rs, rfl, ?_, ?_, hrx, ?_, ?_, ?_, hnd, ?_, ?_⟩
  · rintro ⟨hv, v⟩ rest b s' ⟨F', l', rs', rfl, hD', hre, hmap, hrn, hrl, hrm, hln, hiff, hlen⟩
    obtain ⟨⟨k, hk, he⟩, _⟩ := hg.el _ (hre _ (List.mem_cons_self ..))
    obtain ⟨u, hu⟩ := is_str.mp hk
    dsimp only at hu he
    subst hu he
    cases rs' with
    | nil => simp at hmap
    | cons c rs' =>
      rw [List.map_cons, List.map_cons, List.cons.injEq] at hmap
      obtain ⟨hkc, hmap⟩ := hmap
      have hkc : k = one c := hkc
      subst hkc
      rw [List.nodup_cons] at hrn
      rw [List.length_cons] at hrl hD' hlen
      dsimp only
      have hnow : (s.heap.push (frz F')).get? s.heap.objs.size = some (frz F') := Heap.get?_push_size _ rfl
      refine wpAny_bind (wpAny_holding (discard_froz (s := { s with heap := s.heap.push (frz F') }) hD' (hrm c (List.mem_cons_self ..)) (by omega) hnow fun F'' h'' => ?_))
      dsimp only
      rw [push_upd]
      refine wpAny_bind (unchanged_froz (keep _ hr) hg.fits ?_)
      refine wpAny_pure ⟨F'', l'.erase c, rs', rfl, ?_, fun e he => hre e (List.mem_cons_of_mem _ he), hmap, hrn.2, by omega, ?_, hln.erase c, ?_, ?_⟩
      · rw [show ds.length - rs'.length = ds.length - (rs'.length + 1) + 1 by omega]
        exact h''
      · intro x hx
        have : x ≠ c := fun e => hrn.1 (e ▸ hx)
        exact (List.mem_erase_of_ne this).mpr (hrm x (List.mem_cons_of_mem _ hx))
      · intro x
        rw [← hiff x, hln.mem_erase_iff]
        simp only [List.mem_cons, not_or]
        constructor
        · rintro ⟨⟨h1, h2⟩, h3⟩; exact ⟨h2, h1, h3⟩
        · rintro ⟨h2, h1, h3⟩; exact ⟨⟨h1, h2⟩, h3⟩
      · rw [List.length_erase_of_mem (hrm c (List.mem_cons_self ..))]
        have := List.length_pos_of_mem (hrm c (List.mem_cons_self ..))
        omega
  · rintro b s' ⟨F', l', rs', rfl, hD', hre, hmap, hrn, hrl, hrm, hln, hiff, hlen⟩
    have : rs' = [] := by simpa using hmap.symm
    subst this
    have hnow : (s.heap.push (frz F')).get? s.heap.objs.size = some (frz F') := Heap.get?_push_size _ rfl
    refine wpAny_pure ?_
    unfold setTidy
    refine wpAny_bind (state_froz hnow hD'.fits ?_)
    dsimp only
    have hc : F'.t.tooManyDummies = false := by
      unfold SetTable.tooManyDummies
      rw [hD'.dum, hD'.mask]
      have : ¬ (ds.length - ([] : List Nat).length > 127 / 4) := by simp; omega
      simp only [this, decide_false]
    rw [hc]
    simp only [Bool.false_eq_true, ↓reduceIte]
    refine wpAny_pure (wpAny_pure (h F' l' (by simpa using hD') ?_ ?_))
    · intro c
      have := hiff c
      simpa using this
    · simpa using hlen
  · rw [hrs.length_eq, Nat.sub_self]; exact hD
  · exact fun e he => hx.mem_iff.mp he
  · exact hrs.nodup_iff.mpr hdn
  · rw [hrs.length_eq]; exact Nat.le_refl _
  · exact fun c hc => hds c (hrs.mem_iff.mp hc)
  · intro c
    rw [hrs.mem_iff]
  · rw [hrs.length_eq, hl]; omega
end
end Mine
end
section
open PySem PySem.W PyProof.Rows
set_option Elab.async false
set_option compiler.extract_closed false
set_option maxRecDepth 100000
namespace Mine
set_option maxHeartbeats 0 in
theorem h_open (w : World) : (fencedOpening treeTable PGm w 900).map (fun s => (s.heap, s.gens, s.drawn, s.toks)) = some (heap0 w.params, #[], ⟨0, 0, 0, 0⟩, 276) := by kernel_rfl
end Mine
end
section
open PySem PySem.W PyProof.Rows
set_option Elab.async false
set_option compiler.extract_closed false
set_option maxRecDepth 100000
set_option maxHeartbeats 0
namespace Mine
theorem h_q2 (w : World) (os : OsState) (x : Nat → FS) (T : BT) (hT : T = T_a w.params x) : goK treeTable PGm w (29 + 278 + 9) ⟨T, 32, {}, #[], ⟨0, 0, 0, 0⟩, 282, os⟩ (restK (tops 0) ⟨0, 0, 0, 0⟩) = some (⟨T_q2 w.params x, 68, {}, #[], ⟨0, 0, 0, 0⟩, 331, os⟩, restK (tops 3) ⟨11, 0, 11, 8⟩) := by
  subst hT
  kernel_rfl
end Mine
end
section
open PySem PySem.W PyProof.Rows
set_option Elab.async false
set_option compiler.extract_closed false
set_option maxRecDepth 100000
set_option maxHeartbeats 0
namespace Mine
theorem h_q11a (w : World) (os : OsState) (x : Nat → FS) (pos : Pos) : goK treeTable PGm w (9 + 36 + 9) ⟨T_q11 w.params x, 108, {}, #[.finished], ⟨0, 0, 0, 0⟩, 548, os⟩ (restK (tops 12) pos) = some (⟨T_q14 w.params x, 109, {}, #[.finished], ⟨0, 0, 0, 0⟩, 554, os⟩, restK (tops 15) ⟨23, 0, 23, 8⟩) := by
  kernel_rfl
theorem h_q15 : ∀ (w : World), ∀ (os : OsState) (x : Nat → FS), ∃ n, goK treeTable PGm w n ⟨T_q14 w.params x, 109, {}, #[.finished], ⟨0, 0, 0, 0⟩, 554, os⟩ (restK (tops 15) ⟨23, 0, 23, 8⟩) = some (⟨T_q15 w.params x, 111, {}, #[.finished], ⟨0, 0, 0, 0⟩, 576, os⟩, restK (tops 16) ⟨24, 0, 24, 29⟩) := by
  refine byRow2 "special-get-raises" (fun w os x => ⟨136, ?_⟩) (fun w os x => ⟨136, ?_⟩)
  · kernel_rfl
  · kernel_rfl
theorem h_q20 (w : World) (os : OsState) (x : Nat → FS) : goK treeTable PGm w (186 + 31 + 34 + 38 + 30) ⟨T_q15 w.params x, 111, {}, #[.finished], ⟨0, 0, 0, 0⟩, 576, os⟩ (restK (tops 16) ⟨24, 0, 24, 29⟩) = some (⟨T_q20 w.params x, 153, {}, #[.finished], ⟨0, 0, 0, 0⟩, 635, os⟩, restK (tops 21) ⟨69, 0, 70, 59⟩) := by
  kernel_rfl
end Mine
end
section
open PySem PySem.W PyProof.Rows
set_option Elab.async false
set_option compiler.extract_closed false
set_option maxRecDepth 100000
set_option maxHeartbeats 0
namespace Mine
theorem h_q28 (w : World) (os : OsState) (x : Nat → FS) : goK treeTable PGm w (33 + 34 + 37 + 32 + 29 + 9 + 59 + 85) ⟨T_q20 w.params x, 153, {}, #[.finished], ⟨0, 0, 0, 0⟩, 635, os⟩ (restK (tops 21) ⟨69, 0, 70, 59⟩) = some (⟨T_q28 w.params x, 198, {}, #[.finished], ⟨0, 0, 0, 0⟩, 750, os⟩, restK (tops 29) ⟨145, 0, 145, 10⟩) := by
  kernel_rfl
theorem h_fin (w : World) (os : OsState) (x : Nat → FS) : goK treeTable PGm w (9 + 29 + 9 + 30 + 26 + 35 + 32 + 39 + 32 + 26 + 26) ⟨T_q28 w.params x, 198, {}, #[.finished], ⟨0, 0, 0, 0⟩, 750, os⟩ (restK (tops 29) ⟨145, 0, 145, 10⟩) = some (⟨T_fin w.params x, 255, {}, #[.finished], ⟨0, 0, 0, 0⟩, 837, os⟩, ⟨.pure (.done .next), codeM, ⟨212, 0, 215, 62⟩, BM⟩) := by
  kernel_rfl
theorem h_pre (w : World) (os : OsState) (x : Nat → FS) : goK treeTable PGm w 12 ⟨T_0 w.params, 28, {}, #[], ⟨0, 0, 0, 0⟩, 276, os⟩ (topStub PGm) = some (⟨T_a w.params x, 32, {}, #[], ⟨0, 0, 0, 0⟩, 282, os⟩, restK (tops 0) ⟨0, 0, 0, 0⟩) := by
  kernel_rfl
theorem h_heap0 (P : Params) : heap0 P = absHeap (T_0 P) 28 {} := by kernel_rfl
end Mine
end
section
open PySem PySem.W PyProof.Rows PySem.Builtin PySem.Builtin.Frozenset
set_option Elab.async false
set_option compiler.extract_closed false
set_option linter.unusedVariables false
set_option maxRecDepth 100000
set_option maxHeartbeats 0
namespace Mine
noncomputable def ST3 (w : World) : List Frame := (goK treeTable PGm (w.withFollow "special-get-raises" false) (31) ⟨T_q3 w.params (fun _ => ⟨#[], 0, default⟩), 85, {}, #[.finished], d0, 475, default⟩ (restK (tops 4) ⟨12, 0, 12, 10⟩)).elim [] fun r => r.2.stack
theorem seg_4b : ∀ (w : World) (os : OsState) (x : Nat → FS), goK treeTable PGm w (31) ⟨T_q3 w.params x, 85, {}, #[.finished], d0, 475, os⟩ (restK (tops 4) ⟨12, 0, 12, 10⟩) = some (⟨T_4b w.params (upd x 85 (newF w)), 87, {}, #[.finished], d0, 477, os⟩, addT 85 (loopC 85 86) (sgn 9 476) ⟨13, 39, 13, 54⟩ (ST3 w)) := by
  refine byRow2 "special-get-raises" (fun w os x => ?_) (fun w os x => ?_)
  · kernel_rfl
  · kernel_rfl
noncomputable def ST4 (w : World) : List Frame := (goK treeTable PGm (w.withFollow "special-get-raises" false) (37) ⟨T_4b w.params (fun _ => ⟨#[], 0, default⟩), 87, {}, #[.finished], d0, 478, default⟩ (loopT (loopC 85 86) ⟨13, 39, 13, 54⟩ (ST3 w))).elim [] fun r => r.2.stack
theorem seg_4o (w : World) (os : OsState) (x : Nat → FS) (p : Pos) : goK treeTable PGm w (37) ⟨T_4b w.params x, 87, {}, #[.finished], d0, 478, os⟩ (loopT (loopC 85 86) p (ST3 w)) = some (⟨T_4o w.params x, 89, {}, #[.finished], d0, 478, os⟩, ⟨(difference (idOf "__sub__") 84 (.ref 85)).bind fun v => (ret v : Sem Fin), (.builtin "frozenset.__sub__" ⟨[.ref 84, .ref 85], []⟩ : Code), ⟨13, 26, 13, 54⟩, ST4 w⟩) := by
  kernel_rfl
theorem seg_4e (w : World) (os : OsState) (x : Nat → FS) (p : Pos) : goK treeTable PGm w (9) ⟨T_4p w.params x, 90, {}, #[.finished], d0, 478, os⟩ (⟨.pure (.done (.ret (.ref 89))), (.builtin "frozenset.__sub__" ⟨[.ref 84, .ref 85], []⟩ : Code), p, ST4 w⟩) = some (⟨T_q4 w.params x, 90, {}, #[.finished], d0, 479, os⟩, restK (tops 5) ⟨13, 0, 13, 23⟩) := by
  kernel_rfl
noncomputable def ST5 (w : World) : List Frame := (goK treeTable PGm (w.withFollow "special-get-raises" false) (31) ⟨T_q4 w.params (fun _ => ⟨#[], 0, default⟩), 90, {}, #[.finished], d0, 479, default⟩ (restK (tops 5) ⟨13, 0, 13, 23⟩)).elim [] fun r => r.2.stack
theorem seg_5b : ∀ (w : World) (os : OsState) (x : Nat → FS), goK treeTable PGm w (31) ⟨T_q4 w.params x, 90, {}, #[.finished], d0, 479, os⟩ (restK (tops 5) ⟨13, 0, 13, 23⟩) = some (⟨T_5b w.params 1 (upd x 90 (newF w)), 92, {}, #[.finished], d0, 481, os⟩, addT 90 (loopC 90 91) (sgn 9 480) ⟨14, 49, 14, 66⟩ (ST5 w)) := by
  refine byRow2 "special-get-raises" (fun w os x => ?_) (fun w os x => ?_)
  · kernel_rfl
  · kernel_rfl
theorem seg_5c (w : World) (os : OsState) (x : Nat → FS) (p : Pos) : goK treeTable PGm w (10) ⟨T_5b w.params 1 x, 92, {}, #[.finished], d0, 482, os⟩ (loopT (loopC 90 91) p (ST5 w)) = some (⟨T_5b w.params 2 x, 92, {}, #[.finished], d0, 483, os⟩, addT 90 (loopC 90 91) (sgn 10 482) p (ST5 w)) := by
  kernel_rfl
noncomputable def ST6 (w : World) : List Frame := (goK treeTable PGm (w.withFollow "special-get-raises" false) (37) ⟨T_5b w.params 2 (fun _ => ⟨#[], 0, default⟩), 92, {}, #[.finished], d0, 484, default⟩ (loopT (loopC 90 91) ⟨14, 49, 14, 66⟩ (ST5 w))).elim [] fun r => r.2.stack
theorem seg_5o (w : World) (os : OsState) (x : Nat → FS) (p : Pos) : goK treeTable PGm w (37) ⟨T_5b w.params 2 x, 92, {}, #[.finished], d0, 484, os⟩ (loopT (loopC 90 91) p (ST5 w)) = some (⟨T_5o w.params x, 94, {}, #[.finished], d0, 484, os⟩, ⟨(difference (idOf "__sub__") 84 (.ref 90)).bind fun v => (ret v : Sem Fin), (.builtin "frozenset.__sub__" ⟨[.ref 84, .ref 90], []⟩ : Code), ⟨14, 36, 14, 66⟩, ST6 w⟩) := by
  kernel_rfl
theorem seg_5e (w : World) (os : OsState) (x : Nat → FS) (p : Pos) : goK treeTable PGm w (9) ⟨T_5p w.params x, 95, {}, #[.finished], d0, 484, os⟩ (⟨.pure (.done (.ret (.ref 94))), (.builtin "frozenset.__sub__" ⟨[.ref 84, .ref 90], []⟩ : Code), p, ST6 w⟩) = some (⟨T_q5 w.params x, 95, {}, #[.finished], d0, 485, os⟩, restK (tops 6) ⟨14, 0, 14, 33⟩) := by
  kernel_rfl
end Mine
end
section
open PySem PySem.W PyProof.Rows PySem.Builtin PySem.Builtin.Frozenset
set_option Elab.async false
set_option compiler.extract_closed false
set_option linter.unusedVariables false
set_option maxRecDepth 100000
set_option maxHeartbeats 0
namespace Mine
noncomputable def ST7 (w : World) : List Frame := (goK treeTable PGm (w.withFollow "special-get-raises" false) (10 + 29) ⟨T_q5 w.params (fun _ => ⟨#[], 0, default⟩), 95, {}, #[.finished], d0, 485, default⟩ (restK (tops 6) ⟨14, 0, 14, 33⟩)).elim [] fun r => r.2.stack
theorem seg_7b : ∀ (w : World) (os : OsState) (x : Nat → FS), goK treeTable PGm w (10 + 29) ⟨T_q5 w.params x, 95, {}, #[.finished], d0, 485, os⟩ (restK (tops 6) ⟨14, 0, 14, 33⟩) = some (⟨T_7b w.params 1 (upd x 95 (newF w)), 97, {}, #[.finished], d0, 488, os⟩, addT 95 (loopC 95 96) (sgn 32 487) ⟨16, 10, 16, 26⟩ (ST7 w)) := by
  refine byRow2 "special-get-raises" (fun w os x => ?_) (fun w os x => ?_)
  · kernel_rfl
  · kernel_rfl
theorem seg_7c (w : World) (os : OsState) (x : Nat → FS) (p : Pos) : goK treeTable PGm w (10) ⟨T_7b w.params 1 x, 97, {}, #[.finished], d0, 489, os⟩ (loopT (loopC 95 96) p (ST7 w)) = some (⟨T_7b w.params 2 x, 97, {}, #[.finished], d0, 490, os⟩, addT 95 (loopC 95 96) (sgn 9 489) p (ST7 w)) := by
  kernel_rfl
theorem seg_7e (w : World) (os : OsState) (x : Nat → FS) (p : Pos) : goK treeTable PGm w (33) ⟨T_7b w.params 2 x, 97, {}, #[.finished], d0, 491, os⟩ (loopT (loopC 95 96) p (ST7 w)) = some (⟨T_q7 w.params x, 99, {}, #[.finished], d0, 492, os⟩, restK (tops 8) ⟨16, 0, 16, 7⟩) := by
  kernel_rfl
noncomputable def ST8 (w : World) : List Frame := (goK treeTable PGm (w.withFollow "special-get-raises" false) (31) ⟨T_q7 w.params (fun _ => ⟨#[], 0, default⟩), 99, {}, #[.finished], d0, 492, default⟩ (restK (tops 8) ⟨16, 0, 16, 7⟩)).elim [] fun r => r.2.stack
theorem seg_8b : ∀ (w : World) (os : OsState) (x : Nat → FS), goK treeTable PGm w (31) ⟨T_q7 w.params x, 99, {}, #[.finished], d0, 492, os⟩ (restK (tops 8) ⟨16, 0, 16, 7⟩) = some (⟨T_8b w.params (upd x 99 (newF w)), 101, {}, #[.finished], d0, 494, os⟩, addT 99 (loopC 99 100) (sgn 10 493) ⟨17, 32, 17, 47⟩ (ST8 w)) := by
  refine byRow2 "special-get-raises" (fun w os x => ?_) (fun w os x => ?_)
  · kernel_rfl
  · kernel_rfl
noncomputable def ST9 (w : World) : List Frame := (goK treeTable PGm (w.withFollow "special-get-raises" false) (40) ⟨T_8b w.params (fun _ => ⟨#[], 0, default⟩), 101, {}, #[.finished], d0, 495, default⟩ (loopT (loopC 99 100) ⟨17, 32, 17, 47⟩ (ST8 w))).elim [] fun r => r.2.stack
theorem seg_8o (w : World) (os : OsState) (x : Nat → FS) (p : Pos) : goK treeTable PGm w (40) ⟨T_8b w.params x, 101, {}, #[.finished], d0, 495, os⟩ (loopT (loopC 99 100) p (ST8 w)) = some (⟨T_8o w.params (upd x 103 (newF w)), 104, {}, #[.finished], d0, 495, os⟩, ⟨orCur 103 95 99, (.builtin "frozenset.__or__" ⟨[.ref 95, .ref 99], []⟩ : Code), ⟨17, 22, 17, 47⟩, ST9 w⟩) := by
  kernel_rfl
theorem seg_8e (w : World) (os : OsState) (x : Nat → FS) (p : Pos) : goK treeTable PGm w (9) ⟨T_8o w.params x, 104, {}, #[.finished], d0, 495, os⟩ (⟨.pure (.done (.ret (.ref 103))), (.builtin "frozenset.__or__" ⟨[.ref 95, .ref 99], []⟩ : Code), p, ST9 w⟩) = some (⟨T_q8 w.params x, 104, {}, #[.finished], d0, 496, os⟩, restK (tops 9) ⟨17, 0, 17, 19⟩) := by
  kernel_rfl
end Mine
end
section
open PySem PySem.W PyProof.Rows PySem.Builtin PySem.Builtin.Frozenset
set_option Elab.async false
set_option compiler.extract_closed false
set_option linter.unusedVariables false
set_option maxRecDepth 100000
set_option maxHeartbeats 0
namespace Mine
noncomputable def ST10 (w : World) : List Frame := (goK treeTable PGm (w.withFollow "special-get-raises" false) (9 + 24 + 30) ⟨T_q8 w.params (fun _ => ⟨#[], 0, default⟩), 104, {}, #[.finished], d0, 496, default⟩ (restK (tops 9) ⟨17, 0, 17, 19⟩)).elim [] fun r => r.2.stack
theorem seg_11b : ∀ (w : World) (os : OsState) (x : Nat → FS), goK treeTable PGm w (9 + 24 + 30) ⟨T_q8 w.params x, 104, {}, #[.finished], d0, 496, os⟩ (restK (tops 9) ⟨17, 0, 17, 19⟩) = some (⟨T_11b w.params 1 (upd x 104 (newF w)), 106, {}, #[.finished], d0, 504, os⟩, addT 104 (loopC 104 105) (sgn 48 503) ⟨20, 17, 20, 37⟩ (ST10 w)) := by
  refine byRow2 "special-get-raises" (fun w os x => ?_) (fun w os x => ?_)
  · kernel_rfl
  · kernel_rfl
theorem seg_11c (w : World) (os : OsState) (x : Nat → FS) (p : Pos) : ((List.range' 1 21).map fun i => goK treeTable PGm w 10 ⟨T_11b w.params i x, 106, {}, #[.finished], d0, 503 + 2 * i, os⟩ (loopT (loopC 104 105) p (ST10 w))) =
    (List.range' 1 21).map fun i => some (⟨T_11b w.params (i + 1) x, 106, {}, #[.finished], d0, 504 + 2 * i, os⟩, addT 104 (loopC 104 105) (sgn (hexes.getD i 0) (503 + 2 * i)) p (ST10 w)) := by
  kernel_rfl
theorem seg_11e (w : World) (os : OsState) (x : Nat → FS) (p : Pos) : goK treeTable PGm w (33) ⟨T_11b w.params 22 x, 106, {}, #[.finished], d0, 547, os⟩ (loopT (loopC 104 105) p (ST10 w)) = some (⟨T_q11 w.params x, 108, {}, #[.finished], d0, 548, os⟩, restK (tops 12) ⟨20, 0, 20, 14⟩) := by
  kernel_rfl
end Mine
end
section
open PySem PySem.W PyProof.Rows PySem.Builtin PySem.Builtin.Frozenset
set_option Elab.async false
set_option compiler.extract_closed false
set_option linter.unusedVariables false
set_option linter.unusedSimpArgs false
set_option maxRecDepth 100000
set_option maxHeartbeats 0
namespace Mine
theorem prim {α : Type} {w : World} {m : Sem α} {f : α → Sem Fin} {cur : Code} {st : List Frame} {p : Pos} {s : Shared} {P : α → Shared → Prop}
    (h : ∀ A, wpAny (model PGm w) A m P (fun _ _ => False) s) : ∃ a s' p', P a s' ∧ Comes (model PGm w) s ⟨m.bind f, cur, p, st⟩ s' ⟨f a, cur, p', st⟩ := by
  have hf := Ctx.fits_of cur st
  have hin : (Ctx.of cur st).In { handled := (Ctx.of cur st).handled, depth := frameCount (Ctx.of cur st).below + (Ctx.of cur st).code.weight, frames := none, guards := none, units := (Ctx.of cur st).units } :=
    ⟨rfl, Nat.le_refl _, (fun l hl => nomatch hl), (fun g hg => nomatch hg), Nat.le_refl _⟩
  obtain ⟨s', p', t', hc, hl⟩ := wp_comes_bind (M := model PGm w) hf f m _ _ p s (h _ _ p hin)
  rcases hl with ⟨a, rfl, ha⟩ | ⟨e, _, he⟩
  · exact ⟨a, s', p', ha, hc⟩
  · exact he.elim
theorem add_comes {w : World} {a c u n toks : Nat} {F : FS} {l : List Nat} {T : BT} {gens : Array GenState} {os : OsState} {lp : Code} {p : Pos} {st : List Frame} (hq : lp.quiet = true) (hT : T.get a = some (frz F)) (ha : a < n) (hh : Has w F l) (hc : c ∉ l) (hn : l.length < 4000) :
    ∃ F' p', Has w F' (l ++ [c]) ∧ Comes (model PGm w) (SharedT.abs ⟨T, n, {}, gens, d0, toks, os⟩) (addT a lp (sgn c u) p st) (SharedT.abs ⟨T.set a fun _ => frz F', n, {}, gens, d0, toks + 1, os⟩) (loopT lp p' st) := by
  have hg : (absHeap T n {}).get? a = some (frz F) := abs_get ha hT
  obtain ⟨_, s', p', ⟨F', hF', hs⟩, hc⟩ := prim (w := w) (f := fun _ => (again lp : Sem Fin)) (cur := lp) (st := st) (p := p) (s := SharedT.abs ⟨T, n, {}, gens, d0, toks, os⟩)
    (P := fun _ s' => ∃ F', Has w F' (l ++ [c]) ∧ s' = SharedT.abs ⟨T.set a fun _ => frz F', n, {}, gens, d0, toks + 1, os⟩)
    (fun A => add_froz (u := u) (s := SharedT.abs ⟨T, n, {}, gens, d0, toks, os⟩) hh hc hn hg fun F' hF' => ⟨F', hF', by
      show _ = Shared.mk (absHeap (T.set a fun _ => frz F') n {}) gens d0 (toks + 1) os
      rw [absHeap_set hT]; rfl⟩)
  subst hs
  refine ⟨F', p', hF', hc.trans (.step (step_again _ _ _ _ _ _ hq) ?_)⟩
  rw [show (model PGm w).den = denote treeTable from by rw [← table_eq_tree]; rfl]
  exact .refl _ _
end Mine
end
section
open PySem PySem.W PyProof.Rows PySem.Builtin PySem.Builtin.Frozenset
set_option Elab.async false
set_option compiler.extract_closed false
set_option linter.unusedVariables false
set_option linter.unusedSimpArgs false
set_option maxRecDepth 100000
set_option maxHeartbeats 0
namespace Mine
noncomputable abbrev x0 : Nat → FS := fun _ => ⟨#[], 0, default⟩
/-- the run comes here from behind the opening -/
noncomputable def Got (w : World) (os : OsState) (S : SharedT) (t : Thread) : Prop := Comes (model PGm w) (SharedT.abs ⟨T_0 w.params, 28, {}, #[], ⟨0, 0, 0, 0⟩, 276, os⟩) (topStub PGm) S.abs t
theorem Got.go {w : World} {os : OsState} {S S' : SharedT} {t t' : Thread} {n : Nat} (h : Got w os S t) (e : goK treeTable PGm w n S t = some (S', t')) : Got w os S' t' := Comes.trans h (goK_comes e)
theorem got_loop (w : World) (os : OsState) : Got w os ⟨T_loop w.params (ri 0) (ed0 w.params) (upd x0 75 (newF w)), 76, {}, gen0 w, d0, 342, os⟩ (loopT loopA p12 (ST0 w)) := by
  have h0 : Got w os ⟨T_0 w.params, 28, {}, #[], ⟨0, 0, 0, 0⟩, 276, os⟩ (topStub PGm) := Comes.refl _ _
  have h1 := h0.go (h_pre w os x0)
  have h2 := h1.go (h_q2 w os x0 _ rfl)
  exact h2.go (h_86 w os x0)
theorem has_new (w : World) : Has w (newF w) [] := ⟨fun e he => by simp [newF] at he, by simp [newF], by rfl, rfl⟩
theorem set_loop (P : Params) (r e : Obj) (x : Nat → FS) (F : FS) : (T_loop P r e x).set 75 (fun _ => frz F) = T_loop P r e (upd x 75 F) := by kernel_rfl
theorem get_loop (P : Params) (r e : Obj) (x : Nat → FS) : (T_loop P r e x).get 75 = some (frz (x 75)) := by kernel_rfl
theorem quiet_A : loopA.quiet = true := by decide +kernel
theorem turn_eq {w : World} {os : OsState} {x : Nat → FS} {p : Pos} {i : Nat} (h1 : 1 ≤ i) (h2 : i < 32) : goK treeTable PGm w 45 ⟨T_loop w.params (ri i) (ed w.params (i - 1)) x, 76, {}, gen1 w, d0, 342 + 4 * i, os⟩ (loopT loopA p (ST0 w)) =
    some (⟨T_loop w.params (ri (i + 1)) (ed w.params i) x, 76, {}, gen1 w, d0, 345 + 4 * i, os⟩, addT 75 loopA (sgn i (344 + 4 * i)) p (ST0 w)) := by
  have h := h_its w os x p
  exact (List.map_inj_left.mp h) i (by rw [List.mem_range'_1]; omega)
theorem got_turns (w : World) (os : OsState) : ∀ i, 1 ≤ i → i ≤ 32 → ∃ x p, Has w (x 75) (List.range i) ∧ Got w os ⟨T_loop w.params (ri i) (ed w.params (i - 1)) x, 76, {}, gen1 w, d0, 342 + 4 * i, os⟩ (loopT loopA p (ST0 w)) := by
  intro i h1 h2
  induction i with
  | zero => omega
  | succ i ih =>
    rcases Nat.eq_zero_or_pos i with rfl | hi
    · obtain ⟨n, h⟩ := h_it0 w os (upd x0 75 (newF w))
      have g := (got_loop w os).go h
      obtain ⟨F', p', hF, hc⟩ := add_comes (u := 344) (n := 76) (toks := 345) (gens := gen1 w) (os := os) (p := p12) (st := ST0 w) (c := 0) quiet_A (get_loop w.params (ri 1) (ed w.params 0) (upd x0 75 (newF w))) (by decide) (has_new w) (by simp) (by simp)
      refine ⟨upd (upd x0 75 (newF w)) 75 F', p', hF, Comes.trans g ?_⟩
      rw [set_loop] at hc
      exact hc
    · obtain ⟨x, p, hx, hg⟩ := ih hi (by omega)
      have g := hg.go (turn_eq hi (by omega))
      obtain ⟨F', p', hF, hc⟩ := add_comes (u := 344 + 4 * i) (n := 76) (toks := 345 + 4 * i) (gens := gen1 w) (os := os) (p := p) (st := ST0 w) (c := i) quiet_A (get_loop w.params (ri (i + 1)) (ed w.params i) x) (by decide) hx (by simp) (by simp; omega)
      refine ⟨upd x 75 F', p', ?_, Comes.trans g ?_⟩
      · rw [List.range_succ]; exact hF
      · rw [set_loop] at hc
        rw [show 342 + 4 * (i + 1) = 345 + 4 * i + 1 by omega]
        exact hc
theorem set_3b (P : Params) (x : Nat → FS) (F : FS) : (T_3b P x).set 80 (fun _ => frz F) = T_3b P (upd x 80 F) := by kernel_rfl
theorem set_3o (P : Params) (x : Nat → FS) (F : FS) : (T_3o P x).set 84 (fun _ => frz F) = T_3o P (upd x 84 F) := by kernel_rfl
noncomputable abbrev asc : List Nat := List.range 32 ++ [127]
theorem or_comes {w : World} {os : OsState} {T : BT} {N toks n l r c : Nat} {gens : Array GenState} {Fl Fr : FS} {ll : List Nat} {code : Code} {p : Pos} {st : List Frame} (hn : T.get n = some (frz (newF w))) (hl : T.get l = some (frz Fl)) (hr : T.get r = some (frz Fr)) (hnN : n < N) (hlN : l < N) (hrN : r < N)
    (hnl : n ≠ l) (hnr : n ≠ r) (hlr : r ≠ l) (hL : Has w Fl ll) (hll : ll.length = 2 ∨ ll.length = 32) (hR : Has w Fr [c]) (hc : c ∉ ll) :
    ∃ F' p', Has w F' (ll ++ [c]) ∧ Comes (model PGm w) (SharedT.abs ⟨T, N, {}, gens, d0, toks, os⟩) ⟨orCur n l r, code, p, st⟩ (SharedT.abs ⟨T.set n fun _ => frz F', N, {}, gens, d0, toks, os⟩) ⟨.pure (.done (.ret (.ref n))), code, p', st⟩ := by
  have gn : (absHeap T N {}).get? n = some (frz (newF w)) := abs_get hnN hn
  have gl : (absHeap T N {}).get? l = some (frz Fl) := abs_get hlN hl
  have gr : (absHeap T N {}).get? r = some (frz Fr) := abs_get hrN hr
  obtain ⟨v, s', p', ⟨F', hF', rfl, hs⟩, hc⟩ := prim (w := w) (f := fun v => (ret v : Sem Fin)) (cur := code) (st := st) (p := p) (s := SharedT.abs ⟨T, N, {}, gens, d0, toks, os⟩)
    (m := ((setMerge n l).bind fun _ => (pure (.ref n) : Sem Value)).bind fun result => (if (Value.ref r) != .ref l then (addrOf result).bind fun a => (holding [result] (updateFrom (idOf "__or__") a (.ref r))).bind fun _ => (pure result : Sem Value) else (pure result : Sem Value)))
    (P := fun v s' => ∃ F', Has w F' (ll ++ [c]) ∧ v = .ref n ∧ s' = SharedT.abs ⟨T.set n fun _ => frz F', N, {}, gens, d0, toks, os⟩)
    (fun A => by
      refine wpAny_bind (m := (setMerge n l).bind fun _ => (pure (.ref n) : Sem Value)) ?_
      refine wpAny_bind (m := setMerge n l) (merge_copy (s := SharedT.abs ⟨T, N, {}, gens, d0, toks, os⟩) hnl gn gl hL (by omega) fun F₁ h₁ m₁ => ?_)
      refine wpAny_pure ?_
      have e1 : ((Value.ref r) != .ref l) = true := by simpa using hlr
      rw [e1]
      simp only [↓reduceIte]
      refine wpAny_bind (m := addrOf (.ref n)) (wpAny_pure ?_)
      refine wpAny_bind (m := holding [.ref n] (updateFrom (idOf "__or__") n (.ref r))) (or_one (F := F₁) (l := ll) (G := Fr) (c := c) hnr (get_upd gn) h₁ (by omega) (by omega) ?_ (by rw [Heap.get?_update_ne _ _ _ _ hnr.symm]; exact gr) hR hc fun F' hF' => ?_)
      · have hf := h₁.fits
        have hs := h₁.size
        unfold SetTable.fits at hf
        rw [Bool.and_eq_true, beq_iff_eq] at hf
        unfold SetTable.roomFor SetTable.fill
        rw [hf.1, hs, h₁.dum, m₁]
        rcases hll with e | e
        · rw [e]; rfl
        · rw [e]; rfl
      · refine wpAny_pure ⟨F', hF', rfl, ?_⟩
        show _ = Shared.mk (absHeap (T.set n fun _ => frz F') N {}) gens d0 toks os
        rw [absHeap_set hn]
        dsimp only
        rw [upd_upd]
        rfl)
  subst hs
  exact ⟨F', p', hF', hc⟩
end Mine
end
section
open PySem PySem.W PyProof.Rows PySem.Builtin PySem.Builtin.Frozenset
set_option Elab.async false
set_option compiler.extract_closed false
set_option linter.unusedVariables false
set_option linter.unusedSimpArgs false
set_option maxRecDepth 100000
set_option maxHeartbeats 0
namespace Mine
theorem got_q3 (w : World) (os : OsState) : ∃ x, Has w (x 84) asc ∧ Got w os ⟨T_q3 w.params x, 85, {}, #[.finished], d0, 475, os⟩ (restK (tops 4) ⟨12, 0, 12, 10⟩) := by
  obtain ⟨x, p, hx, hg⟩ := got_turns w os 32 (by decide) (by decide)
  have g := hg.go (seg_3b w os x p)
  obtain ⟨F, p1, hF, hc⟩ := add_comes (u := 472) (n := 82) (toks := 473) (gens := #[.finished]) (os := os) (p := ⟨12, 54, 12, 73⟩) (st := ST1 w) (c := 127) (lp := loopC 80 81) (a := 80) (T := T_3b w.params (upd x 80 (newF w))) (F := newF w) (l := []) (by decide +kernel) (by kernel_rfl) (by decide) (has_new w) (by simp) (by simp)
  rw [set_3b] at hc
  have g1 : Got w os _ _ := Comes.trans g hc
  generalize hx1 : upd (upd x 80 (newF w)) 80 F = x1 at g1
  have h75 : Has w (x1 75) (List.range 32) := by rw [← hx1]; exact hx
  have h80 : Has w (x1 80) [127] := by rw [← hx1]; exact hF
  have g2 := g1.go (seg_3o w os x1 p1)
  obtain ⟨F', p2, hF', hc2⟩ := or_comes (w := w) (os := os) (T := T_3o w.params (upd x1 84 (newF w))) (N := 85) (toks := 474) (n := 84) (l := 75) (r := 80) (c := 127) (gens := #[.finished]) (Fl := x1 75) (Fr := x1 80) (ll := List.range 32) (code := (.builtin "frozenset.__or__" ⟨[.ref 75, .ref 80], []⟩ : Code)) (p := ⟨12, 13, 12, 73⟩) (st := ST2 w)
    (by kernel_rfl) (by kernel_rfl) (by kernel_rfl) (by decide) (by decide) (by decide) (by decide) (by decide) (by decide) h75 (.inr (by simp)) h80 (by simp)
  rw [set_3o] at hc2
  have g3 : Got w os _ _ := Comes.trans g2 hc2
  exact ⟨_, hF', g3.go (seg_3e w os _ p2)⟩
theorem set_4b (P : Params) (x : Nat → FS) (F : FS) : (T_4b P x).set 85 (fun _ => frz F) = T_4b P (upd x 85 F) := by kernel_rfl
theorem ins_4o (P : Params) (x : Nat → FS) (F : FS) : (T_4o P x).ins 89 (frz F) = T_4p P (upd x 89 F) := by kernel_rfl
theorem get_4p (P : Params) (x : Nat → FS) : (T_4p P x).get 89 = some (frz (x 89)) := by kernel_rfl
theorem set_5b (P : Params) (i : Nat) (x : Nat → FS) (F : FS) : (T_5b P i x).set 90 (fun _ => frz F) = T_5b P i (upd x 90 F) := by kernel_rfl
theorem get_5b (P : Params) (i : Nat) (x : Nat → FS) : (T_5b P i x).get 90 = some (frz (x 90)) := by kernel_rfl
theorem ins_5o (P : Params) (x : Nat → FS) (F : FS) : (T_5o P x).ins 94 (frz F) = T_5p P (upd x 94 F) := by kernel_rfl
theorem get_5p (P : Params) (x : Nat → FS) : (T_5p P x).get 94 = some (frz (x 94)) := by kernel_rfl
theorem diff_comes {w : World} {os : OsState} {T : BT} {N toks o r : Nat} {gens : Array GenState} {Fo Fr : FS} {ds : List Nat} {code : Code} {p : Pos} {st : List Frame} (ho : T.get o = some (frz Fo)) (hr : T.get r = some (frz Fr)) (hoN : o < N) (hrN : r < N)
    (hO : Has w Fo asc) (hR : Has w Fr ds) (hdl : ds.length = 1 ∨ ds.length = 2) (hdn : ds.Nodup) (hds : ∀ c ∈ ds, c ∈ asc) (hins : ∀ F : FS, ((T.ins N (frz F)).get N).isSome = true) :
    ∃ F' l' p', HasD w F' l' ds.length ∧ (∀ c, c ∈ l' ↔ c ∈ asc ∧ c ∉ ds) ∧ l'.length + ds.length = 33 ∧ Comes (model PGm w) (SharedT.abs ⟨T, N, {}, gens, d0, toks, os⟩) ⟨(difference (idOf "__sub__") o (.ref r)).bind fun v => (ret v : Sem PySem.Fin), code, p, st⟩ (SharedT.abs ⟨T.ins N (frz F'), N + 1, {}, gens, d0, toks, os⟩) ⟨.pure (.done (.ret (.ref N))), code, p', st⟩ := by
  have go : (absHeap T N {}).get? o = some (frz Fo) := abs_get hoN ho
  have gr : (absHeap T N {}).get? r = some (frz Fr) := abs_get hrN hr
  obtain ⟨v, s', p', ⟨F', l', h1, h2, h3, rfl, hs⟩, hc⟩ := prim (w := w) (f := fun v => (ret v : Sem PySem.Fin)) (cur := code) (st := st) (p := p) (s := SharedT.abs ⟨T, N, {}, gens, d0, toks, os⟩)
    (m := difference (idOf "__sub__") o (.ref r))
    (P := fun v s' => ∃ F' l', HasD w F' l' ds.length ∧ (∀ c, c ∈ l' ↔ c ∈ asc ∧ c ∉ ds) ∧ l'.length + ds.length = 33 ∧ v = .ref N ∧ s' = SharedT.abs ⟨T.ins N (frz F'), N + 1, {}, gens, d0, toks, os⟩)
    (fun A => by
      refine diff_froz (s := SharedT.abs ⟨T, N, {}, gens, d0, toks, os⟩) go hO (by simp) (by decide +kernel) gr hR hdl hdn hds fun F' l' h1 h2 h3 => ⟨F', l', h1, h2, h3, ?_, ?_⟩
      · show Value.ref (absHeap T N {}).objs.size = _
        rw [absHeap_size]
      · show _ = Shared.mk (absHeap (T.ins N (frz F')) (N + 1) {}) gens d0 toks os
        rw [absHeap_ins (hins F')]
        rfl)
  subst hs
  exact ⟨F', l', p', h1, h2, h3, hc⟩
theorem got_q4 (w : World) (os : OsState) : ∃ x, Has w (x 84) asc ∧ Got w os ⟨T_q4 w.params x, 90, {}, #[.finished], d0, 479, os⟩ (restK (tops 5) ⟨13, 0, 13, 23⟩) := by
  obtain ⟨x, hx, hg⟩ := got_q3 w os
  have g := hg.go (seg_4b w os x)
  obtain ⟨F, p1, hF, hc⟩ := add_comes (u := 476) (n := 87) (toks := 477) (gens := #[.finished]) (os := os) (p := ⟨13, 39, 13, 54⟩) (st := ST3 w) (c := 9) (lp := loopC 85 86) (a := 85) (T := T_4b w.params (upd x 85 (newF w))) (F := newF w) (l := []) (by decide +kernel) (by kernel_rfl) (by decide) (has_new w) (by simp) (by simp)
  rw [set_4b] at hc
  have g1 : Got w os _ _ := Comes.trans g hc
  generalize hx1 : upd (upd x 85 (newF w)) 85 F = x1 at g1
  have h84 : Has w (x1 84) asc := by rw [← hx1]; exact hx
  have h85 : Has w (x1 85) [9] := by rw [← hx1]; exact hF
  have g2 := g1.go (seg_4o w os x1 p1)
  obtain ⟨F', l', p2, hD, hl1, hl2, hc2⟩ := diff_comes (w := w) (os := os) (T := T_4o w.params x1) (N := 89) (toks := 478) (o := 84) (r := 85) (gens := #[.finished]) (Fo := x1 84) (Fr := x1 85) (ds := [9]) (code := (.builtin "frozenset.__sub__" ⟨[.ref 84, .ref 85], []⟩ : Code)) (p := ⟨13, 26, 13, 54⟩) (st := ST4 w)
    (by kernel_rfl) (by kernel_rfl) (by decide) (by decide) h84 h85 (.inl rfl) (by decide) (by decide) (fun F => by rw [ins_4o, get_4p]; rfl)
  rw [ins_4o] at hc2
  have g3 : Got w os _ _ := Comes.trans g2 hc2
  refine ⟨upd x1 89 F', ?_, g3.go (seg_4e w os _ p2)⟩
  exact h84
theorem got_q5 (w : World) (os : OsState) : ∃ x l', HasD w (x 94) l' 2 ∧ (∀ c, c ∈ l' ↔ c ∈ asc ∧ c ∉ [9, 10]) ∧ l'.length = 31 ∧ Got w os ⟨T_q5 w.params x, 95, {}, #[.finished], d0, 485, os⟩ (restK (tops 6) ⟨14, 0, 14, 33⟩) := by
  obtain ⟨x, hx, hg⟩ := got_q4 w os
  have g := hg.go (seg_5b w os x)
  obtain ⟨F, p1, hF, hc⟩ := add_comes (u := 480) (n := 92) (toks := 481) (gens := #[.finished]) (os := os) (p := ⟨14, 49, 14, 66⟩) (st := ST5 w) (c := 9) (lp := loopC 90 91) (a := 90) (T := T_5b w.params 1 (upd x 90 (newF w))) (F := newF w) (l := []) (by decide +kernel) (by kernel_rfl) (by decide) (has_new w) (by simp) (by simp)
  rw [set_5b] at hc
  have g1 : Got w os _ _ := Comes.trans g hc
  generalize hx1 : upd (upd x 90 (newF w)) 90 F = x1 at g1
  have h84 : Has w (x1 84) asc := by rw [← hx1]; exact hx
  have h90 : Has w (x1 90) [9] := by rw [← hx1]; exact hF
  have g2 := g1.go (seg_5c w os x1 p1)
  obtain ⟨F2, p2, hF2, hc2⟩ := add_comes (u := 482) (n := 92) (toks := 483) (gens := #[.finished]) (os := os) (p := p1) (st := ST5 w) (c := 10) (lp := loopC 90 91) (a := 90) (T := T_5b w.params 2 x1) (F := x1 90) (l := [9]) (by decide +kernel) (by kernel_rfl) (by decide) h90 (by simp) (by simp)
  rw [set_5b] at hc2
  have g3 : Got w os _ _ := Comes.trans g2 hc2
  generalize hx2 : upd x1 90 F2 = x2 at g3
  have h84' : Has w (x2 84) asc := by rw [← hx2]; exact h84
  have h90' : Has w (x2 90) [9, 10] := by rw [← hx2]; exact hF2
  have g4 := g3.go (seg_5o w os x2 p2)
  obtain ⟨F', l', p3, hD, hl1, hl2, hc3⟩ := diff_comes (w := w) (os := os) (T := T_5o w.params x2) (N := 94) (toks := 484) (o := 84) (r := 90) (gens := #[.finished]) (Fo := x2 84) (Fr := x2 90) (ds := [9, 10]) (code := (.builtin "frozenset.__sub__" ⟨[.ref 84, .ref 90], []⟩ : Code)) (p := ⟨14, 36, 14, 66⟩) (st := ST6 w)
    (by kernel_rfl) (by kernel_rfl) (by decide) (by decide) h84' h90' (.inr rfl) (by decide) (by decide) (fun F => by rw [ins_5o, get_5p]; rfl)
  rw [ins_5o] at hc3
  have g5 : Got w os _ _ := Comes.trans g4 hc3
  refine ⟨_, l', ?_, hl1, ?_, g5.go (seg_5e w os _ p3)⟩
  · exact hD
  · simpa using hl2
end Mine
end
section
open PySem PySem.W PyProof.Rows PySem.Builtin PySem.Builtin.Frozenset
set_option Elab.async false
set_option compiler.extract_closed false
set_option linter.unusedVariables false
set_option linter.unusedSimpArgs false
set_option maxRecDepth 100000
set_option maxHeartbeats 0
namespace Mine
noncomputable def H94 (w : World) (F : FS) : Prop := ∃ l', HasD w F l' 2 ∧ (∀ c, c ∈ l' ↔ c ∈ asc ∧ c ∉ [9, 10]) ∧ l'.length = 31
theorem set_7b (P : Params) (i : Nat) (x : Nat → FS) (F : FS) : (T_7b P i x).set 95 (fun _ => frz F) = T_7b P i (upd x 95 F) := by kernel_rfl
theorem get_7b (P : Params) (i : Nat) (x : Nat → FS) : (T_7b P i x).get 95 = some (frz (x 95)) := by kernel_rfl
theorem set_8b (P : Params) (x : Nat → FS) (F : FS) : (T_8b P x).set 99 (fun _ => frz F) = T_8b P (upd x 99 F) := by kernel_rfl
theorem set_8o (P : Params) (x : Nat → FS) (F : FS) : (T_8o P x).set 103 (fun _ => frz F) = T_8o P (upd x 103 F) := by kernel_rfl
theorem set_11b (P : Params) (i : Nat) (x : Nat → FS) (F : FS) : (T_11b P i x).set 104 (fun _ => frz F) = T_11b P i (upd x 104 F) := by kernel_rfl
theorem get_11b (P : Params) (i : Nat) (x : Nat → FS) : (T_11b P i x).get 104 = some (frz (x 104)) := by kernel_rfl
theorem got_q7 (w : World) (os : OsState) : ∃ x, H94 w (x 94) ∧ Has w (x 95) [32, 9] ∧ Got w os ⟨T_q7 w.params x, 99, {}, #[.finished], d0, 492, os⟩ (restK (tops 8) ⟨16, 0, 16, 7⟩) := by
  obtain ⟨x, l', h1, h2, h3, hg⟩ := got_q5 w os
  have g := hg.go (seg_7b w os x)
  obtain ⟨F, p1, hF, hc⟩ := add_comes (u := 487) (n := 97) (toks := 488) (gens := #[.finished]) (os := os) (p := ⟨16, 10, 16, 26⟩) (st := ST7 w) (c := 32) (lp := loopC 95 96) (a := 95) (T := T_7b w.params 1 (upd x 95 (newF w))) (F := newF w) (l := []) (by decide +kernel) (by kernel_rfl) (by decide) (has_new w) (by simp) (by simp)
  rw [set_7b] at hc
  have g1 : Got w os _ _ := Comes.trans g hc
  generalize hx1 : upd (upd x 95 (newF w)) 95 F = x1 at g1
  have h94 : H94 w (x1 94) := by rw [← hx1]; exact ⟨l', h1, h2, h3⟩
  have h95 : Has w (x1 95) [32] := by rw [← hx1]; exact hF
  have g2 := g1.go (seg_7c w os x1 p1)
  obtain ⟨F2, p2, hF2, hc2⟩ := add_comes (u := 489) (n := 97) (toks := 490) (gens := #[.finished]) (os := os) (p := p1) (st := ST7 w) (c := 9) (lp := loopC 95 96) (a := 95) (T := T_7b w.params 2 x1) (F := x1 95) (l := [32]) (by decide +kernel) (by kernel_rfl) (by decide) h95 (by simp) (by simp)
  rw [set_7b] at hc2
  have g3 : Got w os _ _ := Comes.trans g2 hc2
  refine ⟨upd x1 95 F2, ?_, hF2, g3.go (seg_7e w os _ p2)⟩
  exact h94
theorem got_q8 (w : World) (os : OsState) : ∃ x, H94 w (x 94) ∧ Has w (x 95) [32, 9] ∧ Has w (x 103) [32, 9, 10] ∧ Got w os ⟨T_q8 w.params x, 104, {}, #[.finished], d0, 496, os⟩ (restK (tops 9) ⟨17, 0, 17, 19⟩) := by
  obtain ⟨x, h94, h95, hg⟩ := got_q7 w os
  have g := hg.go (seg_8b w os x)
  obtain ⟨F, p1, hF, hc⟩ := add_comes (u := 493) (n := 101) (toks := 494) (gens := #[.finished]) (os := os) (p := ⟨17, 32, 17, 47⟩) (st := ST8 w) (c := 10) (lp := loopC 99 100) (a := 99) (T := T_8b w.params (upd x 99 (newF w))) (F := newF w) (l := []) (by decide +kernel) (by kernel_rfl) (by decide) (has_new w) (by simp) (by simp)
  rw [set_8b] at hc
  have g1 : Got w os _ _ := Comes.trans g hc
  generalize hx1 : upd (upd x 99 (newF w)) 99 F = x1 at g1
  have h94' : H94 w (x1 94) := by rw [← hx1]; exact h94
  have h95' : Has w (x1 95) [32, 9] := by rw [← hx1]; exact h95
  have h99 : Has w (x1 99) [10] := by rw [← hx1]; exact hF
  have g2 := g1.go (seg_8o w os x1 p1)
  obtain ⟨F', p2, hF', hc2⟩ := or_comes (w := w) (os := os) (T := T_8o w.params (upd x1 103 (newF w))) (N := 104) (toks := 495) (n := 103) (l := 95) (r := 99) (c := 10) (gens := #[.finished]) (Fl := x1 95) (Fr := x1 99) (ll := [32, 9]) (code := (.builtin "frozenset.__or__" ⟨[.ref 95, .ref 99], []⟩ : Code)) (p := ⟨17, 22, 17, 47⟩) (st := ST9 w)
    (by kernel_rfl) (by kernel_rfl) (by kernel_rfl) (by decide) (by decide) (by decide) (by decide) (by decide) (by decide) h95' (.inl rfl) h99 (by decide)
  rw [set_8o] at hc2
  have g3 : Got w os _ _ := Comes.trans g2 hc2
  refine ⟨upd (upd x1 103 (newF w)) 103 F', ?_, ?_, hF', g3.go (seg_8e w os _ p2)⟩
  · exact h94'
  · exact h95'
structure Fine (w : World) (x : Nat → FS) : Prop where
  f94 : H94 w (x 94)
  f95 : Has w (x 95) [32, 9]
  f103 : Has w (x 103) [32, 9, 10]
  f104 : Has w (x 104) hexes
theorem turn_11 {w : World} {os : OsState} {x : Nat → FS} {p : Pos} {i : Nat} (h1 : 1 ≤ i) (h2 : i < 22) : goK treeTable PGm w 10 ⟨T_11b w.params i x, 106, {}, #[.finished], d0, 503 + 2 * i, os⟩ (loopT (loopC 104 105) p (ST10 w)) =
    some (⟨T_11b w.params (i + 1) x, 106, {}, #[.finished], d0, 504 + 2 * i, os⟩, addT 104 (loopC 104 105) (sgn (hexes.getD i 0) (503 + 2 * i)) p (ST10 w)) := by
  have h := seg_11c w os x p
  exact (List.map_inj_left.mp h) i (by rw [List.mem_range'_1]; omega)
theorem hex_next : ∀ i, i < 22 → hexes.take (i + 1) = hexes.take i ++ [hexes.getD i 0] ∧ hexes.getD i 0 ∉ hexes.take i := by decide
theorem got_11 (w : World) (os : OsState) : ∀ i, 1 ≤ i → i ≤ 22 → ∃ x p, H94 w (x 94) ∧ Has w (x 95) [32, 9] ∧ Has w (x 103) [32, 9, 10] ∧ Has w (x 104) (hexes.take i) ∧ Got w os ⟨T_11b w.params i x, 106, {}, #[.finished], d0, 503 + 2 * i, os⟩ (loopT (loopC 104 105) p (ST10 w)) := by
  intro i h1 h2
  induction i with
  | zero => omega
  | succ i ih =>
    rcases Nat.eq_zero_or_pos i with rfl | hi
    · obtain ⟨x, h94, h95, h103, hg⟩ := got_q8 w os
      have g := hg.go (seg_11b w os x)
      obtain ⟨F, p1, hF, hc⟩ := add_comes (u := 503) (n := 106) (toks := 504) (gens := #[.finished]) (os := os) (p := ⟨20, 17, 20, 37⟩) (st := ST10 w) (c := 48) (lp := loopC 104 105) (a := 104) (T := T_11b w.params 1 (upd x 104 (newF w))) (F := newF w) (l := []) (by decide +kernel) (by kernel_rfl) (by decide) (has_new w) (by simp) (by simp)
      rw [set_11b] at hc
      refine ⟨upd (upd x 104 (newF w)) 104 F, p1, ?_, ?_, ?_, hF, Comes.trans g hc⟩
      · exact h94
      · exact h95
      · exact h103
    · obtain ⟨x, p, h94, h95, h103, h104, hg⟩ := ih hi (by omega)
      have g := hg.go (turn_11 hi (by omega))
      obtain ⟨e1, e2⟩ := hex_next i (by omega)
      obtain ⟨F, p1, hF, hc⟩ := add_comes (u := 503 + 2 * i) (n := 106) (toks := 504 + 2 * i) (gens := #[.finished]) (os := os) (p := p) (st := ST10 w) (c := hexes.getD i 0) (lp := loopC 104 105) (a := 104) (T := T_11b w.params (i + 1) x) (F := x 104) (l := hexes.take i) (by decide +kernel) (get_11b _ _ _) (by decide) h104 e2 (by rw [List.length_take]; omega)
      rw [set_11b] at hc
      refine ⟨upd x 104 F, p1, ?_, ?_, ?_, ?_, Comes.trans g ?_⟩
      · exact h94
      · exact h95
      · exact h103
      · rw [e1]; exact hF
      · rw [show 503 + 2 * (i + 1) = 504 + 2 * i + 1 by omega]
        exact hc
/-- the whole top: where it ends, and what its frozensets hold -/
theorem got_fin (w : World) (os : OsState) : ∃ x, Fine w x ∧ Got w os ⟨T_fin w.params x, 255, {}, #[.finished], ⟨0, 0, 0, 0⟩, 837, os⟩ ⟨.pure (.done .next), codeM, ⟨212, 0, 215, 62⟩, BM⟩ := by
  obtain ⟨x, p, h94, h95, h103, h104, hg⟩ := got_11 w os 22 (by decide) (by decide)
  refine ⟨x, ⟨h94, h95, h103, h104⟩, ?_⟩
  have g1 := hg.go (seg_11e w os x p)
  have g2 := g1.go (h_q11a w os x _)
  obtain ⟨n, h15⟩ := h_q15 w os x
  have g3 := g2.go h15
  have g4 := g3.go (h_q20 w os x)
  have g5 := g4.go (h_q28 w os x)
  exact g5.go (h_fin w os x)
end Mine
end
section
open PySem PySem.W PyProof.Rows PySem.Builtin PySem.Builtin.Frozenset
set_option Elab.async false
set_option compiler.extract_closed false
set_option linter.unusedVariables false
set_option linter.unusedSimpArgs false
set_option maxRecDepth 100000
set_option maxHeartbeats 0
namespace Mine
theorem h_out (w : World) (os : OsState) (x : Nat → FS) : goK treeTable PGm w 1 ⟨T_fin w.params x, 255, {}, #[.finished], ⟨0, 0, 0, 0⟩, 837, os⟩ ⟨.pure (.done .next), codeM, ⟨212, 0, 215, 62⟩, BM⟩ = some (⟨T_fin w.params x, 255, {}, #[.finished], ⟨0, 0, 0, 0⟩, 837, os⟩, ⟨.pure (.done (.ret .none)), .builtin "claim.caller" {}, ⟨0, 0, 0, 0⟩, []⟩) := by
  kernel_rfl
theorem sched_real {den : Code → Sem PySem.Fin} {prog : Program} {w : World} : ∀ (n : Nat) (s s' σ : Shared) (t t' tau : Thread), runNI den prog w n s t = .running s' t' → s.forget = σ.forget → t.forget = tau.forget → σ.asleep →
    ∃ σ' tau', schedN den prog w n (.single σ tau) = .running (.single σ' tau') ∧ s'.forget = σ'.forget ∧ t'.forget = tau'.forget
  | 0, s, s', σ, t, t', tau, h, e1, e2, z => by
    cases h
    exact ⟨σ, tau, rfl, e1, e2⟩
  | n + 1, s, s', σ, t, t', tau, h, e1, e2, z => by
    simp only [runNI] at h
    cases hl : t.loud with
    | true =>
      simp only [stepI_loud den prog w hl] at h
      cases h
    | false =>
      simp only [stepI_quiet den prog w hl] at h
      cases hs : stepK den prog w s t with
      | halt o s₂ => simp only [hs] at h; cases h
      | go s₂ t₂ =>
        simp only [hs] at h
        have hcalm : tau.calm = true := by
          rw [← Thread.calm_forget, ← e2, Thread.calm_forget, Thread.calm_eq, hl]
          cases hr : t.refused with
          | false => rfl
          | true =>
            obtain ⟨what, e⟩ := stepK_refused den prog w (s := s) hr
            rw [e] at hs
            cases hs
        have k1 : (step den prog w σ tau).forget = (Step.go s₂ t₂).forget := by
          rw [← stepK_forget, ← stepK_comm, ← e1, ← e2, stepK_comm, hs]
        cases hss : step den prog w σ tau with
        | halt o s₃ => rw [hss] at k1; cases k1
        | go σ₂ tau₂ =>
          rw [hss] at k1
          simp only [Step.forget, Step.go.injEq] at k1
          have e : sstep den prog w (.single σ tau) = .go (.single σ₂ tau₂) := by
            rcases sstep_single den prog w σ tau hcalm z with e | e
            · rw [e, hss]; rfl
            · rw [hss] at e; cases e
          obtain ⟨σ', tau', a, b, c⟩ := sched_real n s₂ s' σ₂ t₂ t' tau₂ h k1.1.symm k1.2.symm (Shared.asleep_of_life (step_life den prog w σ σ₂ tau tau₂ hss) z)
          exact ⟨σ', tau', by simp only [schedN, e]; exact a, b, c⟩
theorem forget_fin {s σ : Shared} (h : s.forget = σ.forget) (hg : s.gens = #[.finished]) : σ = s := by
  obtain ⟨h1, g1, d1, t1, o1⟩ := s
  obtain ⟨h2, g2, d2, t2, o2⟩ := σ
  simp only [Shared.forget, Shared.mk.injEq] at h
  obtain ⟨rfl, hgg, rfl, rfl, rfl⟩ := h
  dsimp only at hg
  subst hg
  have : g2 = #[.finished] := by
    obtain ⟨l⟩ := g2
    have h2 := congrArg Array.toList hgg
    simp only [Array.toList_map, List.map_cons, List.map_nil] at h2
    cases l with
    | nil => cases h2
    | cons g r =>
      cases r with
      | cons a b => simp at h2
      | nil =>
        simp only [List.map_cons, List.map_nil, List.cons.injEq, and_true] at h2
        cases g with
        | finished => rfl
        | fresh c => cases h2
        | running => cases h2
        | suspended k l c p fs cl => cases h2
  rw [this]
/-- the run of the top as the machine's own scheduler makes it -/
theorem top_ran (w : World) (os : OsState) : ∃ x, Fine w x ∧ ∃ n t, schedN (denote table) PGm w n (.single (SharedT.abs ⟨T_0 w.params, 28, {}, #[], ⟨0, 0, 0, 0⟩, 276, os⟩) (topStub PGm)) = .running (.single (SharedT.abs ⟨T_fin w.params x, 255, {}, #[.finished], ⟨0, 0, 0, 0⟩, 837, os⟩) t) ∧ through t = true := by
  obtain ⟨x, hx, hg⟩ := got_fin w os
  obtain ⟨n, hn⟩ := hg.go (h_out w os x)
  refine ⟨x, hx, n, ?_⟩
  obtain ⟨σ, tau, a, b, c⟩ := sched_real n _ _ _ _ _ _ hn rfl rfl ⟨rfl, rfl⟩
  have := forget_fin b rfl
  subst this
  refine ⟨tau, a, ?_⟩
  obtain ⟨cur, code, pos, stack⟩ := tau
  simp only [Thread.forget, Thread.mk.injEq, forgetAll_nil] at c
  obtain ⟨c1, c2, c3, c4⟩ := c
  subst c1
  have : stack = [] := by cases stack with | nil => rfl | cons a b => cases c4
  subst this
  rfl
end Mine
end
section
open PySem PySem.W PyProof.Rows PySem.Builtin
set_option Elab.async false
set_option compiler.extract_closed false
set_option linter.unusedVariables false
set_option maxRecDepth 100000
set_option maxHeartbeats 0
namespace Mine
noncomputable abbrev P0 : Program := PySem.Challenge.pw_ij0172_01
noncomputable def sF (P : Params) (x : Nat → FS) (os : OsState) : Shared := ⟨absHeap (T_fin P x) 255 {}, #[.finished], ⟨0, 0, 0, 0⟩, 837, os⟩
theorem l_ns0 (P : Params) : ((heap0 P).isNs mainGlobals && (#[] : Array GenState).size == 0) = true := by kernel_rfl
theorem l_statics (P : Params) (x : Nat → FS) : (staticsOk (importedModules P0.main.body) (heap0 P) (absHeap (T_fin P x) 255 {}) && namesBound P0 (absHeap (T_fin P x) 255 {}) && laidKept (heap0 P) (absHeap (T_fin P x) 255 {})) = true := by kernel_rfl
theorem l_blt (P : Params) (x : Nat → FS) : (absHeap (T_fin P x) 255 {}).bltView = bltViewBooted := by kernel_rfl
noncomputable def sG (P : Params) (x : Nat → FS) (os : OsState) : Shared := { sF P x os with gens := #[] }
theorem l_seen (P : Params) (x : Nat → FS) (os : OsState) : seen ((recsOf qv).map (·.name)) (ownsOf qv) [] (sG P x os) = expectedOf qv := by kernel_rfl
theorem l_keys (P : Params) (x : Nat → FS) (os : OsState) : ((sF P x os).heap.keysOk (looseW qv loose) ((recsOf qv).map (·.name)) ((litsOf qv).map (·.1)) ((clssOf qv (looseW qv loose)).map (·.name)) && (sF P x os).heap.accountedOkI (importedModules P0.main.body) && (sF P x os).heap.isNs mainGlobals && (sF P x os).heap.isNs builtinsNs) = true := by kernel_rfl
theorem l_tables (P : Params) (x : Nat → FS) (os : OsState) : tablesOk qv (sF P x os).heap = true := by kernel_rfl
theorem l_xt (P : Params) (x : Nat → FS) (os : OsState) : xlAt qv [] (sF P x os) = true := by kernel_rfl
theorem l_gens (P : Params) (x : Nat → FS) (os : OsState) : (!leftWithCleanup (sF P x os).gens) = true := by kernel_rfl
theorem l_tabs (P : Params) (x : Nat → FS) (os : OsState) : tabsOk qv (sF P x os) = true := by kernel_rfl
theorem l_pinD (P : Params) (x : Nat → FS) (os : OsState) : pinSeenD qv (drecsOf qv) (sF P x os) = pinGoodD (drecsOf qv) := by kernel_rfl
theorem l_plainE (P : Params) (x : Nat → FS) (os : OsState) : plainSeenE qv (looseW qv loose) (sF P x os) = plainGoodE qv (looseW qv loose) := by kernel_rfl
theorem l_plainD (P : Params) (x : Nat → FS) (os : OsState) : plainSeenD qv loose (sF P x os) = plainGoodD qv loose := by kernel_rfl
theorem l_wide (P : Params) (x : Nat → FS) (os : OsState) : wideSeen qv (sF P x os) = wideGood qv := by kernel_rfl
theorem l_cls (P : Params) (x : Nat → FS) (os : OsState) : clsSeenW qv loose (sF P x os) = clsGoodW qv loose := by kernel_rfl
end Mine
end
section
open PySem PySem.W PyProof.Rows PySem.Builtin PySem.Builtin.Frozenset
set_option Elab.async false
set_option compiler.extract_closed false
set_option linter.unusedVariables false
set_option linter.unusedSimpArgs false
set_option maxRecDepth 100000
set_option maxHeartbeats 0
namespace Mine
theorem get_fin (P : Params) (x : Nat → FS) : ((absHeap (T_fin P x) 255 {}).get? 94, (absHeap (T_fin P x) 255 {}).get? 95, (absHeap (T_fin P x) 255 {}).get? 103, (absHeap (T_fin P x) 255 {}).get? 104, (absHeap (T_fin P x) 255 {}).get? 175, (absHeap (T_fin P x) 255 {}).nsMap mainGlobals (Str.ofString "law")) = (some (frz (x 94)), some (frz (x 95)), some (frz (x 103)), some (frz (x 104)), some (tabObj #[]), some (.ref 254)) := by kernel_rfl
theorem in_fin (P : Params) (x : Nat → FS) : (hK P).map (fun q => (absHeap (T_fin P x) 255 {}).get? q.1) = (hK P).map (fun q => some q.2) := by kernel_rfl
theorem frozAt_of {w : World} {h : Heap} {a : Addr} {F : FS} {l : List Nat} {S : Str → Bool} {n : Nat} (ho : h.get? a = some (frz F)) (hel : ElemsOf (kd w) F.es.toList) (hp : (F.es.toList.map fun e => keyStr e.2).Perm (l.map one)) (hf : F.t.fits F.es.size = true)
    (hS : ∀ k, S k = true ↔ ∃ c ∈ l, k = one c) (hn : l.length = n) : FrozAt (strKind PG w) h a S n := by
  refine ⟨F.es, F.ep, F.t, ho, hel, fun k => ?_, ?_, hf⟩
  · rw [hS]
    constructor
    · rintro ⟨c, hc, rfl⟩
      obtain ⟨e, he, e2⟩ := List.mem_map.mp (hp.mem_iff.mpr (List.mem_map_of_mem hc))
      obtain ⟨⟨k', hk', _⟩, _⟩ := hel e he
      obtain ⟨t, ht⟩ := is_str.mp hk'
      refine ⟨e, he, is_str.mpr ⟨t, ?_⟩⟩
      rw [ht] at e2 ⊢
      dsimp only [keyStr] at e2
      rw [e2]
    · rintro ⟨e, he, hk⟩
      obtain ⟨t, ht⟩ := is_str.mp hk
      have hm : keyStr e.2 ∈ F.es.toList.map fun e => keyStr e.2 := List.mem_map_of_mem he
      obtain ⟨c, hc, e2⟩ := List.mem_map.mp (hp.mem_iff.mp hm)
      refine ⟨c, hc, ?_⟩
      rw [ht] at e2
      exact e2.symm
  · have := hp.length_eq
    rw [← hn]
    simpa using this
theorem one_of {k : Str} {p : Nat → Bool} {l : List Nat} (h : ∀ c, p c = true ↔ c ∈ l) : ((k.cps.size == 1) && p (k.cps.getD 0 0)) = true ↔ ∃ c ∈ l, k = one c := by
  rw [Bool.and_eq_true, beq_iff_eq, h]
  constructor
  · rintro ⟨h1, h2⟩
    refine ⟨_, h2, ?_⟩
    obtain ⟨⟨cs⟩⟩ := k
    match cs, h1 with
    | [c], _ => rfl
  · rintro ⟨c, hc, rfl⟩
    exact ⟨rfl, hc⟩
theorem mem94 (l' : List Nat) (h : ∀ c, c ∈ l' ↔ c ∈ asc ∧ c ∉ [9, 10]) (c : Nat) : ((c < 32 && c != 9 && c != 10) || c == 127) = true ↔ c ∈ l' := by
  rw [h]
  have k1 : ∀ c, c < 128 → (((c < 32 && c != 9 && c != 10) || c == 127) = true ↔ c ∈ asc ∧ c ∉ [9, 10]) := by decide +kernel
  have k2 : ∀ c ∈ asc, c < 128 := by decide +kernel
  constructor
  · intro hc
    refine (k1 c ?_).mp hc
    rcases (Bool.or_eq_true _ _).mp hc with hc | hc
    · exact Nat.lt_trans (of_decide_eq_true (Bool.and_eq_true_iff.mp (Bool.and_eq_true_iff.mp hc).1).1) (by decide)
    · rw [eq_of_beq hc]; decide
  · intro hc
    exact (k1 c (k2 c hc.1)).mpr hc
theorem mem_hex (c : Nat) : ((48 ≤ c && c ≤ 57) || (97 ≤ c && c ≤ 102) || (65 ≤ c && c ≤ 70)) = true ↔ c ∈ hexes := by
  have k1 : ∀ c, c < 103 → (((48 ≤ c && c ≤ 57) || (97 ≤ c && c ≤ 102) || (65 ≤ c && c ≤ 70)) = true ↔ c ∈ hexes) := by decide +kernel
  have k2 : ∀ c ∈ hexes, c < 103 := by decide +kernel
  constructor
  · intro hc
    refine (k1 c ?_).mp hc
    have e : ∀ {a b : Nat}, (decide (a ≤ c) && decide (c ≤ b)) = true → b < 103 → c < 103 := fun h hb => Nat.lt_of_le_of_lt (of_decide_eq_true (Bool.and_eq_true_iff.mp h).2) hb
    rcases (Bool.or_eq_true _ _).mp hc with hc | hc
    · rcases (Bool.or_eq_true _ _).mp hc with hc | hc
      · exact e hc (by decide)
      · exact e hc (by decide)
    · exact e hc (by decide)
  · intro hc
    exact (k1 c (k2 c hc)).mpr hc
theorem sets_fin (w : World) (x : Nat → FS) (hx : Fine w x) : Sets w (absHeap (T_fin w.params x) 255 {}) := by
  have hg := get_fin w.params x
  simp only [Prod.mk.injEq] at hg
  obtain ⟨g94, g95, g103, g104, _, _⟩ := hg
  obtain ⟨⟨l', d94, m94, n94⟩, h95, h103, h104⟩ := hx
  refine ⟨frozAt_of g94 d94.el d94.perm d94.fits (fun k => ?_) n94, frozAt_of g95 h95.el h95.perm h95.fits (fun k => ?_) rfl, frozAt_of g103 h103.el h103.perm h103.fits (fun k => ?_) rfl, frozAt_of g104 h104.el h104.perm h104.fits (fun k => ?_) rfl⟩
  · exact one_of (p := fun c => (c < 32 && c != 9 && c != 10) || c == 127) (mem94 l' m94)
  · refine one_of (p := fun c => c == 32 || c == 9) (fun c => ?_)
    simp
  · refine one_of (p := fun c => c == 32 || c == 9 || c == 10) (fun c => ?_)
    simp [or_assoc]
  · refine one_of (p := fun c => (48 ≤ c && c ≤ 57) || (97 ≤ c && c ≤ 102) || (65 ≤ c && c ≤ 70)) (fun c => ?_)
    exact mem_hex c
theorem frag_fin (P : Params) (x : Nat → FS) : (hK P).In (absHeap (T_fin P x) 255 {}) := by
  refine Frag.in_of rfl ?_
  rw [List.map_map]
  exact in_fin P x
end Mine
end
section
open PySem PySem.W PyProof.Rows PySem.Builtin
set_option Elab.async false
set_option compiler.extract_closed false
set_option linter.unusedVariables false
set_option linter.unusedSimpArgs false
set_option maxRecDepth 100000
set_option maxHeartbeats 0
namespace Mine
theorem l_old (P : Params) (x : Nat → FS) : (List.range 28).map (fun b => match Nat.beq b mainNs || Nat.beq b cStatics with | true => none | false => (heap0 P).get? b) = (List.range 28).map (fun b => match Nat.beq b mainNs || Nat.beq b cStatics with | true => none | false => (absHeap (T_fin P x) 255 {}).get? b) := by kernel_rfl
theorem l_size (P : Params) : (heap0 P).objs.size = 28 := by kernel_rfl
theorem old_fin (P : Params) (x : Nat → FS) (b : Addr) (o : Obj) (h : (heap0 P).get? b = some o) (h1 : b ≠ mainNs) (h2 : b ≠ cStatics) : (absHeap (T_fin P x) 255 {}).get? b = some o := by
  have hb : b < 28 := by rw [← l_size P]; exact Heap.lt_size h
  have e := List.map_inj_left.mp (l_old P x) b (List.mem_range.mpr hb)
  have hc : (Nat.beq b mainNs || Nat.beq b cStatics) = false := by
    rw [Bool.or_eq_false_iff]
    exact ⟨Bool.eq_false_iff.mpr fun q => h1 (Nat.eq_of_beq_eq_true q), Bool.eq_false_iff.mpr fun q => h2 (Nat.eq_of_beq_eq_true q)⟩
  rw [hc] at e
  exact e.symm.trans h
theorem look_fin (P : Params) (x : Nat → FS) (os : OsState) : openSeen qv loose (importedModules P0.main.body) (fun s => xlAt qv [] s) false (sF P x os) = openGood qv loose :=
  Prod.ext (l_seen P x os) (Prod.ext (l_blt P x) (Prod.ext (Bool.and_eq_true_iff.mpr ⟨Bool.and_eq_true_iff.mpr ⟨Bool.and_eq_true_iff.mpr ⟨l_keys P x os, l_tables P x os⟩, l_xt P x os⟩, l_gens P x os⟩)
    (Prod.ext (l_tabs P x os) (Prod.ext (l_pinD P x os) (Prod.ext (l_plainE P x os) (Prod.ext (l_plainD P x os) (Prod.ext (l_wide P x os) (l_cls P x os))))))))
theorem chains_ok : chainsOk qv = true := by kernel_rfl
theorem behindM (w : World) : (∃ s, AfterRun (opening P0) w s) ∧ ∀ s, AfterRun (opening P0) w s → ∃ s₀, fenceModules? P0 s = some s₀ ∧ s₀.gens = #[] ∧ ∃ x os, Fine w x ∧ TopRan P0 w s₀ (sF w.params x os) ∧ (sF w.params x os).asleep ∧
    (sF w.params x os).heap.isNs mainGlobals = true ∧ Ground qv loose [] (XL qv []) w (sF w.params x os) ((sF w.params x os).heap.nsMap mainGlobals) ((sF w.params x os).heap.nsMap builtinsNs) (sF w.params x os).heap := by
  have h := h_open w
  rw [← table_eq_tree] at h
  obtain ⟨s₀, h2, h3⟩ := Option.map_eq_some_iff.mp h
  obtain ⟨s, h4, h5⟩ := Option.bind_eq_some_iff.mp h2
  have A := AfterImport.of_importEnds h4
  refine ⟨⟨s, A⟩, fun s' hs' => ?_⟩
  obtain rfl : s' = s := AfterImport.unique hs' A
  obtain ⟨h0, g0, d0', t0, os⟩ := s₀
  simp only [Prod.mk.injEq] at h3
  obtain ⟨rfl, rfl, rfl, rfl⟩ := h3
  obtain ⟨x, hx, n, t, hr, ht⟩ := top_ran w os
  have e0 : (SharedT.abs ⟨T_0 w.params, 28, {}, #[], ⟨0, 0, 0, 0⟩, 276, os⟩) = ⟨heap0 w.params, #[], ⟨0, 0, 0, 0⟩, 276, os⟩ := by
    show Shared.mk (absHeap (T_0 w.params) 28 {}) _ _ _ _ = _
    rw [← h_heap0]
  rw [e0] at hr
  have hz : (sF w.params x os).asleep := ⟨rfl, rfl⟩
  obtain ⟨G, k0, k1, k2, k3, k4, k5⟩ := ground_of_open (w := w) (XP := XL qv []) (fun s e => xl_of s e) chains_ok (look_fin w.params x os)
  have hst := l_statics w.params x
  obtain ⟨hs, hlk⟩ := Bool.and_eq_true_iff.mp hst
  obtain ⟨hs, hnb⟩ := Bool.and_eq_true_iff.mp hs
  refine ⟨_, h5, rfl, x, os, hx, ⟨⟨n, t, hr, ht⟩, ?_, rfl, fun b o hb hn => old_fin w.params x b o hb (fun q => hn (.inl q)) (fun q => hn (.inr (.inl q))), k2, statics_of_ok hs, k3, k4, k5, ?_, names_of_bound hnb, laid_of_kept hlk⟩, hz, k1, G⟩
  · show (absHeap (T_fin w.params x) 255 {}).life = (heap0 w.params).life
    rfl
  · intro g hg
    have : g = .finished := by
      have hg' : g ∈ (#[.finished] : Array GenState) := hg
      simpa using hg'
    subst this
    trivial
end Mine
end
section
open PySem PySem.W PyProof.Rows PySem.Builtin
set_option Elab.async false
set_option compiler.extract_closed false
set_option linter.unusedVariables false
set_option linter.unusedSimpArgs false
set_option maxRecDepth 100000
set_option maxHeartbeats 0
namespace Mine
noncomputable abbrev rwM : OpenLaw := PySem.Challenge.rw_ij0172_01
noncomputable abbrev rM : RowW := rwM.row.toRowW
theorem ints_of_has : ∀ (xs : List WData), WShape.hasItems [] xs .int = true → ∃ ns : List Int, xs = ns.map .int := by
  intro xs
  induction xs with
  | nil => intro _; exact ⟨[], rfl⟩
  | cons x xs ih =>
    intro h
    simp only [WShape.hasItems, Bool.and_eq_true] at h
    obtain ⟨h1, h2⟩ := h
    obtain ⟨ns, rfl⟩ := ih h2
    cases x <;> simp [WShape.has, WShape.arms] at h1
    rename_i i
    exact ⟨i :: ns, rfl⟩
theorem args_of {args : List WData} (h : rM.claim.pre args = true) : ∃ ns : List Int, args = [.list (ns.map .int)] ∧ ns.length ≤ 63 := by
  obtain ⟨h1, h2⟩ := pre_splitW h
  have h1 : WShape.hasAll [] args [.list .int] = true := h1
  cases args with
  | nil => simp [WShape.hasAll] at h1
  | cons x xs =>
    simp only [WShape.hasAll, Bool.and_eq_true] at h1
    obtain ⟨hx, hxs⟩ := h1
    cases xs with
    | cons y ys => simp [WShape.hasAll] at hxs
    | nil =>
      cases x <;> simp [WShape.has, WShape.arms] at hx
      rename_i ys
      obtain ⟨ns, rfl⟩ := ints_of_has ys hx
      refine ⟨ns, rfl, ?_⟩
      have h2 : WTm.holds [] (.and (.not (.lt (.lit (.int 63)) (.len (.arg 0)))) (.lit (.bool true))) { args := [.list (ns.map .int)] } = true := h2
      have e : Num.less? (.int 63) (.int (ns.length : Int)) = some (decide ((63 : Int) < (ns.length : Int))) := by
        simp [Num.less?]
      simp [WTm.holds, WTm.value, less?] at h2
      rw [e] at h2
      by_cases hh : ns.length ≤ 63
      · exact hh
      · have : ((63 : Int) < (ns.length : Int)) := by omega
        simp [this] at h2
theorem prom : rM.promised := ⟨[.list [.int 3, .int 1]], by decide +kernel, by decide +kernel⟩
theorem reads_ints {h : Heap} {cl : Str → Option Addr} : ∀ {vs : List Value} {ns : List Int} {as : List Addr}, ReadsAllW [] cl h vs (ns.map .int) as → IntsAre vs ns := by
  intro vs ns
  induction ns generalizing vs with
  | nil => intro as x; cases x; exact .nil
  | cons n ns ih =>
    intro as x
    cases x with
    | cons a b =>
      cases a
      exact .cons _ _ (ih b)
theorem reads_script {h : Heap} {cl : Str → Option Addr} {vs : List Value} {ns : List Int} {as : List Addr} (x : ReadsAllW [] cl h vs [.list (ns.map .int)] as) : ∃ a items, vs = [.ref a] ∧ h.IsList a items.toArray ∧ IntsAre items ns := by
  cases x with
  | cons y z =>
    cases z
    cases y with
    | list ho hc hd hr =>
      rename_i a o vs n as'
      refine ⟨a, vs.toList, rfl, ⟨o, ho, hc, n, ?_⟩, reads_ints hr⟩
      rw [hd]
/-- from the law's end to the claim's -/
theorem ends_law {w : World} {s₀ s₁ s' : Shared} {args : List WData} {vs : List Value} {as : List Addr} {v : Value} (h175 : s₁.heap.get? 175 = some (tabObj #[])) (hcode : CodeHd s₁.heap 179 175)
    (hrd : ReadsAllW [] (classAt s₀.heap) s₁.heap vs args as) (hold : ∀ a ∈ as, ∃ o, s₁.heap.get? a = some o) (hos₁ : s₁.os = s₀.os) (g : LawEnd { s₁ with gens := #[] } v s') :
    rM.claim.Ends s₀ args vs s₁ (.ok (.ret v)) s' ∧ s'.os = s₀.os ∧ s'.gens = #[] ∧ ∀ b o, s₁.heap.get? b = some o → asItWas s₁.heap s'.heap b o := by
  obtain ⟨rfl, hos, hg, hk, ps, hps⟩ := g
  have hold' : ∀ b o, s₁.heap.get? b = some o → asItWas s₁.heap s'.heap b o := by
    intro b o hb
    by_cases e : b = 175
    · subst e
      rw [h175] at hb
      cases hb
      refine .inr (.inl ⟨?_, rfl, #[], ps, rfl, ?_⟩)
      · obtain ⟨⟨o, vs, e1, e2, e3, e4⟩, _⟩ := hcode.tab h175
        exact ⟨_, o, vs, e1, e2, e3, e4⟩
      · rw [hps, Array.empty_append]
    · exact .inl (hk b o e hb)
  refine ⟨.inl ⟨.bool true, rfl, fun cls => rfl, ⟨.bool true, args, [], as, .bool true, hrd.keepsK fun b o e hc => ?_, ?_, fun _ => ⟨.nil, fun a ha => (nomatch ha), fun a ha => (nomatch ha)⟩, fun _ _ => ident_freeW rfl rfl rfl _ _⟩, (fun i hi' => by cases hi'), (fun b o hb' _ _ => hold' b o hb'), fun i hi' => (nomatch hi')⟩, hos.trans hos₁, hg, hold'⟩
  · by_cases e' : b = 175
    · subst e'
      rw [h175] at e
      cases e
      exact absurd rfl hc
    · exact hk b o e' e
  · show (WShape.has [] (.bool true) .bool && WTm.holds [] (.eq .res (.lit (.bool true))) { args := args, res := some (.bool true), after := args }) = true
    simp [WShape.has, WShape.arms, WTm.holds, WTm.value, same]
end Mine
end
section
open PySem PySem.W PyProof.Rows PySem.Builtin
set_option Elab.async false
set_option compiler.extract_closed false
set_option linter.unusedVariables false
set_option linter.unusedSimpArgs false
set_option maxRecDepth 100000
set_option maxHeartbeats 0
namespace Mine
theorem row_holds (hheld : AllHeld) (said : rwM.row.wellSaid = true) : rwM.row.Holds := by
  have ok : (chainsOk qv && opensWell P0 && (frees rM && rM.within.isEmpty)) = true := by decide +kernel
  obtain ⟨ok, k5⟩ := Bool.and_eq_true_iff.mp ok
  obtain ⟨hch, o1⟩ := Bool.and_eq_true_iff.mp ok
  obtain ⟨k5, k6⟩ := Bool.and_eq_true_iff.mp k5
  have hb : P0.bare := ⟨rfl, rfl, rfl, rfl, rfl, by decide +kernel⟩
  refine ⟨said, prom, ⟨hb, o1, rfl⟩, prom.witness, fun w => ⟨(behindM w).1, fun s' hs' => ?_⟩⟩
  obtain ⟨s₀, hf, hg0, x, os, hx, hT, hz, hg, G0⟩ := (behindM w).2 s' hs'
  have RF : RecFacts rM.records (sF w.params x os).heap := recFacts_nil rfl
  refine ⟨s₀, hf, hg0, sF w.params x os, hT, ?_, RF.1, RF.2.1, ?_⟩
  · intro n hn
    obtain rfl : n = Str.ofString "law" := by
      have hn : n ∈ [Str.ofString "law"] := hn
      simpa using hn
    exact pinned_of_view hg G0 (by rfl) (by rfl) (by rfl)
  · have G : Ground qv loose rM.records (XL qv []) w (sF w.params x os) _ _ (sF w.params x os).heap := RF.ground G0
    refine ClaimW.callFrom_of_specN (c := rM.claim) hz (by simpa using l_gens w.params x os) fun args hpre hlay ord hord => ?_
    obtain ⟨⟨vs, s₁⟩, hlaid⟩ := Option.isSome_iff_exists.mp (layAllW_isSome (P := w.params) (ord := ord) G.has args rM.args (sF w.params x os) (pre_splitW hpre).1)
    have keeps := layAllW_keeps _ _ _ hlaid
    have hal := layAllW_rest _ _ _ hlaid
    obtain ⟨as, hrd, hin, hold⟩ := reads_layAllW hord _ _ _ hlaid hlay s₁.heap (fun _ _ e => e)
    have G₁ := G.keeps XL.keeps keeps
    obtain ⟨ns, rfl, hlen⟩ := args_of hpre
    obtain ⟨sa, items, rfl, hl, hi⟩ := reads_script hrd
    have hgf := get_fin w.params x
    simp only [Prod.mk.injEq] at hgf
    obtain ⟨_, _, _, _, g175, glaw⟩ := hgf
    have hK1 : (hK w.params).In s₁.heap := (frag_fin w.params x).keeps keeps
    have h175 : s₁.heap.get? 175 = some (tabObj #[]) := keeps _ _ g175
    have hS : Sets w s₁.heap := (sets_fin w x hx).keeps keeps
    have hC : CodeHd s₁.heap 179 175 := codeHd_of_K (c := 179) (P := 175) hK1 (by kernel_rfl)
    have h := law_spec hheld w qv (looseW qv loose) _ _ _ trivial { s₁ with gens := #[] } sa items ns hK1 h175 hS G₁.T hl hi hlen
    refine ⟨[.ref sa], s₁, hlaid, ?_⟩
    refine wpAny_bind (wpAny_nsGet G₁.T.g ?_)
    rw [show (sF w.params x os).heap.nsMap mainGlobals rwM.row.name = some (.ref 254) from glaw]
    refine wpAny_bind (wpAny_mono h (fun v s'' g => ?_) (fun _ _ e => e.elim))
    refine wpAny_pure ⟨_, rfl, ?_⟩
    have z := ends_law (w := w) h175 hC hrd hold hal.2.2.1 g
    exact ⟨z.1, z.2.1, z.2.2.1, fun q => ⟨namesKept_of hT hg rwM.row.keeps keeps z.2.2.2, fun y hy => nomatch hy⟩⟩
end Mine
namespace Mine
theorem law_said : PySem.Challenge.rw_ij0172_01.wellSaid = true := by
  unfold OpenLaw.wellSaid
  iterate 18 (refine look_both ?_ (by decide +kernel))
  unfold OpenRow.wellSaid
  iterate 2 (refine look_both ?_ (by decide +kernel))
  unfold OpenRow.partSaid
  iterate 13 (refine look_both ?_ (by decide +kernel))
  unfold looksOpen
  iterate 4 (refine look_both ?_ (by decide +kernel))
  decide +kernel
theorem law_holds (hheld : AllHeld) : PySem.Challenge.rw_ij0172_01.Holds := holds_law law_said fun said => row_holds hheld said
end Mine
end
end
set_option maxRecDepth 100000 in
set_option maxHeartbeats 8000000 in
theorem PySem.Challenge.cw_ij0172_01_holds : PySem.Challenge.rw_ij0172_01.Holds := by
  exact Mine.law_holds Mine.PL.all_held
