import PyProof.Rows.All
import Wide.All
import OpenK.AllK
import Wide.FinOn
import PyProof.FactsAll.str_8
import KE.KFromBytes
import Lean
import PySem.Challenge.RW_kl0186_01
set_option Elab.async false
set_option maxRecDepth 100000
set_option maxHeartbeats 0
namespace Mine
open PySem PySem.W PySem.Calls PyProof.Rows
noncomputable abbrev pw : Program := PySem.Challenge.pw_kl0186_01
noncomputable def p0 : Pos := ⟨0, 0, 0, 0⟩
noncomputable def st (i : Nat) : Stmt := (pw.main.body[i]?).getD (.Pass p0)
noncomputable def sc (i j : Nat) : Stmt := match st i with | .ClassDef _ _ _ b _ _ _ _ _ _ _ => (b[j]?).getD (.Pass p0) | s => s
noncomputable def fArgs : Stmt → Arguments | .FunctionDef _ a _ _ _ _ _ _ _ _ => a | _ => ⟨[], [], none, [], [], none, []⟩
noncomputable def fBody : Stmt → List Stmt | .FunctionDef _ _ b _ _ _ _ _ _ _ => b | _ => []
noncomputable def fScope : Stmt → Scope | .FunctionDef _ _ _ _ _ _ sc _ _ _ => sc | _ => default
noncomputable def h0 (P : Params) : List Obj := [
  ⟨(.type "dict"), none, (.dict #[⟨PyData.keyHash P (Str.ofString "__name__"), .str (Str.ofString "__name__") 1, (.str (Str.ofString "builtins") 160)⟩, ⟨PyData.keyHash P (Str.ofString "__doc__"), .str (Str.ofString "__doc__") 2, (.builtin "builtins.__doc__:str#opaque")⟩, ⟨PyData.keyHash P (Str.ofString "__package__"), .str (Str.ofString "__package__") 3, (.builtin "builtins.__package__:str#opaque")⟩, ⟨PyData.keyHash P (Str.ofString "__loader__"), .str (Str.ofString "__loader__") 4, (.builtin "builtins.__loader__:shared#opaque")⟩, ⟨PyData.keyHash P (Str.ofString "__spec__"), .str (Str.ofString "__spec__") 5, (.builtin "builtins.__spec__#opaque")⟩, ⟨PyData.keyHash P (Str.ofString "__build_class__"), .str (Str.ofString "__build_class__") 6, (.builtin "__build_class__")⟩, ⟨PyData.keyHash P (Str.ofString "__import__"), .str (Str.ofString "__import__") 7, (.builtin "__import__")⟩, ⟨PyData.keyHash P (Str.ofString "abs"), .str (Str.ofString "abs") 8, (.builtin "abs")⟩, ⟨PyData.keyHash P (Str.ofString "all"), .str (Str.ofString "all") 9, (.builtin "all")⟩, ⟨PyData.keyHash P (Str.ofString "any"), .str (Str.ofString "any") 10, (.builtin "any")⟩, ⟨PyData.keyHash P (Str.ofString "ascii"), .str (Str.ofString "ascii") 11, (.builtin "ascii")⟩, ⟨PyData.keyHash P (Str.ofString "bin"), .str (Str.ofString "bin") 12, (.builtin "bin")⟩, ⟨PyData.keyHash P (Str.ofString "breakpoint"), .str (Str.ofString "breakpoint") 13, (.builtin "breakpoint")⟩, ⟨PyData.keyHash P (Str.ofString "callable"), .str (Str.ofString "callable") 14, (.builtin "callable")⟩, ⟨PyData.keyHash P (Str.ofString "chr"), .str (Str.ofString "chr") 15, (.builtin "chr")⟩, ⟨PyData.keyHash P (Str.ofString "compile"), .str (Str.ofString "compile") 16, (.builtin "compile")⟩, ⟨PyData.keyHash P (Str.ofString "delattr"), .str (Str.ofString "delattr") 17, (.builtin "delattr")⟩, ⟨PyData.keyHash P (Str.ofString "dir"), .str (Str.ofString "dir") 18, (.builtin "dir")⟩, ⟨PyData.keyHash P (Str.ofString "divmod"), .str (Str.ofString "divmod") 19, (.builtin "divmod")⟩, ⟨PyData.keyHash P (Str.ofString "eval"), .str (Str.ofString "eval") 20, (.builtin "eval")⟩, ⟨PyData.keyHash P (Str.ofString "exec"), .str (Str.ofString "exec") 21, (.builtin "exec")⟩, ⟨PyData.keyHash P (Str.ofString "format"), .str (Str.ofString "format") 22, (.builtin "format")⟩, ⟨PyData.keyHash P (Str.ofString "getattr"), .str (Str.ofString "getattr") 23, (.builtin "getattr")⟩, ⟨PyData.keyHash P (Str.ofString "globals"), .str (Str.ofString "globals") 24, (.builtin "globals")⟩, ⟨PyData.keyHash P (Str.ofString "hasattr"), .str (Str.ofString "hasattr") 25, (.builtin "hasattr")⟩, ⟨PyData.keyHash P (Str.ofString "hash"), .str (Str.ofString "hash") 26, (.builtin "hash")⟩, ⟨PyData.keyHash P (Str.ofString "hex"), .str (Str.ofString "hex") 27, (.builtin "hex")⟩, ⟨PyData.keyHash P (Str.ofString "id"), .str (Str.ofString "id") 28, (.builtin "id")⟩, ⟨PyData.keyHash P (Str.ofString "input"), .str (Str.ofString "input") 29, (.builtin "input")⟩, ⟨PyData.keyHash P (Str.ofString "isinstance"), .str (Str.ofString "isinstance") 30, (.builtin "isinstance")⟩, ⟨PyData.keyHash P (Str.ofString "issubclass"), .str (Str.ofString "issubclass") 31, (.builtin "issubclass")⟩, ⟨PyData.keyHash P (Str.ofString "iter"), .str (Str.ofString "iter") 32, (.builtin "iter")⟩, ⟨PyData.keyHash P (Str.ofString "aiter"), .str (Str.ofString "aiter") 33, (.builtin "aiter")⟩, ⟨PyData.keyHash P (Str.ofString "len"), .str (Str.ofString "len") 34, (.builtin "len")⟩, ⟨PyData.keyHash P (Str.ofString "locals"), .str (Str.ofString "locals") 35, (.builtin "locals")⟩, ⟨PyData.keyHash P (Str.ofString "max"), .str (Str.ofString "max") 36, (.builtin "max")⟩, ⟨PyData.keyHash P (Str.ofString "min"), .str (Str.ofString "min") 37, (.builtin "min")⟩, ⟨PyData.keyHash P (Str.ofString "next"), .str (Str.ofString "next") 38, (.builtin "next")⟩, ⟨PyData.keyHash P (Str.ofString "anext"), .str (Str.ofString "anext") 39, (.builtin "anext")⟩, ⟨PyData.keyHash P (Str.ofString "oct"), .str (Str.ofString "oct") 40, (.builtin "oct")⟩, ⟨PyData.keyHash P (Str.ofString "ord"), .str (Str.ofString "ord") 41, (.builtin "ord")⟩, ⟨PyData.keyHash P (Str.ofString "pow"), .str (Str.ofString "pow") 42, (.builtin "pow")⟩, ⟨PyData.keyHash P (Str.ofString "print"), .str (Str.ofString "print") 43, (.builtin "print")⟩, ⟨PyData.keyHash P (Str.ofString "repr"), .str (Str.ofString "repr") 44, (.builtin "repr")⟩, ⟨PyData.keyHash P (Str.ofString "round"), .str (Str.ofString "round") 45, (.builtin "round")⟩, ⟨PyData.keyHash P (Str.ofString "setattr"), .str (Str.ofString "setattr") 46, (.builtin "setattr")⟩, ⟨PyData.keyHash P (Str.ofString "sorted"), .str (Str.ofString "sorted") 47, (.builtin "sorted")⟩, ⟨PyData.keyHash P (Str.ofString "sum"), .str (Str.ofString "sum") 48, (.builtin "sum")⟩, ⟨PyData.keyHash P (Str.ofString "vars"), .str (Str.ofString "vars") 49, (.builtin "vars")⟩, ⟨PyData.keyHash P (Str.ofString "None"), .str (Str.ofString "None") 50, .none⟩, ⟨PyData.keyHash P (Str.ofString "Ellipsis"), .str (Str.ofString "Ellipsis") 51, .ellipsis⟩, ⟨PyData.keyHash P (Str.ofString "NotImplemented"), .str (Str.ofString "NotImplemented") 52, .notImplemented⟩, ⟨PyData.keyHash P (Str.ofString "False"), .str (Str.ofString "False") 53, (.bool false)⟩, ⟨PyData.keyHash P (Str.ofString "True"), .str (Str.ofString "True") 54, (.bool true)⟩, ⟨PyData.keyHash P (Str.ofString "bool"), .str (Str.ofString "bool") 55, (.type "bool")⟩, ⟨PyData.keyHash P (Str.ofString "memoryview"), .str (Str.ofString "memoryview") 56, (.type "memoryview")⟩, ⟨PyData.keyHash P (Str.ofString "bytearray"), .str (Str.ofString "bytearray") 57, (.type "bytearray")⟩, ⟨PyData.keyHash P (Str.ofString "bytes"), .str (Str.ofString "bytes") 58, (.type "bytes")⟩, ⟨PyData.keyHash P (Str.ofString "classmethod"), .str (Str.ofString "classmethod") 59, (.type "classmethod")⟩, ⟨PyData.keyHash P (Str.ofString "complex"), .str (Str.ofString "complex") 60, (.type "complex")⟩, ⟨PyData.keyHash P (Str.ofString "dict"), .str (Str.ofString "dict") 61, (.type "dict")⟩, ⟨PyData.keyHash P (Str.ofString "enumerate"), .str (Str.ofString "enumerate") 62, (.type "enumerate")⟩, ⟨PyData.keyHash P (Str.ofString "filter"), .str (Str.ofString "filter") 63, (.type "filter")⟩, ⟨PyData.keyHash P (Str.ofString "float"), .str (Str.ofString "float") 64, (.type "float")⟩, ⟨PyData.keyHash P (Str.ofString "frozenset"), .str (Str.ofString "frozenset") 65, (.type "frozenset")⟩, ⟨PyData.keyHash P (Str.ofString "property"), .str (Str.ofString "property") 66, (.type "property")⟩, ⟨PyData.keyHash P (Str.ofString "int"), .str (Str.ofString "int") 67, (.type "int")⟩, ⟨PyData.keyHash P (Str.ofString "list"), .str (Str.ofString "list") 68, (.type "list")⟩, ⟨PyData.keyHash P (Str.ofString "map"), .str (Str.ofString "map") 69, (.type "map")⟩, ⟨PyData.keyHash P (Str.ofString "object"), .str (Str.ofString "object") 70, (.type "object")⟩, ⟨PyData.keyHash P (Str.ofString "range"), .str (Str.ofString "range") 71, (.type "range")⟩, ⟨PyData.keyHash P (Str.ofString "reversed"), .str (Str.ofString "reversed") 72, (.type "reversed")⟩, ⟨PyData.keyHash P (Str.ofString "set"), .str (Str.ofString "set") 73, (.type "set")⟩, ⟨PyData.keyHash P (Str.ofString "slice"), .str (Str.ofString "slice") 74, (.type "slice")⟩, ⟨PyData.keyHash P (Str.ofString "staticmethod"), .str (Str.ofString "staticmethod") 75, (.type "staticmethod")⟩, ⟨PyData.keyHash P (Str.ofString "str"), .str (Str.ofString "str") 76, (.type "str")⟩, ⟨PyData.keyHash P (Str.ofString "super"), .str (Str.ofString "super") 77, (.type "super")⟩, ⟨PyData.keyHash P (Str.ofString "tuple"), .str (Str.ofString "tuple") 78, (.type "tuple")⟩, ⟨PyData.keyHash P (Str.ofString "type"), .str (Str.ofString "type") 79, (.type "type")⟩, ⟨PyData.keyHash P (Str.ofString "zip"), .str (Str.ofString "zip") 80, (.type "zip")⟩, ⟨PyData.keyHash P (Str.ofString "__debug__"), .str (Str.ofString "__debug__") 81, (.bool true)⟩, ⟨PyData.keyHash P (Str.ofString "BaseException"), .str (Str.ofString "BaseException") 82, (.type "BaseException")⟩, ⟨PyData.keyHash P (Str.ofString "BaseExceptionGroup"), .str (Str.ofString "BaseExceptionGroup") 83, (.type "BaseExceptionGroup")⟩, ⟨PyData.keyHash P (Str.ofString "Exception"), .str (Str.ofString "Exception") 84, (.type "Exception")⟩, ⟨PyData.keyHash P (Str.ofString "GeneratorExit"), .str (Str.ofString "GeneratorExit") 85, (.type "GeneratorExit")⟩, ⟨PyData.keyHash P (Str.ofString "KeyboardInterrupt"), .str (Str.ofString "KeyboardInterrupt") 86, (.type "KeyboardInterrupt")⟩, ⟨PyData.keyHash P (Str.ofString "SystemExit"), .str (Str.ofString "SystemExit") 87, (.type "SystemExit")⟩, ⟨PyData.keyHash P (Str.ofString "ArithmeticError"), .str (Str.ofString "ArithmeticError") 88, (.type "ArithmeticError")⟩, ⟨PyData.keyHash P (Str.ofString "AssertionError"), .str (Str.ofString "AssertionError") 89, (.type "AssertionError")⟩, ⟨PyData.keyHash P (Str.ofString "AttributeError"), .str (Str.ofString "AttributeError") 90, (.type "AttributeError")⟩, ⟨PyData.keyHash P (Str.ofString "BufferError"), .str (Str.ofString "BufferError") 91, (.type "BufferError")⟩, ⟨PyData.keyHash P (Str.ofString "EOFError"), .str (Str.ofString "EOFError") 92, (.type "EOFError")⟩, ⟨PyData.keyHash P (Str.ofString "ImportError"), .str (Str.ofString "ImportError") 93, (.type "ImportError")⟩, ⟨PyData.keyHash P (Str.ofString "LookupError"), .str (Str.ofString "LookupError") 94, (.type "LookupError")⟩, ⟨PyData.keyHash P (Str.ofString "MemoryError"), .str (Str.ofString "MemoryError") 95, (.type "MemoryError")⟩, ⟨PyData.keyHash P (Str.ofString "NameError"), .str (Str.ofString "NameError") 96, (.type "NameError")⟩, ⟨PyData.keyHash P (Str.ofString "OSError"), .str (Str.ofString "OSError") 97, (.type "OSError")⟩, ⟨PyData.keyHash P (Str.ofString "ReferenceError"), .str (Str.ofString "ReferenceError") 98, (.type "ReferenceError")⟩, ⟨PyData.keyHash P (Str.ofString "RuntimeError"), .str (Str.ofString "RuntimeError") 99, (.type "RuntimeError")⟩, ⟨PyData.keyHash P (Str.ofString "StopAsyncIteration"), .str (Str.ofString "StopAsyncIteration") 100, (.type "StopAsyncIteration")⟩, ⟨PyData.keyHash P (Str.ofString "StopIteration"), .str (Str.ofString "StopIteration") 101, (.type "StopIteration")⟩, ⟨PyData.keyHash P (Str.ofString "SyntaxError"), .str (Str.ofString "SyntaxError") 102, (.type "SyntaxError")⟩, ⟨PyData.keyHash P (Str.ofString "SystemError"), .str (Str.ofString "SystemError") 103, (.type "SystemError")⟩, ⟨PyData.keyHash P (Str.ofString "TypeError"), .str (Str.ofString "TypeError") 104, (.type "TypeError")⟩, ⟨PyData.keyHash P (Str.ofString "ValueError"), .str (Str.ofString "ValueError") 105, (.type "ValueError")⟩, ⟨PyData.keyHash P (Str.ofString "Warning"), .str (Str.ofString "Warning") 106, (.type "Warning")⟩, ⟨PyData.keyHash P (Str.ofString "FloatingPointError"), .str (Str.ofString "FloatingPointError") 107, (.type "FloatingPointError")⟩, ⟨PyData.keyHash P (Str.ofString "OverflowError"), .str (Str.ofString "OverflowError") 108, (.type "OverflowError")⟩, ⟨PyData.keyHash P (Str.ofString "ZeroDivisionError"), .str (Str.ofString "ZeroDivisionError") 109, (.type "ZeroDivisionError")⟩, ⟨PyData.keyHash P (Str.ofString "BytesWarning"), .str (Str.ofString "BytesWarning") 110, (.type "BytesWarning")⟩, ⟨PyData.keyHash P (Str.ofString "DeprecationWarning"), .str (Str.ofString "DeprecationWarning") 111, (.type "DeprecationWarning")⟩, ⟨PyData.keyHash P (Str.ofString "EncodingWarning"), .str (Str.ofString "EncodingWarning") 112, (.type "EncodingWarning")⟩, ⟨PyData.keyHash P (Str.ofString "FutureWarning"), .str (Str.ofString "FutureWarning") 113, (.type "FutureWarning")⟩, ⟨PyData.keyHash P (Str.ofString "ImportWarning"), .str (Str.ofString "ImportWarning") 114, (.type "ImportWarning")⟩, ⟨PyData.keyHash P (Str.ofString "PendingDeprecationWarning"), .str (Str.ofString "PendingDeprecationWarning") 115, (.type "PendingDeprecationWarning")⟩, ⟨PyData.keyHash P (Str.ofString "ResourceWarning"), .str (Str.ofString "ResourceWarning") 116, (.type "ResourceWarning")⟩, ⟨PyData.keyHash P (Str.ofString "RuntimeWarning"), .str (Str.ofString "RuntimeWarning") 117, (.type "RuntimeWarning")⟩, ⟨PyData.keyHash P (Str.ofString "SyntaxWarning"), .str (Str.ofString "SyntaxWarning") 118, (.type "SyntaxWarning")⟩, ⟨PyData.keyHash P (Str.ofString "UnicodeWarning"), .str (Str.ofString "UnicodeWarning") 119, (.type "UnicodeWarning")⟩, ⟨PyData.keyHash P (Str.ofString "UserWarning"), .str (Str.ofString "UserWarning") 120, (.type "UserWarning")⟩, ⟨PyData.keyHash P (Str.ofString "BlockingIOError"), .str (Str.ofString "BlockingIOError") 121, (.type "BlockingIOError")⟩, ⟨PyData.keyHash P (Str.ofString "ChildProcessError"), .str (Str.ofString "ChildProcessError") 122, (.type "ChildProcessError")⟩, ⟨PyData.keyHash P (Str.ofString "ConnectionError"), .str (Str.ofString "ConnectionError") 123, (.type "ConnectionError")⟩, ⟨PyData.keyHash P (Str.ofString "FileExistsError"), .str (Str.ofString "FileExistsError") 124, (.type "FileExistsError")⟩, ⟨PyData.keyHash P (Str.ofString "FileNotFoundError"), .str (Str.ofString "FileNotFoundError") 125, (.type "FileNotFoundError")⟩, ⟨PyData.keyHash P (Str.ofString "InterruptedError"), .str (Str.ofString "InterruptedError") 126, (.type "InterruptedError")⟩, ⟨PyData.keyHash P (Str.ofString "IsADirectoryError"), .str (Str.ofString "IsADirectoryError") 127, (.type "IsADirectoryError")⟩, ⟨PyData.keyHash P (Str.ofString "NotADirectoryError"), .str (Str.ofString "NotADirectoryError") 128, (.type "NotADirectoryError")⟩, ⟨PyData.keyHash P (Str.ofString "PermissionError"), .str (Str.ofString "PermissionError") 129, (.type "PermissionError")⟩, ⟨PyData.keyHash P (Str.ofString "ProcessLookupError"), .str (Str.ofString "ProcessLookupError") 130, (.type "ProcessLookupError")⟩, ⟨PyData.keyHash P (Str.ofString "TimeoutError"), .str (Str.ofString "TimeoutError") 131, (.type "TimeoutError")⟩, ⟨PyData.keyHash P (Str.ofString "IndentationError"), .str (Str.ofString "IndentationError") 132, (.type "IndentationError")⟩, ⟨PyData.keyHash P (Str.ofString "_IncompleteInputError"), .str (Str.ofString "_IncompleteInputError") 133, (.type "_IncompleteInputError")⟩, ⟨PyData.keyHash P (Str.ofString "IndexError"), .str (Str.ofString "IndexError") 134, (.type "IndexError")⟩, ⟨PyData.keyHash P (Str.ofString "KeyError"), .str (Str.ofString "KeyError") 135, (.type "KeyError")⟩, ⟨PyData.keyHash P (Str.ofString "ModuleNotFoundError"), .str (Str.ofString "ModuleNotFoundError") 136, (.type "ModuleNotFoundError")⟩, ⟨PyData.keyHash P (Str.ofString "NotImplementedError"), .str (Str.ofString "NotImplementedError") 137, (.type "NotImplementedError")⟩, ⟨PyData.keyHash P (Str.ofString "PythonFinalizationError"), .str (Str.ofString "PythonFinalizationError") 138, (.type "PythonFinalizationError")⟩, ⟨PyData.keyHash P (Str.ofString "RecursionError"), .str (Str.ofString "RecursionError") 139, (.type "RecursionError")⟩, ⟨PyData.keyHash P (Str.ofString "UnboundLocalError"), .str (Str.ofString "UnboundLocalError") 140, (.type "UnboundLocalError")⟩, ⟨PyData.keyHash P (Str.ofString "UnicodeError"), .str (Str.ofString "UnicodeError") 141, (.type "UnicodeError")⟩, ⟨PyData.keyHash P (Str.ofString "BrokenPipeError"), .str (Str.ofString "BrokenPipeError") 142, (.type "BrokenPipeError")⟩, ⟨PyData.keyHash P (Str.ofString "ConnectionAbortedError"), .str (Str.ofString "ConnectionAbortedError") 143, (.type "ConnectionAbortedError")⟩, ⟨PyData.keyHash P (Str.ofString "ConnectionRefusedError"), .str (Str.ofString "ConnectionRefusedError") 144, (.type "ConnectionRefusedError")⟩, ⟨PyData.keyHash P (Str.ofString "ConnectionResetError"), .str (Str.ofString "ConnectionResetError") 145, (.type "ConnectionResetError")⟩, ⟨PyData.keyHash P (Str.ofString "TabError"), .str (Str.ofString "TabError") 146, (.type "TabError")⟩, ⟨PyData.keyHash P (Str.ofString "UnicodeDecodeError"), .str (Str.ofString "UnicodeDecodeError") 147, (.type "UnicodeDecodeError")⟩, ⟨PyData.keyHash P (Str.ofString "UnicodeEncodeError"), .str (Str.ofString "UnicodeEncodeError") 148, (.type "UnicodeEncodeError")⟩, ⟨PyData.keyHash P (Str.ofString "UnicodeTranslateError"), .str (Str.ofString "UnicodeTranslateError") 149, (.type "UnicodeTranslateError")⟩, ⟨PyData.keyHash P (Str.ofString "ExceptionGroup"), .str (Str.ofString "ExceptionGroup") 150, (.type "ExceptionGroup")⟩, ⟨PyData.keyHash P (Str.ofString "EnvironmentError"), .str (Str.ofString "EnvironmentError") 151, (.type "OSError")⟩, ⟨PyData.keyHash P (Str.ofString "IOError"), .str (Str.ofString "IOError") 152, (.type "OSError")⟩, ⟨PyData.keyHash P (Str.ofString "open"), .str (Str.ofString "open") 153, (.builtin "open")⟩, ⟨PyData.keyHash P (Str.ofString "quit"), .str (Str.ofString "quit") 154, (.builtin "builtins.quit#opaque")⟩, ⟨PyData.keyHash P (Str.ofString "exit"), .str (Str.ofString "exit") 155, (.builtin "builtins.exit#opaque")⟩, ⟨PyData.keyHash P (Str.ofString "copyright"), .str (Str.ofString "copyright") 156, (.builtin "builtins.copyright#opaque")⟩, ⟨PyData.keyHash P (Str.ofString "credits"), .str (Str.ofString "credits") 157, (.builtin "builtins.credits#opaque")⟩, ⟨PyData.keyHash P (Str.ofString "license"), .str (Str.ofString "license") 158, (.builtin "builtins.license#opaque")⟩, ⟨PyData.keyHash P (Str.ofString "help"), .str (Str.ofString "help") 159, (.builtin "builtins.help#opaque")⟩] 159), #[]⟩,
  ⟨(.type "dict"), none, (.dict #[⟨PyData.keyHash P (Str.ofString "builtins"), .str (Str.ofString "builtins") 162, (.ref 4)⟩, ⟨PyData.keyHash P (Str.ofString "__main__"), .str (Str.ofString "__main__") 163, (.ref 5)⟩, ⟨PyData.keyHash P (Str.ofString "_collections"), .str (Str.ofString "_collections") 246, (.ref 13)⟩] 3), #[]⟩,
  ⟨.none, none, (.dict #[⟨PyData.keyHash P (Str.ofString "\x69mport.loaded._collections"), .str (Str.ofString "\x69mport.loaded._collections") 185, (.bool true)⟩, ⟨PyData.keyHash P (Str.ofString "class._frozen_importlib.BuiltinImporter"), .str (Str.ofString "class._frozen_importlib.BuiltinImporter") 187, (.ref 15)⟩, ⟨PyData.keyHash P (Str.ofString "watched.\x69mport"), .str (Str.ofString "watched.\x69mport") 208, (.ref 19)⟩, ⟨PyData.keyHash P (Str.ofString "class._frozen_importlib.ModuleSpec"), .str (Str.ofString "class._frozen_importlib.ModuleSpec") 218, (.ref 23)⟩, ⟨PyData.keyHash P (Str.ofString "sys.modules.booked-epoch"), .str (Str.ofString "sys.modules.booked-epoch") 247, (.int 3 0)⟩, ⟨PyData.keyHash P (Str.ofString "sys.modules.landed._collections"), .str (Str.ofString "sys.modules.landed._collections") 248, (.bool true)⟩, ⟨PyData.keyHash P (Str.ofString "\x69mport.later-laid._collections"), .str (Str.ofString "\x69mport.later-laid._collections") 263, (.bool true)⟩, ⟨PyData.keyHash P (Str.ofString "watched.library"), .str (Str.ofString "watched.library") 265, (.ref 28)⟩, ⟨PyData.keyHash P (Str.ofString "watched.library-objects"), .str (Str.ofString "watched.library-objects") 0, (.str (Str.ofString "\x0d") 0)⟩, ⟨PyData.keyHash P (Str.ofString "watched.library-deep._collections"), .str (Str.ofString "watched.library-deep._collections") 266, (.str (Str.ofString "\x04\x00\x00\x0c\x04\x00\x00\x0c\x04\x00\x00\x03\x04\x00\x00\x0c\x08\x04dict\x02") 0)⟩] 10), #[]⟩,
  ⟨(.type "dict"), none, (.dict #[⟨PyData.keyHash P (Str.ofString "__name__"), .str (Str.ofString "__name__") 165, (.str (Str.ofString "__main__") 164)⟩, ⟨PyData.keyHash P (Str.ofString "__doc__"), .str (Str.ofString "__doc__") 166, .none⟩, ⟨PyData.keyHash P (Str.ofString "__package__"), .str (Str.ofString "__package__") 167, .none⟩, ⟨PyData.keyHash P (Str.ofString "__loader__"), .str (Str.ofString "__loader__") 168, (.builtin "__main__.__loader__#opaque")⟩, ⟨PyData.keyHash P (Str.ofString "__spec__"), .str (Str.ofString "__spec__") 169, .none⟩, ⟨PyData.keyHash P (Str.ofString "__annotations__"), .str (Str.ofString "__annotations__") 170, (.ref 6)⟩, ⟨PyData.keyHash P (Str.ofString "__builtins__"), .str (Str.ofString "__builtins__") 171, (.ref 4)⟩, ⟨PyData.keyHash P (Str.ofString "__file__"), .str (Str.ofString "__file__") 173, (.str (Str.ofString "/claim/cut.py") 172)⟩, ⟨PyData.keyHash P (Str.ofString "__cached__"), .str (Str.ofString "__cached__") 174, .none⟩, ⟨PyData.keyHash P (Str.ofString "deque"), .str (Str.ofString "deque") 272, (.type "collections.deque")⟩] 10), #[]⟩,
  ⟨(.type "module"), (some 0), .plain, #[]⟩,
  ⟨(.type "module"), (some 3), .plain, #[]⟩,
  ⟨(.type "dict"), none, (.dict #[] 0), #[]⟩,
  ⟨(.type "tuple"), none, (.seq #[] 0), #[]⟩,
  ⟨.none, none, (.fields #[]), #[]⟩,
  ⟨(.type "code"), none, (.fields #[(.str (Str.ofString "<module>") 176), (.str (Str.ofString "<module>") 177), (.str (Str.ofString "/claim/cut.py") 178), (.int 1 0), (.int 0 0), (.int 0 0), (.int 0 0), (.int 0 0), (.ref 7), (.bool false), (.int 175 0), (.ref 8), .none, .none, .none, .none, (.int 179 0), (.int 1 0), (.str (Str.ofString "/claim/cut.py") 180)]), #[]⟩,
  ⟨(.type "frame"), none, .plain, #[(some (.ref 9)), (some (.ref 3)), (some (.ref 3)), none, (some (.str (Str.ofString "__main__") 164)), none, (some (.ref 0))]⟩,
  ⟨(.type "tuple"), none, (.seq #[(.str (Str.ofString "deque") 182)] 0), #[]⟩,
  ⟨(.type "dict"), none, (.dict #[⟨PyData.keyHash P (Str.ofString "__name__"), .str (Str.ofString "__name__") 250, (.str (Str.ofString "_collections") 249)⟩, ⟨PyData.keyHash P (Str.ofString "__doc__"), .str (Str.ofString "__doc__") 251, (.builtin "off-the-table:_collections.__doc__:shared#opaque")⟩, ⟨PyData.keyHash P (Str.ofString "__package__"), .str (Str.ofString "__package__") 253, (.str (Str.ofString "") 252)⟩, ⟨PyData.keyHash P (Str.ofString "__loader__"), .str (Str.ofString "__loader__") 254, (.builtin "off-the-table:_collections.__loader__:shared#opaque")⟩, ⟨PyData.keyHash P (Str.ofString "__spec__"), .str (Str.ofString "__spec__") 255, (.builtin "off-the-table:_collections.__spec__:shared#opaque")⟩, ⟨PyData.keyHash P (Str.ofString "_count_elements"), .str (Str.ofString "_count_elements") 256, (.builtin "_collections._count_elements")⟩, ⟨PyData.keyHash P (Str.ofString "deque"), .str (Str.ofString "deque") 257, (.type "collections.deque")⟩, ⟨PyData.keyHash P (Str.ofString "defaultdict"), .str (Str.ofString "defaultdict") 258, (.type "collections.defaultdict")⟩, ⟨PyData.keyHash P (Str.ofString "_deque_iterator"), .str (Str.ofString "_deque_iterator") 259, (.builtin "off-the-table:_collections._deque_iterator:shared#opaque")⟩, ⟨PyData.keyHash P (Str.ofString "_deque_reverse_iterator"), .str (Str.ofString "_deque_reverse_iterator") 260, (.builtin "off-the-table:_collections._deque_reverse_iterator:shared#opaque")⟩, ⟨PyData.keyHash P (Str.ofString "_tuplegetter"), .str (Str.ofString "_tuplegetter") 261, (.type "collections._tuplegetter")⟩, ⟨PyData.keyHash P (Str.ofString "OrderedDict"), .str (Str.ofString "OrderedDict") 262, (.type "collections.OrderedDict")⟩] 12), #[]⟩,
  ⟨(.type "module"), (some 12), .plain, #[]⟩,
  ⟨(.type "dict"), none, (.dict #[⟨PyData.keyHash P (Str.ofString "__module__"), .str (Str.ofString "__module__") 191, (.str (Str.ofString "_frozen_importlib") 188)⟩, ⟨PyData.keyHash P (Str.ofString "__firstlineno__"), .str (Str.ofString "__firstlineno__") 192, (.int 971 189)⟩, ⟨PyData.keyHash P (Str.ofString "__doc__"), .str (Str.ofString "__doc__") 193, (.builtin "_frozen_importlib.BuiltinImporter.__doc__:str#opaque")⟩, ⟨PyData.keyHash P (Str.ofString "_ORIGIN"), .str (Str.ofString "_ORIGIN") 194, (.str (Str.ofString "built-in") 190)⟩, ⟨PyData.keyHash P (Str.ofString "find_spec"), .str (Str.ofString "find_spec") 195, (.builtin "_frozen_importlib.BuiltinImporter.find_spec#opaque")⟩, ⟨PyData.keyHash P (Str.ofString "create_module"), .str (Str.ofString "create_module") 196, (.builtin "_frozen_importlib.BuiltinImporter.create_module#opaque")⟩, ⟨PyData.keyHash P (Str.ofString "exec_module"), .str (Str.ofString "exec_module") 197, (.builtin "_frozen_importlib.BuiltinImporter.exec_module#opaque")⟩, ⟨PyData.keyHash P (Str.ofString "get_code"), .str (Str.ofString "get_code") 198, (.builtin "_frozen_importlib.BuiltinImporter.get_code#opaque")⟩, ⟨PyData.keyHash P (Str.ofString "get_source"), .str (Str.ofString "get_source") 199, (.builtin "_frozen_importlib.BuiltinImporter.get_source#opaque")⟩, ⟨PyData.keyHash P (Str.ofString "is_package"), .str (Str.ofString "is_package") 200, (.builtin "_frozen_importlib.BuiltinImporter.is_package#opaque")⟩, ⟨PyData.keyHash P (Str.ofString "load_module"), .str (Str.ofString "load_module") 201, (.builtin "_frozen_importlib.BuiltinImporter.load_module#opaque")⟩, ⟨PyData.keyHash P (Str.ofString "__static_attributes__"), .str (Str.ofString "__static_attributes__") 202, (.ref 16)⟩, ⟨PyData.keyHash P (Str.ofString "__dict__"), .str (Str.ofString "__dict__") 204, (.ref 17)⟩, ⟨PyData.keyHash P (Str.ofString "__weakref__"), .str (Str.ofString "__weakref__") 206, (.ref 18)⟩] 14), #[]⟩,
  ⟨(.type "type"), none, (.cls { name := (Str.ofString "BuiltinImporter"), bases := [(.type "object")], mro := [(.ref 15), (.type "object")], ns := 14, qualname := (Str.ofString "BuiltinImporter"), hasDict := true, slotNames := [], subclasses := [], abstract := false, collection := none, hasDel := false }), #[]⟩,
  ⟨(.type "tuple"), none, (.seq #[] 0), #[]⟩,
  ⟨(.type "getset_descriptor"), none, (.fields #[(.str (Str.ofString "__dict__") 203), (.ref 15), (.builtin "function.__dict__"), (.builtin "function.__dict__#set")]), #[]⟩,
  ⟨(.type "getset_descriptor"), none, (.fields #[(.str (Str.ofString "__weakref__") 205), (.ref 15), (.builtin "ExceptionGroup.__weakref__"), .none]), #[]⟩,
  ⟨.none, none, (.seq #[(.int 14 0), (.str (Str.mk #[6, 191, 10, 95, 95, 109, 111, 100, 117, 108, 101, 95, 95, 6, 188, 17, 95, 102, 114, 111, 122, 101, 110, 95, 105, 109, 112, 111, 114, 116, 108, 105, 98, 6, 192, 15, 95, 95, 102, 105, 114, 115, 116, 108, 105, 110, 101, 110, 111, 95, 95, 4, 189, 0, 971, 6, 193, 7, 95, 95, 100, 111, 99, 95, 95, 9, 52, 95, 102, 114, 111, 122, 101, 110, 95, 105, 109, 112, 111, 114, 116, 108, 105, 98, 46, 66, 117, 105, 108, 116, 105, 110, 73, 109, 112, 111, 114, 116, 101, 114, 46, 95, 95, 100, 111, 99, 95, 95, 58, 115, 116, 114, 35, 111, 112, 97, 113, 117, 101, 6, 194, 7, 95, 79, 82, 73, 71, 73, 78, 6, 190, 8, 98, 117, 105, 108, 116, 45, 105, 110, 6, 195, 9, 102, 105, 110, 100, 95, 115, 112, 101, 99, 9, 50, 95, 102, 114, 111, 122, 101, 110, 95, 105, 109, 112, 111, 114, 116, 108, 105, 98, 46, 66, 117, 105, 108, 116, 105, 110, 73, 109, 112, 111, 114, 116, 101, 114, 46, 102, 105, 110, 100, 95, 115, 112, 101, 99, 35, 111, 112, 97, 113, 117, 101, 6, 196, 13, 99, 114, 101, 97, 116, 101, 95, 109, 111, 100, 117, 108, 101, 9, 54, 95, 102, 114, 111, 122, 101, 110, 95, 105, 109, 112, 111, 114, 116, 108, 105, 98, 46, 66, 117, 105, 108, 116, 105, 110, 73, 109, 112, 111, 114, 116, 101, 114, 46, 99, 114, 101, 97, 116, 101, 95, 109, 111, 100, 117, 108, 101, 35, 111, 112, 97, 113, 117, 101, 6, 197, 11, 101, 120, 101, 99, 95, 109, 111, 100, 117, 108, 101, 9, 52, 95, 102, 114, 111, 122, 101, 110, 95, 105, 109, 112, 111, 114, 116, 108, 105, 98, 46, 66, 117, 105, 108, 116, 105, 110, 73, 109, 112, 111, 114, 116, 101, 114, 46, 101, 120, 101, 99, 95, 109, 111, 100, 117, 108, 101, 35, 111, 112, 97, 113, 117, 101, 6, 198, 8, 103, 101, 116, 95, 99, 111, 100, 101, 9, 49, 95, 102, 114, 111, 122, 101, 110, 95, 105, 109, 112, 111, 114, 116, 108, 105, 98, 46, 66, 117, 105, 108, 116, 105, 110, 73, 109, 112, 111, 114, 116, 101, 114, 46, 103, 101, 116, 95, 99, 111, 100, 101, 35, 111, 112, 97, 113, 117, 101, 6, 199, 10, 103, 101, 116, 95, 115, 111, 117, 114, 99, 101, 9, 51, 95, 102, 114, 111, 122, 101, 110, 95, 105, 109, 112, 111, 114, 116, 108, 105, 98, 46, 66, 117, 105, 108, 116, 105, 110, 73, 109, 112, 111, 114, 116, 101, 114, 46, 103, 101, 116, 95, 115, 111, 117, 114, 99, 101, 35, 111, 112, 97, 113, 117, 101, 6, 200, 10, 105, 115, 95, 112, 97, 99, 107, 97, 103, 101, 9, 51, 95, 102, 114, 111, 122, 101, 110, 95, 105, 109, 112, 111, 114, 116, 108, 105, 98, 46, 66, 117, 105, 108, 116, 105, 110, 73, 109, 112, 111, 114, 116, 101, 114, 46, 105, 115, 95, 112, 97, 99, 107, 97, 103, 101, 35, 111, 112, 97, 113, 117, 101, 6, 201, 11, 108, 111, 97, 100, 95, 109, 111, 100, 117, 108, 101, 9, 52, 95, 102, 114, 111, 122, 101, 110, 95, 105, 109, 112, 111, 114, 116, 108, 105, 98, 46, 66, 117, 105, 108, 116, 105, 110, 73, 109, 112, 111, 114, 116, 101, 114, 46, 108, 111, 97, 100, 95, 109, 111, 100, 117, 108, 101, 35, 111, 112, 97, 113, 117, 101, 6, 202, 21, 95, 95, 115, 116, 97, 116, 105, 99, 95, 97, 116, 116, 114, 105, 98, 117, 116, 101, 115, 95, 95, 4, 0, 0, 16, 6, 204, 8, 95, 95, 100, 105, 99, 116, 95, 95, 4, 0, 0, 17, 6, 206, 11, 95, 95, 119, 101, 97, 107, 114, 101, 102, 95, 95, 4, 0, 0, 18]) 0), (.bool true), (.bool true), (.str (Str.ofString "") 207), (.int 22 0), (.str (Str.mk #[6, 229, 10, 95, 95, 109, 111, 100, 117, 108, 101, 95, 95, 6, 219, 17, 95, 102, 114, 111, 122, 101, 110, 95, 105, 109, 112, 111, 114, 116, 108, 105, 98, 6, 230, 15, 95, 95, 102, 105, 114, 115, 116, 108, 105, 110, 101, 110, 111, 95, 95, 4, 220, 0, 562, 6, 231, 7, 95, 95, 100, 111, 99, 95, 95, 9, 47, 95, 102, 114, 111, 122, 101, 110, 95, 105, 109, 112, 111, 114, 116, 108, 105, 98, 46, 77, 111, 100, 117, 108, 101, 83, 112, 101, 99, 46, 95, 95, 100, 111, 99, 95, 95, 58, 115, 116, 114, 35, 111, 112, 97, 113, 117, 101, 6, 232, 8, 95, 95, 105, 110, 105, 116, 95, 95, 9, 44, 95, 102, 114, 111, 122, 101, 110, 95, 105, 109, 112, 111, 114, 116, 108, 105, 98, 46, 77, 111, 100, 117, 108, 101, 83, 112, 101, 99, 46, 95, 95, 105, 110, 105, 116, 95, 95, 35, 111, 112, 97, 113, 117, 101, 6, 233, 8, 95, 95, 114, 101, 112, 114, 95, 95, 9, 44, 95, 102, 114, 111, 122, 101, 110, 95, 105, 109, 112, 111, 114, 116, 108, 105, 98, 46, 77, 111, 100, 117, 108, 101, 83, 112, 101, 99, 46, 95, 95, 114, 101, 112, 114, 95, 95, 35, 111, 112, 97, 113, 117, 101, 6, 234, 6, 95, 95, 101, 113, 95, 95, 9, 42, 95, 102, 114, 111, 122, 101, 110, 95, 105, 109, 112, 111, 114, 116, 108, 105, 98, 46, 77, 111, 100, 117, 108, 101, 83, 112, 101, 99, 46, 95, 95, 101, 113, 95, 95, 35, 111, 112, 97, 113, 117, 101, 6, 235, 6, 99, 97, 99, 104, 101, 100, 9, 42, 95, 102, 114, 111, 122, 101, 110, 95, 105, 109, 112, 111, 114, 116, 108, 105, 98, 46, 77, 111, 100, 117, 108, 101, 83, 112, 101, 99, 46, 99, 97, 99, 104, 101, 100, 35, 111, 112, 97, 113, 117, 101, 6, 236, 6, 112, 97, 114, 101, 110, 116, 9, 42, 95, 102, 114, 111, 122, 101, 110, 95, 105, 109, 112, 111, 114, 116, 108, 105, 98, 46, 77, 111, 100, 117, 108, 101, 83, 112, 101, 99, 46, 112, 97, 114, 101, 110, 116, 35, 111, 112, 97, 113, 117, 101, 6, 237, 12, 104, 97, 115, 95, 108, 111, 99, 97, 116, 105, 111, 110, 9, 48, 95, 102, 114, 111, 122, 101, 110, 95, 105, 109, 112, 111, 114, 116, 108, 105, 98, 46, 77, 111, 100, 117, 108, 101, 83, 112, 101, 99, 46, 104, 97, 115, 95, 108, 111, 99, 97, 116, 105, 111, 110, 35, 111, 112, 97, 113, 117, 101, 6, 238, 21, 95, 95, 115, 116, 97, 116, 105, 99, 95, 97, 116, 116, 114, 105, 98, 117, 116, 101, 115, 95, 95, 4, 0, 0, 24, 6, 240, 8, 95, 95, 100, 105, 99, 116, 95, 95, 4, 0, 0, 25, 6, 242, 11, 95, 95, 119, 101, 97, 107, 114, 101, 102, 95, 95, 4, 0, 0, 26, 6, 243, 8, 95, 95, 104, 97, 115, 104, 95, 95, 0]) 0), (.bool true), (.bool true), (.str (Str.ofString "") 244)] 1), #[]⟩,
  ⟨(.type "list"), none, (.seq #[] 0), #[]⟩,
  ⟨(.type "dict"), none, (.dict #[⟨PyData.keyHash P (Str.ofString "name"), .str (Str.ofString "name") 210, (.str (Str.ofString "_collections") 209)⟩, ⟨PyData.keyHash P (Str.ofString "loader"), .str (Str.ofString "loader") 211, (.ref 15)⟩, ⟨PyData.keyHash P (Str.ofString "origin"), .str (Str.ofString "origin") 212, (.str (Str.ofString "built-in") 186)⟩, ⟨PyData.keyHash P (Str.ofString "loader_state"), .str (Str.ofString "loader_state") 213, .none⟩, ⟨PyData.keyHash P (Str.ofString "submodule_search_locations"), .str (Str.ofString "submodule_search_locations") 214, .none⟩, ⟨PyData.keyHash P (Str.ofString "_uninitialized_submodules"), .str (Str.ofString "_uninitialized_submodules") 215, (.ref 20)⟩, ⟨PyData.keyHash P (Str.ofString "_set_fileattr"), .str (Str.ofString "_set_fileattr") 216, (.bool false)⟩, ⟨PyData.keyHash P (Str.ofString "_cached"), .str (Str.ofString "_cached") 217, .none⟩, ⟨PyData.keyHash P (Str.ofString "_initializing"), .str (Str.ofString "_initializing") 245, (.bool false)⟩] 9), #[]⟩,
  ⟨(.type "dict"), none, (.dict #[⟨PyData.keyHash P (Str.ofString "__module__"), .str (Str.ofString "__module__") 229, (.str (Str.ofString "_frozen_importlib") 219)⟩, ⟨PyData.keyHash P (Str.ofString "__firstlineno__"), .str (Str.ofString "__firstlineno__") 230, (.int 562 220)⟩, ⟨PyData.keyHash P (Str.ofString "__doc__"), .str (Str.ofString "__doc__") 231, (.builtin "_frozen_importlib.ModuleSpec.__doc__:str#opaque")⟩, ⟨PyData.keyHash P (Str.ofString "__init__"), .str (Str.ofString "__init__") 232, (.builtin "_frozen_importlib.ModuleSpec.__init__#opaque")⟩, ⟨PyData.keyHash P (Str.ofString "__repr__"), .str (Str.ofString "__repr__") 233, (.builtin "_frozen_importlib.ModuleSpec.__repr__#opaque")⟩, ⟨PyData.keyHash P (Str.ofString "__eq__"), .str (Str.ofString "__eq__") 234, (.builtin "_frozen_importlib.ModuleSpec.__eq__#opaque")⟩, ⟨PyData.keyHash P (Str.ofString "cached"), .str (Str.ofString "cached") 235, (.builtin "_frozen_importlib.ModuleSpec.cached#opaque")⟩, ⟨PyData.keyHash P (Str.ofString "parent"), .str (Str.ofString "parent") 236, (.builtin "_frozen_importlib.ModuleSpec.parent#opaque")⟩, ⟨PyData.keyHash P (Str.ofString "has_location"), .str (Str.ofString "has_location") 237, (.builtin "_frozen_importlib.ModuleSpec.has_location#opaque")⟩, ⟨PyData.keyHash P (Str.ofString "__static_attributes__"), .str (Str.ofString "__static_attributes__") 238, (.ref 24)⟩, ⟨PyData.keyHash P (Str.ofString "__dict__"), .str (Str.ofString "__dict__") 240, (.ref 25)⟩, ⟨PyData.keyHash P (Str.ofString "__weakref__"), .str (Str.ofString "__weakref__") 242, (.ref 26)⟩, ⟨PyData.keyHash P (Str.ofString "__hash__"), .str (Str.ofString "__hash__") 243, .none⟩] 13), #[]⟩,
  ⟨(.type "type"), none, (.cls { name := (Str.ofString "ModuleSpec"), bases := [(.type "object")], mro := [(.ref 23), (.type "object")], ns := 22, qualname := (Str.ofString "ModuleSpec"), hasDict := true, slotNames := [], subclasses := [], abstract := false, collection := none, hasDel := false }), #[]⟩,
  ⟨(.type "tuple"), none, (.seq #[(.str (Str.ofString "_cached") 221), (.str (Str.ofString "_set_fileattr") 222), (.str (Str.ofString "_uninitialized_submodules") 223), (.str (Str.ofString "loader") 224), (.str (Str.ofString "loader_state") 225), (.str (Str.ofString "name") 226), (.str (Str.ofString "origin") 227), (.str (Str.ofString "submodule_search_locations") 228)] 0), #[]⟩,
  ⟨(.type "getset_descriptor"), none, (.fields #[(.str (Str.ofString "__dict__") 239), (.ref 23), (.builtin "function.__dict__"), (.builtin "function.__dict__#set")]), #[]⟩,
  ⟨(.type "getset_descriptor"), none, (.fields #[(.str (Str.ofString "__weakref__") 241), (.ref 23), (.builtin "ExceptionGroup.__weakref__"), .none]), #[]⟩,
  ⟨(.ref 23), (some 21), .plain, #[]⟩,
  ⟨.none, none, (.seq #[(.int 12 0), (.str (Str.mk #[6, 250, 8, 95, 95, 110, 97, 109, 101, 95, 95, 6, 249, 12, 95, 99, 111, 108, 108, 101, 99, 116, 105, 111, 110, 115, 6, 251, 7, 95, 95, 100, 111, 99, 95, 95, 9, 31, 95, 99, 111, 108, 108, 101, 99, 116, 105, 111, 110, 115, 46, 95, 95, 100, 111, 99, 95, 95, 58, 115, 116, 114, 35, 111, 112, 97, 113, 117, 101, 6, 253, 11, 95, 95, 112, 97, 99, 107, 97, 103, 101, 95, 95, 6, 252, 0, 6, 254, 10, 95, 95, 108, 111, 97, 100, 101, 114, 95, 95, 4, 0, 0, 15, 6, 255, 8, 95, 95, 115, 112, 101, 99, 95, 95, 4, 0, 0, 27, 6, 256, 15, 95, 99, 111, 117, 110, 116, 95, 101, 108, 101, 109, 101, 110, 116, 115, 9, 28, 95, 99, 111, 108, 108, 101, 99, 116, 105, 111, 110, 115, 46, 95, 99, 111, 117, 110, 116, 95, 101, 108, 101, 109, 101, 110, 116, 115, 6, 257, 5, 100, 101, 113, 117, 101, 8, 17, 99, 111, 108, 108, 101, 99, 116, 105, 111, 110, 115, 46, 100, 101, 113, 117, 101, 6, 258, 11, 100, 101, 102, 97, 117, 108, 116, 100, 105, 99, 116, 8, 23, 99, 111, 108, 108, 101, 99, 116, 105, 111, 110, 115, 46, 100, 101, 102, 97, 117, 108, 116, 100, 105, 99, 116, 6, 259, 15, 95, 100, 101, 113, 117, 101, 95, 105, 116, 101, 114, 97, 116, 111, 114, 8, 27, 99, 111, 108, 108, 101, 99, 116, 105, 111, 110, 115, 46, 95, 100, 101, 113, 117, 101, 95, 105, 116, 101, 114, 97, 116, 111, 114, 6, 260, 23, 95, 100, 101, 113, 117, 101, 95, 114, 101, 118, 101, 114, 115, 101, 95, 105, 116, 101, 114, 97, 116, 111, 114, 8, 35, 99, 111, 108, 108, 101, 99, 116, 105, 111, 110, 115, 46, 95, 100, 101, 113, 117, 101, 95, 114, 101, 118, 101, 114, 115, 101, 95, 105, 116, 101, 114, 97, 116, 111, 114, 6, 261, 12, 95, 116, 117, 112, 108, 101, 103, 101, 116, 116, 101, 114, 8, 24, 99, 111, 108, 108, 101, 99, 116, 105, 111, 110, 115, 46, 95, 116, 117, 112, 108, 101, 103, 101, 116, 116, 101, 114, 6, 262, 11, 79, 114, 100, 101, 114, 101, 100, 68, 105, 99, 116, 8, 23, 99, 111, 108, 108, 101, 99, 116, 105, 111, 110, 115, 46, 79, 114, 100, 101, 114, 101, 100, 68, 105, 99, 116]) 0), (.bool true), (.bool false), (.str (Str.ofString "_collections") 264)] 0), #[]⟩]
noncomputable def h1 : List Obj := [
  ⟨(.type "tuple"), none, (.seq #[] 0), #[]⟩,
  ⟨.none, none, (.fields #[]), #[]⟩,
  ⟨(.type "code"), none, (.fields #[(.str (Str.ofString "<module>") 274), (.str (Str.ofString "<module>") 275), (.str (Str.ofString "/claim/cut.py") 276), (.int 1 0), (.int 0 0), (.int 0 0), (.int 0 0), (.int 0 0), (.ref 29), (.bool false), (.int 273 0), (.ref 30), .none, .none, .none, .none, (.int 277 0), (.int 1 0), (.str (Str.ofString "/claim/cut.py") 278)]), #[]⟩,
  ⟨(.type "frame"), none, .plain, #[(some (.ref 31)), (some (.ref 3)), (some (.ref 3)), none, (some (.str (Str.ofString "__main__") 164)), none, (some (.ref 0))]⟩]
noncomputable def bt (l : List Obj) : BT := l.zipIdx.foldl (fun t x => t.ins x.2 x.1) .nil
noncomputable def H0 (P : Params) : Heap := ⟨(h0 P).toArray, {}⟩
noncomputable def q : Program := { pw with main := { pw.main with body := [st 0, st 50] } }
noncomputable def loose : List Str := [Str.ofString "_wall", Str.ofString "_plain_name", Str.ofString "ABCMeta", Str.ofString "_ABCLike", Str.ofString "_abc_plain_meta", Str.ofString "fspath", Str.ofString "_check_arg_types", Str.ofString "check_arg_types_genericpath", Str.ofString "_get_sep", Str.ofString "join", Str.ofString "join_posixpath", Str.ofString "splitroot", Str.ofString "normpath", Str.ofString "_whence", Str.ofString "_index", Str.ofString "UnsupportedOperation", Str.ofString "IOBase", Str.ofString "BufferedIOBase", Str.ofString "TextIOBase", Str.ofString "BytesIO", Str.ofString "StringIO", Str.ofString "_kind", Str.ofString "_fspath", Str.ofString "check_arg_types_path", Str.ofString "isabs", Str.ofString "join_path", Str.ofString "dirname", Str.ofString "shlex", Str.ofString "_law_word", Str.ofString "_law_tree", Str.ofString "_law_spelled", Str.ofString "_law_written", Str.ofString "_law_fold", Str.ofString "_law_lexer", Str.ofString "_law_read", Str.ofString "_law_walk", Str.ofString "_law_due"]
noncomputable def cd : Value := .ref 31
noncomputable def env : Env := { scope := pw.main.scope, locals := mainNs, globals := mainNs, cells := [], code := cd, frame := some 32 }
noncomputable def bd : List Stmt := behindTheImports pw
noncomputable def cE : Code := .body bd env
@[reducible] noncomputable def B10 : {b : Arguments × List Stmt × Scope // (fArgs (st 10), fBody (st 10), fScope (st 10)) = b} := ⟨_, by
  conv =>
    lhs
    congr
    · whnf
    · congr
      · whnf
      · whnf⟩
noncomputable abbrev a10 : Arguments := B10.1.1
noncomputable abbrev b10 : List Stmt := B10.1.2.1
noncomputable abbrev c10 : Scope := B10.1.2.2
@[reducible] noncomputable def B15 : {b : Arguments × List Stmt × Scope // (fArgs (st 15), fBody (st 15), fScope (st 15)) = b} := ⟨_, by
  conv =>
    lhs
    congr
    · whnf
    · congr
      · whnf
      · whnf⟩
noncomputable abbrev a15 : Arguments := B15.1.1
noncomputable abbrev b15 : List Stmt := B15.1.2.1
noncomputable abbrev c15 : Scope := B15.1.2.2
@[reducible] noncomputable def B16 : {b : Arguments × List Stmt × Scope // (fArgs (st 16), fBody (st 16), fScope (st 16)) = b} := ⟨_, by
  conv =>
    lhs
    congr
    · whnf
    · congr
      · whnf
      · whnf⟩
noncomputable abbrev a16 : Arguments := B16.1.1
noncomputable abbrev b16 : List Stmt := B16.1.2.1
noncomputable abbrev c16 : Scope := B16.1.2.2
@[reducible] noncomputable def B18 : {b : Arguments × List Stmt × Scope // (fArgs (st 18), fBody (st 18), fScope (st 18)) = b} := ⟨_, by
  conv =>
    lhs
    congr
    · whnf
    · congr
      · whnf
      · whnf⟩
noncomputable abbrev a18 : Arguments := B18.1.1
noncomputable abbrev b18 : List Stmt := B18.1.2.1
noncomputable abbrev c18 : Scope := B18.1.2.2
@[reducible] noncomputable def B19 : {b : Arguments × List Stmt × Scope // (fArgs (st 19), fBody (st 19), fScope (st 19)) = b} := ⟨_, by
  conv =>
    lhs
    congr
    · whnf
    · congr
      · whnf
      · whnf⟩
noncomputable abbrev a19 : Arguments := B19.1.1
noncomputable abbrev b19 : List Stmt := B19.1.2.1
noncomputable abbrev c19 : Scope := B19.1.2.2
@[reducible] noncomputable def B22 : {b : Arguments × List Stmt × Scope // (fArgs (st 22), fBody (st 22), fScope (st 22)) = b} := ⟨_, by
  conv =>
    lhs
    congr
    · whnf
    · congr
      · whnf
      · whnf⟩
noncomputable abbrev a22 : Arguments := B22.1.1
noncomputable abbrev b22 : List Stmt := B22.1.2.1
noncomputable abbrev c22 : Scope := B22.1.2.2
@[reducible] noncomputable def B24_1 : {b : Arguments × List Stmt × Scope // (fArgs (sc 24 1), fBody (sc 24 1), fScope (sc 24 1)) = b} := ⟨_, by
  conv =>
    lhs
    congr
    · whnf
    · congr
      · whnf
      · whnf⟩
noncomputable abbrev a24_1 : Arguments := B24_1.1.1
noncomputable abbrev b24_1 : List Stmt := B24_1.1.2.1
noncomputable abbrev c24_1 : Scope := B24_1.1.2.2
@[reducible] noncomputable def B28_1 : {b : Arguments × List Stmt × Scope // (fArgs (sc 28 1), fBody (sc 28 1), fScope (sc 28 1)) = b} := ⟨_, by
  conv =>
    lhs
    congr
    · whnf
    · congr
      · whnf
      · whnf⟩
noncomputable abbrev a28_1 : Arguments := B28_1.1.1
noncomputable abbrev b28_1 : List Stmt := B28_1.1.2.1
noncomputable abbrev c28_1 : Scope := B28_1.1.2.2
@[reducible] noncomputable def B28_2 : {b : Arguments × List Stmt × Scope // (fArgs (sc 28 2), fBody (sc 28 2), fScope (sc 28 2)) = b} := ⟨_, by
  conv =>
    lhs
    congr
    · whnf
    · congr
      · whnf
      · whnf⟩
noncomputable abbrev a28_2 : Arguments := B28_2.1.1
noncomputable abbrev b28_2 : List Stmt := B28_2.1.2.1
noncomputable abbrev c28_2 : Scope := B28_2.1.2.2
@[reducible] noncomputable def B28_3 : {b : Arguments × List Stmt × Scope // (fArgs (sc 28 3), fBody (sc 28 3), fScope (sc 28 3)) = b} := ⟨_, by
  conv =>
    lhs
    congr
    · whnf
    · congr
      · whnf
      · whnf⟩
noncomputable abbrev a28_3 : Arguments := B28_3.1.1
noncomputable abbrev b28_3 : List Stmt := B28_3.1.2.1
noncomputable abbrev c28_3 : Scope := B28_3.1.2.2
@[reducible] noncomputable def B28_5 : {b : Arguments × List Stmt × Scope // (fArgs (sc 28 5), fBody (sc 28 5), fScope (sc 28 5)) = b} := ⟨_, by
  conv =>
    lhs
    congr
    · whnf
    · congr
      · whnf
      · whnf⟩
noncomputable abbrev a28_5 : Arguments := B28_5.1.1
noncomputable abbrev b28_5 : List Stmt := B28_5.1.2.1
noncomputable abbrev c28_5 : Scope := B28_5.1.2.2
@[reducible] noncomputable def B28_25 : {b : Arguments × List Stmt × Scope // (fArgs (sc 28 25), fBody (sc 28 25), fScope (sc 28 25)) = b} := ⟨_, by
  conv =>
    lhs
    congr
    · whnf
    · congr
      · whnf
      · whnf⟩
noncomputable abbrev a28_25 : Arguments := B28_25.1.1
noncomputable abbrev b28_25 : List Stmt := B28_25.1.2.1
noncomputable abbrev c28_25 : Scope := B28_25.1.2.2
@[reducible] noncomputable def B28_26 : {b : Arguments × List Stmt × Scope // (fArgs (sc 28 26), fBody (sc 28 26), fScope (sc 28 26)) = b} := ⟨_, by
  conv =>
    lhs
    congr
    · whnf
    · congr
      · whnf
      · whnf⟩
noncomputable abbrev a28_26 : Arguments := B28_26.1.1
noncomputable abbrev b28_26 : List Stmt := B28_26.1.2.1
noncomputable abbrev c28_26 : Scope := B28_26.1.2.2
@[reducible] noncomputable def B39_0 : {b : Arguments × List Stmt × Scope // (fArgs (sc 39 0), fBody (sc 39 0), fScope (sc 39 0)) = b} := ⟨_, by
  conv =>
    lhs
    congr
    · whnf
    · congr
      · whnf
      · whnf⟩
noncomputable abbrev a39_0 : Arguments := B39_0.1.1
noncomputable abbrev b39_0 : List Stmt := B39_0.1.2.1
noncomputable abbrev c39_0 : Scope := B39_0.1.2.2
@[reducible] noncomputable def B39_1 : {b : Arguments × List Stmt × Scope // (fArgs (sc 39 1), fBody (sc 39 1), fScope (sc 39 1)) = b} := ⟨_, by
  conv =>
    lhs
    congr
    · whnf
    · congr
      · whnf
      · whnf⟩
noncomputable abbrev a39_1 : Arguments := B39_1.1.1
noncomputable abbrev b39_1 : List Stmt := B39_1.1.2.1
noncomputable abbrev c39_1 : Scope := B39_1.1.2.2
@[reducible] noncomputable def B39_5 : {b : Arguments × List Stmt × Scope // (fArgs (sc 39 5), fBody (sc 39 5), fScope (sc 39 5)) = b} := ⟨_, by
  conv =>
    lhs
    congr
    · whnf
    · congr
      · whnf
      · whnf⟩
noncomputable abbrev a39_5 : Arguments := B39_5.1.1
noncomputable abbrev b39_5 : List Stmt := B39_5.1.2.1
noncomputable abbrev c39_5 : Scope := B39_5.1.2.2
@[reducible] noncomputable def B39_6 : {b : Arguments × List Stmt × Scope // (fArgs (sc 39 6), fBody (sc 39 6), fScope (sc 39 6)) = b} := ⟨_, by
  conv =>
    lhs
    congr
    · whnf
    · congr
      · whnf
      · whnf⟩
noncomputable abbrev a39_6 : Arguments := B39_6.1.1
noncomputable abbrev b39_6 : List Stmt := B39_6.1.2.1
noncomputable abbrev c39_6 : Scope := B39_6.1.2.2
@[reducible] noncomputable def B41 : {b : Arguments × List Stmt × Scope // (fArgs (st 41), fBody (st 41), fScope (st 41)) = b} := ⟨_, by
  conv =>
    lhs
    congr
    · whnf
    · congr
      · whnf
      · whnf⟩
noncomputable abbrev a41 : Arguments := B41.1.1
noncomputable abbrev b41 : List Stmt := B41.1.2.1
noncomputable abbrev c41 : Scope := B41.1.2.2
@[reducible] noncomputable def B42 : {b : Arguments × List Stmt × Scope // (fArgs (st 42), fBody (st 42), fScope (st 42)) = b} := ⟨_, by
  conv =>
    lhs
    congr
    · whnf
    · congr
      · whnf
      · whnf⟩
noncomputable abbrev a42 : Arguments := B42.1.1
noncomputable abbrev b42 : List Stmt := B42.1.2.1
noncomputable abbrev c42 : Scope := B42.1.2.2
@[reducible] noncomputable def B43 : {b : Arguments × List Stmt × Scope // (fArgs (st 43), fBody (st 43), fScope (st 43)) = b} := ⟨_, by
  conv =>
    lhs
    congr
    · whnf
    · congr
      · whnf
      · whnf⟩
noncomputable abbrev a43 : Arguments := B43.1.1
noncomputable abbrev b43 : List Stmt := B43.1.2.1
noncomputable abbrev c43 : Scope := B43.1.2.2
@[reducible] noncomputable def B44 : {b : Arguments × List Stmt × Scope // (fArgs (st 44), fBody (st 44), fScope (st 44)) = b} := ⟨_, by
  conv =>
    lhs
    congr
    · whnf
    · congr
      · whnf
      · whnf⟩
noncomputable abbrev a44 : Arguments := B44.1.1
noncomputable abbrev b44 : List Stmt := B44.1.2.1
noncomputable abbrev c44 : Scope := B44.1.2.2
@[reducible] noncomputable def B45 : {b : Arguments × List Stmt × Scope // (fArgs (st 45), fBody (st 45), fScope (st 45)) = b} := ⟨_, by
  conv =>
    lhs
    congr
    · whnf
    · congr
      · whnf
      · whnf⟩
noncomputable abbrev a45 : Arguments := B45.1.1
noncomputable abbrev b45 : List Stmt := B45.1.2.1
noncomputable abbrev c45 : Scope := B45.1.2.2
@[reducible] noncomputable def B46 : {b : Arguments × List Stmt × Scope // (fArgs (st 46), fBody (st 46), fScope (st 46)) = b} := ⟨_, by
  conv =>
    lhs
    congr
    · whnf
    · congr
      · whnf
      · whnf⟩
noncomputable abbrev a46 : Arguments := B46.1.1
noncomputable abbrev b46 : List Stmt := B46.1.2.1
noncomputable abbrev c46 : Scope := B46.1.2.2
@[reducible] noncomputable def B47 : {b : Arguments × List Stmt × Scope // (fArgs (st 47), fBody (st 47), fScope (st 47)) = b} := ⟨_, by
  conv =>
    lhs
    congr
    · whnf
    · congr
      · whnf
      · whnf⟩
noncomputable abbrev a47 : Arguments := B47.1.1
noncomputable abbrev b47 : List Stmt := B47.1.2.1
noncomputable abbrev c47 : Scope := B47.1.2.2
@[reducible] noncomputable def B48 : {b : Arguments × List Stmt × Scope // (fArgs (st 48), fBody (st 48), fScope (st 48)) = b} := ⟨_, by
  conv =>
    lhs
    congr
    · whnf
    · congr
      · whnf
      · whnf⟩
noncomputable abbrev a48 : Arguments := B48.1.1
noncomputable abbrev b48 : List Stmt := B48.1.2.1
noncomputable abbrev c48 : Scope := B48.1.2.2
@[reducible] noncomputable def B49 : {b : Arguments × List Stmt × Scope // (fArgs (st 49), fBody (st 49), fScope (st 49)) = b} := ⟨_, by
  conv =>
    lhs
    congr
    · whnf
    · congr
      · whnf
      · whnf⟩
noncomputable abbrev a49 : Arguments := B49.1.1
noncomputable abbrev b49 : List Stmt := B49.1.2.1
noncomputable abbrev c49 : Scope := B49.1.2.2
@[reducible] noncomputable def B50 : {b : Arguments × List Stmt × Scope // (fArgs (st 50), fBody (st 50), fScope (st 50)) = b} := ⟨_, by
  conv =>
    lhs
    congr
    · whnf
    · congr
      · whnf
      · whnf⟩
noncomputable abbrev a50 : Arguments := B50.1.1
noncomputable abbrev b50 : List Stmt := B50.1.2.1
noncomputable abbrev c50 : Scope := B50.1.2.2
noncomputable def K (P : Params) : Frag :=
  (nat_lit 2, ⟨.none, none, (.dict (⟨PyData.keyHash P (Str.ofString "\x69mport.loaded._collections"), .str (Str.ofString "\x69mport.loaded._collections") 185, (.bool true)⟩ :: ⟨PyData.keyHash P (Str.ofString "class._frozen_importlib.BuiltinImporter"), .str (Str.ofString "class._frozen_importlib.BuiltinImporter") 187, (.ref 15)⟩ :: ⟨PyData.keyHash P (Str.ofString "watched.\x69mport"), .str (Str.ofString "watched.\x69mport") 208, (.ref 19)⟩ :: ⟨PyData.keyHash P (Str.ofString "class._frozen_importlib.ModuleSpec"), .str (Str.ofString "class._frozen_importlib.ModuleSpec") 218, (.ref 23)⟩ :: ⟨PyData.keyHash P (Str.ofString "sys.modules.booked-epoch"), .str (Str.ofString "sys.modules.booked-epoch") 247, (.int 3 0)⟩ :: ⟨PyData.keyHash P (Str.ofString "sys.modules.landed._collections"), .str (Str.ofString "sys.modules.landed._collections") 248, (.bool true)⟩ :: ⟨PyData.keyHash P (Str.ofString "\x69mport.later-laid._collections"), .str (Str.ofString "\x69mport.later-laid._collections") 263, (.bool true)⟩ :: ⟨PyData.keyHash P (Str.ofString "watched.library"), .str (Str.ofString "watched.library") 265, (.ref 28)⟩ :: ⟨PyData.keyHash P (Str.ofString "watched.library-objects"), .str (Str.ofString "watched.library-objects") 0, (.str (Str.ofString "\x0d") 0)⟩ :: ⟨PyData.keyHash P (Str.ofString "watched.library-deep._collections"), .str (Str.ofString "watched.library-deep._collections") 266, (.str (Str.ofString "\x04\x00\x00\x0c\x04\x00\x00\x0c\x04\x00\x00\x03\x04\x00\x00\x0c\x08\x04dict\x02") 0)⟩ :: ⟨PyData.keyHash P (Str.ofString "type.__subclasses__.OSError.0"), .str (Str.ofString "type.__subclasses__.OSError.0") 480, (.int 171 0)⟩ :: ⟨PyData.keyHash P (Str.ofString "type.__subclasses__.OSError.n"), .str (Str.ofString "type.__subclasses__.OSError.n") 481, (.int 1 0)⟩ :: []).toArray 12), #[]⟩) ::
  (nat_lit 3, ⟨(.type "dict"), none, (.dict (⟨PyData.keyHash P (Str.ofString "__name__"), .str (Str.ofString "__name__") 165, (.str (Str.ofString "law_kl0186_01") 1302)⟩ :: ⟨PyData.keyHash P (Str.ofString "__doc__"), .str (Str.ofString "__doc__") 166, .none⟩ :: ⟨PyData.keyHash P (Str.ofString "__package__"), .str (Str.ofString "__package__") 167, .none⟩ :: ⟨PyData.keyHash P (Str.ofString "__loader__"), .str (Str.ofString "__loader__") 168, (.builtin "__main__.__loader__#opaque")⟩ :: ⟨PyData.keyHash P (Str.ofString "__spec__"), .str (Str.ofString "__spec__") 169, .none⟩ :: ⟨PyData.keyHash P (Str.ofString "__annotations__"), .str (Str.ofString "__annotations__") 170, (.ref 6)⟩ :: ⟨PyData.keyHash P (Str.ofString "__builtins__"), .str (Str.ofString "__builtins__") 171, (.ref 4)⟩ :: ⟨PyData.keyHash P (Str.ofString "__file__"), .str (Str.ofString "__file__") 173, (.str (Str.ofString "/claim/cut.py") 172)⟩ :: ⟨PyData.keyHash P (Str.ofString "__cached__"), .str (Str.ofString "__cached__") 174, .none⟩ :: ⟨PyData.keyHash P (Str.ofString "deque"), .str (Str.ofString "deque") 272, (.type "collections.deque")⟩ :: ⟨PyData.keyHash P (Str.ofString "_wall"), .str (Str.ofString "_wall") 285, (.ref 39)⟩ :: ⟨PyData.keyHash P (Str.ofString "_plain_name"), .str (Str.ofString "_plain_name") 296, (.ref 46)⟩ :: ⟨PyData.keyHash P (Str.ofString "ABCMeta"), .str (Str.ofString "ABCMeta") 322, (.ref 63)⟩ :: ⟨PyData.keyHash P (Str.ofString "_ABCLike"), .str (Str.ofString "_ABCLike") 365, (.ref 96)⟩ :: ⟨PyData.keyHash P (Str.ofString "_abc_plain_meta"), .str (Str.ofString "_abc_plain_meta") 372, (.ref 105)⟩ :: ⟨PyData.keyHash P (Str.ofString "fspath"), .str (Str.ofString "fspath") 384, (.ref 112)⟩ :: ⟨PyData.keyHash P (Str.ofString "_check_arg_types"), .str (Str.ofString "_check_arg_types") 397, (.ref 718)⟩ :: ⟨PyData.keyHash P (Str.ofString "check_arg_types_genericpath"), .str (Str.ofString "check_arg_types_genericpath") 398, (.ref 119)⟩ :: ⟨PyData.keyHash P (Str.ofString "_get_sep"), .str (Str.ofString "_get_sep") 407, (.ref 126)⟩ :: ⟨PyData.keyHash P (Str.ofString "join"), .str (Str.ofString "join") 418, (.ref 732)⟩ :: ⟨PyData.keyHash P (Str.ofString "join_posixpath"), .str (Str.ofString "join_posixpath") 419, (.ref 133)⟩ :: ⟨PyData.keyHash P (Str.ofString "splitroot"), .str (Str.ofString "splitroot") 428, (.ref 140)⟩ :: ⟨PyData.keyHash P (Str.ofString "normpath"), .str (Str.ofString "normpath") 443, (.ref 147)⟩ :: ⟨PyData.keyHash P (Str.ofString "_whence"), .str (Str.ofString "_whence") 453, (.ref 154)⟩ :: ⟨PyData.keyHash P (Str.ofString "_index"), .str (Str.ofString "_index") 461, (.ref 161)⟩ :: ⟨PyData.keyHash P (Str.ofString "UnsupportedOperation"), .str (Str.ofString "UnsupportedOperation") 483, (.ref 171)⟩ :: ⟨PyData.keyHash P (Str.ofString "IOBase"), .str (Str.ofString "IOBase") 515, (.ref 191)⟩ :: ⟨PyData.keyHash P (Str.ofString "BufferedIOBase"), .str (Str.ofString "BufferedIOBase") 533, (.ref 206)⟩ :: ⟨PyData.keyHash P (Str.ofString "TextIOBase"), .str (Str.ofString "TextIOBase") 551, (.ref 218)⟩ :: ⟨PyData.keyHash P (Str.ofString "BytesIO"), .str (Str.ofString "BytesIO") 813, (.ref 448)⟩ :: ⟨PyData.keyHash P (Str.ofString "StringIO"), .str (Str.ofString "StringIO") 1100, (.ref 695)⟩ :: ⟨PyData.keyHash P (Str.ofString "_kind"), .str (Str.ofString "_kind") 1111, (.ref 704)⟩ :: ⟨PyData.keyHash P (Str.ofString "_fspath"), .str (Str.ofString "_fspath") 1120, (.ref 711)⟩ :: ⟨PyData.keyHash P (Str.ofString "check_arg_types_path"), .str (Str.ofString "check_arg_types_path") 1131, (.ref 718)⟩ :: ⟨PyData.keyHash P (Str.ofString "isabs"), .str (Str.ofString "isabs") 1138, (.ref 725)⟩ :: ⟨PyData.keyHash P (Str.ofString "join_path"), .str (Str.ofString "join_path") 1150, (.ref 732)⟩ :: ⟨PyData.keyHash P (Str.ofString "dirname"), .str (Str.ofString "dirname") 1160, (.ref 739)⟩ :: ⟨PyData.keyHash P (Str.ofString "shlex"), .str (Str.ofString "shlex") 1301, (.ref 830)⟩ :: ⟨PyData.keyHash P (Str.ofString "_law_word"), .str (Str.ofString "_law_word") 1313, (.ref 841)⟩ :: ⟨PyData.keyHash P (Str.ofString "_law_tree"), .str (Str.ofString "_law_tree") 1325, (.ref 848)⟩ :: ⟨PyData.keyHash P (Str.ofString "_law_spelled"), .str (Str.ofString "_law_spelled") 1331, (.ref 853)⟩ :: ⟨PyData.keyHash P (Str.ofString "_law_written"), .str (Str.ofString "_law_written") 1345, (.ref 860)⟩ :: ⟨PyData.keyHash P (Str.ofString "_law_fold"), .str (Str.ofString "_law_fold") 1354, (.ref 867)⟩ :: ⟨PyData.keyHash P (Str.ofString "_law_lexer"), .str (Str.ofString "_law_lexer") 1362, (.ref 874)⟩ :: ⟨PyData.keyHash P (Str.ofString "_law_read"), .str (Str.ofString "_law_read") 1374, (.ref 881)⟩ :: ⟨PyData.keyHash P (Str.ofString "_law_walk"), .str (Str.ofString "_law_walk") 1386, (.ref 888)⟩ :: ⟨PyData.keyHash P (Str.ofString "_law_due"), .str (Str.ofString "_law_due") 1396, (.ref 895)⟩ :: ⟨PyData.keyHash P (Str.ofString "law"), .str (Str.ofString "law") 1408, (.ref 902)⟩ :: []).toArray 48), #[]⟩) ::
  (nat_lit 111, ⟨(.type "code"), none, (.fields ((.str (Str.ofString "fspath") 375) :: (.str (Str.ofString "fspath") 376) :: (.str (Str.ofString "/claim/cut.py") 377) :: (.int 36 0) :: (.int 1 0) :: (.int 0 0) :: (.int 0 0) :: (.int 3 0) :: (.ref 106) :: (.bool true) :: (.int 273 0) :: (.ref 107) :: .none :: (.ref 108) :: (.ref 109) :: (.ref 110) :: (.int 382 0) :: (.int 36 0) :: (.str (Str.ofString "/claim/cut.py") 383) :: []).toArray), #[]⟩) ::
  (nat_lit 112, ⟨(.type "function"), none, (.func { name := (Str.ofString "fspath"), qualname := (Str.ofString "fspath"), params := a10, body := .stmts (b10), scope := c10, globals := 3, closure := [], defaults := .none, kwdefaults := .none, doc := .none, pyModule := (.str (Str.ofString "os") 373), annotations := none, code := (.ref 111), closureTuple := .none, builtins := 0 }), #[]⟩) ::
  (nat_lit 125, ⟨(.type "code"), none, (.fields ((.str (Str.ofString "_get_sep") 401) :: (.str (Str.ofString "_get_sep") 402) :: (.str (Str.ofString "/claim/cut.py") 403) :: (.int 66 0) :: (.int 1 0) :: (.int 0 0) :: (.int 0 0) :: (.int 3 0) :: (.ref 120) :: (.bool true) :: (.int 273 0) :: (.ref 121) :: .none :: (.ref 122) :: (.ref 123) :: (.ref 124) :: (.int 405 0) :: (.int 66 0) :: (.str (Str.ofString "/claim/cut.py") 406) :: []).toArray), #[]⟩) ::
  (nat_lit 126, ⟨(.type "function"), none, (.func { name := (Str.ofString "_get_sep"), qualname := (Str.ofString "_get_sep"), params := a15, body := .stmts (b15), scope := c15, globals := 3, closure := [], defaults := .none, kwdefaults := .none, doc := .none, pyModule := (.str (Str.ofString "cpy313.posixpath") 399), annotations := none, code := (.ref 125), closureTuple := .none, builtins := 0 }), #[]⟩) ::
  (nat_lit 132, ⟨(.type "code"), none, (.fields ((.str (Str.ofString "join") 408) :: (.str (Str.ofString "join") 409) :: (.str (Str.ofString "/claim/cut.py") 410) :: (.int 71 0) :: (.int 1 0) :: (.int 0 0) :: (.int 0 0) :: (.int 7 0) :: (.ref 127) :: (.bool true) :: (.int 273 0) :: (.ref 128) :: .none :: (.ref 129) :: (.ref 130) :: (.ref 131) :: (.int 416 0) :: (.int 71 0) :: (.str (Str.ofString "/claim/cut.py") 417) :: []).toArray), #[]⟩) ::
  (nat_lit 133, ⟨(.type "function"), none, (.func { name := (Str.ofString "join"), qualname := (Str.ofString "join"), params := a16, body := .stmts (b16), scope := c16, globals := 3, closure := [], defaults := .none, kwdefaults := .none, doc := .none, pyModule := (.str (Str.ofString "cpy313.posixpath") 399), annotations := none, code := (.ref 132), closureTuple := .none, builtins := 0 }), #[]⟩) ::
  (nat_lit 139, ⟨(.type "code"), none, (.fields ((.str (Str.ofString "splitroot") 420) :: (.str (Str.ofString "splitroot") 421) :: (.str (Str.ofString "/claim/cut.py") 422) :: (.int 89 0) :: (.int 1 0) :: (.int 0 0) :: (.int 0 0) :: (.int 3 0) :: (.ref 134) :: (.bool true) :: (.int 273 0) :: (.ref 135) :: .none :: (.ref 136) :: (.ref 137) :: (.ref 138) :: (.int 426 0) :: (.int 89 0) :: (.str (Str.ofString "/claim/cut.py") 427) :: []).toArray), #[]⟩) ::
  (nat_lit 140, ⟨(.type "function"), none, (.func { name := (Str.ofString "splitroot"), qualname := (Str.ofString "splitroot"), params := a18, body := .stmts (b18), scope := c18, globals := 3, closure := [], defaults := .none, kwdefaults := .none, doc := .none, pyModule := (.str (Str.ofString "cpy313.posixpath") 399), annotations := none, code := (.ref 139), closureTuple := .none, builtins := 0 }), #[]⟩) ::
  (nat_lit 146, ⟨(.type "code"), none, (.fields ((.str (Str.ofString "normpath") 429) :: (.str (Str.ofString "normpath") 430) :: (.str (Str.ofString "/claim/cut.py") 431) :: (.int 103 0) :: (.int 1 0) :: (.int 0 0) :: (.int 0 0) :: (.int 3 0) :: (.ref 141) :: (.bool true) :: (.int 273 0) :: (.ref 142) :: .none :: (.ref 143) :: (.ref 144) :: (.ref 145) :: (.int 441 0) :: (.int 103 0) :: (.str (Str.ofString "/claim/cut.py") 442) :: []).toArray), #[]⟩) ::
  (nat_lit 147, ⟨(.type "function"), none, (.func { name := (Str.ofString "normpath"), qualname := (Str.ofString "normpath"), params := a19, body := .stmts (b19), scope := c19, globals := 3, closure := [], defaults := .none, kwdefaults := .none, doc := .none, pyModule := (.str (Str.ofString "cpy313.posixpath") 399), annotations := none, code := (.ref 146), closureTuple := .none, builtins := 0 }), #[]⟩) ::
  (nat_lit 160, ⟨(.type "code"), none, (.fields ((.str (Str.ofString "_index") 454) :: (.str (Str.ofString "_index") 455) :: (.str (Str.ofString "/claim/cut.py") 456) :: (.int 134 0) :: (.int 2 0) :: (.int 0 0) :: (.int 0 0) :: (.int 3 0) :: (.ref 155) :: (.bool true) :: (.int 273 0) :: (.ref 156) :: .none :: (.ref 157) :: (.ref 158) :: (.ref 159) :: (.int 459 0) :: (.int 134 0) :: (.str (Str.ofString "/claim/cut.py") 460) :: []).toArray), #[]⟩) ::
  (nat_lit 161, ⟨(.type "function"), none, (.func { name := (Str.ofString "_index"), qualname := (Str.ofString "_index"), params := a22, body := .stmts (b22), scope := c22, globals := 3, closure := [], defaults := .none, kwdefaults := .none, doc := .none, pyModule := (.str (Str.ofString "io") 444), annotations := none, code := (.ref 160), closureTuple := .none, builtins := 0 }), #[]⟩) ::
  (nat_lit 187, ⟨(.type "code"), none, (.fields ((.str (Str.ofString "__new__") 498) :: (.str (Str.ofString "IOBase.__new__") 499) :: (.str (Str.ofString "/claim/cut.py") 500) :: (.int 146 0) :: (.int 1 0) :: (.int 1 0) :: (.int 0 0) :: (.int 15 0) :: (.ref 182) :: (.bool true) :: (.int 273 0) :: (.ref 183) :: .none :: (.ref 184) :: (.ref 185) :: (.ref 186) :: (.int 504 0) :: (.int 146 0) :: (.str (Str.ofString "/claim/cut.py") 505) :: []).toArray), #[]⟩) ::
  (nat_lit 188, ⟨(.type "function"), none, (.func { name := (Str.ofString "__new__"), qualname := (Str.ofString "IOBase.__new__"), params := a24_1, body := .stmts (b24_1), scope := c24_1, globals := 3, closure := [], defaults := .none, kwdefaults := .none, doc := .none, pyModule := (.str (Str.ofString "io") 444), annotations := none, code := (.ref 187), closureTuple := .none, builtins := 0 }), #[]⟩) ::
  (nat_lit 190, ⟨(.type "dict"), none, (.dict (⟨PyData.keyHash P (Str.ofString "__module__"), .str (Str.ofString "__module__") 491, (.str (Str.ofString "io") 496)⟩ :: ⟨PyData.keyHash P (Str.ofString "__firstlineno__"), .str (Str.ofString "__firstlineno__") 495, (.int 143 494)⟩ :: ⟨PyData.keyHash P (Str.ofString "__new__"), .str (Str.ofString "__new__") 506, (.ref 192)⟩ :: ⟨PyData.keyHash P (Str.ofString "__static_attributes__"), .str (Str.ofString "__static_attributes__") 507, (.ref 189)⟩ :: ⟨PyData.keyHash P (Str.ofString "__dict__"), .str (Str.ofString "__dict__") 510, (.ref 193)⟩ :: ⟨PyData.keyHash P (Str.ofString "__weakref__"), .str (Str.ofString "__weakref__") 512, (.ref 194)⟩ :: ⟨PyData.keyHash P (Str.ofString "__doc__"), .str (Str.ofString "__doc__") 513, .none⟩ :: []).toArray 4), #[]⟩) ::
  (nat_lit 191, ⟨(.type "type"), none, (.cls { name := (Str.ofString "IOBase"), bases := [(.type "object")], mro := [(.ref 191), (.type "object")], ns := 190, qualname := (Str.ofString "IOBase"), hasDict := true, slotNames := [], subclasses := [(.ref 206), (.ref 218)], abstract := false, collection := none, hasDel := false }), #[none, none, (some (.str (Str.ofString "IOBase") 484)), (some (.str (Str.ofString "IOBase") 492)), (some .none), (some (.bool true))]⟩) ::
  (nat_lit 192, ⟨(.type "staticmethod"), none, (.fields ((.ref 188) :: []).toArray), #[]⟩) ::
  (nat_lit 217, ⟨(.type "dict"), none, (.dict (⟨PyData.keyHash P (Str.ofString "__module__"), .str (Str.ofString "__module__") 541, (.str (Str.ofString "io") 546)⟩ :: ⟨PyData.keyHash P (Str.ofString "__firstlineno__"), .str (Str.ofString "__firstlineno__") 545, (.int 152 544)⟩ :: ⟨PyData.keyHash P (Str.ofString "__static_attributes__"), .str (Str.ofString "__static_attributes__") 548, (.ref 216)⟩ :: ⟨PyData.keyHash P (Str.ofString "__doc__"), .str (Str.ofString "__doc__") 549, .none⟩ :: []).toArray 2), #[]⟩) ::
  (nat_lit 218, ⟨(.type "type"), none, (.cls { name := (Str.ofString "TextIOBase"), bases := [(.ref 191)], mro := [(.ref 218), (.ref 191), (.type "object")], ns := 217, qualname := (Str.ofString "TextIOBase"), hasDict := true, slotNames := [], subclasses := [(.ref 695)], abstract := false, collection := none, hasDel := false }), #[(some (.ref 209)), none, (some (.str (Str.ofString "TextIOBase") 534)), (some (.str (Str.ofString "TextIOBase") 542)), (some .none), (some (.bool true))]⟩) ::
  (nat_lit 448, ⟨(.type "type"), none, (.cls { name := (Str.ofString "BytesIO"), bases := [(.ref 206)], mro := [(.ref 448), (.ref 206), (.ref 191), (.type "object")], ns := 447, qualname := (Str.ofString "BytesIO"), hasDict := true, slotNames := [], subclasses := [], abstract := false, collection := none, hasDel := false }), #[(some (.ref 221)), none, (some (.str (Str.ofString "BytesIO") 552)), (some (.str (Str.ofString "BytesIO") 560)), (some .none), (some (.bool true))]⟩) ::
  (nat_lit 458, ⟨(.type "tuple"), none, (.seq #[(.str (Str.ofString "") 828), (.str (Str.ofString "\n") 829)] 0), #[]⟩) ::
  (nat_lit 464, ⟨(.type "code"), none, (.fields ((.str (Str.ofString "__init__") 830) :: (.str (Str.ofString "StringIO.__init__") 831) :: (.str (Str.ofString "/claim/cut.py") 832) :: (.int 327 0) :: (.int 3 0) :: (.int 0 0) :: (.int 0 0) :: (.int 3 0) :: (.ref 459) :: (.bool true) :: (.int 273 0) :: (.ref 460) :: .none :: (.ref 461) :: (.ref 462) :: (.ref 463) :: (.int 836 0) :: (.int 327 0) :: (.str (Str.ofString "/claim/cut.py") 837) :: []).toArray), #[]⟩) ::
  (nat_lit 465, ⟨(.type "function"), none, (.func { name := (Str.ofString "__init__"), qualname := (Str.ofString "StringIO.__init__"), params := a28_1, body := .stmts (b28_1), scope := c28_1, globals := 3, closure := [], defaults := (.ref 458), kwdefaults := .none, doc := .none, pyModule := (.str (Str.ofString "io") 444), annotations := none, code := (.ref 464), closureTuple := .none, builtins := 0 }), #[]⟩) ::
  (nat_lit 471, ⟨(.type "code"), none, (.fields ((.str (Str.ofString "__translated") 839) :: (.str (Str.ofString "StringIO.__translated") 840) :: (.str (Str.ofString "/claim/cut.py") 841) :: (.int 340 0) :: (.int 2 0) :: (.int 0 0) :: (.int 0 0) :: (.int 3 0) :: (.ref 466) :: (.bool true) :: (.int 273 0) :: (.ref 467) :: .none :: (.ref 468) :: (.ref 469) :: (.ref 470) :: (.int 845 0) :: (.int 340 0) :: (.str (Str.ofString "/claim/cut.py") 846) :: []).toArray), #[]⟩) ::
  (nat_lit 472, ⟨(.type "function"), none, (.func { name := (Str.ofString "__translated"), qualname := (Str.ofString "StringIO.__translated"), params := a28_2, body := .stmts (b28_2), scope := c28_2, globals := 3, closure := [], defaults := .none, kwdefaults := .none, doc := .none, pyModule := (.str (Str.ofString "io") 444), annotations := none, code := (.ref 471), closureTuple := .none, builtins := 0 }), #[]⟩) ::
  (nat_lit 478, ⟨(.type "code"), none, (.fields ((.str (Str.ofString "__check") 848) :: (.str (Str.ofString "StringIO.__check") 849) :: (.str (Str.ofString "/claim/cut.py") 850) :: (.int 348 0) :: (.int 1 0) :: (.int 0 0) :: (.int 0 0) :: (.int 3 0) :: (.ref 473) :: (.bool true) :: (.int 273 0) :: (.ref 474) :: .none :: (.ref 475) :: (.ref 476) :: (.ref 477) :: (.int 852 0) :: (.int 348 0) :: (.str (Str.ofString "/claim/cut.py") 853) :: []).toArray), #[]⟩) ::
  (nat_lit 479, ⟨(.type "function"), none, (.func { name := (Str.ofString "__check"), qualname := (Str.ofString "StringIO.__check"), params := a28_3, body := .stmts (b28_3), scope := c28_3, globals := 3, closure := [], defaults := .none, kwdefaults := .none, doc := .none, pyModule := (.str (Str.ofString "io") 444), annotations := none, code := (.ref 478), closureTuple := .none, builtins := 0 }), #[]⟩) ::
  (nat_lit 492, ⟨(.type "code"), none, (.fields ((.str (Str.ofString "__line") 862) :: (.str (Str.ofString "StringIO.__line") 863) :: (.str (Str.ofString "/claim/cut.py") 864) :: (.int 356 0) :: (.int 2 0) :: (.int 0 0) :: (.int 0 0) :: (.int 3 0) :: (.ref 487) :: (.bool true) :: (.int 273 0) :: (.ref 488) :: .none :: (.ref 489) :: (.ref 490) :: (.ref 491) :: (.int 874 0) :: (.int 356 0) :: (.str (Str.ofString "/claim/cut.py") 875) :: []).toArray), #[]⟩) ::
  (nat_lit 493, ⟨(.type "function"), none, (.func { name := (Str.ofString "__line"), qualname := (Str.ofString "StringIO.__line"), params := a28_5, body := .stmts (b28_5), scope := c28_5, globals := 3, closure := [], defaults := .none, kwdefaults := .none, doc := .none, pyModule := (.str (Str.ofString "io") 444), annotations := none, code := (.ref 492), closureTuple := .none, builtins := 0 }), #[]⟩) ::
  (nat_lit 634, ⟨(.type "tuple"), none, (.seq #[(.int (-1) 1021)] 0), #[]⟩) ::
  (nat_lit 640, ⟨(.type "code"), none, (.fields ((.str (Str.ofString "read") 1022) :: (.str (Str.ofString "StringIO.read") 1023) :: (.str (Str.ofString "/claim/cut.py") 1024) :: (.int 470 0) :: (.int 2 0) :: (.int 2 0) :: (.int 0 0) :: (.int 3 0) :: (.ref 635) :: (.bool true) :: (.int 273 0) :: (.ref 636) :: .none :: (.ref 637) :: (.ref 638) :: (.ref 639) :: (.int 1029 0) :: (.int 470 0) :: (.str (Str.ofString "/claim/cut.py") 1030) :: []).toArray), #[]⟩) ::
  (nat_lit 641, ⟨(.type "function"), none, (.func { name := (Str.ofString "read"), qualname := (Str.ofString "StringIO.read"), params := a28_25, body := .stmts (b28_25), scope := c28_25, globals := 3, closure := [], defaults := (.ref 634), kwdefaults := .none, doc := .none, pyModule := (.str (Str.ofString "io") 444), annotations := none, code := (.ref 640), closureTuple := .none, builtins := 0 }), #[]⟩) ::
  (nat_lit 642, ⟨(.type "tuple"), none, (.seq #[(.int (-1) 1033)] 0), #[]⟩) ::
  (nat_lit 648, ⟨(.type "code"), none, (.fields ((.str (Str.ofString "readline") 1034) :: (.str (Str.ofString "StringIO.readline") 1035) :: (.str (Str.ofString "/claim/cut.py") 1036) :: (.int 484 0) :: (.int 2 0) :: (.int 2 0) :: (.int 0 0) :: (.int 3 0) :: (.ref 643) :: (.bool true) :: (.int 273 0) :: (.ref 644) :: .none :: (.ref 645) :: (.ref 646) :: (.ref 647) :: (.int 1039 0) :: (.int 484 0) :: (.str (Str.ofString "/claim/cut.py") 1040) :: []).toArray), #[]⟩) ::
  (nat_lit 649, ⟨(.type "function"), none, (.func { name := (Str.ofString "readline"), qualname := (Str.ofString "StringIO.readline"), params := a28_26, body := .stmts (b28_26), scope := c28_26, globals := 3, closure := [], defaults := (.ref 642), kwdefaults := .none, doc := .none, pyModule := (.str (Str.ofString "io") 444), annotations := none, code := (.ref 648), closureTuple := .none, builtins := 0 }), #[]⟩) ::
  (nat_lit 694, ⟨(.type "dict"), none, (.dict (⟨PyData.keyHash P (Str.ofString "__module__"), .str (Str.ofString "__module__") 821, (.str (Str.ofString "_io") 826)⟩ :: ⟨PyData.keyHash P (Str.ofString "__firstlineno__"), .str (Str.ofString "__firstlineno__") 825, (.int 324 824)⟩ :: ⟨PyData.keyHash P (Str.ofString "__init__"), .str (Str.ofString "__init__") 838, (.ref 465)⟩ :: ⟨PyData.keyHash P (Str.ofString "_StringIO__translated"), .str (Str.ofString "_StringIO__translated") 847, (.ref 472)⟩ :: ⟨PyData.keyHash P (Str.ofString "_StringIO__check"), .str (Str.ofString "_StringIO__check") 854, (.ref 479)⟩ :: ⟨PyData.keyHash P (Str.ofString "_StringIO__check_dot"), .str (Str.ofString "_StringIO__check_dot") 861, (.ref 486)⟩ :: ⟨PyData.keyHash P (Str.ofString "_StringIO__line"), .str (Str.ofString "_StringIO__line") 876, (.ref 493)⟩ :: ⟨PyData.keyHash P (Str.ofString "closed"), .str (Str.ofString "closed") 884, (.ref 501)⟩ :: ⟨PyData.keyHash P (Str.ofString "line_buffering"), .str (Str.ofString "line_buffering") 892, (.ref 509)⟩ :: ⟨PyData.keyHash P (Str.ofString "newlines"), .str (Str.ofString "newlines") 900, (.ref 517)⟩ :: ⟨PyData.keyHash P (Str.ofString "encoding"), .str (Str.ofString "encoding") 908, (.ref 525)⟩ :: ⟨PyData.keyHash P (Str.ofString "errors"), .str (Str.ofString "errors") 916, (.ref 533)⟩ :: ⟨PyData.keyHash P (Str.ofString "close"), .str (Str.ofString "close") 923, (.ref 540)⟩ :: ⟨PyData.keyHash P (Str.ofString "__enter__"), .str (Str.ofString "__enter__") 930, (.ref 547)⟩ :: ⟨PyData.keyHash P (Str.ofString "__exit__"), .str (Str.ofString "__exit__") 938, (.ref 554)⟩ :: ⟨PyData.keyHash P (Str.ofString "readable"), .str (Str.ofString "readable") 945, (.ref 561)⟩ :: ⟨PyData.keyHash P (Str.ofString "writable"), .str (Str.ofString "writable") 952, (.ref 568)⟩ :: ⟨PyData.keyHash P (Str.ofString "seekable"), .str (Str.ofString "seekable") 959, (.ref 575)⟩ :: ⟨PyData.keyHash P (Str.ofString "isatty"), .str (Str.ofString "isatty") 966, (.ref 582)⟩ :: ⟨PyData.keyHash P (Str.ofString "flush"), .str (Str.ofString "flush") 973, (.ref 589)⟩ :: ⟨PyData.keyHash P (Str.ofString "fileno"), .str (Str.ofString "fileno") 980, (.ref 596)⟩ :: ⟨PyData.keyHash P (Str.ofString "detach"), .str (Str.ofString "detach") 987, (.ref 603)⟩ :: ⟨PyData.keyHash P (Str.ofString "getvalue"), .str (Str.ofString "getvalue") 994, (.ref 610)⟩ :: ⟨PyData.keyHash P (Str.ofString "tell"), .str (Str.ofString "tell") 1001, (.ref 617)⟩ :: ⟨PyData.keyHash P (Str.ofString "seek"), .str (Str.ofString "seek") 1011, (.ref 625)⟩ :: ⟨PyData.keyHash P (Str.ofString "truncate"), .str (Str.ofString "truncate") 1019, (.ref 633)⟩ :: ⟨PyData.keyHash P (Str.ofString "read"), .str (Str.ofString "read") 1031, (.ref 641)⟩ :: ⟨PyData.keyHash P (Str.ofString "readline"), .str (Str.ofString "readline") 1041, (.ref 649)⟩ :: ⟨PyData.keyHash P (Str.ofString "readlines"), .str (Str.ofString "readlines") 1051, (.ref 657)⟩ :: ⟨PyData.keyHash P (Str.ofString "__iter__"), .str (Str.ofString "__iter__") 1058, (.ref 664)⟩ :: ⟨PyData.keyHash P (Str.ofString "__next__"), .str (Str.ofString "__next__") 1066, (.ref 671)⟩ :: ⟨PyData.keyHash P (Str.ofString "write"), .str (Str.ofString "write") 1078, (.ref 678)⟩ :: ⟨PyData.keyHash P (Str.ofString "writelines"), .str (Str.ofString "writelines") 1086, (.ref 685)⟩ :: ⟨PyData.keyHash P (Str.ofString "__repr__"), .str (Str.ofString "__repr__") 1093, (.ref 692)⟩ :: ⟨PyData.keyHash P (Str.ofString "__static_attributes__"), .str (Str.ofString "__static_attributes__") 1097, (.ref 693)⟩ :: ⟨PyData.keyHash P (Str.ofString "__doc__"), .str (Str.ofString "__doc__") 1098, .none⟩ :: []).toArray 2), #[]⟩) ::
  (nat_lit 695, ⟨(.type "type"), none, (.cls { name := (Str.ofString "StringIO"), bases := [(.ref 218)], mro := [(.ref 695), (.ref 218), (.ref 191), (.type "object")], ns := 694, qualname := (Str.ofString "StringIO"), hasDict := true, slotNames := [], subclasses := [], abstract := false, collection := none, hasDel := false }), #[(some (.ref 451)), none, (some (.str (Str.ofString "StringIO") 814)), (some (.str (Str.ofString "StringIO") 822)), (some .none), (some (.bool true))]⟩) ::
  (nat_lit 747, ⟨(.type "tuple"), none, (.seq #[.none, .none, (.bool false), (.bool false)] 0), #[]⟩) ::
  (nat_lit 753, ⟨(.type "code"), none, (.fields ((.str (Str.ofString "__init__") 1175) :: (.str (Str.ofString "shlex.__init__") 1176) :: (.str (Str.ofString "/claim/cut.py") 1177) :: (.int 597 0) :: (.int 5 0) :: (.int 0 0) :: (.int 0 0) :: (.int 3 0) :: (.ref 748) :: (.bool true) :: (.int 273 0) :: (.ref 749) :: .none :: (.ref 750) :: (.ref 751) :: (.ref 752) :: (.int 1184 0) :: (.int 597 0) :: (.str (Str.ofString "/claim/cut.py") 1185) :: []).toArray), #[]⟩) ::
  (nat_lit 754, ⟨(.type "function"), none, (.func { name := (Str.ofString "__init__"), qualname := (Str.ofString "shlex.__init__"), params := a39_0, body := .stmts (b39_0), scope := c39_0, globals := 3, closure := [], defaults := (.ref 747), kwdefaults := .none, doc := .none, pyModule := (.str (Str.ofString "cpy313.shlex") 1161), annotations := none, code := (.ref 753), closureTuple := .none, builtins := 0 }), #[]⟩) ::
  (nat_lit 760, ⟨(.type "code"), none, (.fields ((.str (Str.ofString "punctuation_chars") 1187) :: (.str (Str.ofString "shlex.punctuation_chars") 1188) :: (.str (Str.ofString "/claim/cut.py") 1189) :: (.int 638 0) :: (.int 1 0) :: (.int 0 0) :: (.int 0 0) :: (.int 3 0) :: (.ref 755) :: (.bool true) :: (.int 273 0) :: (.ref 756) :: .none :: (.ref 757) :: (.ref 758) :: (.ref 759) :: (.int 1191 0) :: (.int 638 0) :: (.str (Str.ofString "/claim/cut.py") 1192) :: []).toArray), #[]⟩) ::
  (nat_lit 761, ⟨(.type "function"), none, (.func { name := (Str.ofString "punctuation_chars"), qualname := (Str.ofString "shlex.punctuation_chars"), params := a39_1, body := .stmts (b39_1), scope := c39_1, globals := 3, closure := [], defaults := .none, kwdefaults := .none, doc := .none, pyModule := (.str (Str.ofString "cpy313.shlex") 1161), annotations := none, code := (.ref 760), closureTuple := .none, builtins := 0 }), #[]⟩) ::
  (nat_lit 762, ⟨(.type "property"), none, (.fields ((.ref 761) :: .none :: .none :: .none :: (.str (Str.ofString "punctuation_chars") 1194) :: (.bool false) :: []).toArray), #[]⟩) ::
  (nat_lit 790, ⟨(.type "code"), none, (.fields ((.str (Str.ofString "get_token") 1219) :: (.str (Str.ofString "shlex.get_token") 1220) :: (.str (Str.ofString "/claim/cut.py") 1221) :: (.int 665 0) :: (.int 1 0) :: (.int 0 0) :: (.int 0 0) :: (.int 3 0) :: (.ref 785) :: (.bool true) :: (.int 273 0) :: (.ref 786) :: .none :: (.ref 787) :: (.ref 788) :: (.ref 789) :: (.int 1228 0) :: (.int 665 0) :: (.str (Str.ofString "/claim/cut.py") 1229) :: []).toArray), #[]⟩) ::
  (nat_lit 791, ⟨(.type "function"), none, (.func { name := (Str.ofString "get_token"), qualname := (Str.ofString "shlex.get_token"), params := a39_5, body := .stmts (b39_5), scope := c39_5, globals := 3, closure := [], defaults := .none, kwdefaults := .none, doc := .none, pyModule := (.str (Str.ofString "cpy313.shlex") 1161), annotations := none, code := (.ref 790), closureTuple := .none, builtins := 0 }), #[]⟩) ::
  (nat_lit 797, ⟨(.type "code"), none, (.fields ((.str (Str.ofString "read_token") 1231) :: (.str (Str.ofString "shlex.read_token") 1232) :: (.str (Str.ofString "/claim/cut.py") 1233) :: (.int 692 0) :: (.int 1 0) :: (.int 0 0) :: (.int 0 0) :: (.int 3 0) :: (.ref 792) :: (.bool true) :: (.int 273 0) :: (.ref 793) :: .none :: (.ref 794) :: (.ref 795) :: (.ref 796) :: (.int 1239 0) :: (.int 692 0) :: (.str (Str.ofString "/claim/cut.py") 1240) :: []).toArray), #[]⟩) ::
  (nat_lit 798, ⟨(.type "function"), none, (.func { name := (Str.ofString "read_token"), qualname := (Str.ofString "shlex.read_token"), params := a39_6, body := .stmts (b39_6), scope := c39_6, globals := 3, closure := [], defaults := .none, kwdefaults := .none, doc := .none, pyModule := (.str (Str.ofString "cpy313.shlex") 1161), annotations := none, code := (.ref 797), closureTuple := .none, builtins := 0 }), #[]⟩) ::
  (nat_lit 829, ⟨(.type "dict"), none, (.dict (⟨PyData.keyHash P (Str.ofString "__module__"), .str (Str.ofString "__module__") 1170, (.str (Str.ofString "cpy313.shlex") 1161)⟩ :: ⟨PyData.keyHash P (Str.ofString "__firstlineno__"), .str (Str.ofString "__firstlineno__") 1174, (.int 595 1173)⟩ :: ⟨PyData.keyHash P (Str.ofString "__init__"), .str (Str.ofString "__init__") 1186, (.ref 754)⟩ :: ⟨PyData.keyHash P (Str.ofString "punctuation_chars"), .str (Str.ofString "punctuation_chars") 1194, (.ref 762)⟩ :: ⟨PyData.keyHash P (Str.ofString "push_token"), .str (Str.ofString "push_token") 1202, (.ref 769)⟩ :: ⟨PyData.keyHash P (Str.ofString "push_source"), .str (Str.ofString "push_source") 1211, (.ref 777)⟩ :: ⟨PyData.keyHash P (Str.ofString "pop_source"), .str (Str.ofString "pop_source") 1218, (.ref 784)⟩ :: ⟨PyData.keyHash P (Str.ofString "get_token"), .str (Str.ofString "get_token") 1230, (.ref 791)⟩ :: ⟨PyData.keyHash P (Str.ofString "read_token"), .str (Str.ofString "read_token") 1241, (.ref 798)⟩ :: ⟨PyData.keyHash P (Str.ofString "sourcehook"), .str (Str.ofString "sourcehook") 1249, (.ref 805)⟩ :: ⟨PyData.keyHash P (Str.ofString "error_leader"), .str (Str.ofString "error_leader") 1258, (.ref 813)⟩ :: ⟨PyData.keyHash P (Str.ofString "__iter__"), .str (Str.ofString "__iter__") 1265, (.ref 820)⟩ :: ⟨PyData.keyHash P (Str.ofString "__next__"), .str (Str.ofString "__next__") 1273, (.ref 827)⟩ :: ⟨PyData.keyHash P (Str.ofString "__static_attributes__"), .str (Str.ofString "__static_attributes__") 1294, (.ref 828)⟩ :: ⟨PyData.keyHash P (Str.ofString "__dict__"), .str (Str.ofString "__dict__") 1296, (.ref 831)⟩ :: ⟨PyData.keyHash P (Str.ofString "__weakref__"), .str (Str.ofString "__weakref__") 1298, (.ref 832)⟩ :: ⟨PyData.keyHash P (Str.ofString "__doc__"), .str (Str.ofString "__doc__") 1299, .none⟩ :: []).toArray 4), #[]⟩) ::
  (nat_lit 830, ⟨(.type "type"), none, (.cls { name := (Str.ofString "shlex"), bases := [(.type "object")], mro := [(.ref 830), (.type "object")], ns := 829, qualname := (Str.ofString "shlex"), hasDict := true, slotNames := [], subclasses := [], abstract := false, collection := none, hasDel := false }), #[none, none, (some (.str (Str.ofString "shlex") 1163)), (some (.str (Str.ofString "shlex") 1171)), (some (.builtin "object.__new__")), (some (.bool true))]⟩) ::
  (nat_lit 840, ⟨(.type "code"), none, (.fields ((.str (Str.ofString "_law_word") 1304) :: (.str (Str.ofString "_law_word") 1305) :: (.str (Str.ofString "/claim/cut.py") 1306) :: (.int 848 0) :: (.int 1 0) :: (.int 0 0) :: (.int 0 0) :: (.int 3 0) :: (.ref 835) :: (.bool true) :: (.int 273 0) :: (.ref 836) :: .none :: (.ref 837) :: (.ref 838) :: (.ref 839) :: (.int 1311 0) :: (.int 848 0) :: (.str (Str.ofString "/claim/cut.py") 1312) :: []).toArray), #[]⟩) ::
  (nat_lit 841, ⟨(.type "function"), none, (.func { name := (Str.ofString "_law_word"), qualname := (Str.ofString "_law_word"), params := a41, body := .stmts (b41), scope := c41, globals := 3, closure := [], defaults := .none, kwdefaults := .none, doc := .none, pyModule := (.str (Str.ofString "law_kl0186_01") 1302), annotations := none, code := (.ref 840), closureTuple := .none, builtins := 0 }), #[]⟩) ::
  (nat_lit 847, ⟨(.type "code"), none, (.fields ((.str (Str.ofString "_law_tree") 1314) :: (.str (Str.ofString "_law_tree") 1315) :: (.str (Str.ofString "/claim/cut.py") 1316) :: (.int 856 0) :: (.int 1 0) :: (.int 0 0) :: (.int 0 0) :: (.int 3 0) :: (.ref 842) :: (.bool true) :: (.int 273 0) :: (.ref 843) :: .none :: (.ref 844) :: (.ref 845) :: (.ref 846) :: (.int 1323 0) :: (.int 856 0) :: (.str (Str.ofString "/claim/cut.py") 1324) :: []).toArray), #[]⟩) ::
  (nat_lit 848, ⟨(.type "function"), none, (.func { name := (Str.ofString "_law_tree"), qualname := (Str.ofString "_law_tree"), params := a42, body := .stmts (b42), scope := c42, globals := 3, closure := [], defaults := .none, kwdefaults := .none, doc := .none, pyModule := (.str (Str.ofString "law_kl0186_01") 1302), annotations := none, code := (.ref 847), closureTuple := .none, builtins := 0 }), #[]⟩) ::
  (nat_lit 852, ⟨(.type "code"), none, (.fields ((.str (Str.ofString "_law_spelled") 1326) :: (.str (Str.ofString "_law_spelled") 1327) :: (.str (Str.ofString "/claim/cut.py") 1328) :: (.int 870 0) :: (.int 2 0) :: (.int 0 0) :: (.int 0 0) :: (.int 3 0) :: (.ref 849) :: (.bool true) :: (.int 273 0) :: (.ref 850) :: .none :: .none :: .none :: (.ref 851) :: (.int 1329 0) :: (.int 870 0) :: (.str (Str.ofString "/claim/cut.py") 1330) :: []).toArray), #[]⟩) ::
  (nat_lit 853, ⟨(.type "function"), none, (.func { name := (Str.ofString "_law_spelled"), qualname := (Str.ofString "_law_spelled"), params := a43, body := .stmts (b43), scope := c43, globals := 3, closure := [], defaults := .none, kwdefaults := .none, doc := .none, pyModule := (.str (Str.ofString "law_kl0186_01") 1302), annotations := none, code := (.ref 852), closureTuple := .none, builtins := 0 }), #[]⟩) ::
  (nat_lit 859, ⟨(.type "code"), none, (.fields ((.str (Str.ofString "_law_written") 1332) :: (.str (Str.ofString "_law_written") 1333) :: (.str (Str.ofString "/claim/cut.py") 1334) :: (.int 878 0) :: (.int 1 0) :: (.int 0 0) :: (.int 0 0) :: (.int 3 0) :: (.ref 854) :: (.bool true) :: (.int 273 0) :: (.ref 855) :: .none :: (.ref 856) :: (.ref 857) :: (.ref 858) :: (.int 1343 0) :: (.int 878 0) :: (.str (Str.ofString "/claim/cut.py") 1344) :: []).toArray), #[]⟩) ::
  (nat_lit 860, ⟨(.type "function"), none, (.func { name := (Str.ofString "_law_written"), qualname := (Str.ofString "_law_written"), params := a44, body := .stmts (b44), scope := c44, globals := 3, closure := [], defaults := .none, kwdefaults := .none, doc := .none, pyModule := (.str (Str.ofString "law_kl0186_01") 1302), annotations := none, code := (.ref 859), closureTuple := .none, builtins := 0 }), #[]⟩) ::
  (nat_lit 866, ⟨(.type "code"), none, (.fields ((.str (Str.ofString "_law_fold") 1346) :: (.str (Str.ofString "_law_fold") 1347) :: (.str (Str.ofString "/claim/cut.py") 1348) :: (.int 889 0) :: (.int 1 0) :: (.int 0 0) :: (.int 0 0) :: (.int 3 0) :: (.ref 861) :: (.bool true) :: (.int 273 0) :: (.ref 862) :: .none :: (.ref 863) :: (.ref 864) :: (.ref 865) :: (.int 1352 0) :: (.int 889 0) :: (.str (Str.ofString "/claim/cut.py") 1353) :: []).toArray), #[]⟩) ::
  (nat_lit 867, ⟨(.type "function"), none, (.func { name := (Str.ofString "_law_fold"), qualname := (Str.ofString "_law_fold"), params := a45, body := .stmts (b45), scope := c45, globals := 3, closure := [], defaults := .none, kwdefaults := .none, doc := .none, pyModule := (.str (Str.ofString "law_kl0186_01") 1302), annotations := none, code := (.ref 866), closureTuple := .none, builtins := 0 }), #[]⟩) ::
  (nat_lit 873, ⟨(.type "code"), none, (.fields ((.str (Str.ofString "_law_lexer") 1355) :: (.str (Str.ofString "_law_lexer") 1356) :: (.str (Str.ofString "/claim/cut.py") 1357) :: (.int 898 0) :: (.int 1 0) :: (.int 0 0) :: (.int 0 0) :: (.int 3 0) :: (.ref 868) :: (.bool true) :: (.int 273 0) :: (.ref 869) :: .none :: (.ref 870) :: (.ref 871) :: (.ref 872) :: (.int 1360 0) :: (.int 898 0) :: (.str (Str.ofString "/claim/cut.py") 1361) :: []).toArray), #[]⟩) ::
  (nat_lit 874, ⟨(.type "function"), none, (.func { name := (Str.ofString "_law_lexer"), qualname := (Str.ofString "_law_lexer"), params := a46, body := .stmts (b46), scope := c46, globals := 3, closure := [], defaults := .none, kwdefaults := .none, doc := .none, pyModule := (.str (Str.ofString "law_kl0186_01") 1302), annotations := none, code := (.ref 873), closureTuple := .none, builtins := 0 }), #[]⟩) ::
  (nat_lit 880, ⟨(.type "code"), none, (.fields ((.str (Str.ofString "_law_read") 1363) :: (.str (Str.ofString "_law_read") 1364) :: (.str (Str.ofString "/claim/cut.py") 1365) :: (.int 902 0) :: (.int 1 0) :: (.int 0 0) :: (.int 0 0) :: (.int 3 0) :: (.ref 875) :: (.bool true) :: (.int 273 0) :: (.ref 876) :: .none :: (.ref 877) :: (.ref 878) :: (.ref 879) :: (.int 1372 0) :: (.int 902 0) :: (.str (Str.ofString "/claim/cut.py") 1373) :: []).toArray), #[]⟩) ::
  (nat_lit 881, ⟨(.type "function"), none, (.func { name := (Str.ofString "_law_read"), qualname := (Str.ofString "_law_read"), params := a47, body := .stmts (b47), scope := c47, globals := 3, closure := [], defaults := .none, kwdefaults := .none, doc := .none, pyModule := (.str (Str.ofString "law_kl0186_01") 1302), annotations := none, code := (.ref 880), closureTuple := .none, builtins := 0 }), #[]⟩) ::
  (nat_lit 887, ⟨(.type "code"), none, (.fields ((.str (Str.ofString "_law_walk") 1375) :: (.str (Str.ofString "_law_walk") 1376) :: (.str (Str.ofString "/claim/cut.py") 1377) :: (.int 919 0) :: (.int 1 0) :: (.int 0 0) :: (.int 0 0) :: (.int 3 0) :: (.ref 882) :: (.bool true) :: (.int 273 0) :: (.ref 883) :: .none :: (.ref 884) :: (.ref 885) :: (.ref 886) :: (.int 1384 0) :: (.int 919 0) :: (.str (Str.ofString "/claim/cut.py") 1385) :: []).toArray), #[]⟩) ::
  (nat_lit 888, ⟨(.type "function"), none, (.func { name := (Str.ofString "_law_walk"), qualname := (Str.ofString "_law_walk"), params := a48, body := .stmts (b48), scope := c48, globals := 3, closure := [], defaults := .none, kwdefaults := .none, doc := .none, pyModule := (.str (Str.ofString "law_kl0186_01") 1302), annotations := none, code := (.ref 887), closureTuple := .none, builtins := 0 }), #[]⟩) ::
  (nat_lit 894, ⟨(.type "code"), none, (.fields ((.str (Str.ofString "_law_due") 1387) :: (.str (Str.ofString "_law_due") 1388) :: (.str (Str.ofString "/claim/cut.py") 1389) :: (.int 936 0) :: (.int 2 0) :: (.int 0 0) :: (.int 0 0) :: (.int 3 0) :: (.ref 889) :: (.bool true) :: (.int 273 0) :: (.ref 890) :: .none :: (.ref 891) :: (.ref 892) :: (.ref 893) :: (.int 1394 0) :: (.int 936 0) :: (.str (Str.ofString "/claim/cut.py") 1395) :: []).toArray), #[]⟩) ::
  (nat_lit 895, ⟨(.type "function"), none, (.func { name := (Str.ofString "_law_due"), qualname := (Str.ofString "_law_due"), params := a49, body := .stmts (b49), scope := c49, globals := 3, closure := [], defaults := .none, kwdefaults := .none, doc := .none, pyModule := (.str (Str.ofString "law_kl0186_01") 1302), annotations := none, code := (.ref 894), closureTuple := .none, builtins := 0 }), #[]⟩) ::
  (nat_lit 901, ⟨(.type "code"), none, (.fields ((.str (Str.ofString "law") 1397) :: (.str (Str.ofString "law") 1398) :: (.str (Str.ofString "/claim/cut.py") 1399) :: (.int 945 0) :: (.int 1 0) :: (.int 0 0) :: (.int 0 0) :: (.int 3 0) :: (.ref 896) :: (.bool true) :: (.int 273 0) :: (.ref 897) :: .none :: (.ref 898) :: (.ref 899) :: (.ref 900) :: (.int 1406 0) :: (.int 945 0) :: (.str (Str.ofString "/claim/cut.py") 1407) :: []).toArray), #[]⟩) ::
  (nat_lit 902, ⟨(.type "function"), none, (.func { name := (Str.ofString "law"), qualname := (Str.ofString "law"), params := a50, body := .stmts (b50), scope := c50, globals := 3, closure := [], defaults := .none, kwdefaults := .none, doc := .none, pyModule := (.str (Str.ofString "law_kl0186_01") 1302), annotations := none, code := (.ref 901), closureTuple := .none, builtins := 0 }), #[]⟩) ::
  []
noncomputable def addrs : List Addr := [2, 3, 111, 112, 125, 126, 132, 133, 139, 140, 146, 147, 160, 161, 187, 188, 190, 191, 192, 217, 218, 448, 458, 464, 465, 471, 472, 478, 479, 492, 493, 634, 640, 641, 642, 648, 649, 694, 695, 747, 753, 754, 760, 761, 762, 790, 791, 797, 798, 829, 830, 840, 841, 847, 848, 852, 853, 859, 860, 866, 867, 873, 874, 880, 881, 887, 888, 894, 895, 901, 902]

noncomputable def qF : Pos := ⟨0, 0, 0, 0⟩
noncomputable def posE : Pos := ⟨945, 0, 955, 15⟩
noncomputable def Sa (P : Params) (os : OsState) : Shared := ⟨⟨(h0 P ++ h1).toArray, {}⟩, #[], {}, 279, os⟩
noncomputable def Sb (P : Params) (os : OsState) : SharedT := ⟨bt (h0 P ++ h1), 33, {}, #[], {}, 279, os⟩
noncomputable def thB : Thread := piecesOf bd env cE qF [topFrame qF]
end Mine
namespace Mine
open PySem PySem.W PySem.Calls PyProof.Rows
theorem open_ : ∀ w : World, (fencedOpening treeTable pw w 11890).map (fun s => (s.heap, s.gens, s.drawn, s.toks)) = some (H0 w.params, #[], {}, 273) := by
  intro w
  unfold fencedOpening
  rw [PySem.W.Fast.te10274390034422433532, PySem.W.Fast.te14364793385576792824, PySem.W.Fast.te14289696077712309145]
  kernel_rfl
theorem pre_ : ∀ w : World, (fun os => topGo treeTable pw w 29 (some (.ref 6)) 12 ⟨H0 w.params, #[], {}, 273, os⟩ (topStub pw)) = fun os => some (Sa w.params os, ⟨denote treeTable cE, cE, qF, [topFrame qF]⟩) := by
  intro w
  rw [PySem.W.Fast.te15667345088766844465, PySem.W.Fast.te14364793385576792824, PySem.W.Fast.te11892475500146522536]
  kernel_rfl
theorem block_ : ∀ w : World, (fun os => segRun treeTable pw w 29 (some (.ref 6)) 1 1 (Sa w.params os) (blockOf bd env cE qF [topFrame qF])) = fun os => some (.next, (Sb w.params os).abs, cE, qF) := by
  intro w
  rw [PySem.W.Fast.te14374325043358763698, PySem.W.Fast.te14364793385576792824]
  kernel_rfl
noncomputable def Yf (s : Shared) : List (Option Obj) := addrs.map s.heap.get?
noncomputable def Ya (w : World) : List (Option Obj) := (K w.params).map fun p => some p.2

theorem size_ : ∀ w : World, ((H0 w.params).isNs mainGlobals && (#[] : Array GenState).size == 0, (H0 w.params).objs.size, (H0 w.params).nsMap mainGlobals "__annotations__") = (true, 29, some (.ref 6)) := by
  intro w; kernel_rfl
noncomputable def Xt : Shared → Bool := fun _ => true
noncomputable def mods : List Str := importedModules pw.main.body
noncomputable def looks (w : World) (s : Shared) := (staticsOk mods (H0 w.params) s.heap && namesBound pw s.heap && gensDone s && laidKept (H0 w.params) s.heap, openSeen q loose mods Xt true s, Yf s)
theorem chk : ∀ w : World, (fun os => (segRunT treeTable pw w 29 (some (.ref 6)) 1 5883 (Sb w.params os) thB).map fun r => (r.1, r.2.2.1, r.2.2.2, looks w r.2.1.abs)) = fun os => some (.next, cE, posE, true, openGood q loose, Ya w) := by
  intro w
  unfold looks
  rw [PySem.W.Fast.te10110043849684766642, PySem.W.Fast.te14364793385576792824, PySem.W.Fast.te4187177175401517315]
  kernel_rfl
theorem fin_ (w : World) (s : Shared) : topRun treeTable pw w 29 (some (.ref 6)) 2 s (restOf [] env cE posE [topFrame qF]) = some s := by
  obtain ⟨h, g, d, k, o⟩ := s
  rfl
theorem left_of {p q : Program} {loose : List Str} {Xt : Shared → Bool} {α : Type} {Yf : Shared → α} {Ya : World → α} {N : Nat} {g0 : Bool} {H₀ : Params → Heap} {gs₀ : Array GenState} {d₀ : Drawn} {k₀ : Nat} {m₀ : Nat} {ann : Option Value} {M : Nat}
    (op : ∀ w : World, (fencedOpening treeTable p w N).map (fun s => (s.heap, s.gens, s.drawn, s.toks)) = some (H₀ w.params, gs₀, d₀, k₀))
    (size : ∀ w : World, ((H₀ w.params).isNs mainGlobals && gs₀.size == 0, (H₀ w.params).objs.size, (H₀ w.params).nsMap mainGlobals "__annotations__") = (true, m₀, ann))
    (run : ∀ (w : World) (os : OsState), ∃ s₁, topRun treeTable p w m₀ ann M ⟨H₀ w.params, gs₀, d₀, k₀, os⟩ (topStub p) = some s₁ ∧
      (staticsOk (importedModules p.main.body) (H₀ w.params) s₁.heap && namesBound p s₁.heap && gensDone s₁ && laidKept (H₀ w.params) s₁.heap) = true ∧ openSeen q loose (importedModules p.main.body) Xt g0 s₁ = openGood q loose ∧ Yf s₁ = Ya w)
    (le : Nat.ble M N = true) : LeftO p q loose Xt Yf Ya N g0 := fun w => by
  obtain ⟨⟨h, gs, d, k, os⟩, e, e'⟩ := Option.map_eq_some_iff.mp (op w)
  obtain ⟨rfl, rfl, rfl, rfl⟩ : h = H₀ w.params ∧ gs = gs₀ ∧ d = d₀ ∧ k = k₀ := by simpa using e'
  obtain ⟨z1, z2, z3⟩ : _ ∧ _ ∧ _ := by simpa only [Prod.mk.injEq] using size w
  obtain ⟨s₁, hr, l1, l2, l3⟩ := run w os
  have r := topRun_mono (N - M) _ _ _ _ hr
  rw [show M + (N - M) = N by have := Nat.le_of_ble_eq_true le; (first | lia | omega)] at r
  have t : topFrom treeTable p w N ⟨H₀ w.params, gs, d, k, os⟩ = some s₁ := by
    unfold topFrom
    dsimp only
    rw [z1, z2, z3, r]
    show (match staticsOk (importedModules p.main.body) (H₀ w.params) s₁.heap && namesBound p s₁.heap && gensDone s₁ && laidKept (H₀ w.params) s₁.heap with | true => _ | false => _) = _
    rw [l1]
  unfold openEnds
  rw [e]
  show (topFrom treeTable p w N _).map _ = _
  rw [t]
  exact congrArg some (Prod.ext l2 l3)
theorem left : LeftO pw q loose Xt Yf Ya 11890 := by
  refine left_of (M := 12 + (1 + (5883 + 2))) open_ size_ (fun w os => ?_) rfl
  obtain ⟨r, hr, hl⟩ := Option.map_eq_some_iff.mp (congrFun (chk w) os)
  obtain ⟨f, s', c, p⟩ := r
  simp only [Prod.mk.injEq] at hl
  obtain ⟨rfl, rfl, rfl, hl⟩ := hl
  unfold looks at hl
  simp only [Prod.mk.injEq] at hl
  obtain ⟨l1, l2, l3⟩ := hl
  refine ⟨s'.abs, ?_, l1, l2, l3⟩
  refine go_top (congrFun (pre_ w) os) (piece_block (congrFun (block_ w) os) ?_)
  have := piece_app (rest := []) (segRun_of hr) (fin_ w s'.abs)
  rwa [List.append_nil] at this
end Mine
namespace Mine
open PySem PySem.W PySem.Calls PyProof.Rows
theorem nr_split {lk : Look} : ∀ (n : Nat) (l : List Stmt), noRoadLSs lk (l.take n) = true → noRoadLSs lk (l.drop n) = true → noRoadLSs lk l = true
  | 0, _, _, h => h
  | _ + 1, [], _, h => h
  | n + 1, s :: l, h, k => by
    rw [List.take_succ_cons] at h
    rw [List.drop_succ_cons] at k
    unfold noRoadLSs at h ⊢
    obtain ⟨h1, h2⟩ := Bool.and_eq_true_iff.mp h
    rw [h1, nr_split n l h2 k]; rfl
noncomputable def lk0 : Look := { strict := false, foot := none }
noncomputable abbrev bdy : List Stmt := PySem.Challenge.rw_kl0186_01.row.prog.main.body
theorem nr1 : noRoadLSs lk0 (bdy.take 27) = true := by rw [PySem.W.Fast.te8326940854005059898]; decide +kernel
theorem nr2 : noRoadLSs lk0 ((bdy.drop 27).take 1) = true := by rw [PySem.W.Fast.te8326940854005059898]; decide +kernel
theorem nr3 : noRoadLSs lk0 (((bdy.drop 27).drop 1).take 1) = true := by rw [PySem.W.Fast.te8326940854005059898]; decide +kernel
theorem nr4 : noRoadLSs lk0 ((((bdy.drop 27).drop 1).drop 1).take 10) = true := by rw [PySem.W.Fast.te8326940854005059898]; decide +kernel
theorem nr5 : noRoadLSs lk0 (((((bdy.drop 27).drop 1).drop 1).drop 10).take 1) = true := by rw [PySem.W.Fast.te8326940854005059898]; decide +kernel
theorem nr6 : noRoadLSs lk0 (((((bdy.drop 27).drop 1).drop 1).drop 10).drop 1) = true := by rw [PySem.W.Fast.te8326940854005059898]; decide +kernel
theorem nr : noRoadLSs lk0 bdy = true := nr_split 27 _ nr1 (nr_split 1 _ nr2 (nr_split 1 _ nr3 (nr_split 10 _ nr4 (nr_split 1 _ nr5 nr6))))
theorem lk_is : ({ strict := !(importedModules bdy).all cThrough.contains, foot := none, bare := (["vars", "dir", "locals"] : List Str).filter (readsOut PySem.Challenge.rw_kl0186_01.row.prog bdy) } : Look) = lk0 := by
  have h1 : (!(importedModules bdy).all cThrough.contains) = false := by decide +kernel
  have h2 : (["vars", "dir", "locals"] : List Str).filter (readsOut PySem.Challenge.rw_kl0186_01.row.prog bdy) = [] := by
    rw [PySem.W.Fast.te13343964577679436407]; decide +kernel
  rw [h1, h2]; rfl
theorem looks_ok : looksOpen PySem.Challenge.rw_kl0186_01.row.prog = true := by
  unfold looksOpen
  refine look_both (look_both (look_both (look_both (look_both ?_ ?_) ?_) ?_) ?_) ?_
  · decide +kernel
  · decide +kernel
  · rw [PySem.W.Fast.te8377067652309620493]; decide +kernel
  · decide +kernel
  · rw [lk_is]; exact nr
  · rw [PySem.W.Fast.te17119622794617984870]; decide +kernel
theorem row_ok : PySem.Challenge.rw_kl0186_01.row.wellSaid = true := by
  unfold OpenRow.wellSaid OpenRow.partSaid
  rw [looks_ok]
  decide +kernel
theorem said : PySem.Challenge.rw_kl0186_01.wellSaid = true := by
  unfold OpenLaw.wellSaid
  rw [row_ok, PySem.W.Fast.te17119622794617984870, PySem.W.Fast.te8326940854005059898, PySem.W.Fast.te8179353310426384613, PySem.W.Fast.te16286561074155671207, PySem.W.Fast.te797321630700447069, PySem.W.Fast.te6984425678791042302]
  decide +kernel
end Mine
namespace Mine
open PySem PySem.W PySem.Calls PyProof.Rows
theorem ent_issub : entryFor table "issubclass" = some Builtin.«issubclass» := entryFor_of_tree (by kernel_rfl)
theorem ent_issubN : entryFor table "issubclass.nested" = some Builtin.«issubclass.nested» := entryFor_of_tree (by kernel_rfl)
theorem arg_issub (a b : Value) : argsOk "issubclass" ⟨[a, b], []⟩ := by unfold argsOk; kernel_rfl
theorem arg_issubN (a b c : Value) : argsOk "issubclass.nested" ⟨[a, b, c], []⟩ := by unfold argsOk; kernel_rfl
theorem sub_str_str : isSubtype (.type "str") (.type "str") = pure true := by rw [isSubtype_type]; kernel_rfl
theorem sub_tt : isSubtype (.type "tuple") (.type "tuple") = pure true := by rw [isSubtype_type]; kernel_rfl
section
variable {prog : Program} {w : World} {A : Around} {E : Value → Shared → Prop} {s : Shared}
abbrev postB (prog : Program) (w : World) (A : Around) (R : Result → Shared → Prop) : Fin → Shared → Prop := fun fin s' => match fin with | .done f => R (.ok f) s' | .again c' => c'.quiet = true ∧ codeAny (model prog w) A c' R s'
theorem codeB {id : String} {B : Builtin} {args : List Value} {R : Result → Shared → Prop} (kind : builtinKind id = none) (plain : plainId id = true)
    (entry : entryFor table id = some B) (ok : argsOk id ⟨args, []⟩) (h : wpAny (model prog w) A.in1 (B ⟨args, []⟩) (postB prog w A R) (fun e s' => R (.error e) s') s) :
    codeAny (model prog w) A (.call (.builtin id) ⟨args, []⟩) R s := by
  refine codeAny_call_builtin plain entry ?_
  simp only [checkBuiltinCall, kind]
  cases hsig : Manifest.signature? id with
  | none => exact wpAny_pure h
  | some sig =>
    simp only [argsOk, hsig] at ok
    have h2 : Bind.checkArgs id sig ⟨args, []⟩ = pure () := ok
    show wpAny _ _ (Bind.checkArgs id sig ⟨args, []⟩) _ _ s
    rw [h2]; exact wpAny_pure h
theorem callB {id : String} {B : Builtin} {args : List Value} {Q : Value → Shared → Prop} (kind : builtinKind id = none) (plain : plainId id = true)
    (entry : entryFor table id = some B) (ok : argsOk id ⟨args, []⟩) (h : wpAny (model prog w) A.in1 (B ⟨args, []⟩) (postB prog w A (wants Q E)) (fun e s' => wants Q E (.error e) s') s) :
    wpAny (model prog w) A (call (.builtin id) args) Q E s := wpAny_call (codeB kind plain entry ok h)
theorem issubN_str {R : Result → Shared → Prop} {tk : Tok} {d : Int} (h : R (.ok (.ret (.bool true))) s) : codeAny (model prog w) A (.call (.builtin "issubclass.nested") ⟨[.type "str", .type "str", .int d tk], []⟩) R s := by
  refine codeB (by decide +kernel) (by decide +kernel) ent_issubN (arg_issubN _ _ _) ?_
  have h1 := sub_str_str
  repeat (any_goals (first | assumption | wp_step))
theorem issub_str {a : Addr} {Q : Value → Shared → Prop} (ht : s.heap.get? a = some { cls := .type "tuple", data := .seq #[.type "str", .type "bytes"] }) (h : Q (.bool true) s) :
    wpAny (model prog w) A (call (.builtin "issubclass") [.type "str", .ref a]) Q E s := by
  refine callB (by decide +kernel) (by decide +kernel) ent_issub (arg_issub _ _) ?_
  repeat (any_goals (first | assumption | wp_step))
  refine ⟨Code.quiet_builtin _ (by decide +kernel), codeAny_builtin ent_issubN ?_⟩
  rw [Around.under_plain (show (Code.builtin "issubclass.nested" ⟨[.type "str", .ref a, rawInt 0], []⟩).weight = 0 from rfl) rfl]
  have hT2 : s.TypeIs (.ref a) "tuple" := ⟨_, ht, rfl⟩
  have f1 := sub_tt
  repeat (any_goals (first | assumption | wp_step))
  refine issubN_str (d := 1) ?_
  repeat (any_goals (first | assumption | wp_step))
end
end Mine
namespace Mine
open PySem PySem.W PySem.Calls PyProof.Rows
/-- what a call of a def of the text comes to, from any frame: `post` of the ledger before, the value, the ledger behind -/
def Ctr (w : World) (f : Addr) (nd nu : Nat) (pos : List Value) (pre : List (Addr × Obj) → Prop) (post : List (Addr × Obj) → Value → List (Addr × Obj) → Prop) : Prop :=
  ∀ (dp un : Nat) (gd : Option (List Code)) (cn : Str) (cs : Scope) (a : Addr) (ccd : Value) (cl : List (Str × Addr)) (outer : List Env) (A₀ : Around) (base h₀ : Heap) (L : Addr) (m : Str → Option Value)
    (news : List (Addr × Obj)) (s : Shared) (mg mb : Str → Option Value) (mean : ExcName → Option Value) (Q E : Value → Shared → Prop),
    Below A₀ base outer h₀ → Fr h₀ L s.heap m → (K w.params).In h₀ → News h₀ L s.heap news → Top q (looseW q loose) mean mg mb h₀ → cs.kind = .function → dp + nd < recursionLimit → un + nu < cLine → pre news →
    (∀ v tk h' news', Fr h₀ L h' m → News h₀ L h' news' → post news v news' → Q v { s with heap := h', toks := tk }) →
    wpAny (model pw w) (ktrTop dp un gd cn cs L a ccd cl outer) (call (.ref f) pos) Q E s
theorem fill : PySem.Challenge.rw_kl0186_01 = PySem.Challenge.rw_kl0186_01 ∧ K = K := by
  w_on
  k_fill
  exact ⟨rfl, rfl⟩
theorem issub_N {w : World} {A : Around} {E : Value → Shared → Prop} {s : Shared} {h₀ : Heap} {L a : Addr} {news : List (Addr × Obj)} {Q : Value → Shared → Prop} (N : News h₀ L s.heap news)
    (ha : (a, ({ cls := .type "tuple", data := .seq #[.type "str", .type "bytes"] } : Obj)) ∈ news) (h : Q (.bool true) s) : wpAny (model pw w) A (call (.builtin "issubclass") [.type "str", .ref a]) Q E s := issub_str (N _ ha).1 h
theorem fspath_c (w : World) (x : Str) (t : Tok) : Ctr w 112 10 100 [.str x t] (fun _ => True) (fun n v n' => v = .str x t ∧ n' = n) := by
  intro dp un gd cn cs a ccd cl outer A₀ base h₀ L m news s mg mb mean Q E B F X N T hk hd hu _ ret
  refine wpAny_call ?_
  k_dflt (refine' code_def (binds := [(Str.ofString "path", .str x t)]) B F X N T ?kA ?kF ?kK ?k6 ?k7 ?k8 ?k9 ?kB ?_ ?c2 ?c3 ?c4 ?c5; (case kA => exact rfl); (case kF => exact rfl); (case kK => assumption); (case k6 => k_is); (case k7 => k_is); (case k8 => ktr_room); (case k9 => exact BindsTo.of_eq rfl); (case c5 => decide); (case kB => exact locs rfl); (case c2 => exact rfl); (case c3 => exact rfl); (case c4 => exact rfl); k_whole; intro g' L' h' FG' F' N' B' X' T'; (try dsimp only); (try k_fold))
  k_steps
  (k_dflt (refine' issub_N ?k1 ?k2 ?_; (case k1 => k_asm); (case k2 => k_mem)))
  k_steps
  refine ret _ _ _ _ (by k_asm) (cb_drop (by k_asm) ?_) ⟨rfl, rfl⟩
  exact fun p hp => .tail _ hp
theorem Ctr.use {w : World} {f : Addr} {nd nu : Nat} {pos : List Value} {pre : List (Addr × Obj) → Prop} {post : List (Addr × Obj) → Value → List (Addr × Obj) → Prop} (C : Ctr w f nd nu pos pre post)
    {dp un : Nat} {gd : Option (List Code)} {cn : Str} {cs : Scope} {a : Addr} {ccd : Value} {cl : List (Str × Addr)} {outer : List Env} {A₀ : Around} {base h₀ : Heap} {L : Addr} {m : Str → Option Value}
    {news : List (Addr × Obj)} {s : Shared} {mg mb : Str → Option Value} {mean : ExcName → Option Value} {Q E : Value → Shared → Prop}
    (B : Below A₀ base outer h₀) (F : Fr h₀ L s.heap m) (X : (K w.params).In h₀) (N : News h₀ L s.heap news) (T : Top q (looseW q loose) mean mg mb h₀) (hk : cs.kind = .function) (hd : dp + nd < recursionLimit) (hu : un + nu < cLine) (hp : pre news)
    (ret : ∀ v tk h' news', Fr h₀ L h' m → News h₀ L h' news' → post news v news' → Q v { s with heap := h', toks := tk }) :
    wpAny (model pw w) (ktrTop dp un gd cn cs L a ccd cl outer) (call (.ref f) pos) Q E s := C _ _ _ _ _ _ _ _ _ _ _ _ _ _ _ _ _ _ _ _ _ B F X N T hk hd hu hp ret
end Mine
namespace Mine
open PySem PySem.W PySem.Calls PyProof.Rows
theorem sio_made {w : World} {h : Heap} (X : (K w.params).In h) : Looks (model pw w) h (Bind.madeBy (.ref 695)) none := Looks.of_peek X (by kernel_rfl!)
theorem sio_base {w : World} {h : Heap} (X : (K w.params).In h) : Looks (model pw w) h (Bind.staticBase (.ref 695)) (.type "object") := Looks.of_peek X (by kernel_rfl!)
theorem sio_here {w : World} {h : Heap} (X : (K w.params).In h) : Looks (model pw w) h (Bind.madeHere "object.__new__" (.ref 695)) () := Looks.of_peek X (by kernel_rfl!)
theorem sio_call {w : World} {h : Heap} (X : (K w.params).In h) : Looks (model pw w) h (specialOf (.ref 695) "__call__") (some (.builtin "type.__call__")) := looks_specialIn X (by kernel_rfl!)
theorem sio_self {w : World} {h : Heap} (X : (K w.params).In h) : Looks (model pw w) h (isSubtype (.ref 695) (.ref 695)) true := Looks.of_peek X (by kernel_rfl!)
theorem sio_typ {w : World} {h : Heap} (X : (K w.params).In h) : Looks (model pw w) h (isInstance (.ref 695) (.type "type")) true := looks_instIn X (by kernel_rfl!)
theorem sio_isType {w : World} {h : Heap} (X : (K w.params).In h) : Looks (model pw w) h (isType (.ref 695)) true := Looks.of_peek X (by kernel_rfl!)
theorem sio_top {w : World} {h : Heap} (X : (K w.params).In h) : Looks (model pw w) h (isSubtype (.ref 695) (.type "object")) true := Looks.of_peek X (by kernel_rfl!)
theorem sio_mado {w : World} {h : Heap} (X : (K w.params).In h) : Looks (model pw w) h (Bind.madeBy (.type "object")) (some "object.__new__") := Looks.of_peek X (by kernel_rfl!)
theorem sio_obj {w : World} {h : Heap} (X : (K w.params).In h) : ∃ oc od cd sl, h.get? 695 = some ⟨oc, od, .cls cd, sl⟩ ∧ cd.abstract = false ∧ cd.hasDel = false ∧ cd.mro.isEmpty = false := ⟨_, _, _, _, X _ _ rfl, rfl, rfl, rfl⟩
theorem sio_mro {w : World} {h : Heap} (X : (K w.params).In h) : Looks (model pw w) h (mroOf (.ref 695)) [.ref 695, .ref 218, .ref 191, .type "object"] := Looks.of_peek X (by kernel_rfl!)
theorem sio_init {w : World} {h : Heap} (X : (K w.params).In h) : Looks (model pw w) h (typeLookup (.ref 695) "__init__") (some (.ref 465)) := looks_findIn X (by kernel_rfl!)
theorem sio_bind {w : World} {h : Heap} (X : (K w.params).In h) (self : Value) : Looks (model pw w) h (bindSpecial (.ref 465) self) (.ref 465, [self]) := bind_fn X self (by kernel_rfl!)
section
variable {w : World} {A : Around} {h : Heap} {g : Array GenState} {d : Drawn} {t : Nat} {os : OsState} {R : Result → Shared → Prop}
theorem new_S (X : (K w.params).In h) (hq : R (.ok (.ret (.ref (h.objs.size + 1)))) ⟨(h.push emptyDict).push (instObj 695 h.objs.size), g, d, t, os⟩) :
    codeAny (model pw w) A (.call (.builtin "object.__new__") ⟨[.ref 695], []⟩) R ⟨h, g, d, t, os⟩ := by
  obtain ⟨oc, od, cd, sl, hC, e1, e2, e4⟩ := sio_obj X
  have here := sio_here X
  have F := PySem.F.objNew
  refine codeAny_call_builtin_code (Code.quiet_builtin _ F.quiet) ?_
  simp only [checkBuiltinCall, F.kind, F.split, F.row]
  have args : Bind.checkArgs "object.__new__" ⟨.hand, "object.__new__", "__new__", .cls, []⟩ ⟨[.ref 695], []⟩ = pure () := by kernel_rfl
  rw [args]
  have ist := sio_isType X
  have top := sio_top X
  have base := sio_base X
  have mado := sio_mado X
  repeat (first | simp only [bne_self_eq_false, Bool.false_eq_true, if_false] | lk)
  refine codeAny_builtin F.entry ?_
  unfold Builtin.«object.__new__»
  have hC' := Heap.get?_push_of_some (instObj 695 (h.push emptyDict).objs.size.pred) (Heap.get?_push_of_some emptyDict hC)
  have fin : ∀ A', wpAny (model pw w) A' (do
      let d ← if typeHasDict (.ref 695) then some <$> alloc { cls := .type "dict", data := .dict #[] } else pure none
      ret (← newObj (.ref 695) .plain d)) (fun fin s' => match fin with | .done f => R (.ok f) s' | .again c' => c'.quiet = true ∧ codeAny (model pw w) A c' R s') (fun e s' => R (.error e) s') ⟨h, g, d, t, os⟩ := by
    intro A'
    show wpAny _ _ ((alloc emptyDict >>= fun x => pure (some x)) >>= _) _ _ _
    refine wpAny_bind (wpAny_bind (wpAny_alloc (wpAny_pure (wpAny_bind ?_))))
    show wpAny _ _ (newObjAsIs _ _ _) _ _ _
    unfold newObjAsIs classHasDel
    refine wpAny_bind (wpAny_alloc (wpAny_bind (wpAny_bind (wpAny_load (Heap.get?_push_of_some _ (Heap.get?_push_of_some _ hC)) (wpAny_pure ?_)))))
    rw [e2]
    refine wpAny_pure (wpAny_pure ?_)
    show R _ _
    rw [Heap.size_push]
    exact hq
  repeat (first | simp only [e1, Bool.false_eq_true, if_false] | exact fin _ | lk)
theorem sio_typeIn : typeIn (K w.params) (.ref 695) = some (.type "type") := by kernel_rfl
theorem sio_reads : readsIn (K w.params) 695 (.type "type") = true := by kernel_rfl
theorem sio_findCls : findCls (K w.params) (.ref 695) (.type "type") "__new__" = some (.get (.builtin "staticmethod.__get__") (.ref 192) .none (.ref 695)) := by kernel_rfl
theorem sio_rec : recIn (K w.params) 192 "staticmethod" = some [.ref 188] := by kernel_rfl
/-- what __new__'s end is to show -/
def NewBack (w : World) (A : Around) (rest : List Value) (kw : List (Str × Value)) (R : Result → Shared → Prop) (r : Result) (s' : Shared) : Prop := match r with
  | .ok (.ret v) => ∃ x dx, v = .ref x ∧ s'.heap.get? x = some (instObj 695 dx) ∧ (K w.params).In s'.heap ∧
      codeAny (model pw w) (A.under (.builtin "type.__call__" ⟨.ref 695 :: rest, kw⟩)) (.call (.ref 465) ⟨.ref x :: rest, kw⟩) (InitBack x R) s'
  | .ok _ => False
  | .error e => R (.error e) s'
theorem make_S {rest : List Value} {kw : List (Str × Value)} {h₀ : Heap} {L : Addr} {m : Str → Option Value} (X₀ : (K w.params).In h₀) (F : Fr h₀ L h m)
    (hq : codeAny (model pw w) (A.under (.builtin "type.__call__" ⟨.ref 695 :: rest, kw⟩)) (.call (.ref 188) ⟨.ref 695 :: rest, kw⟩) (NewBack w A rest kw R) ⟨h, g, d, t + 1, os⟩) :
    codeAny (model pw w) A (.call (.ref 695) ⟨rest, kw⟩) R ⟨h, g, d, t, os⟩ := by
  have X := X₀.keeps F.keep
  obtain ⟨oc, od, cd, sl, hC, e1, e2, e4⟩ := sio_obj X
  have call := sio_call X
  have typ := sio_typ X
  have made := sio_made X
  have hm := sio_mro X
  have hgn : ∀ (B : Around) (E : Value → Shared → Prop) (Q : Value → Shared → Prop), Q (.ref 188) ⟨h, g, d, t + 1, os⟩ → wpAny (model pw w) B (getAttr (.ref 695) "__new__") Q E ⟨h, g, d, t, os⟩ := fun B E Q q => cls_sm F X₀ sio_typeIn sio_reads sio_findCls sio_rec rfl q
  refine codeAny_of_tree ?_
  show wpAny _ _ (callAny (.ref 695) _) _ _ _
  refine nd_load hC ?_
  show wpAny _ _ (callAny.viaDunder (.ref 695) _) _ _ _
  unfold callAny.viaDunder
  refine wpAny_bind (call.at ?_)
  dsimp only
  rw [tc_bind]
  refine wpAny_bind (wpAny_pure (wpAny_bind (wpAny_pure ?_)))
  refine wpAny_pure (a := Fin.again (.call (.builtin "type.__call__") ⟨.ref 695 :: rest, kw⟩)) (And.intro rfl ?_)
  refine codeAny_call_builtin_at (Code.quiet_builtin _ (by decide +kernel)) entry_typeCall (check_slot tc_kind tc_split typ (tc_args _ _ _) ?_)
  unfold Builtin.«type.__call__»
  repeat (first | simp only [e4, Bool.false_eq_true, if_false] | with_reducible refine hgn _ _ _ ?_ | with_reducible refine wpAny_call ?_ | lk)
  refine codeAny_mono hq fun r s' z => ?_
  rcases r with e | (v | _ | _ | _) <;> first | exact z | exact z.elim | skip
  obtain ⟨x, dx, rfl, hx, X', z⟩ := z
  obtain ⟨h', g', d', t', os'⟩ := s'
  have t1 : Looks (model pw w) h' (typeOf (.ref x)) (.ref 695) := (Looks.ld hx).andThen .now
  have s1 := sio_self X'
  have i1 := sio_init X'
  have b1 := sio_bind X' (.ref x)
  unfold isInstance callSpecial? specialOf
  repeat (first | with_reducible refine wpAny_call ?_ | lk)
  trace_state
  refine codeAny_mono z fun r s' z => ?_
  rcases r with e | (v | _ | _ | _) <;> first | exact z | exact z.elim | skip
  obtain ⟨rfl, z⟩ := z
  exact wpAny_pure (wpAny_pure z)
end
end Mine
namespace Mine
open PySem PySem.W PySem.Calls PyProof.Rows
noncomputable abbrev tupO (l : List Value) : Obj := { cls := .type "tuple", data := .seq l.toArray }
noncomputable abbrev lstO (l : List Value) (n : Nat) : Obj := { cls := .type "list", data := .seq l.toArray n }
/-- what splitroot hands back behind its empty drive -/
noncomputable def splitF (x : Str) : Str × Str :=
  if (Txt.slice x none (some 1) != Str.ofString "/") = true then (Str.ofString "", x)
  else if (Txt.slice x (some 1) (some 2) != Str.ofString "/") = true ∨ (Txt.slice x (some 2) (some 3) == Str.ofString "/") = true then (Str.ofString "/", Txt.slice x (some 1) none)
  else (Txt.slice x none (some 2), Txt.slice x (some 2) none)
theorem splitF1 {x : Str} (h : (Txt.slice x none (some 1) != Str.ofString "/") = true) : splitF x = (Str.ofString "", x) := if_pos h
theorem splitF2 {x : Str} (h : (Txt.slice x none (some 1) != Str.ofString "/") = false) (h2 : (Txt.slice x (some 1) (some 2) != Str.ofString "/") = true) : splitF x = (Str.ofString "/", Txt.slice x (some 1) none) := by
  unfold splitF; rw [h, if_neg Bool.false_ne_true, if_pos (.inl h2)]
theorem splitF3 {x : Str} (h : (Txt.slice x none (some 1) != Str.ofString "/") = false) (h2 : (Txt.slice x (some 2) (some 3) == Str.ofString "/") = true) : splitF x = (Str.ofString "/", Txt.slice x (some 1) none) := by
  unfold splitF; rw [h, if_neg Bool.false_ne_true, if_pos (.inr h2)]
theorem splitF4 {x : Str} (h : (Txt.slice x none (some 1) != Str.ofString "/") = false) (h1 : (Txt.slice x (some 1) (some 2) != Str.ofString "/") = false) (h2 : (Txt.slice x (some 2) (some 3) == Str.ofString "/") = false) : splitF x = (Txt.slice x none (some 2), Txt.slice x (some 2) none) := by
  unfold splitF; rw [h, if_neg Bool.false_ne_true, h1, h2, if_neg (by decide)]
end Mine
namespace Mine
open PySem PySem.W PySem.Calls PyProof.Rows PySem.Spec
section
variable {prog : Program} {w : World} {A : Around} {E : Value → Shared → Prop} {s : Shared} {env : Env} {h₀ : Heap} {x : Str} {body : List Stmt} {Q : Flow → Shared → Prop}
def TurnE (h₀ : Heap) (L : Addr) (J : (Str → Option Value) → List (Addr × Obj) → Prop) (own : List (Addr × Obj)) (s₁ s₂ : Shared) : Prop :=
  ∃ h' tk m' news' nx, s₂ = { s₁ with heap := h', toks := tk } ∧ Fr h₀ L h' m' ∧ News h₀ L h' news' ∧ (∀ p ∈ nx ++ own, p ∈ news') ∧ J m' nx
def TurnP (h₀ : Heap) (L : Addr) (J : (Str → Option Value) → List (Addr × Obj) → Prop) (own : List (Addr × Obj)) (s₁ : Shared) (Q : Flow → Shared → Prop) (f : Flow) (s₂ : Shared) : Prop :=
  match f with
  | .ret v => Q (.ret v) s₂
  | .brk => Q .next s₂
  | _ => TurnE h₀ L J own s₁ s₂
/-- a for over a list that stands in the heap: `own` is the loop's own part of the ledger (the iterator, the list) -/
theorem for_vals {l : Addr} {vs : List Value} {m₀ : Str → Option Value} {news : List (Addr × Obj)} (J : Nat → (Str → Option Value) → List (Addr × Obj) → Prop)
    (hh : A.handled = none) (hl : s.heap.IsList l vs.toArray) (hlL : l ≠ env.locals) (F : Fr h₀ env.locals s.heap m₀) (N : News h₀ env.locals s.heap news) (hj : J 0 m₀ news)
    (turn : ∀ i v m₁ news₁ own I h tk, vs[i]? = some v → J i m₁ news₁ → (∀ p ∈ own, p.1 = I ∨ p.1 = l) → (∀ p ∈ news₁, p.1 ≠ I) → (∃ o, h.get? I = some o ∧ (I, o) ∈ own) → h.IsList l vs.toArray →
      Fr h₀ env.locals h (fun y => if y = x then some v else m₁ y) → News h₀ env.locals h (news₁ ++ own) →
      wpAny (model prog w) A (execs body env) (TurnP h₀ env.locals (fun m' nx => J (i + 1) m' nx ∧ ∀ p ∈ nx, p.1 ≠ I) own { s with heap := h, toks := tk } Q) E { s with heap := h, toks := tk })
    (done : ∀ m₁ news₁ h tk, J vs.length m₁ news₁ → Fr h₀ env.locals h m₁ → News h₀ env.locals h news₁ → Q .next { s with heap := h, toks := tk }) :
    wpAny (model prog w) A (pyIter (.ref l)) (fun it s₂ => LoopAtV prog w A h₀ env x body Q E it s₂) E s := by
  obtain ⟨ol, hol, hol2⟩ := id hl
  have hne : l ≠ s.heap.objs.size := Nat.ne_of_lt (Heap.lt_size hol)
  refine wpAny_pyIter_list hl ?_
  have W := Walks.list (prog := prog) (w := w) hh s.heap.objs.size l hne vs.toArray
  have hlen : vs.toArray.size = vs.length := by simp
  rw [hlen] at W
  refine ⟨_, _, _, vs.length, _, _, m₀, news, J, rfl, W, ?_, ?_, ?_, ⟨⟨_, Heap.get?_push_size _ rfl, rfl, rfl⟩, hl.at fun o e => Heap.get?_push_of_some _ e⟩, F.push _, (fun p hp => ⟨Heap.get?_push_of_some _ (N p hp).1, (N p hp).2⟩), hj, ?_, ?_⟩
  · intro hm
    rcases List.mem_cons.mp hm with e | hm
    · exact absurd F.ns.lt (e ▸ Nat.lt_irrefl _)
    · exact hlL (List.mem_singleton.mp hm).symm
  · intro b hb
    rw [List.mem_singleton.mp hb]
    exact next_is_new F
  · intro p hp hI
    exact absurd (Heap.lt_size (N p hp).1) ((List.mem_singleton.mp hI) ▸ Nat.lt_irrefl _)
  · rintro i v m₁ news₁ s₁ own ⟨hh', tk', rfl⟩ hin hP hJ hoff hown hget hfull hst F₁ N₁
    have hP' : vs[i]? = some v := by simpa using hP
    have N₂ : News h₀ env.locals hh' (news₁ ++ own) := fun p hp => N₁ p ((List.mem_append.mp hp).elim (fun h => List.mem_append.mpr (.inr h)) fun h => List.mem_append.mpr (.inl h))
    have hI : ∃ o, hh'.get? s.heap.objs.size = some o ∧ (s.heap.objs.size, o) ∈ own := by
      obtain ⟨⟨o, ho, _⟩, _⟩ := hst
      exact ⟨o, ho, hfull _ (.head _) (next_is_new F) o ho⟩
    refine wpAny_mono (turn i v m₁ news₁ own s.heap.objs.size hh' tk' hP' hJ (fun p hp => (List.mem_cons.mp (hown p hp)).imp id List.mem_singleton.mp) (fun p hp e => hoff p hp (e ▸ .head _)) hI hst.2 F₁ N₂) (fun f s₂ p => ?_) fun _ _ e => e
    have fin : TurnE h₀ env.locals (fun m' nx => J (i + 1) m' nx ∧ ∀ p ∈ nx, p.1 ≠ s.heap.objs.size) own { s with heap := hh', toks := tk' } s₂ → LoopStepU h₀ env.locals [s.heap.objs.size] own (J (i + 1)) { s with heap := hh', toks := tk' } .next s₂ := by
      rintro ⟨h', tk, m', news', nx, e, F', N', hn, hm, hoff'⟩
      exact ⟨rfl, h', tk, m', nx, e, F', fun p hp => N' p (hn p (List.mem_append.mpr ((List.mem_append.mp hp).symm))), fun p hp hq => hoff' p hp (List.mem_singleton.mp hq), hm⟩
    cases f with
    | ret v => exact .ret p
    | brk => exact .brk p
    | next => exact .next (fin p)
    | cont => exact .cont (fin p)
  · rintro h' tk m' news' F' N' _ hJ
    exact done m' news' h' tk hJ F' N'
/-- the same where only the loop's own name changes in the frame -/
def TurnE1 (h₀ : Heap) (L : Addr) (x : Str) (m₀ : Str → Option Value) (J : List (Addr × Obj) → Prop) (I : Addr) (own : List (Addr × Obj)) (s₁ s₂ : Shared) : Prop :=
  ∃ h' tk m' news' nx, s₂ = { s₁ with heap := h', toks := tk } ∧ Fr h₀ L h' m' ∧ News h₀ L h' news' ∧ (∀ p ∈ nx ++ own, p ∈ news') ∧ (∀ z, z ≠ x → m' z = m₀ z) ∧ J nx ∧ ∀ p ∈ nx, p.1 ≠ I
def TurnP1 (h₀ : Heap) (L : Addr) (x : Str) (m₀ : Str → Option Value) (J : List (Addr × Obj) → Prop) (I : Addr) (own : List (Addr × Obj)) (s₁ : Shared) (Q : Flow → Shared → Prop) (f : Flow) (s₂ : Shared) : Prop :=
  match f with
  | .ret v => Q (.ret v) s₂
  | .brk => Q .next s₂
  | _ => TurnE1 h₀ L x m₀ J I own s₁ s₂
end
end Mine
namespace Mine
open PySem PySem.W PySem.Calls PyProof.Rows PySem.Spec
def Stuck (p : Prop) : Prop := p
theorem stuck {p : Prop} (h : Stuck p) : p := h
theorem allLt_ne {d : Addr} {l : List (Addr × Obj)} (h : AllLt d l) : ∀ p ∈ l, p.1 ≠ d := by
  induction l with
  | nil => intro p hp; cases hp
  | cons q r ih =>
    intro p hp
    rcases List.mem_cons.mp hp with e | hp
    · rw [e]; exact Nat.ne_of_lt h.1
    · exact ih h.2 p hp
theorem strVal_get {l : List (Str × Tok)} {i : Nat} {v : Value} (h : (strValues l)[i]? = some v) : ∃ c t, v = .str c t ∧ l[i]? = some (c, t) := by
  unfold strValues at h
  rw [List.getElem?_map] at h
  obtain ⟨p, hp, rfl⟩ := Option.map_eq_some_iff.mp h
  exact ⟨p.1, p.2, rfl, hp⟩
theorem strVal_len (l : List (Str × Tok)) : (strValues l).length = l.length := by unfold strValues; rw [List.length_map]
section
variable {prog : Program} {w : World} {A : Around} {E : Value → Shared → Prop} {s : Shared} {h₀ : Heap} {L D : Addr} {m : Str → Option Value} {news news' : List (Addr × Obj)} {nc : List (Str × Tok)} {n : Nat}
/-- lists of texts of open length on the ledger -/
theorem truthy_T {Q : Bool → Shared → Prop} (N : News h₀ L s.heap news) (hm : (D, listOf (strValues nc).toArray n) ∈ news) (hb : nc.length ≤ 1000002) (h : ∀ k, Q (!nc.isEmpty) { s with toks := k }) : wpAny (model prog w) A (truthy (.ref D)) Q E s := by
  refine wpAny_truthy_list (News.isList N hm) ?_ ?_
  · rw [List.size_toArray, strVal_len]; (first | lia | omega)
  · have e : (strValues nc).toArray.isEmpty = nc.isEmpty := by cases nc <;> rfl
    rw [e]; exact h _
theorem glued_len (sep : Str) (ys : List Str) : (Txt.join sep ys).length ≤ (ys.map (·.length)).sum + ys.length * sep.length := by
  have key : ∀ (l : List Str) (acc : Array Nat), (l.foldl (fun acc p => acc ++ sep.cps ++ p.cps) acc).size = acc.size + (l.map (·.length)).sum + l.length * sep.length := by
    intro l
    induction l with
    | nil => intro acc; simp
    | cons y l ih =>
      intro acc
      rw [List.foldl_cons, ih, List.map_cons, List.sum_cons, List.length_cons, Array.size_append, Array.size_append, Nat.add_mul]
      show acc.size + sep.cps.size + y.cps.size + _ + _ = acc.size + (y.cps.size + _) + (_ + 1 * sep.cps.size)
      (first | lia | omega)
  show ((ys.drop 1).foldl (fun acc p => acc ++ sep.cps ++ p.cps) (ys.headD Str.empty).cps).size ≤ _
  rw [key]
  cases ys with
  | nil => show Str.empty.cps.size + 0 + 0 * _ ≤ _; rw [Nat.zero_mul]; exact Nat.zero_le _
  | cons y l =>
    show y.cps.size + (l.map (·.length)).sum + l.length * sep.length ≤ _
    rw [List.map_cons, List.sum_cons, List.length_cons, Nat.add_mul]
    show y.cps.size + _ + _ ≤ y.cps.size + _ + (_ + 1 * sep.length)
    (first | lia | omega)
theorem sum_small {B : Nat} : ∀ (l : List (Str × Tok)), (∀ p ∈ l, p.1.length ≤ B) → ((l.map fun x => x.1).map (·.length)).sum ≤ l.length * B := by
  intro l h
  have := StrLaws.sumLen_le (B := B) (l.map fun x => x.1) (fun y hy => by
    obtain ⟨p, hp, rfl⟩ := List.mem_map.mp hy
    exact h p hp)
  rwa [List.length_map] at this
theorem join_T {x : Str} {t : Tok} {Q : Value → Shared → Prop} (N : News h₀ L s.heap news) (hm : (D, listOf (strValues nc).toArray n) ∈ news) (hx : x.length ≤ 1) (hb : nc.length ≤ 2100) (hB : ∀ p ∈ nc, p.1.length ≤ 2000)
    (h : ∀ t' k, (Txt.join x (nc.map fun x => x.1)).length ≤ 5000000 → Q (.str (Txt.join x (nc.map fun x => x.1)) t') { s with toks := k }) : wpAny (model prog w) A (call (.builtin "str.join") [.str x t, .ref D]) Q E s := by
  have a := sum_small nc hB
  have b : nc.length * 2000 ≤ 2100 * 2000 := Nat.mul_le_mul_right _ hb
  have c : (nc.map fun x => x.1).length * x.length ≤ 2100 * 1 := by rw [List.length_map]; exact Nat.mul_le_mul hb hx
  have d := glued_len x (nc.map fun x => x.1)
  refine PyProof.Rows.join_list (News.isList N hm) (strsAre_of_values nc) ?_ fun t' k => h t' k (by (first | lia | omega))
  (first | lia | omega)
theorem split_len (x y : Str) : (Txt.split x y).length ≤ x.length + 2 := by
  unfold Txt.split
  split
  · show 1 ≤ _; (first | lia | omega)
  · split
    · show 1 ≤ _; (first | lia | omega)
    · rw [length_partsBetween]
      have := StrLaws.occ_length_le x y 0 x.length (x.length + 1)
      (first | lia | omega)
end
end Mine
namespace Mine
open PySem PySem.W PySem.Calls PyProof.Rows
theorem fill3 : PySem.Challenge.rw_kl0186_01 = PySem.Challenge.rw_kl0186_01 ∧ K = K := by
  w_on
  k_fill
  exact ⟨rfl, rfl⟩
theorem splitF_le {x : Str} {B : Nat} (h : x.length ≤ B) (hB : 1 ≤ B) : (splitF x).1.length ≤ B ∧ (splitF x).2.length ≤ B := by
  unfold splitF
  have a := Txt.slice_le x (some 1) none
  have b := Txt.slice_le x none (some 2)
  have c := Txt.slice_le x (some 2) none
  have d : (Str.ofString "").length = 0 := by decide
  have e : (Str.ofString "/").length = 1 := by decide
  split
  · exact ⟨by rw [d]; (first | lia | omega), h⟩
  · split
    · exact ⟨by rw [e]; (first | lia | omega), by dsimp only; (first | lia | omega)⟩
    · exact ⟨by dsimp only; (first | lia | omega), by dsimp only; (first | lia | omega)⟩
/-- one step of normpath's loop -/
noncomputable def ncStep (root : Str) (nc : List Str) (c : Str) : List Str :=
  if c.length = 0 ∨ c = Str.ofString "." then nc
  else if c ≠ Str.ofString ".." ∨ (root.length = 0 ∧ nc = []) ∨ nc.getLast? = some (Str.ofString "..") then nc ++ [c]
  else nc.dropLast
section
variable {root c cl : Str} {tc tl : Tok} {nc pP : List (Str × Tok)} {i : Nat}
theorem fold_step {f : List Str → Str → List Str} (hc : pP[i]? = some (c, tc)) : List.foldl f [] (List.take (i + 1) (List.map (fun x => x.fst) pP)) = f (List.foldl f [] (List.take i (List.map (fun x => x.fst) pP))) c := by
  have e : (List.map (fun x => x.fst) pP)[i]? = some c := by rw [List.getElem?_map, hc]; rfl
  rw [List.take_add_one, e, List.foldl_append]; rfl
end
/-- what normpath hands back -/
noncomputable def normF (x : Str) : Str :=
  if x.length = 0 then Str.ofString "."
  else if ((splitF x).1 ++ Txt.join (Str.ofString "/") (List.foldl (ncStep (splitF x).1) [] (Txt.split (splitF x).2 (Str.ofString "/")))).length = 0 then Str.ofString "."
  else (splitF x).1 ++ Txt.join (Str.ofString "/") (List.foldl (ncStep (splitF x).1) [] (Txt.split (splitF x).2 (Str.ofString "/")))
end Mine
namespace Mine
open PySem PySem.W PySem.Calls PyProof.Rows
theorem fill4 : PySem.Challenge.rw_kl0186_01 = PySem.Challenge.rw_kl0186_01 ∧ K = K := by
  w_on
  k_fill
  exact ⟨rfl, rfl⟩
/-- what join(a, b) hands back -/
noncomputable def joinF (a b : Str) : Str :=
  if Txt.startswith b (Str.ofString "/") = true ∨ a.length = 0 then b
  else if Txt.endswith a (Str.ofString "/") = true then a ++ b
  else a ++ (Str.ofString "/" ++ b)
theorem getsep_c (w : World) (x : Str) (t : Tok) : Ctr w 126 10 100 [.str x t] (fun _ => True) (fun n v n' => (∃ t, v = .str (Str.ofString "/") t) ∧ n' = n) := by
  intro dp un gd cn cs a ccd cl outer A₀ base h₀ L m news s mg mb mean Q E B F X N T hk hd hu _ ret
  obtain ⟨sh, sg, sd, stk, so⟩ := s
  dsimp only at F N ret
  refine wpAny_call ?_
  k_dflt (refine' code_def (binds := [(Str.ofString "path", .str x t)]) B F X N T ?kA ?kF ?kK ?k6 ?k7 ?k8 ?k9 ?kB ?_ ?c2 ?c3 ?c4 ?c5; (case kA => exact rfl); (case kF => exact rfl); (case kK => assumption); (case k6 => k_is); (case k7 => k_is); (case k8 => ktr_room); (case k9 => exact BindsTo.of_eq rfl); (case c5 => decide); (case kB => exact locs rfl); (case c2 => exact rfl); (case c3 => exact rfl); (case c4 => exact rfl); k_whole; intro g' L' h' FG' F' N' B' X' T'; (try dsimp only); (try k_fold))
  k_steps
  exact ret _ _ _ _ (by k_asm) (by k_asm) ⟨⟨_, rfl⟩, rfl⟩
end Mine
namespace Mine
open PySem PySem.W PySem.Calls PyProof.Rows PySem.Spec
section
variable {prog : Program} {w : World} {A : Around} {E : Value → Shared → Prop} {s : Shared} {env : Env} {h₀ : Heap} {x : Str} {body : List Stmt} {Q : Flow → Shared → Prop}
/-- a for over a tuple that stands in the heap: `own` is the loop's own part of the ledger (the iterator, the list) -/
theorem for_tup {l : Addr} {vs : List Value} {m₀ : Str → Option Value} {news : List (Addr × Obj)} (J : Nat → (Str → Option Value) → List (Addr × Obj) → Prop)
    (hh : A.handled = none) (hl : s.heap.IsTuple l vs.toArray) (hlL : l ≠ env.locals) (F : Fr h₀ env.locals s.heap m₀) (N : News h₀ env.locals s.heap news) (hj : J 0 m₀ news)
    (turn : ∀ i v m₁ news₁ own I h tk, vs[i]? = some v → J i m₁ news₁ → (∀ p ∈ own, p.1 = I ∨ p.1 = l) → (∀ p ∈ news₁, p.1 ≠ I) → (∃ o, h.get? I = some o ∧ (I, o) ∈ own) → h.IsTuple l vs.toArray →
      Fr h₀ env.locals h (fun y => if y = x then some v else m₁ y) → News h₀ env.locals h (news₁ ++ own) →
      wpAny (model prog w) A (execs body env) (TurnP h₀ env.locals (fun m' nx => J (i + 1) m' nx ∧ ∀ p ∈ nx, p.1 ≠ I) own { s with heap := h, toks := tk } Q) E { s with heap := h, toks := tk })
    (done : ∀ m₁ news₁ h tk, J vs.length m₁ news₁ → Fr h₀ env.locals h m₁ → News h₀ env.locals h news₁ → Q .next { s with heap := h, toks := tk }) :
    wpAny (model prog w) A (pyIter (.ref l)) (fun it s₂ => LoopAtV prog w A h₀ env x body Q E it s₂) E s := by
  obtain ⟨ol, hol, hol2⟩ := id hl
  have hne : l ≠ s.heap.objs.size := Nat.ne_of_lt (Heap.lt_size hol)
  refine wpAny_pyIter_tuple hl ?_
  have W := Walks.tuple (prog := prog) (w := w) hh s.heap.objs.size l hne vs.toArray
  have hlen : vs.toArray.size = vs.length := by simp
  rw [hlen] at W
  refine ⟨_, _, _, vs.length, _, _, m₀, news, J, rfl, W, ?_, ?_, ?_, ⟨⟨_, Heap.get?_push_size _ rfl, rfl, rfl⟩, hl.at fun o e => Heap.get?_push_of_some _ e⟩, F.push _, (fun p hp => ⟨Heap.get?_push_of_some _ (N p hp).1, (N p hp).2⟩), hj, ?_, ?_⟩
  · intro hm
    rcases List.mem_cons.mp hm with e | hm
    · exact absurd F.ns.lt (e ▸ Nat.lt_irrefl _)
    · exact hlL (List.mem_singleton.mp hm).symm
  · intro b hb
    rw [List.mem_singleton.mp hb]
    exact next_is_new F
  · intro p hp hI
    exact absurd (Heap.lt_size (N p hp).1) ((List.mem_singleton.mp hI) ▸ Nat.lt_irrefl _)
  · rintro i v m₁ news₁ s₁ own ⟨hh', tk', rfl⟩ hin hP hJ hoff hown hget hfull hst F₁ N₁
    have hP' : vs[i]? = some v := by simpa using hP
    have N₂ : News h₀ env.locals hh' (news₁ ++ own) := fun p hp => N₁ p ((List.mem_append.mp hp).elim (fun h => List.mem_append.mpr (.inr h)) fun h => List.mem_append.mpr (.inl h))
    have hI : ∃ o, hh'.get? s.heap.objs.size = some o ∧ (s.heap.objs.size, o) ∈ own := by
      obtain ⟨⟨o, ho, _⟩, _⟩ := hst
      exact ⟨o, ho, hfull _ (.head _) (next_is_new F) o ho⟩
    refine wpAny_mono (turn i v m₁ news₁ own s.heap.objs.size hh' tk' hP' hJ (fun p hp => (List.mem_cons.mp (hown p hp)).imp id List.mem_singleton.mp) (fun p hp e => hoff p hp (e ▸ .head _)) hI hst.2 F₁ N₂) (fun f s₂ p => ?_) fun _ _ e => e
    have fin : TurnE h₀ env.locals (fun m' nx => J (i + 1) m' nx ∧ ∀ p ∈ nx, p.1 ≠ s.heap.objs.size) own { s with heap := hh', toks := tk' } s₂ → LoopStepU h₀ env.locals [s.heap.objs.size] own (J (i + 1)) { s with heap := hh', toks := tk' } .next s₂ := by
      rintro ⟨h', tk, m', news', nx, e, F', N', hn, hm, hoff'⟩
      exact ⟨rfl, h', tk, m', nx, e, F', fun p hp => N' p (hn p (List.mem_append.mpr ((List.mem_append.mp hp).symm))), fun p hp hq => hoff' p hp (List.mem_singleton.mp hq), hm⟩
    cases f with
    | ret v => exact .ret p
    | brk => exact .brk p
    | next => exact .next (fin p)
    | cont => exact .cont (fin p)
  · rintro h' tk m' news' F' N' _ hJ
    exact done m' news' h' tk hJ F' N'
/-- a for over a tuple of one item -/
theorem for_one {l : Addr} {v : Value} {m₀ : Str → Option Value} {news : List (Addr × Obj)} (J : (Str → Option Value) → List (Addr × Obj) → Prop)
    (hh : A.handled = none) (hl : s.heap.IsTuple l #[v]) (hlL : l ≠ env.locals) (F : Fr h₀ env.locals s.heap m₀) (N : News h₀ env.locals s.heap news)
    (turn : ∀ own I h tk, (∀ p ∈ own, p.1 = I ∨ p.1 = l) → (∀ p ∈ news, p.1 ≠ I) → Fr h₀ env.locals h (fun y => if y = x then some v else m₀ y) → News h₀ env.locals h (news ++ own) →
      wpAny (model prog w) A (execs body env) (TurnP h₀ env.locals (fun m' nx => J m' nx ∧ ∀ p ∈ nx, p.1 ≠ I) own { s with heap := h, toks := tk } Q) E { s with heap := h, toks := tk })
    (done : ∀ m₁ news₁ h tk, J m₁ news₁ → Fr h₀ env.locals h m₁ → News h₀ env.locals h news₁ → Q .next { s with heap := h, toks := tk }) :
    wpAny (model prog w) A (pyIter (.ref l)) (fun it s₂ => LoopAtV prog w A h₀ env x body Q E it s₂) E s := by
  refine for_tup (vs := [v]) (J := fun i m nx => (i = 0 → m = m₀ ∧ nx = news) ∧ (i ≠ 0 → J m nx)) hh hl hlL F N ⟨fun _ => ⟨rfl, rfl⟩, fun h => absurd rfl h⟩ ?_ ?_
  · rintro i v' m₁ news₁ own I h tk hv ⟨hJ, _⟩ h1 h2 _ _ F₁ N₁
    have hi : i = 0 := by
      have : i < 1 := (List.getElem?_eq_some_iff.mp hv).1
      (first | lia | omega)
    subst hi
    obtain ⟨rfl, rfl⟩ := hJ rfl
    obtain rfl : v = v' := Option.some.inj hv
    refine wpAny_mono (turn own I h tk h1 h2 F₁ N₁) (fun f s₂ p => ?_) fun _ _ e => e
    have fin : TurnE h₀ env.locals (fun m' nx => J m' nx ∧ ∀ p ∈ nx, p.1 ≠ I) own { s with heap := h, toks := tk } s₂ → TurnE h₀ env.locals (fun m' nx => ((0 + 1 = 0 → m' = m₁ ∧ nx = news₁) ∧ (0 + 1 ≠ 0 → J m' nx)) ∧ ∀ p ∈ nx, p.1 ≠ I) own { s with heap := h, toks := tk } s₂ := by
      rintro ⟨h', tk', m', news', nx, e, F', N', hn, hm, ho⟩
      exact ⟨h', tk', m', news', nx, e, F', N', hn, ⟨fun q => absurd q (by decide), fun _ => hm⟩, ho⟩
    cases f with
    | ret v => exact p
    | brk => exact p
    | next => exact fin p
    | cont => exact fin p
  · rintro m₁ news₁ h tk ⟨_, hJ⟩ F₁ N₁
    exact done m₁ news₁ h tk (hJ (by simp)) F₁ N₁
theorem turn_end {L : Addr} {m' : Str → Option Value} {J : (Str → Option Value) → List (Addr × Obj) → Prop} {I : Addr} {own nx news' : List (Addr × Obj)} {s₁ : Shared} {h' : Heap} {tk : Nat} (F : Fr h₀ L h' m') (N : News h₀ L h' news') (hn : ∀ p ∈ nx ++ own, p ∈ news') (hJ : J m' nx) (ho : ∀ p ∈ nx, p.1 ≠ I) :
    TurnE h₀ L (fun m' nx => J m' nx ∧ ∀ p ∈ nx, p.1 ≠ I) own s₁ { s₁ with heap := h', toks := tk } := ⟨h', tk, m', news', nx, rfl, F, N, hn, hJ, ho⟩
end
end Mine
namespace Mine
open PySem PySem.W PySem.Calls PyProof.Rows
theorem fill5 : PySem.Challenge.rw_kl0186_01 = PySem.Challenge.rw_kl0186_01 ∧ K = K := by
  w_on
  k_fill
  exact ⟨rfl, rfl⟩
theorem isPath {m' : Str → Option Value} {n : Str} {v : Value} (h : m' n = some v) : m' = fun z => if z = n then some v else m' z := by
  funext z
  by_cases e : z = n
  · rw [if_pos e, e, h]
  · rw [if_neg e]
theorem joinE1 {a b : Str} (h : Txt.startswith b (Str.ofString "/") = true) : joinF a b = b := if_pos (.inl h)
theorem joinE2 {a b : Str} (h : (a.length : Int) = 0) : joinF a b = b := if_pos (.inr (by (first | lia | omega)))
theorem joinE3 {a b : Str} (h : Txt.startswith b (Str.ofString "/") = false) (h1 : (a.length : Int) ≠ 0) (h2 : Txt.endswith a (Str.ofString "/") = true) : joinF a b = a ++ b := by
  unfold joinF; rw [h, if_neg (by rintro (q | q); cases q; (first | lia | omega)), if_pos h2]
theorem joinE4 {a b : Str} (h : Txt.startswith b (Str.ofString "/") = false) (h1 : (a.length : Int) ≠ 0) (h2 : Txt.endswith a (Str.ofString "/") = false) : joinF a b = a ++ (Str.ofString "/" ++ b) := by
  unfold joinF; rw [h, if_neg (by rintro (q | q); cases q; (first | lia | omega)), h2, if_neg Bool.false_ne_true]
theorem join_c (w : World) (x y : Str) (t u : Tok) (hx : x.length ≤ 1000) (hy : y.length ≤ 1000) : Ctr w 133 50 500 [.str x t, .str y u] (fun _ => True) (fun n v n' => (∃ t, v = .str (joinF x y) t) ∧ n' = n) := by
  intro dp un gd cn cs a ccd cl outer A₀ base h₀ L m news s mg mb mean Q E B F X N T hk hd hu _ ret
  obtain ⟨sh, sg, sd, stk, so⟩ := s
  dsimp only at F N ret
  refine wpAny_call ?_
  k_dflt (refine' kp_rest (binds := fun D => [(Str.ofString "a", .str x t), (Str.ofString "p", .ref D)]) B F X N T ?kA ?kF ?kK ?k6 ?k7 ?k8 ?kV ?kP ?kG ?kB ?_ ?c2 ?c3 ?c4 ?c5; (case kA => exact rfl); (case kF => exact rfl); (case kK => assumption); (case k6 => k_is); (case k7 => k_is); (case k8 => ktr_room); (case kV => kl_lit); (case kP => exact rfl); (case kG => exact fun _ => rfl); (case kB => exact fun _ => locs rfl); (case c5 => decide); (case c2 => exact rfl); (case c3 => exact rfl); (case c4 => exact rfl); k_whole; intro D' g' L' h' l1 FG' F' N' B' X' T'; (try k_lt l1); (try dsimp only); (try k_fold))
  k_steps
  (k_dflt (refine' Ctr.use (fspath_c _ _ _) ?k1 ?k2 ?k3 ?k4 ?k5 ?kK ?kd ?ku ?kp ?_; (case k1 => k_asm); (case k2 => k_asm); (case k3 => k_asm); (case k4 => k_asm); (case k5 => k_asm); (case kK => first | exact rfl | assumption); (case kd => ktr_room); (case ku => ktr_units); (case kp => trivial); intro vF tkF hF nF FF NF PF; (obtain ⟨eF1, eF2⟩ := PF; subst eF1; subst eF2); (try dsimp only); (try k_fold)))
  k_steps
  (k_dflt (refine' Ctr.use (getsep_c _ _ _) ?k1 ?k2 ?k3 ?k4 ?k5 ?kK ?kd ?ku ?kp ?_; (case k1 => k_asm); (case k2 => k_asm); (case k3 => k_asm); (case k4 => k_asm); (case k5 => k_asm); (case kK => first | exact rfl | assumption); (case kd => ktr_room); (case ku => ktr_units); (case kp => trivial); intro vG tkG hG nG FG NG PG; (obtain ⟨⟨tG, eG1⟩, eG2⟩ := PG; subst eG1; subst eG2); (try dsimp only); (try k_fold)))
  k_steps
  ((rename Fr _ _ _ _ => lF'); (with_unfolding_all refine' For_invVF lF' ?k1 ?k2 ?_; (case k1 => exact rfl); (case k2 => exact rfl); k_whole))
  k_steps
  rename_i N1
  have F1 := lF'
  clear lF'
  refine (show _ from ?_ : Stuck _)
  unfold Stuck
  refine for_one (v := .str y u) (J := fun m' nx => nx = (D', tupO [.str y u]) :: news ∧ ∃ (t' : Tok) (u' : Str → Option Value), m' = fun z => if z = Str.ofString "path" then some (.str (joinF x y) t') else u' z) rfl ?_ ?_ F1 N1 ?_ ?_
  · exact ⟨_, (N1 _ (.head _)).1, rfl, _, rfl⟩
  · exact (N1 _ (.head _)).2.1
  · intro own I h tk hown hI F2 N2
    simp only [List.cons_append] at N2
    k_steps
    (k_dflt (refine' Ctr.use (fspath_c _ _ _) ?k1 ?k2 ?k3 ?k4 ?k5 ?kK ?kd ?ku ?kp ?_; (case k1 => k_asm); (case k2 => k_asm); (case k3 => k_asm); (case k4 => k_asm); (case k5 => k_asm); (case kK => first | exact rfl | assumption); (case kd => ktr_room); (case ku => ktr_units); (case kp => trivial); intro vF tkF hF nF FF NF PF; (obtain ⟨eF1, eF2⟩ := PF; subst eF1; subst eF2); (try dsimp only); (try k_fold)))
    k_steps
    all_goals (try dsimp only [TurnP])
    all_goals (first | (have e := joinE1 (a := x) (b := y) (by assumption)) | (have e := joinE2 (a := x) (b := y) (by assumption)) | (have e := joinE3 (a := x) (b := y) (by assumption) (by assumption) (by assumption)) | (have e := joinE4 (a := x) (b := y) (by assumption) (by assumption) (by assumption)))
    all_goals exact turn_end (nx := (D', tupO [.str y u]) :: news) (by k_asm) (by k_asm) (fun p hp => hp) ⟨rfl, _, _, isPath (by rw [e]; exact rfl)⟩ hI
  · rintro m₁ news₁ h tk ⟨rfl, t', u', rfl⟩ F2 N2
    dsimp only
    k_steps
    exact ret _ _ _ _ (by k_asm) (cb_drop (by k_asm) fun p hp => .tail _ hp) ⟨⟨_, rfl⟩, rfl⟩
end Mine
namespace Mine
open PySem PySem.W PySem.Calls PyProof.Rows PySem.Spec PySem.SeqAt
theorem all_eq : ∀ (ns ms : List (Str × Tok)), ns.length = ms.length → (∀ e : Nat → Bool, (∀ j (h1 : j < ns.length) (h2 : j < ms.length), e j = (ns[j].1 == ms[j].1)) → (List.range ns.length).all e = decide (ns.map (·.1) = ms.map (·.1)))
  | [], [], _, e, _ => rfl
  | a :: r, b :: q, hl, e, he => by
    have ih := all_eq r q (Nat.succ.inj hl) (fun j => e (j + 1)) fun j h1 h2 => he (j + 1) (Nat.succ_lt_succ h1) (Nat.succ_lt_succ h2)
    have h0 := he 0 (Nat.succ_pos _) (Nat.succ_pos _)
    rw [List.length_cons, List.range_succ_eq_map, List.all_cons, List.all_map]
    show (e 0 && (List.range r.length).all fun j => e (j + 1)) = _
    rw [ih, h0]
    simp only [List.getElem_cons_zero, List.map_cons, List.cons.injEq, Bool.decide_and]
    rfl
theorem getD_at {l : List (Str × Tok)} {j : Nat} (h : j < l.length) : l.getD j default = l[j] := by rw [List.getD_eq_getElem?_getD, List.getElem?_eq_getElem h]; rfl
theorem strVal_at {nc : List (Str × Tok)} {j : Nat} (h : j < (strValues nc).toArray.size) (h' : j < nc.length) : (strValues nc).toArray[j] = .str nc[j].1 nc[j].2 := by
  simp only [List.getElem_toArray, strValues, List.getElem_map]
section
variable {prog : Program} {w : World} {A : Around} {E : Value → Shared → Prop} {s : Shared} {h₀ : Heap} {L D D' : Addr} {news : List (Addr × Obj)} {nc ns : List (Str × Tok)} {n n' : Nat}
theorem eq_T {Q : Value → Shared → Prop} (N : News h₀ L s.heap news) (hm : (D, listOf (strValues nc).toArray n) ∈ news) (hm' : (D', listOf (strValues ns).toArray n') ∈ news) (hu : A.units + 64 < cLine)
    (h : Q (.bool (decide (nc.map (·.1) = ns.map (·.1)))) s) : wpAny (model prog w) A (compareOp .Eq (.ref D) (.ref D')) Q E s := by
  have s1 : (strValues nc).toArray.size = nc.length := by rw [List.size_toArray, strVal_len]
  have s2 : (strValues ns).toArray.size = ns.length := by rw [List.size_toArray, strVal_len]
  by_cases hl : nc.length = ns.length
  · refine eq_listAt (e := fun j => (nc.getD j default).1 == (ns.getD j default).1) (News.isList N hm) (News.isList N hm') (by rw [s1, s2, hl]) (by (first | lia | omega)) ?_ ?_
    · intro j h1 h2
      have g1 : j < nc.length := by (first | lia | omega)
      have g2 : j < ns.length := by (first | lia | omega)
      rw [strVal_at h1 g1, strVal_at h2 g2, getD_at g1, getD_at g2]
      exact EqAt.str_str _ _ _ _
    · rw [s1, all_eq nc ns hl _ fun j g1 g2 => by rw [getD_at g1, getD_at g2]]
      exact h
  · refine eq_list_lengthsAt (News.isList N hm) (News.isList N hm') (by rw [s1, s2]; simpa using hl) (by (first | lia | omega)) ?_
    have e : decide (nc.map (·.1) = ns.map (·.1)) = false := decide_eq_false fun e => hl (by have := congrArg List.length e; simpa using this)
    rw [e] at h; exact h
theorem ne_T {Q : Value → Shared → Prop} (N : News h₀ L s.heap news) (hm : (D, listOf (strValues nc).toArray n) ∈ news) (hm' : (D', listOf (strValues ns).toArray n') ∈ news) (hu : A.units + 64 < cLine)
    (h : Q (.bool (!decide (nc.map (·.1) = ns.map (·.1)))) s) : wpAny (model prog w) A (compareOp .NotEq (.ref D) (.ref D')) Q E s := by
  have s1 : (strValues nc).toArray.size = nc.length := by rw [List.size_toArray, strVal_len]
  have s2 : (strValues ns).toArray.size = ns.length := by rw [List.size_toArray, strVal_len]
  by_cases hl : nc.length = ns.length
  · refine RcNeAt.lists (A := A) (e := fun j => (nc.getD j default).1 == (ns.getD j default).1) (News.isList N hm) (News.isList N hm') (by rw [s1, s2, hl]) (by (first | lia | omega)) ?_ prog w E Q ?_
    · intro j h1 h2
      have g1 : j < nc.length := by (first | lia | omega)
      have g2 : j < ns.length := by (first | lia | omega)
      rw [strVal_at h1 g1, strVal_at h2 g2, getD_at g1, getD_at g2]
      exact EqAt.str_str _ _ _ _
    · rw [s1, all_eq nc ns hl _ fun j g1 g2 => by rw [getD_at g1, getD_at g2]]
      exact h
  · refine RcNeAt.lists_lengths (News.isList N hm) (News.isList N hm') (by rw [s1, s2]; simpa using hl) (by (first | lia | omega)) prog w E Q ?_
    have e : decide (nc.map (·.1) = ns.map (·.1)) = false := decide_eq_false fun e => hl (by have := congrArg List.length e; simpa using this)
    rw [e] at h; exact h
end
end Mine
namespace Mine
open PySem PySem.W PySem.Calls PyProof.Rows
section
variable {prog : Program} {w : World} {A : Around} {E : Value → Shared → Prop} {Q : Flow → Shared → Prop} {s : Shared} {env : Env} {h₀ : Heap} {L : Addr}
/-- a while: the turn ends at the open `R`, the test's end at the open `D` -/
theorem while_T {test : Expr} {body : List Stmt} {pos : Pos} {m : Str → Option Value} {news : List (Addr × Obj)} (J : Nat → (Str → Option Value) → List (Addr × Obj) → Prop) (X : (Str → Option Value) → List (Addr × Obj) → Prop) {n₀ : Nat}
    (F : Fr h₀ L s.heap m) (N : News h₀ L s.heap news) (hJ : J n₀ m news)
    (turn : ∀ n m₁ news₁ h₁ tk₁ (R : Flow → Shared → Prop) (D : Shared → Prop), Fr h₀ L h₁ m₁ → News h₀ L h₁ news₁ → J n m₁ news₁ →
      (∀ n' m' news' h' tk, n' < n → J n' m' news' → Fr h₀ L h' m' → News h₀ L h' news' → R .next { s with heap := h', toks := tk }) →
      (∀ n' m' news' h' tk, n' < n → J n' m' news' → Fr h₀ L h' m' → News h₀ L h' news' → R .cont { s with heap := h', toks := tk }) →
      (∀ m' news' h' tk, X m' news' → Fr h₀ L h' m' → News h₀ L h' news' → D { s with heap := h', toks := tk }) →
      (∀ m' news' h' tk, X m' news' → Fr h₀ L h' m' → News h₀ L h' news' → R .brk { s with heap := h', toks := tk }) →
      (∀ v s', Q (.ret v) s' → R (.ret v) s') →
      wpAny (model prog w) A (isTrue test env (eval test env)) (fun b s₂ => if b = true then wpAny (model prog w) A (execs body env) R E s₂ else D s₂) E { s with heap := h₁, toks := tk₁ })
    (done : ∀ m' news' h' tk, X m' news' → Fr h₀ L h' m' → News h₀ L h' news' → Q .next { s with heap := h', toks := tk })
    (hE : PassesOwn (model prog w) A env E := by passes_own) :
    wpAny (model prog w) A (exec (.While test body [] pos) env) Q E s := by
  refine While_inv2 J F N hJ ?_ hE
  intro n m₁ news₁ h₁ tk₁ F₁ N₁ J₁
  refine turn n m₁ news₁ h₁ tk₁ (WhileStep2 h₀ L s J Q n) (fun s₂ => Q .next s₂) F₁ N₁ J₁ ?_ ?_ done done fun v s' q => q
  · intro n' m' news' h' tk hn hj F' N'
    exact ⟨h', tk, m', news', n', rfl, F', N', hn, hj⟩
  · intro n' m' news' h' tk hn hj F' N'
    exact ⟨h', tk, m', news', n', rfl, F', N', hn, hj⟩
end
end Mine
namespace Mine
open PySem PySem.W PySem.Calls PyProof.Rows
noncomputable def poolW : List Str := [Str.ofString "a", Str.ofString "..", Str.ofString ".", Str.ofString "", Str.ofString "it's", Str.ofString "..", Str.ofString "(b]"]
noncomputable def pieceF (z : Int) : Str := if z.fmod 8 < 7 then poolW.getD (z.fmod 8).toNat (Str.ofString "") else ⟨#[(94 + (z.fdiv 8).fmod 55202).toNat]⟩
noncomputable def rowF : Nat → Int → List Str → List Str
  | 0, _, row => row
  | k + 1, z, row => if 0 < z ∨ row = [] then rowF k (z.fdiv 8) (row ++ [pieceF z]) else row
def RowI (n : Int) (i : Nat) (z : Int) (row : List Str) : Prop := rowF i z row = rowF 3 (n.fdiv 8) []
noncomputable def headW : List Str := [Str.ofString "", Str.ofString "", Str.ofString "", Str.ofString "", Str.ofString "", Str.ofString "/", Str.ofString "//", Str.ofString "///"]
/-- what _law_word hands back -/
noncomputable def wordF (n : Int) : Str := headW.getD (n.fmod 8).toNat (Str.ofString "") ++ Txt.join (Str.ofString "/") (rowF 3 (n.fdiv 8) [])
theorem getD_len {l : List Str} {d : Str} {B : Nat} (h : ∀ c ∈ l, c.length ≤ B) (hd : d.length ≤ B) (i : Nat) : (l.getD i d).length ≤ B := by
  rw [List.getD_eq_getElem?_getD]
  cases e : l[i]? with
  | none => exact hd
  | some c => exact h c (List.mem_of_getElem? e)
theorem pieceF_len (z : Int) : (pieceF z).length ≤ 4 := by
  unfold pieceF
  split
  · exact getD_len (by decide) (by decide) _
  · show 1 ≤ 4; decide
theorem rowF_len : ∀ (k : Nat) (z : Int) (row : List Str), (∀ c ∈ row, c.length ≤ 4) → ∀ c ∈ rowF k z row, c.length ≤ 4 := by
  intro k
  induction k with
  | zero => intro z row h c hc; exact h c hc
  | succ k ih =>
    intro z row h c hc
    unfold rowF at hc
    split at hc
    · refine ih _ _ (fun d hd => ?_) c hc
      rcases List.mem_append.mp hd with hd | hd
      · exact h d hd
      · rw [List.mem_singleton.mp hd]; exact pieceF_len z
    · exact h c hc
theorem rowStep {n z : Int} {i : Nat} {row : List Str} {c : Str} (h : RowI n i z row) (hi : i ≠ 0) (hc : 0 < z ∨ row = []) (e : pieceF z = c) : RowI n (i - 1) (z.fdiv 8) (row ++ [c]) := by
  obtain ⟨j, rfl⟩ := Nat.exists_eq_succ_of_ne_zero hi
  have h' : rowF (j + 1) z row = _ := h
  unfold rowF at h'
  rw [if_pos hc, e] at h'
  exact h'
theorem rowStop {n z : Int} {i : Nat} {row : List Str} (h : RowI n i z row) (hi : i = 0) : row = rowF 3 (n.fdiv 8) [] := by
  subst hi; exact h
theorem rowStop2 {n z : Int} {i : Nat} {row : List Str} (h : RowI n i z row) (h1 : ¬ 0 < z) (h2 : ¬ row = []) : row = rowF 3 (n.fdiv 8) [] := by
  cases i with
  | zero => exact h
  | succ j =>
    have h' : rowF (j + 1) z row = _ := h
    unfold rowF at h'
    rw [if_neg (by rintro (q | q); exact h1 q; exact h2 q)] at h'
    exact h'
theorem pieceA {z : Int} {pl : List (Str × Tok)} {c : Str} (hp : pl.map (·.1) = poolW) (h : z.fmod 8 < 7) (e : (pl.map (·.1))[(z.fmod 8).toNat]? = some c) : pieceF z = c := by
  unfold pieceF
  rw [if_pos h, List.getD_eq_getElem?_getD, ← hp, e]; rfl
theorem pieceB {z : Int} (h : ¬ z.fmod 8 < 7) : pieceF z = ⟨#[(94 + (z.fdiv 8).fmod 55202).toNat]⟩ := if_neg h
end Mine
namespace Mine
open PySem PySem.W PySem.Calls PyProof.Rows
theorem fill8 : PySem.Challenge.rw_kl0186_01 = PySem.Challenge.rw_kl0186_01 ∧ K = K := by
  w_on
  k_fill
  exact ⟨rfl, rfl⟩
/-- the fields of a StringIO: newline, buf, pos -/
noncomputable abbrev sioF (P : Params) (k1 k2 k3 : Tok) (b : Str) (bt : Tok) (p : Int) (pt : Tok) : Obj :=
  dictOf [⟨PyData.keyHash P (Str.ofString "_StringIO__newline"), .str (Str.ofString "_StringIO__newline") k1, .str (Str.ofString "\n") 829⟩, ⟨PyData.keyHash P (Str.ofString "_StringIO__buf"), .str (Str.ofString "_StringIO__buf") k2, .str b bt⟩, ⟨PyData.keyHash P (Str.ofString "_StringIO__pos"), .str (Str.ofString "_StringIO__pos") k3, .int p pt⟩] 3
theorem upd_mid {D : Addr} {o o' : Obj} {A B : List (Addr × Obj)} (hA : ∀ q ∈ A, q.1 ≠ D) (hB : ∀ q ∈ B, q.1 ≠ D) : Upd D o o' (A ++ (D, o) :: B) (A ++ (D, o') :: B) := by
  induction A with
  | nil => exact .head hB
  | cons a A ih => exact .tail (hA a (.head _)) (ih fun q hq => hA q (.tail _ hq))
theorem mem_mid {D : Addr} {o : Obj} {A B : List (Addr × Obj)} : (D, o) ∈ A ++ (D, o) :: B := List.mem_append_right _ (.head _)
theorem mem_rest {p q : Addr × Obj} {A B : List (Addr × Obj)} (h : q ∈ B) : q ∈ A ++ p :: B := List.mem_append_right _ (.tail _ h)
local macro_rules | `(tactic| k_mem) => `(tactic| first | exact mem_mid | exact mem_rest (by assumption))
local macro_rules | `(tactic| k_upd) => `(tactic| exact upd_mid (by assumption) (by assumption))
variable {w : World} {D Y : Addr} {k1 k2 k3 bt pt : Tok} {A C : List (Addr × Obj)} {b : Str}
theorem trans_c (w : World) (x : Str) (t : Tok) (p : Int) (hX : (Y, instObj 695 D) ∈ C) : Ctr w 472 20 100 [.ref Y, .str x t] (fun l => l = A ++ (D, sioF w.params k1 k2 k3 b bt p pt) :: C) (fun l v l' => v = .str x t ∧ l' = l) := by
  intro dp un gd cn cs a ccd cl outer A₀ base h₀ L m news s mg mb mean Q E B F X N T hk hd hu hpre ret
  subst hpre
  obtain ⟨sh, sg, sd, stk, so⟩ := s
  dsimp only at F N ret
  refine wpAny_call ?_
  k_dflt (refine' code_def (binds := [(Str.ofString "self", .ref Y), (Str.ofString "s", .str x t)]) B F X N T ?kA ?kF ?kK ?k6 ?k7 ?k8 ?k9 ?kB ?_ ?c2 ?c3 ?c4 ?c5; (case kA => exact rfl); (case kF => exact rfl); (case kK => assumption); (case k6 => k_is); (case k7 => k_is); (case k8 => ktr_room); (case k9 => exact BindsTo.of_eq rfl); (case c5 => decide); (case kB => exact locs rfl); (case c2 => exact rfl); (case c3 => exact rfl); (case c4 => exact rfl); k_whole; intro g' L' h' FG' F' N' B' X' T'; (try dsimp only); (try k_fold))
  k_steps
  exact ret _ _ _ _ (by k_asm) (by k_asm) ⟨rfl, rfl⟩
theorem check_c (w : World) (p : Int) (hX : (Y, instObj 695 D) ∈ C) : Ctr w 479 20 100 [.ref Y] (fun l => l = A ++ (D, sioF w.params k1 k2 k3 b bt p pt) :: C) (fun l v l' => v = .none ∧ l' = l) := by
  intro dp un gd cn cs a ccd cl outer A₀ base h₀ L m news s mg mb mean Q E B F X N T hk hd hu hpre ret
  subst hpre
  obtain ⟨sh, sg, sd, stk, so⟩ := s
  dsimp only at F N ret
  refine wpAny_call ?_
  k_dflt (refine' code_def (binds := [(Str.ofString "self", .ref Y)]) B F X N T ?kA ?kF ?kK ?k6 ?k7 ?k8 ?k9 ?kB ?_ ?c2 ?c3 ?c4 ?c5; (case kA => exact rfl); (case kF => exact rfl); (case kK => assumption); (case k6 => k_is); (case k7 => k_is); (case k8 => ktr_room); (case k9 => exact BindsTo.of_eq rfl); (case c5 => decide); (case kB => exact locs rfl); (case c2 => exact rfl); (case c3 => exact rfl); (case c4 => exact rfl); k_whole; intro g' L' h' FG' F' N' B' X' T'; (try dsimp only); (try k_fold))
  k_steps
  exact ret _ _ _ _ (by k_asm) (by k_asm) ⟨rfl, rfl⟩
theorem index_c (w : World) (z : Int) (t : Tok) (y : Value) (h1 : -1 ≤ z) (h2 : z ≤ 1) : Ctr w 161 20 100 [.int z t, y] (fun _ => True) (fun l v l' => (∃ t, v = .int z t) ∧ l' = l) := by
  intro dp un gd cn cs a ccd cl outer A₀ base h₀ L m news s mg mb mean Q E B F X N T hk hd hu hpre ret
  obtain ⟨sh, sg, sd, stk, so⟩ := s
  dsimp only at F N ret
  refine wpAny_call ?_
  k_dflt (refine' code_def (binds := [(Str.ofString "n", .int z t), (Str.ofString "what", y)]) B F X N T ?kA ?kF ?kK ?k6 ?k7 ?k8 ?k9 ?kB ?_ ?c2 ?c3 ?c4 ?c5; (case kA => exact rfl); (case kF => exact rfl); (case kK => assumption); (case k6 => k_is); (case k7 => k_is); (case k8 => ktr_room); (case k9 => exact BindsTo.of_eq rfl); (case c5 => decide); (case kB => exact locs rfl); (case c2 => exact rfl); (case c3 => exact rfl); (case c4 => exact rfl); k_whole; intro g' L' h' FG' F' N' B' X' T'; (try dsimp only); (try k_fold))
  k_steps
  exact ret _ _ _ _ (by k_asm) (by k_asm) ⟨⟨_, rfl⟩, rfl⟩
open PySem PySem.W PySem.Calls PyProof.Rows
theorem fill9 : PySem.Challenge.rw_kl0186_01 = PySem.Challenge.rw_kl0186_01 ∧ K = K := by
  w_on
  k_fill
  exact ⟨rfl, rfl⟩
variable {w : World} {D Y : Addr} {k1 k2 k3 bt pt : Tok} {A C : List (Addr × Obj)} {b : Str}
/-- the sign at p, as a text; none behind the end -/
noncomputable def nextF (b : Str) (p : Int) : Str := if p < b.length then ⟨#[b.cps.toList.getD p.toNat 0]⟩ else Str.ofString ""
theorem slice_last {x : Str} (h : 1 ≤ x.length) : Txt.slice x none (some (-1)) = Txt.slice x none (some ((x.length : Int) - 1)) := by
  unfold Txt.slice
  have e : Builtin.Str.strSliceIndices none (some (-1)) 1 x.length = Builtin.Str.strSliceIndices none (some ((x.length : Int) - 1)) 1 x.length := by
    unfold Builtin.Str.strSliceIndices
    simp only [show (1 : Int) > 0 by decide, if_true, show (-1 : Int) < 0 by decide]
    rw [if_neg (show ¬ (x.length : Int) - 1 < 0 by (first | lia | omega))]
    congr 1
  rw [e]
theorem slice_pad (x : Str) : Txt.slice (x ++ Str.ofString " ") none (some (-1)) = x := by
  have hl : (x ++ Str.ofString " ").length = x.length + 1 := by show (x.cps ++ (Str.ofString " ").cps).size = _; rw [Array.size_append]; rfl
  have hc : (x ++ Str.ofString " ").cps.toList = x.cps.toList ++ (Str.ofString " ").cps.toList := by show (x.cps ++ (Str.ofString " ").cps).toList = _; rw [Array.toList_append]
  have hx : x.cps.toList.length = x.length := Array.length_toList
  rw [slice_last (by (first | lia | omega))]
  have := slice_closes_to (x := x ++ Str.ofString " ") (j := ((x ++ Str.ofString " ").length : Int) - 1) (by rw [Array.length_toList]; exact ⟨by (first | lia | omega), by show _ ≤ ((x ++ Str.ofString " ").length : Int); (first | lia | omega)⟩)
  rw [beq_iff_eq.mp this, hc, hl]
  have e : (((x.length + 1 : Nat) : Int) - 1 - 0).toNat = x.cps.toList.length := by (first | lia | omega)
  rw [e]
  show (⟨((x.cps.toList ++ _).take _).toArray⟩ : Str) = x
  rw [List.take_left]
theorem slice_one {x : Str} {p : Int} (h0 : 0 ≤ p) (h : p < x.length) : Txt.slice x (some p) (some (p + 1)) = nextF x p := by
  have hx : x.cps.toList.length = x.length := Array.length_toList
  have := slice_closes (x := x) (i := p) (j := p + 1) ⟨h0, by (first | lia | omega), by (first | lia | omega)⟩
  rw [beq_iff_eq.mp this]
  unfold nextF
  rw [if_pos h]
  have e : (p + 1 - p).toNat = 1 := by (first | lia | omega)
  rw [e]
  have hp : p.toNat < x.cps.toList.length := by (first | lia | omega)
  rw [List.drop_eq_getElem_cons hp]
  show (⟨([x.cps.toList[p.toNat]]).toArray⟩ : Str) = _
  rw [List.getD_eq_getElem?_getD, List.getElem?_eq_getElem hp]; rfl
theorem nextA {b : Str} {p : Int} (h0 : 0 ≤ p) (h : p < b.length) : Txt.slice (Txt.slice b (some p) (some (p + 1)) ++ Str.ofString " ") none (some (-1)) = nextF b p := by rw [slice_pad, slice_one h0 h]
theorem nextB {b : Str} {p : Int} (h0 : 0 ≤ p) (h : p < b.length) (h1 : (b.length : Int) ≤ p + 1) : Txt.slice (Txt.slice b (some p) (some (b.length : Int)) ++ Str.ofString " ") none (some (-1)) = nextF b p := by
  have e : (b.length : Int) = p + 1 := by (first | lia | omega)
  have := nextA h0 h
  rwa [← e] at this
theorem nextC {b : Str} {p : Int} (h : ¬ p < b.length) : nextF b p = Str.ofString "" := if_neg h
noncomputable def stepP (b : Str) (p : Int) : Int := if p < b.length then p + 1 else p
theorem read_c (w : World) (t : Tok) (p : Int) (h0 : 0 ≤ p) (hp : p ≤ b.length) (hb : b.length ≤ 100000) (hX : (Y, instObj 695 D) ∈ C) (hA : ∀ q ∈ A, q.1 ≠ D) (hC : ∀ q ∈ C, q.1 ≠ D) :
    Ctr w 641 50 500 [.ref Y, .int 1 t] (fun l => l = A ++ (D, sioF w.params k1 k2 k3 b bt p pt) :: C) (fun l v l' => ∃ t pt, v = .str (nextF b p) t ∧ l' = A ++ (D, sioF w.params k1 k2 k3 b bt (stepP b p) pt) :: C) := by
  intro dp un gd cn cs a ccd cl outer A₀ base h₀ L m news s mg mb mean Q E B F X N T hk hd hu hpre ret
  subst hpre
  obtain ⟨sh, sg, sd, stk, so⟩ := s
  dsimp only at F N ret
  refine wpAny_call ?_
  k_dflt (refine' code_def (binds := [(Str.ofString "self", .ref Y), (Str.ofString "size", .int 1 t)]) B F X N T ?kA ?kF ?kK ?k6 ?k7 ?k8 ?k9 ?kB ?_ ?c2 ?c3 ?c4 ?c5; (case kA => exact rfl); (case kF => exact rfl); (case kK => assumption); (case k6 => k_is); (case k7 => k_is); (case k8 => ktr_room); (case k9 => exact kp_binds (X.keeps F.keep) (fun _ => rfl)); (case c5 => decide); (case kB => exact locs rfl); (case c2 => exact rfl); (case c3 => exact rfl); (case c4 => exact rfl); k_whole; intro g' L' h' FG' F' N' B' X' T'; (try dsimp only); (try k_fold))
  k_steps
  (k_dflt (refine' Ctr.use (index_c _ _ _ _ ?h1 ?h2) ?k1 ?k2 ?k3 ?k4 ?k5 ?kK ?kd ?ku ?kp ?_; (case h1 => decide); (case h2 => decide); (case k1 => k_asm); (case k2 => k_asm); (case k3 => k_asm); (case k4 => k_asm); (case k5 => k_asm); (case kK => first | exact rfl | assumption); (case kd => ktr_room); (case ku => ktr_units); (case kp => trivial); intro vI tkI hI nI FI NI PI; (obtain ⟨⟨tI, eI1⟩, eI2⟩ := PI; subst eI1; subst eI2); (try dsimp only); (try k_fold)))
  k_steps
  (k_dflt (refine' Ctr.use (check_c _ _ hX) ?k1 ?k2 ?k3 ?k4 ?k5 ?kK ?kd ?ku ?kp ?_; (case k1 => k_asm); (case k2 => k_asm); (case k3 => k_asm); (case k4 => k_asm); (case k5 => k_asm); (case kK => first | exact rfl | assumption); (case kd => ktr_room); (case ku => ktr_units); (case kp => exact rfl); intro vC tkC hC nC FC NC PC; (obtain ⟨eC1, eC2⟩ := PC; subst eC1; subst eC2); (try dsimp only); (try k_fold)))
  k_steps
  · have hlt : ¬ p < b.length := by (first | lia | omega)
    rw [← nextC hlt]
    exact ret _ _ _ _ (by k_asm) (by k_asm) ⟨_, _, rfl, by unfold stepP; rw [if_neg hlt]⟩
  · rw [nextA h0 (by (first | lia | omega))]
    exact ret _ _ _ _ (by k_asm) (by k_asm) ⟨_, _, rfl, by unfold stepP; rw [if_pos (by (first | lia | omega))]⟩
  · rw [nextB h0 (by (first | lia | omega)) (by (first | lia | omega))]
    have e : (b.length : Int) = stepP b p := by unfold stepP; rw [if_pos (by (first | lia | omega))]; (first | lia | omega)
    exact ret _ _ _ _ (by k_asm) (by k_asm) ⟨_, _, rfl, by rw [← e]⟩
open PySem PySem.W PySem.Calls PyProof.Rows
theorem fill12 : PySem.Challenge.rw_kl0186_01 = PySem.Challenge.rw_kl0186_01 ∧ K = K := by
  w_on
  k_fill
  exact ⟨rfl, rfl⟩
section
open Builtin Builtin.Str StrLaws
noncomputable def find4 (x y : Str) (i j : Int) : Int := match occurrences x y (fromIndex x.length i) (min (fromIndex x.length j) x.length) 1 with | k :: _ => (k : Int) | [] => -1
theorem gives_find4 (x y : Str) (i j : Int) (t u v v' : Tok) : Gives («str.find» ⟨[.str x t, .str y u, .int i v, .int j v'], []⟩) (.int (find4 x y i j)) := by
  show Gives (match occurrences x y (fromIndex x.length i) (min (fromIndex x.length j) x.length) 1 with | k :: _ => retInt k | [] => (do rule "str.find.not-found"; retInt (-1))) _
  unfold find4
  cases occurrences x y (fromIndex x.length i) (min (fromIndex x.length j) x.length) 1 with
  | nil => exact .rule (.of_eq rfl)
  | cons k _ => exact .of_eq rfl
theorem call_find4 {prog : Program} {w : World} {A : Around} {E : Value → Shared → Prop} {s : Shared} {x y : Str} {t u v v' : Tok} {i j : Int} {Q : Value → Shared → Prop} (hq : Q (.int (find4 x y i j) s.toks) { s with toks := s.toks + 1 }) : wpAny (model prog w) A (call (.builtin "str.find") [.str x t, .str y u, .int i v, .int j v']) Q E s :=
  call_gives F.slot_str_find (typeIs_str _ _ _) F.entry_str_find (F.args_str_find_4 _ _ _ _) (gives_find4 x y i j t u v v') hq
theorem occ_stays (s sub : Str) (hi : Nat) : ∀ (l : List Nat) (st : Array Nat × Nat), st.fst.size = 1 → (forIn l st (occBody s sub hi 1)).run.fst = st.fst
  | [], st, h => rfl
  | a :: l, st, h => by
    rw [List.forIn_cons]
    unfold occBody
    rw [if_neg (by rw [h]; (first | lia | omega))]
    exact occ_stays s sub hi l _ h
theorem occ_first (x : Str) (c : Nat) : ∀ (n lo free : Nat), lo + n = x.length + 1 → free ≤ lo →
    (forIn (List.range' lo n) ((#[] : Array Nat), free) (occBody x ⟨#[c]⟩ x.length 1)).run.fst.toList = if lo + ((x.cps.toList.drop lo).takeWhile (· ≠ c)).length < x.length then [lo + ((x.cps.toList.drop lo).takeWhile (· ≠ c)).length] else []
  | 0, lo, free, h, _ => by
    have : ¬ lo + ((x.cps.toList.drop lo).takeWhile (· ≠ c)).length < x.length := by (first | lia | omega)
    rw [if_neg this]; rfl
  | n + 1, lo, free, h, hf => by
    rw [List.range'_succ, List.forIn_cons]
    have hx : x.cps.toList.length = x.length := Array.length_toList
    have hs := subAt_one x c lo
    by_cases hc : x.cps.toList[lo]? = some c
    · have h2 := hs.mpr hc
      obtain ⟨hlt, he⟩ := List.getElem?_eq_some_iff.mp hc
      have e : (x.cps.toList.drop lo).takeWhile (· ≠ c) = [] := by rw [List.drop_eq_getElem_cons hlt, he]; simp
      rw [e, List.length_nil, Nat.add_zero, if_pos (by (first | lia | omega))]
      unfold occBody
      rw [if_pos ⟨⟨⟨by simp, hf⟩, h2.1⟩, h2.2⟩]
      have := occ_stays x ⟨#[c]⟩ x.length (List.range' (lo + 1) n) (((#[] : Array Nat), free).fst.push lo, lo + (⟨#[c]⟩ : Str).length) rfl
      show (forIn _ _ (occBody x ⟨#[c]⟩ x.length 1)).run.fst.toList = _
      rw [this]; rfl
    · have hn : ¬ (((((#[] : Array Nat), free).fst.size < 1 ∧ ((#[] : Array Nat), free).snd ≤ lo) ∧ lo + (⟨#[c]⟩ : Str).length ≤ x.length) ∧ subAt x ⟨#[c]⟩ lo = true) := fun h => hc (hs.mp ⟨h.1.2, h.2⟩)
      have ih := occ_first x c n (lo + 1) free (by (first | lia | omega)) (by (first | lia | omega))
      have step : (forIn (List.range' (lo + 1) n) ((#[] : Array Nat), free) (occBody x ⟨#[c]⟩ x.length 1)).run.fst.toList = if lo + ((x.cps.toList.drop lo).takeWhile (· ≠ c)).length < x.length then [lo + ((x.cps.toList.drop lo).takeWhile (· ≠ c)).length] else [] := by
        rw [ih]
        by_cases hl : lo < x.cps.toList.length
        · have hne : x.cps.toList[lo] ≠ c := fun e => hc (by rw [List.getElem?_eq_getElem hl, e])
          have e : ((x.cps.toList.drop lo).takeWhile (· ≠ c)).length = ((x.cps.toList.drop (lo + 1)).takeWhile (· ≠ c)).length + 1 := by
            rw [List.drop_eq_getElem_cons hl, List.takeWhile_cons_of_pos (by simpa using hne), List.length_cons]
          rw [e]
          have e2 : lo + 1 + ((x.cps.toList.drop (lo + 1)).takeWhile (· ≠ c)).length = lo + (((x.cps.toList.drop (lo + 1)).takeWhile (· ≠ c)).length + 1) := by (first | lia | omega)
          rw [e2]
        · rw [if_neg (by (first | lia | omega)), if_neg (by (first | lia | omega))]
      have u : occBody x ⟨#[c]⟩ x.length 1 lo ((#[] : Array Nat), free) = pure (ForInStep.yield ((#[] : Array Nat), free)) := by unfold occBody; rw [if_neg hn]
      rw [u]
      exact step
/-- the place behind the line's end -/
noncomputable def lineEnd (b : Str) (p : Int) : Int :=
  if p < b.length then min (p + ((b.cps.toList.drop p.toNat).takeWhile (· ≠ 10)).length + 1) b.length else p
theorem find4_nl {b : Str} {p : Int} (h0 : 0 ≤ p) (h : p < b.length) : find4 b (Str.ofString "\n") p b.length = if p + ((b.cps.toList.drop p.toNat).takeWhile (· ≠ 10)).length < b.length then p + ((b.cps.toList.drop p.toNat).takeWhile (· ≠ 10)).length else -1 := by
  have e1 : fromIndex b.length p = p.toNat := by unfold fromIndex; rw [if_neg (by (first | lia | omega))]; (first | lia | omega)
  have e2 : min (fromIndex b.length b.length) b.length = b.length := by unfold fromIndex; rw [if_neg (by (first | lia | omega))]; (first | lia | omega)
  unfold find4
  rw [e1, e2]
  have := occ_first b 10 (b.length + 1 - p.toNat) p.toNat p.toNat (by (first | lia | omega)) (Nat.le_refl _)
  rw [← occ_eq] at this
  show (match occurrences b ⟨#[10]⟩ p.toNat b.length 1 with | k :: _ => (k : Int) | [] => -1) = _
  rw [this]
  generalize ((b.cps.toList.drop p.toNat).takeWhile (· ≠ 10)).length = n
  obtain ⟨k, hk⟩ : ∃ k : Nat, p = k := ⟨p.toNat, by (first | lia | omega)⟩
  subst hk
  rw [Int.toNat_natCast]
  by_cases hc : k + n < b.length
  · rw [if_pos hc, if_pos (by exact_mod_cast hc)]; rfl
  · rw [if_neg hc, if_neg (by exact_mod_cast hc)]
end
variable {p : Int} {w : World} {D Y : Addr} {k1 k2 k3 bt pt : Tok} {A C : List (Addr × Obj)} {b : Str}
theorem lineEnd1 (h : (b.length : Int) ≤ p) : lineEnd b p = p := by unfold lineEnd; rw [if_neg (by (first | lia | omega))]
theorem lineEnd2 (h0 : 0 ≤ p) (h : ¬ (b.length : Int) ≤ p) (hf : 0 ≤ find4 b (Str.ofString "\n") p b.length) : lineEnd b p = find4 b (Str.ofString "\n") p b.length + 1 := by
  have e := find4_nl (b := b) h0 (by (first | lia | omega))
  unfold lineEnd
  rw [if_pos (by (first | lia | omega))]
  by_cases hc : p + ((b.cps.toList.drop p.toNat).takeWhile (· ≠ 10)).length < b.length
  · rw [if_pos hc] at e; rw [e]; (first | lia | omega)
  · rw [if_neg hc] at e; rw [e] at hf; (first | lia | omega)
theorem lineEnd3 (h0 : 0 ≤ p) (h : ¬ (b.length : Int) ≤ p) (hf : ¬ 0 ≤ find4 b (Str.ofString "\n") p b.length) : lineEnd b p = b.length := by
  have e := find4_nl (b := b) h0 (by (first | lia | omega))
  unfold lineEnd
  rw [if_pos (by (first | lia | omega))]
  by_cases hc : p + ((b.cps.toList.drop p.toNat).takeWhile (· ≠ 10)).length < b.length
  · rw [if_pos hc] at e; rw [e] at hf; (first | lia | omega)
  · (first | lia | omega)
theorem line_c (w : World) (t : Tok) (p : Int) (h0 : 0 ≤ p) (hp : p ≤ b.length) (hb : b.length ≤ 100000) (hX : (Y, instObj 695 D) ∈ C) (hA : ∀ q ∈ A, q.1 ≠ D) (hC : ∀ q ∈ C, q.1 ≠ D) :
    Ctr w 493 50 500 [.ref Y, .int (-1) t] (fun l => l = A ++ (D, sioF w.params k1 k2 k3 b bt p pt) :: C) (fun l v l' => ∃ u t pt, v = .str u t ∧ l' = A ++ (D, sioF w.params k1 k2 k3 b bt (lineEnd b p) pt) :: C) := by
  intro dp un gd cn cs a ccd cl outer A₀ base h₀ L m news s mg mb mean Q E B F X N T hk hd hu hpre ret
  subst hpre
  obtain ⟨sh, sg, sd, stk, so⟩ := s
  dsimp only at F N ret
  refine wpAny_call ?_
  k_dflt (refine' code_def (binds := [(Str.ofString "self", .ref Y), (Str.ofString "limit", .int (-1) t)]) B F X N T ?kA ?kF ?kK ?k6 ?k7 ?k8 ?k9 ?kB ?_ ?c2 ?c3 ?c4 ?c5; (case kA => exact rfl); (case kF => exact rfl); (case kK => assumption); (case k6 => k_is); (case k7 => k_is); (case k8 => ktr_room); (case k9 => exact BindsTo.of_eq rfl); (case c5 => decide); (case kB => exact locs rfl); (case c2 => exact rfl); (case c3 => exact rfl); (case c4 => exact rfl); k_whole; intro g' L' h' FG' F' N' B' X' T'; (try dsimp only); (try k_fold))
  k_steps
  · exact ret _ _ _ _ (by k_asm) (by k_asm) ⟨_, _, _, rfl, by rw [lineEnd1 (by assumption)]⟩
  (k_dflt (refine call_find4 ?_))
  k_steps
  · exact ret _ _ _ _ (by k_asm) (by k_asm) ⟨_, _, _, rfl, by rw [lineEnd2 h0 (by assumption) (by assumption)]; rfl⟩
  · exact ret _ _ _ _ (by k_asm) (by k_asm) ⟨_, _, _, rfl, by rw [lineEnd3 h0 (by assumption) (by assumption)]⟩
theorem readline_c (w : World) (p : Int) (h0 : 0 ≤ p) (hp : p ≤ b.length) (hb : b.length ≤ 100000) (hX : (Y, instObj 695 D) ∈ C) (hA : ∀ q ∈ A, q.1 ≠ D) (hC : ∀ q ∈ C, q.1 ≠ D) :
    Ctr w 649 80 800 [.ref Y] (fun l => l = A ++ (D, sioF w.params k1 k2 k3 b bt p pt) :: C) (fun l v l' => ∃ u t pt, v = .str u t ∧ l' = A ++ (D, sioF w.params k1 k2 k3 b bt (lineEnd b p) pt) :: C) := by
  intro dp un gd cn cs a ccd cl outer A₀ base h₀ L m news s mg mb mean Q E B F X N T hk hd hu hpre ret
  subst hpre
  obtain ⟨sh, sg, sd, stk, so⟩ := s
  dsimp only at F N ret
  refine wpAny_call ?_
  k_dflt (refine' code_def (binds := [(Str.ofString "self", .ref Y), (Str.ofString "size", .int (-1) 1033)]) B F X N T ?kA ?kF ?kK ?k6 ?k7 ?k8 ?k9 ?kB ?_ ?c2 ?c3 ?c4 ?c5; (case kA => exact rfl); (case kF => exact rfl); (case kK => assumption); (case k6 => k_is); (case k7 => k_is); (case k8 => ktr_room); (case k9 => exact kp_binds (X.keeps F.keep) (fun _ => rfl)); (case c5 => decide); (case kB => exact locs rfl); (case c2 => exact rfl); (case c3 => exact rfl); (case c4 => exact rfl); k_whole; intro g' L' h' FG' F' N' B' X' T'; (try dsimp only); (try k_fold))
  k_steps
  (k_dflt (refine' Ctr.use (index_c _ _ _ _ ?h1 ?h2) ?k1 ?k2 ?k3 ?k4 ?k5 ?kK ?kd ?ku ?kp ?_; (case h1 => decide); (case h2 => decide); (case k1 => k_asm); (case k2 => k_asm); (case k3 => k_asm); (case k4 => k_asm); (case k5 => k_asm); (case kK => first | exact rfl | assumption); (case kd => ktr_room); (case ku => ktr_units); (case kp => trivial); intro vI tkI hI nI FI NI PI; (obtain ⟨⟨tI, eI1⟩, eI2⟩ := PI; subst eI1; subst eI2); (try dsimp only); (try k_fold)))
  k_steps
  (k_dflt (refine' Ctr.use (check_c _ _ hX) ?k1 ?k2 ?k3 ?k4 ?k5 ?kK ?kd ?ku ?kp ?_; (case k1 => k_asm); (case k2 => k_asm); (case k3 => k_asm); (case k4 => k_asm); (case k5 => k_asm); (case kK => first | exact rfl | assumption); (case kd => ktr_room); (case ku => ktr_units); (case kp => exact rfl); intro vC tkC hQ nC FC NC PC; (obtain ⟨eC1, eC2⟩ := PC; subst eC1; subst eC2); (try dsimp only); (try k_fold)))
  k_steps
  (k_dflt (refine' Ctr.use (line_c _ _ _ h0 hp hb hX hA hC) ?k1 ?k2 ?k3 ?k4 ?k5 ?kK ?kd ?ku ?kp ?_; (case k1 => k_asm); (case k2 => k_asm); (case k3 => k_asm); (case k4 => k_asm); (case k5 => k_asm); (case kK => first | exact rfl | assumption); (case kd => ktr_room); (case ku => ktr_units); (case kp => exact rfl); intro vJ tkJ hJ nJ FJ NJ PJ; (obtain ⟨uJ, tJ, pJ, eJ1, eJ2⟩ := PJ; subst eJ1; subst eJ2); (try dsimp only); (try k_fold)))
  k_steps
  exact ret _ _ _ _ (by k_asm) (by k_asm) ⟨_, _, _, rfl, rfl⟩
end Mine
namespace Mine
open PySem PySem.W PySem.Calls PyProof.Rows
theorem fill7 : PySem.Challenge.rw_kl0186_01 = PySem.Challenge.rw_kl0186_01 ∧ K = K := by
  w_on
  k_fill
  exact ⟨rfl, rfl⟩
theorem cb_swap {h₀ h : Heap} {L : Addr} {a b : Addr × Obj} {r : List (Addr × Obj)} (N : News h₀ L h (a :: b :: r)) : News h₀ L h (b :: a :: r) := cb_drop N fun p hp => by
  simp only [List.mem_cons] at hp ⊢
  rcases hp with h | h | h <;> simp only [h, true_or, or_true]
theorem under_tc {dp un : Nat} {gd : Option (List Code)} {cn : Str} {cs : Scope} {a : Addr} {ccd : Value} {cl : List (Str × Addr)} {outer : List Env} {L C : Addr} {vs : List Value} {kw : List (Str × Value)} :
    (ktrTop dp un gd cn cs L a ccd cl outer).under (.builtin "type.__call__" ⟨.ref C :: vs, kw⟩) = ktrTop (dp + 1) (un + 1) gd cn cs L a ccd cl outer := rfl
theorem objNew_S {w : World} {A : Around} {E : Value → Shared → Prop} {s : Shared} {h₀ : Heap} {L : Addr} {m : Str → Option Value} {news : List (Addr × Obj)} {Q : Value → Shared → Prop} (X₀ : (K w.params).In h₀) (F : Fr h₀ L s.heap m) (N : News h₀ L s.heap news)
    (h : ∀ x dx h', Fr h₀ L h' m → News h₀ L h' ((x, instObj 695 dx) :: (dx, emptyDict) :: news) → (∀ p ∈ news, p.1 < dx) → dx < x → Q (.ref x) { s with heap := h' }) :
    wpAny (model pw w) A (call (.builtin "object.__new__") [.ref 695]) Q E s := by
  obtain ⟨hh, g, d, t, os⟩ := s
  refine wpAny_call (new_S (X₀.keeps F.keep) ?_)
  have := (N.push F emptyDict).push (F.push _) (instObj 695 hh.objs.size)
  rw [Heap.size_push] at this
  exact h _ hh.objs.size _ ((F.push _).push _) this (fun p hp => Heap.lt_size (N p hp).1) (Nat.lt_succ_self _)
set_option maxHeartbeats 4000000 in
theorem sio_c (w : World) (x : Str) (t : Tok) (hx : x.length ≤ 100000) : Ctr w 695 100 2000 [.str x t] (fun _ => True) (fun l v l' => ∃ y d k1 k2 k3 bt pt, v = .ref y ∧ l' = (d, sioF w.params k1 k2 k3 x bt 0 pt) :: (y, instObj 695 d) :: l ∧ AllLt d l ∧ d < y) := by
  intro dp un gd cn cs a ccd cl outer A₀ base h₀ L m news s mg mb mean Q E B F X N T hk hd hu _ ret
  obtain ⟨sh, sg, sd, stk, so⟩ := s
  dsimp only at F N ret
  refine wpAny_call ?_
  refine make_S X F ?_
  rw [under_tc]
  k_dflt (refine' kp_both (vs := [.str x t]) (nm := Str.ofString "kwargs") (nr := Str.ofString "args") (ex := []) (front := [(Str.ofString "cls", .ref 695)]) (DD := []) B F X N T ?kA ?kF ?kK ?k6 ?k7 ?k8 ?kV ?kX ?kR ?kM ?kD ?kE ?kf ?kP ?kG ?kH ?kB ?_ ?c2 ?c3 ?c4 ?c5; (case kA => exact rfl); (case kF => exact rfl); (case kK => assumption); (case k6 => k_is); (case k7 => k_is); (case k8 => ktr_room); (case kV => exact rfl); (case kX => exact rfl); (case kR => exact rfl); (case kM => exact rfl); (case kD => exact rfl); (case kE => exact .nil); (case kf => kernel_rfl!); (case kP => exact rfl); (case kG => exact fun _ => rfl); (case kH => exact fun _ _ => rfl); (case kB => exact fun _ _ => locs rfl); (case c5 => decide); (case c2 => exact rfl); (case c3 => exact rfl); (case c4 => exact rfl))
  intro C D o g' L' h1 tk1 l1 l2 _ _ _ FG' F' N' B' X' T'
  (try k_lt l1)
  (try dsimp only)
  (try k_fold)
  k_steps
  (k_dflt (refine' objNew_S ?k1 ?k2 ?k3 ?_; (case k1 => k_asm); (case k2 => k_asm); (case k3 => k_asm); k_whole; intro x1 d1 h2 F2 N2 l3 l4; (try k_lt l3); (try k_lt2 l4)))
  k_steps
  rename_i kF kN kT kX
  dsimp only at kF kN
  have N2 : News h₀ L h2 ((x1, instObj 695 d1) :: (d1, emptyDict) :: news) := cb_drop kN fun p hp => by
    simp only [List.mem_cons] at hp ⊢
    rcases hp with h | h | h <;> simp only [h, true_or, or_true]
  have lx : AllLt d1 news := l3.2.2
  clear kN kT kX l3 F' N' B' X' T' FG'
  refine ⟨x1, d1, rfl, (N2 _ (.head _)).1, X.keeps kF.keep, ?_⟩
  rw [under_tc]
  k_dflt (refine' code_def (binds := [(Str.ofString "self", .ref x1), (Str.ofString "initial_value", .str x t), (Str.ofString "newline", .str (Str.ofString "\n") 829)]) B kF X N2 T ?kA ?kF ?kK ?k6 ?k7 ?k8 ?k9 ?kB ?_ ?c2 ?c3 ?c4 ?c5; (case kA => exact rfl); (case kF => exact rfl); (case kK => assumption); (case k6 => k_is); (case k7 => k_is); (case k8 => ktr_room); (case k9 => exact kp_binds (X.keeps kF.keep) (fun _ => rfl)); (case kB => exact locs rfl); (case c5 => decide); (case c2 => exact rfl); (case c3 => exact rfl); (case c4 => exact rfl); k_whole; intro g' L' h' FG' F' N' B' X' T'; (try dsimp only); (try k_fold))
  k_steps
  (k_dflt (refine' Ctr.use (trans_c (A := []) (C := (_, instObj 695 _) :: _) w _ _ 0 (List.Mem.head _)) ?k1 ?k2 ?k3 ?k4 ?k5 ?kK ?kd ?ku ?kp ?_; (case kp => exact rfl); (case k4 => exact cb_swap (by k_asm)); (case k1 => k_asm); (case k2 => k_asm); (case k3 => k_asm); (case k5 => k_asm); (case kK => first | exact rfl | assumption); (case kd => ktr_room); (case ku => ktr_units); intro vC tkC hC nC FC NC PC; (obtain ⟨eC1, eC2⟩ := PC; subst eC1; subst eC2); (try dsimp only [List.nil_append]); (try k_fold)))
  k_steps
  exact ret _ _ _ _ (by k_asm) (by k_asm) ⟨x1, d1, _, _, _, _, _, rfl, rfl, lx, l4⟩
end Mine
namespace Mine
open PySem PySem.W PySem.Calls PyProof.Rows
noncomputable abbrev tDq : String := "collections.deque"
/-- a deque that stands in the heap: k counts its changes -/
noncomputable abbrev dqO (k : Int) (xs : List Value) : Obj := { cls := .type "collections.deque", data := .fields (#[.none, .int k 0] ++ xs.toArray) }
theorem mro_dq : mroOf (.type "collections.deque") = pure [.type "collections.deque", .type "object"] := by rw [mroOf_type]; kernel_rfl
theorem new_dq : typeLookup (.type "collections.deque") "__new__" = pure (some (.builtin "collections.deque.__new__")) := by rw [typeLookup_type, builtinLookup_eq_fast]; kernel_rfl
theorem slot_dq_init : Slot "collections.deque" "__init__" "collections.deque.__init__" :=
  .of (owner := "collections.deque") (n := "__init__") (by rw [typeLookup_type, builtinLookup_eq_fast]; kernel_rfl) (by decide +kernel) (by decide +kernel) (by decide +kernel)
    (by first | exact .inl (by decide +kernel) | exact .inr (by decide +kernel)) (by rw [isSubtype_type]; kernel_rfl)
theorem sub_dq : isSubtype (.type "collections.deque") (.type "collections.deque") = pure true := by rw [isSubtype_type]; kernel_rfl
theorem called_dq : TypeCalled "collections.deque" "collections.deque.__new__" "collections.deque.__init__" :=
  ⟨by decide +kernel, by decide +kernel, ⟨_, _, mro_dq⟩, madeBy_type mro_dq new_dq (by decide +kernel), by decide +kernel, sub_dq, slot_dq_init⟩
theorem typeCall_dq : checkTypeCall "collections.deque" ⟨[], []⟩ = pure () := by kernel_rfl
theorem newCall_dq : checkBuiltinCall "collections.deque.__new__" ⟨[.type "collections.deque"], []⟩ = pure () := by kernel_rfl
theorem entry_dq_new : entryFor table "collections.deque.__new__" = some Builtin.«collections.deque.__new__» := entryFor_of_tree (by kernel_rfl)
theorem entry_dq_init : entryFor table "collections.deque.__init__" = some Builtin.«collections.deque.__init__» := entryFor_of_tree (by kernel_rfl)
theorem plain_dq_new : plainId "collections.deque.__new__" = true := by decide +kernel
theorem args_dq_init (a : Value) : argsOk "collections.deque.__init__" ⟨[a], []⟩ := by
  unfold argsOk; kernel_rfl
theorem slot_dq_append : Slot "collections.deque" "append" "collections.deque.append" :=
  .of (owner := "collections.deque") (n := "append") (by rw [typeLookup_type, builtinLookup_eq_fast]; kernel_rfl) (by decide +kernel) (by decide +kernel) (by decide +kernel)
    (by first | exact .inl (by decide +kernel) | exact .inr (by decide +kernel)) (by rw [isSubtype_type]; kernel_rfl)
theorem entry_dq_append : entryFor table "collections.deque.append" = some Builtin.«collections.deque.append» := entryFor_of_tree (by kernel_rfl)
theorem args_dq_append (a b : Value) : argsOk "collections.deque.append" ⟨[a, b], []⟩ := by
  unfold argsOk; kernel_rfl
theorem slot_dq_pop : Slot "collections.deque" "pop" "collections.deque.pop" :=
  .of (owner := "collections.deque") (n := "pop") (by rw [typeLookup_type, builtinLookup_eq_fast]; kernel_rfl) (by decide +kernel) (by decide +kernel) (by decide +kernel)
    (by first | exact .inl (by decide +kernel) | exact .inr (by decide +kernel)) (by rw [isSubtype_type]; kernel_rfl)
theorem entry_dq_pop : entryFor table "collections.deque.pop" = some Builtin.«collections.deque.pop» := entryFor_of_tree (by kernel_rfl)
theorem args_dq_pop (a : Value) : argsOk "collections.deque.pop" ⟨[a], []⟩ := by
  unfold argsOk; kernel_rfl
theorem plainAttrs_dq : PlainAttrs "collections.deque" := by
  first
  | exact ⟨⟨"collections.deque.__getattribute__", by rw [typeLookup_type, builtinLookup_eq_fast]; kernel_rfl, by decide +kernel⟩, by rw [typeLookup_type, builtinLookup_eq_fast]; kernel_rfl⟩
  | exact ⟨⟨"object.__getattribute__", by rw [typeLookup_type, builtinLookup_eq_fast]; kernel_rfl, by decide +kernel⟩, by rw [typeLookup_type, builtinLookup_eq_fast]; kernel_rfl⟩
theorem type_dq_append : typeOf (.builtin "collections.deque.append") = pure (.type "method_descriptor") := by show builtinType _ = _; rw [builtinType_eq_fast]; kernel_rfl
theorem type_dq_pop : typeOf (.builtin "collections.deque.pop") = pure (.type "method_descriptor") := by show builtinType _ = _; rw [builtinType_eq_fast]; kernel_rfl
theorem slot_dq_len : Slot "collections.deque" "__len__" "collections.deque.__len__" :=
  .of (owner := "collections.deque") (n := "__len__") (by rw [typeLookup_type, builtinLookup_eq_fast]; kernel_rfl) (by decide +kernel) (by decide +kernel) (by decide +kernel)
    (by first | exact .inl (by decide +kernel) | exact .inr (by decide +kernel)) (by rw [isSubtype_type]; kernel_rfl)
theorem entry_dq_len : entryFor table "collections.deque.__len__" = some Builtin.«collections.deque.__len__» := entryFor_of_tree (by kernel_rfl)
theorem args_dq_len (a : Value) : argsOk "collections.deque.__len__" ⟨[a], []⟩ := by
  unfold argsOk; kernel_rfl
theorem noBool_dq : typeLookup (.type "collections.deque") "__bool__" = pure none := by rw [typeLookup_type, builtinLookup_eq_fast]; kernel_rfl
end Mine
namespace Mine
open PySem PySem.W PySem.Calls PyProof.Rows
section
variable {h₀ : Heap} {L : Addr} {m : Str → Option Value} {news news' : List (Addr × Obj)}
theorem led_upd {h h' : Heap} {D : Addr} {o o' : Obj} (F : Fr h₀ L h m) (N : News h₀ L h news) (U : Upd D o o' news news') (hs : Heap.SameBut D h h') (ho : h'.get? D = some o') : Fr h₀ L h' m ∧ News h₀ L h' news' := by
  obtain ⟨pre, post, rfl, rfl, a, b⟩ := U.split
  have z := N (D, o) (List.mem_append.mpr (.inr (.head _)))
  exact ⟨F.change hs z.2.1 z.2.2, news_set N a b hs ho⟩
theorem upd_mem {D : Addr} {o o' : Obj} (U : Upd D o o' news news') : (D, o) ∈ news := by
  obtain ⟨pre, post, rfl, rfl, a, b⟩ := U.split
  exact List.mem_append.mpr (.inr (.head _))
variable {prog : Program} {w : World} {A : Around} {E : Value → Shared → Prop} {s : Shared}
theorem append_dq {D : Addr} {k : Int} {x : Value} {Q : Value → Shared → Prop} (F : Fr h₀ L s.heap m) (N : News h₀ L s.heap news) (U : Upd D (dqO k []) (dqO (k + 1) [x]) news news')
    (h : ∀ h', Fr h₀ L h' m → News h₀ L h' news' → Q .none { s with heap := h' }) : wpAny (model prog w) A (call (.builtin "collections.deque.append") [.ref D, x]) Q E s := by
  have hg := (N _ (upd_mem U)).1
  have hT : s.TypeIs (.ref D) "collections.deque" := ⟨_, hg, rfl⟩
  refine wpAny_call (codeAny_call_builtin slot_dq_append.plain entry_dq_append (slot_dq_append.check _ _ _ _ _ _ _ _ hT (args_dq_append _ _) ?_))
  obtain ⟨hp, g, d, tk, os⟩ := s
  dsimp only at hg F N
  have hn : (hp.update D (Obj.mapFields fun vs => #[vs.getD 0 .none, rawInt (k + 1)] ++ (vs.extract 2 vs.size).push x)).get? D = some (dqO (k + 1) [x]) := Heap.get?_update_self _ hg rfl
  have fin := led_upd F N U (Heap.SameBut.update hp D _) hn
  unfold Builtin.«collections.deque.append» selfAndOne Builtin.Deque.pushRight Builtin.Deque.change Builtin.Deque.state Builtin.Deque.maxlen
  wp_walk
  exact h _ fin.1 fin.2
theorem pop_dq {D : Addr} {k : Int} {x : Value} {Q : Value → Shared → Prop} (F : Fr h₀ L s.heap m) (N : News h₀ L s.heap news) (U : Upd D (dqO k [x]) (dqO (k + 1) []) news news')
    (h : ∀ h', Fr h₀ L h' m → News h₀ L h' news' → Q x { s with heap := h' }) : wpAny (model prog w) A (call (.builtin "collections.deque.pop") [.ref D]) Q E s := by
  have hg := (N _ (upd_mem U)).1
  have hT : s.TypeIs (.ref D) "collections.deque" := ⟨_, hg, rfl⟩
  refine wpAny_call (codeAny_call_builtin slot_dq_pop.plain entry_dq_pop (slot_dq_pop.check _ _ _ _ _ _ _ _ hT (args_dq_pop _) ?_))
  obtain ⟨hp, g, d, tk, os⟩ := s
  dsimp only at hg F N
  have hn : (hp.update D (Obj.mapFields fun vs => #[vs.getD 0 .none, rawInt (k + 1)] ++ (vs.extract 2 vs.size).pop)).get? D = some (dqO (k + 1) []) := Heap.get?_update_self _ hg rfl
  have fin := led_upd F N U (Heap.SameBut.update hp D _) hn
  unfold Builtin.«collections.deque.pop» selfOnly Builtin.Deque.items Builtin.Deque.change Builtin.Deque.state
  wp_walk
  exact h _ fin.1 fin.2
theorem method_dq_append {D : Addr} {k : Int} {xs : List Value} {pl : Sem Bool} {Q : Value × List Value → Shared → Prop} (N : News h₀ L s.heap news) (hm : (D, dqO k xs) ∈ news) (h : Q (.builtin "collections.deque.append", [.ref D]) s) : wpAny (model prog w) A (getMethod (.ref D) "append" pl) Q E s :=
  getMethod_builtin ⟨_, (N _ hm).1, rfl⟩ plainAttrs_dq slot_dq_append type_dq_append (fun a e => by cases e; exact ⟨_, (N _ hm).1, rfl⟩) h
theorem method_dq_pop {D : Addr} {k : Int} {xs : List Value} {pl : Sem Bool} {Q : Value × List Value → Shared → Prop} (N : News h₀ L s.heap news) (hm : (D, dqO k xs) ∈ news) (h : Q (.builtin "collections.deque.pop", [.ref D]) s) : wpAny (model prog w) A (getMethod (.ref D) "pop" pl) Q E s :=
  getMethod_builtin ⟨_, (N _ hm).1, rfl⟩ plainAttrs_dq slot_dq_pop type_dq_pop (fun a e => by cases e; exact ⟨_, (N _ hm).1, rfl⟩) h
theorem dqS {k : Int} {xs : List Value} : (#[Value.none, Value.int k 0] ++ xs.toArray).size - 2 = xs.length := by simp
theorem len_body_dq {D : Addr} {k : Int} {xs : List Value} {Q : Value → Shared → Prop} (hg : s.heap.get? D = some (dqO k xs)) (hb : xs.length ≤ 1)
    (h : Q (.int (xs.length : Nat) (s.toks + 1)) { s with toks := s.toks + 1 + 1 }) : wpAny (model prog w) A (Builtin.«len» ⟨[.ref D], []⟩) (fun fin s' => ∃ r, fin = .done (.ret r) ∧ Q r s') E s := by
  have hT : s.TypeIs (.ref D) "collections.deque" := ⟨_, hg, rfl⟩
  unfold Builtin.«len»
  refine wpAny_bind (m := oneArg "len" _) (wpAny_pure ?_)
  refine wpAny_bind (m := callSpecial? (.ref D) (Str.ofString "__len__")) (wpAny_callSpecial?_slot (name := Str.ofString "__len__") hT slot_dq_len
    (wpAny_call_entry slot_dq_len hT entry_dq_len ?_ (args_dq_len _)))
  unfold Builtin.«collections.deque.__len__» Builtin.Deque.size fieldsOf
  refine wpAny_bind (m := slotArgs "__len__" 0 _) (wpAny_pure ?_)
  refine wpAny_bind (wpAny_bind ?_)
  dsimp only
  refine wpAny_bind (wpAny_load hg ?_)
  refine wpAny_pure (wpAny_pure ?_)
  rw [dqS]
  refine wpAny_bind (wpAny_mkInt (wpAny_pure ⟨_, rfl, ?_⟩))
  refine wpAny_bind (wpAny_holding (wpAny_pure ?_))
  refine wpAny_bind (wpAny_letGo ?_)
  show wpAny _ _ (if ((xs.length : Nat) : Int) < 0 then _ else _) _ _ _
  rw [if_neg (by (first | lia | omega))]
  show wpAny _ _ (if ((xs.length : Nat) : Int) ≥ 2 ^ 63 then _ else _) _ _ _
  rw [if_neg (by (first | lia | omega))]
  exact wpAny_bind (wpAny_mkInt (wpAny_pure ⟨_, rfl, h⟩))
theorem truthy_dq {D : Addr} {k : Int} {xs : List Value} {Q : Bool → Shared → Prop} (N : News h₀ L s.heap news) (hm : (D, dqO k xs) ∈ news) (hb : xs.length ≤ 1) (h : ∀ tk, Q (!xs.isEmpty) { s with toks := tk }) : wpAny (model prog w) A (truthy (.ref D)) Q E s := by
  have hg := (N _ hm).1
  have hT : s.TypeIs (.ref D) "collections.deque" := ⟨_, hg, rfl⟩
  have hne : (((xs.length : Nat) : Int) != 0) = !xs.isEmpty := by
    cases xs with
    | nil => rfl
    | cons a r => exact bne_iff_ne.mpr (by simp only [List.length_cons]; (first | lia | omega))
  have key : wpAny (model prog w) A (runValue (.builtin "len" ⟨[.ref D], []⟩)) (fun r s' => r = .int (xs.length : Nat) (s.toks + 1) ∧ Q (!xs.isEmpty) s') E s := by
    refine wpAny_runValue (codeAny_builtin entry_len ?_)
    rw [Around.under_plainId plain_len _]
    exact wpAny_mono (len_body_dq (Q := fun r s' => r = .int (xs.length : Nat) (s.toks + 1) ∧ Q (!xs.isEmpty) s') hg hb ⟨rfl, h _⟩)
      (fun fin s' h' => by obtain ⟨r, rfl, hq⟩ := h'; exact hq) fun _ _ e => e
  unfold truthy
  first
    | refine wpAny_bind (wpAny_callSpecial?_none (name := Str.ofString "__bool__") hT noBool_dq ?_)
    | refine wpAny_bind (wpAny_pure (wpAny_bind (wpAny_callSpecial?_none (name := Str.ofString "__bool__") hT noBool_dq ?_)))
  first
    | refine wpAny_bind (wpAny_specialOf (name := Str.ofString "__len__") hT slot_dq_len.lookup ?_)
    | refine wpAny_bind (wpAny_pure (wpAny_bind (wpAny_specialOf (name := Str.ofString "__len__") hT slot_dq_len.lookup ?_)))
  first
    | exact wpAny_bind (wpAny_mono key (fun r s' h' => by obtain ⟨rfl, hq⟩ := h'; exact wpAny_pure (hne ▸ hq)) fun _ _ e => e)
    | exact wpAny_bind (wpAny_pure (wpAny_bind (wpAny_mono key (fun r s' h' => by obtain ⟨rfl, hq⟩ := h'; exact wpAny_pure (hne ▸ hq)) fun _ _ e => e)))
theorem code_dq_new {Q₁ : Value → Shared → Prop} (h : Q₁ (.ref s.heap.objs.size) { s with heap := s.heap.push (dqO 0 []) }) :
    codeAny (model prog w) A (.call (.builtin "collections.deque.__new__") ⟨[.type "collections.deque"], []⟩) (wants Q₁ E) s := by
  refine codeAny_call_builtin plain_dq_new entry_dq_new (wpAny_of_eq newCall_dq ?_)
  have hsub : isSubtype (.type "collections.deque") (.type Builtin.Deque.ty) = pure true := sub_dq
  have hmro := mro_dq
  obtain ⟨hp, g, d, tk, os⟩ := s
  unfold Builtin.«collections.deque.__new__» Builtin.Deque.newArgs Builtin.Deque.new
  wp_walk
  exact h
theorem call_dq {Q : Value → Shared → Prop} (F : Fr h₀ L s.heap m) (N : News h₀ L s.heap news)
    (h : ∀ (y : Addr) h', Fr h₀ L h' m → News h₀ L h' ((y, dqO 0 []) :: news) → AllLt y news → Q (.ref y) { s with heap := h' }) :
    wpAny (model prog w) A (call (.type "collections.deque")) Q E s := by
  refine callType_codes (Q₁ := fun obj s₁ => obj = .ref s.heap.objs.size ∧ s₁ = { s with heap := s.heap.push (dqO 0 []) }) called_dq typeCall_dq entry_dq_init (code_dq_new ⟨rfl, rfl⟩) ?_
  rintro obj s₁ ⟨rfl, rfl⟩
  have hg : (s.heap.push (dqO 0 [])).get? s.heap.objs.size = some (dqO 0 []) := Heap.get?_push_size _ rfl
  refine ⟨⟨_, hg, rfl⟩, args_dq_init _, ?_⟩
  obtain ⟨hp, g, d, tk, os⟩ := s
  dsimp only at hg F N
  unfold Builtin.«collections.deque.__init__» Builtin.Deque.clear Builtin.Deque.items
  wp_walk
  refine ⟨rfl, ?_⟩
  have fin := led_upd (F.push _) (News.push F N (dqO 0 [])) (Upd.head fun p hp => Nat.ne_of_lt (Heap.lt_size (N p hp).1)) (Heap.SameBut.update (hp.push (dqO 0 [])) hp.objs.size (Obj.mapFields fun x => x.setIfInBounds 0 .none)) (Heap.get?_update_self _ hg rfl)
  exact h _ _ fin.1 fin.2 (allLt_of fun p hp => Heap.lt_size (N p hp).1)
end
end Mine
namespace Mine
open PySem PySem.W PySem.Calls PyProof.Rows
section
variable {w : World} {prog : Program} {A : Around} {E : Value → Shared → Prop} {s : Shared} {d : Addr} {kvs : List (Int × Value)}
theorem sub_key_look : isSubtype (.type "KeyError") (.type "LookupError") = pure true := by rw [isSubtype_type]; kernel_rfl
theorem look_keep {c : Nat} {Q : Builtin.Str.Mapped → Shared → Prop} (hh : A.handled = none) (hd : (d == sysModules) = false) (hD : s.heap.DictOf (intKind prog w) d kvs) (hc : valueAt kvs (c : Int) = none)
    (h : ∀ h' tk, (∀ b o, s.heap.get? b = some o → h'.get? b = some o) → Q .keep { s with heap := h', toks := tk }) : wpAny (model prog w) A (Builtin.Str.tableLookup (.ref d) c) Q E s := by
  unfold Builtin.Str.tableLookup
  refine wpAny_bind (wpAny_attempt (wpAny_bind (wpAny_mkInt ?_)))
  refine wpAny_getItem_missing_of (knd := intKind prog w) (k := (c : Int)) (s := { s with toks := s.toks + 1 }) (intKind_is prog w _ _) hd hh hD.mapOf hc fun h' e X => ?_
  dsimp only
  obtain ⟨ob, t, he, hcl, hdd⟩ := X.there
  refine wpAny_bind (wpAny_isInstance ⟨ob, he, hcl⟩ sub_key_look ?_)
  rw [if_pos rfl]
  exact wpAny_bind (wpAny_rule (wpAny_pure (h h' _ X.keeps)))
theorem translate_s {x : Str} {t : Tok} {Q : Value → Shared → Prop} (hh : A.handled = none) (hd : (d == sysModules) = false) (hD : s.heap.DictOf (intKind prog w) d kvs) (hc : ∀ c ∈ x.cps.toList, valueAt kvs (c : Int) = none) (hf : x.cps.all (· < 128) = false) (hx : x.length ≤ 1000)
    (h : ∀ h' t tk, (∀ b o, s.heap.get? b = some o → h'.get? b = some o) → Q (.str x t) { s with heap := h', toks := tk }) : wpAny (model prog w) A (call (.builtin "str.translate") [.str x t, .ref d]) Q E s := by
  refine wpAny_call (codeAny_call_builtin PySem.F.slot_str_translate.plain PySem.F.entry_str_translate (PySem.F.slot_str_translate.check _ _ _ _ _ _ _ _ rfl (PySem.F.args_str_translate_2 _ _) ?_))
  unfold Builtin.«str.translate»
  refine wpAny_bind (m := Builtin.Str.strOneArg "translate" _) (wpAny_pure ?_)
  dsimp only
  rw [hf]
  have hx0 : (x.length == 0) = false := by
    rw [beq_eq_false_iff_ne]; intro e
    have hz : x.cps = #[] := Array.eq_empty_of_size_eq_zero e
    rw [hz] at hf; simp at hf
  rw [hx0, if_neg (by decide)]
  refine wpAny_bind (wpAny_forIn_array' _ (fun rest b s' => ∃ dn h' tk, x.cps.toList = dn ++ rest ∧ b = ((dn.map fun c => (⟨#[c]⟩ : Str)).reverse, dn.length, false, [], false) ∧ s' = { s with heap := h', toks := tk } ∧ ∀ b o, s.heap.get? b = some o → h'.get? b = some o) _ ?_ ?_ _ _ ⟨[], s.heap, s.toks, rfl, rfl, rfl, fun _ _ e => e⟩)
  · rintro c rest b s' ⟨dn, h', tk, he, rfl, rfl, hk⟩
    have hl : dn.length ≤ 1000 := by
      have := congrArg List.length he
      rw [List.length_append, Array.length_toList] at this
      have e : x.cps.size = x.length := rfl
      (first | lia | omega)
    have ht : Builtin.Str.tooLong dn.length = false := by
      unfold Builtin.Str.tooLong
      simp only [sizeLine_eq]
      simp
      (first | lia | omega)
    dsimp only
    rw [ht, if_neg (by decide), if_neg (by decide), if_neg (by decide)]
    obtain ⟨o, es, ep, ho, r⟩ := id hD
    refine wpAny_bind (look_keep (s := { s with heap := h', toks := tk }) (kvs := kvs) (prog := prog) hh hd ⟨o, es, ep, hk _ _ ho, r⟩ (hc c (by rw [he]; simp)) fun h2 tk2 hk2 => ?_)
    refine wpAny_pure ⟨dn ++ [c], h2, tk2, by rw [he]; simp, by simp, rfl, fun b o e => hk2 b o (hk b o e)⟩
  · rintro b s' ⟨dn, h', tk, he, rfl, rfl, hk⟩
    rw [List.append_nil] at he
    have hl : dn.length ≤ 1000 := by
      have := congrArg List.length he
      rw [Array.length_toList] at this
      have e : x.cps.size = x.length := rfl
      (first | lia | omega)
    have ht : Builtin.Str.tooLong dn.length = false := by
      unfold Builtin.Str.tooLong
      simp only [sizeLine_eq]
      simp
      (first | lia | omega)
    dsimp only
    rw [ht, if_neg (by decide)]
    have key : ∀ (l : List Nat) (acc : Array Nat), (List.foldl (fun acc (p : Str) => acc ++ p.cps) acc (l.map fun c => (⟨#[c]⟩ : Str))) = acc ++ l.toArray := by
      intro l
      induction l with
      | nil => intro acc; simp
      | cons c l ih => intro acc; rw [List.map_cons, List.foldl_cons, ih]; simp
    have ex : (⟨(((dn.map fun c => (⟨#[c]⟩ : Str)).reverse).reverse).foldl (fun acc p => acc ++ p.cps) #[]⟩ : Str) = x := by
      rw [List.reverse_reverse, key, ← he]
      simp
    rw [ex]
    exact wpAny_bind (wpAny_mkStr (wpAny_pure (h _ _ _ hk)))
end
end Mine
namespace Mine
open PySem PySem.W PySem.Calls PyProof.Rows
theorem typeCall_dict0 : checkTypeCall "dict" ⟨[], []⟩ = pure () := by kernel_rfl
theorem newCall_dict0 : checkBuiltinCall "dict.__new__" ⟨[.type "dict"], []⟩ = pure () := by kernel_rfl
theorem type_fk : typeOf (.builtin "dict.fromkeys") = pure (.type "classmethod_descriptor") := by show builtinType _ = _; rw [builtinType_eq_fast]; kernel_rfl
theorem entry_fk : entryFor table "dict.fromkeys" = some Builtin.«dict.fromkeys» := entryFor_of_tree (by kernel_rfl)
theorem entry_fkl : entryFor table "dict.fromkeys.loop" = some Builtin.«dict.fromkeys.loop» := entryFor_of_tree (by kernel_rfl)
theorem plain_fk : plainId "dict.fromkeys" = true := by decide +kernel
theorem plain_fkl : plainId "dict.fromkeys.loop" = true := by decide +kernel
theorem check_fk {x : PySem.Str} {t : Tok} : checkBoundCall "dict.fromkeys" ⟨[.type "dict", .str x t], []⟩ = pure () := by first | kernel_rfl | rfl
theorem isType_dict : isType (.type "dict") = pure true := by first | rfl | kernel_rfl | (unfold isType; rw [isSubtype_type]; kernel_rfl)
theorem owner_fk : (kfb_private% "ownerAndName") "dict.fromkeys" = ("dict", "fromkeys") := by first | decide +kernel | kernel_rfl
noncomputable def boundFK : Obj := { cls := .type "builtin_function_or_method", data := .fields #[.builtin "dict.fromkeys", .type "dict"] }
abbrev Old (s : Shared) (h' : Heap) : Prop := ∀ b o, s.heap.get? b = some o → h'.get? b = some o
section
variable {prog : Program} {w : World} {A : Around} {E : Value → Shared → Prop} {s : Shared}
theorem code_dict0 {Q₁ : Value → Shared → Prop} (h : Q₁ (.ref s.heap.objs.size) { s with heap := s.heap.push emptyDict }) :
    codeAny (model prog w) A (.call (.builtin "dict.__new__") ⟨[.type "dict"], []⟩) (wants Q₁ E) s := by
  refine codeAny_call_builtin PySem.F.kt_plain_dict_new PySem.F.kt_entry_dict_new (wpAny_of_eq newCall_dict0 ?_)
  have hsub := PySem.F.kt_sub_dict
  have hmro := PySem.F.kt_mro_dict
  obtain ⟨hp, g, d, tk, os⟩ := s
  unfold Builtin.«dict.__new__»
  wp_walk
  exact h
theorem call_dict0 {Q : Value → Shared → Prop} (h : Q (.ref s.heap.objs.size) { s with heap := s.heap.push emptyDict }) : wpAny (model prog w) A (call (.type "dict")) Q E s := by
  refine callType_codes (Q₁ := fun obj s₁ => obj = .ref s.heap.objs.size ∧ s₁ = { s with heap := s.heap.push emptyDict }) PySem.F.kt_called_dict typeCall_dict0 PySem.F.entry_dict_init (code_dict0 ⟨rfl, rfl⟩) ?_
  rintro obj s₁ ⟨rfl, rfl⟩
  have hg : (s.heap.push emptyDict).get? s.heap.objs.size = some emptyDict := Heap.get?_push_size _ rfl
  have hT : Shared.TypeIs { s with heap := s.heap.push emptyDict } (.ref s.heap.objs.size) "dict" := ⟨_, hg, rfl⟩
  refine ⟨hT, PySem.F.args_dict_init_1 _, ?_⟩
  unfold Builtin.«dict.__init__»
  refine wpAny_bind ?_
  unfold Builtin.Dict.selfAndRest
  refine wpAny_bind (wpAny_notOrdered_dict hT ?_)
  show wpAny _ _ (pure (s.heap.objs.size, [])) _ _ _
  refine wpAny_pure ?_
  obtain ⟨hp, g, d, tk, os⟩ := s
  wp_walk
  exact ⟨rfl, h⟩
noncomputable def fkF (kvs : List (PySem.Str × Value)) (l : List Nat) : List (PySem.Str × Value) := l.foldl (fun acc c => stored acc (⟨#[c]⟩ : PySem.Str) .none) kvs
theorem fk_loop {y I : Addr} {x : PySem.Str} {St : Nat → Heap → Prop} (W : ∀ A' : Around, A'.handled = none → Walks prog w A' I [I] [I] x.cps.size (SignAt x) St) (hh : A.handled = none) (hyI : y ≠ I) (hy : ∀ b o, s.heap.get? b = some o → b ≠ y ∧ b ≠ I) {Q : Value → Shared → Prop} :
    ∀ (j : Nat) (h : Heap) (tk : Nat) (kvs : List (PySem.Str × Value)), j ≤ x.cps.size → kvs.length ≤ 100 + (x.cps.size - j) * 0 + (x.cps.size - j) → Old s h → h.DictOf (strKind prog w) y kvs → St (x.cps.size - j) h →
      (∀ h' tk', Old s h' → h'.DictOf (strKind prog w) y (fkF kvs (x.cps.toList.drop (x.cps.size - j))) → Q (.ref y) { s with heap := h', toks := tk' }) →
      x.cps.size ≤ 1000 →
      codeAny (model prog w) A (.builtin "dict.fromkeys.loop" ⟨[.ref y, .ref I, .none], []⟩) (wants Q E) { s with heap := h, toks := tk } := by
  intro j
  induction j with
  | zero =>
    intro h tk kvs _ _ ho hd hs hq _
    refine codeAny_builtin entry_fkl ?_
    rw [Around.under_plainId plain_fkl _]
    unfold Builtin.«dict.fromkeys.loop»
    dsimp only
    refine wpAny_bind ((W A.in1 hh).done _ _ _ hs fun h' tk' hk => ?_)
    refine wpAny_pure ?_
    refine hq h' tk' (fun b o e => hk b o (by have := (hy b o e).2; simpa using this) (ho b o e)) ?_
    rw [Nat.sub_zero, List.drop_of_length_le (by rw [Array.length_toList]; exact Nat.le_refl _)]
    exact hd.extBut (fun b o hb e => hk b o (by simpa using hb) e) hyI
  | succ j ih =>
    intro h tk kvs hj hl ho hd hs hq hx
    refine codeAny_builtin entry_fkl ?_
    rw [Around.under_plainId plain_fkl _]
    unfold Builtin.«dict.fromkeys.loop»
    dsimp only
    refine wpAny_bind ((W A.in1 hh).item _ _ _ _ (by omega) hs fun v h' tk' hv hs' hk => ?_)
    obtain ⟨c, u, hc, rfl⟩ := hv
    have hd' : h'.DictOf (strKind prog w) y kvs := hd.extBut (fun b o hb e => hk b o (by simpa using hb) e) hyI
    have ho' : Old s h' := fun b o e => hk b o (by have := (hy b o e).2; simpa using this) (ho b o e)
    dsimp only
    refine wpAny_bind (wpAny_typeOf (s := { s with heap := h', toks := tk' }) hd'.typeIs ?_)
    rw [if_pos (by decide)]
    refine wpAny_bind ?_
    show wpAny _ _ (pure y) _ _ _
    refine wpAny_pure (wpAny_bind (wpAny_holding ?_))
    refine wpAny_dictSet_pairs (k := (⟨#[c]⟩ : PySem.Str)) (knd := strKind prog w) (s := { s with heap := h', toks := tk' }) (strKind_is prog w _ _) hd' (fun h2 hd2 hs2 => ?_) (by rw [sizeLine_eq]; omega)
    refine wpAny_pure ⟨plainId_quiet plain_fkl _, ?_⟩
    have e1 : x.cps.size - (j + 1) + 1 = x.cps.size - j := by omega
    have hlt : x.cps.size - (j + 1) < x.cps.toList.length := by rw [Array.length_toList]; omega
    refine ih h2 _ (stored kvs ⟨#[c]⟩ .none) (by omega) ?_ (fun b o e => hs2.extBut b o (hy b o e).1 (ho' b o e)) hd2 (e1 ▸ (W A.in1 hh).frame _ _ _ hs' fun b hb o e => hs2.extBut b o (by rw [List.mem_singleton.mp hb]; exact hyI.symm) e) ?_ hx
    · have : (stored kvs (⟨#[c]⟩ : PySem.Str) .none).length ≤ kvs.length + 1 := by
        unfold stored
        split
        · rw [List.length_map]; omega
        · simp
      omega
    · intro h3 tk3 ho3 hd3
      refine hq h3 tk3 ho3 ?_
      rw [List.drop_eq_getElem_cons hlt, e1]
      have ec : x.cps.toList[x.cps.size - (j + 1)] = c := by
        rw [← Array.getElem?_toList, List.getElem?_eq_getElem hlt] at hc
        exact Option.some.inj hc
      rw [ec]
      exact hd3
end
end Mine
namespace Mine
open PySem PySem.W PySem.Calls PyProof.Rows
section
variable {prog : Program} {w : World} {M : Model} {A : Around} {E : Value → Shared → Prop} {s : Shared} {K : Frag} {h₀ : Heap} {L : Addr} {m : PySem.Str → Option Value} {news : List (Addr × Obj)}
theorem run_get_fk {P : Fin → Shared → Prop} (h : P (.done (.ret (.ref s.heap.objs.size))) { s with heap := s.heap.push boundFK }) :
    wpAny M A (Builtin.«classmethod_descriptor.__get__» ⟨[.builtin "dict.fromkeys", .none, .type "dict"], []⟩) P E s := by
  unfold Builtin.«classmethod_descriptor.__get__»
  refine wpAny_bind (wpAny_of_eq (a := (.builtin "dict.fromkeys", none, some (.type "dict"))) (by first | rfl | kernel_rfl) ?_)
  simp only [owner_fk]
  refine wpAny_bind (wpAny_of_eq (a := .type "dict") rfl ?_)
  refine wpAny_bind (wpAny_of_eq (a := true) isType_dict ?_)
  refine KFB.if_not rfl ?_
  refine wpAny_bind (wpAny_of_eq (a := true) PySem.F.kt_sub_dict ?_)
  refine KFB.if_not rfl ?_
  exact wpAny_bind (wpAny_newObj_type (wpAny_pure h))
theorem getm_fk {pl : Sem Bool} {Q : Value × List Value → Shared → Prop} (F : Fr h₀ L s.heap m) (N : News h₀ L s.heap news) (X₀ : K.In h₀)
    (e : findCls K (.type "dict") (.type "type") (PySem.Str.ofString "fromkeys") = some (.get (.builtin "classmethod_descriptor.__get__") (.builtin "dict.fromkeys") .none (.type "dict")))
    (h : ∀ (x : Addr) h', Fr h₀ L h' m → News h₀ L h' ((x, boundFK) :: news) → AllLt x news → Q (.ref x, []) { s with heap := h', toks := s.toks + 1 }) :
    wpAny (model prog w) A (getMethod (.type "dict") (PySem.Str.ofString "fromkeys") pl) Q E s := by
  have X := X₀.keeps F.keep
  have hstub : opaqueClassAbove (.type "dict") = pure none := by unfold opaqueClassAbove; dsimp only; rw [show Manifest.isStub "dict" = false by decide +kernel]; rfl
  have ht : typeOf (.type "dict") = pure (.type "type") := by first | rfl | kernel_rfl
  have L0 : Looks (model prog w) s.heap (typeOf (.type "dict")) (.type "type") := Looks.of_pure ht
  have hg : findIn K (.type "type") "__getattribute__" = some (some (.builtin "type.__getattribute__")) := type_tga
  unfold getMethod specialOf
  refine wpAny_bind (wpAny_bind (L0.here ((looks_findIn X hg).here ?_)))
  dsimp only
  rw [if_pos canon_tga]
  refine wpAny_bind (wpAny_mono (Q := fun v => Q (v, [])) (E := E) ?_ (fun _ _ z => wpAny_pure z) fun _ _ z => z)
  have LO : Looks (model prog w) s.heap (opaqueClassAbove (.type "dict")) none := Looks.of_pure hstub
  refine cls_open X LO L0 hg (looks_hook X (r := none) (by rfl)) (by show subIn K _ _ = _; rfl) e ?_
  show wpAny _ _ (holding [.builtin "dict.fromkeys"] (call (.builtin "classmethod_descriptor.__get__") [.builtin "dict.fromkeys", .none, .type "dict"]) >>= fun v => ret v) _ _ _
  exact wpAny_bind (wpAny_holding (wpAny_call_entry KFB.slot_get type_fk KFB.entry_get (run_get_fk ⟨_, rfl, wpAny_pure (wpAny_pure (h _ _ (F.push _) (News.push F N _) (allLt_of fun p hp => Heap.lt_size (N p hp).1)))⟩) (KFB.args_get _ _ _)))
def StandsFK (x : Addr) (h : Heap) : Prop := h.get? x = some boundFK
theorem callWith_fieldsFK {pos : Pos} {u : Addr} {first : List Value} {args : List (Bool × Sem Value)} {Q : Value → Shared → Prop} (hplain : args.any (·.1) = false)
    (h : wpAny M A (evalArgs (.ref u) true args []) (fun x s₁ => StandsFK u s₁.heap ∧ wpAny M A (call (.ref u) (first ++ x.pos) x.kw) Q E s₁) E s) : wpAny M A (callWith pos (.ref u) first args []) Q E s := by
  unfold callWith
  refine wpAny_bind (wpAny_holding (wpAny_mono h (fun x s₁ h₁ => wpAny_bind (wpAny_standAt ?_)) fun _ _ x => x))
  obtain ⟨ho, hcall⟩ := h₁
  simp only [hplain, List.any_nil, Bool.or_false]
  refine wpAny_bind (m := keeperOf (.ref u)) ?_
  unfold keeperOf
  refine wpAny_bind (wpAny_load ho ?_)
  simp only [boundFK, show (Value.type "builtin_function_or_method" != Value.type "method") = true by decide, show (Value.type "builtin_function_or_method" == Value.type "builtin_function_or_method" || Value.type "builtin_function_or_method" == Value.type "method-wrapper") = true by decide, if_true]
  refine wpAny_pure ?_
  exact wpAny_bind (wpAny_mono hcall (fun r s₂ hr => wpAny_bind (wpAny_holding (wpAny_point (wpAny_pure hr)))) fun _ _ x => x)
theorem callWith_boundFK {pos : Pos} {u : Addr} {first : List Value} {env : Env} {e : Expr} {rest : List Expr} {Q : Value → Shared → Prop} (_N : News h₀ L s.heap news) (_hm : (u, boundFK) ∈ news)
    (h : wpAny M A (spliced (backTo pos (starEach (e :: rest) env))) (fun vs s₁ => StandsFK u s₁.heap ∧ wpAny M A (call (.ref u) (first ++ vs)) Q E s₁) E s)
    (he : starEach (e :: rest) env = (false, eval e env) :: starEach rest env := by rfl) (hplain : (backTo pos (starEach rest env)).any (·.1) = false := by rfl) :
    wpAny M A (callWith pos (.ref u) first (backTo pos (starEach (e :: rest) env)) []) Q E s := by
  rw [he] at h ⊢
  refine callWith_fieldsFK (by show (false || (backTo pos (starEach rest env)).any (·.1)) = false; rw [hplain]; rfl) ?_
  exact evalArgs_plain h
theorem run_fk {x : PySem.Str} {t : Tok} {Q : Value → Shared → Prop} (hh : A.handled = none) (hx : x.length ≤ 50)
    (h : ∀ (y : Addr) h' tk', s.heap.objs.size ≤ y → Old s h' → h'.DictOf (strKind prog w) y (fkF [] x.cps.toList) → Q (.ref y) { s with heap := h', toks := tk' }) :
    codeAny (model prog w) A (.builtin "dict.fromkeys" ⟨[.type "dict", .str x t], []⟩) (wants Q E) s := by
  refine codeAny_builtin entry_fk ?_
  rw [Around.under_plainId plain_fk _]
  unfold Builtin.«dict.fromkeys»
  refine wpAny_bind (wpAny_of_eq (a := true) isType_dict ?_)
  refine KFB.if_not rfl ?_
  refine wpAny_bind (wpAny_of_eq (a := true) PySem.F.kt_sub_dict ?_)
  refine KFB.if_not rfl ?_
  refine KFB.if_not rfl ?_
  refine wpAny_bind (wpAny_bind (wpAny_rule (wpAny_pure ?_)))
  refine wpAny_bind (wpAny_pure ?_)
  refine wpAny_bind (call_dict0 (wpAny_holding ?_))
  have hg : (s.heap.push emptyDict).get? s.heap.objs.size = some emptyDict := Heap.get?_push_size _ rfl
  have hT : Shared.TypeIs { s with heap := s.heap.push emptyDict } (.ref s.heap.objs.size) "dict" := ⟨_, hg, rfl⟩
  refine wpAny_bind (wpAny_of_eq (a := .type "str") rfl ?_)
  refine wpAny_bind (wpAny_typeOf hT ?_)
  refine KFB.if_not (by decide) ?_
  refine wpAny_bind (wpAny_typeOf hT ?_)
  refine KFB.if_not (by decide) ?_
  refine wpAny_bind (wpAny_pyIter_str fun o St W h0 => ?_)
  refine wpAny_pure ⟨plainId_quiet plain_fkl _, ?_⟩
  have hd0 : (s.heap.push emptyDict).DictOf (strKind prog w) s.heap.objs.size [] := Heap.DictOf.new s.heap
  have hs : (s.heap.push emptyDict).objs.size = s.heap.objs.size + 1 := Heap.size_push _ _
  refine fk_loop (s := s) W hh (by show s.heap.objs.size ≠ (s.heap.push emptyDict).objs.size; rw [hs]; exact Nat.ne_of_lt (Nat.lt_succ_self _)) (fun b o e => ?_) x.cps.size _ _ [] (Nat.le_refl _) ?_ (fun b o e => Heap.get?_push_of_some _ (Heap.get?_push_of_some _ e)) (hd0.push _) (by rw [Nat.sub_self]; exact h0) ?_ ?_
  · have := Heap.lt_size e
    refine ⟨Nat.ne_of_lt this, ?_⟩
    show b ≠ (s.heap.push emptyDict).objs.size
    rw [hs]
    exact Nat.ne_of_lt (Nat.lt_succ_of_lt this)
  · show 0 ≤ _; (first | lia | omega)
  · intro h' tk' ho hd
    rw [Nat.sub_self, List.drop_zero] at hd
    exact h _ h' tk' (Nat.le_refl _) ho hd
  · show x.length ≤ 1000; (first | lia | omega)
theorem call_fk {u : Addr} {x : PySem.Str} {t : Tok} {Q : Value → Shared → Prop} (hh : A.handled = none) (N : News h₀ L s.heap news) (hm : (u, boundFK) ∈ news) (hx : x.length ≤ 50)
    (h : ∀ (y : Addr) h' tk', s.heap.objs.size ≤ y → Old s h' → h'.DictOf (strKind prog w) y (fkF [] x.cps.toList) → Q (.ref y) { s with heap := h', toks := tk' }) : wpAny (model prog w) A (call (.ref u) [.str x t]) Q E s := by
  have ho : s.heap.get? u = some boundFK := (N _ hm).1
  refine wpAny_call (codeAny_of_tree ?_)
  show wpAny _ A.in1 (callAny (.ref u) ⟨[.str x t], []⟩) _ _ s
  simp only [callAny]
  refine wpAny_bind (wpAny_load ho ?_)
  simp only [boundFK, show (Value.type "builtin_function_or_method" == Value.type "method" || Value.type "builtin_function_or_method" == Value.type "builtin_function_or_method" || Value.type "builtin_function_or_method" == Value.type "method-wrapper") = true by decide, if_true]
  refine KFB.if_so (by decide) ?_
  refine wpAny_bind (wpAny_of_eq (a := ()) check_fk ?_)
  refine wpAny_bind (wpAny_pure (wpAny_pure ?_))
  exact ⟨plainId_quiet plain_fk _, run_fk hh hx h⟩
theorem led_new {h' : Heap} {y : Addr} {o : Obj} (F : Fr h₀ L s.heap m) (N : News h₀ L s.heap news) (hy : s.heap.objs.size ≤ y) (k : Old s h') (ho : h'.get? y = some o) : Fr h₀ L h' m ∧ News h₀ L h' ((y, o) :: news) ∧ AllLt y news := by
  have hL : L < s.heap.objs.size := F.ns.lt
  refine ⟨⟨F.ns.keeps k, fun b o e => k b o (F.keep b o e), F.above⟩, fun p hp => ?_, allLt_of fun p hp => Nat.lt_of_lt_of_le (Heap.lt_size (N p hp).1) hy⟩
  rcases List.mem_cons.mp hp with rfl | hp
  · exact ⟨ho, Nat.ne_of_gt (Nat.lt_of_lt_of_le hL hy), Heap.get?_none_of_le (Nat.le_trans F.above (Nat.le_of_lt (Nat.lt_of_lt_of_le hL hy)))⟩
  · exact ⟨k _ _ (N p hp).1, (N p hp).2⟩
end
end Mine
namespace Mine
open PySem PySem.W PySem.Calls PyProof.Rows
theorem lk_mt : typeLookup (.type "str") "maketrans" = pure (some (.builtin "str.maketrans")) := by rw [typeLookup_type, builtinLookup_eq_fast]; kernel_rfl
theorem type_mt : typeOf (.builtin "str.maketrans") = pure (.type "builtin_function_or_method") := by show builtinType _ = _; rw [builtinType_eq_fast]; kernel_rfl
theorem noget_mt : typeLookup (.type "builtin_function_or_method") "__get__" = pure none := by rw [typeLookup_type, builtinLookup_eq_fast]; kernel_rfl
theorem noga_str : typeLookup (.type "str") "__getattr__" = pure none := by rw [typeLookup_type, builtinLookup_eq_fast]; kernel_rfl
section
variable {prog : Program} {w : World} {A : Around} {E : Value → Shared → Prop} {h : Heap} {g : Array GenState} {d : Drawn} {t : Nat} {os : OsState} {x : PySem.Str} {u : Tok}
theorem mt_entry {tk : Tok} {Q : Fin → Shared → Prop} (hq : Q (.done (.ret (.builtin "str.maketrans"))) ⟨h, g, d, t, os⟩) :
    wpAny (model prog w) A (Builtin.«object.__getattribute__» ⟨[.str x u, .str "maketrans" tk], []⟩) Q E ⟨h, g, d, t, os⟩ := by
  have hT : (⟨h, g, d, t, os⟩ : Shared).TypeIs (.str x u) "str" := rfl
  have hT5 : (⟨h, g, d, t, os⟩ : Shared).TypeIs (.builtin "str.maketrans") "builtin_function_or_method" := type_mt
  have f4 := lk_mt
  have f5 := type_mt
  have f6 := noget_mt
  repeat (any_goals (first | assumption | wp_step))
theorem mt_call {tk : Tok} {R : Result → Shared → Prop} (hq : R (.ok (.ret (.builtin "str.maketrans"))) ⟨h, g, d, t, os⟩) :
    codeAny (model prog w) A (.call (.builtin "object.__getattribute__") ⟨[.str x u, .str "maketrans" tk], []⟩) R ⟨h, g, d, t, os⟩ :=
  codeAny_call_builtin PySem.F.slot_str_getattribute.plain PySem.F.entry_object_getattribute (PySem.F.slot_str_getattribute.check _ _ _ _ _ _ _ _ (show (⟨h, g, d, t, os⟩ : Shared).TypeIs (.str x u) "str" from rfl) (PySem.F.args_object_getattribute_2 _ _) (mt_entry hq))
theorem getm_mt {pl : Sem Bool} {Q : Value × List Value → Shared → Prop} (hq : Q (.builtin "str.maketrans", []) ⟨h, g, d, t + 1, os⟩) : wpAny (model prog w) A (getMethod (.str x u) (PySem.Str.ofString "maketrans") pl) Q E ⟨h, g, d, t, os⟩ := by
  have hT : (⟨h, g, d, t, os⟩ : Shared).TypeIs (.str x u) "str" := rfl
  have f2 := PySem.F.slot_str_getattribute.lookup
  have f3 := PySem.F.slot_str_getattribute.bind (.str x u)
  have f4 := lk_mt
  have f5 := type_mt
  have f6 := noga_str
  unfold getMethod
  repeat (any_goals (first | assumption | wp_step))
  refine mt_call ?_
  repeat (any_goals (first | assumption | wp_step))
end
end Mine
namespace Mine
open PySem PySem.W PySem.Calls PyProof.Rows
theorem plain_mt : plainId "str.maketrans" = true := by decide +kernel
theorem entry_mt : entryFor table "str.maketrans" = some Builtin.«str.maketrans» := entryFor_of_tree (by kernel_rfl)
theorem check_mt (a : Addr) : checkBuiltinCall "str.maketrans" ⟨[.ref a], []⟩ = pure () := by kernel_rfl
section
variable {prog : Program} {w : World} {A : Around} {E : Value → Shared → Prop}
noncomputable def mtF (cs : List Nat) : List (Int × Value) := cs.foldl (fun acc (c : Nat) => stored acc (c : Int) .none) []
theorem stored_len {kvs : List (Int × Value)} {k : Int} {v : Value} : (stored kvs k v).length ≤ kvs.length + 1 := by
  unfold stored
  split
  · rw [List.length_map]; (first | lia | omega)
  · simp
theorem mtF_len (cs : List Nat) : (mtF cs).length ≤ cs.length := by
  have key : ∀ (l : List Nat) (acc : List (Int × Value)), (l.foldl (fun acc (c : Nat) => stored acc (c : Int) .none) acc).length ≤ acc.length + l.length := by
    intro l
    induction l with
    | nil => intro acc; exact Nat.le_refl _
    | cons c l ih =>
      intro acc
      rw [List.foldl_cons, List.length_cons]
      have := ih (stored acc (c : Int) .none)
      have := stored_len (kvs := acc) (k := (c : Int)) (v := .none)
      (first | lia | omega)
  have := key cs []
  unfold mtF
  simpa using this
theorem mt_run {s : Shared} {a : Addr} {cs : List Nat} {Q : Value → Shared → Prop} (ha : (a == sysModules) = false) (hd : s.heap.DictOf (strKind prog w) a (cs.map fun c => ((⟨#[c]⟩ : PySem.Str), Value.none))) (hl : cs.length ≤ 100)
    (h : ∀ (y : Addr) h' tk', s.heap.objs.size ≤ y → Old s h' → h'.DictOf (intKind prog w) y (mtF cs) → Q (.ref y) { s with heap := h', toks := tk' }) :
    wpAny (model prog w) A (call (.builtin "str.maketrans") [.ref a]) Q E s := by
  refine wpAny_call (codeAny_call_builtin plain_mt entry_mt (wpAny_of_eq (check_mt a) ?_))
  unfold Builtin.«str.maketrans»
  obtain ⟨hh, g, d, tk, os⟩ := s
  dsimp only at hd h
  refine wpAny_bind (wpAny_pure ?_)
  refine wpAny_bind (wpAny_pure ?_)
  refine wpAny_bind (wpAny_pure ?_)
  refine wpAny_bind (wpAny_pure ?_)
  refine wpAny_bind ?_
  unfold newDict
  refine wpAny_newObj_type ?_
  obtain ⟨o, es, ep, ho, hx, hdat, hk, hp, hn⟩ := id hd
  have hal : a < hh.objs.size := Heap.lt_size ho
  have ho1 : (hh.push emptyDict).get? a = some o := Heap.get?_push_of_some _ ho
  have hT : Shared.TypeIs ⟨hh.push emptyDict, g, d, tk, os⟩ (.ref a) "dict" := ⟨o, ho1, hx.1⟩
  dsimp only
  refine wpAny_bind (wpAny_holding ?_)
  refine wpAny_bind (wpAny_typeOf hT ?_)
  refine wpAny_bind (wpAny_pure ?_)
  refine wpAny_bind (wpAny_typeOf hT ?_)
  rw [show (Value.type "dict" != Value.type "dict") = false by decide, if_neg Bool.false_ne_true]
  refine wpAny_bind ?_
  unfold notTheModulesDict
  rw [ha, if_neg Bool.false_ne_true]
  refine wpAny_pure ?_
  refine wpAny_bind (wpAny_dictEntries ho1 hdat ?_)
  have hd0 : (hh.push emptyDict).DictOf (intKind prog w) hh.objs.size [] := Heap.DictOf.new hh
  refine wpAny_bind (wpAny_forIn_array' _ (fun rest _ s' => ∃ dn rcs h' tk', cs = dn ++ rcs ∧ Pairs (strKind prog w) rest (rcs.map fun c => ((⟨#[c]⟩ : PySem.Str), Value.none)) ∧ s' = ⟨h', g, d, tk', os⟩ ∧ Old ⟨hh, g, d, tk, os⟩ h' ∧ h'.DictOf (intKind prog w) hh.objs.size (mtF dn)) _ ?_ ?_ es _ ⟨[], cs, hh.push emptyDict, tk, rfl, hp, rfl, fun b o e => Heap.get?_push_of_some _ e, hd0⟩)
  · rintro e rest u s' ⟨dn, rcs, h', tk', hcs, hP, rfl, hO, hD⟩
    cases rcs with
    | nil => cases hP
    | cons c rcs =>
      cases hP with
      | cons hkey hval hP =>
        obtain ⟨t, et⟩ : ∃ t, e.key = .str ⟨#[c]⟩ t := Value.isStrOf_shape hkey
        rw [et, hval]
        refine wpAny_bind (m := asStr? (.str _ _)) (wpAny_pure ?_)
        dsimp only
        refine wpAny_bind (wpAny_mkInt ?_)
        refine wpAny_bind (wpAny_dictSet_pairs (k := (c : Int)) (knd := intKind prog w) (intKind_is prog w _ _) hD (fun h2 hd2 hs2 => ?_) ?_)
        · refine wpAny_pure ⟨dn ++ [c], rcs, h2, _, by rw [hcs]; simp, hP, rfl, fun b o e => hs2.extBut b o (Nat.ne_of_lt (Heap.lt_size e)) (hO b o e), ?_⟩
          have e2 : mtF (dn ++ [c]) = stored (mtF dn) (c : Int) .none := by unfold mtF; rw [List.foldl_append]; rfl
          rw [e2]
          exact hd2
        · have := mtF_len dn
          have := congrArg List.length hcs
          rw [List.length_append] at this
          rw [sizeLine_eq]; (first | lia | omega)
  · rintro u s' ⟨dn, rcs, h', tk', hcs, hP, rfl, hO, hD⟩
    cases rcs with
    | cons c rcs => cases hP
    | nil =>
      rw [List.append_nil] at hcs
      subst hcs
      refine wpAny_pure (wpAny_pure ?_)
      exact h _ h' tk' (Nat.le_refl _) hO hD
end
end Mine
namespace Mine
open PySem PySem.W PySem.Calls PyProof.Rows
/-- a value without its token -/
inductive PV where
  | str (x : Str) | int (i : Int) | bool (b : Bool) | non | ref (a : Addr)
def Fits : PV → Value → Prop
  | .str x, v => ∃ t, v = .str x t
  | .int i, v => ∃ t, v = .int i t
  | .bool b, v => v = .bool b
  | .non, v => v = .none
  | .ref a, v => v = .ref a
inductive PvOf : Value → PV → Prop
  | str {x t} : PvOf (.str x t) (.str x)
  | int {i t} : PvOf (.int i t) (.int i)
  | bool {b} : PvOf (.bool b) (.bool b)
  | non : PvOf .none .non
  | ref {a} : PvOf (.ref a) (.ref a)
theorem PvOf.fits {v : Value} {p : PV} (h : PvOf v p) : Fits p v := by
  cases h
  · exact ⟨_, rfl⟩
  · exact ⟨_, rfl⟩
  · rfl
  · rfl
  · rfl
/-- y stands in x -/
noncomputable def inF (y x : Str) : Bool := !(Builtin.Str.occurrences x y 0 x.length 1).isEmpty
inductive Cmp : CmpOp → PV → PV → Bool → Prop
  | eqS {x y} : Cmp .Eq (.str x) (.str y) (x == y)
  | neS {x y} : Cmp .NotEq (.str x) (.str y) (x != y)
  | inS {x y} : Cmp .In (.str x) (.str y) (inF x y)
  | niS {x y} : Cmp .NotIn (.str x) (.str y) (!(inF x y))
  | eqI {i j} : Cmp .Eq (.int i) (.int j) (i == j)
  | ltI {i j} : Cmp .Lt (.int i) (.int j) (decide (i < j))
  | gtI {i j} : Cmp .Gt (.int i) (.int j) (decide (j < i))
  | geI {i j} : Cmp .GtE (.int i) (.int j) (decide (j ≤ i))
  | isN : Cmp .Is .non .non true
  | isS {x} : Cmp .Is (.str x) .non false
  | isR {a} : Cmp .Is (.ref a) .non false
  | ntN : Cmp .IsNot .non .non false
  | ntS {x} : Cmp .IsNot (.str x) .non true
  | ntR {a} : Cmp .IsNot (.ref a) .non true
inductive Tru : PV → Bool → Prop
  | bool {b} : Tru (.bool b) b
  | non : Tru .non false
  | str {x : Str} : x.length ≤ 1000000 → Tru (.str x) ((x.length : Int) != 0)
section
inductive Ev (env : Env) (S : Addr) (fld : Str → PV → Prop) (m : Str → Option Value) : Expr → PV → Prop
  | name {x pos v p} : env.kindOf x = some .local → (x == ("__debug__" : Str)) = false → m x = some v → PvOf v p → Ev env S fld m (.Name x pos) p
  | str {x k pos} : Ev env S fld m (.Constant (.str x) k pos) (.str x)
  | int {i k pos} : Ev env S fld m (.Constant (.int i) k pos) (.int i)
  | bool {b k pos} : Ev env S fld m (.Constant (.bool b) k pos) (.bool b)
  | non {k pos} : Ev env S fld m (.Constant .none k pos) .non
  | self {xp f pos p} : env.kindOf (Str.ofString "self") = some .local → m (Str.ofString "self") = some (.ref S) → fld f p → Ev env S fld m (.Attribute (.Name (Str.ofString "self") xp) f pos) p
inductive Ts (env : Env) (S : Addr) (fld : Str → PV → Prop) (m : Str → Option Value) : Expr → Bool → Prop
  | nm {x pos p b} : Ev env S fld m (.Name x pos) p → Tru p b → Ts env S fld m (.Name x pos) b
  | attr {o f pos p b} : Ev env S fld m (.Attribute o f pos) p → Tru p b → Ts env S fld m (.Attribute o f pos) b
  | not {x pos b} : Ts env S fld m x b → Ts env S fld m (.UnaryOp .Not x pos) (!b)
  | cmp {l op r pos p1 p2 b} : Ev env S fld m l p1 → Ev env S fld m r p2 → Cmp op p1 p2 b → behindInMarks op r = false → Ts env S fld m (.Compare l [op] [r] pos) b
  | and1 {x pos b} : Ts env S fld m x b → Ts env S fld m (.BoolOp .And [x] pos) b
  | or1 {x pos b} : Ts env S fld m x b → Ts env S fld m (.BoolOp .Or [x] pos) b
  | andF {x rest pos} : Ts env S fld m x false → Ts env S fld m (.BoolOp .And (x :: rest) pos) false
  | andT {x rest pos b} : Ts env S fld m x true → Ts env S fld m (.BoolOp .And rest pos) b → Ts env S fld m (.BoolOp .And (x :: rest) pos) b
  | orT {x rest pos} : Ts env S fld m x true → Ts env S fld m (.BoolOp .Or (x :: rest) pos) true
  | orF {x rest pos b} : Ts env S fld m x false → Ts env S fld m (.BoolOp .Or rest pos) b → Ts env S fld m (.BoolOp .Or (x :: rest) pos) b
  | is {e b c} : Ts env S fld m e b → b = c → Ts env S fld m e c
  | inT {l x y z k k1 k2 p1 p2 pos2 pos} : Ev env S fld m l (.str x) → behindInMarks .In (.Tuple [.Constant (.str y) k1 p1, .Constant (.str z) k2 p2] k pos2) = false → Ts env S fld m (.Compare l [.In] [.Tuple [.Constant (.str y) k1 p1, .Constant (.str z) k2 p2] k pos2] pos) (y == x || z == x)
/-- statements, step by step; `led` the ledger, `P` what is to hold where they end, the last list what is to come behind -/
inductive Sx {X : Type} (prog : Program) (w : World) (A : Around) (env : Env) (h₀ : Heap) (L S : Addr) (led : X → List (Addr × Obj)) (fld : X → Str → PV → Prop) (P : Flow → (Str → Option Value) → X → Prop) : (Str → Option Value) → X → List Stmt → List (List Stmt) → Prop
  | nil {m x} : P .next m x → Sx prog w A env h₀ L S led fld P m x [] []
  | pop {m x r ks} : Sx prog w A env h₀ L S led fld P m x r ks → Sx prog w A env h₀ L S led fld P m x [] (r :: ks)
  | brk {m x pos rest ks} : P .brk m x → Sx prog w A env h₀ L S led fld P m x (.Break pos :: rest) ks
  | cont {m x pos rest ks} : P .cont m x → Sx prog w A env h₀ L S led fld P m x (.Continue pos :: rest) ks
  | ret {m x e p pos rest ks} : Ev env S (fld x) m e p → (∀ v, Fits p v → P (.ret v) m x) → Sx prog w A env h₀ L S led fld P m x (.Return (some e) pos :: rest) ks
  | ifT {m x test body els pos rest ks} : Ts env S (fld x) m test true → Sx prog w A env h₀ L S led fld P m x body (rest :: ks) → Sx prog w A env h₀ L S led fld P m x (.If test body els pos :: rest) ks
  | ifF {m x test body els pos rest ks} : Ts env S (fld x) m test false → Sx prog w A env h₀ L S led fld P m x els (rest :: ks) → Sx prog w A env h₀ L S led fld P m x (.If test body els pos :: rest) ks
  | asg {m x n np e p pos rest ks} : Ev env S (fld x) m e p → env.kindOf n = some .local → swapsWith e (some (.Name n np)) pos.line env = pure false → (∀ v, Fits p v → Sx prog w A env h₀ L S led fld P (fun y => if y = n then some v else m y) x rest ks) → Sx prog w A env h₀ L S led fld P m x (.Assign [.Name n np] e pos :: rest) ks
  | atom {m x st rest ks} (R : (Str → Option Value) → X → Prop) : (∀ {E : Value → Shared → Prop} {s : Shared} {Q : Flow → Shared → Prop}, PassesOwn (model prog w) A env E → Fr h₀ L s.heap m → News h₀ L s.heap (led x) → (∀ m1 x1 h' tk, R m1 x1 → Fr h₀ L h' m1 → News h₀ L h' (led x1) → Q .next { s with heap := h', toks := tk }) → wpAny (model prog w) A (exec st env) Q E s) →
      (∀ m1 x1, R m1 x1 → Sx prog w A env h₀ L S led fld P m1 x1 rest ks) → Sx prog w A env h₀ L S led fld P m x (st :: rest) ks
  | atomR {m x st rest ks} (R : Value → (Str → Option Value) → X → Prop) : (∀ {E : Value → Shared → Prop} {s : Shared} {Q : Flow → Shared → Prop}, PassesOwn (model prog w) A env E → Fr h₀ L s.heap m → News h₀ L s.heap (led x) → (∀ v m1 x1 h' tk, R v m1 x1 → Fr h₀ L h' m1 → News h₀ L h' (led x1) → Q (.ret v) { s with heap := h', toks := tk }) → wpAny (model prog w) A (exec st env) Q E s) →
      (∀ v m1 x1, R v m1 x1 → P (.ret v) m1 x1) → Sx prog w A env h₀ L S led fld P m x (st :: rest) ks
variable {name : Str} {scope : Scope} {L S a : Addr} {cd : Value} {m : Str → Option Value} {fld : Str → PV → Prop} {prog : Program} {w : World} {h₀ : Heap} {A : Around} {news : List (Addr × Obj)}
theorem cmp_ok {op : CmpOp} {p1 p2 : PV} {b : Bool} (h : Cmp op p1 p2 b) {v1 v2 : Value} (f1 : Fits p1 v1) (f2 : Fits p2 v2) {E : Value → Shared → Prop} {s : Shared} {Q : Value → Shared → Prop} (q : Q (.bool b) s) : wpAny (model prog w) A (compareOp op v1 v2) Q E s := by
  cases h
  · obtain ⟨t, rfl⟩ := f1; obtain ⟨u, rfl⟩ := f2; exact eq_str q
  · obtain ⟨t, rfl⟩ := f1; obtain ⟨u, rfl⟩ := f2; exact ne_str q
  · obtain ⟨t, rfl⟩ := f1; obtain ⟨u, rfl⟩ := f2; exact in_str q
  · obtain ⟨t, rfl⟩ := f1; obtain ⟨u, rfl⟩ := f2; exact notIn_str q
  · obtain ⟨t, rfl⟩ := f1; obtain ⟨u, rfl⟩ := f2; exact eq_int q
  · obtain ⟨t, rfl⟩ := f1; obtain ⟨u, rfl⟩ := f2; exact lt_int q
  · obtain ⟨t, rfl⟩ := f1; obtain ⟨u, rfl⟩ := f2; exact gt_int q
  · obtain ⟨t, rfl⟩ := f1; obtain ⟨u, rfl⟩ := f2; exact ge_int q
  · cases f1; cases f2; exact is_none_none q
  · obtain ⟨t, rfl⟩ := f1; cases f2; exact is_str_none q
  · cases f1; cases f2; exact is_ref_none q
  · cases f1; cases f2; exact isnot_none_none q
  · obtain ⟨t, rfl⟩ := f1; cases f2; exact isnot_str_none q
  · cases f1; cases f2; exact isnot_ref_none q
theorem tru_ok {p : PV} {b : Bool} (h : Tru p b) {v : Value} (f : Fits p v) {E : Value → Shared → Prop} {s : Shared} {Q : Bool → Shared → Prop} (q : ∀ tk, Q b { s with toks := tk }) : wpAny (model prog w) A (truthy v) Q E s := by
  cases h with
  | bool => cases f; exact wpAny_truthy_bool (q s.toks)
  | non => cases f; exact truthy_none (q s.toks)
  | str hl => obtain ⟨t, rfl⟩ := f; exact SBL.truthy (by (first | lia | omega)) (q _)
def FldOk (prog : Program) (w : World) (A : Around) (h₀ : Heap) (L S : Addr) (news : List (Addr × Obj)) (fld : Str → PV → Prop) : Prop :=
  ∀ f p, fld f p → ∀ {m : Str → Option Value} {E : Value → Shared → Prop} {s : Shared} {Q : Value → Shared → Prop}, Fr h₀ L s.heap m → News h₀ L s.heap news →
    (∀ v tk h', Fr h₀ L h' m → News h₀ L h' news → Fits p v → Q v { s with heap := h', toks := tk }) → wpAny (model prog w) A (getAttr (.ref S) f true) Q E s
def NoFld : Str → PV → Prop := fun _ _ => False
theorem ev_ok {e : Expr} {p : PV} (h : Ev (envOf name scope L a cd) S fld m e p) (hk : scope.kind = .function) (hf : FldOk prog w A h₀ L S news fld) {E : Value → Shared → Prop} {s : Shared} {Q : Value → Shared → Prop} (F : Fr h₀ L s.heap m) (N : News h₀ L s.heap news)
    (q : ∀ v tk h', Fr h₀ L h' m → News h₀ L h' news → Fits p v → Q v { s with heap := h', toks := tk }) : wpAny (model prog w) A (eval e (envOf name scope L a cd)) Q E s := by
  cases h with
  | name hl hd hv hp => exact ld F hv (q _ s.toks s.heap F N hp.fits) hk hl hd
  | str => exact Constant_str (q _ _ s.heap F N ⟨_, rfl⟩)
  | int => exact wpAny_Constant_int (q _ _ s.heap F N ⟨_, rfl⟩)
  | bool => exact Constant_bool (q _ s.toks s.heap F N rfl)
  | non => exact Constant_none (q _ s.toks s.heap F N rfl)
  | self h1 h2 hF => exact Attribute_Name_ (ld F h2 (hf _ _ hF F N q) hk h1 (by decide))
theorem ts_ok {e : Expr} {b : Bool} (h : Ts (envOf name scope L a cd) S fld m e b) (hk : scope.kind = .function) (hf : FldOk prog w A h₀ L S news fld) : ∀ {E : Value → Shared → Prop} {s : Shared} {Q : Bool → Shared → Prop} {whole : Sem Value}, whole = eval e (envOf name scope L a cd) ∨ (∃ o xs p, e = .BoolOp o xs p) → Fr h₀ L s.heap m → News h₀ L s.heap news →
    (∀ tk h', Fr h₀ L h' m → News h₀ L h' news → Q b { s with heap := h', toks := tk }) → wpAny (model prog w) A (isTrue e (envOf name scope L a cd) whole) Q E s := by
  induction h with
  | nm he ht =>
    rintro E s Q whole (rfl | ⟨_, _, _, h⟩) F N q
    · exact isTrue_plain (ev_ok he hk hf F N fun v tk h' F' N' fv => tru_ok ht fv fun tk' => q tk' h' F' N')
    · cases h
  | attr he ht =>
    rintro E s Q whole (rfl | ⟨_, _, _, h⟩) F N q
    · exact isTrue_plain (ev_ok he hk hf F N fun v tk h' F' N' fv => tru_ok ht fv fun tk' => q tk' h' F' N')
    · cases h
  | @not x pos b _ ih =>
    intro E s Q whole _ F N q
    show wpAny _ _ (do return !(← isTrue x _ (eval x _))) _ _ _
    exact wpAny_bind (ih (.inl rfl) F N fun tk h' F' N' => wpAny_pure (q tk h' F' N'))
  | cmp h1 h2 hc hm =>
    intro E s Q whole _ F N q
    exact wpAny_isTrue_Compare1 (ev_ok h1 hk hf F N fun v1 tk1 g1 F1 N1 f1 => ev_ok (s := { s with heap := g1, toks := tk1 }) h2 hk hf F1 N1 fun v2 tk2 g2 F2 N2 f2 => cmp_ok hc f1 f2 (wpAny_truthy_bool (q tk2 g2 F2 N2))) hm
  | @and1 x pos b _ ih =>
    intro E s Q whole _ F N q
    refine isTrue_and (ih (.inl rfl) F N fun tk h' F' N' => ?_)
    cases b
    · exact q tk h' F' N'
    · exact isTrue_and_nil (q tk h' F' N')
  | @or1 x pos b _ ih =>
    intro E s Q whole _ F N q
    refine isTrue_or (ih (.inl rfl) F N fun tk h' F' N' => ?_)
    cases b
    · exact isTrue_or_nil (q tk h' F' N')
    · exact q tk h' F' N'
  | andF _ ih =>
    intro E s Q whole _ F N q
    exact isTrue_and (ih (.inl rfl) F N fun tk h' F' N' => q tk h' F' N')
  | andT _ _ ih ih2 =>
    intro E s Q whole _ F N q
    exact isTrue_and (ih (.inl rfl) F N fun tk h' F' N' => ih2 (s := { s with heap := h', toks := tk }) (.inr ⟨_, _, _, rfl⟩) F' N' q)
  | orT _ ih =>
    intro E s Q whole _ F N q
    exact isTrue_or (ih (.inl rfl) F N fun tk h' F' N' => q tk h' F' N')
  | orF _ _ ih ih2 =>
    intro E s Q whole _ F N q
    exact isTrue_or (ih (.inl rfl) F N fun tk h' F' N' => ih2 (s := { s with heap := h', toks := tk }) (.inr ⟨_, _, _, rfl⟩) F' N' q)
  | is _ e ih => subst e; exact ih
  | @inT l x y z k k1 k2 p1 p2 pos2 pos he hm =>
    intro E s Q whole _ F N q
    refine wpAny_isTrue_Compare1 (ev_ok he hk hf F N fun v1 tk1 g1 F1 N1 f1 => ?_) hm
    obtain ⟨t1, rfl⟩ := f1
    refine Tuple_ ?_
    refine spliced_cons (Constant_str (k := k1) (pos := p1) (spliced_cons (Constant_str (k := k2) (pos := p2) (spliced_nil ?_))))
    refine newTuple_N (s := { s with heap := g1, toks := tk1 + 1 + 1 }) F1 N1 (fun h' F2 N2 => ?_) (by rw [sizeLine_eq]; show 2 ≤ _; (first | lia | omega))
    have hT : h'.IsTuple g1.objs.size #[.str y tk1, .str z (tk1 + 1)] := ⟨_, (N2 _ (.head _)).1, rfl, _, rfl⟩
    have N3 : News h₀ L h' news := fun p hp => N2 p (.tail _ hp)
    refine PySem.SeqAt.in_tupleAt (fun v => match v with | .str y' _ => y' == x | _ => false) hT ?_ ?_
    · intro v hv
      simp only [List.mem_toArray, List.mem_cons, List.not_mem_nil, or_false, Array.mem_def] at hv
      rcases hv with rfl | rfl
      · exact PySem.SeqAt.EqAt.str_str _ _ _ _
      · exact PySem.SeqAt.EqAt.str_str _ _ _ _
    · refine wpAny_truthy_bool ?_
      have := q (tk1 + 1 + 1) h' F2 N3
      simpa using this
def contQ (M : Model) (A : Around) (env : Env) (E : Value → Shared → Prop) (Q : Flow → Shared → Prop) : List (List Stmt) → Flow → Shared → Prop
  | [] => Q
  | r :: ks => fun f s' => match f with
    | .next => wpAny M A (execs r env) (contQ M A env E Q ks) E s'
    | f => contQ M A env E Q ks f s'
theorem contQ_out {M : Model} {env : Env} {E : Value → Shared → Prop} {Q : Flow → Shared → Prop} {f : Flow} {s : Shared} (hf : f ≠ .next) (q : Q f s) : ∀ ks, contQ M A env E Q ks f s
  | [] => q
  | r :: ks => by
    have : contQ M A env E Q ks f s := contQ_out hf q ks
    cases f <;> first | exact absurd rfl hf | exact this
theorem sx_ok {X : Type} {led : X → List (Addr × Obj)} {flds : X → Str → PV → Prop} {P : Flow → (Str → Option Value) → X → Prop} {x : X} {l : List Stmt} {ks : List (List Stmt)} (h : Sx prog w A (envOf name scope L a cd) h₀ L S led flds P m x l ks) (hk : scope.kind = .function) (hf : ∀ x, FldOk prog w A h₀ L S (led x) (flds x)) :
    ∀ {E : Value → Shared → Prop} {s : Shared} {Q : Flow → Shared → Prop}, PassesOwn (model prog w) A (envOf name scope L a cd) E → Fr h₀ L s.heap m → News h₀ L s.heap (led x) → (∀ f m' x' h' tk, P f m' x' → Fr h₀ L h' m' → News h₀ L h' (led x') → Q f { s with heap := h', toks := tk }) →
      wpAny (model prog w) A (execs l (envOf name scope L a cd)) (contQ (model prog w) A (envOf name scope L a cd) E Q ks) E s := by
  induction h with
  | nil hp => intro E s Q hE F N q; exact wpAny_pure (a := Flow.next) (q _ _ _ s.heap s.toks hp F N)
  | pop _ ih => intro E s Q hE F N q; exact wpAny_pure (a := Flow.next) (ih hE F N q)
  | @brk m x pos rest ks hp =>
    intro E s Q hE F N q
    exact wpAny_execs_cons (wpAny_Break (contQ_out (fun e => by cases e) (q _ _ _ s.heap s.toks hp F N) ks))
  | @cont m x pos rest ks hp =>
    intro E s Q hE F N q
    exact wpAny_execs_cons (wpAny_Continue (contQ_out (fun e => by cases e) (q _ _ _ s.heap s.toks hp F N) ks))
  | @ret m x e p pos rest ks he hp =>
    intro E s Q hE F N q
    exact wpAny_execs_cons (wpAny_Return_some (ev_ok he hk (hf _) F N fun v tk h' F' N' fv => contQ_out (fun e => by cases e) (q _ _ _ h' tk (hp v fv) F' N') ks))
  | ifT ht _ ih =>
    intro E s Q hE F N q
    refine wpAny_execs_cons (wpAny_If (ts_ok ht hk (hf _) (.inl rfl) F N fun tk h' F' N' => ?_))
    exact ih (s := { s with heap := h', toks := tk }) hE F' N' q
  | ifF ht _ ih =>
    intro E s Q hE F N q
    refine wpAny_execs_cons (wpAny_If (ts_ok ht hk (hf _) (.inl rfl) F N fun tk h' F' N' => ?_))
    exact ih (s := { s with heap := h', toks := tk }) hE F' N' q
  | asg he hl hs _ ih =>
    intro E s Q hE F N q
    refine wpAny_execs_cons (wpAny_Assign_Name (ev_ok he hk (hf _) F N fun v tk h' F' N' fv => ?_) hs)
    exact stN (s := { s with heap := h', toks := tk }) F' N' (fun h2 F2 N2 => ih v fv (s := { s with heap := h2, toks := tk + 1 }) hE F2 N2 q) hk hl
  | atom R hr _ ih =>
    intro E s Q hE F N q
    exact wpAny_execs_cons (hr hE F N fun m1 x1 h' tk hR F' N' => ih m1 x1 hR (s := { s with heap := h', toks := tk }) hE F' N' q)
  | @atomR m x st rest ks R hr hp =>
    intro E s Q hE F N q
    exact wpAny_execs_cons (hr hE F N fun v m1 x1 h' tk hR F' N' => contQ_out (fun e => by cases e) (q _ _ _ h' tk (hp v m1 x1 hR) F' N') ks)
end
end Mine
namespace Mine
open PySem PySem.W PySem.Calls PyProof.Rows
noncomputable abbrev wcS : Str := Str.ofString "abcdfeghijklmnopqrstuvwxyzABCDEFGHIJKLMNOPQRSTUVWXYZ0123456789_ßàáâãäåæçèéêëìíîïðñòóôõöøùúûüýþÿÀÁÂÃÄÅÆÇÈÉÊËÌÍÎÏÐÑÒÓÔÕÖØÙÚÛÜÝÞ~-./*?="
noncomputable abbrev wsS : Str := Str.ofString " \t\r\n"
noncomputable abbrev qtS : Str := Str.ofString "'\""
noncomputable abbrev pcS : Str := Str.ofString "()[]"
/-- the parts of a lexer that stay -/
structure LexP where
  (S SD X D PB FS PC : Addr)
  κ : Nat → Tok
noncomputable def ent (P : Params) (κ : Nat → Tok) (i : Nat) (f : Str) (v : Value) : DictEntry := ⟨PyData.keyHash P f, .str f (κ i), v⟩
noncomputable def lexEs (P : Params) (c : LexP) (sp : Bool) (st tok : Value) (ln : Value) : List DictEntry :=
  [ent P c.κ 0 (Str.ofString "instream") (.ref c.X), ent P c.κ 1 (Str.ofString "infile") .none, ent P c.κ 2 (Str.ofString "posix") (.bool true), ent P c.κ 3 (Str.ofString "eof") .none,
   ent P c.κ 4 (Str.ofString "commenters") (.str (Str.ofString "#") (c.κ 20)), ent P c.κ 5 (Str.ofString "wordchars") (.str wcS (c.κ 21)), ent P c.κ 6 (Str.ofString "whitespace") (.str wsS (c.κ 22)),
   ent P c.κ 7 (Str.ofString "whitespace_split") (.bool sp), ent P c.κ 8 (Str.ofString "quotes") (.str qtS (c.κ 23)), ent P c.κ 9 (Str.ofString "escape") (.str (Str.ofString "\\") (c.κ 24)),
   ent P c.κ 10 (Str.ofString "escapedquotes") (.str (Str.ofString "\"") (c.κ 25)), ent P c.κ 11 (Str.ofString "state") st, ent P c.κ 12 (Str.ofString "pushback") (.ref c.PB), ent P c.κ 13 (Str.ofString "lineno") ln,
   ent P c.κ 14 (Str.ofString "debug") (.int 0 (c.κ 26)), ent P c.κ 15 (Str.ofString "token") tok, ent P c.κ 16 (Str.ofString "filestack") (.ref c.FS), ent P c.κ 17 (Str.ofString "source") .none,
   ent P c.κ 18 (Str.ofString "_punctuation_chars") (.str pcS (c.κ 27)), ent P c.κ 19 (Str.ofString "_pushback_chars") (.ref c.PC)]
noncomputable def lexO (P : Params) (c : LexP) (sp : Bool) (st tok ln : Value) : Obj := dictOf (lexEs P c sp st tok ln) 20
inductive LexF (c : LexP) (sp : Bool) (st tok ln : Value) : Str → PV → Prop
  | instream : LexF c sp st tok ln (Str.ofString "instream") (.ref c.X)
  | posix : LexF c sp st tok ln (Str.ofString "posix") (.bool true)
  | eof : LexF c sp st tok ln (Str.ofString "eof") .non
  | commenters : LexF c sp st tok ln (Str.ofString "commenters") (.str (Str.ofString "#"))
  | wordchars : LexF c sp st tok ln (Str.ofString "wordchars") (.str wcS)
  | whitespace : LexF c sp st tok ln (Str.ofString "whitespace") (.str wsS)
  | split : LexF c sp st tok ln (Str.ofString "whitespace_split") (.bool sp)
  | quotes : LexF c sp st tok ln (Str.ofString "quotes") (.str qtS)
  | escape : LexF c sp st tok ln (Str.ofString "escape") (.str (Str.ofString "\\"))
  | escapedquotes : LexF c sp st tok ln (Str.ofString "escapedquotes") (.str (Str.ofString "\""))
  | state {p} : PvOf st p → LexF c sp st tok ln (Str.ofString "state") p
  | pushback : LexF c sp st tok ln (Str.ofString "pushback") (.ref c.PB)
  | lineno {p} : PvOf ln p → LexF c sp st tok ln (Str.ofString "lineno") p
  | debug : LexF c sp st tok ln (Str.ofString "debug") (.int 0)
  | token {p} : PvOf tok p → LexF c sp st tok ln (Str.ofString "token") p
  | filestack : LexF c sp st tok ln (Str.ofString "filestack") (.ref c.FS)
  | source : LexF c sp st tok ln (Str.ofString "source") .non
  | chars : LexF c sp st tok ln (Str.ofString "_punctuation_chars") (.str pcS)
  | pchars : LexF c sp st tok ln (Str.ofString "_pushback_chars") (.ref c.PC)
section
variable {w : World} {c : LexP} {sp : Bool} {st tok ln : Value}
theorem PvOf.handed {v : Value} {p : PV} (h : PvOf v p) : handedIn v = true := by cases h <;> rfl
theorem getL_st : getL (Str.ofString "state") (lexEs w.params c sp st tok ln) = some (some st) := by kernel_rfl
theorem getL_ln : getL (Str.ofString "lineno") (lexEs w.params c sp st tok ln) = some (some ln) := by kernel_rfl
theorem getL_tok : getL (Str.ofString "token") (lexEs w.params c sp st tok ln) = some (some tok) := by kernel_rfl
theorem lexF_get {f : Str} {p : PV} (h : LexF c sp st tok ln f p) : ∃ v, getL f (lexEs w.params c sp st tok ln) = some (some v) ∧ Fits p v ∧ handedIn v = true ∧ findIn (K w.params) (.ref 830) f = some none := by
  cases h with
  | instream => exact ⟨.ref c.X, by kernel_rfl!, rfl, rfl, by kernel_rfl!⟩
  | posix => exact ⟨.bool true, by kernel_rfl!, rfl, rfl, by kernel_rfl!⟩
  | eof => exact ⟨.none, by kernel_rfl!, rfl, rfl, by kernel_rfl!⟩
  | commenters => exact ⟨.str _ (c.κ 20), by kernel_rfl!, ⟨_, rfl⟩, rfl, by kernel_rfl!⟩
  | wordchars => exact ⟨.str wcS (c.κ 21), by kernel_rfl!, ⟨_, rfl⟩, rfl, by kernel_rfl!⟩
  | whitespace => exact ⟨.str wsS (c.κ 22), by kernel_rfl!, ⟨_, rfl⟩, rfl, by kernel_rfl!⟩
  | split => exact ⟨.bool sp, by kernel_rfl!, rfl, rfl, by kernel_rfl!⟩
  | quotes => exact ⟨.str qtS (c.κ 23), by kernel_rfl!, ⟨_, rfl⟩, rfl, by kernel_rfl!⟩
  | escape => exact ⟨.str _ (c.κ 24), by kernel_rfl!, ⟨_, rfl⟩, rfl, by kernel_rfl!⟩
  | escapedquotes => exact ⟨.str _ (c.κ 25), by kernel_rfl!, ⟨_, rfl⟩, rfl, by kernel_rfl!⟩
  | state hp => exact ⟨st, getL_st, hp.fits, hp.handed, by kernel_rfl!⟩
  | pushback => exact ⟨.ref c.PB, by kernel_rfl!, rfl, rfl, by kernel_rfl!⟩
  | lineno hp => exact ⟨ln, getL_ln, hp.fits, hp.handed, by kernel_rfl!⟩
  | debug => exact ⟨.int 0 (c.κ 26), by kernel_rfl!, ⟨_, rfl⟩, rfl, by kernel_rfl!⟩
  | token hp => exact ⟨tok, getL_tok, hp.fits, hp.handed, by kernel_rfl!⟩
  | filestack => exact ⟨.ref c.FS, by kernel_rfl!, rfl, rfl, by kernel_rfl!⟩
  | source => exact ⟨.none, by kernel_rfl!, rfl, rfl, by kernel_rfl!⟩
  | chars => exact ⟨.str pcS (c.κ 27), by kernel_rfl!, ⟨_, rfl⟩, rfl, by kernel_rfl!⟩
  | pchars => exact ⟨.ref c.PC, by kernel_rfl!, rfl, rfl, by kernel_rfl!⟩
theorem lex_plainGet {P : Params} {f : Str} : plainGet (K P) 830 f = true := by kernel_rfl
theorem lex_hasDict {P : Params} : hasDictIn (K P) 830 = true := by kernel_rfl
theorem lex_setattr {P : Params} : findIn (K P) (.ref 830) "__setattr__" = some (some (.builtin "object.__setattr__")) := by kernel_rfl
theorem lex_over {P : Params} : plainOver (K P) 830 = true := by kernel_rfl
variable {h₀ : Heap} {L : Addr} {m : Str → Option Value} {news news' : List (Addr × Obj)} {s : Shared} {A : Around} {E : Value → Shared → Prop}
theorem lex_inst (N : News h₀ L s.heap news) (h1 : (c.S, instObj 830 c.SD) ∈ news) (h2 : (c.SD, lexO w.params c sp st tok ln) ∈ news) : InstAt s.heap c.S (instObj 830 c.SD) 830 (some (lexO w.params c sp st tok ln)) := InstAt.of_news N h1 h2
inductive LexG (c : LexP) (sp : Bool) (st tok ln : Value) : Str → PV → Prop
  | base {f p} : LexF c sp st tok ln f p → LexG c sp st tok ln f p
  | prop : LexG c sp st tok ln (Str.ofString "punctuation_chars") (.str pcS)
theorem lexG_ok (X : (K w.params).In h₀) (h1 : (c.S, instObj 830 c.SD) ∈ news) (h2 : (c.SD, lexO w.params c sp st tok ln) ∈ news)
    (hp : ∀ {m : Str → Option Value} {E : Value → Shared → Prop} {s : Shared} {Q : Value → Shared → Prop}, Fr h₀ L s.heap m → News h₀ L s.heap news → (∀ t tk h', Fr h₀ L h' m → News h₀ L h' news → Q (.str pcS t) { s with heap := h', toks := tk }) → wpAny (model pw w) A (getAttr (.ref c.S) (Str.ofString "punctuation_chars") true) Q E s) :
    FldOk pw w A h₀ L c.S news (LexG c sp st tok ln) := by
  intro f p hf m E s Q F N q
  cases hf with
  | prop => exact hp F N fun t tk h' F' N' => q _ tk h' F' N' ⟨t, rfl⟩
  | base hf =>
    obtain ⟨v, hl, hv, hh, hfi⟩ := lexF_get (w := w) hf
    exact get_own (n := 20) (es := lexEs w.params c sp st tok ln) F X (lex_inst N h1 h2) lex_plainGet lex_hasDict hfi rfl hl hh (q v _ s.heap F N hv)
theorem set_state {v : Value} {Q : Unit → Shared → Prop} (F : Fr h₀ L s.heap m) (X : (K w.params).In h₀) (N : News h₀ L s.heap news) (h1 : (c.S, instObj 830 c.SD) ∈ news) (U : Upd c.SD (lexO w.params c sp st tok ln) (lexO w.params c sp v tok ln) news news')
    (h : ∀ h' tk, Fr h₀ L h' m → News h₀ L h' news' → Q () { s with heap := h', toks := tk }) : wpAny (model pw w) A (setAttr (.ref c.S) (Str.ofString "state") v) Q E s :=
  set_dict (es := lexEs w.params c sp st tok ln) (n := 20) F X N (lex_inst N h1 (upd_mem U)) rfl lex_setattr lex_over (by kernel_rfl!) lex_hasDict (by rw [getL_st]; rfl) (es' := lexEs w.params c sp v tok ln) (n' := 20) (by kernel_rfl!) U (by show 20 ≤ 1000; decide) fun h' => h h' _
theorem set_token {v : Value} {Q : Unit → Shared → Prop} (F : Fr h₀ L s.heap m) (X : (K w.params).In h₀) (N : News h₀ L s.heap news) (h1 : (c.S, instObj 830 c.SD) ∈ news) (U : Upd c.SD (lexO w.params c sp st tok ln) (lexO w.params c sp st v ln) news news')
    (h : ∀ h' tk, Fr h₀ L h' m → News h₀ L h' news' → Q () { s with heap := h', toks := tk }) : wpAny (model pw w) A (setAttr (.ref c.S) (Str.ofString "token") v) Q E s :=
  set_dict (es := lexEs w.params c sp st tok ln) (n := 20) F X N (lex_inst N h1 (upd_mem U)) rfl lex_setattr lex_over (by kernel_rfl!) lex_hasDict (by rw [getL_tok]; rfl) (es' := lexEs w.params c sp st v ln) (n' := 20) (by kernel_rfl!) U (by show 20 ≤ 1000; decide) fun h' => h h' _
theorem set_lineno {v : Value} {Q : Unit → Shared → Prop} (F : Fr h₀ L s.heap m) (X : (K w.params).In h₀) (N : News h₀ L s.heap news) (h1 : (c.S, instObj 830 c.SD) ∈ news) (U : Upd c.SD (lexO w.params c sp st tok ln) (lexO w.params c sp st tok v) news news')
    (h : ∀ h' tk, Fr h₀ L h' m → News h₀ L h' news' → Q () { s with heap := h', toks := tk }) : wpAny (model pw w) A (setAttr (.ref c.S) (Str.ofString "lineno") v) Q E s :=
  set_dict (es := lexEs w.params c sp st tok ln) (n := 20) F X N (lex_inst N h1 (upd_mem U)) rfl lex_setattr lex_over (by kernel_rfl!) lex_hasDict (by rw [getL_ln]; rfl) (es' := lexEs w.params c sp st tok v) (n' := 20) (by kernel_rfl!) U (by show 20 ≤ 1000; decide) fun h' => h h' _
theorem set_split {v : Bool} {Q : Unit → Shared → Prop} (F : Fr h₀ L s.heap m) (X : (K w.params).In h₀) (N : News h₀ L s.heap news) (h1 : (c.S, instObj 830 c.SD) ∈ news) (U : Upd c.SD (lexO w.params c sp st tok ln) (lexO w.params c v st tok ln) news news')
    (h : ∀ h' tk, Fr h₀ L h' m → News h₀ L h' news' → Q () { s with heap := h', toks := tk }) : wpAny (model pw w) A (setAttr (.ref c.S) (Str.ofString "whitespace_split") (.bool v)) Q E s :=
  set_dict (es := lexEs w.params c sp st tok ln) (n := 20) F X N (lex_inst N h1 (upd_mem U)) rfl lex_setattr lex_over (by kernel_rfl!) lex_hasDict (by rw [show getL (Str.ofString "whitespace_split") (lexEs w.params c sp st tok ln) = some (some (.bool sp)) by kernel_rfl!]; rfl) (es' := lexEs w.params c v st tok ln) (n' := 20) (by kernel_rfl!) U (by show 20 ≤ 1000; decide) fun h' => h h' _
end
end Mine
namespace Mine
open PySem PySem.W PySem.Calls PyProof.Rows
theorem fill11 : PySem.Challenge.rw_kl0186_01 = PySem.Challenge.rw_kl0186_01 ∧ K = K := by
  w_on
  k_fill
  exact ⟨rfl, rfl⟩
/-- all that a lexer owns; o1 its fields, o2 the stream's, o3 the signs pushed back -/
noncomputable def pack (c : LexP) (o1 o2 o3 : Obj) (r : List (Addr × Obj)) : List (Addr × Obj) :=
  (c.SD, o1) :: (c.D, o2) :: (c.PC, o3) :: (c.S, instObj 830 c.SD) :: (c.X, instObj 695 c.D) :: (c.PB, dqO 0 []) :: (c.FS, dqO 0 []) :: r
structure Apart (c : LexP) (r : List (Addr × Obj)) : Prop where
  h1 : @LT.lt Nat _ c.SD c.S
  h2 : @LT.lt Nat _ c.S c.D
  h3 : @LT.lt Nat _ c.D c.X
  h4 : @LT.lt Nat _ c.X c.PB
  h5 : @LT.lt Nat _ c.PB c.FS
  h6 : @LT.lt Nat _ c.FS c.PC
  h7 : ∀ p ∈ r, @LT.lt Nat _ p.1 c.SD ∨ @LT.lt Nat _ c.PC p.1
section
variable {c : LexP} {o1 o2 o3 o : Obj} {r : List (Addr × Obj)}
theorem allLt_all {d : Addr} : ∀ {l : List (Addr × Obj)}, AllLt d l → ∀ p ∈ l, @LT.lt Nat _ p.1 d := by
  intro l
  induction l with
  | nil => intro _ p hp; cases hp
  | cons q l ih =>
    intro hl p hp
    rcases List.mem_cons.mp hp with rfl | hp
    · exact hl.1
    · exact ih hl.2 p hp
theorem Apart.rest (a : Apart c r) {y : Addr} (h : @LE.le Nat _ c.SD y) (h' : @LE.le Nat _ y c.PC) : ∀ p ∈ r, p.1 ≠ y := fun p hp => by
  rcases a.h7 p hp with e | e
  · exact Nat.ne_of_lt (Nat.lt_of_lt_of_le e h)
  · exact Nat.ne_of_gt (Nat.lt_of_le_of_lt h' e)
theorem upd_SD (a : Apart c r) : Upd c.SD o1 o (pack c o1 o2 o3 r) (pack c o o2 o3 r) := by
  obtain ⟨h1, h2, h3, h4, h5, h6, h7⟩ := id a
  refine .head fun p hp => ?_
  simp only [List.mem_cons] at hp
  rcases hp with rfl | rfl | rfl | rfl | rfl | rfl | hp <;> first | exact a.rest (Nat.le_refl _) (by (first | lia | omega)) p hp | (exact neN (by dsimp only; (first | lia | omega)))
theorem upd_PC (a : Apart c r) : Upd c.PC o3 o (pack c o1 o2 o3 r) (pack c o1 o2 o r) := by
  obtain ⟨h1, h2, h3, h4, h5, h6, h7⟩ := id a
  refine .tail (neN (by dsimp only; (first | lia | omega))) (.tail (neN (by dsimp only; (first | lia | omega))) (.head fun p hp => ?_))
  simp only [List.mem_cons] at hp
  rcases hp with rfl | rfl | rfl | rfl | hp
  · exact neN (by dsimp only; (first | lia | omega))
  · exact neN (by dsimp only; (first | lia | omega))
  · exact neN (by dsimp only; (first | lia | omega))
  · exact neN (by dsimp only; (first | lia | omega))
  · exact a.rest (by (first | lia | omega)) (by (first | lia | omega)) p hp
theorem mem_SD : (c.SD, o1) ∈ pack c o1 o2 o3 r := .head _
theorem mem_D : (c.D, o2) ∈ pack c o1 o2 o3 r := .tail _ (.head _)
theorem mem_PC : (c.PC, o3) ∈ pack c o1 o2 o3 r := .tail _ (.tail _ (.head _))
theorem mem_S : (c.S, instObj 830 c.SD) ∈ pack c o1 o2 o3 r := .tail _ (.tail _ (.tail _ (.head _)))
theorem mem_X : (c.X, instObj 695 c.D) ∈ pack c o1 o2 o3 r := .tail _ (.tail _ (.tail _ (.tail _ (.head _))))
theorem mem_PB : (c.PB, dqO 0 []) ∈ pack c o1 o2 o3 r := .tail _ (.tail _ (.tail _ (.tail _ (.tail _ (.head _)))))
theorem mem_FS : (c.FS, dqO 0 []) ∈ pack c o1 o2 o3 r := .tail _ (.tail _ (.tail _ (.tail _ (.tail _ (.tail _ (.head _))))))
end
theorem prop_find {P : Params} : findIn (K P) (.ref 830) (Str.ofString "punctuation_chars") = some (some (.ref 762)) := by kernel_rfl
theorem prop_get {P : Params} : specialIn (K P) (.ref 762) "__get__" = some (some (.builtin "property.__get__")) := by kernel_rfl
theorem prop_takes {P : Params} : takesIn (K P) (.ref 762) = some true := by kernel_rfl
theorem prop_rec {P : Params} : ∃ rest, recIn (K P) 762 "property" = some (.ref 761 :: rest) := by
  have h : (recIn (K P) 762 "property").bind (fun l => l.head?) = some (.ref 761) := by kernel_rfl!
  cases e : recIn (K P) 762 "property" with
  | none => rw [e] at h; cases h
  | some l =>
    rw [e] at h
    cases l with
    | nil => cases h
    | cons a l => exact ⟨l, by rw [show a = .ref 761 from Option.some.inj h]⟩
theorem chars_c (w : World) {c : LexP} {sp : Bool} {st tok ln : Value} {o2 o3 : Obj} {r : List (Addr × Obj)} {dp un : Nat} {gd : Option (List Code)} {cn : Str} {cs : Scope} {a : Addr} {ccd : Value} {cl : List (Str × Addr)} {outer : List Env} {A₀ : Around} {base h₀ : Heap} {L : Addr} {m : Str → Option Value}
    {s : Shared} {mg mb : Str → Option Value} {mean : ExcName → Option Value} {Q E : Value → Shared → Prop}
    (B : Below A₀ base outer h₀) (F : Fr h₀ L s.heap m) (X : (K w.params).In h₀) (N : News h₀ L s.heap (pack c (lexO w.params c sp st tok ln) o2 o3 r)) (T : Top q (looseW q loose) mean mg mb h₀) (hk : cs.kind = .function) (hd : dp + 20 < recursionLimit) (hu : un + 100 < cLine)
    (ret : ∀ t tk h', Fr h₀ L h' m → News h₀ L h' (pack c (lexO w.params c sp st tok ln) o2 o3 r) → Q (.str pcS t) { s with heap := h', toks := tk }) :
    wpAny (model pw w) (ktrTop dp un gd cn cs L a ccd cl outer) (getAttr (.ref c.S) (Str.ofString "punctuation_chars") true) Q E s := by
  obtain ⟨rest, hrec⟩ := prop_rec (P := w.params)
  obtain ⟨sh, sg, sd, stk, so⟩ := s
  dsimp only at F N ret
  refine get_prop F X (lex_inst N mem_S mem_SD) lex_plainGet lex_hasDict prop_find prop_get prop_takes hrec ?_
  k_dflt (refine' code_def (binds := [(Str.ofString "self", .ref c.S)]) B F X N T ?kA ?kF ?kK ?k6 ?k7 ?k8 ?k9 ?kB ?_ ?c2 ?c3 ?c4 ?c5; (case kA => exact rfl); (case kF => exact rfl); (case kK => assumption); (case k6 => k_is); (case k7 => k_is); (case k8 => ktr_room); (case k9 => exact BindsTo.of_eq rfl); (case c5 => decide); (case kB => exact locs rfl); (case c2 => exact rfl); (case c3 => exact rfl); (case c4 => exact rfl); k_whole; intro g' L' h' FG' F' N' B' X' T'; (try dsimp only); (try k_fold))
  k_steps
  exact ret _ _ _ (by k_asm) (by k_asm)
end Mine
namespace Mine
open PySem PySem.W PySem.Calls PyProof.Rows
/-- what of a lexer changes -/
structure LX where
  (st tok ln : Value)
  (p : Int)
  (pt : Tok)
  (k : Int)
  (xs : List Value)
noncomputable def ledX (w : World) (c : LexP) (b : Str) (r : List (Addr × Obj)) (x : LX) : List (Addr × Obj) :=
  pack c (lexO w.params c true x.st x.tok x.ln) (sioF w.params (c.κ 28) (c.κ 29) (c.κ 30) b (c.κ 31) x.p x.pt) (dqO x.k x.xs) r
abbrev fldX (c : LexP) (x : LX) : Str → PV → Prop := LexG c true x.st x.tok x.ln
section
variable {w : World} {c : LexP} {b : Str} {r : List (Addr × Obj)} {x : LX} {m : Str → Option Value} {h₀ : Heap} {L : Addr} {A : Around} {name : Str} {scope : Scope} {a : Addr} {cd : Value} {P : Flow → (Str → Option Value) → LX → Prop} {rest : List Stmt} {ks : List (List Stmt)}
abbrev SxL (w : World) (A : Around) (env : Env) (h₀ : Heap) (L : Addr) (c : LexP) (b : Str) (r : List (Addr × Obj)) (P : Flow → (Str → Option Value) → LX → Prop) (m : Str → Option Value) (x : LX) (l : List Stmt) (ks : List (List Stmt)) : Prop :=
  Sx pw w A env h₀ L c.S (ledX w c b r) (fldX c) P m x l ks
variable (hk : scope.kind = .function) (hf : ∀ x, FldOk pw w A h₀ L c.S (ledX w c b r x) (fldX c x)) (ap : Apart c r) (X : (K w.params).In h₀) (hs : (envOf name scope L a cd).kindOf (Str.ofString "self") = some .local)
include hk hf ap X hs
theorem sx_state {np app pos : Pos} {e : Expr} {p : PV} (hm : m (Str.ofString "self") = some (.ref c.S)) (he : Ev (envOf name scope L a cd) c.S (fldX c x) m e p) (hsw : swapsWith e (some (.Attribute (.Name (Str.ofString "self") np) (Str.ofString "state") app)) pos.line (envOf name scope L a cd) = pure false)
    (h : ∀ v, Fits p v → SxL w A (envOf name scope L a cd) h₀ L c b r P m { x with st := v } rest ks) : SxL w A (envOf name scope L a cd) h₀ L c b r P m x (.Assign [.Attribute (.Name (Str.ofString "self") np) (Str.ofString "state") app] e pos :: rest) ks := by
  refine .atom (fun m1 x1 => m1 = m ∧ ∃ v, Fits p v ∧ x1 = { x with st := v }) (fun {E s Q} _ F N q => ?_) ?_
  · exact plainObj_wpAny_Assign_Attribute (ev_ok he hk (hf x) F N fun v tk h' F' N' fv => ld (s := { s with heap := h', toks := tk }) F' hm (set_state F' X N' mem_S (upd_SD ap) fun h2 tk2 F2 N2 => q m _ h2 tk2 ⟨rfl, v, fv, rfl⟩ F2 N2) hk hs (by decide)) hsw
  · rintro m1 x1 ⟨rfl, v, fv, rfl⟩
    exact h v fv
theorem sx_token {np app pos : Pos} {e : Expr} {p : PV} (hm : m (Str.ofString "self") = some (.ref c.S)) (he : Ev (envOf name scope L a cd) c.S (fldX c x) m e p) (hsw : swapsWith e (some (.Attribute (.Name (Str.ofString "self") np) (Str.ofString "token") app)) pos.line (envOf name scope L a cd) = pure false)
    (h : ∀ v, Fits p v → SxL w A (envOf name scope L a cd) h₀ L c b r P m { x with tok := v } rest ks) : SxL w A (envOf name scope L a cd) h₀ L c b r P m x (.Assign [.Attribute (.Name (Str.ofString "self") np) (Str.ofString "token") app] e pos :: rest) ks := by
  refine .atom (fun m1 x1 => m1 = m ∧ ∃ v, Fits p v ∧ x1 = { x with tok := v }) (fun {E s Q} _ F N q => ?_) ?_
  · exact plainObj_wpAny_Assign_Attribute (ev_ok he hk (hf x) F N fun v tk h' F' N' fv => ld (s := { s with heap := h', toks := tk }) F' hm (set_token F' X N' mem_S (upd_SD ap) fun h2 tk2 F2 N2 => q m _ h2 tk2 ⟨rfl, v, fv, rfl⟩ F2 N2) hk hs (by decide)) hsw
  · rintro m1 x1 ⟨rfl, v, fv, rfl⟩
    exact h v fv
theorem sx_more {np app pos : Pos} {e : Expr} {y z : Str} {t : Tok} (hm : m (Str.ofString "self") = some (.ref c.S)) (ht : x.tok = .str z t) (he : Ev (envOf name scope L a cd) c.S (fldX c x) m e (.str y)) (hl : z.length + y.length ≤ 1000000)
    (h : ∀ u, SxL w A (envOf name scope L a cd) h₀ L c b r P m { x with tok := .str (z ++ y) u } rest ks) : SxL w A (envOf name scope L a cd) h₀ L c b r P m x (.AugAssign (.Attribute (.Name (Str.ofString "self") np) (Str.ofString "token") app) .Add e pos :: rest) ks := by
  refine .atom (fun m1 x1 => m1 = m ∧ ∃ u, x1 = { x with tok := .str (z ++ y) u }) (fun {E s Q} _ F N q => ?_) ?_
  · refine wpAny_AugAssign_AttributeAny (ld F hm (hf x _ _ (.base (.token (ht ▸ PvOf.str))) F N fun v1 tk1 h1 F1 N1 f1 => ev_ok (s := { s with heap := h1, toks := tk1 }) he hk (hf x) F1 N1 fun v2 tk2 h2 F2 N2 f2 => ?_) hk hs (by decide))
    obtain ⟨t1, rfl⟩ := f1
    obtain ⟨t2, rfl⟩ := f2
    refine SBL.iadd (fun u k _ => ?_) (by rw [sizeLine_eq]; (first | lia | omega))
    exact set_token (s := { s with heap := h2, toks := k }) F2 X N2 mem_S (upd_SD ap) fun h3 tk3 F3 N3 => q m _ h3 tk3 ⟨rfl, u, rfl⟩ F3 N3
  · rintro m1 x1 ⟨rfl, u, rfl⟩
    exact h u
theorem sx_line {np app pos cp : Pos} {kk : Nat} {i : Int} {t : Tok} (hm : m (Str.ofString "self") = some (.ref c.S)) (ht : x.ln = .int i t)
    (h : ∀ u, SxL w A (envOf name scope L a cd) h₀ L c b r P m { x with ln := .int (i + 1) u } rest ks) : SxL w A (envOf name scope L a cd) h₀ L c b r P m x (.AugAssign (.Attribute (.Name (Str.ofString "self") np) (Str.ofString "lineno") app) .Add (.Constant (.int 1) kk cp) pos :: rest) ks := by
  refine .atom (fun m1 x1 => m1 = m ∧ ∃ u, x1 = { x with ln := .int (i + 1) u }) (fun {E s Q} _ F N q => ?_) ?_
  · refine wpAny_AugAssign_AttributeAny (ld F hm (hf x _ _ (.base (.lineno (ht ▸ PvOf.int))) F N fun v1 tk1 h1 F1 N1 f1 => wpAny_Constant_int ?_) hk hs (by decide))
    obtain ⟨t1, rfl⟩ := f1
    exact iadd_int (set_lineno F1 X N1 mem_S (upd_SD ap) fun h3 tk3 F3 N3 => q m _ h3 tk3 ⟨rfl, _, rfl⟩ F3 N3)
  · rintro m1 x1 ⟨rfl, u, rfl⟩
    exact h u
end
end Mine
namespace Mine
open PySem PySem.W PySem.Calls PyProof.Rows
/-- read_token's own state: state, token, quoted, escapedstate, place, sign pushed back -/
structure AS where
  st : Option Str
  tok : Str
  q : Bool
  es : Str
  p : Int
  pc : Option Str
noncomputable def nxC (b : Str) (σ : AS) : Str := match σ.pc with | some ch => ch | none => nextF b σ.p
noncomputable def nxS (b : Str) (σ : AS) : AS := match σ.pc with | some _ => { σ with pc := none } | none => { σ with p := stepP b σ.p }
noncomputable abbrev oS (s : String) : Str := Str.ofString s
noncomputable def stepSp (b ch : Str) (σ : AS) (n ws co es wc pc qt fl : Bool) : Option (Bool × AS) :=
  bif n then some (true, { σ with st := none })
  else bif ws then some (fl, σ)
  else bif co then some (false, { σ with p := lineEnd b σ.p })
  else bif es then some (false, { σ with es := oS "a", st := some ch })
  else bif wc then some (false, { σ with tok := ch, st := some (oS "a") })
  else bif pc then some (false, { σ with tok := ch, st := some (oS "c") })
  else bif qt then some (false, { σ with st := some ch })
  else some (false, { σ with tok := ch, st := some (oS "a") })
noncomputable def stepQ (ch st : Str) (σ : AS) (n eq es dq : Bool) : Option (Bool × AS) :=
  bif n then none
  else bif eq then some (false, { σ with q := true, st := some (oS "a") })
  else bif es && dq then some (false, { σ with q := true, es := st, st := some ch })
  else some (false, { σ with q := true, tok := σ.tok ++ ch })
noncomputable def stepE (ch st : Str) (σ : AS) (n a1 a2 a3 : Bool) : Option (Bool × AS) :=
  bif n then none
  else bif a1 && a2 && a3 then some (false, { σ with tok := σ.tok ++ st ++ ch, st := some σ.es })
  else some (false, { σ with tok := σ.tok ++ ch, st := some σ.es })
noncomputable def stepW (b ch : Str) (σ : AS) (isc n ws co es wc pc qt fl : Bool) : Option (Bool × AS) :=
  bif n then some (true, { σ with st := none })
  else bif ws then some (fl, { σ with st := some (oS " ") })
  else bif co then some (fl, { σ with p := lineEnd b σ.p, st := some (oS " ") })
  else bif isc then
    bif pc then some (false, { σ with tok := σ.tok ++ ch })
    else some (true, { σ with pc := some ch, st := some (oS " ") })
  else bif qt then some (false, { σ with st := some ch })
  else bif es then some (false, { σ with es := oS "a", st := some ch })
  else bif wc || !pc then some (false, { σ with tok := σ.tok ++ ch })
  else some (fl, { σ with pc := some ch, st := some (oS " ") })
/-- a turn of read_token's loop behind the read, from the tests' answers; true: it ends -/
noncomputable def stepT (b ch : Str) (σ : AS) (n ws co es wc pc qt fl : Bool) : Option Str → Option (Bool × AS)
  | none => some (true, { σ with tok := oS "" })
  | some st =>
    bif st == oS " " then stepSp b ch σ n ws co es wc pc qt fl
    else bif inF st qtS then stepQ ch st σ n (ch == st) es (inF st (oS "\""))
    else bif inF st (oS "\\") then stepE ch st σ n (inF σ.es qtS) (ch != st) (ch != σ.es)
    else bif st == oS "a" || st == oS "c" then stepW b ch σ (st == oS "c") n ws co es wc pc qt fl
    else none
theorem stepT_q {b ch st : Str} {σ : AS} {n ws co es wc pc qt fl : Bool} (h1 : (st == oS " ") = false) (h2 : inF st qtS = true) : stepT b ch σ n ws co es wc pc qt fl (some st) = stepQ ch st σ n (ch == st) es (inF st (oS "\"")) := by unfold stepT; dsimp only; rw [h1, h2]; rfl
theorem stepT_e {b ch st : Str} {σ : AS} {n ws co es wc pc qt fl : Bool} (h1 : (st == oS " ") = false) (h2 : inF st qtS = false) (h3 : inF st (oS "\\") = true) : stepT b ch σ n ws co es wc pc qt fl (some st) = stepE ch st σ n (inF σ.es qtS) (ch != st) (ch != σ.es) := by unfold stepT; dsimp only; rw [h1, h2, h3]; rfl
theorem stepT_a {b ch : Str} {σ : AS} {n ws co es wc pc qt fl : Bool} : stepT b ch σ n ws co es wc pc qt fl (some (oS "a")) = stepW b ch σ false n ws co es wc pc qt fl := by kernel_rfl
theorem stepT_c {b ch : Str} {σ : AS} {n ws co es wc pc qt fl : Bool} : stepT b ch σ n ws co es wc pc qt fl (some (oS "c")) = stepW b ch σ true n ws co es wc pc qt fl := by kernel_rfl
noncomputable def stepA (b ch : Str) (σ : AS) : Option (Bool × AS) :=
  stepT b ch σ (ch.length == 0) (inF ch wsS) (inF ch (oS "#")) (inF ch (oS "\\")) (inF ch wcS) (inF ch pcS) (inF ch qtS) (decide (σ.tok.length ≠ 0) || σ.q) σ.st
theorem stepA_of {b ch : Str} {σ : AS} {o : Option Str} (h : σ.st = o) : stepA b ch σ = stepT b ch σ (ch.length == 0) (inF ch wsS) (inF ch (oS "#")) (inF ch (oS "\\")) (inF ch wcS) (inF ch pcS) (inF ch qtS) (decide (σ.tok.length ≠ 0) || σ.q) o := by subst h; rfl
noncomputable def step (b : Str) (σ : AS) : Option (Bool × AS) := stepA b (nxC b σ) (nxS b σ)
noncomputable def whileBody (l : List Stmt) : List Stmt := match l with | _ :: _ :: .While _ b _ _ :: _ => b | _ => []
@[reducible] noncomputable def rtB : {l : List Stmt // whileBody b39_6 = l} := ⟨_, by conv => lhs; whnf⟩
noncomputable abbrev rtBody : List Stmt := rtB.1
/-- the frame in read_token's loop -/
noncomputable def frM (S : Addr) (q : Bool) (es : Str) (te : Tok) (ch : Str) (tc : Tok) (u : Str → Option Value) : Str → Option Value := fun y => if y = oS "nextchar" then some (.str ch tc) else if y = oS "escapedstate" then some (.str es te) else if y = oS "quoted" then some (.bool q) else if y = oS "self" then some (.ref S) else u y
def AbsX (x : LX) (σ : AS) : Prop :=
  (match σ.st with | none => x.st = .none | some s => ∃ t, x.st = .str s t) ∧ (∃ t, x.tok = .str σ.tok t) ∧ (∃ i t, x.ln = .int i t) ∧ x.p = σ.p ∧ (match σ.pc with | none => x.xs = [] | some ch => ∃ t, x.xs = [.str ch t])
def AbsM (S : Addr) (m : Str → Option Value) (σ : AS) : Prop := m (oS "self") = some (.ref S) ∧ m (oS "quoted") = some (.bool σ.q) ∧ ∃ t, m (oS "escapedstate") = some (.str σ.es t)
/-- where a turn ends -/
def PostT (S : Addr) (b ch : Str) (σ : AS) (f : Flow) (m : Str → Option Value) (x : LX) : Prop :=
  ∃ e σ', stepA b ch σ = some (e, σ') ∧ AbsM S m σ' ∧ AbsX x σ' ∧ (if e = true then f = .brk else f = .next ∨ f = .cont)
local macro_rules | `(tactic| walk_at "fld") => `(tactic| with_reducible first | exact LexG.base LexF.debug | exact LexG.base (LexF.state PvOf.str) | exact LexG.base (LexF.state PvOf.non) | exact LexG.base (LexF.token PvOf.str) | exact LexG.base LexF.whitespace | exact LexG.base LexF.commenters | exact LexG.base LexF.posix | exact LexG.base LexF.escape | exact LexG.base LexF.wordchars | exact LexG.prop | exact LexG.base LexF.quotes | exact LexG.base LexF.split | exact LexG.base LexF.escapedquotes)
theorem frM_ch {S : Addr} {q : Bool} {es ch : Str} {te tc : Tok} {u : Str → Option Value} : frM S q es te ch tc u (Str.ofString "nextchar") = some (.str ch tc) := by kernel_rfl
theorem frM_es {S : Addr} {q : Bool} {es ch : Str} {te tc : Tok} {u : Str → Option Value} : frM S q es te ch tc u (Str.ofString "escapedstate") = some (.str es te) := by kernel_rfl
theorem frM_q {S : Addr} {q : Bool} {es ch : Str} {te tc : Tok} {u : Str → Option Value} : frM S q es te ch tc u (Str.ofString "quoted") = some (.bool q) := by kernel_rfl
theorem frM_self {S : Addr} {q : Bool} {es ch : Str} {te tc : Tok} {u : Str → Option Value} : frM S q es te ch tc u (Str.ofString "self") = some (.ref S) := by kernel_rfl
theorem lk_same {n : Str} {v : Value} {m : Str → Option Value} : (fun y => if y = n then some v else m y) n = some v := if_pos rfl
theorem lk_other {n x : Str} {v : Value} {r : Option Value} {m : Str → Option Value} (h : x ≠ n) (k : m x = r) : (fun y => if y = n then some v else m y) x = r := by show (if x = n then some v else m x) = r; rw [if_neg h, k]
local macro_rules | `(tactic| walk_at "lk") => `(tactic| with_reducible first | exact frM_ch | exact frM_es | exact frM_q | exact frM_self)
local macro_rules | `(tactic| walk_at "ev") => `(tactic| first | (with_reducible first | exact Ev.str | exact Ev.int | exact Ev.bool | exact Ev.non) | ((with_reducible show Ev _ _ _ _ (Expr.Attribute _ _ _) _); exact Ev.self (by exact rfl) (by walk_at "lk") (by walk_at "fld")) | ((with_reducible show Ev _ _ _ _ (Expr.Name _ _) _); exact Ev.name (by exact rfl) (by decide) (by walk_at "lk") (by constructor)))
local macro_rules | `(tactic| walk_at "tru") => `(tactic| first | exact Tru.bool | exact Tru.non | exact Tru.str (by omega))
local macro_rules | `(tactic| walk_at "ts") => `(tactic| first
  | ((with_reducible show Ts _ _ _ _ (Expr.Compare _ _ _ _) _); exact Ts.cmp (by walk_at "ev") (by walk_at "ev") (by constructor) (by exact rfl))
  | ((with_reducible show Ts _ _ _ _ (Expr.UnaryOp _ _ _) _); exact Ts.not (by walk_at "ts"))
  | ((with_reducible show Ts _ _ _ _ (Expr.BoolOp BoolOp.And [_] _) _); exact Ts.and1 (by walk_at "ts"))
  | ((with_reducible show Ts _ _ _ _ (Expr.BoolOp BoolOp.Or [_] _) _); exact Ts.or1 (by walk_at "ts"))
  | ((with_reducible show Ts _ _ _ _ (Expr.Name _ _) _); exact Ts.nm (by walk_at "ev") (by walk_at "tru"))
  | ((with_reducible show Ts _ _ _ _ (Expr.Attribute _ _ _) _); exact Ts.attr (by walk_at "ev") (by walk_at "tru")))
section
variable {X : Type} {prog : Program} {w : World} {A : Around} {env : Env} {h₀ : Heap} {L S : Addr} {led : X → List (Addr × Obj)} {fld : X → Str → PV → Prop} {P : Flow → (Str → Option Value) → X → Prop} {m : Str → Option Value} {x : X} {test : Expr} {body els rest : List Stmt} {pos : Pos} {ks : List (List Stmt)} {b : Bool}
theorem if_T (h : Ts env S (fld x) m test b) (e : b = true) (k : Sx prog w A env h₀ L S led fld P m x body (rest :: ks)) : Sx prog w A env h₀ L S led fld P m x (.If test body els pos :: rest) ks := .ifT (e ▸ h) k
theorem if_F (h : Ts env S (fld x) m test b) (e : b = false) (k : Sx prog w A env h₀ L S led fld P m x els (rest :: ks)) : Sx prog w A env h₀ L S led fld P m x (.If test body els pos :: rest) ks := .ifF (e ▸ h) k
/-- a test whose answer is open -/
theorem if_B (h : Ts env S (fld x) m test b) (k : b = true → Sx prog w A env h₀ L S led fld P m x body (rest :: ks)) (k' : b = false → Sx prog w A env h₀ L S led fld P m x els (rest :: ks)) : Sx prog w A env h₀ L S led fld P m x (.If test body els pos :: rest) ks := by
  cases b with
  | true => exact .ifT h (k rfl)
  | false => exact .ifF h (k' rfl)
end
theorem frM_setq {S : Addr} {q q' : Bool} {es ch : Str} {te tc : Tok} {u : Str → Option Value} : (fun y => if y = Str.ofString "quoted" then some (.bool q') else frM S q es te ch tc u y) = frM S q' es te ch tc u := by
  funext y
  unfold frM
  by_cases h : y = Str.ofString "quoted"
  · subst h; kernel_rfl!
  · show (if y = Str.ofString "quoted" then _ else _) = _
    rw [if_neg h]
    by_cases h1 : y = oS "nextchar"
    · rw [if_pos h1, if_pos h1]
    · rw [if_neg h1, if_neg h1]
      by_cases h2 : y = oS "escapedstate"
      · rw [if_pos h2, if_pos h2]
      · rw [if_neg h2, if_neg h2, if_neg h, if_neg h]
theorem frM_setes {S : Addr} {q : Bool} {es es' ch : Str} {te te' tc : Tok} {u : Str → Option Value} : (fun y => if y = Str.ofString "escapedstate" then some (.str es' te') else frM S q es te ch tc u y) = frM S q es' te' ch tc u := by
  funext y
  unfold frM
  by_cases h : y = Str.ofString "escapedstate"
  · subst h; kernel_rfl!
  · show (if y = Str.ofString "escapedstate" then _ else _) = _
    rw [if_neg h]
    by_cases h1 : y = oS "nextchar"
    · rw [if_pos h1, if_pos h1]
    · rw [if_neg h1, if_neg h1, if_neg h, if_neg h]
section
variable {X : Type} {prog : Program} {w : World} {A : Around} {env : Env} {h₀ : Heap} {L S : Addr} {led : X → List (Addr × Obj)} {fld : X → Str → PV → Prop} {P : Flow → (Str → Option Value) → X → Prop} {x : X} {e : Expr} {rest : List Stmt} {np pos : Pos} {ks : List (List Stmt)} {q v : Bool} {es ch : Str} {te tc : Tok} {u : Str → Option Value}
theorem asg_q (he : Ev env S (fld x) (frM S q es te ch tc u) e (.bool v)) (hl : env.kindOf (Str.ofString "quoted") = some .local) (hs : swapsWith e (some (.Name (Str.ofString "quoted") np)) pos.line env = pure false) (h : Sx prog w A env h₀ L S led fld P (frM S v es te ch tc u) x rest ks) :
    Sx prog w A env h₀ L S led fld P (frM S q es te ch tc u) x (.Assign [.Name (Str.ofString "quoted") np] e pos :: rest) ks :=
  .asg he hl hs fun w hw => by cases hw; rw [frM_setq]; exact h
theorem asg_es {y : Str} (he : Ev env S (fld x) (frM S q es te ch tc u) e (.str y)) (hl : env.kindOf (Str.ofString "escapedstate") = some .local) (hs : swapsWith e (some (.Name (Str.ofString "escapedstate") np)) pos.line env = pure false) (h : ∀ t, Sx prog w A env h₀ L S led fld P (frM S q y t ch tc u) x rest ks) :
    Sx prog w A env h₀ L S led fld P (frM S q es te ch tc u) x (.Assign [.Name (Str.ofString "escapedstate") np] e pos :: rest) ks :=
  .asg he hl hs fun w hw => by obtain ⟨t, rfl⟩ := hw; rw [frM_setes]; exact h t
end
/-- self.token or (self.posix and quoted) -/
theorem ts_B {env : Env} {S : Addr} {fld : Str → PV → Prop} {m : Str → Option Value} {e1 e2 e3 : Expr} {p1 p2 : Pos} {n : Nat} {q : Bool} (h1 : Ts env S fld m e1 ((n : Int) != 0)) (h2 : Ts env S fld m e2 true) (h3 : Ts env S fld m e3 q) : Ts env S fld m (.BoolOp .Or [e1, .BoolOp .And [e2, e3] p1] p2) (decide (n ≠ 0) || q) := by
  by_cases h : n = 0
  · subst h
    exact .orF (h1.is rfl) (.or1 (.andT h2 (.and1 h3)))
  · rw [decide_eq_true h]
    exact .orT (h1.is (by simpa using h))
section
variable {w : World} {c : LexP} {b : Str} {r : List (Addr × Obj)} {h₀ : Heap} {L' : Addr} {A : Around}
def RLok (w : World) (A : Around) (env : Env) (h₀ : Heap) (L' : Addr) (c : LexP) (b : Str) (r : List (Addr × Obj)) : Prop := ∀ {P : Flow → (Str → Option Value) → LX → Prop} {m : Str → Option Value} {x : LX} {p1 p2 p3 p4 p5 : Pos} {rest : List Stmt} {ks : List (List Stmt)}, (p3.endLine == p4.line) = true → swapsWith (.Call (.Attribute (.Attribute (.Name (oS "self") p1) (oS "instream") p2) (oS "readline") p3) [] [] p4) none p5.line env = pure false → m (oS "self") = some (.ref c.S) → 0 ≤ x.p → x.p ≤ b.length →
  (∀ pt, SxL w A env h₀ L' c b r P m { x with p := lineEnd b x.p, pt := pt } rest ks) → SxL w A env h₀ L' c b r P m x (.Expr (.Call (.Attribute (.Attribute (.Name (oS "self") p1) (oS "instream") p2) (oS "readline") p3) [] [] p4) p5 :: rest) ks
def PUok (w : World) (A : Around) (env : Env) (h₀ : Heap) (L' : Addr) (c : LexP) (b : Str) (r : List (Addr × Obj)) : Prop := ∀ {P : Flow → (Str → Option Value) → LX → Prop} {m : Str → Option Value} {x : LX} {ch : Str} {tc : Tok} {p1 p2 p3 p4 p5 p6 : Pos} {rest : List Stmt} {ks : List (List Stmt)}, (p3.endLine == p5.line) = true → swapsWith (.Call (.Attribute (.Attribute (.Name (oS "self") p1) (oS "_pushback_chars") p2) (oS "append") p3) [.Name (oS "nextchar") p4] [] p5) none p6.line env = pure false → m (oS "self") = some (.ref c.S) → m (oS "nextchar") = some (.str ch tc) → x.xs = [] →
  SxL w A env h₀ L' c b r P m { x with k := x.k + 1, xs := [.str ch tc] } rest ks → SxL w A env h₀ L' c b r P m x (.Expr (.Call (.Attribute (.Attribute (.Name (oS "self") p1) (oS "_pushback_chars") p2) (oS "append") p3) [.Name (oS "nextchar") p4] [] p5) p6 :: rest) ks
end
section
variable {w : World} {c : LexP} {b ch : Str} {r : List (Addr × Obj)} {x : LX} {h₀ : Heap} {L' : Addr} {A : Around} {u : Str → Option Value} {te tc : Tok} {σ : AS}
variable (hf : ∀ x, FldOk pw w A h₀ L' c.S (ledX w c b r x) (fldX c x)) (ap : Apart c r) (X : (K w.params).In h₀)
variable (hrl : RLok w A (envOf (oS "shlex.read_token") c39_6 L' 798 (.ref 797)) h₀ L' c b r) (hpu : PUok w A (envOf (oS "shlex.read_token") c39_6 L' 798 (.ref 797)) h₀ L' c b r)
variable (hch : ch.length ≤ 1) (ht : σ.tok.length ≤ 500000) (hp0 : 0 ≤ σ.p) (hp1 : σ.p ≤ b.length) (hpc : σ.pc = none) (hx : AbsX x σ)
include hf ap X hrl hpu hch ht hp0 hp1 hpc hx
set_option maxHeartbeats 1000000 in
theorem turn_none (hst : σ.st = none) :
    SxL w A (envOf (oS "shlex.read_token") c39_6 L' 798 (.ref 797)) h₀ L' c b r (PostT c.S b ch σ) (frM c.S σ.q σ.es te ch tc u) x (rtBody.drop 2) [] := by
  obtain ⟨h1, ⟨t2, h2⟩, ⟨i, t3, h3⟩, h4, h5⟩ := hx
  obtain ⟨xst, xtok, xln, xp, xpt, xk, xxs⟩ := x
  dsimp only at h1 h2 h3 h4 h5
  rw [hst] at h1
  subst h1 h2 h3
  refine if_F (by walk_at "ts") (by first | with_reducible assumption | rfl | decide) ?_
  refine .pop ?_
  refine if_T (by walk_at "ts") (by first | with_reducible assumption | rfl | decide) ?_
  refine sx_token (by exact rfl) hf ap X (by exact rfl) (by walk_at "lk") (by walk_at "ev") (by exact rfl) ?_
  rintro v ⟨t, rfl⟩
  refine .brk ?_
  exact ⟨true, { σ with tok := oS "" }, by rw [stepA_of hst]; rfl, ⟨by walk_at "lk", by walk_at "lk", te, by walk_at "lk"⟩, ⟨by rw [hst], ⟨_, rfl⟩, ⟨_, _, rfl⟩, h4, h5⟩, rfl⟩
end
open PySem PySem.W PySem.Calls PyProof.Rows
section
variable {w : World} {c : LexP} {b ch : Str} {r : List (Addr × Obj)} {x : LX} {h₀ : Heap} {L' : Addr} {A : Around} {u : Str → Option Value} {te tc : Tok} {σ : AS}
variable (hf : ∀ x, FldOk pw w A h₀ L' c.S (ledX w c b r x) (fldX c x)) (ap : Apart c r) (X : (K w.params).In h₀)
variable (hrl : RLok w A (envOf (oS "shlex.read_token") c39_6 L' 798 (.ref 797)) h₀ L' c b r) (hpu : PUok w A (envOf (oS "shlex.read_token") c39_6 L' 798 (.ref 797)) h₀ L' c b r)
variable (hch : ch.length ≤ 1) (ht : σ.tok.length ≤ 500000) (hp0 : 0 ≤ σ.p) (hp1 : σ.p ≤ b.length) (hpc : σ.pc = none) (hx : AbsX x σ)
include hf ap X hrl hpu hch ht hp0 hp1 hpc hx
set_option maxHeartbeats 1000000 in
theorem turn_sp (hst : σ.st = some (oS " ")) :
    SxL w A (envOf (oS "shlex.read_token") c39_6 L' 798 (.ref 797)) h₀ L' c b r (PostT c.S b ch σ) (frM c.S σ.q σ.es te ch tc u) x (rtBody.drop 2) [] := by
  obtain ⟨h1, ⟨t2, h2⟩, ⟨i, t3, h3⟩, h4, h5⟩ := hx
  obtain ⟨xst, xtok, xln, xp, xpt, xk, xxs⟩ := x
  dsimp only at h1 h2 h3 h4 h5
  rw [hst] at h1
  obtain ⟨t1, h1⟩ := h1
  subst h1 h2 h3
  refine if_F (by walk_at "ts") (by first | with_reducible assumption | rfl | decide) ?_
  refine .pop ?_
  refine if_F (by walk_at "ts") (by first | with_reducible assumption | rfl | decide) ?_
  refine if_T (by walk_at "ts") (by first | with_reducible assumption | rfl | decide) ?_
  by_cases hn : ch.length = 0
  · have hN : (!((ch.length : Int) != 0)) = true := by rw [hn]; rfl
    have hn1 : (ch.length == 0) = true := by rw [hn]; rfl
    refine if_T (by walk_at "ts") (by first | with_reducible assumption | rfl | decide) ?_
    refine sx_state (by exact rfl) hf ap X (by exact rfl) (by walk_at "lk") (by walk_at "ev") (by exact rfl) ?_
    rintro v rfl
    refine .brk ?_
    exact ⟨true, { σ with st := none }, by rw [stepA_of hst, hn1]; rfl, ⟨by walk_at "lk", by walk_at "lk", te, by walk_at "lk"⟩, ⟨rfl, ⟨_, rfl⟩, ⟨_, _, rfl⟩, h4, h5⟩, rfl⟩
  have hN : (!((ch.length : Int) != 0)) = false := by simpa using hn
  have hn0 : (ch.length == 0) = false := by simpa using hn
  refine if_F (by walk_at "ts") (by first | with_reducible assumption | rfl | decide) ?_
  cases c1 : inF ch wsS with
  | true =>
    refine if_T (by walk_at "ts") (by first | with_reducible assumption | rfl | decide) ?_
    refine if_F (by walk_at "ts") (by first | with_reducible assumption | rfl | decide) ?_
    refine .pop ?_
    have hs : stepA b ch σ = some (decide (σ.tok.length ≠ 0) || σ.q, σ) := by rw [stepA_of hst, hn0, c1]; rfl
    refine if_B (ts_B (by walk_at "ts") (by walk_at "ts") (by walk_at "ts")) (fun hb => ?_) fun hb => ?_
    · refine .brk ⟨_, _, hs, ⟨by walk_at "lk", by walk_at "lk", te, by walk_at "lk"⟩, ⟨by rw [hst]; exact ⟨_, rfl⟩, ⟨_, rfl⟩, ⟨_, _, rfl⟩, h4, h5⟩, by rw [hb]; rfl⟩
    · refine .cont ⟨_, _, hs, ⟨by walk_at "lk", by walk_at "lk", te, by walk_at "lk"⟩, ⟨by rw [hst]; exact ⟨_, rfl⟩, ⟨_, rfl⟩, ⟨_, _, rfl⟩, h4, h5⟩, by rw [hb]; exact .inr rfl⟩
  | false =>
  refine if_F (by walk_at "ts") (by first | with_reducible assumption | rfl | decide) ?_
  cases c2 : inF ch (oS "#") with
  | true =>
    refine if_T (by walk_at "ts") (by first | with_reducible assumption | rfl | decide) ?_
    refine hrl (by exact rfl) (by exact rfl) (by walk_at "lk") (by show 0 ≤ xp; (first | lia | omega)) (by show xp ≤ _; (first | lia | omega)) fun pt2 => ?_
    (refine sx_line (by exact rfl) hf ap X (by exact rfl) (by walk_at "lk") rfl ?_; intro tln)
    repeat refine .pop ?_
    exact .nil ⟨false, { σ with p := lineEnd b σ.p }, by rw [stepA_of hst, hn0, c1, c2]; rfl, ⟨by walk_at "lk", by walk_at "lk", _, by walk_at "lk"⟩, ⟨by rw [hst]; exact ⟨_, rfl⟩, ⟨_, rfl⟩, ⟨_, _, rfl⟩, by rw [h4], h5⟩, .inl rfl⟩
  | false =>
  refine if_F (by walk_at "ts") (by first | with_reducible assumption | rfl | decide) ?_
  cases c3 : inF ch (oS "\\") with
  | true =>
    refine if_T (.andT (by walk_at "ts") (.and1 (by walk_at "ts"))) c3 ?_
    (refine asg_es (by walk_at "ev") (by exact rfl) (by exact rfl) ?_; intro tes)
    refine sx_state (by exact rfl) hf ap X (by exact rfl) (by walk_at "lk") (by walk_at "ev") (by exact rfl) ?_
    rintro v ⟨t, rfl⟩
    repeat refine .pop ?_
    exact .nil ⟨false, { σ with es := oS "a", st := some ch }, by rw [stepA_of hst, hn0, c1, c2, c3]; rfl, ⟨by walk_at "lk", by walk_at "lk", _, by walk_at "lk"⟩, ⟨⟨_, rfl⟩, ⟨_, rfl⟩, ⟨_, _, rfl⟩, h4, h5⟩, .inl rfl⟩
  | false =>
  refine if_F (.andT (by walk_at "ts") (.and1 (by walk_at "ts"))) c3 ?_
  cases c4 : inF ch wcS with
  | true =>
    refine if_T (by walk_at "ts") (by first | with_reducible assumption | rfl | decide) ?_
    refine sx_token (by exact rfl) hf ap X (by exact rfl) (by walk_at "lk") (by walk_at "ev") (by exact rfl) ?_
    rintro v ⟨t, rfl⟩
    refine sx_state (by exact rfl) hf ap X (by exact rfl) (by walk_at "lk") (by walk_at "ev") (by exact rfl) ?_
    rintro v ⟨t, rfl⟩
    repeat refine .pop ?_
    exact .nil ⟨false, { σ with tok := ch, st := some (oS "a") }, by rw [stepA_of hst, hn0, c1, c2, c3, c4]; rfl, ⟨by walk_at "lk", by walk_at "lk", _, by walk_at "lk"⟩, ⟨⟨_, rfl⟩, ⟨_, rfl⟩, ⟨_, _, rfl⟩, h4, h5⟩, .inl rfl⟩
  | false =>
  refine if_F (by walk_at "ts") (by first | with_reducible assumption | rfl | decide) ?_
  cases c5 : inF ch pcS with
  | true =>
    refine if_T (by walk_at "ts") (by first | with_reducible assumption | rfl | decide) ?_
    refine sx_token (by exact rfl) hf ap X (by exact rfl) (by walk_at "lk") (by walk_at "ev") (by exact rfl) ?_
    rintro v ⟨t, rfl⟩
    refine sx_state (by exact rfl) hf ap X (by exact rfl) (by walk_at "lk") (by walk_at "ev") (by exact rfl) ?_
    rintro v ⟨t, rfl⟩
    repeat refine .pop ?_
    exact .nil ⟨false, { σ with tok := ch, st := some (oS "c") }, by rw [stepA_of hst, hn0, c1, c2, c3, c4, c5]; rfl, ⟨by walk_at "lk", by walk_at "lk", _, by walk_at "lk"⟩, ⟨⟨_, rfl⟩, ⟨_, rfl⟩, ⟨_, _, rfl⟩, h4, h5⟩, .inl rfl⟩
  | false =>
  refine if_F (by walk_at "ts") (by first | with_reducible assumption | rfl | decide) ?_
  cases c6 : inF ch qtS with
  | true =>
    refine if_T (by walk_at "ts") (by first | with_reducible assumption | rfl | decide) ?_
    refine if_F (by walk_at "ts") (by first | with_reducible assumption | rfl | decide) ?_
    refine .pop ?_
    refine sx_state (by exact rfl) hf ap X (by exact rfl) (by walk_at "lk") (by walk_at "ev") (by exact rfl) ?_
    rintro v ⟨t, rfl⟩
    repeat refine .pop ?_
    exact .nil ⟨false, { σ with st := some ch }, by rw [stepA_of hst, hn0, c1, c2, c3, c4, c5, c6]; rfl, ⟨by walk_at "lk", by walk_at "lk", _, by walk_at "lk"⟩, ⟨⟨_, rfl⟩, ⟨_, rfl⟩, ⟨_, _, rfl⟩, h4, h5⟩, .inl rfl⟩
  | false =>
  refine if_F (by walk_at "ts") (by first | with_reducible assumption | rfl | decide) ?_
  refine if_T (by walk_at "ts") (by first | with_reducible assumption | rfl | decide) ?_
  refine sx_token (by exact rfl) hf ap X (by exact rfl) (by walk_at "lk") (by walk_at "ev") (by exact rfl) ?_
  rintro v ⟨t, rfl⟩
  refine sx_state (by exact rfl) hf ap X (by exact rfl) (by walk_at "lk") (by walk_at "ev") (by exact rfl) ?_
  rintro v ⟨t, rfl⟩
  repeat refine .pop ?_
  exact .nil ⟨false, { σ with tok := ch, st := some (oS "a") }, by rw [stepA_of hst, hn0, c1, c2, c3, c4, c5, c6]; rfl, ⟨by walk_at "lk", by walk_at "lk", _, by walk_at "lk"⟩, ⟨⟨_, rfl⟩, ⟨_, rfl⟩, ⟨_, _, rfl⟩, h4, h5⟩, .inl rfl⟩
end
open PySem PySem.W PySem.Calls PyProof.Rows
section
variable {w : World} {c : LexP} {b ch : Str} {r : List (Addr × Obj)} {x : LX} {h₀ : Heap} {L' : Addr} {A : Around} {u : Str → Option Value} {te tc : Tok} {σ : AS}
variable (hf : ∀ x, FldOk pw w A h₀ L' c.S (ledX w c b r x) (fldX c x)) (ap : Apart c r) (X : (K w.params).In h₀)
variable (hrl : RLok w A (envOf (oS "shlex.read_token") c39_6 L' 798 (.ref 797)) h₀ L' c b r) (hpu : PUok w A (envOf (oS "shlex.read_token") c39_6 L' 798 (.ref 797)) h₀ L' c b r)
variable (hch : ch.length ≤ 1) (ht : σ.tok.length ≤ 500000) (hp0 : 0 ≤ σ.p) (hp1 : σ.p ≤ b.length) (hpc : σ.pc = none) (hx : AbsX x σ)
include hf ap X hrl hpu hch ht hp0 hp1 hpc hx
set_option maxHeartbeats 1000000 in
theorem turn_q {st : Str} (hst : σ.st = some st) (hs1 : (st == oS " ") = false) (hs2 : inF st qtS = true) (hno : stepA b ch σ ≠ none) :
    SxL w A (envOf (oS "shlex.read_token") c39_6 L' 798 (.ref 797)) h₀ L' c b r (PostT c.S b ch σ) (frM c.S σ.q σ.es te ch tc u) x (rtBody.drop 2) [] := by
  obtain ⟨h1, ⟨t2, h2⟩, ⟨i, t3, h3⟩, h4, h5⟩ := hx
  obtain ⟨xst, xtok, xln, xp, xpt, xk, xxs⟩ := x
  dsimp only at h1 h2 h3 h4 h5
  rw [hst] at h1
  obtain ⟨t1, h1⟩ := h1
  subst h1 h2 h3
  refine if_F (by walk_at "ts") (by first | with_reducible assumption | rfl | decide) ?_
  refine .pop ?_
  refine if_F (by walk_at "ts") (by first | with_reducible assumption | rfl | decide) ?_
  refine if_F (by walk_at "ts") (by first | with_reducible assumption | rfl | decide) ?_
  refine if_T (by walk_at "ts") (by first | with_reducible assumption | rfl | decide) ?_
  have hd1 : ¬ st = oS " " := fun e => by rw [e] at hs1; exact absurd hs1 (by decide)
  refine asg_q (by walk_at "ev") (by exact rfl) (by exact rfl) ?_
  by_cases hn : ch.length = 0
  · exact absurd (by rw [stepA_of hst, stepT_q hs1 hs2, show (ch.length == 0) = true by rw [hn]; rfl]; rfl) hno
  have hN : (!((ch.length : Int) != 0)) = false := by simpa using hn
  have hn0 : (ch.length == 0) = false := by simpa using hn
  refine if_F (by walk_at "ts") (by first | with_reducible assumption | rfl | decide) ?_
  refine .pop ?_
  cases d1 : (ch == st) with
  | true =>
    have e1 : ch = st := beq_iff_eq.mp d1
    refine if_T (by walk_at "ts") (by first | with_reducible assumption | rfl | decide) ?_
    refine if_F (by walk_at "ts") (by first | with_reducible assumption | rfl | decide) ?_
    refine sx_state (by exact rfl) hf ap X (by exact rfl) (by walk_at "lk") (by walk_at "ev") (by exact rfl) ?_
    rintro v ⟨t, rfl⟩
    repeat refine .pop ?_
    exact .nil ⟨false, { σ with q := true, st := some (oS "a") }, by rw [stepA_of hst, stepT_q hs1 hs2, hn0, d1]; rfl, ⟨by walk_at "lk", by walk_at "lk", _, by walk_at "lk"⟩, ⟨⟨_, rfl⟩, ⟨_, rfl⟩, ⟨_, _, rfl⟩, h4, h5⟩, .inl rfl⟩
  | false =>
  have e1 : ¬ ch = st := fun e => by rw [e] at d1; simp at d1
  refine if_F (by walk_at "ts") (by first | with_reducible assumption | rfl | decide) ?_
  cases d2 : inF ch (oS "\\") with
  | false =>
    refine if_F (.andT (by walk_at "ts") (.andF (.is (by walk_at "ts") d2))) rfl ?_
    refine sx_more (by exact rfl) hf ap X (by exact rfl) (by walk_at "lk") rfl (by walk_at "ev") (by omega) ?_
    intro t
    repeat refine .pop ?_
    exact .nil ⟨false, { σ with q := true, tok := σ.tok ++ ch }, by rw [stepA_of hst, stepT_q hs1 hs2, hn0, d1, d2]; rfl, ⟨by walk_at "lk", by walk_at "lk", _, by walk_at "lk"⟩, ⟨by rw [hst]; exact ⟨_, rfl⟩, ⟨_, rfl⟩, ⟨_, _, rfl⟩, h4, h5⟩, .inl rfl⟩
  | true =>
  cases d3 : inF st (oS "\"") with
  | false =>
    refine if_F (.andT (by walk_at "ts") (.andT (.is (by walk_at "ts") d2) (.and1 (by walk_at "ts")))) d3 ?_
    refine sx_more (by exact rfl) hf ap X (by exact rfl) (by walk_at "lk") rfl (by walk_at "ev") (by omega) ?_
    intro t
    repeat refine .pop ?_
    exact .nil ⟨false, { σ with q := true, tok := σ.tok ++ ch }, by rw [stepA_of hst, stepT_q hs1 hs2, hn0, d1, d2, d3]; rfl, ⟨by walk_at "lk", by walk_at "lk", _, by walk_at "lk"⟩, ⟨by rw [hst]; exact ⟨_, rfl⟩, ⟨_, rfl⟩, ⟨_, _, rfl⟩, h4, h5⟩, .inl rfl⟩
  | true =>
  refine if_T (.andT (by walk_at "ts") (.andT (.is (by walk_at "ts") d2) (.and1 (by walk_at "ts")))) d3 ?_
  (refine asg_es (by walk_at "ev") (by exact rfl) (by exact rfl) ?_; intro tes)
  refine sx_state (by exact rfl) hf ap X (by exact rfl) (by walk_at "lk") (by walk_at "ev") (by exact rfl) ?_
  rintro v ⟨t, rfl⟩
  repeat refine .pop ?_
  exact .nil ⟨false, { σ with q := true, es := st, st := some ch }, by rw [stepA_of hst, stepT_q hs1 hs2, hn0, d1, d2, d3]; rfl, ⟨by walk_at "lk", by walk_at "lk", _, by walk_at "lk"⟩, ⟨⟨_, rfl⟩, ⟨_, rfl⟩, ⟨_, _, rfl⟩, h4, h5⟩, .inl rfl⟩
end
open PySem PySem.W PySem.Calls PyProof.Rows
local macro_rules | `(tactic| walk_at "ts") => `(tactic| first
  | ((with_reducible show Ts _ _ _ _ (Expr.Compare _ [CmpOp.In] [Expr.Tuple _ _ _] _) _); exact Ts.inT (by walk_at "ev") (by exact rfl))
  | ((with_reducible show Ts _ _ _ _ (Expr.Compare _ _ _ _) _); exact Ts.cmp (by walk_at "ev") (by walk_at "ev") (by constructor) (by exact rfl))
  | ((with_reducible show Ts _ _ _ _ (Expr.UnaryOp _ _ _) _); exact Ts.not (by walk_at "ts"))
  | ((with_reducible show Ts _ _ _ _ (Expr.BoolOp BoolOp.And [_] _) _); exact Ts.and1 (by walk_at "ts"))
  | ((with_reducible show Ts _ _ _ _ (Expr.BoolOp BoolOp.Or [_] _) _); exact Ts.or1 (by walk_at "ts"))
  | ((with_reducible show Ts _ _ _ _ (Expr.Name _ _) _); exact Ts.nm (by walk_at "ev") (by walk_at "tru"))
  | ((with_reducible show Ts _ _ _ _ (Expr.Attribute _ _ _) _); exact Ts.attr (by walk_at "ev") (by walk_at "tru")))
section
variable {w : World} {c : LexP} {b ch : Str} {r : List (Addr × Obj)} {x : LX} {h₀ : Heap} {L' : Addr} {A : Around} {u : Str → Option Value} {te tc : Tok} {σ : AS}
variable (hf : ∀ x, FldOk pw w A h₀ L' c.S (ledX w c b r x) (fldX c x)) (ap : Apart c r) (X : (K w.params).In h₀)
variable (hrl : RLok w A (envOf (oS "shlex.read_token") c39_6 L' 798 (.ref 797)) h₀ L' c b r) (hpu : PUok w A (envOf (oS "shlex.read_token") c39_6 L' 798 (.ref 797)) h₀ L' c b r)
variable (hch : ch.length ≤ 1) (ht : σ.tok.length ≤ 500000) (hp0 : 0 ≤ σ.p) (hp1 : σ.p ≤ b.length) (hpc : σ.pc = none) (hx : AbsX x σ)
include hf ap X hrl hpu hch ht hp0 hp1 hpc hx
set_option maxHeartbeats 1000000 in
theorem turn_e {st : Str} (hst : σ.st = some st) (hs1 : (st == oS " ") = false) (hs2 : inF st qtS = false) (hs3 : inF st (oS "\\") = true) (hstl : st.length ≤ 1) (hno : stepA b ch σ ≠ none) :
    SxL w A (envOf (oS "shlex.read_token") c39_6 L' 798 (.ref 797)) h₀ L' c b r (PostT c.S b ch σ) (frM c.S σ.q σ.es te ch tc u) x (rtBody.drop 2) [] := by
  obtain ⟨h1, ⟨t2, h2⟩, ⟨i, t3, h3⟩, h4, h5⟩ := hx
  obtain ⟨xst, xtok, xln, xp, xpt, xk, xxs⟩ := x
  dsimp only at h1 h2 h3 h4 h5
  rw [hst] at h1
  obtain ⟨t1, h1⟩ := h1
  subst h1 h2 h3
  refine if_F (by walk_at "ts") (by first | with_reducible assumption | rfl | decide) ?_
  refine .pop ?_
  refine if_F (by walk_at "ts") (by first | with_reducible assumption | rfl | decide) ?_
  refine if_F (by walk_at "ts") (by first | with_reducible assumption | rfl | decide) ?_
  refine if_F (by walk_at "ts") (by first | with_reducible assumption | rfl | decide) ?_
  refine if_T (by walk_at "ts") (by first | with_reducible assumption | rfl | decide) ?_
  by_cases hn : ch.length = 0
  · exact absurd (by rw [stepA_of hst, stepT_e hs1 hs2 hs3, show (ch.length == 0) = true by rw [hn]; rfl]; rfl) hno
  have hN : (!((ch.length : Int) != 0)) = false := by simpa using hn
  have hn0 : (ch.length == 0) = false := by simpa using hn
  refine if_F (by walk_at "ts") (by first | with_reducible assumption | rfl | decide) ?_
  refine .pop ?_
  cases a1 : inF σ.es qtS with
  | false =>
  refine if_F (.andF (.is (by walk_at "ts") a1)) rfl ?_
  refine .pop ?_
  refine sx_more (by exact rfl) hf ap X (by exact rfl) (by walk_at "lk") rfl (by walk_at "ev") (by omega) ?_
  intro t
  refine sx_state (by exact rfl) hf ap X (by exact rfl) (by walk_at "lk") (by walk_at "ev") (by exact rfl) ?_
  rintro v ⟨t, rfl⟩
  repeat refine .pop ?_
  exact .nil ⟨false, { σ with tok := σ.tok ++ ch, st := some σ.es }, by rw [stepA_of hst, stepT_e hs1 hs2 hs3, hn0, a1]; rfl, ⟨by walk_at "lk", by walk_at "lk", _, by walk_at "lk"⟩, ⟨⟨_, rfl⟩, ⟨_, rfl⟩, ⟨_, _, rfl⟩, h4, h5⟩, .inl rfl⟩
  | true =>
  cases a2 : (ch != st) with
  | false =>
  refine if_F (.andT (.is (by walk_at "ts") a1) (.andF (.is (by walk_at "ts") a2))) rfl ?_
  refine .pop ?_
  refine sx_more (by exact rfl) hf ap X (by exact rfl) (by walk_at "lk") rfl (by walk_at "ev") (by omega) ?_
  intro t
  refine sx_state (by exact rfl) hf ap X (by exact rfl) (by walk_at "lk") (by walk_at "ev") (by exact rfl) ?_
  rintro v ⟨t, rfl⟩
  repeat refine .pop ?_
  exact .nil ⟨false, { σ with tok := σ.tok ++ ch, st := some σ.es }, by rw [stepA_of hst, stepT_e hs1 hs2 hs3, hn0, a1, a2]; rfl, ⟨by walk_at "lk", by walk_at "lk", _, by walk_at "lk"⟩, ⟨⟨_, rfl⟩, ⟨_, rfl⟩, ⟨_, _, rfl⟩, h4, h5⟩, .inl rfl⟩
  | true =>
  cases a3 : (ch != σ.es) with
  | false =>
  refine if_F (.andT (.is (by walk_at "ts") a1) (.andT (.is (by walk_at "ts") a2) (.and1 (.is (by walk_at "ts") a3)))) rfl ?_
  refine .pop ?_
  refine sx_more (by exact rfl) hf ap X (by exact rfl) (by walk_at "lk") rfl (by walk_at "ev") (by omega) ?_
  intro t
  refine sx_state (by exact rfl) hf ap X (by exact rfl) (by walk_at "lk") (by walk_at "ev") (by exact rfl) ?_
  rintro v ⟨t, rfl⟩
  repeat refine .pop ?_
  exact .nil ⟨false, { σ with tok := σ.tok ++ ch, st := some σ.es }, by rw [stepA_of hst, stepT_e hs1 hs2 hs3, hn0, a1, a2, a3]; rfl, ⟨by walk_at "lk", by walk_at "lk", _, by walk_at "lk"⟩, ⟨⟨_, rfl⟩, ⟨_, rfl⟩, ⟨_, _, rfl⟩, h4, h5⟩, .inl rfl⟩
  | true =>
  refine if_T (.andT (.is (by walk_at "ts") a1) (.andT (.is (by walk_at "ts") a2) (.and1 (.is (by walk_at "ts") a3)))) rfl ?_
  refine sx_more (by exact rfl) hf ap X (by exact rfl) (by walk_at "lk") rfl (by walk_at "ev") (by omega) ?_
  intro t
  refine .pop ?_
  have hl2 : (σ.tok ++ st).length ≤ 500001 := by rw [Str.length_append]; (first | lia | omega)
  refine sx_more (by exact rfl) hf ap X (by exact rfl) (by walk_at "lk") rfl (by walk_at "ev") (by omega) ?_
  intro t
  refine sx_state (by exact rfl) hf ap X (by exact rfl) (by walk_at "lk") (by walk_at "ev") (by exact rfl) ?_
  rintro v ⟨t, rfl⟩
  repeat refine .pop ?_
  exact .nil ⟨false, { σ with tok := σ.tok ++ st ++ ch, st := some σ.es }, by rw [stepA_of hst, stepT_e hs1 hs2 hs3, hn0, a1, a2, a3]; rfl, ⟨by walk_at "lk", by walk_at "lk", _, by walk_at "lk"⟩, ⟨⟨_, rfl⟩, ⟨_, rfl⟩, ⟨_, _, rfl⟩, h4, h5⟩, .inl rfl⟩
end
open PySem PySem.W PySem.Calls PyProof.Rows
section
variable {w : World} {c : LexP} {b ch : Str} {r : List (Addr × Obj)} {x : LX} {h₀ : Heap} {L' : Addr} {A : Around} {u : Str → Option Value} {te tc : Tok} {σ : AS}
variable (hf : ∀ x, FldOk pw w A h₀ L' c.S (ledX w c b r x) (fldX c x)) (ap : Apart c r) (X : (K w.params).In h₀)
variable (hrl : RLok w A (envOf (oS "shlex.read_token") c39_6 L' 798 (.ref 797)) h₀ L' c b r) (hpu : PUok w A (envOf (oS "shlex.read_token") c39_6 L' 798 (.ref 797)) h₀ L' c b r)
variable (hch : ch.length ≤ 1) (ht : σ.tok.length ≤ 500000) (hp0 : 0 ≤ σ.p) (hp1 : σ.p ≤ b.length) (hpc : σ.pc = none) (hx : AbsX x σ)
include hf ap X hrl hpu hch ht hp0 hp1 hpc hx
set_option maxHeartbeats 1000000 in
theorem turn_a (hst : σ.st = some (oS "a")) :
    SxL w A (envOf (oS "shlex.read_token") c39_6 L' 798 (.ref 797)) h₀ L' c b r (PostT c.S b ch σ) (frM c.S σ.q σ.es te ch tc u) x (rtBody.drop 2) [] := by
  obtain ⟨h1, ⟨t2, h2⟩, ⟨i, t3, h3⟩, h4, h5⟩ := hx
  obtain ⟨xst, xtok, xln, xp, xpt, xk, xxs⟩ := x
  dsimp only at h1 h2 h3 h4 h5
  rw [hst] at h1
  obtain ⟨t1, h1⟩ := h1
  subst h1 h2 h3
  refine if_F (by walk_at "ts") (by first | with_reducible assumption | rfl | decide) ?_
  refine .pop ?_
  refine if_F (by walk_at "ts") (by first | with_reducible assumption | rfl | decide) ?_
  have k0 : (oS "a" == oS " ") = false := by decide +kernel
  have k1 : inF (oS "a") qtS = false := by decide +kernel
  have k2 : inF (oS "a") (oS "\\") = false := by decide +kernel
  have k3 : (oS "a" == oS "a" || oS "c" == oS "a") = true := by decide +kernel
  have k4 : (oS "a" == oS "c") = false := by decide +kernel
  have k5 : ((pcS.length : Int) != 0) = true := by decide +kernel
  have k6 : pcS.length ≤ 1000000 := by decide +kernel
  refine if_F (by walk_at "ts") (by first | with_reducible assumption | rfl | decide) ?_
  refine if_F (by walk_at "ts") (by first | with_reducible assumption | rfl | decide) ?_
  refine if_F (by walk_at "ts") (by first | with_reducible assumption | rfl | decide) ?_
  refine if_T (by walk_at "ts") (by first | with_reducible assumption | rfl | decide) ?_
  by_cases hn : ch.length = 0
  · have hN : (!((ch.length : Int) != 0)) = true := by rw [hn]; rfl
    have hn1 : (ch.length == 0) = true := by rw [hn]; rfl
    refine if_T (by walk_at "ts") (by first | with_reducible assumption | rfl | decide) ?_
    refine sx_state (by exact rfl) hf ap X (by exact rfl) (by walk_at "lk") (by walk_at "ev") (by exact rfl) ?_
    rintro v rfl
    exact .brk ⟨true, { σ with st := none }, by rw [stepA_of hst, stepT_a, hn1]; rfl, ⟨by walk_at "lk", by walk_at "lk", _, by walk_at "lk"⟩, ⟨rfl, ⟨_, rfl⟩, ⟨_, _, rfl⟩, h4, h5⟩, rfl⟩
  have hN : (!((ch.length : Int) != 0)) = false := by simpa using hn
  have hn0 : (ch.length == 0) = false := by simpa using hn
  refine if_F (by walk_at "ts") (by first | with_reducible assumption | rfl | decide) ?_
  cases c1 : inF ch wsS with
  | true =>
    refine if_T (by walk_at "ts") (by first | with_reducible assumption | rfl | decide) ?_
    refine if_F (by walk_at "ts") (by first | with_reducible assumption | rfl | decide) ?_
    refine .pop ?_
    refine sx_state (by exact rfl) hf ap X (by exact rfl) (by walk_at "lk") (by walk_at "ev") (by exact rfl) ?_
    rintro v ⟨t, rfl⟩
    refine if_B (ts_B (by walk_at "ts") (by walk_at "ts") (by walk_at "ts")) (fun hb => ?_) fun hb => ?_
    · exact .brk ⟨_, { σ with st := some (oS " ") }, by rw [stepA_of hst, stepT_a, hn0, c1]; rfl, ⟨by walk_at "lk", by walk_at "lk", _, by walk_at "lk"⟩, ⟨⟨_, rfl⟩, ⟨_, rfl⟩, ⟨_, _, rfl⟩, h4, h5⟩, by rw [hb]; rfl⟩
    · exact .cont ⟨_, { σ with st := some (oS " ") }, by rw [stepA_of hst, stepT_a, hn0, c1]; rfl, ⟨by walk_at "lk", by walk_at "lk", _, by walk_at "lk"⟩, ⟨⟨_, rfl⟩, ⟨_, rfl⟩, ⟨_, _, rfl⟩, h4, h5⟩, by rw [hb]; exact .inr rfl⟩
  | false =>
  refine if_F (by walk_at "ts") (by first | with_reducible assumption | rfl | decide) ?_
  cases c2 : inF ch (oS "#") with
  | true =>
    refine if_T (by walk_at "ts") (by first | with_reducible assumption | rfl | decide) ?_
    refine hrl (by exact rfl) (by exact rfl) (by walk_at "lk") (by show 0 ≤ xp; (first | lia | omega)) (by show xp ≤ _; (first | lia | omega)) fun pt2 => ?_
    (refine sx_line (by exact rfl) hf ap X (by exact rfl) (by walk_at "lk") rfl ?_; intro tln)
    refine if_T (by walk_at "ts") (by first | with_reducible assumption | rfl | decide) ?_
    refine sx_state (by exact rfl) hf ap X (by exact rfl) (by walk_at "lk") (by walk_at "ev") (by exact rfl) ?_
    rintro v ⟨t, rfl⟩
    refine if_B (ts_B (by walk_at "ts") (by walk_at "ts") (by walk_at "ts")) (fun hb => ?_) fun hb => ?_
    · exact .brk ⟨_, { σ with p := lineEnd b σ.p, st := some (oS " ") }, by rw [stepA_of hst, stepT_a, hn0, c1, c2]; rfl, ⟨by walk_at "lk", by walk_at "lk", _, by walk_at "lk"⟩, ⟨⟨_, rfl⟩, ⟨_, rfl⟩, ⟨_, _, rfl⟩, by rw [h4], h5⟩, by rw [hb]; rfl⟩
    · exact .cont ⟨_, { σ with p := lineEnd b σ.p, st := some (oS " ") }, by rw [stepA_of hst, stepT_a, hn0, c1, c2]; rfl, ⟨by walk_at "lk", by walk_at "lk", _, by walk_at "lk"⟩, ⟨⟨_, rfl⟩, ⟨_, rfl⟩, ⟨_, _, rfl⟩, by rw [h4], h5⟩, by rw [hb]; exact .inr rfl⟩
  | false =>
  refine if_F (by walk_at "ts") (by first | with_reducible assumption | rfl | decide) ?_
  rw [hpc] at h5
  subst h5
  refine if_F (by walk_at "ts") (by first | with_reducible assumption | rfl | decide) ?_
  cases c6 : inF ch qtS with
  | true =>
    refine if_T (.andT (by walk_at "ts") (.and1 (by walk_at "ts"))) c6 ?_
    refine sx_state (by exact rfl) hf ap X (by exact rfl) (by walk_at "lk") (by walk_at "ev") (by exact rfl) ?_
    rintro v ⟨t, rfl⟩
    repeat refine .pop ?_
    exact .nil ⟨false, { σ with st := some ch }, by rw [stepA_of hst, stepT_a, hn0, c1, c2, c6]; rfl, ⟨by walk_at "lk", by walk_at "lk", _, by walk_at "lk"⟩, ⟨⟨_, rfl⟩, ⟨_, rfl⟩, ⟨_, _, rfl⟩, h4, by rw [hpc]⟩, .inl rfl⟩
  | false =>
  refine if_F (.andT (by walk_at "ts") (.and1 (by walk_at "ts"))) c6 ?_
  cases c3 : inF ch (oS "\\") with
  | true =>
    refine if_T (.andT (by walk_at "ts") (.and1 (by walk_at "ts"))) c3 ?_
    (refine asg_es (by walk_at "ev") (by exact rfl) (by exact rfl) ?_; intro tes)
    refine sx_state (by exact rfl) hf ap X (by exact rfl) (by walk_at "lk") (by walk_at "ev") (by exact rfl) ?_
    rintro v ⟨t, rfl⟩
    repeat refine .pop ?_
    exact .nil ⟨false, { σ with es := oS "a", st := some ch }, by rw [stepA_of hst, stepT_a, hn0, c1, c2, c6, c3]; rfl, ⟨by walk_at "lk", by walk_at "lk", _, by walk_at "lk"⟩, ⟨⟨_, rfl⟩, ⟨_, rfl⟩, ⟨_, _, rfl⟩, h4, by rw [hpc]⟩, .inl rfl⟩
  | false =>
  refine if_F (.andT (by walk_at "ts") (.and1 (by walk_at "ts"))) c3 ?_
  cases c4 : inF ch wcS with
  | true =>
    refine if_T (.orT (.is (by walk_at "ts") c4)) rfl ?_
    refine sx_more (by exact rfl) hf ap X (by exact rfl) (by walk_at "lk") rfl (by walk_at "ev") (by omega) ?_
    intro t
    repeat refine .pop ?_
    exact .nil ⟨false, { σ with tok := σ.tok ++ ch }, by rw [stepA_of hst, stepT_a, hn0, c1, c2, c6, c3, c4]; rfl, ⟨by walk_at "lk", by walk_at "lk", _, by walk_at "lk"⟩, ⟨by rw [hst]; exact ⟨_, rfl⟩, ⟨_, rfl⟩, ⟨_, _, rfl⟩, h4, by rw [hpc]⟩, .inl rfl⟩
  | false =>
  cases c5 : inF ch pcS with
  | false =>
    refine if_T (.orF (.is (by walk_at "ts") c4) (.orF (.is (by walk_at "ts") c6) (.or1 (.andT (by walk_at "ts") (.and1 (by walk_at "ts")))))) (by rw [c5]; rfl) ?_
    refine sx_more (by exact rfl) hf ap X (by exact rfl) (by walk_at "lk") rfl (by walk_at "ev") (by omega) ?_
    intro t
    repeat refine .pop ?_
    exact .nil ⟨false, { σ with tok := σ.tok ++ ch }, by rw [stepA_of hst, stepT_a, hn0, c1, c2, c6, c3, c4, c5]; rfl, ⟨by walk_at "lk", by walk_at "lk", _, by walk_at "lk"⟩, ⟨by rw [hst]; exact ⟨_, rfl⟩, ⟨_, rfl⟩, ⟨_, _, rfl⟩, h4, by rw [hpc]⟩, .inl rfl⟩
  | true =>
  refine if_F (.orF (.is (by walk_at "ts") c4) (.orF (.is (by walk_at "ts") c6) (.or1 (.andT (by walk_at "ts") (.and1 (by walk_at "ts")))))) (by rw [c5]; rfl) ?_
  refine if_T (by walk_at "ts") (by first | with_reducible assumption | rfl | decide) ?_
  refine hpu (by exact rfl) (by exact rfl) (by walk_at "lk") (by walk_at "lk") rfl ?_
  refine .pop ?_
  refine if_F (by walk_at "ts") (by first | with_reducible assumption | rfl | decide) ?_
  refine .pop ?_
  refine sx_state (by exact rfl) hf ap X (by exact rfl) (by walk_at "lk") (by walk_at "ev") (by exact rfl) ?_
  rintro v ⟨t, rfl⟩
  refine if_B (ts_B (by walk_at "ts") (by walk_at "ts") (by walk_at "ts")) (fun hb => ?_) fun hb => ?_
  · exact .brk ⟨_, { σ with pc := some ch, st := some (oS " ") }, by rw [stepA_of hst, stepT_a, hn0, c1, c2, c6, c3, c4, c5]; rfl, ⟨by walk_at "lk", by walk_at "lk", _, by walk_at "lk"⟩, ⟨⟨_, rfl⟩, ⟨_, rfl⟩, ⟨_, _, rfl⟩, h4, ⟨_, rfl⟩⟩, by rw [hb]; rfl⟩
  · exact .cont ⟨_, { σ with pc := some ch, st := some (oS " ") }, by rw [stepA_of hst, stepT_a, hn0, c1, c2, c6, c3, c4, c5]; rfl, ⟨by walk_at "lk", by walk_at "lk", _, by walk_at "lk"⟩, ⟨⟨_, rfl⟩, ⟨_, rfl⟩, ⟨_, _, rfl⟩, h4, ⟨_, rfl⟩⟩, by rw [hb]; exact .inr rfl⟩
end
open PySem PySem.W PySem.Calls PyProof.Rows
section
variable {w : World} {c : LexP} {b ch : Str} {r : List (Addr × Obj)} {x : LX} {h₀ : Heap} {L' : Addr} {A : Around} {u : Str → Option Value} {te tc : Tok} {σ : AS}
variable (hf : ∀ x, FldOk pw w A h₀ L' c.S (ledX w c b r x) (fldX c x)) (ap : Apart c r) (X : (K w.params).In h₀)
variable (hrl : RLok w A (envOf (oS "shlex.read_token") c39_6 L' 798 (.ref 797)) h₀ L' c b r) (hpu : PUok w A (envOf (oS "shlex.read_token") c39_6 L' 798 (.ref 797)) h₀ L' c b r)
variable (hch : ch.length ≤ 1) (ht : σ.tok.length ≤ 500000) (hp0 : 0 ≤ σ.p) (hp1 : σ.p ≤ b.length) (hpc : σ.pc = none) (hx : AbsX x σ)
include hf ap X hrl hpu hch ht hp0 hp1 hpc hx
set_option maxHeartbeats 1000000 in
theorem turn_c (hst : σ.st = some (oS "c")) :
    SxL w A (envOf (oS "shlex.read_token") c39_6 L' 798 (.ref 797)) h₀ L' c b r (PostT c.S b ch σ) (frM c.S σ.q σ.es te ch tc u) x (rtBody.drop 2) [] := by
  obtain ⟨h1, ⟨t2, h2⟩, ⟨i, t3, h3⟩, h4, h5⟩ := hx
  obtain ⟨xst, xtok, xln, xp, xpt, xk, xxs⟩ := x
  dsimp only at h1 h2 h3 h4 h5
  rw [hst] at h1
  obtain ⟨t1, h1⟩ := h1
  subst h1 h2 h3
  refine if_F (by walk_at "ts") (by first | with_reducible assumption | rfl | decide) ?_
  refine .pop ?_
  refine if_F (by walk_at "ts") (by first | with_reducible assumption | rfl | decide) ?_
  have k0 : (oS "c" == oS " ") = false := by decide +kernel
  have k1 : inF (oS "c") qtS = false := by decide +kernel
  have k2 : inF (oS "c") (oS "\\") = false := by decide +kernel
  have k3 : (oS "a" == oS "c" || oS "c" == oS "c") = true := by decide +kernel
  have k4 : (oS "c" == oS "c") = true := by decide +kernel
  have k5 : ((pcS.length : Int) != 0) = true := by decide +kernel
  refine if_F (by walk_at "ts") (by first | with_reducible assumption | rfl | decide) ?_
  refine if_F (by walk_at "ts") (by first | with_reducible assumption | rfl | decide) ?_
  refine if_F (by walk_at "ts") (by first | with_reducible assumption | rfl | decide) ?_
  refine if_T (by walk_at "ts") (by first | with_reducible assumption | rfl | decide) ?_
  by_cases hn : ch.length = 0
  · have hN : (!((ch.length : Int) != 0)) = true := by rw [hn]; rfl
    have hn1 : (ch.length == 0) = true := by rw [hn]; rfl
    refine if_T (by walk_at "ts") (by first | with_reducible assumption | rfl | decide) ?_
    refine sx_state (by exact rfl) hf ap X (by exact rfl) (by walk_at "lk") (by walk_at "ev") (by exact rfl) ?_
    rintro v rfl
    exact .brk ⟨true, { σ with st := none }, by rw [stepA_of hst, stepT_c, hn1]; rfl, ⟨by walk_at "lk", by walk_at "lk", _, by walk_at "lk"⟩, ⟨rfl, ⟨_, rfl⟩, ⟨_, _, rfl⟩, h4, h5⟩, rfl⟩
  have hN : (!((ch.length : Int) != 0)) = false := by simpa using hn
  have hn0 : (ch.length == 0) = false := by simpa using hn
  refine if_F (by walk_at "ts") (by first | with_reducible assumption | rfl | decide) ?_
  cases c1 : inF ch wsS with
  | true =>
    refine if_T (by walk_at "ts") (by first | with_reducible assumption | rfl | decide) ?_
    refine if_F (by walk_at "ts") (by first | with_reducible assumption | rfl | decide) ?_
    refine .pop ?_
    refine sx_state (by exact rfl) hf ap X (by exact rfl) (by walk_at "lk") (by walk_at "ev") (by exact rfl) ?_
    rintro v ⟨t, rfl⟩
    refine if_B (ts_B (by walk_at "ts") (by walk_at "ts") (by walk_at "ts")) (fun hb => ?_) fun hb => ?_
    · exact .brk ⟨_, { σ with st := some (oS " ") }, by rw [stepA_of hst, stepT_c, hn0, c1]; rfl, ⟨by walk_at "lk", by walk_at "lk", _, by walk_at "lk"⟩, ⟨⟨_, rfl⟩, ⟨_, rfl⟩, ⟨_, _, rfl⟩, h4, h5⟩, by rw [hb]; rfl⟩
    · exact .cont ⟨_, { σ with st := some (oS " ") }, by rw [stepA_of hst, stepT_c, hn0, c1]; rfl, ⟨by walk_at "lk", by walk_at "lk", _, by walk_at "lk"⟩, ⟨⟨_, rfl⟩, ⟨_, rfl⟩, ⟨_, _, rfl⟩, h4, h5⟩, by rw [hb]; exact .inr rfl⟩
  | false =>
  refine if_F (by walk_at "ts") (by first | with_reducible assumption | rfl | decide) ?_
  cases c2 : inF ch (oS "#") with
  | true =>
    refine if_T (by walk_at "ts") (by first | with_reducible assumption | rfl | decide) ?_
    refine hrl (by exact rfl) (by exact rfl) (by walk_at "lk") (by show 0 ≤ xp; (first | lia | omega)) (by show xp ≤ _; (first | lia | omega)) fun pt2 => ?_
    (refine sx_line (by exact rfl) hf ap X (by exact rfl) (by walk_at "lk") rfl ?_; intro tln)
    refine if_T (by walk_at "ts") (by first | with_reducible assumption | rfl | decide) ?_
    refine sx_state (by exact rfl) hf ap X (by exact rfl) (by walk_at "lk") (by walk_at "ev") (by exact rfl) ?_
    rintro v ⟨t, rfl⟩
    refine if_B (ts_B (by walk_at "ts") (by walk_at "ts") (by walk_at "ts")) (fun hb => ?_) fun hb => ?_
    · exact .brk ⟨_, { σ with p := lineEnd b σ.p, st := some (oS " ") }, by rw [stepA_of hst, stepT_c, hn0, c1, c2]; rfl, ⟨by walk_at "lk", by walk_at "lk", _, by walk_at "lk"⟩, ⟨⟨_, rfl⟩, ⟨_, rfl⟩, ⟨_, _, rfl⟩, by rw [h4], h5⟩, by rw [hb]; rfl⟩
    · exact .cont ⟨_, { σ with p := lineEnd b σ.p, st := some (oS " ") }, by rw [stepA_of hst, stepT_c, hn0, c1, c2]; rfl, ⟨by walk_at "lk", by walk_at "lk", _, by walk_at "lk"⟩, ⟨⟨_, rfl⟩, ⟨_, rfl⟩, ⟨_, _, rfl⟩, by rw [h4], h5⟩, by rw [hb]; exact .inr rfl⟩
  | false =>
  refine if_F (by walk_at "ts") (by first | with_reducible assumption | rfl | decide) ?_
  rw [hpc] at h5
  subst h5
  refine if_T (by walk_at "ts") (by first | with_reducible assumption | rfl | decide) ?_
  cases c5 : inF ch pcS with
  | true =>
    refine if_T (by walk_at "ts") (by first | with_reducible assumption | rfl | decide) ?_
    refine sx_more (by exact rfl) hf ap X (by exact rfl) (by walk_at "lk") rfl (by walk_at "ev") (by omega) ?_
    intro t
    repeat refine .pop ?_
    exact .nil ⟨false, { σ with tok := σ.tok ++ ch }, by rw [stepA_of hst, stepT_c, hn0, c1, c2, c5]; rfl, ⟨by walk_at "lk", by walk_at "lk", _, by walk_at "lk"⟩, ⟨by rw [hst]; exact ⟨_, rfl⟩, ⟨_, rfl⟩, ⟨_, _, rfl⟩, h4, by rw [hpc]⟩, .inl rfl⟩
  | false =>
  refine if_F (by walk_at "ts") (by first | with_reducible assumption | rfl | decide) ?_
  refine if_T (b := !(inF ch wsS)) (by walk_at "ts") (by rw [c1]; rfl) ?_
  refine hpu (by exact rfl) (by exact rfl) (by walk_at "lk") (by walk_at "lk") rfl ?_
  refine .pop ?_
  refine sx_state (by exact rfl) hf ap X (by exact rfl) (by walk_at "lk") (by walk_at "ev") (by exact rfl) ?_
  rintro v ⟨t, rfl⟩
  exact .brk ⟨true, { σ with pc := some ch, st := some (oS " ") }, by rw [stepA_of hst, stepT_c, hn0, c1, c2, c5]; rfl, ⟨by walk_at "lk", by walk_at "lk", _, by walk_at "lk"⟩, ⟨⟨_, rfl⟩, ⟨_, rfl⟩, ⟨_, _, rfl⟩, h4, ⟨_, rfl⟩⟩, rfl⟩
end
end Mine
namespace Mine
open PySem PySem.W PySem.Calls PyProof.Rows
theorem fill13 : PySem.Challenge.rw_kl0186_01 = PySem.Challenge.rw_kl0186_01 ∧ K = K := by
  w_on
  k_fill
  exact ⟨rfl, rfl⟩
section
variable {M : Model} {A : Around} {E : Value → Shared → Prop} {s : Shared} {env : Env}
theorem mcall0 {o : Expr} {name : Str} {apos pos : Pos} {Q : Value → Shared → Prop} (hbase : attributeBase o name env (eval o env) = eval o env) (hline : (apos.endLine == pos.line) = true)
    (h : wpAny M A (eval o env) (fun ov s₁ => ∀ pl, wpAny M A (getMethod ov name pl) (fun fx s₂ => wpAny M A (callWith pos fx.1 fx.2 (backTo pos (starEach [] env)) []) Q E s₂) E s₁) E s) :
    wpAny M A (eval (.Call (.Attribute o name apos) [] [] pos) env) Q E s := by
  rw [arm_eval_Call, hbase]
  refine wpAny_bind (wpAny_mono h (fun ov s₁ h₁ => wpAny_bind (wpAny_standAt ?_)) fun _ _ x => x)
  have hform : methodCallForm (([] : List Expr).length + ([] : List Keyword).length) (backTo pos (starEach [] env)) (backToKw pos (keywordEach [] env)) = true := rfl
  unfold methodCall calleeOf methodCallPos
  simp only [hform, hline, if_true, Bool.not_true, Bool.or_true]
  refine wpAny_bind (wpAny_holding (wpAny_mono (h₁ _) (fun fx s₂ h₂ => ?_) fun _ _ x => x))
  exact wpAny_bind (wpAny_pure h₂)
theorem mcall1 {o e : Expr} {name : Str} {apos pos : Pos} {Q : Value → Shared → Prop} (hbase : attributeBase o name env (eval o env) = eval o env) (hs : starEach [e] env = [(false, eval e env)]) (hline : (apos.endLine == pos.line) = true)
    (h : wpAny M A (eval o env) (fun ov s₁ => ∀ pl, wpAny M A (getMethod ov name pl) (fun fx s₂ => wpAny M A (callWith pos fx.1 fx.2 (backTo pos (starEach [e] env)) []) Q E s₂) E s₁) E s) :
    wpAny M A (eval (.Call (.Attribute o name apos) [e] [] pos) env) Q E s := by
  rw [arm_eval_Call, hbase]
  refine wpAny_bind (wpAny_mono h (fun ov s₁ h₁ => wpAny_bind (wpAny_standAt ?_)) fun _ _ x => x)
  have hform : methodCallForm ([e].length + ([] : List Keyword).length) (backTo pos (starEach [e] env)) (backToKw pos (keywordEach [] env)) = true := by rw [hs]; rfl
  unfold methodCall calleeOf methodCallPos
  simp only [hform, hline, if_true, Bool.not_true, Bool.or_true]
  refine wpAny_bind (wpAny_holding (wpAny_mono (h₁ _) (fun fx s₂ h₂ => ?_) fun _ _ x => x))
  exact wpAny_bind (wpAny_pure h₂)
end
theorem sio_plain {P : Params} {f : Str} : plainGet (K P) 695 f = true := by kernel_rfl
theorem sio_readline {P : Params} : findIn (K P) (.ref 695) (Str.ofString "readline") = some (some (.ref 649)) := by kernel_rfl
theorem sio_read {P : Params} : findIn (K P) (.ref 695) (Str.ofString "read") = some (some (.ref 641)) := by kernel_rfl
theorem keep649 {P : Params} : keepIn (K P) (.ref 649) = true := by kernel_rfl
theorem keep641 {P : Params} : keepIn (K P) (.ref 641) = true := by kernel_rfl
theorem fn649 {P : Params} : isFn (K P) (.ref 649) = true := by kernel_rfl
theorem fn641 {P : Params} : isFn (K P) (.ref 641) = true := by kernel_rfl
section
variable {w : World} {c : LexP} {b : Str} {r : List (Addr × Obj)} {h₀ : Heap} {L' : Addr} {dp un : Nat} {gd : Option (List Code)} {cn : Str} {cs : Scope} {a : Addr} {ccd : Value} {cl : List (Str × Addr)} {outer : List Env} {A₀ : Around} {base : Heap} {mg mb : Str → Option Value} {mean : ExcName → Option Value}
theorem apartD1 {o1 : Obj} (ap : Apart c r) : ∀ q ∈ [(c.SD, o1)], q.1 ≠ c.D := by
  obtain ⟨h1, h2, h3, h4, h5, h6, h7⟩ := id ap
  intro q hq
  rcases List.mem_singleton.mp hq with rfl
  exact neN (by dsimp only; (first | lia | omega))
theorem apartD2 {o3 : Obj} (ap : Apart c r) : ∀ q ∈ (c.PC, o3) :: (c.S, instObj 830 c.SD) :: (c.X, instObj 695 c.D) :: (c.PB, dqO 0 []) :: (c.FS, dqO 0 []) :: r, q.1 ≠ c.D := by
  obtain ⟨h1, h2, h3, h4, h5, h6, h7⟩ := id ap
  intro q hq
  simp only [List.mem_cons] at hq
  rcases hq with rfl | rfl | rfl | rfl | rfl | hq
  · exact neN (by dsimp only; (first | lia | omega))
  · exact neN (by dsimp only; (first | lia | omega))
  · exact neN (by dsimp only; (first | lia | omega))
  · exact neN (by dsimp only; (first | lia | omega))
  · exact neN (by dsimp only; (first | lia | omega))
  · exact ap.rest (by (first | lia | omega)) (by (first | lia | omega)) q hq
variable (hf : ∀ x, FldOk pw w (ktrTop dp un gd cn cs L' a ccd cl outer) h₀ L' c.S (ledX w c b r x) (fldX c x)) (ap : Apart c r) (X : (K w.params).In h₀) (B : Below A₀ base outer h₀) (T : Top q (looseW q loose) mean mg mb h₀) (hk : cs.kind = .function) (hd : dp + 100 < recursionLimit) (hu : un + 1000 < cLine) (hb : b.length ≤ 100000) (hs : (envOf cn cs L' a ccd).kindOf (Str.ofString "self") = some .local)
variable (hi : interactive (envOf cn cs L' a ccd) = false)
include hf ap X B T hk hd hu hb hs hi
theorem rl_ok : RLok w (ktrTop dp un gd cn cs L' a ccd cl outer) (envOf cn cs L' a ccd) h₀ L' c b r := by
  intro P m x p1 p2 p3 p4 p5 rest ks hline hsw hm h0 hp h
  refine .atom (fun m1 x1 => m1 = m ∧ ∃ pt, x1 = { x with p := lineEnd b x.p, pt := pt }) (fun {E s Q} _ F N q => ?_) ?_
  · refine wpAny_Expr ?_ hi hsw
    refine mcall0 rfl hline ?_
    refine ev_ok (.self hs hm (.base .instream)) hk (hf x) F N fun v tk h' F' N' fv => ?_
    cases fv
    intro pl
    refine method_inst F' X (InstAt.of_news N' mem_X mem_D) sio_plain sio_readline fn649 (by kernel_rfl!) ?_
    refine callWith_K0 (X.keeps F'.keep) keep649 ?_
    refine Ctr.use (readline_c (A := [(c.SD, lexO w.params c true x.st x.tok x.ln)]) w x.p h0 hp hb (.tail _ (.tail _ (.head _))) (apartD1 ap) (apartD2 ap)) B F' X N' T hk (by (first | lia | omega)) (by (first | lia | omega)) rfl ?_
    rintro v tk h' nw F' N' ⟨u, t, pt, rfl, rfl⟩
    exact q m { x with p := lineEnd b x.p, pt := pt } h' tk ⟨rfl, pt, rfl⟩ F' N'
  · rintro m1 x1 ⟨rfl, pt, rfl⟩
    exact h pt
theorem pu_ok (hn : (envOf cn cs L' a ccd).kindOf (Str.ofString "nextchar") = some .local) : PUok w (ktrTop dp un gd cn cs L' a ccd cl outer) (envOf cn cs L' a ccd) h₀ L' c b r := by
  intro P m x ch tc p1 p2 p3 p4 p5 p6 rest ks hline hsw hm hmn hx h
  obtain ⟨xst, xtok, xln, xp, xpt, xk, xxs⟩ := x
  dsimp only at hx h
  subst hx
  refine .atom (fun m1 x1 => m1 = m ∧ x1 = ⟨xst, xtok, xln, xp, xpt, xk + 1, [.str ch tc]⟩) (fun {E s Q} _ F N q => ?_) ?_
  · refine wpAny_Expr ?_ hi hsw
    refine mcall1 rfl rfl hline ?_
    refine ev_ok (.self hs hm (.base .pchars)) hk (hf _) F N fun v tk h' F' N' fv => ?_
    cases fv
    intro pl
    refine method_dq_append N' mem_PC ?_
    refine callWith_method1 (spliced_cons (ld F' hmn (spliced_nil ?_) hk hn (by decide))) rfl rfl
    exact append_dq (s := { s with heap := h', toks := tk }) F' N' (upd_PC ap) fun h2 F2 N2 => q m ⟨xst, xtok, xln, xp, xpt, xk + 1, [.str ch tc]⟩ h2 tk ⟨rfl, rfl⟩ F2 N2
  · rintro m1 x1 ⟨rfl, rfl⟩
    exact h
/-- the read ahead of a turn: a sign pushed back, else the next one -/
theorem sx_next {P : Flow → (Str → Option Value) → LX → Prop} {m : Str → Option Value} {x : LX} {kk : Nat} {p1 p2 p3 p4 p5 p6 p7 p8 p9 p10 p11 p12 p13 p14 p15 p16 p17 q1 q2 : Pos} {rest : List Stmt} {ks : List (List Stmt)} (hn : (envOf cn cs L' a ccd).kindOf (Str.ofString "nextchar") = some .local)
    (hl1 : (p8.endLine == p9.line) = true) (hl2 : (p14.endLine == p15.line) = true)
    (hw1 : swapsWith (.Call (.Attribute (.Attribute (.Name (oS "self") p6) (oS "_pushback_chars") p7) (oS "pop") p8) [] [] p9) (some (.Name (oS "nextchar") p5)) p10.line (envOf cn cs L' a ccd) = pure false)
    (hw2 : swapsWith (.Call (.Attribute (.Attribute (.Name (oS "self") p12) (oS "instream") p13) (oS "read") p14) [.Constant (.int 1) kk p16] [] p15) (some (.Name (oS "nextchar") p11)) p17.line (envOf cn cs L' a ccd) = pure false)
    (hm : m (oS "self") = some (.ref c.S)) (h0 : 0 ≤ x.p) (hp : x.p ≤ b.length) (hx : x.xs = [] ∨ ∃ ch t, x.xs = [.str ch t])
    (h : ∀ ch t x', (x.xs = [] ∧ ch = nextF b x.p ∧ (∃ pt, x' = { x with p := stepP b x.p, pt := pt }) ∨ (∃ u, x.xs = [.str ch u]) ∧ x' = { x with k := x.k + 1, xs := [] }) → SxL w (ktrTop dp un gd cn cs L' a ccd cl outer) (envOf cn cs L' a ccd) h₀ L' c b r P (fun y => if y = oS "nextchar" then some (.str ch t) else m y) x' rest ks) :
    SxL w (ktrTop dp un gd cn cs L' a ccd cl outer) (envOf cn cs L' a ccd) h₀ L' c b r P m x (.If (.BoolOp .And [.Attribute (.Name (oS "self") p1) (oS "punctuation_chars") p2, .Attribute (.Name (oS "self") p3) (oS "_pushback_chars") p4] q1)
      [.Assign [.Name (oS "nextchar") p5] (.Call (.Attribute (.Attribute (.Name (oS "self") p6) (oS "_pushback_chars") p7) (oS "pop") p8) [] [] p9) p10]
      [.Assign [.Name (oS "nextchar") p11] (.Call (.Attribute (.Attribute (.Name (oS "self") p12) (oS "instream") p13) (oS "read") p14) [.Constant (.int 1) kk p16] [] p15) p17] q2 :: rest) ks := by
  obtain ⟨xst, xtok, xln, xp, xpt, xk, xxs⟩ := x
  dsimp only at h0 hp hx h
  refine .atom (fun m1 x1 => ∃ ch t, m1 = (fun y => if y = oS "nextchar" then some (.str ch t) else m y) ∧ (xxs = [] ∧ ch = nextF b xp ∧ (∃ pt, x1 = ⟨xst, xtok, xln, stepP b xp, pt, xk, xxs⟩) ∨ (∃ u, xxs = [.str ch u]) ∧ x1 = ⟨xst, xtok, xln, xp, xpt, xk + 1, []⟩)) (fun {E s Q} _ F N q => ?_) ?_
  · refine wpAny_If (isTrue_and ?_)
    have k5 : ((pcS.length : Int) != 0) = true := by decide +kernel
    have k6 : pcS.length ≤ 1000000 := by decide +kernel
    refine ts_ok (.is (.attr (.self hs hm .prop) (.str k6)) k5) hk (hf _) (.inl rfl) F N fun tk h1 F1 N1 => ?_
    refine isTrue_and (isTrue_plain (ev_ok (.self hs hm (.base .pchars)) hk (hf _) F1 N1 fun v tk2 h2 F2 N2 fv => ?_))
    cases fv
    have hlen : xxs.length ≤ 1 := by rcases hx with rfl | ⟨_, _, rfl⟩ <;> simp
    refine truthy_dq (s := { s with heap := h2, toks := tk2 }) N2 mem_PC hlen fun tk3 => ?_
    rcases hx with rfl | ⟨ch, t, rfl⟩
    · show wpAny _ _ _ _ _ _
      refine wpAny_execs_cons (wpAny_Assign_Name ?_ hw2)
      refine mcall1 rfl rfl hl2 ?_
      refine ev_ok (.self hs hm (.base .instream)) hk (hf _) (s := { s with heap := h2, toks := tk3 }) F2 N2 fun v tk h' F' N' fv => ?_
      cases fv
      intro pl
      refine method_inst F' X (InstAt.of_news N' mem_X mem_D) sio_plain sio_read fn641 (by kernel_rfl!) ?_
      refine callWith_K (h₀ := h₀) X keep641 (spliced_cons (wpAny_Constant_int (k := kk) (pos := p16) (spliced_nil ⟨X.keeps F'.keep, ?_⟩))) rfl rfl
      refine Ctr.use (read_c (A := [(c.SD, lexO w.params c true xst xtok xln)]) w _ xp h0 hp hb (.tail _ (.tail _ (.head _))) (apartD1 ap) (apartD2 ap)) B F' X N' T hk (by (first | lia | omega)) (by (first | lia | omega)) rfl ?_
      rintro v tk h' nw F' N' ⟨t, pt, rfl, rfl⟩
      refine stN (s := { s with heap := h', toks := tk }) F' N' (fun h2 F2 N2 => ?_) hk hn
      exact wpAny_pure (a := Flow.next) (q _ ⟨xst, xtok, xln, stepP b xp, pt, xk, []⟩ h2 _ ⟨_, t, rfl, .inl ⟨rfl, rfl, pt, rfl⟩⟩ F2 N2)
    · show wpAny _ _ (isTrue (.BoolOp .And [] _) _ _) _ _ _
      refine isTrue_and_nil ?_
      refine wpAny_execs_cons (wpAny_Assign_Name ?_ hw1)
      refine mcall0 rfl hl1 ?_
      refine ev_ok (.self hs hm (.base .pchars)) hk (hf _) (s := { s with heap := h2, toks := tk3 }) F2 N2 fun v tk h' F' N' fv => ?_
      cases fv
      intro pl
      refine method_dq_pop N' mem_PC (callWith_method0 ?_)
      refine pop_dq (s := { s with heap := h', toks := tk }) F' N' (upd_PC ap) fun h3 F3 N3 => ?_
      refine stN (s := { s with heap := h3, toks := tk }) F3 N3 (fun h2 F2 N2 => ?_) hk hn
      exact wpAny_pure (a := Flow.next) (q _ ⟨xst, xtok, xln, xp, xpt, xk + 1, []⟩ h2 _ ⟨ch, t, rfl, .inr ⟨⟨t, rfl⟩, rfl⟩⟩ F2 N2)
  · rintro m1 x1 ⟨ch, t, rfl, hc⟩
    exact h ch t x1 hc
end
end Mine
namespace Mine
open PySem PySem.W PySem.Calls PyProof.Rows
section
variable {X : Type} {prog : Program} {w : World} {A : Around} {name : Str} {scope : Scope} {L S a : Addr} {cd : Value} {h₀ : Heap} {led : X → List (Addr × Obj)} {fld : X → Str → PV → Prop} {P : Flow → (Str → Option Value) → X → Prop} {m : Str → Option Value} {x : X} {body rest : List Stmt} {k : Nat} {cp pos : Pos} {ks : List (List Stmt)} {n₀ : Nat}
theorem Sx.mono {env : Env} {P' : Flow → (Str → Option Value) → X → Prop} {l : List Stmt} (h : Sx prog w A env h₀ L S led fld P m x l ks) (hp : ∀ f m x, P f m x → P' f m x) : Sx prog w A env h₀ L S led fld P' m x l ks := by
  induction h with
  | nil h => exact .nil (hp _ _ _ h)
  | pop _ ih => exact .pop ih
  | brk h => exact .brk (hp _ _ _ h)
  | cont h => exact .cont (hp _ _ _ h)
  | ret he h => exact .ret he fun v hv => hp _ _ _ (h v hv)
  | ifT ht _ ih => exact .ifT ht ih
  | ifF ht _ ih => exact .ifF ht ih
  | asg he hl hs _ ih => exact .asg he hl hs ih
  | atom R hr _ ih => exact .atom R hr ih
  | atomR R hr h => exact .atomR R hr fun v m1 x1 hR => hp _ _ _ (h v m1 x1 hR)
/-- while True -/
theorem sx_while (J : Nat → (Str → Option Value) → X → Prop) (Y : (Str → Option Value) → X → Prop) (hk : scope.kind = .function) (hf : ∀ x, FldOk prog w A h₀ L S (led x) (fld x)) (hJ : J n₀ m x)
    (turn : ∀ n m1 x1, J n m1 x1 → Sx prog w A (envOf name scope L a cd) h₀ L S led fld (fun f m' x' => (f = .brk ∧ Y m' x') ∨ ((f = .next ∨ f = .cont) ∧ ∃ n', n' < n ∧ J n' m' x')) m1 x1 body [])
    (done : ∀ m' x', Y m' x' → Sx prog w A (envOf name scope L a cd) h₀ L S led fld P m' x' rest ks) :
    Sx prog w A (envOf name scope L a cd) h₀ L S led fld P m x (.While (.Constant (.bool true) k cp) body [] pos :: rest) ks := by
  refine .atom Y (fun {E s Q} hE F N q => ?_) done
  refine while_T (n₀ := n₀) (J := fun n m nx => ∃ x, nx = led x ∧ J n m x) (X := fun m nx => ∃ x, nx = led x ∧ Y m x) F N ⟨x, rfl, hJ⟩ ?_ ?_ hE
  · rintro n m₁ news₁ h₁ tk₁ R D F1 N1 ⟨x1, rfl, j⟩ nxt ncont done2 brk _
    refine isTrue_plain (Constant_bool (wpAny_truthy_bool ?_))
    rw [if_pos rfl]
    refine sx_ok (turn n m₁ x1 j) hk hf (s := { s with heap := h₁, toks := tk₁ }) hE F1 N1 fun f m' x' h' tk hp F' N' => ?_
    rcases hp with ⟨rfl, hy⟩ | ⟨rfl | rfl, n', hn, j'⟩
    · exact brk _ _ _ _ ⟨x', rfl, hy⟩ F' N'
    · exact nxt n' _ _ _ _ hn ⟨x', rfl, j'⟩ F' N'
    · exact ncont n' _ _ _ _ hn ⟨x', rfl, j'⟩ F' N'
  · rintro m' news' h' tk ⟨x', rfl, hy⟩ F' N'
    exact q m' x' h' tk hy F' N'
end
end Mine
namespace Mine
open PySem PySem.W PySem.Calls PyProof.Rows
def WfS (σ : AS) : Prop := σ.st = none ∨ σ.st = some (oS " ") ∨ σ.st = some (oS "a") ∨ σ.st = some (oS "c") ∨ (∃ s ∈ [oS "'", oS "\""], σ.st = some s) ∨ (σ.st = some (oS "\\") ∧ σ.es ∈ [oS "a", oS "'", oS "\""])
structure Wf (b : Str) (σ : AS) : Prop where
  st : WfS σ
  pc : ∀ ch, σ.pc = some ch → ch.length ≤ 1
  p0 : 0 ≤ σ.p
  p1 : σ.p ≤ b.length
theorem nextF_len {b : Str} {p : Int} : (nextF b p).length ≤ 1 := by
  unfold nextF
  split
  · exact Nat.le_refl 1
  · exact Nat.zero_le 1
theorem stepP_le {b : Str} {p : Int} (h : p ≤ b.length) : stepP b p ≤ b.length := by unfold stepP; split <;> (first | lia | omega)
theorem stepP_ge {b : Str} {p : Int} (h : 0 ≤ p) : 0 ≤ stepP b p := by unfold stepP; split <;> (first | lia | omega)
theorem lineEnd_le {b : Str} {p : Int} (h : p ≤ b.length) : lineEnd b p ≤ b.length := by unfold lineEnd; split <;> (first | lia | omega)
theorem lineEnd_ge {b : Str} {p : Int} (h : 0 ≤ p) : 0 ≤ lineEnd b p := by unfold lineEnd; split <;> (first | lia | omega)
theorem nxC_len {b : Str} {σ : AS} (h : Wf b σ) : (nxC b σ).length ≤ 1 := by
  unfold nxC
  cases e : σ.pc with
  | none => exact nextF_len
  | some ch => exact h.pc ch e
theorem nxS_st {b : Str} {σ : AS} : (nxS b σ).st = σ.st ∧ (nxS b σ).tok = σ.tok ∧ (nxS b σ).q = σ.q ∧ (nxS b σ).es = σ.es ∧ (nxS b σ).pc = none := by
  unfold nxS
  cases e : σ.pc <;> exact ⟨rfl, rfl, rfl, rfl, by first | rfl | exact e⟩
theorem nxS_p {b : Str} {σ : AS} (h : Wf b σ) : 0 ≤ (nxS b σ).p ∧ (nxS b σ).p ≤ b.length := by
  unfold nxS
  cases σ.pc with
  | none => exact ⟨stepP_ge h.p0, stepP_le h.p1⟩
  | some ch => exact ⟨h.p0, h.p1⟩
theorem frM_of {S : Addr} {σ : AS} {m : Str → Option Value} {ch : Str} {tc : Tok} (h : AbsM S m σ) : ∃ te, (fun y => if y = oS "nextchar" then some (.str ch tc) else m y) = frM S σ.q σ.es te ch tc m := by
  obtain ⟨h1, h2, te, h3⟩ := h
  refine ⟨te, funext fun y => ?_⟩
  unfold frM
  by_cases e1 : y = oS "nextchar"
  · rw [if_pos e1, if_pos e1]
  · rw [if_neg e1, if_neg e1]
    by_cases e2 : y = oS "escapedstate"
    · rw [if_pos e2, e2, h3]
    · rw [if_neg e2]
      by_cases e3 : y = oS "quoted"
      · rw [if_pos e3, e3, h2]
      · rw [if_neg e3]
        by_cases e4 : y = oS "self"
        · rw [if_pos e4, e4, h1]
        · rw [if_neg e4]
section
variable {w : World} {c : LexP} {b ch : Str} {r : List (Addr × Obj)} {x : LX} {h₀ : Heap} {L' : Addr} {A : Around} {u : Str → Option Value} {te tc : Tok} {σ : AS}
variable (hf : ∀ x, FldOk pw w A h₀ L' c.S (ledX w c b r x) (fldX c x)) (ap : Apart c r) (X : (K w.params).In h₀)
variable (hrl : RLok w A (envOf (oS "shlex.read_token") c39_6 L' 798 (.ref 797)) h₀ L' c b r) (hpu : PUok w A (envOf (oS "shlex.read_token") c39_6 L' 798 (.ref 797)) h₀ L' c b r)
variable (hch : ch.length ≤ 1) (ht : σ.tok.length ≤ 500000) (hp0 : 0 ≤ σ.p) (hp1 : σ.p ≤ b.length) (hpc : σ.pc = none) (hx : AbsX x σ)
include hf ap X hrl hpu hch ht hp0 hp1 hpc hx
theorem turn_any (hw : WfS σ) (hno : stepA b ch σ ≠ none) :
    SxL w A (envOf (oS "shlex.read_token") c39_6 L' 798 (.ref 797)) h₀ L' c b r (PostT c.S b ch σ) (frM c.S σ.q σ.es te ch tc u) x (rtBody.drop 2) [] := by
  rcases hw with h | h | h | h | ⟨s, hs, h⟩ | ⟨h, _⟩
  · exact turn_none hf ap X hrl hpu hch ht hp0 hp1 hpc hx h
  · exact turn_sp hf ap X hrl hpu hch ht hp0 hp1 hpc hx h
  · exact turn_a hf ap X hrl hpu hch ht hp0 hp1 hpc hx h
  · exact turn_c hf ap X hrl hpu hch ht hp0 hp1 hpc hx h
  · simp only [List.mem_cons, List.not_mem_nil, or_false] at hs
    rcases hs with rfl | rfl
    · exact turn_q hf ap X hrl hpu hch ht hp0 hp1 hpc hx h (by decide +kernel) (by decide +kernel) hno
    · exact turn_q hf ap X hrl hpu hch ht hp0 hp1 hpc hx h (by decide +kernel) (by decide +kernel) hno
  · exact turn_e hf ap X hrl hpu hch ht hp0 hp1 hpc hx h (by decide +kernel) (by decide +kernel) (by decide +kernel) (by decide +kernel) hno
end
end Mine
namespace Mine
open PySem PySem.W PySem.Calls PyProof.Rows
section
variable {w : World} {c : LexP} {b : Str} {r : List (Addr × Obj)} {x : LX} {σ : AS} {m : Str → Option Value} {h₀ : Heap} {L' : Addr} {dp un : Nat} {gd : Option (List Code)} {cl : List (Str × Addr)} {outer : List Env} {A₀ : Around} {base : Heap} {mg mb : Str → Option Value} {mean : ExcName → Option Value}
noncomputable abbrev rtEnv (L' : Addr) : Env := envOf (oS "shlex.read_token") c39_6 L' 798 (.ref 797)
variable (hf : ∀ x, FldOk pw w (ktrTop dp un gd (oS "shlex.read_token") c39_6 L' 798 (.ref 797) cl outer) h₀ L' c.S (ledX w c b r x) (fldX c x)) (ap : Apart c r) (X : (K w.params).In h₀) (B : Below A₀ base outer h₀) (T : Top q (looseW q loose) mean mg mb h₀) (hd : dp + 100 < recursionLimit) (hu : un + 1000 < cLine) (hb : b.length ≤ 100000)
include hf ap X B T hd hu hb
/-- where a whole turn ends -/
def PostB (S : Addr) (b : Str) (σ : AS) (f : Flow) (m : Str → Option Value) (x : LX) : Prop :=
  ∃ e σ', step b σ = some (e, σ') ∧ AbsM S m σ' ∧ AbsX x σ' ∧ (if e = true then f = .brk else f = .next ∨ f = .cont)
theorem body_ok (hw : Wf b σ) (ht : σ.tok.length ≤ 500000) (hm : AbsM c.S m σ) (hx : AbsX x σ) (hno : step b σ ≠ none) :
    SxL w (ktrTop dp un gd (oS "shlex.read_token") c39_6 L' 798 (.ref 797) cl outer) (rtEnv L') h₀ L' c b r (PostB c.S b σ) m x rtBody [] := by
  have hrl : RLok w (ktrTop dp un gd (oS "shlex.read_token") c39_6 L' 798 (.ref 797) cl outer) (rtEnv L') h₀ L' c b r := rl_ok hf ap X B T (by exact rfl) hd hu hb (by exact rfl) (by exact rfl)
  have hpu : PUok w (ktrTop dp un gd (oS "shlex.read_token") c39_6 L' 798 (.ref 797) cl outer) (rtEnv L') h₀ L' c b r := pu_ok hf ap X B T (by exact rfl) hd hu hb (by exact rfl) (by exact rfl) (by exact rfl)
  have e4 : x.p = σ.p := hx.2.2.2.1
  have hxs : x.xs = [] ∨ ∃ ch t, x.xs = [.str ch t] := by
    have := hx.2.2.2.2
    cases e : σ.pc with
    | none => rw [e] at this; exact .inl this
    | some ch => rw [e] at this; obtain ⟨t, ht⟩ := this; exact .inr ⟨ch, t, ht⟩
  refine sx_next hf ap X B T (by exact rfl) hd hu hb (by exact rfl) (by exact rfl) (by exact rfl) (by exact rfl) (by exact rfl) (by exact rfl) (by exact rfl) hm.1 (by rw [e4]; exact hw.p0) (by rw [e4]; exact hw.p1) hxs fun ch t x' hc => ?_
  have hcx : ch = nxC b σ ∧ AbsX x' (nxS b σ) := by
    obtain ⟨a1, a2, a3, a4, a5⟩ := hx
    unfold nxC nxS
    cases e : σ.pc with
    | none =>
      rw [e] at a5
      rcases hc with ⟨_, h2, pt, rfl⟩ | ⟨⟨u, hu'⟩, _⟩
      · exact ⟨by rw [h2, e4], a1, a2, a3, by rw [e4], a5⟩
      · rw [a5] at hu'; cases hu'
    | some ch2 =>
      rw [e] at a5
      obtain ⟨t2, a5⟩ := a5
      rcases hc with ⟨h1, _⟩ | ⟨⟨u, hu'⟩, rfl⟩
      · rw [a5] at h1; cases h1
      · rw [a5] at hu'
        cases hu'
        exact ⟨rfl, a1, a2, a3, a4, rfl⟩
  obtain ⟨rfl, hx'⟩ := hcx
  obtain ⟨te, em⟩ := frM_of (ch := nxC b σ) (tc := t) hm
  rw [em]
  obtain ⟨n1, n2, n3, n4, n5⟩ := nxS_st (b := b) (σ := σ)
  have hp := nxS_p hw
  have key : ∀ x2, AbsX x2 (nxS b σ) → SxL w (ktrTop dp un gd (oS "shlex.read_token") c39_6 L' 798 (.ref 797) cl outer) (rtEnv L') h₀ L' c b r (PostB c.S b σ) (frM c.S σ.q σ.es te (nxC b σ) t m) x2 (rtBody.drop 2) [] := by
    intro x2 hx2
    have := turn_any hf ap X hrl hpu (nxC_len hw) (by rw [n2]; exact ht) hp.1 hp.2 n5 hx2 (te := te) (tc := t) (u := m) (σ := nxS b σ) (by unfold WfS; rw [n1, n4]; exact hw.st) hno
    rw [n3, n4] at this
    exact this
  obtain ⟨b1, b2, ⟨i, t3, b3⟩, b4, b5⟩ := hx'
  cases eq : (nxC b σ == oS "\n") with
  | true =>
    refine .ifT (.is (.cmp (.name (by exact rfl) (by decide) frM_ch .str) .str .eqS (by exact rfl)) eq) ?_
    refine sx_line (by exact rfl) hf ap X (by exact rfl) frM_self b3 ?_
    intro tln
    exact .pop (key _ ⟨b1, b2, ⟨_, _, rfl⟩, b4, b5⟩)
  | false =>
    refine .ifF (.is (.cmp (.name (by exact rfl) (by decide) frM_ch .str) .str .eqS (by exact rfl)) eq) ?_
    exact .pop (key _ ⟨b1, b2, ⟨_, _, b3⟩, b4, b5⟩)
end
end Mine
namespace Mine
open PySem PySem.W PySem.Calls PyProof.Rows
theorem one_of {ch : Str} (h : ch.length ≤ 1) (h0 : (ch.length == 0) = false) : ∃ k, ch = ⟨#[k]⟩ := by
  have h1 : ch.cps.size = 1 := by
    have e : ch.length = ch.cps.size := rfl
    have := beq_eq_false_iff_ne.mp h0
    (first | lia | omega)
  obtain ⟨k, hk⟩ := Array.size_eq_one_iff.mp h1
  exact ⟨k, by cases ch; exact congrArg Str.mk hk⟩
theorem is_esc {ch : Str} (h : ch.length ≤ 1) (h0 : (ch.length == 0) = false) (hi : inF ch (oS "\\") = true) : ch = oS "\\" := by
  obtain ⟨k, rfl⟩ := one_of h h0
  unfold inF at hi
  rw [StrLaws.found_one, show (oS "\\").cps.toList = [92] by kernel_rfl!] at hi
  have := of_decide_eq_true hi
  rw [List.mem_singleton.mp this]
  kernel_rfl!
theorem is_quo {ch : Str} (h : ch.length ≤ 1) (h0 : (ch.length == 0) = false) (hi : inF ch qtS = true) : ch = oS "'" ∨ ch = oS "\"" := by
  obtain ⟨k, rfl⟩ := one_of h h0
  unfold inF at hi
  rw [StrLaws.found_one, show qtS.cps.toList = [39, 34] by kernel_rfl!] at hi
  have := of_decide_eq_true hi
  rcases List.mem_cons.mp this with e | e
  · rw [e]; exact .inl (by kernel_rfl!)
  · rw [List.mem_singleton.mp e]; exact .inr (by kernel_rfl!)
/-- what a turn keeps -/
structure Kept (b : Str) (σ σ' : AS) : Prop where
  st : WfS σ'
  pc : ∀ ch, σ'.pc = some ch → ch.length ≤ 1
  p : σ'.p = σ.p ∨ σ'.p = lineEnd b σ.p
  tok : σ'.tok.length ≤ σ.tok.length + 2
section
variable {b ch : Str} {σ σ' : AS} {e : Bool} {n isc ws co es wc pc qt fl : Bool}
theorem app_len (x y : Str) : (x ++ y).length = x.length + y.length := Array.size_append
theorem wfN {σ : AS} : WfS { σ with st := none } := .inl rfl
theorem wfQ {σ : AS} {ch : Str} (h : ch = oS "'" ∨ ch = oS "\"") (hs : σ.st = some ch) : WfS σ := .inr (.inr (.inr (.inr (.inl ⟨ch, by rcases h with rfl | rfl <;> simp, hs⟩))))
theorem wfE {σ : AS} (hs : σ.st = some (oS "\\")) (he : σ.es ∈ [oS "a", oS "'", oS "\""]) : WfS σ := .inr (.inr (.inr (.inr (.inr ⟨hs, he⟩))))
theorem wfSp {σ : AS} (hs : σ.st = some (oS " ")) : WfS σ := .inr (.inl hs)
theorem wfA {σ : AS} (hs : σ.st = some (oS "a")) : WfS σ := .inr (.inr (.inl hs))
theorem wfC {σ : AS} (hs : σ.st = some (oS "c")) : WfS σ := .inr (.inr (.inr (.inl hs)))
theorem kept_sp (h : stepSp b ch σ n ws co es wc pc qt fl = some (e, σ')) (hpc : σ.pc = none) (hs : σ.st = some (oS " ")) (hch : ch.length ≤ 1) (he : n = false → es = true → ch = oS "\\") (hq : n = false → qt = true → ch = oS "'" ∨ ch = oS "\"") : Kept b σ σ' := by
  have np : ∀ {σ2 : AS}, σ2.pc = σ.pc → ∀ ch, σ2.pc = some ch → ch.length ≤ 1 := fun e1 ch e2 => by rw [e1, hpc] at e2; cases e2
  unfold stepSp at h
  cases n with
  | true => cases h; exact ⟨wfN, np rfl, .inl rfl, Nat.le_add_right _ _⟩
  | false =>
  cases ws with
  | true => cases h; exact ⟨wfSp hs, np rfl, .inl rfl, by (first | lia | omega)⟩
  | false =>
  cases co with
  | true => cases h; exact ⟨wfSp hs, np rfl, .inr rfl, Nat.le_add_right _ _⟩
  | false =>
  cases es with
  | true => cases h; exact ⟨wfE (by rw [he rfl rfl]) (by simp), np rfl, .inl rfl, Nat.le_add_right _ _⟩
  | false =>
  cases wc with
  | true => cases h; exact ⟨wfA rfl, np rfl, .inl rfl, by show ch.length ≤ _; (first | lia | omega)⟩
  | false =>
  cases pc with
  | true => cases h; exact ⟨wfC rfl, np rfl, .inl rfl, by show ch.length ≤ _; (first | lia | omega)⟩
  | false =>
  cases qt with
  | true => cases h; exact ⟨wfQ (hq rfl rfl) rfl, np rfl, .inl rfl, Nat.le_add_right _ _⟩
  | false => cases h; exact ⟨wfA rfl, np rfl, .inl rfl, by show ch.length ≤ _; (first | lia | omega)⟩
theorem kept_w (h : stepW b ch σ isc n ws co es wc pc qt fl = some (e, σ')) (hpc : σ.pc = none) (hs : σ.st = some (oS "a") ∨ σ.st = some (oS "c")) (hch : ch.length ≤ 1) (he : n = false → es = true → ch = oS "\\") (hq : n = false → qt = true → ch = oS "'" ∨ ch = oS "\"") : Kept b σ σ' := by
  have np : ∀ {σ2 : AS}, σ2.pc = σ.pc → ∀ ch, σ2.pc = some ch → ch.length ≤ 1 := fun e1 ch e2 => by rw [e1, hpc] at e2; cases e2
  have nq : ∀ ch2 : Str, some ch = some ch2 → ch2.length ≤ 1 := fun c2 e2 => by cases e2; exact hch
  have hw : ∀ {σ2 : AS}, σ2.st = σ.st → WfS σ2 := fun e1 => by rcases hs with h | h; exact wfA (by rw [e1, h]); exact wfC (by rw [e1, h])
  have la : (σ.tok ++ ch).length ≤ σ.tok.length + 2 := by rw [app_len]; (first | lia | omega)
  unfold stepW at h
  cases n with
  | true => cases h; exact ⟨wfN, np rfl, .inl rfl, Nat.le_add_right _ _⟩
  | false =>
  cases ws with
  | true => cases h; exact ⟨wfSp rfl, np rfl, .inl rfl, Nat.le_add_right _ _⟩
  | false =>
  cases co with
  | true => cases h; exact ⟨wfSp rfl, np rfl, .inr rfl, Nat.le_add_right _ _⟩
  | false =>
  cases isc with
  | true =>
    cases pc with
    | true => cases h; exact ⟨hw rfl, np rfl, .inl rfl, la⟩
    | false => cases h; exact ⟨wfSp rfl, nq, .inl rfl, Nat.le_add_right _ _⟩
  | false =>
  cases qt with
  | true => cases h; exact ⟨wfQ (hq rfl rfl) rfl, np rfl, .inl rfl, Nat.le_add_right _ _⟩
  | false =>
  cases es with
  | true => cases h; exact ⟨wfE (by rw [he rfl rfl]) (by simp), np rfl, .inl rfl, Nat.le_add_right _ _⟩
  | false =>
  cases hb : (wc || !pc) with
  | true => dsimp only [cond_false] at h; rw [hb] at h; cases h; exact ⟨hw rfl, np rfl, .inl rfl, la⟩
  | false => dsimp only [cond_false] at h; rw [hb] at h; cases h; exact ⟨wfSp rfl, nq, .inl rfl, Nat.le_add_right _ _⟩
theorem kept_q {st : Str} {eq dq : Bool} (h : stepQ ch st σ n eq es dq = some (e, σ')) (hpc : σ.pc = none) (hs : σ.st = some st) (hst : st = oS "'" ∨ st = oS "\"") (hch : ch.length ≤ 1) (he : n = false → es = true → ch = oS "\\") : Kept b σ σ' := by
  have np : ∀ {σ2 : AS}, σ2.pc = σ.pc → ∀ ch, σ2.pc = some ch → ch.length ≤ 1 := fun e1 ch e2 => by rw [e1, hpc] at e2; cases e2
  have la : (σ.tok ++ ch).length ≤ σ.tok.length + 2 := by rw [app_len]; (first | lia | omega)
  unfold stepQ at h
  cases n with
  | true => cases h
  | false =>
  cases eq with
  | true => cases h; exact ⟨wfA rfl, np rfl, .inl rfl, Nat.le_add_right _ _⟩
  | false =>
  cases es with
  | true =>
    cases dq with
    | true => cases h; exact ⟨wfE (by rw [he rfl rfl]) (by rcases hst with rfl | rfl <;> simp), np rfl, .inl rfl, Nat.le_add_right _ _⟩
    | false => cases h; exact ⟨wfQ hst hs, np rfl, .inl rfl, la⟩
  | false => cases h; exact ⟨wfQ hst hs, np rfl, .inl rfl, la⟩
theorem kept_e {st : Str} {a1 a2 a3 : Bool} (h : stepE ch st σ n a1 a2 a3 = some (e, σ')) (hpc : σ.pc = none) (hst : st.length ≤ 1) (hes : σ.es ∈ [oS "a", oS "'", oS "\""]) (hch : ch.length ≤ 1) : Kept b σ σ' := by
  have np : ∀ {σ2 : AS}, σ2.pc = σ.pc → ∀ ch, σ2.pc = some ch → ch.length ≤ 1 := fun e1 ch e2 => by rw [e1, hpc] at e2; cases e2
  have la : (σ.tok ++ ch).length ≤ σ.tok.length + 2 := by rw [app_len]; (first | lia | omega)
  have lb : (σ.tok ++ st ++ ch).length ≤ σ.tok.length + 2 := by rw [app_len, app_len]; (first | lia | omega)
  have hw : ∀ {σ2 : AS}, σ2.st = some σ.es → WfS σ2 := fun e1 => by
    simp only [List.mem_cons, List.not_mem_nil, or_false] at hes
    rcases hes with h | h | h
    · exact wfA (by rw [e1, h])
    · exact wfQ (.inl h) e1
    · exact wfQ (.inr h) e1
  unfold stepE at h
  cases n with
  | true => cases h
  | false =>
  cases hb : (a1 && a2 && a3) with
  | true => rw [hb] at h; cases h; exact ⟨hw rfl, np rfl, .inl rfl, lb⟩
  | false => rw [hb] at h; cases h; exact ⟨hw rfl, np rfl, .inl rfl, la⟩
theorem kept_A (h : stepA b ch σ = some (e, σ')) (hw : WfS σ) (hpc : σ.pc = none) (hch : ch.length ≤ 1) : Kept b σ σ' := by
  have he : (ch.length == 0) = false → inF ch (oS "\\") = true → ch = oS "\\" := is_esc hch
  have hq : (ch.length == 0) = false → inF ch qtS = true → ch = oS "'" ∨ ch = oS "\"" := is_quo hch
  rcases hw with hs | hs | hs | hs | ⟨s, hm, hs⟩ | ⟨hs, hes⟩
  · rw [stepA_of hs] at h
    cases h
    refine ⟨.inl hs, fun c e2 => ?_, .inl rfl, Nat.zero_le _⟩
    have e3 : σ.pc = some c := e2
    rw [hpc] at e3
    cases e3
  · rw [stepA_of hs] at h
    exact kept_sp h hpc hs hch he hq
  · rw [stepA_of hs, stepT_a] at h
    exact kept_w h hpc (.inl hs) hch he hq
  · rw [stepA_of hs, stepT_c] at h
    exact kept_w h hpc (.inr hs) hch he hq
  · simp only [List.mem_cons, List.not_mem_nil, or_false] at hm
    rw [stepA_of hs, stepT_q (by rcases hm with rfl | rfl <;> decide +kernel) (by rcases hm with rfl | rfl <;> decide +kernel)] at h
    exact kept_q h hpc hs hm hch he
  · rw [stepA_of hs, stepT_e (by decide +kernel) (by decide +kernel) (by decide +kernel)] at h
    exact kept_e h hpc (by decide +kernel) hes hch
theorem step_wf (h : step b σ = some (e, σ')) (hw : Wf b σ) : Wf b σ' ∧ σ'.tok.length ≤ σ.tok.length + 2 := by
  obtain ⟨n1, n2, n3, n4, n5⟩ := nxS_st (b := b) (σ := σ)
  have hp := nxS_p hw
  have k := kept_A h (by unfold WfS; rw [n1, n4]; exact hw.st) n5 (nxC_len hw)
  refine ⟨⟨k.st, k.pc, ?_, ?_⟩, by have := k.tok; rw [n2] at this; exact this⟩
  · rcases k.p with e | e
    · rw [e]; exact hp.1
    · rw [e]; exact lineEnd_ge hp.1
  · rcases k.p with e | e
    · rw [e]; exact hp.2
    · rw [e]; exact lineEnd_le hp.2
end
end Mine
namespace Mine
open PySem PySem.W PySem.Calls PyProof.Rows
theorem fill14 : PySem.Challenge.rw_kl0186_01 = PySem.Challenge.rw_kl0186_01 ∧ K = K := by
  w_on
  k_fill
  exact ⟨rfl, rfl⟩
inductive Run (b : Str) : Nat → AS → AS → Prop
  | last {σ σ' : AS} : step b σ = some (true, σ') → Run b 1 σ σ'
  | more {n : Nat} {σ σ1 σ' : AS} : step b σ = some (false, σ1) → Run b n σ1 σ' → Run b (n + 1) σ σ'
noncomputable def tokV (σ : AS) : PV := bif !σ.q && (σ.tok == oS "") then .non else .str σ.tok
theorem rt_fld {w : World} {c : LexP} {b : Str} {r : List (Addr × Obj)} {dp un : Nat} {gd : Option (List Code)} {cn : Str} {cs : Scope} {a : Addr} {ccd : Value} {cl : List (Str × Addr)} {outer : List Env} {A₀ : Around} {base h₀ : Heap} {L : Addr} {mg mb : Str → Option Value} {mean : ExcName → Option Value}
    (B : Below A₀ base outer h₀) (X : (K w.params).In h₀) (T : Top q (looseW q loose) mean mg mb h₀) (hk : cs.kind = .function) (hd : dp + 20 < recursionLimit) (hu : un + 100 < cLine) (x : LX) :
    FldOk pw w (ktrTop dp un gd cn cs L a ccd cl outer) h₀ L c.S (ledX w c b r x) (fldX c x) :=
  lexG_ok X mem_S mem_SD fun F N h => chars_c w B F X N T hk hd hu h
section
variable {w : World} {c : LexP} {b : Str} {r : List (Addr × Obj)} {x : LX} {σ σ' : AS} {n : Nat} {m : Str → Option Value} {h₀ : Heap} {L' : Addr} {dp un : Nat} {gd : Option (List Code)} {cl : List (Str × Addr)} {outer : List Env} {A₀ : Around} {base : Heap} {mg mb : Str → Option Value} {mean : ExcName → Option Value}
def PostR (S : Addr) (σ' : AS) (f : Flow) (_ : (Str → Option Value)) (x : LX) : Prop := ∃ v, f = .ret v ∧ Fits (tokV σ') v ∧ AbsX x { σ' with tok := oS "" }
theorem rt_sx (ap : Apart c r) (X : (K w.params).In h₀) (B : Below A₀ base outer h₀) (T : Top q (looseW q loose) mean mg mb h₀) (hd : dp + 100 < recursionLimit) (hu : un + 1000 < cLine) (hb : b.length ≤ 100000) (hw : Wf b σ) (hq : σ.q = false) (hes : σ.es = oS " ") (hx : AbsX x σ) (hr : Run b n σ σ') (hn : σ.tok.length + 2 * n ≤ 500000) (hm : m (oS "self") = some (.ref c.S)) :
    SxL w (ktrTop dp un gd (oS "shlex.read_token") c39_6 L' 798 (.ref 797) cl outer) (rtEnv L') h₀ L' c b r (PostR c.S σ') m x b39_6 [] := by
  have hf := rt_fld (c := c) (b := b) (r := r) (L := L') (gd := gd) (cn := oS "shlex.read_token") (cs := c39_6) (a := 798) (ccd := .ref 797) (cl := cl) B X T (by exact rfl) (show dp + 20 < recursionLimit by (first | lia | omega)) (show un + 100 < cLine by (first | lia | omega))
  refine .asg .bool (by exact rfl) (by exact rfl) ?_
  rintro v rfl
  refine .asg .str (by exact rfl) (by exact rfl) ?_
  rintro v ⟨te, rfl⟩
  refine sx_while (n₀ := n) (J := fun n1 m1 x1 => ∃ σ1, AbsM c.S m1 σ1 ∧ AbsX x1 σ1 ∧ Wf b σ1 ∧ Run b n1 σ1 σ' ∧ σ1.tok.length + 2 * n1 ≤ 500000) (Y := fun m' x' => AbsM c.S m' σ' ∧ AbsX x' σ') (by exact rfl) hf ?_ ?_ ?_
  · refine ⟨σ, ⟨?_, ?_, te, ?_⟩, hx, hw, hr, hn⟩
    · exact (if_neg (by decide)).trans ((if_neg (by decide)).trans hm)
    · rw [hq]; exact (if_neg (by decide)).trans (if_pos rfl)
    · rw [hes]; exact if_pos rfl
  · rintro n1 m1 x1 ⟨σ1, j1, j2, j3, j4, j5⟩
    have hno : step b σ1 ≠ none := by cases j4 with
      | last h => rw [h]; exact fun e => by cases e
      | more h _ => rw [h]; exact fun e => by cases e
    refine (body_ok hf ap X B T hd hu hb j3 (by (first | lia | omega)) j1 j2 hno).mono ?_
    rintro f m2 x2 ⟨e, σ2, hs, a1, a2, a3⟩
    cases j4 with
    | last h =>
      rw [h] at hs
      cases hs
      exact .inl ⟨a3, a1, a2⟩
    | @more k _ _ _ h hrest =>
      rw [h] at hs
      cases hs
      have hk := step_wf h j3
      exact .inr ⟨a3, k, by (first | lia | omega), σ2, a1, a2, hk.1, hrest, by (first | lia | omega)⟩
  · rintro m2 x2 ⟨⟨a1, a2, te2, a3⟩, ⟨b1, ⟨t2, b2⟩, b3, b4, b5⟩⟩
    refine .asg (.self (by exact rfl) a1 (.base (.token (b2 ▸ PvOf.str)))) (by exact rfl) (by exact rfl) ?_
    rintro v ⟨t3, rfl⟩
    refine sx_token (by exact rfl) hf ap X (by exact rfl) (lk_other (by decide) a1) .str (by exact rfl) ?_
    rintro v ⟨t4, rfl⟩
    have fin : AbsX { x2 with tok := .str (oS "") t4 } { σ' with tok := oS "" } := ⟨b1, ⟨_, rfl⟩, b3, b4, b5⟩
    have tail : ∀ {m3 : Str → Option Value} {v : Value} {p : PV} {rest : List Stmt} {p1 p2 p3 p4 p5 p6 p7 : Pos} {k6 : Nat}, m3 (oS "result") = some v → PvOf v p → (∀ v', Fits p v' → Fits (tokV σ') v') → m3 (oS "self") = some (.ref c.S) → SxL w (ktrTop dp un gd (oS "shlex.read_token") c39_6 L' 798 (.ref 797) cl outer) (rtEnv L') h₀ L' c b r (PostR c.S σ') m3 { x2 with tok := .str (oS "") t4 } (.If (.Compare (.Attribute (.Name (oS "self") p1) (oS "debug") p2) [.Gt] [.Constant (.int 1) k6 p3] p4) rest [] p5 :: [.Return (some (.Name (oS "result") p6)) p7]) [] := by
      intro m3 v p rest p1 p2 p3 p4 p5 p6 p7 k6 h1 h2 h3 h4
      refine .ifF (.is (.cmp (.self (by exact rfl) h4 (.base .debug)) .int .gtI (by exact rfl)) (by decide)) (.pop ?_)
      exact .ret (.name (by exact rfl) (by decide) h1 h2) fun v' hv' => ⟨v', rfl, h3 v' hv', fin⟩
    have hsf : (fun y => if y = oS "result" then some (Value.str σ'.tok t3) else m2 y) (oS "self") = some (.ref c.S) := lk_other (by decide) a1
    have hqu : (fun y => if y = oS "result" then some (Value.str σ'.tok t3) else m2 y) (oS "quoted") = some (.bool σ'.q) := lk_other (by decide) a2
    have hre : (fun y => if y = oS "result" then some (Value.str σ'.tok t3) else m2 y) (oS "result") = some (.str σ'.tok t3) := lk_same
    cases hQ : σ'.q with
    | true =>
      refine .ifF (.andT (.attr (.self (by exact rfl) hsf (.base .posix)) .bool) (.andF (.is (.not (.nm (.name (by exact rfl) (by decide) hqu .bool) .bool)) (by rw [hQ]; rfl)))) (.pop ?_)
      exact tail (m3 := fun y => if y = oS "result" then some (Value.str σ'.tok t3) else m2 y) hre .str (fun v hv => by unfold tokV; rw [hQ]; exact hv) hsf
    | false =>
      cases hT : (σ'.tok == oS "") with
      | false =>
        refine .ifF (.andT (.attr (.self (by exact rfl) hsf (.base .posix)) .bool) (.andT (.is (.not (.nm (.name (by exact rfl) (by decide) hqu .bool) .bool)) (by rw [hQ]; rfl)) (.and1 (.is (.cmp (.name (by exact rfl) (by decide) hre .str) .str .eqS (by exact rfl)) hT)))) (.pop ?_)
        exact tail (m3 := fun y => if y = oS "result" then some (Value.str σ'.tok t3) else m2 y) hre .str (fun v hv => by unfold tokV; rw [hQ, hT]; exact hv) hsf
      | true =>
        refine .ifT (.andT (.attr (.self (by exact rfl) hsf (.base .posix)) .bool) (.andT (.is (.not (.nm (.name (by exact rfl) (by decide) hqu .bool) .bool)) (by rw [hQ]; rfl)) (.and1 (.is (.cmp (.name (by exact rfl) (by decide) hre .str) .str .eqS (by exact rfl)) hT)))) ?_
        refine .asg .non (by exact rfl) (by exact rfl) ?_
        rintro v rfl
        refine .pop ?_
        exact tail (m3 := fun y => if y = oS "result" then some Value.none else (fun y => if y = oS "result" then some (Value.str σ'.tok t3) else m2 y) y) (if_pos rfl) .non (fun v hv => by unfold tokV; rw [hQ, hT]; exact hv) ((if_neg (by decide)).trans hsf)
theorem readtok_c (w : World) (ap : Apart c r) (hb : b.length ≤ 100000) (hw : Wf b σ) (hq : σ.q = false) (hes : σ.es = oS " ") (hx : AbsX x σ) (hr : Run b n σ σ') (hn : σ.tok.length + 2 * n ≤ 500000) :
    Ctr w 798 150 1500 [.ref c.S] (fun l => l = ledX w c b r x) (fun l v l' => ∃ x', l' = ledX w c b r x' ∧ AbsX x' { σ' with tok := oS "" } ∧ Fits (tokV σ') v) := by
  intro dp un gd cn cs a ccd cl outer A₀ base h₀ L m news s mg mb mean Q E B F X N T hk hd hu hpre ret
  subst hpre
  obtain ⟨sh, sg, sd, stk, so⟩ := s
  dsimp only at F N ret
  refine wpAny_call ?_
  k_dflt (refine' code_def (binds := [(Str.ofString "self", .ref c.S)]) B F X N T ?kA ?kF ?kK ?k6 ?k7 ?k8 ?k9 ?kB ?_ ?c2 ?c3 ?c4 ?c5; (case kA => exact rfl); (case kF => exact rfl); (case kK => assumption); (case k6 => k_is); (case k7 => k_is); (case k8 => ktr_room); (case k9 => exact BindsTo.of_eq rfl); (case c5 => decide); (case kB => exact locs rfl); (case c2 => exact rfl); (case c3 => exact rfl); (case c4 => exact rfl); k_whole; intro g' L' h' FG' F' N' B' X' T'; (try dsimp only); (try k_fold))
  have hE : PassesOwn (model pw w) (ktrTop (dp + 1) (un + 3) gd (oS "shlex.read_token") c39_6 L' 798 (.ref 797) [] (envX cn cs L a ccd cl :: outer)) (rtEnv L') ek := by passes_own
  refine sx_ok (rt_sx (dp := dp + 1) (un := un + 3) ap X' B' T' (by (first | lia | omega)) (by (first | lia | omega)) hb hw hq hes hx hr hn (by exact rfl)) (by exact rfl) (rt_fld (dp := dp + 1) (un := un + 3) B' X' T' (by exact rfl) (by (first | lia | omega)) (by (first | lia | omega))) hE F' N' ?_
  rintro f m' x' h2 tk ⟨v, rfl, hv, hx'⟩ F2 N2
  refine ⟨_, _, _, F2, N2, fun kF kN => ?_⟩
  exact ret v tk h2 _ kF kN ⟨x', rfl, hx', hv⟩
end
end Mine
namespace Mine
open PySem PySem.W PySem.Calls PyProof.Rows
theorem fill15 : PySem.Challenge.rw_kl0186_01 = PySem.Challenge.rw_kl0186_01 ∧ K = K := by
  w_on
  k_fill
  exact ⟨rfl, rfl⟩
theorem lex_readtok {P : Params} : findIn (K P) (.ref 830) (Str.ofString "read_token") = some (some (.ref 798)) := by kernel_rfl
theorem keep798 {P : Params} : keepIn (K P) (.ref 798) = true := by kernel_rfl
theorem fn798 {P : Params} : isFn (K P) (.ref 798) = true := by kernel_rfl
section
variable {w : World} {c : LexP} {b : Str} {r : List (Addr × Obj)} {x : LX} {σ σ' : AS} {n : Nat} {m : Str → Option Value} {h₀ : Heap} {L' : Addr} {dp un : Nat} {gd : Option (List Code)} {cn : Str} {cs : Scope} {a : Addr} {ccd : Value} {cl : List (Str × Addr)} {outer : List Env} {A₀ : Around} {base : Heap} {mg mb : Str → Option Value} {mean : ExcName → Option Value} {P : Flow → (Str → Option Value) → LX → Prop} {rest : List Stmt} {ks : List (List Stmt)}
/-- an if on a deque that is empty -/
theorem sx_dqF {A : Around} {f : Str} {D : Addr} {k : Int} {p1 p2 p3 : Pos} {body : List Stmt} (hf : ∀ x, FldOk pw w A h₀ L' c.S (ledX w c b r x) (fldX c x)) (hk : cs.kind = .function) (hs : (envOf cn cs L' a ccd).kindOf (Str.ofString "self") = some .local) (hm : m (oS "self") = some (.ref c.S)) (hF : LexF c true x.st x.tok x.ln f (.ref D)) (hD : (D, dqO k []) ∈ ledX w c b r x)
    (h : SxL w A (envOf cn cs L' a ccd) h₀ L' c b r P m x rest ks) : SxL w A (envOf cn cs L' a ccd) h₀ L' c b r P m x (.If (.Attribute (.Name (oS "self") p1) f p2) body [] p3 :: rest) ks := by
  refine .atom (fun m1 x1 => m1 = m ∧ x1 = x) (fun {E s Q} _ F N q => ?_) ?_
  · refine wpAny_If (isTrue_plain (ev_ok (.self hs hm (.base hF)) hk (hf x) F N fun v tk h' F' N' fv => ?_))
    cases fv
    refine truthy_dq (s := { s with heap := h', toks := tk }) N' hD (by simp) fun tk2 => ?_
    exact wpAny_pure (a := Flow.next) (q m x h' tk2 ⟨rfl, rfl⟩ F' N')
  · rintro m1 x1 ⟨rfl, rfl⟩
    exact h
theorem sx_raw {p1 p2 p3 p4 p5 : Pos} (hf : ∀ x, FldOk pw w (ktrTop dp un gd cn cs L' a ccd cl outer) h₀ L' c.S (ledX w c b r x) (fldX c x)) (ap : Apart c r) (X : (K w.params).In h₀) (B : Below A₀ base outer h₀) (T : Top q (looseW q loose) mean mg mb h₀) (hk : cs.kind = .function) (hd : dp + 150 < recursionLimit) (hu : un + 1500 < cLine) (hb : b.length ≤ 100000) (hs : (envOf cn cs L' a ccd).kindOf (Str.ofString "self") = some .local) (hl : (envOf cn cs L' a ccd).kindOf (Str.ofString "raw") = some .local)
    (hline : (p3.endLine == p4.line) = true) (hsw : swapsWith (.Call (.Attribute (.Name (oS "self") p2) (oS "read_token") p3) [] [] p4) (some (.Name (oS "raw") p1)) p5.line (envOf cn cs L' a ccd) = pure false) (hm : m (oS "self") = some (.ref c.S))
    (hw : Wf b σ) (hq : σ.q = false) (hes : σ.es = oS " ") (hx : AbsX x σ) (hr : Run b n σ σ') (hn : σ.tok.length + 2 * n ≤ 500000)
    (h : ∀ v x', Fits (tokV σ') v → AbsX x' { σ' with tok := oS "" } → SxL w (ktrTop dp un gd cn cs L' a ccd cl outer) (envOf cn cs L' a ccd) h₀ L' c b r P (fun y => if y = oS "raw" then some v else m y) x' rest ks) :
    SxL w (ktrTop dp un gd cn cs L' a ccd cl outer) (envOf cn cs L' a ccd) h₀ L' c b r P m x (.Assign [.Name (oS "raw") p1] (.Call (.Attribute (.Name (oS "self") p2) (oS "read_token") p3) [] [] p4) p5 :: rest) ks := by
  refine .atom (fun m1 x1 => ∃ v, m1 = (fun y => if y = oS "raw" then some v else m y) ∧ Fits (tokV σ') v ∧ AbsX x1 { σ' with tok := oS "" }) (fun {E s Q} _ F N q => ?_) ?_
  · refine wpAny_Assign_Name (mcall0 rfl hline (ld F hm ?_ hk hs (by decide))) hsw
    intro pl
    refine method_inst F X (lex_inst N mem_S mem_SD) lex_plainGet lex_readtok fn798 (by kernel_rfl!) ?_
    refine callWith_K0 (X.keeps F.keep) keep798 ?_
    refine Ctr.use (readtok_c w ap hb hw hq hes hx hr hn) B F X N T hk hd hu rfl ?_
    rintro v tk h' nw F' N' ⟨x', rfl, hx', hv⟩
    exact stN (s := { s with heap := h', toks := tk }) F' N' (fun h2 F2 N2 => q _ x' h2 _ ⟨v, rfl, hv, hx'⟩ F2 N2) hk hl
  · rintro m1 x1 ⟨v, rfl, hv, hx'⟩
    exact h v x1 hv hx'
/-- while raw == self.eof, at a text -/
theorem sx_eofF {A : Around} {y : Str} {t : Tok} {p1 p2 p3 p4 p5 : Pos} {body : List Stmt} (hf : ∀ x, FldOk pw w A h₀ L' c.S (ledX w c b r x) (fldX c x)) (hk : cs.kind = .function) (hs : (envOf cn cs L' a ccd).kindOf (Str.ofString "self") = some .local) (hl : (envOf cn cs L' a ccd).kindOf (Str.ofString "raw") = some .local) (hm : m (oS "self") = some (.ref c.S)) (hr : m (oS "raw") = some (.str y t))
    (h : SxL w A (envOf cn cs L' a ccd) h₀ L' c b r P m x rest ks) : SxL w A (envOf cn cs L' a ccd) h₀ L' c b r P m x (.While (.Compare (.Name (oS "raw") p1) [.Eq] [.Attribute (.Name (oS "self") p2) (oS "eof") p3] p4) body [] p5 :: rest) ks := by
  refine .atom (fun m1 x1 => m1 = m ∧ x1 = x) (fun {E s Q} hE F N q => ?_) ?_
  · refine while_T (n₀ := 0) (J := fun n m1 nx => m1 = m ∧ nx = ledX w c b r x) (X := fun m1 nx => m1 = m ∧ nx = ledX w c b r x) F N ⟨rfl, rfl⟩ ?_ ?_ hE
    · rintro n m₁ news₁ h₁ tk₁ R D F1 N1 ⟨rfl, rfl⟩ _ _ done2 _ _
      refine wpAny_isTrue_Compare1 (ld F1 hr (ev_ok (.self hs hm (.base .eof)) hk (hf x) (s := { s with heap := h₁, toks := tk₁ }) F1 N1 fun v tk h' F' N' fv => ?_) hk hl (by decide)) rfl
      cases fv
      refine PySem.EqNone.eq_str_none (wpAny_truthy_bool ?_)
      rw [if_neg (by decide)]
      exact done2 _ _ _ _ ⟨rfl, rfl⟩ F' N'
    · rintro m' news' h' tk ⟨rfl, rfl⟩ F' N'
      exact q m' x h' tk ⟨rfl, rfl⟩ F' N'
  · rintro m1 x1 ⟨rfl, rfl⟩
    exact h
/-- .. at None: it hands back None -/
theorem sx_eofT {A : Around} {p1 p2 p3 p4 p5 p6 p7 p8 p9 p10 p11 p12 : Pos} {els : List Stmt} (hf : ∀ x, FldOk pw w A h₀ L' c.S (ledX w c b r x) (fldX c x)) (hk : cs.kind = .function) (hs : (envOf cn cs L' a ccd).kindOf (Str.ofString "self") = some .local) (hl : (envOf cn cs L' a ccd).kindOf (Str.ofString "raw") = some .local) (hm : m (oS "self") = some (.ref c.S)) (hr : m (oS "raw") = some .none)
    (h : P (.ret .none) m x) : SxL w A (envOf cn cs L' a ccd) h₀ L' c b r P m x (.While (.Compare (.Name (oS "raw") p1) [.Eq] [.Attribute (.Name (oS "self") p2) (oS "eof") p3] p4) [.If (.UnaryOp .Not (.Attribute (.Name (oS "self") p6) (oS "filestack") p7) p8) [.Return (some (.Attribute (.Name (oS "self") p9) (oS "eof") p10)) p11] els p12] [] p5 :: rest) ks := by
  refine .atomR (fun v m1 x1 => v = .none ∧ m1 = m ∧ x1 = x) (fun {E s Q} hE F N q => ?_) ?_
  · refine while_T (n₀ := 0) (J := fun n m1 nx => m1 = m ∧ nx = ledX w c b r x) (X := fun m1 nx => False) F N ⟨rfl, rfl⟩ ?_ ?_ hE
    · rintro n m₁ news₁ h₁ tk₁ R D F1 N1 ⟨rfl, rfl⟩ _ _ _ _ out
      refine wpAny_isTrue_Compare1 (ld F1 hr (ev_ok (.self hs hm (.base .eof)) hk (hf x) (s := { s with heap := h₁, toks := tk₁ }) F1 N1 fun v tk h' F' N' fv => ?_) hk hl (by decide)) rfl
      cases fv
      refine PySem.EqNone.eq_none_none (wpAny_truthy_bool ?_)
      rw [if_pos rfl]
      refine wpAny_execs_cons (wpAny_If ?_)
      show wpAny _ _ (do return !(← isTrue (.Attribute (.Name (oS "self") p6) (oS "filestack") p7) _ (eval _ _))) _ _ _
      refine wpAny_bind (isTrue_plain (ev_ok (.self hs hm (.base .filestack)) hk (hf x) (s := { s with heap := h', toks := tk }) F' N' fun v tk2 h2 F2 N2 fv => ?_))
      cases fv
      refine truthy_dq (s := { s with heap := h2, toks := tk2 }) N2 mem_FS (by simp) fun tk3 => wpAny_pure ?_
      refine wpAny_execs_cons (wpAny_Return_some (ev_ok (.self hs hm (.base .eof)) hk (hf x) (s := { s with heap := h2, toks := tk3 }) F2 N2 fun v tk h' F' N' fv => ?_))
      cases fv
      exact out _ _ (q .none _ x h' tk ⟨rfl, rfl, rfl⟩ F' N')
    · rintro m' news' h' tk hF
      exact hF.elim
  · rintro v m1 x1 ⟨rfl, rfl, rfl⟩
    exact h
end
end Mine
namespace Mine
open PySem PySem.W PySem.Calls PyProof.Rows
theorem fill16 : PySem.Challenge.rw_kl0186_01 = PySem.Challenge.rw_kl0186_01 ∧ K = K := by
  w_on
  k_fill
  exact ⟨rfl, rfl⟩
section
variable {w : World} {c : LexP} {b : Str} {r : List (Addr × Obj)} {x : LX} {σ σ' : AS} {n : Nat} {m : Str → Option Value} {h₀ : Heap} {L' : Addr} {dp un : Nat} {gd : Option (List Code)} {cl : List (Str × Addr)} {outer : List Env} {A₀ : Around} {base : Heap} {mg mb : Str → Option Value} {mean : ExcName → Option Value}
noncomputable abbrev gtEnv (L' : Addr) : Env := envOf (oS "shlex.get_token") c39_5 L' 791 (.ref 790)
theorem gt_sx (ap : Apart c r) (X : (K w.params).In h₀) (B : Below A₀ base outer h₀) (T : Top q (looseW q loose) mean mg mb h₀) (hd : dp + 150 < recursionLimit) (hu : un + 1500 < cLine) (hb : b.length ≤ 100000) (hw : Wf b σ) (hq : σ.q = false) (hes : σ.es = oS " ") (hx : AbsX x σ) (hr : Run b n σ σ') (hn : σ.tok.length + 2 * n ≤ 500000) (hm : m (oS "self") = some (.ref c.S)) :
    SxL w (ktrTop dp un gd (oS "shlex.get_token") c39_5 L' 791 (.ref 790) cl outer) (gtEnv L') h₀ L' c b r (PostR c.S σ') m x b39_5 [] := by
  have hf := rt_fld (c := c) (b := b) (r := r) (L := L') (gd := gd) (cn := oS "shlex.get_token") (cs := c39_5) (a := 791) (ccd := .ref 790) (cl := cl) B X T (by exact rfl) (show dp + 20 < recursionLimit by (first | lia | omega)) (show un + 100 < cLine by (first | lia | omega))
  refine sx_dqF hf (by exact rfl) (by exact rfl) hm .pushback mem_PB ?_
  refine sx_raw hf ap X B T (by exact rfl) hd hu hb (by exact rfl) (by exact rfl) (by exact rfl) (by exact rfl) hm hw hq hes hx hr hn ?_
  intro v x' hv hx'
  have hs1 : (fun y => if y = oS "raw" then some v else m y) (oS "self") = some (.ref c.S) := (if_neg (by decide)).trans hm
  have hr1 : (fun y => if y = oS "raw" then some v else m y) (oS "raw") = some v := if_pos rfl
  refine .ifF (.cmp (.self (by exact rfl) hs1 (.base .source)) .non .ntN (by exact rfl)) (.pop ?_)
  cases hV : tokV σ' with
  | str y =>
    rw [hV] at hv
    obtain ⟨t, rfl⟩ := hv
    refine sx_eofF hf (by exact rfl) (by exact rfl) (by exact rfl) hs1 hr1 ?_
    refine .ifF (.is (.cmp (.self (by exact rfl) hs1 (.base .debug)) .int .geI (by exact rfl)) (by decide)) (.pop ?_)
    exact .ret (.name (by exact rfl) (by decide) hr1 .str) fun v' hv' => ⟨v', rfl, by rw [hV]; exact hv', hx'⟩
  | non =>
    rw [hV] at hv
    cases hv
    exact sx_eofT hf (by exact rfl) (by exact rfl) (by exact rfl) hs1 hr1 ⟨.none, rfl, by rw [hV]; rfl, hx'⟩
  | int i => unfold tokV at hV; cases hb : (!σ'.q && (σ'.tok == oS "")) <;> rw [hb] at hV <;> cases hV
  | bool i => unfold tokV at hV; cases hb : (!σ'.q && (σ'.tok == oS "")) <;> rw [hb] at hV <;> cases hV
  | ref i => unfold tokV at hV; cases hb : (!σ'.q && (σ'.tok == oS "")) <;> rw [hb] at hV <;> cases hV
theorem gettok_c (w : World) (ap : Apart c r) (hb : b.length ≤ 100000) (hw : Wf b σ) (hq : σ.q = false) (hes : σ.es = oS " ") (hx : AbsX x σ) (hr : Run b n σ σ') (hn : σ.tok.length + 2 * n ≤ 500000) :
    Ctr w 791 200 2000 [.ref c.S] (fun l => l = ledX w c b r x) (fun l v l' => ∃ x', l' = ledX w c b r x' ∧ AbsX x' { σ' with tok := oS "" } ∧ Fits (tokV σ') v) := by
  intro dp un gd cn cs a ccd cl outer A₀ base h₀ L m news s mg mb mean Q E B F X N T hk hd hu hpre ret
  subst hpre
  obtain ⟨sh, sg, sd, stk, so⟩ := s
  dsimp only at F N ret
  refine wpAny_call ?_
  k_dflt (refine' code_def (binds := [(Str.ofString "self", .ref c.S)]) B F X N T ?kA ?kF ?kK ?k6 ?k7 ?k8 ?k9 ?kB ?_ ?c2 ?c3 ?c4 ?c5; (case kA => exact rfl); (case kF => exact rfl); (case kK => assumption); (case k6 => k_is); (case k7 => k_is); (case k8 => ktr_room); (case k9 => exact BindsTo.of_eq rfl); (case c5 => decide); (case kB => exact locs rfl); (case c2 => exact rfl); (case c3 => exact rfl); (case c4 => exact rfl); k_whole; intro g' L' h' FG' F' N' B' X' T'; (try dsimp only); (try k_fold))
  have hE : PassesOwn (model pw w) (ktrTop (dp + 1) (un + 3) gd (oS "shlex.get_token") c39_5 L' 791 (.ref 790) [] (envX cn cs L a ccd cl :: outer)) (gtEnv L') ek := by passes_own
  refine sx_ok (gt_sx (dp := dp + 1) (un := un + 3) ap X' B' T' (by (first | lia | omega)) (by (first | lia | omega)) hb hw hq hes hx hr hn (by exact rfl)) (by exact rfl) (rt_fld (dp := dp + 1) (un := un + 3) B' X' T' (by exact rfl) (by (first | lia | omega)) (by (first | lia | omega))) hE F' N' ?_
  rintro f m' x' h2 tk ⟨v, rfl, hv, hx'⟩ F2 N2
  refine ⟨_, _, _, F2, N2, fun kF kN => ?_⟩
  exact ret v tk h2 _ kF kN ⟨x', rfl, hx', hv⟩
end
end Mine
namespace Mine
open PySem PySem.W PySem.Calls PyProof.Rows
theorem strVal_drop (ps : List (Str × Tok)) (k : Nat) : (strValues ps).drop k = strValues (ps.drop k) := by unfold strValues; rw [List.map_drop]
theorem strVal_rev (ps : List (Str × Tok)) : (strValues ps).reverse = strValues ps.reverse := by unfold strValues; rw [List.map_reverse]
theorem fm_congr {α β : Type} {f : α → Option β} {g : α → β} : ∀ {l : List α}, (∀ x ∈ l, f x = some (g x)) → l.filterMap f = l.map g := by
  intro l
  induction l with
  | nil => intro _; rfl
  | cons a l ih =>
    intro h
    rw [List.filterMap_cons_some (h a (.head _)), List.map_cons, ih fun x hx => h x (.tail _ hx)]
theorem rev_pick (vs : List Value) (m : Nat) (h : vs.length = m + 1) : ((List.range m).map fun (k : Nat) => ((m : Int) + (-1) * (k : Int)).toNat).filterMap (vs.toArray[·]?) = (vs.drop 1).reverse := by
  rw [List.filterMap_map]
  have e : ∀ k ∈ List.range m, ((fun i => vs.toArray[i]?) ∘ fun (k : Nat) => ((m : Int) + (-1) * (k : Int)).toNat) k = some ((vs.drop 1).reverse.getD k .none) := by
    intro k hk
    have hk' : k < m := List.mem_range.mp hk
    have e1 : ((m : Int) + (-1) * (k : Int)).toNat = m - k := by (first | lia | omega)
    show vs.toArray[((m : Int) + (-1) * (k : Int)).toNat]? = _
    rw [e1, List.getElem?_toArray, List.getD_eq_getElem?_getD, List.getElem?_reverse (by rw [List.length_drop]; (first | lia | omega)), List.length_drop, List.getElem?_drop]
    have e2 : 1 + (vs.length - 1 - 1 - k) = m - k := by clear e1; rw [h, Nat.add_sub_cancel, Nat.sub_sub]; (first | lia | omega)
    rw [e2, List.getElem?_eq_getElem (by rw [h]; exact Nat.lt_succ_of_le (Nat.sub_le _ _))]
    rfl
  rw [fm_congr e]
  apply List.ext_getElem?
  intro i
  rw [List.getElem?_map]
  by_cases hi : i < m
  · rw [List.getElem?_range hi, Option.map_some, List.getD_eq_getElem?_getD, List.getElem?_eq_getElem (by rw [List.length_reverse, List.length_drop]; (first | lia | omega))]
    rfl
  · rw [List.getElem?_eq_none (by rw [List.length_range]; (first | lia | omega)), List.getElem?_eq_none (by rw [List.length_reverse, List.length_drop]; (first | lia | omega))]
    rfl
theorem pick_rev (ps : List (Str × Tok)) (hn : ps ≠ []) : (slicePick (strValues ps).toArray none (some 0) (some (-1))).toList = strValues (ps.drop 1).reverse := by
  obtain ⟨m, hm⟩ : ∃ m, ps.length = m + 1 := ⟨ps.length - 1, by have := List.length_pos_iff.mpr hn; (first | lia | omega)⟩
  have hl : (strValues ps).length = m + 1 := by rw [strVal_len, hm]
  have e : sliceBounds none (some 0) (some (-1)) (strValues ps).toArray.size = ((m : Int), 0, -1) := by
    rw [List.size_toArray, hl]
    simp only [sliceBounds, Option.getD_some, show ¬ ((-1 : Int) > 0) by decide, if_false, show ¬ ((0 : Int) < 0) by decide]
    congr 1
    · (first | lia | omega)
    · congr 1
      (first | lia | omega)
  unfold slicePick
  rw [e]
  have e2 : sliceRange (m : Int) 0 (-1) = (List.range m).map fun (k : Nat) => ((m : Int) + (-1) * (k : Int)).toNat := by
    unfold sliceRange
    rw [if_neg (by decide)]
    have : (if (m : Int) > 0 then ((m : Int) - 0 - -1 - 1) / - -1 else 0).toNat = m := by
      split
      · have : ((m : Int) - 0 - -1 - 1) / - -1 = m := by rw [show (- -1 : Int) = 1 by decide, Int.ediv_one]; (first | lia | omega)
        rw [this]; (first | lia | omega)
      · (first | lia | omega)
    dsimp only
    rw [this]
  dsimp only
  rw [e2, rev_pick _ _ hl, strVal_drop, strVal_rev]
end Mine
namespace Mine
open PySem PySem.W PySem.Calls PyProof.Rows
noncomputable def wgt (l : List Str) : Nat := (l.map (·.length)).sum + l.length
theorem wgt_app (l r : List Str) : wgt (l ++ r) = wgt l + wgt r := by unfold wgt; rw [List.map_append, List.sum_append, List.length_append]; (first | lia | omega)
theorem wgt_one (c : Str) : wgt [c] = c.length + 1 := by unfold wgt; simp
theorem wgt_drop : ∀ (l : List Str), wgt l.dropLast ≤ wgt l := by
  intro l
  by_cases h : l = []
  · subst h; exact Nat.le_refl _
  · have e := List.dropLast_concat_getLast h
    have : wgt l = wgt l.dropLast + wgt [l.getLast h] := by rw [← wgt_app, e]
    (first | lia | omega)
theorem wgt_step (root : Str) (nc : List Str) (c : Str) : wgt (ncStep root nc c) ≤ wgt nc + (c.length + 1) := by
  unfold ncStep
  split
  · (first | lia | omega)
  · split
    · rw [wgt_app, wgt_one]; exact Nat.le_refl _
    · have := wgt_drop nc; (first | lia | omega)
theorem wgt_fold (root : Str) : ∀ (l nc : List Str), wgt (l.foldl (ncStep root) nc) ≤ wgt nc + wgt l := by
  intro l
  induction l with
  | nil => intro nc; exact Nat.le_add_right _ _
  | cons c l ih =>
    intro nc
    have h1 := ih (ncStep root nc c)
    have h2 := wgt_step root nc c
    have h3 : wgt (c :: l) = (c.length + 1) + wgt l := by have := wgt_app [c] l; rw [wgt_one] at this; exact this
    rw [List.foldl_cons, h3]
    (first | lia | omega)
theorem wgt_glued (ys : List Str) (h : ys ≠ []) : wgt ys = (Txt.join (Str.ofString "/") ys).length + 1 := by
  have e : (Txt.join (Str.ofString "/") ys).length = (ys.map (·.length)).sum + (ys.length - 1) * (Str.ofString "/").length := PySem.size_glued _ _
  rw [show (Str.ofString "/").length = 1 by decide +kernel] at e
  have := List.length_pos_iff.mpr h
  unfold wgt
  (first | lia | omega)
theorem parts_ne (x : Str) (cuts : List Nat) (k : Nat) : Builtin.Str.partsBetween x cuts k ≠ [] := by
  unfold Builtin.Str.partsBetween
  intro h
  have := congrArg List.length h
  simp at this
theorem wgt_split (x : Str) : wgt (Txt.split x (Str.ofString "/")) = x.length + 1 := by
  unfold Txt.split
  split
  · exact wgt_one x
  · split
    · exact wgt_one x
    · rw [wgt_glued _ (parts_ne _ _ _)]
      show (Builtin.Str.glued _ _).length + 1 = _
      have := StrLaws.glued_between_self x (Str.ofString "/") (x.length + 1)
      rw [show (Builtin.Str.partsBetween x (Builtin.Str.occurrences x (Str.ofString "/") 0 x.length (x.length + 1)) (Str.ofString "/").length) = _ from rfl] at this
      rw [this]
theorem splitF_two (x : Str) : (splitF x).1.length ≤ 2 := by
  unfold splitF
  split
  · exact Nat.zero_le _
  · split
    · show (Str.ofString "/").length ≤ 2; decide +kernel
    · show (Txt.slice x none (some 2)).length ≤ 2
      by_cases h : x.length < 2
      · exact Nat.le_trans (Txt.slice_le x none (some 2)) (by (first | lia | omega))
      · have hx : x.cps.toList.length = x.length := Array.length_toList
        have := slice_closes_to (x := x) (j := 2) (by rw [Array.length_toList]; exact ⟨by (first | lia | omega), by show _ ≤ (x.length : Int); (first | lia | omega)⟩)
        rw [beq_iff_eq.mp this]
        show (List.toArray _).size ≤ 2
        rw [List.size_toArray, List.length_take]
        exact Nat.le_trans (Nat.min_le_left _ _) (by decide)
theorem normF_len (x : Str) : (normF x).length ≤ x.length + 3 := by
  have h1 := splitF_two x
  have h2 : (splitF x).2.length ≤ x.length := by
    unfold splitF
    split
    · exact Nat.le_refl _
    · split
      · exact Txt.slice_le x (some 1) none
      · exact Txt.slice_le x (some 2) none
  have h3 := wgt_fold (splitF x).1 (Txt.split (splitF x).2 (Str.ofString "/")) []
  rw [wgt_split] at h3
  have h0 : wgt [] = 0 := rfl
  have hd : (Str.ofString ".").length ≤ x.length + 3 := Nat.le_trans (by decide +kernel : _ ≤ 1) (by (first | lia | omega))
  unfold normF
  split
  · exact hd
  · split
    · exact hd
    · generalize (Txt.split (splitF x).2 (Str.ofString "/")).foldl (ncStep (splitF x).1) [] = nc at h3
      have h4 := glued_len (Str.ofString "/") nc
      rw [show (Str.ofString "/").length = 1 by decide +kernel] at h4
      have h5 : ((splitF x).1 ++ Txt.join (Str.ofString "/") nc).length = (splitF x).1.length + (Txt.join (Str.ofString "/") nc).length := Array.size_append
      rw [h5]
      unfold wgt at h3 h0
      (first | lia | omega)
end Mine
namespace Mine
open PySem PySem.W PySem.Calls PyProof.Rows
abbrev Led := List (Addr × Obj)
abbrev Mp := Str → Option Value
/-- a place of the walk: a frame of a def -/
structure Cx where
  (w : World) (A : Around) (cn : Str) (cs : Scope) (L a : Addr) (cd : Value) (h₀ : Heap) (lo : Nat)
noncomputable abbrev Cx.env (C : Cx) : Env := envOf C.cn C.cs C.L C.a C.cd
theorem Ctr.mono {w : World} {f : Addr} {nd nu nd' nu' : Nat} {pos : List Value} {pre : Led → Prop} {post : Led → Value → Led → Prop} (C : Ctr w f nd nu pos pre post) (h1 : nd ≤ nd') (h2 : nu ≤ nu') : Ctr w f nd' nu' pos pre post :=
  fun dp un gd cn cs a ccd cl outer A₀ base h₀ L m news s mg mb mean Q E B F X N T hk hd hu hp ret => C dp un gd cn cs a ccd cl outer A₀ base h₀ L m news s mg mb mean Q E B F X N T hk (by (first | lia | omega)) (by (first | lia | omega)) hp ret
structure Cx.Ok (C : Cx) (nd nu : Nat) : Prop where
  hk : C.cs.kind = .function
  X : (K C.w.params).In C.h₀
  T : ∃ mg mb, TopRead q (looseW q loose) mg mb C.h₀
  un : C.A.units + nu < cLine
  hh : C.A.handled = none
  lo : C.lo = 0
  call : ∀ {f pos pre post}, Ctr C.w f nd nu pos pre post → ∀ {m n} {E : Value → Shared → Prop} {s : Shared} {Q : Value → Shared → Prop}, Fr C.h₀ C.L s.heap m → News C.h₀ C.L s.heap n → pre n → (∀ v tk h' n', Fr C.h₀ C.L h' m → News C.h₀ C.L h' n' → post n v n' → Q v { s with heap := h', toks := tk }) → wpAny (model pw C.w) C.A (call (.ref f) pos) Q E s
theorem Cx.ok {w : World} {dp un : Nat} {gd : Option (List Code)} {cn : Str} {cs : Scope} {a : Addr} {ccd : Value} {cl : List (Str × Addr)} {outer : List Env} {A₀ : Around} {base h₀ : Heap} {L : Addr} {mg mb : Str → Option Value} {mean : ExcName → Option Value} {nd nu : Nat}
    (B : Below A₀ base outer h₀) (X : (K w.params).In h₀) (T : Top q (looseW q loose) mean mg mb h₀) (hk : cs.kind = .function) (hd : dp + nd < recursionLimit) (hu : un + nu < cLine) :
    Cx.Ok ⟨w, ktrTop dp un gd cn cs L a ccd cl outer, cn, cs, L, a, ccd, h₀, 0⟩ nd nu :=
  ⟨hk, X, ⟨mg, mb, topRead_of T⟩, hu, rfl, rfl, fun {_ _ _ _} C {_ _ _ _ _} F N hp ret => Ctr.use C B F X N T hk hd hu hp ret⟩
section
variable {C : Cx} {m : Mp} {n : Led} {R : Value → Led → Prop}
/-- what a computation of a value does, from a frame m and a ledger n -/
def Cm (C : Cx) (m : Mp) (n : Led) (t : Sem Value) (R : Value → Led → Prop) : Prop :=
  ∀ ⦃E : Value → Shared → Prop⦄ ⦃s : Shared⦄ ⦃Q : Value → Shared → Prop⦄, C.lo ≤ s.toks → Fr C.h₀ C.L s.heap m → News C.h₀ C.L s.heap n →
    (∀ v n' h' tk, C.lo ≤ tk → R v n' → Fr C.h₀ C.L h' m → News C.h₀ C.L h' n' → Q v { s with heap := h', toks := tk }) → wpAny (model pw C.w) C.A t Q E s
abbrev Eve (C : Cx) (m : Mp) (n : Led) (e : Expr) (R : Value → Led → Prop) : Prop := Cm C m n (eval e C.env) R
/-- nothing of n is lost -/
def Kp (n n' : Led) : Prop := ∀ p ∈ n, p ∈ n'
theorem Kp.rfl {n : Led} : Kp n n := fun _ h => h
theorem Kp.trans {n n' n'' : Led} (h : Kp n n') (h' : Kp n' n'') : Kp n n'' := fun p hp => h' p (h p hp)
theorem Kp.cons {n : Led} {a : Addr × Obj} : Kp n (a :: n) := fun _ h => .tail _ h
def Is (p : PV) (n : Led) : Value → Led → Prop := fun v n' => Fits p v ∧ Kp n n'
abbrev Evp (C : Cx) (m : Mp) (n : Led) (e : Expr) (p : PV) : Prop := Eve C m n e (Is p n)
def Sq (C : Cx) (m : Mp) (n : Led) (es : List Expr) (R : List Value → Led → Prop) : Prop :=
  ∀ ⦃E : Value → Shared → Prop⦄ ⦃s : Shared⦄ ⦃Q : List Value → Shared → Prop⦄ (pos : Pos), C.lo ≤ s.toks → Fr C.h₀ C.L s.heap m → News C.h₀ C.L s.heap n →
    (∀ v n' h' tk, C.lo ≤ tk → R v n' → Fr C.h₀ C.L h' m → News C.h₀ C.L h' n' → Q v { s with heap := h', toks := tk }) → wpAny (model pw C.w) C.A (spliced (backTo pos (starEach es C.env))) Q E s
def Tst (C : Cx) (m : Mp) (n : Led) (e : Expr) (R : Bool → Led → Prop) : Prop :=
  ∀ ⦃E : Value → Shared → Prop⦄ ⦃s : Shared⦄ ⦃Q : Bool → Shared → Prop⦄ ⦃whole : Sem Value⦄, (whole = eval e C.env ∨ ∃ o xs p, e = .BoolOp o xs p) → C.lo ≤ s.toks → Fr C.h₀ C.L s.heap m → News C.h₀ C.L s.heap n →
    (∀ b n' h' tk, C.lo ≤ tk → R b n' → Fr C.h₀ C.L h' m → News C.h₀ C.L h' n' → Q b { s with heap := h', toks := tk }) → wpAny (model pw C.w) C.A (isTrue e C.env whole) Q E s
def Bs (b : Bool) (n : Led) : Bool → Led → Prop := fun c n' => c = b ∧ Kp n n'
abbrev Tsp (C : Cx) (m : Mp) (n : Led) (e : Expr) (b : Bool) : Prop := Tst C m n e (Bs b n)
/-- statements; the last list: what is to come behind -/
def Sts (C : Cx) (P : Flow → Mp → Led → Prop) (m : Mp) (n : Led) (l : List Stmt) (ks : List (List Stmt)) : Prop :=
  ∀ ⦃E : Value → Shared → Prop⦄ ⦃s : Shared⦄ ⦃Q : Flow → Shared → Prop⦄, PassesOwn (model pw C.w) C.A C.env E → C.lo ≤ s.toks → Fr C.h₀ C.L s.heap m → News C.h₀ C.L s.heap n →
    (∀ f m' n' h' tk, P f m' n' → Fr C.h₀ C.L h' m' → News C.h₀ C.L h' n' → Q f { s with heap := h', toks := tk }) → wpAny (model pw C.w) C.A (execs l C.env) (contQ (model pw C.w) C.A C.env E Q ks) E s
theorem news_sub {h₀ h : Heap} {L : Addr} {n n' : Led} (N : News h₀ L h n) (hs : ∀ p ∈ n', p ∈ n) : News h₀ L h n' := fun p hp => N p (hs p hp)
theorem Cm.mono {t : Sem Value} {R' : Value → Led → Prop} (h : Cm C m n t R) (hr : ∀ v n', R v n' → R' v n') : Cm C m n t R' :=
  fun _ _ _ hl F N q => h hl F N fun v n' h' tk l r F' N' => q v n' h' tk l (hr v n' r) F' N'
theorem Cm.sub {t : Sem Value} {n₂ : Led} (h : Cm C m n₂ t R) (hs : ∀ p ∈ n₂, p ∈ n) : Cm C m n t R := fun _ _ _ hl F N q => h hl F (news_sub N hs) q
theorem Sq.sub {es : List Expr} {R : List Value → Led → Prop} {n₂ : Led} (h : Sq C m n₂ es R) (hs : ∀ p ∈ n₂, p ∈ n) : Sq C m n es R := fun _ _ _ pos hl F N q => h pos hl F (news_sub N hs) q
theorem Tst.sub {e : Expr} {R : Bool → Led → Prop} {n₂ : Led} (h : Tst C m n₂ e R) (hs : ∀ p ∈ n₂, p ∈ n) : Tst C m n e R := fun _ _ _ _ hw hl F N q => h hw hl F (news_sub N hs) q
theorem Sts.mono {P P' : Flow → Mp → Led → Prop} {l : List Stmt} {ks : List (List Stmt)} (h : Sts C P m n l ks) (hp : ∀ f m' n', P f m' n' → P' f m' n') : Sts C P' m n l ks :=
  fun _ _ _ hE hl F N q => h hE hl F N fun f m' n' h' tk p F' N' => q f m' n' h' tk (hp f m' n' p) F' N'
theorem Sts.sub {P : Flow → Mp → Led → Prop} {l : List Stmt} {ks : List (List Stmt)} {n₂ : Led} (h : Sts C P m n₂ l ks) (hs : ∀ p ∈ n₂, p ∈ n) : Sts C P m n l ks := fun _ _ _ hE hl F N q => h hE hl F (news_sub N hs) q
/- expressions -/
theorem Eve.loc {x : Str} {pos : Pos} {v : Value} (hk : C.cs.kind = .function) (hl : C.env.kindOf x = some .local) (hd : (x == ("__debug__" : Str)) = false) (hv : m x = some v) (r : R v n) : Eve C m n (.Name x pos) R :=
  fun _ s _ h0 F N q => ld F hv (q v n s.heap s.toks h0 r F N) hk hl hd
theorem Evp.loc {x : Str} {pos : Pos} {v : Value} {p : PV} (hk : C.cs.kind = .function) (hl : C.env.kindOf x = some .local) (hd : (x == ("__debug__" : Str)) = false) (hv : m x = some v) (hp : PvOf v p) : Evp C m n (.Name x pos) p :=
  Eve.loc hk hl hd hv ⟨hp.fits, Kp.rfl⟩
theorem Eve.const_str {x : Str} {k : Nat} {pos : Pos} (r : ∀ t, C.lo ≤ t → R (.str x t) n) : Eve C m n (.Constant (.str x) k pos) R :=
  fun _ s _ h0 F N q => Constant_str (q _ n s.heap _ (Nat.le_succ_of_le h0) (r s.toks h0) F N)
theorem Evp.str {x : Str} {k : Nat} {pos : Pos} : Evp C m n (.Constant (.str x) k pos) (.str x) := Eve.const_str fun t _ => ⟨⟨t, rfl⟩, Kp.rfl⟩
theorem Evp.int {i : Int} {k : Nat} {pos : Pos} : Evp C m n (.Constant (.int i) k pos) (.int i) :=
  fun _ s _ h0 F N q => wpAny_Constant_int (q _ n s.heap _ (Nat.le_succ_of_le h0) ⟨⟨_, rfl⟩, Kp.rfl⟩ F N)
theorem Evp.bool {b : Bool} {k : Nat} {pos : Pos} : Evp C m n (.Constant (.bool b) k pos) (.bool b) :=
  fun _ s _ h0 F N q => Constant_bool (q _ n s.heap s.toks h0 ⟨rfl, Kp.rfl⟩ F N)
theorem Evp.non {k : Nat} {pos : Pos} : Evp C m n (.Constant .none k pos) .non :=
  fun _ s _ h0 F N q => Constant_none (q _ n s.heap s.toks h0 ⟨rfl, Kp.rfl⟩ F N)
theorem Eve.glob {nd nu : Nat} (ok : C.Ok nd nu) {x : Str} {pos : Pos} {v : Value} (e : nsIn (K C.w.params) mainGlobals x = some (some v)) (hx : C.env.kindOf x = some .globalImplicit) (hd : (x == ("__debug__" : Str)) = false) (r : R v n) : Eve C m n (.Name x pos) R :=
  fun _ s _ h0 F N q => by
    obtain ⟨mg, mb, T⟩ := ok.T
    exact name_K F ok.X T e (q v n s.heap s.toks h0 r F N) ok.hk hx hd
theorem Eve.boot {nd nu : Nat} (ok : C.Ok nd nu) {x : Str} {pos : Pos} {v : Value} (e : nsIn (K C.w.params) mainGlobals x = some none) (hv : bootBuiltins x = some v) (hn : x ≠ "__name__") (hx : C.env.kindOf x = some .globalImplicit) (hd : (x == ("__debug__" : Str)) = false) (r : R v n) : Eve C m n (.Name x pos) R :=
  fun _ s _ h0 F N q => by
    obtain ⟨mg, mb, T⟩ := ok.T
    exact name_B F ok.X T e hv hn (q v n s.heap s.toks h0 r F N) ok.hk hx hd
theorem Eve.bin {l r : Expr} {op : Operator} {pos : Pos} {R1 : Value → Led → Prop} {R2 : Value → Value → Led → Prop} (h1 : Eve C m n l R1) (h2 : ∀ a n1, R1 a n1 → Eve C m n1 r (R2 a)) (h3 : ∀ a n1 b n2, R1 a n1 → R2 a b n2 → Cm C m n2 (binaryOp op a b) R) : Eve C m n (.BinOp l op r pos) R :=
  fun _ s _ h0 F N q => wpAny_BinOp (h1 h0 F N fun a n1 g1 t1 l1 r1 F1 N1 => h2 a n1 r1 (s := { s with heap := g1, toks := t1 }) l1 F1 N1 fun b n2 g2 t2 l2 r2 F2 N2 => h3 a n1 b n2 r1 r2 (s := { s with heap := g2, toks := t2 }) l2 F2 N2 q)
theorem Evp.bin {l r : Expr} {op : Operator} {pos : Pos} {p1 p2 : PV} (h1 : Evp C m n l p1) (h2 : Evp C m n r p2) (h3 : ∀ a b, Fits p1 a → Fits p2 b → Cm C m n (binaryOp op a b) R) : Eve C m n (.BinOp l op r pos) R :=
  Eve.bin (R2 := fun _ => Is p2 n) h1 (fun a n1 e => Cm.sub h2 e.2) fun a n1 b n2 e1 e2 => Cm.sub (h3 a b e1.1 e2.1) e2.2
theorem Evp.addS {l r : Expr} {pos : Pos} {x y : Str} (hlo : C.lo = 0) (h1 : Evp C m n l (.str x)) (h2 : Evp C m n r (.str y)) (hb : x.length + y.length ≤ 10000000) : Evp C m n (.BinOp l .Add r pos) (.str (x ++ y)) :=
  Evp.bin h1 h2 fun a b fa fb {_ s _} h0 F N q => by
    obtain ⟨t, rfl⟩ := fa; obtain ⟨u, rfl⟩ := fb
    exact SBL.add (fun t' k _ => q _ n s.heap k (by (first | lia | omega)) ⟨⟨_, rfl⟩, Kp.rfl⟩ F N) (by rw [sizeLine_eq]; (first | lia | omega))
theorem Evp.addI {l r : Expr} {pos : Pos} {i j : Int} (h1 : Evp C m n l (.int i)) (h2 : Evp C m n r (.int j)) : Evp C m n (.BinOp l .Add r pos) (.int (i + j)) :=
  Evp.bin h1 h2 fun a b fa fb {_ s _} h0 F N q => by
    obtain ⟨t, rfl⟩ := fa; obtain ⟨u, rfl⟩ := fb
    exact add_int (q _ n s.heap _ (by (first | lia | omega)) ⟨⟨_, rfl⟩, Kp.rfl⟩ F N)
theorem Evp.subI {l r : Expr} {pos : Pos} {i j : Int} (h1 : Evp C m n l (.int i)) (h2 : Evp C m n r (.int j)) : Evp C m n (.BinOp l .Sub r pos) (.int (i - j)) :=
  Evp.bin h1 h2 fun a b fa fb {_ s _} h0 F N q => by
    obtain ⟨t, rfl⟩ := fa; obtain ⟨u, rfl⟩ := fb
    exact sub_int (q _ n s.heap _ (by (first | lia | omega)) ⟨⟨_, rfl⟩, Kp.rfl⟩ F N)
theorem Evp.modI {l r : Expr} {pos : Pos} {i j : Int} (h1 : Evp C m n l (.int i)) (h2 : Evp C m n r (.int j)) (hj : j ≠ 0) : Evp C m n (.BinOp l .Mod r pos) (.int (i.fmod j)) :=
  Evp.bin h1 h2 fun a b fa fb {_ s _} h0 F N q => by
    obtain ⟨t, rfl⟩ := fa; obtain ⟨u, rfl⟩ := fb
    exact mod_int' hj (q _ n s.heap _ (by (first | lia | omega)) ⟨⟨_, rfl⟩, Kp.rfl⟩ F N)
theorem Evp.divI {l r : Expr} {pos : Pos} {i j : Int} (h1 : Evp C m n l (.int i)) (h2 : Evp C m n r (.int j)) (hj : j ≠ 0) (hs : Builtin.divisionGoesByPylong i j = false) : Evp C m n (.BinOp l .FloorDiv r pos) (.int (i.fdiv j)) :=
  Evp.bin h1 h2 fun a b fa fb {_ s _} h0 F N q => by
    obtain ⟨t, rfl⟩ := fa; obtain ⟨u, rfl⟩ := fb
    exact floordiv_int hj (q _ n s.heap _ (by (first | lia | omega)) ⟨⟨_, rfl⟩, Kp.rfl⟩ F N) (.inl hs)
theorem Eve.ite {t b e : Expr} {pos : Pos} {RT : Bool → Led → Prop} (ht : Tst C m n t RT) (h : ∀ c n1, RT c n1 → (c = true → Eve C m n1 b R) ∧ (c = false → Eve C m n1 e R)) : Eve C m n (.IfExp t b e pos) R :=
  fun _ s _ h0 F N q => IfExp_ (ht (.inl rfl) h0 F N fun c n1 g1 t1 l1 r1 F1 N1 => by
    cases c
    · exact (h _ _ r1).2 rfl (s := { s with heap := g1, toks := t1 }) l1 F1 N1 q
    · exact (h _ _ r1).1 rfl (s := { s with heap := g1, toks := t1 }) l1 F1 N1 q)
theorem Eve.ifp {t b e : Expr} {pos : Pos} {c : Bool} (ht : Tsp C m n t c) (h1 : c = true → Eve C m n b R) (h2 : c = false → Eve C m n e R) : Eve C m n (.IfExp t b e pos) R :=
  Eve.ite ht fun c' n1 e => ⟨fun h => Cm.sub (h1 (e.1 ▸ h)) e.2, fun h => Cm.sub (h2 (e.1 ▸ h)) e.2⟩
/- lists of arguments -/
theorem Sq.nil {R : List Value → Led → Prop} (r : R [] n) : Sq C m n [] R := fun _ s _ _ h0 F N q => args_nil (q [] n s.heap s.toks h0 r F N)
theorem Sq.cons {e : Expr} {rest : List Expr} {R1 : Value → Led → Prop} {R : List Value → Led → Prop} (hs : starEach (e :: rest) C.env = (false, eval e C.env) :: starEach rest C.env) (h1 : Eve C m n e R1) (h2 : ∀ v n1, R1 v n1 → Sq C m n1 rest fun vs n2 => R (v :: vs) n2) : Sq C m n (e :: rest) R :=
  fun _ s _ pos h0 F N q => args_cons (h1 h0 F N fun v n1 g1 t1 l1 r1 F1 N1 => h2 v n1 r1 pos (s := { s with heap := g1, toks := t1 }) l1 F1 N1 fun vs n2 g2 t2 l2 r2 F2 N2 => q _ n2 g2 t2 l2 r2 F2 N2) hs
theorem Sq.consp {e : Expr} {rest : List Expr} {p : PV} {R : List Value → Led → Prop} (hs : starEach (e :: rest) C.env = (false, eval e C.env) :: starEach rest C.env) (h1 : Evp C m n e p) (h2 : ∀ v, Fits p v → Sq C m n rest fun vs n2 => R (v :: vs) n2) : Sq C m n (e :: rest) R :=
  Sq.cons hs h1 fun v n1 e => Sq.sub (h2 v e.1) e.2
theorem Eve.list {es : List Expr} {pos : Pos} {R1 : List Value → Led → Prop} (h1 : Sq C m n es R1) (h2 : ∀ vs n1, R1 vs n1 → vs.length ≤ 1000 ∧ ∀ D, (∀ p ∈ n1, p.1 < D) → R (.ref D) ((D, listOf vs.toArray 0) :: n1)) : Eve C m n (.List es pos) R :=
  fun _ s _ h0 F N q => List_ (h1 pos h0 F N fun vs n1 g1 t1 l1 r1 F1 N1 => by
    obtain ⟨hb, hr⟩ := h2 vs n1 r1
    refine newList_K (s := { s with heap := g1, toks := t1 }) F1 N1 (fun D h' F2 N2 lt => q _ _ h' t1 l1 (hr D lt) F2 N2) (by rw [sizeLine_eq]; (first | lia | omega)))
/- calls -/
end
end Mine
namespace Mine
open PySem PySem.W PySem.Calls PyProof.Rows
section
variable {M : Model} {A : Around} {E : Value → Shared → Prop} {s : Shared} {env : Env}
theorem mcall_ {o : Expr} {args : List Expr} {name : Str} {apos pos : Pos} {Q : Value → Shared → Prop} (hbase : attributeBase o name env (eval o env) = eval o env) (hline : (apos.endLine == pos.line) = true)
    (hform : methodCallForm (args.length + ([] : List Keyword).length) (backTo pos (starEach args env)) (backToKw pos (keywordEach [] env)) = true)
    (h : wpAny M A (eval o env) (fun ov s₁ => ∀ pl, wpAny M A (getMethod ov name pl) (fun fx s₂ => wpAny M A (callWith pos fx.1 fx.2 (backTo pos (starEach args env)) []) Q E s₂) E s₁) E s) :
    wpAny M A (eval (.Call (.Attribute o name apos) args [] pos) env) Q E s := by
  rw [arm_eval_Call, hbase]
  refine wpAny_bind (wpAny_mono h (fun ov s₁ h₁ => wpAny_bind (wpAny_standAt ?_)) fun _ _ x => x)
  unfold methodCall calleeOf methodCallPos
  simp only [hform, hline, if_true, Bool.not_true, Bool.or_true]
  refine wpAny_bind (wpAny_holding (wpAny_mono (h₁ _) (fun fx s₂ h₂ => ?_) fun _ _ x => x))
  exact wpAny_bind (wpAny_pure h₂)
end
section
variable {C : Cx} {m : Mp} {n : Led} {R : Value → Led → Prop}
def Gm (C : Cx) (n : Led) (ov : Value) (name : Str) (id : String) : Prop :=
  ∀ ⦃E : Value → Shared → Prop⦄ ⦃s : Shared⦄ ⦃Q : Value × List Value → Shared → Prop⦄ (pl : Sem Bool), News C.h₀ C.L s.heap n → Q (.builtin id, [ov]) s → wpAny (model pw C.w) C.A (getMethod ov name pl) Q E s
theorem gm_list {D : Addr} {its : Array Value} {k : Nat} {name : Str} {id : String} (hm : (D, listOf its k) ∈ n) (hs : Slot "list" name id) (ht : typeOf (.builtin id) = pure (.type "method_descriptor")) : Gm C n (.ref D) name id :=
  fun _ _ _ _ N h => kl_method N hm hs ht h
theorem Eve.meth0 {o : Expr} {name : Str} {apos pos : Pos} {R1 : Value → Led → Prop} (hbase : attributeBase o name C.env (eval o C.env) = eval o C.env) (hline : (apos.endLine == pos.line) = true) (h1 : Eve C m n o R1)
    (h2 : ∀ ov n1, R1 ov n1 → ∃ id, Gm C n1 ov name id ∧ Cm C m n1 (call (.builtin id) [ov]) R) : Eve C m n (.Call (.Attribute o name apos) [] [] pos) R :=
  fun _ s _ h0 F N q => mcall_ hbase hline rfl (h1 h0 F N fun ov n1 g1 t1 l1 r1 F1 N1 pl => by
    obtain ⟨id, hg, hc⟩ := h2 ov n1 r1
    exact hg (s := { s with heap := g1, toks := t1 }) pl N1 (callWith_method0 (hc (s := { s with heap := g1, toks := t1 }) l1 F1 N1 q)))
theorem Eve.meth1 {o e : Expr} {rest : List Expr} {name : Str} {apos pos : Pos} {R1 : Value → Led → Prop} (hbase : attributeBase o name C.env (eval o C.env) = eval o C.env) (hline : (apos.endLine == pos.line) = true)
    (hform : methodCallForm ((e :: rest).length + ([] : List Keyword).length) (backTo pos (starEach (e :: rest) C.env)) (backToKw pos (keywordEach [] C.env)) = true)
    (he : starEach (e :: rest) C.env = (false, eval e C.env) :: starEach rest C.env) (hplain : (backTo pos (starEach rest C.env)).any (·.1) = false) (h1 : Eve C m n o R1)
    (h2 : ∀ ov n1, R1 ov n1 → ∃ id, Gm C n1 ov name id ∧ Sq C m n1 (e :: rest) fun vs n2 => Cm C m n2 (call (.builtin id) (ov :: vs)) R) : Eve C m n (.Call (.Attribute o name apos) (e :: rest) [] pos) R :=
  fun _ s _ h0 F N q => mcall_ hbase hline hform (h1 h0 F N fun ov n1 g1 t1 l1 r1 F1 N1 pl => by
    obtain ⟨id, hg, hc⟩ := h2 ov n1 r1
    exact hg (s := { s with heap := g1, toks := t1 }) pl N1 (callWith_method1 (hc pos (s := { s with heap := g1, toks := t1 }) l1 F1 N1 fun vs n2 g2 t2 l2 r2 F2 N2 => r2 (s := { s with heap := g2, toks := t2 }) l2 F2 N2 q) he hplain))
theorem Eve.callB {f : Str} {fp pos : Pos} {e : Expr} {rest : List Expr} {id : String} (hf : Eve C m n (.Name f fp) fun v n' => v = .builtin id ∧ n' = n)
    (hcall : eval (.Call (.Name f fp) (e :: rest) [] pos) C.env = (do callWith pos (← eval (.Name f fp) C.env) [] (backTo pos (starEach (e :: rest) C.env)) (backToKw pos (keywordEach [] C.env))))
    (he : starEach (e :: rest) C.env = (false, eval e C.env) :: starEach rest C.env) (hplain : (backTo pos (starEach rest C.env)).any (·.1) = false)
    (h2 : Sq C m n (e :: rest) fun vs n2 => Cm C m n2 (call (.builtin id) vs) R) : Eve C m n (.Call (.Name f fp) (e :: rest) [] pos) R :=
  fun _ s _ h0 F N q => Call_ (hf h0 F N fun fv n1 g1 t1 l1 r1 F1 N1 => by
    obtain ⟨rfl, rfl⟩ := r1
    exact callWith_builtin1 (h2 pos (s := { s with heap := g1, toks := t1 }) l1 F1 N1 fun vs n2 g2 t2 l2 r2 F2 N2 => r2 (s := { s with heap := g2, toks := t2 }) l2 F2 N2 q) he hplain) hcall
theorem Eve.callT {f : Str} {fp pos : Pos} {e : Expr} {rest : List Expr} {id : String} (hf : Eve C m n (.Name f fp) fun v n' => v = .type id ∧ n' = n)
    (hcall : eval (.Call (.Name f fp) (e :: rest) [] pos) C.env = (do callWith pos (← eval (.Name f fp) C.env) [] (backTo pos (starEach (e :: rest) C.env)) (backToKw pos (keywordEach [] C.env))))
    (hw : ∀ ⦃E : Value → Shared → Prop⦄ ⦃s : Shared⦄ ⦃Q : Value → Shared → Prop⦄, wpAny (model pw C.w) C.A (spliced (backTo pos (starEach (e :: rest) C.env))) (fun vs s₁ => wpAny (model pw C.w) C.A (call (.type id) vs) Q E s₁) E s → wpAny (model pw C.w) C.A (callWith pos (.type id) [] (backTo pos (starEach (e :: rest) C.env)) []) Q E s)
    (h2 : Sq C m n (e :: rest) fun vs n2 => Cm C m n2 (call (.type id) vs) R) : Eve C m n (.Call (.Name f fp) (e :: rest) [] pos) R :=
  fun _ s _ h0 F N q => Call_ (hf h0 F N fun fv n1 g1 t1 l1 r1 F1 N1 => by
    obtain ⟨rfl, rfl⟩ := r1
    exact hw (h2 pos (s := { s with heap := g1, toks := t1 }) l1 F1 N1 fun vs n2 g2 t2 l2 r2 F2 N2 => r2 (s := { s with heap := g2, toks := t2 }) l2 F2 N2 q)) hcall
/-- a call of a def of the text -/
theorem Eve.own {nd nu : Nat} (ok : C.Ok nd nu) {f : Str} {fp pos : Pos} {e : Expr} {rest : List Expr} {fa : Addr} (hf : nsIn (K C.w.params) mainGlobals f = some (some (.ref fa))) (hfk : C.env.kindOf f = some .globalImplicit) (hfd : (f == ("__debug__" : Str)) = false) (hkeep : keepIn (K C.w.params) (.ref fa) = true)
    (hcall : eval (.Call (.Name f fp) (e :: rest) [] pos) C.env = (do callWith pos (← eval (.Name f fp) C.env) [] (backTo pos (starEach (e :: rest) C.env)) (backToKw pos (keywordEach [] C.env))))
    (he : starEach (e :: rest) C.env = (false, eval e C.env) :: starEach rest C.env) (hplain : (backTo pos (starEach rest C.env)).any (·.1) = false)
    (h2 : Sq C m n (e :: rest) fun vs n2 => Cm C m n2 (call (.ref fa) vs) R) : Eve C m n (.Call (.Name f fp) (e :: rest) [] pos) R :=
  fun _ s _ h0 F N q => Call_ (Eve.glob (R := fun v n' => v = .ref fa ∧ n' = n) ok hf hfk hfd ⟨rfl, rfl⟩ h0 F N fun fv n1 g1 t1 l1 r1 F1 N1 => by
    obtain ⟨rfl, rfl⟩ := r1
    exact callWith_K (first := []) ok.X hkeep (h2 pos (s := { s with heap := g1, toks := t1 }) l1 F1 N1 fun vs n2 g2 t2 l2 r2 F2 N2 => ⟨ok.X.keeps F2.keep, r2 (s := { s with heap := g2, toks := t2 }) l2 F2 N2 q⟩) he hplain) hcall
theorem Cm.ctr {nd nu nd' nu' : Nat} (ok : C.Ok nd nu) {f : Addr} {pos : List Value} {pre : Led → Prop} {post : Led → Value → Led → Prop} (c : Ctr C.w f nd' nu' pos pre post) (h1 : nd' ≤ nd) (h2 : nu' ≤ nu) (hp : pre n) (hr : ∀ v n', post n v n' → R v n') : Cm C m n (call (.ref f) pos) R :=
  fun _ _ _ _ F N q => ok.call (c.mono h1 h2) F N hp fun v tk h' n' F' N' r => q v n' h' tk (by rw [ok.lo]; exact Nat.zero_le _) (hr v n' r) F' N'
/- tests -/
theorem Tst.plain {e : Expr} {R1 : Value → Led → Prop} {RT : Bool → Led → Prop} (hp : ∀ whole : Sem Value, isTrue e C.env whole = (do let v ← whole; standAt e.pos; holding [v] (truthy v))) (hn : ∀ o xs p, e ≠ .BoolOp o xs p) (h : Eve C m n e R1)
    (h2 : ∀ v n1, R1 v n1 → ∀ ⦃E : Value → Shared → Prop⦄ ⦃s : Shared⦄ ⦃Q : Bool → Shared → Prop⦄, C.lo ≤ s.toks → Fr C.h₀ C.L s.heap m → News C.h₀ C.L s.heap n1 → (∀ b tk, C.lo ≤ tk → RT b n1 → Q b { s with toks := tk }) → wpAny (model pw C.w) C.A (truthy v) Q E s) : Tst C m n e RT := by
  rintro E s Q whole (rfl | ⟨_, _, _, he⟩) h0 F N q
  · exact isTrue_plain (h h0 F N fun v n1 g1 t1 l1 r1 F1 N1 => h2 v n1 r1 (s := { s with heap := g1, toks := t1 }) l1 F1 N1 fun b tk l r => q b n1 g1 tk l r F1 N1) (hp _)
  · exact absurd he (hn _ _ _)
theorem Tst.bool {e : Expr} {RT : Bool → Led → Prop} (hp : ∀ whole : Sem Value, isTrue e C.env whole = (do let v ← whole; standAt e.pos; holding [v] (truthy v))) (hn : ∀ o xs p, e ≠ .BoolOp o xs p) (h : Eve C m n e fun v n1 => ∃ b, v = .bool b ∧ RT b n1) : Tst C m n e RT :=
  Tst.plain hp hn h fun v n1 r {_ s _} h0 F N q => by obtain ⟨b, rfl, r⟩ := r; exact wpAny_truthy_bool (q b s.toks h0 r)
theorem Tst.not {x : Expr} {pos : Pos} {RT RT' : Bool → Led → Prop} (h : Tst C m n x RT) (h2 : ∀ b n1, RT b n1 → RT' (!b) n1) : Tst C m n (.UnaryOp .Not x pos) RT' := by
  intro E s Q whole _ h0 F N q
  show wpAny _ _ (do return !(← isTrue x _ (eval x _))) _ _ _
  exact wpAny_bind (h (.inl rfl) h0 F N fun b n1 g1 t1 l1 r1 F1 N1 => wpAny_pure (q _ n1 g1 t1 l1 (h2 b n1 r1) F1 N1))
theorem Tst.cmpG {l r : Expr} {op : CmpOp} {pos : Pos} {R1 : Value → Led → Prop} {RT : Bool → Led → Prop} (hm : behindInMarks op r = false) (h1 : Eve C m n l R1) (h2 : ∀ a n1, R1 a n1 → Eve C m n1 r fun b n2 => Cm C m n2 (compareOp op a b) fun v n3 => ∃ c, v = .bool c ∧ RT c n3) : Tst C m n (.Compare l [op] [r] pos) RT := by
  intro E s Q whole _ h0 F N q
  exact wpAny_isTrue_Compare1 (h1 h0 F N fun a n1 g1 t1 l1 r1 F1 N1 => h2 a n1 r1 (s := { s with heap := g1, toks := t1 }) l1 F1 N1 fun b n2 g2 t2 l2 r2 F2 N2 => r2 (s := { s with heap := g2, toks := t2 }) l2 F2 N2 fun v n3 g3 t3 l3 r3 F3 N3 => by
    obtain ⟨c, rfl, r3⟩ := r3
    exact wpAny_truthy_bool (q c n3 g3 t3 l3 r3 F3 N3)) hm
theorem Tsp.cmp {l r : Expr} {op : CmpOp} {pos : Pos} {p1 p2 : PV} {b : Bool} (hm : behindInMarks op r = false) (h1 : Evp C m n l p1) (h2 : Evp C m n r p2) (hc : Cmp op p1 p2 b) : Tsp C m n (.Compare l [op] [r] pos) b :=
  Tst.cmpG hm h1 fun a n1 e1 => Cm.mono (Cm.sub h2 e1.2) fun c n2 e2 {_ s _} h0 F N q => cmp_ok hc e1.1 e2.1 (q _ n2 s.heap s.toks h0 ⟨b, rfl, rfl, e2.2⟩ F N)
theorem Tst.and {x : Expr} {rest : List Expr} {pos : Pos} {R1 RT : Bool → Led → Prop} (h1 : Tst C m n x R1) (h2 : ∀ b n1, R1 b n1 → (b = false → RT false n1) ∧ (b = true → Tst C m n1 (.BoolOp .And rest pos) RT)) : Tst C m n (.BoolOp .And (x :: rest) pos) RT := by
  intro E s Q whole _ h0 F N q
  refine isTrue_and (h1 (.inl rfl) h0 F N fun b n1 g1 t1 l1 r1 F1 N1 => ?_)
  cases b
  · exact q false n1 g1 t1 l1 ((h2 _ _ r1).1 rfl) F1 N1
  · exact (h2 _ _ r1).2 rfl (s := { s with heap := g1, toks := t1 }) (.inr ⟨_, _, _, rfl⟩) l1 F1 N1 q
theorem Tst.or {x : Expr} {rest : List Expr} {pos : Pos} {R1 RT : Bool → Led → Prop} (h1 : Tst C m n x R1) (h2 : ∀ b n1, R1 b n1 → (b = true → RT true n1) ∧ (b = false → Tst C m n1 (.BoolOp .Or rest pos) RT)) : Tst C m n (.BoolOp .Or (x :: rest) pos) RT := by
  intro E s Q whole _ h0 F N q
  refine isTrue_or (h1 (.inl rfl) h0 F N fun b n1 g1 t1 l1 r1 F1 N1 => ?_)
  cases b
  · exact (h2 _ _ r1).2 rfl (s := { s with heap := g1, toks := t1 }) (.inr ⟨_, _, _, rfl⟩) l1 F1 N1 q
  · exact q true n1 g1 t1 l1 ((h2 _ _ r1).1 rfl) F1 N1
theorem Tst.andNil {pos : Pos} {RT : Bool → Led → Prop} (h : RT true n) : Tst C m n (.BoolOp .And [] pos) RT := fun _ s _ _ _ h0 F N q => isTrue_and_nil (q true n s.heap s.toks h0 h F N)
theorem Tst.orNil {pos : Pos} {RT : Bool → Led → Prop} (h : RT false n) : Tst C m n (.BoolOp .Or [] pos) RT := fun _ s _ _ _ h0 F N q => isTrue_or_nil (q false n s.heap s.toks h0 h F N)
theorem Tsp.and2 {x y : Expr} {pos : Pos} {b c : Bool} (h1 : Tsp C m n x b) (h2 : b = true → Tsp C m n y c) : Tsp C m n (.BoolOp .And [x, y] pos) (b && c) := by
  refine Tst.and h1 fun b' n1 e => ?_
  obtain ⟨rfl, e⟩ := e
  refine ⟨fun h => ⟨by rw [h]; rfl, e⟩, fun h => Tst.and (Tst.sub (h2 h) e) fun c' n2 e' => ?_⟩
  obtain ⟨rfl, e'⟩ := e'
  exact ⟨fun h' => ⟨by rw [h', Bool.and_false], e'⟩, fun h' => Tst.andNil ⟨by rw [h, h']; rfl, e'⟩⟩
theorem Tsp.or2 {x y : Expr} {pos : Pos} {b c : Bool} (h1 : Tsp C m n x b) (h2 : b = false → Tsp C m n y c) : Tsp C m n (.BoolOp .Or [x, y] pos) (b || c) := by
  refine Tst.or h1 fun b' n1 e => ?_
  obtain ⟨rfl, e⟩ := e
  refine ⟨fun h => ⟨by rw [h]; rfl, e⟩, fun h => Tst.or (Tst.sub (h2 h) e) fun c' n2 e' => ?_⟩
  obtain ⟨rfl, e'⟩ := e'
  exact ⟨fun h' => ⟨by rw [h', Bool.or_true], e'⟩, fun h' => Tst.orNil ⟨by rw [h, h']; rfl, e'⟩⟩
theorem Tst.mono {e : Expr} {RT RT' : Bool → Led → Prop} (h : Tst C m n e RT) (hr : ∀ b n', RT b n' → RT' b n') : Tst C m n e RT' :=
  fun _ _ _ _ hw hl F N q => h hw hl F N fun v n' h' tk l r F' N' => q v n' h' tk l (hr v n' r) F' N'
end
section
variable {C : Cx} {m : Mp} {n : Led} {P : Flow → Mp → Led → Prop} {rest : List Stmt} {ks : List (List Stmt)}
theorem Sts.nil (h : P .next m n) : Sts C P m n [] [] := fun _ s _ _ _ F N q => wpAny_pure (a := Flow.next) (q _ _ _ s.heap s.toks h F N)
theorem Sts.pop {r : List Stmt} (h : Sts C P m n r ks) : Sts C P m n [] (r :: ks) := fun _ _ _ hE h0 F N q => wpAny_pure (a := Flow.next) (h hE h0 F N q)
/-- a statement that goes on to the next one -/
theorem Sts.step {st : Stmt} {R : Mp → Led → Prop} (h1 : ∀ ⦃E : Value → Shared → Prop⦄ ⦃s : Shared⦄ ⦃Q : Flow → Shared → Prop⦄, PassesOwn (model pw C.w) C.A C.env E → C.lo ≤ s.toks → Fr C.h₀ C.L s.heap m → News C.h₀ C.L s.heap n →
      (∀ m' n' h' tk, C.lo ≤ tk → R m' n' → Fr C.h₀ C.L h' m' → News C.h₀ C.L h' n' → Q .next { s with heap := h', toks := tk }) → wpAny (model pw C.w) C.A (exec st C.env) Q E s)
    (h2 : ∀ m' n', R m' n' → Sts C P m' n' rest ks) : Sts C P m n (st :: rest) ks :=
  fun _ s _ hE h0 F N q => wpAny_execs_cons (h1 hE h0 F N fun m' n' h' tk l r F' N' => h2 m' n' r hE (s := { s with heap := h', toks := tk }) l F' N' q)
theorem Sts.asg {x : Str} {px pos : Pos} {e : Expr} {R : Value → Led → Prop} (hk : C.cs.kind = .function) (hl : C.env.kindOf x = some .local) (hsw : swapsWith e (some (.Name x px)) pos.line C.env = pure false) (h1 : Eve C m n e R)
    (h2 : ∀ v n', R v n' → Sts C P (fun y => if y = x then some v else m y) n' rest ks) : Sts C P m n (.Assign [.Name x px] e pos :: rest) ks :=
  Sts.step (R := fun m' n' => ∃ v, R v n' ∧ m' = fun y => if y = x then some v else m y) (fun _ s _ _ h0 F N q => wpAny_Assign_Name (h1 h0 F N fun v n1 g1 t1 l1 r1 F1 N1 => stN (s := { s with heap := g1, toks := t1 }) F1 N1 (fun h2 F2 N2 => q _ n1 h2 _ (Nat.le_succ_of_le l1) ⟨v, r1, rfl⟩ F2 N2) hk hl) hsw)
    fun m' n' ⟨v, r, e⟩ => e ▸ h2 v n' r
theorem Sts.asgp {x : Str} {px pos : Pos} {e : Expr} {p : PV} (hk : C.cs.kind = .function) (hl : C.env.kindOf x = some .local) (hsw : swapsWith e (some (.Name x px)) pos.line C.env = pure false) (h1 : Evp C m n e p)
    (h2 : ∀ v, Fits p v → Sts C P (fun y => if y = x then some v else m y) n rest ks) : Sts C P m n (.Assign [.Name x px] e pos :: rest) ks :=
  Sts.asg hk hl hsw h1 fun v n' e => Sts.sub (h2 v e.1) e.2
theorem Sts.ret {e : Expr} {pos : Pos} {R : Value → Led → Prop} (h1 : Eve C m n e R) (h2 : ∀ v n', R v n' → P (.ret v) m n') : Sts C P m n (.Return (some e) pos :: rest) ks :=
  fun _ _ _ _ h0 F N q => wpAny_execs_cons (wpAny_Return_some (h1 h0 F N fun v n1 g1 t1 _ r1 F1 N1 => contQ_out (fun e => by cases e) (q _ m n1 g1 t1 (h2 v n1 r1) F1 N1) ks))
theorem Sts.ite {t : Expr} {b e : List Stmt} {pos : Pos} {RT : Bool → Led → Prop} (ht : Tst C m n t RT) (h : ∀ c n1, RT c n1 → (c = true → Sts C P m n1 b (rest :: ks)) ∧ (c = false → Sts C P m n1 e (rest :: ks))) : Sts C P m n (.If t b e pos :: rest) ks :=
  fun _ s _ hE h0 F N q => wpAny_execs_cons (wpAny_If (ht (.inl rfl) h0 F N fun c n1 g1 t1 l1 r1 F1 N1 => by
    cases c
    · exact (h _ _ r1).2 rfl hE (s := { s with heap := g1, toks := t1 }) l1 F1 N1 q
    · exact (h _ _ r1).1 rfl hE (s := { s with heap := g1, toks := t1 }) l1 F1 N1 q))
theorem Sts.ifp {t : Expr} {b e : List Stmt} {pos : Pos} {c : Bool} (ht : Tsp C m n t c) (h1 : c = true → Sts C P m n b (rest :: ks)) (h2 : c = false → Sts C P m n e (rest :: ks)) : Sts C P m n (.If t b e pos :: rest) ks :=
  Sts.ite ht fun c' n1 e => ⟨fun h => Sts.sub (h1 (e.1 ▸ h)) e.2, fun h => Sts.sub (h2 (e.1 ▸ h)) e.2⟩
/-- a statement that is a call for its effect -/
theorem Sts.expr {e : Expr} {pos : Pos} {R : Led → Prop} (hi : interactive C.env = false) (hsw : swapsWith e none pos.line C.env = pure false) (h1 : Eve C m n e fun v n' => (∀ a, v ≠ .ref a) ∧ R n') (h2 : ∀ n', R n' → Sts C P m n' rest ks) : Sts C P m n (.Expr e pos :: rest) ks :=
  Sts.step (R := fun m' n' => m' = m ∧ R n') (fun _ s _ _ h0 F N q => wpAny_Expr (h1 h0 F N fun v n1 g1 t1 l1 r1 F1 N1 => by
    have hq := q m n1 g1 t1 l1 ⟨rfl, r1.2⟩ F1 N1
    cases v <;> first | exact hq | exact absurd rfl (r1.1 _)) hi hsw)
    fun m' n' ⟨e, r⟩ => e ▸ h2 n' r
/- loops -/
def ForAt (C : Cx) (P : Flow → Mp → Led → Prop) (x : Str) (body rest : List Stmt) (ks : List (List Stmt)) (v : Value) (m : Mp) (n : Led) : Prop :=
  ∀ ⦃E : Value → Shared → Prop⦄ ⦃s : Shared⦄ ⦃Q : Flow → Shared → Prop⦄, PassesOwn (model pw C.w) C.A C.env E → Fr C.h₀ C.L s.heap m → News C.h₀ C.L s.heap n →
    (∀ f m' n' h' tk, P f m' n' → Fr C.h₀ C.L h' m' → News C.h₀ C.L h' n' → Q f { s with heap := h', toks := tk }) →
    wpAny (model pw C.w) C.A (pyIter v) (fun it s₂ => LoopAtV pw C.w C.A C.h₀ C.env x body (fun f s' => match f with | .next => wpAny (model pw C.w) C.A (execs rest C.env) (contQ (model pw C.w) C.A C.env E Q ks) E s' | f => contQ (model pw C.w) C.A C.env E Q ks f s') E it s₂) E s
theorem Sts.for {x : Str} {px pos : Pos} {iter : Expr} {body : List Stmt} {R : Value → Led → Prop} (hl : C.env.kindOf x = some .local) (hp : (C.env.scope.kind == .class || (C.env.scope.kind == .module && C.env.locals != C.env.globals)) = false) (hs : ∀ x, foldedSetIterable iter C.env x = pure x)
    (h1 : Eve C m n iter R) (h2 : ∀ v n', R v n' → ForAt C P x body rest ks v m n') : Sts C P m n (.For (.Name x px) iter body [] pos :: rest) ks :=
  fun _ s _ hE h0 F N q => wpAny_execs_cons (wpAny_mono (For_invVF F hl hp (h1 h0 F N fun v n1 g1 t1 l1 r1 F1 N1 => h2 v n1 r1 hE (s := { s with heap := g1, toks := t1 }) F1 N1 q) hs hE) (fun f s' h => by cases f <;> exact h) fun _ _ x => x)
def TP (P : Flow → Mp → Led → Prop) (J : Mp → Led → Prop) (I : Addr) (own : Led) (f : Flow) (m' : Mp) (n' : Led) : Prop :=
  match f with
  | .ret v => P (.ret v) m' n'
  | .brk => False
  | _ => ∃ nx, J m' nx ∧ (∀ p ∈ nx, p.1 ≠ I) ∧ ∀ p ∈ nx ++ own, p ∈ n'
end
end Mine
namespace Mine
open PySem PySem.W PySem.Calls PyProof.Rows
noncomputable def rangeO (a b : Int) (t u v : Tok) : Obj := { cls := .type "range", data := .fields #[.int a t, .int b u, .int 1 v] }
section
variable {prog : Program} {w : World} {A : Around} {E : Value → Shared → Prop} {s : Shared} {env : Env} {h₀ : Heap} {x : Str} {body : List Stmt} {Q : Flow → Shared → Prop}
/-- a for over anything that walks with one own object, the iterator -/
theorem for_one_own {n : Nat} {Pi : Nat → Value → Prop} {St : Nat → Heap → Prop} {o : Obj} {m₀ : Mp} {news : Led} (J : Nat → Mp → Led → Prop)
    (W : Walks prog w A s.heap.objs.size [s.heap.objs.size] [s.heap.objs.size] n Pi St) (hst : St 0 (s.heap.push o)) (hSt : ∀ i h, St i h → ∃ o, h.get? s.heap.objs.size = some o) (F : Fr h₀ env.locals s.heap m₀) (N : News h₀ env.locals s.heap news) (hj : J 0 m₀ news)
    (turn : ∀ i v m₁ news₁ own I h tk, i < n → Pi i v → J i m₁ news₁ → (∀ p ∈ own, p.1 = I) → (∀ p ∈ news₁, p.1 ≠ I) → (∃ o, (I, o) ∈ own) →
      Fr h₀ env.locals h (fun y => if y = x then some v else m₁ y) → News h₀ env.locals h (news₁ ++ own) →
      wpAny (model prog w) A (execs body env) (TurnP h₀ env.locals (fun m' nx => J (i + 1) m' nx ∧ ∀ p ∈ nx, p.1 ≠ I) own { s with heap := h, toks := tk } Q) E { s with heap := h, toks := tk })
    (done : ∀ m₁ news₁ h tk, J n m₁ news₁ → Fr h₀ env.locals h m₁ → News h₀ env.locals h news₁ → Q .next { s with heap := h, toks := tk }) :
    LoopAtV prog w A h₀ env x body Q E (.ref s.heap.objs.size) { s with heap := s.heap.push o } := by
  refine ⟨_, _, _, n, _, _, m₀, news, J, rfl, W, ?_, ?_, ?_, hst, F.push _, (fun p hp => ⟨Heap.get?_push_of_some _ (N p hp).1, (N p hp).2⟩), hj, ?_, ?_⟩
  · intro hm
    exact absurd F.ns.lt ((List.mem_singleton.mp hm) ▸ Nat.lt_irrefl _)
  · intro b hb
    rw [List.mem_singleton.mp hb]
    exact next_is_new F
  · intro p hp hI
    exact absurd (Heap.lt_size (N p hp).1) ((List.mem_singleton.mp hI) ▸ Nat.lt_irrefl _)
  · rintro i v m₁ news₁ s₁ own ⟨hh', tk', rfl⟩ hin hP hJ hoff hown hget hfull hst F₁ N₁
    have N₂ : News h₀ env.locals hh' (news₁ ++ own) := fun p hp => N₁ p ((List.mem_append.mp hp).elim (fun h => List.mem_append.mpr (.inr h)) fun h => List.mem_append.mpr (.inl h))
    refine wpAny_mono (turn i v m₁ news₁ own s.heap.objs.size hh' tk' hin hP hJ (fun p hp => List.mem_singleton.mp (hown p hp)) (fun p hp e => hoff p hp (e ▸ .head _)) (by obtain ⟨o, ho⟩ := hSt _ _ hst; exact ⟨o, hfull _ (.head _) (next_is_new F) o ho⟩) F₁ N₂) (fun f s₂ p => ?_) fun _ _ e => e
    have fin : TurnE h₀ env.locals (fun m' nx => J (i + 1) m' nx ∧ ∀ p ∈ nx, p.1 ≠ s.heap.objs.size) own { s with heap := hh', toks := tk' } s₂ → LoopStepU h₀ env.locals [s.heap.objs.size] own (J (i + 1)) { s with heap := hh', toks := tk' } .next s₂ := by
      rintro ⟨h', tk, m', news', nx, e, F', N', hn, hm, hoff'⟩
      exact ⟨rfl, h', tk, m', nx, e, F', fun p hp => N' p (hn p (List.mem_append.mpr ((List.mem_append.mp hp).symm))), fun p hp hq => hoff' p hp (List.mem_singleton.mp hq), hm⟩
    cases f with
    | ret v => exact .ret p
    | brk => exact .brk p
    | next => exact .next (fin p)
    | cont => exact .cont (fin p)
  · rintro h' tk m' news' F' N' _ hJ
    exact done m' news' h' tk hJ F' N'
end
section
variable {C : Cx} {m : Mp} {n : Led} {P : Flow → Mp → Led → Prop} {x : Str} {body rest : List Stmt} {ks : List (List Stmt)}
theorem tp_turn {J : Mp → Led → Prop} {I : Addr} {own : Led} {E : Value → Shared → Prop} {s s₁ : Shared} {Q : Flow → Shared → Prop} {h : Heap} {tk : Tok}
    (q : ∀ f m' n' h' tk, P f m' n' → Fr C.h₀ C.L h' m' → News C.h₀ C.L h' n' → Q f { s with heap := h', toks := tk }) (e : s₁ = { s with heap := h, toks := tk })
    {f : Flow} {m' : Mp} {n' : Led} {h' : Heap} {tk' : Tok} (hp : TP P J I own f m' n') (F' : Fr C.h₀ C.L h' m') (N' : News C.h₀ C.L h' n') :
    TurnP C.h₀ C.L (fun m' nx => J m' nx ∧ ∀ p ∈ nx, p.1 ≠ I) own s₁ (fun f s' => match f with | .next => wpAny (model pw C.w) C.A (execs rest C.env) (contQ (model pw C.w) C.A C.env E Q ks) E s' | f => contQ (model pw C.w) C.A C.env E Q ks f s') f { s₁ with heap := h', toks := tk' } := by
  subst e
  cases f with
  | ret v => exact contQ_out (fun e => by cases e) (q _ m' n' h' tk' hp F' N') ks
  | brk => exact hp.elim
  | next => obtain ⟨nx, hj, ho, hn⟩ := hp; exact ⟨h', tk', m', n', nx, rfl, F', N', hn, hj, ho⟩
  | cont => obtain ⟨nx, hj, ho, hn⟩ := hp; exact ⟨h', tk', m', n', nx, rfl, F', N', hn, hj, ho⟩
theorem ForAt.sub {v : Value} {n₂ : Led} (h : ForAt C P x body rest ks v m n₂) (hs : Kp n₂ n) : ForAt C P x body rest ks v m n := fun _ _ _ hE F N q => h hE F (news_sub N hs) q
theorem ForAt.list {l : Addr} {vs : List Value} {k : Nat} (hh : C.A.handled = none) (hlo : C.lo = 0) (hm : (l, listOf vs.toArray k) ∈ n) (J : Nat → Mp → Led → Prop) (hJ : J 0 m n)
    (turn : ∀ i v m1 n1 own I, vs[i]? = some v → J i m1 n1 → (∀ p ∈ own, p.1 = I ∨ p.1 = l) → (∀ p ∈ n1, p.1 ≠ I) → (∃ o, (I, o) ∈ own) → Sts C (TP P (J (i + 1)) I own) (fun y => if y = x then some v else m1 y) (n1 ++ own) body [])
    (done : ∀ m1 n1, J vs.length m1 n1 → Sts C P m1 n1 rest ks) : ForAt C P x body rest ks (.ref l) m n := by
  intro E s Q hE F N q
  refine for_vals J hh (News.isList N hm) (N _ hm).2.1 F N hJ ?_ ?_
  · intro i v m1 n1 own I h tk hv hJ ho hI hIo _ F1 N1
    exact turn i v m1 n1 own I hv hJ ho hI (let ⟨o, _, e⟩ := hIo; ⟨o, e⟩) hE (s := { s with heap := h, toks := tk }) (by rw [hlo]; exact Nat.zero_le _) F1 N1 fun f m' n' h' tk' hp F' N' => tp_turn (s := s) q rfl hp F' N'
  · intro m1 n1 h tk hJ F1 N1
    exact done m1 n1 hJ hE (s := { s with heap := h, toks := tk }) (by rw [hlo]; exact Nat.zero_le _) F1 N1 q
theorem ForAt.str {y : Str} {t : Tok} (hh : C.A.handled = none) (hlo : C.lo = 0) (J : Nat → Mp → Led → Prop) (hJ : J 0 m n)
    (turn : ∀ i c t m1 n1 own I, y.cps[i]? = some c → J i m1 n1 → (∀ p ∈ own, p.1 = I) → (∀ p ∈ n1, p.1 ≠ I) → (∃ o, (I, o) ∈ own) → Sts C (TP P (J (i + 1)) I own) (fun z => if z = x then some (.str ⟨#[c]⟩ t) else m1 z) (n1 ++ own) body [])
    (done : ∀ m1 n1, J y.cps.size m1 n1 → Sts C P m1 n1 rest ks) : ForAt C P x body rest ks (.str y t) m n := by
  intro E s Q hE F N q
  have key : ∀ (o : Obj) (St : Nat → Heap → Prop), Walks pw C.w C.A s.heap.objs.size [s.heap.objs.size] [s.heap.objs.size] y.cps.size (SignAt y) St → St 0 (s.heap.push o) → (∀ i h, St i h → ∃ o, h.get? s.heap.objs.size = some o) →
      LoopAtV pw C.w C.A C.h₀ C.env x body (fun f s' => match f with | .next => wpAny (model pw C.w) C.A (execs rest C.env) (contQ (model pw C.w) C.A C.env E Q ks) E s' | f => contQ (model pw C.w) C.A C.env E Q ks f s') E (.ref s.heap.objs.size) { s with heap := s.heap.push o } := by
    intro o St W hst hSt
    refine for_one_own J W hst hSt F N hJ ?_ ?_
    · rintro i v m1 n1 own I h tk hin ⟨c, u, hc, rfl⟩ hJ ho hI hIo F1 N1
      exact turn i c u m1 n1 own I hc hJ ho hI hIo hE (s := { s with heap := h, toks := tk }) (by rw [hlo]; exact Nat.zero_le _) F1 N1 fun f m' n' h' tk' hp F' N' => tp_turn (s := s) q rfl hp F' N'
    · intro m1 n1 h tk hJ F1 N1
      exact done m1 n1 hJ hE (s := { s with heap := h, toks := tk }) (by rw [hlo]; exact Nat.zero_le _) F1 N1 q
  cases ha : y.cps.all (· < 128)
  · exact wpAny_pyIter_wide ha (key _ _ (Walks.strWide hh _ y t) ⟨_, Heap.get?_push_size _ rfl, rfl, rfl⟩ fun i h st => let ⟨o, ho, _⟩ := st; ⟨o, ho⟩)
  · exact wpAny_pyIter_ascii ha (key _ _ (Walks.strAscii hh _ y t) ⟨_, Heap.get?_push_size _ rfl, rfl, rfl⟩ fun i h st => let ⟨o, ho, _⟩ := st; ⟨o, ho⟩)
theorem ForAt.range {r : Addr} {b : Int} {t u v : Tok} {k : Nat} (hh : C.A.handled = none) (hlo : C.lo = 0) (hm : (r, rangeO 1 b t u v) ∈ n) (hb : b = (k : Int) + 1) (hk : k ≤ 1000) (J : Nat → Mp → Led → Prop) (hJ : J 0 m n)
    (turn : ∀ i t m1 n1 own I, i < k → J i m1 n1 → (∀ p ∈ own, p.1 = I) → (∀ p ∈ n1, p.1 ≠ I) → (∃ o, (I, o) ∈ own) → Sts C (TP P (J (i + 1)) I own) (fun z => if z = x then some (.int (1 + (i : Int)) t) else m1 z) (n1 ++ own) body [])
    (done : ∀ m1 n1, J k m1 n1 → Sts C P m1 n1 rest ks) : ForAt C P x body rest ks (.ref r) m n := by
  intro E s Q hE F N q
  have hsz : Builtin.Range.rangeSize 1 b 1 = (k : Int) := by rw [rangeSize_one]; split <;> (first | lia | omega)
  refine wpAny_pyIter_range (N _ hm).1 (small_one (by decide) (by decide) (by (first | lia | omega)) (by (first | lia | omega))) ?_
  rw [hsz]
  have W : Walks pw C.w C.A s.heap.objs.size [s.heap.objs.size] [s.heap.objs.size] k (fun i v => ∃ t, v = .int (1 + (i : Int)) t) (fun i h => IsRangeIter h s.heap.objs.size (1 + (i : Nat) * 1) ((k : Int) - (i : Nat)) 1) := LCg.range_walks hh 1 k
  refine for_one_own J W ?_ (fun i h st => ⟨_, st⟩) F N hJ ?_ ?_
  · have e1 : (1 : Int) + ((0 : Nat) : Int) * 1 = 1 := rfl
    have e2 : (k : Int) - ((0 : Nat) : Int) = (k : Int) := by (first | lia | omega)
    show IsRangeIter _ _ _ _ _
    rw [e1, e2]
    exact Heap.get?_push_size _ rfl
  · rintro i v m1 n1 own I h tk hin ⟨u, rfl⟩ hJ ho hI hIo F1 N1
    exact turn i u m1 n1 own I hin hJ ho hI hIo hE (s := { s with heap := h, toks := tk }) (by rw [hlo]; exact Nat.zero_le _) F1 N1 fun f m' n' h' tk' hp F' N' => tp_turn (s := s) q rfl hp F' N'
  · intro m1 n1 h tk hJ F1 N1
    exact done m1 n1 hJ hE (s := { s with heap := h, toks := tk }) (by rw [hlo]; exact Nat.zero_le _) F1 N1 q
end
section
variable {C : Cx} {m : Mp} {n : Led} {R : Value → Led → Prop}
/- lists -/
theorem upd_hd {D : Addr} {o o' : Obj} {r : Led} (h : ∀ p ∈ r, p.1 ≠ D) : Upd D o o' ((D, o) :: r) ((D, o') :: r) := .head h
theorem Cm.append {D : Addr} {vs : List Value} {k : Nat} {x : Value} {n' : Led} (U : Upd D (listOf vs.toArray k) (listOf (vs ++ [x]).toArray (k + 1)) n n') (hb : vs.length ≤ 1000000) (r : R .none n') : Cm C m n (call (.builtin "list.append") [.ref D, x]) R :=
  fun _ s _ h0 F N q => by
    have e : (vs ++ [x]).toArray = vs.toArray.push x := by simp
    rw [e] at U
    exact append_K F N U (fun h' F' N' => q _ n' h' s.toks h0 r F' N') (by rw [List.size_toArray, sizeLine_eq]; (first | lia | omega))
theorem Cm.pop {D : Addr} {vs : List Value} {k : Nat} {x : Value} {n' : Led} (U : Upd D (listOf (vs ++ [x]).toArray k) (listOf vs.toArray (k + 1)) n n') (hb : vs.length ≤ 1000000) (r : R x n') : Cm C m n (call (.builtin "list.pop") [.ref D]) R :=
  fun _ s _ h0 F N q => by
    have e : kl_last (vs ++ [x]).toArray.toList = some (vs, x) := by
      rw [List.toList_toArray]
      clear U r
      induction vs with
      | nil => rfl
      | cons a l ih =>
        have ih' := ih (by rw [List.length_cons] at hb; (first | lia | omega))
        cases hl : l ++ [x] with
        | nil => exact absurd hl (by simp)
        | cons b t =>
          rw [List.cons_append, hl]
          unfold kl_last
          rw [← hl, ih']
    exact kl_pop F N e U (by rw [List.toList_toArray, List.length_append, sizeLine_eq]; show vs.length + 1 ≤ _; (first | lia | omega)) fun h' F' N' => q _ n' h' s.toks h0 r F' N'
theorem Cm.lenL {D : Addr} {vs : List Value} {k : Nat} (hm : (D, listOf vs.toArray k) ∈ n) (hb : vs.length ≤ 1000000) (r : ∀ t, R (.int vs.length t) n) : Cm C m n (call (.builtin "len") [.ref D]) R :=
  fun _ s _ h0 F N q => call_len_list (News.isList N hm) (by rw [List.size_toArray]; (first | lia | omega)) (q _ n s.heap _ (by show C.lo ≤ s.toks + 1 + 1; (first | lia | omega)) (by rw [List.size_toArray]; exact r _) F N)
theorem Cm.lenS {y : Str} {t : Tok} (hb : y.length ≤ 1000000) (r : ∀ t, R (.int y.length t) n) : Cm C m n (call (.builtin "len") [.str y t]) R :=
  fun _ s _ h0 F N q => SBL.len (by (first | lia | omega)) (q _ n s.heap _ (by show C.lo ≤ s.toks + 1 + 1; (first | lia | omega)) (r _) F N)
theorem Cm.absI {i : Int} {t : Tok} (hlo : C.lo = 0) (r : ∀ t, R (.int (if i < 0 then -i else i) t) n) : Cm C m n (call (.builtin "abs") [.int i t]) R :=
  fun _ s _ _ F N q => call_abs_int fun u tk => q _ n s.heap tk (by (first | lia | omega)) (r u) F N
theorem Cm.range {b : Int} {t u : Tok} (r : ∀ D v, (∀ p ∈ n, p.1 < D) → R (.ref D) ((D, rangeO 1 b t u v) :: n)) : Cm C m n (call (.type "range") [.int 1 t, .int b u]) R :=
  fun _ s _ h0 F N q => call_range_2 (q _ _ _ _ (by show C.lo ≤ s.toks + 1; (first | lia | omega)) (r s.heap.objs.size s.toks fun p hp => Heap.lt_size (N p hp).1) (F.push _) (N.push F _))
/-- an item of a list by its place -/
theorem Cm.item {value slice : Expr} {D : Addr} {vs : List Value} {k : Nat} {i : Int} {t : Tok} {x : Value} (hm : (D, listOf vs.toArray k) ∈ n) (hb : vs.length ≤ 1000000) (h0 : 0 ≤ i) (hx : vs[i.toNat]? = some x) (hs : ∀ (k : Int) (u : Tok), subscripted slice false (.ref D) (.int k u) = operate [.ref D, .int k u] (getItem (.ref D) (.int k u))) (r : R x n) :
    Cm C m n (subscriptTail value slice (.ref D) (.int i t)) R :=
  fun _ s _ hl F N q => tail_any (News.isList N hm).typeIs slot_list_getitem.lookup (wpAny_getItem_list (News.isList N hm) h0 (by
    have : i.toNat < vs.length := (List.getElem?_eq_some_iff.mp hx).1
    (first | lia | omega)) (by rw [List.getElem?_toArray]; exact hx) (q x n s.heap s.toks hl r F N)) (hs i t)
theorem Cm.itemLast {value slice : Expr} {D : Addr} {vs : List Value} {k : Nat} {t : Tok} {x : Value} (hm : (D, listOf (vs ++ [x]).toArray k) ∈ n) (hb : vs.length ≤ 1000000) (hs : ∀ (k : Int) (u : Tok), subscripted slice false (.ref D) (.int k u) = operate [.ref D, .int k u] (getItem (.ref D) (.int k u))) (r : R x n) :
    Cm C m n (subscriptTail value slice (.ref D) (.int (-1) t)) R :=
  fun _ s _ hl F N q => tail_any (News.isList N hm).typeIs slot_list_getitem.lookup (wpAny_getItem_list_neg (News.isList N hm) (by decide) (by rw [List.size_toArray, List.length_append]; show -((vs.length + 1 : Nat) : Int) ≤ _; (first | lia | omega)) (by decide) (x := x) (by
    rw [List.size_toArray, List.length_append, List.getElem?_toArray]
    have : (-1 + ((vs.length + [x].length : Nat) : Int)).toNat = vs.length := by show (-1 + ((vs.length + 1 : Nat) : Int)).toNat = _; (first | lia | omega)
    rw [this, List.getElem?_append_right (Nat.le_refl _), Nat.sub_self]
    rfl) (q x n s.heap s.toks hl r F N)) (hs _ t)
theorem Eve.sub {value slice : Expr} {pos : Pos} {R1 : Value → Led → Prop} {R2 : Value → Value → Led → Prop} (h1 : Eve C m n value R1) (h2 : ∀ a n1, R1 a n1 → Eve C m n1 slice (R2 a)) (h3 : ∀ a n1 b n2, R1 a n1 → R2 a b n2 → Cm C m n2 (subscriptTail value slice a b) R) : Eve C m n (.Subscript value slice pos) R :=
  fun _ s _ h0 F N q => Subscript_ (h1 h0 F N fun a n1 g1 t1 l1 r1 F1 N1 => h2 a n1 r1 (s := { s with heap := g1, toks := t1 }) l1 F1 N1 fun b n2 g2 t2 l2 r2 F2 N2 => h3 a n1 b n2 r1 r2 (s := { s with heap := g2, toks := t2 }) l2 F2 N2 q)
theorem Evp.sub {value slice : Expr} {pos : Pos} {p1 p2 : PV} (h1 : Evp C m n value p1) (h2 : Evp C m n slice p2) (h3 : ∀ a b, Fits p1 a → Fits p2 b → Cm C m n (subscriptTail value slice a b) R) : Eve C m n (.Subscript value slice pos) R :=
  Eve.sub (R2 := fun _ => Is p2 n) h1 (fun a n1 e => Cm.sub h2 e.2) fun a n1 b n2 e1 e2 => Cm.sub (h3 a b e1.1 e2.1) e2.2
/-- -1 -/
theorem Evp.neg1 {k : Nat} {p1 p2 : Pos} : Evp C m n (.UnaryOp .USub (.Constant (.int 1) k p1) p2) (.int (-1)) :=
  fun _ s _ h0 F N q => UnaryOp_ (wpAny_Constant_int (neg_int (q _ n s.heap _ (by show C.lo ≤ s.toks + 1 + 1; (first | lia | omega)) ⟨⟨_, rfl⟩, Kp.rfl⟩ F N)))
/-- isinstance(x, list) -/
theorem Cm.isList {nd nu : Nat} (ok : C.Ok nd nu) {D : Addr} {o : Obj} {T : String} {b : Bool} (hm : (D, o) ∈ n) (hc : o.cls = .type T) (hz : ∀ a, KitX (K C.w.params) (.ref a) (.type T) (KitAt a T)) (hb : kitOne (K C.w.params) (.type T) (.type "list") = some b) (r : R (.bool b) n) : Cm C m n (call (.builtin "isinstance") [.ref D, .type "list"]) R :=
  fun _ s _ _ F N q => kia_one (hz D) (ok.X.keeps F.keep) (kitAt_N N hm hc) hb (by intro e; cases e) fun tk => q _ n s.heap tk (by rw [ok.lo]; exact Nat.zero_le _) r F N
end
section
variable {C : Cx} {m : Mp} {n : Led} {P : Flow → Mp → Led → Prop} {rest : List Stmt} {ks : List (List Stmt)}
/-- while -/
theorem Sts.while {test : Expr} {body : List Stmt} {pos : Pos} (hlo : C.lo = 0) (J : Nat → Mp → Led → Prop) (X : Mp → Led → Prop) {n₀ : Nat} (hJ : J n₀ m n)
    (ht : ∀ i m1 n1, J i m1 n1 → Tst C m1 n1 test fun b n2 => (b = true → Sts C (fun f m' n' => match f with | .ret v => P (.ret v) m' n' | .brk => X m' n' | _ => ∃ i', i' < i ∧ J i' m' n') m1 n2 body []) ∧ (b = false → X m1 n2))
    (done : ∀ m' n', X m' n' → Sts C P m' n' rest ks) : Sts C P m n (.While test body [] pos :: rest) ks :=
  fun E s Q hE _ F N q => by
    refine wpAny_execs_cons ?_
    have hret : ∀ v s', contQ (model pw C.w) C.A C.env E Q ks (.ret v) s' → (match (Flow.ret v) with | .next => wpAny (model pw C.w) C.A (execs rest C.env) (contQ (model pw C.w) C.A C.env E Q ks) E s' | f => contQ (model pw C.w) C.A C.env E Q ks f s') := fun v s' h => h
    refine while_T (n₀ := n₀) J X F N hJ ?_ ?_ hE
    · intro i m1 n1 h1 tk1 R D F1 N1 j nxt ncont done2 brk out
      refine ht i m1 n1 j (.inl rfl) (s := { s with heap := h1, toks := tk1 }) (by rw [hlo]; exact Nat.zero_le _) F1 N1 fun b n2 h2 tk2 _ r F2 N2 => ?_
      cases b
      · rw [if_neg Bool.false_ne_true]
        exact done2 _ n2 _ _ (r.2 rfl) F2 N2
      · rw [if_pos rfl]
        have hb : Sts C _ m1 n2 body [] := r.1 rfl
        refine hb hE (Q := R) (s := { s with heap := h2, toks := tk2 }) (by rw [hlo]; exact Nat.zero_le _) F2 N2 fun f m' n' h' tk hp F' N' => ?_
        cases f with
        | ret v => exact out v _ (hret v _ (contQ_out (fun e => by cases e) (q _ m' n' h' tk hp F' N') ks))
        | brk => exact brk _ n' _ _ hp F' N'
        | next => obtain ⟨i', hi, j'⟩ := hp; exact nxt i' _ n' _ _ hi j' F' N'
        | cont => obtain ⟨i', hi, j'⟩ := hp; exact ncont i' _ n' _ _ hi j' F' N'
    · intro m' n' h' tk hX F' N'
      exact done m' n' hX hE (s := { s with heap := h', toks := tk }) (by rw [hlo]; exact Nat.zero_le _) F' N' q
end
end Mine
namespace Mine
open PySem PySem.W PySem.Calls PyProof.Rows
section
variable {C : Cx} {m : Mp} {n : Led} {R : Value → Led → Prop}
/-- [] -/
theorem Eve.nilL {pos : Pos} (h : ∀ D, (∀ p ∈ n, p.1 < D) → R (.ref D) ((D, listOf #[] 0) :: n)) : Eve C m n (.List [] pos) R :=
  Eve.list (R1 := fun vs n1 => vs = [] ∧ n1 = n) (Sq.nil ⟨rfl, rfl⟩) fun vs n1 e => by obtain ⟨rfl, rfl⟩ := e; exact ⟨Nat.zero_le _, h⟩
/-- a method of a text with one argument -/
theorem Evp.smeth1 {o e : Expr} {name : Str} {apos pos : Pos} {x : Str} {id : String} {p : PV} (hbase : attributeBase o name C.env (eval o C.env) = eval o C.env) (hline : (apos.endLine == pos.line) = true) (he : starEach [e] C.env = [(false, eval e C.env)])
    (gm : ∀ t (n : Led), Gm C n (.str x t) name id) (h1 : Evp C m n o (.str x)) (h2 : Evp C m n e p) (h3 : ∀ t v, Fits p v → Cm C m n (call (.builtin id) [.str x t, v]) R) : Eve C m n (.Call (.Attribute o name apos) [e] [] pos) R :=
  Eve.meth1 hbase hline (by rw [he]; rfl) (by rw [he]; rfl) (by rfl) h1 fun ov n1 e1 => by
    obtain ⟨⟨t, rfl⟩, s1⟩ := e1
    exact ⟨id, gm t n1, Sq.sub (Sq.consp (by rw [he]; rfl) h2 fun v fv => Sq.nil (h3 t v fv)) s1⟩
theorem gm_split {n : Led} {x : Str} {t : Tok} : Gm C n (.str x t) (Str.ofString "split") "str.split" := fun _ _ _ _ _ h => GM.split h
theorem gm_lstrip {n : Led} {x : Str} {t : Tok} : Gm C n (.str x t) (Str.ofString "lstrip") "str.lstrip" := fun _ _ _ _ _ h => GM.lstrip h
theorem gm_strip {n : Led} {x : Str} {t : Tok} : Gm C n (.str x t) (Str.ofString "strip") "str.strip" := fun _ _ _ _ _ h => GM.strip h
theorem gm_replace {n : Led} {x : Str} {t : Tok} : Gm C n (.str x t) (Str.ofString "replace") "str.replace" := fun _ _ _ _ _ h => GM.replace h
theorem gm_join {n : Led} {x : Str} {t : Tok} : Gm C n (.str x t) (Str.ofString "join") "str.join" := fun _ _ _ _ _ h => GM.join h
theorem Cm.split {x y : Str} {t u : Tok} (hlo : C.lo = 0) (hy : (y.length == 0) = false) (hx : x.length ≤ 1000000) (r : ∀ D (l : List (Str × Tok)), l.map (·.1) = Txt.split x y → (∀ p ∈ n, p.1 < D) → R (.ref D) ((D, listOf (strValues l).toArray 0) :: n)) : Cm C m n (call (.builtin "str.split") [.str x t, .str y u]) R :=
  fun _ s _ _ F N q => KSpl.split1 F N hy (fun D l h' k e _ F' N' lt => q _ _ h' k (by (first | lia | omega)) (r D l e lt) F' N') (by rw [sizeLine_eq]; (first | lia | omega))
theorem Cm.lstrip {x y : Str} {t u : Tok} (hlo : C.lo = 0) (hx : x.length ≤ 1000000) (r : ∀ t, (Txt.lstripChars x y).length ≤ x.length → R (.str (Txt.lstripChars x y) t) n) : Cm C m n (call (.builtin "str.lstrip") [.str x t, .str y u]) R :=
  fun _ s _ _ F N q => SCL.lstripChars (fun t' k l => q _ n s.heap k (by (first | lia | omega)) (r t' l) F N) (by rw [sizeLine_eq]; (first | lia | omega))
theorem Cm.join {x : Str} {t : Tok} {D : Addr} {nc : List (Str × Tok)} {k : Nat} (hlo : C.lo = 0) (hm : (D, listOf (strValues nc).toArray k) ∈ n) (hx : x.length ≤ 1) (hb : nc.length ≤ 2100) (hB : ∀ p ∈ nc, p.1.length ≤ 2000) (r : ∀ t, (Txt.join x (nc.map (·.1))).length ≤ 5000000 → R (.str (Txt.join x (nc.map (·.1))) t) n) : Cm C m n (call (.builtin "str.join") [.str x t, .ref D]) R :=
  fun _ s _ _ F N q => join_T N hm hx hb hB fun t' tk l => q _ n s.heap tk (by (first | lia | omega)) (r t' l) F N
theorem Cm.neT {nd nu : Nat} (ok : C.Ok nd nu) (hu : 64 ≤ nu) {D D' : Addr} {nc ns : List (Str × Tok)} {k k' : Nat} (hm : (D, listOf (strValues nc).toArray k) ∈ n) (hm' : (D', listOf (strValues ns).toArray k') ∈ n) (r : R (.bool (!decide (nc.map (·.1) = ns.map (·.1)))) n) : Cm C m n (compareOp .NotEq (.ref D) (.ref D')) R :=
  fun _ s _ h0 F N q => ne_T N hm hm' (by have := ok.un; (first | lia | omega)) (q _ n s.heap s.toks h0 r F N)
theorem Evp.lenL {nd nu : Nat} (ok : C.Ok nd nu) {e : Expr} {fp pos : Pos} {D : Addr} {vs : List Value} {k : Nat} (hx : C.env.kindOf (Str.ofString "len") = some .globalImplicit) (hg : nsIn (K C.w.params) mainGlobals (Str.ofString "len") = some none) (hcall : eval (.Call (.Name (Str.ofString "len") fp) [e] [] pos) C.env = (do callWith pos (← eval (.Name (Str.ofString "len") fp) C.env) [] (backTo pos (starEach [e] C.env)) (backToKw pos (keywordEach [] C.env))))
    (he : starEach [e] C.env = [(false, eval e C.env)]) (h1 : Evp C m n e (.ref D)) (hm : (D, listOf vs.toArray k) ∈ n) (hb : vs.length ≤ 1000000) : Evp C m n (.Call (.Name (Str.ofString "len") fp) [e] [] pos) (.int vs.length) :=
  Eve.callB (Eve.boot ok hg boot_len (by decide) hx (by decide) ⟨rfl, rfl⟩) hcall (by rw [he]; rfl) (by rfl) (Sq.consp (by rw [he]; rfl) h1 fun v fv => Sq.nil (by cases fv; exact Cm.lenL hm hb fun t => ⟨⟨t, rfl⟩, Kp.rfl⟩))
theorem Evp.lenS {nd nu : Nat} (ok : C.Ok nd nu) {e : Expr} {fp pos : Pos} {x : Str} (hx : C.env.kindOf (Str.ofString "len") = some .globalImplicit) (hg : nsIn (K C.w.params) mainGlobals (Str.ofString "len") = some none) (hcall : eval (.Call (.Name (Str.ofString "len") fp) [e] [] pos) C.env = (do callWith pos (← eval (.Name (Str.ofString "len") fp) C.env) [] (backTo pos (starEach [e] C.env)) (backToKw pos (keywordEach [] C.env))))
    (he : starEach [e] C.env = [(false, eval e C.env)]) (h1 : Evp C m n e (.str x)) (hb : x.length ≤ 1000000) : Evp C m n (.Call (.Name (Str.ofString "len") fp) [e] [] pos) (.int x.length) :=
  Eve.callB (Eve.boot ok hg boot_len (by decide) hx (by decide) ⟨rfl, rfl⟩) hcall (by rw [he]; rfl) (by rfl) (Sq.consp (by rw [he]; rfl) h1 fun v fv => Sq.nil (by obtain ⟨t, rfl⟩ := fv; exact Cm.lenS hb fun t => ⟨⟨t, rfl⟩, Kp.rfl⟩))
/-- a or b, of a text -/
theorem Eve.orS {e1 e2 : Expr} {pos : Pos} {x : Str} (h1 : Evp C m n e1 (.str x)) (hb : x.length ≤ 5000000) (h2 : x.length = 0 → Eve C m n e2 R) (r : x.length ≠ 0 → ∀ t n', Kp n n' → R (.str x t) n') (hlo : C.lo = 0) : Eve C m n (.BoolOp .Or [e1, e2] pos) R :=
  fun _ s _ h0 F N q => BoolOp_or (h1 h0 F N fun v n1 g1 t1 l1 r1 F1 N1 => by
    obtain ⟨⟨t, rfl⟩, s1⟩ := r1
    refine SBL.truthy (s := { s with heap := g1, toks := t1 }) (by (first | lia | omega)) ?_
    by_cases hx : x.length = 0
    · rw [if_neg (by rw [hx]; decide)]
      exact BoolOp_one (h2 hx (s := { s with heap := g1, toks := _ }) (by rw [hlo]; exact Nat.zero_le _) F1 (news_sub N1 s1) q)
    · rw [if_pos (by simpa using hx)]
      exact q _ n1 g1 _ (by rw [hlo]; exact Nat.zero_le _) (r hx t n1 s1) F1 N1)
end
section
theorem execs_one (st : Stmt) (env : Env) : execs [st] env = exec st env := by
  rw [execs_cons]
  refine (congrArg (exec st env >>= ·) (a₂ := pure) ?_).trans (bind_pure _)
  funext f; cases f <;> rfl
variable {C : Cx} {m : Mp} {n : Led} {P : Flow → Mp → Led → Prop} {rest : List Stmt} {ks : List (List Stmt)}
/-- the flow of a part: it goes on with R, or leaves with P -/
def Thn (R : Mp → Led → Prop) (P : Flow → Mp → Led → Prop) (f : Flow) (m : Mp) (n : Led) : Prop := match f with | .next => R m n | f => P f m n
theorem Sts.cut {st : Stmt} {R : Mp → Led → Prop} (h1 : Sts C (Thn R P) m n [st] []) (h2 : C.lo = 0) (h3 : ∀ m' n', R m' n' → Sts C P m' n' rest ks) : Sts C P m n (st :: rest) ks := fun E s Q hE h0 F N q => by
  refine wpAny_execs_cons ?_
  rw [← execs_one]
  refine h1 hE h0 F N fun f m' n' h' tk hp F' N' => ?_
  cases f with
  | next => exact h3 m' n' hp hE (s := { s with heap := h', toks := tk }) (by rw [h2]; exact Nat.zero_le _) F' N' q
  | ret v => exact contQ_out (fun e => by cases e) (q _ m' n' h' tk hp F' N') ks
  | brk => exact contQ_out (fun e => by cases e) (q _ m' n' h' tk hp F' N') ks
  | cont => exact contQ_out (fun e => by cases e) (q _ m' n' h' tk hp F' N') ks
end
end Mine
namespace Mine
open PySem PySem.W PySem.Calls PyProof.Rows
theorem clampI (k n : Nat) : max 0 (min (k : Int) (n : Int)) = ((min k n : Nat) : Int) := by
  rw [Int.max_eq_right (Int.le_min.mpr ⟨Int.natCast_nonneg k, Int.natCast_nonneg n⟩)]
  rcases Nat.le_total k n with h | h
  · rw [Nat.min_eq_left h, Int.min_eq_left (Int.ofNat_le.mpr h)]
  · rw [Nat.min_eq_right h, Int.min_eq_right (Int.ofNat_le.mpr h)]
theorem pick_drop1 (vs : List Value) : (slicePick vs.toArray (some 1) none none).toList = vs.drop 1 := by
  have e : sliceBounds (some 1) none none vs.toArray.size = (((min 1 vs.toArray.size : Nat) : Int), ((vs.toArray.size : Nat) : Int), 1) := by
    simp only [sliceBounds, Option.getD_none, show (1 : Int) > 0 by decide, if_true, if_neg (show ¬ ((1 : Int) < 0) by decide)]
    congr 1
    exact clampI 1 _
  rw [kmk_pick_nat _ e]
  show (vs.drop (min 1 vs.toArray.size)).take (vs.toArray.size - min 1 vs.toArray.size) = _
  rw [List.size_toArray, kmk_drop_min, List.take_of_length_le (by rw [List.length_drop]; exact Nat.sub_le_sub_left (Nat.min_le_left _ _) _)]
theorem pick_take20 (its : Array Value) : (slicePick its none (some 20) none).toList = its.toList.take 20 := by
  have e : sliceBounds none (some 20) none its.size = (((0 : Nat) : Int), ((min 20 its.size : Nat) : Int), 1) := by
    simp only [sliceBounds, Option.getD_none, show (1 : Int) > 0 by decide, if_true, if_neg (show ¬ ((20 : Int) < 0) by decide)]
    congr 1
    congr 1
    exact clampI 20 _
  rw [kmk_pick_nat _ e]
  show (its.toList.drop 0).take (min 20 its.size - 0) = _
  rw [List.drop_zero, Nat.sub_zero, List.take_eq_take_iff, Array.length_toList]
  (first | lia | omega)
theorem ns_len {P : Params} : nsIn (K P) mainGlobals (Str.ofString "len") = some none := by kernel_rfl
theorem ns_abs {P : Params} : nsIn (K P) mainGlobals (Str.ofString "abs") = some none := by kernel_rfl
theorem ns_isi {P : Params} : nsIn (K P) mainGlobals (Str.ofString "isinstance") = some none := by kernel_rfl
theorem ns_list {P : Params} : nsIn (K P) mainGlobals (Str.ofString "list") = some none := by kernel_rfl
theorem ns_range {P : Params} : nsIn (K P) mainGlobals (Str.ofString "range") = some none := by kernel_rfl
theorem kit_ll {P : Params} : kitOne (K P) (.type "list") (.type "list") = some true := by kernel_rfl
theorem kit_tl {P : Params} : kitOne (K P) (.type "tuple") (.type "list") = some false := by kernel_rfl
section
variable {C : Cx} {m : Mp} {n : Led} {R : Value → Led → Prop}
/-- xs[1:] -/
theorem Eve.from1 {value : Expr} {p1 p2 p3 : Pos} {k1 k : Nat} {l : Addr} {vs : List Value} (h1 : Eve C m n value fun v n' => v = .ref l ∧ n' = n) (hm : (l, listOf vs.toArray k) ∈ n) (hb : vs.length ≤ 1000000)
    (hs : ∀ S, subscripted (.Slice (some (.Constant (.int 1) k1 p1)) none none p2) false (.ref l) (.ref S) = operate [.ref S, .ref l] (getItem (.ref l) (.ref S))) (ht : ∀ r, letTemporaryGo value (.ref l) r = pure ())
    (r : ∀ D, (∀ p ∈ n, p.1 < D) → R (.ref D) ((D, listOf (vs.drop 1).toArray 0) :: n)) : Eve C m n (.Subscript value (.Slice (some (.Constant (.int 1) k1 p1)) none none p2) p3) R :=
  fun _ s _ h0 F N q => Subscript_ (h1 h0 F N fun v n1 g1 t1 l1 r1 F1 N1 => by
    obtain ⟨rfl, rfl⟩ := r1
    refine wpAny_Slice (evalPart_some_step (wpAny_Constant_int (evalPart_none_step (evalPart_none_step ?_))))
    exact kmk_slice_lit (s := { s with heap := g1, toks := t1 + 1 }) F1 N1 (News.isList N1 hm) (.int 1 t1) .none (pick_drop1 vs) (fun D h' F' N' lt => q _ _ h' (t1 + 1) (by (first | lia | omega)) (r D lt) F' N') (hs _) ht (by rw [List.size_toArray, sizeLine_eq]; (first | lia | omega)))
theorem Eve.to20 {value : Expr} {p1 p2 p3 : Pos} {k1 : Nat} {l : Addr} {its : Array Value} (h1 : Eve C m n value fun v n' => v = .ref l ∧ n' = n) (hl : C.h₀.IsList l its) (hb : its.size ≤ 1000000)
    (hs : ∀ S, subscripted (.Slice none (some (.Constant (.int 20) k1 p1)) none p2) false (.ref l) (.ref S) = operate [.ref S, .ref l] (getItem (.ref l) (.ref S))) (ht : ∀ r, letTemporaryGo value (.ref l) r = pure ())
    (r : ∀ D, (∀ p ∈ n, p.1 < D) → R (.ref D) ((D, listOf (its.toList.take 20).toArray 0) :: n)) : Eve C m n (.Subscript value (.Slice none (some (.Constant (.int 20) k1 p1)) none p2) p3) R :=
  fun _ s _ h0 F N q => Subscript_ (h1 h0 F N fun v n1 g1 t1 l1 r1 F1 N1 => by
    obtain ⟨rfl, rfl⟩ := r1
    refine wpAny_Slice (evalPart_none_step (evalPart_some_step (wpAny_Constant_int (evalPart_none_step ?_))))
    exact kmk_slice_lit (s := { s with heap := g1, toks := t1 + 1 }) F1 N1 (hl.at fun o e => F1.keep l o e) .none (.int 20 t1) (pick_take20 its) (fun D h' F' N' lt => q _ _ h' (t1 + 1) (by (first | lia | omega)) (r D lt) F' N') (hs _) ht (by rw [sizeLine_eq]; (first | lia | omega)))
/-- xs + ys, of lists -/
theorem Cm.addL {l b : Addr} {vs ws : List Value} {k k' : Nat} (hm : (l, listOf vs.toArray k) ∈ n) (hm' : (b, listOf ws.toArray k') ∈ n) (hb : vs.length + ws.length ≤ 1000000) (r : ∀ D, (∀ p ∈ n, p.1 < D) → R (.ref D) ((D, listOf (vs ++ ws).toArray 0) :: n)) : Cm C m n (binaryOp .Add (.ref l) (.ref b)) R :=
  fun _ s _ h0 F N q => add_arrays F N (News.isList N hm) (News.isList N hm') (fun h' F' N' => q _ _ h' s.toks h0 (r _ fun p hp => Heap.lt_size (N p hp).1) F' N') (by rw [List.size_toArray, List.size_toArray, sizeLine_eq]; (first | lia | omega))
theorem Cm.extend {D b : Addr} {vs ws : List Value} {k k' : Nat} {r : Led} (hr : ∀ p ∈ r, p.1 ≠ D) (hm : (b, listOf ws.toArray k') ∈ r) (hb : vs.length + ws.length ≤ 100000) (h : ∀ k'', R .none ((D, listOf (vs ++ ws).toArray k'') :: r)) : Cm C m ((D, listOf vs.toArray k) :: r) (call (.builtin "list.extend") [.ref D, .ref b]) R :=
  fun _ s _ h0 F N q => by
    have hs : vs.toArray.size + ws.toArray.size ≤ sizeLine + 1 := by rw [List.size_toArray, List.size_toArray, sizeLine_eq]; (first | lia | omega)
    have hn : ¬ (!vs.toArray.isEmpty && Builtin.List.listTooLong (vs.toArray.size + ws.toArray.size)) = true := by
      have e : Builtin.List.listTooLong (vs.toArray.size + ws.toArray.size) = false := by
        unfold Builtin.List.listTooLong
        have h1 : vs.toArray.size + ws.toArray.size = vs.length + ws.length := by rw [List.size_toArray, List.size_toArray]
        rw [h1]
        exact decide_eq_false (by rw [sizeLine_eq]; (first | lia | omega))
      rw [e]; simp
    by_cases hw : ws = []
    · subst hw
      have h' := h k
      rw [List.append_nil] at h'
      exact kxn_extend F N (.tail _ hm) rfl (upd_hd hr) hn (by rw [List.toList_toArray, sizeLine_eq]; (first | lia | omega)) hs fun h2 F2 N2 => q _ _ h2 s.toks h0 h' F2 N2
    · exact kl_extend F N (.tail _ hm) (l := vs ++ ws) rfl (by rw [List.toList_toArray]; exact fun e => hw (List.length_eq_zero_iff.mp e)) (upd_hd hr) hn (by rw [List.toList_toArray, sizeLine_eq]; (first | lia | omega)) hs fun h2 F2 N2 => q _ _ h2 s.toks h0 (h _) F2 N2
/-- an item of a tuple -/
theorem Cm.tup0 {value slice : Expr} {t : Addr} {l : List Value} {u : Tok} {x : Value} (hm : (t, tupO (x :: l)) ∈ n) (hl : l.length ≤ 100) (hs : subscripted slice false (.ref t) (.int 0 u) = operate [.ref t, .int 0 u] (getItem (.ref t) (.int 0 u))) (r : R x n) : Cm C m n (subscriptTail value slice (.ref t) (.int 0 u)) R :=
  fun _ s _ h0 F N q => item_tupleT (l := x :: l) (j := 0) (News.isTup N hm) (by decide) (by decide) (by
    unfold seqIndex?
    simp
    ) rfl (q x n s.heap s.toks h0 r F N) hs
/-- isinstance(e, list) -/
theorem Tst.isList {nd nu : Nat} (ok : C.Ok nd nu) {e : Expr} {fp lp pos : Pos} {D : Addr} {o : Obj} {T : String} {b : Bool} (hx : C.env.kindOf (Str.ofString "isinstance") = some .globalImplicit) (hxl : C.env.kindOf (Str.ofString "list") = some .globalImplicit)
    (hcall : eval (.Call (.Name (Str.ofString "isinstance") fp) [e, .Name (Str.ofString "list") lp] [] pos) C.env = (do callWith pos (← eval (.Name (Str.ofString "isinstance") fp) C.env) [] (backTo pos (starEach [e, .Name (Str.ofString "list") lp] C.env)) (backToKw pos (keywordEach [] C.env))))
    (he : starEach [e, .Name (Str.ofString "list") lp] C.env = (false, eval e C.env) :: starEach [.Name (Str.ofString "list") lp] C.env)
    (hp : ∀ whole : Sem Value, isTrue (.Call (.Name (Str.ofString "isinstance") fp) [e, .Name (Str.ofString "list") lp] [] pos) C.env whole = (do let v ← whole; standAt pos; holding [v] (truthy v)))
    (h1 : Evp C m n e (.ref D)) (hm : (D, o) ∈ n) (hc : o.cls = .type T) (hz : ∀ a, KitX (K C.w.params) (.ref a) (.type T) (KitAt a T)) (hb : kitOne (K C.w.params) (.type T) (.type "list") = some b) : Tsp C m n (.Call (.Name (Str.ofString "isinstance") fp) [e, .Name (Str.ofString "list") lp] [] pos) b :=
  Tst.bool hp (by intro o xs p h; cases h) (Eve.callB (Eve.boot ok ns_isi boot_isinstance (by decide) hx (by decide) ⟨rfl, rfl⟩) hcall he (by exact rfl) (Sq.consp he h1 fun v fv => by
    cases fv
    refine Sq.cons (R1 := fun v n' => v = .type "list" ∧ n' = n) (by exact rfl) (Eve.boot ok ns_list boot_list (by decide) hxl (by decide) ⟨rfl, rfl⟩) fun v n1 e => ?_
    obtain ⟨rfl, rfl⟩ := e
    exact Sq.nil (Cm.isList ok hm hc hz hb ⟨b, rfl, rfl, Kp.rfl⟩)))
end
end Mine
namespace Mine
open PySem PySem.W PySem.Calls PyProof.Rows
theorem strVal_snoc (l : List (Str × Tok)) (y : Str) (t : Tok) : strValues (l ++ [(y, t)]) = strValues l ++ [.str y t] := by unfold strValues; rw [List.map_append]; rfl
noncomputable def forBody : Stmt → List Stmt | .For _ _ b _ _ => b | _ => []
def RtS (x : Str) (n : Led) (f : Flow) (_ : Mp) (n' : Led) : Prop := ∃ t, f = .ret (.str x t) ∧ Kp n n'
noncomputable def whBody : Stmt → List Stmt | .While _ b _ _ => b | _ => []
structure Pl where
  (w : World) (A : Around) (L a : Addr) (cd : Value) (h₀ : Heap)
theorem ns_bytes {P : Params} : nsIn (K P) mainGlobals (Str.ofString "bytes") = some none := by kernel_rfl
section
variable {C : Cx} {m : Mp} {n : Led} {R : Value → Led → Prop}
theorem Evp.cmp {l r : Expr} {op : CmpOp} {pos : Pos} {p1 p2 : PV} {b : Bool} (hm : behindInMarks op r = false) (h1 : Evp C m n l p1) (h2 : Evp C m n r p2) (hc : Cmp op p1 p2 b) : Evp C m n (.Compare l [op] [r] pos) (.bool b) :=
  fun _ s _ h0 F N q => wpAny_Compare1 (h1 h0 F N fun a n1 g1 t1 l1 r1 F1 N1 => h2 (s := { s with heap := g1, toks := t1 }) l1 F1 (news_sub N1 r1.2) fun c n2 g2 t2 l2 r2 F2 N2 => cmp_ok hc r1.1 r2.1 (q _ n2 g2 t2 l2 ⟨rfl, r2.2⟩ F2 N2)) hm
theorem Evp.orB {e1 e2 : Expr} {pos : Pos} {b c : Bool} (h1 : Evp C m n e1 (.bool b)) (h2 : b = false → Evp C m n e2 (.bool c)) : Evp C m n (.BoolOp .Or [e1, e2] pos) (.bool (b || c)) :=
  fun _ s _ h0 F N q => BoolOp_or (h1 h0 F N fun v n1 g1 t1 l1 r1 F1 N1 => by
    obtain ⟨e, k⟩ := r1
    cases e
    refine wpAny_truthy_bool ?_
    cases b
    · rw [if_neg Bool.false_ne_true]
      exact BoolOp_one (h2 rfl (s := { s with heap := g1, toks := t1 }) l1 F1 (news_sub N1 k) q)
    · rw [if_pos rfl]
      exact q _ n1 g1 t1 l1 ⟨rfl, k⟩ F1 N1)
theorem Tsp.nm {x : Str} {pos : Pos} {b : Bool} (hp : ∀ whole : Sem Value, isTrue (.Name x pos) C.env whole = (do let v ← whole; standAt pos; holding [v] (truthy v))) (h : Evp C m n (.Name x pos) (.bool b)) : Tsp C m n (.Name x pos) b :=
  Tst.bool hp (by intro o xs p h; cases h) (Cm.mono h fun v n1 e => ⟨b, e.1, rfl, e.2⟩)
theorem Evp.isList {nd nu : Nat} (ok : C.Ok nd nu) {e : Expr} {fp lp pos : Pos} {D : Addr} {o : Obj} {T : String} {b : Bool} (hx : C.env.kindOf (Str.ofString "isinstance") = some .globalImplicit) (hxl : C.env.kindOf (Str.ofString "list") = some .globalImplicit)
    (hcall : eval (.Call (.Name (Str.ofString "isinstance") fp) [e, .Name (Str.ofString "list") lp] [] pos) C.env = (do callWith pos (← eval (.Name (Str.ofString "isinstance") fp) C.env) [] (backTo pos (starEach [e, .Name (Str.ofString "list") lp] C.env)) (backToKw pos (keywordEach [] C.env))))
    (he : starEach [e, .Name (Str.ofString "list") lp] C.env = (false, eval e C.env) :: starEach [.Name (Str.ofString "list") lp] C.env)
    (h1 : Evp C m n e (.ref D)) (hm : (D, o) ∈ n) (hc : o.cls = .type T) (hz : ∀ a, KitX (K C.w.params) (.ref a) (.type T) (KitAt a T)) (hb : kitOne (K C.w.params) (.type T) (.type "list") = some b) : Evp C m n (.Call (.Name (Str.ofString "isinstance") fp) [e, .Name (Str.ofString "list") lp] [] pos) (.bool b) :=
  Eve.callB (Eve.boot ok ns_isi boot_isinstance (by decide) hx (by decide) ⟨rfl, rfl⟩) hcall he (by exact rfl) (Sq.consp he h1 fun v fv => by
    cases fv
    refine Sq.cons (R1 := fun v n' => v = .type "list" ∧ n' = n) (by exact rfl) (Eve.boot ok ns_list boot_list (by decide) hxl (by decide) ⟨rfl, rfl⟩) fun v n1 e => ?_
    obtain ⟨rfl, rfl⟩ := e
    exact Sq.nil (Cm.isList ok hm hc hz hb ⟨rfl, Kp.rfl⟩))
theorem Sts.unpack3 {P : Flow → Mp → Led → Prop} {rest : List Stmt} {ks : List (List Stmt)} {x y z : Str} {px py pz tpos pos : Pos} {k : Nat} {value : Expr} {t : Addr} {a b c : Value} (hk : C.cs.kind = .function) (hh : C.A.handled = none) (hx : C.env.kindOf x = some .local) (hy : C.env.kindOf y = some .local) (hz : C.env.kindOf z = some .local)
    (hs : swapsWithSole [.Tuple [.Name x px, .Name y py, .Name z pz] k tpos] value pos.line C.env = pure false) (hw : swappedStores [.Tuple [.Name x px, .Name y py, .Name z pz] k tpos] value C.env = pure none)
    (h1 : Evp C m n value (.ref t)) (hm : (t, tupO [a, b, c]) ∈ n) (h2 : Sts C P (fun w => if w = z then some c else if w = y then some b else if w = x then some a else m w) n rest ks) : Sts C P m n (.Assign [.Tuple [.Name x px, .Name y py, .Name z pz] k tpos] value pos :: rest) ks :=
  Sts.step (R := fun m' n' => Kp n n' ∧ m' = fun w => if w = z then some c else if w = y then some b else if w = x then some a else m w) (fun _ s _ _ h0 F N q => Assign_Tuple (h1 h0 F N fun v n1 g1 t1 l1 r1 F1 N1 => by
    obtain ⟨e, kp⟩ := r1
    cases e
    refine unpackN_ (items := #[a, b, c]) (s := { s with heap := g1, toks := t1 }) F1 N1 (News.isTup N1 (kp _ hm)) hh (by rfl) (by rfl) fun h2 F2 N2 => ?_
    refine assignInOrder_cons (assign_Name (stN (s := { s with heap := h2, toks := t1 }) F2 N2 (fun h3 F3 N3 => ?_) hk hx))
    refine assignInOrder_cons (assign_Name (stN (s := { s with heap := h3, toks := t1 + 1 }) F3 N3 (fun h4 F4 N4 => ?_) hk hy))
    refine assignInOrder_cons (assign_Name (stN (s := { s with heap := h4, toks := t1 + 1 + 1 }) F4 N4 (fun h5 F5 N5 => assignInOrder_nil ?_) hk hz))
    exact q _ n1 h5 _ (by show C.lo ≤ t1 + 1 + 1 + 1; (first | lia | omega)) ⟨kp, rfl⟩ F5 N5) hs hw)
    fun m' n' ⟨kp, e⟩ => e ▸ Sts.sub h2 kp
/-- xs[-1] of a list, as a pure expression -/
theorem Evp.lastL {e : Expr} {p1 p2 p3 : Pos} {k kk : Nat} {D : Addr} {vs : List Value} {x : Value} {p : PV} (h1 : Evp C m n e (.ref D)) (hm : (D, listOf (vs ++ [x]).toArray kk) ∈ n) (hb : vs.length ≤ 1000000) (hx : Fits p x) (hs : ∀ (k' : Int) (u : Tok), subscripted (.UnaryOp .USub (.Constant (.int 1) k p1) p2) false (.ref D) (.int k' u) = operate [.ref D, .int k' u] (getItem (.ref D) (.int k' u))) : Evp C m n (.Subscript e (.UnaryOp .USub (.Constant (.int 1) k p1) p2) p3) p :=
  Evp.sub h1 Evp.neg1 fun a b fa fb => by
    cases fa
    obtain ⟨u, rfl⟩ := fb
    exact Cm.itemLast hm hb hs ⟨hx, Kp.rfl⟩
/-- o.append(e): o a list D of the ledger, e a value that stands -/
theorem Sts.append {P : Flow → Mp → Led → Prop} {rest : List Stmt} {ks : List (List Stmt)} {o e : Expr} {apos pos pos2 : Pos} {D : Addr} {vs : List Value} {k : Nat} {R1 : Value → Led → Prop} (hi : interactive C.env = false) (hsw : swapsWith (.Call (.Attribute o (Str.ofString "append") apos) [e] [] pos) none pos2.line C.env = pure false) (hbase : attributeBase o (Str.ofString "append") C.env (eval o C.env) = eval o C.env) (hline : (apos.endLine == pos.line) = true)
    (hform : methodCallForm ([e].length + ([] : List Keyword).length) (backTo pos (starEach [e] C.env)) (backToKw pos (keywordEach [] C.env)) = true) (he : starEach [e] C.env = [(false, eval e C.env)]) (ho : Evp C m n o (.ref D)) (hm : (D, listOf vs.toArray k) ∈ n) (hb : vs.length ≤ 1000000) (h1 : Eve C m n e R1)
    (h2 : ∀ v n1, R1 v n1 → ∃ n2, Upd D (listOf vs.toArray k) (listOf (vs ++ [v]).toArray (k + 1)) n1 n2 ∧ Sts C P m n2 rest ks) : Sts C P m n (.Expr (.Call (.Attribute o (Str.ofString "append") apos) [e] [] pos) pos2 :: rest) ks :=
  Sts.expr (R := fun n2 => Sts C P m n2 rest ks) hi hsw (Eve.meth1 hbase hline hform (by rw [he]; rfl) (by rfl) ho fun ov n1 e1 => by
    obtain ⟨e2, s1⟩ := e1
    cases e2
    refine ⟨"list.append", gm_list (s1 _ hm) PySem.F.slot_list_append PySem.F.type_list_append, Sq.sub (Sq.cons (by rw [he]; rfl) h1 fun v n1 r1 => Sq.nil ?_) s1⟩
    obtain ⟨n2, U, hS⟩ := h2 v n1 r1
    exact Cm.append U hb ⟨(by intro a e; cases e), hS⟩) fun n' h => h
/-- o.append(e): e a value that stands, the ledger as it was -/
theorem Sts.appendP {P : Flow → Mp → Led → Prop} {rest : List Stmt} {ks : List (List Stmt)} {o e : Expr} {apos pos pos2 : Pos} {D : Addr} {vs : List Value} {k : Nat} {p : PV} {n2 : Value → Led} (hi : interactive C.env = false) (hsw : swapsWith (.Call (.Attribute o (Str.ofString "append") apos) [e] [] pos) none pos2.line C.env = pure false) (hbase : attributeBase o (Str.ofString "append") C.env (eval o C.env) = eval o C.env) (hline : (apos.endLine == pos.line) = true)
    (hform : methodCallForm ([e].length + ([] : List Keyword).length) (backTo pos (starEach [e] C.env)) (backToKw pos (keywordEach [] C.env)) = true) (he : starEach [e] C.env = [(false, eval e C.env)]) (ho : Evp C m n o (.ref D)) (hm : (D, listOf vs.toArray k) ∈ n) (hb : vs.length ≤ 1000000) (h1 : Evp C m n e p)
    (U : ∀ v, Upd D (listOf vs.toArray k) (listOf (vs ++ [v]).toArray (k + 1)) n (n2 v)) (h2 : ∀ v, Fits p v → Sts C P m (n2 v) rest ks) : Sts C P m n (.Expr (.Call (.Attribute o (Str.ofString "append") apos) [e] [] pos) pos2 :: rest) ks :=
  Sts.expr (R := fun n' => ∃ v, Fits p v ∧ n' = n2 v) hi hsw (Eve.meth1 hbase hline hform (by rw [he]; rfl) (by rfl) ho fun ov n1 e1 => by
    obtain ⟨e2, s1⟩ := e1
    cases e2
    refine ⟨"list.append", gm_list (s1 _ hm) PySem.F.slot_list_append PySem.F.type_list_append, Sq.sub (Sq.cons (by rw [he]; rfl) h1 fun v n1 r1 => Sq.nil ?_) s1⟩
    exact Cm.sub (Cm.append (U v) hb ⟨(by intro a e; cases e), v, r1.1, rfl⟩) r1.2) fun n' ⟨v, hv, e⟩ => e ▸ h2 v hv
theorem Eve.tuple {es : List Expr} {k : Nat} {pos : Pos} {R1 : List Value → Led → Prop} (h1 : Sq C m n es R1) (h2 : ∀ vs n1, R1 vs n1 → vs.length ≤ 1000 ∧ ∀ D, (∀ p ∈ n1, p.1 < D) → R (.ref D) ((D, tupO vs) :: n1)) : Eve C m n (.Tuple es k pos) R :=
  fun _ s _ h0 F N q => Tuple_ (h1 pos h0 F N fun vs n1 g1 t1 l1 r1 F1 N1 => by
    obtain ⟨hb, hr⟩ := h2 vs n1 r1
    exact newTuple_N (s := { s with heap := g1, toks := t1 }) F1 N1 (fun h' F2 N2 => q _ _ h' t1 l1 (hr _ fun p hp => Heap.lt_size (N1 p hp).1) F2 N2) (by rw [sizeLine_eq]; (first | lia | omega)))
/-- a statement that is a call, whatever it hands back -/
theorem Sts.exprAny {P : Flow → Mp → Led → Prop} {rest : List Stmt} {ks : List (List Stmt)} {e : Expr} {pos : Pos} {R : Led → Prop} (hi : interactive C.env = false) (hsw : swapsWith e none pos.line C.env = pure false) (h1 : Eve C m n e fun _ n' => R n') (h2 : ∀ n', R n' → Sts C P m n' rest ks) : Sts C P m n (.Expr e pos :: rest) ks :=
  Sts.step (R := fun m' n' => m' = m ∧ R n') (fun _ s _ _ h0 F N q => wpAny_Expr_any (h1 h0 F N fun v n1 g1 t1 l1 r1 F1 N1 => q m n1 g1 t1 l1 ⟨rfl, r1⟩ F1 N1) hi hsw)
    fun m' n' ⟨e, r⟩ => e ▸ h2 n' r
theorem Tsp.not {x : Expr} {pos : Pos} {b : Bool} (h : Tsp C m n x b) : Tsp C m n (.UnaryOp .Not x pos) (!b) := Tst.not h fun _ _ e => ⟨by rw [e.1], e.2⟩
theorem Tsp.strN {x : Str} {pos : Pos} {y : Str} (hp : ∀ whole : Sem Value, isTrue (.Name x pos) C.env whole = (do let v ← whole; standAt pos; holding [v] (truthy v))) (hlo : C.lo = 0) (hb : y.length ≤ 1000000) (h : Evp C m n (.Name x pos) (.str y)) : Tsp C m n (.Name x pos) ((y.length : Int) != 0) :=
  Tst.plain hp (by intro o xs p h; cases h) h fun v n1 e {_ s _} h0 F N q => by
    obtain ⟨⟨t, rfl⟩, k⟩ := e
    exact SBL.truthy (by (first | lia | omega)) (q _ _ (by (first | lia | omega)) ⟨rfl, k⟩)
theorem Tsp.listN {x : Str} {pos : Pos} {D : Addr} {nc : List (Str × Tok)} {k : Nat} (hp : ∀ whole : Sem Value, isTrue (.Name x pos) C.env whole = (do let v ← whole; standAt pos; holding [v] (truthy v))) (hlo : C.lo = 0) (hm : (D, listOf (strValues nc).toArray k) ∈ n) (hb : nc.length ≤ 1000000) (h : Evp C m n (.Name x pos) (.ref D)) : Tsp C m n (.Name x pos) (!nc.isEmpty) :=
  Tst.plain hp (by intro o xs p h; cases h) h fun v n1 e {_ s _} h0 F N q => by
    obtain ⟨e, k⟩ := e
    cases e
    exact truthy_T N (k _ hm) (by (first | lia | omega)) fun tk => q _ _ (by (first | lia | omega)) ⟨rfl, k⟩
theorem Tsp.orC {x : Expr} {rest : List Expr} {pos : Pos} {b c : Bool} (h1 : Tsp C m n x b) (h2 : b = false → Tsp C m n (.BoolOp .Or rest pos) c) : Tsp C m n (.BoolOp .Or (x :: rest) pos) (b || c) := by
  refine Tst.or h1 fun b' n1 e => ?_
  obtain ⟨rfl, e⟩ := e
  refine ⟨fun h => ⟨by rw [h]; rfl, e⟩, fun h => Tst.mono (Tst.sub (h2 h) e) fun c' n2 e' => ⟨by rw [h, e'.1]; rfl, e'.2⟩⟩
theorem Tsp.orN {pos : Pos} : Tsp C m n (.BoolOp .Or [] pos) false := Tst.orNil ⟨rfl, Kp.rfl⟩
theorem Sts.cont {P : Flow → Mp → Led → Prop} {rest : List Stmt} {ks : List (List Stmt)} {pos : Pos} (h : P .cont m n) : Sts C P m n (.Continue pos :: rest) ks :=
  fun _ s _ _ _ F N q => wpAny_execs_cons (wpAny_Continue (contQ_out (fun e => by cases e) (q _ m n s.heap s.toks h F N) ks))
/-- isinstance(e, bytes) of a text -/
theorem Tsp.strBytes {nd nu : Nat} (ok : C.Ok nd nu) {e : Expr} {fp lp pos : Pos} {x : Str} (hx : C.env.kindOf (Str.ofString "isinstance") = some .globalImplicit) (hxl : C.env.kindOf (Str.ofString "bytes") = some .globalImplicit)
    (hcall : eval (.Call (.Name (Str.ofString "isinstance") fp) [e, .Name (Str.ofString "bytes") lp] [] pos) C.env = (do callWith pos (← eval (.Name (Str.ofString "isinstance") fp) C.env) [] (backTo pos (starEach [e, .Name (Str.ofString "bytes") lp] C.env)) (backToKw pos (keywordEach [] C.env))))
    (he : starEach [e, .Name (Str.ofString "bytes") lp] C.env = (false, eval e C.env) :: starEach [.Name (Str.ofString "bytes") lp] C.env)
    (hp : ∀ whole : Sem Value, isTrue (.Call (.Name (Str.ofString "isinstance") fp) [e, .Name (Str.ofString "bytes") lp] [] pos) C.env whole = (do let v ← whole; standAt pos; holding [v] (truthy v)))
    (h1 : Evp C m n e (.str x)) : Tsp C m n (.Call (.Name (Str.ofString "isinstance") fp) [e, .Name (Str.ofString "bytes") lp] [] pos) false :=
  Tst.bool hp (by intro o xs p h; cases h) (Eve.callB (Eve.boot ok ns_isi boot_isinstance (by decide) hx (by decide) ⟨rfl, rfl⟩) hcall he (by exact rfl) (Sq.consp he h1 fun v fv => by
    obtain ⟨t, rfl⟩ := fv
    refine Sq.cons (R1 := fun v n' => v = .type "bytes" ∧ n' = n) (by exact rfl) (Eve.boot ok ns_bytes boot_bytes (by decide) hxl (by decide) ⟨rfl, rfl⟩) fun v n1 e => ?_
    obtain ⟨rfl, rfl⟩ := e
    exact Sq.nil fun _ s _ h0 F N q => IsiPair.str_bytes (q _ n1 s.heap _ (by (first | lia | omega)) ⟨false, rfl, rfl, Kp.rfl⟩ F N)))
/-- a, b, c = e -/
theorem Sts.unpackE {P : Flow → Mp → Led → Prop} {rest : List Stmt} {ks : List (List Stmt)} {x y z : Str} {px py pz tpos pos : Pos} {k : Nat} {value : Expr} {R1 : Value → Led → Prop} (hk : C.cs.kind = .function) (hh : C.A.handled = none) (hx : C.env.kindOf x = some .local) (hy : C.env.kindOf y = some .local) (hz : C.env.kindOf z = some .local)
    (hs : swapsWithSole [.Tuple [.Name x px, .Name y py, .Name z pz] k tpos] value pos.line C.env = pure false) (hw : swappedStores [.Tuple [.Name x px, .Name y py, .Name z pz] k tpos] value C.env = pure none)
    (h1 : Eve C m n value R1) (h2 : ∀ v n', R1 v n' → ∃ t a b c, v = .ref t ∧ (t, tupO [a, b, c]) ∈ n' ∧ Sts C P (fun w => if w = z then some c else if w = y then some b else if w = x then some a else m w) n' rest ks) : Sts C P m n (.Assign [.Tuple [.Name x px, .Name y py, .Name z pz] k tpos] value pos :: rest) ks :=
  Sts.step (R := fun m' n' => Sts C P m' n' rest ks) (fun _ s _ _ h0 F N q => Assign_Tuple (h1 h0 F N fun v n1 g1 t1 l1 r1 F1 N1 => by
    obtain ⟨t, a, b, c, rfl, hm, hS⟩ := h2 v n1 r1
    refine unpackN_ (items := #[a, b, c]) (s := { s with heap := g1, toks := t1 }) F1 N1 (News.isTup N1 hm) hh (by rfl) (by rfl) fun h2 F2 N2 => ?_
    refine assignInOrder_cons (assign_Name (stN (s := { s with heap := h2, toks := t1 }) F2 N2 (fun h3 F3 N3 => ?_) hk hx))
    refine assignInOrder_cons (assign_Name (stN (s := { s with heap := h3, toks := t1 + 1 }) F3 N3 (fun h4 F4 N4 => ?_) hk hy))
    refine assignInOrder_cons (assign_Name (stN (s := { s with heap := h4, toks := t1 + 1 + 1 }) F4 N4 (fun h5 F5 N5 => assignInOrder_nil ?_) hk hz))
    exact q _ n1 h5 _ (by show C.lo ≤ t1 + 1 + 1 + 1; (first | lia | omega)) hS F5 N5) hs hw) fun m' n' h => h
end
end Mine
namespace Mine
open PySem PySem.W PySem.Calls PyProof.Rows
/-- the dict of an object that is being made: names and values -/
def EntIs (P : Params) (x : Str × PV) (e : DictEntry) : Prop := ∃ t v, e = ⟨PyData.keyHash P x.1, .str x.1 t, v⟩ ∧ Fits x.2 v ∧ handedIn v = true
def Ents (P : Params) : List (Str × PV) → List DictEntry → Prop
  | [], es => es = []
  | x :: fs, es => ∃ e r, es = e :: r ∧ EntIs P x e ∧ Ents P fs r
noncomputable def putF (f : Str) (p : PV) : List (Str × PV) → List (Str × PV)
  | [] => [(f, p)]
  | x :: r => bif x.1 == f then (x.1, p) :: r else x :: putF f p r
noncomputable def getF (f : Str) : List (Str × PV) → Option PV
  | [] => none
  | x :: r => bif x.1 == f then some x.2 else getF f r
theorem ents_put {P : Params} {f : Str} {p : PV} {v : Value} {t : Tok} (hv : Fits p v) (hh : handedIn v = true) : ∀ {fs : List (Str × PV)} {es : List DictEntry}, Ents P fs es → Ents P (putF f p fs) (putL f (PyData.keyHash P f) (.str f t) v es)
  | [], es, h => by
    cases h
    exact ⟨_, _, rfl, ⟨t, v, rfl, hv, hh⟩, rfl⟩
  | x :: fs, es, ⟨e, r, h1, ⟨t', v', h2, h3, h4⟩, h5⟩ => by
    subst h1; subst h2
    have ih := ents_put (P := P) (f := f) (t := t) hv hh h5
    unfold putF putL
    show Ents P (bif x.1 == f then _ else _) (if (x.1 == f) = true then _ else _)
    cases x.1 == f
    · exact ⟨_, _, rfl, ⟨t', v', rfl, h3, h4⟩, ih⟩
    · exact ⟨_, _, rfl, ⟨t', v, rfl, hv, hh⟩, h5⟩
theorem putL_len {f : Str} {i : Int} {k v : Value} : ∀ {es : List DictEntry}, (putL f i k v es).length = putN f es es.length
  | [] => rfl
  | e :: r => by
    have ih := putL_len (f := f) (i := i) (k := k) (v := v) (es := r)
    unfold putN at ih ⊢
    unfold putL
    rw [List.any_cons]
    cases e.key.isStr f
    · rw [Bool.false_or, if_neg Bool.false_ne_true, List.length_cons, ih, List.length_cons]
      split <;> rfl
    · rfl
theorem ents_len {P : Params} : ∀ {fs : List (Str × PV)} {es : List DictEntry}, Ents P fs es → es.length = fs.length
  | [], es, h => by cases h; rfl
  | x :: fs, es, ⟨e, r, h1, _, h5⟩ => by subst h1; rw [List.length_cons, List.length_cons, ents_len h5]
theorem getL_cons {f g : Str} {i : Int} {t : Tok} {v : Value} {r : List DictEntry} : getL f (⟨i, .str g t, v⟩ :: r) = bif g == f then some (some v) else getL f r := by
  unfold getL
  cases h : (g == f)
  · rw [List.find?_cons_of_neg (by show ¬ (g == f) = true; rw [h]; exact Bool.false_ne_true), List.any_cons]; rfl
  · rw [List.find?_cons_of_pos (by show (g == f) = true; exact h)]; rfl
theorem ents_get {P : Params} {f : Str} : ∀ {fs : List (Str × PV)} {es : List DictEntry}, Ents P fs es → (getL f es).isSome = true ∧ ∀ p, getF f fs = some p → ∃ v, getL f es = some (some v) ∧ Fits p v ∧ handedIn v = true
  | [], es, h => by cases h; exact ⟨rfl, fun p e => by cases e⟩
  | x :: fs, es, ⟨e, r, h1, ⟨t', v', h2, h3, h4⟩, h5⟩ => by
    subst h1; subst h2
    have ih := ents_get (f := f) h5
    rw [getL_cons]
    unfold getF
    cases x.1 == f
    · exact ih
    · exact ⟨rfl, fun p e => by cases e; exact ⟨v', rfl, h3, h4⟩⟩
noncomputable def dOf (S SD : Addr) (es : List DictEntry) (r : Led) : Led := (SD, dictOf es es.length) :: (S, instObj 830 SD) :: r
section
variable {C : Cx} {m : Mp} {P : Flow → Mp → Led → Prop} {rest : List Stmt} {ks : List (List Stmt)} {S SD : Addr} {fs : List (Str × PV)} {r : Led}
/-- statements from an object S whose dict holds fs -/
def InS (C : Cx) (P : Flow → Mp → Led → Prop) (S SD : Addr) (fs : List (Str × PV)) (r : Led) (m : Mp) (l : List Stmt) (ks : List (List Stmt)) : Prop := ∀ es, Ents C.w.params fs es → Sts C P m (dOf S SD es r) l ks
theorem Fits.handed {p : PV} {v : Value} (h : Fits p v) : handedIn v = true := by
  cases p
  · obtain ⟨t, rfl⟩ := h; rfl
  · obtain ⟨t, rfl⟩ := h; rfl
  all_goals (cases h; rfl)
/-- the free part of the ledger does not hold the dict -/
theorem kp_in {es : List DictEntry} {a : Addr × Obj} : Kp (dOf S SD es (a :: r)) (a :: dOf S SD es r) := fun p hp => by
  rcases List.mem_cons.mp hp with h | hp
  · exact .tail _ (h ▸ .head _)
  · rcases List.mem_cons.mp hp with h | hp
    · exact .tail _ (.tail _ (h ▸ .head _))
    · rcases List.mem_cons.mp hp with h | hp
      · exact h ▸ .head _
      · exact .tail _ (.tail _ (.tail _ hp))
abbrev Off (S SD : Addr) (r : Led) : Prop := ∀ p ∈ (S, instObj 830 SD) :: r, p.1 ≠ SD
theorem Off.cons {a : Addr × Obj} (h : Off S SD r) (ha : @LT.lt Nat _ SD a.1) : Off S SD (a :: r) := fun p hp => by
  rcases List.mem_cons.mp hp with h' | hp
  · exact h' ▸ h _ (.head _)
  · rcases List.mem_cons.mp hp with h' | hp
    · exact h' ▸ Nat.ne_of_gt ha
    · exact h _ (.tail _ hp)
theorem put_at {nd nu : Nat} (ok : C.Ok nd nu) {s : Shared} {es : List DictEntry} {E : Value → Shared → Prop} {Q : Unit → Shared → Prop} {f : Str} {v : Value} {p : PV} (hes : Ents C.w.params fs es) (ho : Off S SD r) (ht : takerIn (K C.w.params) 830 f = some none) (hz : fs.length.ble 100 = true) (F : Fr C.h₀ C.L s.heap m) (N : News C.h₀ C.L s.heap (dOf S SD es r)) (hv : Fits p v)
    (q : ∀ es' h', Ents C.w.params (putF f p fs) es' → Fr C.h₀ C.L h' m → News C.h₀ C.L h' (dOf S SD es' r) → Q () { s with heap := h', toks := s.toks + 2 }) : wpAny (model pw C.w) C.A (setAttr (.ref S) f v) Q E s :=
  set_dict (es := es) (n := es.length) F ok.X N (InstAt.of_news N (.tail _ (.head _)) (.head _)) rfl lex_setattr lex_over ht lex_hasDict (ents_get hes).1 (es' := putL f (PyData.keyHash C.w.params f) (.str f (s.toks + 1)) v es) (n' := (putL f (PyData.keyHash C.w.params f) (.str f (s.toks + 1)) v es).length) (by rw [putL_len]) (.head ho)
    (by have hz := Nat.le_of_ble_eq_true hz; rw [putL_len, ents_len hes]; unfold putN; split <;> (first | lia | omega)) fun h2 F2 N2 => q _ h2 (ents_put hv hv.handed hes) F2 N2
theorem InS.setG {nd nu : Nat} (ok : C.Ok nd nu) (hm : m (Str.ofString "self") = some (.ref S)) (hs : C.env.kindOf (Str.ofString "self") = some .local) {f : Str} {np ap pos : Pos} {e : Expr} (hsw : swapsWith e (some (.Attribute (.Name (Str.ofString "self") np) f ap)) pos.line C.env = pure false)
    (ht : takerIn (K C.w.params) 830 f = some none) (hz : fs.length.ble 100 = true) {R : Value → Led → Prop} (he : ∀ es, Ents C.w.params fs es → Eve C m (dOf S SD es r) e fun v n' => ∃ r', R v r' ∧ Kp (dOf S SD es r') n')
    (h : ∀ v r', R v r' → ∃ p, Fits p v ∧ Off S SD r' ∧ InS C P S SD (putF f p fs) r' m rest ks) : InS C P S SD fs r m (.Assign [.Attribute (.Name (Str.ofString "self") np) f ap] e pos :: rest) ks := fun es hes =>
  Sts.step (R := fun m' n' => m' = m ∧ Sts C P m n' rest ks) (fun _ s _ _ h0 F N q => by
    refine plainObj_wpAny_Assign_Attribute (he es hes h0 F N fun v n1 h' tk l r1 F' N' => ?_) hsw
    obtain ⟨r', hR, kp⟩ := r1
    have N' := news_sub N' kp
    obtain ⟨p, fp, hoff, hI⟩ := h v r' hR
    refine ld (s := { s with heap := h', toks := tk }) F' hm ?_ ok.hk hs (by decide)
    exact put_at (s := { s with heap := h', toks := tk }) ok hes hoff ht hz F' N' fp fun es' h2 hes' F2 N2 => q m _ h2 _ (by rw [ok.lo]; exact Nat.zero_le _) ⟨rfl, hI es' hes'⟩ F2 N2)
    fun m' n' ⟨e1, h⟩ => e1 ▸ h
theorem InS.set {nd nu : Nat} (ok : C.Ok nd nu) (hm : m (Str.ofString "self") = some (.ref S)) (hs : C.env.kindOf (Str.ofString "self") = some .local) (ho : Off S SD r) {f : Str} {np ap pos : Pos} {e : Expr} {p : PV} (hsw : swapsWith e (some (.Attribute (.Name (Str.ofString "self") np) f ap)) pos.line C.env = pure false)
    (ht : takerIn (K C.w.params) 830 f = some none) (hz : fs.length.ble 100 = true) (he : ∀ es, Ents C.w.params fs es → Evp C m (dOf S SD es r) e p) (h : InS C P S SD (putF f p fs) r m rest ks) : InS C P S SD fs r m (.Assign [.Attribute (.Name (Str.ofString "self") np) f ap] e pos :: rest) ks := fun es hes =>
  Sts.step (R := fun m' n' => m' = m ∧ Sts C P m n' rest ks) (fun _ s _ _ h0 F N q => by
    refine plainObj_wpAny_Assign_Attribute (he es hes h0 F N fun v n1 h' tk l r1 F' N' => ?_) hsw
    obtain ⟨fp, kp⟩ := r1
    have N' := news_sub N' kp
    refine ld (s := { s with heap := h', toks := tk }) F' hm ?_ ok.hk hs (by decide)
    exact put_at (s := { s with heap := h', toks := tk }) ok hes ho ht hz F' N' fp fun es' h2 hes' F2 N2 => q m _ h2 _ (by rw [ok.lo]; exact Nat.zero_le _) ⟨rfl, h es' hes'⟩ F2 N2)
    fun m' n' ⟨e1, h⟩ => e1 ▸ h
/-- self.f -/
theorem Evp.selfF {nd nu : Nat} (ok : C.Ok nd nu) (hm : m (Str.ofString "self") = some (.ref S)) (hs : C.env.kindOf (Str.ofString "self") = some .local) {f : Str} {np ap : Pos} {p : PV} {es : List DictEntry} (hes : Ents C.w.params fs es) (hf : getF f fs = some p) (hfi : findIn (K C.w.params) (.ref 830) f = some none) :
    Evp C m (dOf S SD es r) (.Attribute (.Name (Str.ofString "self") np) f ap) p := fun _ s _ h0 F N q => by
  obtain ⟨v, h1, h2, h3⟩ := (ents_get hes).2 p hf
  exact Attribute_Name_ (ld F hm (get_own (n := es.length) (es := es) F ok.X (InstAt.of_news N (.tail _ (.head _)) (.head _)) lex_plainGet lex_hasDict hfi rfl h1 h3 (q v _ s.heap _ (Nat.le_succ_of_le h0) ⟨h2, Kp.rfl⟩ F N)) ok.hk hs (by decide))
/-- self.f += y, of texts -/
theorem InS.more {nd nu : Nat} (ok : C.Ok nd nu) (hm : m (Str.ofString "self") = some (.ref S)) (hs : C.env.kindOf (Str.ofString "self") = some .local) (ho : Off S SD r) {f : Str} {np ap pos cp : Pos} {k : Nat} {x y : Str} (hf : getF f fs = some (.str x)) (hfi : findIn (K C.w.params) (.ref 830) f = some none)
    (ht : takerIn (K C.w.params) 830 f = some none) (hz : fs.length.ble 100 = true) (hl : x.length + y.length ≤ 1000000) {z : Str} (hxy : x ++ y = z) (h : InS C P S SD (putF f (.str z) fs) r m rest ks) : InS C P S SD fs r m (.AugAssign (.Attribute (.Name (Str.ofString "self") np) f ap) .Add (.Constant (.str y) k cp) pos :: rest) ks := fun es hes => by
  subst hxy
  exact
  Sts.step (R := fun m' n' => m' = m ∧ Sts C P m n' rest ks) (fun _ s _ _ h0 F N q => by
    obtain ⟨v, h1, ⟨t1, rfl⟩, h3⟩ := (ents_get hes).2 _ hf
    refine wpAny_AugAssign_AttributeAny (ld F hm (get_own (n := es.length) (es := es) F ok.X (InstAt.of_news N (.tail _ (.head _)) (.head _)) lex_plainGet lex_hasDict hfi rfl h1 h3 (Constant_str (SBL.iadd (fun u k' _ => ?_) (by rw [sizeLine_eq]; (first | lia | omega))))) ok.hk hs (by decide))
    exact put_at (p := .str (x ++ y)) (s := { s with toks := k' }) ok hes ho ht hz F N ⟨u, rfl⟩ fun es' h2 hes' F2 N2 => q m _ h2 _ (by rw [ok.lo]; exact Nat.zero_le _) ⟨rfl, h es' hes'⟩ F2 N2)
    fun m' n' ⟨e1, h⟩ => e1 ▸ h
theorem InS.ifp {t : Expr} {b e : List Stmt} {pos : Pos} {c : Bool} (ht : ∀ es, Ents C.w.params fs es → Tsp C m (dOf S SD es r) t c) (h1 : c = true → InS C P S SD fs r m b (rest :: ks)) (h2 : c = false → InS C P S SD fs r m e (rest :: ks)) : InS C P S SD fs r m (.If t b e pos :: rest) ks :=
  fun es hes => Sts.ifp (ht es hes) (fun h => h1 h es hes) fun h => h2 h es hes
theorem InS.asg {nd nu : Nat} (ok : C.Ok nd nu) {x : Str} {px pos : Pos} {e : Expr} {R : Value → Led → Prop} (hl : C.env.kindOf x = some .local) (hsw : swapsWith e (some (.Name x px)) pos.line C.env = pure false) (he : ∀ es, Ents C.w.params fs es → Eve C m (dOf S SD es r) e fun v n' => ∃ r', R v r' ∧ Kp (dOf S SD es r') n')
    (h : ∀ v r', R v r' → InS C P S SD fs r' (fun y => if y = x then some v else m y) rest ks) : InS C P S SD fs r m (.Assign [.Name x px] e pos :: rest) ks :=
  fun es hes => Sts.asg ok.hk hl hsw (he es hes) fun v n' ⟨r', hR, kp⟩ => Sts.sub (h v r' hR es hes) kp
theorem InS.mono {P' : Flow → Mp → Led → Prop} {l : List Stmt} (h : InS C P S SD fs r m l ks) (hp : ∀ f m' n', P f m' n' → P' f m' n') : InS C P' S SD fs r m l ks := fun es hes => Sts.mono (h es hes) hp
theorem InS.cast {fs' : List (Str × PV)} {l : List Stmt} (e : fs = fs') (h : InS C P S SD fs' r m l ks) : InS C P S SD fs r m l ks := e ▸ h
theorem InS.pop {l : List Stmt} (h : InS C P S SD fs r m l ks) : InS C P S SD fs r m [] (l :: ks) := fun es hes => Sts.pop (h es hes)
theorem Tsp.boolE {n : Led} {e : Expr} {b : Bool} (hp : ∀ whole : Sem Value, isTrue e C.env whole = (do let v ← whole; standAt e.pos; holding [v] (truthy v))) (hn : ∀ o xs p, e ≠ .BoolOp o xs p) (h : Evp C m n e (.bool b)) : Tsp C m n e b :=
  Tst.bool hp hn (Cm.mono h fun v n' e => ⟨b, e.1, rfl, e.2⟩)
/-- deque() -/
theorem Eve.dq {nd nu : Nat} (ok : C.Ok nd nu) {n : Led} {R : Value → Led → Prop} {f : Str} {fp pos : Pos} (hg : nsIn (K C.w.params) mainGlobals f = some (some (.type "collections.deque"))) (hx : C.env.kindOf f = some .globalImplicit) (hd : (f == ("__debug__" : Str)) = false)
    (hcall : eval (.Call (.Name f fp) [] [] pos) C.env = (do callWith pos (← eval (.Name f fp) C.env) [] (backTo pos (starEach [] C.env)) (backToKw pos (keywordEach [] C.env)))) (r : ∀ D, (∀ p ∈ n, p.1 < D) → R (.ref D) ((D, dqO 0 []) :: n)) : Eve C m n (.Call (.Name f fp) [] [] pos) R :=
  fun _ s _ h0 F N q => Call_ (Eve.glob (R := fun v n' => v = .type "collections.deque" ∧ n' = n) ok hg hx hd ⟨rfl, rfl⟩ h0 F N fun fv n1 g1 t1 l1 r1 F1 N1 => by
    obtain ⟨rfl, rfl⟩ := r1
    exact callWith_type0 (call_dq (s := { s with heap := g1, toks := t1 }) F1 N1 fun y h' F' N' lt => q _ _ h' t1 l1 (r y (allLt_all lt)) F' N')) hcall
end
end Mine
namespace Mine
open PySem PySem.W PySem.Calls PyProof.Rows
theorem lex_makes {P : Params} : makesIn (K P) 830 = true := by kernel_rfl
theorem lex_init {P : Params} : findIn (K P) (.ref 830) "__init__" = some (some (.ref 754)) := by kernel_rfl
theorem lex_fn {P : Params} : isFn (K P) (.ref 754) = true := by kernel_rfl
theorem fk_findCls {P : Params} : findCls (K P) (.type "dict") (.type "type") (PySem.Str.ofString "fromkeys") = some (.get (.builtin "classmethod_descriptor.__get__") (.builtin "dict.fromkeys") .none (.type "dict")) := by kernel_rfl
theorem not_mods {h₀ h : Heap} {L y : Addr} {m : Str → Option Value} (hl : h₀.NoLimit) (F : Fr h₀ L h m) (hy : h.objs.size ≤ y) : (y == sysModules) = false := by
  have h1 := modules_low hl
  have h2 : L < h.objs.size := F.ns.lt
  have h3 := F.above
  exact beq_eq_false_iff_ne.mpr (Nat.ne_of_gt (Nat.lt_of_lt_of_le h1 (Nat.le_trans h3 (Nat.le_trans (Nat.le_of_lt h2) hy))))
noncomputable def bracks : List Nat := [40, 41, 91, 93]
theorem fk_four : fkF [] (Str.ofString "()[]").cps.toList = bracks.map fun c => ((⟨#[c]⟩ : Str), Value.none) := by kernel_rfl
theorem mt_four (c : Nat) (h : c ≠ 40 ∧ c ≠ 41 ∧ c ≠ 91 ∧ c ≠ 93) : valueAt (mtF bracks) (c : Int) = none := by
  have e : mtF bracks = [(40, .none), (41, .none), (91, .none), (93, .none)] := by kernel_rfl!
  obtain ⟨h1, h2, h3, h4⟩ := h
  rw [e]
  unfold valueAt
  simp only [List.find?_cons, List.find?_nil]
  have f1 : decide ((40 : Int) = (c : Int)) = false := decide_eq_false (by (first | lia | omega))
  have f2 : decide ((41 : Int) = (c : Int)) = false := decide_eq_false (by (first | lia | omega))
  have f3 : decide ((91 : Int) = (c : Int)) = false := decide_eq_false (by (first | lia | omega))
  have f4 : decide ((93 : Int) = (c : Int)) = false := decide_eq_false (by (first | lia | omega))
  rw [f1, f2, f3, f4]; rfl
theorem wc_ok : ∀ c ∈ wcS.cps.toList, c ≠ 40 ∧ c ≠ 41 ∧ c ≠ 91 ∧ c ≠ 93 := by decide +kernel
theorem wc_wide : wcS.cps.all (· < 128) = false := by decide +kernel
theorem wc_len : wcS.length ≤ 1000 := by decide +kernel
theorem led_keep {s : Shared} {h₀ h' : Heap} {L : Addr} {m : Str → Option Value} {news : List (Addr × Obj)} (F : Fr h₀ L s.heap m) (N : News h₀ L s.heap news) (k : Old s h') : Fr h₀ L h' m ∧ News h₀ L h' news :=
  ⟨⟨F.ns.keeps k, fun b o e => k b o (F.keep b o e), F.above⟩, fun p hp => ⟨k _ _ (N p hp).1, (N p hp).2⟩⟩
def CtrK (w : World) (f : Addr) (nd nu : Nat) (pos : List Value) (kw : List (Str × Value)) (pre : List (Addr × Obj) → Prop) (post : List (Addr × Obj) → Value → List (Addr × Obj) → Prop) : Prop :=
  ∀ (dp un : Nat) (gd : Option (List Code)) (cn : Str) (cs : Scope) (a : Addr) (ccd : Value) (cl : List (Str × Addr)) (outer : List Env) (A₀ : Around) (base h₀ : Heap) (L : Addr) (m : Str → Option Value)
    (news : List (Addr × Obj)) (s : Shared) (mg mb : Str → Option Value) (mean : ExcName → Option Value) (Q E : Value → Shared → Prop),
    Below A₀ base outer h₀ → Fr h₀ L s.heap m → (K w.params).In h₀ → News h₀ L s.heap news → Top q (looseW q loose) mean mg mb h₀ → cs.kind = .function → dp + nd < recursionLimit → un + nu < cLine → pre news →
    (∀ v tk h' news', Fr h₀ L h' m → News h₀ L h' news' → post news v news' → Q v { s with heap := h', toks := tk }) →
    wpAny (model pw w) (ktrTop dp un gd cn cs L a ccd cl outer) (call (.ref f) pos kw) Q E s
theorem ns_deque {P : Params} : nsIn (K P) mainGlobals (Str.ofString "deque") = some (some (.type "collections.deque")) := by kernel_rfl
theorem ns_sio {P : Params} : nsIn (K P) mainGlobals (Str.ofString "StringIO") = some (some (.ref 695)) := by kernel_rfl
theorem keep695 {P : Params} : keepIn (K P) (.ref 695) = true := by kernel_rfl
theorem ns_str {P : Params} : nsIn (K P) mainGlobals (Str.ofString "str") = some none := by kernel_rfl
theorem ns_dict {P : Params} : nsIn (K P) mainGlobals (Str.ofString "dict") = some none := by kernel_rfl
section
variable {C : Cx} {m : Mp} {n : Led} {R : Value → Led → Prop}
theorem gm_trans {n : Led} {x : Str} {t : Tok} : Gm C n (.str x t) (Str.ofString "translate") "str.translate" := fun _ _ _ _ _ h => getMethod_builtin (T := "str") rfl PySem.F.plainAttrs_str PySem.F.slot_str_translate PySem.F.type_str_translate (fun a e => by cases e) h
def IsMt (C : Cx) (T : Addr) (o : Obj) : Prop := (T == sysModules) = false ∧ o.IsDictOf (intKind pw C.w) (mtF bracks)
/-- s.translate(t) -/
theorem Evp.trans {nd nu : Nat} (ok : C.Ok nd nu) {o e : Expr} {apos pos : Pos} {T : Addr} {oT : Obj} (hbase : attributeBase o (Str.ofString "translate") C.env (eval o C.env) = eval o C.env) (hline : (apos.endLine == pos.line) = true) (he : starEach [e] C.env = [(false, eval e C.env)]) (h1 : Evp C m n o (.str wcS)) (h2 : Evp C m n e (.ref T)) (hm : (T, oT) ∈ n) (hT : IsMt C T oT) :
    Evp C m n (.Call (.Attribute o (Str.ofString "translate") apos) [e] [] pos) (.str wcS) :=
  Evp.smeth1 hbase hline he (fun t n => gm_trans) h1 h2 fun t v fv _ s _ h0 F N q => by
    cases fv
    refine translate_s ok.hh hT.1 (Heap.dictOf_iff.mpr ⟨oT, (N _ hm).1, hT.2⟩) (fun c hc => mt_four c (wc_ok c hc)) wc_wide wc_len fun h' t' tk old => ?_
    obtain ⟨F', N'⟩ := led_keep F N old
    exact q _ n h' tk (by rw [ok.lo]; exact Nat.zero_le _) ⟨⟨t', rfl⟩, Kp.rfl⟩ F' N'
/-- dict.fromkeys(e) -/
theorem Eve.fk {nd nu : Nat} (ok : C.Ok nd nu) (hl : C.h₀.NoLimit) {e : Expr} {dp apos pos : Pos} (hbase : attributeBase (.Name (Str.ofString "dict") dp) (Str.ofString "fromkeys") C.env (eval (.Name (Str.ofString "dict") dp) C.env) = eval (.Name (Str.ofString "dict") dp) C.env) (hline : (apos.endLine == pos.line) = true)
    (hform : methodCallForm ([e].length + ([] : List Keyword).length) (backTo pos (starEach [e] C.env)) (backToKw pos (keywordEach [] C.env)) = true) (he : starEach [e] C.env = [(false, eval e C.env)]) (hx : C.env.kindOf (Str.ofString "dict") = some .globalImplicit) (h1 : ∀ n, Evp C m n e (.str pcS))
    (r : ∀ D o n', (D == sysModules) = false → o.IsDictOf (strKind pw C.w) (bracks.map fun c => ((⟨#[c]⟩ : Str), Value.none)) → (D, o) ∈ n' → Kp n n' → R (.ref D) n') : Eve C m n (.Call (.Attribute (.Name (Str.ofString "dict") dp) (Str.ofString "fromkeys") apos) [e] [] pos) R :=
  fun _ s _ h0 F N q => mcall_ hbase hline hform (Eve.boot (R := fun v n' => v = .type "dict" ∧ n' = n) ok ns_dict boot_dict (by decide) hx (by decide) ⟨rfl, rfl⟩ h0 F N fun v n1 g1 t1 l1 r1 F1 N1 pl => by
    obtain ⟨rfl, rfl⟩ := r1
    refine getm_fk (s := { s with heap := g1, toks := t1 }) F1 N1 ok.X fk_findCls fun M h2 F2 N2 _ => ?_
    refine callWith_boundFK (e := e) (rest := []) N2 (.head _) ?_ (by rw [he]; rfl) (by rfl)
    refine Sq.consp (R := fun vs n' => (∃ t, vs = [.str pcS t]) ∧ Kp ((M, boundFK) :: n1) n') (by rw [he]; rfl) (h1 _) (fun v fv => Sq.nil ?_) pos (s := { s with heap := h2, toks := t1 + 1 }) (by rw [ok.lo]; exact Nat.zero_le _) F2 N2 ?_
    · obtain ⟨t, rfl⟩ := fv
      exact ⟨⟨t, rfl⟩, Kp.rfl⟩
    · rintro vs n3 h3 t3 l3 ⟨⟨t, rfl⟩, kp⟩ F3 N3
      refine ⟨(N3 _ (kp _ (.head _))).1, call_fk (s := { s with heap := h3, toks := t3 }) ok.hh N3 (kp _ (.head _)) (by decide) fun D h4 t4 ge old dD => ?_⟩
      rw [fk_four] at dD
      obtain ⟨oD, ho, isD⟩ := Heap.dictOf_iff.mp dD
      obtain ⟨F4, N4, _⟩ := led_new (s := { s with heap := h3, toks := t3 }) F3 N3 ge old ho
      exact q _ _ h4 t4 (by rw [ok.lo]; exact Nat.zero_le _) (r D oD _ (not_mods hl F3 ge) isD (.head _) fun p hp => .tail _ (kp _ (.tail _ hp))) F4 N4)
/-- s.maketrans(e) -/
theorem Eve.mkt {nd nu : Nat} (ok : C.Ok nd nu) (hl : C.h₀.NoLimit) {o e : Expr} {apos pos : Pos} {x : Str} (hbase : attributeBase o (Str.ofString "maketrans") C.env (eval o C.env) = eval o C.env) (hline : (apos.endLine == pos.line) = true)
    (hform : methodCallForm ([e].length + ([] : List Keyword).length) (backTo pos (starEach [e] C.env)) (backToKw pos (keywordEach [] C.env)) = true) (he : starEach [e] C.env = [(false, eval e C.env)]) (h1 : Evp C m n o (.str x))
    (h2 : Eve C m n e fun v n' => ∃ D o, v = .ref D ∧ (D == sysModules) = false ∧ o.IsDictOf (strKind pw C.w) (bracks.map fun c => ((⟨#[c]⟩ : Str), Value.none)) ∧ (D, o) ∈ n' ∧ Kp n n')
    (r : ∀ T o n', IsMt C T o → (∀ p ∈ n, p.1 < T) → (T, o) ∈ n' → Kp n n' → R (.ref T) n') : Eve C m n (.Call (.Attribute o (Str.ofString "maketrans") apos) [e] [] pos) R :=
  fun _ s _ h0 F N q => mcall_ hbase hline hform (h1 h0 F N fun v n1 g1 t1 l1 r1 F1 N1 pl => by
    obtain ⟨⟨t, rfl⟩, k1⟩ := r1
    obtain ⟨hh, gg, dd, tt, oo⟩ := s
    refine getm_mt ?_
    refine callWith_builtin1 (e := e) (rest := []) ?_ (by rw [he]; rfl) (by rfl)
    refine Sq.cons (R := fun vs n' => ∃ D o, vs = [.ref D] ∧ (D == sysModules) = false ∧ o.IsDictOf (strKind pw C.w) (bracks.map fun c => ((⟨#[c]⟩ : Str), Value.none)) ∧ (D, o) ∈ n' ∧ Kp n n') (by rw [he]; rfl) h2 (fun v n' r2 => Sq.nil ?_) pos (s := ⟨g1, gg, dd, t1 + 1, oo⟩) (by rw [ok.lo]; exact Nat.zero_le _) F1 (news_sub N1 k1) ?_
    · obtain ⟨D, o, rfl, a, b, c, d⟩ := r2
      exact ⟨D, o, rfl, a, b, c, d⟩
    · rintro vs n3 h3 t3 l3 ⟨D, o, rfl, hD, isD, mD, kp⟩ F3 N3
      refine mt_run (s := ⟨h3, gg, dd, t3, oo⟩) hD (Heap.dictOf_iff.mpr ⟨o, (N3 _ mD).1, isD⟩) (by decide) fun T h4 t4 ge old dT => ?_
      obtain ⟨oT, ho, isT⟩ := Heap.dictOf_iff.mp dT
      obtain ⟨F4, N4, lt⟩ := led_new (s := ⟨h3, gg, dd, t3, oo⟩) F3 N3 ge old ho
      exact q _ _ h4 t4 (by rw [ok.lo]; exact Nat.zero_le _) (r T oT _ ⟨not_mods hl F3 ge, isT⟩ (fun p hp => allLt_all lt p (kp p hp)) (.head _) fun p hp => .tail _ (kp p hp)) F4 N4)
/-- isinstance(e, str) of a text -/
theorem Tsp.strStr {nd nu : Nat} (ok : C.Ok nd nu) {e : Expr} {fp lp pos : Pos} {x : Str} (hx : C.env.kindOf (Str.ofString "isinstance") = some .globalImplicit) (hxl : C.env.kindOf (Str.ofString "str") = some .globalImplicit)
    (hcall : eval (.Call (.Name (Str.ofString "isinstance") fp) [e, .Name (Str.ofString "str") lp] [] pos) C.env = (do callWith pos (← eval (.Name (Str.ofString "isinstance") fp) C.env) [] (backTo pos (starEach [e, .Name (Str.ofString "str") lp] C.env)) (backToKw pos (keywordEach [] C.env))))
    (he : starEach [e, .Name (Str.ofString "str") lp] C.env = (false, eval e C.env) :: starEach [.Name (Str.ofString "str") lp] C.env)
    (hp : ∀ whole : Sem Value, isTrue (.Call (.Name (Str.ofString "isinstance") fp) [e, .Name (Str.ofString "str") lp] [] pos) C.env whole = (do let v ← whole; standAt pos; holding [v] (truthy v)))
    (h1 : Evp C m n e (.str x)) : Tsp C m n (.Call (.Name (Str.ofString "isinstance") fp) [e, .Name (Str.ofString "str") lp] [] pos) true :=
  Tst.bool hp (by intro o xs p h; cases h) (Eve.callB (Eve.boot ok ns_isi boot_isinstance (by decide) hx (by decide) ⟨rfl, rfl⟩) hcall he (by exact rfl) (Sq.consp he h1 fun v fv => by
    obtain ⟨t, rfl⟩ := fv
    refine Sq.cons (R1 := fun v n' => v = .type "str" ∧ n' = n) (by exact rfl) (Eve.boot ok ns_str boot_str (by decide) hxl (by decide) ⟨rfl, rfl⟩) fun v n1 e => ?_
    obtain ⟨rfl, rfl⟩ := e
    exact Sq.nil fun _ s _ h0 F N q => IsiPair.str_str (q _ n1 s.heap _ (by (first | lia | omega)) ⟨true, rfl, rfl, Kp.rfl⟩ F N)))
/-- e is True, of a text -/
theorem Tsp.isTrue {e : Expr} {k : Nat} {cp pos : Pos} {x : Str} (h1 : Evp C m n e (.str x)) : Tsp C m n (.Compare e [.Is] [.Constant (.bool true) k cp] pos) false :=
  Tst.cmpG (by exact rfl) h1 fun a n1 e1 => Cm.mono (Cm.sub (Evp.bool (b := true)) e1.2) fun c n2 e2 _ s _ h0 F N q => by
    obtain ⟨⟨t, rfl⟩, _⟩ := e1
    obtain ⟨e, k⟩ := e2
    cases e
    exact wpAny_is_other (by exact rfl) (by intro e; cases e) (q _ n2 s.heap s.toks h0 ⟨false, rfl, rfl, k⟩ F N)
end
end Mine
namespace Mine
open PySem PySem.W PySem.Calls PyProof.Rows
theorem fill10 : PySem.Challenge.rw_kl0186_01 = PySem.Challenge.rw_kl0186_01 ∧ K = K := by
  w_on
  k_fill
  exact ⟨rfl, rfl⟩
local macro_rules | `(tactic| walk_at "lk") => `(tactic| first | with_reducible assumption | exact if_pos rfl | (refine (if_neg (by decide)).trans ?_; walk_at "lk"))
local macro_rules | `(tactic| walk_at "ev") => `(tactic| first | (with_reducible show Evp _ _ _ (Expr.Constant (Const.str _) _ _) _; exact Evp.str) | (with_reducible show Evp _ _ _ (Expr.Constant (Const.int _) _ _) _; exact Evp.int) | exact Evp.loc (by exact rfl) (by exact rfl) (by decide) (by walk_at "lk") (by constructor))
noncomputable def mkV : PV → Tok → Value
  | .str x, t => .str x t
  | .int i, t => .int i t
  | .bool b, _ => .bool b
  | .non, _ => .none
  | .ref a, _ => .ref a
theorem fits_mk {p : PV} {v : Value} (h : Fits p v) : ∃ t, v = mkV p t := by
  cases p
  · exact h
  · exact h
  all_goals exact ⟨0, h⟩
noncomputable def mkE (P : Params) : List (Str × PV) → (Nat → Tok × Tok) → List DictEntry
  | [], _ => []
  | x :: fs, κ => ⟨PyData.keyHash P x.1, .str x.1 (κ 0).1, mkV x.2 (κ 0).2⟩ :: mkE P fs fun i => κ (i + 1)
theorem ents_mk {P : Params} : ∀ {fs : List (Str × PV)} {es : List DictEntry}, Ents P fs es → ∃ κ, es = mkE P fs κ
  | [], es, h => ⟨fun _ => (0, 0), h⟩
  | x :: fs, es, ⟨e, r, h1, ⟨t, v, h2, h3, _⟩, h5⟩ => by
    obtain ⟨κ, h⟩ := ents_mk h5
    obtain ⟨u, h6⟩ := fits_mk h3
    exact ⟨fun i => match i with | 0 => (t, u) | i + 1 => κ i, by rw [h1, h2, h6, h]; rfl⟩
noncomputable def fsB : List (Str × PV) := [(Str.ofString "infile", .non), (Str.ofString "posix", .bool true), (Str.ofString "eof", .non), (Str.ofString "commenters", .str (Str.ofString "#")),
  (Str.ofString "wordchars", .str (Str.ofString "abcdfeghijklmnopqrstuvwxyzABCDEFGHIJKLMNOPQRSTUVWXYZ0123456789_ßàáâãäåæçèéêëìíîïðñòóôõöøùúûüýþÿÀÁÂÃÄÅÆÇÈÉÊËÌÍÎÏÐÑÒÓÔÕÖØÙÚÛÜÝÞ"))]
noncomputable def fsC (X PB FS : Addr) : List (Str × PV) := (Str.ofString "instream", .ref X) :: fsB ++ [(Str.ofString "whitespace", .str wsS), (Str.ofString "whitespace_split", .bool false), (Str.ofString "quotes", .str qtS), (Str.ofString "escape", .str (Str.ofString "\\")),
  (Str.ofString "escapedquotes", .str (Str.ofString "\"")), (Str.ofString "state", .str (Str.ofString " ")), (Str.ofString "pushback", .ref PB), (Str.ofString "lineno", .int 1), (Str.ofString "debug", .int 0), (Str.ofString "token", .str (Str.ofString "")),
  (Str.ofString "filestack", .ref FS), (Str.ofString "source", .non)]
noncomputable def lexFs (X PB FS PC : Addr) : List (Str × PV) := putF (Str.ofString "wordchars") (.str wcS) (fsC X PB FS) ++ [(Str.ofString "_punctuation_chars", .str pcS), (Str.ofString "_pushback_chars", .ref PC)]
noncomputable def lexK (κ : Nat → Tok × Tok) (k1 k2 k3 bt : Tok) : Nat → Tok
  | 20 => (κ 4).2 | 21 => (κ 5).2 | 22 => (κ 6).2 | 23 => (κ 8).2 | 24 => (κ 9).2 | 25 => (κ 10).2 | 26 => (κ 14).2 | 27 => (κ 18).2 | 28 => k1 | 29 => k2 | 30 => k3 | 31 => bt
  | i => (κ i).1
theorem lex_es {P : Params} {S SD X D PB FS PC : Addr} {κ : Nat → Tok × Tok} {k1 k2 k3 bt : Tok} : mkE P (lexFs X PB FS PC) κ = lexEs P ⟨S, SD, X, D, PB, FS, PC, lexK κ k1 k2 k3 bt⟩ false (.str (Str.ofString " ") (κ 11).2) (.str (Str.ofString "") (κ 15).2) (.int 1 (κ 13).2) := by kernel_rfl
noncomputable abbrev inC (p : Pl) : Cx := ⟨p.w, p.A, Str.ofString "shlex.__init__", c39_0, p.L, p.a, p.cd, p.h₀, 0⟩
/-- a new deque D above y -/
def DqR (y : Addr) (r : Led) (v : Value) (r' : Led) : Prop := ∃ D, v = .ref D ∧ r' = (D, dqO 0 []) :: r ∧ @LT.lt Nat _ y D
def MtR (C : Cx) (y : Addr) (r : Led) (v : Value) (r' : Led) : Prop := ∃ T o, v = .ref T ∧ IsMt C T o ∧ @LT.lt Nat _ y T ∧ r' = (T, o) :: r
/-- what the last part of the making leaves -/
def InP (w : World) (S SD X PB FS : Addr) (r : Led) (f : Flow) (_ : Mp) (n : Led) : Prop := f = .next ∧ ∃ (PC : Addr) (es : List DictEntry) (oT : Addr × Obj), @LT.lt Nat _ FS PC ∧ Ents w.params (lexFs X PB FS PC) es ∧ n = dOf S SD es (oT :: (PC, dqO 0 []) :: r)
theorem kp_in2 {S SD : Addr} {es : List DictEntry} {a : Addr × Obj} {r n : Led} (h : a ∈ n) (k : Kp (dOf S SD es r) n) : Kp (dOf S SD es (a :: r)) n := fun p hp => by
  rcases List.mem_cons.mp (kp_in p hp) with h' | hp
  · exact h' ▸ h
  · exact k p hp
theorem in_c {p : Pl} {nd nu : Nat} (ok : (inC p).Ok nd nu) (hl : p.h₀.NoLimit) {m : Mp} {S SD X PB FS : Addr} {r : Led} (hm : m (Str.ofString "self") = some (.ref S)) {tp : Tok} (hp : m (Str.ofString "punctuation_chars") = some (.str pcS tp))
    (h0 : @LT.lt Nat _ SD S) (h1 : @LT.lt Nat _ SD FS) (ho : Off S SD ((FS, dqO 0 []) :: r)) : InS (inC p) (InP p.w S SD X PB FS ((FS, dqO 0 []) :: r)) S SD (fsC X PB FS) ((FS, dqO 0 []) :: r) m (b39_0.drop 19) [] := by
  refine InS.ifp (fun es hes => Tsp.not (Tsp.strN (by intro whole; exact rfl) rfl (y := pcS) (by decide) (by walk_at "ev"))) (fun h => by cases h) fun _ => ?_
  refine InS.ifp (fun es hes => Tsp.isTrue (x := pcS) (by walk_at "ev")) (fun h => by cases h) fun _ => ?_
  refine InS.pop (InS.pop ?_)
  refine InS.set ok hm (by exact rfl) ho (p := .str pcS) (by exact rfl) (by kernel_rfl!) (by kernel_rfl!) (fun es hes => by walk_at "ev") ?_
  refine InS.ifp (fun es hes => Tsp.strN (by intro whole; exact rfl) rfl (y := pcS) (by decide) (by walk_at "ev")) (fun _ => ?_) fun h => by cases h
  refine InS.setG ok hm (by exact rfl) (by exact rfl) (by kernel_rfl!) (by kernel_rfl!) (R := DqR FS ((FS, dqO 0 []) :: r)) (fun es hes => Eve.dq ok ns_deque (by exact rfl) (by decide) (by exact rfl) fun D lt => ⟨_, ⟨D, rfl, rfl, lt _ (.tail _ (.tail _ (.head _)))⟩, kp_in⟩) ?_
  rintro _ _ ⟨PC, rfl, rfl, h5⟩
  have ho' := ho.cons (a := (PC, dqO 0 [])) (Nat.lt_trans h1 h5)
  refine ⟨.ref PC, rfl, ho', ?_⟩
  refine InS.more ok hm (by exact rfl) ho' (x := Str.ofString "abcdfeghijklmnopqrstuvwxyzABCDEFGHIJKLMNOPQRSTUVWXYZ0123456789_ßàáâãäåæçèéêëìíîïðñòóôõöøùúûüýþÿÀÁÂÃÄÅÆÇÈÉÊËÌÍÎÏÐÑÒÓÔÕÖØÙÚÛÜÝÞ") (z := wcS) (by kernel_rfl!) (by kernel_rfl!) (by kernel_rfl!) (by kernel_rfl!) (by decide +kernel) (by kernel_rfl!) ?_
  refine InS.asg ok (by exact rfl) (by exact rfl) (R := MtR (inC p) S ((PC, dqO 0 []) :: (FS, dqO 0 []) :: r)) (fun es hes => Eve.mkt ok hl (by exact rfl) (by exact rfl) (by exact rfl) (by exact rfl) (Evp.selfF ok hm (by exact rfl) hes (p := .str wcS) (by kernel_rfl!) (by kernel_rfl!)) (Eve.fk ok hl (by exact rfl) (by exact rfl) (by exact rfl) (by exact rfl) (by exact rfl) (fun n => by walk_at "ev") fun D o n' a b c d => ⟨D, o, rfl, a, b, c, d⟩) fun T o n' hT lt mT kp => ⟨_, ⟨T, o, rfl, hT, lt _ (.tail _ (.head _)), rfl⟩, kp_in2 mT kp⟩) ?_
  rintro _ _ ⟨T, oT, rfl, hT, lT, rfl⟩
  refine InS.set ok (by walk_at "lk") (by exact rfl) (ho'.cons (Nat.lt_trans h0 lT)) (p := .str wcS) (by exact rfl) (by kernel_rfl!) (by kernel_rfl!) (fun es hes => Evp.trans ok (by exact rfl) (by exact rfl) (by exact rfl) (Evp.selfF ok (by walk_at "lk") (by exact rfl) hes (by kernel_rfl!) (by kernel_rfl!)) (by walk_at "ev") (.tail _ (.tail _ (.head _))) hT) ?_
  exact InS.pop (InS.cast (fs' := lexFs X PB FS PC) (by kernel_rfl!) fun es hes => Sts.nil ⟨rfl, PC, es, (T, oT), h5, hes, rfl⟩)
def InQ (w : World) (S SD X : Addr) (r : Led) (f : Flow) (m : Mp) (n : Led) : Prop := ∃ PB FS, @LT.lt Nat _ X PB ∧ @LT.lt Nat _ PB FS ∧ InP w S SD X PB FS ((FS, dqO 0 []) :: (PB, dqO 0 []) :: r) f m n
def InA (w : World) (S SD : Addr) (x : Str) (r : Led) (f : Flow) (m : Mp) (n : Led) : Prop := ∃ (X D : Addr) (k1 k2 k3 bt pt : Tok), @LT.lt Nat _ S D ∧ @LT.lt Nat _ D X ∧ InQ w S SD X ((D, sioF w.params k1 k2 k3 x bt 0 pt) :: (X, instObj 695 D) :: r) f m n
def SioR (w : World) (S : Addr) (x : Str) (r : Led) (v : Value) (r' : Led) : Prop := ∃ (X D : Addr) (k1 k2 k3 bt pt : Tok), v = .ref X ∧ @LT.lt Nat _ S D ∧ @LT.lt Nat _ D X ∧ r' = (D, sioF w.params k1 k2 k3 x bt 0 pt) :: (X, instObj 695 D) :: r
theorem in_b {p : Pl} {nd nu : Nat} (ok : (inC p).Ok nd nu) (hl : p.h₀.NoLimit) {m : Mp} {S SD X : Addr} {r : Led} (hm : m (Str.ofString "self") = some (.ref S)) {tp : Tok} (hp : m (Str.ofString "punctuation_chars") = some (.str pcS tp))
    (h0 : @LT.lt Nat _ SD S) (h1 : @LT.lt Nat _ S X) {oX : Obj} (hX : (X, oX) ∈ r) (ho : Off S SD r) : InS (inC p) (InQ p.w S SD X r) S SD ((Str.ofString "instream", .ref X) :: fsB) r m (b39_0.drop 7) [] := by
  refine InS.set ok hm (by exact rfl) ho (p := .str wsS) (by exact rfl) (by kernel_rfl!) (by kernel_rfl!) (fun es hes => by walk_at "ev") ?_
  refine InS.set ok hm (by exact rfl) ho (p := .bool false) (by exact rfl) (by kernel_rfl!) (by kernel_rfl!) (fun es hes => Evp.bool) ?_
  refine InS.set ok hm (by exact rfl) ho (p := .str qtS) (by exact rfl) (by kernel_rfl!) (by kernel_rfl!) (fun es hes => by walk_at "ev") ?_
  refine InS.set ok hm (by exact rfl) ho (p := .str (Str.ofString "\\")) (by exact rfl) (by kernel_rfl!) (by kernel_rfl!) (fun es hes => by walk_at "ev") ?_
  refine InS.set ok hm (by exact rfl) ho (p := .str (Str.ofString "\"")) (by exact rfl) (by kernel_rfl!) (by kernel_rfl!) (fun es hes => by walk_at "ev") ?_
  refine InS.set ok hm (by exact rfl) ho (p := .str (Str.ofString " ")) (by exact rfl) (by kernel_rfl!) (by kernel_rfl!) (fun es hes => by walk_at "ev") ?_
  refine InS.setG ok hm (by exact rfl) (by exact rfl) (by kernel_rfl!) (by kernel_rfl!) (R := DqR X r) (fun es hes => Eve.dq ok ns_deque (by exact rfl) (by decide) (by exact rfl) fun D lt => ⟨_, ⟨D, rfl, rfl, lt _ (.tail _ (.tail _ hX))⟩, kp_in⟩) ?_
  rintro _ _ ⟨PB, rfl, rfl, lPB⟩
  have ho1 := ho.cons (a := (PB, dqO 0 [])) (Nat.lt_trans h0 (Nat.lt_trans h1 lPB))
  refine ⟨.ref PB, rfl, ho1, ?_⟩
  refine InS.set ok hm (by exact rfl) ho1 (p := .int 1) (by exact rfl) (by kernel_rfl!) (by kernel_rfl!) (fun es hes => by walk_at "ev") ?_
  refine InS.set ok hm (by exact rfl) ho1 (p := .int 0) (by exact rfl) (by kernel_rfl!) (by kernel_rfl!) (fun es hes => by walk_at "ev") ?_
  refine InS.set ok hm (by exact rfl) ho1 (p := .str (Str.ofString "")) (by exact rfl) (by kernel_rfl!) (by kernel_rfl!) (fun es hes => by walk_at "ev") ?_
  refine InS.setG ok hm (by exact rfl) (by exact rfl) (by kernel_rfl!) (by kernel_rfl!) (R := DqR PB ((PB, dqO 0 []) :: r)) (fun es hes => Eve.dq ok ns_deque (by exact rfl) (by decide) (by exact rfl) fun D lt => ⟨_, ⟨D, rfl, rfl, lt _ (.tail _ (.tail _ (.head _)))⟩, kp_in⟩) ?_
  rintro _ _ ⟨FS, rfl, rfl, lFS⟩
  have lF : @LT.lt Nat _ SD FS := Nat.lt_trans h0 (Nat.lt_trans h1 (Nat.lt_trans lPB lFS))
  have ho2 := ho1.cons (a := (FS, dqO 0 [])) lF
  refine ⟨.ref FS, rfl, ho2, ?_⟩
  refine InS.set ok hm (by exact rfl) ho2 (p := .non) (by exact rfl) (by kernel_rfl!) (by kernel_rfl!) (fun es hes => Evp.non) ?_
  exact InS.cast (fs' := fsC X PB FS) (by kernel_rfl!) ((in_c ok hl hm hp h0 lF ho2).mono fun f m' n' h => ⟨PB, FS, lPB, lFS, h⟩)
theorem in_a {p : Pl} {nd nu : Nat} (ok : (inC p).Ok nd nu) (hnd : 100 ≤ nd) (hnu : 2000 ≤ nu) (hl : p.h₀.NoLimit) {m : Mp} {S SD : Addr} {r : Led} {x : Str} {t : Tok} (hx : x.length ≤ 100000) (hm : m (Str.ofString "self") = some (.ref S)) (hi : m (Str.ofString "instream") = some (.str x t)) (hf : m (Str.ofString "infile") = some .none) (hq : m (Str.ofString "posix") = some (.bool true)) {tp : Tok} (hp : m (Str.ofString "punctuation_chars") = some (.str pcS tp))
    (h0 : @LT.lt Nat _ SD S) (ho : Off S SD r) : InS (inC p) (InA p.w S SD x r) S SD [] r m b39_0 [] := by
  refine InS.ifp (fun es hes => Tsp.strStr ok (by exact rfl) (by exact rfl) (by exact rfl) (by exact rfl) (by intro whole; exact rfl) (x := x) (by walk_at "ev")) (fun _ => ?_) fun h => by cases h
  refine InS.asg ok (by exact rfl) (by exact rfl) (R := SioR p.w S x r) (fun es hes => Eve.own ok ns_sio (by exact rfl) (by decide) keep695 (by exact rfl) (by exact rfl) (by exact rfl) (Sq.consp (p := .str x) (by exact rfl) (by walk_at "ev") fun v fv => ?_)) ?_
  · obtain ⟨t, rfl⟩ := fv
    refine Sq.nil (Cm.ctr ok (sio_c p.w x t hx) hnd hnu trivial fun v n' h => ?_)
    obtain ⟨X, D, k1, k2, k3, bt, pt, rfl, rfl, lt, l2⟩ := h
    exact ⟨_, ⟨X, D, k1, k2, k3, bt, pt, rfl, allLt_all lt _ (.tail _ (.head _)), l2, rfl⟩, kp_in2 (.head _) fun q hq => .tail _ (kp_in q hq)⟩
  rintro _ _ ⟨X, D, k1, k2, k3, bt, pt, rfl, l1, l2, rfl⟩
  have ho1 := (ho.cons (a := (X, instObj 695 D)) (Nat.lt_trans h0 (Nat.lt_trans l1 l2))).cons (a := (D, sioF p.w.params k1 k2 k3 x bt 0 pt)) (Nat.lt_trans h0 l1)
  have hm : (fun y => if y = Str.ofString "instream" then some (Value.ref X) else m y) (Str.ofString "self") = some (.ref S) := by walk_at "lk"
  have hi : (fun y => if y = Str.ofString "instream" then some (Value.ref X) else m y) (Str.ofString "instream") = some (.ref X) := if_pos rfl
  have hf : (fun y => if y = Str.ofString "instream" then some (Value.ref X) else m y) (Str.ofString "infile") = some .none := by walk_at "lk"
  have hq : (fun y => if y = Str.ofString "instream" then some (Value.ref X) else m y) (Str.ofString "posix") = some (.bool true) := by walk_at "lk"
  have hp : (fun y => if y = Str.ofString "instream" then some (Value.ref X) else m y) (Str.ofString "punctuation_chars") = some (.str pcS tp) := by walk_at "lk"
  revert hm hi hf hq hp
  generalize (fun y => if y = Str.ofString "instream" then some (Value.ref X) else m y) = m1
  intro hm hi hf hq hp
  refine InS.pop (InS.ifp (fun es hes => Tsp.cmp (p1 := .ref X) (p2 := .non) (by exact rfl) (by walk_at "ev") Evp.non .ntR) (fun _ => ?_) fun h => by cases h)
  refine InS.set ok hm (by exact rfl) ho1 (p := .ref X) (by exact rfl) (by kernel_rfl!) (by kernel_rfl!) (fun es hes => by walk_at "ev") ?_
  refine InS.set ok hm (by exact rfl) ho1 (p := .non) (by exact rfl) (by kernel_rfl!) (by kernel_rfl!) (fun es hes => by walk_at "ev") ?_
  refine InS.pop ?_
  refine InS.set ok hm (by exact rfl) ho1 (p := .bool true) (by exact rfl) (by kernel_rfl!) (by kernel_rfl!) (fun es hes => by walk_at "ev") ?_
  refine InS.ifp (fun es hes => Tsp.nm (by intro whole; exact rfl) (by walk_at "ev")) (fun _ => ?_) fun h => by cases h
  refine InS.set ok hm (by exact rfl) ho1 (p := .non) (by exact rfl) (by kernel_rfl!) (by kernel_rfl!) (fun es hes => Evp.non) ?_
  refine InS.pop ?_
  refine InS.set ok hm (by exact rfl) ho1 (p := .str (Str.ofString "#")) (by exact rfl) (by kernel_rfl!) (by kernel_rfl!) (fun es hes => by walk_at "ev") ?_
  refine InS.set ok hm (by exact rfl) ho1 (p := .str (Str.ofString "abcdfeghijklmnopqrstuvwxyzABCDEFGHIJKLMNOPQRSTUVWXYZ0123456789_")) (by exact rfl) (by kernel_rfl!) (by kernel_rfl!) (fun es hes => by walk_at "ev") ?_
  refine InS.ifp (fun es hes => Tsp.boolE (by intro whole; exact rfl) (by intro o xs p h; cases h) (Evp.selfF ok hm (by exact rfl) hes (p := .bool true) (by kernel_rfl!) (by kernel_rfl!))) (fun _ => ?_) fun h => by cases h
  refine InS.more ok hm (by exact rfl) ho1 (x := Str.ofString "abcdfeghijklmnopqrstuvwxyzABCDEFGHIJKLMNOPQRSTUVWXYZ0123456789_") (z := Str.ofString "abcdfeghijklmnopqrstuvwxyzABCDEFGHIJKLMNOPQRSTUVWXYZ0123456789_ßàáâãäåæçèéêëìíîïðñòóôõöøùúûüýþÿÀÁÂÃÄÅÆÇÈÉÊËÌÍÎÏÐÑÒÓÔÕÖØÙÚÛÜÝÞ") (by kernel_rfl!) (by kernel_rfl!) (by kernel_rfl!) (by kernel_rfl!) (by decide +kernel) (by kernel_rfl!) ?_
  exact InS.pop (InS.cast (fs' := (Str.ofString "instream", .ref X) :: fsB) (by kernel_rfl!) ((in_b ok hl hm hp h0 (Nat.lt_trans l1 l2) (.tail _ (.head _)) ho1).mono fun f m' n' h => ⟨X, D, k1, k2, k3, bt, pt, l1, l2, h⟩))
theorem pack_of {c : LexP} {o1 o2 o3 : Obj} {oT : Addr × Obj} {r : Led} {p : Addr × Obj} (hp : p ∈ pack c o1 o2 o3 r) : p ∈ (c.SD, o1) :: (c.S, instObj 830 c.SD) :: oT :: (c.PC, o3) :: (c.FS, dqO 0 []) :: (c.PB, dqO 0 []) :: (c.D, o2) :: (c.X, instObj 695 c.D) :: r := by
  simp only [pack, List.mem_cons] at hp ⊢
  rcases hp with h | h | h | h | h | h | h | h <;> simp only [h, true_or, or_true]
theorem shlex_c (w : World) (x : Str) (t tp : Tok) (hx : x.length ≤ 100000) : CtrK w 830 200 3000 [.str x t] [(Str.ofString "posix", .bool true), (Str.ofString "punctuation_chars", .str (Str.ofString "()[]") tp)] (fun _ => True) (fun l v l' => ∃ (c : LexP) (ks kt kl pt : Tok), v = .ref c.S ∧ Apart c l ∧ l' = pack c (lexO w.params c false (.str (Str.ofString " ") ks) (.str (Str.ofString "") kt) (.int 1 kl)) (sioF w.params (c.κ 28) (c.κ 29) (c.κ 30) x (c.κ 31) 0 pt) (dqO 0 []) l) := by
  intro dp un gd cn cs a ccd cl outer A₀ base h₀ L m news s mg mb mean Q E B F X N T hk hd hu _ ret
  obtain ⟨sh, sg, sd, stk, so⟩ := s
  dsimp only at F N ret
  refine call_cls (fI := 754) F X N lex_makes lex_init lex_fn fun xL dL hL FL NL l1 l2 => ?_
  rw [under_tc]
  k_dflt (refine' code_def (binds := [(Str.ofString "self", .ref xL), (Str.ofString "instream", .str x t), (Str.ofString "infile", .none), (Str.ofString "posix", .bool true), (Str.ofString "punctuation_chars", .str (Str.ofString "()[]") tp)]) B FL X NL T ?kA ?kF ?kK ?k6 ?k7 ?k8 ?k9 ?kB ?_ ?c2 ?c3 ?c4 ?c5; (case kA => exact rfl); (case kF => exact rfl); (case kK => assumption); (case k6 => k_is); (case k7 => k_is); (case k8 => ktr_room); (case k9 => exact kp_binds (X.keeps FL.keep) (fun _ => rfl)); (case c5 => decide); (case kB => exact locs rfl); (case c2 => exact rfl); (case c3 => exact rfl); (case c4 => exact rfl); k_whole; intro g' L' h' FG' F' N' B' X' T'; (try dsimp only); (try k_fold))
  have hE : PassesOwn (model pw w) (ktrTop (dp + 1 + 1) (un + 1 + 3) gd (Str.ofString "shlex.__init__") c39_0 L' 754 (.ref 753) [] (envX cn cs L a ccd cl :: outer)) (inC ⟨w, ktrTop (dp + 1 + 1) (un + 1 + 3) gd (Str.ofString "shlex.__init__") c39_0 L' 754 (.ref 753) [] (envX cn cs L a ccd cl :: outer), L', 754, .ref 753, g'⟩).env ek := by passes_own
  have N3 : News g' L' h' (dOf xL dL [] news) := news_sub N' fun p hp => by
    rcases List.mem_cons.mp hp with h | hp
    · exact .tail _ (h ▸ .head _)
    · rcases List.mem_cons.mp hp with h | hp
      · exact h ▸ .head _
      · exact .tail _ (.tail _ hp)
  have ho : Off xL dL news := fun p hp => by
    rcases List.mem_cons.mp hp with h | hp
    · exact h ▸ Nat.ne_of_gt l2
    · exact Nat.ne_of_lt (l1 p hp)
  refine in_a (p := ⟨w, ktrTop (dp + 1 + 1) (un + 1 + 3) gd (Str.ofString "shlex.__init__") c39_0 L' 754 (.ref 753) [] (envX cn cs L a ccd cl :: outer), L', 754, .ref 753, g'⟩) (Cx.ok (nd := 190) (nu := 2900) B' X' T' (by exact rfl) (by (first | lia | omega)) (by (first | lia | omega))) (by decide) (by decide) (Top.nolimit T') (t := t) (tp := tp) hx (by exact rfl) (by exact rfl) (by exact rfl) (by exact rfl) (by exact rfl) l2 ho [] rfl hE (Nat.zero_le _) F' N3 ?_
  rintro f m' n' h2 tk ⟨Y, D, k1, k2, k3, bt, pt, o1, o2, PB, FS, o3, o4, rfl, PC, es, oT, o5, hes, rfl⟩ F2 N2
  obtain ⟨κ, rfl⟩ := ents_mk hes
  rw [lex_es (S := xL) (SD := dL) (D := D) (k1 := k1) (k2 := k2) (k3 := k3) (bt := bt)] at N2
  refine ⟨_, _, _, F2, N2, fun kF kN => ?_⟩
  refine ⟨rfl, ret _ _ _ _ kF (news_sub kN fun p hp => ?_) ⟨⟨xL, dL, Y, D, PB, FS, PC, lexK κ k1 k2 k3 bt⟩, (κ 11).2, (κ 15).2, (κ 13).2, pt, rfl, ⟨l2, o1, o2, o3, o4, o5, fun p hp => .inl (l1 p hp)⟩, rfl⟩⟩
  exact pack_of (c := ⟨xL, dL, Y, D, PB, FS, PC, lexK κ k1 k2 k3 bt⟩) hp
open PySem PySem.W PySem.Calls PyProof.Rows
theorem fill17 : PySem.Challenge.rw_kl0186_01 = PySem.Challenge.rw_kl0186_01 ∧ K = K := by
  w_on
  k_fill
  exact ⟨rfl, rfl⟩
theorem lexer_c (w : World) (x : Str) (t : Tok) (hx : x.length ≤ 100000) : Ctr w 874 260 4000 [.str x t] (fun _ => True) (fun l v l' => ∃ (c : LexP) (ks kt kl pt : Tok), v = .ref c.S ∧ Apart c l ∧ l' = ledX w c x l ⟨.str (Str.ofString " ") ks, .str (Str.ofString "") kt, .int 1 kl, 0, pt, 0, []⟩) := by
  intro dp un gd cn cs a ccd cl outer A₀ base h₀ L m news s mg mb mean Q E B F X N T hk hd hu hpre ret
  obtain ⟨sh, sg, sd, stk, so⟩ := s
  dsimp only at F N ret
  refine wpAny_call ?_
  k_dflt (refine' code_def (binds := [(Str.ofString "text", .str x t)]) B F X N T ?kA ?kF ?kK ?k6 ?k7 ?k8 ?k9 ?kB ?_ ?c2 ?c3 ?c4 ?c5; (case kA => exact rfl); (case kF => exact rfl); (case kK => assumption); (case k6 => k_is); (case k7 => k_is); (case k8 => ktr_room); (case k9 => exact BindsTo.of_eq rfl); (case c5 => decide); (case kB => exact locs rfl); (case c2 => exact rfl); (case c3 => exact rfl); (case c4 => exact rfl); k_whole; intro g' L' h' FG' F' N' B' X' T'; (try dsimp only); (try k_fold))
  k_steps
  try unfold Stuck
  refine (shlex_c w x t _ hx) (dp + 1) (un + 3) gd _ _ _ _ _ _ _ _ _ _ _ _ _ _ _ _ _ _ B' F' X' N' T' (by exact rfl) (by (first | lia | omega)) (by (first | lia | omega)) trivial ?_
  rintro v tk h3 nw F3 N3 ⟨c, ks, kt, kl, pt, rfl, ap, rfl⟩
  clear F' N'
  dsimp only at F3 N3 ⊢
  k_steps
  try unfold Stuck
  refine set_split (v := true) (by k_asm) X' (by k_asm) mem_S (upd_SD ap) fun h5 tk5 F5 N5 => ?_
  dsimp only at F5 N5 ⊢
  k_steps
  exact ret _ _ _ _ (by k_asm) (by k_asm) ⟨c, ks, kt, kl, pt, rfl, ap, rfl⟩
open PySem PySem.W PySem.Calls PyProof.Rows
theorem fill27 : PySem.Challenge.rw_kl0186_01 = PySem.Challenge.rw_kl0186_01 ∧ K = K := by
  w_on
  k_fill
  exact ⟨rfl, rfl⟩
theorem ns_fspath {P : Params} : nsIn (K P) mainGlobals (Str.ofString "fspath") = some (some (.ref 112)) := by kernel_rfl
theorem ns_split {P : Params} : nsIn (K P) mainGlobals (Str.ofString "splitroot") = some (some (.ref 140)) := by kernel_rfl
theorem keep112 {P : Params} : keepIn (K P) (.ref 112) = true := by kernel_rfl
theorem keep140 {P : Params} : keepIn (K P) (.ref 140) = true := by kernel_rfl
section
variable {C : Cx} {m : Mp} {n : Led} {R : Value → Led → Prop}
theorem Evp.sliceTo {value : Expr} {p1 p2 p3 : Pos} {k1 : Nat} {x : Str} {j : Int} (hlo : C.lo = 0) (h1 : Evp C m n value (.str x)) (hb : x.length ≤ 1000000)
    (hs : ∀ t S, subscripted (.Slice none (some (.Constant (.int j) k1 p1)) none p2) false (.str x t) (.ref S) = operate [.ref S, .str x t] (getItem (.str x t) (.ref S))) (ht : ∀ t r, letTemporaryGo value (.str x t) r = pure ()) :
    Evp C m n (.Subscript value (.Slice none (some (.Constant (.int j) k1 p1)) none p2) p3) (.str (Txt.slice x none (some j))) :=
  fun _ s _ h0 F N q => Subscript_ (h1 h0 F N fun v n1 g1 t1 l1 r1 F1 N1 => by
    obtain ⟨⟨t, rfl⟩, k⟩ := r1
    refine wpAny_Slice (evalPart_none_step (evalPart_some_step (wpAny_Constant_int (evalPart_none_step ?_))))
    exact slice_strN_ns (s := { s with heap := g1, toks := t1 + 1 }) F1 N1 (fun h' t' k' F' N' => q _ n1 h' k' (by (first | lia | omega)) ⟨⟨t', rfl⟩, k⟩ F' N') (hs t _) (ht t) (by rw [sizeLine_eq]; (first | lia | omega)))
theorem Evp.sliceFrom {value : Expr} {p1 p2 p3 : Pos} {k1 : Nat} {x : Str} {i : Int} (hlo : C.lo = 0) (h1 : Evp C m n value (.str x)) (hb : x.length ≤ 1000000)
    (hs : ∀ t S, subscripted (.Slice (some (.Constant (.int i) k1 p1)) none none p2) false (.str x t) (.ref S) = operate [.ref S, .str x t] (getItem (.str x t) (.ref S))) (ht : ∀ t r, letTemporaryGo value (.str x t) r = pure ()) :
    Evp C m n (.Subscript value (.Slice (some (.Constant (.int i) k1 p1)) none none p2) p3) (.str (Txt.slice x (some i) none)) :=
  fun _ s _ h0 F N q => Subscript_ (h1 h0 F N fun v n1 g1 t1 l1 r1 F1 N1 => by
    obtain ⟨⟨t, rfl⟩, k⟩ := r1
    refine wpAny_Slice (evalPart_some_step (wpAny_Constant_int (evalPart_none_step (evalPart_none_step ?_))))
    exact slice_strN_sn (s := { s with heap := g1, toks := t1 + 1 }) F1 N1 (fun h' t' k' F' N' => q _ n1 h' k' (by (first | lia | omega)) ⟨⟨t', rfl⟩, k⟩ F' N') (hs t _) (ht t) (by rw [sizeLine_eq]; (first | lia | omega)))
theorem Evp.sliceMid {value : Expr} {p1 p2 p3 p4 : Pos} {k1 k2 : Nat} {x : Str} {i j : Int} (hlo : C.lo = 0) (h1 : Evp C m n value (.str x)) (hb : x.length ≤ 1000000)
    (hs : ∀ t S, subscripted (.Slice (some (.Constant (.int i) k1 p1)) (some (.Constant (.int j) k2 p2)) none p3) false (.str x t) (.ref S) = operate [.ref S, .str x t] (getItem (.str x t) (.ref S))) (ht : ∀ t r, letTemporaryGo value (.str x t) r = pure ()) :
    Evp C m n (.Subscript value (.Slice (some (.Constant (.int i) k1 p1)) (some (.Constant (.int j) k2 p2)) none p3) p4) (.str (Txt.slice x (some i) (some j))) :=
  fun _ s _ h0 F N q => Subscript_ (h1 h0 F N fun v n1 g1 t1 l1 r1 F1 N1 => by
    obtain ⟨⟨t, rfl⟩, k⟩ := r1
    refine wpAny_Slice (evalPart_some_step (wpAny_Constant_int (evalPart_some_step (wpAny_Constant_int (evalPart_none_step ?_)))))
    exact slice_strN_ss (s := { s with heap := g1, toks := t1 + 1 + 1 }) F1 N1 (fun h' t' k' F' N' => q _ n1 h' k' (by (first | lia | omega)) ⟨⟨t', rfl⟩, k⟩ F' N') (hs t _) (ht t) (by rw [sizeLine_eq]; (first | lia | omega)))
/-- return (a, b, c) of texts -/
theorem Sts.ret3 {P : Flow → Mp → Led → Prop} {rest : List Stmt} {ks : List (List Stmt)} {e1 e2 e3 : Expr} {k : Nat} {tpos pos : Pos} {a b c : Str} (he : starEach [e1, e2, e3] C.env = [(false, eval e1 C.env), (false, eval e2 C.env), (false, eval e3 C.env)]) (he2 : starEach [e2, e3] C.env = [(false, eval e2 C.env), (false, eval e3 C.env)]) (he3 : starEach [e3] C.env = [(false, eval e3 C.env)])
    (h1 : Evp C m n e1 (.str a)) (h2 : Evp C m n e2 (.str b)) (h3 : Evp C m n e3 (.str c)) (h : ∀ d t1 t2 t3, (∀ q ∈ n, q.1 < d) → P (.ret (.ref d)) m ((d, tupO [.str a t1, .str b t2, .str c t3]) :: n)) : Sts C P m n (.Return (some (.Tuple [e1, e2, e3] k tpos)) pos :: rest) ks :=
  Sts.ret (R := fun v n' => P (.ret v) m n') (Eve.tuple (R1 := fun vs n' => (∃ t1 t2 t3, vs = [.str a t1, .str b t2, .str c t3]) ∧ n' = n) (Sq.consp (by rw [he, he2]) h1 fun v1 f1 => Sq.consp (by rw [he2, he3]) h2 fun v2 f2 => Sq.consp (by rw [he3]; rfl) h3 fun v3 f3 => Sq.nil (by
    obtain ⟨t1, rfl⟩ := f1
    obtain ⟨t2, rfl⟩ := f2
    obtain ⟨t3, rfl⟩ := f3
    exact ⟨⟨t1, t2, t3, rfl⟩, rfl⟩)) fun vs n' e => by
    obtain ⟨⟨t1, t2, t3, rfl⟩, rfl⟩ := e
    exact ⟨by show 3 ≤ 1000; decide, fun D lt => h D t1 t2 t3 lt⟩) fun _ _ h => h
end
noncomputable abbrev srC (p : Pl) : Cx := ⟨p.w, p.A, Str.ofString "splitroot", c18, p.L, p.a, p.cd, p.h₀, 0⟩
def SrP (x : Str) (n : Led) (f : Flow) (_ : Mp) (n' : Led) : Prop := ∃ d t1 t2 t3, f = .ret (.ref d) ∧ (∀ p ∈ n, p.1 < d) ∧ n' = (d, tupO [.str (Str.ofString "") t1, .str (splitF x).1 t2, .str (splitF x).2 t3]) :: n
theorem sr_sx {p : Pl} {nd nu : Nat} (ok : (srC p).Ok nd nu) (hnd : 10 ≤ nd) (hnu : 100 ≤ nu) {m : Mp} {n : Led} {x : Str} {t : Tok} (hx : x.length ≤ 1000000) (hm : m (Str.ofString "p") = some (.str x t)) : Sts (srC p) (SrP x n) m n b18 [] := by
  refine Sts.asg ok.hk (by exact rfl) (by exact rfl) (R := fun v n' => v = .str x t ∧ n' = n) (Eve.own ok ns_fspath (by exact rfl) (by decide) keep112 (by exact rfl) (by exact rfl) (by exact rfl) (Sq.cons (R1 := fun v n' => v = .str x t ∧ n' = n) (by exact rfl) (Eve.loc ok.hk (by exact rfl) (by decide) hm ⟨rfl, rfl⟩) ?_)) ?_
  · rintro _ n0 ⟨rfl, e⟩
    cases e
    exact Sq.nil (Cm.ctr ok (fspath_c p.w x t) hnd hnu trivial fun v n' h => h)
  rintro _ n0 ⟨rfl, e⟩
  cases e
  refine Sts.ifp (Tsp.strBytes ok (by exact rfl) (by exact rfl) (by exact rfl) (by exact rfl) (by intro whole; exact rfl) (by walk_at "ev")) (fun h => by cases h) fun _ => ?_
  refine Sts.asgp ok.hk (by exact rfl) (by exact rfl) (p := .str (Str.ofString "/")) (by walk_at "ev") fun v1 f1 => ?_
  refine Sts.asgp ok.hk (by exact rfl) (by exact rfl) (p := .str (Str.ofString "")) (by walk_at "ev") fun v2 f2 => ?_
  obtain ⟨t1, rfl⟩ := f1
  obtain ⟨t2, rfl⟩ := f2
  refine Sts.pop (Sts.ifp (Tsp.cmp (by exact rfl) (p1 := .str (Txt.slice x none (some 1))) (p2 := .str (Str.ofString "/")) (Evp.sliceTo rfl (by walk_at "ev") hx (by intro t S; exact rfl) (by intro t r; exact rfl)) (by walk_at "ev") .neS) (fun h => ?_) fun h => ?_)
  · refine Sts.ret3 (by exact rfl) (by exact rfl) (by exact rfl) (a := Str.ofString "") (b := Str.ofString "") (c := x) (by walk_at "ev") (by walk_at "ev") (by walk_at "ev") fun d u1 u2 u3 lt => ⟨d, u1, u2, u3, rfl, lt, by rw [splitF1 h]⟩
  · refine Sts.ifp (Tsp.or2 (Tsp.cmp (by exact rfl) (p1 := .str (Txt.slice x (some 1) (some 2))) (p2 := .str (Str.ofString "/")) (Evp.sliceMid rfl (by walk_at "ev") hx (by intro t S; exact rfl) (by intro t r; exact rfl)) (by walk_at "ev") .neS) fun _ => Tsp.cmp (by exact rfl) (p1 := .str (Txt.slice x (some 2) (some 3))) (p2 := .str (Str.ofString "/")) (Evp.sliceMid rfl (by walk_at "ev") hx (by intro t S; exact rfl) (by intro t r; exact rfl)) (by walk_at "ev") .eqS) (fun h2 => ?_) fun h2 => ?_
    · have e : splitF x = (Str.ofString "/", Txt.slice x (some 1) none) := by
        rcases Bool.or_eq_true_iff.mp h2 with h2 | h2
        · exact splitF2 h h2
        · exact splitF3 h h2
      refine Sts.ret3 (by exact rfl) (by exact rfl) (by exact rfl) (a := Str.ofString "") (b := Str.ofString "/") (c := Txt.slice x (some 1) none) (by walk_at "ev") (by walk_at "ev") (Evp.sliceFrom rfl (by walk_at "ev") hx (by intro t S; exact rfl) (by intro t r; exact rfl)) fun d u1 u2 u3 lt => ⟨d, u1, u2, u3, rfl, lt, by rw [e]⟩
    · rw [Bool.or_eq_false_iff] at h2
      refine Sts.ret3 (by exact rfl) (by exact rfl) (by exact rfl) (a := Str.ofString "") (b := Txt.slice x none (some 2)) (c := Txt.slice x (some 2) none) (by walk_at "ev") (Evp.sliceTo rfl (by walk_at "ev") hx (by intro t S; exact rfl) (by intro t r; exact rfl)) (Evp.sliceFrom rfl (by walk_at "ev") hx (by intro t S; exact rfl) (by intro t r; exact rfl)) fun d u1 u2 u3 lt => ⟨d, u1, u2, u3, rfl, lt, by rw [splitF4 h h2.1 h2.2]⟩
theorem splitroot_c (w : World) (x : Str) (t : Tok) (hx : x.length ≤ 1000000) : Ctr w 140 20 200 [.str x t] (fun _ => True) (fun n v n' => ∃ d t1 t2 t3, v = .ref d ∧ n' = (d, tupO [.str (Str.ofString "") t1, .str (splitF x).1 t2, .str (splitF x).2 t3]) :: n ∧ ∀ p ∈ n, p.1 < d) := by
  intro dp un gd cn cs a ccd cl outer A₀ base h₀ L m news s mg mb mean Q E B F X N T hk hd hu _ ret
  obtain ⟨sh, sg, sd, stk, so⟩ := s
  dsimp only at F N ret
  refine wpAny_call ?_
  k_dflt (refine' code_def (binds := [(Str.ofString "p", .str x t)]) B F X N T ?kA ?kF ?kK ?k6 ?k7 ?k8 ?k9 ?kB ?_ ?c2 ?c3 ?c4 ?c5; (case kA => exact rfl); (case kF => exact rfl); (case kK => assumption); (case k6 => k_is); (case k7 => k_is); (case k8 => ktr_room); (case k9 => exact BindsTo.of_eq rfl); (case c5 => decide); (case kB => exact locs rfl); (case c2 => exact rfl); (case c3 => exact rfl); (case c4 => exact rfl); k_whole; intro g' L' h' FG' F' N' B' X' T'; (try dsimp only); (try k_fold))
  have hE : PassesOwn (model pw w) (ktrTop (dp + 1) (un + 3) gd (Str.ofString "splitroot") c18 L' 140 (.ref 139) [] (envX cn cs L a ccd cl :: outer)) (srC ⟨w, ktrTop (dp + 1) (un + 3) gd (Str.ofString "splitroot") c18 L' 140 (.ref 139) [] (envX cn cs L a ccd cl :: outer), L', 140, .ref 139, g'⟩).env ek := by passes_own
  have hdp : (ktrTop dp un gd cn cs L a ccd cl outer).depth = dp := rfl
  have hun : (ktrTop dp un gd cn cs L a ccd cl outer).units = un := rfl
  refine sr_sx (p := ⟨w, ktrTop (dp + 1) (un + 3) gd (Str.ofString "splitroot") c18 L' 140 (.ref 139) [] (envX cn cs L a ccd cl :: outer), L', 140, .ref 139, g'⟩) (Cx.ok (nd := 19) (nu := 190) B' X' T' (by exact rfl) (by (first | lia | omega)) (by (first | lia | omega))) (by (first | lia | omega)) (by (first | lia | omega)) hx (by exact rfl) hE (Nat.zero_le _) F' N' ?_
  rintro f m' n' h2 tk ⟨d, t1, t2, t3, rfl, lt, rfl⟩ F2 N2
  refine ⟨_, _, _, F2, N2, fun kF kN => ?_⟩
  exact ret _ tk h2 _ kF kN ⟨d, t1, t2, t3, rfl, rfl, lt⟩
noncomputable abbrev npC (p : Pl) : Cx := ⟨p.w, p.A, Str.ofString "normpath", c19, p.L, p.a, p.cd, p.h₀, 0⟩
noncomputable def npBody : List Stmt := forBody (b19.getD 6 (.Pass p0))
/-- the names of the loop -/
structure NpF (root : Str) (DN : Addr) (m : Mp) : Prop where
  dot : ∃ t, m (Str.ofString "dot") = some (.str (Str.ofString ".") t)
  dd : ∃ t, m (Str.ofString "dotdot") = some (.str (Str.ofString "..") t)
  sep : ∃ t, m (Str.ofString "sep") = some (.str (Str.ofString "/") t)
  ini : ∃ t, m (Str.ofString "initial_slashes") = some (.str root t)
  nc : m (Str.ofString "new_comps") = some (.ref DN)
theorem np_last {p : Pl} {nd nu : Nat} (ok : (npC p).Ok nd nu) {m : Mp} {n : Led} {DN : Addr} {k : Nat} {ns : List (Str × Tok)} {td : Tok} {p1 p2 p3 p4 p5 p6 p7 p8 : Pos} {k1 : Nat} (mn : m (Str.ofString "new_comps") = some (.ref DN)) (md : m (Str.ofString "dotdot") = some (.str (Str.ofString "..") td)) (hm : (DN, listOf (strValues ns).toArray k) ∈ n) (hb : ns.length ≤ 100000) :
    Tsp (npC p) m n (.BoolOp .And [.Name (Str.ofString "new_comps") p1, .Compare (.Subscript (.Name (Str.ofString "new_comps") p2) (.UnaryOp .USub (.Constant (.int 1) k1 p3) p4) p5) [.Eq] [.Name (Str.ofString "dotdot") p6] p7] p8) (decide ((ns.map (·.1)).getLast? = some (Str.ofString ".."))) := by
  have h1 : Tsp (npC p) m n (.Name (Str.ofString "new_comps") p1) (!ns.isEmpty) := Tsp.listN (by intro whole; exact rfl) rfl hm (by (first | lia | omega)) (by walk_at "ev")
  rcases List.eq_nil_or_concat ns with rfl | ⟨init, ⟨y, ty⟩, e⟩
  · exact Tsp.and2 (b := false) (c := false) h1 fun h => absurd h (by decide)
  · rw [List.concat_eq_append] at e
    subst e
    have e1 : (!(init ++ [(y, ty)]).isEmpty) = true := by simp
    have e2 : ((init ++ [(y, ty)]).map (·.1)).getLast? = some y := by rw [List.map_append]; exact List.getLast?_concat ..
    have e3 : decide (((init ++ [(y, ty)]).map (·.1)).getLast? = some (Str.ofString "..")) = (true && (y == Str.ofString "..")) := by
      rw [e2, Bool.true_and]
      by_cases hy : y = Str.ofString ".."
      · rw [hy]; simp
      · rw [show (y == Str.ofString "..") = false from beq_eq_false_iff_ne.mpr hy]; simp [hy]
    rw [e3]
    rw [e1] at h1
    rw [strVal_snoc] at hm
    rw [List.length_append] at hb
    exact Tsp.and2 h1 fun _ => Tsp.cmp (by exact rfl) (p1 := .str y) (p2 := .str (Str.ofString "..")) (Evp.lastL (by walk_at "ev") hm (by rw [strVal_len]; (first | lia | omega)) ⟨ty, rfl⟩ (by intro k u; exact rfl)) (by walk_at "ev") .eqS
theorem np_turn {p : Pl} {nd nu : Nat} (ok : (npC p).Ok nd nu) {P : Flow → Mp → Led → Prop} {m : Mp} {rest : Led} {DN : Addr} {k : Nat} {ns : List (Str × Tok)} {root c : Str} {tc : Tok} (hD : ∀ p ∈ rest, p.1 ≠ DN) (hF : NpF root DN m) (mc : m (Str.ofString "comp") = some (.str c tc)) (hb : ns.length ≤ 10000) (hc : c.length ≤ 2000) (hr : root.length ≤ 2000)
    (fin : ∀ f ns' k', (f = .next ∨ f = .cont) → ns'.map (·.1) = ncStep root (ns.map (·.1)) c → ns'.length ≤ ns.length + 1 → (∀ p ∈ ns', p ∈ ns ∨ p.1 = c) → P f m ((DN, listOf (strValues ns').toArray k') :: rest)) :
    Sts (npC p) P m ((DN, listOf (strValues ns).toArray k) :: rest) npBody [] := by
  obtain ⟨⟨t1, h1⟩, ⟨t2, h2⟩, ⟨t3, h3⟩, ⟨t4, h4⟩, h5⟩ := hF
  have e0 : ((c.length : Int) != 0) = false ↔ c.length = 0 := by rw [bne_eq_false_iff_eq]; (first | lia | omega)
  refine Sts.ifp (Tsp.or2 (b := !((c.length : Int) != 0)) (c := c == Str.ofString ".") (Tsp.not (Tsp.strN (by intro whole; exact rfl) rfl (by (first | lia | omega)) (by walk_at "ev"))) fun _ => Tsp.cmp (by exact rfl) (p1 := .str c) (p2 := .str (Str.ofString ".")) (by walk_at "ev") (by walk_at "ev") .eqS) (fun hq => ?_) fun hq => ?_
  · refine Sts.cont (fin .cont ns _ (.inr rfl) ?_ (Nat.le_succ _) fun p hp => .inl hp)
    have : c.length = 0 ∨ c = Str.ofString "." := by
      rw [Bool.or_eq_true, Bool.not_eq_true', e0, beq_iff_eq] at hq
      exact hq
    exact (if_pos this).symm
  · rw [Bool.or_eq_false_iff, Bool.not_eq_false'] at hq
    have hn : ¬ (c.length = 0 ∨ c = Str.ofString ".") := by
      rintro (q | q)
      · rw [e0.mpr q] at hq; exact absurd hq.1 (by decide)
      · rw [q] at hq; exact absurd hq.2 (by decide)
    have er : (!((root.length : Int) != 0) && !!ns.isEmpty) = decide (root.length = 0 ∧ ns.map (·.1) = []) := by
      cases ns with
      | nil => by_cases h : root.length = 0 <;> simp [h]
      | cons a l => simp
    refine Sts.pop (Sts.ifp (Tsp.orC (b := c != Str.ofString "..") (Tsp.cmp (by exact rfl) (p1 := .str c) (p2 := .str (Str.ofString "..")) (by walk_at "ev") (by walk_at "ev") .neS) fun _ => Tsp.orC (b := decide (root.length = 0 ∧ ns.map (·.1) = [])) (er ▸ Tsp.and2 (Tsp.not (Tsp.strN (by intro whole; exact rfl) rfl (by (first | lia | omega)) (by walk_at "ev"))) fun _ => Tsp.not (Tsp.listN (by intro whole; exact rfl) rfl (.head _) (by (first | lia | omega)) (by walk_at "ev"))) fun _ => Tsp.orC (np_last ok (by walk_at "lk") (by walk_at "lk") (.head _) (by (first | lia | omega))) fun _ => Tsp.orN) (fun h => ?_) fun h => ?_)
    · have hcond : c ≠ Str.ofString ".." ∨ (root.length = 0 ∧ ns.map (·.1) = []) ∨ (ns.map (·.1)).getLast? = some (Str.ofString "..") := by
        rw [Bool.or_eq_true, Bool.or_eq_true, Bool.or_false, bne_iff_ne, decide_eq_true_eq, decide_eq_true_eq] at h
        exact h
      refine Sts.append (by exact rfl) (by exact rfl) (by exact rfl) (by exact rfl) (by exact rfl) (by exact rfl) (D := DN) (by walk_at "ev") (.head _) (by rw [strVal_len]; (first | lia | omega)) (R1 := fun v n' => v = .str c tc ∧ n' = (DN, listOf (strValues ns).toArray k) :: rest) (Eve.loc ok.hk (by exact rfl) (by decide) (by walk_at "lk") ⟨rfl, rfl⟩) ?_
      rintro _ _ ⟨rfl, rfl⟩
      refine ⟨_, upd_hd hD, ?_⟩
      rw [← strVal_snoc]
      refine Sts.pop (Sts.nil (fin .next _ _ (.inl rfl) ?_ (by rw [List.length_append]; exact Nat.le_refl _) fun p hp => ?_))
      · unfold ncStep
        rw [if_neg hn, if_pos hcond, List.map_append]; rfl
      · rcases List.mem_append.mp hp with hp | hp
        · exact .inl hp
        · exact .inr (by rw [List.mem_singleton.mp hp])
    · have hcond : ¬ (c ≠ Str.ofString ".." ∨ (root.length = 0 ∧ ns.map (·.1) = []) ∨ (ns.map (·.1)).getLast? = some (Str.ofString "..")) := by
        intro hh
        rw [Bool.or_eq_false_iff, Bool.or_eq_false_iff, Bool.or_false, bne_eq_false_iff_eq, decide_eq_false_iff_not, decide_eq_false_iff_not] at h
        rcases hh with q | q | q
        · exact q h.1
        · exact h.2.1 q
        · exact h.2.2 q
      refine Sts.ifp (Tsp.listN (by intro whole; exact rfl) rfl (.head _) (by (first | lia | omega)) (by walk_at "ev")) (fun h6 => ?_) fun h6 => ?_
      · rcases List.eq_nil_or_concat ns with rfl | ⟨init, ⟨y, ty⟩, e⟩
        · cases h6
        rw [List.concat_eq_append] at e
        subst e
        refine Sts.expr (by exact rfl) (by exact rfl) (R := fun n' => n' = (DN, listOf (strValues init).toArray (k + 1)) :: rest) (Eve.meth0 (by exact rfl) (by exact rfl) (R1 := fun v n' => v = .ref DN ∧ n' = (DN, listOf (strValues (init ++ [(y, ty)])).toArray k) :: rest) (Eve.loc ok.hk (by exact rfl) (by decide) (by walk_at "lk") ⟨rfl, rfl⟩) ?_) ?_
        · rintro _ _ ⟨rfl, rfl⟩
          refine ⟨"list.pop", gm_list (.head _) PySem.F.slot_list_pop PySem.F.type_list_pop, ?_⟩
          rw [strVal_snoc]
          exact Cm.pop (upd_hd hD) (by rw [strVal_len]; rw [List.length_append] at hb; (first | lia | omega)) ⟨(by intro a e; cases e), rfl⟩
        · rintro _ rfl
          refine Sts.pop (Sts.pop (Sts.nil (fin .next init _ (.inl rfl) ?_ (by rw [List.length_append]; (first | lia | omega)) fun p hp => .inl (List.mem_append_left _ hp))))
          unfold ncStep
          rw [if_neg hn, if_neg hcond, List.map_append]
          exact (List.dropLast_concat ..).symm
      · refine Sts.pop (Sts.pop (Sts.nil (fin .next ns _ (.inl rfl) ?_ (Nat.le_succ _) fun p hp => .inl hp)))
        have e : ns = [] := by
          rw [Bool.not_eq_false', List.isEmpty_iff] at h6
          exact h6
        subst e
        unfold ncStep
        rw [if_neg hn, if_neg hcond]; rfl
def NpJ (rest : Led) (root : Str) (DN : Addr) (comps : List Str) (i : Nat) (m : Mp) (nx : Led) : Prop :=
  NpF root DN m ∧ ∃ k ns, nx = (DN, listOf (strValues ns).toArray k) :: rest ∧ ns.map (·.1) = (comps.take i).foldl (ncStep root) [] ∧ ns.length ≤ i ∧ ∀ p ∈ ns, p.1.length ≤ 2000
theorem np_sx {p : Pl} {nd nu : Nat} (ok : (npC p).Ok nd nu) (hnd : 30 ≤ nd) (hnu : 300 ≤ nu) {m : Mp} {n : Led} {x : Str} {t : Tok} (hx : x.length ≤ 2000) (hm : m (Str.ofString "path") = some (.str x t)) : Sts (npC p) (RtS (normF x) n) m n b19 [] := by
  obtain ⟨hs1, hs2⟩ := splitF_le hx (by decide)
  refine Sts.asg ok.hk (by exact rfl) (by exact rfl) (R := fun v n' => v = .str x t ∧ n' = n) (Eve.own ok ns_fspath (by exact rfl) (by decide) keep112 (by exact rfl) (by exact rfl) (by exact rfl) (Sq.cons (R1 := fun v n' => v = .str x t ∧ n' = n) (by exact rfl) (Eve.loc ok.hk (by exact rfl) (by decide) hm ⟨rfl, rfl⟩) ?_)) ?_
  · rintro _ n0 ⟨rfl, e⟩
    cases e
    exact Sq.nil (Cm.ctr ok (fspath_c p.w x t) (by (first | lia | omega)) (by (first | lia | omega)) trivial fun v n' h => h)
  rintro _ n0 ⟨rfl, e⟩
  cases e
  refine Sts.ifp (Tsp.strBytes ok (by exact rfl) (by exact rfl) (by exact rfl) (by exact rfl) (by intro whole; exact rfl) (by walk_at "ev")) (fun h => by cases h) fun _ => ?_
  refine Sts.asgp ok.hk (by exact rfl) (by exact rfl) (p := .str (Str.ofString "/")) (by walk_at "ev") fun v1 f1 => ?_
  refine Sts.asgp ok.hk (by exact rfl) (by exact rfl) (p := .str (Str.ofString ".")) (by walk_at "ev") fun v2 f2 => ?_
  refine Sts.asgp ok.hk (by exact rfl) (by exact rfl) (p := .str (Str.ofString "..")) (by walk_at "ev") fun v3 f3 => ?_
  obtain ⟨t1, rfl⟩ := f1
  obtain ⟨t2, rfl⟩ := f2
  obtain ⟨t3, rfl⟩ := f3
  refine Sts.pop (Sts.ifp (Tsp.not (Tsp.strN (y := x) (by intro whole; exact rfl) rfl (by (first | lia | omega)) (by walk_at "ev"))) (fun h => ?_) fun h => ?_)
  · have h0 : x.length = 0 := by rw [Bool.not_eq_true', bne_eq_false_iff_eq] at h; (first | lia | omega)
    have e : normF x = Str.ofString "." := if_pos h0
    rw [e]
    exact Sts.ret (R := Is (.str (Str.ofString ".")) n) (by walk_at "ev") fun v n' r => by obtain ⟨⟨u, rfl⟩, k⟩ := r; exact ⟨u, rfl, k⟩
  have h0 : x.length ≠ 0 := fun e => by rw [e] at h; exact absurd h (by decide)
  refine Sts.pop (Sts.unpackE (R1 := fun v n' => ∃ d t1 t2 t3, v = .ref d ∧ n' = (d, tupO [.str (Str.ofString "") t1, .str (splitF x).1 t2, .str (splitF x).2 t3]) :: n) ok.hk ok.hh (by exact rfl) (by exact rfl) (by exact rfl) (by exact rfl) (by exact rfl) (Eve.own ok ns_split (by exact rfl) (by decide) keep140 (by exact rfl) (by exact rfl) (by exact rfl) (Sq.consp (p := .str x) (by exact rfl) (by walk_at "ev") fun v4 f4 => Sq.nil ?_)) ?_)
  · obtain ⟨t4, rfl⟩ := f4
    refine Cm.ctr ok (splitroot_c p.w x t4 (by (first | lia | omega))) (by (first | lia | omega)) (by (first | lia | omega)) trivial ?_
    rintro v n' ⟨d, a, b, c, h1, h2, _⟩
    exact ⟨d, a, b, c, h1, h2⟩
  rintro _ _ ⟨d, u1, u2, u3, rfl, rfl⟩
  refine ⟨d, _, _, _, rfl, .head _, ?_⟩
  generalize hn1 : (d, tupO [.str (Str.ofString "") u1, .str (splitF x).1 u2, .str (splitF x).2 u3]) :: n = n1
  have kn : Kp n n1 := by rw [← hn1]; exact Kp.cons
  clear hn1
  refine Sts.asg ok.hk (by exact rfl) (by exact rfl) (R := fun v n' => ∃ SP l, v = .ref SP ∧ l.map (·.1) = Txt.split (splitF x).2 (Str.ofString "/") ∧ n' = (SP, listOf (strValues l).toArray 0) :: n1) (Evp.smeth1 (by exact rfl) (by exact rfl) (by exact rfl) (fun t n => gm_split) (by walk_at "ev") (p := .str (Str.ofString "/")) (by walk_at "ev") fun t v fv => ?_) ?_
  · obtain ⟨u, rfl⟩ := fv
    exact Cm.split rfl (by decide) (by (first | lia | omega)) fun D l e _ => ⟨D, l, rfl, e, rfl⟩
  rintro _ _ ⟨SP, l, rfl, el, rfl⟩
  have hll : l.length ≤ 2002 := by have h1 := split_len (splitF x).2 (Str.ofString "/"); rw [← el, List.length_map] at h1; (first | lia | omega)
  have hlp : ∀ p ∈ l, p.1.length ≤ 2000 := fun p hp => Nat.le_trans (part_short (el ▸ List.mem_map_of_mem (f := fun p : Str × Tok => p.1) hp)) hs2
  refine Sts.asg ok.hk (by exact rfl) (by exact rfl) (Eve.nilL (R := fun v n' => ∃ DN, v = .ref DN ∧ (∀ p ∈ (SP, listOf (strValues l).toArray 0) :: n1, p.1 < DN) ∧ n' = (DN, listOf #[] 0) :: (SP, listOf (strValues l).toArray 0) :: n1) fun D lt => ⟨D, rfl, lt, rfl⟩) ?_
  rintro _ _ ⟨DN, rfl, lt, rfl⟩
  refine Sts.for (by exact rfl) (by exact rfl) (fun _ => by exact rfl) (R := Is (.ref SP) _) (by walk_at "ev") ?_
  rintro _ n2 ⟨e, k2⟩
  cases e
  refine ForAt.sub (ForAt.list ok.hh rfl (.tail _ (.head _)) (NpJ ((SP, listOf (strValues l).toArray 0) :: n1) (splitF x).1 DN (l.map (·.1))) ⟨⟨⟨t2, by walk_at "lk"⟩, ⟨t3, by walk_at "lk"⟩, ⟨t1, by walk_at "lk"⟩, ⟨u2, by walk_at "lk"⟩, by walk_at "lk"⟩, 0, [], rfl, rfl, Nat.le_refl _, by simp⟩ ?_ ?_) k2
  · rintro i v m1 _ own I hv ⟨⟨⟨a1, b1⟩, ⟨a2, b2⟩, ⟨a3, b3⟩, ⟨a4, b4⟩, b5⟩, k, ns, rfl, e1, e2, e3⟩ hown hI ⟨oI, hIo⟩
    obtain ⟨c, tc, rfl, hc⟩ := strVal_get hv
    have hil : i < l.length := (List.getElem?_eq_some_iff.mp hc).1
    have hcl := hlp (c, tc) (List.mem_of_getElem? hc)
    refine np_turn ok (root := (splitF x).1) (c := c) (tc := tc) (fun q hq => ?_) ⟨⟨a1, by walk_at "lk"⟩, ⟨a2, by walk_at "lk"⟩, ⟨a3, by walk_at "lk"⟩, ⟨a4, by walk_at "lk"⟩, by walk_at "lk"⟩ (by walk_at "lk") (by (first | lia | omega)) hcl hs1 ?_
    · rcases List.mem_append.mp hq with hq | hq
      · exact Nat.ne_of_lt (lt q hq)
      · rcases hown q hq with e | e
        · rw [e]; exact Ne.symm (hI _ (.head _))
        · rw [e]; exact Nat.ne_of_lt (lt _ (.head _))
    · intro f ns' k' hf h1 h2 h3
      have hx1 : ∃ nx, NpJ ((SP, listOf (strValues l).toArray 0) :: n1) (splitF x).1 DN (l.map (·.1)) (i + 1) (fun y => if y = Str.ofString "comp" then some (.str c tc) else m1 y) nx ∧ (∀ p ∈ nx, p.1 ≠ I) ∧ ∀ p ∈ nx ++ own, p ∈ (DN, listOf (strValues ns').toArray k') :: ((SP, listOf (strValues l).toArray 0) :: n1 ++ own) := by
        refine ⟨(DN, listOf (strValues ns').toArray k') :: (SP, listOf (strValues l).toArray 0) :: n1, ⟨⟨⟨a1, by walk_at "lk"⟩, ⟨a2, by walk_at "lk"⟩, ⟨a3, by walk_at "lk"⟩, ⟨a4, by walk_at "lk"⟩, by walk_at "lk"⟩, k', ns', rfl, ?_, by (first | lia | omega), fun q hq => ?_⟩, fun q hq => ?_, fun q hq => hq⟩
        · rw [h1, e1, fold_step hc]
        · rcases h3 q hq with hq | hq
          · exact e3 q hq
          · rw [hq]; exact hcl
        · rcases List.mem_cons.mp hq with rfl | hq
          · exact hI (DN, listOf (strValues ns).toArray k) (.head _)
          · exact hI q (.tail _ hq)
      rcases hf with rfl | rfl
      · exact hx1
      · exact hx1
  · rintro m1 _ ⟨⟨⟨a1, b1⟩, ⟨a2, b2⟩, ⟨a3, b3⟩, ⟨a4, b4⟩, b5⟩, k, ns, rfl, e1, e2, e3⟩
    rw [strVal_len] at e1 e2
    rw [List.take_of_length_le (by rw [List.length_map]; exact Nat.le_refl _), el] at e1
    have hj := glued_len (Str.ofString "/") (ns.map (·.1))
    have hs := sum_small ns e3
    have hm1 : ns.length * 2000 ≤ 2002 * 2000 := Nat.mul_le_mul_right _ (by (first | lia | omega))
    have hone : (Str.ofString "/").length = 1 := by decide
    rw [hone, List.length_map] at hj
    have hl : ∀ x y : Str, (x ++ y).length = x.length + y.length := fun x y => Array.size_append
    have hsum := hl (splitF x).1 (Txt.join (Str.ofString "/") (ns.map (·.1)))
    have hw : normF x = if ((splitF x).1 ++ Txt.join (Str.ofString "/") (ns.map (·.1))).length = 0 then Str.ofString "." else (splitF x).1 ++ Txt.join (Str.ofString "/") (ns.map (·.1)) := by rw [e1]; exact if_neg h0
    refine Sts.asgp ok.hk (by exact rfl) (by exact rfl) (p := .ref DN) (by walk_at "ev") fun v5 f5 => ?_
    cases f5
    refine Sts.asgp ok.hk (by exact rfl) (by exact rfl) (p := .str ((splitF x).1 ++ Txt.join (Str.ofString "/") (ns.map (·.1)))) (Evp.addS rfl (by walk_at "ev") (Evp.smeth1 (by exact rfl) (by exact rfl) (by exact rfl) (fun t n => gm_join) (by walk_at "ev") (p := .ref DN) (by walk_at "ev") fun t v fv => ?_) ?_) fun v6 f6 => ?_
    · cases fv
      exact Cm.join rfl (.head _) (by decide) (by (first | lia | omega)) e3 fun t _ => ⟨⟨t, rfl⟩, Kp.rfl⟩
    · (first | lia | omega)
    obtain ⟨t6, rfl⟩ := f6
    have kk : Kp n ((DN, listOf (strValues ns).toArray k) :: (SP, listOf (strValues l).toArray 0) :: n1) := fun q hq => .tail _ (.tail _ (kn q hq))
    refine Sts.ret (R := fun v n' => ∃ t, v = .str (normF x) t ∧ Kp n n') (Eve.orS (x := (splitF x).1 ++ Txt.join (Str.ofString "/") (ns.map (·.1))) (by walk_at "ev") (by (first | lia | omega)) (fun h => ?_) (fun h t n' k => ?_) rfl) fun v n' r => ?_
    · rw [if_pos h] at hw
      rw [hw]
      exact Cm.mono (R := Is (.str (Str.ofString ".")) _) (by walk_at "ev") fun v n' e => by obtain ⟨⟨t, rfl⟩, k⟩ := e; exact ⟨t, rfl, kk.trans k⟩
    · rw [if_neg h] at hw
      exact ⟨t, by rw [hw], kk.trans k⟩
    · obtain ⟨t, rfl, k⟩ := r
      exact ⟨t, rfl, k⟩
theorem normpath_c (w : World) (x : Str) (t : Tok) (hx : x.length ≤ 2000) : Ctr w 147 50 500 [.str x t] (fun _ => True) (fun n v n' => ∃ t, v = .str (normF x) t ∧ n' = n) := by
  intro dp un gd cn cs a ccd cl outer A₀ base h₀ L m news s mg mb mean Q E B F X N T hk hd hu _ ret
  obtain ⟨sh, sg, sd, stk, so⟩ := s
  dsimp only at F N ret
  refine wpAny_call ?_
  k_dflt (refine' code_def (binds := [(Str.ofString "path", .str x t)]) B F X N T ?kA ?kF ?kK ?k6 ?k7 ?k8 ?k9 ?kB ?_ ?c2 ?c3 ?c4 ?c5; (case kA => exact rfl); (case kF => exact rfl); (case kK => assumption); (case k6 => k_is); (case k7 => k_is); (case k8 => ktr_room); (case k9 => exact BindsTo.of_eq rfl); (case c5 => decide); (case kB => exact locs rfl); (case c2 => exact rfl); (case c3 => exact rfl); (case c4 => exact rfl); k_whole; intro g' L' h' FG' F' N' B' X' T'; (try dsimp only); (try k_fold))
  have hE : PassesOwn (model pw w) (ktrTop (dp + 1) (un + 3) gd (Str.ofString "normpath") c19 L' 147 (.ref 146) [] (envX cn cs L a ccd cl :: outer)) (npC ⟨w, ktrTop (dp + 1) (un + 3) gd (Str.ofString "normpath") c19 L' 147 (.ref 146) [] (envX cn cs L a ccd cl :: outer), L', 147, .ref 146, g'⟩).env ek := by passes_own
  have hdp : (ktrTop dp un gd cn cs L a ccd cl outer).depth = dp := rfl
  have hun : (ktrTop dp un gd cn cs L a ccd cl outer).units = un := rfl
  refine np_sx (p := ⟨w, ktrTop (dp + 1) (un + 3) gd (Str.ofString "normpath") c19 L' 147 (.ref 146) [] (envX cn cs L a ccd cl :: outer), L', 147, .ref 146, g'⟩) (Cx.ok (nd := 49) (nu := 490) B' X' T' (by exact rfl) (by (first | lia | omega)) (by (first | lia | omega))) (by (first | lia | omega)) (by (first | lia | omega)) hx (by exact rfl) hE (Nat.zero_le _) F' N' ?_
  rintro f m' n' h2 tk ⟨u, rfl, kp⟩ F2 N2
  refine ⟨_, _, _, F2, N2, fun kF kN => ?_⟩
  exact ret _ tk h2 _ kF (news_sub kN kp) ⟨u, rfl, rfl⟩
open PySem PySem.W PySem.Calls PyProof.Rows
theorem fill28 : PySem.Challenge.rw_kl0186_01 = PySem.Challenge.rw_kl0186_01 ∧ K = K := by
  w_on
  k_fill
  exact ⟨rfl, rfl⟩
theorem ns_chr {P : Params} : nsIn (K P) mainGlobals (Str.ofString "chr") = some none := by kernel_rfl
section
variable {C : Cx} {m : Mp} {n : Led} {R : Value → Led → Prop}
theorem Cm.eqT {nd nu : Nat} (ok : C.Ok nd nu) (hu : 64 ≤ nu) {D D' : Addr} {nc ns : List (Str × Tok)} {k k' : Nat} (hm : (D, listOf (strValues nc).toArray k) ∈ n) (hm' : (D', listOf (strValues ns).toArray k') ∈ n) (r : R (.bool (decide (nc.map (·.1) = ns.map (·.1)))) n) : Cm C m n (compareOp .Eq (.ref D) (.ref D')) R :=
  fun _ s _ h0 F N q => eq_T N hm hm' (by have := ok.un; (first | lia | omega)) (q _ n s.heap s.toks h0 r F N)
theorem Cm.chr {i : Int} {t : Tok} (hlo : C.lo = 0) (h0 : 0 ≤ i) (h1 : i ≤ 1114111) (r : ∀ t, R (.str ⟨#[i.toNat]⟩ t) n) : Cm C m n (call (.builtin "chr") [.int i t]) R :=
  fun _ s _ _ F N q => chr_of_range h0 h1 (q _ n s.heap _ (by (first | lia | omega)) (r _) F N)
end
noncomputable abbrev woC (p : Pl) : Cx := ⟨p.w, p.A, Str.ofString "_law_word", c41, p.L, p.a, p.cd, p.h₀, 0⟩
noncomputable def woBody : List Stmt := whBody (b41.getD 3 (.Pass p0))
/-- the names of the loop -/
structure WoF (DP DR : Addr) (z y : Int) (m : Mp) : Prop where
  z : ∃ t, m (Str.ofString "z") = some (.int z t)
  y : ∃ t, m (Str.ofString "y") = some (.int y t)
  row : m (Str.ofString "row") = some (.ref DR)
  pool : m (Str.ofString "pool") = some (.ref DP)
def WoJ (r : Led) (DP DR : Addr) (y : Int) (i : Nat) (m : Mp) (nx : Led) : Prop :=
  ∃ z row k, WoF DP DR z y m ∧ 0 ≤ z ∧ row.length + i = 3 ∧ RowI y i z (row.map (·.1)) ∧ Kp ((DR, listOf (strValues row).toArray k) :: r) nx
def WoX (r : Led) (DP DR : Addr) (y : Int) (m : Mp) (nx : Led) : Prop :=
  ∃ z row k, WoF DP DR z y m ∧ row.length ≤ 3 ∧ row.map (·.1) = rowF 3 (y.fdiv 8) [] ∧ Kp ((DR, listOf (strValues row).toArray k) :: r) nx
theorem wo_item {p : Pl} {nd nu : Nat} (ok : (woC p).Ok nd nu) {m : Mp} {n : Led} {DP DR : Addr} {z y : Int} {pl : List (Str × Tok)} (hF : WoF DP DR z y m) (hP : (DP, listOf (strValues pl).toArray 0) ∈ n) (hpl : pl.map (·.1) = poolW) (e : Expr)
    (he : e = (match woBody with | .Expr (.Call _ [e] _ _) _ :: _ => e | _ => .Constant .none 0 p0)) : Evp (woC p) m n e (.str (pieceF z)) := by
  subst he
  obtain ⟨⟨t1, h1⟩, ⟨t2, h2⟩, h3, h4⟩ := hF
  have hlen : pl.length = 7 := by have := congrArg List.length hpl; rwa [List.length_map] at this
  refine Eve.ifp (c := decide (z.fmod 8 < 7)) (Tsp.cmp (by exact rfl) (p1 := .int (z.fmod 8)) (p2 := .int 7) (Evp.modI (by walk_at "ev") (by walk_at "ev") (by decide)) (by walk_at "ev") .ltI) (fun h => ?_) fun h => ?_
  · have h' := of_decide_eq_true h
    have h0 := Int.fmod_nonneg_of_pos z (show (0 : Int) < 8 by decide)
    refine Evp.sub (p1 := .ref DP) (p2 := .int (z.fmod 8)) (by walk_at "ev") (Evp.modI (by walk_at "ev") (by walk_at "ev") (by decide)) fun a b fa fb => ?_
    cases fa
    obtain ⟨u, rfl⟩ := fb
    have hlt : (z.fmod 8).toNat < pl.length := by (first | lia | omega)
    obtain ⟨⟨c, tc⟩, hg⟩ : ∃ q, pl[(z.fmod 8).toNat]? = some q := ⟨_, List.getElem?_eq_getElem hlt⟩
    have hpc : pieceF z = c := pieceA hpl h' (by rw [List.getElem?_map, hg]; rfl)
    refine Cm.item hP (by rw [strVal_len]; (first | lia | omega)) h0 (x := .str c tc) ?_ (by intro k u; exact rfl) ⟨⟨tc, by rw [hpc]⟩, Kp.rfl⟩
    unfold strValues
    rw [List.getElem?_map, hg]; rfl
  · have h' := of_decide_eq_false h
    have h0 := Int.fmod_nonneg_of_pos (z.fdiv 8) (show (0 : Int) < 55202 by decide)
    have h1 := Int.fmod_lt_of_pos (z.fdiv 8) (show (0 : Int) < 55202 by decide)
    refine Eve.callB (Eve.boot ok ns_chr boot_chr (by decide) (by exact rfl) (by decide) ⟨rfl, rfl⟩) (by exact rfl) (by exact rfl) (by exact rfl) (Sq.consp (p := .int (94 + (z.fdiv 8).fmod 55202)) (by exact rfl) (Evp.addI (by walk_at "ev") (Evp.modI (Evp.divI (by walk_at "ev") (by walk_at "ev") (by decide) (by rfl)) (by walk_at "ev") (by decide))) fun v fv => Sq.nil ?_)
    obtain ⟨u, rfl⟩ := fv
    exact Cm.chr rfl (by (first | lia | omega)) (by (first | lia | omega)) fun t => ⟨⟨t, by rw [pieceB h']⟩, Kp.rfl⟩
theorem wo_sx {p : Pl} {nd nu : Nat} (ok : (woC p).Ok nd nu) (hnd : 10 ≤ nd) (hnu : 100 ≤ nu) {m : Mp} {n : Led} {y : Int} {t : Tok} (hy : 0 ≤ y) (hm : m (Str.ofString "y") = some (.int y t)) : Sts (woC p) (RtS (wordF y) n) m n b41 [] := by
  refine Sts.asg ok.hk (by exact rfl) (by exact rfl) (Eve.list (R := fun v n' => ∃ DP pl, v = .ref DP ∧ pl.map (·.1) = poolW ∧ n' = (DP, listOf (strValues pl).toArray 0) :: n) (R1 := fun vs n' => ∃ pl, vs = strValues pl ∧ pl.map (·.1) = poolW ∧ n' = n) (Sq.consp (by exact rfl) (p := .str (Str.ofString "a")) (by walk_at "ev") fun v1 f1 => Sq.consp (by exact rfl) (p := .str (Str.ofString "..")) (by walk_at "ev") fun v2 f2 => Sq.consp (by exact rfl) (p := .str (Str.ofString ".")) (by walk_at "ev") fun v3 f3 => Sq.consp (by exact rfl) (p := .str (Str.ofString "")) (by walk_at "ev") fun v4 f4 => Sq.consp (by exact rfl) (p := .str (Str.ofString "it's")) (by walk_at "ev") fun v5 f5 => Sq.consp (by exact rfl) (p := .str (Str.ofString "..")) (by walk_at "ev") fun v6 f6 => Sq.consp (by exact rfl) (p := .str (Str.ofString "(b]")) (by walk_at "ev") fun v7 f7 => Sq.nil ?_) ?_) ?_
  · obtain ⟨t1, rfl⟩ := f1
    obtain ⟨t2, rfl⟩ := f2
    obtain ⟨t3, rfl⟩ := f3
    obtain ⟨t4, rfl⟩ := f4
    obtain ⟨t5, rfl⟩ := f5
    obtain ⟨t6, rfl⟩ := f6
    obtain ⟨t7, rfl⟩ := f7
    exact ⟨[(_, t1), (_, t2), (_, t3), (_, t4), (_, t5), (_, t6), (_, t7)], rfl, rfl, rfl⟩
  · rintro _ _ ⟨pl, rfl, hpl, rfl⟩
    have := congrArg List.length hpl
    rw [List.length_map] at this
    have h7 : poolW.length = 7 := rfl
    exact ⟨by rw [strVal_len]; (first | lia | omega), fun D _ => ⟨D, pl, rfl, hpl, rfl⟩⟩
  rintro _ _ ⟨DP, pl, rfl, hpl, rfl⟩
  refine Sts.asg ok.hk (by exact rfl) (by exact rfl) (Eve.nilL (R := fun v n' => ∃ DR, v = .ref DR ∧ (∀ q ∈ (DP, listOf (strValues pl).toArray 0) :: n, q.1 < DR) ∧ n' = (DR, listOf #[] 0) :: (DP, listOf (strValues pl).toArray 0) :: n) fun D lt => ⟨D, rfl, lt, rfl⟩) ?_
  rintro _ _ ⟨DR, rfl, lt, rfl⟩
  refine Sts.asgp ok.hk (by exact rfl) (by exact rfl) (p := .int (y.fdiv 8)) (Evp.divI (by walk_at "ev") (by walk_at "ev") (by decide) (by rfl)) fun v3 f3 => ?_
  obtain ⟨t3, rfl⟩ := f3
  have hDR : ∀ q ∈ (DP, listOf (strValues pl).toArray 0) :: n, q.1 ≠ DR := fun q hq => Nat.ne_of_lt (lt q hq)
  refine Sts.while rfl (WoJ ((DP, listOf (strValues pl).toArray 0) :: n) DP DR y) (WoX ((DP, listOf (strValues pl).toArray 0) :: n) DP DR y) (n₀ := 3) ⟨y.fdiv 8, [], 0, ⟨⟨t3, by walk_at "lk"⟩, ⟨t, by walk_at "lk"⟩, by walk_at "lk", by walk_at "lk"⟩, Int.fdiv_nonneg hy (by decide), rfl, rfl, Kp.rfl⟩ ?_ ?_
  · rintro i m1 nx ⟨z, row, k, hF, hz, hl, hI, kp⟩
    have hF' := hF
    obtain ⟨⟨t1, h1⟩, ⟨t2, h2⟩, h3, h4⟩ := hF'
    refine Tst.sub (Tst.mono (Tsp.and2 (b := decide ((row.length : Int) < 3)) (c := decide (0 < z) || decide (row.map (·.1) = [])) (Tsp.cmp (by exact rfl) (p1 := .int row.length) (p2 := .int 3) ?_ (by walk_at "ev") .ltI) fun _ => Tsp.or2 (Tsp.cmp (by exact rfl) (p1 := .int z) (p2 := .int 0) (by walk_at "ev") (by walk_at "ev") .gtI) fun _ => ?_) ?_) kp
    · rw [← strVal_len row]
      exact Evp.lenL ok (by exact rfl) ns_len (by exact rfl) (by exact rfl) (by walk_at "ev") (.head _) (by rw [strVal_len]; (first | lia | omega))
    · exact Tst.cmpG (by exact rfl) (R1 := fun v n' => v = .ref DR ∧ n' = _) (Eve.loc ok.hk (by exact rfl) (by decide) (by walk_at "lk") ⟨rfl, rfl⟩) fun a n1 e => by
        obtain ⟨rfl, rfl⟩ := e
        exact Eve.nilL fun D _ => Cm.eqT (ns := []) ok (by (first | lia | omega)) (.tail _ (.head _)) (.head _) ⟨_, rfl, rfl, Kp.cons⟩
    · rintro b n2 ⟨rfl, k2⟩
      refine ⟨fun h => Sts.sub ?_ k2, fun h => ?_⟩
      · rw [Bool.and_eq_true, Bool.or_eq_true, decide_eq_true_eq, decide_eq_true_eq, decide_eq_true_eq] at h
        refine Sts.appendP (by exact rfl) (by exact rfl) (by exact rfl) (by exact rfl) (by exact rfl) (by exact rfl) (D := DR) (by walk_at "ev") (.head _) (by rw [strVal_len]; (first | lia | omega)) (wo_item ok hF (.tail _ (.head _)) hpl _ rfl) (fun v => upd_hd hDR) fun v4 f4 => ?_
        obtain ⟨u, rfl⟩ := f4
        rw [← strVal_snoc]
        refine Sts.asgp ok.hk (by exact rfl) (by exact rfl) (p := .int (z.fdiv 8)) (Evp.divI (by walk_at "ev") (by walk_at "ev") (by decide) (by rfl)) fun v5 f5 => ?_
        obtain ⟨t5, rfl⟩ := f5
        have hi : i ≠ 0 := fun e => by rw [e] at hl; (first | lia | omega)
        refine Sts.nil ⟨i - 1, by (first | lia | omega), z.fdiv 8, row ++ [(pieceF z, u)], k + 1, ⟨⟨t5, by walk_at "lk"⟩, ⟨t2, by walk_at "lk"⟩, by walk_at "lk", by walk_at "lk"⟩, Int.fdiv_nonneg hz (by decide), by rw [List.length_append, List.length_singleton]; (first | lia | omega), ?_, Kp.rfl⟩
        rw [List.map_append]
        exact rowStep hI hi h.2 rfl
      · refine ⟨z, row, k, hF, by (first | lia | omega), ?_, k2⟩
        rw [Bool.and_eq_false_iff, Bool.or_eq_false_iff, decide_eq_false_iff_not, decide_eq_false_iff_not, decide_eq_false_iff_not] at h
        rcases h with h | h
        · exact rowStop hI (by (first | lia | omega))
        · exact rowStop2 hI h.1 h.2
  · rintro m1 nx ⟨z, row, k, ⟨⟨t1, h1⟩, ⟨t2, h2⟩, h3, h4⟩, hl, hr, kp⟩
    refine Sts.sub ?_ kp
    have hrl : ∀ q ∈ row, q.1.length ≤ 2000 := fun q hq => Nat.le_trans (rowF_len 3 (y.fdiv 8) [] (by simp) q.1 (hr ▸ List.mem_map_of_mem hq)) (by decide)
    have hj := glued_len (Str.ofString "/") (row.map (·.1))
    have hs := sum_small row hrl
    have hone : (Str.ofString "/").length = 1 := by decide
    rw [hone, List.length_map] at hj
    have hm2 : row.length * 2000 ≤ 3 * 2000 := Nat.mul_le_mul_right _ hl
    have h8 : (y.fmod 8).toNat < 8 := by have := Int.fmod_lt_of_pos y (show (0 : Int) < 8 by decide); have := Int.fmod_nonneg_of_pos y (show (0 : Int) < 8 by decide); (first | lia | omega)
    have hw : wordF y = headW.getD (y.fmod 8).toNat (Str.ofString "") ++ Txt.join (Str.ofString "/") (row.map (·.1)) := by rw [hr]; rfl
    have hcl : (headW.getD (y.fmod 8).toNat (Str.ofString "")).length ≤ 3 := getD_len (by decide) (by decide) _
    refine Sts.ret (R := Is (.str (headW.getD (y.fmod 8).toNat (Str.ofString "") ++ Txt.join (Str.ofString "/") (row.map (·.1)))) ((DR, listOf (strValues row).toArray k) :: (DP, listOf (strValues pl).toArray 0) :: n)) (Evp.addS rfl (Eve.sub (R1 := fun v n' => ∃ D hl, v = .ref D ∧ hl.map (·.1) = headW ∧ n' = (D, listOf (strValues hl).toArray 0) :: (DR, listOf (strValues row).toArray k) :: (DP, listOf (strValues pl).toArray 0) :: n) (R2 := fun a b n' => (∃ D hl, a = .ref D ∧ hl.map (·.1) = headW ∧ (D, listOf (strValues hl).toArray 0) ∈ n' ∧ Kp ((DR, listOf (strValues row).toArray k) :: (DP, listOf (strValues pl).toArray 0) :: n) n') ∧ ∃ u, b = .int (y.fmod 8) u) (Eve.list (R1 := fun vs n' => ∃ hl, vs = strValues hl ∧ hl.map (·.1) = headW ∧ n' = (DR, listOf (strValues row).toArray k) :: (DP, listOf (strValues pl).toArray 0) :: n) (Sq.consp (by exact rfl) (p := .str (Str.ofString "")) (by walk_at "ev") fun v1 f1 => Sq.consp (by exact rfl) (p := .str (Str.ofString "")) (by walk_at "ev") fun v2 f2 => Sq.consp (by exact rfl) (p := .str (Str.ofString "")) (by walk_at "ev") fun v3 f3 => Sq.consp (by exact rfl) (p := .str (Str.ofString "")) (by walk_at "ev") fun v4 f4 => Sq.consp (by exact rfl) (p := .str (Str.ofString "")) (by walk_at "ev") fun v5 f5 => Sq.consp (by exact rfl) (p := .str (Str.ofString "/")) (by walk_at "ev") fun v6 f6 => Sq.consp (by exact rfl) (p := .str (Str.ofString "//")) (by walk_at "ev") fun v7 f7 => Sq.consp (by exact rfl) (p := .str (Str.ofString "///")) (by walk_at "ev") fun v8 f8 => Sq.nil ?_) ?_) ?_ ?_) (Evp.smeth1 (by exact rfl) (by exact rfl) (by exact rfl) (fun t n => gm_join) (by walk_at "ev") (p := .ref DR) (by walk_at "ev") fun t v fv => ?_) (by (first | lia | omega))) fun v n' e => ?_
    · obtain ⟨t1, rfl⟩ := f1
      obtain ⟨t2, rfl⟩ := f2
      obtain ⟨t3, rfl⟩ := f3
      obtain ⟨t4, rfl⟩ := f4
      obtain ⟨t5, rfl⟩ := f5
      obtain ⟨t6, rfl⟩ := f6
      obtain ⟨t7, rfl⟩ := f7
      obtain ⟨t8, rfl⟩ := f8
      exact ⟨[(_, t1), (_, t2), (_, t3), (_, t4), (_, t5), (_, t6), (_, t7), (_, t8)], rfl, rfl, rfl⟩
    · rintro _ _ ⟨hl, rfl, hhl, rfl⟩
      have := congrArg List.length hhl
      rw [List.length_map] at this
      have h7 : headW.length = 8 := rfl
      exact ⟨by rw [strVal_len]; (first | lia | omega), fun D _ => ⟨D, hl, rfl, hhl, rfl⟩⟩
    · rintro _ _ ⟨D, hl, rfl, hhl, rfl⟩
      exact Cm.mono (R := Is (.int (y.fmod 8)) _) (Evp.modI (by walk_at "ev") (by walk_at "ev") (by decide)) fun v n' e => ⟨⟨D, hl, rfl, hhl, e.2 _ (.head _), fun q hq => e.2 q (.tail _ hq)⟩, e.1⟩
    · rintro a n1 b n2 _ ⟨⟨D, hl, rfl, hhl, hD, kD⟩, u, rfl⟩
      have hlen : hl.length = 8 := by have := congrArg List.length hhl; rwa [List.length_map] at this
      obtain ⟨⟨c, tc⟩, hg⟩ : ∃ q, hl[(y.fmod 8).toNat]? = some q := ⟨_, List.getElem?_eq_getElem (by (first | lia | omega))⟩
      have hc : headW.getD (y.fmod 8).toNat (Str.ofString "") = c := by rw [List.getD_eq_getElem?_getD, ← hhl, List.getElem?_map, hg]; rfl
      refine Cm.item hD (by rw [strVal_len]; (first | lia | omega)) (Int.fmod_nonneg_of_pos _ (by decide)) (x := .str c tc) ?_ (by intro k u; exact rfl) ⟨⟨tc, by rw [hc]⟩, kD⟩
      unfold strValues
      rw [List.getElem?_map, hg]; rfl
    · cases fv
      exact Cm.join rfl (.head _) (by decide) (by (first | lia | omega)) hrl fun t _ => ⟨⟨t, rfl⟩, Kp.rfl⟩
    · obtain ⟨⟨t9, rfl⟩, k9⟩ := e
      exact ⟨t9, by rw [hw], fun q hq => k9 q (.tail _ (.tail _ hq))⟩
theorem word_c (w : World) (n : Int) (t : Tok) (hn : 0 ≤ n) : Ctr w 841 50 500 [.int n t] (fun _ => True) (fun l v l' => (∃ t, v = .str (wordF n) t) ∧ l' = l) := by
  intro dp un gd cn cs a ccd cl outer A₀ base h₀ L m news s mg mb mean Q E B F X N T hk hd hu _ ret
  obtain ⟨sh, sg, sd, stk, so⟩ := s
  dsimp only at F N ret
  refine wpAny_call ?_
  k_dflt (refine' code_def (binds := [(Str.ofString "y", .int n t)]) B F X N T ?kA ?kF ?kK ?k6 ?k7 ?k8 ?k9 ?kB ?_ ?c2 ?c3 ?c4 ?c5; (case kA => exact rfl); (case kF => exact rfl); (case kK => assumption); (case k6 => k_is); (case k7 => k_is); (case k8 => ktr_room); (case k9 => exact BindsTo.of_eq rfl); (case c5 => decide); (case kB => exact locs rfl); (case c2 => exact rfl); (case c3 => exact rfl); (case c4 => exact rfl); k_whole; intro g' L' h' FG' F' N' B' X' T'; (try dsimp only); (try k_fold))
  have hE : PassesOwn (model pw w) (ktrTop (dp + 1) (un + 3) gd (Str.ofString "_law_word") c41 L' 841 (.ref 840) [] (envX cn cs L a ccd cl :: outer)) (woC ⟨w, ktrTop (dp + 1) (un + 3) gd (Str.ofString "_law_word") c41 L' 841 (.ref 840) [] (envX cn cs L a ccd cl :: outer), L', 841, .ref 840, g'⟩).env ek := by passes_own
  have hdp : (ktrTop dp un gd cn cs L a ccd cl outer).depth = dp := rfl
  have hun : (ktrTop dp un gd cn cs L a ccd cl outer).units = un := rfl
  refine wo_sx (y := n) (t := t) (p := ⟨w, ktrTop (dp + 1) (un + 3) gd (Str.ofString "_law_word") c41 L' 841 (.ref 840) [] (envX cn cs L a ccd cl :: outer), L', 841, .ref 840, g'⟩) (Cx.ok (nd := 49) (nu := 490) B' X' T' (by exact rfl) (by (first | lia | omega)) (by (first | lia | omega))) (by (first | lia | omega)) (by (first | lia | omega)) hn (by exact rfl) hE (Nat.zero_le _) F' N' ?_
  rintro f m' n' h2 tk ⟨u, rfl, kp⟩ F2 N2
  refine ⟨_, _, _, F2, N2, fun kF kN => ?_⟩
  exact ret _ tk h2 _ kF (news_sub kN kp) ⟨⟨u, rfl⟩, rfl⟩
open PySem PySem.W PySem.Calls PyProof.Rows
theorem fill20 : PySem.Challenge.rw_kl0186_01 = PySem.Challenge.rw_kl0186_01 ∧ K = K := by
  w_on
  k_fill
  exact ⟨rfl, rfl⟩
/-- one piece of a word -/
noncomputable def pcStep (root : Str) (names : List Str) (p : Str) : List Str :=
  if p = Str.ofString ".." then
    if names ≠ [] ∧ names.getLast? ≠ some (Str.ofString "..") then names.dropLast else if root = Str.ofString "" then names ++ [Str.ofString ".."] else names
  else if p ≠ Str.ofString "" ∧ p ≠ Str.ofString "." then names ++ [p] else names
/-- what the slashes ahead of a word do -/
noncomputable def wdHead (σ : Str × List Str) (word : Str) : Str × List Str :=
  if (0 : Int) < word.length - (Txt.lstripChars word (Str.ofString "/")).length then (if (word.length : Int) - (Txt.lstripChars word (Str.ofString "/")).length = 2 then Str.ofString "//" else Str.ofString "/", []) else σ
noncomputable def wdStep (σ : Str × List Str) (word : Str) : Str × List Str := ((wdHead σ word).1, (Txt.split word (Str.ofString "/")).foldl (pcStep (wdHead σ word).1) (wdHead σ word).2)
noncomputable def walkF (words : List Str) : Str :=
  let σ := words.foldl wdStep (Str.ofString "", [])
  let t := σ.1 ++ Txt.join (Str.ofString "/") σ.2
  if t.length = 0 then Str.ofString "." else t

section
variable {w : World} {A : Around} {L a : Addr} {cd : Value} {h₀ : Heap} {nd nu : Nat} {D : Addr} {n₀ : Nat} {ps : List (Str × Tok)} {r : Led}
noncomputable abbrev wkC (w : World) (A : Around) (L a : Addr) (cd : Value) (h₀ : Heap) : Cx := ⟨w, A, Str.ofString "_law_walk", c48, L, a, cd, h₀, 0⟩
/-- root and names, as the frame and the ledger bear them -/
def NmAt (rest : Led) (B : Nat) (root : Str) (names : List Str) (m : Mp) (nx : Led) : Prop :=
  ∃ (tr : Tok) (DN : Addr) (k : Nat) (ns : List (Str × Tok)), ns.map (·.1) = names ∧ m (Str.ofString "root") = some (.str root tr) ∧ m (Str.ofString "names") = some (.ref DN) ∧ ns.length ≤ B ∧ (∀ p ∈ ns, p.1.length ≤ 60) ∧ (∀ p ∈ rest, p.1 ≠ DN) ∧ nx = (DN, listOf (strValues ns).toArray k) :: rest
theorem fold_step0 {α β : Type} {f : α → Str → α} {z : α} {l : List (Str × β)} {i : Nat} {c : Str} {t : β} (h : l[i]? = some (c, t)) : ((l.map (·.1)).take (i + 1)).foldl f z = f (((l.map (·.1)).take i).foldl f z) c := by
  rw [List.take_add_one, List.getElem?_map, h, List.foldl_append]; rfl
theorem pc_tst (ok : (wkC w A L a cd h₀).Ok nd nu) (hu : 64 ≤ nu) {m : Mp} {n : Led} {DN : Addr} {k : Nat} {ns : List (Str × Tok)} {p1 p2 p3 p4 p5 p6 p7 p8 p9 p10 : Pos} {k1 k2 : Nat} (mn : m (Str.ofString "names") = some (.ref DN)) (hm : (DN, listOf (strValues ns).toArray k) ∈ n) (hb : ns.length ≤ 100000) :
    Tsp (wkC w A L a cd h₀) m n (.BoolOp .And [.Compare (.Name (Str.ofString "names") p1) [.NotEq] [.List [] p2] p3, .Compare (.Subscript (.Name (Str.ofString "names") p4) (.UnaryOp .USub (.Constant (.int 1) k1 p5) p6) p7) [.NotEq] [.Constant (.str (Str.ofString "..")) k2 p8] p9] p10) (decide (ns.map (·.1) ≠ [] ∧ (ns.map (·.1)).getLast? ≠ some (Str.ofString ".."))) := by
  have h1 : Tsp (wkC w A L a cd h₀) m n (.Compare (.Name (Str.ofString "names") p1) [.NotEq] [.List [] p2] p3) (!decide (ns.map (·.1) = [])) :=
    Tst.cmpG (by exact rfl) (R1 := fun v n' => v = .ref DN ∧ n' = n) (Eve.loc ok.hk (by exact rfl) (by decide) mn ⟨rfl, rfl⟩) fun a n1 e => by
      obtain ⟨rfl, rfl⟩ := e
      exact Eve.nilL fun D _ => Cm.neT (ns := []) ok hu (.tail _ hm) (.head _) ⟨_, rfl, rfl, Kp.cons⟩
  rcases List.eq_nil_or_concat ns with rfl | ⟨init, ⟨y, ty⟩, e⟩
  · exact Tsp.and2 (b := false) (c := false) h1 fun h => absurd h (by decide)
  · rw [List.concat_eq_append] at e
    subst e
    have e1 : (!decide ((init ++ [(y, ty)]).map (·.1) = [])) = true := by simp
    rw [e1] at h1
    have e2 : ((init ++ [(y, ty)]).map (·.1)).getLast? = some y := by rw [List.map_append]; exact List.getLast?_concat ..
    have e3 : decide ((init ++ [(y, ty)]).map (·.1) ≠ [] ∧ ((init ++ [(y, ty)]).map (·.1)).getLast? ≠ some (Str.ofString "..")) = (true && (y != Str.ofString "..")) := by
      rw [e2, Bool.true_and]
      by_cases hy : y = Str.ofString ".."
      · rw [hy]; simp
      · have : (y != Str.ofString "..") = true := bne_iff_ne.mpr hy
        rw [this]; simp [hy]
    rw [e3]
    rw [strVal_snoc] at hm
    rw [List.length_append] at hb
    exact Tsp.and2 h1 fun _ => Tsp.cmp (by exact rfl) (Evp.sub (p1 := .ref DN) (Evp.loc ok.hk (by exact rfl) (by decide) mn .ref) Evp.neg1 fun a b fa fb => by
      cases fa
      obtain ⟨u, rfl⟩ := fb
      exact Cm.itemLast hm (by rw [strVal_len]; (first | lia | omega)) (by intro k u; exact rfl) ⟨⟨ty, rfl⟩, Kp.rfl⟩) Evp.str .neS
theorem walk_sx (ok : (wkC w A L a cd h₀).Ok nd nu) (hu : 64 ≤ nu) {n : Led} {k₀ : Nat} {m : Mp} (hD : (D, listOf (strValues ps).toArray k₀) ∈ n) (hps : ps.length ≤ 30) (hpl : ∀ p ∈ ps, p.1.length ≤ 60) (hm : m (Str.ofString "words") = some (.ref D)) :
    Sts (wkC w A L a cd h₀) (fun f _ n' => ∃ t, f = .ret (.str (walkF (ps.map (·.1))) t) ∧ Kp n n') m n b48 [] := by
  refine Sts.asgp ok.hk (by exact rfl) (by exact rfl) (by walk_at "ev") fun vr fr => ?_
  obtain ⟨tr, rfl⟩ := fr
  refine Sts.asg ok.hk (by exact rfl) (by exact rfl) (Eve.nilL (R := fun v n' => ∃ DN, v = .ref DN ∧ (∀ p ∈ n, p.1 < DN) ∧ n' = (DN, listOf #[] 0) :: n) fun DN lt => ⟨DN, rfl, lt, rfl⟩) ?_
  rintro _ _ ⟨DN, rfl, lt, rfl⟩
  refine Sts.for (by exact rfl) (by exact rfl) (fun _ => by exact rfl) (R := Is (.ref D) _) (by walk_at "ev") ?_
  rintro _ n1 ⟨rfl, k1⟩
  refine ForAt.sub (ForAt.list ok.hh rfl (.tail _ hD) (fun i m1 n1 => NmAt n (62 * i) (((ps.map (·.1)).take i).foldl wdStep (Str.ofString "", [])).1 (((ps.map (·.1)).take i).foldl wdStep (Str.ofString "", [])).2 m1 n1 ∧ (((ps.map (·.1)).take i).foldl wdStep (Str.ofString "", [])).1.length ≤ 2) ?_ ?_ ?_) k1
  · dsimp only [List.take_zero, List.foldl_nil]
    exact ⟨⟨tr, DN, 0, [], rfl, by walk_at "lk", by walk_at "lk", Nat.zero_le _, by simp, fun p hp => Nat.ne_of_lt (lt p hp), rfl⟩, by decide⟩
  · rintro i v m1 n1 own I hv ⟨⟨tr1, DN1, kk, ns, ens, mr, mn, nl, nB, nD, rfl⟩, rl⟩ hown hI ⟨oI, hIo⟩
    obtain ⟨c, tc, rfl, hc⟩ := strVal_get hv
    have hcl : c.length ≤ 60 := hpl (c, tc) (List.mem_of_getElem? hc)
    have hst : ((ps.map (·.1)).take (i + 1)).foldl wdStep (Str.ofString "", []) = wdStep (((ps.map (·.1)).take i).foldl wdStep (Str.ofString "", [])) c := fold_step0 hc
    rw [hst]
    generalize ((ps.map (·.1)).take i).foldl wdStep (Str.ofString "", []) = σ at *
    have hDN : ∀ p ∈ n ++ own, p.1 ≠ DN1 := fun p hp => by
      rcases List.mem_append.mp hp with hp | hp
      · exact nD p hp
      · rcases hown p hp with e | e
        · rw [e]; exact Ne.symm (hI (DN1, _) (.head _))
        · rw [e]; exact nD _ hD
    have hIn : ∀ p ∈ n, p.1 ≠ I := fun p hp => hI p (.tail _ hp)
    refine Sts.asgp ok.hk (by exact rfl) (by exact rfl) (p := .int ((c.length : Int) - (Txt.lstripChars c (Str.ofString "/")).length)) (Evp.subI (Evp.lenS ok (by exact rfl) ns_len (by exact rfl) (by exact rfl) (by walk_at "ev") (by (first | lia | omega))) (Evp.lenS ok (by exact rfl) ns_len (by exact rfl) (by exact rfl) (x := Txt.lstripChars c (Str.ofString "/")) (Evp.smeth1 (by exact rfl) (by exact rfl) (by exact rfl) (fun t n => gm_lstrip) (by walk_at "ev") (p := .str (Str.ofString "/")) (by walk_at "ev") fun t v fv => ?_) ?_)) fun vs fs => ?_
    · obtain ⟨u, rfl⟩ := fv
      exact Cm.lstrip rfl (by (first | lia | omega)) fun t _ => ⟨⟨t, rfl⟩, Kp.rfl⟩
    · exact Nat.le_trans (len_lstripChars c _) (by (first | lia | omega))
    obtain ⟨tsl, rfl⟩ := fs
    refine Sts.cut (R := fun m' n' => ∃ nx, NmAt (n ++ own) (62 * i) (wdHead σ c).1 (wdHead σ c).2 m' nx ∧ (wdHead σ c).1.length ≤ 2 ∧ Kp nx n' ∧ m' (Str.ofString "word") = some (.str c tc)) ?_ rfl ?_
    · refine Sts.ifp (Tsp.cmp (by exact rfl) (by walk_at "ev") (by walk_at "ev") .gtI) (fun h => ?_) fun h => Sts.pop (Sts.nil ?_)
      · have h' := of_decide_eq_true h
        refine Sts.asgp ok.hk (by exact rfl) (by exact rfl) (p := .str (if (c.length : Int) - (Txt.lstripChars c (Str.ofString "/")).length = 2 then Str.ofString "//" else Str.ofString "/")) (Eve.ifp (Tsp.cmp (by exact rfl) (by walk_at "ev") (by walk_at "ev") .eqI) (fun h => ?_) fun h => ?_) fun vr fr => ?_
        · rw [if_pos (beq_iff_eq.mp h)]; exact Evp.str
        · rw [if_neg (fun e => by rw [e] at h; exact absurd h (by decide))]; exact Evp.str
        · obtain ⟨tr2, rfl⟩ := fr
          refine Sts.asg ok.hk (by exact rfl) (by exact rfl) (Eve.nilL (R := fun v n' => ∃ DN, v = .ref DN ∧ (∀ p ∈ n ++ own, p.1 < DN) ∧ n' = (DN, listOf #[] 0) :: ((DN1, listOf (strValues ns).toArray kk) :: n ++ own)) fun DN lt => ⟨DN, rfl, fun p hp => lt p (.tail _ hp), rfl⟩) ?_
          rintro _ _ ⟨DN2, rfl, lt2, rfl⟩
          have e : wdHead σ c = (if (c.length : Int) - (Txt.lstripChars c (Str.ofString "/")).length = 2 then Str.ofString "//" else Str.ofString "/", []) := if_pos h'
          refine Sts.pop (Sts.nil ⟨(DN2, listOf #[] 0) :: (n ++ own), ?_, ?_, ?_, by walk_at "lk"⟩)
          · rw [e]
            exact ⟨tr2, DN2, 0, [], rfl, by walk_at "lk", by walk_at "lk", Nat.zero_le _, by simp, fun p hp => Nat.ne_of_lt (lt2 p hp), rfl⟩
          · rw [e]; dsimp only; split <;> decide
          · intro p hp
            rcases List.mem_cons.mp hp with rfl | hp
            · exact .head _
            · exact .tail _ (.tail _ hp)
      · have e : wdHead σ c = σ := if_neg (of_decide_eq_false h)
        rw [e]
        exact ⟨_, ⟨tr1, DN1, kk, ns, ens, by walk_at "lk", by walk_at "lk", nl, nB, hDN, rfl⟩, rl, Kp.rfl, by walk_at "lk"⟩
    · clear mr mn nl nB ens nD hDN hI rl
      rintro m2 n2 ⟨nx, hN, rl, kx, mw⟩
      refine Sts.sub ?_ kx
      clear kx
      unfold wdStep
      generalize wdHead σ c = h at *
      refine Sts.for (by exact rfl) (by exact rfl) (fun _ => by exact rfl) (R := fun v n' => ∃ SP l, v = .ref SP ∧ l.map (·.1) = Txt.split c (Str.ofString "/") ∧ (∀ p ∈ nx, p.1 < SP) ∧ n' = (SP, listOf (strValues l).toArray 0) :: nx) (Evp.smeth1 (by exact rfl) (by exact rfl) (by exact rfl) (fun t n => gm_split) (by walk_at "ev") (p := .str (Str.ofString "/")) (by walk_at "ev") fun t v fv => ?_) ?_
      · obtain ⟨u, rfl⟩ := fv
        exact Cm.split rfl (by decide) (by (first | lia | omega)) fun D l e lt => ⟨D, l, rfl, e, lt, rfl⟩
      rintro _ _ ⟨SP, l, rfl, el, ltS, rfl⟩
      have hll : l.length ≤ 62 := by have h1 := split_len c (Str.ofString "/"); rw [← el, List.length_map] at h1; (first | lia | omega)
      have hlp : ∀ p ∈ l, p.1.length ≤ 60 := fun p hp => Nat.le_trans (part_short (el ▸ List.mem_map_of_mem (f := fun p : Str × Tok => p.1) hp)) hcl
      obtain ⟨tr1, DN1, kk, ns, ens, mr, mn, nl, nB, nD, rfl⟩ := hN
      have nD2 : ∀ p ∈ (SP, listOf (strValues l).toArray 0) :: (n ++ own), p.1 ≠ DN1 := fun p hp => by
        rcases List.mem_cons.mp hp with rfl | hp
        · exact Nat.ne_of_gt (ltS _ (.head _))
        · exact nD p hp
      refine ForAt.sub (n₂ := (DN1, listOf (strValues ns).toArray kk) :: (SP, listOf (strValues l).toArray 0) :: (n ++ own)) (ForAt.list ok.hh rfl (.tail _ (.head _)) (fun j m' n' => NmAt ((SP, listOf (strValues l).toArray 0) :: (n ++ own)) (62 * i + j) h.1 (((l.map (·.1)).take j).foldl (pcStep h.1) h.2) m' n') ?_ ?_ ?_) ?_
      · exact ⟨tr1, DN1, kk, ns, ens, mr, mn, nl, nB, nD2, rfl⟩
      · clear mr mn nl nB ens nD nD2 ltS ns
        rintro j v m1 n1 own2 I2 hv ⟨tr1, DN1, kk, ns, ens, mr, mn, nl, nB, nD, rfl⟩ hown2 hI2 ⟨oI2, hIo2⟩
        obtain ⟨d, td, rfl, hd⟩ := strVal_get hv
        have hdl : d.length ≤ 60 := hlp (d, td) (List.mem_of_getElem? hd)
        have hst2 : ((l.map (·.1)).take (j + 1)).foldl (pcStep h.1) h.2 = pcStep h.1 (((l.map (·.1)).take j).foldl (pcStep h.1) h.2) d := fold_step0 hd
        rw [hst2, ← ens]
        have hjl : j < l.length := (List.getElem?_eq_some_iff.mp hd).1
        have hil : i < ps.length := (List.getElem?_eq_some_iff.mp hc).1
        have hDN2 : ∀ p ∈ ((SP, listOf (strValues l).toArray 0) :: (n ++ own)) ++ own2, p.1 ≠ DN1 := fun p hp => by
          rcases List.mem_append.mp hp with hp | hp
          · exact nD p hp
          · rcases hown2 p hp with e | e
            · rw [e]; exact Ne.symm (hI2 (DN1, _) (.head _))
            · rw [e]; exact nD _ (.head _)
        have fin : ∀ (ns' : List (Str × Tok)) (k' : Nat) (m' : Mp) (n' : Led), ns'.map (·.1) = pcStep h.1 (ns.map (·.1)) d → ns'.length ≤ ns.length + 1 → (∀ p ∈ ns', p.1.length ≤ 60) → m' (Str.ofString "root") = some (.str h.1 tr1) → m' (Str.ofString "names") = some (.ref DN1) → n' = (DN1, listOf (strValues ns').toArray k') :: (((SP, listOf (strValues l).toArray 0) :: (n ++ own)) ++ own2) →
            TP (TP (fun f _ n' => ∃ t, f = .ret (.str (walkF (ps.map (·.1))) t) ∧ Kp n n') (fun m1 n1 => NmAt n (62 * (i + 1)) h.1 (((Txt.split c (Str.ofString "/")).foldl (pcStep h.1) h.2)) m1 n1 ∧ h.1.length ≤ 2) I own) (fun m' n' => NmAt ((SP, listOf (strValues l).toArray 0) :: (n ++ own)) (62 * i + (j + 1)) h.1 (pcStep h.1 (ns.map (·.1)) d) m' n') I2 own2 .next m' n' := by
          rintro ns' k' m' n' e1 e2 e3 e4 e5 rfl
          refine ⟨(DN1, listOf (strValues ns').toArray k') :: (SP, listOf (strValues l).toArray 0) :: (n ++ own), ⟨tr1, DN1, k', ns', e1, e4, e5, by (first | lia | omega), e3, nD, rfl⟩, fun p hp => ?_, fun p hp => hp⟩
          rcases List.mem_cons.mp hp with rfl | hp
          · exact hI2 (DN1, listOf (strValues ns).toArray kk) (.head _)
          · exact hI2 p (.tail _ hp)
        refine Sts.ifp (Tsp.cmp (by exact rfl) (by walk_at "ev") (by walk_at "ev") .eqS) (fun h1 => ?_) fun h1 => ?_
        · have h1' := beq_iff_eq.mp h1
          refine Sts.ifp (pc_tst ok hu (by walk_at "lk") (.head _) (by (first | lia | omega))) (fun h2 => ?_) fun h2 => ?_
          · have h2' := of_decide_eq_true h2
            rcases List.eq_nil_or_concat ns with rfl | ⟨init, ⟨y, ty⟩, e⟩
            · exact absurd rfl h2'.1
            rw [List.concat_eq_append] at e
            subst e
            refine Sts.expr (by exact rfl) (by exact rfl) (R := fun n' => n' = (DN1, listOf (strValues init).toArray (kk + 1)) :: (((SP, listOf (strValues l).toArray 0) :: (n ++ own)) ++ own2)) (Eve.meth0 (by exact rfl) (by exact rfl) (R1 := fun v n' => v = .ref DN1 ∧ n' = (DN1, listOf (strValues (init ++ [(y, ty)])).toArray kk) :: (((SP, listOf (strValues l).toArray 0) :: (n ++ own)) ++ own2)) (Eve.loc ok.hk (by exact rfl) (by decide) (by walk_at "lk") ⟨rfl, rfl⟩) ?_) ?_
            · rintro _ _ ⟨rfl, rfl⟩
              refine ⟨"list.pop", gm_list (.head _) PySem.F.slot_list_pop PySem.F.type_list_pop, ?_⟩
              rw [strVal_snoc]
              exact Cm.pop (upd_hd hDN2) (by rw [strVal_len]; rw [List.length_append] at nl; (first | lia | omega)) ⟨(by intro a e; cases e), rfl⟩
            · rintro _ rfl
              refine Sts.pop (Sts.pop (Sts.nil (fin init _ _ _ ?_ ?_ ?_ (by walk_at "lk") (by walk_at "lk") rfl)))
              · unfold pcStep
                rw [if_pos h1', if_pos h2', List.map_append]
                exact (List.dropLast_concat ..).symm
              · rw [List.length_append]; (first | lia | omega)
              · exact fun p hp => nB p (List.mem_append_left _ hp)
          · have h2' := of_decide_eq_false h2
            refine Sts.ifp (Tsp.cmp (by exact rfl) (by walk_at "ev") (by walk_at "ev") .eqS) (fun h3 => ?_) fun h3 => ?_
            · refine Sts.expr (by exact rfl) (by exact rfl) (R := fun n' => ∃ t, n' = (DN1, listOf (strValues (ns ++ [(Str.ofString "..", t)])).toArray (kk + 1)) :: (((SP, listOf (strValues l).toArray 0) :: (n ++ own)) ++ own2)) (Eve.meth1 (by exact rfl) (by exact rfl) (by exact rfl) (by exact rfl) (by exact rfl) (R1 := fun v n' => v = .ref DN1 ∧ n' = (DN1, listOf (strValues ns).toArray kk) :: (((SP, listOf (strValues l).toArray 0) :: (n ++ own)) ++ own2)) (Eve.loc ok.hk (by exact rfl) (by decide) (by walk_at "lk") ⟨rfl, rfl⟩) ?_) ?_
              · rintro _ _ ⟨rfl, rfl⟩
                refine ⟨"list.append", gm_list (.head _) PySem.F.slot_list_append PySem.F.type_list_append, Sq.consp (by exact rfl) Evp.str fun v fv => Sq.nil ?_⟩
                obtain ⟨t, rfl⟩ := fv
                exact Cm.append (upd_hd hDN2) (by rw [strVal_len]; (first | lia | omega)) ⟨(by intro a e; cases e), t, by rw [strVal_snoc]⟩
              · rintro _ ⟨t, rfl⟩
                refine Sts.pop (Sts.pop (Sts.pop (Sts.nil (fin (ns ++ [(Str.ofString "..", t)]) _ _ _ ?_ ?_ ?_ (by walk_at "lk") (by walk_at "lk") rfl))))
                · unfold pcStep
                  rw [if_pos h1', if_neg h2', if_pos (beq_iff_eq.mp h3), List.map_append]; rfl
                · rw [List.length_append]; exact Nat.le_refl _
                · intro p hp
                  rcases List.mem_append.mp hp with hp | hp
                  · exact nB p hp
                  · rw [List.mem_singleton.mp hp]; show (Str.ofString "..").length ≤ 60; decide
            · refine Sts.pop (Sts.pop (Sts.pop (Sts.nil (fin ns _ _ _ ?_ (by (first | lia | omega)) nB (by walk_at "lk") (by walk_at "lk") rfl))))
              unfold pcStep
              rw [if_pos h1', if_neg h2', if_neg (fun e => by rw [e] at h3; exact absurd h3 (by decide))]
        · have h1' : d ≠ Str.ofString ".." := fun e => by rw [e] at h1; exact absurd h1 (by decide)
          refine Sts.ifp (Tsp.and2 (Tsp.cmp (by exact rfl) (by walk_at "ev") (p1 := .str d) (p2 := .str (Str.ofString "")) (by walk_at "ev") .neS) fun _ => Tsp.cmp (by exact rfl) (p1 := .str d) (p2 := .str (Str.ofString ".")) (by walk_at "ev") (by walk_at "ev") .neS) (fun h2 => ?_) fun h2 => ?_
          · have h2' : d ≠ Str.ofString "" ∧ d ≠ Str.ofString "." := by rw [Bool.and_eq_true] at h2; exact ⟨bne_iff_ne.mp h2.1, bne_iff_ne.mp h2.2⟩
            refine Sts.expr (by exact rfl) (by exact rfl) (R := fun n' => ∃ t, n' = (DN1, listOf (strValues (ns ++ [(d, t)])).toArray (kk + 1)) :: (((SP, listOf (strValues l).toArray 0) :: (n ++ own)) ++ own2)) (Eve.meth1 (by exact rfl) (by exact rfl) (by exact rfl) (by exact rfl) (by exact rfl) (R1 := fun v n' => v = .ref DN1 ∧ n' = (DN1, listOf (strValues ns).toArray kk) :: (((SP, listOf (strValues l).toArray 0) :: (n ++ own)) ++ own2)) (Eve.loc ok.hk (by exact rfl) (by decide) (by walk_at "lk") ⟨rfl, rfl⟩) ?_) ?_
            · rintro _ _ ⟨rfl, rfl⟩
              refine ⟨"list.append", gm_list (.head _) PySem.F.slot_list_append PySem.F.type_list_append, Sq.consp (by exact rfl) (p := .str d) (by walk_at "ev") fun v fv => Sq.nil ?_⟩
              obtain ⟨t, rfl⟩ := fv
              exact Cm.append (upd_hd hDN2) (by rw [strVal_len]; (first | lia | omega)) ⟨(by intro a e; cases e), t, by rw [strVal_snoc]⟩
            · rintro _ ⟨t, rfl⟩
              refine Sts.pop (Sts.pop (Sts.nil (fin (ns ++ [(d, t)]) _ _ _ ?_ ?_ ?_ (by walk_at "lk") (by walk_at "lk") rfl)))
              · unfold pcStep
                rw [if_neg h1', if_pos h2', List.map_append]; rfl
              · rw [List.length_append]; exact Nat.le_refl _
              · intro p hp
                rcases List.mem_append.mp hp with hp | hp
                · exact nB p hp
                · rw [List.mem_singleton.mp hp]; exact hdl
          · refine Sts.pop (Sts.pop (Sts.nil (fin ns _ _ _ ?_ (by (first | lia | omega)) nB (by walk_at "lk") (by walk_at "lk") rfl)))
            unfold pcStep
            rw [if_neg h1', if_neg (fun e => by rw [Bool.and_eq_false_iff] at h2; rcases h2 with h2 | h2; exact e.1 (by simpa using h2); exact e.2 (by simpa using h2))]
      · clear mr mn nl nB ens nD nD2 ltS ns
        rintro m1 n1 ⟨tr1, DN1, kk, ns, ens, mr, mn, nl, nB, nD, rfl⟩
        rw [strVal_len] at ens nl
        rw [List.take_of_length_le (by rw [List.length_map]; exact Nat.le_refl _), el] at ens
        refine Sts.nil ⟨(DN1, listOf (strValues ns).toArray kk) :: n, ⟨⟨tr1, DN1, kk, ns, ens, mr, mn, by (first | lia | omega), nB, fun p hp => nD p (.tail _ (List.mem_append_left _ hp)), rfl⟩, rl⟩, fun p hp => ?_, fun p hp => ?_⟩
        · rcases List.mem_cons.mp hp with rfl | hp
          · exact Ne.symm (nD _ (.tail _ (List.mem_append_right _ hIo)))
          · exact hIn p hp
        · rcases List.mem_cons.mp hp with rfl | hp
          · exact .head _
          · exact .tail _ (.tail _ hp)
      · intro p hp
        rcases List.mem_cons.mp hp with rfl | hp
        · exact .tail _ (.head _)
        · rcases List.mem_cons.mp hp with rfl | hp
          · exact .head _
          · exact .tail _ (.tail _ hp)
  · rintro m1 n1 ⟨⟨tr1, DN1, kk, ns, ens, mr, mn, nl, nB, nD, rfl⟩, rl⟩
    rw [strVal_len] at ens mr nl rl
    rw [List.take_of_length_le (by rw [List.length_map]; exact Nat.le_refl _)] at ens mr rl
    have hj := glued_len (Str.ofString "/") (ns.map (·.1))
    have hs := sum_small ns nB
    have hm1 : ns.length * 60 ≤ 62 * 30 * 60 := Nat.mul_le_mul_right _ (by (first | lia | omega))
    have h1 : (Str.ofString "/").length = 1 := by decide
    rw [h1, List.length_map] at hj
    have hl2 := Array.size_append (xs := ((ps.map (·.1)).foldl wdStep (Str.ofString "", [])).1.cps) (ys := (Txt.join (Str.ofString "/") (ns.map (·.1))).cps)
    have hl : ∀ x y : Str, (x ++ y).length = x.length + y.length := fun x y => Array.size_append
    have hw : walkF (ps.map (·.1)) = if (((ps.map (·.1)).foldl wdStep (Str.ofString "", [])).1 ++ Txt.join (Str.ofString "/") (ns.map (·.1))).length = 0 then Str.ofString "." else ((ps.map (·.1)).foldl wdStep (Str.ofString "", [])).1 ++ Txt.join (Str.ofString "/") (ns.map (·.1)) := by rw [ens]; rfl
    refine Sts.ret (R := fun v n' => ∃ t, v = .str (walkF (ps.map (·.1))) t ∧ Kp n n') (Eve.orS (x := ((ps.map (·.1)).foldl wdStep (Str.ofString "", [])).1 ++ Txt.join (Str.ofString "/") (ns.map (·.1))) (Evp.addS rfl (by walk_at "ev") (Evp.smeth1 (by exact rfl) (by exact rfl) (by exact rfl) (fun t n => gm_join) (by walk_at "ev") (p := .ref DN1) (by walk_at "ev") fun t v fv => ?_) ?_) ?_ (fun h => ?_) (fun h t n' k => ?_) rfl) fun v n' r => ?_
    · cases fv
      exact Cm.join rfl (.head _) (by decide) (by (first | lia | omega)) (fun p hp => Nat.le_trans (nB p hp) (by decide)) fun t _ => ⟨⟨t, rfl⟩, Kp.rfl⟩
    · (first | lia | omega)
    · rw [hl]; (first | lia | omega)
    · rw [if_pos h] at hw
      exact Cm.mono Evp.str fun v n' e => by obtain ⟨⟨t, rfl⟩, k⟩ := e; exact ⟨t, by rw [hw], fun p hp => k p (.tail _ hp)⟩
    · rw [if_neg h] at hw
      exact ⟨t, by rw [hw], fun p hp => k p (.tail _ hp)⟩
    · obtain ⟨t, rfl, k⟩ := r
      exact ⟨t, rfl, k⟩
end
theorem walk_c (w : World) (D : Addr) (k₀ : Nat) (ps : List (Str × Tok)) (hps : ps.length ≤ 30) (hpl : ∀ p ∈ ps, p.1.length ≤ 60) :
    Ctr w 888 10 200 [.ref D] (fun l => (D, listOf (strValues ps).toArray k₀) ∈ l) (fun l v l' => (∃ t, v = .str (walkF (ps.map (·.1))) t) ∧ l' = l) := by
  intro dp un gd cn cs a ccd cl outer A₀ base h₀ L m news s mg mb mean Q E B F X N T hk hd hu hpre ret
  obtain ⟨sh, sg, sd, stk, so⟩ := s
  dsimp only at F N ret
  refine wpAny_call ?_
  k_dflt (refine' code_def (binds := [(Str.ofString "words", .ref D)]) B F X N T ?kA ?kF ?kK ?k6 ?k7 ?k8 ?k9 ?kB ?_ ?c2 ?c3 ?c4 ?c5; (case kA => exact rfl); (case kF => exact rfl); (case kK => assumption); (case k6 => k_is); (case k7 => k_is); (case k8 => ktr_room); (case k9 => exact BindsTo.of_eq rfl); (case c5 => decide); (case kB => exact locs rfl); (case c2 => exact rfl); (case c3 => exact rfl); (case c4 => exact rfl); k_whole; intro g' L' h' FG' F' N' B' X' T'; (try dsimp only); (try k_fold))
  have hE : PassesOwn (model pw w) (ktrTop (dp + 1) (un + 3) gd (Str.ofString "_law_walk") c48 L' 888 (.ref 887) [] (envX cn cs L a ccd cl :: outer)) (wkC w (ktrTop (dp + 1) (un + 3) gd (Str.ofString "_law_walk") c48 L' 888 (.ref 887) [] (envX cn cs L a ccd cl :: outer)) L' 888 (.ref 887) g').env ek := by passes_own
  refine walk_sx (Cx.ok (nd := 9) (nu := 197) B' X' T' (by exact rfl) (by (first | lia | omega)) (by (first | lia | omega))) (by (first | lia | omega)) hpre hps hpl (by exact rfl) hE (Nat.zero_le _) F' N' ?_
  rintro f m' n' h2 tk ⟨t, rfl, kp⟩ F2 N2
  refine ⟨_, _, _, F2, N2, fun kF kN => ?_⟩
  exact ret _ tk h2 _ kF (news_sub kN kp) ⟨⟨t, rfl⟩, rfl⟩
open PySem PySem.W PySem.Calls PyProof.Rows
/-- what stands in a group: words and groups -/
inductive Ks where
  | nil
  | word (x : Str) (way gap : Int) (rest : Ks)
  | grp (c : Nat) (kids rest : Ks)
noncomputable def chS (c : Nat) : Str := ⟨#[c]⟩
noncomputable def Ks.words : Ks → List Str
  | .nil => []
  | .word x _ _ rest => x :: rest.words
  | .grp _ kids rest => kids.words ++ rest.words
noncomputable def Ks.told : Ks → List Str
  | .nil => []
  | .word _ _ _ rest => rest.told
  | .grp _ kids rest => kids.told ++ [walkF kids.words] ++ rest.told
noncomputable def Ks.depth : Ks → Nat
  | .nil => 0
  | .word _ _ _ rest => rest.depth
  | .grp _ kids rest => max (kids.depth + 1) rest.depth
noncomputable def Ks.size : Ks → Nat
  | .nil => 0
  | .word _ _ _ rest => rest.size + 1
  | .grp _ kids rest => kids.size + rest.size + 1
/-- the ledger bears the items vs of a group -/
inductive RepK (l : Led) : List Value → Ks → Prop
  | nil : RepK l [] .nil
  | word {a : Addr} {x : Str} {t u v : Tok} {way gap : Int} {vs : List Value} {rest : Ks} : (a, tupO [.str x t, .int way u, .int gap v]) ∈ l → RepK l vs rest → RepK l (.ref a :: vs) (.word x way gap rest)
  | grp {a : Addr} {c : Nat} {t : Tok} {k : Nat} {us vs : List Value} {kids rest : Ks} : (a, listOf (.str (chS c) t :: us).toArray k) ∈ l → RepK l us kids → RepK l vs rest → RepK l (.ref a :: vs) (.grp c kids rest)
theorem RepK.mono {l l' : Led} {vs : List Value} {ks : Ks} (h : RepK l vs ks) (hs : Kp l l') : RepK l' vs ks := by
  induction h with
  | nil => exact .nil
  | word hm _ ih => exact .word (hs _ hm) ih
  | grp hm _ _ ih1 ih2 => exact .grp (hs _ hm) ih1 ih2
theorem RepK.len {l : Led} {vs : List Value} {ks : Ks} (h : RepK l vs ks) : vs.length ≤ ks.size := by
  induction h with
  | nil => exact Nat.le_refl _
  | word _ _ ih => show _ + 1 ≤ _ + 1; (first | lia | omega)
  | grp _ _ _ _ ih2 => show _ + 1 ≤ _ + _ + 1; (first | lia | omega)
theorem words_le (ks : Ks) : ks.words.length ≤ ks.size := by
  induction ks with
  | nil => exact Nat.le_refl _
  | word _ _ _ _ ih => show _ + 1 ≤ _ + 1; (first | lia | omega)
  | grp _ _ _ ih1 ih2 => unfold Ks.words Ks.size; rw [List.length_append]; (first | lia | omega)
theorem told_le (ks : Ks) : ks.told.length ≤ ks.size := by
  induction ks with
  | nil => exact Nat.le_refl _
  | word _ _ _ _ ih => show _ ≤ _ + 1; exact Nat.le_succ_of_le ih
  | grp _ _ _ ih1 ih2 => unfold Ks.told Ks.size; rw [List.length_append, List.length_append, List.length_singleton]; (first | lia | omega)
inductive It where
  | word (x : Str) (way gap : Int)
  | grp (c : Nat) (kids : Ks)
noncomputable def Ks.items : Ks → List It
  | .nil => []
  | .word x way gap rest => .word x way gap :: rest.items
  | .grp c kids rest => .grp c kids :: rest.items
noncomputable def It.words : It → List Str
  | .word x _ _ => [x]
  | .grp _ kids => kids.words
noncomputable def It.told : It → List Str
  | .word _ _ _ => []
  | .grp _ kids => kids.told ++ [walkF kids.words]
theorem words_items (ks : Ks) : ks.words = ks.items.flatMap It.words := by
  induction ks with
  | nil => rfl
  | word x way gap rest ih => unfold Ks.words Ks.items; rw [List.flatMap_cons, ← ih]; rfl
  | grp c kids rest _ ih => unfold Ks.words Ks.items; rw [List.flatMap_cons, ← ih]; rfl
theorem told_items (ks : Ks) : ks.told = ks.items.flatMap It.told := by
  induction ks with
  | nil => rfl
  | word x way gap rest ih => unfold Ks.told Ks.items; rw [List.flatMap_cons, ← ih]; rfl
  | grp c kids rest _ ih => unfold Ks.told Ks.items; rw [List.flatMap_cons, ← ih]; rfl
inductive RepI (l : Led) : Value → It → Prop
  | word {a : Addr} {x : Str} {t u v : Tok} {way gap : Int} : (a, tupO [.str x t, .int way u, .int gap v]) ∈ l → RepI l (.ref a) (.word x way gap)
  | grp {a : Addr} {c : Nat} {t : Tok} {k : Nat} {us : List Value} {kids : Ks} : (a, listOf (.str (chS c) t :: us).toArray k) ∈ l → RepK l us kids → RepI l (.ref a) (.grp c kids)
theorem RepK.at {l : Led} {vs : List Value} {ks : Ks} (h : RepK l vs ks) : ∀ {i : Nat} {v : Value}, vs[i]? = some v → ∃ it, ks.items[i]? = some it ∧ RepI l v it := by
  induction h with
  | nil => intro i v hv; cases hv
  | word hm _ ih =>
    intro i v hv
    cases i with
    | zero => cases hv; exact ⟨_, rfl, .word hm⟩
    | succ j => exact ih hv
  | grp hm hk _ _ ih =>
    intro i v hv
    cases i with
    | zero => cases hv; exact ⟨_, rfl, .grp hm hk⟩
    | succ j => exact ih hv
theorem RepK.items_len {l : Led} {vs : List Value} {ks : Ks} (h : RepK l vs ks) : ks.items.length = vs.length := by
  induction h with
  | nil => rfl
  | word _ _ ih => exact congrArg Nat.succ ih
  | grp _ _ _ _ ih => exact congrArg Nat.succ ih
theorem fm_take {β : Type} {f : It → List β} {l : List It} {i : Nat} {it : It} (h : l[i]? = some it) : (l.take (i + 1)).flatMap f = (l.take i).flatMap f ++ f it := by
  rw [List.take_add_one, h, List.flatMap_append]
  exact congrArg _ (List.flatMap_singleton ..)
theorem fm_take_le {β : Type} {f : It → List β} (l : List It) (i : Nat) : ((l.take i).flatMap f).length ≤ (l.flatMap f).length := by
  have e : l.flatMap f = (l.take i).flatMap f ++ (l.drop i).flatMap f := by rw [← List.flatMap_append, List.take_append_drop]
  rw [e, List.length_append]; (first | lia | omega)
theorem depth_grp {c : Nat} {kids rest : Ks} : (Ks.grp c kids rest).depth = max (kids.depth + 1) rest.depth := rfl
theorem size_grp {c : Nat} {kids rest : Ks} : (Ks.grp c kids rest).size = kids.size + rest.size + 1 := rfl
theorem size_word {x : Str} {way gap : Int} {rest : Ks} : (Ks.word x way gap rest).size = rest.size + 1 := rfl
theorem grp_depth {ks kids : Ks} {c : Nat} (h : It.grp c kids ∈ ks.items) : kids.depth + 1 ≤ ks.depth := by
  induction ks with
  | nil => cases h
  | word x way gap rest ih =>
    rcases List.mem_cons.mp h with e | h
    · cases e
    · exact ih h
  | grp c' kids' rest _ ih =>
    rw [depth_grp]
    rcases List.mem_cons.mp h with e | h
    · cases e; (first | lia | omega)
    · have := ih h; (first | lia | omega)
theorem grp_words {ks kids : Ks} {c : Nat} (h : It.grp c kids ∈ ks.items) : ∀ x ∈ kids.words, x ∈ ks.words := by
  intro x hx
  rw [words_items ks]
  exact List.mem_flatMap.mpr ⟨_, h, hx⟩
theorem grp_size {ks kids : Ks} {c : Nat} (h : It.grp c kids ∈ ks.items) : kids.size + 1 ≤ ks.size := by
  induction ks with
  | nil => cases h
  | word x way gap rest ih =>
    rw [size_word]
    rcases List.mem_cons.mp h with e | h
    · cases e
    · have := ih h; (first | lia | omega)
  | grp c' kids' rest _ ih =>
    rw [size_grp]
    rcases List.mem_cons.mp h with e | h
    · cases e; (first | lia | omega)
    · have := ih h; (first | lia | omega)
theorem fill21 : PySem.Challenge.rw_kl0186_01 = PySem.Challenge.rw_kl0186_01 ∧ K = K := by
  w_on
  k_fill
  exact ⟨rfl, rfl⟩
theorem ns_due {P : Params} : nsIn (K P) mainGlobals (Str.ofString "_law_due") = some (some (.ref 895)) := by kernel_rfl
theorem ns_walk {P : Params} : nsIn (K P) mainGlobals (Str.ofString "_law_walk") = some (some (.ref 888)) := by kernel_rfl
theorem keep895 {P : Params} : keepIn (K P) (.ref 895) = true := by kernel_rfl
theorem keep888 {P : Params} : keepIn (K P) (.ref 888) = true := by kernel_rfl
section
variable {w : World} {A : Around} {L a : Addr} {cd : Value} {h₀ : Heap} {nd nu : Nat} {G T : Addr} {n₀ : Nat} {r : Led}
noncomputable abbrev duC (w : World) (A : Around) (L a : Addr) (cd : Value) (h₀ : Heap) : Cx := ⟨w, A, Str.ofString "_law_due", c49, L, a, cd, h₀, 0⟩
/-- the list T of texts x -/
def TxAt (T : Addr) (x : List Str) (o : Addr × Obj) : Prop := ∃ (k : Nat) (ps : List (Str × Tok)), ps.map (·.1) = x ∧ o = (T, listOf (strValues ps).toArray k)
def DueC (w : World) (d : Nat) : Prop := ∀ (ks : Ks) (G T : Addr) (c : Nat) (t : Tok) (kg : Nat) (us : List Value) (r : Led) (tld : List Str) (o : Addr × Obj), ks.depth ≤ d → ks.size ≤ 30 → (∀ x ∈ ks.words, x.length ≤ 60) → tld.length + ks.told.length ≤ 100 → TxAt T tld o → (∀ p ∈ r, p.1 ≠ T) → (G, listOf (.str (chS c) t :: us).toArray kg) ∈ r → RepK r us ks →
  Ctr w 895 (20 + 2 * d) (300 + 10 * d) [.ref G, .ref T] (fun l => l = o :: r) (fun _ v l' => ∃ W oW oT, v = .ref W ∧ TxAt W ks.words oW ∧ TxAt T (tld ++ ks.told ++ [walkF ks.words]) oT ∧ W ≠ T ∧ (∀ p ∈ r, p.1 ≠ W) ∧ l' = oW :: oT :: r)
theorem due_sx (ok : (duC w A L a cd h₀).Ok nd nu) (hu : 64 ≤ nu) {m : Mp} {d : Nat} (hd : d = 0 ∨ ∃ d', d = d' + 1 ∧ DueC w d' ∧ 20 + 2 * d' ≤ nd ∧ 300 + 10 * d' ≤ nu) (hnd : 10 ≤ nd) (hnu : 200 ≤ nu) {ks : Ks} {G T : Addr} {c : Nat} {t : Tok} {kg : Nat} {us : List Value} {r : Led} {tld : List Str} {o : Addr × Obj}
    (h1 : ks.depth ≤ d) (h2 : ks.size ≤ 30) (h3 : ∀ x ∈ ks.words, x.length ≤ 60) (h4 : tld.length + ks.told.length ≤ 100) (h5 : TxAt T tld o) (h6 : ∀ p ∈ r, p.1 ≠ T) (h7 : (G, listOf (.str (chS c) t :: us).toArray kg) ∈ r) (h8 : RepK r us ks) (hmg : m (Str.ofString "group") = some (.ref G)) (hmt : m (Str.ofString "told") = some (.ref T)) :
    Sts (duC w A L a cd h₀) (fun f _ l' => ∃ W oW oT, f = .ret (.ref W) ∧ TxAt W ks.words oW ∧ TxAt T (tld ++ ks.told ++ [walkF ks.words]) oT ∧ W ≠ T ∧ (∀ p ∈ r, p.1 ≠ W) ∧ Kp (oW :: oT :: r) l') m (o :: r) b49 [] := by
  obtain ⟨k0, ps0, e0, rfl⟩ := h5
  refine Sts.asg ok.hk (by exact rfl) (by exact rfl) (Eve.nilL (R := fun v n' => ∃ W, v = .ref W ∧ (∀ p ∈ (T, listOf (strValues ps0).toArray k0) :: r, p.1 < W) ∧ n' = (W, listOf #[] 0) :: (T, listOf (strValues ps0).toArray k0) :: r) fun DN lt => ⟨DN, rfl, lt, rfl⟩) ?_
  rintro _ _ ⟨W, rfl, ltW, rfl⟩
  refine Sts.for (by exact rfl) (by exact rfl) (fun _ => by exact rfl) (Eve.from1 (k := kg) (l := G) (vs := .str (chS c) t :: us) (R := fun v n' => ∃ SL, v = .ref SL ∧ (∀ p ∈ (W, listOf #[] 0) :: (T, listOf (strValues ps0).toArray k0) :: r, p.1 < SL) ∧ n' = (SL, listOf us.toArray 0) :: (W, listOf #[] 0) :: (T, listOf (strValues ps0).toArray k0) :: r) (Eve.loc ok.hk (by exact rfl) (by decide) (by walk_at "lk") ⟨rfl, rfl⟩) (.tail _ (.tail _ h7)) ?_ (by intro S; exact rfl) (by intro r; exact rfl) fun D lt => ⟨D, rfl, lt, rfl⟩) ?_
  · have := h8.len; rw [List.length_cons]; (first | lia | omega)
  rintro _ _ ⟨SL, rfl, ltS, rfl⟩
  have hWT : W ≠ T := Nat.ne_of_gt (ltW _ (.head _))
  have hWr : ∀ p ∈ r, p.1 ≠ W := fun p hp => Nat.ne_of_lt (ltW _ (.tail _ hp))
  have hSW : SL ≠ W := Nat.ne_of_gt (ltS _ (.head _))
  have hST : SL ≠ T := Nat.ne_of_gt (ltS _ (.tail _ (.head _)))
  have hSr : ∀ p ∈ r, p.1 ≠ SL := fun p hp => Nat.ne_of_lt (ltS _ (.tail _ (.tail _ hp)))
  have kp0 : Kp ((W, listOf (strValues []).toArray 0) :: (T, listOf (strValues ps0).toArray k0) :: (SL, listOf us.toArray 0) :: r) ((SL, listOf us.toArray 0) :: (W, listOf #[] 0) :: (T, listOf (strValues ps0).toArray k0) :: r) := by
    intro p hp
    simp only [List.mem_cons] at hp ⊢
    rcases hp with h | h | h | h
    · exact .inr (.inl h)
    · exact .inr (.inr (.inl h))
    · exact .inl h
    · exact .inr (.inr (.inr h))
  refine ForAt.sub ?_ kp0
  refine ForAt.list ok.hh rfl (.tail _ (.tail _ (.head _))) (fun i m' n' => ∃ oW oT, TxAt W ((ks.items.take i).flatMap It.words) oW ∧ TxAt T (tld ++ (ks.items.take i).flatMap It.told) oT ∧ m' (Str.ofString "words") = some (.ref W) ∧ m' (Str.ofString "told") = some (.ref T) ∧ n' = oW :: oT :: (SL, listOf us.toArray 0) :: r) ?_ ?_ ?_
  · exact ⟨_, _, ⟨0, [], rfl, rfl⟩, ⟨k0, ps0, by rw [e0]; exact (List.append_nil _).symm, rfl⟩, by walk_at "lk", by walk_at "lk", rfl⟩
  · rintro i v m1 n1 own I hv ⟨_, _, ⟨kw, wp, ew, rfl⟩, ⟨kt, tp, et, rfl⟩, mw, mt, rfl⟩ hown hI ⟨oI, hIo⟩
    obtain ⟨it, hit, hrep⟩ := h8.at hv
    rw [fm_take hit, fm_take hit]
    have hwl := fm_take_le (f := It.words) ks.items i
    have htl := fm_take_le (f := It.told) ks.items i
    have htl3 := fm_take_le (f := It.told) ks.items (i + 1)
    rw [fm_take hit] at htl3
    rw [← words_items] at hwl
    rw [← told_items] at htl htl3
    rw [List.length_append] at htl3
    have hw1 := words_le ks
    have ht1 := told_le ks
    have hwl2 : wp.length ≤ 30 := by rw [← ew, List.length_map] at hwl; (first | lia | omega)
    have htl2 : tp.length ≤ 130 := by
      have := congrArg List.length et
      rw [List.length_map, List.length_append] at this
      (first | lia | omega)
    generalize hA1 : (ks.items.take i).flatMap It.words = A1 at *
    generalize hA2 : (ks.items.take i).flatMap It.told = A2 at *
    have hWo : ∀ p ∈ own, p.1 ≠ W := fun p hp => by
      rcases hown p hp with e | e
      · rw [e]; exact Ne.symm (hI _ (.head _))
      · rw [e]; exact hSW
    have hTo : ∀ p ∈ own, p.1 ≠ T := fun p hp => by
      rcases hown p hp with e | e
      · rw [e]; exact Ne.symm (hI _ (.tail _ (.head _)))
      · rw [e]; exact hST
    have fin : ∀ (x y : List Str) (oW oT : Addr × Obj) (n' : Led), TxAt W (A1 ++ x) oW → TxAt T (tld ++ (A2 ++ y)) oT → Kp (oW :: oT :: (SL, listOf us.toArray 0) :: (r ++ own)) n' →
        TP (fun f _ l' => ∃ W oW oT, f = .ret (.ref W) ∧ TxAt W ks.words oW ∧ TxAt T (tld ++ ks.told ++ [walkF ks.words]) oT ∧ W ≠ T ∧ (∀ p ∈ r, p.1 ≠ W) ∧ Kp (oW :: oT :: r) l') (fun m' n' => ∃ oW oT, TxAt W (A1 ++ x) oW ∧ TxAt T (tld ++ (A2 ++ y)) oT ∧ m' (Str.ofString "words") = some (.ref W) ∧ m' (Str.ofString "told") = some (.ref T) ∧ n' = oW :: oT :: (SL, listOf us.toArray 0) :: r) I own .next (fun z => if z = Str.ofString "item" then some v else m1 z) n' := by
      rintro x y _ _ n' ⟨k1, p1, e1, rfl⟩ ⟨k2, p2, e2, rfl⟩ kp
      refine ⟨_, ⟨_, _, ⟨k1, p1, e1, rfl⟩, ⟨k2, p2, e2, rfl⟩, by walk_at "lk", by walk_at "lk", rfl⟩, fun p hp => ?_, fun p hp => kp p ?_⟩
      · simp only [List.mem_cons] at hp
        rcases hp with rfl | rfl | rfl | hp
        · exact hI (W, listOf (strValues wp).toArray kw) (.head _)
        · exact hI (T, listOf (strValues tp).toArray kt) (.tail _ (.head _))
        · exact hI _ (.tail _ (.tail _ (.head _)))
        · exact hI _ (.tail _ (.tail _ (.tail _ hp)))
      · simpa only [List.cons_append, List.mem_cons, List.mem_append] using hp
    cases hrep with
    | @word ia x t1 u1 v1 way gap hm =>
      have hmi : (ia, tupO [Value.str x t1, .int way u1, .int gap v1]) ∈ (W, listOf (strValues wp).toArray kw) :: (T, listOf (strValues tp).toArray kt) :: (SL, listOf us.toArray 0) :: (r ++ own) := .tail _ (.tail _ (.tail _ (List.mem_append_left _ hm)))
      refine Sts.ifp (b := [_]) (Tst.isList (b := false) ok (by exact rfl) (by exact rfl) (by exact rfl) (by exact rfl) (by intro whole; exact rfl) (D := ia) (by walk_at "ev") hmi (T := "tuple") rfl (fun _ => kitx_tuple) kit_tl) (fun h => by cases h) fun _ => ?_
      refine Sts.expr (by exact rfl) (by exact rfl) (R := fun n' => n' = (W, listOf (strValues (wp ++ [(x, t1)])).toArray (kw + 1)) :: (T, listOf (strValues tp).toArray kt) :: (SL, listOf us.toArray 0) :: (r ++ own)) (Eve.meth1 (by exact rfl) (by exact rfl) (by exact rfl) (by exact rfl) (by exact rfl) (R1 := fun v n' => v = .ref W ∧ n' = (W, listOf (strValues wp).toArray kw) :: (T, listOf (strValues tp).toArray kt) :: (SL, listOf us.toArray 0) :: (r ++ own)) (Eve.loc ok.hk (by exact rfl) (by decide) (by walk_at "lk") ⟨rfl, rfl⟩) ?_) ?_
      · rintro _ _ ⟨rfl, rfl⟩
        refine ⟨"list.append", gm_list (.head _) PySem.F.slot_list_append PySem.F.type_list_append, Sq.cons (R1 := fun v n' => v = .str x t1 ∧ n' = (W, listOf (strValues wp).toArray kw) :: (T, listOf (strValues tp).toArray kt) :: (SL, listOf us.toArray 0) :: (r ++ own)) (by exact rfl) (Evp.sub (p1 := .ref ia) (p2 := .int 0) (by walk_at "ev") (by walk_at "ev") fun a b fa fb => ?_) fun v n1 e => ?_⟩
        · cases fa
          obtain ⟨u, rfl⟩ := fb
          exact Cm.tup0 hmi (by show 2 ≤ 100; decide) (by exact rfl) ⟨rfl, rfl⟩
        · obtain ⟨rfl, rfl⟩ := e
          refine Sq.nil (Cm.append (upd_hd fun p hp => ?_) (by rw [strVal_len]; (first | lia | omega)) ⟨(by intro a e; cases e), by rw [strVal_snoc]⟩)
          simp only [List.mem_cons, List.mem_append] at hp
          rcases hp with rfl | rfl | hp | hp
          · exact Ne.symm hWT
          · exact hSW
          · exact hWr p hp
          · exact hWo p hp
      · rintro _ rfl
        refine Sts.pop (Sts.nil (fin [x] [] _ _ _ ⟨kw + 1, wp ++ [(x, t1)], by rw [List.map_append, ew]; rfl, rfl⟩ ⟨kt, tp, by rw [List.append_nil]; exact et, rfl⟩ Kp.rfl))
    | @grp ia c1 t1 k1 us1 kids hm hk1 =>
      have hmem := List.mem_of_getElem? hit
      have hmi : (ia, listOf (.str (chS c1) t1 :: us1).toArray k1) ∈ (W, listOf (strValues wp).toArray kw) :: (T, listOf (strValues tp).toArray kt) :: (SL, listOf us.toArray 0) :: (r ++ own) := .tail _ (.tail _ (.tail _ (List.mem_append_left _ hm)))
      have hdep := grp_depth hmem
      have hsz := grp_size hmem
      obtain ⟨d', rfl, hC, hn1, hn2⟩ : ∃ d', d = d' + 1 ∧ DueC w d' ∧ 20 + 2 * d' ≤ nd ∧ 300 + 10 * d' ≤ nu := by
        rcases hd with rfl | h
        · (first | lia | omega)
        · exact h
      refine Sts.ifp (b := [_]) (Tst.isList (b := true) ok (by exact rfl) (by exact rfl) (by exact rfl) (by exact rfl) (by intro whole; exact rfl) (D := ia) (by walk_at "ev") hmi (T := "list") rfl (fun _ => kitx_list) kit_ll) (fun _ => ?_) fun h => by cases h
      have hTr : ∀ p ∈ (W, listOf (strValues wp).toArray kw) :: (SL, listOf us.toArray 0) :: (r ++ own), p.1 ≠ T := fun p hp => by
        simp only [List.mem_cons, List.mem_append] at hp
        rcases hp with rfl | rfl | hp | hp
        · exact hWT
        · exact hST
        · exact h6 p hp
        · exact hTo p hp
      refine Sts.expr (by exact rfl) (by exact rfl) (R := fun n' => ∃ oW oT, TxAt W (A1 ++ kids.words) oW ∧ TxAt T (tld ++ (A2 ++ (kids.told ++ [walkF kids.words]))) oT ∧ Kp (oW :: oT :: (SL, listOf us.toArray 0) :: (r ++ own)) n') (Eve.meth1 (by exact rfl) (by exact rfl) (by exact rfl) (by exact rfl) (by exact rfl) (R1 := fun v n' => v = .ref W ∧ n' = (W, listOf (strValues wp).toArray kw) :: (T, listOf (strValues tp).toArray kt) :: (SL, listOf us.toArray 0) :: (r ++ own)) (Eve.loc ok.hk (by exact rfl) (by decide) (by walk_at "lk") ⟨rfl, rfl⟩) ?_) ?_
      · rintro _ _ ⟨rfl, rfl⟩
        refine ⟨"list.extend", gm_list (.head _) PySem.F.slot_list_extend PySem.F.type_list_extend, Sq.cons (R1 := fun v n' => ∃ W' oW' oT', v = .ref W' ∧ TxAt W' kids.words oW' ∧ TxAt T (tld ++ A2 ++ kids.told ++ [walkF kids.words]) oT' ∧ W' ≠ T ∧ (∀ p ∈ (W, listOf (strValues wp).toArray kw) :: (SL, listOf us.toArray 0) :: (r ++ own), p.1 ≠ W') ∧ n' = oW' :: oT' :: (W, listOf (strValues wp).toArray kw) :: (SL, listOf us.toArray 0) :: (r ++ own)) (by exact rfl) (Eve.own ok ns_due (by exact rfl) (by decide) keep895 (by exact rfl) (by exact rfl) (by exact rfl) (Sq.consp (p := .ref ia) (by exact rfl) (by walk_at "ev") fun v1 f1 => Sq.consp (p := .ref T) (by exact rfl) (by walk_at "ev") fun v2 f2 => Sq.nil ?_)) ?_⟩
        · cases f1
          cases f2
          refine Cm.sub (n₂ := (T, listOf (strValues tp).toArray kt) :: (W, listOf (strValues wp).toArray kw) :: (SL, listOf us.toArray 0) :: (r ++ own)) (Cm.ctr ok (hC kids ia T c1 t1 k1 us1 ((W, listOf (strValues wp).toArray kw) :: (SL, listOf us.toArray 0) :: (r ++ own)) (tld ++ A2) (T, listOf (strValues tp).toArray kt) (by (first | lia | omega)) (by (first | lia | omega)) (fun x hx => h3 x (grp_words hmem x hx)) ?_ ⟨kt, tp, et, rfl⟩ hTr ?_ (hk1.mono fun p hp => .tail _ (.tail _ (List.mem_append_left _ hp)))) hn1 hn2 rfl fun v n' h => h) ?_
          · have h := congrArg List.length et
            rw [List.length_map, List.length_append] at h
            have h3 : (It.grp c1 kids).told.length = kids.told.length + 1 := by unfold It.told; rw [List.length_append]; rfl
            rw [h3] at htl3
            rw [List.length_append]; (first | lia | omega)
          · exact .tail _ (.tail _ (List.mem_append_left _ hm))
          · intro p hp
            simp only [List.mem_cons] at hp ⊢
            rcases hp with h | h | h | h
            · exact .inr (.inl h)
            · exact .inl h
            · exact .inr (.inr (.inl h))
            · exact .inr (.inr (.inr h))
        · rintro _ _ ⟨W', _, oT', rfl, ⟨k2, p2, e2, rfl⟩, hT', hWT', hW', rfl⟩
          refine Sq.nil (Cm.sub (n₂ := (W, listOf (strValues wp).toArray kw) :: (W', listOf (strValues p2).toArray k2) :: oT' :: (SL, listOf us.toArray 0) :: (r ++ own)) (Cm.extend (fun p hp => ?_) (.head _) ?_ fun k'' => ⟨(by intro a e; cases e), ?_⟩) ?_)
          · obtain ⟨k3, p3, e3, rfl⟩ := hT'
            simp only [List.mem_cons, List.mem_append] at hp
            rcases hp with rfl | rfl | rfl | hp | hp
            · exact Ne.symm (hW' _ (.head _))
            · exact Ne.symm hWT
            · exact hSW
            · exact hWr p hp
            · exact hWo p hp
          · have := congrArg List.length e2
            rw [List.length_map] at this
            have := words_le kids
            rw [strVal_len, strVal_len]; (first | lia | omega)
          · refine ⟨(W, listOf (strValues (wp ++ p2)).toArray k''), oT', ⟨k'', wp ++ p2, by rw [List.map_append, ew, e2], rfl⟩, by rw [← List.append_assoc, ← List.append_assoc]; exact hT', fun p hp => ?_⟩
            have e : strValues (wp ++ p2) = strValues wp ++ strValues p2 := by unfold strValues; rw [List.map_append]
            rw [e] at hp
            simp only [List.mem_cons] at hp ⊢
            rcases hp with h | h | h | h
            · exact .inl h
            · exact .inr (.inr (.inl h))
            · exact .inr (.inr (.inr (.inl h)))
            · exact .inr (.inr (.inr (.inr h)))
          · intro p hp
            simp only [List.mem_cons] at hp ⊢
            rcases hp with h | h | h | h | h
            · exact .inr (.inr (.inl h))
            · exact .inl h
            · exact .inr (.inl h)
            · exact .inr (.inr (.inr (.inl h)))
            · exact .inr (.inr (.inr (.inr h)))
      · rintro n' ⟨oW, oT, hW, hT, kp⟩
        exact Sts.pop (Sts.nil (fin _ _ oW oT n' hW hT kp))
  · rintro m1 n1 ⟨_, _, ⟨kw, wp, ew, rfl⟩, ⟨kt, tp, et, rfl⟩, mw, mt, rfl⟩
    rw [← h8.items_len, List.take_length, ← words_items] at ew
    rw [← h8.items_len, List.take_length, ← told_items] at et
    have hw1 := words_le ks
    have ht1 := told_le ks
    have hwl := congrArg List.length ew
    have htl := congrArg List.length et
    rw [List.length_map] at hwl htl
    rw [List.length_append] at htl
    refine Sts.expr (by exact rfl) (by exact rfl) (R := fun n' => ∃ t, n' = (T, listOf (strValues (tp ++ [(walkF ks.words, t)])).toArray (kt + 1)) :: (W, listOf (strValues wp).toArray kw) :: (SL, listOf us.toArray 0) :: r) (Eve.meth1 (by exact rfl) (by exact rfl) (by exact rfl) (by exact rfl) (by exact rfl) (R1 := fun v n' => v = .ref T ∧ n' = (W, listOf (strValues wp).toArray kw) :: (T, listOf (strValues tp).toArray kt) :: (SL, listOf us.toArray 0) :: r) (Eve.loc ok.hk (by exact rfl) (by decide) (by walk_at "lk") ⟨rfl, rfl⟩) ?_) ?_
    · rintro _ _ ⟨rfl, rfl⟩
      refine ⟨"list.append", gm_list (.tail _ (.head _)) PySem.F.slot_list_append PySem.F.type_list_append, Sq.cons (R1 := fun v n' => (∃ t, v = .str (walkF ks.words) t) ∧ n' = (W, listOf (strValues wp).toArray kw) :: (T, listOf (strValues tp).toArray kt) :: (SL, listOf us.toArray 0) :: r) (by exact rfl) (Eve.own ok ns_walk (by exact rfl) (by decide) keep888 (by exact rfl) (by exact rfl) (by exact rfl) (Sq.consp (p := .ref W) (by exact rfl) (by walk_at "ev") fun v1 f1 => Sq.nil ?_)) ?_⟩
      · cases f1
        refine Cm.ctr ok (walk_c w W kw wp (by (first | lia | omega)) ?_) hnd hnu (.head _) ?_
        · intro p hp
          exact h3 _ (ew ▸ List.mem_map_of_mem (f := fun p : Str × Tok => p.1) hp)
        · rw [ew]
          exact fun v n' h => h
      · rintro _ _ ⟨⟨t, rfl⟩, rfl⟩
        refine Sq.nil (Cm.sub (n₂ := (T, listOf (strValues tp).toArray kt) :: (W, listOf (strValues wp).toArray kw) :: (SL, listOf us.toArray 0) :: r) (Cm.append (upd_hd fun p hp => ?_) (by rw [strVal_len]; (first | lia | omega)) ⟨(by intro a e; cases e), t, by rw [strVal_snoc]⟩) ?_)
        · simp only [List.mem_cons] at hp
          rcases hp with rfl | rfl | hp
          · exact hWT
          · exact hST
          · exact h6 p hp
        · intro p hp
          simp only [List.mem_cons] at hp ⊢
          rcases hp with h | h | h | h
          · exact .inr (.inl h)
          · exact .inl h
          · exact .inr (.inr (.inl h))
          · exact .inr (.inr (.inr h))
    · rintro _ ⟨t, rfl⟩
      refine Sts.ret (Eve.loc (R := fun v n' => v = .ref W ∧ n' = (T, listOf (strValues (tp ++ [(walkF ks.words, t)])).toArray (kt + 1)) :: (W, listOf (strValues wp).toArray kw) :: (SL, listOf us.toArray 0) :: r) ok.hk (by exact rfl) (by decide) (by walk_at "lk") ⟨rfl, rfl⟩) ?_
      rintro _ _ ⟨rfl, rfl⟩
      refine ⟨W, _, _, rfl, ⟨kw, wp, ew, rfl⟩, ⟨kt + 1, tp ++ [(walkF ks.words, t)], by rw [List.map_append, et]; rfl, rfl⟩, hWT, hWr, fun p hp => ?_⟩
      simp only [List.mem_cons] at hp ⊢
      rcases hp with h | h | h
      · exact .inr (.inl h)
      · exact .inl h
      · exact .inr (.inr (.inr h))
end
theorem due_step (w : World) (d : Nat) (hdd : d = 0 ∨ ∃ d', d = d' + 1 ∧ DueC w d') {ks : Ks} {G T : Addr} {c : Nat} {t : Tok} {kg : Nat} {us : List Value} {r : Led} {tld : List Str} {o : Addr × Obj}
    (h1 : ks.depth ≤ d) (h2 : ks.size ≤ 30) (h3 : ∀ x ∈ ks.words, x.length ≤ 60) (h4 : tld.length + ks.told.length ≤ 100) (h5 : TxAt T tld o) (h6 : ∀ p ∈ r, p.1 ≠ T) (h7 : (G, listOf (.str (chS c) t :: us).toArray kg) ∈ r) (h8 : RepK r us ks) :
    Ctr w 895 (20 + 2 * d) (300 + 10 * d) [.ref G, .ref T] (fun l => l = o :: r) (fun _ v l' => ∃ W oW oT, v = .ref W ∧ TxAt W ks.words oW ∧ TxAt T (tld ++ ks.told ++ [walkF ks.words]) oT ∧ W ≠ T ∧ (∀ p ∈ r, p.1 ≠ W) ∧ l' = oW :: oT :: r) := by
  intro dp un gd cn cs a ccd cl outer A₀ base h₀ L m news s mg mb mean Q E B F X N T0 hk hd hu hpre ret
  subst hpre
  obtain ⟨sh, sg, sd, stk, so⟩ := s
  dsimp only at F N ret
  refine wpAny_call ?_
  k_dflt (refine' code_def (binds := [(Str.ofString "group", .ref G), (Str.ofString "told", .ref T)]) B F X N T0 ?kA ?kF ?kK ?k6 ?k7 ?k8 ?k9 ?kB ?_ ?c2 ?c3 ?c4 ?c5; (case kA => exact rfl); (case kF => exact rfl); (case kK => assumption); (case k6 => k_is); (case k7 => k_is); (case k8 => ktr_room); (case k9 => exact BindsTo.of_eq rfl); (case c5 => decide); (case kB => exact locs rfl); (case c2 => exact rfl); (case c3 => exact rfl); (case c4 => exact rfl); k_whole; intro g' L' h' FG' F' N' B' X' T'; (try dsimp only); (try k_fold))
  have hE : PassesOwn (model pw w) (ktrTop (dp + 1) (un + 3) gd (Str.ofString "_law_due") c49 L' 895 (.ref 894) [] (envX cn cs L a ccd cl :: outer)) (duC w (ktrTop (dp + 1) (un + 3) gd (Str.ofString "_law_due") c49 L' 895 (.ref 894) [] (envX cn cs L a ccd cl :: outer)) L' 895 (.ref 894) g').env ek := by passes_own
  have hdp : (ktrTop dp un gd cn cs L a ccd cl outer).depth = dp := rfl
  have hun : (ktrTop dp un gd cn cs L a ccd cl outer).units = un := rfl
  refine due_sx (Cx.ok (nd := 19 + 2 * d) (nu := 297 + 10 * d) B' X' T' (by exact rfl) (by (first | lia | omega)) (by (first | lia | omega))) (by (first | lia | omega)) (d := d) ?_ (by (first | lia | omega)) (by (first | lia | omega)) h1 h2 h3 h4 h5 h6 h7 h8 (by exact rfl) (by exact rfl) hE (Nat.zero_le _) F' N' ?_
  · rcases hdd with h | ⟨d', rfl, ih⟩
    · exact .inl h
    · exact .inr ⟨d', rfl, ih, by (first | lia | omega), by (first | lia | omega)⟩
  rintro f m' n' h2 tk ⟨W, oW, oT, rfl, hW, hT, hWT, hWr, kp⟩ F2 N2
  refine ⟨_, _, _, F2, N2, fun kF kN => ?_⟩
  exact ret _ tk h2 _ kF (news_sub kN kp) ⟨W, oW, oT, rfl, hW, hT, hWT, hWr, rfl⟩
theorem due_c (w : World) : ∀ d, DueC w d := by
  intro d
  induction d with
  | zero =>
    intro ks G T c t kg us r tld o h1 h2 h3 h4 h5 h6 h7 h8
    exact due_step w 0 (.inl rfl) h1 h2 h3 h4 h5 h6 h7 h8
  | succ d' ih =>
    intro ks G T c t kg us r tld o h1 h2 h3 h4 h5 h6 h7 h8
    exact due_step w (d' + 1) (.inr ⟨d', rfl, ih⟩) h1 h2 h3 h4 h5 h6 h7 h8
open PySem PySem.W PySem.Calls PyProof.Rows PySem.StrLaws
/-- each sign c replaced by z -/
noncomputable def rep (c : Nat) (z l : List Nat) : List Nat := l.flatMap fun d => if d = c then z else [d]
theorem rep_append (c : Nat) (z a b : List Nat) : rep c z (a ++ b) = rep c z a ++ rep c z b := by unfold rep; exact List.flatMap_append ..
theorem rep_free (c : Nat) (z : List Nat) : ∀ l : List Nat, c ∉ l → rep c z l = l
  | [], _ => rfl
  | k :: r, h => by
    have h1 : ¬ k = c := fun e => h (e ▸ List.mem_cons_self ..)
    have h2 : c ∉ r := fun m => h (List.mem_cons_of_mem _ m)
    have ih := rep_free c z r h2
    unfold rep at *
    rw [List.flatMap_cons, if_neg h1, ih]; rfl
theorem rep_join (c : Nat) (z : Str) : ∀ parts : List Str, (∀ p ∈ parts, c ∉ p.cps.toList) → rep c z.cps.toList (Str.join ⟨#[c]⟩ parts).cps.toList = (Str.join z parts).cps.toList
  | [], _ => rfl
  | [p], h => rep_free c _ _ (h p (List.mem_singleton.mpr rfl))
  | p :: q :: r, h => by
    have ih := rep_join c z (q :: r) fun a ha => h a (List.mem_cons_of_mem _ ha)
    show rep c z.cps.toList (p ++ ⟨#[c]⟩ ++ Str.join ⟨#[c]⟩ (q :: r)).cps.toList = (p ++ z ++ Str.join z (q :: r)).cps.toList
    simp only [Str.cps_append, Array.toList_append]
    rw [rep_append, rep_append, ih, rep_free c _ _ (h p (List.mem_cons_self ..))]
    show p.cps.toList ++ rep c z.cps.toList [c] ++ _ = _
    have e : rep c z.cps.toList [c] = z.cps.toList := by unfold rep; rw [List.flatMap_cons, if_pos rfl, List.flatMap_nil, List.append_nil]
    rw [e]
theorem replace_rep (x z : Str) (c : Nat) : (Txt.replace x ⟨#[c]⟩ z).cps.toList = rep c z.cps.toList x.cps.toList := by
  rw [replace_one, ← rep_join c z _ (split_free x c), join_split]
theorem rep_len (c : Nat) (z : List Nat) : ∀ l : List Nat, (rep c z l).length ≤ l.length * (z.length + 1)
  | [] => Nat.zero_le _
  | k :: r => by
    have ih := rep_len c z r
    have e : rep c z (k :: r) = (if k = c then z else [k]) ++ rep c z r := by unfold rep; rw [List.flatMap_cons]
    rw [e, List.length_append, List.length_cons, Nat.add_mul]
    split
    · (first | lia | omega)
    · rw [List.length_singleton]; (first | lia | omega)
theorem replace_len (x z : Str) (c : Nat) : (Txt.replace x ⟨#[c]⟩ z).length ≤ x.length * (z.length + 1) := by
  have h := rep_len c z.cps.toList x.cps.toList
  rw [← replace_rep, Array.length_toList, Array.length_toList, Array.length_toList] at h
  exact h
open PySem PySem.W PySem.Calls PyProof.Rows
open Builtin Builtin.Str
/-- what _law_spelled hands back -/
noncomputable def spellF (x : Str) (way : Int) : Str :=
  if way = 3 ∧ x ≠ Str.ofString "" ∧ Txt.stripChars x (Str.ofString "ab./") = Str.ofString "" then x
  else if way = 1 then Str.ofString "\"" ++ Txt.replace (Txt.replace x (Str.ofString "\\") (Str.ofString "\\\\")) (Str.ofString "\"") (Str.ofString "\\\"") ++ Str.ofString "\""
  else if way = 2 ∧ x ≠ Str.ofString "" then Txt.join (Str.ofString "") ((signs x).map fun s => Str.ofString "\\" ++ s)
  else Str.ofString "'" ++ Txt.replace x (Str.ofString "'") (Str.ofString "'\"'\"'") ++ Str.ofString "'"
theorem post_vm {s : Shared} {c : Prop} [Decidable c] {y z : Str} {t : Tok} {Q : Value → Shared → Prop} (hz : ¬ c → z.length ≤ sizeLine)
    (h : ∀ t' k, s.toks ≤ k → Q (.str (if c then y else z) t') { s with toks := k }) : (if c then Made.val (.str y t) else Made.str z).post Q s := by
  by_cases hc : c
  · rw [if_pos hc]; have h' := h t s.toks (Nat.le_refl _); rw [if_pos hc] at h'; exact h'
  · rw [if_neg hc]; have h' := h s.toks (s.toks + 1) (Nat.le_succ _); rw [if_neg hc] at h'; exact ⟨hz hc, h'⟩
section
variable {C : Cx} {m : Mp} {n : Led} {R : Value → Led → Prop}
theorem Cm.stripM {x y : Str} {t u : Tok} (hx : x.length ≤ 1000000) (r : ∀ t, R (.str (Txt.stripChars x y) t) n) : Cm C m n (call (.builtin "str.strip") [.str x t, .str y u]) R :=
  fun _ s _ h0 F N q => call_gives PySem.F.slot_str_strip (typeIs_str _ _ _) PySem.F.entry_str_strip (PySem.F.args_str_strip_2 _ _) (gives_str_strip_chars x y t u) (post_vm (fun _ => fits_stripped _ _ _ (by rw [sizeLine_eq]; (first | lia | omega))) fun t' k l => q _ n s.heap k (by (first | lia | omega)) (r t') F N)
theorem Cm.addM {x y : Str} {t u : Tok} (hb : x.length + y.length ≤ 1000000) (r : ∀ t, R (.str (x ++ y) t) n) : Cm C m n (binaryOp .Add (.str x t) (.str y u)) R :=
  fun _ s _ h0 F N q => P.add_str (by
    by_cases hx : (x.length == 0) = true
    · rw [if_pos hx]; have h' := q (.str (x ++ y) u) n s.heap s.toks h0 (r u) F N; rw [Str.append_left_empty hx] at h'; exact h'
    · rw [if_neg hx]
      by_cases hy : (y.length == 0) = true
      · rw [if_pos hy]; have h' := q (.str (x ++ y) t) n s.heap s.toks h0 (r t) F N; rw [Str.append_right_empty hy] at h'; exact h'
      · rw [if_neg hy]; exact ⟨by rw [Str.length_append, sizeLine_eq]; (first | lia | omega), q _ n s.heap _ (by show C.lo ≤ s.toks + 1; (first | lia | omega)) (r _) F N⟩)
theorem Cm.replaceM {x y z : Str} {t u v : Tok} (hu : u ≠ 0) (hv : v ≠ 0) (huv : u ≠ v) (hyz : (y == z) = false) (hx : x.length ≤ 10000) (hz : z.length ≤ 14) (r : ∀ t, R (.str (Txt.replace x y z) t) n) : Cm C m n (call (.builtin "str.replace") [.str x t, .str y u, .str z v]) R := fun E s Q h0 F N q => by
  have hb : x.length + (x.length + 1) * z.length ≤ 16777216 := by
    have h1 : (x.length + 1) * z.length ≤ (x.length + 1) * 14 := Nat.mul_le_mul_left _ hz
    (first | lia | omega)
  have e : (2 : Nat) ^ 24 = 16777216 := by decide
  have hl : tooLong (x.length + (occurrences x y 0 x.length (x.length + 1)).length * z.length) = false := by
    have h1 := StrLaws.occ_length_le x y 0 x.length (x.length + 1)
    have h2 : (occurrences x y 0 x.length (x.length + 1)).length * z.length ≤ (x.length + 1) * z.length := Nat.mul_le_mul_right _ h1
    unfold tooLong sizeLine
    exact decide_eq_false (by (first | lia | omega))
  refine call_gives PySem.F.slot_str_replace (typeIs_str _ _ _) PySem.F.entry_str_replace (PySem.F.args_str_replace_3 _ _ _)
    (gives_str_replace x y z t u v fun _ => ⟨by simp [hu, hv], by simp [huv], hyz, hl⟩) ?_
  have hq' : ∀ t' k, s.toks ≤ k → Q (.str (Txt.replace x y z) t') { s with toks := k } := fun t' k l => q _ n s.heap k (by (first | lia | omega)) (r t') F N
  unfold Txt.replace at hq'
  cases hc : ((occurrences x y 0 x.length (x.length + 1)).isEmpty || (y.length == 0 && z.length == 0))
  · rw [hc] at hq'
    simp only [Bool.false_eq_true, if_false] at hq' ⊢
    exact ⟨fits_replaced y hb, hq' _ _ (Nat.le_succ _)⟩
  · rw [hc] at hq'
    simp only [if_true] at hq' ⊢
    exact hq' t s.toks (Nat.le_refl _)
theorem Evp.addM {l r : Expr} {pos : Pos} {x y : Str} (h1 : Evp C m n l (.str x)) (h2 : Evp C m n r (.str y)) (hb : x.length + y.length ≤ 1000000) : Evp C m n (.BinOp l .Add r pos) (.str (x ++ y)) :=
  Evp.bin h1 h2 fun a b fa fb => by
    obtain ⟨t, rfl⟩ := fa; obtain ⟨u, rfl⟩ := fb
    exact Cm.addM hb fun t => ⟨⟨t, rfl⟩, Kp.rfl⟩
/-- o.replace("y", "z") -/
theorem Evp.replaceM {o : Expr} {apos pos p1 p2 : Pos} {k1 k2 : Nat} {x y z : Str} (hlo : 1 ≤ C.lo) (hbase : attributeBase o (Str.ofString "replace") C.env (eval o C.env) = eval o C.env) (hline : (apos.endLine == pos.line) = true) (h1 : Evp C m n o (.str x)) (hyz : (y == z) = false) (hx : x.length ≤ 10000) (hz : z.length ≤ 14) :
    Evp C m n (.Call (.Attribute o (Str.ofString "replace") apos) [.Constant (.str y) k1 p1, .Constant (.str z) k2 p2] [] pos) (.str (Txt.replace x y z)) := by
  refine Eve.meth1 hbase hline (by exact rfl) (by exact rfl) (by exact rfl) h1 fun ov n1 e1 => ?_
  obtain ⟨⟨t, rfl⟩, s1⟩ := e1
  refine ⟨"str.replace", gm_replace, Sq.sub ?_ s1⟩
  intro E s Q pos h0 F N q
  refine args_cons (Constant_str (args_cons (Constant_str (s := { s with toks := s.toks + 1 }) (args_nil ?_)) (by exact rfl))) (by exact rfl)
  exact q [.str y s.toks, .str z (s.toks + 1)] n s.heap (s.toks + 1 + 1) (by (first | lia | omega)) (Cm.replaceM (by show s.toks ≠ 0; (first | lia | omega)) (by show s.toks + 1 ≠ 0; (first | lia | omega)) (by show s.toks ≠ s.toks + 1; (first | lia | omega)) hyz hx hz fun t => ⟨⟨t, rfl⟩, Kp.rfl⟩) F N
theorem filter_tt : ∀ l : List Str, l.filter (fun _ => true) = l
  | [] => rfl
  | a :: r => by rw [List.filter_cons, if_pos rfl, filter_tt r]
/-- a comprehension over the signs of a text: the item is one sign -/
theorem comp_signs {prog : Program} {w : World} {A : Around} {E : Value → Shared → Prop} {s : Shared} {h₀ : Heap} {L : Addr} {news : Led} {env : Env} {elt iter : Expr} {x : Str} {px : Pos} {scope : Scope} {pos : Pos} {Q : Value → Shared → Prop} {d : Str → PyData}
    (hh : A.handled = none) (hfree : ∀ y ∈ scope.names, y.2 ≠ .free) (hcell : ∀ y ∈ scope.names, y.2 ≠ .cell) (hkind : scope.kind = .function)
    (hnames : ∀ y ∈ scope.names, y.2 = .local → scope.names.lookup y.1 = some .local) (hx : scope.names.lookup x = some .local)
    (h : wpAny (model prog w) A (eval iter env) (fun xv s₁ => ∃ y t, xv = .str y t ∧ y.length ≤ sizeLine ∧ Fr h₀ L s₁.heap m ∧ News h₀ L s₁.heap news ∧
      (∀ D c u s₂ m₂ E', s₂.heap.Ns (compEnv scope D env).locals m₂ → m₂ x = some (.str ⟨#[c]⟩ u) → wpAny (model prog w) A (eval elt (compEnv scope D env)) (fun r s₃ => Carried r (d ⟨#[c]⟩) ∧ Keeps s₂ s₃) E' s₂) ∧
      (∀ D (ys : List Value) h' tk, Fr h₀ L h' m → News h₀ L h' news → h₀.get? D = none → NewPlain h' news D ys.toArray → CarriedAll ys ((signs y).map d) → Q (.ref D) { s₁ with heap := h', toks := tk })) E s)
    (hs : ∀ x, foldedSetIterable iter env x = pure x) :
    wpAny (model prog w) A (eval (.ListComp elt [⟨.Name x px, iter, [], 0⟩] scope pos) env) Q E s := by
  refine wpAny_ListComp_walk (ItemKind.str.lift fun _ => true) (fun v r => ∃ a, ItemKind.str.is a v ∧ Carried r (d a)) hfree hcell hkind hnames hx (wpAny_mono h (fun xv s₁ h₁ => ?_) fun _ _ e => e) hs
  obtain ⟨y, t, rfl, hsz, F, N, helt, hQ⟩ := h₁
  refine wpAny_pyIter_str fun o St W hst => ?_
  have up : ∀ (h' : Heap), (∀ b o', b ∉ [s₁.heap.objs.size] → (s₁.heap.push o).get? b = some o' → h'.get? b = some o') → ∀ b o', s₁.heap.get? b = some o' → h'.get? b = some o' :=
    fun h' hk b o' e => hk b o' (old_not_new e) (Heap.get?_push_of_some _ e)
  refine ⟨_, _, [s₁.heap.objs.size], y.cps.size, SignAt y, St, rfl, W A hh, hsz, hst, ?_, ⟨?_, ?_⟩, ?_⟩
  · intro b hb
    show b < (s₁.heap.push o).objs.size
    rw [Heap.size_push, List.mem_singleton.mp hb]
    exact Nat.lt_succ_self _
  · rintro D i v s₃ m₃ E' ⟨c, u, _, rfl⟩ hn hm _ _
    have ha : ItemKind.str.is ⟨#[c]⟩ (.str ⟨#[c]⟩ u) := ⟨u, rfl⟩
    rw [ItemKind.lift_is ha, List.forIn_nil]
    exact wpAny_pure ⟨rfl, s₃.heap, s₃.toks, rfl, fun _ _ e => e⟩
  · rintro D i v s₃ m₃ E' ⟨c, u, _, rfl⟩ _ hn hm _ _
    have ha : ItemKind.str.is ⟨#[c]⟩ (.str ⟨#[c]⟩ u) := ⟨u, rfl⟩
    exact wpAny_mono (helt D c u s₃ m₃ E' hn hm) (fun r s₄ h₄ => ⟨⟨_, ha, h₄.1⟩, h₄.2⟩) fun _ _ e => e
  · intro D h' tk ys vs hnew hlD hplD hlen hP hF hk
    have hc := (areOf_signs hlen hP).paired (fun _ => true) d _ hF
    rw [filter_tt] at hc
    refine hQ D ys.toList h' tk (F.keeps (up h' hk)) (N.grown (up h' hk)) ?_ ⟨by rw [Array.toArray_toList]; exact hplD, fun p hp e => by rw [← e, Heap.get?_push_of_some _ (N p hp).1] at hnew; cases hnew⟩ hc
    cases e : h₀.get? D with
    | none => rfl
    | some o' => rw [Heap.get?_push_of_some _ (F.keep _ _ e)] at hnew; cases hnew
theorem Tsp.andC {x : Expr} {rest : List Expr} {pos : Pos} {b c : Bool} (h1 : Tsp C m n x b) (h2 : b = true → Tsp C m n (.BoolOp .And rest pos) c) : Tsp C m n (.BoolOp .And (x :: rest) pos) (b && c) :=
  Tst.and h1 fun b' n1 e => by
    obtain ⟨rfl, k⟩ := e
    exact ⟨fun h => ⟨by rw [h]; rfl, k⟩, fun h => Tst.mono (Tst.sub (h2 h) k) fun c' n' e => ⟨by rw [h, e.1]; rfl, fun p hp => e.2 p hp⟩⟩
theorem Tsp.andN {pos : Pos} : Tsp C m n (.BoolOp .And [] pos) true := Tst.andNil ⟨rfl, Kp.rfl⟩
theorem Sts.ret0 {P : Flow → Mp → Led → Prop} {rest : List Stmt} {ks : List (List Stmt)} {e : Expr} {pos : Pos} {R : Value → Led → Prop} (h1 : Eve { C with lo := 0 } m n e R) (h2 : ∀ v n', R v n' → P (.ret v) m n') : Sts C P m n (.Return (some e) pos :: rest) ks :=
  fun _ _ _ _ _ F N q => wpAny_execs_cons (wpAny_Return_some (h1 (Nat.zero_le _) F N fun v n1 g1 t1 _ r1 F1 N1 => contQ_out (fun e => by cases e) (q _ m n1 g1 t1 (h2 v n1 r1) F1 N1) ks))
end
theorem fill22 : PySem.Challenge.rw_kl0186_01 = PySem.Challenge.rw_kl0186_01 ∧ K = K := by
  w_on
  k_fill
  exact ⟨rfl, rfl⟩
section
variable {w : World} {A : Around} {L a : Addr} {cd : Value} {h₀ : Heap}
noncomputable abbrev spC (w : World) (A : Around) (L a : Addr) (cd : Value) (h₀ : Heap) : Cx := ⟨w, A, Str.ofString "_law_spelled", c43, L, a, cd, h₀, 1⟩
theorem carried_strs {f : Str → Str} : ∀ {vs : List Value} {as : List Str}, CarriedAll vs (as.map fun a => PyData.str (f a)) → ∃ ps : List (Str × Tok), vs = strValues ps ∧ ps.map (·.1) = as.map f
  | _, [], .nil => ⟨[], rfl, rfl⟩
  | _, a :: r, .cons (.str _ t) h => by
    obtain ⟨ps, e1, e2⟩ := carried_strs h
    exact ⟨(f a, t) :: ps, by rw [e1]; rfl, by rw [List.map_cons, e2]; rfl⟩
theorem spell_sx {x : Str} {t : Tok} {way : Int} {u : Tok} {m : Mp} {n : Led} (hk : c43.kind = .function) (hh : A.handled = none) (hx : x.length ≤ 60) (hmw : m (Str.ofString "word") = some (.str x t)) (hmy : m (Str.ofString "way") = some (.int way u)) :
    Sts (spC w A L a cd h₀) (fun f _ n' => ∃ t, f = .ret (.str (spellF x way) t) ∧ Kp n n') m n b43 [] := by
  have hl : ∀ x y : Str, (x ++ y).length = x.length + y.length := fun x y => Array.size_append
  have e1 : (Str.ofString "'").length = 1 := by decide
  have e2 : (Str.ofString "\"").length = 1 := by decide
  refine Sts.ifp (c := (way == 3) && ((x != Str.ofString "") && ((Txt.stripChars x (Str.ofString "ab./") == Str.ofString "") && true))) (Tsp.andC (Tsp.cmp (by exact rfl) (by walk_at "ev") (by walk_at "ev") .eqI) fun _ => Tsp.andC (Tsp.cmp (by exact rfl) (p1 := .str x) (p2 := .str (Str.ofString "")) (by walk_at "ev") (by walk_at "ev") .neS) fun _ => Tsp.andC (Tsp.cmp (by exact rfl) (p1 := .str (Txt.stripChars x (Str.ofString "ab./"))) (p2 := .str (Str.ofString "")) (Evp.smeth1 (by exact rfl) (by exact rfl) (by exact rfl) (fun t n => gm_strip) (by walk_at "ev") (p := .str (Str.ofString "ab./")) (by walk_at "ev") fun t v fv => ?_) (by walk_at "ev") .eqS) fun _ => Tsp.andN) (fun h => ?_) fun h => Sts.pop ?_
  · obtain ⟨u, rfl⟩ := fv
    exact Cm.stripM (by (first | lia | omega)) fun t => ⟨⟨t, rfl⟩, Kp.rfl⟩
  · have h' : way = 3 ∧ x ≠ Str.ofString "" ∧ Txt.stripChars x (Str.ofString "ab./") = Str.ofString "" := by
      simp only [Bool.and_true, Bool.and_eq_true, beq_iff_eq, bne_iff_ne] at h
      exact h
    refine Sts.ret (Eve.loc (R := fun v n' => v = .str x t ∧ n' = n) hk (by exact rfl) (by decide) (by walk_at "lk") ⟨rfl, rfl⟩) fun v n' e => ?_
    obtain ⟨rfl, rfl⟩ := e
    exact ⟨t, by unfold spellF; rw [if_pos h'], Kp.rfl⟩
  have h3 : ¬ (way = 3 ∧ x ≠ Str.ofString "" ∧ Txt.stripChars x (Str.ofString "ab./") = Str.ofString "") := by
    intro e
    simp only [Bool.and_true, Bool.and_eq_false_iff] at h
    rcases h with h | h | h
    · rw [e.1] at h; exact absurd h (by decide)
    · exact e.2.1 (by simpa using h)
    · rw [e.2.2] at h; exact absurd h (by decide)
  clear h
  refine Sts.ifp (Tsp.cmp (by exact rfl) (by walk_at "ev") (by walk_at "ev") .eqI) (fun h => ?_) fun h => Sts.pop ?_
  · have h1 := beq_iff_eq.mp h
    have l1 := replace_len x (Str.ofString "\\\\") 92
    have e3 : (Str.ofString "\\\\").length = 2 := by decide
    have l2 := replace_len (Txt.replace x (Str.ofString "\\") (Str.ofString "\\\\")) (Str.ofString "\\\"") 34
    have e4 : (Str.ofString "\\\"").length = 2 := by decide
    have c1 : Str.ofString "\\" = ⟨#[92]⟩ := by decide
    have c2 : Str.ofString "\"" = ⟨#[34]⟩ := by decide
    rw [← c1, e3] at l1
    rw [← c2, e4] at l2
    refine Sts.ret (R := fun v n' => ∃ t, v = .str (spellF x way) t ∧ Kp n n') (Cm.mono (Evp.addM (x := Str.ofString "\"" ++ Txt.replace (Txt.replace x (Str.ofString "\\") (Str.ofString "\\\\")) (Str.ofString "\"") (Str.ofString "\\\"")) (y := Str.ofString "\"") (Evp.addM (by walk_at "ev") (Evp.replaceM (Nat.le_refl 1) (by exact rfl) (by exact rfl) (Evp.replaceM (Nat.le_refl 1) (by exact rfl) (by exact rfl) (by walk_at "ev") (by decide) (by (first | lia | omega)) (by decide)) (by decide) (by (first | lia | omega)) (by decide)) (by rw [e2]; (first | lia | omega))) (by walk_at "ev") (by rw [hl, e2]; (first | lia | omega))) fun v n' e => ?_) fun v n' e => ?_
    · obtain ⟨⟨t, rfl⟩, k⟩ := e
      exact ⟨t, by unfold spellF; rw [if_neg h3, if_pos h1], k⟩
    · obtain ⟨t, rfl, k⟩ := e
      exact ⟨t, rfl, k⟩
  have h4 : way ≠ 1 := fun e => by rw [e] at h; exact absurd h (by decide)
  clear h
  refine Sts.ifp (Tsp.andC (Tsp.cmp (by exact rfl) (by walk_at "ev") (by walk_at "ev") .eqI) fun _ => Tsp.andC (Tsp.cmp (by exact rfl) (p1 := .str x) (p2 := .str (Str.ofString "")) (by walk_at "ev") (by walk_at "ev") .neS) fun _ => Tsp.andN) (fun h => ?_) fun h => Sts.pop ?_
  · have h' : way = 2 ∧ x ≠ Str.ofString "" := by
      simp only [Bool.and_true, Bool.and_eq_true, beq_iff_eq, bne_iff_ne] at h
      exact h
    have hsl : (signs x).length = x.length := signs_length x
    refine Sts.ret0 (R := fun v n' => ∃ t, v = .str (spellF x way) t ∧ Kp n n') (Eve.meth1 (by exact rfl) (by exact rfl) (by exact rfl) (by exact rfl) (by exact rfl) (R1 := Is (.str (Str.ofString "")) n) Evp.str ?_) ?_
    · rintro _ n1 ⟨⟨t0, rfl⟩, k⟩
      refine ⟨"str.join", gm_join, Sq.sub (Sq.cons (R1 := fun v n' => ∃ D ps kk, v = .ref D ∧ ps.map (·.1) = (signs x).map (fun s => Str.ofString "\\" ++ s) ∧ n' = (D, listOf (strValues ps).toArray kk) :: n) (by exact rfl) ?_ ?_) k⟩
      · intro E s Q h0 F N q
        refine comp_signs (m := m) (news := n) (d := fun s => .str (Str.ofString "\\" ++ s)) hh (by decide) (by decide) (by exact rfl) (by decide) (by exact rfl) (ld F hmw ⟨x, t, rfl, by rw [sizeLine_eq]; (first | lia | omega), F, N, ?_, ?_⟩ hk (by exact rfl) (by decide)) (by intro _; exact rfl)
        · intro D c u2 s₂ m₂ E' hns hm2
          refine wpAny_BinOp (Constant_str (wpAny_Name (wpAny_loadName_local (by exact rfl) (by exact rfl) (s := { s₂ with toks := s₂.toks + 1 }) hns hm2 (SB.add (fun t' kk => ⟨.str _ _, s₂.heap, kk, rfl, fun _ _ e => e⟩) ?_)) (by decide)))
          show (Str.ofString "\\").length + 1 ≤ sizeLine
          rw [sizeLine_eq]; decide
        · intro D ys h' tk F' N' hD hpl hca
          obtain ⟨ps, rfl, e2⟩ := carried_strs hca
          obtain ⟨kk, N2⟩ := made_enters hpl F' N' hD
          exact q _ _ h' tk (Nat.zero_le _) ⟨D, ps, kk, rfl, e2, rfl⟩ F' N2
      · rintro _ _ ⟨D, ps, kk, rfl, e2, rfl⟩
        have hpl := congrArg List.length e2
        rw [List.length_map, List.length_map] at hpl
        refine Sq.nil (Cm.join rfl (.head _) (by decide) (by (first | lia | omega)) (fun p hp => ?_) fun t _ => ⟨t, by unfold spellF; rw [if_neg h3, if_neg h4, if_pos h', e2], Kp.cons⟩)
        have := e2 ▸ List.mem_map_of_mem (f := fun p : Str × Tok => p.1) hp
        obtain ⟨s, hs, es⟩ := List.mem_map.mp this
        obtain ⟨c, _, rfl⟩ := List.mem_map.mp hs
        rw [← es, hl]
        show (Str.ofString "\\").length + 1 ≤ 2000
        decide
    · rintro _ n' ⟨t, rfl, k⟩
      exact ⟨t, rfl, k⟩
  · have h' : ¬ (way = 2 ∧ x ≠ Str.ofString "") := by
      intro e
      simp only [Bool.and_true, Bool.and_eq_false_iff] at h
      rcases h with h | h
      · rw [e.1] at h; exact absurd h (by decide)
      · exact e.2 (by simpa using h)
    have l1 := replace_len x (Str.ofString "'\"'\"'") 39
    have e3 : (Str.ofString "'\"'\"'").length = 5 := by decide
    have c1 : Str.ofString "'" = ⟨#[39]⟩ := by decide
    rw [← c1, e3] at l1
    refine Sts.ret (R := fun v n' => ∃ t, v = .str (spellF x way) t ∧ Kp n n') (Cm.mono (Evp.addM (x := Str.ofString "'" ++ Txt.replace x (Str.ofString "'") (Str.ofString "'\"'\"'")) (y := Str.ofString "'") (Evp.addM (by walk_at "ev") (Evp.replaceM (Nat.le_refl 1) (by exact rfl) (by exact rfl) (by walk_at "ev") (by decide) (by (first | lia | omega)) (by decide)) (by rw [e1]; (first | lia | omega))) (by walk_at "ev") (by rw [hl, e1]; (first | lia | omega))) fun v n' e => ?_) fun v n' e => ?_
    · obtain ⟨⟨t, rfl⟩, k⟩ := e
      exact ⟨t, by unfold spellF; rw [if_neg h3, if_neg h4, if_neg h'], k⟩
    · obtain ⟨t, rfl, k⟩ := e
      exact ⟨t, rfl, k⟩
end
theorem spell_c (w : World) (x : Str) (t : Tok) (way : Int) (u : Tok) (hx : x.length ≤ 60) :
    Ctr w 853 10 200 [.str x t, .int way u] (fun _ => True) (fun l v l' => (∃ t, v = .str (spellF x way) t) ∧ l' = l) := by
  intro dp un gd cn cs a ccd cl outer A₀ base h₀ L m news s mg mb mean Q E B F X N T hk hd hu hpre ret
  obtain ⟨sh, sg, sd, stk, so⟩ := s
  dsimp only at F N ret
  refine wpAny_call ?_
  k_dflt (refine' code_def (binds := [(Str.ofString "word", .str x t), (Str.ofString "way", .int way u)]) B F X N T ?kA ?kF ?kK ?k6 ?k7 ?k8 ?k9 ?kB ?_ ?c2 ?c3 ?c4 ?c5; (case kA => exact rfl); (case kF => exact rfl); (case kK => assumption); (case k6 => k_is); (case k7 => k_is); (case k8 => ktr_room); (case k9 => exact BindsTo.of_eq rfl); (case c5 => decide); (case kB => exact locs rfl); (case c2 => exact rfl); (case c3 => exact rfl); (case c4 => exact rfl); k_whole; intro g' L' h' FG' F' N' B' X' T'; (try dsimp only); (try k_fold))
  have hE : PassesOwn (model pw w) (ktrTop (dp + 1) (un + 3) gd (Str.ofString "_law_spelled") c43 L' 853 (.ref 852) [] (envX cn cs L a ccd cl :: outer)) (spC w (ktrTop (dp + 1) (un + 3) gd (Str.ofString "_law_spelled") c43 L' 853 (.ref 852) [] (envX cn cs L a ccd cl :: outer)) L' 853 (.ref 852) g').env ek := by passes_own
  refine spell_sx (by exact rfl) (by exact rfl) hx (by exact rfl) (by exact rfl) hE (by show 1 ≤ stk + 2; (first | lia | omega)) F' N' ?_
  rintro f m' n' h2 tk ⟨t, rfl, kp⟩ F2 N2
  refine ⟨_, _, _, F2, N2, fun kF kN => ?_⟩
  exact ret _ tk h2 _ kF (news_sub kN kp) ⟨⟨t, rfl⟩, rfl⟩
open PySem PySem.W PySem.Calls PyProof.Rows
noncomputable def gapF (gap : Int) : Str := [Str.ofString " ", Str.ofString "\n\t", Str.ofString " # ])('\n", Str.ofString "\r "].getD gap.toNat (Str.ofString "")
noncomputable def closeS (c : Nat) : Str := if chS c = Str.ofString "(" then Str.ofString ")" else Str.ofString "]"
noncomputable def Ks.lastK : Ks → Bool
  | .word _ _ _ _ => false
  | _ => true
/-- what _law_written writes of the items -/
noncomputable def Ks.wrt : Ks → Str
  | .nil => Str.ofString ""
  | .word x way gap rest => spellF x way ++ (if rest.lastK = true ∧ gap < 2 then Str.ofString "" else gapF gap) ++ rest.wrt
  | .grp c kids rest => chS c ++ kids.wrt ++ closeS c ++ rest.wrt
def Ks.gok : Ks → Prop
  | .nil => True
  | .word _ _ gap rest => 0 ≤ gap ∧ gap < 4 ∧ rest.gok
  | .grp _ kids rest => kids.gok ∧ rest.gok
def It.gok : It → Prop
  | .word _ _ gap => 0 ≤ gap ∧ gap < 4
  | .grp _ kids => kids.gok
noncomputable def lastO : Option It → Bool
  | some (.word _ _ _) => false
  | _ => true
noncomputable def It.wrt (nx : Option It) : It → Str
  | .word x way gap => spellF x way ++ (if lastO nx = true ∧ gap < 2 then Str.ofString "" else gapF gap)
  | .grp c kids => chS c ++ kids.wrt ++ closeS c
noncomputable def pcs : List It → List Str
  | [] => []
  | it :: r => It.wrt r.head? it :: pcs r
theorem str_app (x y : Str) : (x ++ y).length = x.length + y.length := Array.size_append
theorem str_assoc (x y z : Str) : x ++ y ++ z = x ++ (y ++ z) := congrArg Str.mk (Array.append_assoc ..)
theorem str_nil (x : Str) : x ++ Str.ofString "" = x := congrArg Str.mk (Array.append_empty ..)
theorem items_head (ks : Ks) : lastO ks.items.head? = ks.lastK := by cases ks <;> rfl
theorem fold_app : ∀ (l : List Str) (z : Str), l.foldl (· ++ ·) z = z ++ l.foldl (· ++ ·) (Str.ofString "")
  | [], z => (str_nil z).symm
  | a :: r, z => by
    have e : Str.ofString "" ++ a = a := congrArg Str.mk (Array.empty_append ..)
    rw [List.foldl_cons, List.foldl_cons, fold_app r (z ++ a), e, fold_app r a, str_assoc]
theorem pcs_wrt : ∀ ks : Ks, (pcs ks.items).foldl (· ++ ·) (Str.ofString "") = ks.wrt
  | .nil => rfl
  | .word x way gap rest => by
    have e : ∀ a : Str, Str.ofString "" ++ a = a := fun a => congrArg Str.mk (Array.empty_append ..)
    show (It.wrt rest.items.head? (It.word x way gap) :: pcs rest.items).foldl _ _ = _
    rw [List.foldl_cons, fold_app, pcs_wrt rest, e]
    show (spellF x way ++ (if lastO rest.items.head? = true ∧ gap < 2 then Str.ofString "" else gapF gap)) ++ rest.wrt = _
    rw [items_head]
    rfl
  | .grp c kids rest => by
    have e : ∀ a : Str, Str.ofString "" ++ a = a := fun a => congrArg Str.mk (Array.empty_append ..)
    show (It.wrt rest.items.head? (It.grp c kids) :: pcs rest.items).foldl _ _ = _
    rw [List.foldl_cons, fold_app, pcs_wrt rest, e]
    rfl
theorem pcs_at : ∀ (l : List It) (i : Nat) (it : It), l[i]? = some it → (pcs l)[i]? = some (It.wrt l[i + 1]? it)
  | [], _, _, h => by cases h
  | a :: r, 0, it, h => by
    cases h
    show some (It.wrt r.head? a) = some (It.wrt r[0]? a)
    rw [List.head?_eq_getElem?]
  | a :: r, i + 1, it, h => pcs_at r i it h
theorem pcs_len : ∀ l : List It, (pcs l).length = l.length
  | [] => rfl
  | _ :: r => congrArg Nat.succ (pcs_len r)
theorem fold_take_len (l : List Str) (z : Str) (i : Nat) : ((l.take i).foldl (· ++ ·) z).length ≤ (l.foldl (· ++ ·) z).length := by
  have e : l.foldl (· ++ ·) z = ((l.take i).foldl (· ++ ·) z) ++ (l.drop i).foldl (· ++ ·) (Str.ofString "") := by
    rw [← fold_app, ← List.foldl_append, List.take_append_drop]
  rw [e, str_app]; (first | lia | omega)
theorem gok_it {ks : Ks} (h : ks.gok) : ∀ it ∈ ks.items, it.gok := by
  induction ks with
  | nil => intro it hi; cases hi
  | word x way gap rest ih =>
    intro it hi
    rcases List.mem_cons.mp hi with rfl | hi
    · exact ⟨h.1, h.2.1⟩
    · exact ih h.2.2 it hi
  | grp c kids rest _ ih =>
    intro it hi
    rcases List.mem_cons.mp hi with rfl | hi
    · exact h.1
    · exact ih h.2 it hi
theorem spellF_len {x : Str} {way : Int} (hx : x.length ≤ 60) : (spellF x way).length ≤ 600 := by
  have l1 := replace_len x (Str.ofString "\\\\") 92
  have l2 := replace_len (Txt.replace x (Str.ofString "\\") (Str.ofString "\\\\")) (Str.ofString "\\\"") 34
  have l3 := replace_len x (Str.ofString "'\"'\"'") 39
  have e1 : (Str.ofString "\\\\").length = 2 := by decide
  have e2 : (Str.ofString "\\\"").length = 2 := by decide
  have e3 : (Str.ofString "'\"'\"'").length = 5 := by decide
  have e4 : (Str.ofString "'").length = 1 := by decide
  have e5 : (Str.ofString "\"").length = 1 := by decide
  have e6 : (Str.ofString "\\").length = 1 := by decide
  have c1 : Str.ofString "\\" = ⟨#[92]⟩ := by decide
  have c2 : Str.ofString "\"" = ⟨#[34]⟩ := by decide
  have c3 : Str.ofString "'" = ⟨#[39]⟩ := by decide
  rw [← c1, e1] at l1
  rw [← c2, e2] at l2
  rw [← c3, e3] at l3
  unfold spellF
  split
  · (first | lia | omega)
  · split
    · rw [str_app, str_app, e5]; (first | lia | omega)
    · split
      · have h := glued_len (Str.ofString "") ((signs x).map fun s => Str.ofString "\\" ++ s)
        have h0 : (Str.ofString "").length = 0 := by decide
        have h1 : (((signs x).map fun s => Str.ofString "\\" ++ s).map (·.length)).sum ≤ (signs x).length * 2 := by
          have := StrLaws.sumLen_le (B := 2) ((signs x).map fun s => Str.ofString "\\" ++ s) (fun y hy => by
            obtain ⟨s, hs, rfl⟩ := List.mem_map.mp hy
            obtain ⟨c, _, rfl⟩ := List.mem_map.mp hs
            rw [str_app, e6]; show 1 + 1 ≤ 2; decide)
          rwa [List.length_map] at this
        rw [signs_length] at h1
        rw [h0, Nat.mul_zero] at h
        (first | lia | omega)
      · rw [str_app, str_app, e4]; (first | lia | omega)
theorem gapF_len (gap : Int) : (gapF gap).length ≤ 10 := by
  unfold gapF
  rw [List.getD_eq_getElem?_getD]
  cases h : [Str.ofString " ", Str.ofString "\n\t", Str.ofString " # ])('\n", Str.ofString "\r "][gap.toNat]? with
  | none => decide
  | some y =>
    have := List.mem_of_getElem? h
    simp only [List.mem_cons, List.not_mem_nil, or_false] at this
    rcases this with rfl | rfl | rfl | rfl <;> decide
theorem closeS_len (c : Nat) : (closeS c).length = 1 := by unfold closeS; split <;> decide
theorem wrt_len (ks : Ks) (h : ∀ x ∈ ks.words, x.length ≤ 60) : ks.wrt.length ≤ 700 * ks.size := by
  induction ks with
  | nil => exact Nat.zero_le _
  | word x way gap rest ih =>
    have h1 := spellF_len (way := way) (h x (.head _))
    have h2 := gapF_len gap
    have h3 := ih fun y hy => h y (.tail _ hy)
    rw [size_word]
    show (spellF x way ++ (if rest.lastK = true ∧ gap < 2 then Str.ofString "" else gapF gap) ++ rest.wrt).length ≤ _
    rw [str_app, str_app]
    have h4 : (if rest.lastK = true ∧ gap < 2 then Str.ofString "" else gapF gap).length ≤ 10 := by
      split
      · decide
      · exact h2
    (first | lia | omega)
  | grp c kids rest ih1 ih2 =>
    have h1 := ih1 fun y hy => h y (List.mem_append_left _ hy)
    have h2 := ih2 fun y hy => h y (List.mem_append_right _ hy)
    have h3 := closeS_len c
    rw [size_grp]
    show (chS c ++ kids.wrt ++ closeS c ++ rest.wrt).length ≤ _
    rw [str_app, str_app, str_app]
    have h4 : (chS c).length = 1 := rfl
    (first | lia | omega)
theorem ns_wrt {P : Params} : nsIn (K P) mainGlobals (Str.ofString "_law_written") = some (some (.ref 860)) := by kernel_rfl
theorem ns_spell {P : Params} : nsIn (K P) mainGlobals (Str.ofString "_law_spelled") = some (some (.ref 853)) := by kernel_rfl
theorem keep860 {P : Params} : keepIn (K P) (.ref 860) = true := by kernel_rfl
theorem keep853 {P : Params} : keepIn (K P) (.ref 853) = true := by kernel_rfl
theorem fill23 : PySem.Challenge.rw_kl0186_01 = PySem.Challenge.rw_kl0186_01 ∧ K = K := by
  w_on
  k_fill
  exact ⟨rfl, rfl⟩
noncomputable abbrev wrC (p : Pl) : Cx := ⟨p.w, p.A, Str.ofString "_law_written", c44, p.L, p.a, p.cd, p.h₀, 0⟩
def WrC (w : World) (d : Nat) : Prop := ∀ (ks : Ks) (G : Addr) (c : Nat) (t : Tok) (kg : Nat) (us : List Value) (r : Led), ks.depth ≤ d → ks.size ≤ 30 → (∀ x ∈ ks.words, x.length ≤ 60) → ks.gok → (G, listOf (.str (chS c) t :: us).toArray kg) ∈ r → RepK r us ks →
  Ctr w 860 (20 + 2 * d) (300 + 10 * d) [.ref G] (fun l => l = r) (fun l v l' => (∃ t, v = .str (chS c ++ ks.wrt ++ closeS c) t) ∧ l' = l)
/-- the loop's word: text is what the first i items write -/
def WrJ (G GP : Addr) (c : Nat) (ps : List Str) (n : Led) (i : Nat) (m : Mp) (n' : Led) : Prop :=
  m (Str.ofString "group") = some (.ref G) ∧ m (Str.ofString "gaps") = some (.ref GP) ∧ (∃ t, m (Str.ofString "text") = some (.str ((ps.take i).foldl (· ++ ·) (chS c)) t)) ∧ n' = n
def SubI (n : Led) (G : Addr) (c : Nat) (us : List Value) : Prop := ∃ (t : Tok) (kg : Nat), (G, listOf (.str (chS c) t :: us).toArray kg) ∈ n
theorem item_w {p : Pl} {m : Mp} {n : Led} {G : Addr} {c : Nat} {t : Tok} {kg : Nat} {us : List Value} {i : Nat} {v : Value} {e : Expr} {p1 p2 : Pos} {R : Value → Led → Prop} (hk : c44.kind = .function) (hm : (G, listOf (.str (chS c) t :: us).toArray kg) ∈ n) (hb : us.length ≤ 30) (hg : m (Str.ofString "group") = some (.ref G)) (hv : us[i]? = some v) (he : Evp (wrC p) m n e (.int (1 + (i : Int))))
    (hs : ∀ (k : Int) (u : Tok), subscripted e false (.ref G) (.int k u) = operate [.ref G, .int k u] (getItem (.ref G) (.int k u))) (r : R v n) : Eve (wrC p) m n (.Subscript (.Name (Str.ofString "group") p1) e p2) R :=
  Evp.sub (p1 := .ref G) (Evp.loc hk (by exact rfl) (by decide) hg .ref) he fun a b fa fb => by
    cases fa
    obtain ⟨u, rfl⟩ := fb
    refine Cm.item hm (by rw [List.length_cons]; (first | lia | omega)) (by (first | lia | omega)) ?_ hs r
    have : (1 + (i : Int)).toNat = i + 1 := by (first | lia | omega)
    rw [this]
    exact hv
noncomputable def wrBody : List Stmt := forBody (b44.getD 2 (.Pass p0))
theorem wr_turn {p : Pl} {nd nu d : Nat} (ok : (wrC p).Ok nd nu) (hd : d = 0 ∨ ∃ d', d = d' + 1 ∧ WrC p.w d' ∧ 20 + 2 * d' ≤ nd ∧ 300 + 10 * d' ≤ nu) (hnd : 10 ≤ nd) (hnu : 200 ≤ nu) {ks : Ks} {G GP : Addr} {c : Nat} {t : Tok} {kg : Nat} {us : List Value} {n own : Led} {X : Str} {I : Addr}
    (h1 : ks.depth ≤ d) (h2 : ks.size ≤ 30) (h3 : ∀ x ∈ ks.words, x.length ≤ 60) (h4 : ks.gok) (h7 : (G, listOf (.str (chS c) t :: us).toArray kg) ∈ n) (h8 : RepK n us ks) {gp : List (Str × Tok)} {kp : Nat} (hgp : (GP, listOf (strValues gp).toArray kp) ∈ n) (egp : gp.map (·.1) = [Str.ofString " ", Str.ofString "\n\t", Str.ofString " # ])('\n", Str.ofString "\r "])
    {i : Nat} {tk : Tok} {m1 : Mp} (hi : i < us.length) (hg : m1 (Str.ofString "group") = some (.ref G)) (hgg : m1 (Str.ofString "gaps") = some (.ref GP)) (ht : ∃ t, m1 (Str.ofString "text") = some (.str (((pcs ks.items).take i).foldl (· ++ ·) (chS c)) t)) (hI : ∀ p ∈ n, p.1 ≠ I) :
    Sts (wrC p) (TP (RtS X n) (WrJ G GP c (pcs ks.items) n (i + 1)) I own) (fun z => if z = Str.ofString "k" then some (.int (1 + (i : Int)) tk) else m1 z) (n ++ own) wrBody [] := by
  obtain ⟨tt, ht⟩ := ht
  obtain ⟨v, hv⟩ : ∃ v, us[i]? = some v := ⟨us[i], List.getElem?_eq_getElem hi⟩
  obtain ⟨it, hit, hrep⟩ := h8.at hv
  have hul := h8.len
  have hmem := List.mem_of_getElem? hit
  have hpc := pcs_at _ _ _ hit
  have hft : ((pcs ks.items).take (i + 1)).foldl (· ++ ·) (chS c) = ((pcs ks.items).take i).foldl (· ++ ·) (chS c) ++ It.wrt ks.items[i + 1]? it := by
    rw [List.take_add_one, hpc, List.foldl_append]; rfl
  have hwl := wrt_len ks h3
  have hlen : ∀ j, (((pcs ks.items).take j).foldl (· ++ ·) (chS c)).length ≤ 30000 := fun j => by
    have a := fold_take_len (pcs ks.items) (chS c) j
    rw [fold_app (pcs ks.items), pcs_wrt, str_app] at a
    have b : (chS c).length = 1 := rfl
    (first | lia | omega)
  have hl1 := hlen i
  have hl2 := hlen (i + 1)
  rw [hft] at hl2
  have h7' : (G, listOf (.str (chS c) t :: us).toArray kg) ∈ n ++ own := List.mem_append_left _ h7
  have fin : ∀ (m' : Mp) (n' : Led) (t' : Tok), Kp (n ++ own) n' → m' (Str.ofString "group") = some (.ref G) → m' (Str.ofString "gaps") = some (.ref GP) → m' (Str.ofString "text") = some (.str (((pcs ks.items).take i).foldl (· ++ ·) (chS c) ++ It.wrt ks.items[i + 1]? it) t') → TP (RtS X n) (WrJ G GP c (pcs ks.items) n (i + 1)) I own .next m' n' :=
    fun m' n' t' kp e1 e2 e3 => ⟨n, ⟨e1, e2, ⟨t', by rw [hft]; exact e3⟩, rfl⟩, hI, kp⟩
  generalize ((pcs ks.items).take i).foldl (· ++ ·) (chS c) = T at *
  clear hft hlen hpc
  cases hrep with
  | @word ia x t1 u1 v1 way gap hm =>
    have hmi : (ia, tupO [Value.str x t1, .int way u1, .int gap v1]) ∈ n ++ own := List.mem_append_left _ hm
    have hgk := gok_it h4 _ hmem
    have hxl : x.length ≤ 60 := h3 x (by rw [words_items]; exact List.mem_flatMap.mpr ⟨_, hmem, .head _⟩)
    refine Sts.ifp (Tst.isList (b := false) ok (by exact rfl) (by exact rfl) (by exact rfl) (by exact rfl) (by intro whole; exact rfl) (D := ia) (item_w ok.hk h7' (by (first | lia | omega)) (by walk_at "lk") hv (by walk_at "ev") (by intro k u; exact rfl) ⟨rfl, Kp.rfl⟩) hmi (T := "tuple") rfl (fun _ => kitx_tuple) kit_tl) (fun h => by cases h) fun _ => ?_
    refine Sts.unpack3 ok.hk ok.hh (by exact rfl) (by exact rfl) (by exact rfl) (by exact rfl) (by exact rfl) (item_w ok.hk h7' (by (first | lia | omega)) (by walk_at "lk") hv (by walk_at "ev") (by intro k u; exact rfl) ⟨rfl, Kp.rfl⟩) hmi ?_
    refine Sts.asgp ok.hk (by exact rfl) (by exact rfl) (p := .bool (lastO ks.items[i + 1]?)) ?_ fun vl fl => ?_
    · have ek : (1 + (i : Int) + 1) = 1 + ((i + 1 : Nat) : Int) := by (first | lia | omega)
      by_cases hla : i + 1 = us.length
      · have e0 : ks.items[i + 1]? = none := List.getElem?_eq_none (by rw [h8.items_len]; (first | lia | omega))
        have eb : (1 + (i : Int) + 1 == (((Value.str (chS c) t :: us).length : Nat) : Int)) = true := beq_iff_eq.mpr (by rw [List.length_cons]; (first | lia | omega))
        have e : lastO ks.items[i + 1]? = ((1 + (i : Int) + 1 == (((Value.str (chS c) t :: us).length : Nat) : Int)) || true) := by rw [e0, eb]; rfl
        rw [e]
        exact Evp.orB (Evp.cmp (by exact rfl) (Evp.addI (by walk_at "ev") (by walk_at "ev")) (Evp.lenL ok (by exact rfl) ns_len (by exact rfl) (by exact rfl) (D := G) (by walk_at "ev") h7' (by rw [List.length_cons]; (first | lia | omega))) .eqI) fun h => by rw [eb] at h; cases h
      · have eb : (1 + (i : Int) + 1 == (((Value.str (chS c) t :: us).length : Nat) : Int)) = false := beq_eq_false_iff_ne.mpr (by rw [List.length_cons]; (first | lia | omega))
        obtain ⟨v', hv'⟩ : ∃ v, us[i + 1]? = some v := ⟨us[i + 1]'(by (first | lia | omega)), List.getElem?_eq_getElem _⟩
        obtain ⟨it', hit', hrep'⟩ := h8.at hv'
        rw [hit']
        cases hrep' with
        | @word ia' x' t1' u1' v1' way' gap' hm' =>
          have e : lastO (some (It.word x' way' gap')) = ((1 + (i : Int) + 1 == (((Value.str (chS c) t :: us).length : Nat) : Int)) || false) := by rw [eb]; rfl
          rw [e]
          exact Evp.orB (Evp.cmp (by exact rfl) (Evp.addI (by walk_at "ev") (by walk_at "ev")) (Evp.lenL ok (by exact rfl) ns_len (by exact rfl) (by exact rfl) (D := G) (by walk_at "ev") h7' (by rw [List.length_cons]; (first | lia | omega))) .eqI) fun _ => Evp.isList ok (by exact rfl) (by exact rfl) (by exact rfl) (by exact rfl) (D := ia') (item_w (i := i + 1) ok.hk h7' (by (first | lia | omega)) (by walk_at "lk") hv' (ek ▸ Evp.addI (by walk_at "ev") (by walk_at "ev")) (by intro k u; exact rfl) ⟨rfl, Kp.rfl⟩) (List.mem_append_left _ hm') (T := "tuple") rfl (fun _ => kitx_tuple) kit_tl
        | @grp ia' c1' t1' k1' us1' kids' hm' _ =>
          have e : lastO (some (It.grp c1' kids')) = ((1 + (i : Int) + 1 == (((Value.str (chS c) t :: us).length : Nat) : Int)) || true) := by rw [eb]; rfl
          rw [e]
          exact Evp.orB (Evp.cmp (by exact rfl) (Evp.addI (by walk_at "ev") (by walk_at "ev")) (Evp.lenL ok (by exact rfl) ns_len (by exact rfl) (by exact rfl) (D := G) (by walk_at "ev") h7' (by rw [List.length_cons]; (first | lia | omega))) .eqI) fun _ => Evp.isList ok (by exact rfl) (by exact rfl) (by exact rfl) (by exact rfl) (D := ia') (item_w (i := i + 1) ok.hk h7' (by (first | lia | omega)) (by walk_at "lk") hv' (ek ▸ Evp.addI (by walk_at "ev") (by walk_at "ev")) (by intro k u; exact rfl) ⟨rfl, Kp.rfl⟩) (List.mem_append_left _ hm') (T := "list") rfl (fun _ => kitx_list) kit_ll
    cases fl
    have hgl : gap.toNat < gp.length := by
      have := congrArg List.length egp
      rw [List.length_map] at this
      have h4 : gap.toNat < 4 := by have := hgk.2; have := hgk.1; (first | lia | omega)
      rw [this]; exact h4
    obtain ⟨q1, hq1⟩ : ∃ q, gp[gap.toNat]? = some q := ⟨_, List.getElem?_eq_getElem hgl⟩
    have hq2 : q1.1 = gapF gap := by
      have h5 : (gp.map (·.1))[gap.toNat]? = some q1.1 := by rw [List.getElem?_map, hq1]; rfl
      rw [egp] at h5
      unfold gapF
      rw [List.getD_eq_getElem?_getD, h5]; rfl
    have hgi : (strValues gp)[gap.toNat]? = some (.str (gapF gap) q1.2) := by
      unfold strValues
      rw [List.getElem?_map, hq1, ← hq2]; rfl
    have hwt : T ++ It.wrt ks.items[i + 1]? (It.word x way gap) = T ++ spellF x way ++ (if lastO ks.items[i + 1]? = true ∧ gap < 2 then Str.ofString "" else gapF gap) := (str_assoc ..).symm
    rw [hwt] at hl2 fin
    clear hwt
    rw [str_app] at hl2
    refine Sts.asgp ok.hk (by exact rfl) (by exact rfl) (p := .str (T ++ spellF x way ++ (if lastO ks.items[i + 1]? = true ∧ gap < 2 then Str.ofString "" else gapF gap))) (Evp.addS rfl (Evp.addS rfl (by walk_at "ev") (Eve.own ok ns_spell (by exact rfl) (by decide) keep853 (by exact rfl) (by exact rfl) (by exact rfl) (Sq.consp (p := .str x) (by exact rfl) (by walk_at "ev") fun v1 f1 => Sq.consp (p := .int way) (by exact rfl) (by walk_at "ev") fun v2 f2 => Sq.nil ?_)) ?_) (Eve.ifp (Tsp.and2 (Tsp.nm (by intro w; exact rfl) (b := lastO ks.items[i + 1]?) (by walk_at "ev")) fun _ => Tsp.cmp (by exact rfl) (p1 := .int gap) (p2 := .int 2) (by walk_at "ev") (by walk_at "ev") .ltI) (fun h => ?_) fun h => ?_) ?_) fun vt ft => ?_
    · obtain ⟨u2, rfl⟩ := f1
      obtain ⟨u3, rfl⟩ := f2
      refine Cm.ctr ok (spell_c p.w x u2 way u3 hxl) hnd hnu trivial ?_
      rintro v n' ⟨⟨t2, rfl⟩, rfl⟩
      exact ⟨⟨t2, rfl⟩, Kp.rfl⟩
    · have := spellF_len (way := way) hxl; (first | lia | omega)
    · rw [if_pos (by rw [Bool.and_eq_true] at h; exact ⟨h.1, of_decide_eq_true h.2⟩)]
      exact Evp.str
    · rw [if_neg (fun e => by rw [e.1, Bool.true_and] at h; exact of_decide_eq_false h e.2)]
      refine Evp.sub (p1 := .ref GP) (p2 := .int gap) (by walk_at "ev") (by walk_at "ev") fun a b fa fb => ?_
      cases fa
      obtain ⟨u2, rfl⟩ := fb
      exact Cm.item (List.mem_append_left _ hgp) (by rw [strVal_len]; have := congrArg List.length egp; rw [List.length_map] at this; rw [this]; decide) hgk.1 hgi (by intro k u; exact rfl) ⟨⟨q1.2, rfl⟩, Kp.rfl⟩
    · (first | lia | omega)
    · obtain ⟨t2, rfl⟩ := ft
      exact Sts.pop (Sts.nil (fin _ _ t2 Kp.rfl (by walk_at "lk") (by walk_at "lk") (by walk_at "lk")))
  | @grp ia c1 t1 k1 us1 kids hm hk1 =>
    have hmi : (ia, listOf (.str (chS c1) t1 :: us1).toArray k1) ∈ n ++ own := List.mem_append_left _ hm
    have hdep := grp_depth hmem
    have hsz := grp_size hmem
    obtain ⟨d', rfl, hC, hn1, hn2⟩ : ∃ d', d = d' + 1 ∧ WrC p.w d' ∧ 20 + 2 * d' ≤ nd ∧ 300 + 10 * d' ≤ nu := by
      rcases hd with rfl | h
      · (first | lia | omega)
      · exact h
    refine Sts.ifp (Tst.isList (b := true) ok (by exact rfl) (by exact rfl) (by exact rfl) (by exact rfl) (by intro whole; exact rfl) (D := ia) (item_w ok.hk h7' (by (first | lia | omega)) (by walk_at "lk") hv (by walk_at "ev") (by intro k u; exact rfl) ⟨rfl, Kp.rfl⟩) hmi (T := "list") rfl (fun _ => kitx_list) kit_ll) (fun _ => ?_) fun h => by cases h
    refine Sts.asgp ok.hk (by exact rfl) (by exact rfl) (p := .str (T ++ (chS c1 ++ kids.wrt ++ closeS c1))) (Evp.addS rfl (by walk_at "ev") (Eve.own ok ns_wrt (by exact rfl) (by decide) keep860 (by exact rfl) (by exact rfl) (by exact rfl) (Sq.consp (p := .ref ia) (by exact rfl) (item_w ok.hk h7' (by (first | lia | omega)) (by walk_at "lk") hv (by walk_at "ev") (by intro k u; exact rfl) ⟨rfl, Kp.rfl⟩) fun v1 f1 => Sq.nil ?_)) ?_) fun vt ft => ?_
    · cases f1
      refine Cm.ctr ok (hC kids ia c1 t1 k1 us1 (n ++ own) (by (first | lia | omega)) (by (first | lia | omega)) (fun x hx => h3 x (grp_words hmem x hx)) (gok_it h4 _ hmem) hmi (hk1.mono fun p hp => List.mem_append_left _ hp)) hn1 hn2 rfl ?_
      rintro v n' ⟨⟨t2, rfl⟩, rfl⟩
      exact ⟨⟨t2, rfl⟩, Kp.rfl⟩
    · rw [← str_app]; exact Nat.le_trans hl2 (by decide)
    · obtain ⟨t2, rfl⟩ := ft
      exact Sts.pop (Sts.nil (fin _ _ t2 Kp.rfl (by walk_at "lk") (by walk_at "lk") (by walk_at "lk")))
theorem wr_sx {p : Pl} {nd nu d : Nat} (ok : (wrC p).Ok nd nu) (hd : d = 0 ∨ ∃ d', d = d' + 1 ∧ WrC p.w d' ∧ 20 + 2 * d' ≤ nd ∧ 300 + 10 * d' ≤ nu) (hnd : 10 ≤ nd) (hnu : 200 ≤ nu) {ks : Ks} {G : Addr} {c : Nat} {t : Tok} {kg : Nat} {us : List Value} {r : Led} {m : Mp}
    (h1 : ks.depth ≤ d) (h2 : ks.size ≤ 30) (h3 : ∀ x ∈ ks.words, x.length ≤ 60) (h4 : ks.gok) (h7 : (G, listOf (.str (chS c) t :: us).toArray kg) ∈ r) (h8 : RepK r us ks) (hg : m (Str.ofString "group") = some (.ref G)) :
    Sts (wrC p) (RtS (chS c ++ ks.wrt ++ closeS c) r) m r b44 [] := by
  have hul := h8.len
  refine Sts.asg ok.hk (by exact rfl) (by exact rfl) (R := fun v n' => ∃ GP gp, v = .ref GP ∧ gp.map (·.1) = [Str.ofString " ", Str.ofString "\n\t", Str.ofString " # ])('\n", Str.ofString "\r "] ∧ n' = (GP, listOf (strValues gp).toArray 0) :: r) (Eve.list (R1 := fun vs n' => ∃ gp, vs = strValues gp ∧ gp.map (·.1) = [Str.ofString " ", Str.ofString "\n\t", Str.ofString " # ])('\n", Str.ofString "\r "] ∧ n' = r) ?_ ?_) ?_
  · refine Sq.consp (by exact rfl) Evp.str fun v1 f1 => Sq.consp (by exact rfl) Evp.str fun v2 f2 => Sq.consp (by exact rfl) Evp.str fun v3 f3 => Sq.consp (by exact rfl) Evp.str fun v4 f4 => Sq.nil ?_
    obtain ⟨t1, rfl⟩ := f1
    obtain ⟨t2, rfl⟩ := f2
    obtain ⟨t3, rfl⟩ := f3
    obtain ⟨t4, rfl⟩ := f4
    exact ⟨[(_, t1), (_, t2), (_, t3), (_, t4)], rfl, rfl, rfl⟩
  · rintro _ n1 ⟨gp, rfl, eg, rfl⟩
    refine ⟨by rw [strVal_len]; have := congrArg List.length eg; rw [List.length_map] at this; rw [this]; decide, fun D _ => ⟨D, gp, rfl, eg, rfl⟩⟩
  rintro _ _ ⟨GP, gp, rfl, eg, rfl⟩
  generalize hn : (GP, listOf (strValues gp).toArray 0) :: r = n
  have hgp : (GP, listOf (strValues gp).toArray 0) ∈ n := by rw [← hn]; exact .head _
  have h7n : (G, listOf (.str (chS c) t :: us).toArray kg) ∈ n := by rw [← hn]; exact .tail _ h7
  have hrn : Kp r n := by rw [← hn]; exact Kp.cons
  have h8n := h8.mono hrn
  refine Sts.asgp ok.hk (by exact rfl) (by exact rfl) (p := .str (chS c)) (Evp.sub (p1 := .ref G) (p2 := .int 0) (by walk_at "ev") (by walk_at "ev") fun a b fa fb => ?_) fun vt ft => ?_
  · cases fa
    obtain ⟨u2, rfl⟩ := fb
    exact Cm.item h7n (by rw [List.length_cons]; (first | lia | omega)) (by decide) rfl (by intro k u; exact rfl) ⟨⟨t, rfl⟩, Kp.rfl⟩
  obtain ⟨tt, rfl⟩ := ft
  refine Sts.for (by exact rfl) (by exact rfl) (fun _ => by exact rfl) (R := fun v n' => ∃ RG t1 t2 t3, v = .ref RG ∧ (∀ p ∈ n, p.1 < RG) ∧ n' = (RG, rangeO 1 ((us.length : Int) + 1) t1 t2 t3) :: n) (Eve.callT (id := "range") (Eve.boot ok ns_range PyProof.Rows.boot_range (by decide) (by exact rfl) (by decide) ⟨rfl, rfl⟩) (by exact rfl) ?_ ?_) ?_
  · exact fun E s Q h => PyProof.Rows.callWith_type1 h (by exact rfl) (by exact rfl)
  · refine Sq.consp (p := .int 1) (by exact rfl) (by walk_at "ev") fun v1 f1 => Sq.consp (p := .int ((us.length : Int) + 1)) (by exact rfl) (Evp.lenL ok (by exact rfl) ns_len (by exact rfl) (by exact rfl) (D := G) (by walk_at "ev") h7n (by rw [List.length_cons]; (first | lia | omega))) fun v2 f2 => Sq.nil ?_
    obtain ⟨t1, rfl⟩ := f1
    obtain ⟨t2, rfl⟩ := f2
    exact Cm.range fun D v lt => ⟨D, t1, t2, v, rfl, lt, rfl⟩
  rintro _ _ ⟨RG, t1, t2, t3, rfl, ltR, rfl⟩
  clear ltR
  generalize hn2 : (RG, rangeO 1 ((us.length : Int) + 1) t1 t2 t3) :: n = n2
  have hnn : Kp n n2 := by rw [← hn2]; exact Kp.cons
  have hrg : (RG, rangeO 1 ((us.length : Int) + 1) t1 t2 t3) ∈ n2 := by rw [← hn2]; exact .head _
  have h7m := hnn _ h7n
  have h8m := h8n.mono hnn
  have hgm := hnn _ hgp
  have hrm : Kp r n2 := hrn.trans hnn
  clear hn hn2 hnn hrn h7n h8n hgp
  have hX : (chS c ++ ks.wrt).length ≤ 30000 := by
    have := wrt_len ks h3
    rw [str_app]
    have b : (chS c).length = 1 := rfl
    (first | lia | omega)
  refine ForAt.range (k := us.length) ok.hh rfl hrg rfl (by (first | lia | omega)) (WrJ G GP c (pcs ks.items) n2) ⟨by walk_at "lk", by walk_at "lk", ⟨tt, by walk_at "lk"⟩, rfl⟩ ?_ ?_
  · rintro i tk m1 n1 own I hi ⟨e1, e2, e3, rfl⟩ hown hI _
    exact Sts.mono (wr_turn (X := chS c ++ ks.wrt ++ closeS c) ok hd hnd hnu h1 h2 h3 h4 h7m h8m hgm eg hi e1 e2 e3 hI) fun f m' n' h => by
      cases f with
      | ret v => obtain ⟨t, e, k⟩ := h; exact ⟨t, e, fun p hp => k p (hrm p hp)⟩
      | brk => exact h
      | next => exact h
      | cont => exact h
  · rintro m1 n1 ⟨e1, e2, ⟨t4, e3⟩, rfl⟩
    rw [List.take_of_length_le (by rw [pcs_len, h8.items_len]; exact Nat.le_refl _), fold_app, pcs_wrt] at e3
    refine Sts.ret (R := Is (.str (chS c ++ ks.wrt ++ closeS c)) n1) (Evp.addS rfl (by walk_at "ev") (Eve.ifp (c := chS c == Str.ofString "(") (Tsp.cmp (by exact rfl) (p1 := .str (chS c)) (p2 := .str (Str.ofString "(")) (Evp.sub (p1 := .ref G) (p2 := .int 0) (by walk_at "ev") (by walk_at "ev") fun a b fa fb => ?_) (by walk_at "ev") .eqS) (fun h => ?_) fun h => ?_) ?_) fun v n' e => ?_
    · cases fa
      obtain ⟨u2, rfl⟩ := fb
      exact Cm.item h7m (by rw [List.length_cons]; (first | lia | omega)) (by decide) rfl (by intro k u; exact rfl) ⟨⟨t, rfl⟩, Kp.rfl⟩
    · have : closeS c = Str.ofString ")" := if_pos (beq_iff_eq.mp h)
      rw [this]; exact Evp.str
    · have : closeS c = Str.ofString "]" := if_neg (fun e => by rw [e] at h; exact absurd h (by decide))
      rw [this]; exact Evp.str
    · have := closeS_len c; (first | lia | omega)
    · obtain ⟨⟨t5, rfl⟩, k⟩ := e
      exact ⟨t5, rfl, fun p hp => k p (hrm p hp)⟩
theorem wr_step (w : World) (d : Nat) (hdd : d = 0 ∨ ∃ d', d = d' + 1 ∧ WrC w d') {ks : Ks} {G : Addr} {c : Nat} {t : Tok} {kg : Nat} {us : List Value} {r : Led}
    (h1 : ks.depth ≤ d) (h2 : ks.size ≤ 30) (h3 : ∀ x ∈ ks.words, x.length ≤ 60) (h4 : ks.gok) (h7 : (G, listOf (.str (chS c) t :: us).toArray kg) ∈ r) (h8 : RepK r us ks) :
    Ctr w 860 (20 + 2 * d) (300 + 10 * d) [.ref G] (fun l => l = r) (fun l v l' => (∃ t, v = .str (chS c ++ ks.wrt ++ closeS c) t) ∧ l' = l) := by
  intro dp un gd cn cs a ccd cl outer A₀ base h₀ L m news s mg mb mean Q E B F X N T0 hk hd hu hpre ret
  subst hpre
  obtain ⟨sh, sg, sd, stk, so⟩ := s
  dsimp only at F N ret
  refine wpAny_call ?_
  k_dflt (refine' code_def (binds := [(Str.ofString "group", .ref G)]) B F X N T0 ?kA ?kF ?kK ?k6 ?k7 ?k8 ?k9 ?kB ?_ ?c2 ?c3 ?c4 ?c5; (case kA => exact rfl); (case kF => exact rfl); (case kK => assumption); (case k6 => k_is); (case k7 => k_is); (case k8 => ktr_room); (case k9 => exact BindsTo.of_eq rfl); (case c5 => decide); (case kB => exact locs rfl); (case c2 => exact rfl); (case c3 => exact rfl); (case c4 => exact rfl); k_whole; intro g' L' h' FG' F' N' B' X' T'; (try dsimp only); (try k_fold))
  have hE : PassesOwn (model pw w) (ktrTop (dp + 1) (un + 3) gd (Str.ofString "_law_written") c44 L' 860 (.ref 859) [] (envX cn cs L a ccd cl :: outer)) (wrC ⟨w, ktrTop (dp + 1) (un + 3) gd (Str.ofString "_law_written") c44 L' 860 (.ref 859) [] (envX cn cs L a ccd cl :: outer), L', 860, .ref 859, g'⟩).env ek := by passes_own
  have hdp : (ktrTop dp un gd cn cs L a ccd cl outer).depth = dp := rfl
  have hun : (ktrTop dp un gd cn cs L a ccd cl outer).units = un := rfl
  refine wr_sx (p := ⟨w, ktrTop (dp + 1) (un + 3) gd (Str.ofString "_law_written") c44 L' 860 (.ref 859) [] (envX cn cs L a ccd cl :: outer), L', 860, .ref 859, g'⟩) (Cx.ok (nd := 19 + 2 * d) (nu := 297 + 10 * d) B' X' T' (by exact rfl) (by (first | lia | omega)) (by (first | lia | omega))) (d := d) ?_ (by (first | lia | omega)) (by (first | lia | omega)) h1 h2 h3 h4 h7 h8 (by exact rfl) hE (Nat.zero_le _) F' N' ?_
  · rcases hdd with h | ⟨d', rfl, ih⟩
    · exact .inl h
    · exact .inr ⟨d', rfl, ih, by (first | lia | omega), by (first | lia | omega)⟩
  rintro f m' n' h2 tk ⟨t, rfl, kp⟩ F2 N2
  refine ⟨_, _, _, F2, N2, fun kF kN => ?_⟩
  exact ret _ tk h2 _ kF (news_sub kN kp) ⟨⟨t, rfl⟩, rfl⟩
theorem wr_c (w : World) : ∀ d, WrC w d := by
  intro d
  induction d with
  | zero =>
    intro ks G c t kg us r h1 h2 h3 h4 h7 h8
    exact wr_step w 0 (.inl rfl) h1 h2 h3 h4 h7 h8
  | succ d' ih =>
    intro ks G c t kg us r h1 h2 h3 h4 h7 h8
    exact wr_step w (d' + 1) (.inr ⟨d', rfl, ih⟩) h1 h2 h3 h4 h7 h8
open PySem PySem.W PySem.Calls PyProof.Rows
noncomputable def Ks.snoc : Ks → It → Ks
  | .nil, .word x w g => .word x w g .nil
  | .nil, .grp c k => .grp c k .nil
  | .word x w g rest, it => .word x w g (rest.snoc it)
  | .grp c k rest, it => .grp c k (rest.snoc it)
abbrev Zp := List (Nat × Ks)
noncomputable def absI (i : Int) : Int := if i < 0 then -i else i
noncomputable def wordI (x : Int) : It := .word (wordF ((absI (x.fdiv 5)).fdiv 16)) ((absI (x.fdiv 5)).fmod 4) (((absI (x.fdiv 5)).fdiv 4).fmod 4)
noncomputable def zStep : Zp → Int → Zp
  | [], _ => []
  | (c, ks) :: up, x =>
    if x.fmod 5 < 2 ∧ up.length + 1 < 5 then (if x.fmod 5 = 0 then 40 else 91, .nil) :: (c, ks) :: up
    else if x.fmod 5 = 2 then match up with
      | (c', ks') :: up' => (c', ks'.snoc (.grp c ks)) :: up'
      | [] => [(c, ks.snoc (wordI x))]
    else (c, ks.snoc (wordI x)) :: up
noncomputable def closeAll : Nat × Ks → Zp → Nat × Ks
  | a, [] => a
  | (c, ks), (c', ks') :: up => closeAll (c', ks'.snoc (.grp c ks)) up
noncomputable def zWt : Zp → Nat
  | [] => 0
  | (_, ks) :: up => ks.size + 1 + zWt up
noncomputable def It.size : It → Nat
  | .word _ _ _ => 1
  | .grp _ k => k.size + 1
theorem snoc_size (ks : Ks) (it : It) : (ks.snoc it).size = ks.size + it.size := by
  induction ks with
  | nil => cases it with
    | word => rfl
    | grp c k => show k.size + 0 + 1 = 0 + (k.size + 1); (first | lia | omega)
  | word x w g rest ih => show (rest.snoc it).size + 1 = _; rw [ih, size_word]; (first | lia | omega)
  | grp c k rest _ ih => show k.size + (rest.snoc it).size + 1 = _; rw [ih, size_grp]; (first | lia | omega)
section
variable {c c' : Nat} {ks ks' : Ks} {up : Zp} {x : Int}
theorem zStep_push (h : x.fmod 5 < 2 ∧ up.length + 1 < 5) : zStep ((c, ks) :: up) x = (if x.fmod 5 = 0 then 40 else 91, .nil) :: (c, ks) :: up := if_pos h
theorem zStep_pop (h : ¬ (x.fmod 5 < 2 ∧ (up.length + 1) + 1 < 5)) (h2 : x.fmod 5 = 2) : zStep ((c, ks) :: (c', ks') :: up) x = (c', ks'.snoc (.grp c ks)) :: up := (if_neg h).trans (if_pos h2)
theorem zStep_one (h2 : x.fmod 5 = 2) : zStep [(c, ks)] x = [(c, ks.snoc (wordI x))] := (if_neg (by rw [h2]; exact fun h => absurd h.1 (by decide))).trans (if_pos h2)
theorem zStep_word (h : ¬ (x.fmod 5 < 2 ∧ up.length + 1 < 5)) (h2 : x.fmod 5 ≠ 2) : zStep ((c, ks) :: up) x = (c, ks.snoc (wordI x)) :: up := (if_neg h).trans (if_neg h2)
end
theorem zStep_cases {P : Zp → Prop} {c : Nat} {ks : Ks} {up : Zp} {x : Int} (h1 : x.fmod 5 < 2 ∧ up.length + 1 < 5 → P ((if x.fmod 5 = 0 then 40 else 91, .nil) :: (c, ks) :: up)) (h2 : P ((c, ks.snoc (wordI x)) :: up)) (h3 : ∀ c' ks' up', x.fmod 5 = 2 → up = (c', ks') :: up' → P ((c', ks'.snoc (.grp c ks)) :: up')) : P (zStep ((c, ks) :: up) x) := by
  by_cases a : x.fmod 5 < 2 ∧ up.length + 1 < 5
  · rw [zStep_push a]; exact h1 a
  · by_cases b : x.fmod 5 = 2
    · cases up with
      | nil => rw [zStep_one b]; exact h2
      | cons y up' => obtain ⟨c', ks'⟩ := y; rw [zStep_pop a b]; exact h3 c' ks' up' b rfl
    · rw [zStep_word a b]; exact h2
theorem zStep_wt : ∀ (z : Zp) (x : Int), zWt (zStep z x) ≤ zWt z + 1
  | [], _ => Nat.zero_le _
  | (c, ks) :: up, x => by
    have hw : (wordI x).size = 1 := rfl
    refine zStep_cases (P := fun z => zWt z ≤ zWt ((c, ks) :: up) + 1) (fun _ => ?_) ?_ ?_
    · show 0 + 1 + (ks.size + 1 + zWt up) ≤ ks.size + 1 + zWt up + 1; (first | lia | omega)
    · show (ks.snoc (wordI x)).size + 1 + zWt up ≤ ks.size + 1 + zWt up + 1
      rw [snoc_size, hw]; (first | lia | omega)
    · rintro c' ks' up' _ rfl
      show (ks'.snoc (.grp c ks)).size + 1 + zWt up' ≤ ks.size + 1 + (ks'.size + 1 + zWt up') + 1
      rw [snoc_size]; show ks'.size + (ks.size + 1) + 1 + _ ≤ _; (first | lia | omega)
theorem zStep_ne : ∀ {z : Zp} (x : Int), z ≠ [] → zStep z x ≠ []
  | [], _, h => absurd rfl h
  | (c, ks) :: up, x, _ => zStep_cases (P := fun z => z ≠ []) (fun _ => List.cons_ne_nil _ _) (List.cons_ne_nil _ _) fun _ _ _ _ _ => List.cons_ne_nil _ _
theorem fold_wt : ∀ (xs : List Int) (z : Zp), zWt (xs.foldl zStep z) ≤ zWt z + xs.length
  | [], _ => Nat.le_refl _
  | x :: xs, z => by
    have := fold_wt xs (zStep z x)
    have := zStep_wt z x
    rw [List.foldl_cons, List.length_cons]; (first | lia | omega)
theorem fold_ne : ∀ (xs : List Int) {z : Zp}, z ≠ [] → xs.foldl zStep z ≠ []
  | [], _, h => h
  | x :: xs, _, h => fold_ne xs (zStep_ne x h)
/-- the open groups on the ledger, the innermost first; `lk` what hangs at the innermost -/
inductive ZR (r : Led) : List Value → Zp → List Addr → Led → Prop
  | nil {lk} : ZR r lk [] [] []
  | cons {lk a c t k vs ks up as l} : RepK r vs ks → ZR r [.ref a] up as l → ZR r lk ((c, ks) :: up) (a :: as) ((a, listOf (.str (chS c) t :: (vs ++ lk)).toArray k) :: l)
theorem ZR.mono {r r' : Led} {lk : List Value} {z : Zp} {as : List Addr} {l : Led} (h : ZR r lk z as l) (hs : Kp r r') : ZR r' lk z as l := by
  induction h with
  | nil => exact .nil
  | cons h1 _ ih => exact .cons (h1.mono hs) ih
theorem RepK.snoc {r : Led} {vs : List Value} {ks : Ks} {v : Value} {it : It} (h : RepK r vs ks) (hi : RepI r v it) : RepK r (vs ++ [v]) (ks.snoc it) := by
  induction h with
  | nil => cases hi with
    | word hm => exact .word hm .nil
    | grp hm hk => exact .grp hm hk .nil
  | word hm _ ih => exact .word hm ih
  | grp hm hk _ _ ih => exact .grp hm hk ih
/-- all closed -/
theorem ZR.close : ∀ {up : Zp} {r : Led} {c : Nat} {ks : Ks} {as : List Addr} {l : Led} {a TOP : Addr}, ZR r [] ((c, ks) :: up) (a :: as) l → (a :: as).getLast? = some TOP →
    ∃ t k us, (TOP, listOf (.str (chS (closeAll (c, ks) up).1) t :: us).toArray k) ∈ l ++ r ∧ RepK (l ++ r) us (closeAll (c, ks) up).2 := by
  intro up
  induction up with
  | nil =>
    intro r c ks as l a TOP h hl
    cases h with
    | @cons _ _ _ t k vs _ _ _ l' hv hz =>
      cases hz
      cases hl
      exact ⟨t, k, vs, by rw [List.append_nil]; exact .head _, hv.mono fun p hp => List.mem_append_right _ hp⟩
  | cons y up ih =>
    intro r c ks as l a TOP h hl
    obtain ⟨c', ks'⟩ := y
    cases h with
    | @cons _ _ _ t k vs _ _ as' l' hv hz =>
      cases hz with
      | @cons _ a' _ t' k' vs' _ _ as2 l2 hv' hz' =>
        rw [List.append_nil]
        have hK : Kp r ((a, listOf (.str (chS c) t :: vs).toArray k) :: r) := Kp.cons
        have h2 : ZR ((a, listOf (.str (chS c) t :: vs).toArray k) :: r) [] ((c', ks'.snoc (.grp c ks)) :: up) (a' :: as2) ((a', listOf (.str (chS c') t' :: ((vs' ++ [.ref a]) ++ [])).toArray k') :: l2) :=
          .cons ((hv'.mono hK).snoc (.grp (.head _) (hv.mono hK))) (hz'.mono hK)
        obtain ⟨t3, k3, us, hm, hr⟩ := ih h2 hl
        rw [List.append_nil] at hm hr
        have hp : Kp (((a', listOf (.str (chS c') t' :: (vs' ++ [.ref a])).toArray k') :: l2) ++ ((a, listOf (.str (chS c) t :: vs).toArray k) :: r)) ((a, listOf (.str (chS c) t :: vs).toArray k) :: ((a', listOf (.str (chS c') t' :: (vs' ++ [.ref a])).toArray k') :: l2) ++ r) := fun p hp => by
          simp only [List.cons_append, List.mem_cons, List.mem_append] at hp ⊢
          rcases hp with h | h | h | h
          · exact .inr (.inl h)
          · exact .inr (.inr (.inl h))
          · exact .inl h
          · exact .inr (.inr (.inr h))
        exact ⟨t3, k3, us, hp _ hm, hr.mono hp⟩
theorem fill24 : PySem.Challenge.rw_kl0186_01 = PySem.Challenge.rw_kl0186_01 ∧ K = K := by
  w_on
  k_fill
  exact ⟨rfl, rfl⟩
theorem ns_word {P : Params} : nsIn (K P) mainGlobals (Str.ofString "_law_word") = some (some (.ref 841)) := by kernel_rfl
theorem keep841 {P : Params} : keepIn (K P) (.ref 841) = true := by kernel_rfl
section
variable {C : Cx} {m : Mp} {n : Led} {R : Value → Led → Prop}
theorem Evp.brk {a b : Expr} {op : Operator} {k : Nat} {p1 p2 p3 : Pos} {j : Int} (h : Evp C m n (.BinOp a op b p2) (.int j)) (hj : j = 0 ∨ j = 1) : Evp C m n (.Subscript (.Constant (.str (Str.ofString "([")) k p1) (.BinOp a op b p2) p3) (.str (chS (if j = 0 then 40 else 91))) :=
  Evp.sub Evp.str h fun v w fv fw => by
    obtain ⟨t, rfl⟩ := fv
    obtain ⟨u, rfl⟩ := fw
    intro E s Q h0 F N q
    refine tail_any (typeIs_str s _ t) PySem.F.slot_str_getitem.lookup (ops := [.str (Str.ofString "([") t, .int j u]) ?_ (by exact rfl)
    rcases hj with rfl | rfl
    · exact SB.getItem (by decide) (by decide) (q _ n s.heap _ (by show C.lo ≤ s.toks + 1; (first | lia | omega)) ⟨⟨_, rfl⟩, Kp.rfl⟩ F N)
    · exact SB.getItem (by decide) (by decide) (q _ n s.heap _ (by show C.lo ≤ s.toks + 1; (first | lia | omega)) ⟨⟨_, rfl⟩, Kp.rfl⟩ F N)
theorem Evp.abs {nd nu : Nat} (ok : C.Ok nd nu) {e : Expr} {fp pos : Pos} {i : Int} (hx : C.env.kindOf (Str.ofString "abs") = some .globalImplicit) (hcall : eval (.Call (.Name (Str.ofString "abs") fp) [e] [] pos) C.env = (do callWith pos (← eval (.Name (Str.ofString "abs") fp) C.env) [] (backTo pos (starEach [e] C.env)) (backToKw pos (keywordEach [] C.env))))
    (he : starEach [e] C.env = [(false, eval e C.env)]) (h1 : Evp C m n e (.int i)) : Evp C m n (.Call (.Name (Str.ofString "abs") fp) [e] [] pos) (.int (absI i)) :=
  Eve.callB (Eve.boot ok ns_abs boot_abs (by decide) hx (by decide) ⟨rfl, rfl⟩) hcall (by rw [he]; rfl) (by rfl) (Sq.consp (by rw [he]; rfl) h1 fun v fv => Sq.nil (by obtain ⟨t, rfl⟩ := fv; exact Cm.absI ok.lo fun t => ⟨⟨t, rfl⟩, Kp.rfl⟩))
end
noncomputable abbrev trC (p : Pl) : Cx := ⟨p.w, p.A, Str.ofString "_law_tree", c42, p.L, p.a, p.cd, p.h₀, 0⟩
/-- the loop's word -/
def ZJ (n : Led) (z : Zp) (TOP : Addr) (m : Mp) (nx : Led) : Prop :=
  ∃ (ST : Addr) (k : Nat) (as : List Addr) (l r : Led), ZR r [] z as l ∧ as.getLast? = some TOP ∧ m (Str.ofString "top") = some (.ref TOP) ∧ m (Str.ofString "stack") = some (.ref ST) ∧ (∀ p ∈ l ++ r, p.1 ≠ ST) ∧ (l.map (·.1)).Nodup ∧ (∀ p ∈ l, ∀ q ∈ r, q.1 ≠ p.1) ∧ Kp n r ∧ nx = (ST, listOf (as.reverse.map Value.ref).toArray k) :: (l ++ r)
theorem ZR.len {r : Led} {lk : List Value} {z : Zp} {as : List Addr} {l : Led} (h : ZR r lk z as l) : as.length = z.length ∧ l.map (·.1) = as := by
  induction h with
  | nil => exact ⟨rfl, rfl⟩
  | cons _ _ ih => exact ⟨congrArg Nat.succ ih.1, congrArg (List.cons _) ih.2⟩
noncomputable def trBody : List Stmt := forBody (b42.getD 2 (.Pass p0))
theorem tr_turn {p : Pl} {nd nu : Nat} (ok : (trC p).Ok nd nu) (hnd : 50 ≤ nd) (hnu : 500 ≤ nu) {P : Flow → Mp → Led → Prop} {n own : Led} {z : Zp} {TOP SL I : Addr} {oS : Obj} {m1 : Mp} {nx : Led} {x : Int} {t : Tok} (hz : z ≠ []) (hw : zWt z ≤ 1000) (hJ : ZJ n z TOP m1 nx) (hSL : (SL, oS) ∈ n) (hown : ∀ p ∈ own, p.1 = I ∨ p.1 = SL) (hI : ∀ p ∈ nx, p.1 ≠ I) (hIo : ∃ o, (I, o) ∈ own) :
    Sts (trC p) (TP P (fun m' nx => ZJ n (zStep z x) TOP m' nx) I own) (fun y => if y = Str.ofString "x" then some (.int x t) else m1 y) (nx ++ own) trBody [] := by
  obtain ⟨ST, k, as, l, r, hzr, hl, mt, ms, dST, dnd, dlr, kr, rfl⟩ := hJ
  cases hzr with
  | nil => exact absurd rfl hz
  | @cons _ a c t0 ka vs ks up as' l' hv hup =>
  obtain ⟨hlen, hmap⟩ := hup.len
  have hul : as'.length + 1 ≤ 1000 := by
    have : ∀ z : Zp, z.length ≤ zWt z := fun z => by
      induction z with
      | nil => exact Nat.le_refl _
      | cons y z ih => obtain ⟨c, ks⟩ := y; show z.length + 1 ≤ ks.size + 1 + zWt z; (first | lia | omega)
    have h := this up
    have h2 : zWt ((c, ks) :: up) = ks.size + 1 + zWt up := rfl
    (first | lia | omega)
  have hvl : vs.length ≤ 1000 := by
    have h := hv.len
    have h2 : zWt ((c, ks) :: up) = ks.size + 1 + zWt up := rfl
    (first | lia | omega)
  rw [List.append_nil] at *
  have eST : ((a :: as').reverse.map Value.ref) = (as'.reverse.map Value.ref) ++ [.ref a] := by rw [List.reverse_cons, List.map_append]; rfl
  -- apart
  have aST : a ≠ ST := dST (a, _) (.head _)
  have al : ∀ p ∈ l', p.1 ≠ a := fun p hp e => by
    have := List.nodup_cons.mp dnd
    exact this.1 (List.mem_map.mpr ⟨p, hp, e⟩)
  have ar : ∀ q ∈ r, q.1 ≠ a := fun q hq => dlr (a, _) (.head _) q hq
  have ao : ∀ p ∈ own, p.1 ≠ a := fun p hp => by
    rcases hown p hp with e | e
    · rw [e]; exact Ne.symm (hI (a, _) (.tail _ (.head _)))
    · rw [e]; exact ar _ (kr _ hSL)
  have so : ∀ p ∈ own, p.1 ≠ ST := fun p hp => by
    rcases hown p hp with e | e
    · rw [e]; exact Ne.symm (hI (ST, _) (.head _))
    · rw [e]; exact dST _ (List.mem_append_right _ (kr _ hSL))
  obtain ⟨oI, hIo⟩ := hIo
  have iST : ST ≠ I := hI (ST, _) (.head _)
  have ia : a ≠ I := hI (a, _) (.tail _ (.head _))
  have ilr : ∀ p ∈ l' ++ r, p.1 ≠ I := fun p hp => hI p (.tail _ (.tail _ hp))
  generalize hm0 : (fun y => if y = Str.ofString "x" then some (Value.int x t) else m1 y) = m0
  have mx : m0 (Str.ofString "x") = some (.int x t) := by rw [← hm0]; exact if_pos rfl
  have mt0 : m0 (Str.ofString "top") = some (.ref TOP) := by rw [← hm0]; walk_at "lk"
  have ms0 : m0 (Str.ofString "stack") = some (.ref ST) := by rw [← hm0]; walk_at "lk"
  clear hm0 mt ms m1
  show Sts (trC p) _ m0 ((ST, _) :: ((a, _) :: (l' ++ r) ++ own)) _ _
  generalize hn0 : ((ST, listOf ((a :: as').reverse.map Value.ref).toArray k) :: ((a, listOf (.str (chS c) t0 :: vs).toArray ka) :: (l' ++ r) ++ own) : Led) = n0
  have h5 : (5 : Int) ≠ 0 := by decide
  refine Sts.asgp ok.hk (by exact rfl) (by exact rfl) (p := .int (absI (x.fdiv 5))) (Evp.abs ok (by exact rfl) (by exact rfl) (by exact rfl) (Evp.divI (by walk_at "ev") (by walk_at "ev") h5 (PyProof.noPylong_small (by decide)))) fun vy fy => ?_
  obtain ⟨ty, rfl⟩ := fy
  have hstk : (ST, listOf ((as'.reverse.map Value.ref) ++ [Value.ref a]).toArray k) ∈ n0 := by rw [← hn0, ← eST]; exact .head _
  have ha0 : (a, listOf (.str (chS c) t0 :: vs).toArray ka) ∈ n0 := by rw [← hn0]; exact .tail _ (.head _)
  have hsl : (((as'.reverse.map Value.ref) ++ [Value.ref a]).length : Int) = ((up.length + 1 : Nat) : Int) := by rw [List.length_append, List.length_map, List.length_reverse, hlen]; rfl
  have hsl1 : (as'.reverse.map Value.ref).length ≤ 1000 := by rw [List.length_map, List.length_reverse]; (first | lia | omega)
  refine Sts.ifp (Tsp.and2 (Tsp.cmp (by exact rfl) (Evp.modI (by walk_at "ev") (by walk_at "ev") h5) (by walk_at "ev") .ltI) fun _ => Tsp.cmp (by exact rfl) (Evp.lenL ok (by exact rfl) ns_len (by exact rfl) (by exact rfl) (D := ST) (by walk_at "ev") hstk (by rw [List.length_append]; show _ + 1 ≤ _; (first | lia | omega))) (by walk_at "ev") .ltI) (fun h => ?_) fun h => ?_
  · -- a group opens
    have h' : x.fmod 5 < 2 ∧ up.length + 1 < 5 := by
      rw [Bool.and_eq_true] at h
      have a := of_decide_eq_true h.1
      have b := of_decide_eq_true h.2
      rw [hsl] at b
      exact ⟨a, by (first | lia | omega)⟩
    have hx0 : 0 ≤ x.fmod 5 := Int.fmod_nonneg_of_pos _ (by decide)
    refine Sts.asg ok.hk (by exact rfl) (by exact rfl) (R := fun v n' => ∃ G tg, v = .ref G ∧ (∀ p ∈ n0, p.1 < G) ∧ n' = (G, listOf [Value.str (chS (if x.fmod 5 = 0 then 40 else 91)) tg].toArray 0) :: n0) (Eve.list (R1 := fun vs n' => ∃ tg, vs = [Value.str (chS (if x.fmod 5 = 0 then 40 else 91)) tg] ∧ n' = n0) (Sq.consp (by exact rfl) (Evp.brk (Evp.modI (by walk_at "ev") (by walk_at "ev") h5) (by (first | lia | omega))) fun v fv => Sq.nil ?_) ?_) ?_
    · obtain ⟨tg, rfl⟩ := fv
      exact ⟨tg, rfl, rfl⟩
    · rintro _ _ ⟨tg, rfl, rfl⟩
      exact ⟨by show 1 ≤ 1000; decide, fun D lt => ⟨D, tg, rfl, lt, rfl⟩⟩
    rintro _ _ ⟨G, tg, rfl, ltG, rfl⟩
    rw [zStep_push h']
    generalize (if x.fmod 5 = 0 then 40 else 91) = cs at *
    have ltG' : ∀ p ∈ (ST, listOf ((a :: as').reverse.map Value.ref).toArray k) :: ((a, listOf (.str (chS c) t0 :: vs).toArray ka) :: (l' ++ r) ++ own), p.1 < G := by rw [hn0]; exact ltG
    have gST : G ≠ ST := Nat.ne_of_gt (ltG' _ (.head _))
    have ga : G ≠ a := Nat.ne_of_gt (ltG' _ (.tail _ (.head _)))
    have gl : ∀ p ∈ l' ++ r, p.1 ≠ G := fun p hp => Nat.ne_of_lt (ltG' p (.tail _ (.tail _ (List.mem_append_left _ hp))))
    have gI : G ≠ I := Nat.ne_of_gt (ltG' _ (.tail _ (.tail _ (List.mem_append_right _ hIo))))
    refine Sts.append (D := a) (vs := .str (chS c) t0 :: vs) (k := ka) (R1 := fun v n' => v = .ref G ∧ n' = (G, listOf [Value.str (chS cs) tg].toArray 0) :: n0) (by exact rfl) (by exact rfl) (by exact rfl) (by exact rfl) (by exact rfl) (by exact rfl) (Evp.lastL (D := ST) (vs := as'.reverse.map Value.ref) (x := .ref a) (by walk_at "ev") (.tail _ hstk) (by (first | lia | omega)) rfl (by intro k u; exact rfl)) (.tail _ ha0) (by rw [List.length_cons]; (first | lia | omega)) (Eve.loc ok.hk (by exact rfl) (by decide) (by walk_at "lk") ⟨rfl, rfl⟩) ?_
    rintro _ _ ⟨rfl, rfl⟩
    rw [← hn0]
    refine ⟨_, .tail ga (.tail (Ne.symm aST) (.head (fun p hp => ?_))), ?_⟩
    · have hp : p ∈ (l' ++ r) ++ own := hp
      simp only [List.mem_append] at hp
      rcases hp with (hp | hp) | hp
      · exact al p hp
      · exact ar p hp
      · exact ao p hp
    rw [eST]
    refine Sts.append (D := ST) (vs := as'.reverse.map Value.ref ++ [Value.ref a]) (k := k) (R1 := fun v n' => v = .ref G ∧ n' = (G, listOf [Value.str (chS cs) tg].toArray 0) :: (ST, listOf (as'.reverse.map Value.ref ++ [Value.ref a]).toArray k) :: (a, listOf (Value.str (chS c) t0 :: vs ++ [Value.ref G]).toArray (ka + 1)) :: (l' ++ r ++ own)) (by exact rfl) (by exact rfl) (by exact rfl) (by exact rfl) (by exact rfl) (by exact rfl) (by walk_at "ev") (.tail _ (.head _)) (by rw [List.length_append]; show _ + 1 ≤ _; (first | lia | omega)) (Eve.loc ok.hk (by exact rfl) (by decide) (by walk_at "lk") ⟨rfl, rfl⟩) ?_
    rintro _ _ ⟨rfl, rfl⟩
    refine ⟨_, .tail gST (.head (fun p hp => ?_)), Sts.pop (Sts.nil ⟨(ST, listOf ((G :: a :: as').reverse.map Value.ref).toArray (k + 1)) :: (((G, listOf (.str (chS cs) tg :: ([] ++ [])).toArray 0) :: (a, listOf (.str (chS c) t0 :: (vs ++ [.ref G])).toArray (ka + 1)) :: l') ++ r), ⟨ST, k + 1, G :: a :: as', (G, listOf (.str (chS cs) tg :: ([] ++ [])).toArray 0) :: (a, listOf (.str (chS c) t0 :: (vs ++ [.ref G])).toArray (ka + 1)) :: l', r, .cons .nil (.cons hv hup), hl, by walk_at "lk", by walk_at "lk", fun p hp => ?_, List.nodup_cons.mpr ⟨fun hm => ?_, dnd⟩, fun p hp q hq => ?_, kr, rfl⟩, fun p hp => ?_, fun p hp => ?_⟩)⟩
    · simp only [List.mem_cons, List.mem_append] at hp
      rcases hp with rfl | (hp | hp) | hp
      · exact aST
      · exact dST p (List.mem_append_left _ (.tail _ hp))
      · exact dST p (List.mem_append_right _ hp)
      · exact so p hp
    · simp only [List.cons_append, List.mem_cons, List.mem_append] at hp
      rcases hp with rfl | rfl | hp | hp
      · exact gST
      · exact aST
      · exact dST p (List.mem_append_left _ (.tail _ hp))
      · exact dST p (List.mem_append_right _ hp)
    · have hm' : G ∈ a :: l'.map (·.1) := hm
      rcases List.mem_cons.mp hm' with e | hm'
      · exact ga e
      · obtain ⟨p, hp, e⟩ := List.mem_map.mp hm'
        exact gl p (List.mem_append_left _ hp) e
    · rcases List.mem_cons.mp hp with rfl | hp
      · exact gl q (List.mem_append_right _ hq)
      · rcases List.mem_cons.mp hp with rfl | hp
        · exact ar q hq
        · exact dlr p (.tail _ hp) q hq
    · simp only [List.cons_append, List.mem_cons, List.mem_append] at hp
      rcases hp with rfl | rfl | rfl | hp | hp
      · exact iST
      · exact gI
      · exact ia
      · exact ilr p (List.mem_append_left _ hp)
      · exact ilr p (List.mem_append_right _ hp)
    · have e3 : (G :: a :: as').reverse.map Value.ref = as'.reverse.map Value.ref ++ [Value.ref a] ++ [Value.ref G] := by rw [List.reverse_cons, List.map_append, eST]; rfl
      rw [e3] at hp
      simp only [List.cons_append, List.mem_cons, List.mem_append, List.append_nil] at hp ⊢
      rcases hp with h | h | h | (h | h) | h
      · exact .inr (.inl h)
      · exact .inl h
      · exact .inr (.inr (.inl h))
      · exact .inr (.inr (.inr (.inl (.inl h))))
      · exact .inr (.inr (.inr (.inl (.inr h))))
      · exact .inr (.inr (.inr (.inr h)))
  have h1 : ¬ (x.fmod 5 < 2 ∧ up.length + 1 < 5) := by
    rintro ⟨e1, e2⟩
    rw [Bool.and_eq_false_iff] at h
    rcases h with h | h
    · exact of_decide_eq_false h e1
    · have := of_decide_eq_false h
      rw [hsl] at this
      (first | lia | omega)
  clear h
  refine Sts.ifp (Tsp.and2 (Tsp.cmp (by exact rfl) (Evp.modI (by walk_at "ev") (by walk_at "ev") h5) (by walk_at "ev") .eqI) fun _ => Tsp.cmp (by exact rfl) (Evp.lenL ok (by exact rfl) ns_len (by exact rfl) (by exact rfl) (D := ST) (by walk_at "ev") hstk (by rw [List.length_append]; show _ + 1 ≤ _; (first | lia | omega))) (by walk_at "ev") .gtI) (fun h => ?_) fun h => ?_
  · -- the innermost one closes
    have h' : x.fmod 5 = 2 ∧ 0 < up.length := by
      rw [Bool.and_eq_true] at h
      have a := beq_iff_eq.mp h.1
      have b := of_decide_eq_true h.2
      rw [hsl] at b
      exact ⟨a, by (first | lia | omega)⟩
    cases hup with
    | nil => exact absurd h'.2 (Nat.lt_irrefl 0)
    | @cons _ a' c' t' k' vs' ks' up' as2 l2 hv' hup' =>
    rw [zStep_pop h1 h'.1]
    have U : Upd ST (listOf ((a :: a' :: as2).reverse.map Value.ref).toArray k) (listOf ((a' :: as2).reverse.map Value.ref).toArray (k + 1)) n0 ((ST, listOf ((a' :: as2).reverse.map Value.ref).toArray (k + 1)) :: (((a, listOf (.str (chS c) t0 :: vs).toArray ka) :: (((a', listOf (.str (chS c') t' :: (vs' ++ [.ref a])).toArray k') :: l2) ++ r)) ++ own)) := by
      rw [← hn0]
      refine .head fun p hp => ?_
      have hp : p ∈ ((a, listOf (.str (chS c) t0 :: vs).toArray ka) :: (((a', listOf (.str (chS c') t' :: (vs' ++ [.ref a])).toArray k') :: l2) ++ r)) ++ own := hp
      rcases List.mem_append.mp hp with hp | hp
      · exact dST p hp
      · exact so p hp
    refine Sts.exprAny (R := fun n' => n' = (ST, listOf ((a' :: as2).reverse.map Value.ref).toArray (k + 1)) :: (((a, listOf (.str (chS c) t0 :: vs).toArray ka) :: (((a', listOf (.str (chS c') t' :: (vs' ++ [.ref a])).toArray k') :: l2) ++ r)) ++ own)) (by exact rfl) (by exact rfl) (Eve.meth0 (by exact rfl) (by exact rfl) (R1 := fun v n' => v = .ref ST ∧ n' = n0) (Eve.loc ok.hk (by exact rfl) (by decide) (by walk_at "lk") ⟨rfl, rfl⟩) ?_) ?_
    · rintro _ _ ⟨rfl, rfl⟩
      refine ⟨"list.pop", gm_list hstk PySem.F.slot_list_pop PySem.F.type_list_pop, ?_⟩
      rw [eST] at U
      exact Cm.pop U (by (first | lia | omega)) rfl
    · rintro _ rfl
      have hK : Kp r ((a, listOf (.str (chS c) t0 :: vs).toArray ka) :: r) := Kp.cons
      have nd2 := List.nodup_cons.mp dnd
      refine Sts.pop (Sts.pop (Sts.nil ⟨(ST, listOf ((a' :: as2).reverse.map Value.ref).toArray (k + 1)) :: (((a', listOf (.str (chS c') t' :: ((vs' ++ [.ref a]) ++ [])).toArray k') :: l2) ++ ((a, listOf (.str (chS c) t0 :: vs).toArray ka) :: r)), ⟨ST, k + 1, a' :: as2, (a', listOf (.str (chS c') t' :: ((vs' ++ [.ref a]) ++ [])).toArray k') :: l2, (a, listOf (.str (chS c) t0 :: vs).toArray ka) :: r, .cons ((hv'.mono hK).snoc (.grp (.head _) (hv.mono hK))) (hup'.mono hK), hl, by walk_at "lk", by walk_at "lk", fun p hp => ?_, nd2.2, fun p hp q hq => ?_, fun p hp => .tail _ (kr p hp), rfl⟩, fun p hp => ?_, fun p hp => ?_⟩))
      · simp only [List.cons_append, List.mem_cons, List.mem_append] at hp
        rcases hp with rfl | hp | rfl | hp
        · exact dST (a', listOf (.str (chS c') t' :: (vs' ++ [.ref a])).toArray k') (List.mem_append_left _ (.tail _ (.head _)))
        · exact dST p (List.mem_append_left _ (.tail _ (.tail _ hp)))
        · exact aST
        · exact dST p (List.mem_append_right _ hp)
      · rcases List.mem_cons.mp hq with rfl | hq
        · have h2 : p.1 ∈ a' :: l2.map (·.1) := by
            rcases List.mem_cons.mp hp with rfl | hp
            · exact .head _
            · exact .tail _ (List.mem_map_of_mem (f := Prod.fst) hp)
          exact fun e => nd2.1 (by have e' : a = p.1 := e; show a ∈ a' :: l2.map (·.1); rw [e']; exact h2)
        · rcases List.mem_cons.mp hp with rfl | hp
          · exact dlr (a', listOf (.str (chS c') t' :: (vs' ++ [.ref a])).toArray k') (.tail _ (.head _)) q hq
          · exact dlr p (.tail _ (.tail _ hp)) q hq
      · simp only [List.cons_append, List.mem_cons, List.mem_append] at hp
        rcases hp with rfl | rfl | hp | rfl | hp
        · exact iST
        · exact ilr (a', listOf (.str (chS c') t' :: (vs' ++ [.ref a])).toArray k') (List.mem_append_left _ (.head _))
        · exact ilr p (List.mem_append_left _ (.tail _ hp))
        · exact ia
        · exact ilr p (List.mem_append_right _ hp)
      · simp only [List.cons_append, List.mem_cons, List.mem_append, List.append_nil] at hp ⊢
        rcases hp with h | h | (h | h | h) | h
        · exact .inl h
        · exact .inr (.inr (.inl h))
        · exact .inr (.inr (.inr (.inl (.inl h))))
        · exact .inr (.inl h)
        · exact .inr (.inr (.inr (.inl (.inr h))))
        · exact .inr (.inr (.inr (.inr h)))
  · -- a word
    have hzs : zStep ((c, ks) :: up) x = (c, ks.snoc (wordI x)) :: up := by
      by_cases e : x.fmod 5 = 2
      · cases up with
        | nil => exact zStep_one e
        | cons y up' =>
          exfalso
          rw [Bool.and_eq_false_iff] at h
          rcases h with h | h
          · rw [e] at h; exact absurd h (by decide)
          · have := of_decide_eq_false h
            rw [hsl, List.length_cons] at this
            (first | lia | omega)
      · exact zStep_word h1 e
    rw [hzs]
    have hy0 : 0 ≤ absI (x.fdiv 5) := by unfold absI; split <;> (first | lia | omega)
    refine Sts.append (D := a) (vs := .str (chS c) t0 :: vs) (k := ka) (R1 := fun v n' => ∃ U t1 t2 t3, v = .ref U ∧ (∀ p ∈ n0, p.1 < U) ∧ n' = (U, tupO [.str (wordF ((absI (x.fdiv 5)).fdiv 16)) t1, .int ((absI (x.fdiv 5)).fmod 4) t2, .int (((absI (x.fdiv 5)).fdiv 4).fmod 4) t3]) :: n0) (by exact rfl) (by exact rfl) (by exact rfl) (by exact rfl) (by exact rfl) (by exact rfl) (Evp.lastL (D := ST) (vs := as'.reverse.map Value.ref) (x := .ref a) (by walk_at "ev") hstk (by (first | lia | omega)) rfl (by intro k u; exact rfl)) ha0 (by rw [List.length_cons]; (first | lia | omega)) (Eve.tuple (R1 := fun vs n' => ∃ t1 t2 t3, vs = [.str (wordF ((absI (x.fdiv 5)).fdiv 16)) t1, .int ((absI (x.fdiv 5)).fmod 4) t2, .int (((absI (x.fdiv 5)).fdiv 4).fmod 4) t3] ∧ n' = n0) ?_ ?_) ?_
    · refine Sq.consp (by exact rfl) (p := .str (wordF ((absI (x.fdiv 5)).fdiv 16))) (Eve.own ok ns_word (by exact rfl) (by decide) keep841 (by exact rfl) (by exact rfl) (by exact rfl) (Sq.consp (p := .int ((absI (x.fdiv 5)).fdiv 16)) (by exact rfl) (Evp.divI (by walk_at "ev") (by walk_at "ev") (by decide) (PyProof.noPylong_small (by decide))) fun v1 f1 => Sq.nil ?_)) fun v1 f1 => Sq.consp (by exact rfl) (p := .int ((absI (x.fdiv 5)).fmod 4)) (Evp.modI (by walk_at "ev") (by walk_at "ev") (by decide)) fun v2 f2 => Sq.consp (by exact rfl) (p := .int (((absI (x.fdiv 5)).fdiv 4).fmod 4)) (Evp.modI (Evp.divI (by walk_at "ev") (by walk_at "ev") (by decide) (PyProof.noPylong_small (by decide))) (by walk_at "ev") (by decide)) fun v3 f3 => Sq.nil ?_
      · obtain ⟨u, rfl⟩ := f1
        refine Cm.ctr ok (word_c p.w _ u (Int.fdiv_nonneg hy0 (by decide))) hnd hnu trivial ?_
        rintro v n' ⟨⟨t2, rfl⟩, rfl⟩
        exact ⟨⟨t2, rfl⟩, Kp.rfl⟩
      · obtain ⟨t1, rfl⟩ := f1
        obtain ⟨t2, rfl⟩ := f2
        obtain ⟨t3, rfl⟩ := f3
        exact ⟨t1, t2, t3, rfl, rfl⟩
    · rintro _ _ ⟨t1, t2, t3, rfl, rfl⟩
      exact ⟨by show 3 ≤ 1000; decide, fun D lt => ⟨D, t1, t2, t3, rfl, lt, rfl⟩⟩
    rintro _ _ ⟨U, t1, t2, t3, rfl, ltU, rfl⟩
    have hi : RepI ((U, tupO [.str (wordF ((absI (x.fdiv 5)).fdiv 16)) t1, .int ((absI (x.fdiv 5)).fmod 4) t2, .int (((absI (x.fdiv 5)).fdiv 4).fmod 4) t3]) :: r) (.ref U) (wordI x) := .word (.head _)
    generalize tupO [.str (wordF ((absI (x.fdiv 5)).fdiv 16)) t1, .int ((absI (x.fdiv 5)).fmod 4) t2, .int (((absI (x.fdiv 5)).fdiv 4).fmod 4) t3] = oU at *
    have ltU' : ∀ p ∈ (ST, listOf ((a :: as').reverse.map Value.ref).toArray k) :: ((a, listOf (.str (chS c) t0 :: vs).toArray ka) :: (l' ++ r) ++ own), p.1 < U := by rw [hn0]; exact ltU
    have uST : U ≠ ST := Nat.ne_of_gt (ltU' _ (.head _))
    have ua : U ≠ a := Nat.ne_of_gt (ltU' _ (.tail _ (.head _)))
    have ul : ∀ p ∈ l', U ≠ p.1 := fun p hp => Nat.ne_of_gt (ltU' p (.tail _ (.tail _ (List.mem_append_left _ (List.mem_append_left _ hp)))))
    have uI : U ≠ I := Nat.ne_of_gt (ltU' _ (.tail _ (.tail _ (List.mem_append_right _ hIo))))
    have hK : Kp r ((U, oU) :: r) := Kp.cons
    rw [← hn0]
    refine ⟨(U, oU) :: (ST, listOf ((a :: as').reverse.map Value.ref).toArray k) :: (a, listOf (Value.str (chS c) t0 :: vs ++ [Value.ref U]).toArray (ka + 1)) :: ((l' ++ r) ++ own), .tail ua (.tail (Ne.symm aST) (.head (fun p hp => ?_))), ?_⟩
    · have hp : p ∈ (l' ++ r) ++ own := hp
      simp only [List.mem_append] at hp
      rcases hp with (hp | hp) | hp
      · exact al p hp
      · exact ar p hp
      · exact ao p hp
    refine Sts.pop (Sts.pop (Sts.nil ⟨(ST, listOf ((a :: as').reverse.map Value.ref).toArray k) :: (((a, listOf (.str (chS c) t0 :: ((vs ++ [.ref U]) ++ [])).toArray (ka + 1)) :: l') ++ ((U, oU) :: r)), ⟨ST, k, a :: as', (a, listOf (.str (chS c) t0 :: ((vs ++ [.ref U]) ++ [])).toArray (ka + 1)) :: l', (U, oU) :: r, .cons ((hv.mono hK).snoc hi) (hup.mono hK), hl, by walk_at "lk", by walk_at "lk", fun p hp => ?_, dnd, fun p hp q hq => ?_, fun p hp => .tail _ (kr p hp), rfl⟩, fun p hp => ?_, fun p hp => ?_⟩))
    · simp only [List.cons_append, List.mem_cons, List.mem_append] at hp
      rcases hp with rfl | hp | rfl | hp
      · exact aST
      · exact dST p (List.mem_append_left _ (.tail _ hp))
      · exact uST
      · exact dST p (List.mem_append_right _ hp)
    · rcases List.mem_cons.mp hq with rfl | hq
      · rcases List.mem_cons.mp hp with rfl | hp
        · exact ua
        · exact ul p hp
      · rcases List.mem_cons.mp hp with rfl | hp
        · exact ar q hq
        · exact dlr p (.tail _ hp) q hq
    · simp only [List.cons_append, List.mem_cons, List.mem_append] at hp
      rcases hp with rfl | rfl | hp | rfl | hp
      · exact iST
      · exact ia
      · exact ilr p (List.mem_append_left _ hp)
      · exact uI
      · exact ilr p (List.mem_append_right _ hp)
    · simp only [List.cons_append, List.mem_cons, List.mem_append, List.append_nil] at hp ⊢
      rcases hp with h | h | (h | h | h) | h
      · exact .inr (.inl h)
      · exact .inr (.inr (.inl h))
      · exact .inr (.inr (.inr (.inl (.inl h))))
      · exact .inl h
      · exact .inr (.inr (.inr (.inl (.inr h))))
      · exact .inr (.inr (.inr (.inr h)))
noncomputable def extra : List Int := [1, 21168, 658, 3873, 2, 26243, 15368]
/-- what _law_tree builds -/
noncomputable def treeF (ns : List Int) : Nat × Ks := match (ns.take 20 ++ extra).foldl zStep [(40, .nil)] with | [] => (40, .nil) | a :: up => closeAll a up
def TrP (n : Led) (c : Nat) (ks : Ks) (f : Flow) (_ : Mp) (n' : Led) : Prop := ∃ TOP t k us, f = .ret (.ref TOP) ∧ Kp n n' ∧ (TOP, listOf (.str (chS c) t :: us).toArray k) ∈ n' ∧ RepK n' us ks
theorem ints_take {vs : List Value} {ns : List Int} (h : IntsAre vs ns) : ∀ i, IntsAre (vs.take i) (ns.take i) := by
  induction h with
  | nil => intro i; rw [List.take_nil, List.take_nil]; exact .nil
  | cons _ t _ ih => intro i; cases i with
    | zero => exact .nil
    | succ j => exact .cons _ t (ih j)
theorem ints_app {vs ws : List Value} {ns ms : List Int} (h : IntsAre vs ns) (h' : IntsAre ws ms) : IntsAre (vs ++ ws) (ns ++ ms) := by
  induction h with
  | nil => exact h'
  | cons _ t _ ih => exact .cons _ t ih
theorem ints_at {vs : List Value} {ns : List Int} (h : IntsAre vs ns) : ∀ {i : Nat} {v : Value}, vs[i]? = some v → ∃ k t, v = .int k t ∧ ns[i]? = some k := by
  induction h with
  | nil => intro i v hv; cases hv
  | cons _ t _ ih => intro i v hv; cases i with
    | zero => cases hv; exact ⟨_, t, rfl, rfl⟩
    | succ j => exact ih hv
theorem tr_sx {p : Pl} {nd nu : Nat} (ok : (trC p).Ok nd nu) (hnd : 50 ≤ nd) (hnu : 500 ≤ nu) {n : Led} {m : Mp} {SA : Addr} {its : Array Value} {ns : List Int} (hl : p.h₀.IsList SA its) (hi : IntsAre its.toList ns) (hsz : its.size ≤ 1000) (hms : m (Str.ofString "script") = some (.ref SA)) :
    Sts (trC p) (TrP n (treeF ns).1 (treeF ns).2) m n b42 [] := by
  refine Sts.asg ok.hk (by exact rfl) (by exact rfl) (R := fun v n' => ∃ T t, v = .ref T ∧ (∀ p ∈ n, p.1 < T) ∧ n' = (T, listOf [Value.str (chS 40) t].toArray 0) :: n) (Eve.list (R1 := fun vs n' => ∃ t, vs = [Value.str (chS 40) t] ∧ n' = n) (Sq.consp (by exact rfl) (p := .str (Str.ofString "(")) (by walk_at "ev") fun v fv => Sq.nil ?_) ?_) ?_
  · obtain ⟨t, rfl⟩ := fv
    exact ⟨t, rfl, rfl⟩
  · rintro _ _ ⟨t, rfl, rfl⟩
    exact ⟨by show 1 ≤ 1000; decide, fun D lt => ⟨D, t, rfl, lt, rfl⟩⟩
  rintro _ _ ⟨T, t, rfl, ltT, rfl⟩
  refine Sts.asg ok.hk (by exact rfl) (by exact rfl) (R := fun v n' => ∃ ST, v = .ref ST ∧ (∀ p ∈ (T, listOf [Value.str (chS 40) t].toArray 0) :: n, p.1 < ST) ∧ n' = (ST, listOf [Value.ref T].toArray 0) :: (T, listOf [Value.str (chS 40) t].toArray 0) :: n) (Eve.list (R1 := fun vs n' => vs = [Value.ref T] ∧ n' = (T, listOf [Value.str (chS 40) t].toArray 0) :: n) (Sq.cons (R1 := fun v n' => v = .ref T ∧ n' = (T, listOf [Value.str (chS 40) t].toArray 0) :: n) (by exact rfl) (Eve.loc ok.hk (by exact rfl) (by decide) (by walk_at "lk") ⟨rfl, rfl⟩) fun v n1 e => ?_) ?_) ?_
  · obtain ⟨rfl, rfl⟩ := e
    exact Sq.nil ⟨rfl, rfl⟩
  · rintro _ _ ⟨rfl, rfl⟩
    exact ⟨by show 1 ≤ 1000; decide, fun D lt => ⟨D, rfl, lt, rfl⟩⟩
  rintro _ _ ⟨ST, rfl, ltS, rfl⟩
  generalize hn1 : (ST, listOf [Value.ref T].toArray 0) :: (T, listOf [Value.str (chS 40) t].toArray 0) :: n = n1
  refine Sts.for (by exact rfl) (by exact rfl) (fun _ => by exact rfl) (R := fun v n' => ∃ SL vs, v = .ref SL ∧ IntsAre vs (ns.take 20 ++ extra) ∧ (∀ p ∈ n1, p.1 < SL) ∧ Kp ((SL, listOf vs.toArray 0) :: n1) n') (Eve.bin (R1 := fun v n' => ∃ A, v = .ref A ∧ n' = (A, listOf (its.toList.take 20).toArray 0) :: n1) (R2 := fun a b n' => ∃ A B ws, a = .ref A ∧ b = .ref B ∧ IntsAre ws extra ∧ n' = (B, listOf ws.toArray 0) :: (A, listOf (its.toList.take 20).toArray 0) :: n1) (Eve.to20 (l := SA) (its := its) (Eve.loc ok.hk (by exact rfl) (by decide) (by walk_at "lk") ⟨rfl, rfl⟩) hl (by (first | lia | omega)) (by intro S; exact rfl) (by intro r; exact rfl) fun D _ => ⟨D, rfl, rfl⟩) ?_ ?_) ?_
  · rintro _ _ ⟨A, rfl, rfl⟩
    refine Eve.list (R1 := fun vs n' => IntsAre vs extra ∧ n' = (A, listOf (its.toList.take 20).toArray 0) :: n1) ?_ ?_
    · refine Sq.consp (p := .int 1) (by exact rfl) (by walk_at "ev") fun v1 f1 => Sq.consp (p := .int 21168) (by exact rfl) (by walk_at "ev") fun v2 f2 => Sq.consp (p := .int 658) (by exact rfl) (by walk_at "ev") fun v3 f3 => Sq.consp (p := .int 3873) (by exact rfl) (by walk_at "ev") fun v4 f4 => Sq.consp (p := .int 2) (by exact rfl) (by walk_at "ev") fun v5 f5 => Sq.consp (p := .int 26243) (by exact rfl) (by walk_at "ev") fun v6 f6 => Sq.consp (p := .int 15368) (by exact rfl) (by walk_at "ev") fun v7 f7 => Sq.nil ?_
      obtain ⟨t1, rfl⟩ := f1
      obtain ⟨t2, rfl⟩ := f2
      obtain ⟨t3, rfl⟩ := f3
      obtain ⟨t4, rfl⟩ := f4
      obtain ⟨t5, rfl⟩ := f5
      obtain ⟨t6, rfl⟩ := f6
      obtain ⟨t7, rfl⟩ := f7
      exact ⟨.cons _ _ (.cons _ _ (.cons _ _ (.cons _ _ (.cons _ _ (.cons _ _ (.cons _ _ .nil)))))), rfl⟩
    · rintro vs _ ⟨hv, rfl⟩
      exact ⟨by rw [hv.length]; show 7 ≤ 1000; decide, fun D _ => ⟨A, D, vs, rfl, rfl, hv, rfl⟩⟩
  · rintro _ _ _ _ _ ⟨A, B, ws, rfl, rfl, hw, rfl⟩
    refine Cm.addL (vs := its.toList.take 20) (ws := ws) (.tail _ (.head _)) (.head _) ?_ fun D lt => ⟨D, _, rfl, ints_app (ints_take hi 20) hw, fun p hp => lt p (.tail _ (.tail _ hp)), fun p hp => ?_⟩
    · rw [hw.length, List.length_take]; show _ + 7 ≤ _; (first | lia | omega)
    · rcases List.mem_cons.mp hp with rfl | hp
      · exact .head _
      · exact .tail _ (.tail _ (.tail _ hp))
  rintro _ n2 ⟨SL, vs, rfl, hvs, ltL, kp⟩
  have hvl : vs.length ≤ 27 := by
    rw [hvs.length, List.length_append, List.length_take]
    show _ + 7 ≤ 27; (first | lia | omega)
  have hsT : ST ≠ T := Nat.ne_of_gt (ltS _ (.head _))
  have kp2 : Kp ((ST, listOf [Value.ref T].toArray 0) :: (T, listOf [Value.str (chS 40) t].toArray 0) :: (SL, listOf vs.toArray 0) :: n) n2 := fun p hp => kp p (by
    rw [← hn1]
    simp only [List.mem_cons] at hp ⊢
    rcases hp with h | h | h | h
    · exact .inr (.inl h)
    · exact .inr (.inr (.inl h))
    · exact .inl h
    · exact .inr (.inr (.inr h)))
  refine ForAt.sub (ForAt.list ok.hh rfl (.tail _ (.tail _ (.head _))) (fun i m' nx => ZJ ((SL, listOf vs.toArray 0) :: n) (((ns.take 20 ++ extra).take i).foldl zStep [(40, .nil)]) T m' nx) ?_ ?_ ?_) kp2
  · refine ⟨ST, 0, [T], [(T, listOf (.str (chS 40) t :: ([] ++ [])).toArray 0)], (SL, listOf vs.toArray 0) :: n, .cons .nil .nil, rfl, by walk_at "lk", by walk_at "lk", fun p hp => ?_, List.nodup_cons.mpr ⟨fun h => (by cases h), List.nodup_nil⟩, fun p hp q hq => ?_, Kp.rfl, ?_⟩
    · simp only [List.cons_append, List.nil_append, List.mem_cons] at hp
      rcases hp with rfl | rfl | hp
      · exact Ne.symm hsT
      · exact Nat.ne_of_gt (ltL _ (by rw [← hn1]; exact .head _))
      · exact Nat.ne_of_lt (ltS p (.tail _ hp))
    · rcases List.mem_cons.mp hp with rfl | hp
      · rcases List.mem_cons.mp hq with rfl | hq
        · exact Nat.ne_of_gt (ltL _ (by rw [← hn1]; exact .tail _ (.head _)))
        · exact Nat.ne_of_lt (ltT q hq)
      · cases hp
    · rfl
  · rintro i v m1 nx own I hv hJ hown hI hIo
    obtain ⟨x, tx, rfl, hx⟩ := ints_at hvs hv
    have e : ((ns.take 20 ++ extra).take (i + 1)).foldl zStep [(40, .nil)] = zStep (((ns.take 20 ++ extra).take i).foldl zStep [(40, .nil)]) x := by
      rw [List.take_add_one, hx, List.foldl_append]; rfl
    rw [e]
    refine tr_turn ok hnd hnu (fold_ne _ (List.cons_ne_nil _ _)) ?_ hJ (.head _) hown hI hIo
    have h1 := fold_wt ((ns.take 20 ++ extra).take i) [(40, .nil)]
    have h2 : zWt [(40, .nil)] = 1 := rfl
    have h3 := List.length_take_le' i (ns.take 20 ++ extra)
    rw [← hvs.length] at h3
    (first | lia | omega)
  · rintro m1 nx ⟨ST', k, as, l, r, hzr, hlst, mt, ms, _, _, _, kr, rfl⟩
    rw [hvs.length, List.take_length] at hzr
    have hne := fold_ne (ns.take 20 ++ extra) (z := [(40, .nil)]) (List.cons_ne_nil _ _)
    refine Sts.ret (R := fun v n' => v = .ref T ∧ n' = (ST', listOf (as.reverse.map Value.ref).toArray k) :: (l ++ r)) (Eve.loc ok.hk (by exact rfl) (by decide) (by walk_at "lk") ⟨rfl, rfl⟩) ?_
    rintro _ _ ⟨rfl, rfl⟩
    unfold TrP treeF
    cases hz : (ns.take 20 ++ extra).foldl zStep [(40, .nil)] with
    | nil => exact absurd hz hne
    | cons y up =>
      obtain ⟨c, ks⟩ := y
      rw [hz] at hzr
      cases as with
      | nil => cases hlst
      | cons a as' =>
        obtain ⟨t3, k3, us, hm, hr⟩ := hzr.close hlst
        exact ⟨T, t3, k3, us, rfl, fun p hp => .tail _ (List.mem_append_right _ (kr p (.tail _ hp))), .tail _ hm, hr.mono Kp.cons⟩
/-- what a call of _law_tree comes to: the list of ints stands in the heap ahead of the frame -/
def TreeC (w : World) (SA : Addr) (its : Array Value) (ns : List Int) : Prop :=
  ∀ (dp un : Nat) (gd : Option (List Code)) (cn : Str) (cs : Scope) (a : Addr) (ccd : Value) (cl : List (Str × Addr)) (outer : List Env) (A₀ : Around) (base h₀ : Heap) (L : Addr) (m : Str → Option Value)
    (news : Led) (s : Shared) (mg mb : Str → Option Value) (mean : ExcName → Option Value) (Q E : Value → Shared → Prop),
    Below A₀ base outer h₀ → Fr h₀ L s.heap m → (K w.params).In h₀ → News h₀ L s.heap news → Top q (looseW q loose) mean mg mb h₀ → cs.kind = .function → dp + 100 < recursionLimit → un + 1000 < cLine → h₀.IsList SA its →
    (∀ v tk h' news', Fr h₀ L h' m → News h₀ L h' news' → (∃ TOP t k us, v = .ref TOP ∧ Kp news news' ∧ (TOP, listOf (.str (chS (treeF ns).1) t :: us).toArray k) ∈ news' ∧ RepK news' us (treeF ns).2) → Q v { s with heap := h', toks := tk }) →
    wpAny (model pw w) (ktrTop dp un gd cn cs L a ccd cl outer) (call (.ref 848) [.ref SA]) Q E s
theorem tree_c (w : World) {SA : Addr} {its : Array Value} {ns : List Int} (hi : IntsAre its.toList ns) (hsz : its.size ≤ 1000) : TreeC w SA its ns := by
  intro dp un gd cn cs a ccd cl outer A₀ base h₀ L m news s mg mb mean Q E B F X N T0 hk hd hu hl ret
  obtain ⟨sh, sg, sd, stk, so⟩ := s
  dsimp only at F N ret
  refine wpAny_call ?_
  k_dflt (refine' code_def (binds := [(Str.ofString "script", .ref SA)]) B F X N T0 ?kA ?kF ?kK ?k6 ?k7 ?k8 ?k9 ?kB ?_ ?c2 ?c3 ?c4 ?c5; (case kA => exact rfl); (case kF => exact rfl); (case kK => assumption); (case k6 => k_is); (case k7 => k_is); (case k8 => ktr_room); (case k9 => exact BindsTo.of_eq rfl); (case c5 => decide); (case kB => exact locs rfl); (case c2 => exact rfl); (case c3 => exact rfl); (case c4 => exact rfl); k_whole; intro g' L' h' FG' F' N' B' X' T'; (try dsimp only); (try k_fold))
  have hE : PassesOwn (model pw w) (ktrTop (dp + 1) (un + 3) gd (Str.ofString "_law_tree") c42 L' 848 (.ref 847) [] (envX cn cs L a ccd cl :: outer)) (trC ⟨w, ktrTop (dp + 1) (un + 3) gd (Str.ofString "_law_tree") c42 L' 848 (.ref 847) [] (envX cn cs L a ccd cl :: outer), L', 848, .ref 847, g'⟩).env ek := by passes_own
  have hdp : (ktrTop dp un gd cn cs L a ccd cl outer).depth = dp := rfl
  have hun : (ktrTop dp un gd cn cs L a ccd cl outer).units = un := rfl
  refine tr_sx (p := ⟨w, ktrTop (dp + 1) (un + 3) gd (Str.ofString "_law_tree") c42 L' 848 (.ref 847) [] (envX cn cs L a ccd cl :: outer), L', 848, .ref 847, g'⟩) (Cx.ok (nd := 90) (nu := 900) B' X' T' (by exact rfl) (by (first | lia | omega)) (by (first | lia | omega))) (by (first | lia | omega)) (by (first | lia | omega)) (hl.at fun o e => FG'.keep SA o e) hi hsz (by exact rfl) hE (Nat.zero_le _) F' N' ?_
  rintro f m' n' h2 tk ⟨TOP, t, k, us, rfl, kp, hm, hr⟩ F2 N2
  refine ⟨_, _, _, F2, N2, fun kF kN => ?_⟩
  exact ret _ tk h2 _ kF kN ⟨TOP, t, k, us, rfl, kp, hm, hr⟩
open PySem PySem.W PySem.Calls PyProof.Rows
theorem fill18 : PySem.Challenge.rw_kl0186_01 = PySem.Challenge.rw_kl0186_01 ∧ K = K := by
  w_on
  k_fill
  exact ⟨rfl, rfl⟩
theorem joinF_len (a b : Str) : (joinF a b).length ≤ a.length + b.length + 1 := by
  have h : ∀ x y : Str, (x ++ y).length = x.length + y.length := fun x y => Array.size_append
  unfold joinF
  split
  · (first | lia | omega)
  · split
    · rw [h]; (first | lia | omega)
    · rw [h, h, show (Str.ofString "/").length = 1 by decide +kernel]; (first | lia | omega)
noncomputable def w5 (l : List Str) : Nat := (l.map fun s => s.length + 5).sum
theorem w5_app (l r : List Str) : w5 (l ++ r) = w5 l + w5 r := by unfold w5; rw [List.map_append, List.sum_append]
theorem w5_take (l : List Str) (i : Nat) : w5 (l.take i) ≤ w5 l := by
  have := w5_app (l.take i) (l.drop i)
  rw [List.take_append_drop] at this
  (first | lia | omega)
theorem w5_rev (l : List Str) : w5 l.reverse = w5 l := by unfold w5; rw [List.map_reverse, List.sum_reverse]
theorem w5_step {l : List Str} {i : Nat} {c : Str} (h : l[i]? = some c) : w5 (l.take (i + 1)) = w5 (l.take i) + (c.length + 5) := by
  rw [List.take_add_one, h, w5_app]; rfl
noncomputable def foldA (xs : List Str) : Str := xs.foldl (fun p one => normF (joinF p one)) (Str.ofString "")
noncomputable def foldB (xs : List Str) : Str := xs.reverse.foldl (fun p one => normF (joinF one p)) (Str.ofString "")
/-- what _law_fold hands back -/
noncomputable def foldF : List Str → Str
  | [] => Str.ofString ""
  | hd :: xs => normF (if (hd == Str.ofString "(") = true then foldA xs else foldB xs)
theorem ns_norm {P : Params} : nsIn (K P) mainGlobals (Str.ofString "normpath") = some (some (.ref 147)) := by kernel_rfl
theorem ns_join {P : Params} : nsIn (K P) mainGlobals (Str.ofString "join_posixpath") = some (some (.ref 133)) := by kernel_rfl
theorem keep147 {P : Params} : keepIn (K P) (.ref 147) = true := by kernel_rfl
theorem keep133 {P : Params} : keepIn (K P) (.ref 133) = true := by kernel_rfl
section
variable {C : Cx} {m : Mp} {n : Led} {R : Value → Led → Prop}
/-- pile[:0:-1] -/
theorem Eve.rev1 {value : Expr} {p1 p2 p3 p4 p5 : Pos} {k1 k2 k : Nat} {l : Addr} {ps : List (Str × Tok)} {ops : Addr → List Value} (hn : ps ≠ []) (h1 : Eve C m n value fun v n' => v = .ref l ∧ n' = n) (hm : (l, listOf (strValues ps).toArray k) ∈ n) (hb : ps.length ≤ 1000000)
    (hs : ∀ S, subscripted (.Slice none (some (.Constant (.int 0) k1 p1)) (some (.UnaryOp .USub (.Constant (.int 1) k2 p2) p3)) p4) false (.ref l) (.ref S) = operate (ops S) (getItem (.ref l) (.ref S))) (ht : ∀ r, letTemporaryGo value (.ref l) r = pure ())
    (r : ∀ D, (∀ p ∈ n, p.1 < D) → R (.ref D) ((D, listOf (strValues (ps.drop 1).reverse).toArray 0) :: n)) : Eve C m n (.Subscript value (.Slice none (some (.Constant (.int 0) k1 p1)) (some (.UnaryOp .USub (.Constant (.int 1) k2 p2) p3)) p4) p5) R :=
  fun _ s _ h0 F N q => Subscript_ (h1 h0 F N fun v n1 g1 t1 l1 r1 F1 N1 => by
    obtain ⟨rfl, rfl⟩ := r1
    refine wpAny_Slice (evalPart_none_step (evalPart_some_step (wpAny_Constant_int (evalPart_some_step ?_))))
    refine Evp.neg1 (C := C) (m := m) (n := n1) (s := { s with heap := g1, toks := t1 + 1 }) (Nat.le_succ_of_le l1) F1 N1 fun v n2 g2 t2 l2 r2 F2 N2 => ?_
    obtain ⟨⟨u, rfl⟩, kp⟩ := r2
    have N3 := news_sub N2 kp
    exact kmk_slice3_lit (s := { s with heap := g2, toks := t2 }) F2 N3 (News.isList N3 hm) .none (.int 0 t1) (.int (-1) u) (by decide) (pick_rev ps hn) (fun D h' F' N' lt => q _ _ h' t2 l2 (r D lt) F' N') (hs _) ht (by rw [List.size_toArray, strVal_len, sizeLine_eq]; (first | lia | omega)))
end
noncomputable abbrev foC (p : Pl) : Cx := ⟨p.w, p.A, Str.ofString "_law_fold", c45, p.L, p.a, p.cd, p.h₀, 0⟩
theorem fo_call {p : Pl} {nd nu : Nat} (ok : (foC p).Ok nd nu) (hnd : 50 ≤ nd) (hnu : 500 ≤ nu) {m : Mp} {n : Led} {x y a b : Str} {p1 p2 p3 p4 p5 p6 : Pos} (ha : a.length ≤ 900) (hb : b.length ≤ 900) (h1 : Evp (foC p) m n (.Name x p1) (.str a)) (h2 : Evp (foC p) m n (.Name y p2) (.str b)) :
    Evp (foC p) m n (.Call (.Name (Str.ofString "normpath") p3) [.Call (.Name (Str.ofString "join_posixpath") p4) [.Name x p1, .Name y p2] [] p5] [] p6) (.str (normF (joinF a b))) := by
  refine Eve.own ok ns_norm (by exact rfl) (by decide) keep147 (by exact rfl) (by exact rfl) (by exact rfl) (Sq.consp (p := .str (joinF a b)) (by exact rfl) (Eve.own ok ns_join (by exact rfl) (by decide) keep133 (by exact rfl) (by exact rfl) (by exact rfl) (Sq.consp (by exact rfl) h1 fun v1 f1 => Sq.consp (by exact rfl) h2 fun v2 f2 => Sq.nil ?_)) fun v3 f3 => Sq.nil ?_)
  · obtain ⟨t1, rfl⟩ := f1
    obtain ⟨t2, rfl⟩ := f2
    refine Cm.ctr ok (join_c p.w _ _ _ _ (by (first | lia | omega)) (by (first | lia | omega))) hnd hnu trivial ?_
    rintro v n' ⟨⟨u, rfl⟩, rfl⟩
    exact ⟨⟨u, rfl⟩, Kp.rfl⟩
  · obtain ⟨t3, rfl⟩ := f3
    refine Cm.ctr ok (normpath_c p.w _ _ (by have := joinF_len a b; (first | lia | omega))) hnd hnu trivial ?_
    rintro v n' ⟨u, rfl, rfl⟩
    exact ⟨⟨u, rfl⟩, Kp.rfl⟩
def FoJ (f : Str → Str → Str) (xs : List Str) (n : Led) (i : Nat) (m : Mp) (nx : Led) : Prop :=
  (∃ t, m (Str.ofString "path") = some (.str ((xs.take i).foldl f (Str.ofString "")) t)) ∧ ((xs.take i).foldl f (Str.ofString "")).length ≤ w5 (xs.take i) ∧ nx = n
/-- a loop over texts -/
theorem fo_loop {p : Pl} {nd nu : Nat} (ok : (foC p).Ok nd nu) {P : Flow → Mp → Led → Prop} {m : Mp} {n : Led} {f : Str → Str → Str} {l : List (Str × Tok)} {SL : Addr} {body rest : List Stmt} {ks : List (List Stmt)} {e : Expr} {pp p0' : Pos} {t0 : Tok}
    (hbody : body = [.Assign [.Name (Str.ofString "path") p0'] e pp]) (hsw : swapsWith e (some (.Name (Str.ofString "path") p0')) pp.line (foC p).env = pure false) (hf : ∀ a b, (f a b).length ≤ a.length + b.length + 5) (hw : w5 (l.map (·.1)) ≤ 700) (hm : m (Str.ofString "path") = some (.str (Str.ofString "") t0)) (hS : (SL, listOf (strValues l).toArray 0) ∈ n)
    (he : ∀ (m : Mp) (n : Led) (a b : Str) (t u : Tok), a.length ≤ 700 → b.length ≤ 700 → m (Str.ofString "path") = some (.str a t) → m (Str.ofString "one") = some (.str b u) → Evp (foC p) m n e (.str (f a b)))
    (done : ∀ m' t, m' (Str.ofString "path") = some (.str ((l.map (·.1)).foldl f (Str.ofString "")) t) → ((l.map (·.1)).foldl f (Str.ofString "")).length ≤ 700 → Sts (foC p) P m' n rest ks) :
    ForAt (foC p) P (Str.ofString "one") body rest ks (.ref SL) m n := by
  subst hbody
  refine ForAt.list ok.hh rfl hS (FoJ f (l.map (·.1)) n) ⟨⟨t0, hm⟩, Nat.zero_le _, rfl⟩ ?_ ?_
  · rintro i v m1 _ own I hv ⟨⟨t, h1⟩, h2, rfl⟩ hown hI _
    obtain ⟨c, tc, rfl, hc⟩ := strVal_get hv
    have hc2 : (l.map (·.1))[i]? = some c := by rw [List.getElem?_map, hc]; rfl
    have hst : ((l.map (·.1)).take (i + 1)).foldl f (Str.ofString "") = f (((l.map (·.1)).take i).foldl f (Str.ofString "")) c := by rw [List.take_add_one, hc2, List.foldl_append]; rfl
    have w1 := w5_step hc2
    have w2 := w5_take (l.map (·.1)) (i + 1)
    refine Sts.asgp ok.hk (by exact rfl) hsw (he _ _ (((l.map (·.1)).take i).foldl f (Str.ofString "")) c t tc (Nat.le_trans h2 (by (first | lia | omega))) (by (first | lia | omega)) (by walk_at "lk") (by walk_at "lk")) fun v2 f2 => ?_
    obtain ⟨u, rfl⟩ := f2
    have h3 := hf (((l.map (·.1)).take i).foldl f (Str.ofString "")) c
    refine Sts.nil ⟨_, ⟨⟨u, ?_⟩, ?_, rfl⟩, hI, fun q hq => hq⟩
    · rw [hst]; exact if_pos rfl
    · rw [hst]; (first | lia | omega)
  · rintro m1 _ ⟨⟨t, h1⟩, h2, rfl⟩
    rw [strVal_len, List.take_of_length_le (by rw [List.length_map]; exact Nat.le_refl _)] at h1 h2
    exact done m1 t h1 (by (first | lia | omega))
theorem fo_sx {p : Pl} {nd nu : Nat} (ok : (foC p).Ok nd nu) (hnd : 50 ≤ nd) (hnu : 500 ≤ nu) {m : Mp} {n : Led} {D : Addr} {k : Nat} {ps : List (Str × Tok)} (hd0 : ps ≠ []) (hl : ps.length ≤ 30) (hs : w5 (ps.map (·.1)) ≤ 700) (hm : m (Str.ofString "pile") = some (.ref D)) (hD : (D, listOf (strValues ps).toArray k) ∈ n) :
    Sts (foC p) (RtS (foldF (ps.map (·.1))) n) m n b45 [] := by
  have hfA : ∀ a b : Str, (normF (joinF a b)).length ≤ a.length + b.length + 5 := fun a b => by have := joinF_len a b; have := normF_len (joinF a b); (first | lia | omega)
  have hfB : ∀ a b : Str, (normF (joinF b a)).length ≤ a.length + b.length + 5 := fun a b => by have := joinF_len b a; have := normF_len (joinF b a); (first | lia | omega)
  obtain ⟨⟨c, tc⟩, tl, rfl⟩ := List.exists_cons_of_ne_nil hd0
  have hs2 : w5 (tl.map (·.1)) ≤ 700 := by rw [List.map_cons, show w5 (c :: tl.map (·.1)) = (c.length + 5) + w5 (tl.map (·.1)) by unfold w5; rw [List.map_cons, List.sum_cons]] at hs; (first | lia | omega)
  have hend : ∀ {m' : Mp} {n' : Led} {x : Str} {t : Tok} {ks : List (List Stmt)}, Kp n n' → x.length ≤ 700 → m' (Str.ofString "path") = some (.str x t) → foldF (((c, tc) :: tl).map (·.1)) = normF x → Sts (foC p) (RtS (foldF (((c, tc) :: tl).map (·.1))) n) m' n' (b45.drop 2) ks := by
    intro m' n' x t ks kp hx hp he
    refine Sts.ret (R := Is (.str (normF x)) n') (Eve.own ok ns_norm (by exact rfl) (by decide) keep147 (by exact rfl) (by exact rfl) (by exact rfl) (Sq.consp (p := .str x) (by exact rfl) (by walk_at "ev") fun v f => Sq.nil ?_)) ?_
    · obtain ⟨u, rfl⟩ := f
      refine Cm.ctr ok (normpath_c p.w x u (by (first | lia | omega))) hnd hnu trivial ?_
      rintro v n2 ⟨u2, rfl, rfl⟩
      exact ⟨⟨u2, rfl⟩, Kp.rfl⟩
    · rintro v n2 ⟨⟨u, rfl⟩, k2⟩
      exact ⟨u, by rw [he], kp.trans k2⟩
  refine Sts.asgp ok.hk (by exact rfl) (by exact rfl) (p := .str (Str.ofString "")) (by walk_at "ev") fun v0 f0 => ?_
  obtain ⟨t0, rfl⟩ := f0
  refine Sts.ifp (Tsp.cmp (by exact rfl) (p1 := .str c) (p2 := .str (Str.ofString "(")) (Evp.sub (p1 := .ref D) (p2 := .int 0) (by walk_at "ev") (by walk_at "ev") fun a b fa fb => ?_) (by walk_at "ev") .eqS) (fun hc => ?_) fun hc => ?_
  · cases fa
    obtain ⟨u, rfl⟩ := fb
    exact Cm.item hD (by rw [strVal_len]; (first | lia | omega)) (by decide) (x := .str c tc) rfl (by intro k u; exact rfl) ⟨⟨tc, rfl⟩, Kp.rfl⟩
  · refine Sts.for (by exact rfl) (by exact rfl) (fun _ => by exact rfl) (R := fun v n' => ∃ SL, v = .ref SL ∧ n' = (SL, listOf (strValues tl).toArray 0) :: n) (Eve.from1 (Eve.loc ok.hk (by exact rfl) (by decide) (by walk_at "lk") ⟨rfl, rfl⟩) hD (by rw [strVal_len]; (first | lia | omega)) (by intro S; exact rfl) (by intro r; exact rfl) fun SL _ => ⟨SL, rfl, rfl⟩) ?_
    rintro _ _ ⟨SL, rfl, rfl⟩
    refine fo_loop ok rfl (by exact rfl) hfA hs2 (by walk_at "lk") (.head _) (fun m n a b t u ha hb h1 h2 => fo_call ok hnd hnu (by (first | lia | omega)) (by (first | lia | omega)) (by walk_at "ev") (by walk_at "ev")) fun m' t h1 h2 => Sts.pop (hend Kp.cons h2 h1 ?_)
    show normF (if (c == Str.ofString "(") = true then _ else _) = _
    rw [if_pos hc]; rfl
  · refine Sts.for (by exact rfl) (by exact rfl) (fun _ => by exact rfl) (R := fun v n' => ∃ SL, v = .ref SL ∧ n' = (SL, listOf (strValues tl.reverse).toArray 0) :: n) (Eve.rev1 (ps := (c, tc) :: tl) (List.cons_ne_nil _ _) (Eve.loc ok.hk (by exact rfl) (by decide) (by walk_at "lk") ⟨rfl, rfl⟩) hD (by (first | lia | omega)) (by intro S; exact rfl) (by intro r; exact rfl) fun SL _ => ⟨SL, rfl, rfl⟩) ?_
    rintro _ _ ⟨SL, rfl, rfl⟩
    refine fo_loop ok (f := fun a b => normF (joinF b a)) rfl (by exact rfl) hfB (by rw [List.map_reverse, w5_rev]; exact hs2) (by walk_at "lk") (.head _) (fun m n a b t u ha hb h1 h2 => fo_call ok hnd hnu (by (first | lia | omega)) (by (first | lia | omega)) (by walk_at "ev") (by walk_at "ev")) fun m' t h1 h2 => Sts.pop (hend Kp.cons h2 h1 ?_)
    show normF (if (c == Str.ofString "(") = true then _ else _) = _
    rw [hc, if_neg Bool.false_ne_true, List.map_reverse]; rfl
theorem fold_c (w : World) (D : Addr) (n : Nat) (ps : List (Str × Tok)) (hd0 : ps ≠ []) (hl : ps.length ≤ 30) (hs : w5 (ps.map (·.1)) ≤ 700) :
    Ctr w 867 60 900 [.ref D] (fun l => (D, listOf (strValues ps).toArray n) ∈ l) (fun l v l' => (∃ t, v = .str (foldF (ps.map (·.1))) t) ∧ l' = l) := by
  intro dp un gd cn cs a ccd cl outer A₀ base h₀ L m news s mg mb mean Q E B F X N T hk hd hu hpre ret
  obtain ⟨sh, sg, sd, stk, so⟩ := s
  dsimp only at F N ret
  refine wpAny_call ?_
  k_dflt (refine' code_def (binds := [(Str.ofString "pile", .ref D)]) B F X N T ?kA ?kF ?kK ?k6 ?k7 ?k8 ?k9 ?kB ?_ ?c2 ?c3 ?c4 ?c5; (case kA => exact rfl); (case kF => exact rfl); (case kK => assumption); (case k6 => k_is); (case k7 => k_is); (case k8 => ktr_room); (case k9 => exact BindsTo.of_eq rfl); (case c5 => decide); (case kB => exact locs rfl); (case c2 => exact rfl); (case c3 => exact rfl); (case c4 => exact rfl); k_whole; intro g' L' h' FG' F' N' B' X' T'; (try dsimp only); (try k_fold))
  have hE : PassesOwn (model pw w) (ktrTop (dp + 1) (un + 3) gd (Str.ofString "_law_fold") c45 L' 867 (.ref 866) [] (envX cn cs L a ccd cl :: outer)) (foC ⟨w, ktrTop (dp + 1) (un + 3) gd (Str.ofString "_law_fold") c45 L' 867 (.ref 866) [] (envX cn cs L a ccd cl :: outer), L', 867, .ref 866, g'⟩).env ek := by passes_own
  have hdp : (ktrTop dp un gd cn cs L a ccd cl outer).depth = dp := rfl
  have hun : (ktrTop dp un gd cn cs L a ccd cl outer).units = un := rfl
  refine fo_sx (p := ⟨w, ktrTop (dp + 1) (un + 3) gd (Str.ofString "_law_fold") c45 L' 867 (.ref 866) [] (envX cn cs L a ccd cl :: outer), L', 867, .ref 866, g'⟩) (Cx.ok (nd := 59) (nu := 890) B' X' T' (by exact rfl) (by (first | lia | omega)) (by (first | lia | omega))) (by (first | lia | omega)) (by (first | lia | omega)) hd0 hl hs (by exact rfl) hpre hE (Nat.zero_le _) F' N' ?_
  rintro f m' n' h2 tk ⟨u, rfl, kp⟩ F2 N2
  refine ⟨_, _, _, F2, N2, fun kF kN => ?_⟩
  exact ret _ tk h2 _ kF (news_sub kN kp) ⟨⟨u, rfl⟩, rfl⟩
open PySem PySem.W PySem.Calls PyProof.Rows
/-- the piles, the innermost first, and what has been told -/
abbrev RS := List (List Str) × List Str
noncomputable def rdWord (σ : RS) (tok : Str) : RS := match σ.1 with | p :: ps => ((p ++ [tok]) :: ps, σ.2) | [] => σ
noncomputable def rdSign (σ : RS) (c : Nat) : RS :=
  if c = 40 ∨ c = 91 then ([chS c] :: σ.1, σ.2)
  else match σ.1 with | p :: q :: ps => ((q ++ [foldF p]) :: ps, σ.2 ++ [foldF p]) | _ => σ
noncomputable def rdTok (σ : RS) (tok : Str) : RS :=
  if tok = Str.ofString "" ∨ Txt.stripChars tok (Str.ofString "()[]") ≠ Str.ofString "" then rdWord σ tok else tok.cps.toList.foldl rdSign σ
/-- a sign can be taken -/
def OkS (σ : RS) (c : Nat) : Prop := (c = 40 ∨ c = 91) ∨ ∃ p q ps, σ.1 = p :: q :: ps ∧ p ≠ [] ∧ p.length ≤ 30 ∧ w5 p ≤ 700
def SzR (σ : RS) : Prop := σ.1.length ≤ 1000 ∧ (∀ p ∈ σ.1, p.length ≤ 1000) ∧ σ.2.length ≤ 1000
inductive PR : List (List Str) → List Addr → Led → Prop
  | nil : PR [] [] []
  | cons {p ps a as k l} {ts : List (Str × Tok)} : ts.map (·.1) = p → PR ps as l → PR (p :: ps) (a :: as) ((a, listOf (strValues ts).toArray k) :: l)
theorem PR.len {ps : List (List Str)} {as : List Addr} {l : Led} (h : PR ps as l) : as.length = ps.length ∧ l.map (·.1) = as := by
  induction h with
  | nil => exact ⟨rfl, rfl⟩
  | cons _ _ ih => exact ⟨congrArg Nat.succ ih.1, congrArg (List.cons _) ih.2⟩
/-- the ledger: the list of the piles, the list told, the piles, and all else -/
structure RdS (B : Addr) (oth : Led) (PL TD : Addr) (σ : RS) (L : Led) : Prop where
  ex : ∃ (k k' : Nat) (as : List Addr) (l : Led) (ts : List (Str × Tok)), PR σ.1 as l ∧ ts.map (·.1) = σ.2 ∧ L = (PL, listOf (as.reverse.map Value.ref).toArray k) :: (TD, listOf (strValues ts).toArray k') :: (l ++ oth) ∧
    (∀ p ∈ l ++ oth, p.1 ≠ PL ∧ p.1 ≠ TD) ∧ (l.map (·.1)).Nodup ∧ (∀ p ∈ l, ∀ q ∈ oth, q.1 ≠ p.1) ∧ ∀ p ∈ l, @LT.lt Nat _ B p.1
  ne : PL ≠ TD
  hB : @LT.lt Nat _ B PL ∧ @LT.lt Nat _ B TD
/-- an own part that stands apart may be added .. -/
theorem RdS.own {B : Addr} {oth own : Led} {PL TD : Addr} {σ : RS} {L : Led} {I : Addr} (h : RdS B oth PL TD σ L) (ho : ∀ p ∈ own, p.1 = I) (hI : ∀ p ∈ L, p.1 ≠ I) : RdS B (oth ++ own) PL TD σ (L ++ own) := by
  obtain ⟨⟨k, k', as, l, ts, h1, h2, rfl, h4, h5, h6, h7⟩, hn, hb⟩ := h
  refine ⟨⟨k, k', as, l, ts, h1, h2, by rw [List.cons_append, List.cons_append, List.append_assoc], fun p hp => ?_, h5, fun p hp q hq => ?_, h7⟩, hn, hb⟩
  · rw [← List.append_assoc] at hp
    rcases List.mem_append.mp hp with hp | hp
    · exact h4 p hp
    · rw [ho p hp]
      exact ⟨Ne.symm (hI (PL, _) (.head _)), Ne.symm (hI (TD, _) (.tail _ (.head _)))⟩
  · rcases List.mem_append.mp hq with hq | hq
    · exact h6 p hp q hq
    · rw [ho q hq]
      exact Ne.symm (hI p (.tail _ (.tail _ (List.mem_append_left _ hp))))
/-- .. and taken away -/
theorem RdS.off {B : Addr} {oth own : Led} {PL TD : Addr} {σ : RS} {L : Led} {I : Addr} (h : RdS B (oth ++ own) PL TD σ L) (hIo : ∃ o, (I, o) ∈ own) (hIoth : ∀ p ∈ oth, p.1 ≠ I) : ∃ nx, RdS B oth PL TD σ nx ∧ (∀ p ∈ nx, p.1 ≠ I) ∧ ∀ p ∈ nx ++ own, p ∈ L := by
  obtain ⟨⟨k, k', as, l, ts, h1, h2, rfl, h4, h5, h6, h7⟩, hn, hb⟩ := h
  obtain ⟨o, ho⟩ := hIo
  have h8 := h4 (I, o) (List.mem_append_right _ (List.mem_append_right _ ho))
  refine ⟨(PL, listOf (as.reverse.map Value.ref).toArray k) :: (TD, listOf (strValues ts).toArray k') :: (l ++ oth), ⟨⟨k, k', as, l, ts, h1, h2, rfl, fun p hp => ?_, h5, fun p hp q hq => h6 p hp q (List.mem_append_left _ hq), h7⟩, hn, hb⟩, fun p hp => ?_, fun p hp => ?_⟩
  · rcases List.mem_append.mp hp with hp | hp
    · exact h4 p (List.mem_append_left _ hp)
    · exact h4 p (List.mem_append_right _ (List.mem_append_left _ hp))
  · simp only [List.mem_cons, List.mem_append] at hp
    rcases hp with rfl | rfl | hp | hp
    · exact Ne.symm h8.1
    · exact Ne.symm h8.2
    · exact Ne.symm (h6 p hp (I, o) (List.mem_append_right _ ho))
    · exact hIoth p hp
  · simp only [List.mem_cons, List.mem_append, List.cons_append] at hp ⊢
    rcases hp with h | h | (h | h) | h
    · exact .inl h
    · exact .inr (.inl h)
    · exact .inr (.inr (.inl h))
    · exact .inr (.inr (.inr (.inl h)))
    · exact .inr (.inr (.inr (.inr h)))
theorem inF_ch (c : Nat) (x : Str) : inF (chS c) x = decide (c ∈ x.cps.toList) := PySem.StrLaws.found_one x c
theorem inF_open (c : Nat) : inF (chS c) (Str.ofString "([") = decide (c = 40 ∨ c = 91) := by
  rw [inF_ch]
  have e : (Str.ofString "([").cps.toList = [40, 91] := by decide
  rw [e]
  simp only [List.mem_cons, List.not_mem_nil, or_false]
theorem fill25 : PySem.Challenge.rw_kl0186_01 = PySem.Challenge.rw_kl0186_01 ∧ K = K := by
  w_on
  k_fill
  exact ⟨rfl, rfl⟩
theorem ns_fold {P : Params} : nsIn (K P) mainGlobals (Str.ofString "_law_fold") = some (some (.ref 867)) := by kernel_rfl
theorem keep867 {P : Params} : keepIn (K P) (.ref 867) = true := by kernel_rfl
theorem ns_lexer {P : Params} : nsIn (K P) mainGlobals (Str.ofString "_law_lexer") = some (some (.ref 874)) := by kernel_rfl
theorem keep874 {P : Params} : keepIn (K P) (.ref 874) = true := by kernel_rfl
noncomputable abbrev rdC (p : Pl) : Cx := ⟨p.w, p.A, Str.ofString "_law_read", c47, p.L, p.a, p.cd, p.h₀, 0⟩
noncomputable def rdBody : List Stmt := whBody (b47.getD 4 (.Pass p0))
noncomputable def sgBody : List Stmt := forBody (rdBody.getD 1 (.Pass p0))
theorem rd_sign {p : Pl} {nd nu : Nat} (ok : (rdC p).Ok nd nu) (hnd : 60 ≤ nd) (hnu : 900 ≤ nu) {P : Flow → Mp → Led → Prop} {m : Mp} {L oth : Led} {B PL TD : Addr} {σ : RS} {c : Nat} {t : Tok} (h : RdS B oth PL TD σ L) (hok : OkS σ c) (hsz : SzR σ)
    (mp : m (Str.ofString "piles") = some (.ref PL)) (mt : m (Str.ofString "told") = some (.ref TD)) (ms : m (Str.ofString "sign") = some (.str (chS c) t)) (fin : ∀ L', RdS B oth PL TD (rdSign σ c) L' → P .next m L') : Sts (rdC p) P m L sgBody [] := by
  obtain ⟨⟨k, k', as, l, ts, h1, h2, rfl, h4, h5, h6, h7⟩, hn, hb⟩ := h
  obtain ⟨hal, hmap⟩ := h1.len
  have hz1 := hsz.1
  have hasl : (as.reverse.map Value.ref).length ≤ 1000 := by rw [List.length_map, List.length_reverse]; (first | lia | omega)
  have htl : ts.length ≤ 1000 := by have := congrArg List.length h2; rw [List.length_map] at this; have := hsz.2.2; (first | lia | omega)
  refine Sts.ifp (Tsp.cmp (by exact rfl) (p1 := .str (chS c)) (p2 := .str (Str.ofString "([")) (by walk_at "ev") (by walk_at "ev") .inS) (fun h => ?_) fun h => ?_
  · rw [inF_open] at h
    have h' := of_decide_eq_true h
    have e : rdSign σ c = ([chS c] :: σ.1, σ.2) := if_pos h'
    rw [e] at fin
    refine Sts.append (D := PL) (vs := as.reverse.map Value.ref) (k := k) (R1 := fun v n' => ∃ D tc, v = .ref D ∧ (∀ p ∈ (PL, listOf (as.reverse.map Value.ref).toArray k) :: (TD, listOf (strValues ts).toArray k') :: (l ++ oth), p.1 < D) ∧ n' = (D, listOf (strValues [(chS c, tc)]).toArray 0) :: (PL, listOf (as.reverse.map Value.ref).toArray k) :: (TD, listOf (strValues ts).toArray k') :: (l ++ oth)) (by exact rfl) (by exact rfl) (by exact rfl) (by exact rfl) (by exact rfl) (by exact rfl) (by walk_at "ev") (.head _) (by (first | lia | omega)) (Eve.list (R1 := fun vs n' => ∃ tc, vs = strValues [(chS c, tc)] ∧ n' = (PL, listOf (as.reverse.map Value.ref).toArray k) :: (TD, listOf (strValues ts).toArray k') :: (l ++ oth)) (Sq.consp (by exact rfl) (p := .str (chS c)) (by walk_at "ev") fun v fv => Sq.nil ?_) ?_) ?_
    · obtain ⟨tc, rfl⟩ := fv
      exact ⟨tc, rfl, rfl⟩
    · rintro _ _ ⟨tc, rfl, rfl⟩
      exact ⟨by rw [strVal_len]; show 1 ≤ 1000; decide, fun D lt => ⟨D, tc, rfl, lt, rfl⟩⟩
    rintro _ _ ⟨D, tc, rfl, lt, rfl⟩
    have dPL : D ≠ PL := Nat.ne_of_gt (lt _ (.head _))
    have dTD : D ≠ TD := Nat.ne_of_gt (lt _ (.tail _ (.head _)))
    have dlo : ∀ p ∈ l ++ oth, p.1 ≠ D := fun p hp => Nat.ne_of_lt (lt p (.tail _ (.tail _ hp)))
    refine ⟨_, .tail dPL (.head fun p hp => ?_), ?_⟩
    · rcases List.mem_cons.mp hp with rfl | hp
      · exact Ne.symm hn
      · exact (h4 p hp).1
    · have hS : RdS B oth PL TD ([chS c] :: σ.1, σ.2) ((PL, listOf ((D :: as).reverse.map Value.ref).toArray (k + 1)) :: (TD, listOf (strValues ts).toArray k') :: (((D, listOf (strValues [(chS c, tc)]).toArray 0) :: l) ++ oth)) := by
        refine ⟨⟨k + 1, k', D :: as, (D, listOf (strValues [(chS c, tc)]).toArray 0) :: l, ts, .cons rfl h1, h2, rfl, fun p hp => ?_, List.nodup_cons.mpr ⟨fun hm => ?_, h5⟩, fun p hp q hq => ?_, fun p hp => ?_⟩, hn, hb⟩
        · rcases List.mem_cons.mp hp with rfl | hp
          · exact ⟨dPL, dTD⟩
          · exact h4 p hp
        · obtain ⟨p, hp, e⟩ := List.mem_map.mp hm
          exact dlo p (List.mem_append_left _ hp) e
        · rcases List.mem_cons.mp hp with rfl | hp
          · exact dlo q (List.mem_append_right _ hq)
          · exact h6 p hp q hq
        · rcases List.mem_cons.mp hp with rfl | hp
          · exact Nat.lt_trans hb.1 (lt _ (.head _))
          · exact h7 p hp
      refine Sts.sub (Sts.pop (Sts.nil (fin _ hS))) fun p hp => ?_
      have e3 : (D :: as).reverse.map Value.ref = as.reverse.map Value.ref ++ [Value.ref D] := by rw [List.reverse_cons, List.map_append]; rfl
      rw [e3] at hp
      simp only [List.cons_append, List.mem_cons, List.mem_append] at hp ⊢
      rcases hp with h | h | h | h | h
      · exact .inr (.inl h)
      · exact .inr (.inr (.inl h))
      · exact .inl h
      · exact .inr (.inr (.inr (.inl h)))
      · exact .inr (.inr (.inr (.inr h)))
  · rw [inF_open] at h
    have h' := of_decide_eq_false h
    rcases hok with hok | ⟨pp, qq, ps, e1, hpn, hpl, hpw⟩
    · exact absurd hok h'
    obtain ⟨σ1, σ2⟩ := σ
    dsimp only at e1 h1 h2 hsz
    subst e1
    have e : rdSign (pp :: qq :: ps, σ2) c = ((qq ++ [foldF pp]) :: ps, σ2 ++ [foldF pp]) := if_neg h'
    rw [e] at fin
    cases h1 with
    | @cons _ _ a as' ka l' ts1 ets1 hpr =>
    cases hpr with
    | @cons _ _ a2 as2 ka2 l2 ts2 ets2 hpr2 =>
    have ea : (a :: a2 :: as2).reverse.map Value.ref = (a2 :: as2).reverse.map Value.ref ++ [Value.ref a] := by rw [List.reverse_cons, List.map_append]; rfl
    have ea2 : (a2 :: as2).reverse.map Value.ref = as2.reverse.map Value.ref ++ [Value.ref a2] := by rw [List.reverse_cons, List.map_append]; rfl
    have nd := List.nodup_cons.mp h5
    have nd2 := List.nodup_cons.mp nd.2
    have hts2 : ts2.length ≤ 1000 := by
      have h := hsz.2.1 qq (.tail _ (.head _))
      rw [← ets2, List.length_map] at h; exact h
    have hts1 : ts1.length ≤ 30 := by rw [← ets1, List.length_map] at hpl; exact hpl
    rw [ea, List.length_append] at hasl
    have hasl2 : (as2.reverse.map Value.ref).length ≤ 1000 := by
      rw [ea2, List.length_append] at hasl; (first | lia | omega)
    -- told.append(fold(piles.pop()))
    generalize hL : (PL, listOf ((a :: a2 :: as2).reverse.map Value.ref).toArray k) :: (TD, listOf (strValues ts).toArray k') :: (((a, listOf (strValues ts1).toArray ka) :: (a2, listOf (strValues ts2).toArray ka2) :: l2) ++ oth) = L0
    have mPL : (PL, listOf ((a2 :: as2).reverse.map Value.ref ++ [Value.ref a]).toArray k) ∈ L0 := by rw [← hL, ea]; exact .head _
    have mTD : (TD, listOf (strValues ts).toArray k') ∈ L0 := by rw [← hL]; exact .tail _ (.head _)
    have U1 : Upd PL (listOf ((a2 :: as2).reverse.map Value.ref ++ [Value.ref a]).toArray k) (listOf ((a2 :: as2).reverse.map Value.ref).toArray (k + 1)) L0 ((PL, listOf ((a2 :: as2).reverse.map Value.ref).toArray (k + 1)) :: (TD, listOf (strValues ts).toArray k') :: (((a, listOf (strValues ts1).toArray ka) :: (a2, listOf (strValues ts2).toArray ka2) :: l2) ++ oth)) := by
      rw [← hL, ea]
      refine .head fun p hp => ?_
      rcases List.mem_cons.mp hp with rfl | hp
      · exact Ne.symm hn
      · exact (h4 p hp).1
    refine Sts.append (D := TD) (vs := strValues ts) (k := k') (R1 := fun v n' => ∃ tf, v = .str (foldF pp) tf ∧ n' = (PL, listOf ((a2 :: as2).reverse.map Value.ref).toArray (k + 1)) :: (TD, listOf (strValues ts).toArray k') :: (((a, listOf (strValues ts1).toArray ka) :: (a2, listOf (strValues ts2).toArray ka2) :: l2) ++ oth)) (by exact rfl) (by exact rfl) (by exact rfl) (by exact rfl) (by exact rfl) (by exact rfl) (by walk_at "ev") mTD (by rw [strVal_len]; (first | lia | omega)) (Eve.own ok ns_fold (by exact rfl) (by decide) keep867 (by exact rfl) (by exact rfl) (by exact rfl) (Sq.cons (R1 := fun v n' => v = .ref a ∧ n' = (PL, listOf ((a2 :: as2).reverse.map Value.ref).toArray (k + 1)) :: (TD, listOf (strValues ts).toArray k') :: (((a, listOf (strValues ts1).toArray ka) :: (a2, listOf (strValues ts2).toArray ka2) :: l2) ++ oth)) (by exact rfl) (Eve.meth0 (by exact rfl) (by exact rfl) (R1 := fun v n' => v = .ref PL ∧ n' = L0) (Eve.loc ok.hk (by exact rfl) (by decide) (by walk_at "lk") ⟨rfl, rfl⟩) ?_) ?_)) ?_
    · rintro _ _ ⟨rfl, rfl⟩
      exact ⟨"list.pop", gm_list mPL PySem.F.slot_list_pop PySem.F.type_list_pop, Cm.pop U1 (by (first | lia | omega)) ⟨rfl, rfl⟩⟩
    · rintro _ _ ⟨rfl, rfl⟩
      refine Sq.nil (Cm.ctr ok (fold_c p.w a ka ts1 (fun e => hpn (by rw [← ets1, e]; rfl)) hts1 (by rw [ets1]; exact hpw)) hnd hnu (.tail _ (.tail _ (.head _))) ?_)
      rintro v n' ⟨⟨tf, rfl⟩, rfl⟩
      exact ⟨tf, by rw [ets1], rfl⟩
    rintro _ _ ⟨tf, rfl, rfl⟩
    refine ⟨_, .tail (Ne.symm (Ne.symm hn)) (.head fun p hp => ?_), ?_⟩
    · exact (h4 p hp).2
    rw [show strValues ts ++ [Value.str (foldF pp) tf] = strValues (ts ++ [(foldF pp, tf)]) from (strVal_snoc ..).symm]
    -- piles[-1].append(told[-1])
    refine Sts.append (D := a2) (vs := strValues ts2) (k := ka2) (R1 := fun v n' => Fits (.str (foldF pp)) v ∧ n' = (PL, listOf ((a2 :: as2).reverse.map Value.ref).toArray (k + 1)) :: (TD, listOf (strValues (ts ++ [(foldF pp, tf)])).toArray (k' + 1)) :: (((a, listOf (strValues ts1).toArray ka) :: (a2, listOf (strValues ts2).toArray ka2) :: l2) ++ oth)) (by exact rfl) (by exact rfl) (by exact rfl) (by exact rfl) (by exact rfl) (by exact rfl) (Evp.lastL (D := PL) (vs := as2.reverse.map Value.ref) (x := .ref a2) (by walk_at "ev") (by rw [ea2]; exact .head _) (by (first | lia | omega)) rfl (by intro k u; exact rfl)) (.tail _ (.tail _ (.tail _ (.head _)))) (by rw [strVal_len]; (first | lia | omega)) ?_ ?_
    · refine Evp.sub (p1 := .ref TD) (by walk_at "ev") Evp.neg1 fun a b fa fb => ?_
      cases fa
      obtain ⟨u, rfl⟩ := fb
      exact Cm.itemLast (vs := strValues ts) (x := .str (foldF pp) tf) (by rw [strVal_snoc]; exact .tail _ (.head _)) (by rw [strVal_len]; (first | lia | omega)) (by intro k u; exact rfl) ⟨⟨tf, rfl⟩, rfl⟩
    · rintro v _ ⟨⟨tv, rfl⟩, rfl⟩
      refine ⟨(PL, listOf ((a2 :: as2).reverse.map Value.ref).toArray (k + 1)) :: (TD, listOf (strValues (ts ++ [(foldF pp, tf)])).toArray (k' + 1)) :: (a, listOf (strValues ts1).toArray ka) :: (a2, listOf (strValues ts2 ++ [Value.str (foldF pp) tv]).toArray (ka2 + 1)) :: (l2 ++ oth), .tail (Ne.symm (h4 (a2, listOf (strValues ts2).toArray ka2) (.tail _ (.head _))).1) (.tail (Ne.symm (h4 (a2, listOf (strValues ts2).toArray ka2) (.tail _ (.head _))).2) (.tail (fun e => nd.1 (by have e' : a = a2 := e; rw [e']; exact .head _)) (.head fun p hp => ?_))), ?_⟩
      · have hp : p ∈ l2 ++ oth := hp
        rcases List.mem_append.mp hp with hp | hp
        · exact fun e => nd2.1 (List.mem_map.mpr ⟨p, hp, e⟩)
        · exact h6 (a2, listOf (strValues ts2).toArray ka2) (.tail _ (.head _)) p hp
      · have hS : RdS B oth PL TD ((qq ++ [foldF pp]) :: ps, σ2 ++ [foldF pp]) ((PL, listOf ((a2 :: as2).reverse.map Value.ref).toArray (k + 1)) :: (TD, listOf (strValues (ts ++ [(foldF pp, tf)])).toArray (k' + 1)) :: (((a2, listOf (strValues (ts2 ++ [(foldF pp, tv)])).toArray (ka2 + 1)) :: l2) ++ oth)) := by
          refine ⟨⟨k + 1, k' + 1, a2 :: as2, (a2, listOf (strValues (ts2 ++ [(foldF pp, tv)])).toArray (ka2 + 1)) :: l2, ts ++ [(foldF pp, tf)], .cons (by rw [List.map_append, ets2]; rfl) hpr2, by rw [List.map_append, h2]; rfl, rfl, fun p hp => ?_, nd.2, fun p hp q hq => ?_, fun p hp => ?_⟩, hn, hb⟩
          · rcases List.mem_cons.mp hp with rfl | hp
            · exact h4 (a2, listOf (strValues ts2).toArray ka2) (.tail _ (.head _))
            · exact h4 p (.tail _ (.tail _ hp))
          · rcases List.mem_cons.mp hp with rfl | hp
            · exact h6 (a2, listOf (strValues ts2).toArray ka2) (.tail _ (.head _)) q hq
            · exact h6 p (.tail _ (.tail _ hp)) q hq
          · rcases List.mem_cons.mp hp with rfl | hp
            · exact h7 (a2, listOf (strValues ts2).toArray ka2) (.tail _ (.head _))
            · exact h7 p (.tail _ (.tail _ hp))
        refine Sts.sub (Sts.pop (Sts.nil (fin _ hS))) fun p hp => ?_
        rw [strVal_snoc ts2] at hp
        simp only [List.cons_append, List.mem_cons, List.mem_append] at hp ⊢
        rcases hp with h | h | h | h | h
        · exact .inl h
        · exact .inr (.inl h)
        · exact .inr (.inr (.inr (.inl h)))
        · exact .inr (.inr (.inr (.inr (.inl h))))
        · exact .inr (.inr (.inr (.inr (.inr h))))
/-- the tokens, one after the other, from a lexer's state -/
inductive Chn (b : Str) : AS → List Str → Prop
  | done {σ σ' : AS} {n : Nat} : Wf b σ → σ.q = false → σ.es = oS " " → Run b n σ σ' → σ.tok.length + 2 * n ≤ 500000 → tokV σ' = .non → Chn b σ []
  | tok {σ σ' : AS} {n : Nat} {y : Str} {ys : List Str} : Wf b σ → σ.q = false → σ.es = oS " " → Run b n σ σ' → σ.tok.length + 2 * n ≤ 500000 → tokV σ' = .str y → Chn b { σ' with tok := oS "", q := false, es := oS " " } ys → Chn b σ (y :: ys)
/-- all signs of a token can be taken -/
def OkL (σ : RS) : List Nat → Prop
  | [] => True
  | c :: cs => OkS σ c ∧ SzR σ ∧ OkL (rdSign σ c) cs
def OkT (σ : RS) (tok : Str) : Prop := tok.length ≤ 1000 ∧ (if tok = Str.ofString "" ∨ Txt.stripChars tok (Str.ofString "()[]") ≠ Str.ofString "" then (SzR σ ∧ σ.1 ≠ []) else OkL σ tok.cps.toList)
def OkTs (σ : RS) : List Str → Prop
  | [] => True
  | y :: ys => OkT σ y ∧ OkTs (rdTok σ y) ys
theorem okL_at : ∀ {l : List Nat} {σ : RS} {i : Nat} {c : Nat}, OkL σ l → l[i]? = some c → OkS ((l.take i).foldl rdSign σ) c ∧ SzR ((l.take i).foldl rdSign σ)
  | [], _, _, _, _, h => by cases h
  | a :: l, σ, 0, c, h, e => by cases e; exact ⟨h.1, h.2.1⟩
  | a :: l, σ, i + 1, c, h, e => okL_at (l := l) h.2.2 e
theorem lex_gettok {P : Params} : findIn (K P) (.ref 830) (Str.ofString "get_token") = some (some (.ref 791)) := by kernel_rfl
theorem keep791 {P : Params} : keepIn (K P) (.ref 791) = true := by kernel_rfl
theorem fn791 {P : Params} : isFn (K P) (.ref 791) = true := by kernel_rfl
theorem rd_get {p : Pl} {nd nu : Nat} (ok : (rdC p).Ok nd nu) (hnd : 200 ≤ nd) (hnu : 2000 ≤ nu) {c : LexP} {b : Str} {r : Led} {x : LX} {σ σ' : AS} {k : Nat} {m : Mp} {p1 p2 p3 : Pos} (ap : Apart c r) (hb : b.length ≤ 100000) (hw : Wf b σ) (hq : σ.q = false) (hes : σ.es = oS " ") (hx : AbsX x σ) (hr : Run b k σ σ') (hn : σ.tok.length + 2 * k ≤ 500000)
    (hl : m (Str.ofString "lexer") = some (.ref c.S)) (hline : (p2.endLine == p3.line) = true) : Eve (rdC p) m (ledX p.w c b r x) (.Call (.Attribute (.Name (Str.ofString "lexer") p1) (Str.ofString "get_token") p2) [] [] p3) (fun v n' => ∃ x', n' = ledX p.w c b r x' ∧ AbsX x' { σ' with tok := oS "", q := false, es := oS " " } ∧ Fits (tokV σ') v) :=
  fun _ s _ _ F N q => mcall0 rfl hline (ld F hl (fun pl => by
    refine method_inst F ok.X (lex_inst N mem_S mem_SD) lex_plainGet lex_gettok fn791 (by kernel_rfl!) ?_
    refine callWith_K0 (ok.X.keeps F.keep) keep791 ?_
    refine ok.call ((gettok_c p.w ap hb hw hq hes hx hr hn).mono hnd hnu) F N rfl ?_
    rintro v tk h' n' F' N' ⟨x', rfl, hx', hv⟩
    exact q v _ h' tk (by rw [ok.lo]; exact Nat.zero_le _) ⟨x', rfl, hx', hv⟩ F' N') ok.hk (by exact rfl) (by decide))
noncomputable def othR (w : World) (c : LexP) (b : Str) (n : Led) (x : LX) : Led := ledX w c b [] x ++ n
theorem othR_same {w : World} {c : LexP} {b : Str} {n : Led} {x x' : LX} : ∀ q ∈ othR w c b n x', ∃ q0 ∈ othR w c b n x, q0.1 = q.1 := by
  intro q hq
  rcases List.mem_append.mp hq with hq | hq
  · have hq : q ∈ pack c (lexO w.params c true x'.st x'.tok x'.ln) (sioF w.params (c.κ 28) (c.κ 29) (c.κ 30) b (c.κ 31) x'.p x'.pt) (dqO x'.k x'.xs) [] := hq
    simp only [pack, List.mem_cons, List.not_mem_nil, or_false] at hq
    rcases hq with rfl | rfl | rfl | rfl | rfl | rfl | rfl
    · exact ⟨_, List.mem_append_left _ mem_SD, rfl⟩
    · exact ⟨_, List.mem_append_left _ mem_D, rfl⟩
    · exact ⟨_, List.mem_append_left _ mem_PC, rfl⟩
    · exact ⟨_, List.mem_append_left _ mem_S, rfl⟩
    · exact ⟨_, List.mem_append_left _ mem_X, rfl⟩
    · exact ⟨_, List.mem_append_left _ mem_PB, rfl⟩
    · exact ⟨_, List.mem_append_left _ mem_FS, rfl⟩
  · exact ⟨q, List.mem_append_right _ hq, rfl⟩
/-- the lexer's place ahead of all else, and back -/
theorem rd_toX {w : World} {c : LexP} {b : Str} {n L : Led} {x : LX} {PL TD : Addr} {σ : RS} (h : RdS c.PC (othR w c b n x) PL TD σ L) (ap : Apart c n) : ∃ r, Apart c r ∧ Kp (ledX w c b r x) L ∧ ∀ x', ∃ L', RdS c.PC (othR w c b n x') PL TD σ L' ∧ Kp L' (ledX w c b r x') := by
  obtain ⟨⟨k, k', as, l, ts, h1, h2, rfl, h4, h5, h6, h7⟩, hn, hb⟩ := id h
  refine ⟨(PL, listOf (as.reverse.map Value.ref).toArray k) :: (TD, listOf (strValues ts).toArray k') :: (l ++ n), ⟨ap.h1, ap.h2, ap.h3, ap.h4, ap.h5, ap.h6, fun p hp => ?_⟩, fun p hp => ?_, fun x' => ?_⟩
  · simp only [List.mem_cons, List.mem_append] at hp
    rcases hp with rfl | rfl | hp | hp
    · exact .inr hb.1
    · exact .inr hb.2
    · exact .inr (h7 p hp)
    · exact ap.h7 p hp
  · have hp : p ∈ ledX w c b [] x ++ ((PL, listOf (as.reverse.map Value.ref).toArray k) :: (TD, listOf (strValues ts).toArray k') :: (l ++ n)) := hp
    simp only [othR, List.mem_cons, List.mem_append] at hp ⊢
    rcases hp with h | h | h | h | h
    · exact .inr (.inr (.inr (.inl h)))
    · exact .inl h
    · exact .inr (.inl h)
    · exact .inr (.inr (.inl h))
    · exact .inr (.inr (.inr (.inr h)))
  · have ho := @othR_same w c b n x x'
    refine ⟨(PL, listOf (as.reverse.map Value.ref).toArray k) :: (TD, listOf (strValues ts).toArray k') :: (l ++ othR w c b n x'), ⟨⟨k, k', as, l, ts, h1, h2, rfl, fun p hp => ?_, h5, fun p hp q hq => ?_, h7⟩, hn, hb⟩, fun p hp => ?_⟩
    · rcases List.mem_append.mp hp with hp | hp
      · exact h4 p (List.mem_append_left _ hp)
      · obtain ⟨q0, hq0, e⟩ := ho p hp
        rw [← e]; exact h4 q0 (List.mem_append_right _ hq0)
    · obtain ⟨q0, hq0, e⟩ := ho q hq
      rw [← e]; exact h6 p hp q0 hq0
    · show p ∈ ledX w c b [] x' ++ ((PL, listOf (as.reverse.map Value.ref).toArray k) :: (TD, listOf (strValues ts).toArray k') :: (l ++ n))
      simp only [othR, List.mem_cons, List.mem_append] at hp ⊢
      rcases hp with h | h | h | h | h
      · exact .inr (.inl h)
      · exact .inr (.inr (.inl h))
      · exact .inr (.inr (.inr (.inl h)))
      · exact .inl h
      · exact .inr (.inr (.inr (.inr h)))
/-- a word goes to the innermost pile -/
theorem rd_word {p : Pl} {nd nu : Nat} (ok : (rdC p).Ok nd nu) {P : Flow → Mp → Led → Prop} {m : Mp} {L oth : Led} {B PL TD : Addr} {σ : RS} {tok : Str} {t : Tok} {rest : List Stmt} {ks : List (List Stmt)} {p1 p2 p3 p4 p5 p6 p7 p8 : Pos} {kk : Nat} (h : RdS B oth PL TD σ L) (hne : σ.1 ≠ []) (hsz : SzR σ)
    (mp : m (Str.ofString "piles") = some (.ref PL)) (mt : m (Str.ofString "token") = some (.str tok t)) (hline : (p6.endLine == p8.line) = true) (hsw : swapsWith (.Call (.Attribute (.Subscript (.Name (Str.ofString "piles") p1) (.UnaryOp .USub (.Constant (.int 1) kk p2) p3) p4) (Str.ofString "append") p6) [.Name (Str.ofString "token") p7] [] p8) none p5.line (rdC p).env = pure false)
    (fin : ∀ L', RdS B oth PL TD (rdWord σ tok) L' → Sts (rdC p) P m L' rest ks) : Sts (rdC p) P m L (.Expr (.Call (.Attribute (.Subscript (.Name (Str.ofString "piles") p1) (.UnaryOp .USub (.Constant (.int 1) kk p2) p3) p4) (Str.ofString "append") p6) [.Name (Str.ofString "token") p7] [] p8) p5 :: rest) ks := by
  obtain ⟨⟨k, k', as, l, ts, h1, h2, rfl, h4, h5, h6, h7⟩, hn, hb⟩ := h
  obtain ⟨σ1, σ2⟩ := σ
  dsimp only at h1 h2 hsz hne
  cases h1 with
  | nil => exact absurd rfl hne
  | @cons pp ps a as' ka l' ts1 ets1 hpr =>
  obtain ⟨hal, hmap⟩ := hpr.len
  have hz1 : (pp :: ps).length ≤ 1000 := hsz.1
  rw [List.length_cons] at hz1
  have hts1 : ts1.length ≤ 1000 := by have h := hsz.2.1 pp (.head _); rw [← ets1, List.length_map] at h; exact h
  have ea : (a :: as').reverse.map Value.ref = as'.reverse.map Value.ref ++ [Value.ref a] := by rw [List.reverse_cons, List.map_append]; rfl
  have nd := List.nodup_cons.mp h5
  have dA := h4 (a, listOf (strValues ts1).toArray ka) (.head _)
  refine Sts.append (D := a) (vs := strValues ts1) (k := ka) (R1 := fun v n' => Fits (.str tok) v ∧ n' = (PL, listOf ((a :: as').reverse.map Value.ref).toArray k) :: (TD, listOf (strValues ts).toArray k') :: (((a, listOf (strValues ts1).toArray ka) :: l') ++ oth)) (by exact rfl) hsw (by exact rfl) hline (by exact rfl) (by exact rfl) (Evp.lastL (D := PL) (vs := as'.reverse.map Value.ref) (x := .ref a) (by walk_at "ev") (by rw [ea]; exact .head _) (by rw [List.length_map, List.length_reverse]; (first | lia | omega)) rfl (by intro k u; exact rfl)) (.tail _ (.tail _ (.head _))) (by rw [strVal_len]; (first | lia | omega)) (Eve.loc ok.hk (by exact rfl) (by decide) mt ⟨⟨t, rfl⟩, rfl⟩) ?_
  rintro v _ ⟨⟨tv, rfl⟩, rfl⟩
  refine ⟨(PL, listOf ((a :: as').reverse.map Value.ref).toArray k) :: (TD, listOf (strValues ts).toArray k') :: (a, listOf (strValues ts1 ++ [Value.str tok tv]).toArray (ka + 1)) :: (l' ++ oth), .tail (Ne.symm dA.1) (.tail (Ne.symm dA.2) (.head fun p hp => ?_)), ?_⟩
  · have hp : p ∈ l' ++ oth := hp
    rcases List.mem_append.mp hp with hp | hp
    · exact fun e => nd.1 (List.mem_map.mpr ⟨p, hp, e⟩)
    · exact h6 (a, listOf (strValues ts1).toArray ka) (.head _) p hp
  · rw [← strVal_snoc]
    refine fin _ ⟨⟨k, k', a :: as', (a, listOf (strValues (ts1 ++ [(tok, tv)])).toArray (ka + 1)) :: l', ts, .cons (by rw [List.map_append, ets1]; rfl) hpr, h2, rfl, fun p hp => ?_, h5, fun p hp q hq => ?_, fun p hp => ?_⟩, hn, hb⟩
    · rcases List.mem_cons.mp hp with rfl | hp
      · exact dA
      · exact h4 p (.tail _ hp)
    · rcases List.mem_cons.mp hp with rfl | hp
      · exact h6 (a, listOf (strValues ts1).toArray ka) (.head _) q hq
      · exact h6 p (.tail _ hp) q hq
    · rcases List.mem_cons.mp hp with rfl | hp
      · exact h7 (a, listOf (strValues ts1).toArray ka) (.head _)
      · exact h7 p (.tail _ hp)
def RdF (S PL TD : Addr) (m : Mp) : Prop := m (Str.ofString "lexer") = some (.ref S) ∧ m (Str.ofString "piles") = some (.ref PL) ∧ m (Str.ofString "told") = some (.ref TD)
noncomputable def rdPre (ρ : RS) (y : Str) : Str × RS := if y = Str.ofString "" ∨ Txt.stripChars y (Str.ofString "()[]") ≠ Str.ofString "" then (Str.ofString "", rdWord ρ y) else (y, ρ)
theorem rdTok_pre (ρ : RS) (y : Str) : rdTok ρ y = (rdPre ρ y).1.cps.toList.foldl rdSign (rdPre ρ y).2 := by
  unfold rdTok rdPre
  split
  · rfl
  · rfl
theorem okT_pre {ρ : RS} {y : Str} (h : OkT ρ y) : OkL (rdPre ρ y).2 (rdPre ρ y).1.cps.toList := by
  have h2 := h.2
  unfold rdPre
  split
  · exact trivial
  · rename_i hn
    rw [if_neg hn] at h2
    exact h2
/-- the statement ahead of the signs -/
theorem rd_pre {p : Pl} {nd nu : Nat} (ok : (rdC p).Ok nd nu) {m : Mp} {L oth : Led} {B S PL TD : Addr} {ρ : RS} {y : Str} {t : Tok} (h : RdS B oth PL TD ρ L) (hy : OkT ρ y) (hF : RdF S PL TD m) (mt : m (Str.ofString "token") = some (.str y t)) :
    Sts (rdC p) (fun f m' n' => f = .next ∧ RdF S PL TD m' ∧ (∃ t', m' (Str.ofString "token") = some (.str (rdPre ρ y).1 t')) ∧ RdS B oth PL TD (rdPre ρ y).2 n') m L [rdBody.getD 0 (.Pass p0)] [] := by
  obtain ⟨hl, hp, htd⟩ := hF
  have hyl := hy.1
  refine Sts.ifp (Tsp.or2 (Tsp.cmp (by exact rfl) (p1 := .str y) (p2 := .str (Str.ofString "")) (by walk_at "ev") (by walk_at "ev") .eqS) fun _ => Tsp.cmp (by exact rfl) (p1 := .str (Txt.stripChars y (Str.ofString "()[]"))) (p2 := .str (Str.ofString "")) (Evp.smeth1 (by exact rfl) (by exact rfl) (by exact rfl) (fun t n => gm_strip) (by walk_at "ev") (p := .str (Str.ofString "()[]")) (by walk_at "ev") fun t v fv => ?_) (by walk_at "ev") .neS) (fun h1 => ?_) fun h1 => ?_
  · obtain ⟨u, rfl⟩ := fv
    exact Cm.stripM (by (first | lia | omega)) fun t => ⟨⟨t, rfl⟩, Kp.rfl⟩
  · have h' : y = Str.ofString "" ∨ Txt.stripChars y (Str.ofString "()[]") ≠ Str.ofString "" := by
      rw [Bool.or_eq_true] at h1
      exact h1.imp beq_iff_eq.mp bne_iff_ne.mp
    have hy2 := hy.2
    rw [if_pos h'] at hy2
    have e : rdPre ρ y = (Str.ofString "", rdWord ρ y) := if_pos h'
    rw [e]
    refine rd_word ok h hy2.2 hy2.1 hp mt (by exact rfl) (by exact rfl) fun L' hL' => ?_
    refine Sts.asgp ok.hk (by exact rfl) (by exact rfl) (p := .str (Str.ofString "")) (by walk_at "ev") fun v fv => ?_
    obtain ⟨u, rfl⟩ := fv
    exact Sts.pop (Sts.nil ⟨rfl, ⟨by walk_at "lk", by walk_at "lk", by walk_at "lk"⟩, ⟨u, by walk_at "lk"⟩, hL'⟩)
  · have h' : ¬ (y = Str.ofString "" ∨ Txt.stripChars y (Str.ofString "()[]") ≠ Str.ofString "") := by
      rw [Bool.or_eq_false_iff] at h1
      rintro (e | e)
      · rw [e] at h1; exact absurd h1.1 (by decide)
      · exact e (by simpa using h1.2)
    have e : rdPre ρ y = (y, ρ) := if_neg h'
    rw [e]
    exact Sts.pop (Sts.nil ⟨rfl, ⟨hl, hp, htd⟩, ⟨t, mt⟩, h⟩)
/-- the signs of the token -/
theorem rd_for {p : Pl} {nd nu : Nat} (ok : (rdC p).Ok nd nu) (hnd : 60 ≤ nd) (hnu : 900 ≤ nu) {m : Mp} {L oth : Led} {B S PL TD : Addr} {ρ : RS} {z : Str} {t : Tok} (h : RdS B oth PL TD ρ L) (hz : OkL ρ z.cps.toList) (hF : RdF S PL TD m) (mt : m (Str.ofString "token") = some (.str z t)) :
    Sts (rdC p) (fun f m' n' => f = .next ∧ RdF S PL TD m' ∧ RdS B oth PL TD (z.cps.toList.foldl rdSign ρ) n') m L [rdBody.getD 1 (.Pass p0)] [] := by
  refine Sts.for (by exact rfl) (by exact rfl) (fun _ => by exact rfl) (R := fun v n' => v = .str z t ∧ n' = L) (Eve.loc ok.hk (by exact rfl) (by decide) mt ⟨rfl, rfl⟩) ?_
  rintro _ _ ⟨rfl, rfl⟩
  refine ForAt.str ok.hh rfl (fun i m' nx => RdF S PL TD m' ∧ RdS B oth PL TD ((z.cps.toList.take i).foldl rdSign ρ) nx) ⟨hF, by rw [List.take_zero]; exact h⟩ ?_ ?_
  · rintro i c tc m1 nx own I hc ⟨⟨f1, f2, f3⟩, hS⟩ hown hI hIo
    have hc' : z.cps.toList[i]? = some c := by rw [Array.getElem?_toList]; exact hc
    obtain ⟨ok1, ok2⟩ := okL_at hz hc'
    have e : (z.cps.toList.take (i + 1)).foldl rdSign ρ = rdSign ((z.cps.toList.take i).foldl rdSign ρ) c := by
      rw [List.take_add_one, hc', List.foldl_append]; rfl
    rw [e]
    have hoI : ∀ p ∈ oth, p.1 ≠ I := fun p hp => by
      obtain ⟨⟨k, k', as, l, ts, _, _, rfl, _⟩, _⟩ := hS
      exact hI p (.tail _ (.tail _ (List.mem_append_right _ hp)))
    refine rd_sign ok hnd hnu (RdS.own hS hown hI) ok1 ok2 (by walk_at "lk") (by walk_at "lk") (by walk_at "lk") fun L' hL' => ?_
    obtain ⟨nx', h1, h2, h3⟩ := RdS.off hL' hIo hoI
    exact ⟨nx', ⟨⟨by walk_at "lk", by walk_at "lk", by walk_at "lk"⟩, h1⟩, h2, h3⟩
  · rintro m1 nx ⟨hF1, hS⟩
    rw [List.take_of_length_le (by rw [Array.length_toList]; exact Nat.le_refl _)] at hS
    exact Sts.nil ⟨rfl, hF1, hS⟩
/-- between the turns of the while -/
def RdJ (w : World) (c : LexP) (b : Str) (n : Led) (PL TD : Addr) (fin : RS) (k : Nat) (m : Mp) (nx : Led) : Prop :=
  ∃ x σ ρ, RdF c.S PL TD m ∧ AbsX x σ ∧ RdS c.PC (othR w c b n x) PL TD ρ nx ∧ ((k = 0 ∧ m (Str.ofString "token") = some .none ∧ ρ = fin) ∨ ∃ y ys t, k = ys.length + 1 ∧ m (Str.ofString "token") = some (.str y t) ∧ OkTs ρ (y :: ys) ∧ Chn b σ ys ∧ (y :: ys).foldl rdTok ρ = fin)
theorem rd_next {p : Pl} {nd nu : Nat} (ok : (rdC p).Ok nd nu) (hnd : 200 ≤ nd) (hnu : 2000 ≤ nu) {P : Flow → Mp → Led → Prop} {m : Mp} {c : LexP} {b : Str} {n L : Led} {x : LX} {σ : AS} {PL TD : Addr} {ρ fin : RS} {ys : List Str} {rest : List Stmt} {ks : List (List Stmt)} {p1 p2 p3 p4 p5 : Pos} (ap : Apart c n) (hb : b.length ≤ 100000) (hx : AbsX x σ) (hc : Chn b σ ys) (hS : RdS c.PC (othR p.w c b n x) PL TD ρ L) (hok : OkTs ρ ys) (hfin : ys.foldl rdTok ρ = fin) (hF : RdF c.S PL TD m) (hline : (p2.endLine == p3.line) = true)
    (hsw : swapsWith (.Call (.Attribute (.Name (Str.ofString "lexer") p1) (Str.ofString "get_token") p2) [] [] p3) (some (.Name (Str.ofString "token") p4)) p5.line (rdC p).env = pure false)
    (h : ∀ m' nx', RdJ p.w c b n PL TD fin ys.length m' nx' → Sts (rdC p) P m' nx' rest ks) : Sts (rdC p) P m L (.Assign [.Name (Str.ofString "token") p4] (.Call (.Attribute (.Name (Str.ofString "lexer") p1) (Str.ofString "get_token") p2) [] [] p3) p5 :: rest) ks := by
  obtain ⟨hl, hp, ht⟩ := hF
  obtain ⟨r, apr, kr, back⟩ := rd_toX hS ap
  cases hc with
  | done hw hq hes hr hn hV =>
    refine Sts.asg ok.hk (by exact rfl) hsw (Cm.sub (rd_get ok hnd hnu apr hb hw hq hes hx hr hn hl hline) kr) ?_
    rintro v _ ⟨x', rfl, hx', hv⟩
    rw [hV] at hv
    cases hv
    obtain ⟨L', hL', kL⟩ := back x'
    exact Sts.sub (h _ _ ⟨x', _, ρ, ⟨by walk_at "lk", by walk_at "lk", by walk_at "lk"⟩, hx', hL', .inl ⟨rfl, by walk_at "lk", hfin⟩⟩) kL
  | tok hw hq hes hr hn hV hc' =>
    refine Sts.asg ok.hk (by exact rfl) hsw (Cm.sub (rd_get ok hnd hnu apr hb hw hq hes hx hr hn hl hline) kr) ?_
    rintro v _ ⟨x', rfl, hx', hv⟩
    rw [hV] at hv
    obtain ⟨t, rfl⟩ := hv
    obtain ⟨L', hL', kL⟩ := back x'
    exact Sts.sub (h _ _ ⟨x', _, ρ, ⟨by walk_at "lk", by walk_at "lk", by walk_at "lk"⟩, hx', hL', .inr ⟨_, _, t, rfl, by walk_at "lk", hok, hc', hfin⟩⟩) kL
noncomputable def σ0 : AS := ⟨some (oS " "), oS "", false, oS " ", 0, none⟩
def RdP (n : Led) (told : List Str) (f : Flow) (_ : Mp) (n' : Led) : Prop := ∃ TD oT, f = .ret (.ref TD) ∧ TxAt TD told oT ∧ Kp (oT :: n) n' ∧ ∀ p ∈ n, p.1 ≠ TD
theorem rd_sx {p : Pl} {nd nu : Nat} (ok : (rdC p).Ok nd nu) (hnd : 260 ≤ nd) (hnu : 4000 ≤ nu) {m : Mp} {n : Led} {b : Str} {t : Tok} {toks : List Str} (hb : b.length ≤ 100000) (hc : Chn b σ0 toks) (hok : OkTs ([[Str.ofString "("]], []) toks) (hm : m (Str.ofString "text") = some (.str b t)) :
    Sts (rdC p) (RdP n (toks.foldl rdTok ([[Str.ofString "("]], [])).2) m n b47 [] := by
  refine Sts.asg ok.hk (by exact rfl) (by exact rfl) (R := fun v n' => ∃ c x0, v = .ref c.S ∧ Apart c n ∧ n' = othR p.w c b n x0 ∧ AbsX x0 σ0) (Eve.own ok ns_lexer (by exact rfl) (by decide) keep874 (by exact rfl) (by exact rfl) (by exact rfl) (Sq.consp (p := .str b) (by exact rfl) (by walk_at "ev") fun v1 f1 => Sq.nil ?_)) ?_
  · obtain ⟨u, rfl⟩ := f1
    refine Cm.ctr ok (lexer_c p.w b u hb) hnd hnu trivial ?_
    rintro v n' ⟨c, ks, kt, kl, pt, rfl, ap, rfl⟩
    exact ⟨c, _, rfl, ap, rfl, ⟨ks, rfl⟩, ⟨kt, rfl⟩, ⟨1, kl, rfl⟩, rfl, rfl⟩
  rintro _ _ ⟨c, x0, rfl, ap, rfl, hx0⟩
  refine Sts.asg ok.hk (by exact rfl) (by exact rfl) (R := fun v n' => ∃ PL P0 tp, v = .ref PL ∧ (∀ z ∈ othR p.w c b n x0, z.1 < P0) ∧ P0 < PL ∧ n' = (PL, listOf [Value.ref P0].toArray 0) :: (P0, listOf (strValues [(Str.ofString "(", tp)]).toArray 0) :: othR p.w c b n x0) (Eve.list (R1 := fun vs n' => ∃ P0 tp, vs = [Value.ref P0] ∧ (∀ z ∈ othR p.w c b n x0, z.1 < P0) ∧ n' = (P0, listOf (strValues [(Str.ofString "(", tp)]).toArray 0) :: othR p.w c b n x0) (Sq.cons (R1 := fun v n' => ∃ P0 tp, v = .ref P0 ∧ (∀ z ∈ othR p.w c b n x0, z.1 < P0) ∧ n' = (P0, listOf (strValues [(Str.ofString "(", tp)]).toArray 0) :: othR p.w c b n x0) (by exact rfl) (Eve.list (R1 := fun vs n' => ∃ tp, vs = strValues [(Str.ofString "(", tp)] ∧ n' = othR p.w c b n x0) (Sq.consp (by exact rfl) (p := .str (Str.ofString "(")) (by walk_at "ev") fun v fv => Sq.nil ?_) ?_) ?_) ?_) ?_
  · obtain ⟨tp, rfl⟩ := fv
    exact ⟨tp, rfl, rfl⟩
  · rintro _ _ ⟨tp, rfl, rfl⟩
    exact ⟨by rw [strVal_len]; show 1 ≤ 1000; decide, fun D lt => ⟨D, tp, rfl, lt, rfl⟩⟩
  · rintro _ _ ⟨P0, tp, rfl, lt, rfl⟩
    exact Sq.nil ⟨P0, tp, rfl, lt, rfl⟩
  · rintro _ _ ⟨P0, tp, rfl, lt, rfl⟩
    exact ⟨by show 1 ≤ 1000; decide, fun D lt2 => ⟨D, P0, tp, rfl, lt, lt2 _ (.head _), rfl⟩⟩
  rintro _ _ ⟨PL, P0, tp, rfl, lt0, ltP, rfl⟩
  refine Sts.asg ok.hk (by exact rfl) (by exact rfl) (Eve.nilL (R := fun v n' => ∃ TD, v = .ref TD ∧ PL < TD ∧ n' = (TD, listOf #[] 0) :: (PL, listOf [Value.ref P0].toArray 0) :: (P0, listOf (strValues [(Str.ofString "(", tp)]).toArray 0) :: othR p.w c b n x0) fun D lt => ⟨D, rfl, lt _ (.head _), rfl⟩) ?_
  rintro _ _ ⟨TD, rfl, ltT, rfl⟩
  have hPC : @LT.lt Nat _ c.PC P0 := lt0 _ (List.mem_append_left _ mem_PC)
  have hS : RdS c.PC (othR p.w c b n x0) PL TD ([[Str.ofString "("]], []) ((PL, listOf ([P0].reverse.map Value.ref).toArray 0) :: (TD, listOf (strValues []).toArray 0) :: ([(P0, listOf (strValues [(Str.ofString "(", tp)]).toArray 0)] ++ othR p.w c b n x0)) := by
    refine ⟨⟨0, 0, [P0], [(P0, listOf (strValues [(Str.ofString "(", tp)]).toArray 0)], [], .cons rfl .nil, rfl, rfl, fun q hq => ?_, List.nodup_cons.mpr ⟨fun h => (by cases h), List.nodup_nil⟩, fun q hq q2 hq2 => ?_, fun q hq => ?_⟩, Nat.ne_of_lt ltT, Nat.lt_trans hPC ltP, Nat.lt_trans hPC (Nat.lt_trans ltP ltT)⟩
    · rcases List.mem_cons.mp hq with rfl | hq
      · exact ⟨Nat.ne_of_lt ltP, Nat.ne_of_lt (Nat.lt_trans ltP ltT)⟩
      · have := lt0 q hq
        exact ⟨Nat.ne_of_lt (Nat.lt_trans this ltP), Nat.ne_of_lt (Nat.lt_trans this (Nat.lt_trans ltP ltT))⟩
    · rw [List.mem_singleton.mp hq]; exact Nat.ne_of_lt (lt0 q2 hq2)
    · rw [List.mem_singleton.mp hq]; exact hPC
  have kp : Kp ((PL, listOf ([P0].reverse.map Value.ref).toArray 0) :: (TD, listOf (strValues []).toArray 0) :: ([(P0, listOf (strValues [(Str.ofString "(", tp)]).toArray 0)] ++ othR p.w c b n x0)) ((TD, listOf #[] 0) :: (PL, listOf [Value.ref P0].toArray 0) :: (P0, listOf (strValues [(Str.ofString "(", tp)]).toArray 0) :: othR p.w c b n x0) := fun q hq => by
    rcases List.mem_cons.mp hq with rfl | hq
    · exact .tail _ (.head _)
    · rcases List.mem_cons.mp hq with rfl | hq
      · exact .head _
      · exact .tail _ (.tail _ hq)
  refine Sts.sub ?_ kp
  clear kp lt0 ltP ltT hPC
  refine rd_next ok (by (first | lia | omega)) (by (first | lia | omega)) ap hb hx0 hc hS hok rfl ⟨by walk_at "lk", by walk_at "lk", by walk_at "lk"⟩ (by exact rfl) (by exact rfl) fun m1 n1 hJ => ?_
  clear hS hx0 hc hok
  refine Sts.while rfl (RdJ p.w c b n PL TD (toks.foldl rdTok ([[Str.ofString "("]], []))) (fun m' n' => m' (Str.ofString "told") = some (.ref TD) ∧ ∃ x L', RdS c.PC (othR p.w c b n x) PL TD (toks.foldl rdTok ([[Str.ofString "("]], [])) L' ∧ Kp L' n') hJ ?_ ?_
  · rintro i m2 n2 ⟨x, σ, ρ, ⟨f1, f2, f3⟩, hx, hS, ⟨rfl, ht, rfl⟩ | ⟨y, ys, ty, rfl, ht, hok, hc, hfin⟩⟩
    · exact Tst.mono (Tsp.cmp (b := false) (by exact rfl) (p1 := .non) (p2 := .non) (Evp.loc ok.hk (by exact rfl) (by decide) ht .non) Evp.non .ntN) fun b n3 e => ⟨fun h => absurd (e.1.symm.trans h) Bool.false_ne_true, fun _ => ⟨f3, x, n2, hS, e.2⟩⟩
    · refine Tst.mono (Tsp.cmp (b := true) (by exact rfl) (p1 := .str y) (p2 := .non) (Evp.loc ok.hk (by exact rfl) (by decide) ht .str) Evp.non .ntS) fun b3 n3 e => ⟨fun _ => Sts.sub ?_ e.2, fun h => absurd (e.1.symm.trans h) (by decide)⟩
      refine Sts.cut (R := fun m' n' => RdF c.S PL TD m' ∧ (∃ t', m' (Str.ofString "token") = some (.str (rdPre ρ y).1 t')) ∧ RdS c.PC (othR p.w c b n x) PL TD (rdPre ρ y).2 n') (Sts.mono (rd_pre ok hS hok.1 ⟨f1, f2, f3⟩ ht) ?_) rfl ?_
      · rintro f m' n' ⟨rfl, h⟩
        exact h
      rintro m3 n4 ⟨hF3, ⟨t3, ht3⟩, hS3⟩
      refine Sts.cut (R := fun m' n' => RdF c.S PL TD m' ∧ RdS c.PC (othR p.w c b n x) PL TD (rdTok ρ y) n') (Sts.mono (rd_for ok (by (first | lia | omega)) (by (first | lia | omega)) hS3 (okT_pre hok.1) hF3 ht3) ?_) rfl ?_
      · rintro f m' n' ⟨rfl, h1, h2⟩
        rw [rdTok_pre]
        exact ⟨h1, h2⟩
      rintro m4 n5 ⟨hF4, hS4⟩
      exact rd_next ok (by (first | lia | omega)) (by (first | lia | omega)) ap hb hx hc hS4 hok.2 hfin hF4 (by exact rfl) (by exact rfl) fun m5 n6 hJ5 => Sts.nil ⟨_, Nat.lt_succ_self _, hJ5⟩
  · rintro m2 n2 ⟨ht, x, _, ⟨⟨k, k', as, l, ts, _, h2, rfl, h4, _⟩, _⟩, kL⟩
    refine Sts.sub ?_ kL
    refine Sts.ret (R := fun v n' => v = .ref TD ∧ n' = (PL, listOf (as.reverse.map Value.ref).toArray k) :: (TD, listOf (strValues ts).toArray k') :: (l ++ othR p.w c b n x)) (Eve.loc ok.hk (by exact rfl) (by decide) ht ⟨rfl, rfl⟩) ?_
    rintro _ _ ⟨rfl, rfl⟩
    refine ⟨TD, _, rfl, ⟨k', ts, h2, rfl⟩, fun q hq => ?_, fun q hq => (h4 q (List.mem_append_right _ (List.mem_append_right _ hq))).2⟩
    rcases List.mem_cons.mp hq with rfl | hq
    · exact .tail _ (.head _)
    · exact .tail _ (.tail _ (List.mem_append_right _ (List.mem_append_right _ hq)))
theorem read_law_c (w : World) (b : Str) (t : Tok) (toks : List Str) (hb : b.length ≤ 100000) (hc : Chn b σ0 toks) (hok : OkTs ([[Str.ofString "("]], []) toks) :
    Ctr w 881 270 4100 [.str b t] (fun _ => True) (fun l v l' => ∃ TD oT, v = .ref TD ∧ TxAt TD (toks.foldl rdTok ([[Str.ofString "("]], [])).2 oT ∧ (∀ p ∈ l, p.1 ≠ TD) ∧ l' = oT :: l) := by
  intro dp un gd cn cs a ccd cl outer A₀ base h₀ L m news s mg mb mean Q E B F X N T0 hk hd hu hpre ret
  obtain ⟨sh, sg, sd, stk, so⟩ := s
  dsimp only at F N ret
  refine wpAny_call ?_
  k_dflt (refine' code_def (binds := [(Str.ofString "text", .str b t)]) B F X N T0 ?kA ?kF ?kK ?k6 ?k7 ?k8 ?k9 ?kB ?_ ?c2 ?c3 ?c4 ?c5; (case kA => exact rfl); (case kF => exact rfl); (case kK => assumption); (case k6 => k_is); (case k7 => k_is); (case k8 => ktr_room); (case k9 => exact BindsTo.of_eq rfl); (case c5 => decide); (case kB => exact locs rfl); (case c2 => exact rfl); (case c3 => exact rfl); (case c4 => exact rfl); k_whole; intro g' L' h' FG' F' N' B' X' T'; (try dsimp only); (try k_fold))
  have hE : PassesOwn (model pw w) (ktrTop (dp + 1) (un + 3) gd (Str.ofString "_law_read") c47 L' 881 (.ref 880) [] (envX cn cs L a ccd cl :: outer)) (rdC ⟨w, ktrTop (dp + 1) (un + 3) gd (Str.ofString "_law_read") c47 L' 881 (.ref 880) [] (envX cn cs L a ccd cl :: outer), L', 881, .ref 880, g'⟩).env ek := by passes_own
  have hdp : (ktrTop dp un gd cn cs L a ccd cl outer).depth = dp := rfl
  have hun : (ktrTop dp un gd cn cs L a ccd cl outer).units = un := rfl
  refine rd_sx (p := ⟨w, ktrTop (dp + 1) (un + 3) gd (Str.ofString "_law_read") c47 L' 881 (.ref 880) [] (envX cn cs L a ccd cl :: outer), L', 881, .ref 880, g'⟩) (Cx.ok (nd := 268) (nu := 4090) B' X' T' (by exact rfl) (by (first | lia | omega)) (by (first | lia | omega))) (by (first | lia | omega)) (by (first | lia | omega)) hb hc hok (by exact rfl) hE (Nat.zero_le _) F' N' ?_
  rintro f m' n' h2 tk ⟨TD, oT, rfl, hT, kp, hne⟩ F2 N2
  refine ⟨_, _, _, F2, N2, fun kF kN => ?_⟩
  exact ret _ tk h2 _ kF (news_sub kN kp) ⟨TD, oT, rfl, hT, hne, rfl⟩
open PySem PySem.W PySem.Calls PyProof.Rows
noncomputable def starts : List Str := [Str.ofString "/it's/a", Str.ofString "//a/..", Str.ofString "../../a", Str.ofString ""]
noncomputable def told0 : RS := ([[Str.ofString "("]], [])
/-- what the plain law says of the tree -/
structure Fit (c : Nat) (ks : Ks) : Prop where
  depth : ks.depth ≤ 4
  size : ks.size ≤ 29
  words : ∀ x ∈ ks.words, x.length ≤ 60
  gok : ks.gok
  text : ∃ toks, Chn (chS c ++ ks.wrt ++ closeS c) σ0 toks ∧ OkTs told0 toks ∧ (toks.foldl rdTok told0).2 = ks.told ++ [walkF ks.words]
  short : (walkF ks.words).length ≤ 900
  walk : ∀ s ∈ starts, normF (joinF s (walkF ks.words)) = walkF (s :: ks.words)
theorem starts_len : ∀ s ∈ starts, s.length ≤ 7 := by
  intro s hs
  unfold starts at hs
  simp only [List.mem_cons, List.not_mem_nil, or_false] at hs
  rcases hs with rfl | rfl | rfl | rfl <;> decide
theorem fill26 : PySem.Challenge.rw_kl0186_01 = PySem.Challenge.rw_kl0186_01 ∧ K = K := by
  w_on
  k_fill
  exact ⟨rfl, rfl⟩
theorem ns_tree {P : Params} : nsIn (K P) mainGlobals (Str.ofString "_law_tree") = some (some (.ref 848)) := by kernel_rfl
theorem ns_read {P : Params} : nsIn (K P) mainGlobals (Str.ofString "_law_read") = some (some (.ref 881)) := by kernel_rfl
theorem keep848 {P : Params} : keepIn (K P) (.ref 848) = true := by kernel_rfl
theorem keep881 {P : Params} : keepIn (K P) (.ref 881) = true := by kernel_rfl
noncomputable abbrev lwC (p : Pl) : Cx := ⟨p.w, p.A, Str.ofString "law", c50, p.L, p.a, p.cd, p.h₀, 0⟩
/-- the frame and the ledger of the last loop -/
def LwJ (W TD : Addr) (oW oT : Addr × Obj) (m : Mp) (n : Led) : Prop :=
  m (Str.ofString "told") = some (.ref TD) ∧ m (Str.ofString "words") = some (.ref W) ∧ oW ∈ n ∧ oT ∈ n
noncomputable def lwBody : List Stmt := forBody (b50.getD 5 (.Pass p0))
theorem lw_turn {p : Pl} {nd nu : Nat} (ok : (lwC p).Ok nd nu) (hnd : 100 ≤ nd) (hnu : 1000 ≤ nu) {P : Flow → Mp → Led → Prop} {c : Nat} {ks : Ks} (ft : Fit c ks) {W TD : Addr} {oW oT : Addr × Obj} (hW : TxAt W ks.words oW) (hT : TxAt TD (ks.told ++ [walkF ks.words]) oT)
    {m : Mp} {n : Led} {s : Str} {t : Tok} (hs : s ∈ starts) (hJ : LwJ W TD oW oT m n) (ms : m (Str.ofString "start") = some (.str s t)) (fin : P .next m n) : Sts (lwC p) P m n lwBody [] := by
  obtain ⟨h1, h2, h3, h4⟩ := hJ
  obtain ⟨kw, wp, ew, rfl⟩ := hW
  obtain ⟨kt, tp, et, rfl⟩ := hT
  have hsl := starts_len s hs
  have hsh := ft.short
  have hwk := ft.walk s hs
  have htl := told_le ks
  have hwl := words_le ks
  have hsz := ft.size
  have ewl := congrArg List.length ew
  have etl := congrArg List.length et
  rw [List.length_map] at ewl etl
  rw [List.length_append, List.length_singleton] at etl
  obtain ⟨init, last, rfl⟩ : ∃ init last, tp = init ++ [last] := by
    rcases List.eq_nil_or_concat tp with rfl | ⟨i, l, e⟩
    · exact absurd etl (by show ¬ (0 = _ + 1); (first | lia | omega))
    · exact ⟨i, l, by rw [e, List.concat_eq_append]⟩
  obtain ⟨y, ty⟩ := last
  rw [List.map_append] at et
  have ey : y = walkF ks.words := by
    have := congrArg List.getLast? et
    rw [List.getLast?_concat] at this
    exact Option.some.inj ((List.getLast?_concat ..).symm.trans this)
  subst ey
  rw [strVal_snoc] at h4
  rw [List.length_append, List.length_singleton] at etl
  refine Sts.ite (RT := fun b n' => b = false ∧ Kp n n') (Tst.cmpG (by exact rfl) (R1 := Is (.str (normF (joinF s (walkF ks.words)))) n) (Eve.own ok ns_norm (by exact rfl) (by decide) keep147 (by exact rfl) (by exact rfl) (by exact rfl) (Sq.consp (p := .str (joinF s (walkF ks.words))) (by exact rfl) (Eve.own ok ns_join (by exact rfl) (by decide) keep133 (by exact rfl) (by exact rfl) (by exact rfl) (Sq.consp (p := .str s) (by exact rfl) (by walk_at "ev") fun v1 f1 => Sq.consp (p := .str (walkF ks.words)) (by exact rfl) (Evp.lastL (by walk_at "ev") h4 (by rw [strVal_len]; (first | lia | omega)) ⟨ty, rfl⟩ (by intro k u; exact rfl)) fun v2 f2 => Sq.nil ?_)) fun v3 f3 => Sq.nil ?_)) ?_) ?_
  · obtain ⟨t1, rfl⟩ := f1
    obtain ⟨t2, rfl⟩ := f2
    refine Cm.ctr ok (join_c p.w _ _ _ _ (by (first | lia | omega)) (by (first | lia | omega))) (by (first | lia | omega)) (by (first | lia | omega)) trivial ?_
    rintro v n' ⟨⟨u, rfl⟩, rfl⟩
    exact ⟨⟨u, rfl⟩, Kp.rfl⟩
  · obtain ⟨t3, rfl⟩ := f3
    refine Cm.ctr ok (normpath_c p.w _ _ (by have := joinF_len s (walkF ks.words); (first | lia | omega))) (by (first | lia | omega)) (by (first | lia | omega)) trivial ?_
    rintro v n' ⟨u, rfl, rfl⟩
    exact ⟨⟨u, rfl⟩, Kp.rfl⟩
  · rintro v n1 ⟨⟨t4, rfl⟩, k1⟩
    refine Cm.mono (R := fun v n' => (∃ t, v = .str (walkF (s :: ks.words)) t) ∧ Kp n1 n') (Eve.own ok ns_walk (by exact rfl) (by decide) keep888 (by exact rfl) (by exact rfl) (by exact rfl) (Sq.cons (R1 := fun v n' => ∃ D ts, v = .ref D ∧ (D, listOf (strValues ((s, ts) :: wp)).toArray 0) ∈ n' ∧ Kp n1 n') (by exact rfl) (Eve.bin (R1 := fun v n' => ∃ D ts, v = .ref D ∧ (D, listOf (strValues [(s, ts)]).toArray 0) ∈ n' ∧ Kp n1 n') (R2 := fun a v n' => v = .ref W ∧ (∃ D ts, a = .ref D ∧ (D, listOf (strValues [(s, ts)]).toArray 0) ∈ n') ∧ Kp n1 n') (Eve.list (R1 := fun vs n' => ∃ ts, vs = strValues [(s, ts)] ∧ Kp n1 n') (Sq.consp (p := .str s) (by exact rfl) (by walk_at "ev") fun v5 f5 => Sq.nil ?_) ?_) ?_ ?_) ?_)) ?_
    · obtain ⟨t5, rfl⟩ := f5
      exact ⟨t5, rfl, Kp.rfl⟩
    · rintro _ n2 ⟨ts, rfl, k2⟩
      exact ⟨by rw [strVal_len]; show 1 ≤ 1000; decide, fun D lt => ⟨D, ts, rfl, .head _, k2.trans Kp.cons⟩⟩
    · rintro _ n2 ⟨D, ts, rfl, hD, k2⟩
      exact Eve.loc ok.hk (by exact rfl) (by decide) (by walk_at "lk") ⟨rfl, ⟨D, ts, rfl, hD⟩, k2⟩
    · rintro _ n2 _ n3 _ ⟨rfl, ⟨D, ts, rfl, hD⟩, k2⟩
      refine Cm.addL hD (k2 _ (k1 _ h3)) (by rw [strVal_len, strVal_len]; show 1 + _ ≤ _; (first | lia | omega)) fun D2 lt => ⟨D2, ts, rfl, .head _, k2.trans Kp.cons⟩
    · rintro _ n2 ⟨D, ts, rfl, hD, k2⟩
      refine Sq.nil (Cm.ctr ok (walk_c p.w D 0 ((s, ts) :: wp) (by rw [List.length_cons]; (first | lia | omega)) ?_) (by (first | lia | omega)) (by (first | lia | omega)) hD ?_)
      · intro q hq
        rcases List.mem_cons.mp hq with rfl | hq
        · exact Nat.le_trans hsl (by decide)
        · exact ft.words _ (ew ▸ List.mem_map_of_mem (f := fun p : Str × Tok => p.1) hq)
      · rintro v n' ⟨⟨u, rfl⟩, rfl⟩
        rw [List.map_cons, ew]
        exact ⟨⟨u, rfl⟩, k2⟩
    · intro v6 n2 e6
      obtain ⟨⟨u, rfl⟩, k2⟩ := e6
      intro E s2 Q h0 F N q
      have hc : Cmp .NotEq (.str (normF (joinF s (walkF ks.words)))) (.str (walkF (s :: ks.words))) false := by
        have h : (walkF (s :: ks.words) != walkF (s :: ks.words)) = false := bne_self_eq_false _
        rw [hwk, ← h]
        exact .neS
      exact cmp_ok hc ⟨t4, rfl⟩ ⟨u, rfl⟩ (q _ n2 s2.heap s2.toks h0 ⟨false, rfl, rfl, k1.trans k2⟩ F N)
  · rintro b n1 ⟨rfl, k⟩
    exact ⟨fun h => (by cases h), fun _ => Sts.sub (Sts.pop (Sts.nil fin)) k⟩
def LwP (f : Flow) (_ : Mp) (_ : Led) : Prop := f = .ret (.bool true)
theorem law_sx {p : Pl} {nd nu : Nat} (ok : (lwC p).Ok nd nu) (hnd : 300 ≤ nd) (hnu : 5000 ≤ nu) {c : Nat} {ks : Ks} (ft : Fit c ks) {SA : Addr}
    (hT : ∀ m n, Cm (lwC p) m n (call (.ref 848) [.ref SA]) fun v n' => ∃ TOP t k us, v = .ref TOP ∧ Kp n n' ∧ (TOP, listOf (.str (chS c) t :: us).toArray k) ∈ n' ∧ RepK n' us ks)
    {m : Mp} (ms : m (Str.ofString "script") = some (.ref SA)) : Sts (lwC p) LwP m [] b50 [] := by
  have hsz := ft.size
  have htl := told_le ks
  refine Sts.asg ok.hk (by exact rfl) (by exact rfl) (R := fun v n' => ∃ TOP t k us, v = .ref TOP ∧ (TOP, listOf (.str (chS c) t :: us).toArray k) ∈ n' ∧ RepK n' us ks) (Eve.own ok ns_tree (by exact rfl) (by decide) keep848 (by exact rfl) (by exact rfl) (by exact rfl) (Sq.consp (p := .ref SA) (by exact rfl) (by walk_at "ev") fun v1 f1 => Sq.nil ?_)) ?_
  · cases f1
    refine Cm.mono (hT _ _) ?_
    rintro v n' ⟨TOP, t, k, us, h1, _, h3, h4⟩
    exact ⟨TOP, t, k, us, h1, h3, h4⟩
  clear hT
  rintro _ n1 ⟨TOP, t, k, us, rfl, hm, hr⟩
  refine Sts.asg ok.hk (by exact rfl) (by exact rfl) (Eve.nilL (R := fun v n' => ∃ DU, v = .ref DU ∧ (∀ p ∈ n1, p.1 < DU) ∧ n' = (DU, listOf #[] 0) :: n1) fun D lt => ⟨D, rfl, lt, rfl⟩) ?_
  rintro _ _ ⟨DU, rfl, lt, rfl⟩
  refine Sts.asg ok.hk (by exact rfl) (by exact rfl) (R := fun v n' => ∃ W oW oT, v = .ref W ∧ TxAt W ks.words oW ∧ TxAt DU ([] ++ ks.told ++ [walkF ks.words]) oT ∧ W ≠ DU ∧ (∀ p ∈ n1, p.1 ≠ W) ∧ n' = oW :: oT :: n1) (Eve.own ok ns_due (by exact rfl) (by decide) keep895 (by exact rfl) (by exact rfl) (by exact rfl) (Sq.consp (p := .ref TOP) (by exact rfl) (by walk_at "ev") fun v1 f1 => Sq.consp (p := .ref DU) (by exact rfl) (by walk_at "ev") fun v2 f2 => Sq.nil ?_)) ?_
  · cases f1
    cases f2
    exact Cm.ctr ok (due_c p.w 4 ks TOP DU c t k us n1 [] (DU, listOf #[] 0) ft.depth (by (first | lia | omega)) ft.words (by show 0 + _ ≤ _; (first | lia | omega)) ⟨0, [], rfl, rfl⟩ (fun q hq => Nat.ne_of_lt (lt q hq)) hm hr) (by (first | lia | omega)) (by (first | lia | omega)) rfl fun v n' h => h
  rintro _ _ ⟨W, oW, oT, rfl, hW, hT, _, _, rfl⟩
  rw [List.nil_append] at hT
  have k1 : Kp n1 (oW :: oT :: n1) := fun q hq => .tail _ (.tail _ hq)
  refine Sts.asg ok.hk (by exact rfl) (by exact rfl) (R := fun v n' => ∃ TD oD, v = .ref TD ∧ TxAt TD (ks.told ++ [walkF ks.words]) oD ∧ oD ∈ n' ∧ oT ∈ n' ∧ oW ∈ n') (Eve.own ok ns_read (by exact rfl) (by decide) keep881 (by exact rfl) (by exact rfl) (by exact rfl) (Sq.cons (R1 := fun v n' => (∃ t, v = .str (chS c ++ ks.wrt ++ closeS c) t) ∧ n' = oW :: oT :: n1) (by exact rfl) (Eve.own ok ns_wrt (by exact rfl) (by decide) keep860 (by exact rfl) (by exact rfl) (by exact rfl) (Sq.consp (p := .ref TOP) (by exact rfl) (by walk_at "ev") fun v1 f1 => Sq.nil ?_)) ?_)) ?_
  · cases f1
    exact Cm.ctr ok (wr_c p.w 4 ks TOP c t k us (oW :: oT :: n1) ft.depth (by (first | lia | omega)) ft.words ft.gok (k1 _ hm) (hr.mono k1)) (by (first | lia | omega)) (by (first | lia | omega)) rfl fun v n' h => h
  · rintro _ _ ⟨⟨u, rfl⟩, rfl⟩
    obtain ⟨toks, hc, hok, he⟩ := ft.text
    refine Sq.nil (Cm.ctr ok (read_law_c p.w _ u toks ?_ hc hok) (by (first | lia | omega)) (by (first | lia | omega)) trivial ?_)
    · have := wrt_len ks ft.words
      have := closeS_len c
      rw [str_app, str_app]
      have b : (chS c).length = 1 := rfl
      (first | lia | omega)
    · rintro v n' ⟨TD, oD, rfl, hD, _, rfl⟩
      refine ⟨TD, oD, rfl, ?_, .head _, .tail _ (.tail _ (.head _)), .tail _ (.head _)⟩
      have e : (toks.foldl rdTok ([[Str.ofString "("]], [])).2 = ks.told ++ [walkF ks.words] := he
      rw [e] at hD
      exact hD
  clear hr hm k1 lt
  rintro _ n2 ⟨TD, oD, rfl, hD, h1, h2, h3⟩
  refine Sts.ite (RT := fun b n' => b = false ∧ n' = n2) (Tst.cmpG (by exact rfl) (R1 := fun v n' => v = .ref TD ∧ n' = n2) (Eve.loc ok.hk (by exact rfl) (by decide) (by walk_at "lk") ⟨rfl, rfl⟩) ?_) ?_
  · rintro _ _ ⟨rfl, rfl⟩
    refine Eve.loc ok.hk (by exact rfl) (by decide) (by walk_at "lk") (v := .ref DU) ?_
    obtain ⟨kD, pD, eD, rfl⟩ := hD
    obtain ⟨kT, pT, eT, rfl⟩ := hT
    exact Cm.neT ok (by (first | lia | omega)) h1 h2 ⟨_, rfl, by rw [eD, eT]; simp, rfl⟩
  rintro b n2' ⟨rfl, e⟩
  cases e
  refine ⟨fun h => (by cases h), fun _ => Sts.pop ?_⟩
  clear h2 hT
  refine Sts.for (by exact rfl) (by exact rfl) (fun _ => by exact rfl) (R := fun v n' => ∃ SL l, v = .ref SL ∧ l.map (·.1) = starts ∧ (SL, listOf (strValues l).toArray 0) ∈ n' ∧ oW ∈ n' ∧ oD ∈ n') (Eve.list (R1 := fun vs n' => ∃ l, vs = strValues l ∧ l.map (·.1) = starts ∧ n' = n2) (Sq.consp (by exact rfl) (p := .str (Str.ofString "/it's/a")) (by walk_at "ev") fun v1 f1 => Sq.consp (by exact rfl) (p := .str (Str.ofString "//a/..")) (by walk_at "ev") fun v2 f2 => Sq.consp (by exact rfl) (p := .str (Str.ofString "../../a")) (by walk_at "ev") fun v3 f3 => Sq.consp (by exact rfl) (p := .str (Str.ofString "")) (by walk_at "ev") fun v4 f4 => Sq.nil ?_) ?_) ?_
  · obtain ⟨t1, rfl⟩ := f1
    obtain ⟨t2, rfl⟩ := f2
    obtain ⟨t3, rfl⟩ := f3
    obtain ⟨t4, rfl⟩ := f4
    exact ⟨[(_, t1), (_, t2), (_, t3), (_, t4)], rfl, rfl, rfl⟩
  · rintro _ _ ⟨l, rfl, el, rfl⟩
    have := congrArg List.length el
    rw [List.length_map] at this
    have h4 : starts.length = 4 := rfl
    exact ⟨by rw [strVal_len]; (first | lia | omega), fun D _ => ⟨D, l, rfl, el, .head _, .tail _ h3, .tail _ h1⟩⟩
  rintro _ n3 ⟨SL, l, rfl, el, hS, h5, h6⟩
  refine ForAt.list ok.hh rfl hS (fun _ => fun m' n' => m' (Str.ofString "told") = some (.ref TD) ∧ m' (Str.ofString "words") = some (.ref W) ∧ n' = n3) ⟨by walk_at "lk", by walk_at "lk", rfl⟩ ?_ ?_
  · rintro i v m1 n4 own I hv ⟨e1, e2, e3⟩ hown hI ⟨oI, hIo⟩
    subst e3
    obtain ⟨s, ts, rfl, hs⟩ := strVal_get hv
    have hs' : s ∈ starts := el ▸ List.mem_map_of_mem (f := fun p : Str × Tok => p.1) (List.mem_of_getElem? hs)
    refine lw_turn ok (by (first | lia | omega)) (by (first | lia | omega)) ft hW hD hs' ⟨by walk_at "lk", by walk_at "lk", List.mem_append_left _ h5, List.mem_append_left _ h6⟩ (by walk_at "lk") ⟨_, ⟨by walk_at "lk", by walk_at "lk", rfl⟩, hI, fun q hq => hq⟩
  · rintro m1 _ ⟨_, _, rfl⟩
    exact Sts.ret (R := Is (.bool true) _) Evp.bool fun v n' e => congrArg Flow.ret e.1
theorem ints_len {vs : List Value} {ns : List Int} (h : IntsAre vs ns) : vs.length = ns.length := by
  induction h with
  | nil => rfl
  | cons => exact congrArg Nat.succ (by assumption)
theorem law_run {w : World} {dp un : Nat} {gd : Option (List Code)} {a : Addr} {ccd : Value} {outer : List Env} {A₀ : Around} {base h₀ : Heap} {L : Addr} {mg mb : Str → Option Value} {mean : ExcName → Option Value} {s : Shared} {m : Mp} {SA : Addr} {vs : List Value} {ns : List Int} {Q : Flow → Shared → Prop}
    (B : Below A₀ base outer h₀) (X : (K w.params).In h₀) (T : Top q (looseW q loose) mean mg mb h₀) (hd : dp + 400 < recursionLimit) (hu : un + 6000 < cLine) (hl : h₀.IsList SA vs.toArray) (hi : IntsAre vs ns) (hn : ns.length ≤ 63) (ft : Fit (treeF ns).1 (treeF ns).2)
    (F : Fr h₀ L s.heap m) (N : News h₀ L s.heap []) (ms : m (Str.ofString "script") = some (.ref SA)) (q : ∀ m' h' tk, Fr h₀ L h' m' → Q (.ret (.bool true)) { s with heap := h', toks := tk }) :
    wpAny (model pw w) (ktrTop dp un gd (Str.ofString "law") c50 L a ccd [] outer) (execs b50 (envOf (Str.ofString "law") c50 L a ccd)) Q (fun _ _ => False) s := by
  have hv := ints_len hi
  refine law_sx (p := ⟨w, ktrTop dp un gd (Str.ofString "law") c50 L a ccd [] outer, L, a, ccd, h₀⟩) (Cx.ok (nd := 390) (nu := 5500) B X T (by exact rfl) (by (first | lia | omega)) (by (first | lia | omega))) (by (first | lia | omega)) (by (first | lia | omega)) ft ?_ ms PassesOwn.never (Nat.zero_le _) F N ?_
  · intro m1 n1 E s1 Q1 _ F1 N1 q1
    exact tree_c w (ns := ns) (by rw [List.toList_toArray]; exact hi) (by rw [List.size_toArray]; (first | lia | omega)) dp un gd _ c50 a ccd [] outer A₀ base h₀ L m1 n1 s1 mg mb mean Q1 E B F1 X N1 T (by exact rfl) (by (first | lia | omega)) (by (first | lia | omega)) hl fun v tk h' n' F2 N2 r => q1 v n' h' tk (Nat.zero_le _) r F2 N2
  · rintro f m' n' h' tk rfl F2 _
    exact q m' h' tk F2
end Mine
namespace Mine
open PySem PySem.W PySem.Calls PyProof.Rows
/- paths as texts: what walkF, normF and joinF have to do with each other -/
theorem sl_eq : Str.ofString "/" = ⟨#[47]⟩ := by decide
theorem nil_eq : Str.ofString "" = ⟨#[]⟩ := by decide
theorem ext_l {a b : Str} (h : a.cps.toList = b.cps.toList) : a = b := Str.ext' (Array.toList_inj.mp h)
theorem app_l (a b : Str) : (a ++ b).cps.toList = a.cps.toList ++ b.cps.toList := by show (a.cps ++ b.cps).toList = _; rw [Array.toList_append]
theorem app_nil (a : Str) : a ++ Str.ofString "" = a := ext_l (by rw [app_l, nil_eq]; exact List.append_nil _)
theorem nil_app (a : Str) : Str.ofString "" ++ a = a := ext_l (by rw [app_l, nil_eq]; rfl)
theorem app_asc (a b c : Str) : a ++ b ++ c = a ++ (b ++ c) := Str.append_assoc a b c
noncomputable abbrev sp (x : Str) : List Str := Txt.split x (Str.ofString "/")
theorem sp_free {x : Str} : ∀ p ∈ sp x, 47 ∉ p.cps.toList := by
  intro p hp
  unfold sp at hp
  rw [sl_eq] at hp
  exact StrLaws.split_free x 47 p hp
theorem join_sp (x : Str) : Str.join (Str.ofString "/") (sp x) = x := StrLaws.join_split x _
theorem sp_ne (x : Str) : sp x ≠ [] := by
  unfold sp Txt.split
  split
  · exact List.cons_ne_nil _ _
  · split
    · exact List.cons_ne_nil _ _
    · intro h
      rw [StrLaws.partsBetween_eq] at h
      obtain ⟨p, r, e⟩ := StrLaws.partsFrom_ne x (Str.ofString "/").length 0 (Builtin.Str.occurrences x (Str.ofString "/") 0 x.length (x.length + 1))
      rw [e] at h
      cases h
theorem join_cons {x y : Str} {l : List Str} : Str.join (Str.ofString "/") (x :: y :: l) = x ++ (Str.ofString "/" ++ Str.join (Str.ofString "/") (y :: l)) := app_asc _ _ _
theorem join_cat : ∀ {ps qs : List Str}, ps ≠ [] → qs ≠ [] → Str.join (Str.ofString "/") (ps ++ qs) = Str.join (Str.ofString "/") ps ++ (Str.ofString "/" ++ Str.join (Str.ofString "/") qs)
  | [], _, h, _ => absurd rfl h
  | [_], [], _, h => absurd rfl h
  | [x], y :: l, _, _ => join_cons
  | x :: x2 :: r, qs, _, h => by
    rw [join_cons, app_asc, app_asc, ← join_cat (ps := x2 :: r) (List.cons_ne_nil _ _) h]
    exact join_cons
theorem cut_inj : ∀ {a b r s : List Nat}, 47 ∉ a → 47 ∉ b → a ++ 47 :: r = b ++ 47 :: s → a = b ∧ r = s
  | [], [], _, _, _, _, h => ⟨rfl, (List.cons.inj h).2⟩
  | [], y :: b, _, _, _, hb, h => absurd ((List.cons.inj h).1 ▸ List.mem_cons_self ..) hb
  | x :: a, [], _, _, ha, _, h => absurd ((List.cons.inj h).1 ▸ List.mem_cons_self ..) ha
  | x :: a, y :: b, _, _, ha, hb, h => by
    obtain ⟨h1, h2⟩ := List.cons.inj h
    obtain ⟨e1, e2⟩ := cut_inj (fun m => ha (.tail _ m)) (fun m => hb (.tail _ m)) h2
    exact ⟨by rw [h1, e1], e2⟩
theorem join_inj : ∀ {ps qs : List Str}, ps ≠ [] → qs ≠ [] → (∀ p ∈ ps, 47 ∉ p.cps.toList) → (∀ p ∈ qs, 47 ∉ p.cps.toList) → Str.join (Str.ofString "/") ps = Str.join (Str.ofString "/") qs → ps = qs
  | [], _, h, _, _, _, _ => absurd rfl h
  | _ :: _, [], _, h, _, _, _ => absurd rfl h
  | [x], [y], _, _, _, _, e => congrArg (fun z => [z]) e
  | [x], y :: y2 :: l, _, _, hp, _, e => by
    have e' : x = Str.join (Str.ofString "/") (y :: y2 :: l) := e
    rw [join_cons] at e'
    refine absurd ?_ (hp x (.head _))
    rw [e', app_l, app_l, sl_eq]
    exact List.mem_append_right _ (List.mem_append_left _ (.head _))
  | x :: x2 :: l, [y], _, _, _, hq, e => by
    have e' : Str.join (Str.ofString "/") (x :: x2 :: l) = y := e
    rw [join_cons] at e'
    refine absurd ?_ (hq y (.head _))
    rw [← e', app_l, app_l, sl_eq]
    exact List.mem_append_right _ (List.mem_append_left _ (.head _))
  | x :: x2 :: l, y :: y2 :: m, _, _, hp, hq, e => by
    rw [join_cons, join_cons] at e
    have e' := congrArg (fun s : Str => s.cps.toList) e
    rw [app_l, app_l, app_l, app_l, sl_eq] at e'
    obtain ⟨e1, e2⟩ := cut_inj (hp x (.head _)) (hq y (.head _)) e'
    rw [ext_l e1, join_inj (List.cons_ne_nil _ _) (List.cons_ne_nil _ _) (fun p h => hp p (.tail _ h)) (fun p h => hq p (.tail _ h)) (ext_l e2)]
theorem sp_join {ps : List Str} (h : ps ≠ []) (hf : ∀ p ∈ ps, 47 ∉ p.cps.toList) : sp (Str.join (Str.ofString "/") ps) = ps :=
  join_inj (sp_ne _) h sp_free hf (join_sp _)
theorem sp_cat (a b : Str) : sp (a ++ (Str.ofString "/" ++ b)) = sp a ++ sp b := by
  have e := sp_join (ps := sp a ++ sp b) (fun h => sp_ne a (List.append_eq_nil_iff.mp h).1) fun p hp => by
    rcases List.mem_append.mp hp with h | h
    · exact sp_free p h
    · exact sp_free p h
  rw [join_cat (sp_ne a) (sp_ne b), join_sp, join_sp] at e
  exact e
theorem sp_nil : sp (Str.ofString "") = [Str.ofString ""] := sp_join (ps := [Str.ofString ""]) (List.cons_ne_nil _ _) (by decide)
theorem sp_dot : sp (Str.ofString ".") = [Str.ofString "."] := sp_join (ps := [Str.ofString "."]) (List.cons_ne_nil _ _) (by decide)
theorem sp_sl (b : Str) : sp (Str.ofString "/" ++ b) = Str.ofString "" :: sp b := by
  have := sp_cat (Str.ofString "") b
  rw [nil_app, sp_nil] at this
  exact this
/- the fold over the pieces of a text -/
noncomputable def fd (r : Str) (N : List Str) (x : Str) : List Str := (sp x).foldl (pcStep r) N
theorem pc_nil {r : Str} {N : List Str} : pcStep r N (Str.ofString "") = N := by
  unfold pcStep
  rw [if_neg (by decide), if_neg (by decide)]
theorem pc_dot {r : Str} {N : List Str} : pcStep r N (Str.ofString ".") = N := by
  unfold pcStep
  rw [if_neg (by decide), if_neg (by decide)]
theorem pc_plain {r : Str} {N : List Str} {p : Str} (h0 : p ≠ Str.ofString "") (h1 : p ≠ Str.ofString ".") (h2 : p ≠ Str.ofString "..") : pcStep r N p = N ++ [p] := by
  unfold pcStep
  rw [if_neg h2, if_pos ⟨h0, h1⟩]
theorem fd_nil (r : Str) (N : List Str) : fd r N (Str.ofString "") = N := by
  unfold fd; rw [sp_nil, List.foldl_cons, pc_nil]; rfl
theorem fd_dot (r : Str) (N : List Str) : fd r N (Str.ofString ".") = N := by
  unfold fd; rw [sp_dot, List.foldl_cons, pc_dot]; rfl
theorem fd_sl (r : Str) (N : List Str) (b : Str) : fd r N (Str.ofString "/" ++ b) = fd r N b := by
  unfold fd; rw [sp_sl, List.foldl_cons, pc_nil]
theorem fd_cat (r : Str) (N : List Str) (a b : Str) : fd r N (a ++ (Str.ofString "/" ++ b)) = fd r (fd r N a) b := by
  unfold fd; rw [sp_cat, List.foldl_append]
/-- names as the fold leaves them -/
def PInv (N : List Str) : Prop := ∀ p ∈ N, p ≠ Str.ofString "" ∧ p ≠ Str.ofString "." ∧ 47 ∉ p.cps.toList
def NInv (r : Str) (N : List Str) : Prop := r ≠ Str.ofString "" → ∀ p ∈ N, p ≠ Str.ofString ".."
theorem pc_PInv {r : Str} {N : List Str} {p : Str} (h : PInv N) (hp : 47 ∉ p.cps.toList) : PInv (pcStep r N p) := by
  unfold pcStep
  split
  · split
    · exact fun q hq => h q (List.dropLast_subset _ hq)
    · split
      · intro q hq
        rcases List.mem_append.mp hq with hq | hq
        · exact h q hq
        · rw [List.mem_singleton.mp hq]; decide
      · exact h
  · split
    · rename_i h2
      intro q hq
      rcases List.mem_append.mp hq with hq | hq
      · exact h q hq
      · rw [List.mem_singleton.mp hq]; exact ⟨h2.1, h2.2, hp⟩
    · exact h
theorem pc_NInv {r : Str} {N : List Str} {p : Str} (h : NInv r N) : NInv r (pcStep r N p) := by
  intro hr
  unfold pcStep
  split
  · split
    · exact fun q hq => h hr q (List.dropLast_subset _ hq)
    · exact h hr
  · rename_i h1
    split
    · intro q hq
      rcases List.mem_append.mp hq with hq | hq
      · exact h hr q hq
      · rw [List.mem_singleton.mp hq]; exact h1
    · exact h hr
theorem fold_PInv {r : Str} : ∀ {ps N : List Str}, PInv N → (∀ p ∈ ps, 47 ∉ p.cps.toList) → PInv (ps.foldl (pcStep r) N)
  | [], _, h, _ => h
  | p :: ps, N, h, hp => fold_PInv (ps := ps) (pc_PInv h (hp p (.head _))) fun q hq => hp q (.tail _ hq)
theorem fold_NInv {r : Str} : ∀ {ps N : List Str}, NInv r N → NInv r (ps.foldl (pcStep r) N)
  | [], _, h => h
  | _ :: ps, _, h => fold_NInv (ps := ps) (pc_NInv h)
theorem fd_PInv {r : Str} {N : List Str} {x : Str} (h : PInv N) : PInv (fd r N x) := fold_PInv h sp_free
theorem fd_NInv {r : Str} {N : List Str} {x : Str} (h : NInv r N) : NInv r (fd r N x) := fold_NInv h
theorem nil_PInv : PInv [] := fun _ h => by cases h
theorem nil_NInv {r : Str} : NInv r [] := fun _ _ h => by cases h
theorem nc_pc {r : Str} {N : List Str} {p : Str} (h : NInv r N) : ncStep r N p = pcStep r N p := by
  unfold ncStep pcStep
  have e0 : p.length = 0 ↔ p = Str.ofString "" := by
    rw [nil_eq]
    constructor
    · intro e; exact ext_l (by rw [Array.eq_empty_of_size_eq_zero e])
    · rintro rfl; rfl
  have er : r.length = 0 ↔ r = Str.ofString "" := by
    rw [nil_eq]
    constructor
    · intro e; exact ext_l (by rw [Array.eq_empty_of_size_eq_zero e])
    · rintro rfl; rfl
  by_cases h2 : p = Str.ofString ".."
  · subst h2
    rw [if_neg (by decide), if_pos rfl]
    by_cases hN : N = []
    · subst hN
      rw [if_neg (show ¬ (([] : List Str) ≠ [] ∧ _) from fun q => q.1 rfl)]
      by_cases hr : r = Str.ofString ""
      · rw [if_pos hr, if_pos (.inr (.inl ⟨er.mpr hr, rfl⟩))]
      · rw [if_neg hr, if_neg]
        · rfl
        · rintro (q | q | q)
          · exact q rfl
          · exact hr (er.mp q.1)
          · cases q
    · by_cases hl : N.getLast? = some (Str.ofString "..")
      · have hr : r = Str.ofString "" := Classical.byContradiction fun hr => h hr _ (List.mem_of_getLast? hl) rfl
        rw [if_pos (.inr (.inr hl)), if_neg (fun q => q.2 hl), if_pos hr]
      · rw [if_neg, if_pos ⟨hN, hl⟩]
        rintro (q | q | q)
        · exact q rfl
        · exact hN q.2
        · exact hl q
  · rw [if_neg h2]
    by_cases h0 : p = Str.ofString "" ∨ p = Str.ofString "."
    · rw [if_pos (h0.imp e0.mpr id), if_neg (fun q => h0.elim q.1 q.2)]
    · rw [if_neg (fun q => h0 (q.imp e0.mp id)), if_pos (.inl h2), if_pos ⟨fun q => h0 (.inl q), fun q => h0 (.inr q)⟩]
theorem fold_nc {r : Str} : ∀ {ps N : List Str}, NInv r N → ps.foldl (ncStep r) N = ps.foldl (pcStep r) N
  | [], _, _ => rfl
  | p :: ps, _, h => by rw [List.foldl_cons, List.foldl_cons, nc_pc h]; exact fold_nc (ps := ps) (pc_NInv h)
/-- reduced pieces act as the pieces do -/
theorem red_one {r : Str} {M N : List Str} {p : Str} (hN : PInv N) : (pcStep (Str.ofString "") N p).foldl (pcStep r) M = pcStep r (N.foldl (pcStep r) M) p := by
  by_cases h2 : p = Str.ofString ".."
  · subst h2
    by_cases hc : N ≠ [] ∧ N.getLast? ≠ some (Str.ofString "..")
    · rcases List.eq_nil_or_concat N with rfl | ⟨N0, q, e⟩
      · exact absurd rfl hc.1
      rw [List.concat_eq_append] at e
      subst e
      rw [List.getLast?_concat] at hc
      obtain ⟨q0, q1, _⟩ := hN q (List.mem_append_right _ (.head _))
      have q2 : q ≠ Str.ofString ".." := fun e => hc.2 (by rw [e])
      have e1 : pcStep (Str.ofString "") (N0 ++ [q]) (Str.ofString "..") = N0 := by
        unfold pcStep
        rw [if_pos rfl, if_pos ⟨hc.1, by rw [List.getLast?_concat]; exact hc.2⟩, List.dropLast_concat]
      rw [e1, List.foldl_append, List.foldl_cons, List.foldl_nil, pc_plain q0 q1 q2]
      unfold pcStep
      rw [if_pos rfl, if_pos ⟨by simp, by rw [List.getLast?_concat]; exact hc.2⟩, List.dropLast_concat]
    · have e1 : pcStep (Str.ofString "") N (Str.ofString "..") = N ++ [Str.ofString ".."] := by
        unfold pcStep
        rw [if_pos rfl, if_neg hc, if_pos rfl]
      rw [e1, List.foldl_append]; rfl
  · by_cases h0 : p ≠ Str.ofString "" ∧ p ≠ Str.ofString "."
    · rw [pc_plain h0.1 h0.2 h2, List.foldl_append]; rfl
    · have e : ∀ r N, pcStep r N p = N := fun r N => by unfold pcStep; rw [if_neg h2, if_neg h0]
      rw [e, e]
theorem red {r : Str} {M : List Str} : ∀ {ps N : List Str}, PInv N → (∀ p ∈ ps, 47 ∉ p.cps.toList) → (ps.foldl (pcStep (Str.ofString "")) N).foldl (pcStep r) M = ps.foldl (pcStep r) (N.foldl (pcStep r) M)
  | [], _, _, _ => rfl
  | p :: ps, N, hN, hp => by
    rw [List.foldl_cons, List.foldl_cons, red (ps := ps) (pc_PInv hN (hp p (.head _))) (fun q hq => hp q (.tail _ hq)), red_one hN]
theorem fold_plain {r : Str} : ∀ {N M : List Str}, PInv N → (∀ p ∈ N, p ≠ Str.ofString "..") → N.foldl (pcStep r) M = M ++ N
  | [], M, _, _ => (List.append_nil M).symm
  | p :: N, M, h, h2 => by
    obtain ⟨a, b, _⟩ := h p (.head _)
    rw [List.foldl_cons, pc_plain a b (h2 p (.head _)), fold_plain (N := N) (fun q hq => h q (.tail _ hq)) (fun q hq => h2 q (.tail _ hq)), List.append_assoc]; rfl
theorem fd_join {r : Str} {M N : List Str} (h : PInv N) : fd r M (Str.join (Str.ofString "/") N) = N.foldl (pcStep r) M := by
  cases N with
  | nil => exact fd_nil r M
  | cons p N => unfold fd; rw [sp_join (List.cons_ne_nil _ _) fun q hq => (h q hq).2.2]
end Mine
namespace Mine
open PySem PySem.W PySem.Calls PyProof.Rows
/-- how many slashes lead -/
noncomputable def lead (x : Str) : Nat := (x.cps.toList.takeWhile (fun c => c == 47)).length
theorem goes47 : (Str.ofString "/").cps.contains = fun c => c == 47 := by
  funext c
  rw [sl_eq]
  by_cases h : c = 47 <;> simp [h]
theorem lead_le (x : Str) : lead x ≤ x.length := by
  have h := (List.takeWhile_sublist (fun c => c == 47) (l := x.cps.toList)).length_le
  rw [Array.length_toList] at h
  exact h
theorem lstrip_len (x : Str) : (Txt.lstripChars x (Str.ofString "/")).length = x.length - lead x := by
  have e : Txt.lstripChars x (Str.ofString "/") = Builtin.Str.strSub x (lead x) x.length := by
    unfold Txt.lstripChars
    rw [goes47, PyProof.Rows.stripBy_eq]; rfl
  rw [e]
  have h := congrArg List.length (StrLaws.strSub_toList x (lead x) x.length)
  rw [Array.length_toList, List.length_take, List.length_drop, Array.length_toList] at h
  have e1 : x.cps.size = x.length := rfl
  have e2 : (Builtin.Str.strSub x (lead x) x.length).cps.size = (Builtin.Str.strSub x (lead x) x.length).length := rfl
  (first | lia | omega)
theorem wdHead_lead (σ : Str × List Str) (x : Str) : wdHead σ x = if lead x = 0 then σ else if lead x = 2 then (Str.ofString "//", []) else (Str.ofString "/", []) := by
  have h1 := lead_le x
  have h2 := lstrip_len x
  unfold wdHead
  by_cases h0 : lead x = 0
  · rw [if_neg (by (first | lia | omega)), if_pos h0]
  · rw [if_pos (by (first | lia | omega)), if_neg h0]
    by_cases h3 : lead x = 2
    · rw [if_pos (by (first | lia | omega)), if_pos h3]
    · rw [if_neg (by (first | lia | omega)), if_neg h3]
theorem wdStep_eq (σ : Str × List Str) (x : Str) : wdStep σ x = ((wdHead σ x).1, fd (wdHead σ x).1 (wdHead σ x).2 x) := rfl
theorem lead_cons (c : Nat) (l : List Nat) : lead ⟨(c :: l).toArray⟩ = if c = 47 then lead ⟨l.toArray⟩ + 1 else 0 := by
  unfold lead
  simp only [List.takeWhile_cons, beq_iff_eq]
  split <;> simp_all
theorem lead_sl (b : Str) : lead (Str.ofString "/" ++ b) = lead b + 1 := by
  unfold lead
  rw [app_l, sl_eq]
  show ((47 :: b.cps.toList).takeWhile _).length = _
  rw [List.takeWhile_cons, if_pos (by decide), List.length_cons]
theorem lead_dvd (a b : Str) (h : lead a < a.length) : lead (a ++ b) = lead a := by
  unfold lead at h ⊢
  rw [app_l, List.takeWhile_append]
  split
  · rename_i h2
    rw [Array.length_toList] at h2
    exact absurd h2 (Nat.ne_of_lt h)
  · rfl
theorem lead_app0 (a b : Str) (h : lead b = 0) : lead (a ++ b) = lead a := by
  unfold lead at h ⊢
  rw [app_l, List.takeWhile_append]
  split
  · rename_i h2
    rw [List.length_append, h, h2]; rfl
  · rfl
theorem sw_lead {x : Str} : Txt.startswith x (Str.ofString "/") = decide (lead x ≠ 0) := by
  unfold Txt.startswith
  rw [StrLaws.subAt_eq]
  obtain ⟨⟨l⟩⟩ := x
  cases l with
  | nil => decide
  | cons c l =>
    rw [lead_cons, sl_eq]
    show (decide (0 + 1 ≤ (c :: l).length) && ([c] == [47])) = _
    have : decide (0 + 1 ≤ (c :: l).length) = true := by rw [List.length_cons]; exact decide_eq_true (by (first | lia | omega))
    rw [this, Bool.true_and]
    by_cases hc : c = 47
    · subst hc; simp
    · simp [hc]
/-- what splitroot finds -/
theorem splitF_lead (x : Str) : (lead x = 0 ∧ splitF x = (Str.ofString "", x)) ∨ (lead x = 2 ∧ ∃ b, x = Str.ofString "/" ++ (Str.ofString "/" ++ b) ∧ splitF x = (Str.ofString "//", b)) ∨ (lead x ≠ 0 ∧ lead x ≠ 2 ∧ ∃ b, x = Str.ofString "/" ++ b ∧ splitF x = (Str.ofString "/", b)) := by
  have s01 : ∀ (c : Nat) (l : List Nat), Txt.slice ⟨(c :: l).toArray⟩ none (some 1) = ⟨#[c]⟩ := fun c l =>
    (StrLaws.sliceText_to (x := ⟨(c :: l).toArray⟩) (j := 1) ⟨by decide, by show (1 : Int) ≤ ((c :: l).length : Nat); rw [List.length_cons]; (first | lia | omega)⟩).trans rfl
  have s12 : ∀ (c d : Nat) (l : List Nat), Txt.slice ⟨(c :: d :: l).toArray⟩ (some 1) (some 2) = ⟨#[d]⟩ := fun c d l =>
    (StrLaws.sliceText_plain (x := ⟨(c :: d :: l).toArray⟩) (i := 1) (j := 2) ⟨by decide, by decide, by show (2 : Int) ≤ ((c :: d :: l).length : Nat); rw [List.length_cons, List.length_cons]; (first | lia | omega)⟩).trans rfl
  have s23 : ∀ (c d e : Nat) (l : List Nat), Txt.slice ⟨(c :: d :: e :: l).toArray⟩ (some 2) (some 3) = ⟨#[e]⟩ := fun c d e l =>
    (StrLaws.sliceText_plain (x := ⟨(c :: d :: e :: l).toArray⟩) (i := 2) (j := 3) ⟨by decide, by decide, by show (3 : Int) ≤ ((c :: d :: e :: l).length : Nat); rw [List.length_cons, List.length_cons, List.length_cons]; (first | lia | omega)⟩).trans rfl
  have s02 : ∀ (c d : Nat) (l : List Nat), Txt.slice ⟨(c :: d :: l).toArray⟩ none (some 2) = ⟨#[c, d]⟩ := fun c d l =>
    (StrLaws.sliceText_to (x := ⟨(c :: d :: l).toArray⟩) (j := 2) ⟨by decide, by show (2 : Int) ≤ ((c :: d :: l).length : Nat); rw [List.length_cons, List.length_cons]; (first | lia | omega)⟩).trans rfl
  have s1 : ∀ (c : Nat) (l : List Nat), Txt.slice ⟨(c :: l).toArray⟩ (some 1) none = ⟨l.toArray⟩ := fun c l => by
    refine (StrLaws.sliceText_from (x := ⟨(c :: l).toArray⟩) (i := 1) ⟨by decide, by show (1 : Int) ≤ ((c :: l).length : Nat); rw [List.length_cons]; (first | lia | omega)⟩).trans ?_
    show (⟨(l.take ((((c :: l).length : Nat) : Int) - 1).toNat).toArray⟩ : Str) = _
    rw [List.take_of_length_le (by rw [List.length_cons]; (first | lia | omega))]
  have s2 : ∀ (c d : Nat) (l : List Nat), Txt.slice ⟨(c :: d :: l).toArray⟩ (some 2) none = ⟨l.toArray⟩ := fun c d l => by
    refine (StrLaws.sliceText_from (x := ⟨(c :: d :: l).toArray⟩) (i := 2) ⟨by decide, by show (2 : Int) ≤ ((c :: d :: l).length : Nat); rw [List.length_cons, List.length_cons]; (first | lia | omega)⟩).trans ?_
    show (⟨(l.take ((((c :: d :: l).length : Nat) : Int) - 2).toNat).toArray⟩ : Str) = _
    rw [List.take_of_length_le (by rw [List.length_cons, List.length_cons]; (first | lia | omega))]
  have ne1 : ∀ c : Nat, c ≠ 47 → ((⟨#[c]⟩ : Str) != Str.ofString "/") = true := fun c hc => bne_iff_ne.mpr fun e => hc (by rw [sl_eq] at e; cases e; rfl)
  have eq1 : ((⟨#[47]⟩ : Str) != Str.ofString "/") = false := by decide
  have cons_sl : ∀ l : List Nat, (⟨(47 :: l).toArray⟩ : Str) = Str.ofString "/" ++ ⟨l.toArray⟩ := fun l => ext_l (by rw [app_l, sl_eq]; rfl)
  obtain ⟨⟨l⟩⟩ := x
  match l with
  | [] => exact .inl ⟨rfl, by decide⟩
  | c :: l =>
    by_cases hc : c = 47
    · subst hc
      match l with
      | [] => exact .inr (.inr ⟨by decide, by decide, Str.ofString "", by decide, by decide⟩)
      | d :: l =>
        by_cases hd : d = 47
        · subst hd
          match l with
          | [] => exact .inr (.inl ⟨by decide, Str.ofString "", by decide, by decide⟩)
          | e :: l =>
            by_cases he : e = 47
            · subst he
              refine .inr (.inr ⟨by rw [lead_cons, if_pos rfl]; (first | lia | omega), by rw [lead_cons, lead_cons, lead_cons, if_pos rfl, if_pos rfl, if_pos rfl]; (first | lia | omega), _, cons_sl _, ?_⟩)
              unfold splitF
              rw [s01, s12, s23, eq1, if_neg (by decide), if_pos (.inr (by decide)), s1]
            · refine .inr (.inl ⟨by rw [lead_cons, lead_cons, lead_cons, if_pos rfl, if_pos rfl, if_neg he], ⟨(e :: l).toArray⟩, by rw [cons_sl, cons_sl], ?_⟩)
              unfold splitF
              rw [s01, s12, s23, eq1, if_neg (by decide), if_neg, s02, s2]
              · rw [show (⟨#[47, 47]⟩ : Str) = Str.ofString "//" by decide]
              · rintro (h | h)
                · exact absurd h (by decide)
                · exact he (by have := beq_iff_eq.mp h; rw [sl_eq] at this; cases this; rfl)
        · refine .inr (.inr ⟨by rw [lead_cons, if_pos rfl]; (first | lia | omega), by rw [lead_cons, lead_cons, if_pos rfl, if_neg hd]; decide, _, cons_sl _, ?_⟩)
          unfold splitF
          rw [s01, s12, eq1, if_neg (by decide), if_pos (.inl (ne1 d hd)), s1]
    · refine .inl ⟨by rw [lead_cons, if_neg hc], ?_⟩
      unfold splitF
      rw [s01, if_pos (ne1 c hc)]
end Mine
namespace Mine
open PySem PySem.W PySem.Calls PyProof.Rows
noncomputable abbrev in0 : Str × List Str := (Str.ofString "", [])
noncomputable def showF (σ : Str × List Str) : Str := if (σ.1 ++ Txt.join (Str.ofString "/") σ.2).length = 0 then Str.ofString "." else σ.1 ++ Txt.join (Str.ofString "/") σ.2
theorem walkF_eq (ws : List Str) : walkF ws = showF (ws.foldl wdStep in0) := rfl
theorem tjoin (l : List Str) : Txt.join (Str.ofString "/") l = Str.join (Str.ofString "/") l := StrLaws.glued_eq_join _ _
theorem len_app (a b : Str) : (a ++ b).length = a.length + b.length := Array.size_append
theorem len0 {p : Str} : p.length = 0 ↔ p = Str.ofString "" := by
  rw [nil_eq]
  constructor
  · intro e; exact ext_l (by rw [Array.eq_empty_of_size_eq_zero e])
  · rintro rfl; rfl
theorem wdStep_nil (σ : Str × List Str) : wdStep σ (Str.ofString "") = σ := by
  rw [wdStep_eq, wdHead_lead, if_pos (by decide), fd_nil]
theorem wd_rel {σ : Str × List Str} {x : Str} (h : lead x = 0) : wdStep σ x = (σ.1, fd σ.1 σ.2 x) := by
  rw [wdStep_eq, wdHead_lead, if_pos h]
theorem wd_abs {σ : Str × List Str} {x : Str} (h : lead x ≠ 0) : wdStep σ x = (if lead x = 2 then Str.ofString "//" else Str.ofString "/", fd (if lead x = 2 then Str.ofString "//" else Str.ofString "/") [] x) := by
  rw [wdStep_eq, wdHead_lead, if_neg h]
  split <;> rfl
theorem normF_show (x : Str) : normF x = showF (wdStep in0 x) := by
  have hl := lead_le x
  rcases splitF_lead x with ⟨h, e⟩ | ⟨h, b, hb, e⟩ | ⟨h, h2, b, hb, e⟩
  · rw [wd_rel h]
    by_cases h0 : x.length = 0
    · rw [len0] at h0
      subst h0
      unfold normF
      rw [if_pos (by decide), fd_nil]
      decide
    · unfold normF showF
      rw [if_neg h0, e]
      dsimp only
      rw [fold_nc nil_NInv]; rfl
  · rw [wd_abs (by (first | lia | omega)), if_pos h]
    unfold normF showF
    rw [if_neg (by (first | lia | omega)), e]
    dsimp only
    rw [fold_nc nil_NInv, hb, fd_sl, fd_sl]; rfl
  · rw [wd_abs h, if_neg h2]
    unfold normF showF
    rw [if_neg (by (first | lia | omega)), e]
    dsimp only
    rw [fold_nc nil_NInv, hb, fd_sl]; rfl
theorem lead_join {N : List Str} (h : PInv N) : lead (Str.join (Str.ofString "/") N) = 0 ∧ (N ≠ [] → (Str.join (Str.ofString "/") N).length ≠ 0) := by
  cases N with
  | nil => exact ⟨rfl, fun h => absurd rfl h⟩
  | cons p N =>
    obtain ⟨h0, _, hf⟩ := h p (.head _)
    have hp : p.length ≠ 0 := fun e => h0 (len0.mp e)
    obtain ⟨z, hz⟩ : ∃ z, Str.join (Str.ofString "/") (p :: N) = p ++ z := by
      cases N with
      | nil => exact ⟨Str.ofString "", (app_nil p).symm⟩
      | cons q N => exact ⟨_, join_cons⟩
    have hlp : lead p = 0 := by
      unfold lead
      cases hl : p.cps.toList with
      | nil => rfl
      | cons c l =>
        rw [List.takeWhile_cons, if_neg]
        · rfl
        · intro e
          rw [hl] at hf
          exact hf (by rw [beq_iff_eq.mp e]; exact .head _)
    rw [hz]
    exact ⟨by rw [lead_dvd _ _ (by (first | lia | omega)), hlp], fun _ => by rw [len_app]; (first | lia | omega)⟩
theorem show0 {N : List Str} (h : PInv N) : lead (showF (Str.ofString "", N)) = 0 ∧ ∀ r M, fd r M (showF (Str.ofString "", N)) = N.foldl (pcStep r) M := by
  by_cases hN : N = []
  · subst hN
    have e : showF (Str.ofString "", []) = Str.ofString "." := by decide
    rw [e]
    exact ⟨by decide, fun r M => fd_dot r M⟩
  · obtain ⟨h1, h2⟩ := lead_join h
    have e : showF (Str.ofString "", N) = Str.join (Str.ofString "/") N := by
      unfold showF
      dsimp only
      rw [nil_app, tjoin, if_neg (h2 hN)]
    rw [e]
    exact ⟨h1, fun r M => fd_join h⟩
theorem showR {r : Str} {N : List Str} (hr : r.length ≠ 0) : showF (r, N) = r ++ Str.join (Str.ofString "/") N := by
  unfold showF
  dsimp only
  rw [if_neg (by rw [len_app]; (first | lia | omega)), tjoin]
/-- a normalized text acts as the text itself -/
theorem wd_norm (τ : Str × List Str) (y : Str) : wdStep τ (normF y) = wdStep τ y := by
  rw [normF_show]
  rcases splitF_lead y with ⟨h, _⟩ | ⟨h, b, hb, _⟩ | ⟨h, h2, b, hb, _⟩
  · rw [wd_rel (σ := in0) h]
    have hP := fd_PInv (r := Str.ofString "") (x := y) nil_PInv
    obtain ⟨h1, h2⟩ := show0 hP
    rw [wd_rel h1, h2, wd_rel h]
    unfold fd
    rw [red nil_PInv sp_free]; rfl
  · have e2 : ∀ z, Str.ofString "//" ++ z = Str.ofString "/" ++ (Str.ofString "/" ++ z) := fun z => by rw [← app_asc]; rfl
    rw [wd_abs (σ := in0) (by (first | lia | omega)), wd_abs (σ := τ) (x := y) (by (first | lia | omega)), if_pos h, showR (by decide)]
    have hP := fd_PInv (r := Str.ofString "//") (x := y) nil_PInv
    have hN := fd_NInv (r := Str.ofString "//") (x := y) nil_NInv
    generalize fd (Str.ofString "//") [] y = N at *
    have hl : lead (Str.ofString "//" ++ Str.join (Str.ofString "/") N) = 2 := by rw [e2, lead_sl, lead_sl, (lead_join hP).1]
    rw [wd_abs (by (first | lia | omega)), if_pos hl, e2, fd_sl, fd_sl, fd_join hP, fold_plain hP (hN (by decide))]; rfl
  · rw [wd_abs (σ := in0) (by (first | lia | omega)), wd_abs (σ := τ) (x := y) (by (first | lia | omega)), if_neg h2, showR (by decide)]
    have hP := fd_PInv (r := Str.ofString "/") (x := y) nil_PInv
    have hN := fd_NInv (r := Str.ofString "/") (x := y) nil_NInv
    generalize fd (Str.ofString "/") [] y = N at *
    have hl : lead (Str.ofString "/" ++ Str.join (Str.ofString "/") N) = 1 := by rw [lead_sl, (lead_join hP).1]
    rw [wd_abs (by (first | lia | omega)), if_neg (by (first | lia | omega)), fd_sl, fd_join hP, fold_plain hP (hN (by decide))]; rfl
theorem ew_iff {a : Str} : Txt.endswith a (Str.ofString "/") = true ↔ a.cps.toList.getLast? = some 47 := by
  unfold Txt.endswith
  rw [sl_eq, Bool.and_eq_true, decide_eq_true_eq, StrLaws.subAt_eq, List.getLast?_eq_getElem?, Array.length_toList]
  have e : ((a.cps.toList.drop (a.length - (⟨#[47]⟩ : Str).length)).take (⟨#[47]⟩ : Str).length == (⟨#[47]⟩ : Str).cps.toList) = true ↔ a.cps.toList[a.cps.size - 1]? = some 47 := StrLaws.take1_drop (l := a.cps.toList) (c := 47) (i := a.length - 1)
  rw [e]
  constructor
  · exact fun h => h.2
  · intro h
    refine ⟨?_, h⟩
    have := (List.getElem?_eq_some_iff.mp h).1
    rw [Array.length_toList] at this
    show 0 + 1 ≤ a.cps.size
    (first | lia | omega)
theorem wd_join (σ : Str × List Str) (a b : Str) : wdStep σ (joinF a b) = wdStep (wdStep σ a) b := by
  unfold joinF
  rw [sw_lead]
  by_cases hb : lead b = 0
  · by_cases ha : a.length = 0
    · rw [if_pos (.inr ha), len0.mp ha, wdStep_nil]
    · rw [if_neg (by rintro (h | h); exact of_decide_eq_true h hb; exact ha h)]
      have hd : ∀ {x : Str}, lead x = lead a → wdHead σ x = wdHead σ a := fun h => by rw [wdHead_lead, wdHead_lead, h]
      by_cases he : Txt.endswith a (Str.ofString "/") = true
      · rw [if_pos he]
        have hg := ew_iff.mp he
        obtain ⟨a', e⟩ : ∃ a', a = a' ++ Str.ofString "/" := by
          rcases List.eq_nil_or_concat a.cps.toList with h | ⟨l, c, h⟩
          · rw [h] at hg; cases hg
          · rw [List.concat_eq_append] at h
            rw [h, List.getLast?_concat] at hg
            cases hg
            exact ⟨⟨l.toArray⟩, ext_l (by rw [h, app_l, sl_eq])⟩
        have e1 : ∀ z, a ++ z = a' ++ (Str.ofString "/" ++ z) := fun z => by rw [e, app_asc]
        have e2 : ∀ r M, fd r M a = fd r M a' := fun r M => by
          have := fd_cat r M a' (Str.ofString "")
          rw [app_nil, ← e, fd_nil] at this
          exact this
        rw [wdStep_eq σ, hd (lead_app0 a b hb), e1, fd_cat, ← e2, wd_rel hb]
        rfl
      · rw [if_neg he]
        have hla : lead a < a.length := by
          refine Nat.lt_of_le_of_ne (lead_le a) fun h => he (ew_iff.mpr ?_)
          have hw : a.cps.toList.takeWhile (fun c => c == 47) = a.cps.toList := (List.takeWhile_sublist _).eq_of_length (by rw [Array.length_toList]; exact h)
          cases hg : a.cps.toList.getLast? with
          | none =>
            rw [List.getLast?_eq_none_iff] at hg
            have := congrArg List.length hg
            rw [Array.length_toList] at this
            exact absurd this ha
          | some c =>
            have hm := List.mem_of_getLast? hg
            rw [← hw] at hm
            have := List.all_eq_true.mp List.all_takeWhile c hm
            rw [beq_iff_eq.mp this]
        rw [wdStep_eq σ, hd (lead_dvd a _ hla), fd_cat, wd_rel hb]
        rfl
  · rw [if_pos (.inl (decide_eq_true hb)), wd_abs hb, wd_abs hb]
theorem wd_foldl (τ : Str × List Str) : ∀ (xs : List Str) (p : Str), wdStep τ (xs.foldl (fun p one => normF (joinF p one)) p) = xs.foldl wdStep (wdStep τ p)
  | [], _ => rfl
  | x :: xs, p => by rw [List.foldl_cons, List.foldl_cons, wd_foldl τ xs, wd_norm, wd_join]
theorem wd_foldA (τ : Str × List Str) (xs : List Str) : wdStep τ (foldA xs) = xs.foldl wdStep τ := by
  unfold foldA; rw [wd_foldl, wdStep_nil]
theorem wd_foldr : ∀ (xs : List Str) (τ : Str × List Str), wdStep τ (xs.foldr (fun one p => normF (joinF one p)) (Str.ofString "")) = xs.foldl wdStep τ
  | [], τ => wdStep_nil τ
  | x :: xs, τ => by rw [List.foldr_cons, List.foldl_cons, wd_norm, wd_join, wd_foldr xs]
theorem wd_foldB (τ : Str × List Str) (xs : List Str) : wdStep τ (foldB xs) = xs.foldl wdStep τ := by
  unfold foldB; rw [List.foldl_reverse]; exact wd_foldr xs τ
theorem foldF_walk (hd : Str) (xs : List Str) : foldF (hd :: xs) = walkF xs := by
  show normF _ = _
  rw [normF_show, walkF_eq]
  split
  · rw [wd_foldA]
  · rw [wd_foldB]
theorem wd_walk (τ : Str × List Str) (ws : List Str) : wdStep τ (walkF ws) = ws.foldl wdStep τ := by
  rw [← foldF_walk (Str.ofString "(") ws]
  show wdStep τ (normF _) = _
  rw [wd_norm, if_pos (by decide), wd_foldA]
theorem start_walk (s : Str) (ws : List Str) : normF (joinF s (walkF ws)) = walkF (s :: ws) := by
  rw [normF_show, wd_join, wd_walk]; rfl
theorem foldA_len (xs : List Str) : (foldA xs).length ≤ w5 xs := by
  have h : ∀ (l : List Str) (p : Str), (l.foldl (fun p one => normF (joinF p one)) p).length ≤ p.length + w5 l := by
    intro l
    induction l with
    | nil => intro p; exact Nat.le_add_right _ _
    | cons x l ih =>
      intro p
      have a := ih (normF (joinF p x))
      have b := normF_len (joinF p x)
      have c := joinF_len p x
      have d : w5 (x :: l) = (x.length + 5) + w5 l := by unfold w5; rw [List.map_cons, List.sum_cons]
      rw [List.foldl_cons]; (first | lia | omega)
  have := h xs (Str.ofString "")
  have e : (Str.ofString "").length = 0 := by decide
  unfold foldA
  (first | lia | omega)
theorem walkF_len (ws : List Str) : (walkF ws).length ≤ w5 ws + 3 := by
  rw [← foldF_walk (Str.ofString "(") ws]
  have h := foldA_len ws
  show (normF _).length ≤ _
  rw [if_pos (by decide)]
  have := normF_len (foldA ws)
  (first | lia | omega)
end Mine
namespace Mine
open PySem PySem.W PySem.Calls PyProof.Rows
/- what is written, as signs and words -/
inductive Sy where
  | sign (c : Nat)
  | word (x : Str) (way : Int) (g : Str)
noncomputable def Sy.txt : Sy → List Nat
  | .sign c => [c]
  | .word x way g => (spellF x way).cps.toList ++ g.cps.toList
noncomputable def actS (ρ : RS) : Sy → RS
  | .sign c => rdSign ρ c
  | .word x _ _ => rdWord ρ x
noncomputable def clC (c : Nat) : Nat := if c = 40 then 41 else 93
theorem closeS_eq (c : Nat) : closeS c = chS (clC c) := by
  unfold closeS clC
  by_cases h : c = 40
  · subst h
    rw [if_pos (by decide), if_pos rfl]; decide
  · rw [if_neg (fun e => h ?_), if_neg h]
    · decide
    · have : Str.ofString "(" = chS 40 := by decide
      rw [this] at e
      unfold chS at e
      cases e
      rfl
noncomputable def gapS (rest : Ks) (gap : Int) : Str := if rest.lastK = true ∧ gap < 2 then Str.ofString "" else gapF gap
noncomputable def Ks.syms : Ks → List Sy
  | .nil => []
  | .word x way gap rest => .word x way (gapS rest gap) :: rest.syms
  | .grp c kids rest => .sign c :: (kids.syms ++ .sign (clC c) :: rest.syms)
theorem wrt_syms (ks : Ks) : ks.wrt.cps.toList = ks.syms.flatMap Sy.txt := by
  induction ks with
  | nil => rfl
  | word x way gap rest ih =>
    unfold Ks.wrt Ks.syms
    rw [app_l, app_l, List.flatMap_cons, ← ih]; rfl
  | grp c kids rest ih1 ih2 =>
    unfold Ks.wrt Ks.syms
    rw [app_l, app_l, app_l, List.flatMap_cons, List.flatMap_append, List.flatMap_cons, ← ih1, ← ih2, closeS_eq, List.append_assoc, List.append_assoc]; rfl
/-- what stands in the pile of a group -/
noncomputable def Ks.ents : Ks → List Str
  | .nil => []
  | .word x _ _ rest => x :: rest.ents
  | .grp _ kids rest => walkF kids.words :: rest.ents
theorem ents_act (ks : Ks) : ∀ τ, ks.ents.foldl wdStep τ = ks.words.foldl wdStep τ := by
  induction ks with
  | nil => exact fun _ => rfl
  | word x way gap rest ih => exact fun τ => ih _
  | grp c kids rest _ ih =>
    intro τ
    have e1 : (Ks.grp c kids rest).ents = walkF kids.words :: rest.ents := rfl
    have e2 : (Ks.grp c kids rest).words = kids.words ++ rest.words := rfl
    rw [e1, e2, List.foldl_cons, ih, wd_walk, List.foldl_append]
theorem ents_walk (hd : Str) (ks : Ks) : foldF (hd :: ks.ents) = walkF ks.words := by rw [foldF_walk, walkF_eq, walkF_eq, ents_act]
def Ks.br : Ks → Prop
  | .nil => True
  | .word _ _ _ rest => rest.br
  | .grp c kids rest => (c = 40 ∨ c = 91) ∧ kids.br ∧ rest.br
theorem sign_open {ρ : RS} {c : Nat} (h : c = 40 ∨ c = 91) : rdSign ρ c = ([chS c] :: ρ.1, ρ.2) := if_pos h
theorem clC_no (c : Nat) : ¬ (clC c = 40 ∨ clC c = 91) := by unfold clC; split <;> decide
theorem sign_close {c : Nat} {p q : List Str} {ps : List (List Str)} {T : List Str} : rdSign (p :: q :: ps, T) (clC c) = ((q ++ [foldF p]) :: ps, T ++ [foldF p]) := if_neg (clC_no c)
theorem rd_syms : ∀ (ks : Ks) (p : List Str) (ps : List (List Str)) (T : List Str), ks.br → ks.syms.foldl actS (p :: ps, T) = ((p ++ ks.ents) :: ps, T ++ ks.told) := by
  intro ks
  induction ks with
  | nil => intro p ps T _; unfold Ks.syms Ks.ents Ks.told; rw [List.append_nil, List.append_nil]; rfl
  | word x way gap rest ih =>
    intro p ps T hb
    unfold Ks.syms Ks.ents Ks.told
    rw [List.foldl_cons]
    show rest.syms.foldl actS ((p ++ [x]) :: ps, T) = _
    rw [ih _ _ _ hb, List.append_assoc]; rfl
  | grp c kids rest ih1 ih2 =>
    intro p ps T hb
    unfold Ks.syms Ks.ents Ks.told
    rw [List.foldl_cons, List.foldl_append, List.foldl_cons]
    show rest.syms.foldl actS (rdSign (kids.syms.foldl actS (rdSign (p :: ps, T) c)) (clC c)) = _
    rw [sign_open hb.1, ih1 _ _ _ hb.2.1, sign_close]
    show rest.syms.foldl actS ((p ++ [foldF (chS c :: kids.ents)]) :: ps, T ++ kids.told ++ [foldF (chS c :: kids.ents)]) = _
    rw [ents_walk, ih2 _ _ _ hb.2.2, List.append_assoc, List.append_assoc, List.append_assoc, List.append_assoc]; rfl
def GoodW (x : Str) : Prop := x = Str.ofString "" ∨ Txt.stripChars x (Str.ofString "()[]") ≠ Str.ofString ""
def OkSy : RS → List Sy → Prop
  | _, [] => True
  | ρ, .sign c :: r => SzR ρ ∧ OkS ρ c ∧ (c = 40 ∨ c = 91 ∨ c = 41 ∨ c = 93) ∧ OkSy (rdSign ρ c) r
  | ρ, .word x _ _ :: r => SzR ρ ∧ ρ.1 ≠ [] ∧ x.length ≤ 60 ∧ GoodW x ∧ OkSy (rdWord ρ x) r
theorem okSy_app : ∀ {a b : List Sy} {ρ : RS}, OkSy ρ a → OkSy (a.foldl actS ρ) b → OkSy ρ (a ++ b)
  | [], _, _, _, h => h
  | .sign _ :: _, _, _, ⟨h1, h2, h3, h4⟩, h => ⟨h1, h2, h3, okSy_app h4 h⟩
  | .word _ _ _ :: _, _, _, ⟨h1, h2, h3, h4, h5⟩, h => ⟨h1, h2, h3, h4, okSy_app h5 h⟩
theorem w5_words : ∀ (l : List Str), (∀ x ∈ l, x.length ≤ 17) → w5 l ≤ 22 * l.length
  | [], _ => Nat.le_refl _
  | x :: l, h => by
    have h1 := h x (.head _)
    have h2 := w5_words l fun y hy => h y (.tail _ hy)
    have e : w5 (x :: l) = (x.length + 5) + w5 l := by unfold w5; rw [List.map_cons, List.sum_cons]
    rw [List.length_cons]; (first | lia | omega)
theorem w5_cons (x : Str) (l : List Str) : w5 (x :: l) = (x.length + 5) + w5 l := by unfold w5; rw [List.map_cons, List.sum_cons]
theorem w5_ents (ks : Ks) (h : ∀ x ∈ ks.words, x.length ≤ 17) : w5 ks.ents ≤ 22 * ks.size ∧ ks.ents.length ≤ ks.size := by
  induction ks with
  | nil => exact ⟨Nat.le_refl _, Nat.le_refl _⟩
  | word x way gap rest ih =>
    have h1 := h x (.head _)
    have h2 := ih fun y hy => h y (.tail _ hy)
    rw [size_word]
    show w5 (x :: rest.ents) ≤ _ ∧ (x :: rest.ents).length ≤ _
    rw [w5_cons, List.length_cons]; (first | lia | omega)
  | grp c kids rest _ ih =>
    have hk : ∀ x ∈ kids.words, x.length ≤ 17 := fun y hy => h y (List.mem_append_left _ hy)
    have h2 := ih fun y hy => h y (List.mem_append_right _ hy)
    have h3 := w5_words _ hk
    have h4 := walkF_len kids.words
    have h5 := words_le kids
    rw [size_grp]
    show w5 (walkF kids.words :: rest.ents) ≤ _ ∧ (walkF kids.words :: rest.ents).length ≤ _
    rw [w5_cons, List.length_cons]; (first | lia | omega)
theorem ok_syms : ∀ (ks : Ks) (p : List Str) (ps : List (List Str)) (T : List Str), ks.br → (∀ x ∈ ks.words, x.length ≤ 17 ∧ GoodW x) → ks.size ≤ 28 → ps.length + 1 + ks.depth ≤ 1000 → p.length + ks.size ≤ 1000 → (∀ q ∈ ps, q.length ≤ 1000) → T.length + ks.size ≤ 1000 → OkSy (p :: ps, T) ks.syms := by
  intro ks
  induction ks with
  | nil => intros; exact trivial
  | word x way gap rest ih =>
    intro p ps T hb hw hs hd hp hq hT
    rw [size_word] at hs hp hT
    have hd' : (Ks.word x way gap rest).depth = rest.depth := rfl
    rw [hd'] at hd
    have h1 := hw x (.head _)
    refine ⟨⟨by rw [List.length_cons]; (first | lia | omega), fun q hq' => ?_, by show T.length ≤ 1000; (first | lia | omega)⟩, List.cons_ne_nil _ _, by (first | lia | omega), h1.2, ?_⟩
    · rcases List.mem_cons.mp hq' with rfl | hq'
      · (first | lia | omega)
      · exact hq q hq'
    · exact ih (p ++ [x]) ps T hb (fun y hy => hw y (.tail _ hy)) (by (first | lia | omega)) hd (by rw [List.length_append, List.length_singleton]; (first | lia | omega)) hq (by (first | lia | omega))
  | grp c kids rest ih1 ih2 =>
    intro p ps T hb hw hs hd hp hq hT
    rw [size_grp] at hs hp hT
    have hd1 : ps.length + 1 + (kids.depth + 1) ≤ 1000 := Nat.le_trans (Nat.add_le_add_left (Nat.le_max_left _ _) _) hd
    have hd2 : ps.length + 1 + rest.depth ≤ 1000 := Nat.le_trans (Nat.add_le_add_left (Nat.le_max_right _ _) _) hd
    clear hd
    have hk : ∀ x ∈ kids.words, x.length ≤ 17 ∧ GoodW x := fun y hy => hw y (List.mem_append_left _ hy)
    have htl := told_le kids
    have hwe := w5_ents kids fun y hy => (hk y hy).1
    have hc : c = 40 ∨ c = 91 ∨ c = 41 ∨ c = 93 := hb.1.elim .inl fun h => .inr (.inl h)
    have hcl : clC c = 40 ∨ clC c = 91 ∨ clC c = 41 ∨ clC c = 93 := by unfold clC; split <;> decide
    have szp : ∀ q ∈ p :: ps, q.length ≤ 1000 := fun q hq' => by
      rcases List.mem_cons.mp hq' with rfl | hq'
      · (first | lia | omega)
      · exact hq q hq'
    refine ⟨⟨by rw [List.length_cons]; (first | lia | omega), szp, by show T.length ≤ 1000; (first | lia | omega)⟩, .inl hb.1, hc, ?_⟩
    rw [sign_open hb.1]
    refine okSy_app (ih1 [chS c] (p :: ps) T hb.2.1 hk (by (first | lia | omega)) (by rw [List.length_cons]; (first | lia | omega)) (by rw [List.length_singleton]; (first | lia | omega)) szp (by (first | lia | omega))) ?_
    rw [rd_syms _ _ _ _ hb.2.1]
    refine ⟨⟨by rw [List.length_cons, List.length_cons]; (first | lia | omega), fun q hq' => ?_, by show (T ++ kids.told).length ≤ 1000; rw [List.length_append]; (first | lia | omega)⟩, .inr ⟨_, _, _, rfl, List.cons_ne_nil _ _, ?_, ?_⟩, hcl, ?_⟩
    · rcases List.mem_cons.mp hq' with rfl | hq'
      · rw [List.length_append, List.length_singleton]; (first | lia | omega)
      · exact szp q hq'
    · rw [List.length_append, List.length_singleton]; (first | lia | omega)
    · show w5 (chS c :: kids.ents) ≤ 700
      rw [w5_cons]
      have : (chS c).length = 1 := rfl
      (first | lia | omega)
    · rw [sign_close]
      exact ih2 _ ps _ hb.2.2 (fun y hy => hw y (List.mem_append_right _ hy)) (by (first | lia | omega)) (by (first | lia | omega)) (by rw [List.length_append, List.length_singleton]; (first | lia | omega)) hq (by show (T ++ kids.told ++ [foldF (chS c :: kids.ents)]).length + rest.size ≤ 1000; rw [List.length_append, List.length_append, List.length_singleton]; (first | lia | omega))
/-- all that is written -/
noncomputable def allS (c : Nat) (ks : Ks) : List Sy := .sign c :: (ks.syms ++ [.sign (clC c)])
theorem all_txt (c : Nat) (ks : Ks) : (chS c ++ ks.wrt ++ closeS c).cps.toList = (allS c ks).flatMap Sy.txt := by
  unfold allS
  rw [app_l, app_l, wrt_syms, closeS_eq, List.flatMap_cons, List.flatMap_append]; rfl
theorem all_rd {c : Nat} {ks : Ks} (hc : c = 40 ∨ c = 91) (hb : ks.br) : ((allS c ks).foldl actS told0).2 = ks.told ++ [walkF ks.words] := by
  unfold allS
  rw [List.foldl_cons, List.foldl_append]
  show (rdSign (ks.syms.foldl actS (rdSign told0 c)) (clC c)).2 = _
  unfold told0
  rw [sign_open hc, rd_syms _ _ _ _ hb, sign_close]
  show ([] ++ ks.told) ++ [foldF (chS c :: ks.ents)] = _
  rw [ents_walk, List.nil_append]
theorem all_ok {c : Nat} {ks : Ks} (hc : c = 40 ∨ c = 91) (hb : ks.br) (hw : ∀ x ∈ ks.words, x.length ≤ 17 ∧ GoodW x) (hs : ks.size ≤ 28) (hd : ks.depth ≤ 900) : OkSy told0 (allS c ks) := by
  have htl := told_le ks
  have hwe := w5_ents ks fun y hy => (hw y hy).1
  have hc' : c = 40 ∨ c = 91 ∨ c = 41 ∨ c = 93 := hc.elim .inl fun h => .inr (.inl h)
  have hcl : clC c = 40 ∨ clC c = 91 ∨ clC c = 41 ∨ clC c = 93 := by unfold clC; split <;> decide
  have h0 : ∀ q ∈ [[Str.ofString "("]], q.length ≤ 1000 := fun q h => by rw [List.mem_singleton.mp h]; decide
  refine ⟨⟨by show 1 ≤ 1000; decide, h0, by show 0 ≤ 1000; decide⟩, .inl hc, hc', ?_⟩
  rw [sign_open hc]
  show OkSy ([chS c] :: [[Str.ofString "("]], []) _
  refine okSy_app (ok_syms ks _ _ _ hb hw hs (by rw [List.length_singleton]; (first | lia | omega)) (by rw [List.length_singleton]; (first | lia | omega)) h0 (by rw [List.length_nil]; (first | lia | omega))) ?_
  rw [rd_syms _ _ _ _ hb]
  refine ⟨⟨by show 2 ≤ 1000; decide, fun q hq => ?_, by show ([] ++ ks.told).length ≤ 1000; rw [List.nil_append]; (first | lia | omega)⟩, .inr ⟨_, _, _, rfl, List.cons_ne_nil _ _, ?_, ?_⟩, hcl, trivial⟩
  · rcases List.mem_cons.mp hq with rfl | hq
    · rw [List.length_append, List.length_singleton]; (first | lia | omega)
    · exact h0 q hq
  · rw [List.length_append, List.length_singleton]; (first | lia | omega)
  · show w5 (chS c :: ks.ents) ≤ 700
    rw [w5_cons]
    have : (chS c).length = 1 := rfl
    (first | lia | omega)
end Mine
namespace Mine
open PySem PySem.W PySem.Calls PyProof.Rows
/- the lexer's turns on what is still to be read -/
structure LS (b : Str) (σ : AS) (st tok : Str) (q : Bool) (es : Str) (l : List Nat) : Prop where
  st : σ.st = some st
  tok : σ.tok = tok
  q : σ.q = q
  es : σ.es = es
  p0 : 0 ≤ σ.p
  p1 : σ.p ≤ b.length
  at_ : match σ.pc with
    | none => b.cps.toList.drop σ.p.toNat = l
    | some ch => ∃ k, ch = chS k ∧ l = k :: b.cps.toList.drop σ.p.toNat
section
variable {b : Str} {σ : AS} {st tok es : Str} {q : Bool} {k : Nat} {r : List Nat}
theorem LS.upd {l : List Nat} (h : LS b σ st tok q es l) {σ' : AS} {st' tok' es' : Str} {q' : Bool} (hp : σ'.p = σ.p) (hpc : σ'.pc = σ.pc) (h1 : σ'.st = some st') (h2 : σ'.tok = tok') (h3 : σ'.q = q') (h4 : σ'.es = es') : LS b σ' st' tok' q' es' l :=
  ⟨h1, h2, h3, h4, hp ▸ h.p0, hp ▸ h.p1, by rw [hp, hpc]; exact h.at_⟩
theorem ls_step (h : LS b σ st tok q es (k :: r)) : ∃ σ1, LS b σ1 st tok q es r ∧ σ1.pc = none ∧ step b σ = stepT b (chS k) σ1 false (inF (chS k) wsS) (inF (chS k) (oS "#")) (inF (chS k) (oS "\\")) (inF (chS k) wcS) (inF (chS k) pcS) (inF (chS k) qtS) (decide (tok.length ≠ 0) || q) (some st) := by
  have hat := h.at_
  have h0 := h.p0
  have h1 := h.p1
  have hst := h.st
  cases hpc : σ.pc with
  | none =>
    rw [hpc] at hat
    dsimp only at hat
    have hlt : σ.p.toNat < b.cps.toList.length := by
      refine Nat.lt_of_not_le fun hh => ?_
      rw [List.drop_eq_nil_of_le hh] at hat
      cases hat
    have hlt2 : σ.p < b.length := by rw [Array.length_toList] at hlt; show σ.p < (b.cps.size : Int); (first | lia | omega)
    have hk : b.cps.toList[σ.p.toNat]? = some k := by
      have := congrArg List.head? hat
      rw [List.head?_drop] at this
      exact this
    have hr : b.cps.toList.drop (σ.p.toNat + 1) = r := by
      have := congrArg (List.drop 1) hat
      rw [List.drop_drop] at this
      exact this
    have e1 : nxC b σ = chS k := by
      unfold nxC nextF
      rw [hpc]
      dsimp only
      rw [if_pos hlt2, List.getD_eq_getElem?_getD, hk]; rfl
    have e2 : nxS b σ = { σ with p := σ.p + 1 } := by
      unfold nxS stepP
      rw [hpc]
      dsimp only
      rw [if_pos hlt2]
    refine ⟨{ σ with p := σ.p + 1 }, ⟨h.st, h.tok, h.q, h.es, by show 0 ≤ σ.p + 1; (first | lia | omega), by show σ.p + 1 ≤ _; (first | lia | omega), ?_⟩, hpc, ?_⟩
    · show (match σ.pc with
        | none => b.cps.toList.drop (σ.p + 1).toNat = r
        | some ch => ∃ k, ch = chS k ∧ r = k :: b.cps.toList.drop (σ.p + 1).toNat)
      rw [hpc]
      dsimp only
      have : (σ.p + 1).toNat = σ.p.toNat + 1 := by (first | lia | omega)
      rw [this]; exact hr
    · unfold step
      rw [e1, e2]
      refine (stepA_of (σ := { σ with p := σ.p + 1 }) (o := some st) hst).trans ?_
      rw [← h.tok, ← h.q]; rfl
  | some ch =>
    rw [hpc] at hat
    obtain ⟨k', rfl, hl⟩ := hat
    obtain ⟨rfl, hr⟩ := List.cons.inj hl
    have e1 : nxC b σ = chS k := by unfold nxC; rw [hpc]
    have e2 : nxS b σ = { σ with pc := none } := by unfold nxS; rw [hpc]
    refine ⟨{ σ with pc := none }, ⟨h.st, h.tok, h.q, h.es, h0, h1, hr.symm⟩, rfl, ?_⟩
    unfold step
    rw [e1, e2]
    refine (stepA_of (σ := { σ with pc := none }) (o := some st) hst).trans ?_
    rw [← h.tok, ← h.q]; rfl
theorem ls_end (h : LS b σ st tok q es []) : step b σ = stepT b (Str.ofString "") σ true (inF (Str.ofString "") wsS) (inF (Str.ofString "") (oS "#")) (inF (Str.ofString "") (oS "\\")) (inF (Str.ofString "") wcS) (inF (Str.ofString "") pcS) (inF (Str.ofString "") qtS) (decide (tok.length ≠ 0) || q) (some st) ∧ σ.pc = none := by
  have hat := h.at_
  have h1 := h.p1
  have hst := h.st
  cases hpc : σ.pc with
  | none =>
    rw [hpc] at hat
    dsimp only at hat
    have hge : ¬ σ.p < b.length := fun hh => by
      have := congrArg List.length hat
      rw [List.length_drop, Array.length_toList, List.length_nil] at this
      have h0 := h.p0
      have : b.cps.size = b.length := rfl
      (first | lia | omega)
    have e1 : nxC b σ = Str.ofString "" := by
      unfold nxC nextF
      rw [hpc]
      dsimp only
      rw [if_neg hge]
    have e2 : nxS b σ = σ := by
      unfold nxS stepP
      rw [hpc]
      dsimp only
      rw [if_neg hge, ← hpc]
    refine ⟨?_, rfl⟩
    unfold step
    rw [e1, e2, stepA_of (o := some st) hst, ← h.tok, ← h.q]; rfl
  | some ch =>
    rw [hpc] at hat
    obtain ⟨k', _, hl⟩ := hat
    cases hl
/- a few turns that go on -/
inductive Rn (b : Str) : Nat → AS → AS → Prop
  | nil {σ : AS} : Rn b 0 σ σ
  | more {n : Nat} {σ σ1 σ' : AS} : step b σ = some (false, σ1) → Rn b n σ1 σ' → Rn b (n + 1) σ σ'
theorem Rn.trans {n m : Nat} {σ σ1 σ2 : AS} (h : Rn b n σ σ1) (h2 : Rn b m σ1 σ2) : Rn b (n + m) σ σ2 := by
  induction h with
  | nil => rw [Nat.zero_add]; exact h2
  | more e _ ih => rw [Nat.add_right_comm]; exact .more e (ih h2)
theorem Rn.run {n m : Nat} {σ σ1 σ2 : AS} (h : Rn b n σ σ1) (h2 : Run b m σ1 σ2) : Run b (n + m) σ σ2 := by
  induction h with
  | nil => rw [Nat.zero_add]; exact h2
  | more e _ ih => rw [Nat.add_right_comm]; exact .more e (ih h2)
/-- from one place to another in at most B turns -/
def Go (b : Str) (B : Nat) (σ : AS) (st tok : Str) (q : Bool) (es : Str) (l : List Nat) : Prop := ∃ n σ', n ≤ B ∧ Rn b n σ σ' ∧ LS b σ' st tok q es l ∧ σ'.pc = none
theorem Go.one {σ1 : AS} {l : List Nat} (e : step b σ = some (false, σ1)) (h : LS b σ1 st tok q es l) (hp : σ1.pc = none) : Go b 1 σ st tok q es l := ⟨1, σ1, Nat.le_refl _, .more e .nil, h, hp⟩
theorem Go.then {B B' : Nat} {st' tok' es' : Str} {q' : Bool} {l l' : List Nat} (h : Go b B σ st tok q es l) (h2 : ∀ σ', LS b σ' st tok q es l → σ'.pc = none → Go b B' σ' st' tok' q' es' l') : Go b (B + B') σ st' tok' q' es' l' := by
  obtain ⟨n, σ1, hn, hr, hl, hp⟩ := h
  obtain ⟨m, σ2, hm, hr2, hl2, hp2⟩ := h2 σ1 hl hp
  exact ⟨n + m, σ2, by (first | lia | omega), hr.trans hr2, hl2, hp2⟩
theorem Go.mono {B B' : Nat} {l : List Nat} (h : Go b B σ st tok q es l) (hb : B ≤ B') : Go b B' σ st tok q es l := let ⟨n, σ1, hn, hr⟩ := h; ⟨n, σ1, Nat.le_trans hn hb, hr⟩
/- the classes -/
theorem cl_in (x : Str) (l : List Nat) (h : x.cps.toList = l) (k : Nat) : inF (chS k) x = decide (k ∈ l) := by rw [inF_ch, h]
theorem cl_ws (k : Nat) : inF (chS k) wsS = decide (k ∈ [32, 9, 13, 10]) := cl_in _ _ (by kernel_rfl!) k
theorem cl_co (k : Nat) : inF (chS k) (oS "#") = decide (k ∈ [35]) := cl_in _ _ (by kernel_rfl!) k
theorem cl_es (k : Nat) : inF (chS k) (oS "\\") = decide (k ∈ [92]) := cl_in _ _ (by kernel_rfl!) k
theorem cl_pc (k : Nat) : inF (chS k) pcS = decide (k ∈ [40, 41, 91, 93]) := cl_in _ _ (by kernel_rfl!) k
theorem cl_qt (k : Nat) : inF (chS k) qtS = decide (k ∈ [39, 34]) := cl_in _ _ (by kernel_rfl!) k
theorem cl_dq (k : Nat) : inF (chS k) (oS "\"") = decide (k ∈ [34]) := cl_in _ _ (by kernel_rfl!) k
theorem cl_wc (k : Nat) (h : k ∈ [40, 41, 91, 93]) : inF (chS k) wcS = false := by
  rw [inF_ch]
  simp only [List.mem_cons, List.not_mem_nil, or_false] at h
  rcases h with rfl | rfl | rfl | rfl <;> kernel_rfl!
theorem ch_eq (k j : Nat) : (chS k == chS j) = decide (k = j) := by
  by_cases h : k = j
  · subst h; simp
  · rw [decide_eq_false h]
    exact beq_eq_false_iff_ne.mpr fun e => h (by unfold chS at e; cases e; rfl)
theorem ch39 : Str.ofString "'" = chS 39 := by decide
theorem ch34 : Str.ofString "\"" = chS 34 := by decide
theorem cha : Str.ofString "a" = chS 97 := by decide
theorem chsp : Str.ofString " " = chS 32 := by decide
/- within a word -/
theorem a_plain (h : LS b σ (oS "a") tok q es (k :: r)) (hk : k ∉ [32, 9, 13, 10, 35, 39, 34, 92, 40, 41, 91, 93]) : Go b 1 σ (oS "a") (tok ++ chS k) q es r := by
  simp only [List.mem_cons, List.not_mem_nil, or_false, not_or] at hk
  obtain ⟨σ1, h1, hn, e⟩ := ls_step h
  rw [stepT_a, cl_ws, cl_co, cl_es, cl_pc, cl_qt] at e
  unfold stepW at e
  simp [hk] at e
  exact Go.one e (h1.upd rfl rfl h1.st (by rw [← h1.tok]) h1.q h1.es) hn
theorem a_quote {j : Nat} (h : LS b σ (oS "a") tok q es (j :: r)) (hj : j = 39 ∨ j = 34) : Go b 1 σ (chS j) tok q es r := by
  obtain ⟨σ1, h1, hn, e⟩ := ls_step h
  rw [stepT_a, cl_ws, cl_co, cl_es, cl_pc, cl_qt] at e
  unfold stepW at e
  rcases hj with rfl | rfl
  · exact Go.one (σ1 := { σ1 with st := some (chS 39) }) e (h1.upd rfl rfl rfl h1.tok h1.q h1.es) hn
  · exact Go.one (σ1 := { σ1 with st := some (chS 34) }) e (h1.upd rfl rfl rfl h1.tok h1.q h1.es) hn
theorem a_esc (h : LS b σ (oS "a") tok q es (92 :: r)) : Go b 1 σ (chS 92) tok q (oS "a") r := by
  obtain ⟨σ1, h1, hn, e⟩ := ls_step h
  rw [stepT_a, cl_ws, cl_co, cl_es, cl_pc, cl_qt] at e
  unfold stepW at e
  exact Go.one (σ1 := { σ1 with es := oS "a", st := some (chS 92) }) e (h1.upd rfl rfl rfl h1.tok h1.q rfl) hn
/- within quotes -/
theorem q_step {j : Nat} (hj : j = 39 ∨ j = 34) (h : LS b σ (chS j) tok q es (k :: r)) : ∃ σ1, LS b σ1 (chS j) tok q es r ∧ σ1.pc = none ∧ step b σ = stepQ (chS k) (chS j) σ1 false (decide (k = j)) (decide (k ∈ [92])) (decide (j ∈ [34])) := by
  obtain ⟨σ1, h1, hn, e⟩ := ls_step h
  refine ⟨σ1, h1, hn, ?_⟩
  rw [stepT_q, ch_eq, cl_es, cl_dq] at e
  · exact e
  · rw [show oS " " = chS 32 from chsp, ch_eq]; rcases hj with rfl | rfl <;> decide
  · rw [cl_qt]; rcases hj with rfl | rfl <;> decide
theorem q_end {j : Nat} (hj : j = 39 ∨ j = 34) (h : LS b σ (chS j) tok q es (j :: r)) : Go b 1 σ (oS "a") tok true es r := by
  obtain ⟨σ1, h1, hn, e⟩ := q_step hj h
  unfold stepQ at e
  rw [decide_eq_true rfl] at e
  exact Go.one (σ1 := { σ1 with q := true, st := some (oS "a") }) e (h1.upd rfl rfl rfl h1.tok rfl h1.es) hn
theorem q_plain {j : Nat} (hj : j = 39 ∨ j = 34) (h : LS b σ (chS j) tok q es (k :: r)) (hk : k ≠ j) (he : ¬ (k = 92 ∧ j = 34)) : Go b 1 σ (chS j) (tok ++ chS k) true es r := by
  obtain ⟨σ1, h1, hn, e⟩ := q_step hj h
  have e2 : (decide (k ∈ [92]) && decide (j ∈ [34])) = false := by
    rw [← Bool.decide_and]
    exact decide_eq_false fun hh => he ⟨List.mem_singleton.mp hh.1, List.mem_singleton.mp hh.2⟩
  unfold stepQ at e
  rw [decide_eq_false hk, e2] at e
  exact Go.one (σ1 := { σ1 with q := true, tok := σ1.tok ++ chS k }) e (h1.upd rfl rfl h1.st (by rw [← h1.tok]) rfl h1.es) hn
theorem q_esc (h : LS b σ (chS 34) tok q es (92 :: r)) : Go b 1 σ (chS 92) tok true (chS 34) r := by
  obtain ⟨σ1, h1, hn, e⟩ := q_step (.inr rfl) h
  unfold stepQ at e
  exact Go.one (σ1 := { σ1 with q := true, es := chS 34, st := some (chS 92) }) e (h1.upd rfl rfl rfl h1.tok rfl rfl) hn
theorem e_one {es : Str} (h : LS b σ (chS 92) tok q es (k :: r)) (he : es = chS 97 ∨ (es = chS 34 ∧ (k = 92 ∨ k = 34))) : Go b 1 σ es (tok ++ chS k) q es r := by
  obtain ⟨σ1, h1, hn, e⟩ := ls_step h
  rw [stepT_e (by rw [show oS " " = chS 32 from chsp, ch_eq]; decide) (by rw [cl_qt]; decide) (by rw [cl_es]; decide), h1.es] at e
  unfold stepE at e
  have e2 : (inF es qtS && (chS k != chS 92) && (chS k != es)) = false := by
    rcases he with rfl | ⟨rfl, rfl | rfl⟩
    · rw [cl_qt]; rfl
    · rw [show (chS 92 != chS 92) = false from bne_self_eq_false _, Bool.and_false]; rfl
    · rw [show (chS 34 != chS 34) = false from bne_self_eq_false _, Bool.and_false]
  rw [e2, h1.es] at e
  exact Go.one (σ1 := { σ1 with tok := σ1.tok ++ chS k, st := some es, es := es }) e (h1.upd rfl rfl rfl (by rw [← h1.tok]) h1.q rfl) hn
/- ahead of a token -/
theorem stepT_sp {ch : Str} {σ : AS} {n ws co es wc pc qt fl : Bool} : stepT b ch σ n ws co es wc pc qt fl (some (oS " ")) = stepSp b ch σ n ws co es wc pc qt fl := by kernel_rfl
theorem sp_plain (h : LS b σ (oS " ") (oS "") false es (k :: r)) (hk : k ∉ [32, 9, 13, 10, 35, 39, 34, 92, 40, 41, 91, 93]) : Go b 1 σ (oS "a") (chS k) false es r := by
  simp only [List.mem_cons, List.not_mem_nil, or_false, not_or] at hk
  obtain ⟨σ1, h1, hn, e⟩ := ls_step h
  rw [stepT_sp, cl_ws, cl_co, cl_es, cl_pc, cl_qt] at e
  unfold stepSp at e
  simp [hk] at e
  exact Go.one (σ1 := { σ1 with tok := chS k, st := some (oS "a") }) e (h1.upd rfl rfl rfl rfl h1.q h1.es) hn
theorem sp_quote {j : Nat} (h : LS b σ (oS " ") (oS "") false es (j :: r)) (hj : j = 39 ∨ j = 34) : Go b 1 σ (chS j) (oS "") false es r := by
  obtain ⟨σ1, h1, hn, e⟩ := ls_step h
  rw [stepT_sp, cl_ws, cl_co, cl_es, cl_pc, cl_qt] at e
  have hw : inF (chS j) wcS = false := by rw [inF_ch]; rcases hj with rfl | rfl <;> kernel_rfl!
  rw [hw] at e
  unfold stepSp at e
  rcases hj with rfl | rfl
  · exact Go.one (σ1 := { σ1 with st := some (chS 39) }) e (h1.upd rfl rfl rfl h1.tok h1.q h1.es) hn
  · exact Go.one (σ1 := { σ1 with st := some (chS 34) }) e (h1.upd rfl rfl rfl h1.tok h1.q h1.es) hn
theorem sp_esc (h : LS b σ (oS " ") (oS "") false es (92 :: r)) : Go b 1 σ (chS 92) (oS "") false (oS "a") r := by
  obtain ⟨σ1, h1, hn, e⟩ := ls_step h
  rw [stepT_sp, cl_ws, cl_co, cl_es, cl_pc, cl_qt] at e
  unfold stepSp at e
  exact Go.one (σ1 := { σ1 with es := oS "a", st := some (chS 92) }) e (h1.upd rfl rfl rfl h1.tok h1.q rfl) hn
theorem brk_no (hk : k ∈ [40, 41, 91, 93]) : k ∉ [32, 9, 13, 10] ∧ k ∉ [35] ∧ k ∉ [92] ∧ k ∉ [39, 34] := by
  have : ∀ k ∈ [40, 41, 91, 93], k ∉ [32, 9, 13, 10] ∧ k ∉ [35] ∧ k ∉ [92] ∧ k ∉ [39, 34] := by decide
  exact this k hk
theorem ab_no (hk : k ∈ [97, 98, 46, 47]) : k ∉ [32, 9, 13, 10, 35, 39, 34, 92, 40, 41, 91, 93] := by
  have : ∀ k ∈ [97, 98, 46, 47], k ∉ [32, 9, 13, 10, 35, 39, 34, 92, 40, 41, 91, 93] := by decide
  exact this k hk
theorem hd_no (hk : k ∈ [39, 34, 92, 97, 98, 46, 47]) : k ∉ [32, 9, 13, 10] ∧ k ∉ [35] ∧ k ∉ [40, 41, 91, 93] := by
  have : ∀ k ∈ [39, 34, 92, 97, 98, 46, 47], k ∉ [32, 9, 13, 10] ∧ k ∉ [35] ∧ k ∉ [40, 41, 91, 93] := by decide
  exact this k hk
theorem sp_sign (h : LS b σ (oS " ") (oS "") false es (k :: r)) (hk : k ∈ [40, 41, 91, 93]) : Go b 1 σ (oS "c") (chS k) false es r := by
  obtain ⟨σ1, h1, hn, e⟩ := ls_step h
  rw [stepT_sp, cl_wc k hk, cl_ws, cl_co, cl_es, cl_pc, cl_qt] at e
  obtain ⟨a1, a2, a3, _⟩ := brk_no hk
  rw [decide_eq_false a1, decide_eq_false a2, decide_eq_false a3, decide_eq_true hk] at e
  unfold stepSp at e
  exact Go.one (σ1 := { σ1 with tok := chS k, st := some (oS "c") }) e (h1.upd rfl rfl rfl rfl h1.q h1.es) hn
theorem sp_ws (h : LS b σ (oS " ") (oS "") false es (k :: r)) (hk : k ∈ [32, 9, 13, 10]) : Go b 1 σ (oS " ") (oS "") false es r := by
  obtain ⟨σ1, h1, hn, e⟩ := ls_step h
  rw [stepT_sp, cl_ws, decide_eq_true hk] at e
  unfold stepSp at e
  exact Go.one (σ1 := σ1) e h1 hn
theorem c_sign (h : LS b σ (oS "c") tok q es (k :: r)) (hk : k ∈ [40, 41, 91, 93]) : Go b 1 σ (oS "c") (tok ++ chS k) q es r := by
  obtain ⟨σ1, h1, hn, e⟩ := ls_step h
  rw [stepT_c, cl_ws, cl_co, cl_es, cl_pc, cl_qt] at e
  obtain ⟨a1, a2, _, _⟩ := brk_no hk
  rw [decide_eq_false a1, decide_eq_false a2, decide_eq_true hk] at e
  unfold stepW at e
  exact Go.one (σ1 := { σ1 with tok := σ1.tok ++ chS k }) e (h1.upd rfl rfl h1.st (by rw [← h1.tok]) h1.q h1.es) hn
end
end Mine
namespace Mine
open PySem PySem.W PySem.Calls PyProof.Rows
section
variable {b : Str} {σ : AS} {tok es : Str} {q : Bool} {r : List Nat}
noncomputable def lS (l : List Nat) : Str := ⟨l.toArray⟩
theorem lS_cons (x : Str) (k : Nat) (l : List Nat) : x ++ chS k ++ lS l = x ++ lS (k :: l) := ext_l (by rw [app_l, app_l, app_l]; show (_ ++ [k]) ++ l = _ ++ (k :: l); rw [List.append_assoc]; rfl)
theorem lS_nil (x : Str) : x ++ lS [] = x := ext_l (by rw [app_l]; exact List.append_nil _)
theorem lS_of (x : Str) : lS x.cps.toList = x := ext_l rfl
theorem rep_cons (c : Nat) (z : List Nat) (k : Nat) (l : List Nat) : rep c z (k :: l) = (if k = c then z else [k]) ++ rep c z l := by unfold rep; rw [List.flatMap_cons]
/-- between single quotes -/
theorem way0 : ∀ {l : List Nat} {σ : AS} {tok : Str} {q : Bool} {es : Str}, LS b σ (chS 39) tok q es (rep 39 [39, 34, 39, 34, 39] l ++ r) → σ.pc = none → ∃ q', Go b (rep 39 [39, 34, 39, 34, 39] l).length σ (chS 39) (tok ++ lS l) q' es r
  | [], σ, tok, q, es, h, hp => ⟨q, 0, σ, Nat.le_refl _, .nil, by rw [lS_nil]; exact h, hp⟩
  | k :: l, σ, tok, q, es, h, hp => by
    rw [rep_cons] at h ⊢
    by_cases hk : k = 39
    · subst hk
      rw [if_pos rfl, List.append_assoc] at h
      rw [if_pos rfl]
      obtain ⟨n, σ5, hn, hr, hl, hp5⟩ := Go.then (Go.then (Go.then (Go.then (q_end (.inl rfl) h) fun σ1 h1 _ => a_quote h1 (.inr rfl)) fun σ2 h2 _ => q_plain (.inr rfl) h2 (by decide) (by decide)) fun σ3 h3 _ => q_end (.inr rfl) h3) fun σ4 h4 _ => a_quote h4 (.inl rfl)
      obtain ⟨q', m, σ6, hm, hr6, hl6, hp6⟩ := way0 hl hp5
      rw [lS_cons] at hl6
      exact ⟨q', n + m, σ6, by rw [List.length_append, show [39, 34, 39, 34, 39].length = 5 from rfl]; (first | lia | omega), hr.trans hr6, hl6, hp6⟩
    · rw [if_neg hk] at h ⊢
      obtain ⟨n, σ1, hn, hr, hl, hp1⟩ := q_plain (.inl rfl) (k := k) h hk (fun e => absurd e.2 (by decide))
      obtain ⟨q', m, σ6, hm, hr6, hl6, hp6⟩ := way0 hl hp1
      rw [lS_cons] at hl6
      exact ⟨q', n + m, σ6, by rw [List.length_append, List.length_singleton]; (first | lia | omega), hr.trans hr6, hl6, hp6⟩
noncomputable def dq (l : List Nat) : List Nat := rep 34 [92, 34] (rep 92 [92, 92] l)
theorem dq_cons (k : Nat) (l : List Nat) : dq (k :: l) = (if k = 92 then [92, 92] else if k = 34 then [92, 34] else [k]) ++ dq l := by
  unfold dq
  rw [rep_cons, rep_append]
  by_cases h : k = 92
  · subst h; rw [if_pos rfl, if_pos rfl]; rfl
  · rw [if_neg h, if_neg h]
    by_cases h2 : k = 34
    · subst h2; rw [if_pos rfl]; rfl
    · rw [if_neg h2, rep_cons, if_neg h2]; rfl
/-- between double quotes -/
theorem way1 : ∀ {l : List Nat} {σ : AS} {tok : Str} {q : Bool} {es : Str}, LS b σ (chS 34) tok q es (dq l ++ r) → σ.pc = none → ∃ q' es', Go b (dq l).length σ (chS 34) (tok ++ lS l) q' es' r
  | [], σ, tok, q, es, h, hp => ⟨q, es, 0, σ, Nat.le_refl _, .nil, by rw [lS_nil]; exact h, hp⟩
  | k :: l, σ, tok, q, es, h, hp => by
    rw [dq_cons] at h ⊢
    by_cases hk : k = 92
    · subst hk
      rw [if_pos rfl, List.append_assoc] at h
      rw [if_pos rfl]
      obtain ⟨n, σ5, hn, hr, hl, hp5⟩ := Go.then (q_esc h) fun σ1 h1 _ => e_one h1 (.inr ⟨rfl, .inl rfl⟩)
      obtain ⟨q', es', m, σ6, hm, hr6, hl6, hp6⟩ := way1 hl hp5
      rw [lS_cons] at hl6
      exact ⟨q', es', n + m, σ6, by rw [List.length_append, show [92, 92].length = 2 from rfl]; (first | lia | omega), hr.trans hr6, hl6, hp6⟩
    · rw [if_neg hk] at h ⊢
      by_cases hk2 : k = 34
      · subst hk2
        rw [if_pos rfl, List.append_assoc] at h
        rw [if_pos rfl]
        obtain ⟨n, σ5, hn, hr, hl, hp5⟩ := Go.then (q_esc h) fun σ1 h1 _ => e_one h1 (.inr ⟨rfl, .inr rfl⟩)
        obtain ⟨q', es', m, σ6, hm, hr6, hl6, hp6⟩ := way1 hl hp5
        rw [lS_cons] at hl6
        exact ⟨q', es', n + m, σ6, by rw [List.length_append, show [92, 34].length = 2 from rfl]; (first | lia | omega), hr.trans hr6, hl6, hp6⟩
      · rw [if_neg hk2] at h ⊢
        obtain ⟨n, σ1, hn, hr, hl, hp1⟩ := q_plain (.inr rfl) (k := k) h hk2 (fun e => hk e.1)
        obtain ⟨q', es', m, σ6, hm, hr6, hl6, hp6⟩ := way1 hl hp1
        rw [lS_cons] at hl6
        exact ⟨q', es', n + m, σ6, by rw [List.length_append, List.length_singleton]; (first | lia | omega), hr.trans hr6, hl6, hp6⟩
noncomputable def bs (l : List Nat) : List Nat := l.flatMap fun k => [92, k]
theorem bs_cons (k : Nat) (l : List Nat) : bs (k :: l) = 92 :: k :: bs l := by unfold bs; rw [List.flatMap_cons]; rfl
/-- a backslash ahead of each sign -/
theorem way2 : ∀ {l : List Nat} {σ : AS} {tok : Str} {q : Bool} {es : Str}, LS b σ (oS "a") tok q es (bs l ++ r) → σ.pc = none → ∃ es', Go b (bs l).length σ (oS "a") (tok ++ lS l) q es' r
  | [], σ, tok, q, es, h, hp => ⟨es, 0, σ, Nat.le_refl _, .nil, by rw [lS_nil]; exact h, hp⟩
  | k :: l, σ, tok, q, es, h, hp => by
    rw [bs_cons] at h ⊢
    obtain ⟨n, σ5, hn, hr, hl, hp5⟩ := Go.then (a_esc h) fun σ1 h1 _ => e_one h1 (.inl cha)
    obtain ⟨es', m, σ6, hm, hr6, hl6, hp6⟩ := way2 hl hp5
    rw [lS_cons] at hl6
    exact ⟨es', n + m, σ6, by rw [List.length_cons, List.length_cons]; (first | lia | omega), hr.trans hr6, hl6, hp6⟩
/-- as it stands -/
theorem way3 : ∀ {l : List Nat} {σ : AS} {tok : Str} {q : Bool} {es : Str}, (∀ k ∈ l, k ∈ [97, 98, 46, 47]) → LS b σ (oS "a") tok q es (l ++ r) → σ.pc = none → Go b l.length σ (oS "a") (tok ++ lS l) q es r
  | [], σ, tok, q, es, _, h, hp => ⟨0, σ, Nat.le_refl _, .nil, by rw [lS_nil]; exact h, hp⟩
  | k :: l, σ, tok, q, es, hk, h, hp => by
    have h1 := hk k (.head _)
    obtain ⟨n, σ1, hn, hr, hl, hp1⟩ := a_plain h (ab_no h1)
    obtain ⟨m, σ6, hm, hr6, hl6, hp6⟩ := way3 (fun k h => hk k (.tail _ h)) hl hp1
    rw [lS_cons] at hl6
    exact ⟨n + m, σ6, by rw [List.length_cons]; (first | lia | omega), hr.trans hr6, hl6, hp6⟩
/- what is written of a word -/
theorem join_nil_l : ∀ l : List Str, (Str.join (Str.ofString "") l).cps.toList = l.flatMap fun s => s.cps.toList
  | [] => rfl
  | [x] => by rw [List.flatMap_singleton]; rfl
  | x :: y :: l => by
    have e : Str.join (Str.ofString "") (x :: y :: l) = x ++ Str.ofString "" ++ Str.join (Str.ofString "") (y :: l) := rfl
    rw [e, app_nil, app_l, List.flatMap_cons, join_nil_l (y :: l)]
theorem spell2 (x : Str) : (Txt.join (Str.ofString "") ((signs x).map fun s => Str.ofString "\\" ++ s)).cps.toList = bs x.cps.toList := by
  have e : Txt.join (Str.ofString "") ((signs x).map fun s => Str.ofString "\\" ++ s) = Str.join (Str.ofString "") ((signs x).map fun s => Str.ofString "\\" ++ s) := StrLaws.glued_eq_join _ _
  rw [e, join_nil_l]
  unfold signs bs
  rw [List.map_map, List.flatMap_map]
  rfl
theorem cont_iff {y : Str} {k : Nat} : y.cps.contains k = true ↔ k ∈ y.cps.toList := by
  rw [Array.contains_iff_mem, Array.mem_toList_iff]
theorem getD_of {x : Str} {k i : Nat} (h : x.cps.toList[i]? = some k) : x.cps.getD i 0 = k := by
  rw [← PyProof.Rows.getD_list, List.getD_eq_getElem?_getD, h]; rfl
theorem strip_all {x y : Str} (h : Txt.stripChars x y = Str.ofString "") : ∀ k ∈ x.cps.toList, k ∈ y.cps.toList := by
  have e : Txt.stripChars x y = Builtin.Str.strSub x (stripLo y.cps.contains true x) (stripHi y.cps.contains true x (stripLo y.cps.contains true x)) := PyProof.Rows.stripBy_eq _ _ _ _
  obtain ⟨l1, l2, _⟩ := PyProof.Rows.lo_facts y.cps.contains x
  obtain ⟨h1, h2, h3, _⟩ := PyProof.Rows.hi_facts y.cps.contains x _ l1
  rw [e] at h
  have hl := congrArg (fun s : Str => s.cps.toList.length) h
  rw [StrLaws.strSub_toList, List.length_take, List.length_drop, Array.length_toList] at hl
  have e0 : (Str.ofString "").cps.toList.length = 0 := by decide
  have e1 : x.cps.size = x.length := rfl
  rw [e0, e1] at hl
  intro k hk
  obtain ⟨i, hi⟩ := List.getElem?_of_mem hk
  have hlt : i < x.length := by
    have := (List.getElem?_eq_some_iff.mp hi).1
    rw [Array.length_toList] at this
    exact this
  rw [← cont_iff, ← getD_of hi]
  by_cases hc : i < stripLo y.cps.contains true x
  · exact l2 i hc
  · exact h3 i (by (first | lia | omega)) hlt
theorem strip_none {x y : Str} (h : ∀ k ∈ x.cps.toList, k ∈ y.cps.toList) : Txt.stripChars x y = Str.ofString "" := by
  have e : Txt.stripChars x y = Builtin.Str.strSub x (stripLo y.cps.contains true x) (stripHi y.cps.contains true x (stripLo y.cps.contains true x)) := PyProof.Rows.stripBy_eq _ _ _ _
  obtain ⟨l1, _, l3⟩ := PyProof.Rows.lo_facts y.cps.contains x
  have hlo : stripLo y.cps.contains true x = x.length := by
    rcases l3 with h3 | h3
    · exact h3
    · refine Classical.byContradiction fun hne => ?_
      have hlt : stripLo y.cps.contains true x < x.cps.toList.length := by rw [Array.length_toList]; exact Nat.lt_of_le_of_ne l1 hne
      have hg := List.getElem?_eq_getElem hlt
      rw [getD_of hg, cont_iff.mpr (h _ (List.getElem_mem hlt))] at h3
      cases h3
  refine ext_l ?_
  rw [e, StrLaws.strSub_toList, hlo, List.drop_eq_nil_of_le (by rw [Array.length_toList]; exact Nat.le_refl _), List.take_nil]; rfl
/-- all ways: the word is read as it was -/
theorem spell_go {x : Str} {way : Int} (h : LS b σ (oS " ") (oS "") false (oS " ") ((spellF x way).cps.toList ++ r)) : ∃ q' es', Go b (spellF x way).length σ (oS "a") x q' es' r ∧ (x = Str.ofString "" → q' = true) := by
  have len1 : ∀ y z : Str, (chS 34 ++ y ++ z).length = 1 + y.length + z.length := fun y z => by rw [len_app, len_app]; rfl
  unfold spellF at h ⊢
  split at h
  · rename_i hw
    rw [if_pos hw]
    have hk := strip_all hw.2.2
    have el : (Str.ofString "ab./").cps.toList = [97, 98, 46, 47] := by kernel_rfl!
    rw [el] at hk
    have hx : x.cps.toList ≠ [] := fun e => hw.2.1 (ext_l (by rw [e]; rfl))
    have hlen : x.length = x.cps.toList.length := (Array.length_toList ..).symm
    rw [hlen]
    obtain ⟨k, l, e⟩ := List.exists_cons_of_ne_nil hx
    have e3 : x = chS k ++ lS l := ext_l (by rw [app_l, e]; rfl)
    rw [e] at h hk ⊢
    have h1 := hk k (.head _)
    have g := Go.then (sp_plain h (ab_no h1)) fun σ1 hl hp => way3 (fun k h => hk k (.tail _ h)) hl hp
    rw [← e3] at g
    exact ⟨_, _, g.mono (by rw [List.length_cons]; (first | lia | omega)), fun e4 => absurd (by rw [e4]; rfl) hx⟩
  · rename_i hw
    rw [if_neg hw]
    split at h
    · rename_i hw1
      rw [if_pos hw1]
      have e1 : (Txt.replace (Txt.replace x (Str.ofString "\\") (Str.ofString "\\\\")) (Str.ofString "\"") (Str.ofString "\\\"")).cps.toList = dq x.cps.toList := by
        rw [show Str.ofString "\"" = ⟨#[34]⟩ by decide, replace_rep, show Str.ofString "\\" = ⟨#[92]⟩ by decide, replace_rep]; rfl
      have e2 : (Txt.replace (Txt.replace x (Str.ofString "\\") (Str.ofString "\\\\")) (Str.ofString "\"") (Str.ofString "\\\"")).length = (dq x.cps.toList).length := by rw [← e1, Array.length_toList]; rfl
      rw [ch34] at h e1 e2 ⊢
      rw [len1, e2]
      rw [app_l, app_l, e1] at h
      have e5 : (chS 34).length = 1 := rfl
      rw [e5]
      have h' : LS b σ (oS " ") (oS "") false (oS " ") (34 :: (dq x.cps.toList ++ (34 :: r))) := by
        have e6 : (chS 34).cps.toList = [34] := rfl
        rw [e6, List.append_assoc, List.append_assoc] at h
        exact h
      obtain ⟨n1, σ1, hn1, hr1, hl1, hp1⟩ := sp_quote h' (.inr rfl)
      obtain ⟨q', es', g⟩ := way1 (r := 34 :: r) hl1 hp1
      have g2 := Go.then g fun σ2 h2 _ => q_end (.inr rfl) h2
      obtain ⟨n2, σ2, hn2, hr2, hl2, hp2⟩ := g2
      rw [show oS "" = Str.ofString "" from rfl, nil_app, lS_of] at hl2
      exact ⟨true, es', ⟨n1 + n2, σ2, by (first | lia | omega), hr1.trans hr2, hl2, hp2⟩, fun _ => rfl⟩
    · rename_i hw1
      rw [if_neg hw1]
      split at h
      · rename_i hw2
        rw [if_pos hw2]
        have hx : x.cps.toList ≠ [] := fun e => hw2.2 (ext_l (by rw [e]; rfl))
        rw [spell2] at h
        have hlen : (Txt.join (Str.ofString "") ((signs x).map fun s => Str.ofString "\\" ++ s)).length = (bs x.cps.toList).length := by rw [← spell2, Array.length_toList]; rfl
        rw [hlen]
        obtain ⟨k, l, e⟩ := List.exists_cons_of_ne_nil hx
        have e3 : x = chS k ++ lS l := ext_l (by rw [app_l, e]; rfl)
        rw [e, bs_cons] at h ⊢
        obtain ⟨n1, σ1, hn1, hr1, hl1, hp1⟩ := Go.then (sp_esc h) fun σ1 h1 _ => e_one h1 (.inl cha)
        obtain ⟨es', n2, σ2, hn2, hr2, hl2, hp2⟩ := way2 hl1 hp1
        rw [show oS "" = Str.ofString "" from rfl, nil_app, ← e3] at hl2
        exact ⟨false, es', ⟨n1 + n2, σ2, by rw [List.length_cons, List.length_cons]; (first | lia | omega), hr1.trans hr2, hl2, hp2⟩, fun e4 => absurd (by rw [e4]; rfl) hx⟩
      · rename_i hw2
        rw [if_neg hw2]
        have e1 : (Txt.replace x (Str.ofString "'") (Str.ofString "'\"'\"'")).cps.toList = rep 39 [39, 34, 39, 34, 39] x.cps.toList := by
          rw [show Str.ofString "'" = ⟨#[39]⟩ by decide, replace_rep]; rfl
        have e2 : (Txt.replace x (Str.ofString "'") (Str.ofString "'\"'\"'")).length = (rep 39 [39, 34, 39, 34, 39] x.cps.toList).length := by rw [← e1, Array.length_toList]; rfl
        have len2 : ∀ y : Str, (Str.ofString "'" ++ y ++ Str.ofString "'").length = 1 + y.length + 1 := fun y => by rw [len_app, len_app]; rfl
        rw [len2, e2]
        have h' : LS b σ (oS " ") (oS "") false (oS " ") (39 :: (rep 39 [39, 34, 39, 34, 39] x.cps.toList ++ (39 :: r))) := by
          have e6 : (Str.ofString "'").cps.toList = [39] := by decide
          rw [app_l, app_l, e1, e6, List.append_assoc, List.append_assoc] at h
          exact h
        obtain ⟨n1, σ1, hn1, hr1, hl1, hp1⟩ := sp_quote h' (.inl rfl)
        obtain ⟨q', g⟩ := way0 (r := 39 :: r) hl1 hp1
        have g2 := Go.then g fun σ2 h2 _ => q_end (.inl rfl) h2
        obtain ⟨n2, σ2, hn2, hr2, hl2, hp2⟩ := g2
        rw [show oS "" = Str.ofString "" from rfl, nil_app, lS_of] at hl2
        exact ⟨true, _, ⟨n1 + n2, σ2, by (first | lia | omega), hr1.trans hr2, hl2, hp2⟩, fun _ => rfl⟩
/-- the first sign of what is written of a word -/
theorem spell_head (x : Str) (way : Int) : ∃ k l, (spellF x way).cps.toList = k :: l ∧ k ∈ [39, 34, 92, 97, 98, 46, 47] := by
  unfold spellF
  split
  · rename_i hw
    have hk := strip_all hw.2.2
    have el : (Str.ofString "ab./").cps.toList = [97, 98, 46, 47] := by kernel_rfl!
    rw [el] at hk
    have hx : x.cps.toList ≠ [] := fun e => hw.2.1 (ext_l (by rw [e]; rfl))
    obtain ⟨k, l, e⟩ := List.exists_cons_of_ne_nil hx
    exact ⟨k, l, e, .tail _ (.tail _ (.tail _ (hk k (by rw [e]; exact .head _))))⟩
  · split
    · exact ⟨34, _, by rw [ch34, app_l, app_l]; rfl, by decide⟩
    · split
      · rename_i hw2
        have hx : x.cps.toList ≠ [] := fun e => hw2.2 (ext_l (by rw [e]; rfl))
        obtain ⟨k, l, e⟩ := List.exists_cons_of_ne_nil hx
        exact ⟨92, _, by rw [spell2, e, bs_cons], by decide⟩
      · exact ⟨39, _, by rw [ch39, app_l, app_l]; rfl, by decide⟩
end
end Mine
namespace Mine
open PySem PySem.W PySem.Calls PyProof.Rows
noncomputable def rs (σ : AS) : AS := { σ with tok := oS "", q := false, es := oS " " }
noncomputable abbrev brk : List Nat := [40, 41, 91, 93]
section
variable {b : Str} {σ : AS} {tok es : Str} {q : Bool} {k : Nat} {r : List Nat}
theorem LS.wf {l : List Nat} (h : LS b σ (oS " ") tok q es l) : Wf b σ := by
  refine ⟨.inr (.inl h.st), fun ch e => ?_, h.p0, h.p1⟩
  have := h.at_
  rw [e] at this
  obtain ⟨k, rfl, _⟩ := this
  exact Nat.le_refl 1
/-- a token ends -/
def Fin (b : Str) (σ : AS) (tok : Str) (q : Bool) (l : List Nat) : Prop := ∃ σ', step b σ = some (true, σ') ∧ σ'.tok = tok ∧ σ'.q = q ∧ LS b (Mine.rs σ') (oS " ") (oS "") false (oS " ") l
theorem a_ws (h : LS b σ (oS "a") tok q es (k :: r)) (hk : k ∈ [32, 9, 13, 10]) (hf : (decide (tok.length ≠ 0) || q) = true) : Fin b σ tok q r := by
  obtain ⟨σ1, h1, hn, e⟩ := ls_step h
  rw [stepT_a, cl_ws, decide_eq_true hk, hf] at e
  unfold stepW at e
  exact ⟨{ σ1 with st := some (oS " ") }, e, h1.tok, h1.q, h1.upd rfl rfl rfl rfl rfl rfl⟩
theorem push_LS {σ1 : AS} {st : Str} (h1 : LS b σ1 st tok q es r) (hn : σ1.pc = none) {σ' : AS} (hp : σ'.p = σ1.p) (hpc : σ'.pc = some (chS k)) (hst : σ'.st = some (oS " ")) : LS b (Mine.rs σ') (oS " ") (oS "") false (oS " ") (k :: r) := by
  have hat := h1.at_
  rw [hn] at hat
  refine ⟨hst, rfl, rfl, rfl, by show 0 ≤ σ'.p; rw [hp]; exact h1.p0, by show σ'.p ≤ _; rw [hp]; exact h1.p1, ?_⟩
  show (match σ'.pc with
    | none => b.cps.toList.drop σ'.p.toNat = k :: r
    | some ch => ∃ j, ch = chS j ∧ k :: r = j :: b.cps.toList.drop σ'.p.toNat)
  rw [hpc, hp]
  exact ⟨k, rfl, by rw [show b.cps.toList.drop σ1.p.toNat = r from hat]⟩
theorem a_sign (h : LS b σ (oS "a") tok q es (k :: r)) (hk : k ∈ brk) (hf : (decide (tok.length ≠ 0) || q) = true) : Fin b σ tok q (k :: r) := by
  obtain ⟨σ1, h1, hn, e⟩ := ls_step h
  obtain ⟨a1, a2, a3, a4⟩ := brk_no hk
  rw [stepT_a, cl_wc k hk, cl_ws, cl_co, cl_es, cl_pc, cl_qt, decide_eq_false a1, decide_eq_false a2, decide_eq_false a3, decide_eq_false a4, decide_eq_true hk, hf] at e
  unfold stepW at e
  exact ⟨{ σ1 with pc := some (chS k), st := some (oS " ") }, e, h1.tok, h1.q, push_LS h1 hn rfl rfl rfl⟩
theorem c_word (h : LS b σ (oS "c") tok q es (k :: r)) (hk : k ∈ [39, 34, 92, 97, 98, 46, 47]) : Fin b σ tok q (k :: r) := by
  obtain ⟨σ1, h1, hn, e⟩ := ls_step h
  have a1 : k ∉ [32, 9, 13, 10] ∧ k ∉ [35] ∧ k ∉ brk := hd_no hk
  rw [stepT_c, cl_ws, cl_co, cl_pc, decide_eq_false a1.1, decide_eq_false a1.2.1, decide_eq_false a1.2.2] at e
  unfold stepW at e
  exact ⟨{ σ1 with pc := some (chS k), st := some (oS " ") }, e, h1.tok, h1.q, push_LS h1 hn rfl rfl rfl⟩
theorem c_end (h : LS b σ (oS "c") tok q es []) : step b σ = some (true, { σ with st := none }) := by
  obtain ⟨e, _⟩ := ls_end h
  rw [stepT_c] at e
  exact e
theorem sp_end (h : LS b σ (oS " ") (oS "") false es []) : step b σ = some (true, { σ with st := none }) := by
  obtain ⟨e, _⟩ := ls_end h
  rw [stepT_sp] at e
  exact e
/-- a comment up to the end of its line -/
theorem sp_co {l : List Nat} (h : LS b σ (oS " ") (oS "") false (oS " ") (35 :: (l ++ 10 :: r))) (hl : 10 ∉ l) : ∃ σ', step b σ = some (false, σ') ∧ LS b σ' (oS " ") (oS "") false (oS " ") r := by
  obtain ⟨σ1, h1, hn, e⟩ := ls_step h
  rw [stepT_sp, cl_ws, cl_co] at e
  unfold stepSp at e
  refine ⟨{ σ1 with p := lineEnd b σ1.p }, e, ?_⟩
  have hat := h1.at_
  rw [hn] at hat
  dsimp only at hat
  have hp0 := h1.p0
  have hlen := congrArg List.length hat
  rw [List.length_drop, Array.length_toList, List.length_append, List.length_cons] at hlen
  have e0 : b.cps.size = b.length := rfl
  rw [e0] at hlen
  have htw : ((b.cps.toList.drop σ1.p.toNat).takeWhile (· ≠ 10)).length = l.length := by
    rw [hat, List.takeWhile_append_of_pos (fun a ha => by simpa using fun hh : a = 10 => hl (hh ▸ ha)), List.takeWhile_cons, if_neg (by decide), List.append_nil]
  have hle : lineEnd b σ1.p = σ1.p + (l.length + 1 : Nat) := by
    unfold lineEnd
    obtain ⟨k, hk⟩ := Int.eq_ofNat_of_zero_le hp0
    rw [hk, Int.toNat_natCast] at hlen
    have h2 : k + (l.length + 1) ≤ b.length := by clear hat htw e; (first | lia | omega)
    have h3 : ((k + (l.length + 1) : Nat) : Int) ≤ (b.length : Int) := Int.ofNat_le.mpr h2
    rw [hk, if_pos (Int.ofNat_lt.mpr (Nat.lt_of_lt_of_le (Nat.lt_add_of_pos_right (Nat.succ_pos _)) h2)), ← hk, htw, hk]
    exact Int.min_eq_left h3
  refine ⟨h1.st, h1.tok, h1.q, h1.es, ?_, ?_, ?_⟩
  · show 0 ≤ lineEnd b σ1.p; rw [hle]; (first | lia | omega)
  · show lineEnd b σ1.p ≤ _; rw [hle]; (first | lia | omega)
  · show (match σ1.pc with
      | none => b.cps.toList.drop (lineEnd b σ1.p).toNat = r
      | some ch => ∃ j, ch = chS j ∧ r = j :: b.cps.toList.drop (lineEnd b σ1.p).toNat)
    rw [hn, hle]
    dsimp only
    have e1 : (σ1.p + (l.length + 1 : Nat)).toNat = σ1.p.toNat + (l.length + 1) := by (first | lia | omega)
    rw [e1, ← List.drop_drop, hat, ← List.drop_drop, List.drop_left]; rfl
/-- the rest of a gap -/
theorem gap_go {g : List Nat} (hg : g ∈ [[], [9], [35, 32, 93, 41, 40, 39, 10], [32]]) (h : LS b σ (oS " ") (oS "") false (oS " ") (g ++ r)) : ∃ n σ', n ≤ g.length ∧ Rn b n σ σ' ∧ LS b σ' (oS " ") (oS "") false (oS " ") r := by
  simp only [List.mem_cons, List.not_mem_nil, or_false] at hg
  rcases hg with rfl | rfl | rfl | rfl
  · exact ⟨0, σ, Nat.le_refl _, .nil, h⟩
  · obtain ⟨n, σ1, hn, hr, hl, _⟩ := sp_ws h (by decide)
    exact ⟨n, σ1, hn, hr, hl⟩
  · obtain ⟨σ1, e, hl⟩ := sp_co (l := [32, 93, 41, 40, 39]) h (by decide)
    exact ⟨1, σ1, by decide, .more e .nil, hl⟩
  · obtain ⟨n, σ1, hn, hr, hl, _⟩ := sp_ws h (by decide)
    exact ⟨n, σ1, hn, hr, hl⟩
/-- the tokens from here, the first within B turns -/
def ChB (b : Str) (B : Nat) (σ : AS) (toks : List Str) : Prop :=
  (toks = [] ∧ ∃ n σ', n ≤ B ∧ Run b n σ σ' ∧ tokV σ' = .non) ∨ ∃ n σ' y ys, toks = y :: ys ∧ n ≤ B ∧ Run b n σ σ' ∧ tokV σ' = .str y ∧ Chn b (rs σ') ys
theorem ChB.chn {B : Nat} {toks : List Str} {l : List Nat} (h : ChB b B σ toks) (hl : LS b σ (oS " ") (oS "") false (oS " ") l) (hB : B ≤ 200000) : Chn b σ toks := by
  have ht : σ.tok.length = 0 := by rw [hl.tok]; decide
  rcases h with ⟨rfl, n, σ', hn, hr, hv⟩ | ⟨n, σ', y, ys, rfl, hn, hr, hv, hc⟩
  · exact .done hl.wf hl.q hl.es hr (by (first | lia | omega)) hv
  · exact .tok hl.wf hl.q hl.es hr (by (first | lia | omega)) hv hc
theorem ChB.pre {B j : Nat} {toks : List Str} {σ1 : AS} (hr : Rn b j σ σ1) (h : ChB b B σ1 toks) : ChB b (j + B) σ toks := by
  rcases h with ⟨rfl, n, σ', hn, hr2, hv⟩ | ⟨n, σ', y, ys, rfl, hn, hr2, hv, hc⟩
  · exact .inl ⟨rfl, j + n, σ', by (first | lia | omega), hr.run hr2, hv⟩
  · exact .inr ⟨j + n, σ', y, ys, rfl, by (first | lia | omega), hr.run hr2, hv, hc⟩
theorem ChB.mono {B B' : Nat} {toks : List Str} (h : ChB b B σ toks) (hb : B ≤ B') : ChB b B' σ toks := by
  rcases h with ⟨rfl, n, σ', hn, hr, hv⟩ | ⟨n, σ', y, ys, rfl, hn, hr, hv, hc⟩
  · exact .inl ⟨rfl, n, σ', by (first | lia | omega), hr, hv⟩
  · exact .inr ⟨n, σ', y, ys, rfl, by (first | lia | omega), hr, hv, hc⟩
theorem tokV_str {σ : AS} {x : Str} (ht : σ.tok = x) (h : x = Str.ofString "" → σ.q = true) : tokV σ = .str x := by
  unfold tokV
  rw [ht]
  by_cases hx : x = Str.ofString ""
  · rw [h hx]; rfl
  · rw [show (x == oS "") = false from beq_eq_false_iff_ne.mpr hx, Bool.and_false]; rfl
theorem none_chn {σ : AS} (hs : σ.st = none) (hp : σ.pc = none) (h0 : 0 ≤ σ.p) (h1 : σ.p ≤ b.length) : Chn b (rs σ) [] := by
  have n1 : (nxS b (rs σ)).st = none := by unfold nxS; split <;> exact hs
  have n2 : (nxS b (rs σ)).q = false := by unfold nxS; split <;> rfl
  have e : step b (rs σ) = some (true, { nxS b (rs σ) with tok := oS "" }) := (stepA_of (o := none) n1).trans rfl
  refine .done ⟨.inl hs, fun ch e => ?_, h0, h1⟩ rfl rfl (.last e) (by show (oS "").length + 2 * 1 ≤ 500000; decide) ?_
  · rw [show (rs σ).pc = none from hp] at e; cases e
  · show (bif !(nxS b (rs σ)).q && (oS "" == oS "") then PV.non else _) = _
    rw [n2]; rfl
def gpS : List Sy → Prop
  | [] => True
  | .sign _ :: r => gpS r
  | .word _ _ g :: r => ((∃ k t, g.cps.toList = k :: t ∧ k ∈ [32, 9, 13, 10] ∧ t ∈ [[], [9], [35, 32, 93, 41, 40, 39, 10], [32]]) ∨ (g.cps.toList = [] ∧ ∃ c r', r = .sign c :: r' ∧ c ∈ brk)) ∧ gpS r
noncomputable abbrev txS (S : List Sy) : List Nat := S.flatMap Sy.txt
theorem lS_ne {x y : Str} (h : x ≠ Str.ofString "") : x ++ y ≠ Str.ofString "" := fun e => h (by
  have := len0.mpr e
  rw [len_app] at this
  exact len0.mp (by (first | lia | omega)))
theorem brk_strip {x : Str} (h : ∀ k ∈ x.cps.toList, k ∈ brk) : Txt.stripChars x (Str.ofString "()[]") = Str.ofString "" := strip_none fun k hk => by
  have e : (Str.ofString "()[]").cps.toList = [40, 41, 91, 93] := by kernel_rfl!
  rw [e]; exact h k hk
/-- reading all that is written, from between two tokens and from within signs -/
theorem lex_main : ∀ (S : List Sy) (ρ : RS), OkSy ρ S → gpS S → (txS S).length ≤ 100000 → S.length ≤ 900 →
    (∀ σ, LS b σ (oS " ") (oS "") false (oS " ") (txS S) → ∃ toks, ChB b ((txS S).length + 1) σ toks ∧ OkTs ρ toks ∧ toks.foldl rdTok ρ = S.foldl actS ρ) ∧
    (∀ σ tok, tok ≠ Str.ofString "" → LS b σ (oS "c") tok false (oS " ") (txS S) → ∃ u toks, ChB b ((txS S).length + 1) σ ((tok ++ lS u) :: toks) ∧ (∀ k ∈ u, k ∈ brk) ∧ u.length ≤ S.length ∧ OkL ρ u ∧ OkTs (u.foldl rdSign ρ) toks ∧ toks.foldl rdTok (u.foldl rdSign ρ) = S.foldl actS ρ) := by
  intro S
  induction S with
  | nil =>
    intro ρ _ _ _ _
    refine ⟨fun σ h => ⟨[], .inl ⟨rfl, 1, _, Nat.le_refl _, .last (sp_end h), ?_⟩, trivial, rfl⟩, fun σ tok ht h => ⟨[], [], .inr ⟨1, _, _, [], rfl, Nat.le_refl _, .last (c_end h), ?_, ?_⟩, by simp, Nat.le_refl _, trivial, trivial, rfl⟩⟩
    · show (bif !σ.q && (σ.tok == oS "") then PV.non else _) = _
      rw [h.q, h.tok]; rfl
    · rw [lS_nil]
      exact tokV_str h.tok fun e => absurd e ht
    · exact none_chn rfl (ls_end h).2 h.p0 h.p1
  | cons s S ih =>
    intro ρ hok hgp hlen hS
    rw [List.length_cons] at hS
    cases s with
    | sign c =>
      obtain ⟨o1, o2, o3, o4⟩ := hok
      have hc : c ∈ brk := by rcases o3 with rfl | rfl | rfl | rfl <;> decide
      have el : txS (.sign c :: S) = c :: txS S := rfl
      rw [el] at hlen ⊢
      rw [List.length_cons] at hlen ⊢
      obtain ⟨_, i2⟩ := ih _ o4 hgp (by (first | lia | omega)) (by (first | lia | omega))
      refine ⟨fun σ h => ?_, fun σ tok ht h => ?_⟩
      · obtain ⟨n, σ1, hn, hr, hl, _⟩ := sp_sign h hc
        obtain ⟨u, toks, h1, h2, h3, h4, h5, h6⟩ := i2 σ1 (chS c) (fun e => absurd (congrArg (fun s : Str => s.cps.toList) e) (by rw [show (Str.ofString "").cps.toList = [] by decide]; exact List.cons_ne_nil _ _)) hl
        have hne : chS c ++ lS u ≠ Str.ofString "" := lS_ne fun e => absurd (congrArg (fun s : Str => s.cps.toList) e) (by rw [show (Str.ofString "").cps.toList = [] by decide]; exact List.cons_ne_nil _ _)
        have hcl : (chS c ++ lS u).cps.toList = c :: u := by rw [app_l]; rfl
        have hcu : ∀ k ∈ (chS c ++ lS u).cps.toList, k ∈ brk := fun k hk => by
          rw [hcl] at hk
          rcases List.mem_cons.mp hk with rfl | hk
          · exact hc
          · exact h2 k hk
        have hif : ¬ (chS c ++ lS u = Str.ofString "" ∨ Txt.stripChars (chS c ++ lS u) (Str.ofString "()[]") ≠ Str.ofString "") := fun hh => hh.elim hne fun h => h (brk_strip hcu)
        have hrd : rdTok ρ (chS c ++ lS u) = u.foldl rdSign (rdSign ρ c) := by
          unfold rdTok
          rw [if_neg hif, hcl, List.foldl_cons]
        refine ⟨(chS c ++ lS u) :: toks, (h1.pre hr).mono (by (first | lia | omega)), ⟨⟨?_, ?_⟩, ?_⟩, ?_⟩
        · rw [len_app]
          show 1 + u.length ≤ 1000
          (first | lia | omega)
        · rw [if_neg hif, hcl]
          exact ⟨o2, o1, h4⟩
        · rw [hrd]; exact h5
        · rw [List.foldl_cons, List.foldl_cons, hrd]; exact h6
      · obtain ⟨n, σ1, hn, hr, hl, _⟩ := c_sign h hc
        obtain ⟨u, toks, h1, h2, h3, h4, h5, h6⟩ := i2 σ1 (tok ++ chS c) (lS_ne ht) hl
        rw [lS_cons] at h1
        refine ⟨c :: u, toks, (h1.pre hr).mono (by (first | lia | omega)), fun k hk => ?_, by rw [List.length_cons, List.length_cons]; (first | lia | omega), ⟨o2, o1, h4⟩, h5, h6⟩
        rcases List.mem_cons.mp hk with rfl | hk
        · exact hc
        · exact h2 k hk
    | word x way g =>
      obtain ⟨o1, o2, o3, o4, o5⟩ := hok
      have el : txS (.word x way g :: S) = (spellF x way).cps.toList ++ (g.cps.toList ++ txS S) := by
        show ((spellF x way).cps.toList ++ g.cps.toList) ++ txS S = _
        rw [List.append_assoc]
      rw [el] at hlen ⊢
      rw [List.length_append, List.length_append] at hlen ⊢
      obtain ⟨i1, _⟩ := ih _ o5 hgp.2 (by (first | lia | omega)) (by (first | lia | omega))
      have sl : (spellF x way).length = (spellF x way).cps.toList.length := (Array.length_toList ..).symm
      have hif : x = Str.ofString "" ∨ Txt.stripChars x (Str.ofString "()[]") ≠ Str.ofString "" := o4
      have hrd : rdTok ρ x = rdWord ρ x := if_pos hif
      have hS1 : ∀ σ, LS b σ (oS " ") (oS "") false (oS " ") ((spellF x way).cps.toList ++ (g.cps.toList ++ txS S)) → ∃ toks, ChB b ((spellF x way).cps.toList.length + (g.cps.toList.length + (txS S).length) + 1) σ toks ∧ OkTs ρ toks ∧ toks.foldl rdTok ρ = (Sy.word x way g :: S).foldl actS ρ := by
        intro σ h
        obtain ⟨q', es', ⟨n, σ1, hn, hr, hl, _⟩, hq⟩ := spell_go h
        have hf : (decide (x.length ≠ 0) || q') = true := by
          by_cases hx : x = Str.ofString ""
          · rw [hq hx, Bool.or_true]
          · rw [show decide (x.length ≠ 0) = true from decide_eq_true fun e => hx (len0.mp e), Bool.true_or]
        have fin : ∀ {σ' : AS} {toks : List Str}, step b σ1 = some (true, σ') → σ'.tok = x → σ'.q = q' → Chn b (rs σ') toks → OkTs (rdWord ρ x) toks → toks.foldl rdTok (rdWord ρ x) = S.foldl actS (rdWord ρ x) → ∃ toks, ChB b ((spellF x way).cps.toList.length + (g.cps.toList.length + (txS S).length) + 1) σ toks ∧ OkTs ρ toks ∧ toks.foldl rdTok ρ = (Sy.word x way g :: S).foldl actS ρ := by
          intro σ' toks e ht hq' hc ho he
          refine ⟨x :: toks, .inr ⟨n + 1, σ', x, toks, rfl, by (first | lia | omega), hr.run (.last e), tokV_str ht (fun hx => by rw [hq', hq hx]), hc⟩, ⟨⟨by (first | lia | omega), ?_⟩, ?_⟩, ?_⟩
          · rw [if_pos hif]; exact ⟨o1, o2⟩
          · rw [hrd]; exact ho
          · rw [List.foldl_cons, List.foldl_cons, hrd]; exact he
        rcases hgp.1 with ⟨k, t, eg, hk, ht⟩ | ⟨eg, c, r', rfl, hc⟩
        · rw [eg, List.cons_append] at hl
          obtain ⟨σ', e, e1, e2, hl2⟩ := a_ws hl hk hf
          obtain ⟨m, σ3, hm, hr3, hl3⟩ := gap_go ht hl2
          obtain ⟨toks, c1, c2, c3⟩ := i1 σ3 hl3
          have hgl := congrArg List.length eg
          rw [List.length_cons] at hgl
          exact fin e e1 e2 ((c1.pre hr3).chn hl2 (by (first | lia | omega))) c2 c3
        · rw [eg, List.nil_append] at hl
          obtain ⟨σ', e, e1, e2, hl2⟩ := a_sign hl hc hf
          obtain ⟨toks, c1, c2, c3⟩ := i1 _ hl2
          exact fin e e1 e2 (c1.chn hl2 (by (first | lia | omega))) c2 c3
      refine ⟨hS1, fun σ tok ht h => ?_⟩
      obtain ⟨k, l, ek, hk⟩ := spell_head x way
      rw [ek, List.cons_append] at h
      obtain ⟨σ', e, e1, e2, hl2⟩ := c_word h hk
      rw [← List.cons_append, ← ek] at hl2
      obtain ⟨toks, c1, c2, c3⟩ := hS1 _ hl2
      refine ⟨[], toks, .inr ⟨1, σ', _, toks, rfl, by (first | lia | omega), .last e, ?_, c1.chn hl2 (by (first | lia | omega))⟩, by simp, Nat.zero_le _, trivial, c2, c3⟩
      rw [lS_nil]
      exact tokV_str e1 fun hh => absurd hh ht
end
end Mine
namespace Mine
open PySem PySem.W PySem.Calls PyProof.Rows
theorem syms_len (ks : Ks) : ks.syms.length ≤ 2 * ks.size := by
  induction ks with
  | nil => exact Nat.le_refl _
  | word x way gap rest ih => rw [size_word]; show rest.syms.length + 1 ≤ _; (first | lia | omega)
  | grp c kids rest ih1 ih2 =>
    rw [size_grp]
    show (kids.syms ++ Sy.sign (clC c) :: rest.syms).length + 1 ≤ _
    rw [List.length_append, List.length_cons]; (first | lia | omega)
theorem clC_brk (c : Nat) : clC c ∈ brk := by unfold clC; split <;> decide
theorem gp_syms : ∀ (ks : Ks) (S : List Sy), ks.gok → ks.br → (∃ c r, S = .sign c :: r ∧ c ∈ brk) → gpS S → gpS (ks.syms ++ S) := by
  intro ks
  induction ks with
  | nil => exact fun S _ _ _ h => h
  | word x way gap rest ih =>
    intro S hg hb hs h
    refine ⟨?_, ih S hg.2.2 hb hs h⟩
    unfold gapS
    by_cases hc : rest.lastK = true ∧ gap < 2
    · rw [if_pos hc]
      refine .inr ⟨by decide, ?_⟩
      cases rest with
      | nil => exact hs
      | word => cases hc.1
      | grp c kids rest => exact ⟨c, _, rfl, hb.1.elim (fun e => by rw [e]; decide) fun e => by rw [e]; decide⟩
    · rw [if_neg hc]
      refine .inl ?_
      obtain ⟨g0, g4, _⟩ := hg
      have hgap : gap = 0 ∨ gap = 1 ∨ gap = 2 ∨ gap = 3 := by (first | lia | omega)
      rcases hgap with rfl | rfl | rfl | rfl
      · exact ⟨32, [], by decide, by decide, by decide⟩
      · exact ⟨10, [9], by decide, by decide, by decide⟩
      · exact ⟨32, [35, 32, 93, 41, 40, 39, 10], by decide, by decide, by decide⟩
      · exact ⟨13, [32], by decide, by decide, by decide⟩
  | grp c kids rest ih1 ih2 =>
    intro S hg hb hs h
    show gpS ((kids.syms ++ Sy.sign (clC c) :: rest.syms) ++ S)
    rw [List.append_assoc]
    exact ih1 _ hg.1 hb.2.1 ⟨_, _, rfl, clC_brk c⟩ (ih2 S hg.2 hb.2.2 hs h)
theorem fit_of {c : Nat} {ks : Ks} (hc : c = 40 ∨ c = 91) (hb : ks.br) (hg : ks.gok) (hw : ∀ x ∈ ks.words, x.length ≤ 17 ∧ GoodW x) (hs : ks.size ≤ 28) (hd : ks.depth ≤ 4) : Fit c ks := by
  have hw60 : ∀ x ∈ ks.words, x.length ≤ 60 := fun x hx => Nat.le_trans (hw x hx).1 (by decide)
  refine ⟨hd, by (first | lia | omega), hw60, hg, ?_, ?_, fun s _ => start_walk s ks.words⟩
  · have h1 := wrt_len ks hw60
    have h2 := closeS_len c
    have h3 := syms_len ks
    have hl : (txS (allS c ks)).length ≤ 100000 := by
      rw [show txS (allS c ks) = (chS c ++ ks.wrt ++ closeS c).cps.toList from (all_txt c ks).symm, Array.length_toList]
      show (chS c ++ ks.wrt ++ closeS c).length ≤ 100000
      rw [len_app, len_app]
      have : (chS c).length = 1 := rfl
      (first | lia | omega)
    have hcb : c ∈ brk := hc.elim (fun e => by rw [e]; decide) fun e => by rw [e]; decide
    obtain ⟨i1, _⟩ := lex_main (b := chS c ++ ks.wrt ++ closeS c) (allS c ks) told0 (all_ok hc hb hw hs (by (first | lia | omega))) (gp_syms ks [.sign (clC c)] hg hb ⟨_, _, rfl, clC_brk c⟩ trivial) hl (by unfold allS; rw [List.length_cons, List.length_append, List.length_singleton]; (first | lia | omega))
    have h0 : LS (chS c ++ ks.wrt ++ closeS c) σ0 (oS " ") (oS "") false (oS " ") (txS (allS c ks)) := ⟨rfl, rfl, rfl, rfl, Int.le_refl 0, Int.natCast_nonneg _, all_txt c ks⟩
    obtain ⟨toks, c1, c2, c3⟩ := i1 σ0 h0
    exact ⟨toks, c1.chn h0 (by (first | lia | omega)), c2, by rw [c3]; exact all_rd hc hb⟩
  · have h1 := walkF_len ks.words
    have h2 := w5_words ks.words fun x hx => (hw x hx).1
    have h3 := words_le ks
    (first | lia | omega)
/- the tree -/
noncomputable def It.depth : It → Nat
  | .word _ _ _ => 0
  | .grp _ k => k.depth + 1
theorem snoc_depth (ks : Ks) (it : It) : (ks.snoc it).depth = max ks.depth it.depth := by
  induction ks with
  | nil => cases it with
    | word => rfl
    | grp c k => exact Nat.max_comm _ _
  | word x w g rest ih => exact ih
  | grp c k rest _ ih => show max (k.depth + 1) (rest.snoc it).depth = max (max (k.depth + 1) rest.depth) it.depth; rw [ih]; exact (Nat.max_assoc _ _ _).symm
/-- what is asked of a group -/
structure GK (ks : Ks) : Prop where
  br : ks.br
  gok : ks.gok
  words : ∀ x ∈ ks.words, x.length ≤ 17 ∧ GoodW x
def It.ok : It → Prop
  | .word x _ g => (0 ≤ g ∧ g < 4) ∧ x.length ≤ 17 ∧ GoodW x
  | .grp c k => (c = 40 ∨ c = 91) ∧ GK k
theorem GK.snoc {ks : Ks} {it : It} (h : GK ks) (hi : it.ok) : GK (ks.snoc it) := by
  obtain ⟨h1, h2, h3⟩ := h
  induction ks with
  | nil => cases it with
    | word x w g => exact ⟨trivial, ⟨hi.1.1, hi.1.2, trivial⟩, fun y hy => by rw [List.mem_singleton.mp hy]; exact hi.2⟩
    | grp c k => exact ⟨⟨hi.1, hi.2.br, trivial⟩, ⟨hi.2.gok, trivial⟩, fun y hy => hi.2.words y (by rw [show (Ks.nil.snoc (It.grp c k)).words = k.words ++ [] from rfl, List.append_nil] at hy; exact hy)⟩
  | word x w g rest ih =>
    obtain ⟨a, b, d⟩ := ih h1 h2.2.2 fun y hy => h3 y (.tail _ hy)
    refine ⟨a, ⟨h2.1, h2.2.1, b⟩, fun y hy => ?_⟩
    rcases List.mem_cons.mp hy with rfl | hy
    · exact h3 _ (.head _)
    · exact d y hy
  | grp c k rest _ ih =>
    obtain ⟨a, b, d⟩ := ih h1.2.2 h2.2 fun y hy => h3 y (List.mem_append_right _ hy)
    refine ⟨⟨h1.1, h1.2.1, a⟩, ⟨h2.1, b⟩, fun y hy => ?_⟩
    rcases List.mem_append.mp hy with hy | hy
    · exact h3 y (List.mem_append_left _ hy)
    · exact d y hy
theorem depth_ok {a b n : Nat} (h : a + (n + 1) ≤ 4) (h2 : b + n ≤ 4) : max b (a + 1) + n ≤ 4 := by
  rw [← Nat.add_max_add_right]
  exact Nat.max_le.mpr ⟨h2, by rw [Nat.add_assoc, Nat.add_comm 1 n]; exact h⟩
def zOk : Zp → Prop
  | [] => True
  | (c, ks) :: up => (c = 40 ∨ c = 91) ∧ GK ks ∧ ks.depth + up.length ≤ 4 ∧ zOk up
/- a word -/
def nb (s : Str) : Prop := s = Str.ofString "" ∨ ∃ k ∈ s.cps.toList, k ∉ brk
theorem nb_good {x : Str} (h : nb x) : GoodW x := h.imp id fun ⟨k, hk, hn⟩ e => hn (by
  have := strip_all e k hk
  have e2 : (Str.ofString "()[]").cps.toList = [40, 41, 91, 93] := by kernel_rfl!
  rw [e2] at this
  exact this)
theorem nb_app {x y : Str} (hx : nb x) (hy : nb y) : nb (x ++ y) := by
  rcases hx with rfl | ⟨k, hk, hn⟩
  · rw [nil_app]; exact hy
  · exact .inr ⟨k, by rw [app_l]; exact List.mem_append_left _ hk, hn⟩
theorem nb_join : ∀ {l : List Str}, (∀ x ∈ l, nb x) → nb (Txt.join (Str.ofString "/") l) := by
  intro l h
  rw [tjoin]
  match l with
  | [] => exact .inl rfl
  | [x] => exact h x (.head _)
  | x :: y :: l => exact .inr ⟨47, by rw [join_cons, app_l, app_l, sl_eq]; exact List.mem_append_right _ (List.mem_append_left _ (.head _)), by decide⟩
theorem nb_getD {l : List Str} (h : ∀ x ∈ l, nb x) (i : Nat) : nb (l.getD i (Str.ofString "")) := by
  rw [List.getD_eq_getElem?_getD]
  cases e : l[i]? with
  | none => exact .inl rfl
  | some c => exact h c (List.mem_of_getElem? e)
theorem nb_piece (z : Int) : nb (pieceF z) := by
  unfold pieceF
  split
  · refine nb_getD (fun x hx => ?_) _
    unfold poolW at hx
    simp only [List.mem_cons, List.not_mem_nil, or_false] at hx
    rcases hx with rfl | rfl | rfl | rfl | rfl | rfl | rfl
    · exact .inr ⟨97, by decide, by decide⟩
    · exact .inr ⟨46, by decide, by decide⟩
    · exact .inr ⟨46, by decide, by decide⟩
    · exact .inl rfl
    · exact .inr ⟨105, by decide, by decide⟩
    · exact .inr ⟨46, by decide, by decide⟩
    · exact .inr ⟨98, by decide, by decide⟩
  · refine .inr ⟨_, .head _, ?_⟩
    have := Int.fmod_nonneg_of_pos (z.fdiv 8) (show (0 : Int) < 55202 by decide)
    simp only [List.mem_cons, List.not_mem_nil, or_false]
    obtain ⟨k, hk⟩ := Int.eq_ofNat_of_zero_le this
    rw [hk]
    show ¬ (94 + k = 40 ∨ 94 + k = 41 ∨ 94 + k = 91 ∨ 94 + k = 93)
    clear hk this
    (first | lia | omega)
theorem nb_row : ∀ (k : Nat) (z : Int) (row : List Str), (∀ c ∈ row, nb c) → ∀ c ∈ rowF k z row, nb c := by
  intro k
  induction k with
  | zero => exact fun _ _ h => h
  | succ k ih =>
    intro z row h
    unfold rowF
    split
    · refine ih _ _ fun c hc => ?_
      rcases List.mem_append.mp hc with hc | hc
      · exact h c hc
      · rw [List.mem_singleton.mp hc]; exact nb_piece z
    · exact h
theorem row_count : ∀ (k : Nat) (z : Int) (row : List Str), (rowF k z row).length ≤ row.length + k := by
  intro k
  induction k with
  | zero => exact fun _ _ => Nat.le_refl _
  | succ k ih =>
    intro z row
    unfold rowF
    split
    · have := ih (z.fdiv 8) (row ++ [pieceF z])
      rw [List.length_append, List.length_singleton] at this
      (first | lia | omega)
    · (first | lia | omega)
theorem join_len4 : ∀ {l : List Str}, (∀ x ∈ l, x.length ≤ 4) → (Str.join (Str.ofString "/") l).length ≤ 5 * l.length - 1
  | [], _ => Nat.le_refl _
  | [x], h => h x (.head _)
  | x :: y :: l, h => by
    have h1 := h x (.head _)
    have h2 := join_len4 (l := y :: l) fun z hz => h z (.tail _ hz)
    have e : (Str.ofString "/").length = 1 := by decide
    rw [join_cons, len_app, len_app, e]
    simp only [List.length_cons] at h2 ⊢
    (first | lia | omega)
theorem word_ok (n : Int) : (wordF n).length ≤ 17 ∧ GoodW (wordF n) := by
  unfold wordF
  constructor
  · have h1 : (headW.getD (n.fmod 8).toNat (Str.ofString "")).length ≤ 3 := getD_len (by decide) (by decide) _
    have h2 := join_len4 (rowF_len 3 (n.fdiv 8) [] fun _ h => by cases h)
    have h3 := row_count 3 (n.fdiv 8) []
    rw [List.length_nil] at h3
    rw [len_app, tjoin]
    exact Nat.le_trans (Nat.add_le_add h1 (Nat.le_trans h2 (Nat.sub_le_sub_right (Nat.mul_le_mul_left 5 h3) 1))) (by decide)
  · refine nb_good (nb_app (nb_getD (fun x hx => ?_) _) (nb_join (nb_row 3 _ [] fun _ h => by cases h)))
    unfold headW at hx
    simp only [List.mem_cons, List.not_mem_nil, or_false] at hx
    rcases hx with rfl | rfl | rfl | rfl | rfl | rfl | rfl | rfl
    all_goals first | exact .inl rfl | exact .inr ⟨47, by decide, by decide⟩
theorem wordI_ok (x : Int) : (wordI x).ok := ⟨⟨Int.fmod_nonneg_of_pos _ (by decide), Int.fmod_lt_of_pos _ (by decide)⟩, word_ok _⟩
theorem zStep_ok : ∀ {z : Zp} (x : Int), zOk z → zOk (zStep z x)
  | [], _, h => h
  | (c, ks) :: up, x, ⟨h1, h2, h3, h4⟩ => by
    refine zStep_cases (P := zOk) (fun hp => ?_) ?_ ?_
    · refine ⟨by split <;> decide, ⟨trivial, trivial, fun _ h => by cases h⟩, ?_, h1, h2, h3, h4⟩
      show 0 + (up.length + 1) ≤ 4
      (first | lia | omega)
    · refine ⟨h1, h2.snoc (wordI_ok x), ?_, h4⟩
      rw [snoc_depth]
      exact (Nat.max_eq_left (Nat.zero_le _)).symm ▸ h3
    · rintro c' ks' up' _ rfl
      obtain ⟨k1, k2, k3, k4⟩ := h4
      refine ⟨k1, k2.snoc ⟨h1, h2⟩, ?_, k4⟩
      rw [snoc_depth]
      exact depth_ok h3 k3
theorem fold_ok : ∀ (xs : List Int) {z : Zp}, zOk z → zOk (xs.foldl zStep z)
  | [], _, h => h
  | x :: xs, _, h => fold_ok xs (zStep_ok x h)
theorem close_ok : ∀ {up : Zp} {c : Nat} {ks : Ks}, zOk ((c, ks) :: up) → ((closeAll (c, ks) up).1 = 40 ∨ (closeAll (c, ks) up).1 = 91) ∧ GK (closeAll (c, ks) up).2 ∧ (closeAll (c, ks) up).2.depth ≤ 4 ∧ (closeAll (c, ks) up).2.size + 1 = zWt ((c, ks) :: up)
  | [], c, ks, ⟨h1, h2, h3, _⟩ => ⟨h1, h2, h3, rfl⟩
  | (c', ks') :: up, c, ks, ⟨h1, h2, h3, k1, k2, k3, k4⟩ => by
    have hz : zOk ((c', ks'.snoc (.grp c ks)) :: up) := by
      refine ⟨k1, k2.snoc ⟨h1, h2⟩, ?_, k4⟩
      rw [snoc_depth]
      exact depth_ok h3 k3
    obtain ⟨a, b, d, e⟩ := close_ok (up := up) hz
    refine ⟨a, b, d, e.trans ?_⟩
    show (ks'.snoc (.grp c ks)).size + 1 + zWt up = ks.size + 1 + (ks'.size + 1 + zWt up)
    rw [snoc_size]
    show ks'.size + (ks.size + 1) + 1 + zWt up = _
    (first | lia | omega)
theorem tree_fit (ns : List Int) : Fit (treeF ns).1 (treeF ns).2 := by
  have hz : zOk [(40, .nil)] := ⟨.inl rfl, ⟨trivial, trivial, fun _ h => by cases h⟩, by decide, trivial⟩
  have h1 := fold_ok (ns.take 20 ++ extra) hz
  have h2 := fold_wt (ns.take 20 ++ extra) [(40, .nil)]
  have h3 := fold_ne (ns.take 20 ++ extra) (z := [(40, .nil)]) (List.cons_ne_nil _ _)
  have h4 : (ns.take 20 ++ extra).length ≤ 27 := by
    rw [List.length_append, List.length_take]
    have : extra.length = 7 := rfl
    (first | lia | omega)
  have h5 : zWt [(40, .nil)] = 1 := rfl
  unfold treeF
  generalize (ns.take 20 ++ extra).foldl zStep [(40, .nil)] = z at *
  match z, h3 with
  | (c, ks) :: up, _ =>
    obtain ⟨a, b, d, e⟩ := close_ok h1
    exact fit_of a b.br b.gok b.words (by show (closeAll (c, ks) up).2.size ≤ 28; (first | lia | omega)) d
end Mine
open PySem PySem.W PySem.Calls PyProof.Rows
theorem PySem.Challenge.cw_kl0186_01_holds : PySem.Challenge.rw_kl0186_01.Holds := by
  refine holds_law Mine.said (fun said => ?_)
  refine holds_open (q := Mine.q) (loose := Mine.loose) (Xt := Mine.Xt) (XP := fun _ _ => True) (Yf := Mine.Yf) (Ya := Mine.Ya) (YP := InK Mine.K) (N := 11890) Mine.left (fun w s e => InK.of (fun P => by kernel_rfl!) w s e) (fun w h h' => InK.keeps w h h') (fun _ _ => trivial) (fun _ _ _ _ _ => trivial) (by rfl) (by rfl) (by rfl) (fun s _ => recFacts_nil rfl) (by rfl) said (by decide +kernel) ⟨rfl, rfl, rfl, rfl, rfl, by decide +kernel⟩ ?hw ?hc
  case hw => w_witness2
  case hc =>
    intro w s₀ s₁ mg mb G Y fa o pm cd doc dV kV ho hd hcd hD hmg hg args vals as hpre hlay hrd hwl hlo
    have KX : (Mine.K w.params).In s₁.heap := Y
    refine Ground.open G ?_
    intro T B D TE TW
    clear B D TE TW G
    wrow_args hpre hlay hrd hwl hlo
    all_goals (
      refine enter_call ?_
      have K0 := below_caller (Top.heap T)
      w_call any ho hd hcd hD T F
      clear hd)
    refine wpAny_mono (E := fun _ _ => False) (Q := fun f s' => f = .ret (.bool true) ∧ ∃ h' tk m', s' = { s₁ with heap := h', toks := tk } ∧ Fr s₁.heap s₁.heap.objs.size h' m') ?_ ?_ (fun _ _ h => h.elim)
    · refine' Mine.law_run K0 KX T ?hd ?hu ?hl ?hi ?hn ?ft F ?N ?ms ?q
      case hl => assumption
      case hi => assumption
      case hd => decide
      case hu => decide
      case hn => (first | lia | omega)
      case ft => exact Mine.tree_fit _
      case N => assumption
      case ms => exact rfl
      case q => exact fun m' h' tk F' => ⟨rfl, h', tk, m', rfl, F'⟩
    · rintro _ _ ⟨rfl, h', tk, m', rfl, F'⟩
      refine GoodW.toG (goodW_bool F' hg (raisesW_false ?_) ?_)
      · wrow_none_raised
      · wrow_post
