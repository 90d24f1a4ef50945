import PyProof.Rows.All
import Wide.All
import OpenK.AllK
import Wide.FinOn
import PySem.Builtin.Re_Pattern.W2All
import KE.KxPart
import PyProof.StrLawsTight
import PyProof.StrReplace2
import PyProof.Rows.StrFirst
import KE.LcTurns
import KE.KLcPair
import PyProof.WalksEnum
import KE.KEqDeep
import Lean
import PySem.Challenge.RW_tp0036_01
open PySem PySem.W PyProof.Rows
set_option Elab.async false
set_option compiler.extract_closed false
set_option linter.all false
set_option maxRecDepth 100000
set_option maxHeartbeats 8000000
namespace Mine
noncomputable def stM (i : Nat) : Stmt := (PySem.Challenge.pw_tp0036_01.main.body[i]?).getD (.Pass ⟨0, 0, 0, 0⟩)
noncomputable def stH (i : Nat) : Stmt := match stM 22 with
  | .ClassDef _ _ _ b _ _ _ _ _ _ _ => (b[i]?).getD (.Pass ⟨0, 0, 0, 0⟩)
  | s => s
noncomputable def fnP (s : Stmt) : Arguments := match s with
  | .FunctionDef _ a _ _ _ _ _ _ _ _ => a
  | _ => ⟨[], [], none, [], [], none, []⟩
noncomputable def fnB (s : Stmt) : FuncBody := match s with
  | .FunctionDef _ _ b _ _ _ _ _ _ _ => .stmts b
  | _ => .stmts []
noncomputable def fnS (s : Stmt) : Scope := match s with
  | .FunctionDef _ _ _ _ _ _ c _ _ _ => c
  | _ => PySem.Challenge.pw_tp0036_01.main.scope
noncomputable def hF : Params → List Obj := fun P => [
{ cls := Value.type "dict", data := Data.dict #[{ hash := PyData.keyHash P (Str.ofString "__name__"), key := Value.str (Str.ofString "__name__") 1, val := Value.str (Str.ofString "builtins") 160 }, { hash := PyData.keyHash P (Str.ofString "__doc__"), key := Value.str (Str.ofString "__doc__") 2, val := Value.builtin "builtins.__doc__:str#opaque" }, { hash := PyData.keyHash P (Str.ofString "__package__"), key := Value.str (Str.ofString "__package__") 3, val := Value.builtin "builtins.__package__:str#opaque" }, { hash := PyData.keyHash P (Str.ofString "__loader__"), key := Value.str (Str.ofString "__loader__") 4, val := Value.builtin "builtins.__loader__:shared#opaque" }, { hash := PyData.keyHash P (Str.ofString "__spec__"), key := Value.str (Str.ofString "__spec__") 5, val := Value.builtin "builtins.__spec__#opaque" }, { hash := PyData.keyHash P (Str.ofString "__build_class__"), key := Value.str (Str.ofString "__build_class__") 6, val := Value.builtin "__build_class__" }, { hash := PyData.keyHash P (Str.ofString "__import__"), key := Value.str (Str.ofString "__import__") 7, val := Value.builtin "__import__" }, { hash := PyData.keyHash P (Str.ofString "abs"), key := Value.str (Str.ofString "abs") 8, val := Value.builtin "abs" }, { hash := PyData.keyHash P (Str.ofString "all"), key := Value.str (Str.ofString "all") 9, val := Value.builtin "all" }, { hash := PyData.keyHash P (Str.ofString "any"), key := Value.str (Str.ofString "any") 10, val := Value.builtin "any" }, { hash := PyData.keyHash P (Str.ofString "ascii"), key := Value.str (Str.ofString "ascii") 11, val := Value.builtin "ascii" }, { hash := PyData.keyHash P (Str.ofString "bin"), key := Value.str (Str.ofString "bin") 12, val := Value.builtin "bin" }, { hash := PyData.keyHash P (Str.ofString "breakpoint"), key := Value.str (Str.ofString "breakpoint") 13, val := Value.builtin "breakpoint" }, { hash := PyData.keyHash P (Str.ofString "callable"), key := Value.str (Str.ofString "callable") 14, val := Value.builtin "callable" }, { hash := PyData.keyHash P (Str.ofString "chr"), key := Value.str (Str.ofString "chr") 15, val := Value.builtin "chr" }, { hash := PyData.keyHash P (Str.ofString "compile"), key := Value.str (Str.ofString "compile") 16, val := Value.builtin "compile" }, { hash := PyData.keyHash P (Str.ofString "delattr"), key := Value.str (Str.ofString "delattr") 17, val := Value.builtin "delattr" }, { hash := PyData.keyHash P (Str.ofString "dir"), key := Value.str (Str.ofString "dir") 18, val := Value.builtin "dir" }, { hash := PyData.keyHash P (Str.ofString "divmod"), key := Value.str (Str.ofString "divmod") 19, val := Value.builtin "divmod" }, { hash := PyData.keyHash P (Str.ofString "eval"), key := Value.str (Str.ofString "eval") 20, val := Value.builtin "eval" }, { hash := PyData.keyHash P (Str.ofString "exec"), key := Value.str (Str.ofString "exec") 21, val := Value.builtin "exec" }, { hash := PyData.keyHash P (Str.ofString "format"), key := Value.str (Str.ofString "format") 22, val := Value.builtin "format" }, { hash := PyData.keyHash P (Str.ofString "getattr"), key := Value.str (Str.ofString "getattr") 23, val := Value.builtin "getattr" }, { hash := PyData.keyHash P (Str.ofString "globals"), key := Value.str (Str.ofString "globals") 24, val := Value.builtin "globals" }, { hash := PyData.keyHash P (Str.ofString "hasattr"), key := Value.str (Str.ofString "hasattr") 25, val := Value.builtin "hasattr" }, { hash := PyData.keyHash P (Str.ofString "hash"), key := Value.str (Str.ofString "hash") 26, val := Value.builtin "hash" }, { hash := PyData.keyHash P (Str.ofString "hex"), key := Value.str (Str.ofString "hex") 27, val := Value.builtin "hex" }, { hash := PyData.keyHash P (Str.ofString "id"), key := Value.str (Str.ofString "id") 28, val := Value.builtin "id" }, { hash := PyData.keyHash P (Str.ofString "input"), key := Value.str (Str.ofString "input") 29, val := Value.builtin "input" }, { hash := PyData.keyHash P (Str.ofString "isinstance"), key := Value.str (Str.ofString "isinstance") 30, val := Value.builtin "isinstance" }, { hash := PyData.keyHash P (Str.ofString "issubclass"), key := Value.str (Str.ofString "issubclass") 31, val := Value.builtin "issubclass" }, { hash := PyData.keyHash P (Str.ofString "iter"), key := Value.str (Str.ofString "iter") 32, val := Value.builtin "iter" }, { hash := PyData.keyHash P (Str.ofString "aiter"), key := Value.str (Str.ofString "aiter") 33, val := Value.builtin "aiter" }, { hash := PyData.keyHash P (Str.ofString "len"), key := Value.str (Str.ofString "len") 34, val := Value.builtin "len" }, { hash := PyData.keyHash P (Str.ofString "locals"), key := Value.str (Str.ofString "locals") 35, val := Value.builtin "locals" }, { hash := PyData.keyHash P (Str.ofString "max"), key := Value.str (Str.ofString "max") 36, val := Value.builtin "max" }, { hash := PyData.keyHash P (Str.ofString "min"), key := Value.str (Str.ofString "min") 37, val := Value.builtin "min" }, { hash := PyData.keyHash P (Str.ofString "next"), key := Value.str (Str.ofString "next") 38, val := Value.builtin "next" }, { hash := PyData.keyHash P (Str.ofString "anext"), key := Value.str (Str.ofString "anext") 39, val := Value.builtin "anext" }, { hash := PyData.keyHash P (Str.ofString "oct"), key := Value.str (Str.ofString "oct") 40, val := Value.builtin "oct" }, { hash := PyData.keyHash P (Str.ofString "ord"), key := Value.str (Str.ofString "ord") 41, val := Value.builtin "ord" }, { hash := PyData.keyHash P (Str.ofString "pow"), key := Value.str (Str.ofString "pow") 42, val := Value.builtin "pow" }, { hash := PyData.keyHash P (Str.ofString "print"), key := Value.str (Str.ofString "print") 43, val := Value.builtin "print" }, { hash := PyData.keyHash P (Str.ofString "repr"), key := Value.str (Str.ofString "repr") 44, val := Value.builtin "repr" }, { hash := PyData.keyHash P (Str.ofString "round"), key := Value.str (Str.ofString "round") 45, val := Value.builtin "round" }, { hash := PyData.keyHash P (Str.ofString "setattr"), key := Value.str (Str.ofString "setattr") 46, val := Value.builtin "setattr" }, { hash := PyData.keyHash P (Str.ofString "sorted"), key := Value.str (Str.ofString "sorted") 47, val := Value.builtin "sorted" }, { hash := PyData.keyHash P (Str.ofString "sum"), key := Value.str (Str.ofString "sum") 48, val := Value.builtin "sum" }, { hash := PyData.keyHash P (Str.ofString "vars"), key := Value.str (Str.ofString "vars") 49, val := Value.builtin "vars" }, { hash := PyData.keyHash P (Str.ofString "None"), key := Value.str (Str.ofString "None") 50, val := Value.none }, { hash := PyData.keyHash P (Str.ofString "Ellipsis"), key := Value.str (Str.ofString "Ellipsis") 51, val := Value.ellipsis }, { hash := PyData.keyHash P (Str.ofString "NotImplemented"), key := Value.str (Str.ofString "NotImplemented") 52, val := Value.notImplemented }, { hash := PyData.keyHash P (Str.ofString "False"), key := Value.str (Str.ofString "False") 53, val := Value.bool false }, { hash := PyData.keyHash P (Str.ofString "True"), key := Value.str (Str.ofString "True") 54, val := Value.bool true }, { hash := PyData.keyHash P (Str.ofString "bool"), key := Value.str (Str.ofString "bool") 55, val := Value.type "bool" }, { hash := PyData.keyHash P (Str.ofString "memoryview"), key := Value.str (Str.ofString "memoryview") 56, val := Value.type "memoryview" }, { hash := PyData.keyHash P (Str.ofString "bytearray"), key := Value.str (Str.ofString "bytearray") 57, val := Value.type "bytearray" }, { hash := PyData.keyHash P (Str.ofString "bytes"), key := Value.str (Str.ofString "bytes") 58, val := Value.type "bytes" }, { hash := PyData.keyHash P (Str.ofString "classmethod"), key := Value.str (Str.ofString "classmethod") 59, val := Value.type "classmethod" }, { hash := PyData.keyHash P (Str.ofString "complex"), key := Value.str (Str.ofString "complex") 60, val := Value.type "complex" }, { hash := PyData.keyHash P (Str.ofString "dict"), key := Value.str (Str.ofString "dict") 61, val := Value.type "dict" }, { hash := PyData.keyHash P (Str.ofString "enumerate"), key := Value.str (Str.ofString "enumerate") 62, val := Value.type "enumerate" }, { hash := PyData.keyHash P (Str.ofString "filter"), key := Value.str (Str.ofString "filter") 63, val := Value.type "filter" }, { hash := PyData.keyHash P (Str.ofString "float"), key := Value.str (Str.ofString "float") 64, val := Value.type "float" }, { hash := PyData.keyHash P (Str.ofString "frozenset"), key := Value.str (Str.ofString "frozenset") 65, val := Value.type "frozenset" }, { hash := PyData.keyHash P (Str.ofString "property"), key := Value.str (Str.ofString "property") 66, val := Value.type "property" }, { hash := PyData.keyHash P (Str.ofString "int"), key := Value.str (Str.ofString "int") 67, val := Value.type "int" }, { hash := PyData.keyHash P (Str.ofString "list"), key := Value.str (Str.ofString "list") 68, val := Value.type "list" }, { hash := PyData.keyHash P (Str.ofString "map"), key := Value.str (Str.ofString "map") 69, val := Value.type "map" }, { hash := PyData.keyHash P (Str.ofString "object"), key := Value.str (Str.ofString "object") 70, val := Value.type "object" }, { hash := PyData.keyHash P (Str.ofString "range"), key := Value.str (Str.ofString "range") 71, val := Value.type "range" }, { hash := PyData.keyHash P (Str.ofString "reversed"), key := Value.str (Str.ofString "reversed") 72, val := Value.type "reversed" }, { hash := PyData.keyHash P (Str.ofString "set"), key := Value.str (Str.ofString "set") 73, val := Value.type "set" }, { hash := PyData.keyHash P (Str.ofString "slice"), key := Value.str (Str.ofString "slice") 74, val := Value.type "slice" }, { hash := PyData.keyHash P (Str.ofString "staticmethod"), key := Value.str (Str.ofString "staticmethod") 75, val := Value.type "staticmethod" }, { hash := PyData.keyHash P (Str.ofString "str"), key := Value.str (Str.ofString "str") 76, val := Value.type "str" }, { hash := PyData.keyHash P (Str.ofString "super"), key := Value.str (Str.ofString "super") 77, val := Value.type "super" }, { hash := PyData.keyHash P (Str.ofString "tuple"), key := Value.str (Str.ofString "tuple") 78, val := Value.type "tuple" }, { hash := PyData.keyHash P (Str.ofString "type"), key := Value.str (Str.ofString "type") 79, val := Value.type "type" }, { hash := PyData.keyHash P (Str.ofString "zip"), key := Value.str (Str.ofString "zip") 80, val := Value.type "zip" }, { hash := PyData.keyHash P (Str.ofString "__debug__"), key := Value.str (Str.ofString "__debug__") 81, val := Value.bool true }, { hash := PyData.keyHash P (Str.ofString "BaseException"), key := Value.str (Str.ofString "BaseException") 82, val := Value.type "BaseException" }, { hash := PyData.keyHash P (Str.ofString "BaseExceptionGroup"), key := Value.str (Str.ofString "BaseExceptionGroup") 83, val := Value.type "BaseExceptionGroup" }, { hash := PyData.keyHash P (Str.ofString "Exception"), key := Value.str (Str.ofString "Exception") 84, val := Value.type "Exception" }, { hash := PyData.keyHash P (Str.ofString "GeneratorExit"), key := Value.str (Str.ofString "GeneratorExit") 85, val := Value.type "GeneratorExit" }, { hash := PyData.keyHash P (Str.ofString "KeyboardInterrupt"), key := Value.str (Str.ofString "KeyboardInterrupt") 86, val := Value.type "KeyboardInterrupt" }, { hash := PyData.keyHash P (Str.ofString "SystemExit"), key := Value.str (Str.ofString "SystemExit") 87, val := Value.type "SystemExit" }, { hash := PyData.keyHash P (Str.ofString "ArithmeticError"), key := Value.str (Str.ofString "ArithmeticError") 88, val := Value.type "ArithmeticError" }, { hash := PyData.keyHash P (Str.ofString "AssertionError"), key := Value.str (Str.ofString "AssertionError") 89, val := Value.type "AssertionError" }, { hash := PyData.keyHash P (Str.ofString "AttributeError"), key := Value.str (Str.ofString "AttributeError") 90, val := Value.type "AttributeError" }, { hash := PyData.keyHash P (Str.ofString "BufferError"), key := Value.str (Str.ofString "BufferError") 91, val := Value.type "BufferError" }, { hash := PyData.keyHash P (Str.ofString "EOFError"), key := Value.str (Str.ofString "EOFError") 92, val := Value.type "EOFError" }, { hash := PyData.keyHash P (Str.ofString "ImportError"), key := Value.str (Str.ofString "ImportError") 93, val := Value.type "ImportError" }, { hash := PyData.keyHash P (Str.ofString "LookupError"), key := Value.str (Str.ofString "LookupError") 94, val := Value.type "LookupError" }, { hash := PyData.keyHash P (Str.ofString "MemoryError"), key := Value.str (Str.ofString "MemoryError") 95, val := Value.type "MemoryError" }, { hash := PyData.keyHash P (Str.ofString "NameError"), key := Value.str (Str.ofString "NameError") 96, val := Value.type "NameError" }, { hash := PyData.keyHash P (Str.ofString "OSError"), key := Value.str (Str.ofString "OSError") 97, val := Value.type "OSError" }, { hash := PyData.keyHash P (Str.ofString "ReferenceError"), key := Value.str (Str.ofString "ReferenceError") 98, val := Value.type "ReferenceError" }, { hash := PyData.keyHash P (Str.ofString "RuntimeError"), key := Value.str (Str.ofString "RuntimeError") 99, val := Value.type "RuntimeError" }, { hash := PyData.keyHash P (Str.ofString "StopAsyncIteration"), key := Value.str (Str.ofString "StopAsyncIteration") 100, val := Value.type "StopAsyncIteration" }, { hash := PyData.keyHash P (Str.ofString "StopIteration"), key := Value.str (Str.ofString "StopIteration") 101, val := Value.type "StopIteration" }, { hash := PyData.keyHash P (Str.ofString "SyntaxError"), key := Value.str (Str.ofString "SyntaxError") 102, val := Value.type "SyntaxError" }, { hash := PyData.keyHash P (Str.ofString "SystemError"), key := Value.str (Str.ofString "SystemError") 103, val := Value.type "SystemError" }, { hash := PyData.keyHash P (Str.ofString "TypeError"), key := Value.str (Str.ofString "TypeError") 104, val := Value.type "TypeError" }, { hash := PyData.keyHash P (Str.ofString "ValueError"), key := Value.str (Str.ofString "ValueError") 105, val := Value.type "ValueError" }, { hash := PyData.keyHash P (Str.ofString "Warning"), key := Value.str (Str.ofString "Warning") 106, val := Value.type "Warning" }, { hash := PyData.keyHash P (Str.ofString "FloatingPointError"), key := Value.str (Str.ofString "FloatingPointError") 107, val := Value.type "FloatingPointError" }, { hash := PyData.keyHash P (Str.ofString "OverflowError"), key := Value.str (Str.ofString "OverflowError") 108, val := Value.type "OverflowError" }, { hash := PyData.keyHash P (Str.ofString "ZeroDivisionError"), key := Value.str (Str.ofString "ZeroDivisionError") 109, val := Value.type "ZeroDivisionError" }, { hash := PyData.keyHash P (Str.ofString "BytesWarning"), key := Value.str (Str.ofString "BytesWarning") 110, val := Value.type "BytesWarning" }, { hash := PyData.keyHash P (Str.ofString "DeprecationWarning"), key := Value.str (Str.ofString "DeprecationWarning") 111, val := Value.type "DeprecationWarning" }, { hash := PyData.keyHash P (Str.ofString "EncodingWarning"), key := Value.str (Str.ofString "EncodingWarning") 112, val := Value.type "EncodingWarning" }, { hash := PyData.keyHash P (Str.ofString "FutureWarning"), key := Value.str (Str.ofString "FutureWarning") 113, val := Value.type "FutureWarning" }, { hash := PyData.keyHash P (Str.ofString "ImportWarning"), key := Value.str (Str.ofString "ImportWarning") 114, val := Value.type "ImportWarning" }, { hash := PyData.keyHash P (Str.ofString "PendingDeprecationWarning"), key := Value.str (Str.ofString "PendingDeprecationWarning") 115, val := Value.type "PendingDeprecationWarning" }, { hash := PyData.keyHash P (Str.ofString "ResourceWarning"), key := Value.str (Str.ofString "ResourceWarning") 116, val := Value.type "ResourceWarning" }, { hash := PyData.keyHash P (Str.ofString "RuntimeWarning"), key := Value.str (Str.ofString "RuntimeWarning") 117, val := Value.type "RuntimeWarning" }, { hash := PyData.keyHash P (Str.ofString "SyntaxWarning"), key := Value.str (Str.ofString "SyntaxWarning") 118, val := Value.type "SyntaxWarning" }, { hash := PyData.keyHash P (Str.ofString "UnicodeWarning"), key := Value.str (Str.ofString "UnicodeWarning") 119, val := Value.type "UnicodeWarning" }, { hash := PyData.keyHash P (Str.ofString "UserWarning"), key := Value.str (Str.ofString "UserWarning") 120, val := Value.type "UserWarning" }, { hash := PyData.keyHash P (Str.ofString "BlockingIOError"), key := Value.str (Str.ofString "BlockingIOError") 121, val := Value.type "BlockingIOError" }, { hash := PyData.keyHash P (Str.ofString "ChildProcessError"), key := Value.str (Str.ofString "ChildProcessError") 122, val := Value.type "ChildProcessError" }, { hash := PyData.keyHash P (Str.ofString "ConnectionError"), key := Value.str (Str.ofString "ConnectionError") 123, val := Value.type "ConnectionError" }, { hash := PyData.keyHash P (Str.ofString "FileExistsError"), key := Value.str (Str.ofString "FileExistsError") 124, val := Value.type "FileExistsError" }, { hash := PyData.keyHash P (Str.ofString "FileNotFoundError"), key := Value.str (Str.ofString "FileNotFoundError") 125, val := Value.type "FileNotFoundError" }, { hash := PyData.keyHash P (Str.ofString "InterruptedError"), key := Value.str (Str.ofString "InterruptedError") 126, val := Value.type "InterruptedError" }, { hash := PyData.keyHash P (Str.ofString "IsADirectoryError"), key := Value.str (Str.ofString "IsADirectoryError") 127, val := Value.type "IsADirectoryError" }, { hash := PyData.keyHash P (Str.ofString "NotADirectoryError"), key := Value.str (Str.ofString "NotADirectoryError") 128, val := Value.type "NotADirectoryError" }, { hash := PyData.keyHash P (Str.ofString "PermissionError"), key := Value.str (Str.ofString "PermissionError") 129, val := Value.type "PermissionError" }, { hash := PyData.keyHash P (Str.ofString "ProcessLookupError"), key := Value.str (Str.ofString "ProcessLookupError") 130, val := Value.type "ProcessLookupError" }, { hash := PyData.keyHash P (Str.ofString "TimeoutError"), key := Value.str (Str.ofString "TimeoutError") 131, val := Value.type "TimeoutError" }, { hash := PyData.keyHash P (Str.ofString "IndentationError"), key := Value.str (Str.ofString "IndentationError") 132, val := Value.type "IndentationError" }, { hash := PyData.keyHash P (Str.ofString "_IncompleteInputError"), key := Value.str (Str.ofString "_IncompleteInputError") 133, val := Value.type "_IncompleteInputError" }, { hash := PyData.keyHash P (Str.ofString "IndexError"), key := Value.str (Str.ofString "IndexError") 134, val := Value.type "IndexError" }, { hash := PyData.keyHash P (Str.ofString "KeyError"), key := Value.str (Str.ofString "KeyError") 135, val := Value.type "KeyError" }, { hash := PyData.keyHash P (Str.ofString "ModuleNotFoundError"), key := Value.str (Str.ofString "ModuleNotFoundError") 136, val := Value.type "ModuleNotFoundError" }, { hash := PyData.keyHash P (Str.ofString "NotImplementedError"), key := Value.str (Str.ofString "NotImplementedError") 137, val := Value.type "NotImplementedError" }, { hash := PyData.keyHash P (Str.ofString "PythonFinalizationError"), key := Value.str (Str.ofString "PythonFinalizationError") 138, val := Value.type "PythonFinalizationError" }, { hash := PyData.keyHash P (Str.ofString "RecursionError"), key := Value.str (Str.ofString "RecursionError") 139, val := Value.type "RecursionError" }, { hash := PyData.keyHash P (Str.ofString "UnboundLocalError"), key := Value.str (Str.ofString "UnboundLocalError") 140, val := Value.type "UnboundLocalError" }, { hash := PyData.keyHash P (Str.ofString "UnicodeError"), key := Value.str (Str.ofString "UnicodeError") 141, val := Value.type "UnicodeError" }, { hash := PyData.keyHash P (Str.ofString "BrokenPipeError"), key := Value.str (Str.ofString "BrokenPipeError") 142, val := Value.type "BrokenPipeError" }, { hash := PyData.keyHash P (Str.ofString "ConnectionAbortedError"), key := Value.str (Str.ofString "ConnectionAbortedError") 143, val := Value.type "ConnectionAbortedError" }, { hash := PyData.keyHash P (Str.ofString "ConnectionRefusedError"), key := Value.str (Str.ofString "ConnectionRefusedError") 144, val := Value.type "ConnectionRefusedError" }, { hash := PyData.keyHash P (Str.ofString "ConnectionResetError"), key := Value.str (Str.ofString "ConnectionResetError") 145, val := Value.type "ConnectionResetError" }, { hash := PyData.keyHash P (Str.ofString "TabError"), key := Value.str (Str.ofString "TabError") 146, val := Value.type "TabError" }, { hash := PyData.keyHash P (Str.ofString "UnicodeDecodeError"), key := Value.str (Str.ofString "UnicodeDecodeError") 147, val := Value.type "UnicodeDecodeError" }, { hash := PyData.keyHash P (Str.ofString "UnicodeEncodeError"), key := Value.str (Str.ofString "UnicodeEncodeError") 148, val := Value.type "UnicodeEncodeError" }, { hash := PyData.keyHash P (Str.ofString "UnicodeTranslateError"), key := Value.str (Str.ofString "UnicodeTranslateError") 149, val := Value.type "UnicodeTranslateError" }, { hash := PyData.keyHash P (Str.ofString "ExceptionGroup"), key := Value.str (Str.ofString "ExceptionGroup") 150, val := Value.type "ExceptionGroup" }, { hash := PyData.keyHash P (Str.ofString "EnvironmentError"), key := Value.str (Str.ofString "EnvironmentError") 151, val := Value.type "OSError" }, { hash := PyData.keyHash P (Str.ofString "IOError"), key := Value.str (Str.ofString "IOError") 152, val := Value.type "OSError" }, { hash := PyData.keyHash P (Str.ofString "open"), key := Value.str (Str.ofString "open") 153, val := Value.builtin "open" }, { hash := PyData.keyHash P (Str.ofString "quit"), key := Value.str (Str.ofString "quit") 154, val := Value.builtin "builtins.quit#opaque" }, { hash := PyData.keyHash P (Str.ofString "exit"), key := Value.str (Str.ofString "exit") 155, val := Value.builtin "builtins.exit#opaque" }, { hash := PyData.keyHash P (Str.ofString "copyright"), key := Value.str (Str.ofString "copyright") 156, val := Value.builtin "builtins.copyright#opaque" }, { hash := PyData.keyHash P (Str.ofString "credits"), key := Value.str (Str.ofString "credits") 157, val := Value.builtin "builtins.credits#opaque" }, { hash := PyData.keyHash P (Str.ofString "license"), key := Value.str (Str.ofString "license") 158, val := Value.builtin "builtins.license#opaque" }, { hash := PyData.keyHash P (Str.ofString "help"), key := Value.str (Str.ofString "help") 159, val := Value.builtin "builtins.help#opaque" }] 159 },
{ cls := Value.type "dict", data := Data.dict #[{ hash := PyData.keyHash P (Str.ofString "builtins"), key := Value.str (Str.ofString "builtins") 162, val := Value.ref 4 }, { hash := PyData.keyHash P (Str.ofString "__main__"), key := Value.str (Str.ofString "__main__") 163, val := Value.ref 5 }, { hash := PyData.keyHash P (Str.ofString "_sre"), key := Value.str (Str.ofString "_sre") 244, val := Value.ref 12 }] 3 },
{ cls := Value.none, data := Data.dict #[{ hash := PyData.keyHash P (Str.ofString "\x69mport.loaded._sre"), key := Value.str (Str.ofString "\x69mport.loaded._sre") 183, val := Value.bool true }, { hash := PyData.keyHash P (Str.ofString "class._frozen_importlib.BuiltinImporter"), key := Value.str (Str.ofString "class._frozen_importlib.BuiltinImporter") 185, val := Value.ref 14 }, { hash := PyData.keyHash P (Str.ofString "watched.\x69mport"), key := Value.str (Str.ofString "watched.\x69mport") 206, val := Value.ref 18 }, { hash := PyData.keyHash P (Str.ofString "class._frozen_importlib.ModuleSpec"), key := Value.str (Str.ofString "class._frozen_importlib.ModuleSpec") 216, val := Value.ref 22 }, { hash := PyData.keyHash P (Str.ofString "sys.modules.booked-epoch"), key := Value.str (Str.ofString "sys.modules.booked-epoch") 245, val := Value.int 3 0 }, { hash := PyData.keyHash P (Str.ofString "\x69mport.later-laid._sre"), key := Value.str (Str.ofString "\x69mport.later-laid._sre") 270, val := Value.bool true }, { hash := PyData.keyHash P (Str.ofString "watched.library"), key := Value.str (Str.ofString "watched.library") 272, val := Value.ref 27 }, { hash := PyData.keyHash P (Str.ofString "watched.library-objects"), key := Value.str (Str.ofString "watched.library-objects") 0, val := Value.str (Str.ofString "\x0c") 0 }, { hash := PyData.keyHash P (Str.ofString "watched.library-deep._sre"), key := Value.str (Str.ofString "watched.library-deep._sre") 273, val := Value.str (Str.ofString "\x04\x00\x00\x0b\x04\x00\x00\x0b\x04\x00\x00\x03\x04\x00\x00\x0b\x08\x04dict\x02") 0 }] 9 },
{ cls := Value.type "dict", data := Data.dict #[{ hash := PyData.keyHash P (Str.ofString "__name__"), key := Value.str (Str.ofString "__name__") 165, val := Value.str (Str.ofString "law_tp0036_01") 695 }, { hash := PyData.keyHash P (Str.ofString "__doc__"), key := Value.str (Str.ofString "__doc__") 166, val := Value.none }, { hash := PyData.keyHash P (Str.ofString "__package__"), key := Value.str (Str.ofString "__package__") 167, val := Value.none }, { hash := PyData.keyHash P (Str.ofString "__loader__"), key := Value.str (Str.ofString "__loader__") 168, val := Value.builtin "__main__.__loader__#opaque" }, { hash := PyData.keyHash P (Str.ofString "__spec__"), key := Value.str (Str.ofString "__spec__") 169, val := Value.none }, { hash := PyData.keyHash P (Str.ofString "__annotations__"), key := Value.str (Str.ofString "__annotations__") 170, val := Value.ref 6 }, { hash := PyData.keyHash P (Str.ofString "__builtins__"), key := Value.str (Str.ofString "__builtins__") 171, val := Value.ref 4 }, { hash := PyData.keyHash P (Str.ofString "__file__"), key := Value.str (Str.ofString "__file__") 173, val := Value.str (Str.ofString "/claim/cut.py") 172 }, { hash := PyData.keyHash P (Str.ofString "__cached__"), key := Value.str (Str.ofString "__cached__") 174, val := Value.none }, { hash := PyData.keyHash P (Str.ofString "_sre"), key := Value.str (Str.ofString "_sre") 275, val := Value.ref 12 }, { hash := PyData.keyHash P (Str.ofString "_wall"), key := Value.str (Str.ofString "_wall") 288, val := Value.ref 38 }, { hash := PyData.keyHash P (Str.ofString "_strcoll"), key := Value.str (Str.ofString "_strcoll") 298, val := Value.ref 45 }, { hash := PyData.keyHash P (Str.ofString "_build_localename"), key := Value.str (Str.ofString "_build_localename") 307, val := Value.ref 52 }, { hash := PyData.keyHash P (Str.ofString "floordiv"), key := Value.str (Str.ofString "floordiv") 317, val := Value.ref 59 }, { hash := PyData.keyHash P (Str.ofString "mod"), key := Value.str (Str.ofString "mod") 325, val := Value.ref 66 }, { hash := PyData.keyHash P (Str.ofString "countOf"), key := Value.str (Str.ofString "countOf") 335, val := Value.ref 73 }, { hash := PyData.keyHash P (Str.ofString "delitem"), key := Value.str (Str.ofString "delitem") 343, val := Value.ref 80 }, { hash := PyData.keyHash P (Str.ofString "getitem"), key := Value.str (Str.ofString "getitem") 351, val := Value.ref 87 }, { hash := PyData.keyHash P (Str.ofString "setitem"), key := Value.str (Str.ofString "setitem") 360, val := Value.ref 94 }, { hash := PyData.keyHash P (Str.ofString "_twin_re_1"), key := Value.str (Str.ofString "_twin_re_1") 378, val := Value.ref 99 }, { hash := PyData.keyHash P (Str.ofString "_twin_re_2"), key := Value.str (Str.ofString "_twin_re_2") 420, val := Value.ref 104 }, { hash := PyData.keyHash P (Str.ofString "CRLF"), key := Value.str (Str.ofString "CRLF") 422, val := Value.str (Str.ofString "\x0d\n") 421 }, { hash := PyData.keyHash P (Str.ofString "quotedata"), key := Value.str (Str.ofString "quotedata") 429, val := Value.ref 111 }, { hash := PyData.keyHash P (Str.ofString "tspecials"), key := Value.str (Str.ofString "tspecials") 465, val := Value.ref 116 }, { hash := PyData.keyHash P (Str.ofString "_name_disallowed_re"), key := Value.str (Str.ofString "_name_disallowed_re") 491, val := Value.ref 121 }, { hash := PyData.keyHash P (Str.ofString "_value_disallowed_re"), key := Value.str (Str.ofString "_value_disallowed_re") 525, val := Value.ref 126 }, { hash := PyData.keyHash P (Str.ofString "_formatparam"), key := Value.str (Str.ofString "_formatparam") 535, val := Value.ref 134 }, { hash := PyData.keyHash P (Str.ofString "Headers"), key := Value.str (Str.ofString "Headers") 694, val := Value.ref 257 }, { hash := PyData.keyHash P (Str.ofString "_law_names"), key := Value.str (Str.ofString "_law_names") 702, val := Value.ref 266 }, { hash := PyData.keyHash P (Str.ofString "_law_drawn"), key := Value.str (Str.ofString "_law_drawn") 714, val := Value.ref 273 }, { hash := PyData.keyHash P (Str.ofString "_law_rank"), key := Value.str (Str.ofString "_law_rank") 720, val := Value.ref 278 }, { hash := PyData.keyHash P (Str.ofString "_law_shown"), key := Value.str (Str.ofString "_law_shown") 726, val := Value.ref 283 }, { hash := PyData.keyHash P (Str.ofString "_law_mailed"), key := Value.str (Str.ofString "_law_mailed") 732, val := Value.ref 288 }, { hash := PyData.keyHash P (Str.ofString "_law_told"), key := Value.str (Str.ofString "_law_told") 738, val := Value.ref 293 }, { hash := PyData.keyHash P (Str.ofString "law"), key := Value.str (Str.ofString "law") 744, val := Value.ref 298 }] 35 },
{ cls := Value.type "module", dict := some 0 },
{ cls := Value.type "module", dict := some 3 },
{ cls := Value.type "dict", data := Data.dict #[] },
{ cls := Value.type "tuple", data := Data.seq #[] },
{ cls := Value.none, data := Data.fields #[] },
{ cls := Value.type "code", data := Data.fields #[Value.str (Str.ofString "<module>") 176, Value.str (Str.ofString "<module>") 177, Value.str (Str.ofString "/claim/cut.py") 178, Value.int 1 0, Value.int 0 0, Value.int 0 0, Value.int 0 0, Value.int 0 0, Value.ref 7, Value.bool false, Value.int 175 0, Value.ref 8, Value.none, Value.none, Value.none, Value.none, Value.int 179 0, Value.int 1 0, Value.str (Str.ofString "/claim/cut.py") 180] },
{ cls := Value.type "frame", slots := #[some (Value.ref 9), some (Value.ref 3), some (Value.ref 3), none, some (Value.str (Str.ofString "__main__") 164), none, some (Value.ref 0)] },
{ cls := Value.type "dict", data := Data.dict #[{ hash := PyData.keyHash P (Str.ofString "__name__"), key := Value.str (Str.ofString "__name__") 247, val := Value.str (Str.ofString "_sre") 246 }, { hash := PyData.keyHash P (Str.ofString "__doc__"), key := Value.str (Str.ofString "__doc__") 248, val := Value.none }, { hash := PyData.keyHash P (Str.ofString "__package__"), key := Value.str (Str.ofString "__package__") 250, val := Value.str (Str.ofString "") 249 }, { hash := PyData.keyHash P (Str.ofString "__loader__"), key := Value.str (Str.ofString "__loader__") 251, val := Value.builtin "off-the-table:_sre.__loader__:shared#opaque" }, { hash := PyData.keyHash P (Str.ofString "__spec__"), key := Value.str (Str.ofString "__spec__") 252, val := Value.builtin "off-the-table:_sre.__spec__:shared#opaque" }, { hash := PyData.keyHash P (Str.ofString "compile"), key := Value.str (Str.ofString "compile") 253, val := Value.builtin "_sre.compile" }, { hash := PyData.keyHash P (Str.ofString "template"), key := Value.str (Str.ofString "template") 254, val := Value.builtin "off-the-table:_sre.template:shared#opaque" }, { hash := PyData.keyHash P (Str.ofString "getcodesize"), key := Value.str (Str.ofString "getcodesize") 255, val := Value.builtin "off-the-table:_sre.getcodesize:shared#opaque" }, { hash := PyData.keyHash P (Str.ofString "ascii_iscased"), key := Value.str (Str.ofString "ascii_iscased") 256, val := Value.builtin "off-the-table:_sre.ascii_iscased:shared#opaque" }, { hash := PyData.keyHash P (Str.ofString "unicode_iscased"), key := Value.str (Str.ofString "unicode_iscased") 257, val := Value.builtin "off-the-table:_sre.unicode_iscased:shared#opaque" }, { hash := PyData.keyHash P (Str.ofString "ascii_tolower"), key := Value.str (Str.ofString "ascii_tolower") 258, val := Value.builtin "off-the-table:_sre.ascii_tolower:shared#opaque" }, { hash := PyData.keyHash P (Str.ofString "unicode_tolower"), key := Value.str (Str.ofString "unicode_tolower") 259, val := Value.builtin "off-the-table:_sre.unicode_tolower:shared#opaque" }, { hash := PyData.keyHash P (Str.ofString "MAGIC"), key := Value.str (Str.ofString "MAGIC") 261, val := Value.int 20230612 260 }, { hash := PyData.keyHash P (Str.ofString "CODESIZE"), key := Value.str (Str.ofString "CODESIZE") 263, val := Value.int 4 262 }, { hash := PyData.keyHash P (Str.ofString "MAXREPEAT"), key := Value.str (Str.ofString "MAXREPEAT") 265, val := Value.int 4294967295 264 }, { hash := PyData.keyHash P (Str.ofString "MAXGROUPS"), key := Value.str (Str.ofString "MAXGROUPS") 267, val := Value.int 1073741823 266 }, { hash := PyData.keyHash P (Str.ofString "copyright"), key := Value.str (Str.ofString "copyright") 269, val := Value.str (Str.ofString " SRE 2.2.2 Copyright (c) 1997-2002 by Secret Labs AB ") 268 }] 17 },
{ cls := Value.type "module", dict := some 11 },
{ cls := Value.type "dict", data := Data.dict #[{ hash := PyData.keyHash P (Str.ofString "__module__"), key := Value.str (Str.ofString "__module__") 189, val := Value.str (Str.ofString "_frozen_importlib") 186 }, { hash := PyData.keyHash P (Str.ofString "__firstlineno__"), key := Value.str (Str.ofString "__firstlineno__") 190, val := Value.int 971 187 }, { hash := PyData.keyHash P (Str.ofString "__doc__"), key := Value.str (Str.ofString "__doc__") 191, val := Value.builtin "_frozen_importlib.BuiltinImporter.__doc__:str#opaque" }, { hash := PyData.keyHash P (Str.ofString "_ORIGIN"), key := Value.str (Str.ofString "_ORIGIN") 192, val := Value.str (Str.ofString "built-in") 188 }, { hash := PyData.keyHash P (Str.ofString "find_spec"), key := Value.str (Str.ofString "find_spec") 193, val := Value.builtin "_frozen_importlib.BuiltinImporter.find_spec#opaque" }, { hash := PyData.keyHash P (Str.ofString "create_module"), key := Value.str (Str.ofString "create_module") 194, val := Value.builtin "_frozen_importlib.BuiltinImporter.create_module#opaque" }, { hash := PyData.keyHash P (Str.ofString "exec_module"), key := Value.str (Str.ofString "exec_module") 195, val := Value.builtin "_frozen_importlib.BuiltinImporter.exec_module#opaque" }, { hash := PyData.keyHash P (Str.ofString "get_code"), key := Value.str (Str.ofString "get_code") 196, val := Value.builtin "_frozen_importlib.BuiltinImporter.get_code#opaque" }, { hash := PyData.keyHash P (Str.ofString "get_source"), key := Value.str (Str.ofString "get_source") 197, val := Value.builtin "_frozen_importlib.BuiltinImporter.get_source#opaque" }, { hash := PyData.keyHash P (Str.ofString "is_package"), key := Value.str (Str.ofString "is_package") 198, val := Value.builtin "_frozen_importlib.BuiltinImporter.is_package#opaque" }, { hash := PyData.keyHash P (Str.ofString "load_module"), key := Value.str (Str.ofString "load_module") 199, val := Value.builtin "_frozen_importlib.BuiltinImporter.load_module#opaque" }, { hash := PyData.keyHash P (Str.ofString "__static_attributes__"), key := Value.str (Str.ofString "__static_attributes__") 200, val := Value.ref 15 }, { hash := PyData.keyHash P (Str.ofString "__dict__"), key := Value.str (Str.ofString "__dict__") 202, val := Value.ref 16 }, { hash := PyData.keyHash P (Str.ofString "__weakref__"), key := Value.str (Str.ofString "__weakref__") 204, val := Value.ref 17 }] 14 },
{ cls := Value.type "type", data := Data.cls { name := Str.ofString "BuiltinImporter", bases := [Value.type "object"], mro := [Value.ref 14, Value.type "object"], ns := 13, qualname := Str.ofString "BuiltinImporter" } },
{ cls := Value.type "tuple", data := Data.seq #[] },
{ cls := Value.type "getset_descriptor", data := Data.fields #[Value.str (Str.ofString "__dict__") 201, Value.ref 14, Value.builtin "function.__dict__", Value.builtin "function.__dict__#set"] },
{ cls := Value.type "getset_descriptor", data := Data.fields #[Value.str (Str.ofString "__weakref__") 203, Value.ref 14, Value.builtin "ExceptionGroup.__weakref__", Value.none] },
{ cls := Value.none, data := Data.seq #[Value.int 13 0, Value.str (Str.mk #[6, 189, 10, 95, 95, 109, 111, 100, 117, 108, 101, 95, 95, 6, 186, 17, 95, 102, 114, 111, 122, 101, 110, 95, 105, 109, 112, 111, 114, 116, 108, 105, 98, 6, 190, 15, 95, 95, 102, 105, 114, 115, 116, 108, 105, 110, 101, 110, 111, 95, 95, 4, 187, 0, 971, 6, 191, 7, 95, 95, 100, 111, 99, 95, 95, 9, 52, 95, 102, 114, 111, 122, 101, 110, 95, 105, 109, 112, 111, 114, 116, 108, 105, 98, 46, 66, 117, 105, 108, 116, 105, 110, 73, 109, 112, 111, 114, 116, 101, 114, 46, 95, 95, 100, 111, 99, 95, 95, 58, 115, 116, 114, 35, 111, 112, 97, 113, 117, 101, 6, 192, 7, 95, 79, 82, 73, 71, 73, 78, 6, 188, 8, 98, 117, 105, 108, 116, 45, 105, 110, 6, 193, 9, 102, 105, 110, 100, 95, 115, 112, 101, 99, 9, 50, 95, 102, 114, 111, 122, 101, 110, 95, 105, 109, 112, 111, 114, 116, 108, 105, 98, 46, 66, 117, 105, 108, 116, 105, 110, 73, 109, 112, 111, 114, 116, 101, 114, 46, 102, 105, 110, 100, 95, 115, 112, 101, 99, 35, 111, 112, 97, 113, 117, 101, 6, 194, 13, 99, 114, 101, 97, 116, 101, 95, 109, 111, 100, 117, 108, 101, 9, 54, 95, 102, 114, 111, 122, 101, 110, 95, 105, 109, 112, 111, 114, 116, 108, 105, 98, 46, 66, 117, 105, 108, 116, 105, 110, 73, 109, 112, 111, 114, 116, 101, 114, 46, 99, 114, 101, 97, 116, 101, 95, 109, 111, 100, 117, 108, 101, 35, 111, 112, 97, 113, 117, 101, 6, 195, 11, 101, 120, 101, 99, 95, 109, 111, 100, 117, 108, 101, 9, 52, 95, 102, 114, 111, 122, 101, 110, 95, 105, 109, 112, 111, 114, 116, 108, 105, 98, 46, 66, 117, 105, 108, 116, 105, 110, 73, 109, 112, 111, 114, 116, 101, 114, 46, 101, 120, 101, 99, 95, 109, 111, 100, 117, 108, 101, 35, 111, 112, 97, 113, 117, 101, 6, 196, 8, 103, 101, 116, 95, 99, 111, 100, 101, 9, 49, 95, 102, 114, 111, 122, 101, 110, 95, 105, 109, 112, 111, 114, 116, 108, 105, 98, 46, 66, 117, 105, 108, 116, 105, 110, 73, 109, 112, 111, 114, 116, 101, 114, 46, 103, 101, 116, 95, 99, 111, 100, 101, 35, 111, 112, 97, 113, 117, 101, 6, 197, 10, 103, 101, 116, 95, 115, 111, 117, 114, 99, 101, 9, 51, 95, 102, 114, 111, 122, 101, 110, 95, 105, 109, 112, 111, 114, 116, 108, 105, 98, 46, 66, 117, 105, 108, 116, 105, 110, 73, 109, 112, 111, 114, 116, 101, 114, 46, 103, 101, 116, 95, 115, 111, 117, 114, 99, 101, 35, 111, 112, 97, 113, 117, 101, 6, 198, 10, 105, 115, 95, 112, 97, 99, 107, 97, 103, 101, 9, 51, 95, 102, 114, 111, 122, 101, 110, 95, 105, 109, 112, 111, 114, 116, 108, 105, 98, 46, 66, 117, 105, 108, 116, 105, 110, 73, 109, 112, 111, 114, 116, 101, 114, 46, 105, 115, 95, 112, 97, 99, 107, 97, 103, 101, 35, 111, 112, 97, 113, 117, 101, 6, 199, 11, 108, 111, 97, 100, 95, 109, 111, 100, 117, 108, 101, 9, 52, 95, 102, 114, 111, 122, 101, 110, 95, 105, 109, 112, 111, 114, 116, 108, 105, 98, 46, 66, 117, 105, 108, 116, 105, 110, 73, 109, 112, 111, 114, 116, 101, 114, 46, 108, 111, 97, 100, 95, 109, 111, 100, 117, 108, 101, 35, 111, 112, 97, 113, 117, 101, 6, 200, 21, 95, 95, 115, 116, 97, 116, 105, 99, 95, 97, 116, 116, 114, 105, 98, 117, 116, 101, 115, 95, 95, 4, 0, 0, 15, 6, 202, 8, 95, 95, 100, 105, 99, 116, 95, 95, 4, 0, 0, 16, 6, 204, 11, 95, 95, 119, 101, 97, 107, 114, 101, 102, 95, 95, 4, 0, 0, 17]) 0, Value.bool true, Value.bool true, Value.str (Str.ofString "") 205, Value.int 21 0, Value.str (Str.mk #[6, 227, 10, 95, 95, 109, 111, 100, 117, 108, 101, 95, 95, 6, 217, 17, 95, 102, 114, 111, 122, 101, 110, 95, 105, 109, 112, 111, 114, 116, 108, 105, 98, 6, 228, 15, 95, 95, 102, 105, 114, 115, 116, 108, 105, 110, 101, 110, 111, 95, 95, 4, 218, 0, 562, 6, 229, 7, 95, 95, 100, 111, 99, 95, 95, 9, 47, 95, 102, 114, 111, 122, 101, 110, 95, 105, 109, 112, 111, 114, 116, 108, 105, 98, 46, 77, 111, 100, 117, 108, 101, 83, 112, 101, 99, 46, 95, 95, 100, 111, 99, 95, 95, 58, 115, 116, 114, 35, 111, 112, 97, 113, 117, 101, 6, 230, 8, 95, 95, 105, 110, 105, 116, 95, 95, 9, 44, 95, 102, 114, 111, 122, 101, 110, 95, 105, 109, 112, 111, 114, 116, 108, 105, 98, 46, 77, 111, 100, 117, 108, 101, 83, 112, 101, 99, 46, 95, 95, 105, 110, 105, 116, 95, 95, 35, 111, 112, 97, 113, 117, 101, 6, 231, 8, 95, 95, 114, 101, 112, 114, 95, 95, 9, 44, 95, 102, 114, 111, 122, 101, 110, 95, 105, 109, 112, 111, 114, 116, 108, 105, 98, 46, 77, 111, 100, 117, 108, 101, 83, 112, 101, 99, 46, 95, 95, 114, 101, 112, 114, 95, 95, 35, 111, 112, 97, 113, 117, 101, 6, 232, 6, 95, 95, 101, 113, 95, 95, 9, 42, 95, 102, 114, 111, 122, 101, 110, 95, 105, 109, 112, 111, 114, 116, 108, 105, 98, 46, 77, 111, 100, 117, 108, 101, 83, 112, 101, 99, 46, 95, 95, 101, 113, 95, 95, 35, 111, 112, 97, 113, 117, 101, 6, 233, 6, 99, 97, 99, 104, 101, 100, 9, 42, 95, 102, 114, 111, 122, 101, 110, 95, 105, 109, 112, 111, 114, 116, 108, 105, 98, 46, 77, 111, 100, 117, 108, 101, 83, 112, 101, 99, 46, 99, 97, 99, 104, 101, 100, 35, 111, 112, 97, 113, 117, 101, 6, 234, 6, 112, 97, 114, 101, 110, 116, 9, 42, 95, 102, 114, 111, 122, 101, 110, 95, 105, 109, 112, 111, 114, 116, 108, 105, 98, 46, 77, 111, 100, 117, 108, 101, 83, 112, 101, 99, 46, 112, 97, 114, 101, 110, 116, 35, 111, 112, 97, 113, 117, 101, 6, 235, 12, 104, 97, 115, 95, 108, 111, 99, 97, 116, 105, 111, 110, 9, 48, 95, 102, 114, 111, 122, 101, 110, 95, 105, 109, 112, 111, 114, 116, 108, 105, 98, 46, 77, 111, 100, 117, 108, 101, 83, 112, 101, 99, 46, 104, 97, 115, 95, 108, 111, 99, 97, 116, 105, 111, 110, 35, 111, 112, 97, 113, 117, 101, 6, 236, 21, 95, 95, 115, 116, 97, 116, 105, 99, 95, 97, 116, 116, 114, 105, 98, 117, 116, 101, 115, 95, 95, 4, 0, 0, 23, 6, 238, 8, 95, 95, 100, 105, 99, 116, 95, 95, 4, 0, 0, 24, 6, 240, 11, 95, 95, 119, 101, 97, 107, 114, 101, 102, 95, 95, 4, 0, 0, 25, 6, 241, 8, 95, 95, 104, 97, 115, 104, 95, 95, 0]) 0, Value.bool true, Value.bool true, Value.str (Str.ofString "") 242] 1 },
{ cls := Value.type "list", data := Data.seq #[] },
{ cls := Value.type "dict", data := Data.dict #[{ hash := PyData.keyHash P (Str.ofString "name"), key := Value.str (Str.ofString "name") 208, val := Value.str (Str.ofString "_sre") 207 }, { hash := PyData.keyHash P (Str.ofString "loader"), key := Value.str (Str.ofString "loader") 209, val := Value.ref 14 }, { hash := PyData.keyHash P (Str.ofString "origin"), key := Value.str (Str.ofString "origin") 210, val := Value.str (Str.ofString "built-in") 184 }, { hash := PyData.keyHash P (Str.ofString "loader_state"), key := Value.str (Str.ofString "loader_state") 211, val := Value.none }, { hash := PyData.keyHash P (Str.ofString "submodule_search_locations"), key := Value.str (Str.ofString "submodule_search_locations") 212, val := Value.none }, { hash := PyData.keyHash P (Str.ofString "_uninitialized_submodules"), key := Value.str (Str.ofString "_uninitialized_submodules") 213, val := Value.ref 19 }, { hash := PyData.keyHash P (Str.ofString "_set_fileattr"), key := Value.str (Str.ofString "_set_fileattr") 214, val := Value.bool false }, { hash := PyData.keyHash P (Str.ofString "_cached"), key := Value.str (Str.ofString "_cached") 215, val := Value.none }, { hash := PyData.keyHash P (Str.ofString "_initializing"), key := Value.str (Str.ofString "_initializing") 243, val := Value.bool false }] 9 },
{ cls := Value.type "dict", data := Data.dict #[{ hash := PyData.keyHash P (Str.ofString "__module__"), key := Value.str (Str.ofString "__module__") 227, val := Value.str (Str.ofString "_frozen_importlib") 217 }, { hash := PyData.keyHash P (Str.ofString "__firstlineno__"), key := Value.str (Str.ofString "__firstlineno__") 228, val := Value.int 562 218 }, { hash := PyData.keyHash P (Str.ofString "__doc__"), key := Value.str (Str.ofString "__doc__") 229, val := Value.builtin "_frozen_importlib.ModuleSpec.__doc__:str#opaque" }, { hash := PyData.keyHash P (Str.ofString "__init__"), key := Value.str (Str.ofString "__init__") 230, val := Value.builtin "_frozen_importlib.ModuleSpec.__init__#opaque" }, { hash := PyData.keyHash P (Str.ofString "__repr__"), key := Value.str (Str.ofString "__repr__") 231, val := Value.builtin "_frozen_importlib.ModuleSpec.__repr__#opaque" }, { hash := PyData.keyHash P (Str.ofString "__eq__"), key := Value.str (Str.ofString "__eq__") 232, val := Value.builtin "_frozen_importlib.ModuleSpec.__eq__#opaque" }, { hash := PyData.keyHash P (Str.ofString "cached"), key := Value.str (Str.ofString "cached") 233, val := Value.builtin "_frozen_importlib.ModuleSpec.cached#opaque" }, { hash := PyData.keyHash P (Str.ofString "parent"), key := Value.str (Str.ofString "parent") 234, val := Value.builtin "_frozen_importlib.ModuleSpec.parent#opaque" }, { hash := PyData.keyHash P (Str.ofString "has_location"), key := Value.str (Str.ofString "has_location") 235, val := Value.builtin "_frozen_importlib.ModuleSpec.has_location#opaque" }, { hash := PyData.keyHash P (Str.ofString "__static_attributes__"), key := Value.str (Str.ofString "__static_attributes__") 236, val := Value.ref 23 }, { hash := PyData.keyHash P (Str.ofString "__dict__"), key := Value.str (Str.ofString "__dict__") 238, val := Value.ref 24 }, { hash := PyData.keyHash P (Str.ofString "__weakref__"), key := Value.str (Str.ofString "__weakref__") 240, val := Value.ref 25 }, { hash := PyData.keyHash P (Str.ofString "__hash__"), key := Value.str (Str.ofString "__hash__") 241, val := Value.none }] 13 },
{ cls := Value.type "type", data := Data.cls { name := Str.ofString "ModuleSpec", bases := [Value.type "object"], mro := [Value.ref 22, Value.type "object"], ns := 21, qualname := Str.ofString "ModuleSpec" } },
{ cls := Value.type "tuple", data := Data.seq #[Value.str (Str.ofString "_cached") 219, Value.str (Str.ofString "_set_fileattr") 220, Value.str (Str.ofString "_uninitialized_submodules") 221, Value.str (Str.ofString "loader") 222, Value.str (Str.ofString "loader_state") 223, Value.str (Str.ofString "name") 224, Value.str (Str.ofString "origin") 225, Value.str (Str.ofString "submodule_search_locations") 226] },
{ cls := Value.type "getset_descriptor", data := Data.fields #[Value.str (Str.ofString "__dict__") 237, Value.ref 22, Value.builtin "function.__dict__", Value.builtin "function.__dict__#set"] },
{ cls := Value.type "getset_descriptor", data := Data.fields #[Value.str (Str.ofString "__weakref__") 239, Value.ref 22, Value.builtin "ExceptionGroup.__weakref__", Value.none] },
{ cls := Value.ref 22, dict := some 20 },
{ cls := Value.none, data := Data.seq #[Value.int 11 0, Value.str { cps := #[6, 247, 8, 95, 95, 110, 97, 109, 101, 95, 95, 6, 246, 4, 95, 115, 114, 101, 6, 248, 7, 95, 95, 100, 111, 99, 95, 95, 0, 6, 250, 11, 95, 95, 112, 97, 99, 107, 97, 103, 101, 95, 95, 6, 249, 0, 6, 251, 10, 95, 95, 108, 111, 97, 100, 101, 114, 95, 95, 4, 0, 0, 14, 6, 252, 8, 95, 95, 115, 112, 101, 99, 95, 95, 4, 0, 0, 26, 6, 253, 7, 99, 111, 109, 112, 105, 108, 101, 9, 12, 95, 115, 114, 101, 46, 99, 111, 109, 112, 105, 108, 101, 6, 254, 8, 116, 101, 109, 112, 108, 97, 116, 101, 9, 13, 95, 115, 114, 101, 46, 116, 101, 109, 112, 108, 97, 116, 101, 6, 255, 11, 103, 101, 116, 99, 111, 100, 101, 115, 105, 122, 101, 9, 16, 95, 115, 114, 101, 46, 103, 101, 116, 99, 111, 100, 101, 115, 105, 122, 101, 6, 256, 13, 97, 115, 99, 105, 105, 95, 105, 115, 99, 97, 115, 101, 100, 9, 18, 95, 115, 114, 101, 46, 97, 115, 99, 105, 105, 95, 105, 115, 99, 97, 115, 101, 100, 6, 257, 15, 117, 110, 105, 99, 111, 100, 101, 95, 105, 115, 99, 97, 115, 101, 100, 9, 20, 95, 115, 114, 101, 46, 117, 110, 105, 99, 111, 100, 101, 95, 105, 115, 99, 97, 115, 101, 100, 6, 258, 13, 97, 115, 99, 105, 105, 95, 116, 111, 108, 111, 119, 101, 114, 9, 18, 95, 115, 114, 101, 46, 97, 115, 99, 105, 105, 95, 116, 111, 108, 111, 119, 101, 114, 6, 259, 15, 117, 110, 105, 99, 111, 100, 101, 95, 116, 111, 108, 111, 119, 101, 114, 9, 20, 95, 115, 114, 101, 46, 117, 110, 105, 99, 111, 100, 101, 95, 116, 111, 108, 111, 119, 101, 114, 6, 261, 5, 77, 65, 71, 73, 67, 4, 260, 0, 20230612, 6, 263, 8, 67, 79, 68, 69, 83, 73, 90, 69, 4, 262, 0, 4, 6, 265, 9, 77, 65, 88, 82, 69, 80, 69, 65, 84, 4, 264, 0, 4294967295, 6, 267, 9, 77, 65, 88, 71, 82, 79, 85, 80, 83, 4, 266, 0, 1073741823, 6, 269, 9, 99, 111, 112, 121, 114, 105, 103, 104, 116, 6, 268, 53, 32, 83, 82, 69, 32, 50, 46, 50, 46, 50, 32, 67, 111, 112, 121, 114, 105, 103, 104, 116, 32, 40, 99, 41, 32, 49, 57, 57, 55, 45, 50, 48, 48, 50, 32, 98, 121, 32, 83, 101, 99, 114, 101, 116, 32, 76, 97, 98, 115, 32, 65, 66, 32] } 0, Value.bool true, Value.bool false, Value.str (Str.ofString "_sre") 271] },
{ cls := Value.type "tuple", data := Data.seq #[] },
{ cls := Value.none, data := Data.fields #[Value.int 2 0, Value.int 0 0, Value.ref 37, Value.int 6 0, Value.int 0 0, Value.ref 44, Value.int 8 0, Value.int 0 0, Value.ref 51, Value.int 20 0, Value.int 0 0, Value.ref 58, Value.int 22 0, Value.int 0 0, Value.ref 65, Value.int 24 0, Value.int 0 0, Value.ref 72, Value.int 30 0, Value.int 0 0, Value.ref 79, Value.int 32 0, Value.int 0 0, Value.ref 86, Value.int 34 0, Value.int 0 0, Value.ref 93, Value.int 40 0, Value.int 0 0, Value.ref 110, Value.int 46 0, Value.int 0 0, Value.ref 133, Value.int 55 0, Value.int 0 0, Value.ref 140, Value.int 137 0, Value.int 0 0, Value.ref 265, Value.int 140 0, Value.int 0 0, Value.ref 272, Value.int 147 0, Value.int 0 0, Value.ref 277, Value.int 149 0, Value.int 0 0, Value.ref 282, Value.int 160 0, Value.int 0 0, Value.ref 287, Value.int 168 0, Value.int 0 0, Value.ref 292, Value.int 178 0, Value.int 0 0, Value.ref 297] },
{ cls := Value.type "code", data := Data.fields #[Value.str (Str.ofString "<module>") 277, Value.str (Str.ofString "<module>") 278, Value.str (Str.ofString "/claim/cut.py") 279, Value.int 1 0, Value.int 0 0, Value.int 0 0, Value.int 0 0, Value.int 0 0, Value.ref 28, Value.bool false, Value.int 276 0, Value.ref 29, Value.none, Value.none, Value.none, Value.none, Value.int 280 0, Value.int 1 0, Value.str (Str.ofString "/claim/cut.py") 281] },
{ cls := Value.type "frame", slots := #[some (Value.ref 30), some (Value.ref 3), some (Value.ref 3), none, some (Value.str (Str.ofString "__main__") 164), none, some (Value.ref 0)] },
{ cls := Value.type "tuple", data := Data.seq #[] },
{ cls := Value.none, data := Data.fields #[] },
{ cls := Value.type "tuple", data := Data.seq #[Value.str (Str.ofString "k") 285] },
{ cls := Value.type "tuple", data := Data.seq #[] },
{ cls := Value.none, data := Data.func { name := Str.ofString "_wall", qualname := Str.ofString "_wall", params := fnP (Mine.stM 1), body := fnB (Mine.stM 1), scope := fnS (Mine.stM 1), globals := 0, closure := [], defaults := Value.none, kwdefaults := Value.none } },
{ cls := Value.type "code", data := Data.fields #[Value.str (Str.ofString "_wall") 282, Value.str (Str.ofString "_wall") 283, Value.str (Str.ofString "/claim/cut.py") 284, Value.int 2 0, Value.int 1 0, Value.int 0 0, Value.int 0 0, Value.int 3 0, Value.ref 32, Value.bool true, Value.int 276 0, Value.ref 33, Value.none, Value.ref 34, Value.ref 35, Value.ref 36, Value.int 286 0, Value.int 2 0, Value.str (Str.ofString "/claim/cut.py") 287] },
{ cls := Value.type "function", data := Data.func { name := Str.ofString "_wall", qualname := Str.ofString "_wall", params := fnP (Mine.stM 1), body := fnB (Mine.stM 1), scope := fnS (Mine.stM 1), globals := 3, closure := [], defaults := Value.none, kwdefaults := Value.none, pyModule := Value.str (Str.ofString "__main__") 164, code := Value.ref 37 } },
{ cls := Value.type "tuple", data := Data.seq #[] },
{ cls := Value.none, data := Data.fields #[] },
{ cls := Value.type "tuple", data := Data.seq #[Value.str (Str.ofString "a") 294, Value.str (Str.ofString "b") 295] },
{ cls := Value.type "tuple", data := Data.seq #[] },
{ cls := Value.none, data := Data.func { name := Str.ofString "_strcoll", qualname := Str.ofString "_strcoll", params := fnP (Mine.stM 3), body := fnB (Mine.stM 3), scope := fnS (Mine.stM 10), globals := 0, closure := [], defaults := Value.none, kwdefaults := Value.none } },
{ cls := Value.type "code", data := Data.fields #[Value.str (Str.ofString "_strcoll") 291, Value.str (Str.ofString "_strcoll") 292, Value.str (Str.ofString "/claim/cut.py") 293, Value.int 6 0, Value.int 2 0, Value.int 0 0, Value.int 0 0, Value.int 3 0, Value.ref 39, Value.bool true, Value.int 276 0, Value.ref 40, Value.none, Value.ref 41, Value.ref 42, Value.ref 43, Value.int 296 0, Value.int 6 0, Value.str (Str.ofString "/claim/cut.py") 297] },
{ cls := Value.type "function", data := Data.func { name := Str.ofString "_strcoll", qualname := Str.ofString "_strcoll", params := fnP (Mine.stM 3), body := fnB (Mine.stM 3), scope := fnS (Mine.stM 10), globals := 3, closure := [], defaults := Value.none, kwdefaults := Value.none, pyModule := Value.str (Str.ofString "cpy313.locale") 289, code := Value.ref 44 } },
{ cls := Value.type "tuple", data := Data.seq #[] },
{ cls := Value.none, data := Data.fields #[] },
{ cls := Value.type "tuple", data := Data.seq #[Value.str (Str.ofString "localetuple") 302, Value.str (Str.ofString "language") 303, Value.str (Str.ofString "encoding") 304] },
{ cls := Value.type "tuple", data := Data.seq #[] },
{ cls := Value.none, data := Data.func { name := Str.ofString "_build_localename", qualname := Str.ofString "_build_localename", params := fnP (Mine.stM 4), body := fnB (Mine.stM 4), scope := fnS (Mine.stM 4), globals := 0, closure := [], defaults := Value.none, kwdefaults := Value.none } },
{ cls := Value.type "code", data := Data.fields #[Value.str (Str.ofString "_build_localename") 299, Value.str (Str.ofString "_build_localename") 300, Value.str (Str.ofString "/claim/cut.py") 301, Value.int 8 0, Value.int 1 0, Value.int 0 0, Value.int 0 0, Value.int 3 0, Value.ref 46, Value.bool true, Value.int 276 0, Value.ref 47, Value.none, Value.ref 48, Value.ref 49, Value.ref 50, Value.int 305 0, Value.int 8 0, Value.str (Str.ofString "/claim/cut.py") 306] },
{ cls := Value.type "function", data := Data.func { name := Str.ofString "_build_localename", qualname := Str.ofString "_build_localename", params := fnP (Mine.stM 4), body := fnB (Mine.stM 4), scope := fnS (Mine.stM 4), globals := 3, closure := [], defaults := Value.none, kwdefaults := Value.none, pyModule := Value.str (Str.ofString "cpy313.locale") 289, code := Value.ref 51 } },
{ cls := Value.type "tuple", data := Data.seq #[] },
{ cls := Value.none, data := Data.fields #[] },
{ cls := Value.type "tuple", data := Data.seq #[Value.str (Str.ofString "a") 313, Value.str (Str.ofString "b") 314] },
{ cls := Value.type "tuple", data := Data.seq #[] },
{ cls := Value.none, data := Data.func { name := Str.ofString "floordiv", qualname := Str.ofString "floordiv", params := fnP (Mine.stM 6), body := fnB (Mine.stM 6), scope := fnS (Mine.stM 10), globals := 0, closure := [], defaults := Value.none, kwdefaults := Value.none } },
{ cls := Value.type "code", data := Data.fields #[Value.str (Str.ofString "floordiv") 310, Value.str (Str.ofString "floordiv") 311, Value.str (Str.ofString "/claim/cut.py") 312, Value.int 20 0, Value.int 2 0, Value.int 0 0, Value.int 0 0, Value.int 3 0, Value.ref 53, Value.bool true, Value.int 276 0, Value.ref 54, Value.none, Value.ref 55, Value.ref 56, Value.ref 57, Value.int 315 0, Value.int 20 0, Value.str (Str.ofString "/claim/cut.py") 316] },
{ cls := Value.type "function", data := Data.func { name := Str.ofString "floordiv", qualname := Str.ofString "floordiv", params := fnP (Mine.stM 6), body := fnB (Mine.stM 6), scope := fnS (Mine.stM 10), globals := 3, closure := [], defaults := Value.none, kwdefaults := Value.none, pyModule := Value.str (Str.ofString "cpy313.operator") 308, code := Value.ref 58 } },
{ cls := Value.type "tuple", data := Data.seq #[] },
{ cls := Value.none, data := Data.fields #[] },
{ cls := Value.type "tuple", data := Data.seq #[Value.str (Str.ofString "a") 321, Value.str (Str.ofString "b") 322] },
{ cls := Value.type "tuple", data := Data.seq #[] },
{ cls := Value.none, data := Data.func { name := Str.ofString "mod", qualname := Str.ofString "mod", params := fnP (Mine.stM 7), body := fnB (Mine.stM 7), scope := fnS (Mine.stM 10), globals := 0, closure := [], defaults := Value.none, kwdefaults := Value.none } },
{ cls := Value.type "code", data := Data.fields #[Value.str (Str.ofString "mod") 318, Value.str (Str.ofString "mod") 319, Value.str (Str.ofString "/claim/cut.py") 320, Value.int 22 0, Value.int 2 0, Value.int 0 0, Value.int 0 0, Value.int 3 0, Value.ref 60, Value.bool true, Value.int 276 0, Value.ref 61, Value.none, Value.ref 62, Value.ref 63, Value.ref 64, Value.int 323 0, Value.int 22 0, Value.str (Str.ofString "/claim/cut.py") 324] },
{ cls := Value.type "function", data := Data.func { name := Str.ofString "mod", qualname := Str.ofString "mod", params := fnP (Mine.stM 7), body := fnB (Mine.stM 7), scope := fnS (Mine.stM 10), globals := 3, closure := [], defaults := Value.none, kwdefaults := Value.none, pyModule := Value.str (Str.ofString "cpy313.operator") 308, code := Value.ref 65 } },
{ cls := Value.type "tuple", data := Data.seq #[] },
{ cls := Value.none, data := Data.fields #[] },
{ cls := Value.type "tuple", data := Data.seq #[Value.str (Str.ofString "a") 329, Value.str (Str.ofString "b") 330, Value.str (Str.ofString "count") 331, Value.str (Str.ofString "i") 332] },
{ cls := Value.type "tuple", data := Data.seq #[] },
{ cls := Value.none, data := Data.func { name := Str.ofString "countOf", qualname := Str.ofString "countOf", params := fnP (Mine.stM 8), body := fnB (Mine.stM 8), scope := fnS (Mine.stM 8), globals := 0, closure := [], defaults := Value.none, kwdefaults := Value.none } },
{ cls := Value.type "code", data := Data.fields #[Value.str (Str.ofString "countOf") 326, Value.str (Str.ofString "countOf") 327, Value.str (Str.ofString "/claim/cut.py") 328, Value.int 24 0, Value.int 2 0, Value.int 0 0, Value.int 0 0, Value.int 3 0, Value.ref 67, Value.bool true, Value.int 276 0, Value.ref 68, Value.none, Value.ref 69, Value.ref 70, Value.ref 71, Value.int 333 0, Value.int 24 0, Value.str (Str.ofString "/claim/cut.py") 334] },
{ cls := Value.type "function", data := Data.func { name := Str.ofString "countOf", qualname := Str.ofString "countOf", params := fnP (Mine.stM 8), body := fnB (Mine.stM 8), scope := fnS (Mine.stM 8), globals := 3, closure := [], defaults := Value.none, kwdefaults := Value.none, pyModule := Value.str (Str.ofString "cpy313.operator") 308, code := Value.ref 72 } },
{ cls := Value.type "tuple", data := Data.seq #[] },
{ cls := Value.none, data := Data.fields #[] },
{ cls := Value.type "tuple", data := Data.seq #[Value.str (Str.ofString "a") 339, Value.str (Str.ofString "b") 340] },
{ cls := Value.type "tuple", data := Data.seq #[] },
{ cls := Value.none, data := Data.func { name := Str.ofString "delitem", qualname := Str.ofString "delitem", params := fnP (Mine.stM 9), body := fnB (Mine.stM 9), scope := fnS (Mine.stM 10), globals := 0, closure := [], defaults := Value.none, kwdefaults := Value.none } },
{ cls := Value.type "code", data := Data.fields #[Value.str (Str.ofString "delitem") 336, Value.str (Str.ofString "delitem") 337, Value.str (Str.ofString "/claim/cut.py") 338, Value.int 30 0, Value.int 2 0, Value.int 0 0, Value.int 0 0, Value.int 3 0, Value.ref 74, Value.bool true, Value.int 276 0, Value.ref 75, Value.none, Value.ref 76, Value.ref 77, Value.ref 78, Value.int 341 0, Value.int 30 0, Value.str (Str.ofString "/claim/cut.py") 342] },
{ cls := Value.type "function", data := Data.func { name := Str.ofString "delitem", qualname := Str.ofString "delitem", params := fnP (Mine.stM 9), body := fnB (Mine.stM 9), scope := fnS (Mine.stM 10), globals := 3, closure := [], defaults := Value.none, kwdefaults := Value.none, pyModule := Value.str (Str.ofString "cpy313.operator") 308, code := Value.ref 79 } },
{ cls := Value.type "tuple", data := Data.seq #[] },
{ cls := Value.none, data := Data.fields #[] },
{ cls := Value.type "tuple", data := Data.seq #[Value.str (Str.ofString "a") 347, Value.str (Str.ofString "b") 348] },
{ cls := Value.type "tuple", data := Data.seq #[] },
{ cls := Value.none, data := Data.func { name := Str.ofString "getitem", qualname := Str.ofString "getitem", params := fnP (Mine.stM 10), body := fnB (Mine.stM 10), scope := fnS (Mine.stM 10), globals := 0, closure := [], defaults := Value.none, kwdefaults := Value.none } },
{ cls := Value.type "code", data := Data.fields #[Value.str (Str.ofString "getitem") 344, Value.str (Str.ofString "getitem") 345, Value.str (Str.ofString "/claim/cut.py") 346, Value.int 32 0, Value.int 2 0, Value.int 0 0, Value.int 0 0, Value.int 3 0, Value.ref 81, Value.bool true, Value.int 276 0, Value.ref 82, Value.none, Value.ref 83, Value.ref 84, Value.ref 85, Value.int 349 0, Value.int 32 0, Value.str (Str.ofString "/claim/cut.py") 350] },
{ cls := Value.type "function", data := Data.func { name := Str.ofString "getitem", qualname := Str.ofString "getitem", params := fnP (Mine.stM 10), body := fnB (Mine.stM 10), scope := fnS (Mine.stM 10), globals := 3, closure := [], defaults := Value.none, kwdefaults := Value.none, pyModule := Value.str (Str.ofString "cpy313.operator") 308, code := Value.ref 86 } },
{ cls := Value.type "tuple", data := Data.seq #[] },
{ cls := Value.none, data := Data.fields #[] },
{ cls := Value.type "tuple", data := Data.seq #[Value.str (Str.ofString "a") 355, Value.str (Str.ofString "b") 356, Value.str (Str.ofString "c") 357] },
{ cls := Value.type "tuple", data := Data.seq #[] },
{ cls := Value.none, data := Data.func { name := Str.ofString "setitem", qualname := Str.ofString "setitem", params := fnP (Mine.stM 11), body := fnB (Mine.stM 11), scope := fnS (Mine.stM 11), globals := 0, closure := [], defaults := Value.none, kwdefaults := Value.none } },
{ cls := Value.type "code", data := Data.fields #[Value.str (Str.ofString "setitem") 352, Value.str (Str.ofString "setitem") 353, Value.str (Str.ofString "/claim/cut.py") 354, Value.int 34 0, Value.int 3 0, Value.int 0 0, Value.int 0 0, Value.int 3 0, Value.ref 88, Value.bool true, Value.int 276 0, Value.ref 89, Value.none, Value.ref 90, Value.ref 91, Value.ref 92, Value.int 358 0, Value.int 34 0, Value.str (Str.ofString "/claim/cut.py") 359] },
{ cls := Value.type "function", data := Data.func { name := Str.ofString "setitem", qualname := Str.ofString "setitem", params := fnP (Mine.stM 11), body := fnB (Mine.stM 11), scope := fnS (Mine.stM 11), globals := 3, closure := [], defaults := Value.none, kwdefaults := Value.none, pyModule := Value.str (Str.ofString "cpy313.operator") 308, code := Value.ref 93 } },
{ cls := Value.type "list", data := Data.seq #[Value.int 14 366, Value.int 4 367, Value.int 0 368, Value.int 1 369, Value.int 1 370, Value.int 6 371, Value.int 1 372, Value.int 16 373, Value.int 46 374, Value.int 1 375] },
{ cls := Value.type "dict", data := Data.dict #[] },
{ cls := Value.type "tuple", data := Data.seq #[Value.none] },
{ cls := Value.type "tuple", data := Data.seq #[Value.int 14 0, Value.int 4 0, Value.int 0 0, Value.int 1 0, Value.int 1 0, Value.int 6 0, Value.int 1 0, Value.int 16 0, Value.int 46 0, Value.int 1 0] },
{ cls := Value.type "re.Pattern", data := Data.fields #[Value.str (Str.ofString "(?m)^\\.") 364, Value.int 40 377, Value.int 0 0, Value.none, Value.none, Value.ref 98, Value.int 0 0] },
{ cls := Value.type "list", data := Data.seq #[Value.int 14 382, Value.int 9 383, Value.int 4 384, Value.int 1 385, Value.int 2 386, Value.int 16 387, Value.int 10 388, Value.int 16 389, Value.int 13 390, Value.int 0 391, Value.int 7 392, Value.int 7 393, Value.int 16 394, Value.int 13 395, Value.int 16 396, Value.int 10 397, Value.int 15 398, Value.int 18 399, Value.int 5 400, Value.int 16 401, Value.int 10 402, Value.int 15 403, Value.int 13 404, Value.int 11 405, Value.int 16 406, Value.int 13 407, Value.int 5 408, Value.int 5 409, Value.int 0 410, Value.int 16 411, Value.int 10 412, Value.int 1 413, Value.int 15 414, Value.int 2 415, Value.int 0 416, Value.int 1 417] },
{ cls := Value.type "dict", data := Data.dict #[] },
{ cls := Value.type "tuple", data := Data.seq #[Value.none] },
{ cls := Value.type "tuple", data := Data.seq #[Value.int 14 0, Value.int 9 0, Value.int 4 0, Value.int 1 0, Value.int 2 0, Value.int 16 0, Value.int 10 0, Value.int 16 0, Value.int 13 0, Value.int 0 0, Value.int 7 0, Value.int 7 0, Value.int 16 0, Value.int 13 0, Value.int 16 0, Value.int 10 0, Value.int 15 0, Value.int 18 0, Value.int 5 0, Value.int 16 0, Value.int 10 0, Value.int 15 0, Value.int 13 0, Value.int 11 0, Value.int 16 0, Value.int 13 0, Value.int 5 0, Value.int 5 0, Value.int 0 0, Value.int 16 0, Value.int 10 0, Value.int 1 0, Value.int 15 0, Value.int 2 0, Value.int 0 0, Value.int 1 0] },
{ cls := Value.type "re.Pattern", data := Data.fields #[Value.str (Str.ofString "(?:\\r\\n|\\n|\\r(?!\\n))") 380, Value.int 32 419, Value.int 0 0, Value.none, Value.none, Value.ref 103, Value.int 0 0] },
{ cls := Value.type "tuple", data := Data.seq #[] },
{ cls := Value.none, data := Data.fields #[] },
{ cls := Value.type "tuple", data := Data.seq #[Value.str (Str.ofString "data") 426] },
{ cls := Value.type "tuple", data := Data.seq #[] },
{ cls := Value.none, data := Data.func { name := Str.ofString "quotedata", qualname := Str.ofString "quotedata", params := fnP (Mine.stM 16), body := fnB (Mine.stM 16), scope := fnS (Mine.stM 16), globals := 0, closure := [], defaults := Value.none, kwdefaults := Value.none } },
{ cls := Value.type "code", data := Data.fields #[Value.str (Str.ofString "quotedata") 423, Value.str (Str.ofString "quotedata") 424, Value.str (Str.ofString "/claim/cut.py") 425, Value.int 40 0, Value.int 1 0, Value.int 0 0, Value.int 0 0, Value.int 3 0, Value.ref 105, Value.bool true, Value.int 276 0, Value.ref 106, Value.none, Value.ref 107, Value.ref 108, Value.ref 109, Value.int 427 0, Value.int 40 0, Value.str (Str.ofString "/claim/cut.py") 428] },
{ cls := Value.type "function", data := Data.func { name := Str.ofString "quotedata", qualname := Str.ofString "quotedata", params := fnP (Mine.stM 16), body := fnB (Mine.stM 16), scope := fnS (Mine.stM 16), globals := 3, closure := [], defaults := Value.none, kwdefaults := Value.none, pyModule := Value.str (Str.ofString "cpy313.smtplib") 361, code := Value.ref 110 } },
{ cls := Value.type "list", data := Data.seq #[Value.int 14 435, Value.int 14 436, Value.int 4 437, Value.int 1 438, Value.int 1 439, Value.int 9 440, Value.int 0 441, Value.int 4227896069 442, Value.int 939524097 443, Value.int 0 444, Value.int 0 445, Value.int 0 446, Value.int 0 447, Value.int 0 448, Value.int 0 449, Value.int 13 450, Value.int 11 451, Value.int 9 452, Value.int 0 453, Value.int 4227896069 454, Value.int 939524097 455, Value.int 0 456, Value.int 0 457, Value.int 0 458, Value.int 0 459, Value.int 0 460, Value.int 0 461, Value.int 1 462] },
{ cls := Value.type "dict", data := Data.dict #[] },
{ cls := Value.type "tuple", data := Data.seq #[Value.none] },
{ cls := Value.type "tuple", data := Data.seq #[Value.int 14 0, Value.int 14 0, Value.int 4 0, Value.int 1 0, Value.int 1 0, Value.int 9 0, Value.int 0 0, Value.int 4227896069 0, Value.int 939524097 0, Value.int 0 0, Value.int 0 0, Value.int 0 0, Value.int 0 0, Value.int 0 0, Value.int 0 0, Value.int 13 0, Value.int 11 0, Value.int 9 0, Value.int 0 0, Value.int 4227896069 0, Value.int 939524097 0, Value.int 0 0, Value.int 0 0, Value.int 0 0, Value.int 0 0, Value.int 0 0, Value.int 0 0, Value.int 1 0] },
{ cls := Value.type "re.Pattern", data := Data.fields #[Value.str (Str.ofString "[ \\(\\)<>@,;:\\\\\"/\\[\\]\\?=]") 433, Value.int 32 464, Value.int 0 0, Value.none, Value.none, Value.ref 115, Value.int 0 0] },
{ cls := Value.type "list", data := Data.seq #[Value.int 14 469, Value.int 10 470, Value.int 4 471, Value.int 1 472, Value.int 1 473, Value.int 22 474, Value.int 0 475, Value.int 31 476, Value.int 16 477, Value.int 127 478, Value.int 0 479, Value.int 13 480, Value.int 7 481, Value.int 22 482, Value.int 0 483, Value.int 31 484, Value.int 16 485, Value.int 127 486, Value.int 0 487, Value.int 1 488] },
{ cls := Value.type "dict", data := Data.dict #[] },
{ cls := Value.type "tuple", data := Data.seq #[Value.none] },
{ cls := Value.type "tuple", data := Data.seq #[Value.int 14 0, Value.int 10 0, Value.int 4 0, Value.int 1 0, Value.int 1 0, Value.int 22 0, Value.int 0 0, Value.int 31 0, Value.int 16 0, Value.int 127 0, Value.int 0 0, Value.int 13 0, Value.int 7 0, Value.int 22 0, Value.int 0 0, Value.int 31 0, Value.int 16 0, Value.int 127 0, Value.int 0 0, Value.int 1 0] },
{ cls := Value.type "re.Pattern", data := Data.fields #[Value.str (Str.ofString "[\\x00-\\x1F\\x7F]") 467, Value.int 32 490, Value.int 0 0, Value.none, Value.none, Value.ref 120, Value.int 0 0] },
{ cls := Value.type "list", data := Data.seq #[Value.int 14 495, Value.int 14 496, Value.int 4 497, Value.int 1 498, Value.int 1 499, Value.int 9 500, Value.int 4294966783 501, Value.int 0 502, Value.int 0 503, Value.int 2147483648 504, Value.int 0 505, Value.int 0 506, Value.int 0 507, Value.int 0 508, Value.int 0 509, Value.int 13 510, Value.int 11 511, Value.int 9 512, Value.int 4294966783 513, Value.int 0 514, Value.int 0 515, Value.int 2147483648 516, Value.int 0 517, Value.int 0 518, Value.int 0 519, Value.int 0 520, Value.int 0 521, Value.int 1 522] },
{ cls := Value.type "dict", data := Data.dict #[] },
{ cls := Value.type "tuple", data := Data.seq #[Value.none] },
{ cls := Value.type "tuple", data := Data.seq #[Value.int 14 0, Value.int 14 0, Value.int 4 0, Value.int 1 0, Value.int 1 0, Value.int 9 0, Value.int 4294966783 0, Value.int 0 0, Value.int 0 0, Value.int 2147483648 0, Value.int 0 0, Value.int 0 0, Value.int 0 0, Value.int 0 0, Value.int 0 0, Value.int 13 0, Value.int 11 0, Value.int 9 0, Value.int 4294966783 0, Value.int 0 0, Value.int 0 0, Value.int 2147483648 0, Value.int 0 0, Value.int 0 0, Value.int 0 0, Value.int 0 0, Value.int 0 0, Value.int 1 0] },
{ cls := Value.type "re.Pattern", data := Data.fields #[Value.str (Str.ofString "[\\x00-\\x08\\x0A-\\x1F\\x7F]") 493, Value.int 32 524, Value.int 0 0, Value.none, Value.none, Value.ref 125, Value.int 0 0] },
{ cls := Value.type "tuple", data := Data.seq #[Value.none, Value.int 1 526] },
{ cls := Value.type "tuple", data := Data.seq #[] },
{ cls := Value.none, data := Data.fields #[] },
{ cls := Value.type "tuple", data := Data.seq #[Value.str (Str.ofString "param") 530, Value.str (Str.ofString "value") 531, Value.str (Str.ofString "quote") 532] },
{ cls := Value.type "tuple", data := Data.seq #[] },
{ cls := Value.none, data := Data.func { name := Str.ofString "_formatparam", qualname := Str.ofString "_formatparam", params := fnP (Mine.stM 21), body := fnB (Mine.stM 21), scope := fnS (Mine.stM 21), globals := 0, closure := [], defaults := Value.none, kwdefaults := Value.none } },
{ cls := Value.type "code", data := Data.fields #[Value.str (Str.ofString "_formatparam") 527, Value.str (Str.ofString "_formatparam") 528, Value.str (Str.ofString "/claim/cut.py") 529, Value.int 46 0, Value.int 3 0, Value.int 0 0, Value.int 0 0, Value.int 3 0, Value.ref 128, Value.bool true, Value.int 276 0, Value.ref 129, Value.none, Value.ref 130, Value.ref 131, Value.ref 132, Value.int 533 0, Value.int 46 0, Value.str (Str.ofString "/claim/cut.py") 534] },
{ cls := Value.type "function", data := Data.func { name := Str.ofString "_formatparam", qualname := Str.ofString "_formatparam", params := fnP (Mine.stM 21), body := fnB (Mine.stM 21), scope := fnS (Mine.stM 21), globals := 3, closure := [], defaults := Value.ref 127, kwdefaults := Value.none, pyModule := Value.str (Str.ofString "cpy313.wsgiref.headers") 430, code := Value.ref 133 } },
{ cls := Value.type "tuple", data := Data.seq #[] },
{ cls := Value.type "builtin_function_or_method", data := Data.fields #[Value.builtin "type.__prepare__", Value.type "type"] },
{ cls := Value.type "dict", data := Data.dict #[{ hash := PyData.keyHash P (Str.ofString "__module__"), key := Value.str (Str.ofString "__module__") 543, val := Value.str (Str.ofString "cpy313.wsgiref.headers") 430 }, { hash := PyData.keyHash P (Str.ofString "__qualname__"), key := Value.str (Str.ofString "__qualname__") 545, val := Value.str (Str.ofString "Headers") 544 }, { hash := PyData.keyHash P (Str.ofString "__firstlineno__"), key := Value.str (Str.ofString "__firstlineno__") 547, val := Value.int 55 546 }, { hash := PyData.keyHash P (Str.ofString "__init__"), key := Value.str (Str.ofString "__init__") 557, val := Value.ref 149 }, { hash := PyData.keyHash P (Str.ofString "_convert_string_type"), key := Value.str (Str.ofString "_convert_string_type") 567, val := Value.ref 156 }, { hash := PyData.keyHash P (Str.ofString "__len__"), key := Value.str (Str.ofString "__len__") 574, val := Value.ref 163 }, { hash := PyData.keyHash P (Str.ofString "__setitem__"), key := Value.str (Str.ofString "__setitem__") 583, val := Value.ref 170 }, { hash := PyData.keyHash P (Str.ofString "__delitem__"), key := Value.str (Str.ofString "__delitem__") 589, val := Value.ref 175 }, { hash := PyData.keyHash P (Str.ofString "__getitem__"), key := Value.str (Str.ofString "__getitem__") 597, val := Value.ref 182 }, { hash := PyData.keyHash P (Str.ofString "__contains__"), key := Value.str (Str.ofString "__contains__") 605, val := Value.ref 189 }, { hash := PyData.keyHash P (Str.ofString "get_all"), key := Value.str (Str.ofString "get_all") 613, val := Value.ref 196 }, { hash := PyData.keyHash P (Str.ofString "get"), key := Value.str (Str.ofString "get") 624, val := Value.ref 204 }, { hash := PyData.keyHash P (Str.ofString "keys"), key := Value.str (Str.ofString "keys") 630, val := Value.ref 209 }, { hash := PyData.keyHash P (Str.ofString "values"), key := Value.str (Str.ofString "values") 636, val := Value.ref 214 }, { hash := PyData.keyHash P (Str.ofString "items"), key := Value.str (Str.ofString "items") 643, val := Value.ref 221 }, { hash := PyData.keyHash P (Str.ofString "__repr__"), key := Value.str (Str.ofString "__repr__") 650, val := Value.ref 228 }, { hash := PyData.keyHash P (Str.ofString "__str__"), key := Value.str (Str.ofString "__str__") 656, val := Value.ref 233 }, { hash := PyData.keyHash P (Str.ofString "__bytes__"), key := Value.str (Str.ofString "__bytes__") 663, val := Value.ref 240 }, { hash := PyData.keyHash P (Str.ofString "setdefault"), key := Value.str (Str.ofString "setdefault") 672, val := Value.ref 247 }, { hash := PyData.keyHash P (Str.ofString "add_header"), key := Value.str (Str.ofString "add_header") 685, val := Value.ref 254 }, { hash := PyData.keyHash P (Str.ofString "__static_attributes__"), key := Value.str (Str.ofString "__static_attributes__") 687, val := Value.ref 255 }] 21 },
{ cls := Value.type "tuple", data := Data.seq #[] },
{ cls := Value.none, data := Data.fields #[Value.int 57 0, Value.int 4 0, Value.ref 148, Value.int 67 0, Value.int 4 0, Value.ref 155, Value.int 75 0, Value.int 4 0, Value.ref 162, Value.int 78 0, Value.int 4 0, Value.ref 169, Value.int 82 0, Value.int 4 0, Value.ref 174, Value.int 86 0, Value.int 4 0, Value.ref 181, Value.int 89 0, Value.int 4 0, Value.ref 188, Value.int 92 0, Value.int 4 0, Value.ref 195, Value.int 95 0, Value.int 4 0, Value.ref 203, Value.int 102 0, Value.int 4 0, Value.ref 208, Value.int 105 0, Value.int 4 0, Value.ref 213, Value.int 108 0, Value.int 4 0, Value.ref 220, Value.int 111 0, Value.int 4 0, Value.ref 227, Value.int 114 0, Value.int 4 0, Value.ref 232, Value.int 117 0, Value.int 4 0, Value.ref 239, Value.int 120 0, Value.int 4 0, Value.ref 246, Value.int 123 0, Value.int 4 0, Value.ref 253] },
{ cls := Value.type "code", data := Data.fields #[Value.str (Str.ofString "Headers") 538, Value.str (Str.ofString "Headers") 539, Value.str (Str.ofString "/claim/cut.py") 540, Value.int 55 0, Value.int 0 0, Value.int 0 0, Value.int 0 0, Value.int 0 0, Value.ref 138, Value.bool false, Value.int 276 0, Value.ref 139, Value.none, Value.none, Value.none, Value.none, Value.int 541 0, Value.int 55 0, Value.str (Str.ofString "/claim/cut.py") 542] },
{ cls := Value.type "frame", slots := #[some (Value.ref 140), some (Value.ref 3), some (Value.ref 137), none, some (Value.str (Str.ofString "cpy313.wsgiref.headers") 430), none, some (Value.ref 0)] },
{ cls := Value.type "tuple", data := Data.seq #[Value.none] },
{ cls := Value.type "tuple", data := Data.seq #[] },
{ cls := Value.none, data := Data.fields #[] },
{ cls := Value.type "tuple", data := Data.seq #[Value.str (Str.ofString "self") 551, Value.str (Str.ofString "headers") 552, Value.str (Str.ofString "k") 553, Value.str (Str.ofString "v") 554] },
{ cls := Value.type "tuple", data := Data.seq #[] },
{ cls := Value.none, data := Data.func { name := Str.ofString "__init__", qualname := Str.ofString "Headers.__init__", params := fnP (Mine.stH 0), body := fnB (Mine.stH 0), scope := fnS (Mine.stH 0), globals := 0, closure := [], defaults := Value.none, kwdefaults := Value.none } },
{ cls := Value.type "code", data := Data.fields #[Value.str (Str.ofString "__init__") 548, Value.str (Str.ofString "Headers.__init__") 549, Value.str (Str.ofString "/claim/cut.py") 550, Value.int 57 0, Value.int 2 0, Value.int 0 0, Value.int 0 0, Value.int 3 0, Value.ref 143, Value.bool true, Value.int 276 0, Value.ref 144, Value.none, Value.ref 145, Value.ref 146, Value.ref 147, Value.int 555 0, Value.int 57 0, Value.str (Str.ofString "/claim/cut.py") 556] },
{ cls := Value.type "function", data := Data.func { name := Str.ofString "__init__", qualname := Str.ofString "Headers.__init__", params := fnP (Mine.stH 0), body := fnB (Mine.stH 0), scope := fnS (Mine.stH 0), globals := 3, closure := [], defaults := Value.ref 142, kwdefaults := Value.none, pyModule := Value.str (Str.ofString "cpy313.wsgiref.headers") 430, code := Value.ref 148 } },
{ cls := Value.type "tuple", data := Data.seq #[] },
{ cls := Value.none, data := Data.fields #[] },
{ cls := Value.type "tuple", data := Data.seq #[Value.str (Str.ofString "self") 561, Value.str (Str.ofString "value") 562, Value.str (Str.ofString "name") 563, Value.str (Str.ofString "regex") 564] },
{ cls := Value.type "tuple", data := Data.seq #[] },
{ cls := Value.none, data := Data.func { name := Str.ofString "_convert_string_type", qualname := Str.ofString "Headers._convert_string_type", params := fnP (Mine.stH 1), body := fnB (Mine.stH 1), scope := fnS (Mine.stH 1), globals := 0, closure := [], defaults := Value.none, kwdefaults := Value.none } },
{ cls := Value.type "code", data := Data.fields #[Value.str (Str.ofString "_convert_string_type") 558, Value.str (Str.ofString "Headers._convert_string_type") 559, Value.str (Str.ofString "/claim/cut.py") 560, Value.int 67 0, Value.int 2 0, Value.int 0 0, Value.int 1 0, Value.int 3 0, Value.ref 150, Value.bool true, Value.int 276 0, Value.ref 151, Value.none, Value.ref 152, Value.ref 153, Value.ref 154, Value.int 565 0, Value.int 67 0, Value.str (Str.ofString "/claim/cut.py") 566] },
{ cls := Value.type "function", data := Data.func { name := Str.ofString "_convert_string_type", qualname := Str.ofString "Headers._convert_string_type", params := fnP (Mine.stH 1), body := fnB (Mine.stH 1), scope := fnS (Mine.stH 1), globals := 3, closure := [], defaults := Value.none, kwdefaults := Value.none, pyModule := Value.str (Str.ofString "cpy313.wsgiref.headers") 430, code := Value.ref 155 } },
{ cls := Value.type "tuple", data := Data.seq #[] },
{ cls := Value.none, data := Data.fields #[] },
{ cls := Value.type "tuple", data := Data.seq #[Value.str (Str.ofString "self") 571] },
{ cls := Value.type "tuple", data := Data.seq #[] },
{ cls := Value.none, data := Data.func { name := Str.ofString "__len__", qualname := Str.ofString "Headers.__len__", params := fnP (Mine.stH 2), body := fnB (Mine.stH 2), scope := fnS (Mine.stH 2), globals := 0, closure := [], defaults := Value.none, kwdefaults := Value.none } },
{ cls := Value.type "code", data := Data.fields #[Value.str (Str.ofString "__len__") 568, Value.str (Str.ofString "Headers.__len__") 569, Value.str (Str.ofString "/claim/cut.py") 570, Value.int 75 0, Value.int 1 0, Value.int 0 0, Value.int 0 0, Value.int 3 0, Value.ref 157, Value.bool true, Value.int 276 0, Value.ref 158, Value.none, Value.ref 159, Value.ref 160, Value.ref 161, Value.int 572 0, Value.int 75 0, Value.str (Str.ofString "/claim/cut.py") 573] },
{ cls := Value.type "function", data := Data.func { name := Str.ofString "__len__", qualname := Str.ofString "Headers.__len__", params := fnP (Mine.stH 2), body := fnB (Mine.stH 2), scope := fnS (Mine.stH 2), globals := 3, closure := [], defaults := Value.none, kwdefaults := Value.none, pyModule := Value.str (Str.ofString "cpy313.wsgiref.headers") 430, code := Value.ref 162 } },
{ cls := Value.type "tuple", data := Data.seq #[] },
{ cls := Value.none, data := Data.fields #[] },
{ cls := Value.type "tuple", data := Data.seq #[Value.str (Str.ofString "self") 578, Value.str (Str.ofString "name") 579, Value.str (Str.ofString "val") 580] },
{ cls := Value.type "tuple", data := Data.seq #[] },
{ cls := Value.none, data := Data.func { name := Str.ofString "__setitem__", qualname := Str.ofString "Headers.__setitem__", params := fnP (Mine.stH 3), body := fnB (Mine.stH 3), scope := fnS (Mine.stH 3), globals := 0, closure := [], defaults := Value.none, kwdefaults := Value.none } },
{ cls := Value.type "code", data := Data.fields #[Value.str (Str.ofString "__setitem__") 575, Value.str (Str.ofString "Headers.__setitem__") 576, Value.str (Str.ofString "/claim/cut.py") 577, Value.int 78 0, Value.int 3 0, Value.int 0 0, Value.int 0 0, Value.int 3 0, Value.ref 164, Value.bool true, Value.int 276 0, Value.ref 165, Value.none, Value.ref 166, Value.ref 167, Value.ref 168, Value.int 581 0, Value.int 78 0, Value.str (Str.ofString "/claim/cut.py") 582] },
{ cls := Value.type "function", data := Data.func { name := Str.ofString "__setitem__", qualname := Str.ofString "Headers.__setitem__", params := fnP (Mine.stH 3), body := fnB (Mine.stH 3), scope := fnS (Mine.stH 3), globals := 3, closure := [], defaults := Value.none, kwdefaults := Value.none, pyModule := Value.str (Str.ofString "cpy313.wsgiref.headers") 430, code := Value.ref 169 } },
{ cls := Value.type "tuple", data := Data.seq #[] },
{ cls := Value.none, data := Data.fields #[] },
{ cls := Value.none, data := Data.func { name := Str.ofString "__delitem__", qualname := Str.ofString "Headers.__delitem__", params := fnP (Mine.stH 4), body := fnB (Mine.stH 4), scope := fnS (Mine.stH 4), globals := 0, closure := [], defaults := Value.none, kwdefaults := Value.none } },
{ cls := Value.type "code", data := Data.fields #[Value.str (Str.ofString "__delitem__") 584, Value.str (Str.ofString "Headers.__delitem__") 585, Value.str (Str.ofString "/claim/cut.py") 586, Value.int 82 0, Value.int 2 0, Value.int 0 0, Value.int 0 0, Value.int 3 0, Value.ref 171, Value.bool true, Value.int 276 0, Value.ref 172, Value.none, Value.none, Value.none, Value.ref 173, Value.int 587 0, Value.int 82 0, Value.str (Str.ofString "/claim/cut.py") 588] },
{ cls := Value.type "function", data := Data.func { name := Str.ofString "__delitem__", qualname := Str.ofString "Headers.__delitem__", params := fnP (Mine.stH 4), body := fnB (Mine.stH 4), scope := fnS (Mine.stH 4), globals := 3, closure := [], defaults := Value.none, kwdefaults := Value.none, pyModule := Value.str (Str.ofString "cpy313.wsgiref.headers") 430, code := Value.ref 174 } },
{ cls := Value.type "tuple", data := Data.seq #[] },
{ cls := Value.none, data := Data.fields #[] },
{ cls := Value.type "tuple", data := Data.seq #[Value.str (Str.ofString "self") 593, Value.str (Str.ofString "name") 594] },
{ cls := Value.type "tuple", data := Data.seq #[] },
{ cls := Value.none, data := Data.func { name := Str.ofString "__getitem__", qualname := Str.ofString "Headers.__getitem__", params := fnP (Mine.stH 5), body := fnB (Mine.stH 5), scope := fnS (Mine.stH 6), globals := 0, closure := [], defaults := Value.none, kwdefaults := Value.none } },
{ cls := Value.type "code", data := Data.fields #[Value.str (Str.ofString "__getitem__") 590, Value.str (Str.ofString "Headers.__getitem__") 591, Value.str (Str.ofString "/claim/cut.py") 592, Value.int 86 0, Value.int 2 0, Value.int 0 0, Value.int 0 0, Value.int 3 0, Value.ref 176, Value.bool true, Value.int 276 0, Value.ref 177, Value.none, Value.ref 178, Value.ref 179, Value.ref 180, Value.int 595 0, Value.int 86 0, Value.str (Str.ofString "/claim/cut.py") 596] },
{ cls := Value.type "function", data := Data.func { name := Str.ofString "__getitem__", qualname := Str.ofString "Headers.__getitem__", params := fnP (Mine.stH 5), body := fnB (Mine.stH 5), scope := fnS (Mine.stH 6), globals := 3, closure := [], defaults := Value.none, kwdefaults := Value.none, pyModule := Value.str (Str.ofString "cpy313.wsgiref.headers") 430, code := Value.ref 181 } },
{ cls := Value.type "tuple", data := Data.seq #[] },
{ cls := Value.none, data := Data.fields #[] },
{ cls := Value.type "tuple", data := Data.seq #[Value.str (Str.ofString "self") 601, Value.str (Str.ofString "name") 602] },
{ cls := Value.type "tuple", data := Data.seq #[] },
{ cls := Value.none, data := Data.func { name := Str.ofString "__contains__", qualname := Str.ofString "Headers.__contains__", params := fnP (Mine.stH 6), body := fnB (Mine.stH 6), scope := fnS (Mine.stH 6), globals := 0, closure := [], defaults := Value.none, kwdefaults := Value.none } },
{ cls := Value.type "code", data := Data.fields #[Value.str (Str.ofString "__contains__") 598, Value.str (Str.ofString "Headers.__contains__") 599, Value.str (Str.ofString "/claim/cut.py") 600, Value.int 89 0, Value.int 2 0, Value.int 0 0, Value.int 0 0, Value.int 3 0, Value.ref 183, Value.bool true, Value.int 276 0, Value.ref 184, Value.none, Value.ref 185, Value.ref 186, Value.ref 187, Value.int 603 0, Value.int 89 0, Value.str (Str.ofString "/claim/cut.py") 604] },
{ cls := Value.type "function", data := Data.func { name := Str.ofString "__contains__", qualname := Str.ofString "Headers.__contains__", params := fnP (Mine.stH 6), body := fnB (Mine.stH 6), scope := fnS (Mine.stH 6), globals := 3, closure := [], defaults := Value.none, kwdefaults := Value.none, pyModule := Value.str (Str.ofString "cpy313.wsgiref.headers") 430, code := Value.ref 188 } },
{ cls := Value.type "tuple", data := Data.seq #[] },
{ cls := Value.none, data := Data.fields #[] },
{ cls := Value.type "tuple", data := Data.seq #[Value.str (Str.ofString "self") 609, Value.str (Str.ofString "name") 610] },
{ cls := Value.type "tuple", data := Data.seq #[] },
{ cls := Value.none, data := Data.func { name := Str.ofString "get_all", qualname := Str.ofString "Headers.get_all", params := fnP (Mine.stH 7), body := fnB (Mine.stH 7), scope := fnS (Mine.stH 7), globals := 0, closure := [], defaults := Value.none, kwdefaults := Value.none } },
{ cls := Value.type "code", data := Data.fields #[Value.str (Str.ofString "get_all") 606, Value.str (Str.ofString "Headers.get_all") 607, Value.str (Str.ofString "/claim/cut.py") 608, Value.int 92 0, Value.int 2 0, Value.int 0 0, Value.int 0 0, Value.int 3 0, Value.ref 190, Value.bool true, Value.int 276 0, Value.ref 191, Value.none, Value.ref 192, Value.ref 193, Value.ref 194, Value.int 611 0, Value.int 92 0, Value.str (Str.ofString "/claim/cut.py") 612] },
{ cls := Value.type "function", data := Data.func { name := Str.ofString "get_all", qualname := Str.ofString "Headers.get_all", params := fnP (Mine.stH 7), body := fnB (Mine.stH 7), scope := fnS (Mine.stH 7), globals := 3, closure := [], defaults := Value.none, kwdefaults := Value.none, pyModule := Value.str (Str.ofString "cpy313.wsgiref.headers") 430, code := Value.ref 195 } },
{ cls := Value.type "tuple", data := Data.seq #[Value.none] },
{ cls := Value.type "tuple", data := Data.seq #[] },
{ cls := Value.none, data := Data.fields #[] },
{ cls := Value.type "tuple", data := Data.seq #[Value.str (Str.ofString "self") 617, Value.str (Str.ofString "name") 618, Value.str (Str.ofString "default") 619, Value.str (Str.ofString "k") 620, Value.str (Str.ofString "v") 621] },
{ cls := Value.type "tuple", data := Data.seq #[] },
{ cls := Value.none, data := Data.func { name := Str.ofString "get", qualname := Str.ofString "Headers.get", params := fnP (Mine.stH 8), body := fnB (Mine.stH 8), scope := fnS (Mine.stH 8), globals := 0, closure := [], defaults := Value.none, kwdefaults := Value.none } },
{ cls := Value.type "code", data := Data.fields #[Value.str (Str.ofString "get") 614, Value.str (Str.ofString "Headers.get") 615, Value.str (Str.ofString "/claim/cut.py") 616, Value.int 95 0, Value.int 3 0, Value.int 0 0, Value.int 0 0, Value.int 3 0, Value.ref 198, Value.bool true, Value.int 276 0, Value.ref 199, Value.none, Value.ref 200, Value.ref 201, Value.ref 202, Value.int 622 0, Value.int 95 0, Value.str (Str.ofString "/claim/cut.py") 623] },
{ cls := Value.type "function", data := Data.func { name := Str.ofString "get", qualname := Str.ofString "Headers.get", params := fnP (Mine.stH 8), body := fnB (Mine.stH 8), scope := fnS (Mine.stH 8), globals := 3, closure := [], defaults := Value.ref 197, kwdefaults := Value.none, pyModule := Value.str (Str.ofString "cpy313.wsgiref.headers") 430, code := Value.ref 203 } },
{ cls := Value.type "tuple", data := Data.seq #[] },
{ cls := Value.none, data := Data.fields #[] },
{ cls := Value.none, data := Data.func { name := Str.ofString "keys", qualname := Str.ofString "Headers.keys", params := fnP (Mine.stH 9), body := fnB (Mine.stH 9), scope := fnS (Mine.stH 10), globals := 0, closure := [], defaults := Value.none, kwdefaults := Value.none } },
{ cls := Value.type "code", data := Data.fields #[Value.str (Str.ofString "keys") 625, Value.str (Str.ofString "Headers.keys") 626, Value.str (Str.ofString "/claim/cut.py") 627, Value.int 102 0, Value.int 1 0, Value.int 0 0, Value.int 0 0, Value.int 3 0, Value.ref 205, Value.bool true, Value.int 276 0, Value.ref 206, Value.none, Value.none, Value.none, Value.ref 207, Value.int 628 0, Value.int 102 0, Value.str (Str.ofString "/claim/cut.py") 629] },
{ cls := Value.type "function", data := Data.func { name := Str.ofString "keys", qualname := Str.ofString "Headers.keys", params := fnP (Mine.stH 9), body := fnB (Mine.stH 9), scope := fnS (Mine.stH 10), globals := 3, closure := [], defaults := Value.none, kwdefaults := Value.none, pyModule := Value.str (Str.ofString "cpy313.wsgiref.headers") 430, code := Value.ref 208 } },
{ cls := Value.type "tuple", data := Data.seq #[] },
{ cls := Value.none, data := Data.fields #[] },
{ cls := Value.none, data := Data.func { name := Str.ofString "values", qualname := Str.ofString "Headers.values", params := fnP (Mine.stH 10), body := fnB (Mine.stH 10), scope := fnS (Mine.stH 10), globals := 0, closure := [], defaults := Value.none, kwdefaults := Value.none } },
{ cls := Value.type "code", data := Data.fields #[Value.str (Str.ofString "values") 631, Value.str (Str.ofString "Headers.values") 632, Value.str (Str.ofString "/claim/cut.py") 633, Value.int 105 0, Value.int 1 0, Value.int 0 0, Value.int 0 0, Value.int 3 0, Value.ref 210, Value.bool true, Value.int 276 0, Value.ref 211, Value.none, Value.none, Value.none, Value.ref 212, Value.int 634 0, Value.int 105 0, Value.str (Str.ofString "/claim/cut.py") 635] },
{ cls := Value.type "function", data := Data.func { name := Str.ofString "values", qualname := Str.ofString "Headers.values", params := fnP (Mine.stH 10), body := fnB (Mine.stH 10), scope := fnS (Mine.stH 10), globals := 3, closure := [], defaults := Value.none, kwdefaults := Value.none, pyModule := Value.str (Str.ofString "cpy313.wsgiref.headers") 430, code := Value.ref 213 } },
{ cls := Value.type "tuple", data := Data.seq #[] },
{ cls := Value.none, data := Data.fields #[] },
{ cls := Value.type "tuple", data := Data.seq #[Value.str (Str.ofString "self") 640] },
{ cls := Value.type "tuple", data := Data.seq #[] },
{ cls := Value.none, data := Data.func { name := Str.ofString "items", qualname := Str.ofString "Headers.items", params := fnP (Mine.stH 11), body := fnB (Mine.stH 11), scope := fnS (Mine.stH 12), globals := 0, closure := [], defaults := Value.none, kwdefaults := Value.none } },
{ cls := Value.type "code", data := Data.fields #[Value.str (Str.ofString "items") 637, Value.str (Str.ofString "Headers.items") 638, Value.str (Str.ofString "/claim/cut.py") 639, Value.int 108 0, Value.int 1 0, Value.int 0 0, Value.int 0 0, Value.int 3 0, Value.ref 215, Value.bool true, Value.int 276 0, Value.ref 216, Value.none, Value.ref 217, Value.ref 218, Value.ref 219, Value.int 641 0, Value.int 108 0, Value.str (Str.ofString "/claim/cut.py") 642] },
{ cls := Value.type "function", data := Data.func { name := Str.ofString "items", qualname := Str.ofString "Headers.items", params := fnP (Mine.stH 11), body := fnB (Mine.stH 11), scope := fnS (Mine.stH 12), globals := 3, closure := [], defaults := Value.none, kwdefaults := Value.none, pyModule := Value.str (Str.ofString "cpy313.wsgiref.headers") 430, code := Value.ref 220 } },
{ cls := Value.type "tuple", data := Data.seq #[] },
{ cls := Value.none, data := Data.fields #[] },
{ cls := Value.type "tuple", data := Data.seq #[Value.str (Str.ofString "self") 647] },
{ cls := Value.type "tuple", data := Data.seq #[] },
{ cls := Value.none, data := Data.func { name := Str.ofString "__repr__", qualname := Str.ofString "Headers.__repr__", params := fnP (Mine.stH 12), body := fnB (Mine.stH 12), scope := fnS (Mine.stH 12), globals := 0, closure := [], defaults := Value.none, kwdefaults := Value.none } },
{ cls := Value.type "code", data := Data.fields #[Value.str (Str.ofString "__repr__") 644, Value.str (Str.ofString "Headers.__repr__") 645, Value.str (Str.ofString "/claim/cut.py") 646, Value.int 111 0, Value.int 1 0, Value.int 0 0, Value.int 0 0, Value.int 3 0, Value.ref 222, Value.bool true, Value.int 276 0, Value.ref 223, Value.none, Value.ref 224, Value.ref 225, Value.ref 226, Value.int 648 0, Value.int 111 0, Value.str (Str.ofString "/claim/cut.py") 649] },
{ cls := Value.type "function", data := Data.func { name := Str.ofString "__repr__", qualname := Str.ofString "Headers.__repr__", params := fnP (Mine.stH 12), body := fnB (Mine.stH 12), scope := fnS (Mine.stH 12), globals := 3, closure := [], defaults := Value.none, kwdefaults := Value.none, pyModule := Value.str (Str.ofString "cpy313.wsgiref.headers") 430, code := Value.ref 227 } },
{ cls := Value.type "tuple", data := Data.seq #[] },
{ cls := Value.none, data := Data.fields #[] },
{ cls := Value.none, data := Data.func { name := Str.ofString "__str__", qualname := Str.ofString "Headers.__str__", params := fnP (Mine.stH 13), body := fnB (Mine.stH 13), scope := fnS (Mine.stH 13), globals := 0, closure := [], defaults := Value.none, kwdefaults := Value.none } },
{ cls := Value.type "code", data := Data.fields #[Value.str (Str.ofString "__str__") 651, Value.str (Str.ofString "Headers.__str__") 652, Value.str (Str.ofString "/claim/cut.py") 653, Value.int 114 0, Value.int 1 0, Value.int 0 0, Value.int 0 0, Value.int 3 0, Value.ref 229, Value.bool true, Value.int 276 0, Value.ref 230, Value.none, Value.none, Value.none, Value.ref 231, Value.int 654 0, Value.int 114 0, Value.str (Str.ofString "/claim/cut.py") 655] },
{ cls := Value.type "function", data := Data.func { name := Str.ofString "__str__", qualname := Str.ofString "Headers.__str__", params := fnP (Mine.stH 13), body := fnB (Mine.stH 13), scope := fnS (Mine.stH 13), globals := 3, closure := [], defaults := Value.none, kwdefaults := Value.none, pyModule := Value.str (Str.ofString "cpy313.wsgiref.headers") 430, code := Value.ref 232 } },
{ cls := Value.type "tuple", data := Data.seq #[] },
{ cls := Value.none, data := Data.fields #[] },
{ cls := Value.type "tuple", data := Data.seq #[Value.str (Str.ofString "self") 660] },
{ cls := Value.type "tuple", data := Data.seq #[] },
{ cls := Value.none, data := Data.func { name := Str.ofString "__bytes__", qualname := Str.ofString "Headers.__bytes__", params := fnP (Mine.stH 14), body := fnB (Mine.stH 14), scope := fnS (Mine.stH 14), globals := 0, closure := [], defaults := Value.none, kwdefaults := Value.none } },
{ cls := Value.type "code", data := Data.fields #[Value.str (Str.ofString "__bytes__") 657, Value.str (Str.ofString "Headers.__bytes__") 658, Value.str (Str.ofString "/claim/cut.py") 659, Value.int 117 0, Value.int 1 0, Value.int 0 0, Value.int 0 0, Value.int 3 0, Value.ref 234, Value.bool true, Value.int 276 0, Value.ref 235, Value.none, Value.ref 236, Value.ref 237, Value.ref 238, Value.int 661 0, Value.int 117 0, Value.str (Str.ofString "/claim/cut.py") 662] },
{ cls := Value.type "function", data := Data.func { name := Str.ofString "__bytes__", qualname := Str.ofString "Headers.__bytes__", params := fnP (Mine.stH 14), body := fnB (Mine.stH 14), scope := fnS (Mine.stH 14), globals := 3, closure := [], defaults := Value.none, kwdefaults := Value.none, pyModule := Value.str (Str.ofString "cpy313.wsgiref.headers") 430, code := Value.ref 239 } },
{ cls := Value.type "tuple", data := Data.seq #[] },
{ cls := Value.none, data := Data.fields #[] },
{ cls := Value.type "tuple", data := Data.seq #[Value.str (Str.ofString "self") 667, Value.str (Str.ofString "name") 668, Value.str (Str.ofString "value") 669] },
{ cls := Value.type "tuple", data := Data.seq #[] },
{ cls := Value.none, data := Data.func { name := Str.ofString "setdefault", qualname := Str.ofString "Headers.setdefault", params := fnP (Mine.stH 15), body := fnB (Mine.stH 15), scope := fnS (Mine.stH 15), globals := 0, closure := [], defaults := Value.none, kwdefaults := Value.none } },
{ cls := Value.type "code", data := Data.fields #[Value.str (Str.ofString "setdefault") 664, Value.str (Str.ofString "Headers.setdefault") 665, Value.str (Str.ofString "/claim/cut.py") 666, Value.int 120 0, Value.int 3 0, Value.int 0 0, Value.int 0 0, Value.int 3 0, Value.ref 241, Value.bool true, Value.int 276 0, Value.ref 242, Value.none, Value.ref 243, Value.ref 244, Value.ref 245, Value.int 670 0, Value.int 120 0, Value.str (Str.ofString "/claim/cut.py") 671] },
{ cls := Value.type "function", data := Data.func { name := Str.ofString "setdefault", qualname := Str.ofString "Headers.setdefault", params := fnP (Mine.stH 15), body := fnB (Mine.stH 15), scope := fnS (Mine.stH 15), globals := 3, closure := [], defaults := Value.none, kwdefaults := Value.none, pyModule := Value.str (Str.ofString "cpy313.wsgiref.headers") 430, code := Value.ref 246 } },
{ cls := Value.type "tuple", data := Data.seq #[] },
{ cls := Value.none, data := Data.fields #[] },
{ cls := Value.type "tuple", data := Data.seq #[Value.str (Str.ofString "self") 676, Value.str (Str.ofString "_name") 677, Value.str (Str.ofString "_value") 678, Value.str (Str.ofString "_params") 679, Value.str (Str.ofString "parts") 680, Value.str (Str.ofString "k") 681, Value.str (Str.ofString "v") 682] },
{ cls := Value.type "tuple", data := Data.seq #[] },
{ cls := Value.none, data := Data.func { name := Str.ofString "add_header", qualname := Str.ofString "Headers.add_header", params := fnP (Mine.stH 16), body := fnB (Mine.stH 16), scope := fnS (Mine.stH 16), globals := 0, closure := [], defaults := Value.none, kwdefaults := Value.none } },
{ cls := Value.type "code", data := Data.fields #[Value.str (Str.ofString "add_header") 673, Value.str (Str.ofString "Headers.add_header") 674, Value.str (Str.ofString "/claim/cut.py") 675, Value.int 123 0, Value.int 3 0, Value.int 0 0, Value.int 0 0, Value.int 11 0, Value.ref 248, Value.bool true, Value.int 276 0, Value.ref 249, Value.none, Value.ref 250, Value.ref 251, Value.ref 252, Value.int 683 0, Value.int 123 0, Value.str (Str.ofString "/claim/cut.py") 684] },
{ cls := Value.type "function", data := Data.func { name := Str.ofString "add_header", qualname := Str.ofString "Headers.add_header", params := fnP (Mine.stH 16), body := fnB (Mine.stH 16), scope := fnS (Mine.stH 16), globals := 3, closure := [], defaults := Value.none, kwdefaults := Value.none, pyModule := Value.str (Str.ofString "cpy313.wsgiref.headers") 430, code := Value.ref 253 } },
{ cls := Value.type "tuple", data := Data.seq #[Value.str (Str.ofString "_headers") 686] },
{ cls := Value.type "dict", data := Data.dict #[{ hash := PyData.keyHash P (Str.ofString "__module__"), key := Value.str (Str.ofString "__module__") 543, val := Value.str (Str.ofString "cpy313.wsgiref.headers") 430 }, { hash := PyData.keyHash P (Str.ofString "__firstlineno__"), key := Value.str (Str.ofString "__firstlineno__") 547, val := Value.int 55 546 }, { hash := PyData.keyHash P (Str.ofString "__init__"), key := Value.str (Str.ofString "__init__") 557, val := Value.ref 149 }, { hash := PyData.keyHash P (Str.ofString "_convert_string_type"), key := Value.str (Str.ofString "_convert_string_type") 567, val := Value.ref 156 }, { hash := PyData.keyHash P (Str.ofString "__len__"), key := Value.str (Str.ofString "__len__") 574, val := Value.ref 163 }, { hash := PyData.keyHash P (Str.ofString "__setitem__"), key := Value.str (Str.ofString "__setitem__") 583, val := Value.ref 170 }, { hash := PyData.keyHash P (Str.ofString "__delitem__"), key := Value.str (Str.ofString "__delitem__") 589, val := Value.ref 175 }, { hash := PyData.keyHash P (Str.ofString "__getitem__"), key := Value.str (Str.ofString "__getitem__") 597, val := Value.ref 182 }, { hash := PyData.keyHash P (Str.ofString "__contains__"), key := Value.str (Str.ofString "__contains__") 605, val := Value.ref 189 }, { hash := PyData.keyHash P (Str.ofString "get_all"), key := Value.str (Str.ofString "get_all") 613, val := Value.ref 196 }, { hash := PyData.keyHash P (Str.ofString "get"), key := Value.str (Str.ofString "get") 624, val := Value.ref 204 }, { hash := PyData.keyHash P (Str.ofString "keys"), key := Value.str (Str.ofString "keys") 630, val := Value.ref 209 }, { hash := PyData.keyHash P (Str.ofString "values"), key := Value.str (Str.ofString "values") 636, val := Value.ref 214 }, { hash := PyData.keyHash P (Str.ofString "items"), key := Value.str (Str.ofString "items") 643, val := Value.ref 221 }, { hash := PyData.keyHash P (Str.ofString "__repr__"), key := Value.str (Str.ofString "__repr__") 650, val := Value.ref 228 }, { hash := PyData.keyHash P (Str.ofString "__str__"), key := Value.str (Str.ofString "__str__") 656, val := Value.ref 233 }, { hash := PyData.keyHash P (Str.ofString "__bytes__"), key := Value.str (Str.ofString "__bytes__") 663, val := Value.ref 240 }, { hash := PyData.keyHash P (Str.ofString "setdefault"), key := Value.str (Str.ofString "setdefault") 672, val := Value.ref 247 }, { hash := PyData.keyHash P (Str.ofString "add_header"), key := Value.str (Str.ofString "add_header") 685, val := Value.ref 254 }, { hash := PyData.keyHash P (Str.ofString "__static_attributes__"), key := Value.str (Str.ofString "__static_attributes__") 687, val := Value.ref 255 }, { hash := PyData.keyHash P (Str.ofString "__dict__"), key := Value.str (Str.ofString "__dict__") 689, val := Value.ref 258 }, { hash := PyData.keyHash P (Str.ofString "__weakref__"), key := Value.str (Str.ofString "__weakref__") 691, val := Value.ref 259 }, { hash := PyData.keyHash P (Str.ofString "__doc__"), key := Value.str (Str.ofString "__doc__") 692, val := Value.none }] 4 },
{ cls := Value.type "type", data := Data.cls { name := Str.ofString "Headers", bases := [Value.type "object"], mro := [Value.ref 257, Value.type "object"], ns := 256, qualname := Str.ofString "Headers" }, slots := #[none, none, some (Value.str (Str.ofString "Headers") 536), some (Value.str (Str.ofString "Headers") 544), some (Value.builtin "object.__new__"), some (Value.bool true)] },
{ cls := Value.type "getset_descriptor", data := Data.fields #[Value.str (Str.ofString "__dict__") 688, Value.ref 257, Value.builtin "function.__dict__", Value.builtin "function.__dict__#set"] },
{ cls := Value.type "getset_descriptor", data := Data.fields #[Value.str (Str.ofString "__weakref__") 690, Value.ref 257, Value.builtin "ExceptionGroup.__weakref__", Value.none] },
{ cls := Value.type "super", data := Data.fields #[Value.ref 257, Value.ref 257, Value.ref 257] },
{ cls := Value.type "builtin_function_or_method", data := Data.fields #[Value.builtin "object.__init_subclass__", Value.ref 257] },
{ cls := Value.type "tuple", data := Data.seq #[] },
{ cls := Value.none, data := Data.fields #[] },
{ cls := Value.none, data := Data.func { name := Str.ofString "_law_names", qualname := Str.ofString "_law_names", params := fnP (Mine.stM 24), body := fnB (Mine.stM 24), scope := fnS (Mine.stM 24), globals := 0, closure := [], defaults := Value.none, kwdefaults := Value.none } },
{ cls := Value.type "code", data := Data.fields #[Value.str (Str.ofString "_law_names") 697, Value.str (Str.ofString "_law_names") 698, Value.str (Str.ofString "/claim/cut.py") 699, Value.int 137 0, Value.int 0 0, Value.int 0 0, Value.int 0 0, Value.int 3 0, Value.ref 262, Value.bool true, Value.int 276 0, Value.ref 263, Value.none, Value.none, Value.none, Value.ref 264, Value.int 700 0, Value.int 137 0, Value.str (Str.ofString "/claim/cut.py") 701] },
{ cls := Value.type "function", data := Data.func { name := Str.ofString "_law_names", qualname := Str.ofString "_law_names", params := fnP (Mine.stM 24), body := fnB (Mine.stM 24), scope := fnS (Mine.stM 24), globals := 3, closure := [], defaults := Value.none, kwdefaults := Value.none, pyModule := Value.str (Str.ofString "law_tp0036_01") 695, code := Value.ref 265 } },
{ cls := Value.type "tuple", data := Data.seq #[] },
{ cls := Value.none, data := Data.fields #[] },
{ cls := Value.type "tuple", data := Data.seq #[Value.str (Str.ofString "cells") 706, Value.str (Str.ofString "names") 707, Value.str (Str.ofString "left") 708, Value.str (Str.ofString "drawn") 709, Value.str (Str.ofString "cell") 710, Value.str (Str.ofString "place") 711] },
{ cls := Value.type "tuple", data := Data.seq #[] },
{ cls := Value.none, data := Data.func { name := Str.ofString "_law_drawn", qualname := Str.ofString "_law_drawn", params := fnP (Mine.stM 25), body := fnB (Mine.stM 25), scope := fnS (Mine.stM 25), globals := 0, closure := [], defaults := Value.none, kwdefaults := Value.none } },
{ cls := Value.type "code", data := Data.fields #[Value.str (Str.ofString "_law_drawn") 703, Value.str (Str.ofString "_law_drawn") 704, Value.str (Str.ofString "/claim/cut.py") 705, Value.int 140 0, Value.int 2 0, Value.int 0 0, Value.int 0 0, Value.int 3 0, Value.ref 267, Value.bool true, Value.int 276 0, Value.ref 268, Value.none, Value.ref 269, Value.ref 270, Value.ref 271, Value.int 712 0, Value.int 140 0, Value.str (Str.ofString "/claim/cut.py") 713] },
{ cls := Value.type "function", data := Data.func { name := Str.ofString "_law_drawn", qualname := Str.ofString "_law_drawn", params := fnP (Mine.stM 25), body := fnB (Mine.stM 25), scope := fnS (Mine.stM 25), globals := 3, closure := [], defaults := Value.none, kwdefaults := Value.none, pyModule := Value.str (Str.ofString "law_tp0036_01") 695, code := Value.ref 272 } },
{ cls := Value.type "tuple", data := Data.seq #[] },
{ cls := Value.none, data := Data.fields #[] },
{ cls := Value.none, data := Data.func { name := Str.ofString "_law_rank", qualname := Str.ofString "_law_rank", params := fnP (Mine.stM 26), body := fnB (Mine.stM 26), scope := fnS (Mine.stM 26), globals := 0, closure := [], defaults := Value.none, kwdefaults := Value.none } },
{ cls := Value.type "code", data := Data.fields #[Value.str (Str.ofString "_law_rank") 715, Value.str (Str.ofString "_law_rank") 716, Value.str (Str.ofString "/claim/cut.py") 717, Value.int 147 0, Value.int 3 0, Value.int 0 0, Value.int 0 0, Value.int 3 0, Value.ref 274, Value.bool true, Value.int 276 0, Value.ref 275, Value.none, Value.none, Value.none, Value.ref 276, Value.int 718 0, Value.int 147 0, Value.str (Str.ofString "/claim/cut.py") 719] },
{ cls := Value.type "function", data := Data.func { name := Str.ofString "_law_rank", qualname := Str.ofString "_law_rank", params := fnP (Mine.stM 26), body := fnB (Mine.stM 26), scope := fnS (Mine.stM 26), globals := 3, closure := [], defaults := Value.none, kwdefaults := Value.none, pyModule := Value.str (Str.ofString "law_tp0036_01") 695, code := Value.ref 277 } },
{ cls := Value.type "tuple", data := Data.seq #[] },
{ cls := Value.none, data := Data.fields #[] },
{ cls := Value.none, data := Data.func { name := Str.ofString "_law_shown", qualname := Str.ofString "_law_shown", params := fnP (Mine.stM 27), body := fnB (Mine.stM 27), scope := fnS (Mine.stM 27), globals := 0, closure := [], defaults := Value.none, kwdefaults := Value.none } },
{ cls := Value.type "code", data := Data.fields #[Value.str (Str.ofString "_law_shown") 721, Value.str (Str.ofString "_law_shown") 722, Value.str (Str.ofString "/claim/cut.py") 723, Value.int 149 0, Value.int 2 0, Value.int 0 0, Value.int 0 0, Value.int 3 0, Value.ref 279, Value.bool true, Value.int 276 0, Value.ref 280, Value.none, Value.none, Value.none, Value.ref 281, Value.int 724 0, Value.int 149 0, Value.str (Str.ofString "/claim/cut.py") 725] },
{ cls := Value.type "function", data := Data.func { name := Str.ofString "_law_shown", qualname := Str.ofString "_law_shown", params := fnP (Mine.stM 27), body := fnB (Mine.stM 27), scope := fnS (Mine.stM 27), globals := 3, closure := [], defaults := Value.none, kwdefaults := Value.none, pyModule := Value.str (Str.ofString "law_tp0036_01") 695, code := Value.ref 282 } },
{ cls := Value.type "tuple", data := Data.seq #[] },
{ cls := Value.none, data := Data.fields #[] },
{ cls := Value.none, data := Data.func { name := Str.ofString "_law_mailed", qualname := Str.ofString "_law_mailed", params := fnP (Mine.stM 28), body := fnB (Mine.stM 28), scope := fnS (Mine.stM 28), globals := 0, closure := [], defaults := Value.none, kwdefaults := Value.none } },
{ cls := Value.type "code", data := Data.fields #[Value.str (Str.ofString "_law_mailed") 727, Value.str (Str.ofString "_law_mailed") 728, Value.str (Str.ofString "/claim/cut.py") 729, Value.int 160 0, Value.int 3 0, Value.int 0 0, Value.int 0 0, Value.int 3 0, Value.ref 284, Value.bool true, Value.int 276 0, Value.ref 285, Value.none, Value.none, Value.none, Value.ref 286, Value.int 730 0, Value.int 160 0, Value.str (Str.ofString "/claim/cut.py") 731] },
{ cls := Value.type "function", data := Data.func { name := Str.ofString "_law_mailed", qualname := Str.ofString "_law_mailed", params := fnP (Mine.stM 28), body := fnB (Mine.stM 28), scope := fnS (Mine.stM 28), globals := 3, closure := [], defaults := Value.none, kwdefaults := Value.none, pyModule := Value.str (Str.ofString "law_tp0036_01") 695, code := Value.ref 287 } },
{ cls := Value.type "tuple", data := Data.seq #[] },
{ cls := Value.none, data := Data.fields #[] },
{ cls := Value.none, data := Data.func { name := Str.ofString "_law_told", qualname := Str.ofString "_law_told", params := fnP (Mine.stM 29), body := fnB (Mine.stM 29), scope := fnS (Mine.stM 29), globals := 0, closure := [], defaults := Value.none, kwdefaults := Value.none } },
{ cls := Value.type "code", data := Data.fields #[Value.str (Str.ofString "_law_told") 733, Value.str (Str.ofString "_law_told") 734, Value.str (Str.ofString "/claim/cut.py") 735, Value.int 168 0, Value.int 3 0, Value.int 0 0, Value.int 0 0, Value.int 3 0, Value.ref 289, Value.bool true, Value.int 276 0, Value.ref 290, Value.none, Value.none, Value.none, Value.ref 291, Value.int 736 0, Value.int 168 0, Value.str (Str.ofString "/claim/cut.py") 737] },
{ cls := Value.type "function", data := Data.func { name := Str.ofString "_law_told", qualname := Str.ofString "_law_told", params := fnP (Mine.stM 29), body := fnB (Mine.stM 29), scope := fnS (Mine.stM 29), globals := 3, closure := [], defaults := Value.none, kwdefaults := Value.none, pyModule := Value.str (Str.ofString "law_tp0036_01") 695, code := Value.ref 292 } },
{ cls := Value.type "tuple", data := Data.seq #[] },
{ cls := Value.none, data := Data.fields #[] },
{ cls := Value.none, data := Data.func { name := Str.ofString "law", qualname := Str.ofString "law", params := fnP (Mine.stM 30), body := fnB (Mine.stM 30), scope := fnS (Mine.stM 30), globals := 0, closure := [], defaults := Value.none, kwdefaults := Value.none } },
{ cls := Value.type "code", data := Data.fields #[Value.str (Str.ofString "law") 739, Value.str (Str.ofString "law") 740, Value.str (Str.ofString "/claim/cut.py") 741, Value.int 178 0, Value.int 1 0, Value.int 0 0, Value.int 0 0, Value.int 3 0, Value.ref 294, Value.bool true, Value.int 276 0, Value.ref 295, Value.none, Value.none, Value.none, Value.ref 296, Value.int 742 0, Value.int 178 0, Value.str (Str.ofString "/claim/cut.py") 743] },
{ cls := Value.type "function", data := Data.func { name := Str.ofString "law", qualname := Str.ofString "law", params := fnP (Mine.stM 30), body := fnB (Mine.stM 30), scope := fnS (Mine.stM 30), globals := 3, closure := [], defaults := Value.none, kwdefaults := Value.none, pyModule := Value.str (Str.ofString "law_tp0036_01") 695, code := Value.ref 297 } }]
noncomputable def hS0 : Params → List Obj := fun P => (hF P).take 28
|>.set 3 ({ cls := Value.type "dict", data := Data.dict #[{ hash := PyData.keyHash P (Str.ofString "__name__"), key := Value.str (Str.ofString "__name__") 165, val := Value.str (Str.ofString "__main__") 164 }, { hash := PyData.keyHash P (Str.ofString "__doc__"), key := Value.str (Str.ofString "__doc__") 166, val := Value.none }, { hash := PyData.keyHash P (Str.ofString "__package__"), key := Value.str (Str.ofString "__package__") 167, val := Value.none }, { hash := PyData.keyHash P (Str.ofString "__loader__"), key := Value.str (Str.ofString "__loader__") 168, val := Value.builtin "__main__.__loader__#opaque" }, { hash := PyData.keyHash P (Str.ofString "__spec__"), key := Value.str (Str.ofString "__spec__") 169, val := Value.none }, { hash := PyData.keyHash P (Str.ofString "__annotations__"), key := Value.str (Str.ofString "__annotations__") 170, val := Value.ref 6 }, { hash := PyData.keyHash P (Str.ofString "__builtins__"), key := Value.str (Str.ofString "__builtins__") 171, val := Value.ref 4 }, { hash := PyData.keyHash P (Str.ofString "__file__"), key := Value.str (Str.ofString "__file__") 173, val := Value.str (Str.ofString "/claim/cut.py") 172 }, { hash := PyData.keyHash P (Str.ofString "__cached__"), key := Value.str (Str.ofString "__cached__") 174, val := Value.none }, { hash := PyData.keyHash P (Str.ofString "_sre"), key := Value.str (Str.ofString "_sre") 275, val := Value.ref 12 }] 10 })
noncomputable def hSa : Params → List Obj := fun P => (hF P).take 32
|>.set 3 ({ cls := Value.type "dict", data := Data.dict #[{ hash := PyData.keyHash P (Str.ofString "__name__"), key := Value.str (Str.ofString "__name__") 165, val := Value.str (Str.ofString "__main__") 164 }, { hash := PyData.keyHash P (Str.ofString "__doc__"), key := Value.str (Str.ofString "__doc__") 166, val := Value.none }, { hash := PyData.keyHash P (Str.ofString "__package__"), key := Value.str (Str.ofString "__package__") 167, val := Value.none }, { hash := PyData.keyHash P (Str.ofString "__loader__"), key := Value.str (Str.ofString "__loader__") 168, val := Value.builtin "__main__.__loader__#opaque" }, { hash := PyData.keyHash P (Str.ofString "__spec__"), key := Value.str (Str.ofString "__spec__") 169, val := Value.none }, { hash := PyData.keyHash P (Str.ofString "__annotations__"), key := Value.str (Str.ofString "__annotations__") 170, val := Value.ref 6 }, { hash := PyData.keyHash P (Str.ofString "__builtins__"), key := Value.str (Str.ofString "__builtins__") 171, val := Value.ref 4 }, { hash := PyData.keyHash P (Str.ofString "__file__"), key := Value.str (Str.ofString "__file__") 173, val := Value.str (Str.ofString "/claim/cut.py") 172 }, { hash := PyData.keyHash P (Str.ofString "__cached__"), key := Value.str (Str.ofString "__cached__") 174, val := Value.none }, { hash := PyData.keyHash P (Str.ofString "_sre"), key := Value.str (Str.ofString "_sre") 275, val := Value.ref 12 }] 10 })
|>.set 29 ({ cls := Value.none, data := Data.fields #[] })
noncomputable def hS1 : Params → List Obj := fun P => (hF P).take 135
|>.set 3 ({ cls := Value.type "dict", data := Data.dict #[{ hash := PyData.keyHash P (Str.ofString "__name__"), key := Value.str (Str.ofString "__name__") 165, val := Value.str (Str.ofString "cpy313.wsgiref.headers") 430 }, { hash := PyData.keyHash P (Str.ofString "__doc__"), key := Value.str (Str.ofString "__doc__") 166, val := Value.none }, { hash := PyData.keyHash P (Str.ofString "__package__"), key := Value.str (Str.ofString "__package__") 167, val := Value.none }, { hash := PyData.keyHash P (Str.ofString "__loader__"), key := Value.str (Str.ofString "__loader__") 168, val := Value.builtin "__main__.__loader__#opaque" }, { hash := PyData.keyHash P (Str.ofString "__spec__"), key := Value.str (Str.ofString "__spec__") 169, val := Value.none }, { hash := PyData.keyHash P (Str.ofString "__annotations__"), key := Value.str (Str.ofString "__annotations__") 170, val := Value.ref 6 }, { hash := PyData.keyHash P (Str.ofString "__builtins__"), key := Value.str (Str.ofString "__builtins__") 171, val := Value.ref 4 }, { hash := PyData.keyHash P (Str.ofString "__file__"), key := Value.str (Str.ofString "__file__") 173, val := Value.str (Str.ofString "/claim/cut.py") 172 }, { hash := PyData.keyHash P (Str.ofString "__cached__"), key := Value.str (Str.ofString "__cached__") 174, val := Value.none }, { hash := PyData.keyHash P (Str.ofString "_sre"), key := Value.str (Str.ofString "_sre") 275, val := Value.ref 12 }, { hash := PyData.keyHash P (Str.ofString "_wall"), key := Value.str (Str.ofString "_wall") 288, val := Value.ref 38 }, { hash := PyData.keyHash P (Str.ofString "_strcoll"), key := Value.str (Str.ofString "_strcoll") 298, val := Value.ref 45 }, { hash := PyData.keyHash P (Str.ofString "_build_localename"), key := Value.str (Str.ofString "_build_localename") 307, val := Value.ref 52 }, { hash := PyData.keyHash P (Str.ofString "floordiv"), key := Value.str (Str.ofString "floordiv") 317, val := Value.ref 59 }, { hash := PyData.keyHash P (Str.ofString "mod"), key := Value.str (Str.ofString "mod") 325, val := Value.ref 66 }, { hash := PyData.keyHash P (Str.ofString "countOf"), key := Value.str (Str.ofString "countOf") 335, val := Value.ref 73 }, { hash := PyData.keyHash P (Str.ofString "delitem"), key := Value.str (Str.ofString "delitem") 343, val := Value.ref 80 }, { hash := PyData.keyHash P (Str.ofString "getitem"), key := Value.str (Str.ofString "getitem") 351, val := Value.ref 87 }, { hash := PyData.keyHash P (Str.ofString "setitem"), key := Value.str (Str.ofString "setitem") 360, val := Value.ref 94 }, { hash := PyData.keyHash P (Str.ofString "_twin_re_1"), key := Value.str (Str.ofString "_twin_re_1") 378, val := Value.ref 99 }, { hash := PyData.keyHash P (Str.ofString "_twin_re_2"), key := Value.str (Str.ofString "_twin_re_2") 420, val := Value.ref 104 }, { hash := PyData.keyHash P (Str.ofString "CRLF"), key := Value.str (Str.ofString "CRLF") 422, val := Value.str (Str.ofString "\x0d\n") 421 }, { hash := PyData.keyHash P (Str.ofString "quotedata"), key := Value.str (Str.ofString "quotedata") 429, val := Value.ref 111 }, { hash := PyData.keyHash P (Str.ofString "tspecials"), key := Value.str (Str.ofString "tspecials") 465, val := Value.ref 116 }, { hash := PyData.keyHash P (Str.ofString "_name_disallowed_re"), key := Value.str (Str.ofString "_name_disallowed_re") 491, val := Value.ref 121 }, { hash := PyData.keyHash P (Str.ofString "_value_disallowed_re"), key := Value.str (Str.ofString "_value_disallowed_re") 525, val := Value.ref 126 }, { hash := PyData.keyHash P (Str.ofString "_formatparam"), key := Value.str (Str.ofString "_formatparam") 535, val := Value.ref 134 }] 27 })
|>.set 29 ({ cls := Value.none, data := Data.fields #[Value.int 2 0, Value.int 0 0, Value.ref 37, Value.int 6 0, Value.int 0 0, Value.ref 44, Value.int 8 0, Value.int 0 0, Value.ref 51, Value.int 20 0, Value.int 0 0, Value.ref 58, Value.int 22 0, Value.int 0 0, Value.ref 65, Value.int 24 0, Value.int 0 0, Value.ref 72, Value.int 30 0, Value.int 0 0, Value.ref 79, Value.int 32 0, Value.int 0 0, Value.ref 86, Value.int 34 0, Value.int 0 0, Value.ref 93, Value.int 40 0, Value.int 0 0, Value.ref 110, Value.int 46 0, Value.int 0 0, Value.ref 133] })
noncomputable def hS2 : Params → List Obj := fun P => (hF P).take 262
|>.set 3 ({ cls := Value.type "dict", data := Data.dict #[{ hash := PyData.keyHash P (Str.ofString "__name__"), key := Value.str (Str.ofString "__name__") 165, val := Value.str (Str.ofString "cpy313.wsgiref.headers") 430 }, { hash := PyData.keyHash P (Str.ofString "__doc__"), key := Value.str (Str.ofString "__doc__") 166, val := Value.none }, { hash := PyData.keyHash P (Str.ofString "__package__"), key := Value.str (Str.ofString "__package__") 167, val := Value.none }, { hash := PyData.keyHash P (Str.ofString "__loader__"), key := Value.str (Str.ofString "__loader__") 168, val := Value.builtin "__main__.__loader__#opaque" }, { hash := PyData.keyHash P (Str.ofString "__spec__"), key := Value.str (Str.ofString "__spec__") 169, val := Value.none }, { hash := PyData.keyHash P (Str.ofString "__annotations__"), key := Value.str (Str.ofString "__annotations__") 170, val := Value.ref 6 }, { hash := PyData.keyHash P (Str.ofString "__builtins__"), key := Value.str (Str.ofString "__builtins__") 171, val := Value.ref 4 }, { hash := PyData.keyHash P (Str.ofString "__file__"), key := Value.str (Str.ofString "__file__") 173, val := Value.str (Str.ofString "/claim/cut.py") 172 }, { hash := PyData.keyHash P (Str.ofString "__cached__"), key := Value.str (Str.ofString "__cached__") 174, val := Value.none }, { hash := PyData.keyHash P (Str.ofString "_sre"), key := Value.str (Str.ofString "_sre") 275, val := Value.ref 12 }, { hash := PyData.keyHash P (Str.ofString "_wall"), key := Value.str (Str.ofString "_wall") 288, val := Value.ref 38 }, { hash := PyData.keyHash P (Str.ofString "_strcoll"), key := Value.str (Str.ofString "_strcoll") 298, val := Value.ref 45 }, { hash := PyData.keyHash P (Str.ofString "_build_localename"), key := Value.str (Str.ofString "_build_localename") 307, val := Value.ref 52 }, { hash := PyData.keyHash P (Str.ofString "floordiv"), key := Value.str (Str.ofString "floordiv") 317, val := Value.ref 59 }, { hash := PyData.keyHash P (Str.ofString "mod"), key := Value.str (Str.ofString "mod") 325, val := Value.ref 66 }, { hash := PyData.keyHash P (Str.ofString "countOf"), key := Value.str (Str.ofString "countOf") 335, val := Value.ref 73 }, { hash := PyData.keyHash P (Str.ofString "delitem"), key := Value.str (Str.ofString "delitem") 343, val := Value.ref 80 }, { hash := PyData.keyHash P (Str.ofString "getitem"), key := Value.str (Str.ofString "getitem") 351, val := Value.ref 87 }, { hash := PyData.keyHash P (Str.ofString "setitem"), key := Value.str (Str.ofString "setitem") 360, val := Value.ref 94 }, { hash := PyData.keyHash P (Str.ofString "_twin_re_1"), key := Value.str (Str.ofString "_twin_re_1") 378, val := Value.ref 99 }, { hash := PyData.keyHash P (Str.ofString "_twin_re_2"), key := Value.str (Str.ofString "_twin_re_2") 420, val := Value.ref 104 }, { hash := PyData.keyHash P (Str.ofString "CRLF"), key := Value.str (Str.ofString "CRLF") 422, val := Value.str (Str.ofString "\x0d\n") 421 }, { hash := PyData.keyHash P (Str.ofString "quotedata"), key := Value.str (Str.ofString "quotedata") 429, val := Value.ref 111 }, { hash := PyData.keyHash P (Str.ofString "tspecials"), key := Value.str (Str.ofString "tspecials") 465, val := Value.ref 116 }, { hash := PyData.keyHash P (Str.ofString "_name_disallowed_re"), key := Value.str (Str.ofString "_name_disallowed_re") 491, val := Value.ref 121 }, { hash := PyData.keyHash P (Str.ofString "_value_disallowed_re"), key := Value.str (Str.ofString "_value_disallowed_re") 525, val := Value.ref 126 }, { hash := PyData.keyHash P (Str.ofString "_formatparam"), key := Value.str (Str.ofString "_formatparam") 535, val := Value.ref 134 }, { hash := PyData.keyHash P (Str.ofString "Headers"), key := Value.str (Str.ofString "Headers") 694, val := Value.ref 257 }] 28 })
|>.set 29 ({ cls := Value.none, data := Data.fields #[Value.int 2 0, Value.int 0 0, Value.ref 37, Value.int 6 0, Value.int 0 0, Value.ref 44, Value.int 8 0, Value.int 0 0, Value.ref 51, Value.int 20 0, Value.int 0 0, Value.ref 58, Value.int 22 0, Value.int 0 0, Value.ref 65, Value.int 24 0, Value.int 0 0, Value.ref 72, Value.int 30 0, Value.int 0 0, Value.ref 79, Value.int 32 0, Value.int 0 0, Value.ref 86, Value.int 34 0, Value.int 0 0, Value.ref 93, Value.int 40 0, Value.int 0 0, Value.ref 110, Value.int 46 0, Value.int 0 0, Value.ref 133, Value.int 55 0, Value.int 0 0, Value.ref 140] })
noncomputable def hI : Params → List Obj := fun P => (hS0 P).set 11 ({ cls := Value.type "dict", data := Data.dict #[{ hash := PyData.keyHash P (Str.ofString "__name__"), key := Value.str (Str.ofString "__name__") 247, val := Value.str (Str.ofString "_sre") 246 }, { hash := PyData.keyHash P (Str.ofString "__doc__"), key := Value.str (Str.ofString "__doc__") 248, val := Value.none }, { hash := PyData.keyHash P (Str.ofString "__package__"), key := Value.str (Str.ofString "__package__") 250, val := Value.str (Str.ofString "") 249 }, { hash := PyData.keyHash P (Str.ofString "__loader__"), key := Value.str (Str.ofString "__loader__") 251, val := Value.ref 14 }, { hash := PyData.keyHash P (Str.ofString "__spec__"), key := Value.str (Str.ofString "__spec__") 252, val := Value.ref 26 }, { hash := PyData.keyHash P (Str.ofString "compile"), key := Value.str (Str.ofString "compile") 253, val := Value.builtin "_sre.compile" }, { hash := PyData.keyHash P (Str.ofString "template"), key := Value.str (Str.ofString "template") 254, val := Value.builtin "_sre.template" }, { hash := PyData.keyHash P (Str.ofString "getcodesize"), key := Value.str (Str.ofString "getcodesize") 255, val := Value.builtin "_sre.getcodesize" }, { hash := PyData.keyHash P (Str.ofString "ascii_iscased"), key := Value.str (Str.ofString "ascii_iscased") 256, val := Value.builtin "_sre.ascii_iscased" }, { hash := PyData.keyHash P (Str.ofString "unicode_iscased"), key := Value.str (Str.ofString "unicode_iscased") 257, val := Value.builtin "_sre.unicode_iscased" }, { hash := PyData.keyHash P (Str.ofString "ascii_tolower"), key := Value.str (Str.ofString "ascii_tolower") 258, val := Value.builtin "_sre.ascii_tolower" }, { hash := PyData.keyHash P (Str.ofString "unicode_tolower"), key := Value.str (Str.ofString "unicode_tolower") 259, val := Value.builtin "_sre.unicode_tolower" }, { hash := PyData.keyHash P (Str.ofString "MAGIC"), key := Value.str (Str.ofString "MAGIC") 261, val := Value.int 20230612 260 }, { hash := PyData.keyHash P (Str.ofString "CODESIZE"), key := Value.str (Str.ofString "CODESIZE") 263, val := Value.int 4 262 }, { hash := PyData.keyHash P (Str.ofString "MAXREPEAT"), key := Value.str (Str.ofString "MAXREPEAT") 265, val := Value.int 4294967295 264 }, { hash := PyData.keyHash P (Str.ofString "MAXGROUPS"), key := Value.str (Str.ofString "MAXGROUPS") 267, val := Value.int 1073741823 266 }, { hash := PyData.keyHash P (Str.ofString "copyright"), key := Value.str (Str.ofString "copyright") 269, val := Value.str (Str.ofString " SRE 2.2.2 Copyright (c) 1997-2002 by Secret Labs AB ") 268 }] 17 })
noncomputable def topE : Env := { scope := PySem.Challenge.pw_tp0036_01.main.scope, locals := mainNs, globals := mainNs, cells := [], code := .ref 30, frame := some 31 }
noncomputable def topB : List Stmt := behindTheImports PySem.Challenge.pw_tp0036_01
noncomputable def topC : Code := .body topB topE
noncomputable def topS (l : Params → List Obj) (k : Nat) (w : World) (os : OsState) : Shared := ⟨⟨⟨l w.params⟩, {}⟩, ⟨[]⟩, {}, k, os⟩
noncomputable abbrev topQ : Pos := ⟨0, 0, 0, 0⟩
noncomputable abbrev p21 : Pos := ⟨46, 0, 54, 20⟩
noncomputable abbrev p22 : Pos := ⟨55, 0, 135, 93⟩
noncomputable abbrev p30 : Pos := ⟨178, 0, 189, 85⟩
noncomputable abbrev topA : Option Value := some (.ref 6)
theorem top_imp (w : World) : importEnds treeTable (opening PySem.Challenge.pw_tp0036_01) w 3478 (start (opening PySem.Challenge.pw_tp0036_01)).1 (start (opening PySem.Challenge.pw_tp0036_01)).2 = some ⟨⟨⟨hI w.params⟩, {}⟩, ⟨[]⟩, {}, 276, (start (opening PySem.Challenge.pw_tp0036_01)).1.os⟩ := by kernel_rfl
theorem top_fence (w : World) : (fun os => (fenceModules? PySem.Challenge.pw_tp0036_01 ⟨⟨⟨hI w.params⟩, {}⟩, ⟨[]⟩, {}, 276, os⟩).map (fun s => (s.heap, s.gens, s.drawn, s.toks))) = fun _ => some (⟨⟨hS0 w.params⟩, {}⟩, ⟨[]⟩, {}, 276) := by kernel_rfl
theorem top_open (w : World) : (fencedOpening treeTable PySem.Challenge.pw_tp0036_01 w 3478).map (fun s => (s.heap, s.gens, s.drawn, s.toks)) = some (⟨⟨hS0 w.params⟩, {}⟩, ⟨[]⟩, {}, 276) := open_cut (He := fun P => ⟨⟨hI P⟩, {}⟩) (H₀ := fun P => ⟨⟨hS0 P⟩, {}⟩) top_imp (by rfl) top_fence w
theorem top_size (w : World) : ((Heap.mk ⟨hS0 w.params⟩ {}).isNs mainGlobals && (Array.mk ([] : List GenState)).size == 0, (Heap.mk ⟨hS0 w.params⟩ {}).objs.size, (Heap.mk ⟨hS0 w.params⟩ {}).nsMap mainGlobals "__annotations__") = (true, 28, topA) := by kernel_rfl
theorem top_pre (w : World) (os : OsState) : topGo treeTable PySem.Challenge.pw_tp0036_01 w 28 topA 12 (topS hS0 276 w os) (topStub PySem.Challenge.pw_tp0036_01) = some (topS hSa 282 w os, ⟨denote treeTable topC, topC, topQ, [topFrame topQ]⟩) := by kernel_rfl
theorem top_block (w : World) (os : OsState) : segRun treeTable PySem.Challenge.pw_tp0036_01 w 28 topA 1 1 (topS hSa 282 w os) (blockOf topB topE topC topQ [topFrame topQ]) = some (.next, topS hSa 282 w os, topC, topQ) := by kernel_rfl
theorem top_1 (w : World) (os : OsState) : segRun treeTable PySem.Challenge.pw_tp0036_01 w 28 topA 1 748 (topS hSa 282 w os) (piecesOf (topB.take 21) topE topC topQ [topFrame topQ]) = some (.next, topS hS1 536 w os, topC, p21) := by kernel_rfl
theorem top_2 (w : World) (os : OsState) : segRun treeTable PySem.Challenge.pw_tp0036_01 w 28 topA 1 731 (topS hS1 536 w os) (piecesOf ((topB.drop 21).take 1) topE topC p21 [topFrame topQ]) = some (.next, topS hS2 695 w os, topC, p22) := by kernel_rfl
theorem top_3 (w : World) (os : OsState) : segRun treeTable PySem.Challenge.pw_tp0036_01 w 28 topA 1 200 (topS hS2 695 w os) (piecesOf (topB.drop 22) topE topC p22 [topFrame topQ]) = some (.next, topS hF 745 w os, topC, p30) := by kernel_rfl
theorem top_fin (w : World) (os : OsState) : topRun treeTable PySem.Challenge.pw_tp0036_01 w 28 topA 2 (topS hF 745 w os) ⟨doneF .next, topC, p30, [topFrame topQ]⟩ = some (topS hF 745 w os) := by kernel_rfl
theorem top_cut : topB = topB.take 21 ++ ((topB.drop 21).take 1 ++ (topB.drop 22 ++ [])) := by
  rw [List.append_nil, ← List.drop_drop (i := 1) (j := 21), List.take_append_drop, List.take_append_drop]
theorem top_run (w : World) (os : OsState) : topRun treeTable PySem.Challenge.pw_tp0036_01 w 28 topA (12 + (1 + (748 + (731 + (200 + 2))))) (topS hS0 276 w os) (topStub PySem.Challenge.pw_tp0036_01) = some (topS hF 745 w os) := by
  refine go_top (top_pre w os) (piece_block (top_block w os) ?_)
  have e : restOf topB topE topC topQ [topFrame topQ] = restOf (topB.take 21 ++ ((topB.drop 21).take 1 ++ (topB.drop 22 ++ []))) topE topC topQ [topFrame topQ] := congrArg (fun l => restOf l topE topC topQ [topFrame topQ]) top_cut
  rw [e]
  exact piece_app (top_1 w os) (piece_app (top_2 w os) (piece_app (top_3 w os) (piece_nil (top_fin w os))))
theorem topL {q : Program} {loose : List Str} {Xt : Shared → Bool} {α : Type} {Yf : Shared → α} {Ya : World → α} {g0 : Bool}
    (looks : ∀ w : World, (fun os => ((staticsOk (importedModules PySem.Challenge.pw_tp0036_01.main.body) ⟨⟨hS0 w.params⟩, {}⟩ ⟨⟨hF w.params⟩, {}⟩ && namesBound PySem.Challenge.pw_tp0036_01 ⟨⟨hF w.params⟩, {}⟩ && gensDone ⟨⟨⟨hF w.params⟩, {}⟩, ⟨[]⟩, {}, 745, os⟩ && laidKept ⟨⟨hS0 w.params⟩, {}⟩ ⟨⟨hF w.params⟩, {}⟩),
      openSeen q loose (importedModules PySem.Challenge.pw_tp0036_01.main.body) Xt g0 ⟨⟨⟨hF w.params⟩, {}⟩, ⟨[]⟩, {}, 745, os⟩, Yf ⟨⟨⟨hF w.params⟩, {}⟩, ⟨[]⟩, {}, 745, os⟩)) = fun _ => (true, openGood q loose, Ya w)) :
    LeftO PySem.Challenge.pw_tp0036_01 q loose Xt Yf Ya 3478 g0 :=
  LeftO.of_pieces (H₀ := fun P => ⟨⟨hS0 P⟩, {}⟩) (H₁ := fun P => ⟨⟨hF P⟩, {}⟩) top_open top_size top_run rfl looks

theorem said : OpenLaw.wellSaid PySem.Challenge.rw_tp0036_01 = true := by
  delta OpenLaw.wellSaid OpenRow.wellSaid OpenRow.partSaid looksOpen
  repeat' (with_reducible apply look_both)
  all_goals decide +kernel
noncomputable def viewP : Program := { PySem.Challenge.pw_tp0036_01 with main := { PySem.Challenge.pw_tp0036_01.main with body := ([0, 1, 2, 3, 4, 5, 6, 7, 8, 9, 10, 11, 12, 15, 16, 17, 22, 23, 24, 25, 26, 27, 28, 29, 30] : List Nat).filterMap fun i => PySem.Challenge.pw_tp0036_01.main.body[i]? } }
local macro_rules | `(tactic| o_law) => `(tactic| refine holds_law said fun said => ?_)
local macro_rules | `(tactic| o_head $H) => `(tactic| (refine holds_open (q := viewP) (loose := [Str.ofString "_twin_re_1", Str.ofString "_twin_re_2", Str.ofString "tspecials", Str.ofString "_name_disallowed_re", Str.ofString "_value_disallowed_re", Str.ofString "_formatparam"]) (Xt := fun s => xlAt viewP [] s && recOk (RowW.records _) s) (XP := XL viewP []) (Yf := Hook.obs $H) (Ya := Hook.val $H) (YP := Hook.says $H) (N := 3478) ?hl (Hook.of $H) (Hook.keeps $H) (fun s e => xl_of s (Bool.and_eq_true_iff.mp e).1) XL.keeps (by rfl) (by rfl) (by rfl) (fun s e => recFacts_of (Bool.and_eq_true_iff.mp e).2) (by rfl) (by first | assumption | decide +kernel) (by decide +kernel) ⟨rfl, rfl, rfl, rfl, rfl, by decide +kernel⟩ ?hw ?hc; (case hl => (refine topL ?_; intro w; kernel_rfl))))

open_top hd for PySem.Challenge.rw_tp0036_01

theorem topoff : True := by
  w_top off
  trivial
end Mine
open PySem.Spec PySem.Calls
set_option maxHeartbeats 4000000
namespace Mine
section
theorem room_ {L d k j c : Nat} (h : d + k < L) (e : Nat.ble (c + j) k = true) : d + c + j < L := Nat.lt_of_le_of_lt (Nat.add_assoc d c j ▸ Nat.add_le_add_left (Nat.le_of_ble_eq_true e) d) h
theorem units_ {L u k j c : Nat} (h : u + 10 * k < L) (e : Nat.ble (c + 10 * j) (10 * k) = true) : u + c + 10 * j < L := room_ h e
theorem room0 {L d k : Nat} (h : d + k < L) : d < L := Nat.lt_of_le_of_lt (Nat.le_add_right _ _) h

noncomputable abbrev AR (dp un : Nat) (fr : Option (List Env)) (gd : Option (List Code)) : Around := { handled := none, depth := dp, frames := fr, guards := gd, units := un }

noncomputable def Kp (S : List Addr) (h h' : Heap) : Prop := ∀ b o, b ∉ S → h.get? b = some o → h'.get? b = some o
theorem Kp.refl (S : List Addr) (h : Heap) : Kp S h h := fun _ _ _ e => e
theorem Kp.trans {S : List Addr} {h h' h'' : Heap} (a : Kp S h h') (b : Kp S h' h'') : Kp S h h'' := fun x o hx e => b x o hx (a x o hx e)
theorem Kp.all {h h' : Heap} (a : Kp [] h h') : ∀ b o, h.get? b = some o → h'.get? b = some o := fun b o e => a b o (by simp) e

noncomputable def retV : Flow → Value
  | .ret v => v
  | _ => .none

noncomputable def EndP (g : Heap) (s : Shared) (P : Value → Heap → Nat → Prop) (fl : Flow) (s' : Shared) : Prop :=
  ∃ h' tk', s' = { s with heap := h', toks := tk' } ∧ (∀ b o, g.get? b = some o → h'.get? b = some o) ∧ (s.toks ≤ tk' → P (retV fl) h' tk')

theorem EndP.ret {g : Heap} {L : Addr} {m : Str → Option Value} {s : Shared} {P : Value → Heap → Nat → Prop} {v : Value} {h' : Heap} {tk' : Nat} (F : Fr g L h' m) (h : s.toks ≤ tk' → P v h' tk') :
    EndP g s P (.ret v) { s with heap := h', toks := tk' } := ⟨h', tk', rfl, F.keep, h⟩
theorem EndP.next {g : Heap} {L : Addr} {m : Str → Option Value} {s : Shared} {P : Value → Heap → Nat → Prop} {h' : Heap} {tk' : Nat} (F : Fr g L h' m) (h : s.toks ≤ tk' → P .none h' tk') :
    EndP g s P .next { s with heap := h', toks := tk' } := ⟨h', tk', rfl, F.keep, h⟩

noncomputable def Sp (k : Nat) (w : World) (f : Addr) (args : Args) (hn : List (Addr × Obj)) (pre : Heap → Nat → Prop) (post : Heap → Nat → Value → Heap → Nat → Prop) : Prop :=
  ∀ (p : Program) (loose : List Str) (mean : ExcName → Option Value) (mg mb : Str → Option Value) (dp un : Nat) (fr : Option (List Env)) (gd : Option (List Code)) (h₀ : Heap) (s : Shared) (R : Result → Shared → Prop),
    (hd.heap_1 w.params).In h₀ → Top p loose mean mg mb h₀ → (∀ b o, h₀.get? b = some o → s.heap.get? b = some o) → (∀ q ∈ hn, s.heap.get? q.1 = some q.2 ∧ h₀.get? q.1 = none) →
    dp + k < recursionLimit → un + 10 * k < cLine → pre s.heap s.toks →
    (∀ r h' tk', Kp (hn.map (·.1)) s.heap h' → s.toks ≤ tk' → post s.heap s.toks r h' tk' → R (.ok (.ret r)) { s with heap := h', toks := tk' }) →
    codeAny (model PySem.Challenge.pw_tp0036_01 w) (AR dp un fr gd) (.call (.ref f) args) R s

section
variable {w : World} {p : Program} {loose : List Str} {mean : ExcName → Option Value} {mg mb : Str → Option Value} {dp un : Nat} {fr : Option (List Env)} {gd : Option (List Code)} {h₀ : Heap} {s : Shared} {R : Result → Shared → Prop}
  {name qual : Str} {params : Arguments} {body : List Stmt} {scope : Scope} {dV kV doc pm cdv ct oc : Value} {an od : Option Addr} {osl : Array (Option Value)} {f : Addr} {args : Args} {binds : List (Str × Value)} {hn : List (Addr × Obj)}

theorem hidden_news {g' : Heap} {L : Addr} (hN : ∀ q ∈ hn, s.heap.get? q.1 = some q.2 ∧ h₀.get? q.1 = none) {h₁ : Heap} (hk₁ : ∀ b o, s.heap.get? b = some o → h₁.get? b = some o) (e : L = s.heap.objs.size) :
    News (hideAll s.heap (hn.map (·.1))) L h₁ hn := fun q hq => ⟨hk₁ _ _ (hN q hq).1, by rw [e]; exact Nat.ne_of_lt (Heap.lt_size (hN q hq).1), hideAll_none _ (List.mem_map_of_mem hq)⟩

theorem enterC (post : Value → Heap → Nat → Prop) (X : (hd.heap_1 w.params).In h₀) (T : Top p loose mean mg mb h₀) (hk : ∀ b o, h₀.get? b = some o → s.heap.get? b = some o)
    (hN : ∀ q ∈ hn, s.heap.get? q.1 = some q.2 ∧ h₀.get? q.1 = none)
    (ho : (hd.heap_1 w.params).lookup f = some ⟨oc, od, .func (fnOf name qual params body scope dV kV doc pm an cdv ct), osl⟩) (hcd : codeIn (hd.heap_1 w.params) cdv qual = true) (hroom : dp < recursionLimit)
    (hbind : BindsTo s (fnOf name qual params body scope dV kV doc pm an cdv ct) args binds) (hloc : ∀ y ∈ binds, scope.names.lookup y.1 = some .local)
    (hco : scope.isCoroutine = false) (hgen : scope.isGenerator = false) (hkd : scope.kind = .function) (hcell : ∀ x ∈ scope.names, x.2 ≠ .cell)
    (ret : ∀ r h' tk', Kp (hn.map (·.1)) s.heap h' → s.toks ≤ tk' → post r h' tk' → R (.ok (.ret r)) { s with heap := h', toks := tk' })
    (h : ∀ g L h₁ tk, Fr g L h₁ (fun y => binds.reverse.lookup y) → News g L h₁ hn → (hd.heap_1 w.params).In g → Top p loose mean mg mb g →
      (∀ b o, g.get? b = some o → s.heap.get? b = some o) → Kp (hn.map (·.1)) s.heap g → s.toks ≤ tk →
      wpAny (model PySem.Challenge.pw_tp0036_01 w) ((AR dp un fr gd).deeper (envOf qual scope L f cdv)) (execs body (envOf qual scope L f cdv))
        (EndP g s post) (fun _ _ => False) { s with heap := h₁, toks := tk }) :
    codeAny (model PySem.Challenge.pw_tp0036_01 w) (AR dp un fr gd) (.call (.ref f) args) R s := by
  have nm : ∀ b o, h₀.get? b = some o → b ∉ hn.map (·.1) := fun b o e q => by
    obtain ⟨q', hp, rfl⟩ := List.mem_map.mp q
    rw [(hN q' hp).2] at e; cases e
  have st : ∀ b o, h₀.get? b = some o → (hideAll s.heap (hn.map (·.1))).get? b = some o := fun b o e => hideAll_get _ (hk b o e) (nm b o e)
  refine codeAny_with_toks (Nat.le_refl s.toks) ?_
  refine codeAny_call_def (fd := fnOf name qual params body scope dV kV doc pm an cdv ct) (body := body) (binds := binds) hroom (hk _ _ (X _ _ ho)) rfl (T.nolimit.keeps hk) ((codeRec_of X hcd).keeps hk) rfl hbind hcell hloc (fun h₁ hns hk₁ => ?_) hco hgen hkd
  refine wpAny_mono (h (hideAll s.heap (hn.map (·.1))) s.heap.objs.size h₁ _ ⟨hns, fun b o e => hk₁ b o (of_hideAll _ e), Nat.le_of_eq (hideAll_size _ _)⟩
    (hidden_news (g' := h₁) hN hk₁ rfl) (X.keeps st) (T.keeps st) (fun b o e => of_hideAll _ e) (fun b o hb e => hideAll_get _ e hb) (Nat.le_add_right _ _)) (fun fl s' hl => ?_) fun _ _ e => e.elim
  obtain ⟨h', tk', rfl, hg, hp⟩ := hl
  intro ht
  refine ret _ h' tk' (fun b o hb e => hg b o (hideAll_get _ e hb)) ht ?_
  have := hp ht
  cases fl <;> exact this

theorem Sp.use {k : Nat} {vs : List Value} {kw : List (Str × Value)} {pre : Heap → Nat → Prop} {post : Heap → Nat → Value → Heap → Nat → Prop} {L : Addr} {m : Str → Option Value} {news : List (Addr × Obj)} {Q E : Value → Shared → Prop}
    (C : Sp k w f ⟨vs, kw⟩ [] pre post) (F : Fr h₀ L s.heap m) (X : (hd.heap_1 w.params).In h₀) (N : News h₀ L s.heap news) (T : Top p loose mean mg mb h₀)
    (hdp : dp + k < recursionLimit) (hun : un + 10 * k < cLine) (hpre : pre s.heap s.toks)
    (ret : ∀ r h' tk', Fr h₀ L h' m → News h₀ L h' news → Kp [] s.heap h' → s.toks ≤ tk' → post s.heap s.toks r h' tk' → Q r { s with heap := h', toks := tk' }) :
    wpAny (model PySem.Challenge.pw_tp0036_01 w) (AR dp un fr gd) (call (.ref f) vs kw) Q E s :=
  wpAny_call (C p loose mean mg mb dp un fr gd h₀ s _ X T F.keep (fun _ hq => nomatch hq) hdp hun hpre fun r h' tk' hK ht hp => ret r h' tk' (F.keeps (Kp.all hK)) (N.grown (Kp.all hK)) hK ht hp)

theorem Sp.useA {k : Nat} {vs : List Value} {kw : List (Str × Value)} {pre : Heap → Nat → Prop} {post : Heap → Nat → Value → Heap → Nat → Prop} {L : Addr} {m : Str → Option Value} {news : List (Addr × Obj)} {Q E : Value → Shared → Prop}
    (C : Sp k w f ⟨vs, kw⟩ [] pre post) (H : Fr h₀ L s.heap m ∧ (hd.heap_1 w.params).In h₀ ∧ News h₀ L s.heap news ∧ Top p loose mean mg mb h₀ ∧ dp + k < recursionLimit ∧ un + 10 * k < cLine) (hpre : pre s.heap s.toks)
    (ret : ∀ r h' tk', Fr h₀ L h' m → News h₀ L h' news → Kp [] s.heap h' → s.toks ≤ tk' → post s.heap s.toks r h' tk' → Q r { s with heap := h', toks := tk' }) :
    wpAny (model PySem.Challenge.pw_tp0036_01 w) (AR dp un fr gd) (call (.ref f) vs kw) Q E s := Sp.use C H.1 H.2.1 H.2.2.1 H.2.2.2.1 H.2.2.2.2.1 H.2.2.2.2.2 hpre ret
end
theorem gR (n : Addr) {M : Model} {A : Around} {vs : List Value} {kw : List (Str × Value)} {Q E : Value → Shared → Prop} {s : Shared} (h : wpAny M A (call (.ref n) vs kw) Q E s) : wpAny M A (call (.ref n) vs kw) Q E s := h
theorem gB (n : Addr) {M : Model} {A : Around} {f : Value} {vs : List Value} {kw : List (Str × Value)} {Q E : Value → Shared → Prop} {s : Shared} (h : wpAny M A (call f (.ref n :: vs) kw) Q E s) : wpAny M A (call f (.ref n :: vs) kw) Q E s := h
theorem gM (n : Addr) {M : Model} {A : Around} {x : Str} {pl : Sem Bool} {Q : Value × List Value → Shared → Prop} {E : Value → Shared → Prop} {s : Shared} (h : wpAny M A (getMethod (.ref n) x pl) Q E s) : wpAny M A (getMethod (.ref n) x pl) Q E s := h

end
section
section
variable {prog : Program} {w : World} {A : Around} {s : Shared} {h₀ : Heap} {env : Env} {target : PySem.Expr} {body : List Stmt} {Q : Flow → Shared → Prop} {S : List (Addr × Obj) → Prop}

noncomputable def BPost (h₀ : Heap) (L : Addr) (s : Shared) (I : Addr) (it : Obj) (S : List (Addr × Obj) → Prop) (rest : (Str → Option Value) → List (Addr × Obj) → Nat → Prop) (Q : Flow → Shared → Prop) (f : Flow) (s₂ : Shared) : Prop :=
  match f with
  | .ret v => Q (.ret v) s₂
  | .brk => Q .next s₂
  | _ => ∃ h' tk m' news', s₂ = { s with heap := h', toks := tk } ∧ Fr h₀ L h' m' ∧ News h₀ L h' ((I, it) :: news') ∧ (∀ p ∈ news', p.1 ≠ I) ∧ S news' ∧ rest m' news' tk

noncomputable def BRest (prog : Program) (w : World) (A : Around) (h₀ : Heap) (env : Env) (target : PySem.Expr) (body : List Stmt) (Q : Flow → Shared → Prop) (S : List (Addr × Obj) → Prop) (s : Shared) (I : Addr) : List Value → (Str → Option Value) → List (Addr × Obj) → Nat → Prop
  | [], m, news, T => ∀ h tk, T ≤ tk → Fr h₀ env.locals h m → News h₀ env.locals h news → Q .next { s with heap := h, toks := tk }
  | v :: r, m, news, T => ∀ (it : Obj) h tk, T ≤ tk → it.cls = .type "list_iterator" → Fr h₀ env.locals h m → News h₀ env.locals h ((I, it) :: news) → (∀ p ∈ news, p.1 ≠ I) →
      wpAny (model prog w) A (assign target env v) (fun _ s₂ => wpAny (model prog w) A (execs body env)
        (BPost h₀ env.locals s I it S (BRest prog w A h₀ env target body Q S s I r) Q) (fun _ _ => False) s₂) (fun _ _ => False) { s with heap := h, toks := tk }

theorem letOwned_listiter {E : Value → Shared → Prop} {I ax : Addr} {i : Nat} {v : Value} {P : Unit → Shared → Prop} (hi : s.heap.IsListIter I ax i) (h : P () s) : wpAny (model prog w) A (letOwnedTupleGo target (.ref I) v) P E s := by
  cases target with
  | Tuple e c p => cases v with
    | ref T => exact wpAny_letOwnedTupleGo_listiter hi h
    | _ => exact wpAny_pure h
  | List e c => cases v with
    | ref T => exact (wpAny_letOwnedTupleGo_listiter hi h : wpAny (model prog w) A (letOwnedTupleGo (.Tuple e 0 c) (.ref I) (.ref T)) P E s)
    | _ => exact wpAny_pure h
  | _ => exact wpAny_pure h

theorem forB {I₀ : List (Addr × Obj)} {ax : Addr} {vs : List Value} {m : Str → Option Value} {E : Value → Shared → Prop} (hh : A.handled = none)
    (hS : ∀ h m' news', Fr h₀ env.locals h m' → News h₀ env.locals h news' → S news' → h.IsList ax vs.toArray)
    (F : Fr h₀ env.locals s.heap m) (N : News h₀ env.locals s.heap I₀) (hs : S I₀)
    (rest : ∀ I, (∀ p ∈ I₀, p.1 < I) → BRest prog w A h₀ env target body Q S s I vs m I₀ s.toks) :
    wpAny (model prog w) A (pyIter (.ref ax)) (fun it s₂ => codeAny (model prog w) A (.forLoop target it body [] env) (fun r s' => match r with | .ok f => Q f s' | .error e => cameBackBy (model prog w) A env E e s') s₂) E s := by
  have hl := hS _ _ _ F N hs
  have hlt : ax < s.heap.objs.size := by obtain ⟨o, ho, _⟩ := hl; exact Heap.lt_size ho
  have hne : ax ≠ s.heap.objs.size := Nat.ne_of_lt hlt
  have hLI : env.locals ≠ s.heap.objs.size := Nat.ne_of_lt F.ns.lt
  have hnew : h₀.get? s.heap.objs.size = none := next_is_new F
  refine wpAny_pyIter_list hl ?_
  have up : ∀ b o, s.heap.get? b = some o → (s.heap.push { cls := .type "list_iterator", data := .fields #[.ref ax, .int 0 0] }).get? b = some o := fun b o e => Heap.get?_push_of_some _ e
  refine codeAny_forLoop_any (fun n s' => ∃ i m₁ news₁ h tk, s' = { s with heap := h, toks := tk } ∧ n = vs.length + 1 - i ∧ i ≤ vs.length ∧ h.IsListIter s.heap.objs.size ax i ∧ Fr h₀ env.locals h m₁ ∧ News h₀ env.locals h news₁ ∧
    (∀ p ∈ news₁, p.1 ≠ s.heap.objs.size) ∧ S news₁ ∧ BRest prog w A h₀ env target body Q S s s.heap.objs.size (vs.drop i) m₁ news₁ tk) ?_ (vs.length + 1)
    ⟨0, m, I₀, _, _, rfl, rfl, Nat.zero_le _, ⟨_, Heap.get?_push_size _ rfl, rfl, rfl⟩, F.keeps up, N.grown up, fun p hp => Nat.ne_of_lt (Heap.lt_size (N p hp).1), hs, rest _ fun p hp => Heap.lt_size (N p hp).1⟩
  rintro n s' ⟨i, m₁, news₁, h, tk, rfl, rfl, hi, hit, F₁, N₁, off, hs₁, R⟩
  have hl₁ := hS _ _ _ F₁ N₁ hs₁
  by_cases hlt' : i < vs.length
  · have hdrop : vs.drop i = vs[i] :: vs.drop (i + 1) := List.drop_eq_getElem_cons hlt'
    rw [hdrop] at R
    refine wpAny_with_toks (n := tk) (Nat.le_refl _) (wpAny_pyNext_list_item hit hl₁ (x := vs[i]) (by simp [hlt']) fun h' hit' hsb => ?_)
    intro _
    refine letOwned_listiter hit' ?_
    obtain ⟨ot, hot, hct, hdt⟩ := hit'
    have F₂ : Fr h₀ env.locals h' m₁ := F₁.change hsb (Ne.symm hLI) hnew
    have N₂ : News h₀ env.locals h' ((s.heap.objs.size, ot) :: news₁) := fun p hp => by
      rcases List.mem_cons.mp hp with rfl | hp
      · exact ⟨hot, Ne.symm hLI, hnew⟩
      · exact ⟨(hsb.2 _ (off p hp)).trans (N₁ p hp).1, (N₁ p hp).2⟩
    refine wpAny_mono (R ot h' tk (Nat.le_refl _) hct F₂ N₂ off) (fun _ s₂ h₂ => wpAny_mono h₂ (fun f s₃ h₃ => ?_) fun _ _ e => e.elim) fun _ _ e => e.elim
    have key : ∀ (x : ∃ h' tk m' news', s₃ = { s with heap := h', toks := tk } ∧ Fr h₀ env.locals h' m' ∧ News h₀ env.locals h' ((s.heap.objs.size, ot) :: news') ∧ (∀ p ∈ news', p.1 ≠ s.heap.objs.size) ∧ S news' ∧ BRest prog w A h₀ env target body Q S s s.heap.objs.size (vs.drop (i + 1)) m' news' tk),
        ∃ m, m < vs.length + 1 - i ∧ ∃ i' m₁ news₁ h tk, s₃ = { s with heap := h, toks := tk } ∧ m = vs.length + 1 - i' ∧ i' ≤ vs.length ∧ h.IsListIter s.heap.objs.size ax i' ∧ Fr h₀ env.locals h m₁ ∧ News h₀ env.locals h news₁ ∧
          (∀ p ∈ news₁, p.1 ≠ s.heap.objs.size) ∧ S news₁ ∧ BRest prog w A h₀ env target body Q S s s.heap.objs.size (vs.drop i') m₁ news₁ tk := by
      rintro ⟨hp₃, tk₃, m₃, news₃, rfl, F₃, N₃, off₃, hs₃, R₃⟩
      exact ⟨vs.length + 1 - (i + 1), Nat.sub_lt_sub_left (Nat.lt_succ_of_lt hlt') (Nat.lt_succ_self i), i + 1, m₃, news₃, hp₃, tk₃, rfl, rfl, hlt', ⟨ot, (N₃ _ (.head _)).1, hct, hdt⟩, F₃, fun p hp => N₃ p (.tail _ hp), off₃, hs₃, R₃⟩
    cases f with
    | next => exact key h₃
    | cont => exact key h₃
    | brk => exact h₃
    | ret v => exact h₃
  · have hi' : i = vs.length := Nat.le_antisymm hi (Nat.not_lt.mp hlt')
    subst hi'
    rw [List.drop_length] at R
    refine wpAny_with_toks (n := tk) (Nat.le_refl _) (wpAny_pyNext_list_end hh hit hl₁ (by simp) fun h' hsb => ?_)
    intro _
    refine wpAny_execs_nil ?_
    refine R h' tk (Nat.le_refl _) ⟨F₁.ns.at' fun o e => hsb _ o hLI e, fun b o e => hsb b o (fun q => by rw [q, hnew] at e; cases e) (F₁.keep b o e), F₁.above⟩ fun p hp => ⟨hsb _ _ (off p hp) (N₁ p hp).1, (N₁ p hp).2⟩
end

end
section
section
variable {prog : Program} {w : World} {A : Around} {s : Shared} {h₀ : Heap} {L : Addr} {m : Str → Option Value} {env : Env} {elt iter : PySem.Expr} {x : Str} {px pos : Pos} {scope : Scope} {cl : List (Str × Addr)} {Q : Value → Shared → Prop} {news : List (Addr × Obj)}

noncomputable def CEnd (h₀ : Heap) (L : Addr) (m : Str → Option Value) (s : Shared) (led : List (Addr × Obj)) (tk : Nat) (rest : Value → Nat → Prop) (y : Value) (s' : Shared) : Prop :=
  ∃ h' tk', s' = { s with heap := h', toks := tk' } ∧ Fr h₀ L h' m ∧ News h₀ L h' led ∧ (tk ≤ tk' → rest y tk')
theorem CEnd.intro {h₀ : Heap} {L : Addr} {m : Str → Option Value} {s : Shared} {led : List (Addr × Obj)} {tk : Nat} {rest : Value → Nat → Prop} {y : Value} {h' : Heap} {tk' : Nat} (F : Fr h₀ L h' m) (N : News h₀ L h' led) (r : tk ≤ tk' → rest y tk') :
    CEnd h₀ L m s led tk rest y { s with heap := h', toks := tk' } := ⟨h', tk', rfl, F, N, r⟩

noncomputable def CG (prog : Program) (w : World) (A : Around) (h₀ : Heap) (L : Addr) (m : Str → Option Value) (env : Env) (elt : PySem.Expr) (x : Str) (scope : Scope) (cl : List (Str × Addr)) (news : List (Addr × Obj)) (Z : List Value → Nat → Prop) (s : Shared) : List Value → List Value → Nat → Prop
  | [], ys, T => Z ys T
  | v :: r, ys, T => ∀ I oI C oC D m₂ h tk, T ≤ tk → LCg.NsObj oC m₂ → m₂ x = some v → Fr h₀ L h m → News h₀ L h ((I, oI) :: (C, oC) :: (D, LCg.lst ys) :: news) → LCg.Off3 I C D news →
      wpAny (model prog w) A (eval elt (compEnvC scope cl C env)) (CEnd h₀ L m s ((I, oI) :: (C, oC) :: (D, LCg.lst ys) :: news) tk fun y tk' => CG prog w A h₀ L m env elt x scope cl news Z s r (ys ++ [y]) tk') (fun _ _ => False) { s with heap := h, toks := tk }

noncomputable def CRest (prog : Program) (w : World) (A : Around) (h₀ : Heap) (L : Addr) (m : Str → Option Value) (env : Env) (elt : PySem.Expr) (x : Str) (scope : Scope) (cl : List (Str × Addr)) (news : List (Addr × Obj)) (Q : Value → Shared → Prop) (s : Shared) : List Value → List Value → Nat → Prop :=
  CG prog w A h₀ L m env elt x scope cl news (fun ys T => ∀ D h tk, T ≤ tk → Fr h₀ L h m → News h₀ L h ((D, LCg.lst ys) :: news) → (∀ p ∈ news, p.1 ≠ D) → Q (.ref D) { s with heap := h, toks := tk }) s

noncomputable def CSrc (prog : Program) (w : World) (A : Around) (h₀ : Heap) (L : Addr) (m : Str → Option Value) (env : Env) (elt : PySem.Expr) (x : Str) (scope : Scope) (cl : List (Str × Addr)) (Q : Value → Shared → Prop) (s : Shared) (xv : Value) (s₁ : Shared) : Prop :=
  ∃ ax vs news h tk, xv = .ref ax ∧ s₁ = { s with heap := h, toks := tk } ∧ Fr h₀ L h m ∧ News h₀ L h news ∧ vs.length ≤ sizeLine ∧
      (∀ h', Fr h₀ L h' m → News h₀ L h' news → h'.IsList ax vs.toArray) ∧ CRest prog w A h₀ L m env elt x scope cl news Q s vs [] tk

theorem compCore {pos' : Pos} {use : Option (Value → Sem Unit)} {Z : List (Addr × Obj) → List Value → Nat → Prop} {E : Value → Shared → Prop} (hh : A.handled = none)
    (hclos : closureFor scope env = pure cl) (hcell : ∀ y ∈ scope.names, y.2 ≠ .cell) (hkind : scope.kind = .function)
    (hnames : ∀ y ∈ scope.names, y.2 = .local → scope.names.lookup y.1 = some .local) (hx : scope.names.lookup x = some .local)
    (hs : ∀ x, foldedSetIterable iter env x = pure x)
    (hfin : ∀ news ys T D C m' h₂ tk, Z news ys T → T ≤ tk → Fr h₀ L h₂ m → News h₀ L h₂ ((D, LCg.lst ys) :: news) → h₂.Ns C m' → (∀ p ∈ (D, LCg.lst ys) :: news, p.1 ≠ C) → (∀ p ∈ news, p.1 ≠ D) → C ≠ L → h₀.get? C = none →
      compPost (model prog w) A E use Q (.ref D) C (.ok .next) { s with heap := h₂, toks := tk })
    (h : wpAny (model prog w) A (eval iter env) (fun xv s₁ => ∃ ax vs news h tk, xv = .ref ax ∧ s₁ = { s with heap := h, toks := tk } ∧ Fr h₀ L h m ∧ News h₀ L h news ∧ vs.length ≤ sizeLine ∧
      (∀ h', Fr h₀ L h' m → News h₀ L h' news → h'.IsList ax vs.toArray) ∧ CG prog w A h₀ L m env elt x scope cl news (Z news) s vs [] tk) E s) :
    wpAny (model prog w) A (comprehension (.ListComp elt [⟨.Name x px, iter, [], 0⟩] scope pos) scope env pos' (newList []) false (eval iter env) use) Q E s := by
  refine wpAny_comprehension_free (use := use) rfl hs hclos hkind hnames (wpAny_mono h (fun xv s₁ h₁ => ?_) fun _ _ e => e)
  obtain ⟨ax, vs, news, hp, tk, rfl, rfl, F, N, hsz, hS, R⟩ := h₁
  have hl : hp.IsList ax vs.toArray := hS _ F N
  have hlt : ax < hp.objs.size := by obtain ⟨_, e, _⟩ := hl; exact Heap.lt_size e
  refine wpAny_pyIter_list hl ?_
  generalize hI : hp.objs.size = I at hlt
  simp only [hI]
  have hLI : L ≠ I := hI ▸ Nat.ne_of_lt F.ns.lt
  have hI₀ : h₀.get? I = none := hI ▸ next_is_new F
  have offI : ∀ p ∈ news, p.1 ≠ I := fun p hp => hI ▸ Nat.ne_of_lt (Heap.lt_size (N p hp).1)
  generalize hH1 : hp.push { cls := .type "list_iterator", data := .fields #[.ref ax, .int 0 0] } = H1
  have up : ∀ b o, hp.get? b = some o → H1.get? b = some o := fun b o e => hH1 ▸ Heap.get?_push_of_some _ e
  have hit : H1.IsListIter I ax 0 := by rw [← hH1, ← hI]; exact ⟨_, Heap.get?_push_size _ rfl, rfl, rfl⟩
  have s1 : H1.objs.size = I + 1 := by rw [← hH1, ← hI]; exact Heap.size_push ..
  have F1 := F.keeps up
  have N1 := N.grown up
  refine wpAny_newObj_type (wpAny_newFunctionEnv hcell (by intro y hy; simp at hy) (fun h₁ hns₁ hsb₁ => ?_) hkind)
  dsimp only at hns₁ hsb₁ ⊢
  generalize hD : H1.objs.size = D at hns₁ hsb₁ ⊢
  generalize hH2 : H1.push { cls := .type "list", dict := none, data := .seq ([] : List Value).toArray } = H2 at hns₁ hsb₁ ⊢
  generalize hC : H2.objs.size = C at hns₁ hsb₁ ⊢
  have eC : C = D + 1 := by rw [← hC, ← hH2, ← hD]; exact Heap.size_push ..
  have eD : D = I + 1 := by rw [← hD, s1]
  have up2 : ∀ b o, H1.get? b = some o → H2.get? b = some o := fun b o e => hH2 ▸ Heap.get?_push_of_some _ e
  have up3 : ∀ b o, H2.get? b = some o → h₁.get? b = some o := fun b o e => hsb₁.extBut b o (by rw [← hC]; exact Nat.ne_of_lt (Heap.lt_size e)) (Heap.get?_push_of_some _ e)
  have hacc : h₁.get? D = some (LCg.lst []) := up3 _ _ (by rw [← hH2, ← hD]; exact Heap.get?_push_size _ rfl)
  have F3 := (F1.keeps up2).keeps up3
  have N3 := (N1.grown up2).grown up3
  have hit3 : h₁.IsListIter I ax 0 := hit.at fun o e => up3 _ _ (up2 _ _ e)
  have fresh₀ : ∀ a, I ≤ a → h₀.get? a = none := fun a ha => by
    cases e : h₀.get? a with
    | none => rfl
    | some o' =>
      have := F.keep a o' e
      exact absurd (Heap.lt_size this) (by rw [hI]; exact Nat.not_lt.mpr ha)
  have hLlt : L < I := hI ▸ F.ns.lt
  have hID : I < D := by rw [eD]; exact Nat.lt_succ_self _
  have hDCl : D < C := by rw [eC]; exact Nat.lt_succ_self _
  have hD₀ := fresh₀ D (Nat.le_of_lt hID)
  have hC₀ := fresh₀ C (Nat.le_of_lt (Nat.lt_trans hID hDCl))
  have hDL : D ≠ L := Ne.symm (Nat.ne_of_lt (Nat.lt_trans hLlt hID))
  have hCL : C ≠ L := Ne.symm (Nat.ne_of_lt (Nat.lt_trans (Nat.lt_trans hLlt hID) hDCl))
  have hCI : I ≠ C := Nat.ne_of_lt (Nat.lt_trans hID hDCl)
  have hDI : I ≠ D := Nat.ne_of_lt hID
  have hDC : D ≠ C := Nat.ne_of_lt hDCl
  have offlt : ∀ p ∈ news, (p.1 : Nat) < I := fun p hp' => hI ▸ Heap.lt_size (N p hp').1
  have off₀ : LCg.Off3 I C D news := LCg.Off3.of fun p hp' => ⟨offI p hp', Nat.ne_of_lt (Nat.lt_trans (offlt p hp') (Nat.lt_trans hID hDCl)), Nat.ne_of_lt (Nat.lt_trans (offlt p hp') hID)⟩
  have off3 := off₀.mem
  have loop : ∀ s₃ : Shared, s₃ = { s with heap := h₁, toks := tk } →
      codeAny (model prog w) A (.compLoop (.ListComp elt [⟨.Name x px, iter, [], 0⟩] scope pos) 0 (.ref I) (.ref D) (compEnvC scope cl C env)) (compPost (model prog w) A E use Q (.ref D) C) s₃ := by
    rintro s₃ rfl
    refine codeAny_compLoop_tests (fun k s' => ∃ i ys m' h' tk', s' = { s with heap := h', toks := tk' } ∧ i ≤ vs.length ∧ k = vs.length + 1 - i ∧ ys.length = i ∧ h'.IsListIter I ax i ∧ Fr h₀ L h' m ∧ h'.Ns C m' ∧ News h₀ L h' ((D, LCg.lst ys) :: news) ∧
      CG prog w A h₀ L m env elt x scope cl news (Z news) s (vs.drop i) ys tk') ?_ (vs.length + 1)
      ⟨0, [], _, h₁, tk, rfl, Nat.zero_le _, rfl, rfl, hit3, F3, hns₁, fun p hp' => ?_, R⟩
    · rintro k s' ⟨i, ys, m', h', tk', rfl, hi, rfl, hyl, hst, F', hn', N', R'⟩
      have hl' := hS _ F' fun p hp' => N' p (.tail _ hp')
      by_cases hlt' : i < vs.length
      · have hdrop : vs.drop i = vs[i] :: vs.drop (i + 1) := List.drop_eq_getElem_cons hlt'
        rw [hdrop] at R'
        refine wpAny_pyNext_list_item hst hl' (x := vs[i]) (by simp [hlt']) fun h₂ hit₂ hsb₂ => ?_
        have hk₂ : ∀ b o, b ≠ I → h'.get? b = some o → h₂.get? b = some o := fun b o hb e => (hsb₂.2 b hb).trans e
        refine wpAny_assign_Name (wpAny_storeName_local (lookup_relabel_local hx) (hn'.at' fun o e => hk₂ _ o (Ne.symm hCI) e) (fun h₃ hn₃ hs₃ => ?_) (by simp [compEnvC, relabel, hkind]))
        refine wpAny_tests_nil ?_
        simp only [if_true]
        obtain ⟨oI, heI, hcI, hdI⟩ := hit₂
        have heI3 : h₃.get? I = some oI := hs₃.extBut _ _ hCI heI
        obtain ⟨oC, heC, hoC⟩ := LCg.ns_obj hn₃
        have F₃ : Fr h₀ L h₃ m := (F'.change hsb₂ (Ne.symm hLI) hI₀).change hs₃ hCL hC₀
        have N₃ : News h₀ L h₃ ((I, oI) :: (C, oC) :: (D, LCg.lst ys) :: news) := fun p hp' => by
          rcases List.mem_cons.mp hp' with rfl | hp'
          · exact ⟨heI3, Ne.symm hLI, hI₀⟩
          · rcases List.mem_cons.mp hp' with rfl | hp'
            · exact ⟨heC, hCL, hC₀⟩
            · have z := N' p hp'
              have hpI : p.1 ≠ I := by
                rcases List.mem_cons.mp hp' with rfl | hp''
                · exact Ne.symm hDI
                · exact (off3 p hp'').1
              have hpC : p.1 ≠ C := by
                rcases List.mem_cons.mp hp' with rfl | hp''
                · exact hDC
                · exact (off3 p hp'').2.1
              exact ⟨hs₃.extBut _ _ hpC (hk₂ _ _ hpI z.1), z.2⟩
        refine wpAny_with_toks (n := tk' + 1) (Nat.le_refl _) ?_
        refine wpAny_mono (R' I oI C oC D _ h₃ _ (Nat.le_succ _) hoC (by simp) F₃ N₃ off₀) (fun y s₄ h₄ => ?_) fun _ _ e => e.elim
        obtain ⟨h₄, tk₄, rfl, F₄, N₄, R₄⟩ := h₄
        intro _
        have zI := (N₄ (I, oI) List.mem_cons_self).1
        have zC := (N₄ (C, oC) (List.mem_cons_of_mem _ List.mem_cons_self)).1
        have zD := (N₄ (D, LCg.lst ys) (List.mem_cons_of_mem _ (List.mem_cons_of_mem _ List.mem_cons_self))).1
        refine append_at (hsz := by show ys.toArray.size ≤ sizeLine; rw [List.size_toArray, hyl]; exact Nat.le_trans hi hsz) zD fun h₅ hs₅ hD₅ => ?_
        refine ⟨vs.length + 1 - (i + 1), Nat.sub_lt_sub_left (Nat.lt_succ_of_lt hlt') (Nat.lt_succ_self i), i + 1, ys ++ [y], _, h₅, tk₄, rfl, hlt', rfl, by rw [List.length_append, List.length_singleton, hyl], ⟨oI, hs₅.extBut _ _ hDI zI, hcI, hdI⟩, F₄.change hs₅ hDL hD₀, (hoC.ns zC).sameBut hs₅ (Ne.symm hDC), fun p hp' => ?_, ?_⟩
        · rcases List.mem_cons.mp hp' with rfl | hp'
          · exact ⟨hD₅.trans (congrArg some (LCg.lst_snoc ys y)), hDL, hD₀⟩
          · have z := N₄ p (List.mem_cons_of_mem _ (List.mem_cons_of_mem _ (List.mem_cons_of_mem _ hp')))
            exact ⟨hs₅.extBut _ _ (off3 p hp').2.2 z.1, z.2⟩
        · exact R₄ (by assumption)
      · obtain rfl : i = vs.length := Nat.le_antisymm hi (Nat.not_lt.mp hlt')
        rw [List.drop_length] at R'
        refine wpAny_pyNext_list_end hh hst hl' (by simp) fun h₂ hk₂ => ?_
        have off3 := off₀.mem
        refine hfin news ys _ D C _ h₂ _ R' (Nat.le_refl _) ⟨F'.ns.at' fun o e => hk₂ _ o hLI e, fun b o e => hk₂ b o (fun q => by rw [q, hI₀] at e; cases e) (F'.keep b o e), F'.above⟩ (fun p hp' => ?_) (hn'.at' fun o e => hk₂ _ o (Ne.symm hCI) e) (fun p hp' => ?_) (fun p hp' => (off3 p hp').2.2) hCL hC₀
        · have z := N' p hp'
          refine ⟨hk₂ _ _ ?_ z.1, z.2⟩
          rcases List.mem_cons.mp hp' with rfl | hp'
          · exact Ne.symm hDI
          · exact (off3 p hp').1
        · rcases List.mem_cons.mp hp' with rfl | hp'
          · exact hDC
          · exact (off3 p hp').2.1
    · rcases List.mem_cons.mp hp' with rfl | hp'
      · exact ⟨hacc, hDL, hD₀⟩
      · exact N3 p hp'
  exact codeAny_compStart_list (loop _ rfl) (wpAny_pyIter_listiter hit3 (loop _ rfl))
theorem compB {E : Value → Shared → Prop} (_F₀ : Fr h₀ L s.heap m) (hh : A.handled = none)
    (hclos : closureFor scope env = pure cl) (hcell : ∀ y ∈ scope.names, y.2 ≠ .cell) (hkind : scope.kind = .function)
    (hnames : ∀ y ∈ scope.names, y.2 = .local → scope.names.lookup y.1 = some .local) (hx : scope.names.lookup x = some .local)
    (h : wpAny (model prog w) A (eval iter env) (CSrc prog w A h₀ L m env elt x scope cl Q s) E s)
    (hs : ∀ x, foldedSetIterable iter env x = pure x := by intro _; rfl) :
    wpAny (model prog w) A (eval (.ListComp elt [⟨.Name x px, iter, [], 0⟩] scope pos) env) Q E s := by
  rw [eval_ListComp]
  exact compCore (Z := fun news ys T => ∀ D h tk, T ≤ tk → Fr h₀ L h m → News h₀ L h ((D, LCg.lst ys) :: news) → (∀ p ∈ news, p.1 ≠ D) → Q (.ref D) { s with heap := h, toks := tk }) hh hclos hcell hkind hnames hx hs
    (fun news ys T D C m' h₂ tk z hT F N ns offC offD hCL hC₀ => ⟨_, ns, fun h'' hs'' => z D h'' _ hT (F.change hs'' hCL hC₀) (fun p hp => ⟨hs''.extBut _ _ (offC p hp) (N p hp).1, (N p hp).2⟩) offD⟩) h
end

end
section
section
variable {prog : Program} {w : World} {A : Around} {s : Shared} {h₀ : Heap} {env : Env} {target : PySem.Expr} {body : List Stmt} {Q : Flow → Shared → Prop} {S : List (Addr × Obj) → Prop} {I : Addr} {news : List (Addr × Obj)}

theorem BPost.mono {L : Addr} {it : Obj} {rest rest' : (Str → Option Value) → List (Addr × Obj) → Nat → Prop} {f : Flow} {s₂ : Shared} (h : BPost h₀ L s I it S rest Q f s₂) (k : ∀ m n t, rest m n t → rest' m n t) : BPost h₀ L s I it S rest' Q f s₂ := by
  cases f with
  | ret v => exact h
  | brk => exact h
  | next => obtain ⟨a, b, c, d, e1, e2, e3, e4, e5, r⟩ := h; exact ⟨a, b, c, d, e1, e2, e3, e4, e5, k _ _ _ r⟩
  | cont => obtain ⟨a, b, c, d, e1, e2, e3, e4, e5, r⟩ := h; exact ⟨a, b, c, d, e1, e2, e3, e4, e5, k _ _ _ r⟩

theorem BRest.ind (J : List Value → (Str → Option Value) → Nat → Prop)
    (step : ∀ v r m T, J (v :: r) m T → ∀ (it : Obj) h tk, T ≤ tk → it.cls = .type "list_iterator" → Fr h₀ env.locals h m → News h₀ env.locals h ((I, it) :: news) → (∀ p ∈ news, p.1 ≠ I) →
      wpAny (model prog w) A (assign target env v) (fun _ s₂ => wpAny (model prog w) A (execs body env)
        (BPost h₀ env.locals s I it S (fun m' n' t' => n' = news ∧ J r m' t') Q) (fun _ _ => False) s₂) (fun _ _ => False) { s with heap := h, toks := tk })
    (fin : ∀ m T, J [] m T → ∀ h tk, T ≤ tk → Fr h₀ env.locals h m → News h₀ env.locals h news → Q .next { s with heap := h, toks := tk }) :
    ∀ vs m T, J vs m T → BRest prog w A h₀ env target body Q S s I vs m news T := by
  intro vs
  induction vs with
  | nil => exact fun m T j => fin m T j
  | cons v r ih =>
    intro m T j it h tk hT hc F N off
    refine wpAny_mono (step v r m T j it h tk hT hc F N off) (fun _ _ q => wpAny_mono q (fun _ _ b => BPost.mono b fun m' n' t' ⟨e, j'⟩ => ?_) fun _ _ e => e) fun _ _ e => e
    subst e
    exact ih m' t' j'
end

section
variable {prog : Program} {w : World} {A : Around} {s : Shared} {h₀ : Heap} {L : Addr} {m : Str → Option Value} {env : Env} {elt : PySem.Expr} {x : Str} {scope : Scope} {cl : List (Str × Addr)} {Q : Value → Shared → Prop} {news : List (Addr × Obj)}
theorem CG.ind {Z : List Value → Nat → Prop} (J : List Value → List Value → Nat → Prop)
    (step : ∀ v r ys T, J (v :: r) ys T → ∀ I oI C oC D m₂ h tk, T ≤ tk → LCg.NsObj oC m₂ → m₂ x = some v → Fr h₀ L h m → News h₀ L h ((I, oI) :: (C, oC) :: (D, LCg.lst ys) :: news) → LCg.Off3 I C D news →
      wpAny (model prog w) A (eval elt (compEnvC scope cl C env)) (CEnd h₀ L m s ((I, oI) :: (C, oC) :: (D, LCg.lst ys) :: news) tk fun y tk' => J r (ys ++ [y]) tk') (fun _ _ => False) { s with heap := h, toks := tk })
    (fin : ∀ ys T, J [] ys T → Z ys T) :
    ∀ vs ys T, J vs ys T → CG prog w A h₀ L m env elt x scope cl news Z s vs ys T := by
  intro vs
  induction vs with
  | nil => exact fun ys T j => fin ys T j
  | cons v r ih =>
    intro ys T j I oI C oC D m₂ h tk hT hC hx F N off
    exact wpAny_mono (step v r ys T j I oI C oC D m₂ h tk hT hC hx F N off) (fun y _ ⟨h', tk', e, F', N', k⟩ => ⟨h', tk', e, F', N', fun ht => ih (ys ++ [y]) tk' (k ht)⟩) fun _ _ e => e
theorem CRest.ind (J : List Value → List Value → Nat → Prop)
    (step : ∀ v r ys T, J (v :: r) ys T → ∀ I oI C oC D m₂ h tk, T ≤ tk → LCg.NsObj oC m₂ → m₂ x = some v → Fr h₀ L h m → News h₀ L h ((I, oI) :: (C, oC) :: (D, LCg.lst ys) :: news) → LCg.Off3 I C D news →
      wpAny (model prog w) A (eval elt (compEnvC scope cl C env)) (CEnd h₀ L m s ((I, oI) :: (C, oC) :: (D, LCg.lst ys) :: news) tk fun y tk' => J r (ys ++ [y]) tk') (fun _ _ => False) { s with heap := h, toks := tk })
    (fin : ∀ ys T, J [] ys T → ∀ D h tk, T ≤ tk → Fr h₀ L h m → News h₀ L h ((D, LCg.lst ys) :: news) → (∀ p ∈ news, p.1 ≠ D) → Q (.ref D) { s with heap := h, toks := tk }) :
    ∀ vs ys T, J vs ys T → CRest prog w A h₀ L m env elt x scope cl news Q s vs ys T := CG.ind J step fin
end

theorem is_ii {M : Model} {A : Around} {E : Value → Shared → Prop} {s : Shared} {p q : Int} {t u : Tok} {Q : Value → Shared → Prop} (ht : t ≠ 0) (hu : u ≠ 0) (hn : p ≠ q → t ≠ u) (hs : -5 ≤ q ∧ q ≤ 256) (h : Q (.bool (decide (p = q))) s) :
    wpAny M A (compareOp .Is (.int p t) (.int q u)) Q E s := by
  show wpAny M A (isSame (.int p t) (.int q u) >>= fun b => pure (.bool b)) Q E s
  refine wpAny_bind ?_
  unfold isSame
  dsimp only
  by_cases e : p = q
  · subst e
    have h1 : ((p == p) && smallInt p) = true := by simp [smallInt, hs.1, hs.2]
    rw [if_pos h1]
    unfold isSame.cachedInt
    rw [if_neg (by simp [ht, hu])]
    simp only [decide_true] at h
    exact wpAny_bind (wpAny_rule (wpAny_pure (wpAny_pure h)))
  · have h1 : ¬ (((p == q) && smallInt p) = true) := by simp [e]
    rw [if_neg h1]
    unfold isSame.created
    rw [if_neg (by simp [ht, hu])]
    have h2 : (p == q) = false := by simp [e]
    have h3 := hn e
    simp only [h2]
    rw [decide_eq_false e] at h
    have h4 : ¬ ((t == u) = true) := by simp [h3]
    simp [h4]
    exact wpAny_pure (wpAny_pure h)

theorem BPost.nextI {h₀ : Heap} {L : Addr} {s : Shared} {I : Addr} {it : Obj} {S : List (Addr × Obj) → Prop} {rest : (Str → Option Value) → List (Addr × Obj) → Nat → Prop} {Q : Flow → Shared → Prop} {h' : Heap} {tk : Nat} {m' : Str → Option Value} {news' : List (Addr × Obj)}
    (F : Fr h₀ L h' m') (N : News h₀ L h' ((I, it) :: news')) (off : ∀ p ∈ news', p.1 ≠ I) (hS : S news') (r : rest m' news' tk) : BPost h₀ L s I it S rest Q .next { s with heap := h', toks := tk } :=
  ⟨h', tk, m', news', rfl, F, N, off, hS, r⟩

end
section
section
variable {w : World} {p : Program} {loose : List Str} {mean : ExcName → Option Value} {mg mb : Str → Option Value} {dp un : Nat} {fr : Option (List Env)} {gd : Option (List Code)} {h₀ : Heap} {s : Shared} {R : Result → Shared → Prop}
  {name qual : Str} {params : Arguments} {body : List Stmt} {scope : Scope} {dV kV doc pm cdv ct oc : Value} {an od : Option Addr} {osl : Array (Option Value)} {f : Addr} {args : Args} {binds : List (Str × Value)} {hn : List (Addr × Obj)}

theorem enterCC (post : Value → Heap → Nat → Prop) (X : (hd.heap_1 w.params).In h₀) (T : Top p loose mean mg mb h₀) (hk : ∀ b o, h₀.get? b = some o → s.heap.get? b = some o)
    (hN : ∀ q ∈ hn, s.heap.get? q.1 = some q.2 ∧ h₀.get? q.1 = none)
    (ho : (hd.heap_1 w.params).lookup f = some ⟨oc, od, .func (fnOf name qual params body scope dV kV doc pm an cdv ct), osl⟩) (hcd : codeIn (hd.heap_1 w.params) cdv qual = true) (hroom : dp < recursionLimit)
    (hbind : BindsTo s (fnOf name qual params body scope dV kV doc pm an cdv ct) args binds)
    (hkind : (binds.all fun y => scope.names.lookup y.1 == some .local || scope.names.lookup y.1 == some .cell) = true) (hnd : ((cellsFrom 0 scope.names []).map (·.1)).Nodup)
    (hco : scope.isCoroutine = false) (hgen : scope.isGenerator = false) (hkd : scope.kind = .function)
    (ret : ∀ r h' tk', Kp (hn.map (·.1)) s.heap h' → s.toks ≤ tk' → post r h' tk' → R (.ok (.ret r)) { s with heap := h', toks := tk' })
    (h : ∀ g L h₁ tk cells, Fr g L h₁ (bindL (envOfC qual scope L f cdv).kindOf binds fun _ => none) → News g L h₁ (cells ++ hn) →
      CellsAre (bindC (envOfC qual scope L f cdv).kindOf binds fun _ => none) (cellsFrom (L + 1) scope.names []) cells → (hd.heap_1 w.params).In g → Top p loose mean mg mb g →
      (∀ b o, g.get? b = some o → s.heap.get? b = some o) → Kp (hn.map (·.1)) s.heap g → s.toks ≤ tk → (∀ q ∈ hn, q.1 < L) →
      wpAny (model PySem.Challenge.pw_tp0036_01 w) ((AR dp un fr gd).deeper (envOfC qual scope L f cdv)) (execs body (envOfC qual scope L f cdv))
        (EndP g s post) (fun _ _ => False) { s with heap := h₁, toks := tk }) :
    codeAny (model PySem.Challenge.pw_tp0036_01 w) (AR dp un fr gd) (.call (.ref f) args) R s := by
  have nm : ∀ b o, h₀.get? b = some o → b ∉ hn.map (·.1) := fun b o e q => by
    obtain ⟨q', hp, rfl⟩ := List.mem_map.mp q
    rw [(hN q' hp).2] at e; cases e
  have st : ∀ b o, h₀.get? b = some o → (hideAll s.heap (hn.map (·.1))).get? b = some o := fun b o e => hideAll_get _ (hk b o e) (nm b o e)
  refine codeAny_with_toks (Nat.le_refl s.toks) ?_
  refine codeAny_call_function hroom (hk _ _ (X _ _ ho)) rfl hco hgen rfl ((codeRec_of X hcd).keeps hk) (hbind _ _ _ _ ?_)
  refine wpAny_with_toks (n := s.toks) (Nat.le_refl _) ?_
  refine wpAny_newFunctionEnv_cells hkd (kindsX hkind _) fun env' he s' x => ?_
  subst he
  intro hts
  refine ⟨(T.nolimit.keeps hk).keeps x.toInCall.keep, codeAny_func ?_⟩
  obtain ⟨h₁, tk, rfl, _⟩ := x.done
  have hk₁ := x.toInCall.keep
  obtain ⟨cells, NC, Y⟩ := Cl.news (h₀ := s.heap) (Nat.le_refl _) fun n c hm => ⟨x.cell n c (lookup_of_mem_nodup (cellsFrom_names scope.names 0 (s.heap.objs.size + 1) [] [] rfl ▸ hnd) hm), x.above n c hm⟩
  refine wpAny_mono (h (hideAll s.heap (hn.map (·.1))) s.heap.objs.size h₁ tk cells ⟨x.toInCall.ns, fun b o e => hk₁ b o (of_hideAll _ e), Nat.le_of_eq (hideAll_size _ _)⟩ (fun q hq => ?_) Y (X.keeps st) (T.keeps st)
    (fun b o e => of_hideAll _ e) (fun b o hb e => hideAll_get _ e hb) hts (fun q hq => Heap.lt_size (hN q hq).1)) (fun fl s' hl => ?_) fun _ _ e => e.elim
  · rcases List.mem_append.mp hq with hq | hq
    · refine ⟨(NC q hq).1, (NC q hq).2.1, ?_⟩
      cases e : (hideAll s.heap (hn.map (·.1))).get? q.1 with
      | none => rfl
      | some o => have := of_hideAll _ e; rw [(NC q hq).2.2] at this; cases this
    · exact ⟨hk₁ _ _ (hN q hq).1, Nat.ne_of_lt (Heap.lt_size (hN q hq).1), hideAll_none _ (List.mem_map_of_mem hq)⟩
  · obtain ⟨h', tk', rfl, hg, hp⟩ := hl
    intro ht
    refine ret _ h' tk' (fun b o hb e => hg b o (hideAll_get _ e hb)) ht ?_
    have := hp ht
    cases fl <;> exact this
end

end
local macro_rules | `(tactic| ktr_room) => `(tactic| exact room_ (by assumption) rfl)
local macro_rules | `(tactic| ktr_units) => `(tactic| exact units_ (by assumption) rfl)
local macro_rules | `(tactic| k_room) => `(tactic| ktr_room)
local macro_rules | `(tactic| k_units) => `(tactic| ktr_units)
local macro_rules | `(tactic| k_ne) => `(tactic| (refine neN ?_; (try dsimp only); first | assumption | exact Ne.symm (by assumption) | exact Nat.ne_of_lt (by assumption) | exact Nat.ne_of_gt (by assumption)))
section
noncomputable def scoll (x y : Str) : Int := b2i (decide (y.cps.toList < x.cps.toList)) - b2i (decide (x.cps.toList < y.cps.toList))
local macro_rules | `(tactic| walk_at "execs cons") => `(tactic| (k_here; refine wpAny_execs_cons ?_))


theorem strcoll_sp (w : World) (x y : Str) (tx ty : Tok) :
  Sp 2 w 45 ⟨[.str x tx, .str y ty], []⟩ [] (fun _ _ => True) (fun _ t₀ r _ _ => ∃ t, r = .int (scoll x y) t ∧ t₀ ≤ t) := by
  intro p loose mean mg mb dp un fr gd h₀ s R X T hk hN hdp hun hpre ret
  (k_dflt (refine' enterC _ ?a1 ?a2 ?a3 ?a4 ?k6 ?k7 ?k8 ?k9 ?kB ?c2 ?c3 ?c4 ?c5 ?cR ?_; (case a1 => assumption); (case a2 => assumption); (case a3 => assumption); (case a4 => assumption); (case k6 => k_is); (case k7 => k_is); (case k8 => exact room0 (by assumption)); (case k9 => exact BindsTo.of_eq rfl); (case kB => exact locs rfl); (case c2 => exact rfl); (case c3 => exact rfl); (case c4 => exact rfl); (case c5 => decide); (case cR => assumption); intro _ _ _ _ _ _ _ _ _ _ _; (try dsimp only); (try k_fold)))
  k_steps
  all_goals exact EndP.ret (by k_asm) (fun _ => ⟨_, rfl, by omega⟩)

end
section
noncomputable def intsV (ks : List Int) (ts : List Tok) : List Value := List.zipWith (fun k t => Value.int k t) ks ts
local macro_rules | `(tactic| walk_at "execs cons") => `(tactic| (k_here; refine wpAny_execs_cons ?_))
local macro_rules | `(tactic| walk_at "exec For Name Name cons nil") => `(tactic| (k_here; refine wpAny_For ?_))
local macro_rules | `(tactic| walk_at "compareOp Is int int") => `(tactic| (k_here; refine is_ii (by assumption) (by assumption) (by first | assumption | (intro _; assumption)) (by assumption) ?_))
local macro_rules | `(tactic| walk_at "eval Name") => `(tactic| (k_here; k_dflt (refine' ld ?k1 ?k2 ?_; (case k1 => k_asm); (case k2 => assumption); k_whole)))
local macro_rules | `(tactic| walk_at "loadName") => `(tactic| (k_here; k_dflt (refine' ldn ?k1 ?k2 ?_; (case k1 => k_asm); (case k2 => assumption); k_whole)))



theorem count_sp (w : World) (l : Addr) (ks : List Int) (ts : List Tok) (sg : Int) (tg : Tok) (hlen : ks.length = ts.length) :
  Sp 2 w 73 ⟨[.ref l, .int sg tg], []⟩ [] (fun h _ => h.IsList l (intsV ks ts).toArray ∧ tg ≠ 0 ∧ (-5 ≤ sg ∧ sg ≤ 256) ∧ ks.length ≤ 10 ∧ ∀ t ∈ ts, t ≠ 0 ∧ t ≠ tg) (fun _ t₀ r _ _ => ∃ t, r = .int (ks.count sg) t) := by
  intro p loose mean mg mb dp un fr gd h₀ s R X T hk hN hdp hun hpre ret
  obtain ⟨hl, htg, hsm, hsz, htok⟩ := hpre
  (k_dflt (refine' enterC _ ?a1 ?a2 ?a3 ?a4 ?k6 ?k7 ?k8 ?k9 ?kB ?c2 ?c3 ?c4 ?c5 ?cR ?_; (case a1 => assumption); (case a2 => assumption); (case a3 => assumption); (case a4 => assumption); (case k6 => k_is); (case k7 => k_is); (case k8 => exact room0 (by assumption)); (case k9 => exact BindsTo.of_eq rfl); (case kB => exact locs rfl); (case c2 => exact rfl); (case c3 => exact rfl); (case c4 => exact rfl); (case c5 => decide); (case cR => assumption); intro _ _ _ _ _ _ _ _ _ _ _; (try dsimp only); (try k_fold)))
  rename_i g L h₁ tk F N X' T' st kp ht
  have hlg : g.IsList l (intsV ks ts).toArray := hl.at fun o e => kp _ _ (by simp) e
  k_steps
  refine forB (S := fun _ => True) (by rfl) (fun h _ _ F' _ _ => hlg.at fun o e => F'.keep _ _ e) (by k_asm) (by k_asm) trivial ?_
  intro I hI
  refine BRest.ind (J := fun vs m T => ∃ ks' ts' c tc, vs = intsV ks' ts' ∧ ks'.length = ts'.length ∧ m (Str.ofString "b") = some (.int sg tg) ∧ m (Str.ofString "count") = some (.int c tc) ∧ c + (ks'.count sg : Int) = (ks.count sg : Int) ∧ (∀ t ∈ ts', t ≠ 0 ∧ t ≠ tg) ∧ ks'.length ≤ 10 ∧ 0 ≤ c ∧ c + ks'.length ≤ 10) ?_ ?_ _ _ _ ⟨ks, ts, 0, _, rfl, hlen, rfl, rfl, by simp, htok, hsz, by simp, by omega⟩
  · rintro v r m T ⟨ks', ts', c, tc, hv, hl', hb, hcnt, hsum, ht', hsz', hc0, hc1⟩ it h tk' hT hc F' N' off
    cases ks' with
    | nil => simp [intsV] at hv
    | cons k ks' =>
      cases ts' with
      | nil => simp at hl'
      | cons t ts' =>
        obtain ⟨rfl, rfl⟩ := List.cons.inj hv
        obtain ⟨ht0, htg'⟩ := ht' t (.head _)
        have e1 : k = sg → c + 1 + (ks'.count sg : Int) = (ks.count sg : Int) := fun e => by simp [List.count_cons, e] at hsum; omega
        have e2 : k ≠ sg → c + (ks'.count sg : Int) = (ks.count sg : Int) := fun e => by simp [List.count_cons, e] at hsum; omega
        simp only [List.length_cons] at hl' hsz' hc1
        k_steps
        all_goals (
          refine' BPost.nextI ?F ?N off trivial ?_
          (case F => k_dflt assumption)
          (case N => k_dflt assumption)
          first
          | exact ⟨rfl, ks', ts', _, _, rfl, by omega, hb, rfl, e1 (by assumption), fun t' ht'' => ht' t' (.tail _ ht''), by omega, by omega, by omega⟩
          | exact ⟨rfl, ks', ts', _, _, rfl, by omega, hb, hcnt, e2 (by assumption), fun t' ht'' => ht' t' (.tail _ ht''), by omega, by omega, by omega⟩)
  · rintro m T ⟨ks', ts', c, tc, hv, hl', hb, hcnt, hsum, ht', hsz', hc0, hc1⟩ h tk' hT F' N'
    have hks : ks' = [] := by
      cases ks' with
      | nil => rfl
      | cons k ks' => cases ts' with
        | nil => simp at hl'
        | cons t ts' => simp [intsV] at hv
    subst hks
    have hc' : c = (ks.count sg : Int) := by simpa using hsum
    subst hc'
    k_steps
    all_goals (dsimp only; exact EndP.ret (by k_asm) (fun _ => ⟨_, rfl⟩))

end
local macro_rules | `(tactic| walk_at "Z1") => `(tactic| skip)
local macro_rules | `(tactic| walk_at "AA") => `(tactic| (exact ⟨by k_asm, by k_asm, by k_asm, by k_asm, by ktr_room, by ktr_units⟩))
local macro_rules | `(tactic| walk_at "PX") => `(tactic| (intro r9 h9 tk9 F9 N9 K9 q9 p9; (try dsimp only at q9); (first | subst p9 | (obtain ⟨t9, e9⟩ := p9; subst e9) | (obtain ⟨t9, e9, l9⟩ := p9; subst e9)); (try dsimp only); (try k_fold)))
local macro_rules | `(tactic| walk_at "execs cons") => `(tactic| (k_here; refine wpAny_execs_cons ?_))
local macro_rules | `(tactic| walk_at "eval ListComp") => `(tactic| (k_here; k_dflt (refine compB (by k_asm) rfl rfl (by decide) rfl (by decide) rfl ?_)))
section
noncomputable def strsV (ys : List Str) (ts : List Tok) : List Value := List.zipWith (fun y t => Value.str y t) ys ts
local macro_rules | `(tactic| walk_at "call ref") => `(tactic| (k_here; (with_reducible refine gR 45 ?_); k_dflt (refine Sp.useA (strcoll_sp _ _ _ _ _) (by walk_at "AA") trivial ?_; walk_at "PX")))



theorem intsV_snoc : ∀ (ks : List Int) (ts : List Tok) (k : Int) (t : Tok), ks.length = ts.length → intsV (ks ++ [k]) (ts ++ [t]) = intsV ks ts ++ [.int k t] := fun ks ts k t h => by
  unfold intsV; rw [List.zipWith_append h]; rfl

theorem rank_sp (w : World) (x : Str) (tx : Tok) (l : Addr) (ys : List Str) (ts : List Tok) (sg : Int) (tg : Tok) (hlen : ys.length = ts.length) :
  Sp 4 w 278 ⟨[.str x tx, .ref l, .int sg tg], []⟩ [] (fun h t₀ => h.IsList l (strsV ys ts).toArray ∧ tg ≠ 0 ∧ tg < t₀ ∧ (-5 ≤ sg ∧ sg ≤ 256) ∧ ys.length ≤ 8) (fun _ _ r _ _ => ∃ t, r = .int ((ys.map (scoll x)).count sg) t) := by
  intro p loose mean mg mb dp un fr gd h₀ s R X T hk hN hdp hun hpre ret
  obtain ⟨hl, htg, htl, hsm, hsz⟩ := hpre
  (k_dflt (refine' enterCC _ ?a1 ?a2 ?a3 ?a4 ?k6 ?k7 ?k8 ?k9 ?kB ?kD ?c2 ?c3 ?c4 ?cR ?_; (case a1 => assumption); (case a2 => assumption); (case a3 => assumption); (case a4 => assumption); (case k6 => k_is); (case k7 => k_is); (case k8 => exact room0 (by assumption)); (case k9 => exact BindsTo.of_eq rfl); (case kB => exact rfl); (case kD => decide +kernel); (case c2 => exact rfl); (case c3 => exact rfl); (case c4 => exact rfl); (case cR => assumption); intro g' L' h' tk' cells' F' N' Y' X' T' st' kp' ht' l1; (try k_lt l1); k_cells Y'; (try simp only [List.cons_append, List.nil_append] at N'); (try dsimp only); (try k_fold)))
  rename Kp _ _ _ => kp
  have hlg := hl.at fun o e => kp _ _ (by simp) e
  k_steps
  rename s.toks ≤ _ => ht
  refine ⟨l, strsV ys ts, _, _, _, rfl, rfl, by k_asm, by k_asm, ?_, fun h' F' _ => hlg.at (fun o e => F'.keep _ _ e), ?_⟩
  · simp only [strsV, List.length_zipWith, sizeLine]; omega
  refine CRest.ind (J := fun vs acc T => ∃ zs us ds ts', vs = strsV zs us ∧ zs.length = us.length ∧ acc = intsV (ds.map (scoll x)) ts' ∧ ds.length = ts'.length ∧ ds ++ zs = ys ∧ s.toks ≤ T ∧ ∀ t ∈ ts', s.toks ≤ t) ?_ ?_ _ _ _ ⟨ys, ts, [], [], rfl, hlen, rfl, rfl, rfl, ht, fun _ h => nomatch h⟩
  · rintro v r acc T ⟨zs, us, ds, ts', hv, hzu, rfl, hdt, hds, hT, hts⟩ I oI C oC D m₂ h₂ tk hTk hC hx F N off
    cases zs with
    | nil => simp [strsV] at hv
    | cons z zs =>
      cases us with
      | nil => simp at hzu
      | cons u us =>
        obtain ⟨rfl, rfl⟩ := List.cons.inj hv
        k_steps
        refine CEnd.intro (by k_dflt assumption) (by k_dflt assumption) fun _ => ⟨zs, us, ds ++ [z], ts' ++ [_], rfl, by simpa using hzu, by rw [List.map_append]; exact (intsV_snoc _ _ _ _ (by simpa using hdt)).symm, by simp [hdt], by rw [← hds]; simp, ?_, ?_⟩
        · exact Nat.le_trans hT (Nat.le_trans hTk (by assumption))
        · intro t' ht'
          rcases List.mem_append.mp ht' with h1 | h1
          · exact hts t' h1
          · rw [List.mem_singleton.mp h1]; exact Nat.le_trans hT (Nat.le_trans hTk (by assumption))
  · rintro acc T ⟨zs, us, ds, ts', hv, hzu, rfl, hdt, hds, hT, hts⟩ D h₂ tk hTk F N off
    have hzs : zs = [] := by
      cases zs with
      | nil => rfl
      | cons z zs => cases us with
        | nil => simp at hzu
        | cons u us => simp [strsV] at hv
    subst hzs
    simp only [List.append_nil] at hds
    subst hds
    k_steps
    refine Sp.use (count_sp w D (ds.map (scoll x)) ts' sg tg (by simpa using hdt)) (by k_asm) (by k_asm) (by k_asm) (by k_asm) (by show dp + 1 + 2 < recursionLimit; omega) (by show un + 3 + 10 * 2 < cLine; omega)
      ⟨⟨_, (N (D, _) (.head _)).1, rfl, _, rfl⟩, htg, hsm, by simpa using (by omega), fun t ht => ?_⟩ ?_
    · have := hts t ht
      have hlt : tg < t := Nat.lt_of_lt_of_le htl this
      exact ⟨fun e => absurd hlt (by rw [e]; exact Nat.not_lt_zero _), fun e => Nat.lt_irrefl _ (e ▸ hlt)⟩
    · rintro r h' tk' F' N' K' q' ⟨t, rfl⟩
      exact EndP.ret F' fun _ => ⟨t, rfl⟩

end
section
open PySem PySem.Sre
noncomputable def it : Nat → M → M
  | 0, m => m
  | n + 1, m => it n m.step
theorem step_done {m : M} (h : m.outcome.isSome = true) : m.step = m := by
  unfold M.step; rw [if_pos h]
theorem it_done : ∀ (n : Nat) {m : M}, m.outcome.isSome = true → it n m = m
  | 0, _, _ => rfl
  | n + 1, m, h => by show it n m.step = m; rw [step_done h]; exact it_done n h
theorem it_add : ∀ (a b : Nat) (m : M), it (a + b) m = it b (it a m)
  | 0, b, m => by rw [Nat.zero_add]; rfl
  | a + 1, b, m => by rw [Nat.add_right_comm]; exact it_add a b m.step
theorem runFor_it : ∀ (n : Nat) (m : M), m.runFor n = it n m
  | 0, _ => rfl
  | n + 1, m => by
    show (if m.outcome.isSome then m else M.runFor n m.step) = it n m.step
    by_cases h : m.outcome.isSome = true
    · rw [if_pos h, step_done h, it_done n h]
    · rw [if_neg h, runFor_it n]

noncomputable def c1 : Array Nat := #[14, 4, 0, 1, 1, 6, 1, 16, 46, 1]
noncomputable def mk1 (t : Array Nat) (p : Nat) (b : Bool) (sn : Sre.Seen) : M :=
  { code := c1, text := t, lim := t.size, start := p, lastStart := t.size, pc := 5, pos := p, handed := p, outermost := b, marks := #[], frames := [{ wait := .nextStart, pc := 5, pos := p, outermost := b }], weight := 1, seen := sn }


theorem s1a (t : Array Nat) (p : Nat) (b : Bool) (sn : Sre.Seen) : M.step (mk1 t p b sn) =
    (if (p == 0 || t.getD (p - 1) 0 == 10) = true then { mk1 t p b ((sn.add 6).add 44) with pc := 7 } else { mk1 t p b ((sn.add 6).add 44) with answer := some false }) := by
  rfl
theorem s1b (t : Array Nat) (p : Nat) (b : Bool) (sn : Sre.Seen) : M.step { mk1 t p b sn with pc := 7 } =
    (if p ≥ t.size then { mk1 t p b (sn.add 16) with pc := 7, answer := some false } else
      match (t.getD p 0 == 46) with | true => { mk1 t p b (sn.add 16) with pc := 9, pos := p + 1 } | false => { mk1 t p b (sn.add 16) with pc := 7, answer := some false }) := by
  show (if p ≥ t.size then _ else _) = _
  by_cases h : p ≥ t.size
  · rw [if_pos h, if_pos h]; rfl
  · rw [if_neg h, if_neg h]
    have e : Sre.accepts c1 7 (t.getD p 0) (sn.add 16) = .ok (t.getD p 0 == 46, sn.add 16) := rfl
    simp only [mk1]
    cases e2 : (t.getD p 0 == 46) with
    | true =>
      rw [e2] at e
      have e3 : Sre.accepts c1 7 (t.getD p 0) (sn.add (M.word (mk1 t p b sn) 2)) = .ok (true, sn.add 16) := e
      simp only [M.word, mk1] at e3
      simp only [M.word]
      rw [e3]
      rfl
    | false =>
      rw [e2] at e
      have e3 : Sre.accepts c1 7 (t.getD p 0) (sn.add (M.word (mk1 t p b sn) 2)) = .ok (false, sn.add 16) := e
      simp only [M.word, mk1] at e3
      simp only [M.word]
      rw [e3]
      rfl
theorem s1c (t : Array Nat) (p : Nat) (b : Bool) (sn : Sre.Seen) : M.step { mk1 t p b sn with pc := 9, pos := p + 1 } = { mk1 t p b (sn.add 1) with pc := 9, pos := p + 1, handed := p + 1, answer := some true } := by
  cases b <;> rfl
theorem s1d (t : Array Nat) (p : Nat) (b : Bool) (sn : Sre.Seen) : M.step { mk1 t p b sn with pc := 9, pos := p + 1, handed := p + 1, answer := some true } = { mk1 t p b sn with handed := p + 1, answer := some true, frames := [], weight := 0 } := rfl
theorem s1e (t : Array Nat) (p : Nat) (b : Bool) (sn : Sre.Seen) : M.step { mk1 t p b sn with handed := p + 1, answer := some true, frames := [], weight := 0 } = { mk1 t p b sn with handed := p + 1, answer := some true, frames := [], weight := 0, outcome := some .matched } := rfl
theorem s1f (t : Array Nat) (p : Nat) (b : Bool) (sn : Sre.Seen) (k : Nat) : M.step { mk1 t p b sn with pc := k, answer := some false } = (if p < t.size then mk1 t (p + 1) false sn else { mk1 t p b sn with answer := some false, frames := [], weight := 0 }) := by
  show (if p < t.size then _ else _) = _
  by_cases h : p < t.size
  · rw [if_pos h, if_pos h]; rfl
  · rw [if_neg h, if_neg h]; rfl
theorem s1f0 (t : Array Nat) (p : Nat) (b : Bool) (sn : Sre.Seen) : M.step { mk1 t p b sn with answer := some false } = (if p < t.size then mk1 t (p + 1) false sn else { mk1 t p b sn with answer := some false, frames := [], weight := 0 }) := s1f t p b sn 5
theorem s1g (t : Array Nat) (p : Nat) (b : Bool) (sn : Sre.Seen) : M.step { mk1 t p b sn with answer := some false, frames := [], weight := 0 } = { mk1 t p b sn with answer := some false, frames := [], weight := 0, outcome := some .failed } := rfl

noncomputable def at1 (t : Array Nat) (p : Nat) : Bool := (p == 0 || t.getD (p - 1) 0 == 10) && decide (p < t.size) && t.getD p 0 == 46

theorem hit1 (t : Array Nat) (p : Nat) (b : Bool) (sn : Sre.Seen) (h : at1 t p = true) :
    ∃ sn', it 5 (mk1 t p b sn) = { mk1 t p b sn' with handed := p + 1, answer := some true, frames := [], weight := 0, outcome := some .matched } := by
  simp only [at1, Bool.and_eq_true, decide_eq_true_eq] at h
  obtain ⟨⟨h1, h2⟩, h3⟩ := h
  refine ⟨((((sn.add 6).add 44).add 16).add 1), ?_⟩
  show it 4 (M.step (mk1 t p b sn)) = _
  rw [s1a, if_pos h1]
  show it 3 (M.step _) = _
  rw [s1b, if_neg (by omega), h3]
  show it 2 (M.step _) = _
  rw [s1c]
  show it 1 (M.step _) = _
  rw [s1d]
  show it 0 (M.step _) = _
  rw [s1e]; rfl
theorem miss1 (t : Array Nat) (p : Nat) (b : Bool) (sn : Sre.Seen) (h : at1 t p = false) (hp : p < t.size) : ∃ sn' k, k ≤ 3 ∧ it k (mk1 t p b sn) = mk1 t (p + 1) false sn' := by
  cases h1 : (p == 0 || t.getD (p - 1) 0 == 10) with
  | false =>
    refine ⟨((sn.add 6).add 44), 2, by omega, ?_⟩
    show it 1 (M.step (mk1 t p b sn)) = _
    rw [s1a, h1, if_neg Bool.false_ne_true]
    show it 0 (M.step _) = _
    rw [s1f0, if_pos hp]; rfl
  | true =>
    have h3 : (t.getD p 0 == 46) = false := by
      unfold at1 at h; rw [h1, decide_eq_true hp, Bool.true_and, Bool.true_and] at h; exact h
    refine ⟨(((sn.add 6).add 44).add 16), 3, by omega, ?_⟩
    show it 2 (M.step (mk1 t p b sn)) = _
    rw [s1a, h1, if_pos rfl]
    show it 1 (M.step _) = _
    rw [s1b, if_neg (by omega), h3]
    show it 0 (M.step _) = _
    rw [s1f _ _ _ _ 7, if_pos hp]; rfl
theorem end1 (t : Array Nat) (b : Bool) (sn : Sre.Seen) : ∃ k, k ≤ 4 ∧ (it k (mk1 t t.size b sn)).outcome = some .failed := by
  cases h1 : (t.size == 0 || t.getD (t.size - 1) 0 == 10) with
  | false =>
    refine ⟨3, by omega, ?_⟩
    show (it 2 (M.step (mk1 t t.size b sn))).outcome = _
    rw [s1a, h1, if_neg Bool.false_ne_true]
    show (it 1 (M.step _)).outcome = _
    rw [s1f0, if_neg (Nat.lt_irrefl _)]
    show (it 0 (M.step _)).outcome = _
    rw [s1g]; rfl
  | true =>
    refine ⟨4, by omega, ?_⟩
    show (it 3 (M.step (mk1 t t.size b sn))).outcome = _
    rw [s1a, h1, if_pos rfl]
    show (it 2 (M.step _)).outcome = _
    rw [s1b, if_pos (Nat.le_refl _)]
    show (it 1 (M.step _)).outcome = _
    rw [s1f _ _ _ _ 7, if_neg (Nat.lt_irrefl _)]
    show (it 0 (M.step _)).outcome = _
    rw [s1g]; rfl

/-- the first place from p on where the pattern lies, with n places to look at -/
noncomputable def find1 (t : Array Nat) : (n p : Nat) → Option Nat
  | 0, _ => none
  | n + 1, p => if at1 t p = true then some p else find1 t n (p + 1)

theorem run1 (t : Array Nat) : ∀ (n p : Nat) (b : Bool) (sn : Sre.Seen), p + n = t.size → ∃ k, k ≤ 3 * n + 5 ∧ (match find1 t n p with
    | some q => ∃ sn' b', it k (mk1 t p b sn) = { mk1 t q b' sn' with handed := q + 1, answer := some true, frames := [], weight := 0, outcome := some .matched }
    | none => (it k (mk1 t p b sn)).outcome = some .failed)
  | 0, p, b, sn, hp => by
    have : p = t.size := by omega
    subst this
    obtain ⟨k, hk, e⟩ := end1 t b sn
    exact ⟨k, by omega, e⟩
  | n + 1, p, b, sn, hp => by
    cases h : at1 t p with
    | true =>
      obtain ⟨sn', e⟩ := hit1 t p b sn h
      refine ⟨5, by omega, ?_⟩
      simp only [find1, h, if_true]
      exact ⟨sn', b, e⟩
    | false =>
      obtain ⟨sn', k₀, hk₀, e⟩ := miss1 t p b sn h (by omega)
      obtain ⟨k, hk, r⟩ := run1 t n (p + 1) false sn' (by omega)
      refine ⟨k₀ + k, by omega, ?_⟩
      simp only [find1, h, Bool.false_eq_true, if_false]
      rw [it_add, e]
      exact r
noncomputable def c2 : Array Nat := #[14, 9, 4, 1, 2, 16, 10, 16, 13, 0, 7, 7, 16, 13, 16, 10, 15, 18, 5, 16, 10, 15, 13, 11, 16, 13, 5, 5, 0, 16, 10, 1, 15, 2, 0, 1]
noncomputable abbrev S2 (t : Array Nat) (q pc pos hd : Nat) (ob : Bool) (fs : List Sre.Frame) (wt : Nat) (an : Option Bool) (sn : Sre.Seen) : M :=
  { code := c2, text := t, lim := t.size, start := q, lastStart := t.size, pc, pos, handed := hd, outermost := ob, marks := #[], frames := fs, weight := wt, answer := an, seen := sn }
noncomputable abbrev f0 (q : Nat) : Sre.Frame := { wait := .nextStart, pc := 10, pos := q, outermost := true }
noncomputable abbrev fB (q k : Nat) : Sre.Frame := { wait := .nextBranch, pc := k, pos := q, outermost := true }
noncomputable abbrev fL (p : Nat) : Sre.Frame := { wait := .lookNot, pc := 26, pos := p, outermost := true }
theorem lit12 (t : Array Nat) (q pos hd : Nat) (ob : Bool) (fs : List Sre.Frame) (wt : Nat) (sn : Sre.Seen) : M.step (S2 t q 12 pos hd ob fs wt none sn) =
    (if pos ≥ t.size then S2 t q 12 pos hd ob fs wt (some false) (sn.add 16) else
      match (t.getD pos 0 == 13) with | true => S2 t q 14 (pos + 1) hd ob fs wt none (sn.add 16) | false => S2 t q 12 pos hd ob fs wt (some false) (sn.add 16)) := by
  show (if pos ≥ t.size then _ else _) = _
  by_cases h : pos ≥ t.size
  · rw [if_pos h, if_pos h]; rfl
  · rw [if_neg h, if_neg h]
    have e : Sre.accepts c2 12 (t.getD pos 0) (sn.add 16) = .ok (t.getD pos 0 == 13, sn.add 16) := rfl
    simp only [S2]
    cases e2 : (t.getD pos 0 == 13) with
    | true =>
      rw [e2] at e
      have e3 : Sre.accepts c2 12 (t.getD pos 0) (sn.add (M.word (S2 t q 12 pos hd ob fs wt none sn) 0)) = .ok (true, sn.add 16) := e
      simp only [M.word] at e3
      simp only [M.word]
      rw [e3]
      rfl
    | false =>
      rw [e2] at e
      have e3 : Sre.accepts c2 12 (t.getD pos 0) (sn.add (M.word (S2 t q 12 pos hd ob fs wt none sn) 0)) = .ok (false, sn.add 16) := e
      simp only [M.word] at e3
      simp only [M.word]
      rw [e3]
      rfl
theorem lit14 (t : Array Nat) (q pos hd : Nat) (ob : Bool) (fs : List Sre.Frame) (wt : Nat) (sn : Sre.Seen) : M.step (S2 t q 14 pos hd ob fs wt none sn) =
    (if pos ≥ t.size then S2 t q 14 pos hd ob fs wt (some false) (sn.add 16) else
      match (t.getD pos 0 == 10) with | true => S2 t q 16 (pos + 1) hd ob fs wt none (sn.add 16) | false => S2 t q 14 pos hd ob fs wt (some false) (sn.add 16)) := by
  show (if pos ≥ t.size then _ else _) = _
  by_cases h : pos ≥ t.size
  · rw [if_pos h, if_pos h]; rfl
  · rw [if_neg h, if_neg h]
    have e : Sre.accepts c2 14 (t.getD pos 0) (sn.add 16) = .ok (t.getD pos 0 == 10, sn.add 16) := rfl
    simp only [S2]
    cases e2 : (t.getD pos 0 == 10) with
    | true =>
      rw [e2] at e
      have e3 : Sre.accepts c2 14 (t.getD pos 0) (sn.add (M.word (S2 t q 14 pos hd ob fs wt none sn) 0)) = .ok (true, sn.add 16) := e
      simp only [M.word] at e3
      simp only [M.word]
      rw [e3]
      rfl
    | false =>
      rw [e2] at e
      have e3 : Sre.accepts c2 14 (t.getD pos 0) (sn.add (M.word (S2 t q 14 pos hd ob fs wt none sn) 0)) = .ok (false, sn.add 16) := e
      simp only [M.word] at e3
      simp only [M.word]
      rw [e3]
      rfl
theorem lit19 (t : Array Nat) (q pos hd : Nat) (ob : Bool) (fs : List Sre.Frame) (wt : Nat) (sn : Sre.Seen) : M.step (S2 t q 19 pos hd ob fs wt none sn) =
    (if pos ≥ t.size then S2 t q 19 pos hd ob fs wt (some false) (sn.add 16) else
      match (t.getD pos 0 == 10) with | true => S2 t q 21 (pos + 1) hd ob fs wt none (sn.add 16) | false => S2 t q 19 pos hd ob fs wt (some false) (sn.add 16)) := by
  show (if pos ≥ t.size then _ else _) = _
  by_cases h : pos ≥ t.size
  · rw [if_pos h, if_pos h]; rfl
  · rw [if_neg h, if_neg h]
    have e : Sre.accepts c2 19 (t.getD pos 0) (sn.add 16) = .ok (t.getD pos 0 == 10, sn.add 16) := rfl
    simp only [S2]
    cases e2 : (t.getD pos 0 == 10) with
    | true =>
      rw [e2] at e
      have e3 : Sre.accepts c2 19 (t.getD pos 0) (sn.add (M.word (S2 t q 19 pos hd ob fs wt none sn) 0)) = .ok (true, sn.add 16) := e
      simp only [M.word] at e3
      simp only [M.word]
      rw [e3]
      rfl
    | false =>
      rw [e2] at e
      have e3 : Sre.accepts c2 19 (t.getD pos 0) (sn.add (M.word (S2 t q 19 pos hd ob fs wt none sn) 0)) = .ok (false, sn.add 16) := e
      simp only [M.word] at e3
      simp only [M.word]
      rw [e3]
      rfl
theorem lit24 (t : Array Nat) (q pos hd : Nat) (ob : Bool) (fs : List Sre.Frame) (wt : Nat) (sn : Sre.Seen) : M.step (S2 t q 24 pos hd ob fs wt none sn) =
    (if pos ≥ t.size then S2 t q 24 pos hd ob fs wt (some false) (sn.add 16) else
      match (t.getD pos 0 == 13) with | true => S2 t q 26 (pos + 1) hd ob fs wt none (sn.add 16) | false => S2 t q 24 pos hd ob fs wt (some false) (sn.add 16)) := by
  show (if pos ≥ t.size then _ else _) = _
  by_cases h : pos ≥ t.size
  · rw [if_pos h, if_pos h]; rfl
  · rw [if_neg h, if_neg h]
    have e : Sre.accepts c2 24 (t.getD pos 0) (sn.add 16) = .ok (t.getD pos 0 == 13, sn.add 16) := rfl
    simp only [S2]
    cases e2 : (t.getD pos 0 == 13) with
    | true =>
      rw [e2] at e
      have e3 : Sre.accepts c2 24 (t.getD pos 0) (sn.add (M.word (S2 t q 24 pos hd ob fs wt none sn) 0)) = .ok (true, sn.add 16) := e
      simp only [M.word] at e3
      simp only [M.word]
      rw [e3]
      rfl
    | false =>
      rw [e2] at e
      have e3 : Sre.accepts c2 24 (t.getD pos 0) (sn.add (M.word (S2 t q 24 pos hd ob fs wt none sn) 0)) = .ok (false, sn.add 16) := e
      simp only [M.word] at e3
      simp only [M.word]
      rw [e3]
      rfl
theorem lit29 (t : Array Nat) (q pos hd : Nat) (ob : Bool) (fs : List Sre.Frame) (wt : Nat) (sn : Sre.Seen) : M.step (S2 t q 29 pos hd ob fs wt none sn) =
    (if pos ≥ t.size then S2 t q 29 pos hd ob fs wt (some false) (sn.add 16) else
      match (t.getD pos 0 == 10) with | true => S2 t q 31 (pos + 1) hd ob fs wt none (sn.add 16) | false => S2 t q 29 pos hd ob fs wt (some false) (sn.add 16)) := by
  show (if pos ≥ t.size then _ else _) = _
  by_cases h : pos ≥ t.size
  · rw [if_pos h, if_pos h]; rfl
  · rw [if_neg h, if_neg h]
    have e : Sre.accepts c2 29 (t.getD pos 0) (sn.add 16) = .ok (t.getD pos 0 == 10, sn.add 16) := rfl
    simp only [S2]
    cases e2 : (t.getD pos 0 == 10) with
    | true =>
      rw [e2] at e
      have e3 : Sre.accepts c2 29 (t.getD pos 0) (sn.add (M.word (S2 t q 29 pos hd ob fs wt none sn) 0)) = .ok (true, sn.add 16) := e
      simp only [M.word] at e3
      simp only [M.word]
      rw [e3]
      rfl
    | false =>
      rw [e2] at e
      have e3 : Sre.accepts c2 29 (t.getD pos 0) (sn.add (M.word (S2 t q 29 pos hd ob fs wt none sn) 0)) = .ok (false, sn.add 16) := e
      simp only [M.word] at e3
      simp only [M.word]
      rw [e3]
      rfl

theorem br0 (t : Array Nat) (q : Nat) (sn : Sre.Seen) : M.step (S2 t q 10 q q true [f0 q] 1 none sn) = S2 t q 12 q q true [fB q 11, f0 q] 2 none (sn.add 7) := rfl
theorem br1 (t : Array Nat) (q pos hd pc : Nat) (ob : Bool) (sn : Sre.Seen) : M.step (S2 t q pc pos hd ob [fB q 11, f0 q] 2 (some false) sn) = S2 t q 19 q q true [fB q 18, f0 q] 2 none sn := rfl
theorem br2 (t : Array Nat) (q pos hd pc : Nat) (ob : Bool) (sn : Sre.Seen) : M.step (S2 t q pc pos hd ob [fB q 18, f0 q] 2 (some false) sn) = S2 t q 24 q q true [fB q 23, f0 q] 2 none sn := rfl
theorem jmp16 (t : Array Nat) (q pos hd : Nat) (ob : Bool) (fs : List Sre.Frame) (wt : Nat) (sn : Sre.Seen) : M.step (S2 t q 16 pos hd ob fs wt none sn) = S2 t q 35 pos hd ob fs wt none (sn.add 15) := rfl
theorem jmp21 (t : Array Nat) (q pos hd : Nat) (ob : Bool) (fs : List Sre.Frame) (wt : Nat) (sn : Sre.Seen) : M.step (S2 t q 21 pos hd ob fs wt none sn) = S2 t q 35 pos hd ob fs wt none (sn.add 15) := rfl
theorem jmp32 (t : Array Nat) (q pos hd : Nat) (ob : Bool) (fs : List Sre.Frame) (wt : Nat) (sn : Sre.Seen) : M.step (S2 t q 32 pos hd ob fs wt none sn) = S2 t q 35 pos hd ob fs wt none (sn.add 15) := rfl
theorem suc2 (t : Array Nat) (q pos hd : Nat) (fs : List Sre.Frame) (wt : Nat) (sn : Sre.Seen) : M.step (S2 t q 35 pos hd true fs wt none sn) = S2 t q 35 pos pos true fs wt (some true) (sn.add 1) := rfl
theorem up2 (t : Array Nat) (q k pos hd pc : Nat) (ob : Bool) (sn : Sre.Seen) : M.step (S2 t q pc pos hd ob [fB q k, f0 q] 2 (some true) sn) = S2 t q k q hd true [f0 q] 1 (some true) sn := rfl
theorem up1 (t : Array Nat) (q pos hd pc : Nat) (ob : Bool) (sn : Sre.Seen) : M.step (S2 t q pc pos hd ob [f0 q] 1 (some true) sn) = S2 t q 10 q hd true [] 0 (some true) sn := rfl
theorem up0 (t : Array Nat) (q pos hd pc : Nat) (ob : Bool) (sn : Sre.Seen) : M.step (S2 t q pc pos hd ob [] 0 (some true) sn) = { S2 t q pc pos hd ob [] 0 (some true) sn with outcome := some .matched } := rfl
theorem asn (t : Array Nat) (q p hd : Nat) (sn : Sre.Seen) : M.step (S2 t q 26 p hd true [fB q 23, f0 q] 2 none sn) = S2 t q 29 p p false [fL p, fB q 23, f0 q] 3 none (sn.add 5) := rfl
theorem asn' (t : Array Nat) (q p hd pos pc : Nat) (ob : Bool) (sn : Sre.Seen) : M.step (S2 t q pc pos hd ob [fL p, fB q 23, f0 q] 3 (some false) sn) = S2 t q 32 p hd true [fB q 23, f0 q] 2 none sn := rfl

/-- how long the line's end at q is -/
noncomputable def len2 (t : Array Nat) (q : Nat) : Nat := if t.getD q 0 = 13 ∧ q + 1 < t.size ∧ t.getD (q + 1) 0 = 10 then 2 else 1

theorem att2 (t : Array Nat) (q : Nat) (sn : Sre.Seen) (hq : q < t.size) (hc : t.getD q 0 = 10 ∨ t.getD q 0 = 13) :
    ∃ sn' k, k ≤ 20 ∧ it k (S2 t q 10 q q true [f0 q] 1 none sn) = { S2 t q 10 q (q + len2 t q) true [] 0 (some true) sn' with outcome := some .matched } := by
  have g : ¬ q ≥ t.size := by omega
  by_cases h13 : t.getD q 0 = 13
  · have b13 : (t.getD q 0 == 13) = true := by simp [h13]
    have b10 : (t.getD q 0 == 10) = false := by simp [h13]
    by_cases h2 : q + 1 < t.size ∧ t.getD (q + 1) 0 = 10
    · have l2 : len2 t q = 2 := by unfold len2; rw [if_pos ⟨h13, h2⟩]
      have b2 : (t.getD (q + 1) 0 == 10) = true := by simp [h2.2]
      refine ⟨(((((sn.add 7).add 16).add 16).add 15).add 1), 8, by omega, ?_⟩
      show it 7 (M.step (S2 t q 10 q q true [f0 q] 1 none sn)) = _
      rw [br0]; show it 6 (M.step _) = _
      rw [lit12, if_neg g, b13]; show it 5 (M.step (S2 t q 14 (q + 1) q true _ 2 none _)) = _
      rw [lit14, if_neg (by omega), b2]; show it 4 (M.step (S2 t q 16 (q + 1 + 1) q true _ 2 none _)) = _
      rw [jmp16]; show it 3 (M.step _) = _
      rw [suc2]; show it 2 (M.step _) = _
      rw [up2]; show it 1 (M.step _) = _
      rw [up1]; show it 0 (M.step _) = _
      rw [up0, l2]; rfl
    · have l2 : len2 t q = 1 := by unfold len2; rw [if_neg (fun x => h2 x.2)]
      have fail10 : ∀ pc hd ob fs wt sn, M.step (S2 t q 14 (q + 1) hd ob fs wt none sn) = S2 t q 14 (q + 1) hd ob fs wt (some false) (sn.add 16) ∧ (pc = 29 → M.step (S2 t q 29 (q + 1) hd ob fs wt none sn) = S2 t q 29 (q + 1) hd ob fs wt (some false) (sn.add 16)) := by
        intro pc hd ob fs wt sn
        by_cases hs : q + 1 ≥ t.size
        · exact ⟨by rw [lit14, if_pos hs], fun _ => by rw [lit29, if_pos hs]⟩
        · have b2 : (t.getD (q + 1) 0 == 10) = false := by
            cases e : (t.getD (q + 1) 0 == 10) with
            | false => rfl
            | true => exact absurd ⟨by omega, by simpa using e⟩ h2
          exact ⟨by rw [lit14, if_neg hs, b2], fun _ => by rw [lit29, if_neg hs, b2]⟩
      refine ⟨(((((((((sn.add 7).add 16).add 16).add 16).add 16).add 5).add 16).add 15).add 1), 15, by omega, ?_⟩
      show it 14 (M.step (S2 t q 10 q q true [f0 q] 1 none sn)) = _
      rw [br0]; show it 13 (M.step _) = _
      rw [lit12, if_neg g, b13]; show it 12 (M.step (S2 t q 14 (q + 1) q true _ 2 none _)) = _
      rw [(fail10 0 _ _ _ _ _).1]; show it 11 (M.step _) = _
      rw [br1]; show it 10 (M.step _) = _
      rw [lit19, if_neg g, b10]; show it 9 (M.step (S2 t q 19 q q true _ 2 (some false) _)) = _
      rw [br2]; show it 8 (M.step _) = _
      rw [lit24, if_neg g, b13]; show it 7 (M.step (S2 t q 26 (q + 1) q true _ 2 none _)) = _
      rw [asn]; show it 6 (M.step _) = _
      rw [(fail10 29 _ _ _ _ _).2 rfl]; show it 5 (M.step _) = _
      rw [asn']; show it 4 (M.step _) = _
      rw [jmp32]; show it 3 (M.step _) = _
      rw [suc2]; show it 2 (M.step _) = _
      rw [up2]; show it 1 (M.step _) = _
      rw [up1]; show it 0 (M.step _) = _
      rw [up0, l2]; rfl
  · have h10 : t.getD q 0 = 10 := hc.resolve_right h13
    have b13 : (t.getD q 0 == 13) = false := by simp [h10]
    have b10 : (t.getD q 0 == 10) = true := by simp [h10]
    have l2 : len2 t q = 1 := by unfold len2; rw [if_neg (fun x => h13 x.1)]
    refine ⟨(((((sn.add 7).add 16).add 16).add 15).add 1), 9, by omega, ?_⟩
    show it 8 (M.step (S2 t q 10 q q true [f0 q] 1 none sn)) = _
    rw [br0]; show it 7 (M.step _) = _
    rw [lit12, if_neg g, b13]; show it 6 (M.step (S2 t q 12 q q true _ 2 (some false) _)) = _
    rw [br1]; show it 5 (M.step _) = _
    rw [lit19, if_neg g, b10]; show it 4 (M.step (S2 t q 21 (q + 1) q true _ 2 none _)) = _
    rw [jmp21]; show it 3 (M.step _) = _
    rw [suc2]; show it 2 (M.step _) = _
    rw [up2]; show it 1 (M.step _) = _
    rw [up1]; show it 0 (M.step _) = _
    rw [up0, l2]; rfl

end
section
open PySem PySem.Sre
/- the search machines -/
noncomputable def is2 (c : Nat) : Bool := c == 10 || c == 13
noncomputable def find2 (t : Array Nat) : (n p : Nat) → Option Nat
  | 0, _ => none
  | n + 1, p => if is2 (t.getD p 0) = true then some p else find2 t n (p + 1)

theorem inSet2 (c : Nat) (sn : Sre.Seen) : ∃ sn', inSet c2 c 36 5 true sn = .ok (is2 c, sn') := by
  unfold is2
  cases e1 : (c == 10) with
  | true =>
    refine ⟨sn.add 16, ?_⟩
    have : inSet c2 c 36 5 true sn = (if (c == 10) = true then .ok (true, sn.add 16) else inSet c2 c 35 7 true (sn.add 16)) := rfl
    rw [this, if_pos e1]; rfl
  | false =>
    have h1 : inSet c2 c 36 5 true sn = (if (c == 10) = true then .ok (true, sn.add 16) else inSet c2 c 35 7 true (sn.add 16)) := rfl
    have h2 : ∀ sn, inSet c2 c 35 7 true sn = (if (c == 13) = true then .ok (true, sn.add 16) else inSet c2 c 34 9 true (sn.add 16)) := fun _ => rfl
    cases e2 : (c == 13) with
    | true => exact ⟨_, by rw [h1, e1, if_neg Bool.false_ne_true, h2, if_pos e2]; rfl⟩
    | false => exact ⟨_, by rw [h1, e1, if_neg Bool.false_ne_true, h2, e2, if_neg Bool.false_ne_true]; rfl⟩

theorem adm2 (m : M) (t : Array Nat) (hm : m.code = c2) (ht : m.text = t) (hl : m.lim = t.size) : ∀ (n p : Nat) (sn : Sre.Seen), p + n = t.size → ∃ sn', M.admitted m (n + 1) p sn = .ok (find2 t n p, sn')
  | 0, p, sn, h => by
    refine ⟨sn, ?_⟩
    unfold M.admitted
    rw [if_pos (by rw [hl]; omega)]; rfl
  | n + 1, p, sn, h => by
    obtain ⟨sn1, e1⟩ := inSet2 (t.getD p 0) sn
    unfold M.admitted
    rw [if_neg (by rw [hl]; omega)]
    have e2 : inSet m.code (m.text.getD p 0) m.code.size 5 true sn = .ok (is2 (t.getD p 0), sn1) := by rw [hm, ht]; exact e1
    rw [e2]
    cases h2 : is2 (t.getD p 0) with
    | true => exact ⟨sn1, by simp only [find2, h2, if_true]⟩
    | false =>
      obtain ⟨sn2, e3⟩ := adm2 m t hm ht hl n (p + 1) sn1 (by omega)
      exact ⟨sn2, by simp only [find2, h2, Bool.false_eq_true, if_false]; exact e3⟩

theorem find2_spec (t : Array Nat) : ∀ (n p q : Nat), find2 t n p = some q → p ≤ q ∧ q < p + n ∧ is2 (t.getD q 0) = true
  | 0, p, q, h => nomatch h
  | n + 1, p, q, h => by
    simp only [find2] at h
    split at h
    · cases h; exact ⟨Nat.le_refl _, by omega, by assumption⟩
    · have := find2_spec t n (p + 1) q h; exact ⟨by omega, by omega, this.2.2⟩

/-- what a search gives: where it begins, where it ends -/
noncomputable def FoundAt (m : M) : Option (Nat × Nat) → Prop
  | some (b, e) => m.outcome = some .matched ∧ m.start = b ∧ m.handed = e
  | none => m.outcome = some .failed
noncomputable def Found (m : M) (r : Option (Nat × Nat)) : Prop := ∃ k, k ≤ 2 ^ 40 ∧ FoundAt (it k m) r

theorem say_found {m : M} (ho : m.outcome = none) (hf : m.frames = []) : Found (m.say false) none := by
  refine ⟨1, by decide, ?_⟩
  show (M.step (m.say false)).outcome = _
  unfold M.step M.say
  simp [ho, hf]

theorem search2 (t : Array Nat) (p : Nat) (hp : p ≤ t.size) : Found (forSearch c2 t 0 p t.size false) ((find2 t (t.size - p) p).map fun q => (q, q + len2 t q)) := by
  by_cases h0 : t.size - p < 1
  · have e0 : t.size - p = 0 := by omega
    rw [e0]
    unfold forSearch
    dsimp only
    rw [if_pos (by have hh : (header c2).1 = 1 := rfl; have hh1 : (header c1).1 = 1 := rfl; (try rw [hh]); (try rw [hh1]); simp; omega)]
    exact say_found rfl rfl
  · have e1 : forSearch c2 t 0 p t.size false = M.attemptFrom { code := c2, text := t, lim := t.size, start := p, lastStart := t.size, pc := 10, pos := p, handed := p, marks := #[], seen := ({} : Sre.Seen).add 14 } p true := by
      unfold forSearch
      dsimp only
      rw [if_neg (by have hh : (header c2).1 = 1 := rfl; have hh1 : (header c1).1 = 1 := rfl; (try rw [hh]); (try rw [hh1]); simp; omega)]
      rfl
    rw [e1]
    generalize hm : ({ code := c2, text := t, lim := t.size, start := p, lastStart := t.size, pc := 10, pos := p, handed := p, marks := #[], seen := ({} : Sre.Seen).add 14 } : M) = m
    obtain ⟨sn', e2⟩ := adm2 m t (by rw [← hm]) (by rw [← hm]) (by rw [← hm]) (t.size - p) p m.seen (by omega)
    have e3 : t.size + 1 - p = t.size - p + 1 := by omega
    unfold M.attemptFrom
    rw [if_neg (by rw [show m.hasFirstSet = true from by rw [← hm]; rfl]; decide), show m.lim = t.size from by rw [← hm], e3, e2]
    cases hf : find2 t (t.size - p) p with
    | none => exact say_found (by rw [← hm]) (by rw [← hm])
    | some q =>
      obtain ⟨h1, h2, h3⟩ := find2_spec t _ _ _ hf
      have hc : t.getD q 0 = 10 ∨ t.getD q 0 = 13 := by simpa [is2] using h3
      obtain ⟨sn2, k, hk, e4⟩ := att2 t q sn' (by omega) hc
      refine ⟨k, by omega, ?_⟩
      have e5 : M.attemptAt { m with mustAdvance := false, seen := sn' } q true = S2 t q 10 q q true [f0 q] 1 none sn' := by rw [← hm]; rfl
      show FoundAt (it k (M.attemptAt { m with lim := t.size, mustAdvance := false, seen := sn' } q true)) (some (q, q + len2 t q))
      have e6 : ({ m with lim := t.size, mustAdvance := false, seen := sn' } : M) = { m with mustAdvance := false, seen := sn' } := by rw [← hm]
      rw [e6, e5, e4]
      exact ⟨rfl, rfl, rfl⟩

theorem search1 (t : Array Nat) (p : Nat) (hp : p ≤ t.size) (hsz : t.size ≤ 2 ^ 30) : Found (forSearch c1 t 0 p t.size false) ((find1 t (t.size - p) p).map fun q => (q, q + 1)) := by
  by_cases h0 : t.size - p < 1
  · have e0 : t.size - p = 0 := by omega
    rw [e0]
    unfold forSearch
    dsimp only
    rw [if_pos (by have hh : (header c2).1 = 1 := rfl; have hh1 : (header c1).1 = 1 := rfl; (try rw [hh]); (try rw [hh1]); simp; omega)]
    exact say_found rfl rfl
  · have e1 : forSearch c1 t 0 p t.size false = mk1 t p true (({} : Sre.Seen).add 14) := by
      unfold forSearch
      dsimp only
      rw [if_neg (by have hh : (header c2).1 = 1 := rfl; have hh1 : (header c1).1 = 1 := rfl; (try rw [hh]); (try rw [hh1]); simp; omega)]
      rfl
    rw [e1]
    obtain ⟨k, hk, r⟩ := run1 t (t.size - p) p true (({} : Sre.Seen).add 14) (by omega)
    refine ⟨k, by omega, ?_⟩
    cases hf : find1 t (t.size - p) p with
    | none => rw [hf] at r; exact r
    | some q =>
      rw [hf] at r
      obtain ⟨sn', b', e⟩ := r
      show FoundAt (it k _) (some (q, q + 1))
      rw [e]
      exact ⟨rfl, rfl, rfl⟩

end
section
open PySem PySem.Sre
noncomputable def c3 : Array Nat := #[14, 10, 4, 1, 1, 22, 0, 31, 16, 127, 0, 13, 7, 22, 0, 31, 16, 127, 0, 1]
noncomputable def c4 : Array Nat := #[14, 14, 4, 1, 1, 9, 4294966783, 0, 0, 2147483648, 0, 0, 0, 0, 0, 13, 11, 9, 4294966783, 0, 0, 2147483648, 0, 0, 0, 0, 0, 1]
/-- a text of plain signs -/
noncomputable def plainT (t : Array Nat) : Prop := ∀ p, p < t.size → 32 ≤ t.getD p 0 ∧ t.getD p 0 < 127

theorem inSet3 (c : Nat) (h : 32 ≤ c ∧ c < 127) (sn : Sre.Seen) : ∃ sn', inSet c3 c c3.size 5 true sn = .ok (false, sn') := by
  have h1 : inSet c3 c c3.size 5 true sn = (if ((decide (0 ≤ c)) && (decide (c ≤ 31))) = true then .ok (true, sn.add 22) else inSet c3 c 19 8 true (sn.add 22)) := rfl
  have h2 : ∀ sn, inSet c3 c 19 8 true sn = (if (c == 127) = true then .ok (true, sn.add 16) else inSet c3 c 18 10 true (sn.add 16)) := fun _ => rfl
  have e2 : (c == 127) = false := by simp; omega
  exact ⟨_, by rw [h1, if_neg (by simp; omega), h2, e2, if_neg Bool.false_ne_true]; rfl⟩
theorem bits4 : ∀ c, c < 127 → 32 ≤ c → (c4.getD (5 + (1 + c / 32)) 0).testBit (c % 32) = false := by decide
theorem inSet4 (c : Nat) (h : 32 ≤ c ∧ c < 127) (sn : Sre.Seen) : ∃ sn', inSet c4 c c4.size 5 true sn = .ok (false, sn') := by
  have h1 : inSet c4 c c4.size 5 true sn = (if (decide (c < 256) && (c4.getD (5 + (1 + c / 32)) 0).testBit (c % 32)) = true then .ok (true, sn.add 9) else inSet c4 c 27 14 true (sn.add 9)) := rfl
  exact ⟨_, by rw [h1, bits4 c h.2 h.1, Bool.and_false, if_neg Bool.false_ne_true]; rfl⟩

theorem adm_none (m : M) (code t : Array Nat) (hm : m.code = code) (ht : m.text = t) (hl : m.lim = t.size) (hs : ∀ c, (32 ≤ c ∧ c < 127) → ∀ sn, ∃ sn', inSet code c code.size 5 true sn = .ok (false, sn')) (hp : plainT t) :
    ∀ (n p : Nat) (sn : Sre.Seen), p + n = t.size → ∃ sn', M.admitted m (n + 1) p sn = .ok (none, sn')
  | 0, p, sn, h => by
    refine ⟨sn, ?_⟩
    unfold M.admitted
    rw [if_pos (by rw [hl]; omega)]
  | n + 1, p, sn, h => by
    obtain ⟨sn1, e1⟩ := hs (t.getD p 0) (hp p (by omega)) sn
    unfold M.admitted
    rw [if_neg (by rw [hl]; omega)]
    have e2 : inSet m.code (m.text.getD p 0) m.code.size 5 true sn = .ok (false, sn1) := by rw [hm, ht]; exact e1
    rw [e2]
    exact adm_none m code t hm ht hl hs hp n (p + 1) sn1 (by omega)

theorem searchN (code t : Array Nat) (hc : code = c3 ∨ code = c4) (hp : plainT t) : Found (forSearch code t 0 0 t.size false) none := by
  have hs : ∀ c, (32 ≤ c ∧ c < 127) → ∀ sn, ∃ sn', inSet code c code.size 5 true sn = .ok (false, sn') := by
    rcases hc with rfl | rfl
    · exact inSet3
    · exact inSet4
  have hh : (header code).1 = 1 := by rcases hc with rfl | rfl <;> rfl
  by_cases h0 : t.size < 1
  · unfold forSearch
    dsimp only
    rw [if_pos (by rw [hh, Nat.sub_zero, decide_eq_true h0, Bool.or_true])]
    exact say_found rfl rfl
  · unfold forSearch
    dsimp only
    rw [if_neg (by rw [hh, Nat.sub_zero, decide_eq_false h0, Bool.or_false]; simp)]
    generalize hm : ({ (_ : M) with lastStart := _ } : M) = m
    have ec : m.code = code := by rw [← hm]; rfl
    have et : m.text = t := by rw [← hm]; rfl
    have el : m.lim = t.size := by rw [← hm]; rfl
    have ea : m.answer = none ∧ m.outcome = none ∧ m.frames = [] := by rw [← hm]; exact ⟨rfl, rfl, rfl⟩
    obtain ⟨sn', e2⟩ := adm_none m code t ec et el hs hp t.size 0 m.seen (by omega)
    unfold M.attemptFrom
    have hf : m.hasFirstSet = true := by
      unfold M.hasFirstSet; rw [ec]; rcases hc with rfl | rfl <;> rfl
    rw [if_neg (by rw [hf]; decide), el, Nat.sub_zero, e2]
    exact say_found ea.2.1 ea.2.2

end
section
section facts
theorem slot_search : Slot "re.Pattern" "search" "re.Pattern.search" :=
  .of (owner := "re.Pattern") (n := "search") (by rw [typeLookup_type, builtinLookup_eq_fast]; kernel_rfl) (by decide +kernel) (by decide +kernel) (by decide +kernel)
    (by first | exact .inl (by decide +kernel) | exact .inr (by decide +kernel)) (by rw [isSubtype_type]; kernel_rfl)
theorem type_search : typeOf (.builtin "re.Pattern.search") = pure (.type "method_descriptor") := by show builtinType _ = _; rw [builtinType_eq_fast]; kernel_rfl
theorem entry_search : entryFor table "re.Pattern.search" = some Builtin.«re.Pattern.search» := entryFor_of_tree (by kernel_rfl)
theorem args_search (a b : Value) : argsOk "re.Pattern.search" ⟨[a, b], []⟩ := by unfold argsOk; kernel_rfl
theorem slot_sub : Slot "re.Pattern" "sub" "re.Pattern.sub" :=
  .of (owner := "re.Pattern") (n := "sub") (by rw [typeLookup_type, builtinLookup_eq_fast]; kernel_rfl) (by decide +kernel) (by decide +kernel) (by decide +kernel)
    (by first | exact .inl (by decide +kernel) | exact .inr (by decide +kernel)) (by rw [isSubtype_type]; kernel_rfl)
theorem type_sub : typeOf (.builtin "re.Pattern.sub") = pure (.type "method_descriptor") := by show builtinType _ = _; rw [builtinType_eq_fast]; kernel_rfl
theorem entry_sub : entryFor table "re.Pattern.sub" = some Builtin.«re.Pattern.sub» := entryFor_of_tree (by kernel_rfl)
theorem args_sub (a b c : Value) : argsOk "re.Pattern.sub" ⟨[a, b, c], []⟩ := by unfold argsOk; kernel_rfl
theorem entry_subloop : entryFor table "re.Pattern.sub.loop" = some Builtin.«re.Pattern.sub.loop» := entryFor_of_tree (by kernel_rfl)
theorem plain_pattern : PlainAttrs "re.Pattern" :=
  ⟨⟨"object.__getattribute__", by rw [typeLookup_type, builtinLookup_eq_fast]; kernel_rfl, by decide +kernel⟩, by rw [typeLookup_type, builtinLookup_eq_fast]; kernel_rfl⟩
end facts

section drive
variable {M : Model} {A : Around} {E : Value → Shared → Prop} {s : Shared}
theorem drive_end {Q : Sre.M → Shared → Prop} : ∀ (turns k : Nat) (m : Sre.M), k ≤ 4 * turns → (it k m).outcome.isSome = true → 0 < turns → Q (it k m) s → wpAny M A (Builtin.Re.reDrive turns m) Q E s
  | 0, _, _, _, _, h, _ => absurd h (Nat.lt_irrefl _)
  | turns + 1, k, m, hk, ho, _, hq => by
    unfold Builtin.Re.reDrive
    dsimp only
    rw [show Builtin.Re.reTurnSteps = 4 from rfl, runFor_it]
    by_cases h4 : (it 4 m).outcome.isSome = true
    · rw [if_pos h4]
      have : it 4 m = it k m := by
        rcases Nat.le_total k 4 with h | h
        · have : (4 : Nat) = k + (4 - k) := by omega
          rw [this, it_add, it_done _ ho]
        · have : k = 4 + (k - 4) := by omega
          rw [this, it_add, it_done _ h4]
      rw [this]; exact wpAny_pure hq
    · rw [if_neg h4]
      have hk4 : 4 < k := by
        rcases Nat.lt_or_ge 4 k with h | h
        · exact h
        · exfalso
          have e : (4 : Nat) = k + (4 - k) := by omega
          rw [e, it_add, it_done _ ho] at h4
          exact h4 ho
      have e : k = 4 + (k - 4) := by omega
      rw [e, it_add] at ho hq
      exact wpAny_bind (wpAny_rule (drive_end turns (k - 4) (it 4 m) (by omega) ho (by omega) hq))

theorem rules_skip {α : Type} {f : α → PUnit → Sem (ForInStep PUnit)} {Q : PUnit → Shared → Prop} (hf : ∀ a (P : ForInStep PUnit → Shared → Prop), P (.yield ⟨⟩) s → wpAny M A (f a ⟨⟩) P E s) (hq : Q ⟨⟩ s) : ∀ l : List α, wpAny M A (forIn l PUnit.unit f) Q E s
  | [] => by rw [List.forIn_nil]; exact wpAny_pure hq
  | a :: l => by
    rw [List.forIn_cons]
    exact wpAny_bind (hf a _ (rules_skip hf hq l))

theorem run_end {m : Sre.M} {r : Option (Nat × Nat)} {Q : Option Sre.M → Shared → Prop} (hf : Found m r)
    (h : match r with | some (b, e) => ∀ m', m'.outcome = some .matched → m'.start = b → m'.handed = e → Q (some m') s | none => Q none s) : wpAny M A (Builtin.Re.reRunToEnd m) Q E s := by
  obtain ⟨k, hk, hr⟩ := hf
  unfold Builtin.Re.reRunToEnd
  have ho : (it k m).outcome.isSome = true := by
    cases r with
    | none => rw [show (it k m).outcome = some .failed from hr]; rfl
    | some p => rw [show (it k m).outcome = some .matched from hr.1]; rfl
  refine wpAny_bind (drive_end (2 ^ 64) k m (by omega) ho (by decide) ?_)
  refine wpAny_bind (rules_skip (fun a P hP => ?_) ?_ _)
  · split
    · exact wpAny_bind (wpAny_rule (wpAny_pure hP))
    · exact wpAny_pure hP
  · cases r with
    | none =>
      rw [show (it k m).outcome = some .failed from hr]
      exact wpAny_pure h
    | some p =>
      rw [show (it k m).outcome = some .matched from hr.1]
      exact wpAny_pure (h _ hr.1 hr.2.1 hr.2.2)
end drive

end
section
noncomputable abbrev patO (p f : Value) (c : Addr) : Obj := { cls := .type "re.Pattern", data := .fields #[p, f, .int 0 0, .none, .none, .ref c, .int 0 0] }
noncomputable abbrev codeO (code : Array Nat) : Obj := { cls := .type "tuple", data := .seq (code.map fun (k : Nat) => Value.int (k : Int) 0) }
theorem pat99 {w : World} {h : Heap} (X : (hd.heap_1 w.params).In h) : ∃ p f, h.get? 99 = some (patO p f 98) ∧ h.get? 98 = some (codeO c1) := ⟨_, _, X 99 _ (by k_is), by
    obtain ⟨o, ho, e⟩ : ∃ o, (hd.heap_1 w.params).lookup 98 = some o ∧ o = codeO c1 := ⟨_, by k_is, by kernel_rfl⟩
    exact (X 98 o ho).trans (congrArg some e)⟩
theorem pat104 {w : World} {h : Heap} (X : (hd.heap_1 w.params).In h) : ∃ p f, h.get? 104 = some (patO p f 103) ∧ h.get? 103 = some (codeO c2) := ⟨_, _, X 104 _ (by k_is), by
    obtain ⟨o, ho, e⟩ : ∃ o, (hd.heap_1 w.params).lookup 103 = some o ∧ o = codeO c2 := ⟨_, by k_is, by kernel_rfl⟩
    exact (X 103 o ho).trans (congrArg some e)⟩
theorem pat121 {w : World} {h : Heap} (X : (hd.heap_1 w.params).In h) : ∃ p f, h.get? 121 = some (patO p f 120) ∧ h.get? 120 = some (codeO c3) := ⟨_, _, X 121 _ (by k_is), by
    obtain ⟨o, ho, e⟩ : ∃ o, (hd.heap_1 w.params).lookup 120 = some o ∧ o = codeO c3 := ⟨_, by k_is, by kernel_rfl⟩
    exact (X 120 o ho).trans (congrArg some e)⟩
theorem pat126 {w : World} {h : Heap} (X : (hd.heap_1 w.params).In h) : ∃ p f, h.get? 126 = some (patO p f 125) ∧ h.get? 125 = some (codeO c4) := ⟨_, _, X 126 _ (by k_is), by
    obtain ⟨o, ho, e⟩ : ∃ o, (hd.heap_1 w.params).lookup 125 = some o ∧ o = codeO c4 := ⟨_, by k_is, by kernel_rfl⟩
    exact (X 125 o ho).trans (congrArg some e)⟩

open PySem.Builtin.Re in
theorem named3 (id f : String) (v : Value) : reNamed id f ["string", "pos", "endpos"] 1 [v] [] = pure [some v, none, none] := by rfl

section
variable {prog : Program} {w : World} {A : Around} {E : Value → Shared → Prop} {s : Shared}
open PySem.Builtin.Re

theorem wp_neg {α : Type} {M : Model} {c : Prop} [Decidable c] {t e : Sem α} {Q : α → Shared → Prop} (h : ¬ c) (k : wpAny M A e Q E s) : wpAny M A (if c then t else e) Q E s := by rw [if_neg h]; exact k
theorem wp_pos {α : Type} {M : Model} {c : Prop} [Decidable c] {t e : Sem α} {Q : α → Shared → Prop} (h : c) (k : wpAny M A t Q E s) : wpAny M A (if c then t else e) Q E s := by rw [if_pos h]; exact k
theorem raw_code (code : Array Nat) : ((code.map fun (k : Nat) => Value.int (k : Int) 0).map reRawOf).map (·.toNat) = code := by
  rw [Array.map_map, Array.map_map]
  have : (((fun (x : Int) => x.toNat) ∘ reRawOf) ∘ fun (k : Nat) => Value.int (k : Int) 0) = id := by funext k; rfl
  rw [this, Array.map_id]

theorem target_of {id f : String} {a c : Addr} {p fl : Value} {code : Array Nat} {x : Str} {t : Tok} {Q : ReTarget → Shared → Prop} (ho : s.heap.get? a = some (patO p fl c)) (hc : s.heap.get? c = some (codeO code)) (hx : x.cps.size ≤ 2 ^ 62)
    (h : Q { pattern := .ref a, string := .str x t, code := code, text := x.cps, kind := 0, groups := 0, pos := 0, lim := x.cps.size } s) : wpAny (model prog w) A (reTarget id f ⟨[.ref a, .str x t], []⟩) Q E s := by
  unfold reTarget
  dsimp only
  rw [named3]
  refine wpAny_bind (wpAny_pure ?_)
  dsimp only
  refine wpAny_bind (wpAny_pure ?_)
  refine wpAny_bind (wpAny_pure ?_)
  refine wpAny_bind (wpAny_fieldsOf ho rfl ?_)
  unfold reTextOf
  refine wpAny_bind (wpAny_bind (wpAny_pure (wpAny_pure ?_)))
  refine wp_neg Bool.false_ne_true ?_
  refine wp_neg Bool.false_ne_true ?_
  refine wpAny_bind (wpAny_pure ?_)
  unfold reRawItems
  refine wpAny_bind (wpAny_bind (wpAny_seqItems hc rfl (wpAny_pure (wpAny_pure ?_))))
  have e1 : (((some (code.map fun (k : Nat) => Value.int (k : Int) 0)).getD #[]).map reRawOf).map (fun x => x.toNat) = code := raw_code code
  have e2 : min (2 ^ 63 - 1 : Int).toNat x.cps.size = x.cps.size := by
    have : (2 ^ 63 - 1 : Int).toNat = 9223372036854775807 := by decide
    rw [this]; omega
  dsimp only at e1 ⊢
  rw [e1, e2, show min (Int.toNat 0) x.cps.size = 0 from by simp]
  exact h
end

section
variable {prog : Program} {w : World} {A : Around} {E : Value → Shared → Prop} {s : Shared}
open PySem.Builtin.Re
theorem search_none {a c : Addr} {p fl : Value} {code : Array Nat} {x : Str} {t : Tok} {Q : Value → Shared → Prop} (ho : s.heap.get? a = some (patO p fl c)) (hc : s.heap.get? c = some (codeO code)) (hcode : code = c3 ∨ code = c4)
    (hx : plainT x.cps) (hsz : x.cps.size ≤ 2 ^ 62) (h : Q .none s) : wpAny (model prog w) A (call (.builtin "re.Pattern.search") [.ref a, .str x t]) Q E s := by
  refine wpAny_call_entry slot_search ⟨_, ho, rfl⟩ entry_search ?_ (args_search _ _)
  unfold Builtin.«re.Pattern.search»
  refine wpAny_bind (target_of ho hc hsz ?_)
  unfold reAnswer
  exact wpAny_bind (run_end (searchN code x.cps hcode hx) (wpAny_pure ⟨_, rfl, h⟩))
theorem getMethod_search {a c : Addr} {p fl : Value} {pl : Sem Bool} {Q : Value × List Value → Shared → Prop} (ho : s.heap.get? a = some (patO p fl c)) (h : Q (.builtin "re.Pattern.search", [.ref a]) s) : wpAny (model prog w) A (getMethod (.ref a) "search" pl) Q E s :=
  getMethod_builtin ⟨_, ho, rfl⟩ plain_pattern slot_search type_search (fun b e => by cases e; exact ⟨_, ho, rfl⟩) h
theorem getMethod_sub {a c : Addr} {p fl : Value} {pl : Sem Bool} {Q : Value × List Value → Shared → Prop} (ho : s.heap.get? a = some (patO p fl c)) (h : Q (.builtin "re.Pattern.sub", [.ref a]) s) : wpAny (model prog w) A (getMethod (.ref a) "sub" pl) Q E s :=
  getMethod_builtin ⟨_, ho, rfl⟩ plain_pattern slot_sub type_sub (fun b e => by cases e; exact ⟨_, ho, rfl⟩) h
end

end
section
open PySem.Builtin.Re PySem.Builtin.Str
noncomputable def pcs (fnd : Nat → Option (Nat × Nat)) (t : Array Nat) (r : Str) : (n d : Nat) → List Str
  | 0, _ => []
  | n + 1, d => match fnd d with
    | some (b, e) => (if d < b then [(⟨t.extract d b⟩ : Str)] else []) ++ r :: pcs fnd t r n e
    | none => if d < t.size then [⟨t.extract d t.size⟩] else []

noncomputable def GoodFnd (fnd : Nat → Option (Nat × Nat)) (t : Array Nat) : Prop := ∀ p b e, p ≤ t.size → fnd p = some (b, e) → p ≤ b ∧ b < e ∧ e ≤ t.size

section
variable {prog : Program} {w : World} {A : Around} {E : Value → Shared → Prop} {s : Shared}
theorem whole_of {a c : Addr} {p fl : Value} {code : Array Nat} {x : Str} {t : Tok} {Q : ReTarget → Shared → Prop} (ho : s.heap.get? a = some (patO p fl c)) (hc : s.heap.get? c = some (codeO code))
    (h : Q { pattern := .ref a, string := .str x t, code := code, text := x.cps, kind := 0, groups := 0, pos := 0, lim := x.cps.size } s) : wpAny (model prog w) A (reWholeTarget (.ref a) (.str x t)) Q E s := by
  unfold reWholeTarget
  refine wpAny_bind (wpAny_fieldsOf ho rfl ?_)
  unfold reTextOf
  refine wpAny_bind (wpAny_bind (wpAny_pure (wpAny_pure ?_)))
  refine wp_neg Bool.false_ne_true ?_
  refine wp_neg Bool.false_ne_true ?_
  refine wpAny_bind (wpAny_pure ?_)
  unfold reRawItems
  refine wpAny_bind (wpAny_bind (wpAny_seqItems hc rfl (wpAny_pure (wpAny_pure ?_))))
  have e1 : (((some (code.map fun (k : Nat) => Value.int (k : Int) 0)).getD #[]).map reRawOf).map (fun x => x.toNat) = code := raw_code code
  rw [e1]
  exact h

theorem push_str {D : Addr} {acc : List (Str × Tok)} {y : Str} {u : Tok} {Q : Unit → Shared → Prop} (hl : s.heap.IsList D (strValues acc).toArray) (hsz : acc.length ≤ 2 ^ 22)
    (h : ∀ h', Kp [D] s.heap h' → h'.IsList D (strValues (acc ++ [(y, u)])).toArray → Q () { s with heap := h' }) : wpAny (model prog w) A (updateSeq D (·.push (.str y u))) Q E s := by
  obtain ⟨o, ho, hc, n, hd⟩ := hl
  refine wpAny_updateSeq ho hd (h _ (fun b ob hb e => ?_) ?_) ?_ ?_
  · rw [(Heap.SameBut.update ..).2 b (by simpa using hb)]; exact e
  · obtain ⟨c, dt, dd, sl⟩ := o
    simp only at hd hc
    subst hd
    refine ⟨_, Heap.get?_update_self _ ho rfl, hc, ?_⟩
    simp [Obj.mapSeq, strValues]
  · simp [strValues, sizeLine]; omega
  · simp [strValues, sizeLine]; omega

theorem slice_of {t : Array Nat} {b e : Nat} {Q : Value → Shared → Prop} (hsz : t.size ≤ 2 ^ 20) (h : Q (.str ⟨t.extract b e⟩ s.toks) { s with toks := s.toks + 1 }) : wpAny (model prog w) A (reSlice t 0 b e) Q E s := by
  unfold reSlice
  refine wp_pos rfl (wpAny_mkStr h ?_)
  show (t.extract b e).size ≤ _
  simp [sizeLine]; omega

theorem sub_loop {a c : Addr} {p fl : Value} {code : Array Nat} {x r : Str} {t tr : Tok} {fnd : Nat → Option (Nat × Nat)} (D : Addr) (hr : r.length ≤ 4) (hsz : x.cps.size ≤ 2 ^ 20) (hg : GoodFnd fnd x.cps) (haD : a ≠ D) (hcD : c ≠ D)
    (hf : ∀ q, q ≤ x.cps.size → Found (Sre.forSearch code x.cps 0 q x.cps.size false) (fnd q)) {R : Result → Shared → Prop} :
    ∀ (n d k : Nat) (acc : List (Str × Tok)) (s : Shared), d ≤ x.cps.size → x.cps.size < d + n → s.heap.get? a = some (patO p fl c) → s.heap.get? c = some (codeO code) → s.heap.IsList D (strValues acc).toArray →
      acc.length ≤ 2 * d → ((acc.map (·.1)).map (·.length)).sum ≤ 5 * d →
      (∀ t' k' h', Kp [D] s.heap h' → s.toks ≤ k' → R (.ok (.ret (.str (Txt.join Str.empty (acc.map (·.1) ++ pcs fnd x.cps r n d)) t'))) { s with heap := h', toks := k' }) →
      codeAny (model prog w) A (.builtin "re.Pattern.sub.loop" ⟨[.ref a, .str x t, .str r tr, rawInt 0, rawInt 0, rawInt k, rawInt d, rawInt d, .bool false, .ref D, .bool false], []⟩) R s
  | 0, d, _, _, _, h1, h2, _, _, _, _, _, _ => by omega
  | n + 1, d, k, acc, s, h1, h2, ho, hc, hl, ha, hs, hR => by
    refine codeAny_builtin entry_subloop ?_
    unfold Builtin.«re.Pattern.sub.loop»
    simp only [rawInt]
    refine wpAny_bind (whole_of ho hc ?_)
    refine wpAny_bind (wpAny_pure ?_)
    refine wpAny_bind ?_
    show wpAny _ _ (reNextFound _ (Int.toNat (d : Int)) false) _ _ _
    unfold reNextFound
    rw [Int.toNat_natCast]
    have hfd0 := hf d h1
    cases hfd : fnd d with
    | some be =>
      obtain ⟨b, e⟩ := be
      rw [hfd] at hfd0
      refine run_end hfd0 ?_
      obtain ⟨g1, g2, g3⟩ := hg d b e h1 hfd
      intro m' hm1 hm2 hm3
      have fin : ∀ (acc' : List (Str × Tok)) (s' : Shared), acc'.map (·.1) = acc.map (·.1) ++ (if d < b then [(⟨x.cps.extract d b⟩ : Str)] else []) → acc'.length ≤ acc.length + 1 → s'.heap.IsList D (strValues acc').toArray →
          (∀ h' k', Kp [D] s'.heap h' → s'.toks ≤ k' → Kp [D] s.heap h' ∧ s.toks ≤ k' ∧ ({ s with heap := h', toks := k' } : Shared) = { s' with heap := h', toks := k' }) → s'.heap.get? a = some (patO p fl c) → s'.heap.get? c = some (codeO code) →
          wpAny (model prog w) (A.under (.builtin "re.Pattern.sub.loop" ⟨[.ref a, .str x t, .str r tr, rawInt 0, rawInt 0, rawInt k, rawInt d, rawInt d, .bool false, .ref D, .bool false], []⟩)) (do
            updateSeq D (·.push (.str r tr))
            again (.builtin "re.Pattern.sub.loop" ⟨[.ref a, .str x t, .str r tr, rawInt 0, rawInt 0, rawInt ((k : Int) + 1), rawInt m'.handed, rawInt m'.handed, .bool (m'.handed == m'.start), .ref D, .bool false], []⟩))
            (fun fin s' => match fin with | .done f => R (.ok f) s' | .again c' => c'.quiet = true ∧ codeAny (model prog w) A c' R s') (fun e s' => R (.error e) s') s' := by
        intro acc' s' e1 e2 hl' hst ho' hc'
        refine wpAny_bind (push_str hl' (by omega) fun h' kp' hl'' => ?_)
        have hlen : (acc'.map (·.1)).length = acc'.length := by simp
        have hb : (acc'.length ≤ 2 * d ∧ acc'.length ≤ 2*e - 1) ∨ (acc'.length ≤ 2 * e - 1) := by right; omega
        refine wpAny_pure ⟨Code.quiet_builtin _ (by decide +kernel), ?_⟩
        rw [hm2, hm3, show (e == b) = false from by simp; omega]
        have e3 : ((k : Int) + 1) = ((k + 1 : Nat) : Int) := by omega
        rw [e3]
        have e4 : (acc' ++ [(r, tr)]).map (·.1) = acc.map (·.1) ++ ((if d < b then [(⟨x.cps.extract d b⟩ : Str)] else []) ++ [r]) := by rw [List.map_append, e1, List.append_assoc]; rfl
        have e5 : (⟨x.cps.extract d b⟩ : Str).length = b - d := by show (x.cps.extract d b).size = _; simp; omega
        refine sub_loop D hr hsz hg haD hcD hf n e (k + 1) (acc' ++ [(r, tr)]) _ g3 (by omega) (kp' a _ (by simpa using haD) ho') (kp' c _ (by simpa using hcD) hc') hl'' ?_ ?_ ?_
        · simp only [List.length_append, List.length_cons, List.length_nil]; omega
        · rw [e4]
          simp only [List.map_append, List.sum_append]
          have : ((if d < b then [(⟨x.cps.extract d b⟩ : Str)] else []).map (·.length)).sum ≤ b - d := by
            split
            · simp [e5]
            · simp
          simp only [List.map_cons, List.map_nil, List.sum_cons, List.sum_nil]
          omega
        · intro t' k' h2 hk2 ht2
          obtain ⟨q1, q2, q3⟩ := hst h2 k' (kp'.trans hk2) ht2
          have := hR t' k' h2 q1 q2
          rw [q3] at this
          have e6 : pcs fnd x.cps r (n + 1) d = (if d < b then [(⟨x.cps.extract d b⟩ : Str)] else []) ++ r :: pcs fnd x.cps r n e := by
            show (match fnd d with | some (b, e) => _ | none => _) = _
            rw [hfd]
          rw [e6] at this
          rw [e4]
          simpa only [List.append_assoc, List.singleton_append] using this
      by_cases hdb : d < b
      · refine wp_pos (show d < m'.start by rw [hm2]; exact hdb) ?_
        refine wpAny_bind (slice_of hsz (wpAny_bind (push_str hl (by omega) fun h' kp' hl' => ?_)))
        refine wp_pos rfl ?_
        refine wpAny_bind (wpAny_pure ?_)
        refine wp_pos rfl ?_
        refine fin _ _ ?_ ?_ hl' ?_ (kp' a _ (by simpa using haD) ho) (kp' c _ (by simpa using hcD) hc)
        · rw [List.map_append, if_pos hdb, hm2]; rfl
        · simp
        · exact fun h2 k2 hk2 ht2 => ⟨kp'.trans hk2, Nat.le_of_succ_le ht2, rfl⟩
      · refine wp_neg (show ¬ d < m'.start by rw [hm2]; exact hdb) ?_
        refine wp_pos rfl ?_
        refine wpAny_bind (wpAny_pure ?_)
        refine wp_pos rfl ?_
        refine fin _ _ ?_ ?_ hl ?_ ho hc
        · rw [if_neg hdb, List.append_nil]
        · omega
        · exact fun h2 k2 hk2 ht2 => ⟨hk2, ht2, rfl⟩
    | none =>
      rw [hfd] at hfd0
      refine run_end hfd0 ?_
      have e6 : pcs fnd x.cps r (n + 1) d = if d < x.cps.size then [(⟨x.cps.extract d x.cps.size⟩ : Str)] else [] := by
        show (match fnd d with | some (b, e) => _ | none => _) = _
        rw [hfd]
      have e5 : (⟨x.cps.extract d x.cps.size⟩ : Str).length = x.cps.size - d := by show (x.cps.extract d x.cps.size).size = _; simp
      have fin : ∀ (acc' : List (Str × Tok)) (s' : Shared), acc'.map (·.1) = acc.map (·.1) ++ pcs fnd x.cps r (n + 1) d → s'.heap.IsList D (strValues acc').toArray →
          (∀ h' k', Kp [D] s'.heap h' → s'.toks ≤ k' → Kp [D] s.heap h' ∧ s.toks ≤ k' ∧ ({ s with heap := h', toks := k' } : Shared) = { s' with heap := h', toks := k' }) → 
          wpAny (model prog w) (A.under (.builtin "re.Pattern.sub.loop" ⟨[.ref a, .str x t, .str r tr, rawInt 0, rawInt 0, rawInt k, rawInt d, rawInt d, .bool false, .ref D, .bool false], []⟩)) (do
            let joiner ← reSlice x.cps 0 0 0
            let text ← if ((← seqItems? (.ref D)).getD #[]).isEmpty then pure joiner else call (.builtin "str.join") [joiner, .ref D]
            ret text)
            (fun fin s' => match fin with | .done f => R (.ok f) s' | .again c' => c'.quiet = true ∧ codeAny (model prog w) A c' R s') (fun e s' => R (.error e) s') s' := by
        intro acc' s' e1 hl' hst
        refine wpAny_bind (slice_of hsz ?_)
        obtain ⟨o, hoD, hcD, nn, hdD⟩ := id hl'
        refine wpAny_bind (wpAny_seqItems hoD hdD ?_)
        have hem : (⟨x.cps.extract 0 0⟩ : Str) = Str.empty := by simp [Str.empty]
        rw [hem]
        cases acc' with
        | nil =>
          refine wpAny_bind (wpAny_pure (wpAny_pure ?_))
          obtain ⟨q1, q2, q3⟩ := hst s'.heap (s'.toks + 1) (Kp.refl _ _) (Nat.le_succ _)
          have := hR s'.toks (s'.toks + 1) s'.heap q1 q2
          rw [q3, ← e1] at this
          exact this
        | cons p0 acc0 =>
          refine wpAny_bind (wpAny_with_toks (n := s'.toks + 1) (Nat.le_refl _) (SC.join hl' e1 ?_ fun t' k' => ?_))
          · unfold JoinOk tooLong
            rw [StrLaws.joinTotal, e6]
            have : (((acc.map (·.1)) ++ (if d < x.cps.size then [(⟨x.cps.extract d x.cps.size⟩ : Str)] else [])).map (·.length)).sum ≤ 6 * x.cps.size := by
              rw [List.map_append, List.sum_append]
              split
              · simp only [List.map_cons, List.map_nil, List.sum_cons, List.sum_nil]
                rw [e5]; omega
              · simp only [List.map_nil, List.sum_nil]; omega
            have hl2 : ((acc.map (·.1)) ++ (if d < x.cps.size then [(⟨x.cps.extract d x.cps.size⟩ : Str)] else [])).length ≤ 2 * d + 1 := by
              rw [List.length_append, List.length_map]
              split
              · simp only [List.length_cons, List.length_nil]; omega
              · simp only [List.length_nil]; omega
            simp only [Bool.not_eq_true', decide_eq_false_iff_not, sizeLine, show Str.empty.length = 0 from rfl, Nat.mul_zero]
            omega
          · intro hk
            refine wpAny_pure ?_
            obtain ⟨q1, q2, q3⟩ := hst s'.heap k' (Kp.refl _ _) (Nat.le_of_succ_le hk)
            have := hR t' k' s'.heap q1 q2
            rw [q3] at this
            exact this
      by_cases hdb : d < x.cps.size
      · refine wp_pos hdb ?_
        refine wpAny_bind (slice_of hsz (wpAny_bind (push_str hl (by omega) fun h' kp' hl' => ?_)))
        refine fin _ _ ?_ hl' ?_
        · rw [e6, if_pos hdb, List.map_append]; rfl
        · exact fun h2 k2 hk2 ht2 => ⟨kp'.trans hk2, Nat.le_of_succ_le ht2, rfl⟩
      · refine wp_neg hdb ?_
        refine fin _ _ ?_ hl ?_
        · rw [e6, if_neg hdb, List.append_nil]
        · exact fun h2 k2 hk2 ht2 => ⟨hk2, ht2, rfl⟩
end
section
variable {prog : Program} {w : World} {A : Around} {E : Value → Shared → Prop} {s : Shared}
theorem named_sub (id f : String) (a b : Value) : reNamed id f ["repl", "string", "count"] 2 [a, b] [] = pure [some a, some b, none] := by rfl
theorem call_none : typeLookup (.type "str") "__call__" = pure none := by rw [typeLookup_type, builtinLookup_eq_fast]; kernel_rfl
theorem sub_call {a c : Addr} {p fl : Value} {code : Array Nat} {x r : Str} {t tr : Tok} {fnd : Nat → Option (Nat × Nat)} {Q : Value → Shared → Prop} (ho : s.heap.get? a = some (patO p fl c)) (hc : s.heap.get? c = some (codeO code))
    (hr : r.length ≤ 4) (h92 : r.cps.contains 92 = false) (hsz : x.cps.size ≤ 2 ^ 20) (hg : GoodFnd fnd x.cps)
    (hf : ∀ q, q ≤ x.cps.size → Found (Sre.forSearch code x.cps 0 q x.cps.size false) (fnd q))
    (h : ∀ t' k' h', Kp [] s.heap h' → s.toks ≤ k' → Q (.str (Txt.join Str.empty (pcs fnd x.cps r (x.cps.size + 1) 0)) t') { s with heap := h', toks := k' }) :
    wpAny (model prog w) A (call (.builtin "re.Pattern.sub") [.ref a, .str r tr, .str x t]) Q E s := by
  have la := Heap.lt_size ho
  have lc := Heap.lt_size hc
  refine wpAny_call (codeAny_call_builtin slot_sub.plain entry_sub (slot_sub.check _ _ _ _ _ _ _ _ ⟨_, ho, rfl⟩ (args_sub _ _ _) ?_))
  unfold Builtin.«re.Pattern.sub» reSubstitute
  dsimp only
  rw [named_sub]
  refine wpAny_bind (wpAny_pure ?_)
  dsimp only
  refine wpAny_bind (wpAny_pure ?_)
  refine wpAny_bind (wpAny_specialOf_val rfl call_none ?_)
  refine wpAny_bind (wpAny_pure ?_)
  dsimp only
  rw [h92]
  refine wpAny_bind (wpAny_pure ?_)
  refine wp_neg Bool.false_ne_true ?_
  refine wp_pos rfl ?_
  refine wpAny_bind (wpAny_pure ?_)
  refine wpAny_bind (whole_of ho hc ?_)
  refine wp_neg Bool.false_ne_true ?_
  refine wpAny_bind (wpAny_newList ?_)
  have up : ∀ b o, s.heap.get? b = some o → (s.heap.push { cls := .type "list", data := .seq #[] }).get? b = some o := fun b o e => Heap.get?_push_of_some _ e
  refine wpAny_pure ⟨Code.quiet_builtin _ (by decide +kernel), ?_⟩
  refine sub_loop s.heap.objs.size hr hsz hg (Nat.ne_of_lt la) (Nat.ne_of_lt lc) hf (x.cps.size + 1) 0 0 [] _ (Nat.zero_le _) (by omega) (up _ _ ho) (up _ _ hc) ⟨_, Heap.get?_push_size _ rfl, rfl, _, rfl⟩ (Nat.zero_le _) (Nat.zero_le _) ?_
  intro t' k' h' hk ht
  exact h t' k' h' (fun b o _ e => hk b o (by simpa using Nat.ne_of_lt (Heap.lt_size e)) (up b o e)) ht
end

end
section
noncomputable def crlfL : List Nat → List Nat
  | [] => []
  | 13 :: 10 :: r => 13 :: 10 :: crlfL r
  | c :: r => if is2 c = true then 13 :: 10 :: crlfL r else c :: crlfL r
noncomputable def dotsL : Bool → List Nat → List Nat
  | _, [] => []
  | b, c :: r => if (b && c == 46) = true then 46 :: 46 :: dotsL false r else c :: dotsL (c == 10) r

theorem join_list : ∀ (l : List Str), (Txt.join Str.empty l).cps.toList = (l.map (·.cps.toList)).flatten := by
  intro l
  show (PySem.Builtin.Str.glued Str.empty l).cps.toList = _
  rw [StrLaws.glued_eq_join]
  induction l with
  | nil => rfl
  | cons x r ih =>
    cases r with
    | nil => simp [Str.join]
    | cons y r =>
      have : (Str.join Str.empty (x :: y :: r)).cps.toList = x.cps.toList ++ (Str.join Str.empty (y :: r)).cps.toList := by
        show ((x.cps ++ (#[] : Array Nat)) ++ (Str.join Str.empty (y :: r)).cps).toList = _
        simp
      rw [this, ih]; rfl

theorem drop_getD {t : Array Nat} {d : Nat} (h : d < t.size) : t.toList.drop d = t.getD d 0 :: t.toList.drop (d + 1) := by
  rw [List.drop_eq_getElem_cons (by simpa using h)]
  simp [Array.getD, h]
theorem extract_list (t : Array Nat) (b e : Nat) : (t.extract b e).toList = (t.toList.drop b).take (e - b) := by simp [List.take_drop]

theorem crlf_step {c : Nat} (h : is2 c = false) (r : List Nat) : crlfL (c :: r) = c :: crlfL r := by
  rw [crlfL.eq_def]
  split <;> simp_all [is2]
theorem find2_some {t : Array Nat} : ∀ (n p q : Nat), p + n = t.size → find2 t n p = some q → crlfL (t.toList.drop p) = (t.extract p q).toList ++ crlfL (t.toList.drop q)
  | 0, _, _, _, h => nomatch h
  | n + 1, p, q, hp, h => by
    have hh := find2_spec t _ _ _ h
    simp only [find2] at h
    split at h
    · cases h; simp
    · rename_i hi
      have ih := find2_some n (p + 1) q (by omega) h
      have hq := find2_spec t _ _ _ h
      rw [drop_getD (by omega), crlf_step (by simpa using hi), ih, extract_list, extract_list, drop_getD (d := p) (by omega)]
      have : q - p = q - (p + 1) + 1 := by omega
      rw [this, List.take_succ_cons]; rfl
theorem find2_none {t : Array Nat} : ∀ (n p : Nat), p + n = t.size → find2 t n p = none → crlfL (t.toList.drop p) = t.toList.drop p
  | 0, p, hp, _ => by
    have : t.toList.drop p = [] := List.drop_eq_nil_of_le (by simp; omega)
    rw [this]; rfl
  | n + 1, p, hp, h => by
    simp only [find2] at h
    split at h
    · cases h
    · rename_i hi
      have ih := find2_none n (p + 1) (by omega) h
      rw [drop_getD (by omega), crlf_step (by simpa using hi), ih]
theorem crlf_hit {t : Array Nat} {q : Nat} (hq : q < t.size) (h : is2 (t.getD q 0) = true) : crlfL (t.toList.drop q) = 13 :: 10 :: crlfL (t.toList.drop (q + len2 t q)) := by
  rw [drop_getD hq]
  by_cases h1 : t.getD q 0 = 13 ∧ q + 1 < t.size ∧ t.getD (q + 1) 0 = 10
  · have e : len2 t q = 2 := by unfold len2; rw [if_pos h1]
    rw [h1.1, drop_getD h1.2.1, h1.2.2, e]; rfl
  · have e : len2 t q = 1 := by unfold len2; rw [if_neg h1]
    rw [e]
    generalize hc : t.getD q 0 = c at h h1
    generalize hr : t.toList.drop (q + 1) = r
    have : ¬ (c = 13 ∧ ∃ r', r = 10 :: r') := by
      rintro ⟨rfl, r', rfl⟩
      refine h1 ⟨rfl, ?_⟩
      by_cases hlt : q + 1 < t.size
      · refine ⟨hlt, ?_⟩
        rw [drop_getD hlt] at hr
        exact (List.cons.inj hr).1
      · rw [List.drop_eq_nil_of_le (by simp; omega)] at hr; cases hr
    rw [crlfL.eq_def]
    split
    · rename_i heq; cases heq
    · rename_i r' heq; cases heq; exact absurd ⟨rfl, _, rfl⟩ this
    · rename_i heq; cases heq; rw [if_pos h]

noncomputable def f2 (t : Array Nat) (p : Nat) : Option (Nat × Nat) := (find2 t (t.size - p) p).map fun q => (q, q + len2 t q)
noncomputable def f1 (t : Array Nat) (p : Nat) : Option (Nat × Nat) := (find1 t (t.size - p) p).map fun q => (q, q + 1)
theorem len2_le {t : Array Nat} {q : Nat} (h : q < t.size) : 0 < len2 t q ∧ q + len2 t q ≤ t.size := by
  by_cases h1 : t.getD q 0 = 13 ∧ q + 1 < t.size ∧ t.getD (q + 1) 0 = 10
  · have e : len2 t q = 2 := by unfold len2; rw [if_pos h1]
    omega
  · have e : len2 t q = 1 := by unfold len2; rw [if_neg h1]
    omega
theorem good2 (t : Array Nat) : GoodFnd (f2 t) t := by
  intro p b e hp h
  unfold f2 at h
  cases hf : find2 t (t.size - p) p with
  | none => rw [hf] at h; cases h
  | some q =>
    rw [hf] at h; cases h
    have := find2_spec t _ _ _ hf
    have := len2_le (t := t) (q := b) (by omega)
    exact ⟨by omega, by omega, by omega⟩
theorem find1_spec (t : Array Nat) : ∀ (n p q : Nat), find1 t n p = some q → p ≤ q ∧ q < p + n ∧ at1 t q = true
  | 0, p, q, h => nomatch h
  | n + 1, p, q, h => by
    simp only [find1] at h
    split at h
    · cases h; exact ⟨Nat.le_refl _, by omega, by assumption⟩
    · have := find1_spec t n (p + 1) q h; exact ⟨by omega, by omega, this.2.2⟩
theorem good1 (t : Array Nat) : GoodFnd (f1 t) t := by
  intro p b e hp h
  unfold f1 at h
  cases hf : find1 t (t.size - p) p with
  | none => rw [hf] at h; cases h
  | some q =>
    rw [hf] at h; cases h
    have := find1_spec t _ _ _ hf
    omega

noncomputable def sCRLF : Str := ⟨#[13, 10]⟩
noncomputable def sDots : Str := ⟨#[46, 46]⟩
theorem crlf_pcs (t : Array Nat) : ∀ n d, d ≤ t.size → t.size < d + n → ((pcs (f2 t) t sCRLF n d).map (·.cps.toList)).flatten = crlfL (t.toList.drop d)
  | 0, d, h1, h2 => by omega
  | n + 1, d, h1, h2 => by
    unfold pcs
    cases hf : find2 t (t.size - d) d with
    | none =>
      have : f2 t d = none := by unfold f2; rw [hf]; rfl
      rw [this, find2_none _ _ (by omega) hf]
      dsimp only
      split
      · simp only [List.map_cons, List.map_nil, List.flatten_cons, List.flatten_nil, List.append_nil]
        rw [extract_list, List.take_of_length_le (by simp)]
      · rw [List.drop_eq_nil_of_le (by simp; omega)]; rfl
    | some q =>
      have : f2 t d = some (q, q + len2 t q) := by unfold f2; rw [hf]; rfl
      rw [this, find2_some _ _ _ (by omega) hf]
      obtain ⟨g1, g2, g3⟩ := find2_spec t _ _ _ hf
      obtain ⟨l1, l2⟩ := len2_le (t := t) (q := q) (by omega)
      rw [crlf_hit (by omega) g3, ← crlf_pcs t n (q + len2 t q) (by omega) (by omega)]
      dsimp only
      split
      · simp [sCRLF]
      · have : q = d := by omega
        subst this
        simp [sCRLF]

noncomputable def bol (t : Array Nat) (p : Nat) : Bool := p == 0 || t.getD (p - 1) 0 == 10
theorem bol_succ (t : Array Nat) (p : Nat) : bol t (p + 1) = (t.getD p 0 == 10) := by simp [bol]
theorem dots_miss {t : Array Nat} {p : Nat} (hp : p < t.size) (h : at1 t p = false) : dotsL (bol t p) (t.toList.drop p) = t.getD p 0 :: dotsL (bol t (p + 1)) (t.toList.drop (p + 1)) := by
  rw [drop_getD hp, bol_succ, dotsL]
  have : (bol t p && t.getD p 0 == 46) = false := by
    unfold at1 at h; rw [decide_eq_true hp, Bool.and_true] at h; exact h
  rw [this]; rfl
theorem dots_hit {t : Array Nat} {p : Nat} (h : at1 t p = true) : dotsL (bol t p) (t.toList.drop p) = 46 :: 46 :: dotsL (bol t (p + 1)) (t.toList.drop (p + 1)) := by
  have h0 := h
  simp only [at1, Bool.and_eq_true, decide_eq_true_eq] at h
  have hc : t.getD p 0 = 46 := by simpa using h.2
  rw [drop_getD h.1.2, bol_succ, hc]
  rw [dotsL]
  have : (bol t p && (46 == 46)) = true := by rw [show bol t p = true from h.1.1]; rfl
  rw [this]; rfl
theorem find1_some {t : Array Nat} : ∀ (n p q : Nat), p + n = t.size → find1 t n p = some q → dotsL (bol t p) (t.toList.drop p) = (t.extract p q).toList ++ dotsL (bol t q) (t.toList.drop q)
  | 0, _, _, _, h => nomatch h
  | n + 1, p, q, hp, h => by
    simp only [find1] at h
    split at h
    · cases h; simp
    · rename_i hi
      have ih := find1_some n (p + 1) q (by omega) h
      have hq := find1_spec t _ _ _ h
      rw [dots_miss (by omega) (by simpa using hi), ih, extract_list, extract_list, drop_getD (d := p) (by omega)]
      have : q - p = q - (p + 1) + 1 := by omega
      rw [this, List.take_succ_cons]; rfl
theorem find1_none {t : Array Nat} : ∀ (n p : Nat), p + n = t.size → find1 t n p = none → dotsL (bol t p) (t.toList.drop p) = t.toList.drop p
  | 0, p, hp, _ => by
    have : t.toList.drop p = [] := List.drop_eq_nil_of_le (by simp; omega)
    rw [this]; rfl
  | n + 1, p, hp, h => by
    simp only [find1] at h
    split at h
    · cases h
    · rename_i hi
      have ih := find1_none n (p + 1) (by omega) h
      rw [dots_miss (by omega) (by simpa using hi), ih, ← drop_getD (by omega)]
theorem dots_pcs (t : Array Nat) : ∀ n d, d ≤ t.size → t.size < d + n → ((pcs (f1 t) t sDots n d).map (·.cps.toList)).flatten = dotsL (bol t d) (t.toList.drop d)
  | 0, d, h1, h2 => by omega
  | n + 1, d, h1, h2 => by
    unfold pcs
    cases hf : find1 t (t.size - d) d with
    | none =>
      have : f1 t d = none := by unfold f1; rw [hf]; rfl
      rw [this, find1_none _ _ (by omega) hf]
      dsimp only
      split
      · simp only [List.map_cons, List.map_nil, List.flatten_cons, List.flatten_nil, List.append_nil]
        rw [extract_list, List.take_of_length_le (by simp)]
      · rw [List.drop_eq_nil_of_le (by simp; omega)]; rfl
    | some q =>
      have : f1 t d = some (q, q + 1) := by unfold f1; rw [hf]; rfl
      rw [this, find1_some _ _ _ (by omega) hf]
      obtain ⟨g1, g2, g3⟩ := find1_spec t _ _ _ hf
      rw [dots_hit g3, ← dots_pcs t n (q + 1) (by omega) (by omega)]
      dsimp only
      split
      · simp [sDots]
      · have : q = d := by omega
        subst this
        simp [sDots]

noncomputable def quoteS (x : Str) : Str := ⟨(dotsL true (crlfL x.cps.toList)).toArray⟩
noncomputable def crlfS (x : Str) : Str := ⟨(crlfL x.cps.toList).toArray⟩
theorem Str_ext' {x : Str} {l : List Nat} (h : x.cps.toList = l) : x = ⟨l.toArray⟩ := by cases x; simp at h; subst h; rfl
theorem crlf_join (x : Str) : Txt.join Str.empty (pcs (f2 x.cps) x.cps sCRLF (x.cps.size + 1) 0) = crlfS x :=
  Str_ext' (by rw [join_list, crlf_pcs _ _ _ (by omega) (by omega)]; rfl)
theorem dots_join (x : Str) : Txt.join Str.empty (pcs (f1 x.cps) x.cps sDots (x.cps.size + 1) 0) = ⟨(dotsL true x.cps.toList).toArray⟩ :=
  Str_ext' (by rw [join_list, dots_pcs _ _ _ (by omega) (by omega)]; rfl)
theorem crlfL_len : ∀ l, (crlfL l).length ≤ 2 * l.length := by
  intro l
  induction l using crlfL.induct <;> (rw [crlfL.eq_def]; simp_all; try omega)

end
section
section
variable {prog : Program} {w : World} {A : Around} {E : Value → Shared → Prop} {s : Shared} {g : Heap} {L : Addr} {m : Str → Option Value} {news : List (Addr × Obj)}
theorem now99 (F : Fr g L s.heap m) (X : (hd.heap_1 w.params).In g) : ∃ p f, s.heap.get? 99 = some (patO p f 98) ∧ s.heap.get? 98 = some (codeO c1) := by
  obtain ⟨p, f, a, b⟩ := pat99 X; exact ⟨p, f, F.keep _ _ a, F.keep _ _ b⟩
theorem now104 (F : Fr g L s.heap m) (X : (hd.heap_1 w.params).In g) : ∃ p f, s.heap.get? 104 = some (patO p f 103) ∧ s.heap.get? 103 = some (codeO c2) := by
  obtain ⟨p, f, a, b⟩ := pat104 X; exact ⟨p, f, F.keep _ _ a, F.keep _ _ b⟩
theorem now121 (F : Fr g L s.heap m) (X : (hd.heap_1 w.params).In g) : ∃ p f, s.heap.get? 121 = some (patO p f 120) ∧ s.heap.get? 120 = some (codeO c3) := by
  obtain ⟨p, f, a, b⟩ := pat121 X; exact ⟨p, f, F.keep _ _ a, F.keep _ _ b⟩
theorem now126 (F : Fr g L s.heap m) (X : (hd.heap_1 w.params).In g) : ∃ p f, s.heap.get? 126 = some (patO p f 125) ∧ s.heap.get? 125 = some (codeO c4) := by
  obtain ⟨p, f, a, b⟩ := pat126 X; exact ⟨p, f, F.keep _ _ a, F.keep _ _ b⟩
theorem gm99 {pl : Sem Bool} {Q : Value × List Value → Shared → Prop} (F : Fr g L s.heap m) (X : (hd.heap_1 w.params).In g) (h : Q (.builtin "re.Pattern.sub", [.ref 99]) s) : wpAny (model prog w) A (getMethod (.ref 99) (Str.ofString "sub") pl) Q E s := by
  obtain ⟨p, f, a, _⟩ := now99 F X; exact getMethod_sub a h
theorem gm104 {pl : Sem Bool} {Q : Value × List Value → Shared → Prop} (F : Fr g L s.heap m) (X : (hd.heap_1 w.params).In g) (h : Q (.builtin "re.Pattern.sub", [.ref 104]) s) : wpAny (model prog w) A (getMethod (.ref 104) (Str.ofString "sub") pl) Q E s := by
  obtain ⟨p, f, a, _⟩ := now104 F X; exact getMethod_sub a h
theorem cs99 {r x : Str} {tr t : Tok} {Q : Value → Shared → Prop} (F : Fr g L s.heap m) (X : (hd.heap_1 w.params).In g) (N : News g L s.heap news) (hr : r = sDots) (hsz : x.cps.size ≤ 2 ^ 20)
    (h : ∀ t' k' h', Fr g L h' m → News g L h' news → s.toks ≤ k' → Q (.str ⟨(dotsL true x.cps.toList).toArray⟩ t') { s with heap := h', toks := k' }) : wpAny (model prog w) A (call (.builtin "re.Pattern.sub") [.ref 99, .str r tr, .str x t]) Q E s := by
  obtain ⟨p, f, a, b⟩ := now99 F X
  subst hr
  refine sub_call (fnd := f1 x.cps) a b (by decide) (by decide +kernel) hsz (good1 _) (fun q hq => search1 _ q hq (Nat.le_trans hsz (by decide))) fun t' k' h' hk ht => ?_
  rw [dots_join]
  exact h t' k' h' (F.keeps (Kp.all hk)) (N.grown (Kp.all hk)) ht
theorem cs104 {r x : Str} {tr t : Tok} {Q : Value → Shared → Prop} (F : Fr g L s.heap m) (X : (hd.heap_1 w.params).In g) (N : News g L s.heap news) (hr : r = sCRLF) (hsz : x.cps.size ≤ 2 ^ 20)
    (h : ∀ t' k' h', Fr g L h' m → News g L h' news → s.toks ≤ k' → Q (.str (crlfS x) t') { s with heap := h', toks := k' }) : wpAny (model prog w) A (call (.builtin "re.Pattern.sub") [.ref 104, .str r tr, .str x t]) Q E s := by
  obtain ⟨p, f, a, b⟩ := now104 F X
  subst hr
  refine sub_call (fnd := f2 x.cps) a b (by decide) (by decide +kernel) hsz (good2 _) (fun q hq => search2 _ q hq) fun t' k' h' hk ht => ?_
  rw [crlf_join]
  exact h t' k' h' (F.keeps (Kp.all hk)) (N.grown (Kp.all hk)) ht
end
local macro_rules | `(tactic| walk_at "getMethod ref") => `(tactic| (k_here; (with_reducible refine gM 104 ?_); k_dflt (refine gm104 (by k_asm) (by k_asm) ?_)))
local macro_rules | `(tactic| walk_at "getMethod ref") => `(tactic| (k_here; (with_reducible refine gM 99 ?_); k_dflt (refine gm99 (by k_asm) (by k_asm) ?_)))
local macro_rules | `(tactic| walk_at "call builtin:re.Pattern.sub") => `(tactic| (k_here; (with_reducible refine gB 104 ?_); k_dflt (refine cs104 (by k_asm) (by k_asm) (by k_asm) rfl (by omega) ?_; intro t8 k8 h8 F8 N8 l8; (try dsimp only); (try k_fold))))
local macro_rules | `(tactic| walk_at "call builtin:re.Pattern.sub") => `(tactic| (k_here; (with_reducible refine gB 99 ?_); k_dflt (refine cs99 (by k_asm) (by k_asm) (by k_asm) rfl (by assumption) ?_; intro t8 k8 h8 F8 N8 l8; (try dsimp only); (try k_fold))))


theorem quote_sp (w : World) (x : Str) (tx : Tok) :
  Sp 2 w 111 ⟨[.str x tx], []⟩ [] (fun _ _ => x.cps.size ≤ 2 ^ 18) (fun _ t₀ r _ _ => ∃ t, r = .str (quoteS x) t) := by
  intro p loose mean mg mb dp un fr gd h₀ s R X T hk hN hdp hun hpre ret
  have h20 : x.cps.size ≤ 2 ^ 20 := Nat.le_trans hpre (by decide)
  have h20' : (crlfS x).cps.size ≤ 2 ^ 20 := by
    have := crlfL_len x.cps.toList
    show (crlfL x.cps.toList).toArray.size ≤ _
    simp at this ⊢; omega
  (k_dflt (refine' enterC _ ?a1 ?a2 ?a3 ?a4 ?k6 ?k7 ?k8 ?k9 ?kB ?c2 ?c3 ?c4 ?c5 ?cR ?_; (case a1 => assumption); (case a2 => assumption); (case a3 => assumption); (case a4 => assumption); (case k6 => k_is); (case k7 => k_is); (case k8 => exact room0 (by assumption)); (case k9 => exact BindsTo.of_eq rfl); (case kB => exact locs rfl); (case c2 => exact rfl); (case c3 => exact rfl); (case c4 => exact rfl); (case c5 => decide); (case cR => assumption); intro _ _ _ _ _ _ _ _ _ _ _; (try dsimp only); (try k_fold)))
  k_steps
  all_goals exact EndP.ret (by k_asm) (fun _ => ⟨_, rfl⟩)


end
local macro_rules | `(tactic| walk_at "Z2") => `(tactic| skip)
section
section
variable {prog : Program} {w : World} {A : Around} {E : Value → Shared → Prop} {s : Shared} {g : Heap} {L : Addr} {m : Str → Option Value} {news : List (Addr × Obj)}
theorem gm121 {pl : Sem Bool} {Q : Value × List Value → Shared → Prop} (F : Fr g L s.heap m) (X : (hd.heap_1 w.params).In g) (h : Q (.builtin "re.Pattern.search", [.ref 121]) s) : wpAny (model prog w) A (getMethod (.ref 121) (Str.ofString "search") pl) Q E s := by
  obtain ⟨p, f, a, _⟩ := now121 F X; exact getMethod_search a h
theorem gm126 {pl : Sem Bool} {Q : Value × List Value → Shared → Prop} (F : Fr g L s.heap m) (X : (hd.heap_1 w.params).In g) (h : Q (.builtin "re.Pattern.search", [.ref 126]) s) : wpAny (model prog w) A (getMethod (.ref 126) (Str.ofString "search") pl) Q E s := by
  obtain ⟨p, f, a, _⟩ := now126 F X; exact getMethod_search a h
theorem cs121 {x : Str} {t : Tok} {Q : Value → Shared → Prop} (F : Fr g L s.heap m) (X : (hd.heap_1 w.params).In g) (hp : plainT x.cps) (hsz : x.cps.size ≤ 2 ^ 18) (h : Q .none s) : wpAny (model prog w) A (call (.builtin "re.Pattern.search") [.ref 121, .str x t]) Q E s := by
  obtain ⟨p, f, a, b⟩ := now121 F X; exact search_none a b (.inl rfl) hp (Nat.le_trans hsz (by decide)) h
theorem cs126 {x : Str} {t : Tok} {Q : Value → Shared → Prop} (F : Fr g L s.heap m) (X : (hd.heap_1 w.params).In g) (hp : plainT x.cps) (hsz : x.cps.size ≤ 2 ^ 18) (h : Q .none s) : wpAny (model prog w) A (call (.builtin "re.Pattern.search") [.ref 126, .str x t]) Q E s := by
  obtain ⟨p, f, a, b⟩ := now126 F X; exact search_none a b (.inr rfl) hp (Nat.le_trans hsz (by decide)) h
end
local macro_rules | `(tactic| walk_at "getMethod ref") => `(tactic| (k_here; (with_reducible refine gM 121 ?_); k_dflt (refine gm121 (by k_asm) (by k_asm) ?_)))
local macro_rules | `(tactic| walk_at "getMethod ref") => `(tactic| (k_here; (with_reducible refine gM 126 ?_); k_dflt (refine gm126 (by k_asm) (by k_asm) ?_)))
local macro_rules | `(tactic| walk_at "call builtin:re.Pattern.search") => `(tactic| (k_here; (with_reducible refine gB 121 ?_); k_dflt (refine cs121 (by k_asm) (by k_asm) (by assumption) (by assumption) ?_)))
local macro_rules | `(tactic| walk_at "call builtin:re.Pattern.search") => `(tactic| (k_here; (with_reducible refine gB 126 ?_); k_dflt (refine cs126 (by k_asm) (by k_asm) (by assumption) (by assumption) ?_)))


theorem conv_sp (w : World) (sv : Value) (x : Str) (tx : Tok) (b : Bool) :
  Sp 2 w 156 ⟨[sv, .str x tx], [(Str.ofString "name", .bool b)]⟩ [] (fun _ _ => plainT x.cps ∧ x.cps.size ≤ 2 ^ 18) (fun _ _ r _ _ => r = .str x tx) := by
  intro p loose mean mg mb dp un fr gd h₀ s R X T hk hN hdp hun hpre ret
  obtain ⟨hp, hz⟩ := hpre
  (k_dflt (refine' enterC _ ?a1 ?a2 ?a3 ?a4 ?k6 ?k7 ?k8 ?k9 ?kB ?c2 ?c3 ?c4 ?c5 ?cR ?_; (case a1 => assumption); (case a2 => assumption); (case a3 => assumption); (case a4 => assumption); (case k6 => k_is); (case k7 => k_is); (case k8 => exact room0 (by assumption)); (case k9 => exact BindsTo.of_eq rfl); (case kB => exact locs rfl); (case c2 => exact rfl); (case c3 => exact rfl); (case c4 => exact rfl); (case c5 => decide); (case cR => assumption); intro _ _ _ _ _ _ _ _ _ _ _; (try dsimp only); (try k_fold)))
  k_steps
  all_goals exact EndP.ret (by k_asm) (fun _ => rfl)

end
section
theorem bindK {w : World} {h₀ : Heap} {s : Shared} {fd : FuncData} {args : Args} {binds : List (Str × Value)} (X : (hd.heap_1 w.params).In h₀) (hk : ∀ b o, h₀.get? b = some o → s.heap.get? b = some o) (e : ∀ S, peek (hd.heap_1 w.params) S (bindArgs fd args) = some binds) : BindsTo s fd args binds := kp_binds (X.keeps hk) e

end
local macro_rules | `(tactic| walk_at "call ref") => `(tactic| (k_here; (with_reducible refine gR 156 ?_); k_dflt (refine Sp.useA (conv_sp _ _ _ _ _) (by walk_at "AA") (by assumption) ?_; walk_at "PX")))
local macro_rules | `(tactic| walk_at "assign Tuple") => `(tactic| (k_here; (with_reducible show wpAny _ _ (assign (Expr.Tuple _ _ _) _ (Value.ref _)) _ _ _); k_dflt (refine unpackN_ (by k_asm) (by k_asm) (Fr.tup (by k_asm) (by assumption)) (by exact rfl) (by exact rfl) (by exact rfl) ?_; k_whole); intro h' F' N'; (try k_sweep)))
section
local macro_rules | `(tactic| walk_at "eval Name") => `(tactic| (k_here; k_dflt (refine' ld ?k1 ?k2 ?_; (case k1 => k_asm); (case k2 => assumption); k_whole)))
noncomputable abbrev Row := Addr × (Str × Tok) × (Str × Tok)
noncomputable def rowsV (rows : List Row) : List Value := rows.map fun r => .ref r.1
noncomputable def RowsIn (h : Heap) (rows : List Row) : Prop := ∀ r ∈ rows, IsTup h r.1 #[.str r.2.1.1 r.2.1.2, .str r.2.2.1 r.2.2.2]
noncomputable def RowsOk (rows : List Row) : Prop := ∀ r ∈ rows, (plainT r.2.1.1.cps ∧ r.2.1.1.cps.size ≤ 2 ^ 18) ∧ plainT r.2.2.1.cps ∧ r.2.2.1.cps.size ≤ 2 ^ 18
theorem RowsIn.at {h h' : Heap} {rows : List Row} (x : RowsIn h rows) (hk : ∀ r ∈ rows, ∀ o, h.get? r.1 = some o → h'.get? r.1 = some o) : RowsIn h' rows := fun r hr => let ⟨o, ho, q⟩ := x r hr; ⟨o, hk r hr o ho, q⟩
theorem lst_type {g : Heap} {L l : Addr} {s : Shared} {m : Str → Option Value} {vs : Array Value} (hl : g.IsList l vs) (F : Fr g L s.heap m) : s.TypeIs (.ref l) "list" := by
  obtain ⟨o, ho, hc, _⟩ := hl
  exact ⟨o, F.keep _ _ ho, hc⟩
local macro_rules | `(tactic| walk_at "exec For Tuple Name cons nil") => `(tactic| (k_here; refine wpAny_For ?_))
local macro_rules | `(tactic| walk_at "call type:type") => `(tactic| (k_here; k_dflt (refine call_type_of (Tx := "list") (lst_type (by assumption) (by assumption)) (by decide +kernel) ?_)))


noncomputable abbrev hdD (w : World) (l : Addr) (tk : Tok) : Obj := dictOf [⟨PyData.keyHash w.params (Str.ofString "_headers"), .str (Str.ofString "_headers") tk, .ref l⟩] 1
theorem init_sp (w : World) (x dx l : Addr) (rows : List Row) :
  Sp 4 w 149 ⟨[.ref x, .ref l], []⟩ [(x, instObj 257 dx), (dx, dictOf [] 0)] (fun h _ => h.IsList l (rowsV rows).toArray ∧ RowsIn h rows ∧ RowsOk rows ∧ rows.length ≤ 30 ∧ dx < x)
    (fun _ _ r h' _ => r = .none ∧ ∃ tk, h'.get? x = some (instObj 257 dx) ∧ h'.get? dx = some (hdD w l tk)) := by
  intro p loose mean mg mb dp un fr gd h₀ s R X T hk hN hdp hun hpre ret
  obtain ⟨hl, hr, hok, hlen, hdx⟩ := hpre
  obtain ⟨hx1, -⟩ := hN _ (.head _)
  obtain ⟨hx2, -⟩ := hN _ (.tail _ (.head _))
  (k_dflt (refine' enterC _ ?a1 ?a2 ?a3 ?a4 ?k6 ?k7 ?k8 ?k9 ?kB ?c2 ?c3 ?c4 ?c5 ?cR ?_; (case a1 => assumption); (case a2 => assumption); (case a3 => assumption); (case a4 => assumption); (case k6 => k_is); (case k7 => k_is); (case k8 => exact room0 (by assumption)); (case k9 => first | exact BindsTo.of_eq rfl | (refine' bindK ?kx ?ky ?ke; (case kx => assumption); (case ky => assumption); (case ke => intro _; exact rfl))); (case kB => exact locs rfl); (case c2 => exact rfl); (case c3 => exact rfl); (case c4 => exact rfl); (case c5 => decide); (case cR => assumption); intro _ _ _ _ _ _ _ _ _ _ _; (try dsimp only); (try k_fold)))
  rename Kp _ _ _ => kp
  rename_i g _ _ _ _ _ _ _ _ _
  have nl : ∀ (b : Addr) (o : Obj), s.heap.get? b = some o → o.cls = .type "list" ∨ o.cls = .type "tuple" → b ∉ List.map (fun x => x.1) [(x, instObj 257 dx), (dx, dictOf [] 0)] := by
    intro b o ho hc hb
    simp only [List.map_cons, List.map_nil, List.mem_cons, List.not_mem_nil, or_false] at hb
    rcases hb with rfl | rfl
    · rw [hx1] at ho; cases ho; rcases hc with hc | hc <;> cases hc
    · rw [hx2] at ho; cases ho; rcases hc with hc | hc
      · exact absurd (Value.type.inj hc) (by decide)
      · exact absurd (Value.type.inj hc) (by decide)
  have hlg : (_ : Heap).IsList l _ := let ⟨o, ho, hc, q⟩ := hl; ⟨o, kp l o (nl l o ho (.inl hc)) ho, hc, q⟩
  have hrg := hr.at fun r hr' o ho => kp r.1 o (nl _ o ho (.inr (by obtain ⟨o', ho', hc', _⟩ := hr r hr'; rw [ho] at ho'; cases ho'; exact hc'))) ho
  have hdx' : @LT.lt Nat _ dx x := hdx
  k_steps
  refine forB (S := fun _ => True) (by rfl) (fun h _ _ F' _ _ => hlg.at fun o e => F'.keep _ _ e) (by k_asm) (by k_asm) trivial ?_
  intro I hI
  refine BRest.ind (J := fun vs m T => ∃ rs, vs = rowsV rs ∧ m (Str.ofString "self") = some (.ref x) ∧ RowsIn g rs ∧ RowsOk rs) ?_ ?_ _ _ _ ⟨rows, rfl, rfl, hrg, hok⟩
  · rintro v r m T ⟨rs, hv, hself, hrs, hoks⟩ it h tk' hT hc F' N' off
    cases rs with
    | nil => simp [rowsV] at hv
    | cons row rs =>
      obtain ⟨rfl, rfl⟩ := List.cons.inj hv
      have ht := hrs row (.head _)
      obtain ⟨o1, o2⟩ := hoks row (.head _)
      k_steps
      refine' BPost.nextI ?F ?N off trivial ?_
      (case F => k_dflt assumption)
      (case N => k_dflt assumption)
      exact ⟨rfl, rs, rfl, hself, fun r hr => hrs r (.tail _ hr), fun r hr => hoks r (.tail _ hr)⟩
  · rintro m T ⟨rs, hv, hself, hrs, hoks⟩ h tk' hT F' N'
    k_steps
    exact EndP.next (by k_asm) fun _ => ⟨rfl, _, (N' _ (.head _)).1, (N' _ (.tail _ (.head _))).1⟩

end
section
section
variable {w : World} {p : Program} {loose : List Str} {mean : ExcName → Option Value} {mg mb : Str → Option Value} {dp un : Nat} {fr : Option (List Env)} {gd : Option (List Code)} {h₀ : Heap} {s : Shared} {L : Addr} {m : Str → Option Value} {news : List (Addr × Obj)} {Q E : Value → Shared → Prop}
theorem headers_new {l : Addr} {rows : List Row} (F : Fr h₀ L s.heap m) (X : (hd.heap_1 w.params).In h₀) (N : News h₀ L s.heap news) (T : Top p loose mean mg mb h₀)
    (hdp : dp + 6 < recursionLimit) (hun : un + 10 * 6 < cLine) (hl : ∀ h', Fr h₀ L h' m → News h₀ L h' news → h'.IsList l (rowsV rows).toArray ∧ RowsIn h' rows) (hok : RowsOk rows) (hlen : rows.length ≤ 30)
    (ret : ∀ x dx tk h' tk', Fr h₀ L h' m → News h₀ L h' ((x, instObj 257 dx) :: (dx, hdD w l tk) :: news) → @LT.lt Nat _ dx x → (∀ q ∈ news, q.1 < dx) → s.toks ≤ tk' → Q (.ref x) { s with heap := h', toks := tk' }) :
    wpAny (model PySem.Challenge.pw_tp0036_01 w) (AR dp un fr gd) (call (.ref 257) [.ref l]) Q E s := by
  refine call_cls (fI := 149) F X N (by k_is) (by k_is) (by k_is) ?_
  intro x dx h' F' N' hlt hdx
  have hdx' : @LT.lt Nat _ dx x := hdx
  have n1 := N' _ (.head _)
  have n2 := N' _ (.tail _ (.head _))
  have N'' : News h₀ L h' news := fun q hq => N' q (.tail _ (.tail _ hq))
  obtain ⟨l1, l2⟩ := hl h' F' N''
  refine init_sp w x dx l rows p loose mean mg mb _ _ _ _ h₀ _ _ X T F'.keep ?_ ?_ ?_ ⟨l1, l2, hok, hlen, hdx⟩ ?_
  · intro q hq
    rcases List.mem_cons.mp hq with rfl | hq
    · exact ⟨n1.1, n1.2.2⟩
    · rcases List.mem_cons.mp hq with rfl | hq
      · exact ⟨n2.1, n2.2.2⟩
      · cases hq
  · show dp + _ + 4 < recursionLimit
    refine Nat.lt_of_le_of_lt ?_ hdp
    show dp + 1 + 4 ≤ _
    omega
  · show un + _ + 10 * 4 < cLine
    refine Nat.lt_of_le_of_lt ?_ hun
    have hc : (Code.builtin "type.__call__" ⟨[.ref 257, .ref l], []⟩).cUnits ≤ 20 := Nat.le_of_ble_eq_true rfl
    show un + _ + 10 * 4 ≤ un + 10 * 6
    omega
  · intro r h2 tk2 hk2 ht2 hp
    obtain ⟨rfl, tk, hx, hd'⟩ := hp
    refine ⟨rfl, ?_⟩
    refine ret x dx tk h2 tk2 ?_ ?_ hdx' hlt ht2
    · have hL : L ∉ List.map (fun x => x.1) [(x, instObj 257 dx), (dx, dictOf [] 0)] := by
        simp only [List.map_cons, List.map_nil, List.mem_cons, List.not_mem_nil, or_false]
        rintro (e | e)
        · exact n1.2.1 e.symm
        · exact n2.2.1 e.symm
      obtain ⟨oL, es, ep, hLo, r⟩ := F'.ns
      refine ⟨⟨oL, es, ep, hk2 L oL hL hLo, r⟩, fun b o e => hk2 b o (fun q => ?_) (F'.keep b o e), F'.above⟩
      simp only [List.map_cons, List.map_nil, List.mem_cons, List.not_mem_nil, or_false] at q
      rcases q with rfl | rfl
      · rw [n1.2.2] at e; cases e
      · rw [n2.2.2] at e; cases e
    · intro q hq
      rcases List.mem_cons.mp hq with rfl | hq
      · exact ⟨hx, n1.2⟩
      · rcases List.mem_cons.mp hq with rfl | hq
        · exact ⟨hd', n2.2⟩
        · refine ⟨hk2 q.1 _ ?_ (N'' q hq).1, (N'' q hq).2⟩
          simp only [List.map_cons, List.map_nil, List.mem_cons, List.not_mem_nil, or_false]
          have := hlt q hq
          rintro (e | e)
          · exact absurd (e ▸ this) (Nat.lt_asymm hdx')
          · exact absurd (e ▸ this) (Nat.lt_irrefl _)
end

end
section
local macro_rules | `(tactic| walk_at "eval Name") => `(tactic| (k_here; k_dflt (refine' ld ?k1 ?k2 ?_; (case k1 => k_asm); (case k2 => assumption); k_whole)))
noncomputable def Deck (w : World) (h : Heap) (x : Addr) (rows : List Row) : Prop := ∃ dx l tk, h.get? x = some (instObj 257 dx) ∧ h.get? dx = some (hdD w l tk) ∧ h.IsList l (rowsV rows).toArray ∧ RowsIn h rows
theorem Deck.at {w : World} {h h' : Heap} {x : Addr} {rows : List Row} (d : Deck w h x rows) (hk : ∀ b o, h.get? b = some o → h'.get? b = some o) : Deck w h' x rows := by
  obtain ⟨dx, l, tk, a, b, c, e⟩ := d
  exact ⟨dx, l, tk, hk _ _ a, hk _ _ b, c.at fun o e => hk _ _ e, e.at fun _ _ o e => hk _ o e⟩
theorem inst_g {w : World} {g : Heap} {L x dx l : Addr} {tk : Tok} {h : Heap} {m : Str → Option Value} (F : Fr g L h m) (hx : g.get? x = some (instObj 257 dx)) (hd' : g.get? dx = some (hdD w l tk)) : InstAt h x (instObj 257 dx) 257 (some (hdD w l tk)) :=
  ⟨F.keep _ _ hx, rfl, rfl, F.keep _ _ hd'⟩
local macro_rules | `(tactic| k_inst) => `(tactic| (refine inst_g (by k_asm) (by assumption) (by assumption)))


noncomputable def ShortRows (rows : List Row) : Prop := ∀ r ∈ rows, r.2.1.1.length ≤ 1000
noncomputable def got (rows : List Row) (nm : Str) : Value := ((rows.find? fun r => Txt.lower r.2.1.1 == Txt.lower nm).map fun r => Value.str r.2.2.1 r.2.2.2).getD .none
local macro_rules | `(tactic| walk_at "exec For Tuple Attribute cons nil") => `(tactic| (k_here; refine wpAny_For ?_))


theorem get_sp (w : World) (x : Addr) (rows : List Row) (nm : Str) (tn : Tok) :
  Sp 4 w 204 ⟨[.ref x, .str nm tn], []⟩ [] (fun h _ => Deck w h x rows ∧ rows.length ≤ 30 ∧ ShortRows rows ∧ nm.length ≤ 1000 ∧ plainT (Txt.lower nm).cps ∧ (Txt.lower nm).cps.size ≤ 2 ^ 18)
    (fun _ _ r _ _ => r = got rows nm) := by
  intro p loose mean mg mb dp un fr gd h₀ s R X T hk hN hdp hun hpre ret
  obtain ⟨hdk, hlen, hsh, hnm, hpl⟩ := hpre
  (k_dflt (refine' enterC _ ?a1 ?a2 ?a3 ?a4 ?k6 ?k7 ?k8 ?k9 ?kB ?c2 ?c3 ?c4 ?c5 ?cR ?_; (case a1 => assumption); (case a2 => assumption); (case a3 => assumption); (case a4 => assumption); (case k6 => k_is); (case k7 => k_is); (case k8 => exact room0 (by assumption)); (case k9 => first | exact BindsTo.of_eq rfl | (refine' bindK ?kx ?ky ?ke; (case kx => assumption); (case ky => assumption); (case ke => intro _; exact rfl))); (case kB => exact locs rfl); (case c2 => exact rfl); (case c3 => exact rfl); (case c4 => exact rfl); (case c5 => decide); (case cR => assumption); intro _ _ _ _ _ _ _ _ _ _ _; (try dsimp only); (try k_fold)))
  rename Kp _ _ _ => kp
  rename_i g _ _ _ _ _ _ _ _ _
  obtain ⟨dx, l, tk, hx, hdx, hlg, hrg⟩ := hdk.at (Kp.all kp)
  k_steps
  refine forB (S := fun _ => True) (by rfl) (fun h _ _ F' _ _ => hlg.at fun o e => F'.keep _ _ e) (by k_asm) (by k_asm) trivial ?_
  intro I hI
  refine BRest.ind (J := fun vs m T => ∃ rs u, vs = rowsV rs ∧ m (Str.ofString "name") = some (.str (Txt.lower nm) u) ∧ m (Str.ofString "default") = some .none ∧ RowsIn g rs ∧ ShortRows rs ∧ got rs nm = got rows nm) ?_ ?_ _ _ _ ⟨rows, _, rfl, rfl, rfl, hrg, hsh, rfl⟩
  · rintro v r m T ⟨rs, u, hv, hname, hdef, hrs, hss, hgot⟩ it h tk' hT hc F' N' off
    cases rs with
    | nil => simp [rowsV] at hv
    | cons row rs =>
      obtain ⟨rfl, rfl⟩ := List.cons.inj hv
      have ht := hrs row (.head _)
      have o1 := hss row (.head _)
      k_steps
      · rename (Txt.lower row.2.1.1 == Txt.lower nm) = true => he
        have e1 : got (row :: rs) nm = .str row.2.2.1 row.2.2.2 := by unfold got; rw [List.find?_cons, he]; rfl
        rw [e1] at hgot
        dsimp only [BPost]
        refine' EndP.ret ?F fun _ => hgot
        (case F => k_asm)
      · rename (Txt.lower row.2.1.1 == Txt.lower nm) = false => he
        have e1 : got (row :: rs) nm = got rs nm := by unfold got; rw [List.find?_cons, he]
        rw [e1] at hgot
        refine' BPost.nextI ?F ?N off trivial ?_
        (case F => k_dflt assumption)
        (case N => k_dflt assumption)
        exact ⟨rfl, rs, u, rfl, hname, hdef, fun r hr => hrs r (.tail _ hr), fun r hr => hss r (.tail _ hr), hgot⟩
  · rintro m T ⟨rs, u, hv, hname, hdef, hrs, hss, hgot⟩ h tk' hT F' N'
    have hrs0 : rs = [] := by
      cases rs with
      | nil => rfl
      | cons z zs => simp [rowsV] at hv
    subst hrs0
    k_steps
    exact EndP.ret (by k_asm) fun _ => hgot

end
section
section
variable {w : World} {p : Program} {loose : List Str} {mean : ExcName → Option Value} {mg mb : Str → Option Value} {dp un : Nat} {fr : Option (List Env)} {gd : Option (List Code)} {h₀ : Heap} {s : Shared} {R : Result → Shared → Prop}
  {name qual nm : Str} {params : Arguments} {body : List Stmt} {scope : Scope} {dV kV doc pm cdv ct oc : Value} {an od : Option Addr} {osl : Array (Option Value)} {f : Addr} {args : Args} {front : List (Str × Value)} {hn : List (Addr × Obj)}

theorem enterM (post : Value → Heap → Nat → Prop) (X : (hd.heap_1 w.params).In h₀) (T : Top p loose mean mg mb h₀) (hk : ∀ b o, h₀.get? b = some o → s.heap.get? b = some o)
    (hN : ∀ q ∈ hn, s.heap.get? q.1 = some q.2 ∧ h₀.get? q.1 = none)
    (ho : (hd.heap_1 w.params).lookup f = some ⟨oc, od, .func (fnOf name qual params body scope dV kV doc pm an cdv ct), osl⟩) (hcd : codeIn (hd.heap_1 w.params) cdv qual = true) (hroom : dp < recursionLimit)
    (hbind : bindArgs (fnOf name qual params body scope dV kV doc pm an cdv ct) args = (alloc (dictOf [] 0) >>= fun D => pure (front ++ [(nm, Value.ref D)]))) (hloc : ∀ D, ∀ y ∈ front ++ [(nm, Value.ref D)], scope.names.lookup y.1 = some .local)
    (hco : scope.isCoroutine = false) (hgen : scope.isGenerator = false) (hkd : scope.kind = .function) (hcell : ∀ x ∈ scope.names, x.2 ≠ .cell)
    (ret : ∀ r h' tk', Kp (hn.map (·.1)) s.heap h' → s.toks ≤ tk' → post r h' tk' → R (.ok (.ret r)) { s with heap := h', toks := tk' })
    (h : ∀ g D o L h₁ tk, o.IsDictOf (strKind PySem.Challenge.pw_tp0036_01 w) ([] : List (Str × Value)) → PyProof.V.FlatPairs PyData.str ([] : List (Str × Value)) ([] : List (PyData × PyData)) → Fr g L h₁ (fun y => (front ++ [(nm, Value.ref D)]).reverse.lookup y) → News g L h₁ ((D, o) :: hn) → (hd.heap_1 w.params).In g → Top p loose mean mg mb g →
      (∀ b o, g.get? b = some o → s.heap.get? b = some o) → Kp (hn.map (·.1)) s.heap g → s.toks ≤ tk → (∀ q ∈ hn, q.1 < D) → (D == sysModules) = false →
      wpAny (model PySem.Challenge.pw_tp0036_01 w) ((AR dp un fr gd).deeper (envOf qual scope L f cdv)) (execs body (envOf qual scope L f cdv))
        (EndP g s post) (fun _ _ => False) { s with heap := h₁, toks := tk }) :
    codeAny (model PySem.Challenge.pw_tp0036_01 w) (AR dp un fr gd) (.call (.ref f) args) R s := by
  have nm' : ∀ b o, h₀.get? b = some o → b ∉ hn.map (·.1) := fun b o e q => by
    obtain ⟨q', hp, rfl⟩ := List.mem_map.mp q
    rw [(hN q' hp).2] at e; cases e
  have st : ∀ b o, h₀.get? b = some o → (hideAll s.heap (hn.map (·.1))).get? b = some o := fun b o e => hideAll_get _ (hk b o e) (nm' b o e)
  refine codeAny_with_toks (Nat.le_refl s.toks) ?_
  refine codeAny_call_function hroom (hk _ _ (X _ _ ho)) rfl hco hgen rfl ((codeRec_of X hcd).keeps hk) ?_
  rw [hbind]
  refine wpAny_bind (wpAny_alloc (wpAny_pure ?_))
  have up : ∀ b o, s.heap.get? b = some o → (s.heap.push (dictOf [] 0)).get? b = some o := fun b o e => Heap.get?_push_of_some _ e
  have hD : (s.heap.push (dictOf [] 0)).get? s.heap.objs.size = some (dictOf [] 0) := Heap.get?_push_size _ rfl
  refine wpAny_newFunctionEnv hcell (hloc _) (fun h₁ hns hsb => ⟨((T.nolimit.keeps hk).keeps up).fresh _ hsb, codeAny_func ?_⟩) hkd
  dsimp only at hns hsb ⊢
  have hk₁ : ∀ b o, (s.heap.push (dictOf [] 0)).get? b = some o → h₁.get? b = some o := fun b o e => hsb.extBut b o (Nat.ne_of_lt (Heap.lt_size e)) (Heap.get?_push_of_some _ e)
  have hk₂ : ∀ b o, s.heap.get? b = some o → h₁.get? b = some o := fun b o e => hk₁ b o (up b o e)
  have hz : (s.heap.push (dictOf [] 0)).objs.size = s.heap.objs.size + 1 := Heap.size_push ..
  refine wpAny_mono (h (hideAll s.heap (hn.map (·.1))) s.heap.objs.size (dictOf [] 0) (s.heap.push (dictOf [] 0)).objs.size h₁ _ (kp_isDict 0 0 (ex := []) List.nodup_nil) PyProof.V.FlatPairs.nil ⟨hns, fun b o e => hk₂ b o (of_hideAll _ e), ?_⟩
    (fun q hq => ?_) (X.keeps st) (T.keeps st) (fun b o e => of_hideAll _ e) (fun b o hb e => hideAll_get _ e hb) (Nat.le_add_right _ _) (fun q hq => Heap.lt_size (hN q hq).1) ?_) (fun fl s' hl => ?_) fun _ _ e => e.elim
  · rw [hz]; exact Nat.le_succ_of_le (Nat.le_of_eq (hideAll_size _ _))
  · rcases List.mem_cons.mp hq with rfl | hq
    · refine ⟨hk₁ _ _ hD, by rw [hz]; exact Nat.ne_of_lt (Nat.lt_succ_self _), ?_⟩
      cases e : (hideAll s.heap (hn.map (·.1))).get? s.heap.objs.size with
      | none => rfl
      | some o => exact absurd (Heap.lt_size (of_hideAll _ e)) (Nat.lt_irrefl _)
    · refine ⟨hk₂ _ _ (hN q hq).1, ?_, hideAll_none _ (List.mem_map_of_mem hq)⟩
      rw [hz]; exact Nat.ne_of_lt (Nat.lt_succ_of_lt (Heap.lt_size (hN q hq).1))
  · exact beq_eq_false_iff_ne.mpr (Nat.ne_of_gt (modules_low (T.nolimit.keeps hk)))
  · obtain ⟨h', tk', rfl, hg, hp⟩ := hl
    intro ht
    refine ret _ h' tk' (fun b o hb e => hg b o (hideAll_get _ e hb)) ht ?_
    have := hp ht
    cases fl <;> exact this
end

end
local macro_rules | `(tactic| walk_at "ZS") => `(tactic| (first | with_reducible assumption | size_fits | assumption))
local macro_rules | `(tactic| k_inst) => `(tactic| (refine inst_g (by k_asm) (by assumption) (by assumption)))
section
local macro_rules | `(tactic| walk_at "call builtin:list.append") => `(tactic| (k_here; (with_reducible show wpAny _ _ (call _ [Value.ref _, _]) _ _ _); k_dflt (refine append_K (by k_asm) (by k_asm) (by k_upd) ?_ (by walk_at "ZS"); k_whole); intro h' F' N'; (try k_sweep)))
theorem join1 {prog : Program} {w : World} {A : Around} {E : Value → Shared → Prop} {s : Shared} {g : Heap} {L D : Addr} {sep v : Str} {t tv : Tok} {n : Nat} {news : List (Addr × Obj)} {Q : Value → Shared → Prop}
    (N : News g L s.heap news) (hm : (D, W.listOf (#[].push (.str v tv)) n) ∈ news) (hs : sep.length ≤ 10) (hv : v.cps.size ≤ 2 ^ 18) (h : ∀ t' k, Q (.str v t') { s with toks := k }) :
    wpAny (model prog w) A (call (.builtin "str.join") [.str sep t, .ref D]) Q E s := by
  have hl : s.heap.IsList D (strValues [(v, tv)]).toArray := ⟨_, (N _ hm).1, rfl, _, rfl⟩
  refine SC.join (texts := [v]) hl rfl ?_ fun t' k => ?_
  · unfold JoinOk PySem.Builtin.Str.tooLong
    rw [StrLaws.joinTotal]
    have : v.length = v.cps.size := rfl
    simp [sizeLine]; omega
  · have : Txt.join sep [v] = v := by
      show PySem.Builtin.Str.glued sep [v] = v
      rw [StrLaws.glued_eq_join]; rfl
    rw [this]; exact h t' k
local macro_rules | `(tactic| walk_at "call builtin:str.join") => `(tactic| (k_here; k_dflt (refine join1 (by k_asm) (by k_mem) (by decide) (by assumption) ?_; intro t8 k8; (try k_fold))))


noncomputable abbrev lstO (vs : List Value) (n : Nat) : Obj := { cls := .type "list", data := .seq vs.toArray n }
theorem rowsV_snoc (rows : List Row) (r : Row) : rowsV (rows ++ [r]) = rowsV rows ++ [.ref r.1] := List.map_append ..
noncomputable abbrev tupO (k : Str) (tk : Tok) (v : Str) (tv : Tok) : Obj := { cls := .type "tuple", data := .seq #[.str k tk, .str v tv] }
theorem add_sp (w : World) (x dx l : Addr) (tk : Tok) (rows : List Row) (n : Nat) (nm v : Str) (tn tv : Tok) :
  Sp 4 w 254 ⟨[.ref x, .str nm tn, .str v tv], []⟩ [(l, lstO (rowsV rows) n)] (fun h _ => h.get? x = some (instObj 257 dx) ∧ h.get? dx = some (hdD w l tk) ∧ rows.length ≤ 30 ∧ (plainT nm.cps ∧ nm.cps.size ≤ 2 ^ 18) ∧ plainT v.cps ∧ v.cps.size ≤ 2 ^ 18)
    (fun h _ r h' _ => r = .none ∧ ∃ a t', h.get? a = none ∧ h'.get? l = some (lstO (rowsV (rows ++ [(a, (nm, tn), (v, t'))])) (n + 1)) ∧ h'.get? a = some (tupO nm tn v t')) := by
  intro p loose mean mg mb dp un fr gd h₀ s R X T hk hN hdp hun hpre ret
  obtain ⟨hx, hdx, hlen, hpn, hpv⟩ := hpre
  obtain ⟨hl1, -⟩ := hN _ (.head _)
  have hvz := hpv.2
  (k_dflt (refine' enterM _ ?a1 ?a2 ?a3 ?a4 ?k6 ?k7 ?k8 ?k9 ?kB ?c2 ?c3 ?c4 ?c5 ?cR ?_; (case a1 => assumption); (case a2 => assumption); (case a3 => assumption); (case a4 => assumption); (case k6 => k_is); (case k7 => k_is); (case k8 => exact room0 (by assumption)); (case k9 => exact rfl); (case kB => exact fun _ => locs rfl); (case c2 => exact rfl); (case c3 => exact rfl); (case c4 => exact rfl); (case c5 => decide); (case cR => assumption); intro _ _ _ _ _ _ _ _ _ _ _ _ _ _ _ _ _; (try dsimp only); (try k_fold)))
  rename Kp _ _ _ => kp
  rename_i g D oD _ _ _ _ _ _ _ _ _ _ _ _ _
  have nl : ∀ (b : Addr) (o : Obj), s.heap.get? b = some o → o.cls ≠ .type "list" → b ∉ List.map (fun x => x.1) [(l, lstO (rowsV rows) n)] := by
    intro b o ho hc hb
    simp only [List.map_cons, List.map_nil, List.mem_cons, List.not_mem_nil, or_false] at hb
    subst hb
    rw [hl1] at ho; cases ho; exact hc rfl
  have hxg := kp x _ (nl x _ hx (by simp)) hx
  have hdg := kp dx _ (nl dx _ hdx (by simp)) hdx
  have hlD : @LT.lt Nat _ l D := by rename (∀ q ∈ [(l, lstO (rowsV rows) n)], q.1 < D) => z; exact z _ (.head _)
  have hsz : (rowsV rows).toArray.size ≤ sizeLine := by simp only [List.size_toArray, rowsV, List.length_map, sizeLine]; omega
  k_steps
  rename News _ _ _ _ => NN
  refine EndP.next (by k_asm) fun _ => ⟨rfl, _, _, ?_, ?_, (NN _ (.head _)).1⟩
  · have h1 := (NN _ (.head _)).2.2
    cases e : s.heap.get? _ with
    | none => rfl
    | some o =>
      rw [kp _ o ?_ e] at h1
      · cases h1
      · simp only [List.map_cons, List.map_nil, List.mem_cons, List.not_mem_nil, or_false]
        refine neN ?_
        omega
  · rw [rowsV_snoc]
    refine ((NN _ (.tail _ (.tail _ (.tail _ (.head _))))).1).trans ?_
    simp [lstO]

end
section
section
variable {prog : Program} {w : World} {A : Around} {E : Value → Shared → Prop} {s : Shared} {X X' T : Str} {b : Addr} {k v : Str} {t tk tv : Tok} {Q : Value → Shared → Prop} {its : Array Value}
theorem mod_tup' (ht : IsTup s.heap b its) (hX : X = X')
    (hm : Meets (Builtin.«str.__mod__» ⟨[.str X' t, .ref b], []⟩) (fun _ R s => IsTup s.heap b its ∧ ∀ t' k, R (.ok (.ret (.str T t'))) { s with toks := k }))
    (h : ∀ t' k, Q (.str T t') { s with toks := k }) : wpAny (model prog w) A (binaryOp .Mod (.str X t) (.ref b)) Q E s := by
  subst hX
  have hT : s.TypeIs (.ref b) "tuple" := by
    obtain ⟨o, ho, hc, _⟩ := ht
    exact ⟨o, ho, hc⟩
  exact KPt.bin_left (T := "str") (U := "tuple") (op := .Mod) (by decide) (typeIs_str s X t) hT F.fills_str_mod KPt.fills_tuple F.slot_str_mod
    (call_meets F.slot_str_mod (typeIs_str s X t) F.entry_str_mod (F.args_str_mod_2 _ _) hm ⟨ht, fun t' k => ⟨(fun e => nomatch e), h t' k⟩⟩)
theorem pct_kv (ht : IsTup s.heap b #[.str k tk, .str v tv]) (hk : k.length ≤ 100) (hv : v.length ≤ 100)
    (h : ∀ t' k', Q (.str (k ++ Str.ofString ": " ++ v) t') { s with toks := k' }) : wpAny (model prog w) A (binaryOp .Mod (.str (Str.ofString "%s: %s") t) (.ref b)) Q E s := by
  refine' mod_tup' ht ?kptF ?kptm ?_
  (case kptF => kpt_eq)
  (case kptm => kpt_run)
  intro t' k'
  exact h t' k'
end

end
local macro_rules | `(tactic| walk_at "Z3") => `(tactic| skip)
section
local macro_rules | `(tactic| walk_at "binaryOp Mod str ref") => `(tactic| (k_here; k_dflt (refine pct_kv (Fr.tup (by k_asm) (by assumption)) (by assumption) (by assumption) ?_); intro t8 k8; (try k_fold)))
local macro_rules | `(tactic| walk_at "binaryOp Add ref ref") => `(tactic| (k_here; k_dflt (refine kmk_add_lit (by k_asm) (by k_asm) (News.isList (by k_asm) (by k_mem)) (News.isList (by k_asm) (by k_mem)) (by exact rfl) ?_ (by walk_at "ZS")); intro D' h' F' N' l1; (try k_lt l1); (try k_sweep)))
noncomputable def lineOf (r : Row) : Str := r.2.1.1 ++ Str.ofString ": " ++ r.2.2.1
noncomputable def headText (rows : List Row) : Str := Txt.join (Str.ofString "\r\n") (rows.map lineOf ++ [Str.empty, Str.empty])
theorem strsV_snoc (ks : List Str) (ts : List Tok) (k : Str) (t : Tok) (h : ks.length = ts.length) : strsV (ks ++ [k]) (ts ++ [t]) = strsV ks ts ++ [.str k t] := by
  unfold strsV; rw [List.zipWith_append h]; rfl
theorem strsV_values (ks : List Str) (ts : List Tok) : strsV ks ts = strValues (ks.zip ts) := by
  induction ks generalizing ts with
  | nil => simp [strsV, strValues]
  | cons k ks ih => cases ts with
    | nil => simp [strsV, strValues]
    | cons t ts =>
      have := ih ts
      simp only [strsV, strValues] at this
      simp [strsV, strValues, this]
theorem lineOf_len (rows : List Row) (hsh : ∀ r ∈ rows, r.2.1.1.length ≤ 100 ∧ r.2.2.1.length ≤ 100) : ∀ y ∈ rows.map lineOf ++ [Str.empty, Str.empty], y.length ≤ 202 := by
  intro y hy
  rcases List.mem_append.mp hy with h | h
  · obtain ⟨r, hr, rfl⟩ := List.mem_map.mp h
    obtain ⟨a, b⟩ := hsh r hr
    have e : (lineOf r).length = r.2.1.1.length + 2 + r.2.2.1.length := by
      show ((r.2.1.1.cps ++ (Str.ofString ": ").cps) ++ r.2.2.1.cps).size = _
      rw [Array.size_append, Array.size_append]; rfl
    omega
  · have : y = Str.empty := by simpa using h
    rw [this]; decide
theorem join_ok (sep : Str) {texts : List Str} (h : ∀ y ∈ texts, y.length ≤ 202) (hl : texts.length ≤ 100) (hs : sep.length ≤ 10 := by decide) : JoinOk sep texts = true := by
  unfold JoinOk PySem.Builtin.Str.tooLong
  rw [StrLaws.joinTotal]
  have h1 : (texts.map (·.length)).sum ≤ texts.length * 202 := StrLaws.sumLen_le texts h
  have h2 : texts.length * sep.length ≤ 100 * 10 := Nat.mul_le_mul hl hs
  have h3 : ¬ ((texts.map (·.length)).sum + texts.length * sep.length > sizeLine) := by simp only [sizeLine]; omega
  rw [decide_eq_false h3]; rfl
theorem join_two {prog : Program} {w : World} {A : Around} {E : Value → Shared → Prop} {s : Shared} {D : Addr} {sep : Str} {t a b : Tok} {ks : List Str} {ts : List Tok} {Q : Value → Shared → Prop} (hlen : ks.length = ts.length)
    (hl : s.heap.get? D = some (W.listOf (List.toArray ((strsV ks ts).toArray.toList ++ #[Value.str Str.empty a, Value.str Str.empty b].toList)) 0))
    (hok : JoinOk sep (ks ++ [Str.empty, Str.empty]) = true) (h : ∀ t' k, Q (.str (Txt.join sep (ks ++ [Str.empty, Str.empty])) t') { s with toks := k }) : wpAny (model prog w) A (call (.builtin "str.join") [.str sep t, .ref D]) Q E s := by
  refine SC.join (l := ks.zip ts ++ [(Str.empty, a), (Str.empty, b)]) ⟨_, hl, rfl, 0, ?_⟩ ?_ hok h
  · rw [strsV_values]
    simp [strValues]
  · rw [List.map_append, List.map_fst_zip (by simp [hlen])]; rfl
theorem str_sp (w : World) (x : Addr) (rows : List Row) :
  Sp 4 w 233 ⟨[.ref x], []⟩ [] (fun h _ => Deck w h x rows ∧ rows.length ≤ 30 ∧ ∀ r ∈ rows, r.2.1.1.length ≤ 100 ∧ r.2.2.1.length ≤ 100)
    (fun _ _ r _ _ => ∃ t, r = .str (headText rows) t) := by
  intro p loose mean mg mb dp un fr gd h₀ s R X T hk hN hdp hun hpre ret
  obtain ⟨hdk, hlen, hsh⟩ := hpre
  (k_dflt (refine' enterC _ ?a1 ?a2 ?a3 ?a4 ?k6 ?k7 ?k8 ?k9 ?kB ?c2 ?c3 ?c4 ?c5 ?cR ?_; (case a1 => assumption); (case a2 => assumption); (case a3 => assumption); (case a4 => assumption); (case k6 => k_is); (case k7 => k_is); (case k8 => exact room0 (by assumption)); (case k9 => first | exact BindsTo.of_eq rfl | (refine' bindK ?kx ?ky ?ke; (case kx => assumption); (case ky => assumption); (case ke => intro _; exact rfl))); (case kB => exact locs rfl); (case c2 => exact rfl); (case c3 => exact rfl); (case c4 => exact rfl); (case c5 => decide); (case cR => assumption); intro _ _ _ _ _ _ _ _ _ _ _; (try dsimp only); (try k_fold)))
  rename Kp _ _ _ => kp
  rename_i g _ _ _ _ _ _ _ _ _
  obtain ⟨dx, l, tk, hx, hdx, hlg, hrg⟩ := hdk.at (Kp.all kp)
  k_steps
  refine ⟨l, rowsV rows, _, _, _, rfl, rfl, by k_asm, by k_asm, ?_, fun h' F' _ => hlg.at (fun o e => F'.keep _ _ e), ?_⟩
  · simp only [rowsV, List.length_map, sizeLine]; omega
  refine CRest.ind (J := fun vs acc T => ∃ rs ds ts', vs = rowsV rs ∧ acc = strsV (ds.map lineOf) ts' ∧ ds.length = ts'.length ∧ ds ++ rs = rows) ?_ ?_ _ _ _ ⟨rows, [], [], rfl, rfl, rfl, rfl⟩
  · rintro v r acc T ⟨rs, ds, ts', hv, rfl, hdt, hds⟩ I oI C oC D m₂ h₂ tk hTk hC hx F N off
    cases rs with
    | nil => simp [rowsV] at hv
    | cons row rs =>
      obtain ⟨rfl, rfl⟩ := List.cons.inj hv
      have ht := hrg row (by rw [← hds]; simp)
      obtain ⟨o1, o2⟩ := hsh row (by rw [← hds]; simp)
      k_steps
      refine CEnd.intro (by k_dflt assumption) (by k_dflt assumption) fun _ => ⟨rs, ds ++ [row], ts' ++ [_], rfl, by rw [List.map_append]; exact (strsV_snoc _ _ _ _ (by simpa using hdt)).symm, by simp [hdt], by rw [← hds]; simp⟩
  · rintro acc T ⟨rs, ds, ts', hv, rfl, hdt, hds⟩ D h₂ tk hTk F N off
    have hrs0 : rs = [] := by
      cases rs with
      | nil => rfl
      | cons z zs => simp [rowsV] at hv
    subst hrs0
    simp only [List.append_nil] at hds
    subst hds
    have hz : (strsV (ds.map lineOf) ts').toArray.toList.length + (List.toArray [Value.str (Str.ofString "") 0, Value.str (Str.ofString "") 0]).toList.length ≤ sizeLine := by simp [strsV, sizeLine]; omega
    k_steps
    rename News _ _ _ _ => NN
    have hl := (NN _ (.head _)).1
    refine join_two (by simp [hdt]) hl (join_ok _ (fun y hy => lineOf_len _ hsh y hy) (by simp; omega)) fun t' k => ?_
    exact EndP.ret (by k_asm) fun _ => ⟨_, rfl⟩

end
section
noncomputable def optV : Option Str → Tok → Value
  | none, _ => .none
  | some x, t => .str x t
noncomputable def lname (la en : Option Str) : Str := match en with
  | none => la.getD (Str.ofString "C")
  | some e => la.getD (Str.ofString "C") ++ Str.ofString "." ++ e
theorem build_sp (w : World) (a : Addr) (la en : Option Str) (tl te : Tok) (hla : ∀ x, la = some x → x.length ≤ 10) (hen : ∀ x, en = some x → x.length ≤ 10) :
  Sp 2 w 52 ⟨[.ref a], []⟩ [] (fun h _ => IsTup h a #[optV la tl, optV en te]) (fun _ _ r _ _ => ∃ t, r = .str (lname la en) t) := by
  intro p loose mean mg mb dp un fr gd h₀ s R X T hk hN hdp hun hpre ret
  cases la with
  | none =>
    cases en with
    | none =>
      simp only [optV] at hpre
      (k_dflt (refine' enterC _ ?a1 ?a2 ?a3 ?a4 ?k6 ?k7 ?k8 ?k9 ?kB ?c2 ?c3 ?c4 ?c5 ?cR ?_; (case a1 => assumption); (case a2 => assumption); (case a3 => assumption); (case a4 => assumption); (case k6 => k_is); (case k7 => k_is); (case k8 => exact room0 (by assumption)); (case k9 => first | exact BindsTo.of_eq rfl | (refine' bindK ?kx ?ky ?ke; (case kx => assumption); (case ky => assumption); (case ke => intro _; exact rfl))); (case kB => exact locs rfl); (case c2 => exact rfl); (case c3 => exact rfl); (case c4 => exact rfl); (case c5 => decide); (case cR => assumption); intro _ _ _ _ _ _ _ _ _ _ _; (try dsimp only); (try k_fold)))
      rename Kp _ _ _ => kp
      have hg := hpre.keeps (Kp.all kp)
      k_steps
      all_goals (try dsimp only)
      all_goals exact EndP.ret (by k_asm) (fun _ => ⟨_, rfl⟩)
    | some e =>
      have h1 := hen e rfl
      simp only [optV] at hpre
      (k_dflt (refine' enterC _ ?a1 ?a2 ?a3 ?a4 ?k6 ?k7 ?k8 ?k9 ?kB ?c2 ?c3 ?c4 ?c5 ?cR ?_; (case a1 => assumption); (case a2 => assumption); (case a3 => assumption); (case a4 => assumption); (case k6 => k_is); (case k7 => k_is); (case k8 => exact room0 (by assumption)); (case k9 => first | exact BindsTo.of_eq rfl | (refine' bindK ?kx ?ky ?ke; (case kx => assumption); (case ky => assumption); (case ke => intro _; exact rfl))); (case kB => exact locs rfl); (case c2 => exact rfl); (case c3 => exact rfl); (case c4 => exact rfl); (case c5 => decide); (case cR => assumption); intro _ _ _ _ _ _ _ _ _ _ _; (try dsimp only); (try k_fold)))
      rename Kp _ _ _ => kp
      have hg := hpre.keeps (Kp.all kp)
      k_steps
      all_goals (try dsimp only)
      all_goals exact EndP.ret (by k_asm) (fun _ => ⟨_, rfl⟩)
  | some l =>
    have h2 := hla l rfl
    cases en with
    | none =>
      simp only [optV] at hpre
      (k_dflt (refine' enterC _ ?a1 ?a2 ?a3 ?a4 ?k6 ?k7 ?k8 ?k9 ?kB ?c2 ?c3 ?c4 ?c5 ?cR ?_; (case a1 => assumption); (case a2 => assumption); (case a3 => assumption); (case a4 => assumption); (case k6 => k_is); (case k7 => k_is); (case k8 => exact room0 (by assumption)); (case k9 => first | exact BindsTo.of_eq rfl | (refine' bindK ?kx ?ky ?ke; (case kx => assumption); (case ky => assumption); (case ke => intro _; exact rfl))); (case kB => exact locs rfl); (case c2 => exact rfl); (case c3 => exact rfl); (case c4 => exact rfl); (case c5 => decide); (case cR => assumption); intro _ _ _ _ _ _ _ _ _ _ _; (try dsimp only); (try k_fold)))
      rename Kp _ _ _ => kp
      have hg := hpre.keeps (Kp.all kp)
      k_steps
      all_goals (try dsimp only)
      all_goals exact EndP.ret (by k_asm) (fun _ => ⟨_, rfl⟩)
    | some e =>
      have h1 := hen e rfl
      simp only [optV] at hpre
      (k_dflt (refine' enterC _ ?a1 ?a2 ?a3 ?a4 ?k6 ?k7 ?k8 ?k9 ?kB ?c2 ?c3 ?c4 ?c5 ?cR ?_; (case a1 => assumption); (case a2 => assumption); (case a3 => assumption); (case a4 => assumption); (case k6 => k_is); (case k7 => k_is); (case k8 => exact room0 (by assumption)); (case k9 => first | exact BindsTo.of_eq rfl | (refine' bindK ?kx ?ky ?ke; (case kx => assumption); (case ky => assumption); (case ke => intro _; exact rfl))); (case kB => exact locs rfl); (case c2 => exact rfl); (case c3 => exact rfl); (case c4 => exact rfl); (case c5 => decide); (case cR => assumption); intro _ _ _ _ _ _ _ _ _ _ _; (try dsimp only); (try k_fold)))
      rename Kp _ _ _ => kp
      have hg := hpre.keeps (Kp.all kp)
      k_steps
      all_goals (try dsimp only)
      all_goals exact EndP.ret (by k_asm) (fun _ => ⟨_, rfl⟩)

end
section
theorem compTurn_inner (elt t1 t2 i1 i2 : PySem.Expr) (scope : Scope) (pos : Pos) (it acc : Value) (env : Env) :
    compTurn (.ListComp elt [⟨t1, i1, [], 0⟩, ⟨t2, i2, [], 0⟩] scope pos) 1 it acc env = (standAt i2.pos >>= fun _ => pyNext it >>= fun r => match r with
      | none => pure (.done .next)
      | some v => letOwnedTupleGo t2 it v >>= fun _ => assign t2 env v >>= fun _ =>
        (eval elt env >>= fun x => call (.builtin "list.append") [acc, x] >>= fun _ => pure ()) >>= fun _ =>
          again (.compLoop (.ListComp elt [⟨t1, i1, [], 0⟩, ⟨t2, i2, [], 0⟩] scope pos) 1 it acc env)) := by rfl
theorem compTurn_outer (elt t1 t2 i1 i2 : PySem.Expr) (scope : Scope) (pos : Pos) (it acc : Value) (env : Env) :
    compTurn (.ListComp elt [⟨t1, i1, [], 0⟩, ⟨t2, i2, [], 0⟩] scope pos) 0 it acc env = (standAt i1.pos >>= fun _ => pyNext it >>= fun r => match r with
      | none => pure (.done .next)
      | some v => letOwnedTupleGo t1 it v >>= fun _ => assign t1 env v >>= fun _ => eval i2 env >>= fun x => standAt i2.pos >>= fun _ => foldedSetIterable i2 env x >>= fun x => holding [x] (pyIter x) >>= fun jt =>
        runOwn (.compStart (.ListComp elt [⟨t1, i1, [], 0⟩, ⟨t2, i2, [], 0⟩] scope pos) 1 jt acc env) env >>= fun _ =>
          again (.compLoop (.ListComp elt [⟨t1, i1, [], 0⟩, ⟨t2, i2, [], 0⟩] scope pos) 0 it acc env)) := by rfl
section
variable {prog : Program} {w : World} {A : Around} {E : Value → Shared → Prop} {R : Result → Shared → Prop} {s : Shared}
theorem inner_loop {elt t1 t2 i1 i2 : PySem.Expr} {scope : Scope} {pos : Pos} {it acc : Value} {env : Env} (I : Nat → Shared → Prop)
    (turn : ∀ n s, I n s → wpAny (model prog w) A (pyNext it) (fun r s₁ => match r with
      | none => R (.ok .next) s₁
      | some v => wpAny (model prog w) A (assign t2 env v) (fun _ s₂ => wpAny (model prog w) A (eval elt env) (fun x s₃ =>
          wpAny (model prog w) A (call (.builtin "list.append") [acc, x]) (fun _ s₄ => ∃ m, m < n ∧ I m s₄) (fun _ _ => False) s₃)
          (fun _ _ => False) s₂) (fun _ _ => False) s₁) (fun _ _ => False) s)
    (n : Nat) (h : I n s) (ht : ∀ v, letOwnedTupleGo t2 it v = pure () := by intro _; rfl) :
    codeAny (model prog w) A (.compLoop (.ListComp elt [⟨t1, i1, [], 0⟩, ⟨t2, i2, [], 0⟩] scope pos) 1 it acc env) R s := by
  refine codeAny_loop rfl I (fun n s hI => ?_) n h
  show wpAny _ A ((compTurn (.ListComp elt [⟨t1, i1, [], 0⟩, ⟨t2, i2, [], 0⟩] scope pos) 1 it acc env).onRaise (fun x => do noteFrame x env; theTreesLotGoes x)) _ _ s
  refine wpAny_noted ?_
  rw [compTurn_inner]
  refine wpAny_bind (wpAny_standAt (wpAny_bind (wpAny_mono (turn n s hI) (fun r s₁ h₁ => ?_) fun _ _ h' => h'.elim)))
  cases r with
  | none => exact wpAny_pure h₁
  | some v =>
    refine wpAny_bind (wpAny_of_eq (ht v) ?_)
    refine wpAny_bind (wpAny_mono h₁ (fun _ s₂ h₂ => wpAny_bind (wpAny_bind (wpAny_mono h₂ (fun x s₃ h₃ => wpAny_bind (wpAny_mono h₃ (fun _ s₄ h₄ => wpAny_pure (wpAny_pure ⟨rfl, h₄⟩)) fun _ _ h' => h'.elim)) fun _ _ h' => h'.elim))) fun _ _ h' => h'.elim)
theorem outer_loop {elt t1 t2 i1 i2 : PySem.Expr} {scope : Scope} {pos : Pos} {it acc : Value} {env : Env} (I : Nat → Shared → Prop) (hs2 : ∀ z, foldedSetIterable i2 env z = pure z)
    (turn : ∀ n s, I n s → wpAny (model prog w) A (pyNext it) (fun r s₁ => match r with
      | none => R (.ok .next) s₁
      | some v => wpAny (model prog w) A (assign t1 env v) (fun _ s₂ => wpAny (model prog w) A (eval i2 env) (fun x s₃ => wpAny (model prog w) A (pyIter x) (fun jt s₄ =>
          codeAny (model prog w) A (.compStart (.ListComp elt [⟨t1, i1, [], 0⟩, ⟨t2, i2, [], 0⟩] scope pos) 1 jt acc env) (fun r s₅ => match r with | .ok _ => ∃ m, m < n ∧ I m s₅ | .error _ => False) s₄) (fun _ _ => False) s₃)
          (fun _ _ => False) s₂) (fun _ _ => False) s₁) (fun _ _ => False) s)
    (n : Nat) (h : I n s) (ht : ∀ v, letOwnedTupleGo t1 it v = pure () := by intro _; rfl) :
    codeAny (model prog w) A (.compLoop (.ListComp elt [⟨t1, i1, [], 0⟩, ⟨t2, i2, [], 0⟩] scope pos) 0 it acc env) R s := by
  refine codeAny_loop rfl I (fun n s hI => ?_) n h
  show wpAny _ A ((compTurn (.ListComp elt [⟨t1, i1, [], 0⟩, ⟨t2, i2, [], 0⟩] scope pos) 0 it acc env).onRaise (fun x => do noteFrame x env; theTreesLotGoes x)) _ _ s
  refine wpAny_noted ?_
  rw [compTurn_outer]
  refine wpAny_bind (wpAny_standAt (wpAny_bind (wpAny_mono (turn n s hI) (fun r s₁ h₁ => ?_) fun _ _ h' => h'.elim)))
  cases r with
  | none => exact wpAny_pure h₁
  | some v =>
    refine wpAny_bind (wpAny_of_eq (ht v) ?_)
    refine wpAny_bind (wpAny_mono h₁ (fun _ s₂ h₂ => wpAny_bind (wpAny_mono h₂ (fun x s₃ h₃ => ?_) fun _ _ h' => h'.elim)) fun _ _ h' => h'.elim)
    refine wpAny_bind (wpAny_standAt (wpAny_bind (wpAny_of_eq (hs2 x) (wpAny_bind (wpAny_holding (wpAny_mono h₃ (fun jt s₄ h₄ => ?_) fun _ _ h' => h'.elim))))))
    refine wpAny_bind (wpAny_runOwn (codeAny_mono h₄ fun r s₅ h₅ => ?_) (by simp))
    cases r with
    | ok f => exact wpAny_pure ⟨rfl, h₅⟩
    | error e => exact h₅.elim
theorem start_inner {elt t1 t2 i1 i2 : PySem.Expr} {scope : Scope} {pos : Pos} {it acc : Value} {env : Env}
    (h0 : codeAny (model prog w) A (.compLoop (.ListComp elt [⟨t1, i1, [], 0⟩, ⟨t2, i2, [], 0⟩] scope pos) 1 it acc env) R s)
    (h : wpAny (model prog w) A (pyIter it) (fun it' s' => codeAny (model prog w) A (.compLoop (.ListComp elt [⟨t1, i1, [], 0⟩, ⟨t2, i2, [], 0⟩] scope pos) 1 it' acc env) R s') (fun _ _ => False) s) :
    codeAny (model prog w) A (.compStart (.ListComp elt [⟨t1, i1, [], 0⟩, ⟨t2, i2, [], 0⟩] scope pos) 1 it acc env) R s := by
  refine codeAny_of_tree ?_
  show wpAny _ _ ((compStart (.ListComp elt [⟨t1, i1, [], 0⟩, ⟨t2, i2, [], 0⟩] scope pos) 1 it acc env).onRaise (fun x => do noteFrame x env; standAt theWindowsPlace)) _ _ s
  refine wpAny_notedAt ?_
  unfold compStart
  show wpAny _ _ (ask >>= _) _ _ s
  refine wpAny_bind (wpAny_askSetting (wpAny_ite ?_))
  split
  · first
      | exact wpAny_bind (wpAny_pure (wpAny_pure (And.intro rfl h0)))
      | exact wpAny_pure (And.intro rfl h0)
  · first
      | exact wpAny_bind (wpAny_rule (wpAny_bind (wpAny_standAt (wpAny_bind (wpAny_mono h (fun it' s' h' => wpAny_pure (And.intro rfl h')) fun _ _ x => x.elim)))))
      | (refine wpAny_bind (wpAny_rule ?_); show wpAny _ _ (standAt i2.pos >>= _) _ _ s; exact wpAny_bind (wpAny_standAt (wpAny_bind (wpAny_mono h (fun it' s' h' => wpAny_pure (And.intro rfl h')) fun _ _ x => x.elim))))
end

end
section
section
variable {prog : Program} {w : World} {A : Around} {s : Shared} {h₀ : Heap} {L : Addr} {m : Str → Option Value} {env : Env} {elt iter1 iter2 : PySem.Expr} {x y : Str} {px py pos : Pos} {scope : Scope} {cl : List (Str × Addr)} {Q : Value → Shared → Prop} {news : List (Addr × Obj)}

noncomputable def IR (prog : Program) (w : World) (A : Around) (h₀ : Heap) (L : Addr) (m : Str → Option Value) (env : Env) (elt : PySem.Expr) (x y : Str) (scope : Scope) (cl : List (Str × Addr)) (news : List (Addr × Obj)) (s : Shared) (v : Value) (K : List Value → Nat → Prop) : List Value → List Value → Nat → Prop
  | [], ys, T => K ys T
  | u :: r, ys, T => ∀ J oJ I oI C oC D m₂ h tk, T ≤ tk → LCg.NsObj oC m₂ → m₂ x = some v → m₂ y = some u → Fr h₀ L h m → News h₀ L h ((J, oJ) :: (I, oI) :: (C, oC) :: (D, LCg.lst ys) :: news) →
      wpAny (model prog w) A (eval elt (compEnvC scope cl C env)) (CEnd h₀ L m s ((J, oJ) :: (I, oI) :: (C, oC) :: (D, LCg.lst ys) :: news) tk fun z tk' => IR prog w A h₀ L m env elt x y scope cl news s v K r (ys ++ [z]) tk') (fun _ _ => False) { s with heap := h, toks := tk }

noncomputable def ISrc (h₀ : Heap) (L : Addr) (m : Str → Option Value) (s : Shared) (led news : List (Addr × Obj)) (IRv : List Value → Nat → Prop) (xv : Value) (s' : Shared) : Prop :=
  ∃ ay us h' tk', xv = .ref ay ∧ s' = { s with heap := h', toks := tk' } ∧ Fr h₀ L h' m ∧ News h₀ L h' led ∧ us.length ≤ 100 ∧ (∀ h'', Fr h₀ L h'' m → News h₀ L h'' news → h''.IsList ay us.toArray) ∧ IRv us tk'

noncomputable def OR (prog : Program) (w : World) (A : Around) (h₀ : Heap) (L : Addr) (m : Str → Option Value) (env : Env) (elt iter2 : PySem.Expr) (x y : Str) (scope : Scope) (cl : List (Str × Addr)) (news : List (Addr × Obj)) (Q : Value → Shared → Prop) (s : Shared) : List Value → List Value → Nat → Prop
  | [], ys, T => ∀ D h tk, T ≤ tk → Fr h₀ L h m → News h₀ L h ((D, LCg.lst ys) :: news) → (∀ p ∈ news, p.1 ≠ D) → Q (.ref D) { s with heap := h, toks := tk }
  | v :: r, ys, T => ∀ I oI C oC D m₂ h tk, T ≤ tk → LCg.NsObj oC m₂ → m₂ x = some v → Fr h₀ L h m → News h₀ L h ((I, oI) :: (C, oC) :: (D, LCg.lst ys) :: news) → LCg.Off3 I C D news →
      wpAny (model prog w) A (eval iter2 (compEnvC scope cl C env)) (ISrc h₀ L m s ((I, oI) :: (C, oC) :: (D, LCg.lst ys) :: news) news fun us tk' => tk ≤ tk' → IR prog w A h₀ L m env elt x y scope cl news s v (OR prog w A h₀ L m env elt iter2 x y scope cl news Q s r) us ys tk') (fun _ _ => False) { s with heap := h, toks := tk }

theorem inner2 {R : Result → Shared → Prop} {v : Value} {K : List Value → Nat → Prop} {J I C D ay : Addr} {oI : Obj} {us : List Value} {B : Nat} (hh : A.handled = none) (hkind : scope.kind = .function) (hy : scope.names.lookup y = some .local) (hxy : x ≠ y)
    (hS : ∀ h'', Fr h₀ L h'' m → News h₀ L h'' news → h''.IsList ay us.toArray) (hus : us.length ≤ 100) (hB : B ≤ 1000)
    (hJI : J ≠ I) (hJC : J ≠ C) (hJD : J ≠ D) (hJL : J ≠ L) (hJ0 : h₀.get? J = none) (hJn : ∀ p ∈ news, p.1 ≠ J) (hIC : I ≠ C) (hID : I ≠ D) (hCD : C ≠ D) (hCL : C ≠ L) (hC0 : h₀.get? C = none) (hDL : D ≠ L) (hD0 : h₀.get? D = none) (hIL : I ≠ L) (hI0 : h₀.get? I = none) (off : LCg.Off3 I C D news)
    (hR : ∀ ys m' h' tk', h'.Ns C m' → h'.get? I = some oI → Fr h₀ L h' m → News h₀ L h' ((D, LCg.lst ys) :: news) → K ys tk' → ys.length ≤ B + 100 → R (.ok .next) { s with heap := h', toks := tk' })
    {ys : List Value} {h : Heap} {tk : Nat} {m' : Str → Option Value} (hys : ys.length ≤ B) (hit : h.IsListIter J ay 0) (hI : h.get? I = some oI) (F : Fr h₀ L h m) (N : News h₀ L h ((D, LCg.lst ys) :: news)) (hn : h.Ns C m') (hv : m' x = some v)
    (hr : IR prog w A h₀ L m env elt x y scope cl news s v K us ys tk) :
    codeAny (model prog w) A (.compStart (.ListComp elt [⟨.Name x px, iter1, [], 0⟩, ⟨.Name y py, iter2, [], 0⟩] scope pos) 1 (.ref J) (.ref D) (compEnvC scope cl C env)) R { s with heap := h, toks := tk } := by
  have off3 := off.mem
  have loop : codeAny (model prog w) A (.compLoop (.ListComp elt [⟨.Name x px, iter1, [], 0⟩, ⟨.Name y py, iter2, [], 0⟩] scope pos) 1 (.ref J) (.ref D) (compEnvC scope cl C env)) R { s with heap := h, toks := tk } := by
    refine inner_loop (fun k s' => ∃ j ys m' h' tk', s' = { s with heap := h', toks := tk' } ∧ j ≤ us.length ∧ k = us.length + 1 - j ∧ ys.length ≤ B + j ∧ h'.IsListIter J ay j ∧ h'.get? I = some oI ∧ Fr h₀ L h' m ∧ h'.Ns C m' ∧ m' x = some v ∧ News h₀ L h' ((D, LCg.lst ys) :: news) ∧
      IR prog w A h₀ L m env elt x y scope cl news s v K (us.drop j) ys tk') ?_ (us.length + 1) ⟨0, ys, m', h, tk, rfl, Nat.zero_le _, rfl, hys, hit, hI, F, hn, hv, N, hr⟩
    rintro k s' ⟨j, ys, m', h', tk', rfl, hj, rfl, hyl, hst, hI', F', hn', hv', N', R'⟩
    have N0 : News h₀ L h' news := fun p hp => N' p (.tail _ hp)
    have hl' := hS _ F' N0
    have zD := (N' _ (.head _)).1
    by_cases hlt' : j < us.length
    · have hdrop : us.drop j = us[j] :: us.drop (j + 1) := List.drop_eq_getElem_cons hlt'
      rw [hdrop] at R'
      refine wpAny_pyNext_list_item hst hl' (x := us[j]) (by simp [hlt']) fun h₂ hit₂ hsb₂ => ?_
      have hk₂ : ∀ b o, b ≠ J → h'.get? b = some o → h₂.get? b = some o := fun b o hb e => (hsb₂.2 b hb).trans e
      refine wpAny_assign_Name (wpAny_storeName_local (lookup_relabel_local hy) (hn'.at' fun o e => hk₂ _ o (Ne.symm hJC) e) (fun h₃ hn₃ hs₃ => ?_) (by simp [compEnvC, relabel, hkind]))
      obtain ⟨oJ, heJ, hcJ, hdJ⟩ := hit₂
      have k₃ : ∀ b o, b ≠ C → h₂.get? b = some o → h₃.get? b = some o := fun b o hb e => hs₃.extBut _ _ hb e
      have heJ3 : h₃.get? J = some oJ := k₃ _ _ hJC heJ
      have heI3 : h₃.get? I = some oI := k₃ _ _ hIC (hk₂ _ _ (Ne.symm hJI) hI')
      have heD3 : h₃.get? D = some (LCg.lst ys) := k₃ _ _ (Ne.symm hCD) (hk₂ _ _ (Ne.symm hJD) zD)
      obtain ⟨oC, heC, hoC⟩ := LCg.ns_obj hn₃
      have F₃ : Fr h₀ L h₃ m := (F'.change hsb₂ hJL hJ0).change hs₃ hCL hC0
      have N₃ : News h₀ L h₃ ((J, oJ) :: (I, oI) :: (C, oC) :: (D, LCg.lst ys) :: news) := fun p hp => by
        rcases List.mem_cons.mp hp with rfl | hp
        · exact ⟨heJ3, hJL, hJ0⟩
        rcases List.mem_cons.mp hp with rfl | hp
        · exact ⟨heI3, hIL, hI0⟩
        rcases List.mem_cons.mp hp with rfl | hp
        · exact ⟨heC, hCL, hC0⟩
        rcases List.mem_cons.mp hp with rfl | hp
        · exact ⟨heD3, hDL, hD0⟩
        exact ⟨k₃ _ _ (off3 p hp).2.1 (hk₂ _ _ (hJn p hp) (N0 p hp).1), (N0 p hp).2⟩
      refine wpAny_with_toks (n := tk' + 1) (Nat.le_refl _) ?_
      refine wpAny_mono (R' J oJ I oI C oC D _ h₃ _ (Nat.le_succ _) hoC (by simp [hxy, hv']) (by simp) F₃ N₃) (fun z s₄ h₄ => ?_) fun _ _ e => e.elim
      obtain ⟨h₄, tk₄, rfl, F₄, N₄, R₄⟩ := h₄
      intro ht
      have zJ := (N₄ (J, oJ) (.head _)).1
      have zI := (N₄ (I, oI) (.tail _ (.head _))).1
      have zC := (N₄ (C, oC) (.tail _ (.tail _ (.head _)))).1
      have zD := (N₄ (D, LCg.lst ys) (.tail _ (.tail _ (.tail _ (.head _))))).1
      refine append_at (hsz := by show ys.toArray.size ≤ sizeLine; rw [List.size_toArray]; simp only [sizeLine]; omega) zD fun h₅ hs₅ hD₅ => ?_
      refine ⟨us.length + 1 - (j + 1), by omega, j + 1, ys ++ [z], _, h₅, tk₄, rfl, hlt', rfl, by simp; omega, ⟨oJ, hs₅.extBut _ _ hJD zJ, hcJ, hdJ⟩, hs₅.extBut _ _ hID zI, F₄.change hs₅ hDL hD0, (hoC.ns zC).sameBut hs₅ hCD, by simp [hxy, hv'], fun p hp => ?_, R₄ ht⟩
      rcases List.mem_cons.mp hp with rfl | hp
      · exact ⟨hD₅.trans (congrArg some (LCg.lst_snoc ys z)), hDL, hD0⟩
      · have z := N₄ p (.tail _ (.tail _ (.tail _ (.tail _ hp))))
        exact ⟨hs₅.extBut _ _ (off3 p hp).2.2 z.1, z.2⟩
    · obtain rfl : j = us.length := Nat.le_antisymm hj (Nat.not_lt.mp hlt')
      rw [List.drop_length] at R'
      refine wpAny_pyNext_list_end hh hst hl' (by simp) fun h₂ hk₂ => ?_
      refine hR ys m' h₂ tk' (hn'.at' fun o e => hk₂ _ o (Ne.symm hJC) e) (hk₂ _ _ (Ne.symm hJI) hI') ⟨F'.ns.at' fun o e => hk₂ _ o (Ne.symm hJL) e, fun b o e => hk₂ b o (fun q => by rw [q, hJ0] at e; cases e) (F'.keep b o e), F'.above⟩ (fun p hp => ?_) R' (by omega)
      rcases List.mem_cons.mp hp with rfl | hp
      · exact ⟨hk₂ _ _ (Ne.symm hJD) zD, hDL, hD0⟩
      · exact ⟨hk₂ _ _ (hJn p hp) (N0 p hp).1, (N0 p hp).2⟩
  exact start_inner loop (wpAny_pyIter_listiter hit loop)
end

end
section
section
variable {prog : Program} {w : World} {A : Around} {s : Shared} {h₀ : Heap} {L : Addr} {m : Str → Option Value} {env : Env} {elt iter1 iter2 : PySem.Expr} {x y : Str} {px py pos : Pos} {scope : Scope} {cl : List (Str × Addr)} {Q : Value → Shared → Prop} {news : List (Addr × Obj)}
noncomputable def C2Src (prog : Program) (w : World) (A : Around) (h₀ : Heap) (L : Addr) (m : Str → Option Value) (env : Env) (elt iter2 : PySem.Expr) (x y : Str) (scope : Scope) (cl : List (Str × Addr)) (Q : Value → Shared → Prop) (s : Shared) (xv : Value) (s₁ : Shared) : Prop :=
  ∃ ax vs news h tk, xv = .ref ax ∧ s₁ = { s with heap := h, toks := tk } ∧ Fr h₀ L h m ∧ News h₀ L h news ∧ vs.length ≤ 9 ∧
      (∀ h', Fr h₀ L h' m → News h₀ L h' news → h'.IsTuple ax vs.toArray) ∧ OR prog w A h₀ L m env elt iter2 x y scope cl news Q s vs [] tk

theorem comp2 {E : Value → Shared → Prop} (_F₀ : Fr h₀ L s.heap m) (hh : A.handled = none)
    (hclos : closureFor scope env = pure cl) (hcell : ∀ y ∈ scope.names, y.2 ≠ .cell) (hkind : scope.kind = .function)
    (hnames : ∀ y ∈ scope.names, y.2 = .local → scope.names.lookup y.1 = some .local) (hx : scope.names.lookup x = some .local) (hy : scope.names.lookup y = some .local) (hxy : x ≠ y)
    (h : wpAny (model prog w) A (eval iter1 env) (C2Src prog w A h₀ L m env elt iter2 x y scope cl Q s) E s)
    (hs : ∀ x, foldedSetIterable iter1 env x = pure x := by intro _; rfl) (hs2 : ∀ C x, foldedSetIterable iter2 (compEnvC scope cl C env) x = pure x := by intro _ _; rfl) :
    wpAny (model prog w) A (eval (.ListComp elt [⟨.Name x px, iter1, [], 0⟩, ⟨.Name y py, iter2, [], 0⟩] scope pos) env) Q E s := by
  rw [eval_ListComp]
  refine wpAny_comprehension_free (use := none) rfl hs hclos hkind hnames (wpAny_mono h (fun xv s₁ h₁ => ?_) fun _ _ e => e)
  obtain ⟨ax, vs, news, hp, tk, rfl, rfl, F, N, hsz, hS, R⟩ := h₁
  have hl : hp.IsTuple ax vs.toArray := hS _ F N
  have hlt : ax < hp.objs.size := by obtain ⟨_, e, _⟩ := hl; exact Heap.lt_size e
  refine wpAny_pyIter_tuple hl ?_
  generalize hI : hp.objs.size = I at hlt
  simp only [hI]
  have hLI : L ≠ I := hI ▸ Nat.ne_of_lt F.ns.lt
  have hI₀ : h₀.get? I = none := hI ▸ next_is_new F
  have offI : ∀ p ∈ news, p.1 ≠ I := fun p hp => hI ▸ Nat.ne_of_lt (Heap.lt_size (N p hp).1)
  generalize hH1 : hp.push { cls := .type "tuple_iterator", data := .fields #[.ref ax, .int 0 0] } = H1
  have up : ∀ b o, hp.get? b = some o → H1.get? b = some o := fun b o e => hH1 ▸ Heap.get?_push_of_some _ e
  have hit : H1.IsTupleIter I ax 0 := by rw [← hH1, ← hI]; exact ⟨_, Heap.get?_push_size _ rfl, rfl, rfl⟩
  have s1 : H1.objs.size = I + 1 := by rw [← hH1, ← hI]; exact Heap.size_push ..
  have F1 := F.keeps up
  have N1 := N.grown up
  refine wpAny_newObj_type (wpAny_newFunctionEnv hcell (by intro y hy; simp at hy) (fun h₁ hns₁ hsb₁ => ?_) hkind)
  dsimp only at hns₁ hsb₁ ⊢
  generalize hD : H1.objs.size = D at hns₁ hsb₁ ⊢
  generalize hH2 : H1.push { cls := .type "list", dict := none, data := .seq ([] : List Value).toArray } = H2 at hns₁ hsb₁ ⊢
  generalize hC : H2.objs.size = C at hns₁ hsb₁ ⊢
  have eC : C = D + 1 := by rw [← hC, ← hH2, ← hD]; exact Heap.size_push ..
  have eD : D = I + 1 := by rw [← hD, s1]
  have up2 : ∀ b o, H1.get? b = some o → H2.get? b = some o := fun b o e => hH2 ▸ Heap.get?_push_of_some _ e
  have up3 : ∀ b o, H2.get? b = some o → h₁.get? b = some o := fun b o e => hsb₁.extBut b o (by rw [← hC]; exact Nat.ne_of_lt (Heap.lt_size e)) (Heap.get?_push_of_some _ e)
  have hacc : h₁.get? D = some (LCg.lst []) := up3 _ _ (by rw [← hH2, ← hD]; exact Heap.get?_push_size _ rfl)
  have F3 := (F1.keeps up2).keeps up3
  have N3 := (N1.grown up2).grown up3
  have up23 : ∀ b o, H1.get? b = some o → h₁.get? b = some o := fun b o e => up3 _ _ (up2 _ _ e)
  have hit3 : h₁.IsTupleIter I ax 0 := let ⟨o, ho, r⟩ := hit; ⟨o, up23 _ _ ho, r⟩
  have fresh₀ : ∀ a, I ≤ a → h₀.get? a = none := fun a ha => by
    cases e : h₀.get? a with
    | none => rfl
    | some o' =>
      have := F.keep a o' e
      exact absurd (Heap.lt_size this) (by rw [hI]; exact Nat.not_lt.mpr ha)
  have hLlt : L < I := hI ▸ F.ns.lt
  have hID : I < D := by rw [eD]; exact Nat.lt_succ_self _
  have hDCl : D < C := by rw [eC]; exact Nat.lt_succ_self _
  have hD₀ := fresh₀ D (Nat.le_of_lt hID)
  have hC₀ := fresh₀ C (Nat.le_of_lt (Nat.lt_trans hID hDCl))
  have hDL : D ≠ L := Ne.symm (Nat.ne_of_lt (Nat.lt_trans hLlt hID))
  have hCL : C ≠ L := Ne.symm (Nat.ne_of_lt (Nat.lt_trans (Nat.lt_trans hLlt hID) hDCl))
  have hCI : I ≠ C := Nat.ne_of_lt (Nat.lt_trans hID hDCl)
  have hDI : I ≠ D := Nat.ne_of_lt hID
  have hDC : D ≠ C := Nat.ne_of_lt hDCl
  have offlt : ∀ p ∈ news, (p.1 : Nat) < I := fun p hp' => hI ▸ Heap.lt_size (N p hp').1
  have off₀ : LCg.Off3 I C D news := LCg.Off3.of fun p hp' => ⟨offI p hp', Nat.ne_of_lt (Nat.lt_trans (offlt p hp') (Nat.lt_trans hID hDCl)), Nat.ne_of_lt (Nat.lt_trans (offlt p hp') hID)⟩
  have off3 := off₀.mem
  have loop : codeAny (model prog w) A (.compLoop (.ListComp elt [⟨.Name x px, iter1, [], 0⟩, ⟨.Name y py, iter2, [], 0⟩] scope pos) 0 (.ref I) (.ref D) (compEnvC scope cl C env)) (compPost (model prog w) A E none Q (.ref D) C) { s with heap := h₁, toks := tk } := by
    refine outer_loop (fun k s' => ∃ i ys m' h' tk', s' = { s with heap := h', toks := tk' } ∧ i ≤ vs.length ∧ k = vs.length + 1 - i ∧ ys.length ≤ 100 * i ∧ h'.IsTupleIter I ax i ∧ Fr h₀ L h' m ∧ h'.Ns C m' ∧ News h₀ L h' ((D, LCg.lst ys) :: news) ∧
      OR prog w A h₀ L m env elt iter2 x y scope cl news Q s (vs.drop i) ys tk') (hs2 C) ?_ (vs.length + 1)
      ⟨0, [], _, h₁, tk, rfl, Nat.zero_le _, rfl, Nat.le_refl _, hit3, F3, hns₁, fun p hp' => ?_, R⟩
    · rintro k s' ⟨i, ys, m', h', tk', rfl, hi, rfl, hyl, hst, F', hn', N', R'⟩
      have N0 : News h₀ L h' news := fun p hp' => N' p (.tail _ hp')
      have hl' := hS _ F' N0
      have zD := (N' _ (.head _)).1
      by_cases hlt' : i < vs.length
      · have hdrop : vs.drop i = vs[i] :: vs.drop (i + 1) := List.drop_eq_getElem_cons hlt'
        rw [hdrop] at R'
        refine wpAny_pyNext_tuple_item hst hl' (x := vs[i]) (by simp [hlt']) fun h₂ hit₂ hsb₂ => ?_
        have hk₂ : ∀ b o, b ≠ I → h'.get? b = some o → h₂.get? b = some o := fun b o hb e => (hsb₂.2 b hb).trans e
        refine wpAny_assign_Name (wpAny_storeName_local (lookup_relabel_local hx) (hn'.at' fun o e => hk₂ _ o (Ne.symm hCI) e) (fun h₃ hn₃ hs₃ => ?_) (by simp [compEnvC, relabel, hkind]))
        obtain ⟨oI, heI, hcI, hdI⟩ := hit₂
        have k₃ : ∀ b o, b ≠ C → h₂.get? b = some o → h₃.get? b = some o := fun b o hb e => hs₃.extBut _ _ hb e
        have heI3 : h₃.get? I = some oI := k₃ _ _ hCI heI
        have heD3 : h₃.get? D = some (LCg.lst ys) := k₃ _ _ hDC (hk₂ _ _ (Ne.symm hDI) zD)
        obtain ⟨oC, heC, hoC⟩ := LCg.ns_obj hn₃
        have F₃ : Fr h₀ L h₃ m := (F'.change hsb₂ (Ne.symm hLI) hI₀).change hs₃ hCL hC₀
        have N₃ : News h₀ L h₃ ((I, oI) :: (C, oC) :: (D, LCg.lst ys) :: news) := fun p hp' => by
          rcases List.mem_cons.mp hp' with rfl | hp'
          · exact ⟨heI3, Ne.symm hLI, hI₀⟩
          rcases List.mem_cons.mp hp' with rfl | hp'
          · exact ⟨heC, hCL, hC₀⟩
          rcases List.mem_cons.mp hp' with rfl | hp'
          · exact ⟨heD3, hDL, hD₀⟩
          exact ⟨k₃ _ _ (off3 p hp').2.1 (hk₂ _ _ (off3 p hp').1 (N0 p hp').1), (N0 p hp').2⟩
        refine wpAny_with_toks (n := tk' + 1) (Nat.le_refl _) ?_
        refine wpAny_mono (R' I oI C oC D _ h₃ _ (Nat.le_succ _) hoC (by simp) F₃ N₃ off₀) (fun xv s₄ h₄ => ?_) fun _ _ e => e.elim
        obtain ⟨ay, us, h₄, tk₄, rfl, rfl, F₄, N₄, hus, hS₄, R₄⟩ := h₄
        intro ht
        have N40 : News h₀ L h₄ news := fun p hp' => N₄ p (.tail _ (.tail _ (.tail _ hp')))
        have ly : h₄.IsList ay us.toArray := hS₄ _ F₄ N40
        refine wpAny_pyIter_list ly ?_
        have zI4 := (N₄ (I, oI) (.head _)).1
        have zC4 := (N₄ (C, oC) (.tail _ (.head _))).1
        have zD4 := (N₄ (D, LCg.lst ys) (.tail _ (.tail _ (.head _)))).1
        have up4 : ∀ b o, h₄.get? b = some o → (h₄.push { cls := .type "list_iterator", data := .fields #[.ref ay, .int 0 0] }).get? b = some o := fun b o e => Heap.get?_push_of_some _ e
        have hit4 : (h₄.push { cls := .type "list_iterator", data := .fields #[.ref ay, .int 0 0] }).IsListIter h₄.objs.size ay 0 := ⟨_, Heap.get?_push_size _ rfl, rfl, rfl⟩
        refine inner2 (K := OR prog w A h₀ L m env elt iter2 x y scope cl news Q s (vs.drop (i + 1))) (B := 100 * i) (oI := oI) (s := s) (tk := tk₄) (v := vs[i]) hh hkind hy hxy hS₄ hus (by omega)
          (Ne.symm (Nat.ne_of_lt (Heap.lt_size zI4))) (Ne.symm (Nat.ne_of_lt (Heap.lt_size zC4))) (Ne.symm (Nat.ne_of_lt (Heap.lt_size zD4))) (Ne.symm (Nat.ne_of_lt F₄.ns.lt)) (next_is_new F₄) (fun p hp' => Nat.ne_of_lt (Heap.lt_size (N40 p hp').1))
          hCI hDI (Ne.symm hDC) hCL hC₀ hDL hD₀ (Ne.symm hLI) hI₀ off₀ ?_ hyl hit4 (up4 _ _ zI4) (F₄.keeps up4) (fun p hp' => ?_) ((hoC.ns zC4).at' fun o e => up4 _ o e) (by simp) (R₄ ht)
        · intro ys₅ m₅ h₅ tk₅ hn₅ hI₅ F₅ N₅ K₅ hl₅
          exact ⟨vs.length + 1 - (i + 1), by omega, i + 1, ys₅, m₅, h₅, tk₅, rfl, hlt', rfl, by omega, ⟨oI, hI₅, hcI, hdI⟩, F₅, hn₅, N₅, K₅⟩
        · exact ⟨up4 _ _ (N₄ p (.tail _ (.tail _ hp'))).1, (N₄ p (.tail _ (.tail _ hp'))).2⟩
      · obtain rfl : i = vs.length := Nat.le_antisymm hi (Nat.not_lt.mp hlt')
        rw [List.drop_length] at R'
        refine wpAny_pyNext_tuple_end hh hst hl' (by simp) fun h₂ hk₂ => ?_
        refine ⟨_, hn'.at' fun o e => hk₂ _ o (Ne.symm hCI) e, fun h'' hs'' => ?_⟩
        refine R' D h'' _ (Nat.le_refl _) (Fr.change (h := h₂) ⟨F'.ns.at' fun o e => hk₂ _ o hLI e, fun b o e => hk₂ b o (fun q => by rw [q, hI₀] at e; cases e) (F'.keep b o e), F'.above⟩ hs'' hCL hC₀) (fun p hp' => ?_) (fun p hp' => (off3 p hp').2.2)
        have z := N' p hp'
        refine ⟨hs''.extBut _ _ ?_ (hk₂ _ _ ?_ z.1), z.2⟩
        · rcases List.mem_cons.mp hp' with rfl | hp'
          · exact hDC
          · exact (off3 p hp').2.1
        · rcases List.mem_cons.mp hp' with rfl | hp'
          · exact Ne.symm hDI
          · exact (off3 p hp').1
    · rcases List.mem_cons.mp hp' with rfl | hp'
      · exact ⟨hacc, hDL, hD₀⟩
      · exact N3 p hp'
  exact codeAny_compStart_list loop (wpAny_pyIter_tupleiter hit3 loop)
end

end
section
section
variable {prog : Program} {w : World} {A : Around} {s : Shared} {h₀ : Heap} {L : Addr} {m : Str → Option Value} {env : Env} {elt iter1 iter2 : PySem.Expr} {x y : Str} {px py pos : Pos} {scope : Scope} {cl : List (Str × Addr)} {Q : Value → Shared → Prop} {news : List (Addr × Obj)}
theorem IR.mono {v : Value} {K K' : List Value → Nat → Prop} (hk : ∀ ys T, K ys T → K' ys T) : ∀ us ys T, IR prog w A h₀ L m env elt x y scope cl news s v K us ys T → IR prog w A h₀ L m env elt x y scope cl news s v K' us ys T := by
  intro us
  induction us with
  | nil => exact fun ys T h => hk ys T h
  | cons u r ih =>
    intro ys T hh J oJ I oI C oC D m₂ h tk hT hC hx hy F N
    exact wpAny_mono (hh J oJ I oI C oC D m₂ h tk hT hC hx hy F N) (fun z _ ⟨h', tk', e, F', N', k⟩ => ⟨h', tk', e, F', N', fun ht => ih (ys ++ [z]) tk' (k ht)⟩) fun _ _ e => e
theorem IR.ind {v : Value} {K : List Value → Nat → Prop} (Jn : List Value → List Value → Nat → Prop)
    (step : ∀ u r ys T, Jn (u :: r) ys T → ∀ J oJ I oI C oC D m₂ h tk, T ≤ tk → LCg.NsObj oC m₂ → m₂ x = some v → m₂ y = some u → Fr h₀ L h m → News h₀ L h ((J, oJ) :: (I, oI) :: (C, oC) :: (D, LCg.lst ys) :: news) →
      wpAny (model prog w) A (eval elt (compEnvC scope cl C env)) (CEnd h₀ L m s ((J, oJ) :: (I, oI) :: (C, oC) :: (D, LCg.lst ys) :: news) tk fun z tk' => Jn r (ys ++ [z]) tk') (fun _ _ => False) { s with heap := h, toks := tk })
    (fin : ∀ ys T, Jn [] ys T → K ys T) : ∀ us ys T, Jn us ys T → IR prog w A h₀ L m env elt x y scope cl news s v K us ys T := by
  intro us
  induction us with
  | nil => exact fun ys T j => fin ys T j
  | cons u r ih =>
    intro ys T j J oJ I oI C oC D m₂ h tk hT hC hx hy F N
    exact wpAny_mono (step u r ys T j J oJ I oI C oC D m₂ h tk hT hC hx hy F N) (fun z _ ⟨h', tk', e, F', N', k⟩ => ⟨h', tk', e, F', N', fun ht => ih (ys ++ [z]) tk' (k ht)⟩) fun _ _ e => e
theorem OR.ind (Jn : List Value → List Value → Nat → Prop)
    (step : ∀ v r ys T, Jn (v :: r) ys T → ∀ I oI C oC D m₂ h tk, T ≤ tk → LCg.NsObj oC m₂ → m₂ x = some v → Fr h₀ L h m → News h₀ L h ((I, oI) :: (C, oC) :: (D, LCg.lst ys) :: news) → LCg.Off3 I C D news →
      wpAny (model prog w) A (eval iter2 (compEnvC scope cl C env)) (ISrc h₀ L m s ((I, oI) :: (C, oC) :: (D, LCg.lst ys) :: news) news fun us tk' => tk ≤ tk' → IR prog w A h₀ L m env elt x y scope cl news s v (Jn r) us ys tk') (fun _ _ => False) { s with heap := h, toks := tk })
    (fin : ∀ ys T, Jn [] ys T → ∀ D h tk, T ≤ tk → Fr h₀ L h m → News h₀ L h ((D, LCg.lst ys) :: news) → (∀ p ∈ news, p.1 ≠ D) → Q (.ref D) { s with heap := h, toks := tk }) :
    ∀ vs ys T, Jn vs ys T → OR prog w A h₀ L m env elt iter2 x y scope cl news Q s vs ys T := by
  intro vs
  induction vs with
  | nil => exact fun ys T j => fin ys T j
  | cons v r ih =>
    intro ys T j I oI C oC D m₂ h tk hT hC hx F N off
    refine wpAny_mono (step v r ys T j I oI C oC D m₂ h tk hT hC hx F N off) (fun xv _ ⟨ay, us, h', tk', e1, e2, F', N', h1, h2, k⟩ => ⟨ay, us, h', tk', e1, e2, F', N', h1, h2, fun ht => IR.mono (fun ys' T' j' => ih ys' T' j') us ys tk' (k ht)⟩) fun _ _ e => e
end

end
section
local macro_rules | `(tactic| walk_at "eval ListComp") => `(tactic| (k_here; k_dflt (refine comp2 (by k_asm) rfl rfl (by decide) rfl (by decide) rfl rfl (by decide) ?_)))
noncomputable def langs : List (Option Str) := [some (Str.ofString ""), none, some (Str.ofString "a")]
noncomputable def encs : List (Option Str) := [none, some (Str.ofString ""), some (Str.ofString "."), some (Str.ofString "0"), some (Str.ofString "1"), some (Str.ofString "2"), some (Str.ofString "3"), some (Str.ofString "4"), some (Str.ofString "5")]
noncomputable def namesL : List Str := langs.flatMap fun la => encs.map (lname la)
noncomputable def optsV (es : List (Option Str)) (ts : List Tok) : List Value := List.zipWith optV es ts
theorem names_sp (w : World) :
  Sp 4 w 266 ⟨[], []⟩ [] (fun _ _ => True) (fun h _ r h' _ => ∃ D ts, r = .ref D ∧ h'.get? D = some (LCg.lst (strsV namesL ts)) ∧ ts.length = 27 ∧ h.get? D = none) := by
  intro p loose mean mg mb dp un fr gd h₀ s R X T hk hN hdp hun hpre ret
  (k_dflt (refine' enterCC _ ?a1 ?a2 ?a3 ?a4 ?k6 ?k7 ?k8 ?k9 ?kB ?kD ?c2 ?c3 ?c4 ?cR ?_; (case a1 => assumption); (case a2 => assumption); (case a3 => assumption); (case a4 => assumption); (case k6 => k_is); (case k7 => k_is); (case k8 => exact room0 (by assumption)); (case k9 => exact BindsTo.of_eq rfl); (case kB => exact rfl); (case kD => decide +kernel); (case c2 => exact rfl); (case c3 => exact rfl); (case c4 => exact rfl); (case cR => assumption); intro g' L' h' tk' cells' F' N' Y' X' T' st' kp' ht' l1; (try k_lt l1); k_cells Y'; (try simp only [List.cons_append, List.nil_append] at N'); (try dsimp only); (try k_fold)))
  rename Kp _ _ _ => kp
  k_steps
  refine ⟨_, optsV langs [_, 0, _], _, _, _, rfl, rfl, by k_asm, by k_asm, Nat.le_of_ble_eq_true rfl, fun h' F' N' => News.isTup N' (by k_mem), ?_⟩
  refine OR.ind (fun vs acc T => ∃ las tls ds ts', vs = optsV las tls ∧ las.length = tls.length ∧ acc = strsV ds ts' ∧ ds.length = ts'.length ∧ ds ++ (las.flatMap fun la => encs.map (lname la)) = namesL ∧ (∀ la ∈ las, ∀ x, la = some x → x.length ≤ 10)) ?_ ?_ _ _ _ ⟨langs, _, [], [], rfl, rfl, rfl, rfl, rfl, by decide⟩
  · rintro v r acc T ⟨las, tls, ds, ts', hv, hl, rfl, hdt, hds, hla⟩ I oI C oC D m₂ h₂ tk hTk hC hx F N off
    cases las with
    | nil => simp [optsV] at hv
    | cons la las =>
      cases tls with
      | nil => simp at hl
      | cons tl tls =>
        obtain ⟨rfl, rfl⟩ := List.cons.inj hv
        have hla0 := hla la (.head _)
        k_steps
        refine ⟨_, optsV encs [0, _, _, _, _, _, _, _, _], _, _, rfl, rfl, by k_asm, by k_asm, Nat.le_of_ble_eq_true rfl, fun h' F' N' => News.isList N' (by k_mem), fun _ => ?_⟩
        refine IR.ind (fun us acc T => ∃ es tes ds' ts'', us = optsV es tes ∧ es.length = tes.length ∧ acc = strsV ds' ts'' ∧ ds'.length = ts''.length ∧ ds' ++ es.map (lname la) = ds ++ encs.map (lname la) ∧ (∀ e ∈ es, ∀ x, e = some x → x.length ≤ 10)) ?_ ?_ _ _ _ ⟨encs, _, ds, ts', rfl, rfl, rfl, hdt, rfl, by decide⟩
        · rintro u r acc T ⟨es, tes, ds', ts'', hv, hle, rfl, hdt', hds', hes⟩ J oJ I oI C oC D m₂ h tk hT hC hx hy F N
          cases es with
          | nil => simp [optsV] at hv
          | cons e es =>
            cases tes with
            | nil => simp at hle
            | cons te tes =>
              obtain ⟨rfl, rfl⟩ := List.cons.inj hv
              have hes0 := hes e (.head _)
              k_steps
              refine Sp.use (build_sp w _ la e tl te hla0 hes0) (by k_asm) (by k_asm) (by k_asm) (by k_asm) (by show dp + 1 + 2 < recursionLimit; omega) (by show un + 3 + 10 * 2 < cLine; omega) (News.isTup (by k_asm) (by k_mem)) ?_
              rintro r9 h9 tk9 F9 N9 K9 q9 ⟨t9, rfl⟩
              refine CEnd.intro (by k_dflt assumption) (fun p hp => N9 p (.tail _ hp)) fun _ => ⟨es, tes, ds' ++ [lname la e], ts'' ++ [t9], rfl, by simpa using hle, (strsV_snoc _ _ _ _ hdt').symm, by simp [hdt'], by rw [← hds']; simp, fun e' he' => hes e' (.tail _ he')⟩
        · rintro acc T ⟨es, tes, ds', ts'', hv, hle, rfl, hdt', hds', hes⟩
          have he0 : es = [] := by
            cases es with
            | nil => rfl
            | cons z zs => cases tes with
              | nil => simp at hle
              | cons u us => simp [optsV] at hv
          subst he0
          exact ⟨las, tls, ds', ts'', rfl, by simpa using hl, rfl, hdt', by rw [← hds, List.flatMap_cons, ← List.append_assoc, ← hds']; simp, fun la' h' => hla la' (.tail _ h')⟩
  · rintro acc T ⟨las, tls, ds, ts', hv, hl, rfl, hdt, hds, hla⟩ D h₂ tk hTk F N off
    have he0 : las = [] := by
      cases las with
      | nil => rfl
      | cons z zs => cases tls with
        | nil => simp at hl
        | cons u us => simp [optsV] at hv
    subst he0
    have hds : ds = namesL := by simpa using hds
    subst hds
    exact EndP.ret F fun _ => ⟨D, ts', rfl, (N _ (.head _)).1, hdt.symm.trans rfl, by
      cases e : s.heap.get? D with
      | none => rfl
      | some o => have := kp D o (by simp) e; rw [(N (D, _) (.head _)).2.2] at this; cases this⟩

end
section
theorem mod_sp (w : World) (a b : Int) (ta tb : Tok) :
  Sp 2 w 66 ⟨[.int a ta, .int b tb], []⟩ [] (fun _ _ => 0 < b ∧ b ≤ 100 ∧ -10 ^ 9 ≤ a ∧ a ≤ 10 ^ 9) (fun _ t₀ r _ _ => ∃ t, r = .int ((a % b).toNat : Int) t ∧ t₀ ≤ t) := by
  intro p loose mean mg mb dp un fr gd h₀ s R X T hk hN hdp hun hpre ret
  obtain ⟨h1, h2, h3, h4⟩ := hpre
  (k_dflt (refine' enterC _ ?a1 ?a2 ?a3 ?a4 ?k6 ?k7 ?k8 ?k9 ?kB ?c2 ?c3 ?c4 ?c5 ?cR ?_; (case a1 => assumption); (case a2 => assumption); (case a3 => assumption); (case a4 => assumption); (case k6 => k_is); (case k7 => k_is); (case k8 => exact room0 (by assumption)); (case k9 => first | exact BindsTo.of_eq rfl | (refine' bindK ?kx ?ky ?ke; (case kx => assumption); (case ky => assumption); (case ke => intro _; exact rfl))); (case kB => exact locs rfl); (case c2 => exact rfl); (case c3 => exact rfl); (case c4 => exact rfl); (case c5 => decide); (case cR => assumption); intro _ _ _ _ _ _ _ _ _ _ _; (try dsimp only); (try k_fold)))
  k_steps
  all_goals (try dsimp only)
  all_goals exact EndP.ret (by k_asm) (fun _ => ⟨_, by rw [Int.fmod_eq_emod_of_nonneg _ (Int.le_of_lt h1), Int.toNat_of_nonneg (Int.emod_nonneg _ (by omega))], by assumption⟩)
theorem floordiv_sp (w : World) (a b : Int) (ta tb : Tok) :
  Sp 2 w 59 ⟨[.int a ta, .int b tb], []⟩ [] (fun _ _ => 0 < b ∧ b ≤ 100 ∧ 0 ≤ a ∧ a ≤ 10 ^ 9) (fun _ t₀ r _ _ => ∃ t, r = .int ((a / b).toNat : Int) t ∧ t₀ ≤ t) := by
  intro p loose mean mg mb dp un fr gd h₀ s R X T hk hN hdp hun hpre ret
  obtain ⟨h1, h2, h3, h4⟩ := hpre
  (k_dflt (refine' enterC _ ?a1 ?a2 ?a3 ?a4 ?k6 ?k7 ?k8 ?k9 ?kB ?c2 ?c3 ?c4 ?c5 ?cR ?_; (case a1 => assumption); (case a2 => assumption); (case a3 => assumption); (case a4 => assumption); (case k6 => k_is); (case k7 => k_is); (case k8 => exact room0 (by assumption)); (case k9 => first | exact BindsTo.of_eq rfl | (refine' bindK ?kx ?ky ?ke; (case kx => assumption); (case ky => assumption); (case ke => intro _; exact rfl))); (case kB => exact locs rfl); (case c2 => exact rfl); (case c3 => exact rfl); (case c4 => exact rfl); (case c5 => decide); (case cR => assumption); intro _ _ _ _ _ _ _ _ _ _ _; (try dsimp only); (try k_fold)))
  k_steps
  all_goals (try dsimp only)
  all_goals exact EndP.ret (by k_asm) (fun _ => ⟨_, by rw [Int.fdiv_eq_ediv_of_nonneg _ (Int.le_of_lt h1), Int.toNat_of_nonneg (Int.ediv_nonneg h3 (by omega))], by assumption⟩)
local macro_rules | `(tactic| walk_at "subscriptTail") => `(tactic| (k_here; k_dflt (refine item_listL (Fr.lst (by k_asm) (by assumption)) (by with_reducible assumption) (by with_reducible assumption) (by with_reducible assumption) ?_)))


theorem getitem_sp (w : World) (l : Addr) (vs : List Value) (i : Nat) (v : Value) (ti : Tok) :
  Sp 2 w 87 ⟨[.ref l, .int i ti], []⟩ [] (fun h _ => h.IsList l vs.toArray ∧ vs[i]? = some v ∧ vs.length ≤ 30) (fun _ _ r _ _ => r = v) := by
  intro p loose mean mg mb dp un fr gd h₀ s R X T hk hN hdp hun hpre ret
  obtain ⟨hl, hi, hz⟩ := hpre
  (k_dflt (refine' enterC _ ?a1 ?a2 ?a3 ?a4 ?k6 ?k7 ?k8 ?k9 ?kB ?c2 ?c3 ?c4 ?c5 ?cR ?_; (case a1 => assumption); (case a2 => assumption); (case a3 => assumption); (case a4 => assumption); (case k6 => k_is); (case k7 => k_is); (case k8 => exact room0 (by assumption)); (case k9 => first | exact BindsTo.of_eq rfl | (refine' bindK ?kx ?ky ?ke; (case kx => assumption); (case ky => assumption); (case ke => intro _; exact rfl))); (case kB => exact locs rfl); (case c2 => exact rfl); (case c3 => exact rfl); (case c4 => exact rfl); (case c5 => decide); (case cR => assumption); intro _ _ _ _ _ _ _ _ _ _ _; (try dsimp only); (try k_fold)))
  rename Kp _ _ _ => kp
  have hlg := hl.at fun o e => kp _ _ (by simp) e
  have h0 : (0 : Int) ≤ i := Int.natCast_nonneg i
  have hlt : i < vs.length := by
    rcases Nat.lt_or_ge i vs.length with h | h
    · exact h
    · rw [List.getElem?_eq_none h] at hi; cases hi
  have h1 : (i : Int) < 2 ^ 63 := by omega
  have hi' : vs[(i : Int).toNat]? = some v := hi
  k_steps
  all_goals (try dsimp only)
  all_goals exact EndP.ret (by k_asm) (fun _ => rfl)
local macro_rules | `(tactic| walk_at "setItem ref int") => `(tactic| (k_here; k_dflt (refine ki_set (q := _) (by k_asm) (by k_asm) (by with_reducible assumption) (by with_reducible assumption) (by with_reducible assumption) (by k_upd) ?_); ki_rest))
local macro_rules | `(tactic| walk_at "delItem ref int") => `(tactic| (k_here; k_dflt (refine ki_del (q := _) (by k_asm) (by k_asm) (by with_reducible assumption) (by with_reducible assumption) (by with_reducible assumption) (by k_upd) (by with_reducible assumption) ?_); ki_rest))


theorem setL_some : ∀ (l : List Value) (k : Nat) (v : Value), k < l.length → ki_setL l k v = some (l.set k v)
  | [], _, _, h => absurd h (by simp)
  | _ :: r, 0, v, _ => rfl
  | x :: r, k + 1, v, h => by
    unfold ki_setL
    rw [setL_some r k v (by simpa using h)]; rfl
theorem delL_some : ∀ (l : List Value) (k : Nat), k < l.length → ki_delL l k = some (l.eraseIdx k)
  | [], _, h => absurd h (by simp)
  | _ :: r, 0, _ => rfl
  | x :: r, k + 1, h => by
    unfold ki_delL
    rw [delL_some r k (by simpa using h)]; rfl
theorem setitem_sp (w : World) (l : Addr) (vs : List Value) (n : Nat) (k : Int) (v : Value) (ti : Tok) :
  Sp 2 w 94 ⟨[.ref l, .int k ti, v], []⟩ [(l, lstO vs n)] (fun _ _ => 0 ≤ k ∧ k.toNat < vs.length ∧ vs.length ≤ 30) (fun _ _ r h' _ => r = .none ∧ h'.get? l = some (lstO (vs.set k.toNat v) n)) := by
  intro p loose mean mg mb dp un fr gd h₀ s R X T hk hN hdp hun hpre ret
  obtain ⟨h0, hi, hz⟩ := hpre
  (k_dflt (refine' enterC _ ?a1 ?a2 ?a3 ?a4 ?k6 ?k7 ?k8 ?k9 ?kB ?c2 ?c3 ?c4 ?c5 ?cR ?_; (case a1 => assumption); (case a2 => assumption); (case a3 => assumption); (case a4 => assumption); (case k6 => k_is); (case k7 => k_is); (case k8 => exact room0 (by assumption)); (case k9 => first | exact BindsTo.of_eq rfl | (refine' bindK ?kx ?ky ?ke; (case kx => assumption); (case ky => assumption); (case ke => intro _; exact rfl))); (case kB => exact locs rfl); (case c2 => exact rfl); (case c3 => exact rfl); (case c4 => exact rfl); (case c5 => decide); (case cR => assumption); intro _ _ _ _ _ _ _ _ _ _ _; (try dsimp only); (try k_fold)))
  have h1 : (k : Int) < 2 ^ 63 := by omega
  have he : ki_setL vs.toArray.toList k.toNat v = some (vs.set k.toNat v) := setL_some vs k.toNat v hi
  k_steps
  rename News _ _ _ _ => NN
  exact EndP.next (by k_asm) (fun _ => ⟨rfl, (NN _ (.head _)).1⟩)
theorem delitem_sp (w : World) (l : Addr) (vs : List Value) (n i : Nat) (ti : Tok) :
  Sp 2 w 80 ⟨[.ref l, .int i ti], []⟩ [(l, lstO vs n)] (fun _ _ => i < vs.length ∧ vs.length ≤ 30) (fun _ _ r h' _ => r = .none ∧ h'.get? l = some (lstO (vs.eraseIdx i) (n + 1))) := by
  intro p loose mean mg mb dp un fr gd h₀ s R X T hk hN hdp hun hpre ret
  obtain ⟨hi, hz⟩ := hpre
  (k_dflt (refine' enterC _ ?a1 ?a2 ?a3 ?a4 ?k6 ?k7 ?k8 ?k9 ?kB ?c2 ?c3 ?c4 ?c5 ?cR ?_; (case a1 => assumption); (case a2 => assumption); (case a3 => assumption); (case a4 => assumption); (case k6 => k_is); (case k7 => k_is); (case k8 => exact room0 (by assumption)); (case k9 => first | exact BindsTo.of_eq rfl | (refine' bindK ?kx ?ky ?ke; (case kx => assumption); (case ky => assumption); (case ke => intro _; exact rfl))); (case kB => exact locs rfl); (case c2 => exact rfl); (case c3 => exact rfl); (case c4 => exact rfl); (case c5 => decide); (case cR => assumption); intro _ _ _ _ _ _ _ _ _ _ _; (try dsimp only); (try k_fold)))
  have h0 : Builtin.List.listFitsIndex (i : Int) = true := by unfold Builtin.List.listFitsIndex; simp; omega
  have h1 : seqIndex? (i : Int) vs.toArray.size = some i := by unfold seqIndex?; simp; omega
  have he : ki_delL vs.toArray.toList i = some (vs.eraseIdx i) := delL_some vs i hi
  have hz' : vs.toArray.toList.length ≤ sizeLine := by simp [sizeLine]; omega
  k_steps
  rename News _ _ _ _ => NN
  exact EndP.next (by k_asm) (fun _ => ⟨rfl, (NN _ (.head _)).1⟩)

end
section
section
variable {w : World} {p : Program} {loose : List Str} {mean : ExcName → Option Value} {mg mb : Str → Option Value} {dp un : Nat} {fr : Option (List Env)} {gd : Option (List Code)} {h₀ : Heap} {s : Shared} {f : Addr}
theorem Sp.useU {k : Nat} {vs : List Value} {kw : List (Str × Value)} {pre : Heap → Nat → Prop} {post : Heap → Nat → Value → Heap → Nat → Prop} {L l : Addr} {o : Obj} {m : Str → Option Value} {news : List (Addr × Obj)} {Q E : Value → Shared → Prop}
    (C : Sp k w f ⟨vs, kw⟩ [(l, o)] pre post) (F : Fr h₀ L s.heap m) (X : (hd.heap_1 w.params).In h₀) (N : News h₀ L s.heap news) (T : Top p loose mean mg mb h₀)
    (hm : (l, o) ∈ news) (hdp : dp + k < recursionLimit) (hun : un + 10 * k < cLine) (hpre : pre s.heap s.toks)
    (ret : ∀ r h' tk', Fr h₀ L h' m → s.toks ≤ tk' → post s.heap s.toks r h' tk' → (∀ o' news', h'.get? l = some o' → Upd l o o' news news' → News h₀ L h' news') → Q r { s with heap := h', toks := tk' }) :
    wpAny (model PySem.Challenge.pw_tp0036_01 w) (AR dp un fr gd) (call (.ref f) vs kw) Q E s := by
  have hl := N _ hm
  refine wpAny_call (C p loose mean mg mb dp un fr gd h₀ s _ X T F.keep (fun q hq => ?_) hdp hun hpre fun r h' tk' hK ht hp => ret r h' tk' ?_ ht hp ?_)
  · rcases List.mem_cons.mp hq with rfl | hq
    · exact ⟨hl.1, hl.2.2⟩
    · cases hq
  · obtain ⟨oL, es, ep, hLo, r⟩ := F.ns
    refine ⟨⟨oL, es, ep, hK L oL (by simpa using Ne.symm hl.2.1) hLo, r⟩, fun b ob e => hK b ob (fun q => ?_) (F.keep b ob e), F.above⟩
    have : b = l := by simpa using q
    subst this
    rw [hl.2.2] at e; cases e
  · intro o' news' ho' U
    obtain ⟨pr, po, rfl, rfl, a, b⟩ := U.split
    intro q hq
    rcases List.mem_append.mp hq with hq | hq
    · have z := N q (List.mem_append_left _ hq)
      exact ⟨hK _ _ (by simpa using a q hq) z.1, z.2⟩
    · rcases List.mem_cons.mp hq with rfl | hq
      · exact ⟨ho', hl.2⟩
      · have z := N q (List.mem_append_right _ (.tail _ hq))
        exact ⟨hK _ _ (by simpa using b q hq) z.1, z.2⟩
theorem Sp.useUA {k : Nat} {vs : List Value} {kw : List (Str × Value)} {pre : Heap → Nat → Prop} {post : Heap → Nat → Value → Heap → Nat → Prop} {L l : Addr} {o : Obj} {m : Str → Option Value} {news : List (Addr × Obj)} {Q E : Value → Shared → Prop}
    (C : Sp k w f ⟨vs, kw⟩ [(l, o)] pre post) (H : (Fr h₀ L s.heap m ∧ (hd.heap_1 w.params).In h₀ ∧ News h₀ L s.heap news ∧ Top p loose mean mg mb h₀ ∧ dp + k < recursionLimit ∧ un + 10 * k < cLine) ∧ (l, o) ∈ news) (hpre : pre s.heap s.toks)
    (ret : ∀ r h' tk', Fr h₀ L h' m → s.toks ≤ tk' → post s.heap s.toks r h' tk' → (∀ o' news', h'.get? l = some o' → Upd l o o' news news' → News h₀ L h' news') → Q r { s with heap := h', toks := tk' }) :
    wpAny (model PySem.Challenge.pw_tp0036_01 w) (AR dp un fr gd) (call (.ref f) vs kw) Q E s := Sp.useU C H.1.1 H.1.2.1 H.1.2.2.1 H.1.2.2.2.1 H.2 H.1.2.2.2.2.1 H.1.2.2.2.2.2 hpre ret
end
section
variable {prog : Program} {w : World} {A : Around} {s : Shared} {h₀ : Heap} {env : Env} {target : PySem.Expr} {body : List Stmt} {Q : Flow → Shared → Prop} {S : List (Addr × Obj) → Prop} {I : Addr}
theorem BRest.ind2 (J : List Value → (Str → Option Value) → List (Addr × Obj) → Nat → Prop)
    (step : ∀ v r m news T, J (v :: r) m news T → ∀ (it : Obj) h tk, T ≤ tk → it.cls = .type "list_iterator" → Fr h₀ env.locals h m → News h₀ env.locals h ((I, it) :: news) → (∀ p ∈ news, p.1 ≠ I) →
      wpAny (model prog w) A (assign target env v) (fun _ s₂ => wpAny (model prog w) A (execs body env)
        (BPost h₀ env.locals s I it S (fun m' n' t' => J r m' n' t') Q) (fun _ _ => False) s₂) (fun _ _ => False) { s with heap := h, toks := tk })
    (fin : ∀ m news T, J [] m news T → ∀ h tk, T ≤ tk → Fr h₀ env.locals h m → News h₀ env.locals h news → Q .next { s with heap := h, toks := tk }) :
    ∀ vs m news T, J vs m news T → BRest prog w A h₀ env target body Q S s I vs m news T := by
  intro vs
  induction vs with
  | nil => exact fun m news T j => fin m news T j
  | cons v r ih =>
    intro m news T j it h tk hT hc F N off
    exact wpAny_mono (step v r m news T j it h tk hT hc F N off) (fun _ _ q => wpAny_mono q (fun _ _ b => BPost.mono b fun m' n' t' j' => ih m' n' t' j') fun _ _ e => e) fun _ _ e => e
end

end
section
section
variable {prog : Program} {w : World} {A : Around} {E : Value → Shared → Prop} {s : Shared}
theorem len_at {l : Addr} {items : Array Value} {c : Int} {Q : Value → Shared → Prop} (hl : s.heap.IsList l items) (hc : (items.size : Int) = c) (hfit : c < 2 ^ 63) (h : Q (.int c (s.toks + 1)) { s with toks := s.toks + 1 + 1 }) :
    wpAny (model prog w) A (call (.builtin "len") [.ref l]) Q E s := by
  subst hc
  exact call_len_list hl hfit h
end
section
variable {M : Model} {A : Around} {env : Env} {st : Stmt} {rest : List Stmt} {Q : Flow → Shared → Prop} {E : Value → Shared → Prop} {s : Shared} {v : Value}
noncomputable def CutH (M : Model) (A : Around) (env : Env) (rest : List Stmt) (Q : Flow → Shared → Prop) (E : Value → Shared → Prop) (K : Flow → Shared → Prop) : Prop := (∀ s', wpAny M A (execs rest env) Q E s' → K .next s') ∧ ∀ f s', f ≠ .next → Q f s' → K f s'
noncomputable def NextK (K : Flow → Shared → Prop) (f : Flow) (s : Shared) : Prop := K f s
theorem execs_cut (h : ∀ K, CutH M A env rest Q E K → wpAny M A (exec st env) (NextK K) E s) : wpAny M A (execs (st :: rest) env) Q E s :=
  wpAny_execs_cons (h (fun f s' => match f with | .next => wpAny M A (execs rest env) Q E s' | f => Q f s') ⟨fun _ h => h, fun f s' hf q => by cases f <;> first | exact q | exact absurd rfl hf⟩)
theorem CutH.next {K : Flow → Shared → Prop} (c : CutH M A env rest Q E K) (h : wpAny M A (execs rest env) Q E s) : NextK K .next s := c.1 s h
theorem CutH.ret {K : Flow → Shared → Prop} (c : CutH M A env rest Q E K) (h : Q (.ret v) s) : NextK K (.ret v) s := c.2 _ _ nofun h
end

end
local macro_rules | `(tactic| walk_at "LS") => `(tactic| (first | exact News.isList (by k_asm) (by k_mem) | exact Fr.lst (by k_asm) (by with_reducible assumption)))
local macro_rules | `(tactic| walk_at "UA") => `(tactic| (exact ⟨by walk_at "AA", by k_mem⟩))
local macro_rules | `(tactic| walk_at "PU") => `(tactic| (intro r9 h9 tk9 F9 q9 p9 n9; (try dsimp only at q9); obtain ⟨e9, p9'⟩ := p9; subst e9; (have N9 := n9 _ _ p9' (by k_upd)); clear n9; (try dsimp only); (try k_fold)))
local macro_rules | `(tactic| walk_at "execs cons") => `(tactic| (k_here; refine execs_cut ?_; intro K9 hc9))
local macro_rules | `(tactic| walk_at "NextK next") => `(tactic| (k_here; (rename CutH _ _ _ _ _ _ _ => hc9); refine CutH.next hc9 ?_; clear hc9))
local macro_rules | `(tactic| walk_at "NextK ret") => `(tactic| (k_here; (rename CutH _ _ _ _ _ _ _ => hc9); refine CutH.ret hc9 ?_; clear hc9))
local macro_rules | `(tactic| walk_at "exec For Name Name cons nil") => `(tactic| (k_here; refine wpAny_For ?_))
local macro_rules | `(tactic| walk_at "subscriptTail Name Slice ref ref") => `(tactic| (k_here; (with_reducible show wpAny _ _ (subscriptTail _ (Expr.Slice _ _ none _) _ _) _ _ _); k_dflt (refine kmk_slice_lit (by k_asm) (by k_asm) (by walk_at "LS") (by kmk_part) (by kmk_part) (by with_reducible assumption) ?_ (by with_unfolding_all rfl) (by kmk_pure) (by walk_at "ZS")); intro D' h' F' N' l1; (try k_lt l1); (try k_sweep)))
local macro_rules | `(tactic| walk_at "call ref") => `(tactic| (k_here; (with_reducible refine gR 66 ?_); k_dflt (refine Sp.useA (mod_sp _ _ _ _ _) (by walk_at "AA") (by first | with_reducible assumption | omega) ?_; walk_at "PX")))
local macro_rules | `(tactic| walk_at "call ref") => `(tactic| (k_here; (with_reducible refine gR 87 ?_); k_dflt (refine Sp.useA (getitem_sp _ _ _ _ _ _) (by walk_at "AA") ⟨by walk_at "LS", by with_reducible assumption⟩ ?_; walk_at "PX")))
local macro_rules | `(tactic| walk_at "call ref") => `(tactic| (k_here; (with_reducible refine gR 80 ?_); k_dflt (refine Sp.useUA (delitem_sp _ _ _ _ _ _) (by walk_at "UA") (by with_reducible assumption) ?_; walk_at "PU")))
section
local macro_rules | `(tactic| walk_at "eval Name") => `(tactic| (k_here; k_dflt (refine' ld ?k1 ?k2 ?_; (case k1 => k_asm); (case k2 => assumption); k_whole)))
local macro_rules | `(tactic| walk_at "call builtin:len") => `(tactic| (k_here; (with_reducible show wpAny _ _ (call _ [Value.ref _]) _ _ _); k_dflt (refine len_at (by walk_at "LS") (by with_reducible assumption) (by omega) ?_)))
local macro_rules | `(tactic| walk_at "call builtin:list.append") => `(tactic| (k_here; (with_reducible show wpAny _ _ (call _ [Value.ref _, _]) _ _ _); k_dflt (refine append_K (by k_asm) (by k_asm) (by k_upd) ?_ (by walk_at "ZS"); k_whole); intro h' F' N'; (try k_sweep)))
noncomputable def nm (i : Nat) : Str := namesL.getD i Str.empty
noncomputable def nmsV (tk : Nat → Tok) (is : List Nat) : List Value := is.map fun i => .str (nm i) (tk i)
noncomputable def drawI : List Int → List Nat → List Nat
  | [], _ => []
  | c :: cs, is => is.getD (c % (is.length : Int)).toNat 0 :: drawI cs (is.eraseIdx (c % (is.length : Int)).toNat)
theorem nmsV_push (tk : Nat → Tok) (ds : List Nat) (i : Nat) : (nmsV tk ds).toArray.push (.str (nm i) (tk i)) = (nmsV tk (ds ++ [i])).toArray := by simp [nmsV]
theorem nmsV_erase (tk : Nat → Tok) : ∀ (is : List Nat) (k : Nat), (nmsV tk is).eraseIdx k = nmsV tk (is.eraseIdx k)
  | [], _ => rfl
  | _ :: _, 0 => rfl
  | i :: is, k + 1 => congrArg (Value.str (nm i) (tk i) :: ·) (nmsV_erase tk is k)
theorem drawn_sp (w : World) (lc ln : Addr) (cs : List Int) (tcs : List Tok) (tk : Nat → Tok) (is : List Nat) (hlen : cs.length = tcs.length) :
  Sp 4 w 273 ⟨[.ref lc, .ref ln], []⟩ [] (fun h _ => h.IsList lc (intsV cs tcs).toArray ∧ h.IsList ln (nmsV tk is).toArray ∧ (∀ c ∈ cs, 0 ≤ c ∧ c ≤ 10 ^ 6) ∧ cs.length ≤ 8 ∧ cs.length < is.length ∧ is.length ≤ 27)
    (fun h _ r h' _ => ∃ D n, r = .ref D ∧ h'.get? D = some (lstO (nmsV tk (drawI cs is)) n) ∧ h.get? D = none) := by
  intro p loose mean mg mb dp un fr gd h₀ s R X T hk hN hdp hun hpre ret
  obtain ⟨hc, hn, hcs, hz1, hz2, hz3⟩ := hpre
  (k_dflt (refine' enterC _ ?a1 ?a2 ?a3 ?a4 ?k6 ?k7 ?k8 ?k9 ?kB ?c2 ?c3 ?c4 ?c5 ?cR ?_; (case a1 => assumption); (case a2 => assumption); (case a3 => assumption); (case a4 => assumption); (case k6 => k_is); (case k7 => k_is); (case k8 => exact room0 (by assumption)); (case k9 => first | exact BindsTo.of_eq rfl | (refine' bindK ?kx ?ky ?ke; (case kx => assumption); (case ky => assumption); (case ke => intro _; exact rfl))); (case kB => exact locs rfl); (case c2 => exact rfl); (case c3 => exact rfl); (case c4 => exact rfl); (case c5 => decide); (case cR => assumption); intro _ _ _ _ _ _ _ _ _ _ _; (try dsimp only); (try k_fold)))
  rename Kp _ _ _ => kp
  rename_i g _ _ _ _ _ _ _ _ _
  have hcg := hc.at fun o e => kp _ _ (by simp) e
  have hng := hn.at fun o e => kp _ _ (by simp) e
  have hsl : (slicePick (nmsV tk is).toArray none none none).toList = nmsV tk is := by rw [slicePick_all]
  have hsz : (nmsV tk is).toArray.size ≤ sizeLine := by simp [nmsV, sizeLine]; omega
  k_steps
  refine forB (S := fun _ => True) (by rfl) (fun h _ _ F' _ _ => hcg.at fun o e => F'.keep _ _ e) (by k_asm) (by k_asm) trivial ?_
  intro I hI
  refine BRest.ind2 (J := fun vs m news T => ∃ DT oT DD DL cs' ts' is' n1 n2 ds, vs = intsV cs' ts' ∧ cs'.length = ts'.length ∧ m (Str.ofString "left") = some (.ref DL) ∧ m (Str.ofString "drawn") = some (.ref DD) ∧
      news = [(DT, oT), (DD, W.listOf (nmsV tk ds).toArray n1), (DL, W.listOf (nmsV tk is').toArray n2)] ∧ @LT.lt Nat _ DL DD ∧ (@LT.lt Nat _ DD DT ∧ @LT.lt Nat _ DL DT) ∧ ds ++ drawI cs' is' = drawI cs is ∧ ds.length + cs'.length = cs.length ∧ cs'.length < is'.length ∧ is'.length ≤ 27 ∧ (∀ c ∈ cs', 0 ≤ c ∧ c ≤ 10 ^ 6)) ?_ ?_ _ _ _ _
    ⟨_, _, _, _, cs, tcs, is, 0, 0, [], rfl, hlen, rfl, rfl, rfl, by assumption, by assumption, rfl, by simp, hz2, hz3, hcs⟩
  · rintro v r m news T ⟨DT, oT, DD, DL, cs', ts', is', n1, n2, ds, hv, hl', hleft, hdrawn, rfl, lt1, lt2, hds, hdl, hil, hi27, hcs'⟩ it h tk' hT hc F' N' off
    have of1 : @Ne Nat DT I := off _ (.head _)
    have of2 : @Ne Nat DD I := off _ (.tail _ (.head _))
    have of3 : @Ne Nat DL I := off _ (.tail _ (.tail _ (.head _)))
    cases cs' with
    | nil => simp [intsV] at hv
    | cons c cs' =>
      cases ts' with
      | nil => simp at hl'
      | cons t ts' =>
        obtain ⟨rfl, rfl⟩ := List.cons.inj hv
        have hsz' : (nmsV tk is').toArray.size ≤ sizeLine := by simp [nmsV, sizeLine]; omega
        have hc0 := hcs' c (.head _)
        have hln : ((nmsV tk is').toArray.size : Int) = (is'.length : Int) := by simp [nmsV]
        have hk0 : (c % (is'.length : Int)).toNat < is'.length := by
          have := Int.emod_lt_of_pos c (show (0 : Int) < is'.length by omega)
          have := Int.emod_nonneg c (show (is'.length : Int) ≠ 0 by omega)
          omega
        have hget : (nmsV tk is')[(c % (is'.length : Int)).toNat]? = some (.str (nm (is'.getD (c % (is'.length : Int)).toNat 0)) (tk (is'.getD (c % (is'.length : Int)).toNat 0))) ∧ (nmsV tk is').length ≤ 30 := by
          refine ⟨?_, by simp [nmsV]; omega⟩
          simp [nmsV, hk0]
        have hdel : (c % (is'.length : Int)).toNat < (nmsV tk is').length ∧ (nmsV tk is').length ≤ 30 := by simp [nmsV]; omega
        have hsd : (nmsV tk ds).toArray.size ≤ sizeLine := by simp [nmsV, sizeLine]; omega
        k_steps
        rename News _ _ _ _ => NN
        rename (_ ≤ _) => tl
        refine' BPost.nextI ?F (news' := [(DT, oT), (DD, W.listOf (nmsV tk (ds ++ [is'.getD (c % (is'.length : Int)).toNat 0])).toArray (n1 + 1)), (DL, W.listOf (nmsV tk (is'.eraseIdx (c % (is'.length : Int)).toNat)).toArray (n2 + 1))]) ?N ?O trivial ?_
        (case F => k_dflt assumption)
        (case N =>
          rw [← nmsV_push, ← nmsV_erase]
          exact NN)
        (case O =>
          intro p hp
          rcases List.mem_cons.mp hp with rfl | hp
          · exact of1
          rcases List.mem_cons.mp hp with rfl | hp
          · exact of2
          rcases List.mem_cons.mp hp with rfl | hp
          · exact of3
          cases hp)
        refine ⟨DT, oT, DD, DL, cs', ts', is'.eraseIdx (c % (is'.length : Int)).toNat, n1 + 1, n2 + 1, ds ++ [is'.getD (c % (is'.length : Int)).toNat 0], rfl, by simpa using hl', hleft, hdrawn, rfl, lt1, lt2, ?_, ?_, ?_, ?_, fun c' h' => hcs' c' (.tail _ h')⟩
        · rw [← hds]; simp [drawI]
        · simp at hdl ⊢; omega
        · rw [List.length_eraseIdx_of_lt hk0]; simp at hil; omega
        · rw [List.length_eraseIdx_of_lt hk0]; omega
  · rintro m news T ⟨DT, oT, DD, DL, cs', ts', is', n1, n2, ds, hv, hl', hleft, hdrawn, rfl, lt1, lt2, hds, hdl, hil, hi27, hcs'⟩ h tk' hT F' N'
    have hc0 : cs' = [] := by
      cases cs' with
      | nil => rfl
      | cons z zs => cases ts' with
        | nil => simp at hl'
        | cons u us => simp [intsV] at hv
    subst hc0
    have hds : ds = drawI cs is := by simpa [drawI] using hds
    subst hds
    k_steps
    exact EndP.ret (by k_asm) fun _ => ⟨DD, n1, rfl, (N' _ (.tail _ (.head _))).1, by
      cases e : s.heap.get? DD with
      | none => rfl
      | some o => have := kp DD o (by simp) e; rw [(N' (DD, _) (.tail _ (.head _))).2.2] at this; cases this⟩

end
section
theorem low_inj : ∀ i, i < 27 → ∀ j, j < 27 → (Txt.lower (nm j) == Txt.lower (nm i)) = decide (i = j) := by decide +kernel
theorem low_ok : ∀ i, i < 27 → (nm i).length ≤ 3 ∧ (Txt.lower (nm i)).length ≤ 3 ∧ ∀ c ∈ (Txt.lower (nm i)).cps.toList, 32 ≤ c ∧ c < 127 := by decide +kernel
theorem low_up : ∀ i, i < 27 → Txt.lower (Txt.upper (nm i)) = Txt.lower (nm i) ∧ Txt.lower (Txt.lower (nm i)) = Txt.lower (nm i) ∧ (Txt.upper (nm i)).length ≤ 3 := by decide +kernel
theorem coll_nm : ∀ i, i < 27 → ∀ j, j < 27 → scoll (nm i) (nm j) = (if i < j then -1 else if j < i then 1 else 0) := by decide +kernel
noncomputable abbrev numS (i : Nat) : Str := Str.ofString (toString (i : Int))
noncomputable def DeckRows (rows : List Row) : Prop := rows.map (fun r => (r.2.1.1, r.2.2.1)) = (List.range 27).map fun j => (nm j, numS j)
theorem got_js {i : Nat} (hi : i < 27) {q : Str} (hq : Txt.lower q = Txt.lower (nm i)) : ∀ (js : List Nat) (rows : List Row), (∀ j ∈ js, j < 27) → i ∈ js → rows.map (fun r => (r.2.1.1, r.2.2.1)) = js.map (fun j => (nm j, numS j)) → ∃ t', got rows q = .str (numS i) t'
  | [], _, _, h, _ => nomatch h
  | j :: js, [], _, _, h => by simp at h
  | j :: js, r :: rows, hj, hm, h => by
    simp only [List.map_cons, List.cons.injEq, Prod.mk.injEq] at h
    obtain ⟨⟨h1, h2⟩, h3⟩ := h
    have hb : (Txt.lower r.2.1.1 == Txt.lower q) = decide (i = j) := by rw [h1, hq]; exact low_inj i hi j (hj j (.head _))
    by_cases e : i = j
    · subst e
      refine ⟨r.2.2.2, ?_⟩
      unfold got
      rw [List.find?_cons, hb, decide_eq_true rfl, ← h2]; rfl
    · have hm' : i ∈ js := by
        rcases List.mem_cons.mp hm with h | h
        · exact absurd h e
        · exact h
      obtain ⟨t', ht⟩ := got_js hi hq js rows (fun j' h' => hj j' (.tail _ h')) hm' h3
      refine ⟨t', ?_⟩
      rw [← ht]
      unfold got
      rw [List.find?_cons, hb, decide_eq_false e]
theorem deck_short {rows : List Row} (hd : DeckRows rows) : rows.length = 27 ∧ ShortRows rows := by
  refine ⟨by have := congrArg List.length hd; simpa using this, fun r hr => ?_⟩
  have : (r.2.1.1, r.2.2.1) ∈ (List.range 27).map fun j => (nm j, numS j) := by rw [← hd]; exact List.mem_map_of_mem hr
  obtain ⟨j, hj, e⟩ := List.mem_map.mp this
  have e1 : nm j = r.2.1.1 := (Prod.mk.inj e).1
  rw [← e1]
  exact Nat.le_trans (low_ok j (by simpa using hj)).1 (by decide)
theorem getn_sp (w : World) (x : Addr) (rows : List Row) (i : Nat) (q : Str) (tn : Tok) :
  Sp 4 w 204 ⟨[.ref x, .str q tn], []⟩ [] (fun h _ => (Deck w h x rows ∧ DeckRows rows) ∧ i < 27 ∧ Txt.lower q = Txt.lower (nm i) ∧ q.length ≤ 1000)
    (fun _ _ r _ _ => ∃ t', r = .str (numS i) t') := by
  intro p loose mean mg mb dp un fr gd h₀ s R X T hk hN hdp hun hpre ret
  obtain ⟨⟨hd1, hd2⟩, hi, hq, hz⟩ := hpre
  obtain ⟨l27, hsh⟩ := deck_short hd2
  refine get_sp w x rows q tn p loose mean mg mb dp un fr gd h₀ s R X T hk hN hdp hun ⟨hd1, by omega, hsh, hz, ?_, ?_⟩ fun r h' tk' hK ht hp => ret r h' tk' hK ht ?_
  · rw [hq]
    intro k hk
    have := (low_ok i hi).2.2 ((Txt.lower (nm i)).cps.getD k 0) (by
      rw [show (Txt.lower (nm i)).cps.getD k 0 = (Txt.lower (nm i)).cps[k] from by simp [Array.getD, hk]]
      exact Array.getElem_mem_toList hk)
    exact this
  · rw [hq]; exact Nat.le_trans (low_ok i hi).2.1 (by decide)
  · obtain ⟨t', e⟩ := got_js hi hq (List.range 27) rows (fun j hj => by simpa using hj) (by simpa using hi) hd2
    exact ⟨t', hp.trans e⟩
theorem nms_strs (tk : Nat → Tok) : ∀ is : List Nat, nmsV tk is = strsV (is.map nm) (is.map tk)
  | [] => rfl
  | i :: is => congrArg (Value.str (nm i) (tk i) :: ·) (nms_strs tk is)
noncomputable def rankI (i : Nat) (is : List Nat) (sg : Int) : Nat := (is.map fun j => (if i < j then (-1 : Int) else if j < i then 1 else 0)).count sg
theorem rankn_sp (w : World) (i : Nat) (tx : Tok) (l : Addr) (tk : Nat → Tok) (is : List Nat) (sg : Int) {tg : Tok} :
  Sp 4 w 278 ⟨[.str (nm i) tx, .ref l, .int sg tg], []⟩ [] (fun h t₀ => h.IsList l (nmsV tk is).toArray ∧ (i < 27 ∧ (∀ j ∈ is, j < 27) ∧ is.length ≤ 8 ∧ (-5 ≤ sg ∧ sg ≤ 256)) ∧ @Ne Nat tg 0 ∧ @LT.lt Nat _ tg t₀) (fun _ _ r _ _ => ∃ t, r = .int (rankI i is sg) t) := by
  intro p loose mean mg mb dp un fr gd h₀ s R X T hk hN hdp hun ⟨hl, ⟨hi, hj, hz, hs⟩, h0, h1⟩ ret
  refine rank_sp w (nm i) tx l (is.map nm) (is.map tk) sg tg (by simp) p loose mean mg mb dp un fr gd h₀ s R X T hk hN hdp hun ⟨nms_strs tk is ▸ hl, h0, h1, hs, by simpa using hz⟩ fun r h' tk' hK ht hp => ret r h' tk' hK ht ?_
  obtain ⟨t, e⟩ := hp
  refine ⟨t, e.trans ?_⟩
  congr 3
  rw [List.map_map]
  exact List.map_congr_left fun j h => coll_nm i hi j (hj j h)

end
section
noncomputable def above (i : Nat) (is : List Nat) : Nat := (is.filter fun j => i < j).length
noncomputable def placed (is : List Nat) : List Nat → List Nat → List Nat
  | [], cur => cur
  | i :: ds, cur => placed is ds (cur.set (3 - above i is) i)
noncomputable def shownI (is : List Nat) : List Nat × Nat :=
  let cur := placed is is is
  let p := is.sum % 4
  let hid := cur.getD p 0
  let rest := cur.eraseIdx p
  let o := (hid - p) / 4
  let two := rest.eraseIdx (o / 2)
  (rest.getD (o / 2) 0 :: (if o % 2 = 1 then two.reverse else two), hid)

noncomputable def insN (x : Nat) : List Nat → List Nat
  | [] => [x]
  | y :: r => if x ≤ y then x :: y :: r else y :: insN x r
noncomputable def srtN : List Nat → List Nat
  | [] => []
  | x :: r => insN x (srtN r)
theorem insN_perm (x : Nat) : ∀ l, (insN x l).Perm (x :: l)
  | [] => .refl _
  | y :: r => by
    unfold insN
    split
    · exact .refl _
    · exact ((insN_perm x r).cons y).trans (List.Perm.swap x y r)
theorem srtN_perm : ∀ l, (srtN l).Perm l
  | [] => .refl _
  | x :: r => (insN_perm x (srtN r)).trans ((srtN_perm r).cons x)
theorem insN_sorted (x : Nat) : ∀ l : List Nat, l.Pairwise (· ≤ ·) → (insN x l).Pairwise (· ≤ ·)
  | [], _ => by simp [insN]
  | y :: r, h => by
    unfold insN
    have h1 := List.pairwise_cons.mp h
    split
    · rename_i hxy
      refine List.pairwise_cons.mpr ⟨?_, h⟩
      intro z hz
      rcases List.mem_cons.mp hz with rfl | hz
      · exact hxy
      · exact Nat.le_trans hxy (h1.1 z hz)
    · rename_i hxy
      refine List.pairwise_cons.mpr ⟨?_, insN_sorted x r h1.2⟩
      intro z hz
      rcases List.mem_cons.mp ((insN_perm x r).mem_iff.mp hz) with rfl | hz
      · omega
      · exact h1.1 z hz
theorem srtN_sorted : ∀ l : List Nat, (srtN l).Pairwise (· ≤ ·)
  | [] => .nil
  | x :: r => insN_sorted x _ (srtN_sorted r)
theorem above_map {f : Nat → Nat} (hf : ∀ i j, i < 4 → j < 4 → (f i < f j ↔ i < j)) (i : Nat) (hi : i < 4) : ∀ (js : List Nat), (∀ j ∈ js, j < 4) → above (f i) (js.map f) = above i js
  | [], _ => rfl
  | j :: js, h => by
    have ih := above_map hf i hi js fun j hj => h j (.tail _ hj)
    have hij := hf i j hi (h j (.head _))
    unfold above at ih ⊢
    rw [List.map_cons, List.filter_cons, List.filter_cons]
    by_cases q : i < j
    · rw [if_pos (decide_eq_true (hij.mpr q)), if_pos (decide_eq_true q), List.length_cons, List.length_cons, ih]
    · rw [if_neg (fun e => q (hij.mp (of_decide_eq_true e))), if_neg (fun e => q (of_decide_eq_true e)), ih]
theorem placed_map {f : Nat → Nat} (hf : ∀ i j, i < 4 → j < 4 → (f i < f j ↔ i < j)) (js : List Nat) (hj : ∀ j ∈ js, j < 4) : ∀ (ds cur : List Nat), (∀ j ∈ ds, j < 4) → placed (js.map f) (ds.map f) (cur.map f) = (placed js ds cur).map f
  | [], _, _ => rfl
  | d :: ds, cur, h => by
    have hd := above_map hf d (h d (.head _)) js hj
    show placed (js.map f) (ds.map f) ((cur.map f).set (3 - above (f d) (js.map f)) (f d)) = _
    rw [hd, ← List.map_set]
    exact placed_map hf js hj ds _ fun j hj => h j (.tail _ hj)
theorem placed_perm0 : ((List.range 4).all fun a => (List.range 4).all fun b => (List.range 4).all fun c => (List.range 4).all fun d => !decide ([a, b, c, d].Nodup) || decide (placed [a, b, c, d] [a, b, c, d] [a, b, c, d] = [0, 1, 2, 3])) = true := by decide +kernel
theorem placed_perm (a : Nat) (ha : a < 4) (b : Nat) (hb : b < 4) (c : Nat) (hc : c < 4) (d : Nat) (hd : d < 4) (h : [a, b, c, d].Nodup) : placed [a, b, c, d] [a, b, c, d] [a, b, c, d] = [0, 1, 2, 3] := by
  have k := List.all_eq_true.mp (List.all_eq_true.mp (List.all_eq_true.mp (List.all_eq_true.mp placed_perm0 a (List.mem_range.mpr ha)) b (List.mem_range.mpr hb)) c (List.mem_range.mpr hc)) d (List.mem_range.mpr hd)
  rw [decide_eq_true h] at k
  exact of_decide_eq_true k
theorem placed_srt {a b c d : Nat} (hn : [a, b, c, d].Nodup) : placed [a, b, c, d] [a, b, c, d] [a, b, c, d] = srtN [a, b, c, d] := by
  generalize hl : srtN [a, b, c, d] = l
  have hp : l.Perm [a, b, c, d] := hl ▸ srtN_perm _
  have hln : l.Nodup := hp.nodup_iff.mpr hn
  have hls : l.Pairwise (· < ·) := by
    have h1 : l.Pairwise (· ≤ ·) := hl ▸ srtN_sorted _
    exact (h1.and hln).imp fun h => Nat.lt_of_le_of_ne h.1 h.2
  have h4 : l.length = 4 := hp.length_eq
  have hf : ∀ i j, i < 4 → j < 4 → (l.getD i 0 < l.getD j 0 ↔ i < j) := by
    intro i j hi hj
    have e : ∀ k (hk : k < 4), l.getD k 0 = l[k]'(by omega) := fun k hk => by simp [h4, hk]
    have up : ∀ i j, i < 4 → j < 4 → i < j → l.getD i 0 < l.getD j 0 := fun i j hi hj q => by
      rw [e i hi, e j hj]
      exact List.pairwise_iff_getElem.mp hls i j _ _ q
    refine ⟨fun q => ?_, up i j hi hj⟩
    rcases Nat.lt_trichotomy i j with r | r | r
    · exact r
    · subst r; exact absurd q (Nat.lt_irrefl _)
    · exact absurd (Nat.lt_trans q (up j i hj hi r)) (Nat.lt_irrefl _)
  have ix : ∀ x ∈ [a, b, c, d], ∃ k, k < 4 ∧ l.getD k 0 = x := fun x hx => by
    obtain ⟨k, hk, e⟩ := List.getElem_of_mem (hp.mem_iff.mpr hx)
    exact ⟨k, h4 ▸ hk, by simp [hk, e]⟩
  obtain ⟨ka, ha, ea⟩ := ix a (by simp)
  obtain ⟨kb, hb, eb⟩ := ix b (by simp)
  obtain ⟨kc, hc, ec⟩ := ix c (by simp)
  obtain ⟨kd, hd, ed⟩ := ix d (by simp)
  simp only [List.nodup_cons, List.mem_cons, List.not_mem_nil, or_false, not_or, List.nodup_nil, and_true, not_false_eq_true] at hn
  obtain ⟨⟨h1, h2, h3⟩, ⟨h5, h6⟩, h7⟩ := hn
  have key := placed_perm ka ha kb hb kc hc kd hd (by
    simp only [List.nodup_cons, List.mem_cons, List.not_mem_nil, or_false, not_or, List.nodup_nil, and_true, not_false_eq_true]
    exact ⟨⟨fun e => h1 (by rw [← ea, ← eb, e]), fun e => h2 (by rw [← ea, ← ec, e]), fun e => h3 (by rw [← ea, ← ed, e])⟩, ⟨fun e => h5 (by rw [← eb, ← ec, e]), fun e => h6 (by rw [← eb, ← ed, e])⟩, fun e => h7 (by rw [← ec, ← ed, e])⟩)
  have hm : [a, b, c, d] = [ka, kb, kc, kd].map (fun k => l.getD k 0) := by simp only [List.map_cons, List.map_nil, ea, eb, ec, ed]
  have hb4 : ∀ j ∈ [ka, kb, kc, kd], j < 4 := List.forall_mem_cons.mpr ⟨ha, List.forall_mem_cons.mpr ⟨hb, List.forall_mem_cons.mpr ⟨hc, List.forall_mem_cons.mpr ⟨hd, List.forall_mem_nil _⟩⟩⟩⟩
  rw [hm, placed_map (f := fun k => l.getD k 0) hf [ka, kb, kc, kd] hb4 [ka, kb, kc, kd] [ka, kb, kc, kd] hb4, key]
  match l, h4 with
  | [p, q, r, t], _ => rfl
theorem srt_facts {is : List Nat} (h4 : is.length = 4) (hnd : is.Nodup) (h27 : ∀ i ∈ is, i < 27) :
    (placed is is is).length = 4 ∧ (∀ j, j < 4 → j ≤ (placed is is is).getD j 0 ∧ (placed is is is).getD j 0 ≤ 23 + j) ∧ (∀ x ∈ placed is is is, x ∈ is) ∧ (∀ x ∈ is, x ∈ placed is is is) ∧ (placed is is is).sum = is.sum ∧
    ∃ p q r t, placed is is is = [p, q, r, t] ∧ p < q ∧ q < r ∧ r < t ∧ t < 27 := by
  match is, h4 with
  | [a, b, c, d], _ =>
    rw [placed_srt hnd]
    have hp := srtN_perm [a, b, c, d]
    have hs : (srtN [a, b, c, d]).Pairwise (· < ·) := ((srtN_sorted [a, b, c, d]).and (hp.nodup_iff.mpr hnd)).imp fun h => Nat.lt_of_le_of_ne h.1 h.2
    have hm : ∀ x, x ∈ srtN [a, b, c, d] ↔ x ∈ [a, b, c, d] := fun x => hp.mem_iff
    have hsum : (srtN [a, b, c, d]).sum = [a, b, c, d].sum := hp.sum_nat
    have hl : (srtN [a, b, c, d]).length = 4 := hp.length_eq
    generalize srtN [a, b, c, d] = l at hs hm hsum hl
    clear hp hnd
    match l, hl with
    | [p, q, r, t], _ =>
      simp only [List.pairwise_cons, List.mem_cons, List.not_mem_nil, or_false, forall_eq_or_imp, forall_eq] at hs
      obtain ⟨⟨l1, _, _⟩, ⟨l2, _⟩, l3, _⟩ := hs
      have ht : t < 27 := h27 t ((hm t).mp (by simp))
      refine ⟨rfl, ?_, fun x hx => (hm x).mp hx, fun x hx => (hm x).mpr hx, hsum, p, q, r, t, rfl, l1, l2, l3, ht⟩
      clear hm hsum h27
      intro j hj
      match j, hj with
      | 0, _ => exact ⟨Nat.zero_le _, (by omega : p ≤ 23)⟩
      | 1, _ => exact ⟨(by omega : 1 ≤ q), (by omega : q ≤ 24)⟩
      | 2, _ => exact ⟨(by omega : 2 ≤ r), (by omega : r ≤ 25)⟩
      | 3, _ => exact ⟨(by omega : 3 ≤ t), (by omega : t ≤ 26)⟩

end
local macro_rules | `(tactic| walk_at "call ref") => `(tactic| (k_here; (with_reducible refine gR 278 ?_); k_dflt (refine Sp.useA (rankn_sp _ _ _ _ _ _ _) (by walk_at "AA") ⟨by walk_at "LS", by with_reducible assumption, by first | omega | exact Nat.succ_ne_zero _, by first | omega | exact Nat.lt_succ_self _⟩ ?_; walk_at "PX")))
local macro_rules | `(tactic| walk_at "eval Name") => `(tactic| (k_here; k_dflt (refine' nameX_L ?F ?v ?_ ?a ?b; (case F => k_asm); (case a => rfl); (case b => rfl); (case v => assumption); k_whole)))
local macro_rules | `(tactic| walk_at "call ref") => `(tactic| (k_here; (with_reducible refine gR 204 ?_); k_dflt (refine Sp.useA (getn_sp _ _ _ _ _ _) (by walk_at "AA") ⟨⟨Deck.at (by with_reducible assumption) (Fr.keep (by k_asm)), by with_reducible assumption⟩, by with_reducible assumption⟩ ?_; walk_at "PX")))
local macro_rules | `(tactic| walk_at "call builtin:sum") => `(tactic| (k_here; (with_unfolding_all refine sumK (by with_unfolding_all rfl) (by k_asm) (by k_asm) (News.isList (by k_asm) (by k_mem)) (by with_reducible assumption) ?_; k_whole); intro h' tk' t' F' N'))
section
local macro_rules | `(tactic| walk_at "call ref") => `(tactic| (k_here; (with_reducible refine gR 59 ?_); k_dflt (refine Sp.useA (floordiv_sp _ _ _ _ _) (by walk_at "AA") (by first | with_reducible assumption | omega) ?_; walk_at "PX")))
local macro_rules | `(tactic| walk_at "call ref") => `(tactic| (k_here; (with_reducible refine gR 94 ?_); k_dflt (refine Sp.useUA (setitem_sp _ _ _ _ _ _ _) (by walk_at "UA") (by with_reducible assumption) ?_; walk_at "PU")))
local macro_rules | `(tactic| walk_at "subscriptTail Name Slice ref ref") => `(tactic| (k_here; (with_reducible show wpAny _ _ (subscriptTail _ (Expr.Slice none none (some _) _) _ _) _ _ _); k_dflt (refine krv_lit (by k_asm) (by k_asm) (by walk_at "LS") (IsPart.int _ _) (by exact rfl) ?_ (by with_unfolding_all rfl) (by kmk_pure) (by walk_at "ZS")); intro D' h' F' N' l1; (try k_lt l1); (try k_sweep)))
local macro_rules | `(tactic| walk_at "binaryOp Add ref ref") => `(tactic| (k_here; k_dflt (refine kmk_add_lit (by k_asm) (by k_asm) (News.isList (by k_asm) (by k_mem)) (News.isList (by k_asm) (by k_mem)) (by exact rfl) ?_ (by walk_at "ZS")); intro D' h' F' N' l1; (try k_lt l1); (try k_sweep)))
theorem nmsV_set (tk : Nat → Tok) : ∀ (is : List Nat) (k i : Nat), (nmsV tk is).set k (.str (nm i) (tk i)) = nmsV tk (is.set k i)
  | [], _, _ => rfl
  | _ :: _, 0, _ => rfl
  | j :: is, k + 1, i => congrArg (Value.str (nm j) (tk j) :: ·) (nmsV_set tk is k i)
theorem placed_snoc (is : List Nat) : ∀ (ds cur : List Nat) (i : Nat), placed is (ds ++ [i]) cur = (placed is ds cur).set (3 - above i is) i
  | [], _, _ => rfl
  | d :: ds, cur, i => placed_snoc is ds (cur.set (3 - above d is) d) i
theorem rank_above (i : Nat) (is : List Nat) : rankI i is (-1) = above i is := by
  unfold rankI above
  induction is with
  | nil => rfl
  | cons j is ih =>
    rw [List.map_cons, List.count_cons, ih, List.filter_cons]
    by_cases h : i < j
    · simp [h]
    · by_cases h2 : j < i <;> simp [h, h2]
theorem above_le {i : Nat} {is : List Nat} (hm : i ∈ is) (h4 : is.length = 4) : above i is ≤ 3 := by
  unfold above
  have h1 : (is.filter fun j => decide (i < j)).length < is.length := by
    rcases Nat.lt_or_ge (is.filter fun j => decide (i < j)).length is.length with h | h
    · exact h
    · have := List.length_filter_eq_length_iff.mp (Nat.le_antisymm (List.length_filter_le _ _) h) i hm
      simp at this
  omega
theorem ints_are : ∀ (ks : List Int) (ts : List Tok), ks.length = ts.length → IntsAre (intsV ks ts) ks
  | [], [], _ => .nil
  | k :: ks, t :: ts, h => .cons k t (ints_are ks ts (by simpa using h))
theorem sum_cast : ∀ es : List Nat, (List.map (fun (i : Nat) => (i : Int)) es).sum = ((es.sum : Nat) : Int)
  | [] => rfl
  | e :: es => by simp only [List.map_cons, List.sum_cons, sum_cast es]; omega
theorem sum_le : ∀ es : List Nat, (∀ i ∈ es, i < 27) → es.sum ≤ 27 * es.length
  | [], _ => Nat.le_refl _
  | e :: es, h => by
    have h1 := h e (.head _)
    have h2 := sum_le es fun i hi => h i (.tail _ hi)
    simp only [List.sum_cons, List.length_cons]; omega
theorem nmsV_get (tk : Nat → Tok) (is : List Nat) (k : Nat) (h : k < is.length) : (nmsV tk is)[k]? = some (.str (nm (is.getD k 0)) (tk (is.getD k 0))) := by
  simp [nmsV, h]
theorem sa1 {S : Int} {P E : Nat} (eS : S = (E : Int)) (eP : P = (S % 4).toNat) : P = E % 4 := by subst eS; omega
theorem sa2 {O H P : Nat} (eO : O = (((H : Int) - (P : Int)) / 4).toNat) (h : P ≤ H) : O = (H - P) / 4 := by omega
theorem sa3 {O H P : Nat} (e : O = (H - P) / 4) (h : H ≤ 23 + P) : O ≤ 5 := by omega
theorem sa4 {F O : Nat} (e : F = ((O : Int) / 2).toNat) : F = O / 2 := by omega
theorem sa5 {F O : Nat} (e : F = ((O : Int) % 2).toNat) : F = O % 2 := by omega
theorem sa6 {F O : Nat} (e : F = O / 2) (h : O ≤ 5) : F < 3 := by omega
theorem sa7 {S : Int} {E : Nat} (e : S = (E : Int)) (h : E ≤ 108) : -10 ^ 9 ≤ S ∧ S ≤ 10 ^ 9 := by omega
theorem sa8 {H P : Nat} (h : P ≤ H) (h' : H ≤ 23 + P) : (0 : Int) ≤ (H : Int) - (P : Int) ∧ (H : Int) - (P : Int) ≤ 10 ^ 9 := by omega
theorem sa9 {O : Nat} (h : O ≤ 5) : (-10 ^ 9 ≤ (O : Int) ∧ 0 ≤ (O : Int)) ∧ (O : Int) ≤ 10 ^ 9 := by omega
theorem saA {M O : Nat} (h : M = O % 2) (e : (M : Int) ≠ 0) : M = 1 := by omega
theorem saB {M : Nat} (e : (M : Int) = 0) : ¬ M = 1 := by omega
noncomputable def Hid (P : Prop) : Prop := P
theorem Hid.out {P : Prop} (h : Hid P) : P := h
theorem sh_facts (tk : Nat → Tok) {es cur : List Nat} {S : Int} {P H O F M : Nat} (hcur : cur = placed es es es) (h4 : es.length = 4) (hnd : es.Nodup) (h27 : ∀ i ∈ es, i < 27)
  (eS : S = (List.map (fun (i : Nat) => (i : Int)) es).sum) (eP : P = (S % 4).toNat) (eH : H = cur.getD P 0) (eO : O = (((H : Int) - (P : Int)) / 4).toNat) (eF : F = ((O : Int) / 2).toNat) (eM : M = ((O : Int) % 2).toNat) :
  ((0 : Int) < 4 ∧ (4 : Int) ≤ 100 ∧ -10 ^ 9 ≤ S ∧ S ≤ 10 ^ 9) ∧
  ((nmsV tk cur)[P]? = some (.str (nm H) (tk H)) ∧ (nmsV tk cur).length ≤ 30) ∧
  (P < (nmsV tk cur).length ∧ (nmsV tk cur).length ≤ 30) ∧
  (H < 27 ∧ Txt.lower (nm H) = Txt.lower (nm H) ∧ (nm H).length ≤ 1000) ∧
  ((0 : Int) < 4 ∧ (4 : Int) ≤ 100 ∧ 0 ≤ (H : Int) - (P : Int) ∧ (H : Int) - (P : Int) ≤ 10 ^ 9) ∧
  ((0 : Int) < 2 ∧ (2 : Int) ≤ 100 ∧ 0 ≤ (O : Int) ∧ (O : Int) ≤ 10 ^ 9) ∧
  ((0 : Int) < 2 ∧ (2 : Int) ≤ 100 ∧ -10 ^ 9 ≤ (O : Int) ∧ (O : Int) ≤ 10 ^ 9) ∧
  (((nmsV tk cur).eraseIdx P)[F]? = some (.str (nm ((cur.eraseIdx P).getD F 0)) (tk ((cur.eraseIdx P).getD F 0))) ∧ ((nmsV tk cur).eraseIdx P).length ≤ 30) ∧
  (F < ((nmsV tk cur).eraseIdx P).length ∧ ((nmsV tk cur).eraseIdx P).length ≤ 30) ∧
  ((((nmsV tk cur).eraseIdx P).eraseIdx F).toArray.size ≤ sizeLine) ∧
  ((#[Value.str (nm ((cur.eraseIdx P).getD F 0)) (tk ((cur.eraseIdx P).getD F 0))] : Array Value).toList.length + (((nmsV tk cur).eraseIdx P).eraseIdx F).toArray.toList.length ≤ sizeLine) ∧
  ((#[Value.str (nm ((cur.eraseIdx P).getD F 0)) (tk ((cur.eraseIdx P).getD F 0))] : Array Value).toList.length + (((nmsV tk cur).eraseIdx P).eraseIdx F).toArray.toList.reverse.toArray.toList.length ≤ sizeLine) ∧
  H = (shownI es).2 ∧
  Hid ((M : Int) = 0 → nmsV tk (shownI es).1 = (#[Value.str (nm ((cur.eraseIdx P).getD F 0)) (tk ((cur.eraseIdx P).getD F 0))] : Array Value).toList ++ (((nmsV tk cur).eraseIdx P).eraseIdx F).toArray.toList) ∧
  Hid ((M : Int) ≠ 0 → nmsV tk (shownI es).1 = (#[Value.str (nm ((cur.eraseIdx P).getD F 0)) (tk ((cur.eraseIdx P).getD F 0))] : Array Value).toList ++ (((nmsV tk cur).eraseIdx P).eraseIdx F).toArray.toList.reverse.toArray.toList) := by
  obtain ⟨c1, c2, -⟩ := srt_facts h4 hnd h27
  rw [← hcur] at c1 c2
  have hSb : es.sum ≤ 108 := by have := sum_le es h27; rw [h4] at this; exact this
  rw [sum_cast es] at eS
  have hP : P = es.sum % 4 := sa1 eS eP
  have hP4 : P < 4 := hP ▸ Nat.mod_lt _ (by decide)
  obtain ⟨c2a, c2b⟩ := c2 _ hP4
  rw [← eH] at c2a c2b
  have hOP : O = (H - P) / 4 := sa2 eO c2a
  have hO5 : O ≤ 5 := sa3 hOP c2b
  have hFO : F = O / 2 := sa4 eF
  have hMO : M = O % 2 := sa5 eM
  have hF3 : F < 3 := sa6 hFO hO5
  have hH27 : H < 27 := Nat.lt_of_le_of_lt c2b (Nat.add_lt_add_left hP4 23)
  have hlc : (nmsV tk cur).length = 4 := by simp only [nmsV, List.length_map]; exact c1
  have hl3 : (cur.eraseIdx P).length = 3 := by rw [List.length_eraseIdx_of_lt (by rw [c1]; exact hP4), c1]
  have hl3' : ((nmsV tk cur).eraseIdx P).length = 3 := by rw [nmsV_erase]; simp only [nmsV, List.length_map]; exact hl3
  have hl2 : (((nmsV tk cur).eraseIdx P).eraseIdx F).length = 2 := by rw [List.length_eraseIdx_of_lt (by rw [hl3']; exact hF3), hl3']
  have hsh : (shownI es) = ((cur.eraseIdx P).getD F 0 :: (if M = 1 then ((cur.eraseIdx P).eraseIdx F).reverse else (cur.eraseIdx P).eraseIdx F), H) := by
    rw [hMO, hFO, hOP, eH, hP, hcur]; rfl
  refine ⟨⟨by decide, by decide, ?_⟩, ⟨eH ▸ nmsV_get _ _ _ (by rw [c1]; exact hP4), ?_⟩, ⟨by rw [hlc]; exact hP4, ?_⟩, ⟨hH27, rfl, Nat.le_trans (low_ok _ hH27).1 (by decide)⟩, ⟨by decide, by decide, ?_⟩, ⟨by decide, by decide, ?_⟩, ⟨by decide, by decide, ?_⟩, ⟨?_, ?_⟩, ⟨by rw [hl3']; exact hF3, ?_⟩, ?_, ?_, ?_, ?_, fun e => ?_, fun e => ?_⟩
  · exact sa7 eS hSb
  · rw [hlc]; decide
  · rw [hlc]; decide
  · exact sa8 c2a c2b
  · exact ⟨(sa9 hO5).1.2, (sa9 hO5).2⟩
  · exact ⟨(sa9 hO5).1.1, (sa9 hO5).2⟩
  · rw [nmsV_erase]; exact nmsV_get _ _ _ (by rw [hl3]; exact hF3)
  · rw [hl3']; decide
  · rw [hl3']; decide
  · rw [List.size_toArray, hl2]; exact Nat.le_of_ble_eq_true rfl
  · rw [List.toList_toArray, hl2]; exact Nat.le_of_ble_eq_true rfl
  · rw [List.toList_toArray, List.toList_toArray, List.length_reverse, hl2]; exact Nat.le_of_ble_eq_true rfl
  · rw [hsh]
  · rw [hsh, if_neg (saB e), nmsV_erase, nmsV_erase]; rfl
  · rw [hsh, if_pos (saA hMO e), nmsV_erase, nmsV_erase]; simp [nmsV]
theorem shown_sp (w : World) (lh x : Addr) (tk : Nat → Tok) (is : List Nat) (rows : List Row) :
  Sp 8 w 283 ⟨[.ref lh, .ref x], []⟩ [] (fun h t₀ => h.IsList lh (nmsV tk is).toArray ∧ (Deck w h x rows ∧ DeckRows rows) ∧ is.length = 4 ∧ is.Nodup ∧ (∀ i ∈ is, i < 27) ∧ 0 < t₀)
    (fun h _ r h' _ => ∃ R S n, r = .ref R ∧ h'.get? R = some { cls := .type "tuple", data := .seq #[.ref S, .str (nm (shownI is).2) (tk (shownI is).2)] } ∧ h'.get? S = some (W.listOf (nmsV tk (shownI is).1).toArray n) ∧ h.get? R = none ∧ h.get? S = none) := by
  intro p loose mean mg mb dp un fr gd h₀ s R X T hk hN hdp hun hpre ret
  obtain ⟨hl, ⟨hd1, hd2⟩, h4, hnd, h27, ht0⟩ := hpre
  (k_dflt (refine' enterCC _ ?a1 ?a2 ?a3 ?a4 ?k6 ?k7 ?k8 ?k9 ?kB ?kD ?c2 ?c3 ?c4 ?cR ?_; (case a1 => assumption); (case a2 => assumption); (case a3 => assumption); (case a4 => assumption); (case k6 => k_is); (case k7 => k_is); (case k8 => exact room0 (by assumption)); (case k9 => exact BindsTo.of_eq rfl); (case kB => exact rfl); (case kD => decide +kernel); (case c2 => exact rfl); (case c3 => exact rfl); (case c4 => exact rfl); (case cR => assumption); intro g L hA tA cells' F' N' Y' X1 T1 st1 kp' ht1 ll; (try k_lt ll); k_cells Y'; (try simp only [List.cons_append, List.nil_append] at N'); (try dsimp only); (try k_fold)))
  rename Kp _ _ _ => kp
  have hsl : (slicePick (nmsV tk is).toArray none none none).toList = nmsV tk is := by rw [slicePick_all]
  have hsz : (nmsV tk is).toArray.size ≤ sizeLine := by simp [nmsV, sizeLine]; omega
  have hlg := hl.at fun o e => kp _ _ (by simp) e
  have hdg := hd1.at (Kp.all kp)
  k_steps
  rename_i oc dc _ DL h1 lt1 h2 F1 N1 _ _
  refine forB (S := fun _ => True) (by rfl) (fun h _ _ F' _ _ => hlg.at fun o e => F'.keep _ _ e) (by k_asm) (by k_asm) trivial ?_
  intro I hI
  refine BRest.ind2 (J := fun vs m news T => ∃ rs cur, vs = nmsV tk rs ∧ m (Str.ofString "left") = some (.ref DL) ∧ m (Str.ofString "hand") = some (.ref lh) ∧
      news = [(DL, W.listOf (nmsV tk cur).toArray 0), (L + 1, oc)] ∧ cur.length = 4 ∧ (∃ ds, ds ++ rs = is ∧ cur = placed is ds is) ∧ 0 < T) ?_ ?_ _ _ _ _ ⟨is, is, rfl, rfl, rfl, rfl, h4, ⟨[], rfl, rfl⟩, Nat.succ_pos _⟩
  · rintro v r m news T ⟨rs, cur, hv, hleft, hhand, rfl, hcl, ⟨ds, hds, hcur⟩, hT0⟩ it h tk' hT hc F' N' off
    have of1 : @Ne Nat DL I := off _ (.head _)
    have of2 : @Ne Nat (L + 1) I := off _ (.tail _ (.head _))
    cases rs with
    | nil => simp [nmsV] at hv
    | cons i rs =>
      obtain ⟨rfl, rfl⟩ := List.cons.inj hv
      have hi27 : i < 27 := h27 i (by rw [← hds]; simp)
      have hrk : i < 27 ∧ (∀ j ∈ is, j < 27) ∧ is.length ≤ 8 ∧ ((-5 : Int) ≤ -1 ∧ (-1 : Int) ≤ 256) := ⟨hi27, h27, by omega, by decide, by decide⟩
      have hra : rankI i is (-1) = above i is := rank_above i is
      have hab : above i is ≤ 3 := above_le (by rw [← hds]; simp) h4
      have hset : (0 : Int) ≤ 3 - (rankI i is (-1) : Int) ∧ (3 - (rankI i is (-1) : Int)).toNat < (nmsV tk cur).length ∧ (nmsV tk cur).length ≤ 30 := by
        have : (nmsV tk cur).length = 4 := by simp [nmsV, hcl]
        rw [this, hra]; omega
      k_steps
      rename News _ _ _ _ => NN
      have e3 : (3 - (rankI i is (-1) : Int)).toNat = 3 - above i is := by rw [hra]; omega
      refine' BPost.nextI ?F (news' := [(DL, W.listOf (nmsV tk (cur.set (3 - above i is) i)).toArray 0), (L + 1, oc)]) ?N ?O trivial ?_
      (case F => k_dflt assumption)
      (case N =>
        rw [← nmsV_set, ← e3]
        exact NN)
      (case O =>
        intro p hp
        rcases List.mem_cons.mp hp with rfl | hp
        · exact of1
        rcases List.mem_cons.mp hp with rfl | hp
        · exact of2
        cases hp)
      exact ⟨rs, cur.set (3 - above i is) i, rfl, hleft, hhand, rfl, by simpa using hcl, ⟨ds ++ [i], by rw [← hds]; simp, by rw [hcur, placed_snoc]⟩, by omega⟩
  · rintro m news T ⟨rs, cur, hv, hleft, hhand, rfl, hcl, ⟨ds, hds, hcur⟩, hT0⟩ h tk' hT F' N'
    have hrs0 : rs = [] := by
      cases rs with
      | nil => rfl
      | cons z zs => simp [nmsV] at hv
    subst hrs0
    have hds : ds = is := by simpa using hds
    subst hds
    obtain ⟨dx, ld, tkk, hx, hdx, hdl, hdr⟩ := id hdg
    k_steps
    refine ⟨lh, nmsV tk ds, _, _, _, rfl, rfl, by k_asm, by k_asm, ?_, fun h' F' _ => hlg.at (fun o e => F'.keep _ _ e), ?_⟩
    · simp only [nmsV, List.length_map, sizeLine]; omega
    refine CRest.ind (J := fun vs acc T => ∃ rs es ts', vs = nmsV tk rs ∧ acc = intsV (es.map fun (i : Nat) => (i : Int)) ts' ∧ es.length = ts'.length ∧ es ++ rs = ds) ?_ ?_ _ _ _ ⟨ds, [], [], rfl, rfl, rfl, rfl⟩
    · rintro v r acc T ⟨rs, es, ts', hv, rfl, hdt, hes⟩ I' oI C oC D m₂ h₂ tk2 hTk hC hx2 F N off2
      cases rs with
      | nil => simp [nmsV] at hv
      | cons i rs =>
        obtain ⟨rfl, rfl⟩ := List.cons.inj hv
        have hi27 : i < 27 := h27 i (by rw [← hes]; simp)
        have hget : i < 27 ∧ Txt.lower (nm i) = Txt.lower (nm i) ∧ (nm i).length ≤ 1000 := ⟨hi27, rfl, Nat.le_trans (low_ok i hi27).1 (by decide)⟩
        k_steps
        refine CEnd.intro (by k_dflt assumption) (by k_dflt assumption) fun _ => ⟨rs, es ++ [i], ts' ++ [_], rfl, by rw [List.map_append]; exact (intsV_snoc _ _ _ _ (by simpa using hdt)).symm, by simp [hdt], by rw [← hes]; simp⟩
    · rintro acc T ⟨rs, es, ts', hv, rfl, hdt, hes⟩ D h₂ tk2 hTk F N off2
      have hrs0 : rs = [] := by
        cases rs with
        | nil => rfl
        | cons z zs => simp [nmsV] at hv
      subst hrs0
      have hes : es = ds := by simpa using hes
      subst hes
      have hints := ints_are (es.map fun (i : Nat) => (i : Int)) ts' (by simpa using hdt)
      generalize hks : List.map (fun (i : Nat) => (i : Int)) es = ks at N hints
      generalize intsV ks ts' = vs5 at N hints
      have hks : ks.sum = (List.map (fun (i : Nat) => (i : Int)) es).sum := by rw [hks]
      have od1 : @Ne Nat DL D := off2 _ (.head _)
      have od2 : @Ne Nat (L + 1) D := off2 _ (.tail _ (.head _))
      have hcur' : cur = placed es es es := hcur
      obtain ⟨hm, hgetL, hdelL, hgetH, hfd, hF2, hM2, hget2, hdel2, hsz2, hz1, hz2, hH2, hsh0, hsh1⟩ := sh_facts tk hcur' h4 hnd h27 hks rfl rfl rfl rfl rfl
      clear hks
      have frsh : ∀ b, g.get? b = none → s.heap.get? b = none := fun b hb => by
        cases e : s.heap.get? b with
        | none => rfl
        | some o => have := kp b o (by simp) e; rw [hb] at this; cases this
      k_steps
      · rename News _ _ _ _ => NN
        rename (((((((((((cur.getD (ks.sum % 4).toNat 0) : Nat) : Int) - (((ks.sum % 4).toNat : Nat) : Int)) / 4).toNat : Nat) : Int) % 2).toNat : Nat) : Int) ≠ 0) => hmd
        refine EndP.ret (by k_asm) fun _ => ⟨_, _, _, rfl, hH2 ▸ (NN _ (.head _)).1, hsh1.out hmd ▸ (NN _ (.tail _ (.head _))).1, frsh _ (NN _ (.head _)).2.2, frsh _ (NN _ (.tail _ (.head _))).2.2⟩
      · rename News _ _ _ _ => NN
        rename (((((((((((cur.getD (ks.sum % 4).toNat 0) : Nat) : Int) - (((ks.sum % 4).toNat : Nat) : Int)) / 4).toNat : Nat) : Int) % 2).toNat : Nat) : Int) = 0) => hmd
        refine EndP.ret (by k_asm) fun _ => ⟨_, _, _, rfl, hH2 ▸ (NN _ (.head _)).1, hsh0.out hmd ▸ (NN _ (.tail _ (.head _))).1, frsh _ (NN _ (.head _)).2.2, frsh _ (NN _ (.tail _ (.head _))).2.2⟩

end
section
theorem add2_sp (w : World) (x dx l : Addr) (tk : Tok) (as : List Addr) (n : Nat) (nm v : Str) (tn tv : Tok) :
  Sp 4 w 254 ⟨[.ref x, .str nm tn, .str v tv], []⟩ [(l, lstO (as.map Value.ref) n)] (fun h _ => h.get? x = some (instObj 257 dx) ∧ h.get? dx = some (hdD w l tk) ∧ as.length ≤ 30 ∧ (plainT nm.cps ∧ nm.cps.size ≤ 2 ^ 18) ∧ plainT v.cps ∧ v.cps.size ≤ 2 ^ 18)
    (fun h _ r h' _ => r = .none ∧ ∃ a t', h.get? a = none ∧ h'.get? l = some (lstO ((as ++ [a]).map Value.ref) (n + 1)) ∧ h'.get? a = some (tupO nm tn v t')) := by
  have e : ∀ as : List Addr, rowsV (as.map fun a => (a, (Str.empty, 0), (Str.empty, 0))) = as.map Value.ref := fun as => by simp [rowsV]
  intro p loose mean mg mb dp un fr gd h₀ s R X T hk hN hdp hun hpre ret
  have C := add_sp w x dx l tk (as.map fun a => (a, (Str.empty, 0), (Str.empty, 0))) n nm v tn tv p loose mean mg mb dp un fr gd h₀ s R X T hk
  rw [e] at C
  refine C hN hdp hun ⟨hpre.1, hpre.2.1, by simpa using hpre.2.2.1, hpre.2.2.2⟩ fun r h' tk' hK ht hp => ret r h' tk' hK ht ?_
  obtain ⟨h1, a, t', h2, h3, h4⟩ := hp
  refine ⟨h1, a, t', h2, ?_, h4⟩
  rw [rowsV_snoc, e] at h3
  rw [h3, List.map_append]; rfl
noncomputable def AllNe (a : Addr) : List (Addr × Obj) → Prop
  | [] => True
  | p :: r => (@Ne Nat p.1 a) ∧ AllNe a r
theorem allNe_of {g h : Heap} {L a : Addr} : ∀ {news : List (Addr × Obj)}, News g L h news → h.get? a = none → AllNe a news
  | [], _, _ => trivial
  | p :: r, N, ha => ⟨(fun e => by
      have e : p.1 = a := e
      have := (N p (.head _)).1
      rw [e, ha] at this
      cases this), allNe_of (fun q hq => N q (.tail _ hq)) ha⟩
theorem News.addNew {g h h' : Heap} {L a : Addr} {o : Obj} {m : Str → Option Value} {news' : List (Addr × Obj)} (F : Fr g L h m) (N' : News g L h' news') (ha : h.get? a = none) (ho : h'.get? a = some o) : News g L h' ((a, o) :: news') := by
  intro q hq
  rcases List.mem_cons.mp hq with rfl | hq
  · refine ⟨ho, fun e => ?_, ?_⟩
    · obtain ⟨oL, es, ep, hLo, _⟩ := F.ns
      have e : a = L := e
      rw [← e, ha] at hLo; cases hLo
    · cases e : g.get? a with
      | none => rfl
      | some o' => have := F.keep _ _ e; rw [ha] at this; cases this
  · exact N' q hq
theorem plain_w : plainT (Str.ofString ".w").cps ∧ (Str.ofString ".w").cps.size ≤ 2 ^ 18 := by unfold plainT; decide +kernel
theorem plain_x : plainT (Str.ofString "x").cps ∧ (Str.ofString "x").cps.size ≤ 2 ^ 18 := by unfold plainT; decide +kernel
theorem plain_nm : ∀ i, i < 27 → (plainT (Txt.lower (nm i)).cps ∧ (Txt.lower (nm i)).cps.size ≤ 2 ^ 18) ∧ (plainT (Txt.upper (nm i)).cps ∧ (Txt.upper (nm i)).cps.size ≤ 2 ^ 18) ∧ (nm i).length ≤ 3 ∧ (Txt.lower (nm i)).length ≤ 3 ∧ (Txt.upper (nm i)).length ≤ 3 := by unfold plainT; decide +kernel

end
section
theorem none_booked {w : World} {p : Program} {loose : List Str} {mean : ExcName → Option Value} {mg mb : Str → Option Value} {g h : Heap} (X : (hd.heap_1 w.params).In g) (T : Top p loose mean mg mb g) (hk : ∀ b o, g.get? b = some o → h.get? b = some o) : NoneBooked h := by
  obtain ⟨mc, hn, _⟩ := T.nodigits
  exact ⟨mc, hn.at' fun o e => hk _ o e, ns_none_of X hn (by k_is)⟩

end
section
noncomputable def joinL (e : List Nat) : List (List Nat) → List Nat
  | [] => []
  | l :: r => l ++ (e ++ joinL e r)
noncomputable def dotLine (l : List Nat) : List Nat := if l.head? = some 46 then 46 :: l else l
noncomputable def dotN : Nat → List Nat → List Nat
  | 0, l => l
  | n + 1, l => dotLine (dotN n l)
noncomputable def Free (l : List Nat) : Prop := 10 ∉ l ∧ 13 ∉ l
theorem crlf_pass : ∀ (l r : List Nat), Free l → crlfL (l ++ r) = l ++ crlfL r
  | [], _, _ => rfl
  | c :: l, r, h => by
    have h1 : is2 c = false := by
      have a : c ≠ 10 := fun e => h.1 (e ▸ List.mem_cons_self ..)
      have b : c ≠ 13 := fun e => h.2 (e ▸ List.mem_cons_self ..)
      simp [is2, a, b]
    rw [List.cons_append, crlf_step h1, crlf_pass l r ⟨fun m => h.1 (List.mem_cons_of_mem _ m), fun m => h.2 (List.mem_cons_of_mem _ m)⟩]; rfl
theorem crlf_cr : ∀ r : List Nat, r.head? ≠ some 10 → crlfL (13 :: r) = 13 :: 10 :: crlfL r := by
  intro r h
  rw [crlfL.eq_def]
  split
  · rename_i e; cases e
  · rename_i e; cases e; exact absurd rfl h
  · rename_i e; cases e; rfl
theorem head_join {e : List Nat} (he : e.head? ≠ some 10) : ∀ ls : List (List Nat), (∀ l ∈ ls, Free l) → (joinL e ls).head? ≠ some 10
  | [], _ => by simp [joinL]
  | l :: r, h => by
    show (l ++ (e ++ joinL e r)).head? ≠ _
    cases l with
    | nil =>
      cases e with
      | nil => exact head_join he r fun l hl => h l (.tail _ hl)
      | cons c e => simpa using he
    | cons c l =>
      intro hc
      have hc : c = 10 := by simpa using hc
      exact (h _ (.head _)).1 (hc ▸ List.mem_cons_self ..)
theorem crlf_jn {e : List Nat} (he : e = [10] ∨ e = [13] ∨ e = [13, 10]) : ∀ ls : List (List Nat), (∀ l ∈ ls, Free l) → crlfL (joinL e ls) = joinL [13, 10] ls
  | [], _ => rfl
  | l :: r, h => by
    have ih := crlf_jn he r fun l hl => h l (.tail _ hl)
    show crlfL (l ++ (e ++ joinL e r)) = l ++ ([13, 10] ++ joinL [13, 10] r)
    rw [crlf_pass l _ (h l (.head _)), ← ih]
    congr 1
    rcases he with rfl | rfl | rfl
    · show crlfL (10 :: joinL [10] r) = _
      rw [crlfL.eq_def]; rfl
    · exact crlf_cr _ (head_join (by decide) r fun l hl => h l (.tail _ hl))
    · rfl
theorem dots_pass : ∀ (l r : List Nat), 10 ∉ l → dotsL false (l ++ (13 :: 10 :: r)) = l ++ (13 :: 10 :: dotsL true r)
  | [], _, _ => rfl
  | c :: l, r, h => by
    have hc : (c == 10) = false := beq_eq_false_iff_ne.mpr fun e => h (e ▸ List.mem_cons_self ..)
    show dotsL false (c :: (l ++ (13 :: 10 :: r))) = c :: (l ++ (13 :: 10 :: dotsL true r))
    have ih := dots_pass l r fun m => h (List.mem_cons_of_mem _ m)
    rw [← ih]
    show (if (false && c == 46) = true then _ else c :: dotsL (c == 10) (l ++ (13 :: 10 :: r))) = _
    rw [hc]; rfl
theorem dots_line (l r : List Nat) (h : 10 ∉ l) : dotsL true (l ++ (13 :: 10 :: r)) = dotLine l ++ (13 :: 10 :: dotsL true r) := by
  cases l with
  | nil => rfl
  | cons c l =>
    have hc : (c == 10) = false := beq_eq_false_iff_ne.mpr fun e => h (e ▸ List.mem_cons_self ..)
    have p := dots_pass l r fun m => h (List.mem_cons_of_mem _ m)
    show (if (true && c == 46) = true then 46 :: 46 :: dotsL false (l ++ (13 :: 10 :: r)) else c :: dotsL (c == 10) (l ++ (13 :: 10 :: r))) = _
    rw [hc, p]
    by_cases e : c = 46
    · subst e; rfl
    · have e' : (c == 46) = false := beq_eq_false_iff_ne.mpr e
      simp [dotLine, e, e']
theorem dots_jn : ∀ ls : List (List Nat), (∀ l ∈ ls, Free l) → dotsL true (joinL [13, 10] ls) = joinL [13, 10] (ls.map dotLine)
  | [], _ => rfl
  | l :: r, h => by
    show dotsL true (l ++ (13 :: 10 :: joinL [13, 10] r)) = dotLine l ++ (13 :: 10 :: joinL [13, 10] (r.map dotLine))
    rw [dots_line l _ (h l (.head _)).1, dots_jn r fun l hl => h l (.tail _ hl)]
theorem free_dot {l : List Nat} (h : Free l) : Free (dotLine l) := by
  unfold dotLine
  split
  · exact ⟨by simpa using h.1, by simpa using h.2⟩
  · exact h
theorem free_dotN {l : List Nat} (h : Free l) : ∀ n, Free (dotN n l)
  | 0 => h
  | n + 1 => free_dot (free_dotN h n)
noncomputable def LN (e : List Nat) (ls : List (List Nat)) : PySem.Str := ⟨(joinL e ls).toArray⟩
theorem quote_LN {e : List Nat} (he : e = [10] ∨ e = [13] ∨ e = [13, 10]) (ls : List (List Nat)) (h : ∀ l ∈ ls, Free l) : quoteS (LN e ls) = LN [13, 10] (ls.map dotLine) := by
  unfold quoteS LN
  rw [crlf_jn he ls h, dots_jn ls h]
noncomputable def sepY : PySem.Str := ⟨#[13, 10]⟩
open PySem.Builtin PySem.Builtin.Str PySem.StrLaws
theorem at_crlf (x : PySem.Str) (i : Nat) : At x sepY x.length i ↔ (x.cps.toList.drop i).take 2 = [13, 10] := by
  unfold At
  rw [subAt_eq]
  constructor
  · intro h; exact eq_of_beq h.2
  · intro h
    refine ⟨?_, beq_iff_eq.mpr h⟩
    have := congrArg List.length h
    simp at this
    show i + 2 ≤ x.cps.size
    omega
theorem no_at {x : PySem.Str} {pre l r : List Nat} (e : x.cps.toList = pre ++ (l ++ r)) (h : Free l) : ∀ k, pre.length ≤ k → k < pre.length + l.length → ¬ At x sepY x.length k := by
  intro k h1 h2 hA
  rw [at_crlf, e] at hA
  obtain ⟨j, rfl⟩ := Nat.le.dest h1
  have hj : j < l.length := by omega
  rw [← List.drop_drop, List.drop_left] at hA
  rw [List.drop_append_of_le_length (by omega), List.drop_eq_getElem_cons hj] at hA
  have : l[j] = 13 := (List.cons.inj hA).1
  exact h.2 (this ▸ List.getElem_mem hj)
theorem sub_mid {x : PySem.Str} {pre l r : List Nat} (e : x.cps.toList = pre ++ (l ++ r)) : strSub x pre.length (pre.length + l.length) = ⟨l.toArray⟩ := by
  apply PySem.Str.ext'
  apply Array.toList_inj.mp
  rw [strSub_toList, e, List.drop_left, Nat.add_sub_cancel_left, List.take_left]
theorem parts_LN (x : PySem.Str) : ∀ (ls : List (List Nat)) (last pre cuts : List Nat) (f : Nat), (∀ l ∈ ls, Free l) → Free last → x.cps.toList = pre ++ (joinL [13, 10] ls ++ last) →
    ChainG x sepY x.length pre.length cuts f → (∀ k, f ≤ k → ¬ At x sepY x.length k) → partsFrom x 2 pre.length cuts = ls.map (fun (l : List Nat) => (⟨l.toArray⟩ : PySem.Str)) ++ [⟨last.toArray⟩]
  | [], last, pre, cuts, f, _, hl, e, hG, hn => by
    have e' : x.cps.toList = pre ++ (last ++ []) := by rw [e]; simp [joinL]
    have hx : x.length = pre.length + last.length := by
      show x.cps.size = _
      rw [← Array.length_toList, e]; simp [joinL]
    cases cuts with
    | nil =>
      show [strSub x pre.length x.length] = _
      rw [hx, sub_mid e']; rfl
    | cons c r =>
      exfalso
      have hA := hG.2.1
      have : c + 2 ≤ x.length := hA.1
      exact no_at e' hl c hG.1 (by omega) hA
  | l :: ls, last, pre, cuts, f, hf, hl, e, hG, hn => by
    have e1 : x.cps.toList = pre ++ (l ++ (13 :: 10 :: (joinL [13, 10] ls ++ last))) := by rw [e]; simp [joinL]
    have hA : At x sepY x.length (pre.length + l.length) := by
      rw [at_crlf, e1, ← List.drop_drop, List.drop_left, List.drop_left]; rfl
    have hno := no_at e1 (hf l (.head _))
    cases cuts with
    | nil =>
      exfalso
      have ef : f = pre.length := hG
      exact hn (pre.length + l.length) (by omega) hA
    | cons c r =>
      have hc : c = pre.length + l.length := by
        rcases Nat.lt_trichotomy c (pre.length + l.length) with h | h | h
        · exact absurd hG.2.1 (hno c hG.1 h)
        · exact h
        · exact absurd hA (hG.2.2.1 _ (by omega) h)
      subst hc
      have e2 : x.cps.toList = (pre ++ l ++ [13, 10]) ++ (joinL [13, 10] ls ++ last) := by rw [e1]; simp
      have hlen : (pre ++ l ++ [13, 10]).length = pre.length + l.length + 2 := by simp; omega
      have ih := parts_LN x ls last (pre ++ l ++ [13, 10]) r f (fun l hl => hf l (.tail _ hl)) hl e2 (by rw [hlen]; exact hG.2.2.2) hn
      rw [hlen] at ih
      show strSub x pre.length (pre.length + l.length) :: partsFrom x 2 (pre.length + l.length + 2) r = _
      rw [ih, sub_mid e1]; rfl
theorem occ_LN {x : PySem.Str} {ls : List (List Nat)} {last : List Nat} (e : x.cps.toList = joinL [13, 10] ls ++ last) (hf : ∀ l ∈ ls, Free l) (hl : Free last) :
    partsBetween x (occurrences x sepY 0 x.length (x.length + 1)) sepY.length = ls.map (fun (l : List Nat) => (⟨l.toArray⟩ : PySem.Str)) ++ [⟨last.toArray⟩] := by
  obtain ⟨f, hG, hn⟩ := occ_tight x sepY (by decide)
  rw [partsBetween_eq]
  exact parts_LN x ls last [] _ f hf hl e hG hn
theorem strKind_pos (x : PySem.Str) : 1 ≤ PySem.Builtin.Str.strKind x := by
  unfold PySem.Builtin.Str.strKind
  split
  · exact Nat.le_refl 1
  · split <;> omega
theorem occ_ne {x : PySem.Str} {l : List Nat} {ls : List (List Nat)} {last : List Nat} (e : x.cps.toList = joinL [13, 10] (l :: ls) ++ last) (hf : ∀ l' ∈ l :: ls, Free l') (hl : Free last) :
    (occurrences x sepY 0 x.length (x.length + 1)).isEmpty = false := by
  have h := congrArg List.length (occ_LN e hf hl)
  cases ho : occurrences x sepY 0 x.length (x.length + 1) with
  | nil => rw [ho] at h; simp [partsBetween] at h
  | cons _ _ => rfl
theorem split_LN {x : PySem.Str} {l : List Nat} {ls : List (List Nat)} {last : List Nat} (e : x.cps.toList = joinL [13, 10] (l :: ls) ++ last) (hf : ∀ l' ∈ l :: ls, Free l') (hl : Free last) :
    Txt.split x sepY = (l :: ls).map (fun (l : List Nat) => (⟨l.toArray⟩ : PySem.Str)) ++ [⟨last.toArray⟩] := by
  unfold Txt.split
  have h1 : ¬ x.length < sepY.length := by
    show ¬ x.cps.size < 2
    rw [← Array.length_toList, e]
    simp [joinL]; omega
  have h2 : ¬ PySem.Builtin.Str.strKind x < PySem.Builtin.Str.strKind sepY := by
    have := strKind_pos x
    have e : PySem.Builtin.Str.strKind sepY = 1 := by decide +kernel
    omega
  rw [if_neg (by simp [h1, h2]), occ_ne e hf hl, if_neg Bool.false_ne_true, occ_LN e hf hl]
theorem replace_LN {x z : PySem.Str} {l : List Nat} {ls : List (List Nat)} {last : List Nat} (e : x.cps.toList = joinL [13, 10] (l :: ls) ++ last) (hf : ∀ l' ∈ l :: ls, Free l') (hl : Free last) :
    Txt.replace x sepY z = PySem.Str.join z ((l :: ls).map (fun (l : List Nat) => (⟨l.toArray⟩ : PySem.Str)) ++ [⟨last.toArray⟩]) := by
  unfold Txt.replace
  rw [occ_ne e hf hl, show (sepY.length == 0) = false from rfl, Bool.false_and, Bool.or_false, if_neg Bool.false_ne_true, glued_eq_join, occ_LN e hf hl]
theorem join_LN (z : PySem.Str) : ∀ (ls : List (List Nat)), (PySem.Str.join z (ls.map (fun (l : List Nat) => (⟨l.toArray⟩ : PySem.Str)) ++ [PySem.Str.empty])).cps.toList = joinL z.cps.toList ls
  | [] => rfl
  | l :: ls => by
    have ih := join_LN z ls
    have : ∃ p q, ls.map (fun (l : List Nat) => (⟨l.toArray⟩ : PySem.Str)) ++ [PySem.Str.empty] = p :: q := by cases ls <;> exact ⟨_, _, rfl⟩
    obtain ⟨p, q, hpq⟩ := this
    rw [hpq] at ih
    rw [List.map_cons, List.cons_append, hpq]
    show ((l.toArray ++ z.cps) ++ (PySem.Str.join z (p :: q)).cps).toList = _
    rw [Array.toList_append, Array.toList_append, ih]
    simp [joinL]
theorem partition_free (x : PySem.Str) (d : Nat) (y : PySem.Str) (l r : List Nat) (hy : y.cps.toList = d :: r) (e : ∃ q, x.cps.toList = l ++ (d :: r ++ q)) (hd : d ∉ l) : (Txt.partition x y).1 = ⟨l.toArray⟩ := by
  obtain ⟨q, e⟩ := e
  have yl : y.length = r.length + 1 := by
    show y.cps.size = _
    rw [← Array.length_toList, hy]; simp
  have hA : At x y x.length l.length := by
    refine ⟨?_, ?_⟩
    · show l.length + y.length ≤ x.cps.size
      rw [yl, ← Array.length_toList, e]; simp
    · rw [subAt_eq, e, List.drop_left, yl, hy]
      rw [List.take_left' (by simp)]; simp
  have hno : ∀ k, k < l.length → ¬ At x y x.length k := by
    intro k hk hA
    have h := hA.2
    rw [subAt_eq, e, yl, hy, List.drop_append_of_le_length (by omega), List.drop_eq_getElem_cons hk] at h
    have : l[k] = d := (List.cons.inj (eq_of_beq h)).1
    exact hd (this ▸ List.getElem_mem hk)
  rcases partition_head x y with ⟨_, h2⟩ | ⟨i, h1, h2, h3⟩
  · exact absurd hA (h2 _)
  · have : i = l.length := by
      rcases Nat.lt_trichotomy i l.length with h | h | h
      · exact absurd h2 (hno i h)
      · exact h
      · exact absurd hA (h3 _ h)
    rw [h1, this]
    apply PySem.Str.ext'
    apply Array.toList_inj.mp
    rw [strSub_toList, e]; simp
theorem dotN_nil : ∀ t, dotN t [] = []
  | 0 => rfl
  | t + 1 => by show dotLine (dotN t []) = []; rw [dotN_nil t]; rfl
theorem dotN_cat (n s : List Nat) (hs : s.head? ≠ some 46) : ∀ t, dotN t (n ++ s) = dotN t n ++ s
  | 0 => rfl
  | t + 1 => by
    show dotLine (dotN t (n ++ s)) = dotLine (dotN t n) ++ s
    rw [dotN_cat n s hs t]
    cases e : dotN t n with
    | nil => simp [dotLine, hs]
    | cons c r =>
      by_cases h : c = 46
      · simp [dotLine, h]
      · simp [dotLine, h]
theorem dotN_len (l : List Nat) : ∀ t, (dotN t l).length ≤ t + l.length
  | 0 => by simp [dotN]
  | t + 1 => by
    have := dotN_len l t
    show (dotLine (dotN t l)).length ≤ _
    unfold dotLine
    split
    · simp; omega
    · omega
theorem dotN_dot {l : List Nat} (h : l.head? = some 46) : ∀ t, dotN t l = List.replicate t 46 ++ l
  | 0 => rfl
  | t + 1 => by
    show dotLine (dotN t l) = _
    rw [dotN_dot h t]
    have : (List.replicate t 46 ++ l).head? = some 46 := by
      cases t with
      | zero => simpa using h
      | succ t => simp [List.replicate_succ]
    simp [dotLine, this, List.replicate_succ]
theorem dotN_no {l : List Nat} (h : l.head? ≠ some 46) : ∀ t, dotN t l = l
  | 0 => rfl
  | t + 1 => by
    show dotLine (dotN t l) = _
    rw [dotN_no h t]
    simp [dotLine, h]
noncomputable def rowS (t : Nat) (x : PySem.Str) : PySem.Str := ⟨(dotN t x.cps.toList).toArray⟩
noncomputable def linS (t : Nat) (x : PySem.Str) : PySem.Str := ⟨(dotN t (x.cps.toList ++ [58, 32, 120])).toArray⟩
noncomputable def mail (t : Nat) (e : List Nat) (xs : List PySem.Str) : PySem.Str := LN (if t = 0 then e else [13, 10]) (xs.map (fun x => dotN t (x.cps.toList ++ [58, 32, 120])) ++ [[]])
noncomputable def FreeS (x : PySem.Str) : Prop := Free x.cps.toList
theorem free_row {x : PySem.Str} (h : FreeS x) (t : Nat) : Free (dotN t (x.cps.toList ++ [58, 32, 120])) := by
  refine free_dotN ⟨?_, ?_⟩ t
  · have := h.1; simp [this]
  · have := h.2; simp [this]
theorem free_nil : Free [] := ⟨by simp, by simp⟩
theorem free_rows {xs : List PySem.Str} (h : ∀ x ∈ xs, FreeS x) (t : Nat) : ∀ l ∈ xs.map (fun x => dotN t (x.cps.toList ++ [58, 32, 120])) ++ [[]], Free l := by
  intro l hl
  rcases List.mem_append.mp hl with h1 | h1
  · obtain ⟨x, hx, rfl⟩ := List.mem_map.mp h1
    exact free_row (h x hx) t
  · rw [List.mem_singleton.mp h1]; exact free_nil
theorem mail_quote {e : List Nat} (he : e = [10] ∨ e = [13] ∨ e = [13, 10]) {xs : List PySem.Str} (h : ∀ x ∈ xs, FreeS x) (t : Nat) : quoteS (mail t e xs) = mail (t + 1) e xs := by
  have he' : (if t = 0 then e else [13, 10]) = [10] ∨ (if t = 0 then e else [13, 10]) = [13] ∨ (if t = 0 then e else [13, 10]) = [13, 10] := by
    by_cases h0 : t = 0
    · rw [if_pos h0]; exact he
    · rw [if_neg h0]; exact .inr (.inr rfl)
  unfold mail
  rw [quote_LN he' _ (free_rows h t), if_neg (Nat.succ_ne_zero t), List.map_append, List.map_map]
  rfl
theorem mail_split {e : List Nat} {x : PySem.Str} {xs : List PySem.Str} (h : ∀ y ∈ x :: xs, FreeS y) (t : Nat) : Txt.split (mail (t + 1) e (x :: xs)) sepY = (x :: xs).map (linS (t + 1)) ++ [PySem.Str.empty, PySem.Str.empty] := by
  have := split_LN (x := mail (t + 1) e (x :: xs)) (l := dotN (t + 1) (x.cps.toList ++ [58, 32, 120])) (ls := xs.map (fun x => dotN (t + 1) (x.cps.toList ++ [58, 32, 120])) ++ [[]]) (last := [])
    (by rw [List.append_nil]; unfold mail LN; rw [if_neg (Nat.succ_ne_zero t)]; rfl) (by have := free_rows h (t + 1); rwa [List.map_cons, List.cons_append] at this) free_nil
  rw [this, List.map_cons, List.map_append, List.map_map]
  simp only [List.map_cons, List.cons_append, List.append_assoc]
  rfl
theorem mail_part {t : Nat} {x : PySem.Str} {y : PySem.Str} (hy : y.cps.toList = [58, 32]) (h : 58 ∉ x.cps.toList) : (Txt.partition (linS t x) y).1 = rowS t x := by
  refine partition_free _ 58 y (dotN t x.cps.toList) [32] hy ⟨[120], ?_⟩ ?_
  · show (dotN t (x.cps.toList ++ [58, 32, 120])) = _
    rw [dotN_cat _ _ (by decide)]; rfl
  · induction t with
    | zero => exact h
    | succ t ih =>
      show 58 ∉ dotLine (dotN t x.cps.toList)
      unfold dotLine
      split
      · simp [ih]
      · exact ih
noncomputable def lineS (x : PySem.Str) : PySem.Str := ⟨(x.cps.toList ++ [58, 32, 120]).toArray⟩
theorem mail_start {z : PySem.Str} {x : PySem.Str} {xs : List PySem.Str} {y : PySem.Str} (hy : y = sepY) (h : ∀ y ∈ x :: xs, FreeS y) : Txt.replace (Txt.join y ((x :: xs).map lineS ++ [PySem.Str.empty, PySem.Str.empty])) y z = mail 0 z.cps.toList (x :: xs) := by
  subst hy
  have hlist : (x :: xs).map lineS ++ [PySem.Str.empty, PySem.Str.empty] = (((x :: xs).map fun (x : PySem.Str) => x.cps.toList ++ [58, 32, 120]) ++ [[]]).map (fun (l : List Nat) => (⟨l.toArray⟩ : PySem.Str)) ++ [PySem.Str.empty] := by
    rw [List.map_append, List.map_map]; simp [lineS, PySem.Str.empty, Function.comp_def]
  have e : (Txt.join sepY ((x :: xs).map lineS ++ [PySem.Str.empty, PySem.Str.empty])).cps.toList = joinL [13, 10] (((x :: xs).map fun (x : PySem.Str) => x.cps.toList ++ [58, 32, 120]) ++ [[]]) := by
    show (PySem.Builtin.Str.glued _ _).cps.toList = _
    rw [glued_eq_join, hlist, join_LN]; rfl
  have hf := free_rows h 0
  rw [replace_LN (x := Txt.join sepY _) (l := x.cps.toList ++ [58, 32, 120]) (ls := (xs.map fun (x : PySem.Str) => x.cps.toList ++ [58, 32, 120]) ++ [[]]) (last := []) (by rw [e, List.append_nil]; rfl) (by rw [List.map_cons, List.cons_append] at hf; exact hf) free_nil]
  refine Str_ext' ?_
  exact join_LN z ((x.cps.toList ++ [58, 32, 120]) :: ((xs.map fun (x : PySem.Str) => x.cps.toList ++ [58, 32, 120]) ++ [[]]))
theorem joinL_len (e : List Nat) : ∀ ls : List (List Nat), (joinL e ls).length = (ls.map (·.length)).sum + ls.length * e.length
  | [] => by simp [joinL]
  | l :: r => by
    have := joinL_len e r
    simp only [joinL, List.length_append, this, List.map_cons, List.sum_cons, List.length_cons, Nat.add_mul, Nat.one_mul]
    omega
theorem mail_len {e : List Nat} (he : e.length ≤ 2) {xs : List PySem.Str} (hx : ∀ x ∈ xs, x.length ≤ 3) (t : Nat) : (mail t e xs).length ≤ xs.length * (t + 8) + 2 := by
  have h2 : (if t = 0 then e else [13, 10]).length ≤ 2 := by split; exact he; decide
  show (joinL _ _).toArray.size ≤ _
  rw [List.size_toArray, joinL_len]
  have h3 : ∀ ys : List PySem.Str, (∀ x ∈ ys, x.length ≤ 3) → ((ys.map (fun (x : PySem.Str) => dotN t (x.cps.toList ++ [58, 32, 120])) ++ [[]]).map (fun (l : List Nat) => l.length)).sum ≤ ys.length * (t + 6) := by
    intro ys
    induction ys with
    | nil => intro _; simp
    | cons y ys ih =>
      intro h
      have i := ih fun x hx => h x (.tail _ hx)
      have a := dotN_len (y.cps.toList ++ [58, 32, 120]) t
      have b : y.cps.size ≤ 3 := h y (.head _)
      simp only [List.map_cons, List.cons_append, List.sum_cons, List.length_append, Array.length_toList, List.length_cons, List.length_nil] at i a ⊢
      have : (ys.length + 1) * (t + 6) = ys.length * (t + 6) + (t + 6) := by rw [Nat.add_mul, Nat.one_mul]
      omega
  have h4 := h3 xs hx
  have h5 : (xs.map (fun (x : PySem.Str) => dotN t (x.cps.toList ++ [58, 32, 120])) ++ [[]]).length = xs.length + 1 := by simp
  have h6 := Nat.mul_le_mul_left (xs.length + 1) h2
  have h7 : xs.length * (t + 8) = xs.length * (t + 6) + xs.length * 2 := by rw [← Nat.mul_add]
  rw [h5]
  have h8 : (xs.length + 1) * 2 = xs.length * 2 + 2 := by omega
  omega

end
section
noncomputable def LineOk (x : Str) : Prop := FreeS x ∧ 58 ∉ x.cps.toList ∧ x.length ≤ 3
theorem line_w : LineOk (Str.ofString ".w") := by unfold LineOk FreeS Free; decide +kernel
theorem line_nm : ∀ i, i < 27 → LineOk (Txt.lower (nm i)) ∧ LineOk (Txt.upper (nm i)) := by unfold LineOk FreeS Free; decide +kernel
noncomputable def EndOk (en : Str) : Prop := en.cps.toList = [10] ∨ en.cps.toList = [13] ∨ en.cps.toList = [13, 10]
theorem sep_is : (Str.ofString "\x0d\n") = sepY := by decide +kernel
theorem head_lines (x1 x2 x3 x4 : Str) (a1 a2 a3 a4 : Addr) (t1 t2 t3 t4 u1 u2 u3 u4 : Tok) :
    headText [(a1, (x1, t1), (Str.ofString "x", u1)), (a2, (x2, t2), (Str.ofString "x", u2)), (a3, (x3, t3), (Str.ofString "x", u3)), (a4, (x4, t4), (Str.ofString "x", u4))] = Txt.join (Str.ofString "\r\n") ([x1, x2, x3, x4].map lineS ++ [Str.empty, Str.empty]) := by
  have h : ∀ (a : Addr) (x : Str) (t u : Tok), lineOf (a, (x, t), (Str.ofString "x", u)) = lineS x := fun a x t u => by
    apply Str_ext'
    show ((x.cps ++ (Str.ofString ": ").cps) ++ (Str.ofString "x").cps).toList = _
    have e1 : (Str.ofString ": ").cps = #[58, 32] := by decide +kernel
    have e2 : (Str.ofString "x").cps = #[120] := by decide +kernel
    rw [e1, e2]; simp
  unfold headText
  simp only [List.map_cons, List.map_nil, h]
theorem mail_head (x1 x2 x3 x4 : Str) (a1 a2 a3 a4 : Addr) (t1 t2 t3 t4 u1 u2 u3 u4 : Tok) (z : Str) (h : ∀ y ∈ [x1, x2, x3, x4], LineOk y) :
    Txt.replace (headText [(a1, (x1, t1), (Str.ofString "x", u1)), (a2, (x2, t2), (Str.ofString "x", u2)), (a3, (x3, t3), (Str.ofString "x", u3)), (a4, (x4, t4), (Str.ofString "x", u4))]) (Str.ofString "\x0d\n") z = mail 0 z.cps.toList [x1, x2, x3, x4] := by
  rw [head_lines]
  exact mail_start sep_is fun y hy => (h y hy).1
theorem head_len (x1 x2 x3 x4 : Str) (a1 a2 a3 a4 : Addr) (t1 t2 t3 t4 u1 u2 u3 u4 : Tok) (h : ∀ y ∈ [x1, x2, x3, x4], LineOk y) :
    (headText [(a1, (x1, t1), (Str.ofString "x", u1)), (a2, (x2, t2), (Str.ofString "x", u2)), (a3, (x3, t3), (Str.ofString "x", u3)), (a4, (x4, t4), (Str.ofString "x", u4))]).length ≤ 60 := by
  rw [head_lines]
  show (PySem.Builtin.Str.glued _ _).length ≤ _
  rw [StrLaws.glued_eq_join]
  refine Nat.le_trans (StrLaws.join_length_le _ _) ?_
  have l : ∀ y, LineOk y → (lineS y).length ≤ 6 := fun y hy => by
    have := hy.2.2
    have e : y.length = y.cps.size := rfl
    show (y.cps.toList ++ [58, 32, 120]).toArray.size ≤ 6
    simp; omega
  have h1 := l x1 (h x1 (by simp))
  have h2 := l x2 (h x2 (by simp))
  have h3 := l x3 (h x3 (by simp))
  have h4 := l x4 (h x4 (by simp))
  have e0 : Str.empty.length = 0 := rfl
  have es : (Str.ofString "\r\n").length = 2 := by decide +kernel
  simp [e0, es]; omega
theorem quoteM_sp (w : World) (t : Nat) (e : List Nat) (xs : List Str) (tx : Tok) :
  Sp 2 w 111 ⟨[.str (mail t e xs) tx], []⟩ [] (fun _ _ => (e = [10] ∨ e = [13] ∨ e = [13, 10]) ∧ (∀ y ∈ xs, LineOk y) ∧ xs.length ≤ 4 ∧ t ≤ 4) (fun _ _ r _ _ => ∃ t', r = .str (mail (t + 1) e xs) t') := by
  intro p loose mean mg mb dp un fr gd h₀ s R X T hk hN hdp hun hpre ret
  obtain ⟨he, hx, hl, ht⟩ := hpre
  have hsz : (mail t e xs).cps.size ≤ 2 ^ 18 := by
    have h1 := mail_len (e := e) (by rcases he with h | h | h <;> simp [h]) (fun x hx' => (hx x hx').2.2) t
    have h2 : xs.length * (t + 8) ≤ 4 * 12 := Nat.mul_le_mul hl (by omega)
    have : (mail t e xs).length = (mail t e xs).cps.size := rfl
    omega
  refine quote_sp w (mail t e xs) tx p loose mean mg mb dp un fr gd h₀ s R X T hk hN hdp hun hsz fun r h' tk' hK ht hp => ret r h' tk' hK ht ?_
  obtain ⟨t9, e9⟩ := hp
  exact ⟨t9, by rw [e9, mail_quote he fun x hx' => (hx x hx').1]⟩
theorem mailM_split (t : Nat) (e : List Nat) (x1 x2 x3 x4 : Str) (h : ∀ y ∈ [x1, x2, x3, x4], LineOk y) :
    Txt.split (mail (t + 1) e [x1, x2, x3, x4]) (Str.ofString "\x0d\n") = [linS (t + 1) x1, linS (t + 1) x2, linS (t + 1) x3, linS (t + 1) x4, Str.empty, Str.empty] := by
  rw [sep_is]
  exact mail_split (fun y hy => (h y hy).1) t
theorem mailM_len {t : Nat} {e : List Nat} {xs : List Str} (he : e = [10] ∨ e = [13] ∨ e = [13, 10]) (hx : ∀ y ∈ xs, LineOk y) (hl : xs.length ≤ 4) (ht : t ≤ 4) : (mail t e xs).length + 2 ≤ sizeLine := by
  have h1 := mail_len (e := e) (by rcases he with h | h | h <;> simp [h]) (fun x hx' => (hx x hx').2.2) t
  have h2 : xs.length * (t + 8) ≤ 4 * 12 := Nat.mul_le_mul hl (by omega)
  have h3 : sizeLine = 16777216 := by decide
  omega
theorem mailM_part (t : Nat) (x : Str) (h : LineOk x) : (Txt.partition (linS t x) (Str.ofString ": ")).1 = rowS t x := mail_part (by decide +kernel) h.2.1
theorem mailM_llen (t : Nat) (x : Str) (h : LineOk x) (ht : t ≤ 4) : (linS t x).length ≤ sizeLine := by
  have := h.2.2
  have e : x.length = x.cps.size := rfl
  have h1 := dotN_len (x.cps.toList ++ [58, 32, 120]) t
  have h3 : sizeLine = 16777216 := by decide
  show (dotN t (x.cps.toList ++ [58, 32, 120])).toArray.size ≤ _
  simp at h1 ⊢; omega
theorem head_fits (x1 x2 x3 x4 : Str) (a1 a2 a3 a4 : Addr) (t1 t2 t3 t4 u1 u2 u3 u4 : Tok) (z : Str) (h : ∀ y ∈ [x1, x2, x3, x4], LineOk y) (hz : z.length ≤ 2) :
    (headText [(a1, (x1, t1), (Str.ofString "x", u1)), (a2, (x2, t2), (Str.ofString "x", u2)), (a3, (x3, t3), (Str.ofString "x", u3)), (a4, (x4, t4), (Str.ofString "x", u4))]).length + ((headText [(a1, (x1, t1), (Str.ofString "x", u1)), (a2, (x2, t2), (Str.ofString "x", u2)), (a3, (x3, t3), (Str.ofString "x", u3)), (a4, (x4, t4), (Str.ofString "x", u4))]).length + 1) * z.length ≤ 16777216 := by
  have h1 := head_len x1 x2 x3 x4 a1 a2 a3 a4 t1 t2 t3 t4 u1 u2 u3 u4 h
  have h2 := Nat.mul_le_mul (Nat.add_le_add_right h1 1) hz
  omega

end
section
local macro_rules | `(tactic| k_lt $h) => `(tactic| (replace $h := allLt_of $h; simp only [AllLt, and_true] at $h:ident; (repeat (have h9 := And.left $h; replace $h := And.right $h))))
local macro_rules | `(tactic| walk_at "call ref") => `(tactic| (k_here; (with_reducible refine gR 257 ?_); k_dflt (refine headers_new (rows := [(_, (_, _), (_, _))]) (by k_asm) (by k_asm) (by k_asm) (by k_asm) (by ktr_room) (by ktr_units) (fun h' F' N' => ⟨News.isList N' (by k_mem), List.forall_mem_singleton.mpr (News.isTup N' (by k_mem))⟩) (by exact List.forall_mem_singleton.mpr ⟨plain_w, plain_x⟩) (by exact Nat.le_of_ble_eq_true rfl) ?_; intro x9 dx9 tk9 h9 k9 F9 N9 lt9 l1 q9; (try dsimp only at q9); (k_lt l1); (try dsimp only); (try k_fold))))
local macro_rules | `(tactic| walk_at "AH") => `(tactic| (exact ⟨News.get (by k_asm) (by k_mem), News.get (by k_asm) (by k_mem), Nat.le_of_ble_eq_true rfl, by with_reducible assumption, by with_reducible assumption⟩))
local macro_rules | `(tactic| walk_at "call ref") => `(tactic| (k_here; (with_reducible refine gR 254 ?_); k_dflt ((first | refine Sp.useUA (add2_sp _ _ _ _ _ [_] _ _ _ _ _) (by walk_at "UA") (by walk_at "AH") ?_ | refine Sp.useUA (add2_sp _ _ _ _ _ [_, _] _ _ _ _ _) (by walk_at "UA") (by walk_at "AH") ?_ | refine Sp.useUA (add2_sp _ _ _ _ _ [_, _, _] _ _ _ _ _) (by walk_at "UA") (by walk_at "AH") ?_); intro r9 h9 tk9 F9 q9 p9 n9; (try dsimp only at q9); obtain ⟨e9, a9, t9, f9, p9', p9''⟩ := p9; subst e9; (have N8 := n9 _ _ p9' (by k_upd)); clear n9; (have N9 := News.addNew (by k_asm) N8 f9 p9''); (have ne9 := allNe_of (by k_asm) f9); clear N8; (try dsimp only [AllNe] at ne9); (repeat (have h9 := And.left ne9; replace ne9 := And.right ne9)); (try dsimp only); (try k_fold))))
local macro_rules | `(tactic| walk_at "call builtin:str.lower") => `(tactic| (k_here; (with_reducible show wpAny _ _ (call _ [Value.str (nm _) _]) _ _ _); refine SCL.lower (by omega) ?_; intro _))
local macro_rules | `(tactic| walk_at "call builtin:str.upper") => `(tactic| (k_here; (with_reducible show wpAny _ _ (call _ [Value.str (nm _) _]) _ _ _); refine SCL.upper (by omega) ?_; intro _))
local macro_rules | `(tactic| walk_at "call ref") => `(tactic| (k_here; (with_reducible refine gR 111 ?_); k_dflt (refine Sp.useA (quoteM_sp _ _ _ _ _) (by walk_at "AA") ⟨by with_reducible assumption, by with_reducible assumption, Nat.le_of_ble_eq_true rfl, Nat.le_of_ble_eq_true rfl⟩ ?_; walk_at "PX")))
noncomputable def TokQ {α : Type} (n : Nat) (Q : α → Shared → Prop) (a : α) (s : Shared) : Prop := n ≤ s.toks → Q a s
theorem tokQ_in {prog : Program} {w : World} {A : Around} {α : Type} {t : Sem α} {Q : α → Shared → Prop} {E : Value → Shared → Prop} {s : Shared} (h : wpAny (model prog w) A t (TokQ s.toks Q) E s) : wpAny (model prog w) A t Q E s :=
  wpAny_with_toks (Nat.le_refl _) (wpAny_mono h (fun _ _ x => x) (fun _ _ x _ => x))
local macro_rules | `(tactic| walk_at "exec For Tuple Call cons nil") => `(tactic| (k_here; (fail_if_success (with_reducible show wpAny _ _ _ (TokQ _ _) _ _)); refine tokQ_in ?_))
local macro_rules | `(tactic| walk_at "call builtin:str.split") => `(tactic| (k_here; (with_reducible show wpAny _ _ (call (Value.builtin "str.split") [Value.str (mail _ _ _) _, Value.str _ _]) _ _ _); (refine KSpl.split1 (by k_asm) (by k_asm) (by decide) ?_ (mailM_len (by with_reducible assumption) (by with_reducible assumption) (Nat.le_of_ble_eq_true rfl) (by omega))); intro D' l' h' k' e' a' F' N' l1; (try k_lt l1); rw [mailM_split _ _ _ _ _ _ (by with_reducible assumption)] at e'; kspl_open e'; (simp only [strValues, List.map_cons, List.map_nil] at N' a')))
local macro_rules | `(tactic| walk_at "call builtin:str.partition") => `(tactic| (k_here; (with_reducible show wpAny _ _ (call (Value.builtin "str.partition") [Value.str (linS _ _) _, Value.str _ _]) _ _ _); (refine KXpa.partition (by k_asm) (by k_asm) (by decide) (mailM_part _ _ (by with_reducible assumption)) rfl rfl (mailM_llen _ _ (by with_reducible assumption) (by omega)) ?_); intro D' _ _ _ _ _ F' N' l1; (try k_lt l1)))


noncomputable def LoopP (g : Heap) (L : Addr) (s : Shared) (news : List (Addr × Obj)) (x : Str) (f : Flow) (s' : Shared) : Prop :=
  f = .next ∧ ∃ h tk m t, s' = { s with heap := h, toks := tk } ∧ Fr g L h m ∧ News g L h news ∧ m (Str.ofString "sent") = some (.str x t)
theorem loop_cut {prog : Program} {w : World} {A : Around} {E : Value → Shared → Prop} {s : Shared} {h₀ : Heap} {L : Addr} {m : Str → Option Value} {news : List (Addr × Obj)} {t : Sem Flow} {Q : Flow → Shared → Prop} (_ : Fr h₀ L s.heap m) (_ : News h₀ L s.heap news) (x : Str)
    (lo : wpAny (model prog w) A t (LoopP h₀ L s news x) E s) (re : ∀ f s', LoopP h₀ L s news x f s' → Q f s') : wpAny (model prog w) A t Q E s := wpAny_mono lo re fun _ _ e => e
noncomputable def StopM (P : Prop) : Prop := P
theorem stopM {P : Prop} (h : StopM P) : P := h
local macro_rules | `(tactic| walk_at "exec For Name Call cons nil") => `(tactic| (k_here; (fail_if_success (with_reducible show wpAny _ _ _ (LoopP _ _ _ _ _) _ _)); refine stopM ?_))


theorem four_toks {x1 x2 x3 x4 : Str} {ts : List Tok} (h : [x1, x2, x3, x4].length = ts.length) : ∃ t1 t2 t3 t4, ts = [t1, t2, t3, t4] := by
  match ts, h with
  | [t1, t2, t3, t4], _ => exact ⟨t1, t2, t3, t4, rfl⟩
theorem mailed_sp (w : World) (ls : Addr) (tkF : Nat → Tok) (a b c n : Nat) (en : Str) (te tt : Tok) (turns : Int) :
  Sp 8 w 288 ⟨[.ref ls, .str en te, .int turns tt], []⟩ [(ls, W.listOf #[.str (nm a) (tkF a), .str (nm b) (tkF b), .str (nm c) (tkF c)] n)]
    (fun h t₀ => (a < 27 ∧ b < 27 ∧ c < 27) ∧ (1 ≤ turns ∧ turns ≤ 3) ∧ (@Ne Nat te 0 ∧ @LT.lt Nat _ te t₀) ∧ EndOk en)
    (fun h _ r h' _ => ∃ D t1 t2 t3 t4 n', r = .ref D ∧ h.get? D = none ∧ h'.get? D = some (W.listOf #[.str (rowS turns.toNat (Str.ofString ".w")) t1, .str (rowS turns.toNat (Txt.lower (nm a))) t2, .str (rowS turns.toNat (Txt.upper (nm b))) t3, .str (rowS turns.toNat (Txt.lower (nm c))) t4] n') ∧ h'.get? ls = some (W.listOf #[.str (nm a) (tkF a), .str (nm b) (tkF b), .str (nm c) (tkF c)] n)) := by
  intro p loose mean mg mb dp un fr gd h₀ s R X T hk hN hdp hun hpre ret
  obtain ⟨⟨ha, hb, hc⟩, ⟨ht1, ht3⟩, ⟨hte0, htel⟩, hen⟩ := hpre
  (k_dflt (refine' enterC _ ?a1 ?a2 ?a3 ?a4 ?k6 ?k7 ?k8 ?k9 ?kB ?c2 ?c3 ?c4 ?c5 ?cR ?_; (case a1 => assumption); (case a2 => assumption); (case a3 => assumption); (case a4 => assumption); (case k6 => k_is); (case k7 => k_is); (case k8 => exact room0 (by assumption)); (case k9 => first | exact BindsTo.of_eq rfl | (refine' bindK ?kx ?ky ?ke; (case kx => assumption); (case ky => assumption); (case ke => intro _; exact rfl))); (case kB => exact locs rfl); (case c2 => exact rfl); (case c3 => exact rfl); (case c4 => exact rfl); (case c5 => decide); (case cR => assumption); intro _ _ _ _ _ _ _ _ _ _ _; (try dsimp only); (try k_fold)))
  rename Kp _ _ _ => kp
  obtain ⟨⟨pa1, pa2⟩, ⟨pa3, pa4⟩, pa5, pa6, pa7⟩ := plain_nm a ha
  obtain ⟨⟨pb1, pb2⟩, ⟨pb3, pb4⟩, pb5, pb6, pb7⟩ := plain_nm b hb
  obtain ⟨⟨pc1, pc2⟩, ⟨pc3, pc4⟩, pc5, pc6, pc7⟩ := plain_nm c hc
  have ka := And.intro pa1 pa2
  have kb := And.intro pb3 pb4
  have kc := And.intro pc1 pc2
  have kx := plain_x
  have hw3 : (Str.ofString ".w").length ≤ 100 := by decide +kernel
  have hx3 : (Str.ofString "x").length ≤ 100 := by decide +kernel
  have ha3 : (Txt.lower (nm a)).length ≤ 100 := by omega
  have hb3 : (Txt.upper (nm b)).length ≤ 100 := by omega
  have hc3 : (Txt.lower (nm c)).length ≤ 100 := by omega
  k_steps
  unfold TokQ
  intro q8
  dsimp only at q8
  k_steps
  k_here
  k_dflt (refine' Sp.use (str_sp _ _ [(_, (Str.ofString ".w", _), (Str.ofString "x", _)), (_, (Txt.lower (nm a), _), (Str.ofString "x", _)), (_, (Txt.upper (nm b), _), (Str.ofString "x", _)), (_, (Txt.lower (nm c), _), (Str.ofString "x", _))]) ?k1 ?k2 ?k3 ?k4 ?k5 ?k6 ?k7 ?_; (case k1 => k_asm); (case k2 => k_asm); (case k3 => k_asm); (case k4 => k_asm))
  (case k5 => ktr_room)
  (case k6 => ktr_units)
  (case k7 => refine' ⟨⟨_, _, _, News.get (by k_asm) (by k_mem), News.get (by k_asm) (by k_mem), News.isList (by k_asm) (by k_mem), ?x⟩, Nat.le_of_ble_eq_true rfl, ?y⟩; (case x => exact List.forall_mem_cons.mpr ⟨News.isTup (by k_asm) (by k_mem), List.forall_mem_cons.mpr ⟨News.isTup (by k_asm) (by k_mem), List.forall_mem_cons.mpr ⟨News.isTup (by k_asm) (by k_mem), List.forall_mem_cons.mpr ⟨News.isTup (by k_asm) (by k_mem), List.forall_mem_nil _⟩⟩⟩⟩); (case y => exact List.forall_mem_cons.mpr ⟨⟨hw3, hx3⟩, List.forall_mem_cons.mpr ⟨⟨ha3, hx3⟩, List.forall_mem_cons.mpr ⟨⟨hb3, hx3⟩, List.forall_mem_cons.mpr ⟨⟨hc3, hx3⟩, List.forall_mem_nil _⟩⟩⟩⟩))
  intro r9 h9 tk9 F9 N9 K9 q9 p9
  dsimp only at q9
  obtain ⟨t9, rfl⟩ := p9
  dsimp only [StrBack]
  k_steps
  k_here
  have hen2 : en.cps.toList = [10] ∨ en.cps.toList = [13] ∨ en.cps.toList = [13, 10] := hen
  have l1 := line_w
  have l2 := (line_nm a ha).1
  have l3 := (line_nm b hb).2
  have l4 := (line_nm c hc).1
  have lall : ∀ y ∈ [Str.ofString ".w", Txt.lower (nm a), Txt.upper (nm b), Txt.lower (nm c)], LineOk y := List.forall_mem_cons.mpr ⟨l1, List.forall_mem_cons.mpr ⟨l2, List.forall_mem_cons.mpr ⟨l3, List.forall_mem_cons.mpr ⟨l4, List.forall_mem_nil _⟩⟩⟩⟩
  have hel : en.length ≤ 2 := by
    have e : en.length = en.cps.toList.length := by simp [Str.length]
    rw [e]; rcases hen with h | h | h <;> rw [h] <;> decide
  k_dflt (refine' SC.replaceA ?r1 ?r2 ?r3 ?r4 ?_ ?r5; (case r5 => refine' none_booked ?x ?y (Fr.keep ?z); (case x => k_asm); (case y => k_asm); (case z => k_asm)))
  (case r1 => (show @Ne Nat _ _); omega)
  (case r2 => exact hte0)
  (case r3 => (show @Ne Nat _ _); omega)
  (case r4 => exact head_fits _ _ _ _ _ _ _ _ _ _ _ _ _ _ _ _ _ lall hel)
  intro t8 k8
  rw [mail_head _ _ _ _ _ _ _ _ _ _ _ _ _ _ _ _ _ lall]
  have h123 : turns = 1 ∨ turns = 2 ∨ turns = 3 := by omega
  k_steps
  unfold StopM
  refine loop_cut (by k_asm) (by k_asm) (mail turns.toNat en.cps.toList [Str.ofString ".w", Txt.lower (nm a), Txt.upper (nm b), Txt.lower (nm c)]) ?lo ?re
  (case lo =>
    rcases h123 with rfl | rfl | rfl
    all_goals (k_steps; rename Fr _ _ _ _ => FF'; rename News _ _ _ _ => NN'; exact ⟨rfl, _, _, _, _, rfl, FF', NN', rfl⟩))
  (case re =>
    rintro f s' ⟨rfl, h8, tk8, m8, t8, rfl, F8, N8, hsent⟩
    obtain ⟨kk, hkk⟩ : ∃ kk, turns.toNat = kk + 1 := ⟨turns.toNat - 1, by omega⟩
    have hk4 : kk + 1 ≤ 4 := by omega
    rw [hkk] at hsent
    dsimp only
    k_steps
    refine ⟨_, _, _, _, _, rfl, rfl, by k_asm, by k_asm, ?_, fun h' F' N' => News.isList N' (by k_mem), ?_⟩
    · exact Nat.le_of_ble_eq_true rfl
    refine CRest.ind (J := fun vs acc T => ∃ rs us ds ts', vs = strsV (rs.map (linS (kk + 1))) us ∧ rs.length = us.length ∧ acc = strsV (ds.map (rowS (kk + 1))) ts' ∧ ds.length = ts'.length ∧ ds ++ rs = [Str.ofString ".w", Txt.lower (nm a), Txt.upper (nm b), Txt.lower (nm c)]) ?_ ?_ _ _ _ ⟨[Str.ofString ".w", Txt.lower (nm a), Txt.upper (nm b), Txt.lower (nm c)], [_, _, _, _], [], [], rfl, rfl, rfl, rfl, rfl⟩
    · rintro v r acc T ⟨rs, us, ds, ts', hv, hl, rfl, hdt, hes⟩ I' oI C oC D m₂ h₂ tk2 hTk hC hx2 F N off2
      cases rs with
      | nil => simp [strsV] at hv
      | cons x rs => cases us with
        | nil => simp at hl
        | cons u us =>
          obtain ⟨rfl, rfl⟩ := List.cons.inj hv
          have hlx : LineOk x := lall x (by rw [← hes]; simp)
          k_steps
          rename News _ _ _ _ => NN
          refine CEnd.intro (by k_dflt assumption) (fun p hp => NN p (.tail _ hp)) fun _ => ⟨rs, us, ds ++ [x], ts' ++ [_], rfl, by simpa using hl, by rw [List.map_append]; exact (strsV_snoc _ _ _ _ (by simpa using hdt)).symm, by simp [hdt], by rw [← hes]; simp⟩
    · rintro acc T ⟨rs, us, ds, ts', hv, hl, rfl, hdt, hes⟩ D h₂ tk2 hTk F N off2
      k_steps
      have hrs0 : rs = [] := by
        cases rs with
        | nil => rfl
        | cons x rs => cases us with
          | nil => simp at hl
          | cons u us => simp [strsV] at hv
      subst hrs0
      rw [List.append_nil] at hes
      subst hes
      obtain ⟨t1, t2, t3, t4, rfl⟩ := four_toks hdt
      have hDl : @Ne Nat ls D := off2 (ls, W.listOf #[.str (nm a) (tkF a), .str (nm b) (tkF b), .str (nm c) (tkF c)] n) (by k_mem)
      refine EndP.ret (by k_asm) fun _ => ⟨D, t1, t2, t3, t4, _, rfl, ?_, hkk ▸ (N _ (.head _)).1, (N (ls, W.listOf #[.str (nm a) (tkF a), .str (nm b) (tkF b), .str (nm c) (tkF c)] n) (by k_mem)).1⟩
      cases e : s.heap.get? D with
      | none => rfl
      | some o => have := kp D o (by simpa using fun h => hDl h.symm) e; rw [(N (D, _) (.head _)).2.2] at this; cases this)

end
section
theorem srtN_uniq {ns : List Int} {is : List Nat} (p : ns.Perm (is.map fun (i : Nat) => (i : Int))) (o : ns.Pairwise (· ≤ ·)) : ns = (srtN is).map fun (i : Nat) => (i : Int) := by
  refine List.Perm.eq_of_pairwise (le := (· ≤ ·)) (fun x y _ _ h1 h2 => Int.le_antisymm h1 h2) o ?_ (p.trans ((srtN_perm is).map _).symm)
  exact List.pairwise_map.mpr ((srtN_sorted is).imp fun h => by omega)
noncomputable def bumpI : List Nat → Nat → Nat
  | [], t => t
  | n :: ns, t => bumpI ns (if n ≤ t then t + 1 else t)
noncomputable def tellI (a b c : Nat) : Nat := 4 * (2 * rankI a [a, b, c] 1 + if rankI c [a, b, c] 1 < rankI b [a, b, c] 1 then 1 else 0) + ((-((a + b + c : Nat) : Int)) % 4).toNat
noncomputable def toldI (a b c : Nat) : Nat := bumpI (srtN [a, b, c]) (tellI a b c)
theorem rankI_le (a b c x : Nat) : rankI x [a, b, c] 1 = (if a < x then 1 else 0) + (if b < x then 1 else 0) + (if c < x then 1 else 0) := by
  unfold rankI
  have h : ∀ j : Nat, (if x < j then (-1 : Int) else if j < x then 1 else 0) = if j < x then 1 else if x < j then -1 else 0 := fun j => by
    split
    · rw [if_neg (by omega)]
    · rfl
  simp only [h, List.map_cons, List.map_nil, List.count_cons, List.count_nil]
  have g : ∀ j : Nat, (if ((if j < x then (1 : Int) else if x < j then -1 else 0) == 1) = true then 1 else 0) = if j < x then 1 else 0 := fun j => by
    by_cases h1 : j < x
    · simp [h1]
    · by_cases h2 : x < j <;> simp [h1, h2]
  rw [g, g, g]; omega
theorem sum_six {x y z a b c o : Nat} (ho : (o = 0 ∧ a = x ∧ b = y ∧ c = z) ∨ (o = 1 ∧ a = x ∧ b = z ∧ c = y) ∨ (o = 2 ∧ a = y ∧ b = x ∧ c = z) ∨ (o = 3 ∧ a = y ∧ b = z ∧ c = x) ∨ (o = 4 ∧ a = z ∧ b = x ∧ c = y) ∨ (o = 5 ∧ a = z ∧ b = y ∧ c = x)) : a + b + c = x + y + z := by
  rcases ho with ⟨_, rfl, rfl, rfl⟩ | ⟨_, rfl, rfl, rfl⟩ | ⟨_, rfl, rfl, rfl⟩ | ⟨_, rfl, rfl, rfl⟩ | ⟨_, rfl, rfl, rfl⟩ | ⟨_, rfl, rfl, rfl⟩
  · rfl
  · exact Nat.add_right_comm _ _ _
  · exact congrArg (· + c) (Nat.add_comm _ _)
  · exact (Nat.add_comm _ _).trans (Nat.add_assoc _ _ _).symm
  · exact (Nat.add_assoc _ _ _).trans (Nat.add_comm _ _)
  · exact (Nat.add_comm _ _).trans ((congrArg (c + ·) (Nat.add_comm _ _)).trans (Nat.add_assoc _ _ _).symm)
theorem told_six {x y z a b c : Nat} (h1 : x < y) (h2 : y < z) {u : Nat} {o : Nat}
    (ho : (o = 0 ∧ a = x ∧ b = y ∧ c = z) ∨ (o = 1 ∧ a = x ∧ b = z ∧ c = y) ∨ (o = 2 ∧ a = y ∧ b = x ∧ c = z) ∨ (o = 3 ∧ a = y ∧ b = z ∧ c = x) ∨ (o = 4 ∧ a = z ∧ b = x ∧ c = y) ∨ (o = 5 ∧ a = z ∧ b = y ∧ c = x))
    (hu : u = 4 * o + ((-((x + y + z : Nat) : Int)) % 4).toNat) : toldI a b c = bumpI [x, y, z] u := by
  have n1 : ¬ y < x := Nat.not_lt.mpr (Nat.le_of_lt h1)
  have n2 : ¬ z < y := Nat.not_lt.mpr (Nat.le_of_lt h2)
  have n4 : x < z := Nat.lt_trans h1 h2
  have n3 : ¬ z < x := Nat.not_lt.mpr (Nat.le_of_lt n4)
  have m1 : x ≤ y := Nat.le_of_lt h1
  have m2 : y ≤ z := Nat.le_of_lt h2
  have m3 : x ≤ z := Nat.le_of_lt n4
  have k1 : ¬ y ≤ x := Nat.not_le.mpr h1
  have k2 : ¬ z ≤ y := Nat.not_le.mpr h2
  have k3 : ¬ z ≤ x := Nat.not_le.mpr n4
  unfold toldI tellI
  rw [sum_six ho]
  generalize ((-((x + y + z : Nat) : Int)) % 4).toNat = E at hu ⊢
  subst hu
  rcases ho with ⟨rfl, rfl, rfl, rfl⟩ | ⟨rfl, rfl, rfl, rfl⟩ | ⟨rfl, rfl, rfl, rfl⟩ | ⟨rfl, rfl, rfl, rfl⟩ | ⟨rfl, rfl, rfl, rfl⟩ | ⟨rfl, rfl, rfl, rfl⟩ <;>
  · simp only [rankI_le, srtN, insN, h1, h2, n1, n2, n3, n4, m1, m2, m3, k1, k2, k3, Nat.lt_irrefl, if_true, if_false]
    rfl
theorem six_of {o : Nat} (h : o < 6) : o = 0 ∨ o = 1 ∨ o = 2 ∨ o = 3 ∨ o = 4 ∨ o = 5 := (by decide : ∀ o, o < 6 → o = 0 ∨ o = 1 ∨ o = 2 ∨ o = 3 ∨ o = 4 ∨ o = 5) o h
theorem four_of {o : Nat} (h : o < 4) : o = 0 ∨ o = 1 ∨ o = 2 ∨ o = 3 := (by decide : ∀ o, o < 4 → o = 0 ∨ o = 1 ∨ o = 2 ∨ o = 3) o h
theorem shown_at (is : List Nat) {p q r t : Nat} (e : placed is is is = [p, q, r, t]) (hs : p + q + r + t = is.sum) :
    shownI is = (match is.sum % 4 with
      | 0 => ([q, r, t].getD ((p - 0) / 4 / 2) 0 :: (if (p - 0) / 4 % 2 = 1 then ([q, r, t].eraseIdx ((p - 0) / 4 / 2)).reverse else [q, r, t].eraseIdx ((p - 0) / 4 / 2)), p)
      | 1 => ([p, r, t].getD ((q - 1) / 4 / 2) 0 :: (if (q - 1) / 4 % 2 = 1 then ([p, r, t].eraseIdx ((q - 1) / 4 / 2)).reverse else [p, r, t].eraseIdx ((q - 1) / 4 / 2)), q)
      | 2 => ([p, q, t].getD ((r - 2) / 4 / 2) 0 :: (if (r - 2) / 4 % 2 = 1 then ([p, q, t].eraseIdx ((r - 2) / 4 / 2)).reverse else [p, q, t].eraseIdx ((r - 2) / 4 / 2)), r)
      | _ => ([p, q, r].getD ((t - 3) / 4 / 2) 0 :: (if (t - 3) / 4 % 2 = 1 then ([p, q, r].eraseIdx ((t - 3) / 4 / 2)).reverse else [p, q, r].eraseIdx ((t - 3) / 4 / 2)), t)) := by
  unfold shownI
  rw [e]
  have h := four_of (Nat.mod_lt is.sum (by decide : 0 < 4))
  rcases h with h | h | h | h <;> rw [h] <;> rfl
theorem six_rows (x y z o : Nat) (ho : o < 6) : ∃ a b c, ([x, y, z].getD (o / 2) 0 :: (if o % 2 = 1 then ([x, y, z].eraseIdx (o / 2)).reverse else [x, y, z].eraseIdx (o / 2))) = [a, b, c] ∧
    ((o = 0 ∧ a = x ∧ b = y ∧ c = z) ∨ (o = 1 ∧ a = x ∧ b = z ∧ c = y) ∨ (o = 2 ∧ a = y ∧ b = x ∧ c = z) ∨ (o = 3 ∧ a = y ∧ b = z ∧ c = x) ∨ (o = 4 ∧ a = z ∧ b = x ∧ c = y) ∨ (o = 5 ∧ a = z ∧ b = y ∧ c = x)) := by
  have h := six_of ho
  rcases h with rfl | rfl | rfl | rfl | rfl | rfl
  · exact ⟨_, _, _, rfl, .inl ⟨rfl, rfl, rfl, rfl⟩⟩
  · exact ⟨_, _, _, rfl, .inr (.inl ⟨rfl, rfl, rfl, rfl⟩)⟩
  · exact ⟨_, _, _, rfl, .inr (.inr (.inl ⟨rfl, rfl, rfl, rfl⟩))⟩
  · exact ⟨_, _, _, rfl, .inr (.inr (.inr (.inl ⟨rfl, rfl, rfl, rfl⟩)))⟩
  · exact ⟨_, _, _, rfl, .inr (.inr (.inr (.inr (.inl ⟨rfl, rfl, rfl, rfl⟩))))⟩
  · exact ⟨_, _, _, rfl, .inr (.inr (.inr (.inr (.inr ⟨rfl, rfl, rfl, rfl⟩))))⟩
theorem one_row {x y z u h : Nat} (h1 : x < y) (h2 : y < z) (hz : z < 27) (hu : u < 24) (hm : u % 4 = ((-((x + y + z : Nat) : Int)) % 4).toNat) (hb : bumpI [x, y, z] u = h) :
    ∃ a b c, ([x, y, z].getD (u / 4 / 2) 0 :: (if u / 4 % 2 = 1 then ([x, y, z].eraseIdx (u / 4 / 2)).reverse else [x, y, z].eraseIdx (u / 4 / 2))) = [a, b, c] ∧ (a < 27 ∧ b < 27 ∧ c < 27) ∧ toldI a b c = h := by
  obtain ⟨a, b, c, e, ho⟩ := six_rows x y z (u / 4) (Nat.div_lt_of_lt_mul hu)
  have hy : y < 27 := Nat.lt_trans h2 hz
  have hx : x < 27 := Nat.lt_trans h1 hy
  have hr : a < 27 ∧ b < 27 ∧ c < 27 := by
    rcases ho with ⟨_, rfl, rfl, rfl⟩ | ⟨_, rfl, rfl, rfl⟩ | ⟨_, rfl, rfl, rfl⟩ | ⟨_, rfl, rfl, rfl⟩ | ⟨_, rfl, rfl, rfl⟩ | ⟨_, rfl, rfl, rfl⟩
    · exact ⟨hx, hy, hz⟩
    · exact ⟨hx, hz, hy⟩
    · exact ⟨hy, hx, hz⟩
    · exact ⟨hy, hz, hx⟩
    · exact ⟨hz, hx, hy⟩
    · exact ⟨hz, hy, hx⟩
  refine ⟨a, b, c, e, hr, ?_⟩
  rw [told_six (u := u) h1 h2 ho (by rw [← hm]; exact (Nat.div_add_mod u 4).symm)]; exact hb
theorem bump_0 {x y z u : Nat} (a : u < x) (b : x < y) (c : y < z) : bumpI [x, y, z] u = u := by
  have n1 : ¬ x ≤ u := Nat.not_le.mpr a
  have n2 : ¬ y ≤ u := Nat.not_le.mpr (Nat.lt_trans a b)
  have n3 : ¬ z ≤ u := Nat.not_le.mpr (Nat.lt_trans a (Nat.lt_trans b c))
  simp only [bumpI, n1, n2, n3, if_false]
theorem bump_1 {x y z u : Nat} (a : x ≤ u) (b : u + 1 < y) (c : y < z) : bumpI [x, y, z] u = u + 1 := by
  have n2 : ¬ y ≤ u + 1 := Nat.not_le.mpr b
  have n3 : ¬ z ≤ u + 1 := Nat.not_le.mpr (Nat.lt_trans b c)
  simp only [bumpI, a, n2, n3, if_true, if_false]
theorem bump_2 {x y z u : Nat} (h : x ≤ u) (a : y ≤ u + 1) (b : u + 2 < z) : bumpI [x, y, z] u = u + 2 := by
  have n3 : ¬ z ≤ u + 1 + 1 := Nat.not_le.mpr b
  simp only [bumpI, h, a, n3, if_true, if_false]
theorem bump_3 {x y z u : Nat} (h : x ≤ u) (a : y ≤ u + 1) (b : z ≤ u + 2) : bumpI [x, y, z] u = u + 3 := by
  have n3 : z ≤ u + 1 + 1 := b
  simp only [bumpI, h, a, n3, if_true]
theorem u_mod {s S d k : Nat} (h : s % 4 = k) (hs : d + S = s) (hk : k ≤ d) : (d - k) % 4 = ((-(S : Int)) % 4).toNat := by omega
theorem four_sum (p q r t : Nat) : p + q + r + t = [p, q, r, t].sum := by simp only [List.sum_cons, List.sum_nil, Nat.add_zero, Nat.add_assoc]
theorem told_shown {is : List Nat} (h4 : is.length = 4) (hnd : is.Nodup) (h27 : ∀ i ∈ is, i < 27) :
    ∃ a b c, (shownI is).1 = [a, b, c] ∧ (a < 27 ∧ b < 27 ∧ c < 27) ∧ toldI a b c = (shownI is).2 ∧ (shownI is).2 < 27 := by
  obtain ⟨_, _, _, _, hs, p, q, r, t, e, l1, l2, l3, l4⟩ := srt_facts h4 hnd h27
  rw [e] at hs
  have hs : p + q + r + t = is.sum := hs ▸ four_sum p q r t
  have key := shown_at is e hs
  have h := four_of (Nat.mod_lt is.sum (by decide : 0 < 4))
  have b3 : r < 26 := Nat.lt_of_lt_of_le l3 (Nat.le_of_lt_succ l4)
  have b2 : q < 25 := Nat.lt_of_lt_of_le l2 (Nat.le_of_lt_succ b3)
  have b1 : p < 24 := Nat.lt_of_lt_of_le l1 (Nat.le_of_lt_succ b2)
  have c1 : 1 ≤ q := Nat.lt_of_le_of_lt (Nat.zero_le p) l1
  have c2 : 2 ≤ r := Nat.lt_of_le_of_lt c1 l2
  have c3 : 3 ≤ t := Nat.lt_of_le_of_lt c2 l3
  rcases h with h | h | h | h <;> rw [h] at key <;> rw [key]
  · obtain ⟨a, b, c, e1, e2, e3⟩ := one_row (x := q) (y := r) (z := t) (u := p - 0) (h := p) l2 l3 l4 b1 (u_mod h (by rw [← hs]; simp only [Nat.add_assoc]) (Nat.zero_le _)) (bump_0 l1 l2 l3)
    exact ⟨a, b, c, e1, e2, e3, (Nat.lt_trans b1 (by decide) : p < 27)⟩
  · obtain ⟨q, rfl⟩ := Nat.exists_eq_add_of_le' c1
    obtain ⟨a, b, c, e1, e2, e3⟩ := one_row (x := p) (y := r) (z := t) (u := q + 1 - 1) (h := q + 1) (Nat.lt_trans l1 l2) l3 l4 (Nat.lt_of_succ_lt_succ b2) (u_mod h (by rw [← hs]; clear hs h key; omega) c1) (bump_1 (Nat.le_of_lt_succ l1) l2 l3)
    exact ⟨a, b, c, e1, e2, e3, (Nat.lt_trans b2 (by decide) : q + 1 < 27)⟩
  · obtain ⟨r, rfl⟩ := Nat.exists_eq_add_of_le' c2
    obtain ⟨a, b, c, e1, e2, e3⟩ := one_row (x := p) (y := q) (z := t) (u := r + 2 - 2) (h := r + 2) l1 (Nat.lt_trans l2 l3) l4 (Nat.lt_of_succ_lt_succ (Nat.lt_of_succ_lt_succ b3)) (u_mod h (by rw [← hs]; clear hs h key; omega) c2) (bump_2 (Nat.le_of_lt_succ (Nat.lt_of_lt_of_le l1 (Nat.le_of_lt_succ l2))) (Nat.le_of_lt_succ l2) l3)
    exact ⟨a, b, c, e1, e2, e3, (Nat.lt_trans b3 (by decide) : r + 2 < 27)⟩
  · obtain ⟨t, rfl⟩ := Nat.exists_eq_add_of_le' c3
    obtain ⟨a, b, c, e1, e2, e3⟩ := one_row (x := p) (y := q) (z := r) (u := t + 3 - 3) (h := t + 3) l1 l2 (Nat.lt_trans l3 l4) (Nat.lt_of_succ_lt_succ (Nat.lt_of_succ_lt_succ (Nat.lt_of_succ_lt_succ l4))) (u_mod h (by rw [← hs]; clear hs h key; omega) c3) (bump_3 (Nat.le_of_lt_succ (Nat.lt_of_lt_of_le l1 (Nat.le_of_lt_succ (Nat.lt_of_lt_of_le l2 (Nat.le_of_lt_succ l3))))) (Nat.le_of_lt_succ (Nat.lt_of_lt_of_le l2 (Nat.le_of_lt_succ l3))) (Nat.le_of_lt_succ l3))
    exact ⟨a, b, c, e1, e2, e3, l4⟩
theorem row_six {x y z a b c o : Nat} (ho : (o = 0 ∧ a = x ∧ b = y ∧ c = z) ∨ (o = 1 ∧ a = x ∧ b = z ∧ c = y) ∨ (o = 2 ∧ a = y ∧ b = x ∧ c = z) ∨ (o = 3 ∧ a = y ∧ b = z ∧ c = x) ∨ (o = 4 ∧ a = z ∧ b = x ∧ c = y) ∨ (o = 5 ∧ a = z ∧ b = y ∧ c = x)) :
    ([x, y, z].getD (o / 2) 0 :: (if o % 2 = 1 then ([x, y, z].eraseIdx (o / 2)).reverse else [x, y, z].eraseIdx (o / 2))) = [a, b, c] := by
  rcases ho with ⟨rfl, rfl, rfl, rfl⟩ | ⟨rfl, rfl, rfl, rfl⟩ | ⟨rfl, rfl, rfl, rfl⟩ | ⟨rfl, rfl, rfl, rfl⟩ | ⟨rfl, rfl, rfl, rfl⟩ | ⟨rfl, rfl, rfl, rfl⟩ <;> rfl
theorem three_srt {a b c : Nat} (h1 : a ≠ b) (h2 : a ≠ c) (h3 : b ≠ c) : ∃ x y z o, x < y ∧ y < z ∧ x + y + z = a + b + c ∧ o < 6 ∧
    ((o = 0 ∧ a = x ∧ b = y ∧ c = z) ∨ (o = 1 ∧ a = x ∧ b = z ∧ c = y) ∨ (o = 2 ∧ a = y ∧ b = x ∧ c = z) ∨ (o = 3 ∧ a = y ∧ b = z ∧ c = x) ∨ (o = 4 ∧ a = z ∧ b = x ∧ c = y) ∨ (o = 5 ∧ a = z ∧ b = y ∧ c = x)) := by
  rcases Nat.lt_or_gt_of_ne h1 with i1 | i1
  · rcases Nat.lt_or_gt_of_ne h3 with i3 | i3
    · exact ⟨a, b, c, 0, i1, i3, rfl, by decide, .inl ⟨rfl, rfl, rfl, rfl⟩⟩
    · rcases Nat.lt_or_gt_of_ne h2 with i2 | i2
      · exact ⟨a, c, b, 1, i2, i3, Nat.add_right_comm a c b, by decide, .inr (.inl ⟨rfl, rfl, rfl, rfl⟩)⟩
      · exact ⟨c, a, b, 3, i2, i1, (Nat.add_assoc c a b).trans (Nat.add_comm c (a + b)), by decide, .inr (.inr (.inr (.inl ⟨rfl, rfl, rfl, rfl⟩)))⟩
  · rcases Nat.lt_or_gt_of_ne h3 with i3 | i3
    · rcases Nat.lt_or_gt_of_ne h2 with i2 | i2
      · exact ⟨b, a, c, 2, i1, i2, congrArg (· + c) (Nat.add_comm b a), by decide, .inr (.inr (.inl ⟨rfl, rfl, rfl, rfl⟩))⟩
      · exact ⟨b, c, a, 4, i3, i2, by clear i1 i2 i3 h1 h2 h3; omega, by decide, .inr (.inr (.inr (.inr (.inl ⟨rfl, rfl, rfl, rfl⟩))))⟩
    · exact ⟨c, b, a, 5, i3, i1, by clear i1 i3 h1 h2 h3; omega, by decide, .inr (.inr (.inr (.inr (.inr ⟨rfl, rfl, rfl, rfl⟩))))⟩
theorem row_mem {x y z a b c o : Nat} (ho : (o = 0 ∧ a = x ∧ b = y ∧ c = z) ∨ (o = 1 ∧ a = x ∧ b = z ∧ c = y) ∨ (o = 2 ∧ a = y ∧ b = x ∧ c = z) ∨ (o = 3 ∧ a = y ∧ b = z ∧ c = x) ∨ (o = 4 ∧ a = z ∧ b = x ∧ c = y) ∨ (o = 5 ∧ a = z ∧ b = y ∧ c = x)) (w : Nat) :
    (w = x ∨ w = y ∨ w = z) ↔ (w = a ∨ w = b ∨ w = c) := by
  rcases ho with ⟨_, rfl, rfl, rfl⟩ | ⟨_, rfl, rfl, rfl⟩ | ⟨_, rfl, rfl, rfl⟩ | ⟨_, rfl, rfl, rfl⟩ | ⟨_, rfl, rfl, rfl⟩ | ⟨_, rfl, rfl, rfl⟩
  · exact Iff.rfl
  · exact or_congr_right or_comm
  · exact or_left_comm
  · exact or_left_comm.trans (or_congr_right or_comm)
  · exact (or_congr_right or_comm).trans or_left_comm
  · exact (or_congr_right or_comm).trans (or_left_comm.trans (or_congr_right or_comm))
theorem feup1 {p q r t x : Nat} (k1 : p < q) (k2 : q < r) (k3 : r < t) (m : x = p ∨ x = q ∨ x = r ∨ x = t) : p ≤ x :=
  m.elim (fun e => Nat.le_of_eq e.symm) fun m => m.elim (fun e => e ▸ Nat.le_of_lt k1) fun m => m.elim (fun e => e ▸ Nat.le_of_lt (Nat.lt_trans k1 k2)) fun e => e ▸ Nat.le_of_lt (Nat.lt_trans (Nat.lt_trans k1 k2) k3)
theorem feup2 {p q r t x : Nat} (k2 : q < r) (k3 : r < t) (m : x = p ∨ x = q ∨ x = r ∨ x = t) (h : p < x) : q ≤ x :=
  m.elim (fun e => absurd (e ▸ h) (Nat.lt_irrefl _)) fun m => m.elim (fun e => Nat.le_of_eq e.symm) fun m => m.elim (fun e => e ▸ Nat.le_of_lt k2) fun e => e ▸ Nat.le_of_lt (Nat.lt_trans k2 k3)
theorem feup3 {p q r t x : Nat} (k1 : p < q) (k3 : r < t) (m : x = p ∨ x = q ∨ x = r ∨ x = t) (h : q < x) : r ≤ x :=
  m.elim (fun e => absurd (Nat.lt_trans k1 (e ▸ h)) (Nat.lt_irrefl _)) fun m => m.elim (fun e => absurd (e ▸ h) (Nat.lt_irrefl _)) fun m => m.elim (fun e => Nat.le_of_eq e.symm) fun e => e ▸ Nat.le_of_lt k3
theorem feup4 {p q r t x : Nat} (k1 : p < q) (k2 : q < r) (m : x = p ∨ x = q ∨ x = r ∨ x = t) (h : r < x) : x = t :=
  m.elim (fun e => absurd (Nat.lt_trans (Nat.lt_trans k1 k2) (e ▸ h)) (Nat.lt_irrefl _)) fun m => m.elim (fun e => absurd (Nat.lt_trans k2 (e ▸ h)) (Nat.lt_irrefl _)) fun m => m.elim (fun e => absurd (e ▸ h) (Nat.lt_irrefl _)) id
theorem fedn3 {p q r t x : Nat} (k1 : p < q) (k2 : q < r) (m : x = p ∨ x = q ∨ x = r ∨ x = t) (h : x < t) : x ≤ r :=
  m.elim (fun e => e ▸ Nat.le_of_lt (Nat.lt_trans k1 k2)) fun m => m.elim (fun e => e ▸ Nat.le_of_lt k2) fun m => m.elim (fun e => Nat.le_of_eq e) fun e => absurd (e ▸ h) (Nat.lt_irrefl _)
theorem fedn2 {p q r t x : Nat} (k1 : p < q) (k3 : r < t) (m : x = p ∨ x = q ∨ x = r ∨ x = t) (h : x < r) : x ≤ q :=
  m.elim (fun e => e ▸ Nat.le_of_lt k1) fun m => m.elim (fun e => Nat.le_of_eq e) fun m => m.elim (fun e => absurd (e ▸ h) (Nat.lt_irrefl _)) fun e => absurd (Nat.lt_trans k3 (e ▸ h)) (Nat.lt_irrefl _)
theorem fedn1 {p q r t x : Nat} (k2 : q < r) (k3 : r < t) (m : x = p ∨ x = q ∨ x = r ∨ x = t) (h : x < q) : x ≤ p :=
  m.elim (fun e => Nat.le_of_eq e) fun m => m.elim (fun e => absurd (e ▸ h) (Nat.lt_irrefl _)) fun m => m.elim (fun e => absurd (Nat.lt_trans k2 (e ▸ h)) (Nat.lt_irrefl _)) fun e => absurd (Nat.lt_trans (Nat.lt_trans k2 k3) (e ▸ h)) (Nat.lt_irrefl _)
theorem four_eq {p q r t x y z w : Nat} (k1 : p < q) (k2 : q < r) (k3 : r < t) (l1 : x < y) (l2 : y < z) (l3 : z < w) (m1 : x = p ∨ x = q ∨ x = r ∨ x = t) (m2 : y = p ∨ y = q ∨ y = r ∨ y = t) (m3 : z = p ∨ z = q ∨ z = r ∨ z = t) (m4 : w = p ∨ w = q ∨ w = r ∨ w = t) :
    p = x ∧ q = y ∧ r = z ∧ t = w := by
  have a1 := feup1 k1 k2 k3 m1
  have a2 := feup2 k2 k3 m2 (Nat.lt_of_le_of_lt a1 l1)
  have a3 := feup3 k1 k3 m3 (Nat.lt_of_le_of_lt a2 l2)
  have a4 := feup4 k1 k2 m4 (Nat.lt_of_le_of_lt a3 l3)
  subst a4
  have b3 := Nat.le_antisymm a3 (fedn3 k1 k2 m3 l3)
  subst b3
  have b2 := Nat.le_antisymm a2 (fedn2 k1 k3 m2 l2)
  subst b2
  exact ⟨Nat.le_antisymm a1 (fedn1 k2 k3 m1 l1), rfl, rfl, rfl⟩
theorem sum_mod {o S u cd k : Nat} (hu : 4 * o + ((-(S : Int)) % 4).toNat = u) (h : cd = u + k) (hk : k < 4) : (cd + S) % 4 = k := by omega
theorem or_turn {P Q R S : Prop} (h : P ∨ Q ∨ R) : S ∨ R ∨ Q ∨ P := h.elim (fun x => .inr (.inr (.inr x))) fun h => h.elim (fun x => .inr (.inr (.inl x))) fun x => .inr (.inl x)
theorem shown_told {a b c : Nat} (h1 : a ≠ b) (h2 : a ≠ c) (h3 : b ≠ c) (ha : a < 27) (hb : b < 27) (hc : c < 27) :
    toldI a b c < 27 ∧ (toldI a b c ≠ a ∧ toldI a b c ≠ b ∧ toldI a b c ≠ c) ∧ shownI [toldI a b c, c, b, a] = ([a, b, c], toldI a b c) := by
  obtain ⟨x, y, z, o, l1, l2, hsum, ho6, ho⟩ := three_srt h1 h2 h3
  have hmem := row_mem ho
  have hrow := row_six ho
  have key := told_six l1 l2 ho rfl
  clear ho
  have hz : z < 27 := by have := (hmem z).mp (by omega); omega
  generalize hu : 4 * o + ((-((x + y + z : Nat) : Int)) % 4).toNat = u at key
  have hu24 : u < 24 := by omega
  have huo : u / 4 = o := by omega
  generalize hcd : toldI a b c = cd at key ⊢
  have hcases : (cd < x ∧ cd = u) ∨ (x < cd ∧ cd < y ∧ cd = u + 1) ∨ (y < cd ∧ cd < z ∧ cd = u + 2) ∨ (z < cd ∧ cd = u + 3) := by
    rcases Nat.lt_or_ge u x with q1 | q1
    · have k := key.trans (bump_0 q1 l1 l2); exact .inl ⟨k ▸ q1, k⟩
    rcases Nat.lt_or_ge (u + 1) y with q2 | q2
    · have k := key.trans (bump_1 q1 q2 l2); exact .inr (.inl ⟨k ▸ Nat.lt_succ_of_le q1, k ▸ q2, k⟩)
    rcases Nat.lt_or_ge (u + 2) z with q3 | q3
    · have k := key.trans (bump_2 q1 q2 q3); exact .inr (.inr (.inl ⟨k ▸ Nat.lt_succ_of_le q2, k ▸ q3, k⟩))
    · have k := key.trans (bump_3 q1 q2 q3); exact .inr (.inr (.inr ⟨k ▸ Nat.lt_succ_of_le q3, k⟩))
  have hne : cd ≠ a ∧ cd ≠ b ∧ cd ≠ c := by
    have := fun h => (hmem cd).mpr h
    have hx : ¬ (cd = x ∨ cd = y ∨ cd = z) := by clear key hcd hu huo hsum hmem this; omega
    exact ⟨fun h => hx (this (.inl h)), fun h => hx (this (.inr (.inl h))), fun h => hx (this (.inr (.inr h)))⟩
  clear key hcd
  have hlt : cd < 27 := by clear hu huo hsum hmem hne; omega
  refine ⟨hlt, hne, ?_⟩
  rw [← huo] at hrow
  have h4 : [cd, c, b, a].length = 4 := rfl
  have hnd : [cd, c, b, a].Nodup := by
    simp only [List.nodup_cons, List.mem_cons, List.not_mem_nil, or_false, not_or, List.nodup_nil, and_true, not_false_eq_true]
    exact ⟨⟨hne.2.2, hne.2.1, hne.1⟩, ⟨Ne.symm h3, Ne.symm h2⟩, Ne.symm h1⟩
  have h27 : ∀ i ∈ [cd, c, b, a], i < 27 := List.forall_mem_cons.mpr ⟨hlt, List.forall_mem_cons.mpr ⟨hc, List.forall_mem_cons.mpr ⟨hb, List.forall_mem_cons.mpr ⟨ha, List.forall_mem_nil _⟩⟩⟩⟩
  obtain ⟨_, _, hin, hni, hs, p, q, r, t, e, k1, k2, k3, k4⟩ := srt_facts h4 hnd h27
  rw [e] at hs hin hni
  have hin : ∀ w, (w = p ∨ w = q ∨ w = r ∨ w = t) → (w = cd ∨ w = c ∨ w = b ∨ w = a) := fun w hw => by simpa using hin w (by simpa using hw)
  have hni : ∀ w, (w = cd ∨ w = c ∨ w = b ∨ w = a) → (w = p ∨ w = q ∨ w = r ∨ w = t) := fun w hw => by simpa using hni w (by simpa using hw)
  have hs : p + q + r + t = [cd, c, b, a].sum := hs ▸ four_sum p q r t
  have hsm : [cd, c, b, a].sum = cd + (x + y + z) := by rw [hsum, ← four_sum]; clear hs hu huo; omega
  have key := shown_at _ e hs
  have p1 := hni cd (.inl rfl)
  have p2 := hni x (or_turn ((hmem x).mp (.inl rfl)))
  have p3 := hni y (or_turn ((hmem y).mp (.inr (.inl rfl))))
  have p4 := hni z (or_turn ((hmem z).mp (.inr (.inr rfl))))
  clear hni hin
  rcases hcases with ⟨g1, g2⟩ | ⟨g1, g2, g3⟩ | ⟨g1, g2, g3⟩ | ⟨g1, g2⟩
  · have hm : [cd, c, b, a].sum % 4 = 0 := by rw [hsm]; exact sum_mod (k := 0) hu g2 (by decide)
    have : p = cd ∧ q = x ∧ r = y ∧ t = z := four_eq k1 k2 k3 g1 l1 l2 p1 p2 p3 p4; clear p1 p2 p3 p4
    obtain ⟨rfl, rfl, rfl, rfl⟩ := this
    rw [hm] at key
    rw [key]; (try dsimp only)
    rw [show p - 0 = u by rw [g2]; rfl, hrow]; rfl
  · have hm : [cd, c, b, a].sum % 4 = 1 := by rw [hsm]; exact sum_mod (k := 1) hu g3 (by decide)
    have : p = x ∧ q = cd ∧ r = y ∧ t = z := four_eq k1 k2 k3 g1 g2 l2 p2 p1 p3 p4; clear p1 p2 p3 p4
    obtain ⟨rfl, rfl, rfl, rfl⟩ := this
    rw [hm] at key
    rw [key]; (try dsimp only)
    rw [show q - 1 = u by rw [g3]; rfl, hrow]; rfl
  · have hm : [cd, c, b, a].sum % 4 = 2 := by rw [hsm]; exact sum_mod (k := 2) hu g3 (by decide)
    have : p = x ∧ q = y ∧ r = cd ∧ t = z := four_eq k1 k2 k3 l1 g1 g2 p2 p3 p1 p4; clear p1 p2 p3 p4
    obtain ⟨rfl, rfl, rfl, rfl⟩ := this
    rw [hm] at key
    rw [key]; (try dsimp only)
    rw [show r - 2 = u by rw [g3]; rfl, hrow]; rfl
  · have hm : [cd, c, b, a].sum % 4 = 3 := by rw [hsm]; exact sum_mod (k := 3) hu g2 (by decide)
    have : p = x ∧ q = y ∧ r = z ∧ t = cd := four_eq k1 k2 k3 l1 l2 g1 p2 p3 p4 p1; clear p1 p2 p3 p4
    obtain ⟨rfl, rfl, rfl, rfl⟩ := this
    rw [hm] at key
    rw [key]; (try dsimp only)
    rw [show t - 3 = u by rw [g2]; rfl, hrow]; rfl

end
section
noncomputable def RowOk (k : Nat) (i : Nat) (x : Str) : Prop := ((Txt.slice (rowS k x) none (some 1) = Str.ofString "." ∧ Txt.slice (rowS k x) (some (k : Int)) none = x) ∨ ((Txt.slice (rowS k x) none (some 1) == Str.ofString ".") = false ∧ rowS k x = x)) ∧ Txt.lower x = Txt.lower (nm i) ∧ x.length ≤ 3 ∧ (rowS k x).length ≤ 6
theorem row_ok : ∀ k, k < 4 → ∀ i, i < 27 → RowOk k i (Txt.lower (nm i)) ∧ RowOk k i (Txt.upper (nm i)) := by unfold RowOk; decide +kernel
theorem row_w : ∀ k, k < 4 → ((rowS k (Str.ofString ".w")).length : Int) = (k : Int) + 2 := by decide +kernel
theorem len_as {prog : Program} {w : World} {A : Around} {E : Value → Shared → Prop} {s : Shared} {x : Str} {t : Tok} {v : Int} {Q : Value → Shared → Prop} (e : (x.length : Int) = v) (hv : v < 100) (h : Q (.int v (s.toks + 1)) { s with toks := s.toks + 1 + 1 }) : wpAny (model prog w) A (call (.builtin "len") [.str x t]) Q E s := by
  subst e
  exact len_str (by omega) h

end
section
theorem LCg_at {h h' : Heap} {L C : Addr} {m : Str → Option Value} (hs : Heap.SameBut L h h') (hCL : C ≠ L) (hn : h.Ns C m) : h'.Ns C m := hn.sameBut hs hCL
section
variable {prog : Program} {w : World} {A : Around} {s : Shared} {h₀ : Heap} {L : Addr} {m : Str → Option Value} {env : Env} {elt iter : PySem.Expr} {x yn : Str} {px py pos spos : Pos} {scope : Scope} {cl : List (Str × Addr)} {Q : Flow → Shared → Prop} {news : List (Addr × Obj)}
noncomputable def CRestA (prog : Program) (w : World) (A : Around) (h₀ : Heap) (L : Addr) (m : Str → Option Value) (env : Env) (elt : PySem.Expr) (x : Str) (scope : Scope) (cl : List (Str × Addr)) (news : List (Addr × Obj)) (yn : Str) (Q : Flow → Shared → Prop) (s : Shared) : List Value → List Value → Nat → Prop :=
  CG prog w A h₀ L m env elt x scope cl news (fun ys T => ∀ D h tk, T ≤ tk → Fr h₀ L h (fun z => if z = yn then some (.ref D) else m z) → News h₀ L h ((D, LCg.lst ys) :: news) → (∀ p ∈ news, p.1 ≠ D) → Q .next { s with heap := h, toks := tk }) s

noncomputable def CSrcA (prog : Program) (w : World) (A : Around) (h₀ : Heap) (L : Addr) (m : Str → Option Value) (env : Env) (elt : PySem.Expr) (x : Str) (scope : Scope) (cl : List (Str × Addr)) (yn : Str) (Q : Flow → Shared → Prop) (s : Shared) (xv : Value) (s₁ : Shared) : Prop :=
  ∃ ax vs news h tk, xv = .ref ax ∧ s₁ = { s with heap := h, toks := tk } ∧ Fr h₀ L h m ∧ News h₀ L h news ∧ vs.length ≤ sizeLine ∧
      (∀ h', Fr h₀ L h' m → News h₀ L h' news → h'.IsList ax vs.toArray) ∧ CRestA prog w A h₀ L m env elt x scope cl news yn Q s vs [] tk

theorem compBA {E : Value → Shared → Prop} (_F₀ : Fr h₀ L s.heap m) (hLe : env.locals = L) (hh : A.handled = none)
    (hsw : swapsWith (.ListComp elt [⟨.Name x px, iter, [], 0⟩] scope pos) (some (.Name yn py)) spos.line env = pure true)
    (hclos : closureFor scope env = pure cl) (hcell : ∀ y ∈ scope.names, y.2 ≠ .cell) (hkind : scope.kind = .function)
    (hnames : ∀ y ∈ scope.names, y.2 = .local → scope.names.lookup y.1 = some .local) (hx : scope.names.lookup x = some .local)
    (hy : env.kindOf yn = some .local) (hpk : (env.scope.kind == .class || (env.scope.kind == .module && env.locals != env.globals)) = false)
    (h : wpAny (model prog w) A (eval iter env) (CSrcA prog w A h₀ L m env elt x scope cl yn Q s) E s)
    (hs : ∀ x, foldedSetIterable iter env x = pure x := by intro _; rfl) :
    wpAny (model prog w) A (exec (.Assign [.Name yn py] (.ListComp elt [⟨.Name x px, iter, [], 0⟩] scope pos) spos) env) Q E s := by
  subst hLe
  rw [exec_Assign_Name_used _ _ _ _ hsw]
  refine wpAny_bind (wpAny_standAt (wpAny_bind ?_))
  show wpAny _ A (do let _ ← comprehension (.ListComp elt [⟨.Name x px, iter, [], 0⟩] scope pos) scope env _ (newList []) false (eval iter env) (some (assign (.Name yn py) env))) _ _ s
  refine wpAny_bind (wpAny_mono (compCore (use := some (assign (.Name yn py) env)) (Q := fun _ s' => Q .next s')
    (Z := fun news ys T => ∀ D h tk, T ≤ tk → Fr h₀ env.locals h (fun z => if z = yn then some (.ref D) else m z) → News h₀ env.locals h ((D, LCg.lst ys) :: news) → (∀ p ∈ news, p.1 ≠ D) → Q .next { s with heap := h, toks := tk })
    hh hclos hcell hkind hnames hx hs (fun news ys T D C m' h₂ tk z hT F N ns offC offD hCL hC₀ => ?_) h) (fun _ s' hq => wpAny_pure (wpAny_pure hq)) fun _ _ e => e)
  show wpAny _ A (assign (.Name yn py) env (.ref D)) _ _ _
  refine wpAny_assign_Name (wpAny_storeName_local hy F.ns (fun h₃ hn₃ hs₃ => ?_) hpk)
  have hL₀ : h₀.get? env.locals = none := Heap.get?_none_of_le F.above
  have F₃ : Fr h₀ env.locals h₃ (fun z => if z = yn then some (.ref D) else m z) := ⟨hn₃, fun b o e => hs₃.extBut b o (fun q => by rw [q, hL₀] at e; cases e) (F.keep b o e), F.above⟩
  exact ⟨_, LCg_at hs₃ hCL ns, fun h'' hs'' => z D h'' _ (Nat.le_succ_of_le hT) (F₃.change hs'' hCL hC₀) (fun p hp => ⟨hs''.extBut _ _ (offC p hp) (hs₃.extBut _ _ (N p hp).2.1 (N p hp).1), (N p hp).2⟩) offD⟩
end
section
variable {prog : Program} {w : World} {A : Around} {s : Shared} {h₀ : Heap} {L : Addr} {m : Str → Option Value} {env : Env} {elt : PySem.Expr} {x : Str} {scope : Scope} {cl : List (Str × Addr)} {yn : Str} {Q : Flow → Shared → Prop} {news : List (Addr × Obj)}
theorem CRestA.ind (J : List Value → List Value → Nat → Prop)
    (step : ∀ v r ys T, J (v :: r) ys T → ∀ I oI C oC D m₂ h tk, T ≤ tk → LCg.NsObj oC m₂ → m₂ x = some v → Fr h₀ L h m → News h₀ L h ((I, oI) :: (C, oC) :: (D, LCg.lst ys) :: news) → LCg.Off3 I C D news →
      wpAny (model prog w) A (eval elt (compEnvC scope cl C env)) (CEnd h₀ L m s ((I, oI) :: (C, oC) :: (D, LCg.lst ys) :: news) tk fun y tk' => J r (ys ++ [y]) tk') (fun _ _ => False) { s with heap := h, toks := tk })
    (fin : ∀ ys T, J [] ys T → ∀ D h tk, T ≤ tk → Fr h₀ L h (fun z => if z = yn then some (.ref D) else m z) → News h₀ L h ((D, LCg.lst ys) :: news) → (∀ p ∈ news, p.1 ≠ D) → Q .next { s with heap := h, toks := tk }) :
    ∀ vs ys T, J vs ys T → CRestA prog w A h₀ L m env elt x scope cl news yn Q s vs ys T := CG.ind J step fin
end

end
local macro_rules | `(tactic| walk_at "Z4") => `(tactic| skip)
section
theorem three_toks {α : Type} {x1 x2 x3 : α} {ts : List Tok} (h : [x1, x2, x3].length = ts.length) : ∃ t1 t2 t3, ts = [t1, t2, t3] := by
  match ts, h with
  | [t1, t2, t3], _ => exact ⟨t1, t2, t3, rfl⟩
theorem item_nm {prog : Program} {w : World} {A : Around} {E : Value → Shared → Prop} {s : Shared} {value slice : PySem.Expr} {a : Addr} {tkF : Nat → Tok} {i : Nat} {u : Tok} {Q : Value → Shared → Prop} (hl : s.heap.IsList a (nmsV tkF (List.range 27)).toArray) (hi : i < 27) (h : Q (.str (nm i) (tkF i)) s)
    (hs : subscripted slice false (.ref a) (.int i u) = operate [.ref a, .int i u] (getItem (.ref a) (.int i u)) := by with_unfolding_all rfl) (hg : ∀ r, letTemporaryGo value (.ref a) r = pure () := by intro _; with_unfolding_all rfl) :
    wpAny (model prog w) A (subscriptTail value slice (.ref a) (.int i u)) Q E s :=
  item_listL hl (Int.natCast_nonneg i) (by omega) (by simp [nmsV, hi]) h hs hg
section
variable {prog : Program} {w : World} {A : Around} {E : Value → Shared → Prop} {s : Shared} {h₀ : Heap} {L : Addr} {m : Str → Option Value} {news : List (Addr × Obj)} {value slice : PySem.Expr} {x y : Str} {t : Tok} {Q : Value → Shared → Prop}
theorem slice_ns_as {j : Int} {uj : Tok} (hF : Fr h₀ L s.heap m) (hN : News h₀ L s.heap news) (e : Txt.slice x none (some j) = y) (hsz : x.length ≤ sizeLine) (h : ∀ h' t' k, Fr h₀ L h' m → News h₀ L h' news → Q (.str y t') { s with heap := h', toks := k })
    (hs : subscripted slice false (.str x t) (.ref s.heap.objs.size) = operate [.ref s.heap.objs.size, .str x t] (getItem (.str x t) (.ref s.heap.objs.size)) := by with_unfolding_all rfl)
    (ht : ∀ r, letTemporaryGo value (.str x t) r = pure () := by intro _; with_unfolding_all rfl) :
    wpAny (model prog w) A (subscriptTail value slice (.str x t) (.ref s.heap.objs.size)) Q E { s with heap := s.heap.push { cls := .type "slice", data := .fields #[.none, .int j uj, .none] } } := by
  subst e
  exact slice_strN_ns hF hN h hs ht hsz
theorem slice_sn_as {i : Int} {ui : Tok} (hF : Fr h₀ L s.heap m) (hN : News h₀ L s.heap news) (e : Txt.slice x (some i) none = y) (hsz : x.length ≤ sizeLine) (h : ∀ h' t' k, Fr h₀ L h' m → News h₀ L h' news → Q (.str y t') { s with heap := h', toks := k })
    (hs : subscripted slice false (.str x t) (.ref s.heap.objs.size) = operate [.ref s.heap.objs.size, .str x t] (getItem (.str x t) (.ref s.heap.objs.size)) := by with_unfolding_all rfl)
    (ht : ∀ r, letTemporaryGo value (.str x t) r = pure () := by intro _; with_unfolding_all rfl) :
    wpAny (model prog w) A (subscriptTail value slice (.str x t) (.ref s.heap.objs.size)) Q E { s with heap := s.heap.push { cls := .type "slice", data := .fields #[.int i ui, .none, .none] } } := by
  subst e
  exact slice_strN_sn hF hN h hs ht hsz
end
local macro_rules | `(tactic| walk_at "subscriptTail Name Slice str ref") => `(tactic| (k_here; (with_reducible show wpAny _ _ (subscriptTail _ (PySem.Expr.Slice none (some _) none _) _ _) _ _ _); (with_reducible rename Fr _ _ _ _ => F'); (with_reducible rename News _ _ _ _ => N'); (refine slice_ns_as (s := ⟨_, _, _, _, _⟩) F' N' (by first | with_reducible assumption | with_reducible rfl) (by with_reducible assumption) ?_); intro _ _ _ _ _))
local macro_rules | `(tactic| walk_at "subscriptTail Name Slice str ref") => `(tactic| (k_here; (with_reducible show wpAny _ _ (subscriptTail _ (PySem.Expr.Slice (some _) none none _) _ _) _ _ _); (with_reducible rename Fr _ _ _ _ => F'); (with_reducible rename News _ _ _ _ => N'); (refine slice_sn_as (s := ⟨_, _, _, _, _⟩) F' N' (by with_reducible assumption) (by with_reducible assumption) ?_); intro _ _ _ _ _))
local macro_rules | `(tactic| walk_at "call builtin:len") => `(tactic| (k_here; (with_reducible show wpAny _ _ (call (Value.builtin "len") [Value.str (rowS _ _) _]) _ _ _); refine len_as (by with_reducible assumption) (by omega) ?_))
local macro_rules | `(tactic| walk_at "exec Assign cons ListComp") => `(tactic| (k_here; k_dflt (refine' wpAny_Assign_Name ?_ ?hs; (case hs => with_unfolding_all rfl))))
local macro_rules | `(tactic| walk_at "subscriptTail Name Constant ref int") => `(tactic| (k_here; k_dflt (refine item_listL (Fr.lst (by k_asm) (by with_reducible assumption)) (by decide) (by decide) (by exact rfl) ?_)))
local macro_rules | `(tactic| walk_at "exec Assign cons ListComp") => `(tactic| (k_here; k_dflt (refine compBA (by k_asm) rfl rfl (by with_unfolding_all rfl) (by with_unfolding_all rfl) (by decide) rfl (by decide) rfl rfl rfl ?_)))
local macro_rules | `(tactic| walk_at "subscriptTail Name Name ref int") => `(tactic| (k_here; k_dflt (refine item_nm (Fr.lst (by k_asm) (by with_reducible assumption)) (by with_reducible assumption) ?_)))


theorem ite_int {M : Model} {A : Around} {E : Value → Shared → Prop} {s : Shared} {b : Bool} {k k' : Nat} {p p' : Pos} {env : Env} {Q : Value → Shared → Prop} (h : Q (.int (if b = true then 1 else 0) s.toks) { s with toks := s.toks + 1 }) :
    if b = true then wpAny M A (eval (.Constant (.int 1) k p) env) Q E s else wpAny M A (eval (.Constant (.int 0) k' p') env) Q E s := by
  cases b
  · exact wpAny_Constant_int h
  · exact wpAny_Constant_int h
local macro_rules | `(tactic| walk_at "ite") => `(tactic| (k_here; k_dflt (refine ite_int ?_)))
local macro_rules | `(tactic| walk_at "exec For Name Call cons nil") => `(tactic| (k_here; k_dflt (refine' wpAny_For ?_ ?hs; (case hs => intro _; with_unfolding_all rfl))))


theorem ints_of {vs : List Value} {ns : List Int} (h : IntsAre vs ns) : ∃ ts, vs = intsV ns ts ∧ ns.length = ts.length := by
  induction h with
  | nil => exact ⟨[], rfl, rfl⟩
  | cons n t _ ih =>
    obtain ⟨ts, rfl, h⟩ := ih
    exact ⟨t :: ts, rfl, by simp [h]⟩
theorem name_news {g h : Heap} {L : Addr} {news : List (Addr × Obj)} (_ : News g L h news) : ∃ nw, nw = news := ⟨_, rfl⟩
theorem told_start (a b c : Nat) (x : Option Value) (tt : Tok) (h : x = some (.int (4 * (2 * (rankI a [a, b, c] 1 : Int) + if decide ((rankI b [a, b, c] 1 : Int) > (rankI c [a, b, c] 1 : Int)) = true then 1 else 0) + ((-[(a : Int), (b : Int), (c : Int)].sum % 4).toNat : Int)) tt)) : x = some (.int ((bumpI [] (tellI a b c) : Nat) : Int) tt) := by
  rw [h]
  congr 2
  show _ = ((tellI a b c : Nat) : Int)
  unfold tellI
  have e : -[(a : Int), (b : Int), (c : Int)].sum = -((a + b + c : Nat) : Int) := by simp; omega
  rw [e]
  by_cases hd : rankI c [a, b, c] 1 < rankI b [a, b, c] 1
  · have : (rankI b [a, b, c] 1 : Int) > (rankI c [a, b, c] 1 : Int) := by omega
    simp [hd]
  · have : ¬ (rankI b [a, b, c] 1 : Int) > (rankI c [a, b, c] 1 : Int) := by omega
    simp [hd]
theorem bump_snoc (n : Nat) : ∀ (pre : List Nat) (t : Nat), bumpI (pre ++ [n]) t = if n ≤ bumpI pre t then bumpI pre t + 1 else bumpI pre t
  | [], _ => rfl
  | p :: pre, t => bump_snoc n pre _
theorem told_up {x : Option Value} {pre : List Nat} {i t : Nat} {tt : Tok} (hi : i ≤ bumpI pre t) (h : x = some (.int (((bumpI pre t : Nat) : Int) + 1) tt)) : x = some (.int ((bumpI (pre ++ [i]) t : Nat) : Int) tt) := by
  rw [h, bump_snoc, if_pos hi]; rfl
theorem told_same {x : Option Value} {pre : List Nat} {i t : Nat} {tt : Tok} (hi : ¬ i ≤ bumpI pre t) (h : x = some (.int ((bumpI pre t : Nat) : Int) tt)) : x = some (.int ((bumpI (pre ++ [i]) t : Nat) : Int) tt) := by
  rw [h, bump_snoc, if_neg hi]
section
variable {M : Model} {A : Around} {s : Shared} {h₀ : Heap} {L a : Addr} {m : Str → Option Value} {x : Str} {v : Value} {cn : Str} {cs : Scope} {ccd : Value} {cl : List (Str × Addr)} {Q : Value → Shared → Prop} {E : Value → Shared → Prop}
theorem ldX (F : Fr h₀ L s.heap m) (hv : m x = some v) (h : Q v s) (hk : cs.kind = .function) (hx : (envX cn cs L a ccd cl).kindOf x = some .local) : wpAny M A (loadName (envX cn cs L a ccd cl) x) Q E s :=
  wpAny_loadName_local hk hx F.ns hv h
end
local macro_rules | `(tactic| walk_at "loadName") => `(tactic| (k_here; k_dflt (refine' ldX ?F ?v ?_ ?a ?b; (case F => k_asm); (case a => rfl); (case b => rfl); (case v => assumption); k_whole)))


theorem told_sp (w : World) (lr x ln : Addr) (tkF : Nat → Tok) (rows : List Row) (k a b c : Nat) (t1 t2 t3 t4 : Tok) :
  Sp 8 w 293 ⟨[.ref lr, .ref x, .ref ln], []⟩ []
    (fun h t₀ => h.IsList lr #[.str (rowS k (Str.ofString ".w")) t1, .str (rowS k (Txt.lower (nm a))) t2, .str (rowS k (Txt.upper (nm b))) t3, .str (rowS k (Txt.lower (nm c))) t4] ∧ h.IsList ln (nmsV tkF (List.range 27)).toArray ∧ (Deck w h x rows ∧ DeckRows rows) ∧ k < 4 ∧ (a < 27 ∧ b < 27 ∧ c < 27) ∧ toldI a b c < 27)
    (fun h _ r h' _ => r = .str (nm (toldI a b c)) (tkF (toldI a b c))) := by
  intro p loose mean mg mb dp un fr gd h₀ s R X T hk hN hdp hun hpre ret
  obtain ⟨hlr, hl, ⟨hd1, hd2⟩, hk4, ⟨ha, hb, hc⟩, hto⟩ := hpre
  (k_dflt (refine' enterCC _ ?a1 ?a2 ?a3 ?a4 ?k6 ?k7 ?k8 ?k9 ?kB ?kD ?c2 ?c3 ?c4 ?cR ?_; (case a1 => assumption); (case a2 => assumption); (case a3 => assumption); (case a4 => assumption); (case k6 => k_is); (case k7 => k_is); (case k8 => exact room0 (by assumption)); (case k9 => exact BindsTo.of_eq rfl); (case kB => exact rfl); (case kD => decide +kernel); (case c2 => exact rfl); (case c3 => exact rfl); (case c4 => exact rfl); (case cR => assumption); intro g L hA tA cells' F' N' Y' X1 T1 st1 kp' ht1 l1; (try k_lt l1); k_cells Y'; (try simp only [List.cons_append, List.nil_append] at N'); (try dsimp only); (try k_fold)))
  rename Kp _ _ _ => kp
  have hw := row_w k hk4
  have hdg := hd1.at (Kp.all kp)
  have hlrg := hlr.at (fun o e => kp _ _ (by simp) e)
  have hlg := hl.at (fun o e => kp _ _ (by simp) e)
  have habc : ∀ i ∈ [a, b, c], i < 27 := List.forall_mem_cons.mpr ⟨ha, List.forall_mem_cons.mpr ⟨hb, List.forall_mem_cons.mpr ⟨hc, List.forall_mem_nil _⟩⟩⟩
  have hrows : ∀ q ∈ [(Txt.lower (nm a), a), (Txt.upper (nm b), b), (Txt.lower (nm c), c)], q.2 < 27 ∧ RowOk k q.2 q.1 := List.forall_mem_cons.mpr ⟨⟨ha, (row_ok k hk4 a ha).1⟩, List.forall_mem_cons.mpr ⟨⟨hb, (row_ok k hk4 b hb).2⟩, List.forall_mem_cons.mpr ⟨⟨hc, (row_ok k hk4 c hc).1⟩, List.forall_mem_nil _⟩⟩⟩
  obtain ⟨dx, ld, tkk, hx, hdx, hdl, hdr⟩ := id hdg
  k_steps
  refine ⟨_, _, _, _, _, rfl, rfl, by k_asm, by k_asm, ?_, fun h' F' N' => News.isList N' (by k_mem), ?_⟩
  · exact Nat.le_of_ble_eq_true rfl
  refine CRestA.ind (J := fun vs acc T => ∃ rs : List (Str × Nat), ∃ us ds ts', vs = strsV (rs.map (fun p => rowS k p.1)) us ∧ rs.length = us.length ∧ acc = intsV (ds.map (fun (p : Str × Nat) => (p.2 : Int))) ts' ∧ ds.length = ts'.length ∧ ds ++ rs = [(Txt.lower (nm a), a), (Txt.upper (nm b), b), (Txt.lower (nm c), c)] ∧ 0 < T) ?_ ?_ _ _ _ ⟨[(Txt.lower (nm a), a), (Txt.upper (nm b), b), (Txt.lower (nm c), c)], [_, _, _], [], [], rfl, rfl, rfl, rfl, rfl, by first | exact Nat.succ_pos _ | omega⟩
  · rintro v r acc T ⟨rs, us, ds, ts', hv, hl, rfl, hdt, hes, hT0⟩ I' oI C oC D m₂ h₂ tk2 hTk hC hx2 F N off2
    cases rs with
    | nil => simp [strsV] at hv
    | cons q rs => cases us with
      | nil => simp at hl
      | cons u us =>
        obtain ⟨rfl, rfl⟩ := List.cons.inj hv
        have hq : q.2 < 27 ∧ RowOk k q.2 q.1 := hrows q (by rw [← hes]; simp)
        obtain ⟨hq27, hqs, hql, hq3, hq6⟩ := hq
        have hz1 : (rowS k q.1).length ≤ sizeLine := Nat.le_trans hq6 (by decide)
        have hget : q.2 < 27 ∧ Txt.lower q.1 = Txt.lower (nm q.2) ∧ q.1.length ≤ 1000 := ⟨hq27, hql, Nat.le_trans hq3 (by decide)⟩
        rcases hqs with ⟨f1, f2⟩ | ⟨f1, f2⟩
        · have f3 : Txt.slice (rowS k q.1) (some ((k : Int) + 2 - ((2 : Nat) : Int))) none = q.1 := by rw [show (k : Int) + 2 - ((2 : Nat) : Int) = k by omega]; exact f2
          k_steps
          refine CEnd.intro (by k_dflt assumption) (by k_dflt assumption) fun hle => ⟨rs, us, ds ++ [q], ts' ++ [_], rfl, by simpa using hl, by rw [List.map_append]; exact (intsV_snoc _ _ _ _ (by simpa using hdt)).symm, by simp [hdt], by rw [← hes]; simp, Nat.lt_of_lt_of_le hT0 (Nat.le_trans hTk hle)⟩
        · have hget2 : q.2 < 27 ∧ Txt.lower (rowS k q.1) = Txt.lower (nm q.2) ∧ (rowS k q.1).length ≤ 1000 := by rw [f2]; exact hget
          k_steps
          refine CEnd.intro (by k_dflt assumption) (by k_dflt assumption) fun hle => ⟨rs, us, ds ++ [q], ts' ++ [_], rfl, by simpa using hl, by rw [List.map_append]; exact (intsV_snoc _ _ _ _ (by simpa using hdt)).symm, by simp [hdt], by rw [← hes]; simp, Nat.lt_of_lt_of_le hT0 (Nat.le_trans hTk hle)⟩
  · rintro acc T ⟨rs, us, ds, ts', hv, hl, rfl, hdt, hes, hT0⟩ Dn h₂ tk2 hTk F2 N2 off2
    have hrs0 : rs = [] := by
      cases rs with
      | nil => rfl
      | cons x rs => cases us with
        | nil => simp at hl
        | cons u us => simp [strsV] at hv
    subst hrs0
    rw [List.append_nil] at hes
    subst hes
    obtain ⟨u1, u2, u3, rfl⟩ := three_toks hdt
    have hnums : News _ _ _ ((Dn, W.listOf #[.int (a : Int) u1, .int (b : Int) u2, .int (c : Int) u3] 3) :: _) := N2
    clear N2
    k_steps
    refine ⟨_, intsV ([a, b, c].map fun (i : Nat) => (i : Int)) [u1, u2, u3], _, _, _, rfl, rfl, by k_asm, by k_asm, ?_, fun h' F' N' => News.isList N' (by k_mem), ?_⟩
    · exact Nat.le_of_ble_eq_true rfl
    refine CRest.ind (J := fun vs acc T => ∃ rs : List Nat, ∃ us ds, vs = intsV (rs.map fun (i : Nat) => (i : Int)) us ∧ rs.length = us.length ∧ acc = nmsV tkF ds ∧ ds ++ rs = [a, b, c] ∧ 0 < T) ?_ ?_ _ _ _ ⟨[a, b, c], [u1, u2, u3], [], rfl, rfl, rfl, rfl, Nat.lt_of_lt_of_le hT0 hTk⟩
    · rintro v r acc T ⟨rs, us, ds, hv, hl, rfl, hes, hT1⟩ I' oI C oC D m₂ h₂ tk2 hTk hC hx2 F N off2
      cases rs with
      | nil => simp [intsV] at hv
      | cons i rs => cases us with
        | nil => simp at hl
        | cons u us =>
          obtain ⟨rfl, rfl⟩ := List.cons.inj hv
          have hi27 : i < 27 := habc i (by rw [← hes]; simp)
          k_steps
          refine CEnd.intro (by k_dflt assumption) (by k_dflt assumption) fun hle => ⟨rs, us, ds ++ [i], rfl, by simpa using hl, by simp [nmsV], by rw [← hes]; simp, Nat.lt_of_lt_of_le hT1 (Nat.le_trans hTk hle)⟩
    · rintro acc T ⟨rs, us, ds, hv, hl, rfl, hes, hT1⟩ Dc h₂ tk2 hTk F2 N2 off2
      have hrs0 : rs = [] := by
        cases rs with
        | nil => rfl
        | cons x rs => cases us with
          | nil => simp at hl
          | cons u us => simp [intsV] at hv
      subst hrs0
      rw [List.append_nil] at hes
      subst hes
      k_steps
      refine ⟨_, nmsV tkF [a, b, c], _, _, _, rfl, rfl, by k_asm, by k_asm, ?_, fun h' F' N' => News.isList N' (by k_mem), ?_⟩
      · exact Nat.le_of_ble_eq_true rfl
      refine CRestA.ind (J := fun vs acc T => ∃ rs : List Nat, ∃ ds ts', vs = nmsV tkF rs ∧ acc = intsV (ds.map fun (i : Nat) => (rankI i [a, b, c] 1 : Int)) ts' ∧ ds.length = ts'.length ∧ ds ++ rs = [a, b, c] ∧ 0 < T) ?_ ?_ _ _ _ ⟨[a, b, c], [], [], rfl, rfl, rfl, rfl, Nat.lt_of_lt_of_le hT1 hTk⟩
      · rintro v r acc T ⟨rs, ds, ts', hv, rfl, hdt, hes, hT2⟩ I' oI C oC D m₂ h₂ tk2 hTk hC hx2 F N off2
        cases rs with
        | nil => simp [nmsV] at hv
        | cons i rs =>
          obtain ⟨rfl, rfl⟩ := List.cons.inj hv
          have hi27 : i < 27 := habc i (by rw [← hes]; simp)
          have hrk : i < 27 ∧ (∀ j ∈ [a, b, c], j < 27) ∧ [a, b, c].length ≤ 8 ∧ ((-5 : Int) ≤ 1 ∧ (1 : Int) ≤ 256) := ⟨hi27, habc, by simp, by decide, by decide⟩
          have hT3 : 0 < tk2 := Nat.lt_of_lt_of_le hT2 hTk
          k_steps
          refine CEnd.intro (by k_dflt assumption) (by k_dflt assumption) fun hle => ⟨rs, ds ++ [i], ts' ++ [_], rfl, by rw [List.map_append]; exact (intsV_snoc _ _ _ _ (by simpa using hdt)).symm, by simp [hdt], by rw [← hes]; simp, Nat.lt_of_lt_of_le hT2 (Nat.le_trans hTk hle)⟩
      · rintro acc T ⟨rs, ds, ts', hv, rfl, hdt, hes, hT2⟩ Dr h₂ tk2 hTk F2 N2 off2
        have hrs0 : rs = [] := by
          cases rs with
          | nil => rfl
          | cons x rs => simp [nmsV] at hv
        subst hrs0
        rw [List.append_nil] at hes
        subst hes
        obtain ⟨v1, v2, v3, rfl⟩ := three_toks hdt
        have hranks : News _ _ _ ((Dr, W.listOf #[.int (rankI a [a, b, c] 1 : Int) v1, .int (rankI b [a, b, c] 1 : Int) v2, .int (rankI c [a, b, c] 1 : Int) v3] 3) :: _) := N2
        clear N2
        have hints : IntsAre [.int (a : Int) u1, .int (b : Int) u2, .int (c : Int) u3] [(a : Int), (b : Int), (c : Int)] := ints_are [(a : Int), (b : Int), (c : Int)] [u1, u2, u3] rfl
        have hm : (0 : Int) < 4 ∧ (4 : Int) ≤ 100 ∧ -10 ^ 9 ≤ -[(a : Int), (b : Int), (c : Int)].sum ∧ -[(a : Int), (b : Int), (c : Int)].sum ≤ 10 ^ 9 := by simp; omega
        k_steps
        rename_i D' v' n' c' hS FS NS iS eS pS oS p0S lS bS s1S s2S t2S
        have hn' : n' = (srtN [a, b, c]).map fun (i : Nat) => (i : Int) := srtN_uniq (is := [a, b, c]) pS oS
        clear eS p0S bS s1S s2S t2S pS oS
        subst hn'
        obtain ⟨ts, rfl, hts⟩ := ints_of iS
        clear iS
        obtain ⟨nw, hnw⟩ := name_news NS
        refine forB (S := fun nw' => nw' = nw) (by rfl) (fun h m' news' F' N' hs => by subst hs; subst hnw; exact News.isList N' (.head _)) (by k_asm) (by k_asm) hnw.symm ?_
        intro I hI
        refine BRest.ind2 (J := fun vs m news T => ∃ rs : List Nat, ∃ us pre tt, vs = intsV (rs.map fun (i : Nat) => (i : Int)) us ∧ rs.length = us.length ∧ pre ++ rs = srtN [a, b, c] ∧ m (Str.ofString "told") = some (.int ((bumpI pre (tellI a b c) : Nat) : Int) tt) ∧ news = nw) ?_ ?_ _ _ _ _ ⟨srtN [a, b, c], ts, [], _, rfl, by simpa using hts, rfl, told_start a b c _ _ rfl, hnw.symm⟩
        · rintro v r m news T ⟨rs, us, pre, tt, hv, hl', hpre, htold, rfl⟩ it h tk' hT hc F' N' off
          subst hnw
          cases rs with
          | nil => simp [intsV] at hv
          | cons i rs => cases us with
            | nil => simp at hl'
            | cons u us =>
              have hv : v :: r = Value.int (i : Int) u :: intsV (rs.map fun (i : Nat) => (i : Int)) us := hv
              obtain ⟨rfl, rfl⟩ := List.cons.inj hv
              k_steps
              · rename News _ _ _ _ => NN
                rename (i : Int) ≤ ((bumpI pre (tellI a b c) : Nat) : Int) => hle
                refine' BPost.nextI ?F NN off rfl ?_
                (case F => k_dflt assumption)
                exact ⟨rs, us, pre ++ [i], _, rfl, by simpa using hl', by rw [← hpre]; simp, told_up (by omega) rfl, rfl⟩
              · rename News _ _ _ _ => NN
                rename ¬ (i : Int) ≤ ((bumpI pre (tellI a b c) : Nat) : Int) => hle
                refine' BPost.nextI ?F NN off rfl ?_
                (case F => k_dflt assumption)
                exact ⟨rs, us, pre ++ [i], _, rfl, by simpa using hl', by rw [← hpre]; simp, told_same (by omega) htold, rfl⟩
        · rintro m news T ⟨rs, us, pre, tt, hv, hl', hpre, htold, rfl⟩ h tk' hT F' N'
          subst hnw
          have hrs0 : rs = [] := by
            cases rs with
            | nil => rfl
            | cons x rs => cases us with
              | nil => simp at hl'
              | cons u us => simp [intsV] at hv
          subst hrs0
          rw [List.append_nil] at hpre
          subst hpre
          have hto' : bumpI (srtN [a, b, c]) (tellI a b c) < 27 := hto
          k_steps
          (try dsimp only)
          exact EndP.ret (by k_asm) fun _ => rfl

end
section
section
variable {prog : Program} {w : World} {A : Around} {s : Shared} {h₀ : Heap} {L : Addr} {m : Str → Option Value} {env : Env} {elt iter : PySem.Expr} {x y : Str} {px py pos tp : Pos} {scope : Scope} {cl : List (Str × Addr)} {Q : Value → Shared → Prop}
noncomputable def Off4 (e it C D : Addr) (news : List (Addr × Obj)) : Prop := ∀ p ∈ news, p.1 ≠ e ∧ p.1 ≠ it ∧ p.1 ≠ C ∧ p.1 ≠ D
noncomputable def EEnd (h₀ : Heap) (L : Addr) (m : Str → Option Value) (s : Shared) (e it C D : Addr) (oE oI oC oD : Obj) (lp : Addr × Obj) (rest : Value → List (Addr × Obj) → Nat → Prop) (z : Value) (s' : Shared) : Prop :=
  ∃ h' tk' news', s' = { s with heap := h', toks := tk' } ∧ Fr h₀ L h' m ∧ News h₀ L h' ((e, oE) :: (it, oI) :: (C, oC) :: (D, oD) :: news') ∧ Off4 e it C D news' ∧ lp ∈ news' ∧ rest z news' tk'
structure ESrc (prog : Program) (w : World) (A : Around) (h₀ : Heap) (L : Addr) (m : Str → Option Value) (env : Env) (elt : PySem.Expr) (x y : Str) (scope : Scope) (cl : List (Str × Addr)) (Q : Value → Shared → Prop) (s : Shared)
    (vs : List Value) (J : Nat → List Value → List (Addr × Obj) → Nat → Prop) (e it l : Addr) (lo : Obj) (news : List (Addr × Obj)) (h : Heap) (tk : Nat) : Prop where
  ei : e ≠ it
  le : l ≠ e
  li : l ≠ it
  Le : L ≠ e
  Li : L ≠ it
  e0 : h₀.get? e = none
  i0 : h₀.get? it = none
  off : ∀ p ∈ news, p.1 ≠ e ∧ p.1 ≠ it
  en : IsEnum h e it 0 .none
  itr : h.IsListIter it l 0
  F : Fr h₀ L h m
  N : News h₀ L h news
  lm : (l, lo) ∈ news
  lc : lo.cls = .type "list"
  ld : ∃ n, lo.data = .seq vs.toArray n
  sz : vs.length ≤ sizeLine
  j0 : J 0 [] news tk
  step : ∀ i v ys news T, vs[i]? = some v → J i ys news T → ∀ oE oI C oC D m₂ h tk t, T ≤ tk → LCg.NsObj oC m₂ → m₂ x = some (.int (i : Int) t) → m₂ y = some v → Fr h₀ L h m →
    News h₀ L h ((e, oE) :: (it, oI) :: (C, oC) :: (D, LCg.lst ys) :: news) → Off4 e it C D news →
    wpAny (model prog w) A (eval elt (compEnvC scope cl C env)) (EEnd h₀ L m s e it C D oE oI oC (LCg.lst ys) (l, lo) fun z news' tk' => tk ≤ tk' → J (i + 1) (ys ++ [z]) news' tk') (fun _ _ => False) { s with heap := h, toks := tk }
  fin : ∀ ys news T, J vs.length ys news T → ∀ D h tk, T ≤ tk → Fr h₀ L h m → News h₀ L h ((D, LCg.lst ys) :: news) → (∀ p ∈ news, p.1 ≠ D) → Q (.ref D) { s with heap := h, toks := tk }
noncomputable def ESrcX (prog : Program) (w : World) (A : Around) (h₀ : Heap) (L : Addr) (m : Str → Option Value) (env : Env) (elt : PySem.Expr) (x y : Str) (scope : Scope) (cl : List (Str × Addr)) (Q : Value → Shared → Prop) (s : Shared) (xv : Value) (s₁ : Shared) : Prop :=
  ∃ vs J e it l lo news h tk, xv = .ref e ∧ s₁ = { s with heap := h, toks := tk } ∧ ESrc prog w A h₀ L m env elt x y scope cl Q s vs J e it l lo news h tk
theorem compE {E : Value → Shared → Prop} {tkx} (_F₀ : Fr h₀ L s.heap m) (hh : A.handled = none)
    (hclos : closureFor scope env = pure cl) (hcell : ∀ z ∈ scope.names, z.2 ≠ .cell) (hkind : scope.kind = .function)
    (hnames : ∀ z ∈ scope.names, z.2 = .local → scope.names.lookup z.1 = some .local) (hx : scope.names.lookup x = some .local) (hy : scope.names.lookup y = some .local) (hxy : x ≠ y)
    (h : wpAny (model prog w) A (eval iter env) (ESrcX prog w A h₀ L m env elt x y scope cl Q s) E s)
    (hs : ∀ x, foldedSetIterable iter env x = pure x := by intro _; rfl) :
    wpAny (model prog w) A (eval (.ListComp elt [⟨.Tuple [.Name x px, .Name y py] tkx tp, iter, [], 0⟩] scope pos) env) Q E s := by
  rw [eval_ListComp]
  refine wpAny_comprehension_free (use := none) rfl hs hclos hkind hnames (wpAny_mono h (fun xv s₁ h₁ => ?_) fun _ _ e => e)
  obtain ⟨vs, J, e, it, l, lo, news, hp, tk, rfl, rfl, S⟩ := h₁
  obtain ⟨nl, hld⟩ := S.ld
  have W := WalksT.enumerate (prog := prog) (w := w) (A := A) hh e it l S.ei S.le S.li vs.toArray
  have hl : hp.IsList l vs.toArray := ⟨lo, (S.N _ S.lm).1, S.lc, nl, hld⟩
  have hst : (∃ old, IsEnum hp e it (0 : Nat) old) ∧ hp.IsListIter it l 0 ∧ hp.IsList l vs.toArray := ⟨⟨_, S.en⟩, S.itr, hl⟩
  refine W.self 0 _ _ _ hst ?_
  have helt : e < hp.objs.size := Heap.lt_size S.en
  have hilt : it < hp.objs.size := by obtain ⟨_, q, _⟩ := S.itr; exact Heap.lt_size q
  have hllt : l < hp.objs.size := Heap.lt_size (S.N _ S.lm).1
  refine wpAny_newObj_type (wpAny_newFunctionEnv hcell (by intro y hy; simp at hy) (fun h₁ hns₁ hsb₁ => ?_) hkind)
  dsimp only at hns₁ hsb₁ ⊢
  generalize hD : hp.objs.size = D at hns₁ hsb₁ helt hilt hllt ⊢
  generalize hH2 : hp.push { cls := .type "list", dict := none, data := .seq ([] : List Value).toArray } = H2 at hns₁ hsb₁ ⊢
  generalize hC : H2.objs.size = C at hns₁ hsb₁ ⊢
  have eC : C = D + 1 := by rw [← hC, ← hH2, ← hD]; exact Heap.size_push ..
  have up2 : ∀ b o, hp.get? b = some o → H2.get? b = some o := fun b o e => hH2 ▸ Heap.get?_push_of_some _ e
  have up3 : ∀ b o, H2.get? b = some o → h₁.get? b = some o := fun b o e => hsb₁.extBut b o (by rw [← hC]; exact Nat.ne_of_lt (Heap.lt_size e)) (Heap.get?_push_of_some _ e)
  have up : ∀ b o, hp.get? b = some o → h₁.get? b = some o := fun b o e => up3 _ _ (up2 _ _ e)
  have hacc : h₁.get? D = some (LCg.lst []) := up3 _ _ (by rw [← hH2, ← hD]; exact Heap.get?_push_size _ rfl)
  have F3 := S.F.keeps up
  have N3 := S.N.grown up
  have hst3 : (∃ old, IsEnum h₁ e it (0 : Nat) old) ∧ h₁.IsListIter it l 0 ∧ h₁.IsList l vs.toArray := W.frame 0 _ _ hst fun b _ o q => up b o q
  have fresh₀ : ∀ a, D ≤ a → h₀.get? a = none := fun a ha => by
    cases q : h₀.get? a with
    | none => rfl
    | some o' =>
      have := S.F.keep a o' q
      exact absurd (Heap.lt_size this) (by rw [hD]; exact Nat.not_lt.mpr ha)
  have hLlt : L < D := hD ▸ S.F.ns.lt
  have hDCl : D < C := by rw [eC]; exact Nat.lt_succ_self _
  have hD₀ := fresh₀ D (Nat.le_refl _)
  have hC₀ := fresh₀ C (Nat.le_of_lt hDCl)
  have hDL : D ≠ L := Ne.symm (Nat.ne_of_lt hLlt)
  have hCL : C ≠ L := Ne.symm (Nat.ne_of_lt (Nat.lt_trans hLlt hDCl))
  have hDC : D ≠ C := Nat.ne_of_lt hDCl
  have heD : e ≠ D := Nat.ne_of_lt helt
  have hiD : it ≠ D := Nat.ne_of_lt hilt
  have hlD : l ≠ D := Nat.ne_of_lt hllt
  have heC : e ≠ C := Nat.ne_of_lt (Nat.lt_trans helt hDCl)
  have hiC : it ≠ C := Nat.ne_of_lt (Nat.lt_trans hilt hDCl)
  have hlC : l ≠ C := Nat.ne_of_lt (Nat.lt_trans hllt hDCl)
  have offlt : ∀ p ∈ news, (p.1 : Nat) < D := fun p hp' => hD ▸ Heap.lt_size (S.N p hp').1
  have off₀ : Off4 e it C D news := fun p hp' => ⟨(S.off p hp').1, (S.off p hp').2, Nat.ne_of_lt (Nat.lt_trans (offlt p hp') hDCl), Nat.ne_of_lt (offlt p hp')⟩
  have hno : ∀ b, b ∉ [e, it] ↔ b ≠ e ∧ b ≠ it := fun b => by simp
  have loop : ∀ s₃ : Shared, s₃ = { s with heap := h₁, toks := tk } →
      codeAny (model prog w) A (.compLoop (.ListComp elt [⟨.Tuple [.Name x px, .Name y py] tkx tp, iter, [], 0⟩] scope pos) 0 (.ref e) (.ref D) (compEnvC scope cl C env)) (compPost (model prog w) A E none Q (.ref D) C) s₃ := by
    rintro s₃ rfl
    refine LCp.codeAny_compLoop_pair (fun k s' => ∃ i ys m' h' tk' news', s' = { s with heap := h', toks := tk' } ∧ i ≤ vs.length ∧ k = vs.length + 1 - i ∧ ys.length = i ∧ ((∃ old, IsEnum h' e it (i : Nat) old) ∧ h'.IsListIter it l i ∧ h'.IsList l vs.toArray) ∧ Fr h₀ L h' m ∧ h'.Ns C m' ∧
      News h₀ L h' ((D, LCg.lst ys) :: news') ∧ Off4 e it C D news' ∧ (l, lo) ∈ news' ∧ J i ys news' tk') ?_ (vs.length + 1)
      ⟨0, [], _, h₁, tk, news, rfl, Nat.zero_le _, rfl, rfl, hst3, F3, hns₁, fun p hp' => ?_, off₀, S.lm, S.j0⟩
    · rintro k s' ⟨i, ys, m', h', tk', news', rfl, hi, rfl, hyl, hst', F', hn', N', off', lm', R'⟩
      by_cases hlt' : i < vs.length
      · refine wpAny_with_toks (n := tk') (Nat.le_refl _) ?_
        refine W.item i _ _ _ (by simpa using hlt') hst' fun T vals h₂ tk₂ hPt _ hT hMid hk₂ htk => ?_
        dsimp only
        obtain ⟨t, v, hv, rfl⟩ := hPt
        have hv' : vs[i]? = some v := by simpa using hv
        refine W.go _ _ _ i T _ _ _ hMid fun h₄ hst₄ hk₄ => ?_
        have hT₄ : IsTup h₄ T #[.int (i : Int) t, v] := hT.at fun o q => hk₄ T o (W.apart i T _ hMid) q
        refine assign_Tuple_tuple hh hT₄ rfl rfl fun h₅ he => ?_
        have he' : ∀ b o, h₄.get? b = some o → h₅.get? b = some o := fun b o e => he b o (Nat.ne_of_lt (Heap.lt_size e)) e
        have k5 : ∀ b o, b ≠ e → b ≠ it → h'.get? b = some o → h₅.get? b = some o := fun b o a1 a2 q => he' _ _ (hk₄ b o ((hno b).mpr ⟨a1, a2⟩) (hk₂ b o ((hno b).mpr ⟨a1, a2⟩) q))
        refine assignInOrder_cons (wpAny_assign_Name (wpAny_storeName_local (lookup_relabel_local hx) (hn'.at' fun o q => k5 _ o (Ne.symm heC) (Ne.symm hiC) q) (fun h₆ hn₆ hs₆ => ?_) (by simp [compEnvC, relabel, hkind])))
        refine assignInOrder_cons (wpAny_assign_Name (wpAny_storeName_local (lookup_relabel_local hy) hn₆ (fun h₃ hn₃ hs₃ => ?_) (by simp [compEnvC, relabel, hkind])))
        refine assignInOrder_nil ?_
        have k3 : ∀ b o, b ≠ C → h₅.get? b = some o → h₃.get? b = some o := fun b o hb q => hs₃.extBut b o hb (hs₆.extBut b o hb q)
        have hst₃ : (∃ old, IsEnum h₃ e it ((i + 1 : Nat) : Int) old) ∧ h₃.IsListIter it l (i + 1) ∧ h₃.IsList l vs.toArray := W.frame (i + 1) _ _ hst₄ fun b hb o q => k3 b o (fun c => by
          subst c
          simp only [List.mem_cons, List.not_mem_nil, or_false] at hb
          rcases hb with rfl | rfl | rfl
          · exact heC rfl
          · exact hiC rfl
          · exact hlC rfl) (he' b o q)
        obtain ⟨⟨oldE, hoE⟩, ⟨oI, hoI, hcI⟩, hl₃⟩ := id hst₃
        obtain ⟨oE, hoE'⟩ : ∃ oE, h₃.get? e = some oE := ⟨_, hoE⟩
        obtain ⟨oC, heCC, hoC⟩ := LCg.ns_obj hn₃
        have F₃ : Fr h₀ L h₃ m := ⟨F'.ns.at' fun o q => k3 _ o (Ne.symm hCL) (k5 _ o S.Le S.Li q), fun b o q => k3 b o (fun c => by rw [c, hC₀] at q; cases q) (k5 b o (fun c => by rw [c, S.e0] at q; cases q) (fun c => by rw [c, S.i0] at q; cases q) (F'.keep b o q)), F'.above⟩
        have N₃ : News h₀ L h₃ ((e, oE) :: (it, oI) :: (C, oC) :: (D, LCg.lst ys) :: news') := fun p hp' => by
          rcases List.mem_cons.mp hp' with rfl | hp'
          · exact ⟨hoE', Ne.symm S.Le, S.e0⟩
          rcases List.mem_cons.mp hp' with rfl | hp'
          · exact ⟨hoI, Ne.symm S.Li, S.i0⟩
          rcases List.mem_cons.mp hp' with rfl | hp'
          · exact ⟨heCC, hCL, hC₀⟩
          have z := N' p hp'
          have hp4 : p.1 ≠ e ∧ p.1 ≠ it ∧ p.1 ≠ C := by
            rcases List.mem_cons.mp hp' with rfl | hp''
            · exact ⟨Ne.symm heD, Ne.symm hiD, hDC⟩
            · have := off' p hp''; exact ⟨this.1, this.2.1, this.2.2.1⟩
          exact ⟨k3 _ _ hp4.2.2 (k5 _ _ hp4.1 hp4.2.1 z.1), z.2⟩
        refine wpAny_with_toks (n := tk₂ + 1 + 1) (Nat.le_refl _) ?_
        refine wpAny_mono (S.step i v ys news' tk' hv' R' oE oI C oC D _ h₃ _ t (Nat.le_succ_of_le (Nat.le_succ_of_le htk)) hoC (by simp [hxy]) (by simp) F₃ N₃ off') (fun z s₄ h₄' => ?_) fun _ _ q => q.elim
        obtain ⟨h₄x, tk₄, news₄, rfl, F₄, N₄, off₄, lm₄, R₄⟩ := h₄'
        intro htk4
        have zE := (N₄ (e, oE) List.mem_cons_self).1
        have zI := (N₄ (it, oI) (List.mem_cons_of_mem _ List.mem_cons_self)).1
        have zC := (N₄ (C, oC) (List.mem_cons_of_mem _ (List.mem_cons_of_mem _ List.mem_cons_self))).1
        have zD := (N₄ (D, LCg.lst ys) (List.mem_cons_of_mem _ (List.mem_cons_of_mem _ (List.mem_cons_of_mem _ List.mem_cons_self)))).1
        have N₄' : News h₀ L h₄x news₄ := fun p hp' => N₄ p (List.mem_cons_of_mem _ (List.mem_cons_of_mem _ (List.mem_cons_of_mem _ (List.mem_cons_of_mem _ hp'))))
        have hst₄x := W.frame (i + 1) _ _ hst₃ (fun b hb o q => by
          simp only [List.mem_cons, List.not_mem_nil, or_false] at hb
          rcases hb with rfl | rfl | rfl
          · have := q.symm.trans hoE'; cases this; exact zE
          · have := q.symm.trans hoI; cases this; exact zI
          · have := q.symm.trans (N₃ (b, lo) (List.mem_cons_of_mem _ (List.mem_cons_of_mem _ (List.mem_cons_of_mem _ (List.mem_cons_of_mem _ lm'))))).1; cases this; exact (N₄' _ lm₄).1)
        refine append_at (hsz := by show ys.toArray.size ≤ sizeLine; rw [List.size_toArray, hyl]; exact Nat.le_trans hi S.sz) zD fun h₅x hs₅ hD₅ => ?_
        refine ⟨vs.length + 1 - (i + 1), Nat.sub_lt_sub_left (Nat.lt_succ_of_lt hlt') (Nat.lt_succ_self i), i + 1, ys ++ [z], _, h₅x, tk₄, news₄, rfl, hlt', rfl, by rw [List.length_append, List.length_singleton, hyl], W.frame (i + 1) _ _ hst₄x (fun b hb o q => hs₅.extBut _ _ (fun c => by
            subst c
            simp only [List.mem_cons, List.not_mem_nil, or_false] at hb
            rcases hb with rfl | rfl | rfl
            · exact heD rfl
            · exact hiD rfl
            · exact hlD rfl) q), F₄.change hs₅ hDL hD₀, (hoC.ns zC).sameBut hs₅ (Ne.symm hDC), fun p hp' => ?_, off₄, lm₄, R₄ htk4⟩
        rcases List.mem_cons.mp hp' with rfl | hp'
        · exact ⟨hD₅.trans (congrArg some (LCg.lst_snoc ys z)), hDL, hD₀⟩
        · exact ⟨hs₅.extBut _ _ (off₄ p hp').2.2.2 (N₄' p hp').1, (N₄' p hp').2⟩
      · obtain rfl : i = vs.length := Nat.le_antisymm hi (Nat.not_lt.mp hlt')
        refine wpAny_with_toks (n := tk') (Nat.le_refl _) ?_
        refine W.done _ _ _ (by simpa using hst') fun h₂ tk₂ hk₂ htk => ?_
        dsimp only
        have k2 : ∀ b o, b ≠ e → b ≠ it → h'.get? b = some o → h₂.get? b = some o := fun b o a1 a2 q => hk₂ b o ((hno b).mpr ⟨a1, a2⟩) q
        refine ⟨_, hn'.at' fun o q => k2 _ o (Ne.symm heC) (Ne.symm hiC) q, fun h'' hs'' => ?_⟩
        have F₂ : Fr h₀ L h₂ m := ⟨F'.ns.at' fun o q => k2 _ o S.Le S.Li q, fun b o q => k2 b o (fun c => by rw [c, S.e0] at q; cases q) (fun c => by rw [c, S.i0] at q; cases q) (F'.keep b o q), F'.above⟩
        refine S.fin ys news' tk' R' D h'' _ htk (F₂.change hs'' hCL hC₀) (fun p hp' => ?_) (fun p hp' => (off' p hp').2.2.2)
        have z := N' p hp'
        refine ⟨hs''.extBut _ _ ?_ (k2 _ _ ?_ ?_ z.1), z.2⟩
        · rcases List.mem_cons.mp hp' with rfl | hp'
          · exact hDC
          · exact (off' p hp').2.2.1
        · rcases List.mem_cons.mp hp' with rfl | hp'
          · exact Ne.symm heD
          · exact (off' p hp').1
        · rcases List.mem_cons.mp hp' with rfl | hp'
          · exact Ne.symm hiD
          · exact (off' p hp').2.1
    · rcases List.mem_cons.mp hp' with rfl | hp'
      · exact ⟨hacc, hDL, hD₀⟩
      · exact N3 p hp'
  exact codeAny_compStart_list (loop _ rfl) (W.self 0 _ _ _ hst3 (loop _ rfl))
end

end
section
theorem name_ok : ∀ j, j < 27 → (plainT (nm j).cps ∧ (nm j).cps.size ≤ 2 ^ 18) ∧ plainT (numS j).cps ∧ (numS j).cps.size ≤ 2 ^ 18 := by unfold plainT; decide +kernel
theorem drawI_facts : ∀ (cs : List Int) (is : List Nat), cs.length ≤ is.length → is.Nodup → (drawI cs is).length = cs.length ∧ (drawI cs is).Nodup ∧ ∀ i ∈ drawI cs is, i ∈ is
  | [], _, _, _ => ⟨rfl, .nil, fun _ h => nomatch h⟩
  | c :: cs, is, hl, hn => by
    have hpos : 0 < is.length := by simp at hl; omega
    have hk : (c % (is.length : Int)).toNat < is.length := by
      have h1 := Int.emod_nonneg c (b := (is.length : Int)) (by omega)
      have h2 := Int.emod_lt_of_pos c (b := (is.length : Int)) (by omega)
      omega
    obtain ⟨h1, h2, h3⟩ := drawI_facts cs (is.eraseIdx (c % (is.length : Int)).toNat) (by rw [List.length_eraseIdx_of_lt hk]; simp at hl; omega) (hn.sublist (List.eraseIdx_sublist ..))
    have hg : is.getD (c % (is.length : Int)).toNat 0 = is[(c % (is.length : Int)).toNat] := by simp [hk]
    refine ⟨by simp [drawI, h1], ?_, ?_⟩
    · refine List.nodup_cons.mpr ⟨fun hm => ?_, h2⟩
      have hm' := h3 _ hm
      rw [hg] at hm'
      obtain ⟨j, hj, hne, e⟩ := List.mem_eraseIdx_iff_getElem.mp hm'
      exact hne ((List.getElem_inj hn).mp e)
    · intro i hi
      rcases List.mem_cons.mp hi with rfl | hi
      · rw [hg]; exact List.getElem_mem hk
      · exact List.mem_of_mem_eraseIdx (h3 i hi)
theorem strs_nms (ts : List Tok) (h : ts.length = 27) : strsV namesL ts = nmsV (fun i => ts.getD i 0) (List.range 27) := by
  have hl : namesL.length = 27 := by decide +kernel
  apply List.ext_getElem
  · simp [strsV, nmsV, hl, h]
  · intro i h1 h2
    have hi : i < 27 := by simpa [nmsV] using h2
    simp [strsV, nmsV, nm, hl, h, hi]
theorem names2_sp (w : World) :
  Sp 4 w 266 ⟨[], []⟩ [] (fun _ _ => True) (fun h _ r h' _ => ∃ D tkF n, r = .ref D ∧ h'.get? D = some (W.listOf (nmsV tkF (List.range 27)).toArray n) ∧ h.get? D = none) := by
  intro p loose mean mg mb dp un fr gd h₀ s R X T hk hN hdp hun hpre ret
  refine names_sp w p loose mean mg mb dp un fr gd h₀ s R X T hk hN hdp hun hpre fun r h' tk' hK ht hp => ret r h' tk' hK ht ?_
  obtain ⟨D, ts, h1, h2, h3, h4⟩ := hp
  exact ⟨D, _, _, h1, by rw [h2, strs_nms ts h3], h4⟩
theorem drawn2_sp (w : World) (lc ln : Addr) (cs : List Int) (tkF : Nat → Tok) (ds : List Nat) (hds : drawI cs (List.range 27) = ds) :
  Sp 4 w 273 ⟨[.ref lc, .ref ln], []⟩ [] (fun h _ => (∃ vs, h.IsList lc vs.toArray ∧ IntsAre vs cs) ∧ h.IsList ln (nmsV tkF (List.range 27)).toArray ∧ (∀ c ∈ cs, 0 ≤ c ∧ c ≤ 10 ^ 6) ∧ cs.length ≤ 8)
    (fun h _ r h' _ => ∃ D n, r = .ref D ∧ h'.get? D = some (W.listOf (nmsV tkF ds).toArray n) ∧ h.get? D = none) := by
  intro p loose mean mg mb dp un fr gd h₀ s R X T hk hN hdp hun hpre ret
  obtain ⟨⟨vs, hv, hi⟩, hl, hb, h8⟩ := hpre
  obtain ⟨ts, rfl, hts⟩ := ints_of hi
  subst hds
  exact drawn_sp w lc ln cs ts tkF (List.range 27) hts p loose mean mg mb dp un fr gd h₀ s R X T hk hN hdp hun ⟨hv, hl, hb, h8, by simp; omega, by simp⟩ fun r h' tk' hK ht hp => ret r h' tk' hK ht hp
theorem shown2_sp (w : World) (lh x : Addr) (tkF : Nat → Tok) (is : List Nat) (rows : List Row) (a b c d : Nat) (hs : shownI is = ([a, b, c], d)) :
  Sp 8 w 283 ⟨[.ref lh, .ref x], []⟩ [] (fun h t₀ => h.IsList lh (nmsV tkF is).toArray ∧ (Deck w h x rows ∧ DeckRows rows) ∧ is.length = 4 ∧ is.Nodup ∧ (∀ i ∈ is, i < 27) ∧ 0 < t₀)
    (fun h _ r h' _ => ∃ R S n, r = .ref R ∧ h'.get? R = some { cls := .type "tuple", data := .seq #[.ref S, .str (nm d) (tkF d)] } ∧ h'.get? S = some (W.listOf #[.str (nm a) (tkF a), .str (nm b) (tkF b), .str (nm c) (tkF c)] n) ∧ h.get? R = none ∧ h.get? S = none) := by
  intro p loose mean mg mb dp un fr gd h₀ s R X T hk hN hdp hun hpre ret
  refine shown_sp w lh x tkF is rows p loose mean mg mb dp un fr gd h₀ s R X T hk hN hdp hun hpre fun r h' tk' hK ht hp => ret r h' tk' hK ht ?_
  rw [hs] at hp
  exact hp
theorem told2_sp (w : World) (lr x ln : Addr) (tkF : Nat → Tok) (rows : List Row) (turns : Int) (a b c d : Nat) (t1 t2 t3 t4 : Tok) (hd' : toldI a b c = d) :
  Sp 8 w 293 ⟨[.ref lr, .ref x, .ref ln], []⟩ []
    (fun h t₀ => h.IsList lr #[.str (rowS turns.toNat (Str.ofString ".w")) t1, .str (rowS turns.toNat (Txt.lower (nm a))) t2, .str (rowS turns.toNat (Txt.upper (nm b))) t3, .str (rowS turns.toNat (Txt.lower (nm c))) t4] ∧ h.IsList ln (nmsV tkF (List.range 27)).toArray ∧ (Deck w h x rows ∧ DeckRows rows) ∧ (1 ≤ turns ∧ turns ≤ 3) ∧ (a < 27 ∧ b < 27 ∧ c < 27) ∧ d < 27)
    (fun h _ r h' _ => r = .str (nm d) (tkF d)) := by
  intro p loose mean mg mb dp un fr gd h₀ s R X T hk hN hdp hun hpre ret
  obtain ⟨h1, h2, h3, h4, h5, h6⟩ := hpre
  subst hd'
  exact told_sp w lr x ln tkF rows turns.toNat a b c t1 t2 t3 t4 p loose mean mg mb dp un fr gd h₀ s R X T hk hN hdp hun ⟨h1, h2, h3, by omega, h5, h6⟩ ret
noncomputable def rowObjs (rows : List Row) : List (Addr × Obj) := rows.map fun r => (r.1, tupO r.2.1.1 r.2.1.2 r.2.2.1 r.2.2.2)
theorem deck_of {w : World} {g h : Heap} {L x dx l : Addr} {tk : Tok} {rows : List Row} {news : List (Addr × Obj)} {n : Nat} (N : News g L h news) (m1 : (x, instObj 257 dx) ∈ news) (m2 : (dx, hdD w l tk) ∈ news) (m3 : (l, W.listOf (rowsV rows).toArray n) ∈ news) (m4 : ∀ p ∈ rowObjs rows, p ∈ news) : Deck w h x rows :=
  ⟨dx, l, tk, News.get N m1, News.get N m2, News.isList N m3, fun r hr => News.isTup N (m4 (r.1, tupO r.2.1.1 r.2.1.2 r.2.2.1 r.2.2.2) (List.mem_map_of_mem hr))⟩
theorem deckRows_ok {rows : List Row} (h : DeckRows rows) : RowsOk rows := by
  intro r hr
  have hm : (r.2.1.1, r.2.2.1) ∈ (List.range 27).map fun j => (nm j, numS j) := by rw [← h]; exact List.mem_map_of_mem hr
  obtain ⟨j, hj, e⟩ := List.mem_map.mp hm
  have hj : j < 27 := by simpa using hj
  have e1 : nm j = r.2.1.1 := (Prod.mk.inj e).1
  have e2 : numS j = r.2.2.1 := (Prod.mk.inj e).2
  rw [← e1, ← e2]
  exact name_ok j hj
theorem drawn3_sp (w : World) (lc ln : Addr) (cs : List Int) (tkF : Nat → Tok) (a b c : Nat) (hds : drawI cs (List.range 27) = [a, b, c]) :
  Sp 4 w 273 ⟨[.ref lc, .ref ln], []⟩ [] (fun h _ => (∃ vs, h.IsList lc vs.toArray ∧ IntsAre vs cs) ∧ h.IsList ln (nmsV tkF (List.range 27)).toArray ∧ (∀ c ∈ cs, 0 ≤ c ∧ c ≤ 10 ^ 6) ∧ cs.length ≤ 8)
    (fun h _ r h' _ => ∃ D n, r = .ref D ∧ h'.get? D = some (W.listOf #[.str (nm a) (tkF a), .str (nm b) (tkF b), .str (nm c) (tkF c)] n) ∧ h.get? D = none) := by
  intro p loose mean mg mb dp un fr gd h₀ s R X T hk hN hdp hun hpre ret
  exact drawn2_sp w lc ln cs tkF [a, b, c] hds p loose mean mg mb dp un fr gd h₀ s R X T hk hN hdp hun hpre ret
theorem shownB_sp (w : World) (lh x : Addr) (tkF : Nat → Tok) (rows : List Row) (a b c d : Nat) (hs : shownI [d, c, b, a] = ([a, b, c], d)) :
  Sp 8 w 283 ⟨[.ref lh, .ref x], []⟩ [] (fun h t₀ => h.IsList lh #[.str (nm d) (tkF d), .str (nm c) (tkF c), .str (nm b) (tkF b), .str (nm a) (tkF a)] ∧ (Deck w h x rows ∧ DeckRows rows) ∧ [d, c, b, a].Nodup ∧ (∀ i ∈ [d, c, b, a], i < 27) ∧ 0 < t₀)
    (fun h _ r h' _ => ∃ R S n, r = .ref R ∧ h'.get? R = some { cls := .type "tuple", data := .seq #[.ref S, .str (nm d) (tkF d)] } ∧ h'.get? S = some (W.listOf #[.str (nm a) (tkF a), .str (nm b) (tkF b), .str (nm c) (tkF c)] n) ∧ h.get? R = none ∧ h.get? S = none) := by
  intro p loose mean mg mb dp un fr gd h₀ s R X T hk hN hdp hun hpre ret
  obtain ⟨h1, h2, h3, h4, h5⟩ := hpre
  exact shown2_sp w lh x tkF [d, c, b, a] rows a b c d hs p loose mean mg mb dp un fr gd h₀ s R X T hk hN hdp hun ⟨h1, h2, rfl, h3, h4, h5⟩ ret
theorem dots_eq {n : Int} (h : 1 ≤ n ∧ n ≤ 3) : rowS n.toNat (Str.ofString ".w") = Txt.mul (Str.ofString ".") n ++ Str.ofString ".w" := by
  have : n = 1 ∨ n = 2 ∨ n = 3 := by omega
  rcases this with rfl | rfl | rfl <;> decide +kernel
theorem mul_ok {n : Int} (h : 1 ≤ n ∧ n ≤ 3) : MulOk (Str.ofString ".") n ∧ (Txt.mul (Str.ofString ".") n).length + (Str.ofString ".w").length ≤ sizeLine := by
  have : n = 1 ∨ n = 2 ∨ n = 3 := by omega
  unfold MulOk
  rcases this with rfl | rfl | rfl <;> decide +kernel
theorem ne_false {prog : Program} {w : World} {A : Around} {E : Value → Shared → Prop} {s : Shared} {x y : Str} {t u : Tok} {Q : Value → Shared → Prop} (e : x = y) (h : Q (.bool false) s) : wpAny (model prog w) A (compareOp .NotEq (.str x t) (.str y u)) Q E s := by
  subst e
  exact PyProof.Rows.ne_str (by simpa using h)
theorem ends_item {prog : Program} {w : World} {A : Around} {E : Value → Shared → Prop} {s : Shared} {value slice : PySem.Expr} {l : Addr} {ta tb tc : Tok} {k : Int} {u : Tok} {Q : Value → Shared → Prop} (hl : s.heap.IsList l #[.str (Str.ofString "\n") ta, .str (Str.ofString "\x0d") tb, .str (Str.ofString "\x0d\n") tc])
    (h0 : 0 ≤ k ∧ k < 3) (hab : @LE.le Nat _ ta tb) (hbc : @LE.le Nat _ tb tc) (h : ∀ en te, EndOk en → @LE.le Nat _ ta te → @LE.le Nat _ te tc → Q (.str en te) s)
    (hs : subscripted slice false (.ref l) (.int k u) = operate [.ref l, .int k u] (getItem (.ref l) (.int k u)) := by with_unfolding_all rfl) (hg : ∀ r, letTemporaryGo value (.ref l) r = pure () := by intro _; with_unfolding_all rfl) :
    wpAny (model prog w) A (subscriptTail value slice (.ref l) (.int k u)) Q E s := by
  have h3 : k = 0 ∨ k = 1 ∨ k = 2 := by omega
  rcases h3 with rfl | rfl | rfl
  · exact item_listL hl (by decide) (by decide) rfl (h _ _ (.inl (by decide +kernel)) (Nat.le_refl _) (Nat.le_trans hab hbc)) hs hg
  · exact item_listL hl (by decide) (by decide) rfl (h _ _ (.inr (.inl (by decide +kernel))) hab hbc) hs hg
  · exact item_listL hl (by decide) (by decide) rfl (h _ _ (.inr (.inr (by decide +kernel))) (Nat.le_trans hab hbc) (Nat.le_refl _)) hs hg
theorem nm_inj {i j : Nat} (hi : i < 27) (hj : j < 27) (h : i ≠ j) : (nm i == nm j) = false := by
  have h1 := low_inj i hi j hj
  cases hb : nm i == nm j
  · rfl
  · have e : nm i = nm j := eq_of_beq hb
    rw [e, beq_self_eq_true] at h1
    exact absurd (of_decide_eq_true h1.symm) h
theorem notin3 {prog : Program} {w : World} {A : Around} {E : Value → Shared → Prop} {s : Shared} {l : Addr} {ta tb tc t : Tok} {a b c k : Nat} {Q : Value → Shared → Prop} (hl : s.heap.IsList l #[.str (nm a) ta, .str (nm b) tb, .str (nm c) tc])
    (hk : k < 27 ∧ (a < 27 ∧ b < 27 ∧ c < 27) ∧ (k ≠ a ∧ k ≠ b ∧ k ≠ c)) (h : Q (.bool true) s) : wpAny (model prog w) A (compareOp .NotIn (.str (nm k) t) (.ref l)) Q E s := by
  obtain ⟨h0, ⟨h1, h2, h3⟩, h4, h5, h6⟩ := hk
  refine notin_list_strs (vs := [.str (nm a) ta, .str (nm b) tb, .str (nm c) tc]) (ys := [nm a, nm b, nm c]) hl (.cons _ _ (.cons _ _ (.cons _ _ .nil))) ?_
  simp [nm_inj h1 h0 (Ne.symm h4), nm_inj h2 h0 (Ne.symm h5), nm_inj h3 h0 (Ne.symm h6), h]
theorem fmod3 (c : Int) : 0 ≤ c.fmod 3 ∧ c.fmod 3 < 3 := ⟨Int.fmod_nonneg_of_pos c (by decide), Int.fmod_lt_of_pos c (by decide)⟩
theorem turn3 (c : Int) : 1 ≤ c.fmod 3 + 1 ∧ c.fmod 3 + 1 ≤ 3 := by have := fmod3 c; omega
theorem News.two {g h : Heap} {L : Addr} {p q : Addr × Obj} {r : List (Addr × Obj)} (N : News g L h (p :: q :: r)) : News g L h [p, q] := fun x hx => N x (by
  rcases List.mem_cons.mp hx with rfl | hx
  · exact .head _
  · rw [List.mem_singleton.mp hx]; exact .tail _ (.head _))

end
section
theorem News.sub {g h : Heap} {L : Addr} {a b : List (Addr × Obj)} (N : News g L h a) (hs : ∀ p ∈ b, p ∈ a) : News g L h b := fun p hp => N p (hs p hp)
section
variable {prog : Program} {w : World} {A : Around} {s : Shared} {h₀ : Heap} {L : Addr} {m : Str → Option Value} {env : Env} {elt : PySem.Expr} {x y : Str} {scope : Scope} {cl : List (Str × Addr)} {Q : Value → Shared → Prop}
noncomputable def EFin (h₀ : Heap) (L : Addr) (m : Str → Option Value) (s : Shared) (e it C D : Addr) (news : List (Addr × Obj)) (i : Nat) (z : Value) (s' : Shared) : Prop :=
  ∃ h' tk' T tn tv, z = .ref T ∧ s' = { s with heap := h', toks := tk' } ∧ Fr h₀ L h' m ∧ News h₀ L h' ((T, tupO (nm i) tn (numS i) tv) :: news) ∧ (@LT.lt Nat _ e T ∧ @LT.lt Nat _ it T ∧ @LT.lt Nat _ C T ∧ @LT.lt Nat _ D T)
theorem EFin.intro {e it C D : Addr} {news : List (Addr × Obj)} {i : Nat} {h' : Heap} {tk' : Nat} {T : Addr} {tn tv : Tok} (F : Fr h₀ L h' m) (N : News h₀ L h' ((T, tupO (nm i) tn (numS i) tv) :: news)) (h1 : @LT.lt Nat _ e T) (h2 : @LT.lt Nat _ it T) (h3 : @LT.lt Nat _ C T) (h4 : @LT.lt Nat _ D T) :
    EFin h₀ L m s e it C D news i (.ref T) { s with heap := h', toks := tk' } := ⟨h', tk', T, tn, tv, rfl, rfl, F, N, h1, h2, h3, h4⟩
theorem rowObjs_snoc (rows : List Row) (r : Row) : rowObjs (rows ++ [r]) = rowObjs rows ++ [(r.1, tupO r.2.1.1 r.2.1.2 r.2.2.1 r.2.2.2)] := by simp [rowObjs]
theorem esrc_mk {l : Addr} {tkF : Nat → Tok} {n : Nat} {base : List (Addr × Obj)} {h hE : Heap} {tk : Nat} (h0 : 0 < tk)
    (F : Fr h₀ L h m) (N : News h₀ L h ((l, W.listOf (nmsV tkF (List.range 27)).toArray n) :: base)) (eE : IsEnum hE (h.objs.size + 1) h.objs.size 0 .none) (eI : hE.IsListIter h.objs.size l 0) (eK : ∀ b o, h.get? b = some o → hE.get? b = some o)
    (step : ∀ (i : Nat) (rows : List Row), i < 27 → ∀ e it oE oI C oC D m₂ h tk t, 0 < tk → LCg.NsObj oC m₂ → m₂ x = some (.int (i : Int) t) → m₂ y = some (.str (nm i) (tkF i)) → Fr h₀ L h m →
      News h₀ L h ((e, oE) :: (it, oI) :: (C, oC) :: (D, W.listOf (rowsV rows).toArray (rowsV rows).length) :: (l, W.listOf (nmsV tkF (List.range 27)).toArray n) :: (base ++ rowObjs rows)) →
      wpAny (model prog w) A (eval elt (compEnvC scope cl C env)) (EFin h₀ L m s e it C D ((e, oE) :: (it, oI) :: (C, oC) :: (D, W.listOf (rowsV rows).toArray (rowsV rows).length) :: (l, W.listOf (nmsV tkF (List.range 27)).toArray n) :: (base ++ rowObjs rows)) i) (fun _ _ => False) { s with heap := h, toks := tk })
    (fin : ∀ rows, rows.length = 27 → DeckRows rows → ∀ D h tk', tk ≤ tk' → Fr h₀ L h m → News h₀ L h ((D, W.listOf (rowsV rows).toArray (rowsV rows).length) :: (l, W.listOf (nmsV tkF (List.range 27)).toArray n) :: (base ++ rowObjs rows)) → Q (.ref D) { s with heap := h, toks := tk' }) :
    ESrcX prog w A h₀ L m env elt x y scope cl Q s (.ref (h.objs.size + 1)) { s with heap := hE, toks := tk } := by
  have hLs : L < h.objs.size := F.ns.lt
  have hl := N _ (.head _)
  have hls : l < h.objs.size := Heap.lt_size hl.1
  have new : ∀ b, h.objs.size ≤ b → h₀.get? b = none := fun b hb => by
    cases q : h₀.get? b with
    | none => rfl
    | some o => exact absurd (Heap.lt_size (F.keep b o q)) (Nat.not_lt.mpr hb)
  refine ⟨nmsV tkF (List.range 27), fun i ys news T => ∃ rows, ys = rowsV rows ∧ rows.length = i ∧ rows.map (fun r => (r.2.1.1, r.2.2.1)) = (List.range i).map (fun j => (nm j, numS j)) ∧ news = (l, W.listOf (nmsV tkF (List.range 27)).toArray n) :: (base ++ rowObjs rows) ∧ tk ≤ T,
    h.objs.size + 1, h.objs.size, l, W.listOf (nmsV tkF (List.range 27)).toArray n, (l, W.listOf (nmsV tkF (List.range 27)).toArray n) :: base, hE, tk, rfl, rfl, ?_⟩
  refine ⟨Nat.succ_ne_self _, Nat.ne_of_lt (Nat.lt_succ_of_lt hls), Nat.ne_of_lt hls, Nat.ne_of_lt (Nat.lt_succ_of_lt hLs), Nat.ne_of_lt hLs, new _ (Nat.le_succ _), new _ (Nat.le_refl _), fun p hp => ⟨Nat.ne_of_lt (Nat.lt_succ_of_lt (Heap.lt_size (N p hp).1)), Nat.ne_of_lt (Heap.lt_size (N p hp).1)⟩,
    eE, eI, F.keeps eK, N.grown eK, .head _, rfl, ⟨_, rfl⟩, by simp [nmsV, sizeLine], ⟨[], rfl, rfl, rfl, by simp [rowObjs], Nat.le_refl _⟩, ?_, ?_⟩
  · rintro i v ys news T hv ⟨rows, rfl, hlen, hrows, rfl, hT⟩ oE oI C oC D m₂ h₂ tk₂ t hTk hC hx hy F₂ N₂ off
    have hi : i < 27 := by
      rcases Nat.lt_or_ge i 27 with q | q
      · exact q
      · rw [List.getElem?_eq_none (by simpa [nmsV] using q)] at hv; cases hv
    have hv' : v = .str (nm i) (tkF i) := by simpa [nmsV, hi] using hv.symm
    subst hv'
    refine wpAny_with_toks (n := tk₂) (Nat.le_refl _) ?_
    refine wpAny_mono (step i rows hi (h.objs.size + 1) h.objs.size oE oI C oC D m₂ h₂ tk₂ t (Nat.lt_of_lt_of_le h0 (Nat.le_trans hT hTk)) hC hx hy F₂ N₂) (fun z s' hz => ?_) fun _ _ q => q.elim
    obtain ⟨h₃, tk₃, Tn, tn, tv, rfl, rfl, F₃, N₃, l1, l2, l3, l4⟩ := hz
    intro hle
    refine ⟨h₃, tk₃, (l, W.listOf (nmsV tkF (List.range 27)).toArray n) :: (base ++ rowObjs (rows ++ [(Tn, (nm i, tn), (numS i, tv))])), rfl, F₃, News.sub N₃ ?_, ?_, .head _, ?_⟩
    · intro p hp
      rw [rowObjs_snoc] at hp
      simp only [List.mem_cons, List.mem_append, List.not_mem_nil, or_false] at hp ⊢
      rcases hp with q | q | q | q | q | q | q | q
      · exact .inr (.inl q)
      · exact .inr (.inr (.inl q))
      · exact .inr (.inr (.inr (.inl q)))
      · exact .inr (.inr (.inr (.inr (.inl q))))
      · exact .inr (.inr (.inr (.inr (.inr (.inl q)))))
      · exact .inr (.inr (.inr (.inr (.inr (.inr (.inl q))))))
      · exact .inr (.inr (.inr (.inr (.inr (.inr (.inr q))))))
      · exact .inl q
    · intro p hp
      rw [rowObjs_snoc] at hp
      simp only [List.mem_cons, List.mem_append, List.not_mem_nil, or_false] at hp
      rcases hp with q | q | q | q
      · exact off p (by rw [q]; exact .head _)
      · exact off p (.tail _ (List.mem_append_left _ q))
      · exact off p (.tail _ (List.mem_append_right _ q))
      · rw [q]; exact ⟨Nat.ne_of_gt l1, Nat.ne_of_gt l2, Nat.ne_of_gt l3, Nat.ne_of_gt l4⟩
    · intro hle2
      refine ⟨rows ++ [(Tn, (nm i, tn), (numS i, tv))], by simp [rowsV], by simp [hlen], ?_, rfl, Nat.le_trans hT (Nat.le_trans hTk hle2)⟩
      rw [List.map_append, hrows, List.range_succ, List.map_append]; rfl
  · rintro ys news T ⟨rows, rfl, hlen, hrows, rfl, hT⟩ D h₂ tk₂ hTk F₂ N₂ off
    have h27 : (nmsV tkF (List.range 27)).length = 27 := by simp [nmsV]
    rw [h27] at hlen hrows
    exact fin rows hlen hrows D h₂ tk₂ (Nat.le_trans hT hTk) F₂ N₂
end

end
section
theorem strOk_nm : ∀ i, i < 27 → PyData.canLay0 (.str (nm i)) = true := by decide +kernel
theorem eq_pairs {prog : Program} {w : World} {A : Around} {E : Value → Shared → Prop} {s : Shared} {h₀ : Heap} {L : Addr} {news : List (Addr × Obj)} {R1 S1 R2 S2 : Addr} {a b c d : Nat} {p1 p2 p3 p4 q1 q2 q3 q4 : Tok} {n1 n2 k1 k2 : Nat} {Q : Value → Shared → Prop}
    (N : News h₀ L s.heap news) (m1 : (R1, ({ cls := .type "tuple", data := .seq #[.ref S1, .str (nm d) p4] k1 } : Obj)) ∈ news) (m2 : (S1, W.listOf #[.str (nm a) p1, .str (nm b) p2, .str (nm c) p3] n1) ∈ news)
    (m3 : (R2, ({ cls := .type "tuple", data := .seq #[.ref S2, .str (nm d) q4] k2 } : Obj)) ∈ news) (m4 : (S2, W.listOf #[.str (nm a) q1, .str (nm b) q2, .str (nm c) q3] n2) ∈ news)
    (hb : d < 27 ∧ (a < 27 ∧ b < 27 ∧ c < 27)) (hu : A.units + 64 < cLine) (h : Q (.bool true) s) : wpAny (model prog w) A (compareOp .Eq (.ref R1) (.ref R2)) Q E s := by
  obtain ⟨hd', ha, hb, hc⟩ := hb
  have e1 := strOk_nm a ha
  have e2 := strOk_nm b hb
  have e3 := strOk_nm c hc
  have e4 := strOk_nm d hd'
  have hsh : SeqAt.shaped (.tuple [.list [.str (nm a), .str (nm b), .str (nm c)], .str (nm d)]) = true := by
    simp only [PyData.canLay0] at e1 e2 e3 e4
    simp [SeqAt.shaped, PyData.canLay0, PyData.canLayAll0, PyData.depth, PyData.depthAll, e1, e2, e3, e4]
  refine eq_dataH (reads_tuple_at (News.get N m1) rfl rfl (ReadsAll.cons (reads_list_at (News.get N m2) rfl rfl (.cons (Reads.str _ _) (.cons (Reads.str _ _) (.cons (Reads.str _ _) .nil)))) (ReadsAll.cons (Reads.str _ _) ReadsAll.nil)))
    (reads_tuple_at (News.get N m3) rfl rfl (ReadsAll.cons (reads_list_at (News.get N m4) rfl rfl (.cons (Reads.str _ _) (.cons (Reads.str _ _) (.cons (Reads.str _ _) .nil)))) (ReadsAll.cons (Reads.str _ _) ReadsAll.nil))) hsh hsh hu ?_
  simp [PyData.eqv, PyData.eqvAll, h]

end
section
local macro_rules | `(tactic| k_qdec) => `(tactic| decide +kernel)
local macro_rules | `(tactic| ktr_room) => `(tactic| exact Nat.le_of_ble_eq_true rfl)
local macro_rules | `(tactic| ktr_units) => `(tactic| exact Nat.le_of_ble_eq_true rfl)
section
variable {w : World} {p : Program} {loose : List Str} {mean : ExcName → Option Value} {mg mb : Str → Option Value} {dp un : Nat} {fr : Option (List Env)} {gd : Option (List Code)} {h₀ : Heap} {s : Shared} {f : Addr}
theorem Sp.useK {k : Nat} {vs : List Value} {kw : List (Str × Value)} {pre : Heap → Nat → Prop} {post : Heap → Nat → Value → Heap → Nat → Prop} {L l : Addr} {o : Obj} {m : Str → Option Value} {news : List (Addr × Obj)} {Q E : Value → Shared → Prop}
    (C : Sp k w f ⟨vs, kw⟩ [(l, o)] pre post) (F : Fr h₀ L s.heap m) (X : (hd.heap_1 w.params).In h₀) (N : News h₀ L s.heap news) (T : Top p loose mean mg mb h₀)
    (hm : (l, o) ∈ news) (hdp : dp + k < recursionLimit) (hun : un + 10 * k < cLine) (hpre : pre s.heap s.toks) (hsame : ∀ r h' tk', post s.heap s.toks r h' tk' → h'.get? l = some o)
    (ret : ∀ r h' tk', Fr h₀ L h' m → News h₀ L h' news → s.toks ≤ tk' → post s.heap s.toks r h' tk' → Q r { s with heap := h', toks := tk' }) :
    wpAny (model PySem.Challenge.pw_tp0036_01 w) (AR dp un fr gd) (call (.ref f) vs kw) Q E s := by
  have hl := N _ hm
  refine wpAny_call (C p loose mean mg mb dp un fr gd h₀ s _ X T F.keep (fun q hq => ?_) hdp hun hpre fun r h' tk' hK ht hp => ret r h' tk' ?_ ?_ ht hp)
  · rcases List.mem_cons.mp hq with rfl | hq
    · exact ⟨hl.1, hl.2.2⟩
    · cases hq
  · obtain ⟨oL, es, ep, hLo, r⟩ := F.ns
    refine ⟨⟨oL, es, ep, hK L oL (by simpa using Ne.symm hl.2.1) hLo, r⟩, fun b ob e => hK b ob (fun q => ?_) (F.keep b ob e), F.above⟩
    have : b = l := by simpa using q
    subst this
    rw [hl.2.2] at e; cases e
  · intro q hq
    have hq' := N q hq
    refine ⟨?_, hq'.2⟩
    by_cases e : q.1 = l
    · have h1 := hq'.1
      rw [e] at h1
      have h2 : some q.2 = some o := h1.symm.trans hl.1
      rw [e, h2]
      exact hsame _ _ _ hp
    · exact hK _ _ (by simpa using e) hq'.1
end
theorem News.del0 {g h : Heap} {L : Addr} {a : Addr × Obj} {l : List (Addr × Obj)} (N : News g L h (a :: l)) : News g L h l := fun q hq => N q (.tail _ hq)
theorem News.del1 {g h : Heap} {L : Addr} {a b : Addr × Obj} {l : List (Addr × Obj)} (N : News g L h (a :: b :: l)) : News g L h (a :: l) := fun q hq => N q (by rcases List.mem_cons.mp hq with rfl | hq; exact .head _; exact .tail _ (.tail _ hq))
theorem gen_post {M : Model} {A : Around} {m : Sem Flow} {Q : Flow → Shared → Prop} {E : Value → Shared → Prop} {s : Shared} (h : ∀ Q0 : Flow → Shared → Prop, (∀ f s', Q f s' → Q0 f s') → ∀ E0 : Value → Shared → Prop, wpAny M A m Q0 E0 s) : wpAny M A m Q E s := h Q (fun _ _ q => q) E
theorem pos_of {a b : Nat} (h : a + 1 ≤ b) : 0 < b := Nat.lt_of_lt_of_le (Nat.succ_pos _) h
theorem ne0_of {a b : Nat} (h : a + 1 ≤ b) : b ≠ 0 := Nat.ne_of_gt (pos_of h)
theorem fmod_ok (c : Int) : 0 ≤ c.fmod (10 ^ Int.toNat 6) ∧ c.fmod (10 ^ Int.toNat 6) < 10 ^ 6 := ⟨Int.fmod_nonneg_of_pos c (by decide), Int.fmod_lt_of_pos c (by decide)⟩
theorem ints8 {a b c d e f g h : Int} {t1 t2 t3 t4 t5 t6 t7 t8 : Tok} : IntsAre [.int a t1, .int b t2, .int c t3, .int d t4, .int e t5, .int f t6, .int g t7, .int h t8] [a, b, c, d, e, f, g, h] := .cons _ _ (.cons _ _ (.cons _ _ (.cons _ _ (.cons _ _ (.cons _ _ (.cons _ _ (.cons _ _ .nil)))))))
local macro_rules | `(tactic| walk_at "binaryOp Add ref ref") => `(tactic| (k_here; k_dflt (refine kmk_add_ints (by k_asm) (by k_asm) (News.isList (by k_asm) (by k_mem)) (News.isList (by k_asm) (by k_mem)) (by with_reducible assumption) ints8 ?_ (by with_reducible assumption)); intro D' ws' h' F' N' l1 hI'; (try k_lt l1)))


theorem sz_of {vs : List Value} {ns : List Int} (h : IntsAre vs ns) (hl : ns.length ≤ 100) : vs.toArray.size ≤ sizeLine := by
  have := h.length
  rw [show sizeLine = 16777216 from rfl]; simp; omega
local macro_rules | `(tactic| walk_at "subscriptTail") => `(tactic| (k_here; (with_reducible show wpAny _ _ (subscriptTail (PySem.Expr.BinOp _ _ _ _) _ (Value.ref _) (Value.ref _)) _ _ _); k_dflt (refine kba_turn (value' := PySem.Expr.Name (PySem.Str.ofString "_") ⟨0, 0, 0, 0⟩) (fun _ => rfl) ?_)))
local macro_rules | `(tactic| walk_at "subscriptTail Name Slice ref ref") => `(tactic| (k_here; k_dflt (refine kmk_slice_ints (by k_asm) (by k_asm) (News.isList (by k_asm) (by k_mem)) (by kmk_part) (by kmk_part) (by with_reducible assumption) (slice_ints_uptoW (by with_reducible assumption) (by decide)) (by exact rfl) ?_ (by with_unfolding_all rfl) (by kmk_pure) (sz_of (by with_reducible assumption) (by with_reducible assumption))); intro D' ws' h' F' N' l1 hI' hC' hL'; (try k_lt l1)))
local macro_rules | `(tactic| walk_at "eval ListComp") => `(tactic| (k_here; (with_reducible show wpAny _ _ (eval (Expr.ListComp _ [⟨Expr.Tuple _ _ _, _, _, _⟩] _ _) _) _ _ _); k_dflt (refine compE (by k_asm) rfl rfl (by decide) rfl (by decide) rfl rfl (by decide) ?_)))
local macro_rules | `(tactic| walk_at "call type:enumerate") => `(tactic| (k_here; k_dflt (refine call_enumerate_list (News.isList (by k_asm) (by k_mem)) ?_); intro hE9 eE9 eI9 eS9 eK9))


theorem rowsIn_of {g h : Heap} {L : Addr} {rows : List Row} {news : List (Addr × Obj)} (N : News g L h news) (m4 : ∀ p ∈ rowObjs rows, p ∈ news) : RowsIn h rows := fun r hr => News.isTup N (m4 (r.1, tupO r.2.1.1 r.2.1.2 r.2.2.1 r.2.2.2) (List.mem_map_of_mem hr))
local macro_rules | `(tactic| walk_at "compareOp Eq ref ref") => `(tactic| (k_here; k_dflt (refine eq_pairs (by k_asm) (by k_mem) (by k_mem) (by k_mem) (by k_mem) (by with_reducible assumption) (by ke_room) ?_)))
local macro_rules | `(tactic| walk_at "binaryOp Mult str int") => `(tactic| (k_here; (refine wpAny_with_toks (Nat.le_refl _) ?_); (refine SB.mul (mul_ok (by with_reducible assumption)).1 ?_); intro t9 k9 q9; (try dsimp only at q9)))
local macro_rules | `(tactic| walk_at "binaryOp Add str str") => `(tactic| (k_here; (with_reducible show wpAny _ _ (binaryOp _ (Value.str (Txt.mul _ _) _) _) _ _ _); (refine wpAny_with_toks (Nat.le_refl _) ?_); (refine SB.add ?_ (mul_ok (by with_reducible assumption)).2); intro t9 k9 q9; (try dsimp only at q9)))
local macro_rules | `(tactic| walk_at "compareOp NotEq str str") => `(tactic| (k_here; (refine ne_false (by first | exact dots_eq (by with_reducible assumption) | with_reducible rfl) ?_)))
local macro_rules | `(tactic| walk_at "compareOp NotIn str ref") => `(tactic| (k_here; k_dflt (refine notin3 (News.isList (by k_asm) (by k_mem)) (by with_reducible assumption) ?_)))
local macro_rules | `(tactic| walk_at "subscriptTail") => `(tactic| (k_here; (with_reducible show wpAny _ _ (subscriptTail (PySem.Expr.List _ _) _ (Value.ref _) (Value.int _ _)) _ _ _); k_dflt (refine kba_turn (value' := PySem.Expr.Name (PySem.Str.ofString "_") ⟨0, 0, 0, 0⟩) (fun _ => rfl) ?_; refine' ends_item ?a ?b ?c1 ?c2 ?_; (case a => exact News.isList (by k_asm) (by k_mem)); (case b => exact fmod3 _); (case c1 => exact Nat.le_succ _); (case c2 => exact Nat.le_succ _)); intro en9 te9 hen9 hta9 htc9))


theorem cells_ok {ds : List Int} (hb : ∀ c ∈ ds, 0 ≤ c ∧ c < 10 ^ 6) : ∀ c ∈ List.take (Int.toNat 8) (ds ++ [(9 : Int), 9, 2, 17, 12, 17, 3, 4]), 0 ≤ c ∧ c ≤ 10 ^ 6 := by
  intro c hc
  rcases List.mem_append.mp (List.mem_of_mem_take hc) with h | h
  · have := hb c h; omega
  · simp only [List.mem_cons, List.not_mem_nil, or_false] at h
    omega
theorem draw_three (cs : List Int) (hl : cs.length = 3) : ∃ x1 x2 x3, drawI cs (List.range 27) = [x1, x2, x3] ∧ (x1 < 27 ∧ x2 < 27 ∧ x3 < 27) ∧ x1 ≠ x2 ∧ x1 ≠ x3 ∧ x2 ≠ x3 := by
  obtain ⟨h1, h2, h3⟩ := drawI_facts cs (List.range 27) (by simp; omega) List.nodup_range
  have h4 : (drawI cs (List.range 27)).length = 3 := h1.trans hl
  revert h2 h3
  match hd : drawI cs (List.range 27), h4 with
  | [x1, x2, x3], _ =>
    intro h2 h3
    refine ⟨x1, x2, x3, rfl, ?_, ?_⟩
    · have := fun i hi => List.mem_range.mp (h3 i hi)
      simp at this
      exact this
    · simp at h2
      omega
noncomputable def StopC (P : Prop) : Prop := P
theorem stopC {P : Prop} (h : StopC P) : P := h
local macro_rules | `(tactic| walk_at "call ref") => `(tactic| (k_here; (with_reducible show wpAny _ _ (call (Value.ref _) _ _) _ _ _); refine stopC ?_))


set_option maxHeartbeats 4000000 in
theorem law0 : PySem.Challenge.rw_tp0036_01.Holds := hd (by
  k_go0
  refine gen_post fun Q0 hQ0 E0 => ?_
  k_steps
  rename_i D0 ws h0 F0 N0 hI0 hC0 hL0 l0
  obtain ⟨us0, rfl, hu0⟩ := ints_of hI0
  refine ⟨_, _, _, _, _, rfl, rfl, by k_asm, by k_asm, ?_, fun h' F' N' => News.isList N' (by k_mem), ?_⟩
  · rw [show sizeLine = 16777216 from rfl]; simp [intsV]; omega
  refine CRest.ind (J := fun vs acc T => ∃ rs us ds ts', vs = intsV rs us ∧ rs.length = us.length ∧ acc = intsV ds ts' ∧ ds.length = ts'.length ∧ ds.length + rs.length ≤ 8 ∧ (∀ c ∈ ds, 0 ≤ c ∧ c < 10 ^ 6)) ?_ ?_ _ _ _ ⟨_, us0, [], [], rfl, hu0, rfl, rfl, by simp; omega, fun _ h => nomatch h⟩
  · rintro v r acc T ⟨rs, us, ds, ts', hv, hl, rfl, hdt, hes, hb⟩ I' oI C oC D m₂ h₂ tk2 hTk hC hx2 F N off2
    cases rs with
    | nil => simp [intsV] at hv
    | cons c rs => cases us with
      | nil => simp at hl
      | cons u us =>
        have hv : v :: r = Value.int c u :: intsV rs us := hv
        obtain ⟨rfl, rfl⟩ := List.cons.inj hv
        k_steps
        refine CEnd.intro (by k_dflt assumption) (by k_dflt assumption) fun _ => ⟨rs, us, ds ++ [_], ts' ++ [_], rfl, by simpa using hl, (intsV_snoc _ _ _ _ hdt).symm, by simp [hdt], by simp at hes ⊢; omega, List.forall_mem_append.mpr ⟨hb, List.forall_mem_singleton.mpr (fmod_ok c)⟩⟩
  · rintro acc T ⟨rs, us, ds, ts', hv, hl, rfl, hdt, hes, hb⟩ Dc h₂ tk2 hTk F2 N2 off2
    have hds8 : ds.length ≤ 8 := by omega
    have hI1 := ints_are ds ts' hdt
    have hL1 : (intsV ds ts').length = ds.length := by simp [intsV, hdt]
    generalize intsV ds ts' = ws1 at N2 hI1 hL1
    have N2' : News _ _ _ ((Dc, W.listOf ws1.toArray ws1.length) :: _) := N2
    clear N2
    have hz9 : (ds ++ [(9 : Int), 9, 2, 17, 12, 17, 3, 4]).length ≤ 100 := by simp; omega
    have hz8 : ds.length + [(9 : Int), 9, 2, 17, 12, 17, 3, 4].length ≤ sizeLine := by rw [show sizeLine = 16777216 from rfl]; simp; omega
    k_steps
    unfold StopC
    k_dflt (refine Sp.use (names2_sp _) (by k_asm) (by k_asm) (by k_asm) (by k_asm) (by ktr_room) (by ktr_units) trivial ?_)
    intro r9 h9 tk9 F9 N9 K9 q9 p9
    dsimp only at q9
    obtain ⟨D9, tkF, n9, e9, hD9, hf9⟩ := p9
    subst e9
    have N9' := News.addNew (by k_asm) N9 hf9 hD9
    clear hf9 hD9
    dsimp only
    (try k_fold)
    k_steps
    rename_i h4 F4 N4 _ _ hE eE eI eS eK
    dsimp only at eE eI eK
    have N5 := News.two N4
    rename IntsAre _ (List.take _ _) => hI3
    have hcs8 : (List.take (Int.toNat 8) (ds ++ [(9 : Int), 9, 2, 17, 12, 17, 3, 4])).length = 8 := by simp
    have hcsb : ∀ c ∈ List.take (Int.toNat 8) (ds ++ [(9 : Int), 9, 2, 17, 12, 17, 3, 4]), 0 ≤ c ∧ c ≤ 10 ^ 6 := cells_ok hb
    generalize List.take (Int.toNat 8) (ds ++ [(9 : Int), 9, 2, 17, 12, 17, 3, 4]) = cs at hI3 hcs8 hcsb
    refine esrc_mk ?h0 F4 N5 eE eI eK ?step ?fin
    (case h0 => exact Nat.succ_pos _)
    (case step =>
      intro i rows hi e it oE oI C oC D m₂ h tk t h0 hC hx hy F N
      generalize rowObjs rows = tl at N ⊢
      k_steps
      rename _ ∧ _ ∧ _ ∧ _ ∧ _ ∧ _ => l1
      exact EFin.intro (by k_dflt assumption) (by k_dflt assumption) l1.1 l1.2.1 l1.2.2.1 l1.2.2.2.1)
    intro rows h27 hrows D h tk' hle F N
    dsimp only at hle
    have hturn := turn3 ((cs.getD (Int.toNat 7) 0).fdiv 3)
    have hb4 : ∀ c ∈ List.take 4 cs, 0 ≤ c ∧ c ≤ 10 ^ 6 := fun c h => hcsb c (List.mem_of_mem_take h)
    have hl4 : (List.take 4 cs).length ≤ 8 := by simp; omega
    obtain ⟨ds4, hds4⟩ : ∃ d, drawI (List.take 4 cs) (List.range 27) = d := ⟨_, rfl⟩
    obtain ⟨hd4l, hd4n, hd4m⟩ := drawI_facts (List.take 4 cs) (List.range 27) (by simp; omega) List.nodup_range
    rw [hds4] at hd4l hd4n hd4m
    have hd4b : ∀ i ∈ ds4, i < 27 := fun i hi => by simpa using hd4m i hi
    have hd4l' : ds4.length = 4 := by rw [hd4l]; simp; omega
    clear hd4l hd4m
    obtain ⟨a1, b1, c1, hs1a, habc, ht1, hd1b⟩ := told_shown hd4l' hd4n hd4b
    obtain ⟨d1, hd1⟩ : ∃ d, (shownI ds4).2 = d := ⟨_, rfl⟩
    rw [hd1] at ht1 hd1b
    have hs1 : shownI ds4 = ([a1, b1, c1], d1) := Prod.ext hs1a hd1
    clear hs1a hd1
    obtain ⟨cs3, hcs3⟩ : ∃ c, List.take (min 7 cs.length - 4) (List.drop 4 cs) = c := ⟨_, rfl⟩
    have hl3 : cs3.length = 3 := by rw [← hcs3, hcs8]; simp; omega
    have hb3 : ∀ c ∈ cs3, 0 ≤ c ∧ c ≤ 10 ^ 6 := fun c h => hcsb c (List.mem_of_mem_drop (List.mem_of_mem_take (hcs3 ▸ h)))
    obtain ⟨x1, x2, x3, hds3, hx, hx12, hx13, hx23⟩ := draw_three cs3 hl3
    rw [← hcs3] at hb3 hds3
    have hl3' : (List.take (min 7 cs.length - 4) (List.drop 4 cs)).length ≤ 8 := by rw [hcs8]; simp; omega
    obtain ⟨hcd, hcn, hs2⟩ := shown_told hx12 hx13 hx23 hx.1 hx.2.1 hx.2.2
    obtain ⟨cd, ht2⟩ : ∃ d, toldI x1 x2 x3 = d := ⟨_, rfl⟩
    rw [ht2] at hcd hcn hs2
    have hnin : cd < 27 ∧ (x1 < 27 ∧ x2 < 27 ∧ x3 < 27) ∧ (cd ≠ x1 ∧ cd ≠ x2 ∧ cd ≠ x3) := ⟨hcd, hx, hcn⟩
    have hcdx : cd < 27 ∧ (x1 < 27 ∧ x2 < 27 ∧ x3 < 27) := ⟨hcd, hx⟩
    have hnd2 : [cd, x3, x2, x1].Nodup := by
      simp only [List.nodup_cons, List.mem_cons, List.not_mem_nil, or_false, not_or, List.nodup_nil, and_true, not_false_eq_true]
      exact ⟨⟨hcn.2.2, hcn.2.1, hcn.1⟩, ⟨Ne.symm hx23, Ne.symm hx13⟩, Ne.symm hx12⟩
    have hb27 : ∀ i ∈ [cd, x3, x2, x1], i < 27 := List.forall_mem_cons.mpr ⟨hcd, List.forall_mem_cons.mpr ⟨hx.2.2, List.forall_mem_cons.mpr ⟨hx.2.1, List.forall_mem_cons.mpr ⟨hx.1, List.forall_mem_nil _⟩⟩⟩⟩
    clear hcs3 hl3
    k_steps
    unfold StopC
    k_dflt (refine headers_new (rows := rows) (by k_asm) (by k_asm) (by k_asm) (by k_asm) (by ktr_room) (by ktr_units) (fun h' F' N' => ⟨News.isList N' (by k_mem), rowsIn_of N' (by intro p hp; repeat (first | exact hp | exact List.mem_append_right _ hp | apply List.mem_cons_of_mem))⟩) (deckRows_ok hrows) (by omega) ?_)
    intro x9 dx9 tk9 h9 k9 F9 N9 lt9 l1 q9
    dsimp only at q9
    (try k_lt l1)
    dsimp only
    (try k_fold)
    k_steps
    unfold StopC
    k_dflt (refine Sp.use (drawn2_sp _ _ _ _ _ _ hds4) (by k_asm) (by k_asm) (by k_asm) (by k_asm) (by ktr_room) (by ktr_units) ⟨⟨_, News.isList (by k_asm) (by k_mem), by with_reducible assumption⟩, News.isList (by k_asm) (by k_mem), by assumption, by assumption⟩ ?_)
    intro r9 h9 tk9 F9 N9 K9 q9 p9
    dsimp only at q9
    obtain ⟨D9, n9, e9, hD9, hf9⟩ := p9
    subst e9
    have N9' := News.addNew (by k_asm) N9 hf9 hD9
    clear hf9 hD9
    replace N9' := News.del1 (News.del1 (News.del1 N9'))
    dsimp only
    (try k_fold)
    k_steps
    unfold StopC
    k_dflt (refine Sp.use (shown2_sp _ _ _ _ _ _ _ _ _ _ hs1) (by k_asm) (by k_asm) (by k_asm) (by k_asm) (by ktr_room) (by ktr_units) ⟨News.isList (by k_asm) (by k_mem), ⟨deck_of (by k_asm) (by k_mem) (by k_mem) (by k_mem) (by intro p hp; repeat (first | exact hp | exact List.mem_append_right _ hp | apply List.mem_cons_of_mem)), hrows⟩, hd4l', hd4n, hd4b, by first | exact Nat.succ_pos _ | exact pos_of (by assumption) | (dsimp only; omega) | omega⟩ ?_)
    intro r9 h9 tk9 F9 N9 K9 q9 p9
    dsimp only at q9
    obtain ⟨R9, S9, n9, e9, hR9, hS9, fR9, fS9⟩ := p9
    subst e9
    have N8' := News.addNew (by k_asm) N9 fS9 hS9
    have N9' := News.addNew (by k_asm) N8' fR9 hR9
    clear N8' hR9 hS9 fR9 fS9
    dsimp only
    (try k_fold)
    k_steps
    rename News _ _ _ _ => NN
    replace NN := News.del1 (News.del0 NN)
    unfold StopC
    k_dflt (refine Sp.useK (mailed_sp _ _ _ _ _ _ _ _ _ _ _) (by k_asm) (by k_asm) (by k_asm) (by k_asm) (by k_mem) (by ktr_room) (by ktr_units) ⟨habc, hturn, ⟨by (show @Ne Nat _ _); first | exact ne0_of (by assumption) | omega, by (show @LT.lt Nat _ _ _); (try dsimp only); omega⟩, by with_reducible assumption⟩ (by (intro _ _ _ hp; obtain ⟨_, _, _, _, _, _, _, _, _, hLL⟩ := hp; exact hLL)) ?_)
    intro r9 h9 tk9 F9 N9 q9 p9
    dsimp only at q9
    obtain ⟨D9, t19, t29, t39, t49, m9, e9, hf9, hD9, hL9⟩ := p9
    subst e9
    have N9' := News.addNew (by k_asm) N9 hf9 hD9
    clear hf9 hD9 hL9
    dsimp only
    (try k_fold)
    k_steps
    unfold StopC
    k_dflt (refine Sp.use (told2_sp _ _ _ _ _ _ _ _ _ _ _ _ _ _ _ ht1) (by k_asm) (by k_asm) (by k_asm) (by k_asm) (by ktr_room) (by ktr_units) ⟨News.isList (by k_asm) (by k_mem), News.isList (by k_asm) (by k_mem), ⟨deck_of (by k_asm) (by k_mem) (by k_mem) (by k_mem) (by intro p hp; repeat (first | exact hp | exact List.mem_append_right _ hp | apply List.mem_cons_of_mem)), hrows⟩, hturn, habc, hd1b⟩ ?_)
    intro r9 h9 tk9 F9 N9 K9 q9 p9
    dsimp only at q9
    subst p9
    dsimp only
    (try k_fold)
    k_steps
    rename News _ _ _ _ => NN
    replace NN := News.del1 (News.del1 NN)
    unfold StopC
    k_dflt (refine Sp.use (drawn3_sp _ _ _ _ _ _ _ _ hds3) (by k_asm) (by k_asm) (by k_asm) (by k_asm) (by ktr_room) (by ktr_units) ⟨⟨_, News.isList (by k_asm) (by k_mem), by with_reducible assumption⟩, News.isList (by k_asm) (by k_mem), by assumption, by assumption⟩ ?_)
    intro r9 h9 tk9 F9 N9 K9 q9 p9
    dsimp only at q9
    obtain ⟨D9, n9, e9, hD9, hf9⟩ := p9
    subst e9
    have N9' := News.addNew (by k_asm) N9 hf9 hD9
    clear hf9 hD9
    replace N9' := News.del1 N9'
    dsimp only
    (try k_fold)
    k_steps
    unfold StopC
    k_dflt (refine Sp.useK (mailed_sp _ _ _ _ _ _ _ _ _ _ _) (by k_asm) (by k_asm) (by k_asm) (by k_asm) (by k_mem) (by ktr_room) (by ktr_units) ⟨hx, hturn, ⟨by (show @Ne Nat _ _); first | exact ne0_of (by assumption) | omega, by (show @LT.lt Nat _ _ _); (try dsimp only); omega⟩, by with_reducible assumption⟩ (by (intro _ _ _ hp; obtain ⟨_, _, _, _, _, _, _, _, _, hLL⟩ := hp; exact hLL)) ?_)
    intro r9 h9 tk9 F9 N9 q9 p9
    dsimp only at q9
    obtain ⟨D9, t19, t29, t39, t49, m9, e9, hf9, hD9, hL9⟩ := p9
    subst e9
    have N9' := News.addNew (by k_asm) N9 hf9 hD9
    clear hf9 hD9 hL9
    dsimp only
    (try k_fold)
    k_steps
    unfold StopC
    k_dflt (refine Sp.use (told2_sp _ _ _ _ _ _ _ _ _ _ _ _ _ _ _ ht2) (by k_asm) (by k_asm) (by k_asm) (by k_asm) (by ktr_room) (by ktr_units) ⟨News.isList (by k_asm) (by k_mem), News.isList (by k_asm) (by k_mem), ⟨deck_of (by k_asm) (by k_mem) (by k_mem) (by k_mem) (by intro p hp; repeat (first | exact hp | exact List.mem_append_right _ hp | apply List.mem_cons_of_mem)), hrows⟩, hturn, hx, hcd⟩ ?_)
    intro r9 h9 tk9 F9 N9 K9 q9 p9
    dsimp only at q9
    subst p9
    dsimp only
    (try k_fold)
    k_steps
    rename News _ _ _ _ => NN
    replace NN := News.del1 (News.del1 (News.del1 NN))
    unfold StopC
    k_dflt (refine Sp.use (shownB_sp _ _ _ _ _ _ _ _ _ hs2) (by k_asm) (by k_asm) (by k_asm) (by k_asm) (by ktr_room) (by ktr_units) ⟨News.isList (by k_asm) (by k_mem), ⟨deck_of (by k_asm) (by k_mem) (by k_mem) (by k_mem) (by intro p hp; repeat (first | exact hp | exact List.mem_append_right _ hp | apply List.mem_cons_of_mem)), hrows⟩, hnd2, hb27, by first | exact Nat.succ_pos _ | exact pos_of (by assumption) | (dsimp only; omega) | omega⟩ ?_)
    intro r9 h9 tk9 F9 N9 K9 q9 p9
    dsimp only at q9
    obtain ⟨R9, S9, n9, e9, hR9, hS9, fR9, fS9⟩ := p9
    subst e9
    have N8' := News.addNew (by k_asm) N9 fS9 hS9
    have N9' := News.addNew (by k_asm) N8' fR9 hR9
    clear N8' hR9 hS9 fR9 fS9
    dsimp only
    (try k_fold)
    k_steps
    refine hQ0 _ _ ?_
    (try dsimp only)
    k_steps)

end
end Mine
open PySem PySem.W PyProof.Rows
set_option maxRecDepth 100000 in
set_option maxHeartbeats 8000000 in
theorem PySem.Challenge.cw_tp0036_01_holds : PySem.Challenge.rw_tp0036_01.Holds :=
  Mine.law0
