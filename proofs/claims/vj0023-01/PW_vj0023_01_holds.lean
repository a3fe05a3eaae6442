import PyProof.Rows.All
import Wide.All
import OpenK.AllK
import Wide.FinOn
import PySem.Challenge.RW_vj0023_01
set_option Elab.async false
set_option maxRecDepth 100000
set_option maxHeartbeats 8000000

section
-- part ObH
open PySem PySem.Spec PySem.Calls PySem.W PyProof.Rows
namespace Mine
/-- object 0 as the top leaves it (printed by a program of mine) -/
abbrev obj0 (P : Params) : Obj := { cls := Value.type "dict", data := Data.dict #[{ hash := PyData.keyHash P (Str.ofString "__name__"), key := Value.str (Str.ofString "__name__") 1, val := Value.str (Str.ofString "builtins") 160 }, { hash := PyData.keyHash P (Str.ofString "__doc__"), key := Value.str (Str.ofString "__doc__") 2, val := Value.builtin "builtins.__doc__:str#opaque" }, { hash := PyData.keyHash P (Str.ofString "__package__"), key := Value.str (Str.ofString "__package__") 3, val := Value.builtin "builtins.__package__:str#opaque" }, { hash := PyData.keyHash P (Str.ofString "__loader__"), key := Value.str (Str.ofString "__loader__") 4, val := Value.builtin "builtins.__loader__:shared#opaque" }, { hash := PyData.keyHash P (Str.ofString "__spec__"), key := Value.str (Str.ofString "__spec__") 5, val := Value.builtin "builtins.__spec__#opaque" }, { hash := PyData.keyHash P (Str.ofString "__build_class__"), key := Value.str (Str.ofString "__build_class__") 6, val := Value.builtin "__build_class__" }, { hash := PyData.keyHash P (Str.ofString "__import__"), key := Value.str (Str.ofString "__import__") 7, val := Value.builtin "__import__" }, { hash := PyData.keyHash P (Str.ofString "abs"), key := Value.str (Str.ofString "abs") 8, val := Value.builtin "abs" }, { hash := PyData.keyHash P (Str.ofString "all"), key := Value.str (Str.ofString "all") 9, val := Value.builtin "all" }, { hash := PyData.keyHash P (Str.ofString "any"), key := Value.str (Str.ofString "any") 10, val := Value.builtin "any" }, { hash := PyData.keyHash P (Str.ofString "ascii"), key := Value.str (Str.ofString "ascii") 11, val := Value.builtin "ascii" }, { hash := PyData.keyHash P (Str.ofString "bin"), key := Value.str (Str.ofString "bin") 12, val := Value.builtin "bin" }, { hash := PyData.keyHash P (Str.ofString "breakpoint"), key := Value.str (Str.ofString "breakpoint") 13, val := Value.builtin "breakpoint" }, { hash := PyData.keyHash P (Str.ofString "callable"), key := Value.str (Str.ofString "callable") 14, val := Value.builtin "callable" }, { hash := PyData.keyHash P (Str.ofString "chr"), key := Value.str (Str.ofString "chr") 15, val := Value.builtin "chr" }, { hash := PyData.keyHash P (Str.ofString "compile"), key := Value.str (Str.ofString "compile") 16, val := Value.builtin "compile" }, { hash := PyData.keyHash P (Str.ofString "delattr"), key := Value.str (Str.ofString "delattr") 17, val := Value.builtin "delattr" }, { hash := PyData.keyHash P (Str.ofString "dir"), key := Value.str (Str.ofString "dir") 18, val := Value.builtin "dir" }, { hash := PyData.keyHash P (Str.ofString "divmod"), key := Value.str (Str.ofString "divmod") 19, val := Value.builtin "divmod" }, { hash := PyData.keyHash P (Str.ofString "eval"), key := Value.str (Str.ofString "eval") 20, val := Value.builtin "eval" }, { hash := PyData.keyHash P (Str.ofString "exec"), key := Value.str (Str.ofString "exec") 21, val := Value.builtin "exec" }, { hash := PyData.keyHash P (Str.ofString "format"), key := Value.str (Str.ofString "format") 22, val := Value.builtin "format" }, { hash := PyData.keyHash P (Str.ofString "getattr"), key := Value.str (Str.ofString "getattr") 23, val := Value.builtin "getattr" }, { hash := PyData.keyHash P (Str.ofString "globals"), key := Value.str (Str.ofString "globals") 24, val := Value.builtin "globals" }, { hash := PyData.keyHash P (Str.ofString "hasattr"), key := Value.str (Str.ofString "hasattr") 25, val := Value.builtin "hasattr" }, { hash := PyData.keyHash P (Str.ofString "hash"), key := Value.str (Str.ofString "hash") 26, val := Value.builtin "hash" }, { hash := PyData.keyHash P (Str.ofString "hex"), key := Value.str (Str.ofString "hex") 27, val := Value.builtin "hex" }, { hash := PyData.keyHash P (Str.ofString "id"), key := Value.str (Str.ofString "id") 28, val := Value.builtin "id" }, { hash := PyData.keyHash P (Str.ofString "input"), key := Value.str (Str.ofString "input") 29, val := Value.builtin "input" }, { hash := PyData.keyHash P (Str.ofString "isinstance"), key := Value.str (Str.ofString "isinstance") 30, val := Value.builtin "isinstance" }, { hash := PyData.keyHash P (Str.ofString "issubclass"), key := Value.str (Str.ofString "issubclass") 31, val := Value.builtin "issubclass" }, { hash := PyData.keyHash P (Str.ofString "iter"), key := Value.str (Str.ofString "iter") 32, val := Value.builtin "iter" }, { hash := PyData.keyHash P (Str.ofString "aiter"), key := Value.str (Str.ofString "aiter") 33, val := Value.builtin "aiter" }, { hash := PyData.keyHash P (Str.ofString "len"), key := Value.str (Str.ofString "len") 34, val := Value.builtin "len" }, { hash := PyData.keyHash P (Str.ofString "locals"), key := Value.str (Str.ofString "locals") 35, val := Value.builtin "locals" }, { hash := PyData.keyHash P (Str.ofString "max"), key := Value.str (Str.ofString "max") 36, val := Value.builtin "max" }, { hash := PyData.keyHash P (Str.ofString "min"), key := Value.str (Str.ofString "min") 37, val := Value.builtin "min" }, { hash := PyData.keyHash P (Str.ofString "next"), key := Value.str (Str.ofString "next") 38, val := Value.builtin "next" }, { hash := PyData.keyHash P (Str.ofString "anext"), key := Value.str (Str.ofString "anext") 39, val := Value.builtin "anext" }, { hash := PyData.keyHash P (Str.ofString "oct"), key := Value.str (Str.ofString "oct") 40, val := Value.builtin "oct" }, { hash := PyData.keyHash P (Str.ofString "ord"), key := Value.str (Str.ofString "ord") 41, val := Value.builtin "ord" }, { hash := PyData.keyHash P (Str.ofString "pow"), key := Value.str (Str.ofString "pow") 42, val := Value.builtin "pow" }, { hash := PyData.keyHash P (Str.ofString "print"), key := Value.str (Str.ofString "print") 43, val := Value.builtin "print" }, { hash := PyData.keyHash P (Str.ofString "repr"), key := Value.str (Str.ofString "repr") 44, val := Value.builtin "repr" }, { hash := PyData.keyHash P (Str.ofString "round"), key := Value.str (Str.ofString "round") 45, val := Value.builtin "round" }, { hash := PyData.keyHash P (Str.ofString "setattr"), key := Value.str (Str.ofString "setattr") 46, val := Value.builtin "setattr" }, { hash := PyData.keyHash P (Str.ofString "sorted"), key := Value.str (Str.ofString "sorted") 47, val := Value.builtin "sorted" }, { hash := PyData.keyHash P (Str.ofString "sum"), key := Value.str (Str.ofString "sum") 48, val := Value.builtin "sum" }, { hash := PyData.keyHash P (Str.ofString "vars"), key := Value.str (Str.ofString "vars") 49, val := Value.builtin "vars" }, { hash := PyData.keyHash P (Str.ofString "None"), key := Value.str (Str.ofString "None") 50, val := Value.none }, { hash := PyData.keyHash P (Str.ofString "Ellipsis"), key := Value.str (Str.ofString "Ellipsis") 51, val := Value.ellipsis }, { hash := PyData.keyHash P (Str.ofString "NotImplemented"), key := Value.str (Str.ofString "NotImplemented") 52, val := Value.notImplemented }, { hash := PyData.keyHash P (Str.ofString "False"), key := Value.str (Str.ofString "False") 53, val := Value.bool false }, { hash := PyData.keyHash P (Str.ofString "True"), key := Value.str (Str.ofString "True") 54, val := Value.bool true }, { hash := PyData.keyHash P (Str.ofString "bool"), key := Value.str (Str.ofString "bool") 55, val := Value.type "bool" }, { hash := PyData.keyHash P (Str.ofString "memoryview"), key := Value.str (Str.ofString "memoryview") 56, val := Value.type "memoryview" }, { hash := PyData.keyHash P (Str.ofString "bytearray"), key := Value.str (Str.ofString "bytearray") 57, val := Value.type "bytearray" }, { hash := PyData.keyHash P (Str.ofString "bytes"), key := Value.str (Str.ofString "bytes") 58, val := Value.type "bytes" }, { hash := PyData.keyHash P (Str.ofString "classmethod"), key := Value.str (Str.ofString "classmethod") 59, val := Value.type "classmethod" }, { hash := PyData.keyHash P (Str.ofString "complex"), key := Value.str (Str.ofString "complex") 60, val := Value.type "complex" }, { hash := PyData.keyHash P (Str.ofString "dict"), key := Value.str (Str.ofString "dict") 61, val := Value.type "dict" }, { hash := PyData.keyHash P (Str.ofString "enumerate"), key := Value.str (Str.ofString "enumerate") 62, val := Value.type "enumerate" }, { hash := PyData.keyHash P (Str.ofString "filter"), key := Value.str (Str.ofString "filter") 63, val := Value.type "filter" }, { hash := PyData.keyHash P (Str.ofString "float"), key := Value.str (Str.ofString "float") 64, val := Value.type "float" }, { hash := PyData.keyHash P (Str.ofString "frozenset"), key := Value.str (Str.ofString "frozenset") 65, val := Value.type "frozenset" }, { hash := PyData.keyHash P (Str.ofString "property"), key := Value.str (Str.ofString "property") 66, val := Value.type "property" }, { hash := PyData.keyHash P (Str.ofString "int"), key := Value.str (Str.ofString "int") 67, val := Value.type "int" }, { hash := PyData.keyHash P (Str.ofString "list"), key := Value.str (Str.ofString "list") 68, val := Value.type "list" }, { hash := PyData.keyHash P (Str.ofString "map"), key := Value.str (Str.ofString "map") 69, val := Value.type "map" }, { hash := PyData.keyHash P (Str.ofString "object"), key := Value.str (Str.ofString "object") 70, val := Value.type "object" }, { hash := PyData.keyHash P (Str.ofString "range"), key := Value.str (Str.ofString "range") 71, val := Value.type "range" }, { hash := PyData.keyHash P (Str.ofString "reversed"), key := Value.str (Str.ofString "reversed") 72, val := Value.type "reversed" }, { hash := PyData.keyHash P (Str.ofString "set"), key := Value.str (Str.ofString "set") 73, val := Value.type "set" }, { hash := PyData.keyHash P (Str.ofString "slice"), key := Value.str (Str.ofString "slice") 74, val := Value.type "slice" }, { hash := PyData.keyHash P (Str.ofString "staticmethod"), key := Value.str (Str.ofString "staticmethod") 75, val := Value.type "staticmethod" }, { hash := PyData.keyHash P (Str.ofString "str"), key := Value.str (Str.ofString "str") 76, val := Value.type "str" }, { hash := PyData.keyHash P (Str.ofString "super"), key := Value.str (Str.ofString "super") 77, val := Value.type "super" }, { hash := PyData.keyHash P (Str.ofString "tuple"), key := Value.str (Str.ofString "tuple") 78, val := Value.type "tuple" }, { hash := PyData.keyHash P (Str.ofString "type"), key := Value.str (Str.ofString "type") 79, val := Value.type "type" }, { hash := PyData.keyHash P (Str.ofString "zip"), key := Value.str (Str.ofString "zip") 80, val := Value.type "zip" }, { hash := PyData.keyHash P (Str.ofString "__debug__"), key := Value.str (Str.ofString "__debug__") 81, val := Value.bool true }, { hash := PyData.keyHash P (Str.ofString "BaseException"), key := Value.str (Str.ofString "BaseException") 82, val := Value.type "BaseException" }, { hash := PyData.keyHash P (Str.ofString "BaseExceptionGroup"), key := Value.str (Str.ofString "BaseExceptionGroup") 83, val := Value.type "BaseExceptionGroup" }, { hash := PyData.keyHash P (Str.ofString "Exception"), key := Value.str (Str.ofString "Exception") 84, val := Value.type "Exception" }, { hash := PyData.keyHash P (Str.ofString "GeneratorExit"), key := Value.str (Str.ofString "GeneratorExit") 85, val := Value.type "GeneratorExit" }, { hash := PyData.keyHash P (Str.ofString "KeyboardInterrupt"), key := Value.str (Str.ofString "KeyboardInterrupt") 86, val := Value.type "KeyboardInterrupt" }, { hash := PyData.keyHash P (Str.ofString "SystemExit"), key := Value.str (Str.ofString "SystemExit") 87, val := Value.type "SystemExit" }, { hash := PyData.keyHash P (Str.ofString "ArithmeticError"), key := Value.str (Str.ofString "ArithmeticError") 88, val := Value.type "ArithmeticError" }, { hash := PyData.keyHash P (Str.ofString "AssertionError"), key := Value.str (Str.ofString "AssertionError") 89, val := Value.type "AssertionError" }, { hash := PyData.keyHash P (Str.ofString "AttributeError"), key := Value.str (Str.ofString "AttributeError") 90, val := Value.type "AttributeError" }, { hash := PyData.keyHash P (Str.ofString "BufferError"), key := Value.str (Str.ofString "BufferError") 91, val := Value.type "BufferError" }, { hash := PyData.keyHash P (Str.ofString "EOFError"), key := Value.str (Str.ofString "EOFError") 92, val := Value.type "EOFError" }, { hash := PyData.keyHash P (Str.ofString "ImportError"), key := Value.str (Str.ofString "ImportError") 93, val := Value.type "ImportError" }, { hash := PyData.keyHash P (Str.ofString "LookupError"), key := Value.str (Str.ofString "LookupError") 94, val := Value.type "LookupError" }, { hash := PyData.keyHash P (Str.ofString "MemoryError"), key := Value.str (Str.ofString "MemoryError") 95, val := Value.type "MemoryError" }, { hash := PyData.keyHash P (Str.ofString "NameError"), key := Value.str (Str.ofString "NameError") 96, val := Value.type "NameError" }, { hash := PyData.keyHash P (Str.ofString "OSError"), key := Value.str (Str.ofString "OSError") 97, val := Value.type "OSError" }, { hash := PyData.keyHash P (Str.ofString "ReferenceError"), key := Value.str (Str.ofString "ReferenceError") 98, val := Value.type "ReferenceError" }, { hash := PyData.keyHash P (Str.ofString "RuntimeError"), key := Value.str (Str.ofString "RuntimeError") 99, val := Value.type "RuntimeError" }, { hash := PyData.keyHash P (Str.ofString "StopAsyncIteration"), key := Value.str (Str.ofString "StopAsyncIteration") 100, val := Value.type "StopAsyncIteration" }, { hash := PyData.keyHash P (Str.ofString "StopIteration"), key := Value.str (Str.ofString "StopIteration") 101, val := Value.type "StopIteration" }, { hash := PyData.keyHash P (Str.ofString "SyntaxError"), key := Value.str (Str.ofString "SyntaxError") 102, val := Value.type "SyntaxError" }, { hash := PyData.keyHash P (Str.ofString "SystemError"), key := Value.str (Str.ofString "SystemError") 103, val := Value.type "SystemError" }, { hash := PyData.keyHash P (Str.ofString "TypeError"), key := Value.str (Str.ofString "TypeError") 104, val := Value.type "TypeError" }, { hash := PyData.keyHash P (Str.ofString "ValueError"), key := Value.str (Str.ofString "ValueError") 105, val := Value.type "ValueError" }, { hash := PyData.keyHash P (Str.ofString "Warning"), key := Value.str (Str.ofString "Warning") 106, val := Value.type "Warning" }, { hash := PyData.keyHash P (Str.ofString "FloatingPointError"), key := Value.str (Str.ofString "FloatingPointError") 107, val := Value.type "FloatingPointError" }, { hash := PyData.keyHash P (Str.ofString "OverflowError"), key := Value.str (Str.ofString "OverflowError") 108, val := Value.type "OverflowError" }, { hash := PyData.keyHash P (Str.ofString "ZeroDivisionError"), key := Value.str (Str.ofString "ZeroDivisionError") 109, val := Value.type "ZeroDivisionError" }, { hash := PyData.keyHash P (Str.ofString "BytesWarning"), key := Value.str (Str.ofString "BytesWarning") 110, val := Value.type "BytesWarning" }, { hash := PyData.keyHash P (Str.ofString "DeprecationWarning"), key := Value.str (Str.ofString "DeprecationWarning") 111, val := Value.type "DeprecationWarning" }, { hash := PyData.keyHash P (Str.ofString "EncodingWarning"), key := Value.str (Str.ofString "EncodingWarning") 112, val := Value.type "EncodingWarning" }, { hash := PyData.keyHash P (Str.ofString "FutureWarning"), key := Value.str (Str.ofString "FutureWarning") 113, val := Value.type "FutureWarning" }, { hash := PyData.keyHash P (Str.ofString "ImportWarning"), key := Value.str (Str.ofString "ImportWarning") 114, val := Value.type "ImportWarning" }, { hash := PyData.keyHash P (Str.ofString "PendingDeprecationWarning"), key := Value.str (Str.ofString "PendingDeprecationWarning") 115, val := Value.type "PendingDeprecationWarning" }, { hash := PyData.keyHash P (Str.ofString "ResourceWarning"), key := Value.str (Str.ofString "ResourceWarning") 116, val := Value.type "ResourceWarning" }, { hash := PyData.keyHash P (Str.ofString "RuntimeWarning"), key := Value.str (Str.ofString "RuntimeWarning") 117, val := Value.type "RuntimeWarning" }, { hash := PyData.keyHash P (Str.ofString "SyntaxWarning"), key := Value.str (Str.ofString "SyntaxWarning") 118, val := Value.type "SyntaxWarning" }, { hash := PyData.keyHash P (Str.ofString "UnicodeWarning"), key := Value.str (Str.ofString "UnicodeWarning") 119, val := Value.type "UnicodeWarning" }, { hash := PyData.keyHash P (Str.ofString "UserWarning"), key := Value.str (Str.ofString "UserWarning") 120, val := Value.type "UserWarning" }, { hash := PyData.keyHash P (Str.ofString "BlockingIOError"), key := Value.str (Str.ofString "BlockingIOError") 121, val := Value.type "BlockingIOError" }, { hash := PyData.keyHash P (Str.ofString "ChildProcessError"), key := Value.str (Str.ofString "ChildProcessError") 122, val := Value.type "ChildProcessError" }, { hash := PyData.keyHash P (Str.ofString "ConnectionError"), key := Value.str (Str.ofString "ConnectionError") 123, val := Value.type "ConnectionError" }, { hash := PyData.keyHash P (Str.ofString "FileExistsError"), key := Value.str (Str.ofString "FileExistsError") 124, val := Value.type "FileExistsError" }, { hash := PyData.keyHash P (Str.ofString "FileNotFoundError"), key := Value.str (Str.ofString "FileNotFoundError") 125, val := Value.type "FileNotFoundError" }, { hash := PyData.keyHash P (Str.ofString "InterruptedError"), key := Value.str (Str.ofString "InterruptedError") 126, val := Value.type "InterruptedError" }, { hash := PyData.keyHash P (Str.ofString "IsADirectoryError"), key := Value.str (Str.ofString "IsADirectoryError") 127, val := Value.type "IsADirectoryError" }, { hash := PyData.keyHash P (Str.ofString "NotADirectoryError"), key := Value.str (Str.ofString "NotADirectoryError") 128, val := Value.type "NotADirectoryError" }, { hash := PyData.keyHash P (Str.ofString "PermissionError"), key := Value.str (Str.ofString "PermissionError") 129, val := Value.type "PermissionError" }, { hash := PyData.keyHash P (Str.ofString "ProcessLookupError"), key := Value.str (Str.ofString "ProcessLookupError") 130, val := Value.type "ProcessLookupError" }, { hash := PyData.keyHash P (Str.ofString "TimeoutError"), key := Value.str (Str.ofString "TimeoutError") 131, val := Value.type "TimeoutError" }, { hash := PyData.keyHash P (Str.ofString "IndentationError"), key := Value.str (Str.ofString "IndentationError") 132, val := Value.type "IndentationError" }, { hash := PyData.keyHash P (Str.ofString "_IncompleteInputError"), key := Value.str (Str.ofString "_IncompleteInputError") 133, val := Value.type "_IncompleteInputError" }, { hash := PyData.keyHash P (Str.ofString "IndexError"), key := Value.str (Str.ofString "IndexError") 134, val := Value.type "IndexError" }, { hash := PyData.keyHash P (Str.ofString "KeyError"), key := Value.str (Str.ofString "KeyError") 135, val := Value.type "KeyError" }, { hash := PyData.keyHash P (Str.ofString "ModuleNotFoundError"), key := Value.str (Str.ofString "ModuleNotFoundError") 136, val := Value.type "ModuleNotFoundError" }, { hash := PyData.keyHash P (Str.ofString "NotImplementedError"), key := Value.str (Str.ofString "NotImplementedError") 137, val := Value.type "NotImplementedError" }, { hash := PyData.keyHash P (Str.ofString "PythonFinalizationError"), key := Value.str (Str.ofString "PythonFinalizationError") 138, val := Value.type "PythonFinalizationError" }, { hash := PyData.keyHash P (Str.ofString "RecursionError"), key := Value.str (Str.ofString "RecursionError") 139, val := Value.type "RecursionError" }, { hash := PyData.keyHash P (Str.ofString "UnboundLocalError"), key := Value.str (Str.ofString "UnboundLocalError") 140, val := Value.type "UnboundLocalError" }, { hash := PyData.keyHash P (Str.ofString "UnicodeError"), key := Value.str (Str.ofString "UnicodeError") 141, val := Value.type "UnicodeError" }, { hash := PyData.keyHash P (Str.ofString "BrokenPipeError"), key := Value.str (Str.ofString "BrokenPipeError") 142, val := Value.type "BrokenPipeError" }, { hash := PyData.keyHash P (Str.ofString "ConnectionAbortedError"), key := Value.str (Str.ofString "ConnectionAbortedError") 143, val := Value.type "ConnectionAbortedError" }, { hash := PyData.keyHash P (Str.ofString "ConnectionRefusedError"), key := Value.str (Str.ofString "ConnectionRefusedError") 144, val := Value.type "ConnectionRefusedError" }, { hash := PyData.keyHash P (Str.ofString "ConnectionResetError"), key := Value.str (Str.ofString "ConnectionResetError") 145, val := Value.type "ConnectionResetError" }, { hash := PyData.keyHash P (Str.ofString "TabError"), key := Value.str (Str.ofString "TabError") 146, val := Value.type "TabError" }, { hash := PyData.keyHash P (Str.ofString "UnicodeDecodeError"), key := Value.str (Str.ofString "UnicodeDecodeError") 147, val := Value.type "UnicodeDecodeError" }, { hash := PyData.keyHash P (Str.ofString "UnicodeEncodeError"), key := Value.str (Str.ofString "UnicodeEncodeError") 148, val := Value.type "UnicodeEncodeError" }, { hash := PyData.keyHash P (Str.ofString "UnicodeTranslateError"), key := Value.str (Str.ofString "UnicodeTranslateError") 149, val := Value.type "UnicodeTranslateError" }, { hash := PyData.keyHash P (Str.ofString "ExceptionGroup"), key := Value.str (Str.ofString "ExceptionGroup") 150, val := Value.type "ExceptionGroup" }, { hash := PyData.keyHash P (Str.ofString "EnvironmentError"), key := Value.str (Str.ofString "EnvironmentError") 151, val := Value.type "OSError" }, { hash := PyData.keyHash P (Str.ofString "IOError"), key := Value.str (Str.ofString "IOError") 152, val := Value.type "OSError" }, { hash := PyData.keyHash P (Str.ofString "open"), key := Value.str (Str.ofString "open") 153, val := Value.builtin "open" }, { hash := PyData.keyHash P (Str.ofString "quit"), key := Value.str (Str.ofString "quit") 154, val := Value.builtin "builtins.quit#opaque" }, { hash := PyData.keyHash P (Str.ofString "exit"), key := Value.str (Str.ofString "exit") 155, val := Value.builtin "builtins.exit#opaque" }, { hash := PyData.keyHash P (Str.ofString "copyright"), key := Value.str (Str.ofString "copyright") 156, val := Value.builtin "builtins.copyright#opaque" }, { hash := PyData.keyHash P (Str.ofString "credits"), key := Value.str (Str.ofString "credits") 157, val := Value.builtin "builtins.credits#opaque" }, { hash := PyData.keyHash P (Str.ofString "license"), key := Value.str (Str.ofString "license") 158, val := Value.builtin "builtins.license#opaque" }, { hash := PyData.keyHash P (Str.ofString "help"), key := Value.str (Str.ofString "help") 159, val := Value.builtin "builtins.help#opaque" }] 159 }
/-- object 1 as the top leaves it (printed by a program of mine) -/
abbrev obj1 (P : Params) : Obj := { cls := Value.type "dict", data := Data.dict #[{ hash := PyData.keyHash P (Str.ofString "builtins"), key := Value.str (Str.ofString "builtins") 162, val := Value.ref 4 }, { hash := PyData.keyHash P (Str.ofString "__main__"), key := Value.str (Str.ofString "__main__") 163, val := Value.ref 5 }] 2 }
end Mine
end

section
-- part Head
open PySem PySem.W PyProof.Rows
local macro_rules | `(tactic| walk_at "pad of mine") => `(tactic| fail)
namespace Mine
abbrev tab0 : Obj := { cls := .none, data := .fields #[] }
def hook3 (K : Params → Frag) (as : List Addr) (e : ∀ P, as = (K P).map (·.1)) (ts : List Addr) : Hook where
  α := (List (Option Obj) × List (Option Obj)) × Option Obj × Option Obj
  obs := fun s => ((as.map s.heap.get?, ts.map s.heap.get?), s.heap.get? (nat_lit 0), s.heap.get? (nat_lit 1))
  val := fun w => (((K w.params).map fun p => some p.2, ts.map fun _ => some (tabObj #[])), some (obj0 w.params), some (obj1 w.params))
  says := fun w h => (InK K w h ∧ ∀ P ∈ ts, h.get? P = some (tabObj #[])) ∧ h.get? (nat_lit 0) = some (obj0 w.params) ∧ h.get? (nat_lit 1) = some (obj1 w.params)
  of := fun w s x => ⟨⟨InK.of e w s (Prod.mk.inj (Prod.mk.inj x).1).1, List.map_inj_left.mp (Prod.mk.inj (Prod.mk.inj x).1).2⟩, (Prod.mk.inj (Prod.mk.inj x).2).1, (Prod.mk.inj (Prod.mk.inj x).2).2⟩
  keeps := fun w h h' x k => ⟨⟨InK.keeps w h h' x.1.1 k, fun P hP => k _ _ (x.1.2 P hP)⟩, k _ _ x.2.1, k _ _ x.2.2⟩
theorem hook3_says {K : Params → Frag} {as : List Addr} {e : ∀ P, as = (K P).map (·.1)} {ts : List Addr} {w : World} {h : Heap} (Y : (hook3 K as e ts).says w h) : ((K w.params).In h ∧ ∀ P ∈ ts, h.get? P = some (tabObj #[])) ∧ h.get? (nat_lit 0) = some (obj0 w.params) ∧ h.get? (nat_lit 1) = some (obj1 w.params) := Y
end Mine
local macro_rules | `(tactic| o_head (kmHook $K $as $p $ts)) => `(tactic| o_head (Mine.hook3 $K $as $p (389 :: $ts)))
open_top hd for PySem.Challenge.rw_vj0023_01
end

section
-- part Base
open PySem PySem.Spec PySem.Calls PySem.W PyProof.Rows
local macro_rules | `(tactic| walk_at "pad of mine") => `(tactic| fail)
local macro_rules | `(tactic| walk_at "pad of mine") => `(tactic| fail)
noncomputable abbrev LOOSE : List Str := looseW hd.view_39
        [Str.ofString "ParseError", Str.ofString "BadGrammar", Str.ofString "Node", Str.ofString "IN_PROGRESS",
          Str.ofString "Expression", Str.ofString "Literal", Str.ofString "Compound", Str.ofString "Quantifier",
          Str.ofString "ZeroOrMore", Str.ofString "LazyReference"]
/-- the ground's loose names once the tables are laid aside -/
noncomputable abbrev TLOOSE : List Str := LOOSE ++ (recsOf hd.view_39).map (·.name) ++ (litsOf hd.view_39).map (·.1) ++ (clssOf hd.view_39 LOOSE).map (·.name)
theorem allNe_of' {b a : Nat} {l : List (Addr × Obj)} (k : ∀ p ∈ l, p.1 < b) (h : b ≤ a) : ∀ p ∈ l, p.1 ≠ a := fun p hp => Nat.ne_of_lt (Nat.lt_of_lt_of_le (k p hp) h)
theorem allNe_of {b a : Nat} {l : List (Addr × Obj)} (k : AllLt b l) (h : b ≤ a) : ∀ p ∈ l, p.1 ≠ a := fun p hp => Nat.ne_of_lt (Nat.lt_of_lt_of_le (ktn_ltOf k p hp) h)
end

section
-- part Lp
open PySem PySem.Spec PySem.Calls PySem.W PyProof.Rows
local macro_rules | `(tactic| walk_at "pad of mine") => `(tactic| fail)
local macro_rules | `(tactic| walk_at "pad of mine") => `(tactic| fail)
local macro_rules | `(tactic| walk_at "pad of mine") => `(tactic| fail)
namespace Mine

theorem News.sub {h₀ h : Heap} {L : Addr} {news news' : List (Addr × Obj)} (N : News h₀ L h news) (hs : ∀ p ∈ news', p ∈ news) : News h₀ L h news' := fun p hp => N p (hs p hp)
theorem News.fn {h₀ h : Heap} {L : Addr} {news : List (Addr × Obj)} (N : News h₀ L h news) {a : Addr} {o o' : Obj} (h1 : (a, o) ∈ news) (h2 : (a, o') ∈ news) : o = o' :=
  Option.some.inj ((N.get h1).symm.trans (N.get h2))
theorem News.ne {h₀ h : Heap} {L : Addr} {news : List (Addr × Obj)} (N : News h₀ L h news) {a b : Addr} {o o' : Obj} (h1 : (a, o) ∈ news) (h2 : (b, o') ∈ news) (hc : o.cls ≠ o'.cls) : a ≠ b := by
  rintro rfl
  exact hc (congrArg Obj.cls (Mine.News.fn N h1 h2))
theorem News.lt {h₀ h : Heap} {L : Addr} {news : List (Addr × Obj)} (N : News h₀ L h news) : ∀ p ∈ news, p.1 < h.objs.size := fun p hp => Heap.lt_size (N p hp).1

section
variable {M : Model} {A : Around} {env : Env} {E : Value → Shared → Prop} {s : Shared}
variable {prog : Program} {w : World}

/-- one turn of a for, its end open -/
theorem for_turn {R : Result → Shared → Prop} {target it body orelse}
    (turn : wpAny (model prog w) A (pyNext it) (fun r s₁ => match r with
      | none => wpAny (model prog w) A (execs orelse env) (fun f s₃ => R (.ok f) s₃) (notedBy (model prog w) A env fun e s' => R (.error e) s') s₁
      | some v => wpAny (model prog w) A (letOwnedTupleGo target it v) (fun _ s₁ => wpAny (model prog w) A (assign target env v) (fun _ s₂ => wpAny (model prog w) A (execs body env) (fun f s₃ => match f with
          | .next | .cont => codeAny (model prog w) A (.forLoop target it body orelse env) R s₃
          | .brk => R (.ok .next) s₃
          | .ret v => R (.ok (.ret v)) s₃) (notedBy (model prog w) A env fun e s' => R (.error e) s') s₂) (notedBy (model prog w) A env fun e s' => R (.error e) s') s₁) (notedBy (model prog w) A env fun e s' => R (.error e) s') s₁) (notedBy (model prog w) A env fun e s' => R (.error e) s') s)
    : codeAny (model prog w) A (.forLoop target it body orelse env) R s := by
  refine codeAny_of_tree ?_
  show wpAny _ _ ((forTurn target it body orelse env).onRaise (fun x => do noteFrame x env; theTreesLotGoes x)) _ _ s
  refine wpAny_noted ?_
  simp only [forTurn]
  refine wpAny_bind (wpAny_standAt (wpAny_bind (wpAny_onRaise (wpAny_mono turn (fun r s₁ h₁ => ?_) fun _ _ h' => wpAny_standAt h'))))
  cases r with
  | none => exact wpAny_pure ⟨rfl, codeAny_block h₁⟩
  | some v =>
    refine wpAny_bind (wpAny_mono h₁ (fun _ s₁ h₁ => ?_) fun _ _ h' => h')
    refine wpAny_bind (wpAny_mono h₁ (fun _ s₂ h₂ => wpAny_bind (wpAny_mono h₂ (fun f s₃ h₃ => ?_) fun _ _ h' => h')) fun _ _ h' => h')
    cases f with
    | next => exact wpAny_pure ⟨rfl, h₃⟩
    | cont => exact wpAny_pure ⟨rfl, h₃⟩
    | brk => exact wpAny_pure h₃
    | ret v => exact wpAny_pure h₃

theorem letOwned_of {target : PySem.Expr} {it v : Value} {r : Addr} {o : Obj} {n : String} {vs : Array Value} {Q : Unit → Shared → Prop} (hit : it = .ref r) (ho : s.heap.get? r = some o) (hc : o.cls = .type n) (hd : o.data = .fields vs)
    (hn : (["enumerate", "zip", "dict_itemiterator", "dict_reverseitemiterator", "odict_iterator", "itertools.zip_longest", "itertools.pairwise"] : List String).contains n = false) (h : Q () s) :
    wpAny (model prog w) A (letOwnedTupleGo target it v) Q E s := by
  subst hit
  unfold letOwnedTupleGo
  split
  · split
    · rename_i heq
      cases heq
      refine wpAny_bind (wpAny_load ho ?_)
      rw [hc, hd]
      dsimp only
      rw [hn, Bool.false_and]
      exact wpAny_pure h
    · exact wpAny_pure h
  · split
    · rename_i heq
      cases heq
      refine wpAny_bind (wpAny_load ho ?_)
      rw [hc, hd]
      dsimp only
      rw [hn, Bool.false_and]
      exact wpAny_pure h
    · exact wpAny_pure h
  · exact wpAny_pure h
end

/-- an iterator over a tuple or a list, at its place -/
structure ItAt (T : String) (o : Obj) (t : Addr) (i : Nat) : Prop where
  cls : o.cls = .type T
  dat : o.data = .fields #[.ref t, .int i 0]

abbrev tupO (vs : List Value) (ep : Nat) : Obj := { cls := .type "tuple", data := .seq vs.toArray ep }
abbrev lstO (vs : List Value) (ep : Nat) : Obj := { cls := .type "list", data := .seq vs.toArray ep }

section
variable {A : Around} {E : Value → Shared → Prop} {s : Shared} {prog : Program} {w : World} {h₀ : Heap} {L t it : Addr} {m : Str → Option Value} {news : List (Addr × Obj)} {vs : List Value} {ep i : Nat} {o : Obj}

theorem iter_tup {Q : Value → Shared → Prop} (F : Fr h₀ L s.heap m) (N : News h₀ L s.heap news) (ht : (t, tupO vs ep) ∈ news)
    (h : ∀ it o h', Fr h₀ L h' m → News h₀ L h' ((it, o) :: news) → (∀ p ∈ news, p.1 < it) → ItAt "tuple_iterator" o t 0 → Q (.ref it) { s with heap := h' }) : wpAny (model prog w) A (pyIter (.ref t)) Q E s :=
  wpAny_pyIter_tuple (items := vs.toArray) ⟨_, N.get ht, rfl, _, rfl⟩ (h _ _ _ (F.push _) (N.push F _) (fun p hp => Heap.lt_size (N p hp).1) ⟨rfl, rfl⟩)
theorem iter_lst {Q : Value → Shared → Prop} (F : Fr h₀ L s.heap m) (N : News h₀ L s.heap news) (ht : (t, lstO vs ep) ∈ news)
    (h : ∀ it o h', Fr h₀ L h' m → News h₀ L h' ((it, o) :: news) → (∀ p ∈ news, p.1 < it) → ItAt "list_iterator" o t 0 → Q (.ref it) { s with heap := h' }) : wpAny (model prog w) A (pyIter (.ref t)) Q E s :=
  wpAny_pyIter_list (items := vs.toArray) ⟨_, N.get ht, rfl, _, rfl⟩ (h _ _ _ (F.push _) (N.push F _) (fun p hp => Heap.lt_size (N p hp).1) ⟨rfl, rfl⟩)

theorem next_tup {Q : Option Value → Shared → Prop} {x : Value} (F : Fr h₀ L s.heap m) (N : News h₀ L s.heap ((it, o) :: news)) (ho : ItAt "tuple_iterator" o t i) (off : ∀ p ∈ news, p.1 ≠ it) (ht : (t, tupO vs ep) ∈ news) (hx : vs[i]? = some x)
    (h : ∀ o' h', Fr h₀ L h' m → News h₀ L h' ((it, o') :: news) → ItAt "tuple_iterator" o' t (i + 1) → Q (some x) { s with heap := h' }) : wpAny (model prog w) A (pyNext (.ref it)) Q E s := by
  refine wpAny_pyNext_tuple_item (items := vs.toArray) (t := t) (i := i) ⟨o, (N _ (.head _)).1, ho.cls, ho.dat⟩ ⟨_, (N _ (.tail _ ht)).1, rfl, _, rfl⟩ (by simpa using hx) fun h' hi hs => ?_
  obtain ⟨o', g, c, d⟩ := hi
  exact h o' h' (F.change hs (N _ (.head _)).2.1 (N _ (.head _)).2.2) (N.setHead off hs g) ⟨c, d⟩
theorem next_lst {Q : Option Value → Shared → Prop} {x : Value} (F : Fr h₀ L s.heap m) (N : News h₀ L s.heap ((it, o) :: news)) (ho : ItAt "list_iterator" o t i) (off : ∀ p ∈ news, p.1 ≠ it) (ht : (t, lstO vs ep) ∈ news) (hx : vs[i]? = some x)
    (h : ∀ o' h', Fr h₀ L h' m → News h₀ L h' ((it, o') :: news) → ItAt "list_iterator" o' t (i + 1) → Q (some x) { s with heap := h' }) : wpAny (model prog w) A (pyNext (.ref it)) Q E s := by
  refine wpAny_pyNext_list_item (items := vs.toArray) (l := t) (i := i) ⟨o, (N _ (.head _)).1, ho.cls, ho.dat⟩ ⟨_, (N _ (.tail _ ht)).1, rfl, _, rfl⟩ (by simpa using hx) fun h' hi hs => ?_
  obtain ⟨o', g, c, d⟩ := hi
  exact h o' h' (F.change hs (N _ (.head _)).2.1 (N _ (.head _)).2.2) (N.setHead off hs g) ⟨c, d⟩

theorem Fr.extOff {h h' : Heap} {d : Addr} (F : Fr h₀ L h m) (hs : Heap.ExtBut d h h') (hL : d ≠ L) (hn : h₀.get? d = none) : Fr h₀ L h' m := by
  obtain ⟨oL, a1, a2, hoL, a3⟩ := F.ns
  refine ⟨⟨oL, a1, a2, hs L oL hL.symm hoL, a3⟩, fun b x e => hs b x ?_ (F.keep b x e), F.above⟩
  rintro rfl
  rw [hn] at e
  cases e
theorem News.extOff {h h' : Heap} {d : Addr} (N : News h₀ L h news) (hs : Heap.ExtBut d h h') (off : ∀ p ∈ news, p.1 ≠ d) : News h₀ L h' news :=
  fun p hp => ⟨hs p.1 p.2 (off p hp) (N p hp).1, (N p hp).2⟩

theorem next_tup_end {Q : Option Value → Shared → Prop} (hh : A.handled = none) (F : Fr h₀ L s.heap m) (N : News h₀ L s.heap ((it, o) :: news)) (ho : ItAt "tuple_iterator" o t i) (off : ∀ p ∈ news, p.1 ≠ it) (ht : (t, tupO vs ep) ∈ news) (hx : vs[i]? = none)
    (h : ∀ h', Fr h₀ L h' m → News h₀ L h' news → Q none { s with heap := h' }) : wpAny (model prog w) A (pyNext (.ref it)) Q E s :=
  wpAny_pyNext_tuple_end (items := vs.toArray) (t := t) (i := i) hh ⟨o, (N _ (.head _)).1, ho.cls, ho.dat⟩ ⟨_, (N _ (.tail _ ht)).1, rfl, _, rfl⟩ (by simpa using hx) fun h' hs =>
    h h' (Fr.extOff F hs (N _ (.head _)).2.1 (N _ (.head _)).2.2) (News.extOff (fun p hp => N p (.tail _ hp)) hs off)
theorem next_lst_end {Q : Option Value → Shared → Prop} (hh : A.handled = none) (F : Fr h₀ L s.heap m) (N : News h₀ L s.heap ((it, o) :: news)) (ho : ItAt "list_iterator" o t i) (off : ∀ p ∈ news, p.1 ≠ it) (ht : (t, lstO vs ep) ∈ news) (hx : vs[i]? = none)
    (h : ∀ h', Fr h₀ L h' m → News h₀ L h' news → Q none { s with heap := h' }) : wpAny (model prog w) A (pyNext (.ref it)) Q E s :=
  wpAny_pyNext_list_end (items := vs.toArray) (l := t) (i := i) hh ⟨o, (N _ (.head _)).1, ho.cls, ho.dat⟩ ⟨_, (N _ (.tail _ ht)).1, rfl, _, rfl⟩ (by simpa using hx) fun h' hs =>
    h h' (Fr.extOff F hs (N _ (.head _)).2.1 (N _ (.head _)).2.2) (News.extOff (fun p hp => N p (.tail _ hp)) hs off)
end

section
variable {A : Around} {s : Shared} {prog : Program} {w : World} {h₀ : Heap} {L t : Addr} {m : Str → Option Value} {news : List (Addr × Obj)} {vs : List Value} {ep : Nat} {env : Env} {E : Value → Shared → Prop}

/-- a turn's end -/
structure TurnEnd (s : Shared) (h₀ : Heap) (L it : Addr) (o : Obj) (J : Nat → (Str → Option Value) → List (Addr × Obj) → Prop) (i : Nat) (s₃ : Shared) : Prop where
  out : ∃ h' tk' m' news', s₃ = { s with heap := h', toks := tk' } ∧ Fr h₀ L h' m' ∧ News h₀ L h' ((it, o) :: news') ∧ (∀ p ∈ news', p.1 ≠ it) ∧ J (i + 1) m' news'
theorem for_tup_loop {R : Result → Shared → Prop} {target : PySem.Expr} {body orelse : List Stmt} (hh : A.handled = none) (J : Nat → (Str → Option Value) → List (Addr × Obj) → Prop)
    (ht : ∀ i m news, J i m news → (t, tupO vs ep) ∈ news)
    (turn : ∀ i x it o h tk m news, vs[i]? = some x → J i m news → Fr h₀ L h m → News h₀ L h ((it, o) :: news) → o.cls = .type "tuple_iterator" → (∀ p ∈ news, p.1 ≠ it) →
      wpAny (model prog w) A (assign target env x) (fun _ s₂ => wpAny (model prog w) A (execs body env) (fun f s₃ => match f with
        | .next | .cont => TurnEnd s h₀ L it o J i s₃
        | .brk => R (.ok .next) s₃
        | .ret v => R (.ok (.ret v)) s₃) (fun _ _ => False) s₂) (fun _ _ => False) { s with heap := h, toks := tk })
    (done : ∀ h tk m news, J vs.length m news → Fr h₀ L h m → News h₀ L h news → wpAny (model prog w) A (execs orelse env) (fun f s₃ => R (.ok f) s₃) (fun _ _ => False) { s with heap := h, toks := tk }) :
    ∀ k i it o h tk m news, vs.length - i = k → i ≤ vs.length → J i m news → Fr h₀ L h m → News h₀ L h ((it, o) :: news) → ItAt "tuple_iterator" o t i → (∀ p ∈ news, p.1 ≠ it) →
      codeAny (model prog w) A (.forLoop target (.ref it) body orelse env) R { s with heap := h, toks := tk } := by
  intro k
  induction k with
  | zero =>
    intro i it o h tk m news hk hi hJ F N ho off
    have he : i = vs.length := by omega
    subst he
    refine for_turn (next_tup_end hh F N ho off (ht _ _ _ hJ) (by simp) fun h' F' N' => ?_)
    exact wpAny_mono (done h' tk m news hJ F' N') (fun _ _ x => x) fun _ _ x => x.elim
  | succ k ih =>
    intro i it o h tk m news hk hi hJ F N ho off
    have hlt : i < vs.length := by omega
    refine for_turn (next_tup F N ho off (ht _ _ _ hJ) (List.getElem?_eq_getElem hlt) fun o' h' F' N' ho' => ?_)
    refine letOwned_of rfl (N' _ (.head _)).1 ho'.cls ho'.dat (by decide) ?_
    refine wpAny_mono (turn i _ it o' h' tk m news (List.getElem?_eq_getElem hlt) hJ F' N' ho'.cls off) (fun _ s₂ h₂ => ?_) fun _ _ x => x.elim
    refine wpAny_mono h₂ (fun f s₃ h₃ => ?_) fun _ _ x => x.elim
    cases f with
    | next => obtain ⟨h'', tk', m', news', rfl, F'', N'', off', hJ'⟩ := h₃.out; exact ih (i + 1) it o' h'' tk' m' news' (by omega) (by omega) hJ' F'' N'' ho' off'
    | cont => obtain ⟨h'', tk', m', news', rfl, F'', N'', off', hJ'⟩ := h₃.out; exact ih (i + 1) it o' h'' tk' m' news' (by omega) (by omega) hJ' F'' N'' ho' off'
    | brk => exact h₃
    | ret v => exact h₃

theorem for_lst_loop {R : Result → Shared → Prop} {target : PySem.Expr} {body orelse : List Stmt} (hh : A.handled = none) (J : Nat → (Str → Option Value) → List (Addr × Obj) → Prop)
    (ht : ∀ i m news, J i m news → (t, lstO vs ep) ∈ news)
    (turn : ∀ i x it o h tk m news, vs[i]? = some x → J i m news → Fr h₀ L h m → News h₀ L h ((it, o) :: news) → o.cls = .type "list_iterator" → (∀ p ∈ news, p.1 ≠ it) →
      wpAny (model prog w) A (assign target env x) (fun _ s₂ => wpAny (model prog w) A (execs body env) (fun f s₃ => match f with
        | .next | .cont => TurnEnd s h₀ L it o J i s₃
        | .brk => R (.ok .next) s₃
        | .ret v => R (.ok (.ret v)) s₃) (fun _ _ => False) s₂) (fun _ _ => False) { s with heap := h, toks := tk })
    (done : ∀ h tk m news, J vs.length m news → Fr h₀ L h m → News h₀ L h news → wpAny (model prog w) A (execs orelse env) (fun f s₃ => R (.ok f) s₃) (fun _ _ => False) { s with heap := h, toks := tk }) :
    ∀ k i it o h tk m news, vs.length - i = k → i ≤ vs.length → J i m news → Fr h₀ L h m → News h₀ L h ((it, o) :: news) → ItAt "list_iterator" o t i → (∀ p ∈ news, p.1 ≠ it) →
      codeAny (model prog w) A (.forLoop target (.ref it) body orelse env) R { s with heap := h, toks := tk } := by
  intro k
  induction k with
  | zero =>
    intro i it o h tk m news hk hi hJ F N ho off
    have he : i = vs.length := by omega
    subst he
    refine for_turn (next_lst_end hh F N ho off (ht _ _ _ hJ) (by simp) fun h' F' N' => ?_)
    exact wpAny_mono (done h' tk m news hJ F' N') (fun _ _ x => x) fun _ _ x => x.elim
  | succ k ih =>
    intro i it o h tk m news hk hi hJ F N ho off
    have hlt : i < vs.length := by omega
    refine for_turn (next_lst F N ho off (ht _ _ _ hJ) (List.getElem?_eq_getElem hlt) fun o' h' F' N' ho' => ?_)
    refine letOwned_of rfl (N' _ (.head _)).1 ho'.cls ho'.dat (by decide) ?_
    refine wpAny_mono (turn i _ it o' h' tk m news (List.getElem?_eq_getElem hlt) hJ F' N' ho'.cls off) (fun _ s₂ h₂ => ?_) fun _ _ x => x.elim
    refine wpAny_mono h₂ (fun f s₃ h₃ => ?_) fun _ _ x => x.elim
    cases f with
    | next => obtain ⟨h'', tk', m', news', rfl, F'', N'', off', hJ'⟩ := h₃.out; exact ih (i + 1) it o' h'' tk' m' news' (by omega) (by omega) hJ' F'' N'' ho' off'
    | cont => obtain ⟨h'', tk', m', news', rfl, F'', N'', off', hJ'⟩ := h₃.out; exact ih (i + 1) it o' h'' tk' m' news' (by omega) (by omega) hJ' F'' N'' ho' off'
    | brk => exact h₃
    | ret v => exact h₃

theorem for_tup {Q : Flow → Shared → Prop} {target : PySem.Expr} {body orelse : List Stmt} (hh : A.handled = none) (J : Nat → (Str → Option Value) → List (Addr × Obj) → Prop)
    (F : Fr h₀ L s.heap m) (N : News h₀ L s.heap news) (hJ : J 0 m news)
    (ht : ∀ i m news, J i m news → (t, tupO vs ep) ∈ news)
    (turn : ∀ i x it o h tk m news, vs[i]? = some x → J i m news → Fr h₀ L h m → News h₀ L h ((it, o) :: news) → o.cls = .type "tuple_iterator" → (∀ p ∈ news, p.1 ≠ it) →
      wpAny (model prog w) A (assign target env x) (fun _ s₂ => wpAny (model prog w) A (execs body env) (fun f s₃ => match f with
        | .next | .cont => TurnEnd s h₀ L it o J i s₃
        | .brk => Q .next s₃
        | .ret v => Q (.ret v) s₃) (fun _ _ => False) s₂) (fun _ _ => False) { s with heap := h, toks := tk })
    (done : ∀ h tk m news, J vs.length m news → Fr h₀ L h m → News h₀ L h news → wpAny (model prog w) A (execs orelse env) (fun f s₃ => Q f s₃) (fun _ _ => False) { s with heap := h, toks := tk }) :
    wpAny (model prog w) A (pyIter (.ref t)) (fun it s₂ => codeAny (model prog w) A (.forLoop target it body orelse env) (fun r s' => match r with | .ok f => Q f s' | .error e => cameBackBy (model prog w) A env E e s') s₂) E s := by
  refine iter_tup F N (ht _ _ _ hJ) fun it o h' F' N' l hI => ?_
  refine for_tup_loop (R := fun r s' => match r with | .ok f => Q f s' | .error e => cameBackBy (model prog w) A env E e s') hh J ht (fun i x it o h tk m news a b c d e f => ?_) (fun h tk m news a b c => ?_) _ 0 it o h' s.toks m news rfl (Nat.zero_le _) hJ F' N' hI fun p hp => Nat.ne_of_lt (l p hp)
  · refine wpAny_mono (turn i x it o h tk m news a b c d e f) (fun _ s₂ h₂ => wpAny_mono h₂ (fun f s₃ h₃ => ?_) fun _ _ x => x) fun _ _ x => x
    cases f <;> exact h₃
  · exact wpAny_mono (done h tk m news a b c) (fun f s₃ h₃ => h₃) fun _ _ x => x
theorem for_lst {Q : Flow → Shared → Prop} {target : PySem.Expr} {body orelse : List Stmt} (hh : A.handled = none) (J : Nat → (Str → Option Value) → List (Addr × Obj) → Prop)
    (F : Fr h₀ L s.heap m) (N : News h₀ L s.heap news) (hJ : J 0 m news)
    (ht : ∀ i m news, J i m news → (t, lstO vs ep) ∈ news)
    (turn : ∀ i x it o h tk m news, vs[i]? = some x → J i m news → Fr h₀ L h m → News h₀ L h ((it, o) :: news) → o.cls = .type "list_iterator" → (∀ p ∈ news, p.1 ≠ it) →
      wpAny (model prog w) A (assign target env x) (fun _ s₂ => wpAny (model prog w) A (execs body env) (fun f s₃ => match f with
        | .next | .cont => TurnEnd s h₀ L it o J i s₃
        | .brk => Q .next s₃
        | .ret v => Q (.ret v) s₃) (fun _ _ => False) s₂) (fun _ _ => False) { s with heap := h, toks := tk })
    (done : ∀ h tk m news, J vs.length m news → Fr h₀ L h m → News h₀ L h news → wpAny (model prog w) A (execs orelse env) (fun f s₃ => Q f s₃) (fun _ _ => False) { s with heap := h, toks := tk }) :
    wpAny (model prog w) A (pyIter (.ref t)) (fun it s₂ => codeAny (model prog w) A (.forLoop target it body orelse env) (fun r s' => match r with | .ok f => Q f s' | .error e => cameBackBy (model prog w) A env E e s') s₂) E s := by
  refine iter_lst F N (ht _ _ _ hJ) fun it o h' F' N' l hI => ?_
  refine for_lst_loop (R := fun r s' => match r with | .ok f => Q f s' | .error e => cameBackBy (model prog w) A env E e s') hh J ht (fun i x it o h tk m news a b c d e f => ?_) (fun h tk m news a b c => ?_) _ 0 it o h' s.toks m news rfl (Nat.zero_le _) hJ F' N' hI fun p hp => Nat.ne_of_lt (l p hp)
  · refine wpAny_mono (turn i x it o h tk m news a b c d e f) (fun _ s₂ h₂ => wpAny_mono h₂ (fun f s₃ h₃ => ?_) fun _ _ x => x) fun _ _ x => x
    cases f <;> exact h₃
  · exact wpAny_mono (done h tk m news a b c) (fun f s₃ h₃ => h₃) fun _ _ x => x
end
end Mine
end

section
-- part Ga
open PySem PySem.Spec PySem.Calls PySem.W PyProof.Rows Builtin Builtin.ObjectAttr
local macro_rules | `(tactic| walk_at "pad of mine") => `(tactic| fail)
local macro_rules | `(tactic| walk_at "pad of mine") => `(tactic| fail)
local macro_rules | `(tactic| walk_at "pad of mine") => `(tactic| fail)
local macro_rules | `(tactic| walk_at "pad of mine") => `(tactic| fail)
namespace Mine
section
variable {prog : Program} {w : World} {A : Around} {E : Value → Shared → Prop} {s : Shared} {K : Frag} {x C f L : Addr} {ox : Obj} {od : Obj} {name : Str} {expr : Bool} {h₀ : Heap} {m : Str → Option Value} {news : List (Addr × Obj)} {es : List DictEntry} {n : Nat} {Q : Value → Shared → Prop} {t : Tok} {dflt : Value}

theorem ga_open {Q : Value → Shared → Prop} (X : K.In s.heap) (I : InstAt s.heap x ox C (some od)) (hga : findIn K (.ref C) "__getattribute__" = some (some (.builtin "object.__getattribute__")))
    (h : wpAny (model prog w) A.in1 (Builtin.«proto.getattr_hooked» ⟨[.ref x, .str name t], []⟩)
      (fun fin s' => match fin with | .done (.ret v) => wpAny (model prog w) A (handedOut v) Q E s' | _ => False) E s) :
    wpAny (model prog w) A (getAttrBy (.ref x) (.str name t) false expr) Q E s := by
  obtain ⟨hh, g, d, tk, os⟩ := s
  have L0 := I.type (M := model prog w)
  have L1 := looks_findIn (M := model prog w) X hga
  unfold getAttrBy
  refine wpAny_holding (wpAny_bind (L0.at (wpAny_bind (L1.at ?_))))
  show wpAny _ _ (getAttrEveryday _ _ _) _ _ _
  refine wpAny_bind (wpAny_onRaise (wpAny_runValue (codeAny_builtin F.plainObj_entry_getattr_hooked (wpAny_mono h (fun fin s' z => ?_) fun _ _ z => ?_))))
  · rcases fin with (_ | _ | _ | _) | _ <;> first | exact z | exact z.elim
  · exact wpAny_pure z

theorem ga_value {Q : Option Value → Shared → Prop} {v : Value} (X : K.In s.heap) (I : InstAt s.heap x ox C (some od)) (hga : findIn K (.ref C) "__getattribute__" = some (some (.builtin "object.__getattribute__")))
    (hf : findObj K C (some od) name = some (.value v)) (hh : handedIn v = true) (h : Q (some v) s) : wpAny (model prog w) A (getAttrBy? (.ref x) (.str name t)) Q E s := by
  unfold getAttrBy?
  refine wpAny_bind (wpAny_attempt (ga_open X I hga ?_))
  obtain ⟨hh', g, d, tk, os⟩ := s
  have L0 := I.type (M := model prog w)
  have L1 := looks_find (M := model prog w) X I hf
  refine wpAny_bind (wpAny_pure (wpAny_bind (L0.at (wpAny_bind (L1.at ?_)))))
  refine wpAny_pure ?_
  show wpAny _ _ (handedOut v) _ _ _
  rw [handedOut_of hh]; exact wpAny_pure (wpAny_pure h)

theorem ga_bind {Q : Option Value → Shared → Prop} {g a : Value} (X : K.In s.heap) (I : InstAt s.heap x ox C (some od)) (hga : findIn K (.ref C) "__getattribute__" = some (some (.builtin "object.__getattribute__")))
    (hf : findObj K C (some od) name = some (.bind g a)) (hk : findIn K (.ref C) "__getattr__" = some none)
    (h : wpAny (model prog w) A.in1 (call g [a, .ref x, .ref C]) (fun v s' => handedIn v = true ∧ Q (some v) s') (fun _ _ => False) s) :
    wpAny (model prog w) A (getAttrBy? (.ref x) (.str name t)) Q E s := by
  unfold getAttrBy?
  refine wpAny_bind (wpAny_attempt (ga_open X I hga ?_))
  obtain ⟨hh', gg, d, tk, os⟩ := s
  have L0 := I.type (M := model prog w)
  have L1 := looks_find (M := model prog w) X I hf
  have L2 := looks_findIn (M := model prog w) X hk
  refine wpAny_bind (wpAny_pure (wpAny_bind (L0.at (wpAny_bind (L1.at (wpAny_bind (L2.at ?_)))))))
  show wpAny _ _ (holding [a] (call g [a, .ref x, .ref C]) >>= ret) _ _ _
  refine wpAny_bind (wpAny_holding (wpAny_mono h (fun v s' z => wpAny_pure ?_) fun _ _ z => z.elim))
  show wpAny _ _ (handedOut v) _ _ _
  rw [handedOut_of z.1]; exact wpAny_pure (wpAny_pure z.2)

theorem ga_slot {p : Addr} {i : Nat} {v : Value} {Q : Option Value → Shared → Prop} (F : Fr h₀ L s.heap m) (X₀ : K.In h₀) (I : InstAt s.heap x ox C (some od)) (hg : plainGet K C name = true) (hc : isClsIn K C = true)
    (ha : findIn K (.ref C) name = some (some (.ref p))) (hn : specialIn K (.ref p) "__get__" = some (some (.builtin "member_descriptor.__get__"))) (ht : takesIn K (.ref p) = some true) (hp : slotIn K p C = some i)
    (hv : (ox.slots[i]?).join = some v) (hh : handedIn v = true) (h : Q (some v) s) : wpAny (model prog w) A (getAttrBy? (.ref x) (.str name t)) Q E s :=
  ga_bind (X₀.keeps F.keep) I (plainGet_of hg).1 (findObj_data hc ha hn ht) (plainGet_of hg).2 (wpAny_call (slot_get (X₀.keeps F.keep) I hp hv ⟨hh, h⟩))

theorem ga_missing {Q : Option Value → Shared → Prop} {cd : ClassData} (hA : A.handled = none) (X : K.In s.heap) (I : InstAt s.heap x ox C (some od)) (hga : findIn K (.ref C) "__getattribute__" = some (some (.builtin "object.__getattribute__")))
    (hf : findObj K C (some od) name = some .missing) (hk : findIn K (.ref C) "__getattr__" = some none) (hcl : clsIn K C = some cd) (hw : cd.name.cps.foldl (fun k c => k + (Str.utf8Of c).length) 0 ≤ 100) (hw2 : cd.name.toString.length ≤ 40) (hsz : name.length + 100 ≤ sizeLine)
    (h : ∀ h' tk, (∀ b o, s.heap.get? b = some o → h'.get? b = some o) → Q none { s with heap := h', toks := tk }) : wpAny (model prog w) A (getAttrBy? (.ref x) (.str name t)) Q E s := by
  unfold getAttrBy?
  refine wpAny_bind (wpAny_attempt (ga_open X I hga ?_))
  obtain ⟨hh', gg, d, tk, os⟩ := s
  have L0 := I.type (M := model prog w)
  have L1 := looks_find (M := model prog w) X I hf
  have L2 := looks_findIn (M := model prog w) X hk
  have L3 := looks_clsIn (M := model prog w) X hcl
  refine wpAny_bind (wpAny_pure (wpAny_bind (L0.at (wpAny_bind (L1.at (wpAny_bind (L2.at ?_)))))))
  show wpAny _ _ (noSuchAttribute (.ref x) name) _ _ _
  unfold noSuchAttribute typeNameOfCut shownTypeOf
  refine wpAny_bind (wpAny_bind (wpAny_bind (L0.at ?_)))
  refine wpAny_bind (wpAny_pure (wpAny_pure ?_))
  show wpAny _ _ (typeNameCut 100 (.ref C)) _ _ _
  unfold typeNameCut
  refine wpAny_bind (L3.at ?_)
  rw [if_pos hw]
  refine wpAny_pure ?_
  have e1 : "'".length = 1 := by decide
  have e2 : "' object has no attribute '".length ≤ 40 := by decide
  refine wpAny_raiseAttrError hA (fun h' tk' e hx => ?_) (attrMsg_fits (by simp [toString]; omega) hsz)
  refine wpAny_bind (wpAny_isInstance (T := "AttributeError") (b := true) ?_ sub_AttributeError (wpAny_pure (h h' tk' hx.keeps)))
  obtain ⟨a, b, he⟩ := hx.there
  exact ⟨_, he, rfl⟩

theorem args_getattr_3 (a b c : Value) : argsOk "getattr" ⟨[a, b, c], []⟩ := by unfold argsOk; kernel_rfl

theorem ga3_oids (X : K.In s.heap) (I : InstAt s.heap x ox C (some od)) (hm : mroIn K C (.type "module") = some false)
    (h : wpAny (model prog w) A.in1 (getAttrBy? (.ref x) (.str (Str.ofString "oids") t)) (fun r s' => Q (r.getD dflt) s') E s) :
    wpAny (model prog w) A (call (.builtin "getattr") [.ref x, .str (Str.ofString "oids") t, dflt]) Q E s := by
  refine Calls.call_function_entry KB.kind_getattr KB.plain_getattr KB.entry_getattr (args_getattr_3 _ _ _) ?_
  unfold Builtin.«getattr»
  refine wpAny_bind (wpAny_of_eq (a := [.ref x, .str (Str.ofString "oids") t, dflt]) (by kernel_rfl) ?_)
  dsimp only
  refine wpAny_bind (wpAny_of_eq (a := ()) (by kernel_rfl) ?_)
  refine wpAny_bind (wpAny_of_eq (a := none) (by kernel_rfl) ?_)
  dsimp only
  have L0 := I.type (M := model prog w)
  have L1 := looks_mroIn (M := model prog w) X hm
  refine wpAny_bind ?_
  show wpAny _ _ (asStr? _ >>= _) _ _ _
  refine wpAny_bind (wpAny_of_eq (a := some (Str.ofString "oids")) rfl ?_)
  show wpAny _ _ (isInstance (.ref x) (.type "module") >>= _) _ _ _
  unfold isInstance
  refine wpAny_bind (wpAny_bind (L0.here ?_))
  show wpAny _ _ (isSubtype (.ref C) (.type "module")) _ _ _
  refine L1.here ?_
  refine wpAny_pure ?_
  show wpAny _ _ (getAttrBy? _ _ >>= _) _ _ _
  refine wpAny_bind (wpAny_mono h (fun r s' z => ?_) fun _ _ z => z)
  cases r with
  | none => exact wpAny_bind (wpAny_pure (wpAny_pure ⟨_, rfl, z⟩))
  | some v => exact wpAny_bind (wpAny_pure (wpAny_pure ⟨_, rfl, z⟩))
theorem ga3_name (X : K.In s.heap) (I : InstAt s.heap x ox C (some od)) (hm : mroIn K C (.type "module") = some false)
    (h : wpAny (model prog w) A.in1 (getAttrBy? (.ref x) (.str (Str.ofString "name") t)) (fun r s' => Q (r.getD dflt) s') E s) :
    wpAny (model prog w) A (call (.builtin "getattr") [.ref x, .str (Str.ofString "name") t, dflt]) Q E s := by
  refine Calls.call_function_entry KB.kind_getattr KB.plain_getattr KB.entry_getattr (args_getattr_3 _ _ _) ?_
  unfold Builtin.«getattr»
  refine wpAny_bind (wpAny_of_eq (a := [.ref x, .str (Str.ofString "name") t, dflt]) (by kernel_rfl) ?_)
  dsimp only
  refine wpAny_bind (wpAny_of_eq (a := ()) (by kernel_rfl) ?_)
  refine wpAny_bind (wpAny_of_eq (a := none) (by kernel_rfl) ?_)
  dsimp only
  have L0 := I.type (M := model prog w)
  have L1 := looks_mroIn (M := model prog w) X hm
  refine wpAny_bind ?_
  show wpAny _ _ (asStr? _ >>= _) _ _ _
  refine wpAny_bind (wpAny_of_eq (a := some (Str.ofString "name")) rfl ?_)
  show wpAny _ _ (isInstance (.ref x) (.type "module") >>= _) _ _ _
  unfold isInstance
  refine wpAny_bind (wpAny_bind (L0.here ?_))
  show wpAny _ _ (isSubtype (.ref C) (.type "module")) _ _ _
  refine L1.here ?_
  refine wpAny_pure ?_
  show wpAny _ _ (getAttrBy? _ _ >>= _) _ _ _
  refine wpAny_bind (wpAny_mono h (fun r s' z => ?_) fun _ _ z => z)
  cases r with
  | none => exact wpAny_bind (wpAny_pure (wpAny_pure ⟨_, rfl, z⟩))
  | some v => exact wpAny_bind (wpAny_pure (wpAny_pure ⟨_, rfl, z⟩))

theorem gaBy_none_name {Q : Option Value → Shared → Prop} (hA : A.handled = none)
    (h : ∀ h' tk, (∀ b o, s.heap.get? b = some o → h'.get? b = some o) → Q none { s with heap := h', toks := tk }) : wpAny (model prog w) A (getAttrBy? .none (.str (Str.ofString "name") t)) Q E s := by
  unfold getAttrBy?
  refine wpAny_bind (wpAny_attempt ?_)
  obtain ⟨hp, g, d, tk, os⟩ := s
  have hT : ∀ s' : Shared, s'.TypeIs (.none) "NoneType" := fun _ => rfl
  have f1 := sub_AttributeError
  have f3 := F.slot_NoneType_getattribute.lookup
  have f4 := F.slot_NoneType_getattribute.bind (.none)
  have f5 := am_none_getattr_none
  have hmiss : typeLookup (.type "NoneType") (Str.ofString "name") = pure none := am_miss_of_fast (by kernel_rfl)
  unfold getAttrBy
  repeat (any_goals (first | assumption | ((with_reducible show wpAny _ _ (call (Value.builtin "object.__getattribute__") _ _) _ _ _); refine call_meets F.slot_NoneType_getattribute (hT _) F.entry_object_getattribute (F.args_object_getattribute_2 _ _) (meets_getattribute_miss_none _ _ hmiss (by size_fits)) ⟨hA, fun h' tk' e hx => ?_⟩) | wp_step))
  obtain ⟨t', u', he⟩ := hx.there
  show wpAny _ _ (getattributeRaised _ _ _ _ _ _ _) _ _ _
  unfold getattributeRaised
  repeat (any_goals (first | assumption | wp_step))
  all_goals (try exact h _ _ hx.keeps)

theorem ga3_none_name (hA : A.handled = none)
    (h : ∀ h' tk, (∀ b o, s.heap.get? b = some o → h'.get? b = some o) → Q dflt { s with heap := h', toks := tk }) :
    wpAny (model prog w) A (call (.builtin "getattr") [.none, .str (Str.ofString "name") t, dflt]) Q E s := by
  refine Calls.call_function_entry KB.kind_getattr KB.plain_getattr KB.entry_getattr (args_getattr_3 _ _ _) ?_
  unfold Builtin.«getattr»
  refine wpAny_bind (wpAny_of_eq (a := [.none, .str (Str.ofString "name") t, dflt]) (by kernel_rfl) ?_)
  dsimp only
  refine wpAny_bind (wpAny_of_eq (a := ()) (by kernel_rfl) ?_)
  refine wpAny_bind (wpAny_of_eq (a := none) (by kernel_rfl) ?_)
  dsimp only
  refine wpAny_bind (wpAny_of_eq (a := 0) (by kernel_rfl) ?_)
  show wpAny _ _ (getAttrBy? _ _ >>= _) _ _ _
  refine wpAny_bind (gaBy_none_name hA fun h' tk hk => ?_)
  exact wpAny_bind (wpAny_pure (wpAny_pure ⟨_, rfl, h h' tk hk⟩))

theorem News.keeps {h h' : Heap} (N : News h₀ L h news) (hk : ∀ b o, h.get? b = some o → h'.get? b = some o) : News h₀ L h' news := fun p hp => ⟨hk _ _ (N p hp).1, (N p hp).2⟩
end
end Mine
end

section
-- part Mc0
open PySem PySem.Spec PySem.Calls PySem.W PyProof.Rows Builtin Builtin.ObjectAttr
local macro_rules | `(tactic| walk_at "pad of mine") => `(tactic| fail)
local macro_rules | `(tactic| walk_at "pad of mine") => `(tactic| fail)
local macro_rules | `(tactic| walk_at "pad of mine") => `(tactic| fail)
local macro_rules | `(tactic| walk_at "pad of mine") => `(tactic| fail)
local macro_rules | `(tactic| walk_at "pad of mine") => `(tactic| fail)
namespace Mine
section
variable {prog : Program} {w : World} {A : Around} {E : Value → Shared → Prop} {s : Shared} {K : Frag} {x C L : Addr} {ox : Obj} {od : Obj} {name : Str} {h₀ : Heap} {m : Str → Option Value} {news : List (Addr × Obj)} {es : List DictEntry} {n : Nat} {Q : Value → Shared → Prop} {t : Tok} {dflt : Value}

theorem findObj_miss (hh : hasDictIn K C = true) (ha : findIn K (.ref C) name = some none) (hc : copiedNames.contains name = false) (hl : lookIn name od = some none) :
    findObj K C (some od) name = some .missing := by
  obtain ⟨cd, hc', hd⟩ := any_some hh
  unfold findObj
  have ho : PySem.W.ownOf cd (some od) name = some none := by unfold PySem.W.ownOf; rw [if_pos hd]; exact hl
  rw [hc', Option.bind_some, ha, Option.bind_some]
  simp only [Option.bind_some, ho, hc, Bool.false_and, Bool.false_eq_true, if_false]

theorem oids_miss {cd : ClassData} (hA : A.handled = none) (F : Fr h₀ L s.heap m) (X₀ : K.In h₀) (N : News h₀ L s.heap news) (I : InstAt s.heap x ox C (some (dictOf es n)))
    (hm : mroIn K C (.type "module") = some false) (hg : plainGet K C (Str.ofString "oids") = true) (hh : hasDictIn K C = true) (ha : findIn K (.ref C) (Str.ofString "oids") = some none) (hcl : clsIn K C = some cd)
    (hw : cd.name.cps.foldl (fun k c => k + (Str.utf8Of c).length) 0 ≤ 100) (hw2 : cd.name.toString.length ≤ 40) (hl : getL (Str.ofString "oids") es = some none)
    (h : ∀ h' tk, Fr h₀ L h' m → News h₀ L h' news → Q dflt { s with heap := h', toks := tk }) :
    wpAny (model prog w) A (call (.builtin "getattr") [.ref x, .str (Str.ofString "oids") t, dflt]) Q E s :=
  ga3_oids (X₀.keeps F.keep) I hm (ga_missing hA (X₀.keeps F.keep) I (plainGet_of hg).1 (findObj_miss hh ha (by decide +kernel) (by rw [lookIn_dict, hl])) (plainGet_of hg).2 hcl hw hw2 (by size_fits)
    fun h' tk hk => h h' tk (F.keeps hk) (Mine.News.keeps N hk))

theorem oids_hit {v : Value} (F : Fr h₀ L s.heap m) (X₀ : K.In h₀) (I : InstAt s.heap x ox C (some (dictOf es n)))
    (hm : mroIn K C (.type "module") = some false) (hg : plainGet K C (Str.ofString "oids") = true) (hh : hasDictIn K C = true) (ha : findIn K (.ref C) (Str.ofString "oids") = some none)
    (hl : getL (Str.ofString "oids") es = some (some v)) (hv : handedIn v = true) (h : Q v s) :
    wpAny (model prog w) A (call (.builtin "getattr") [.ref x, .str (Str.ofString "oids") t, dflt]) Q E s :=
  ga3_oids (X₀.keeps F.keep) I hm (ga_value (X₀.keeps F.keep) I (plainGet_of hg).1 (findObj_own hh ha rfl (by rw [lookIn_dict, hl])) hv h)

theorem stored_new {kvs : List (Int × Value)} {k : Int} {v : Value} (h : valueAt kvs k = none) : stored kvs k v = kvs ++ [(k, v)] := by
  unfold stored
  unfold valueAt at h
  rw [Option.map_eq_none_iff] at h
  have e : (kvs.any fun kv => decide (kv.1 = k)) = false := by
    rw [List.any_eq_false]
    exact fun p hp => List.find?_eq_none.mp h p hp
  rw [if_neg (by rw [e]; exact Bool.false_ne_true)]
theorem stored_old {kvs : List (Int × Value)} {k : Int} {v : Value} (h : (valueAt kvs k).isSome = true) : stored kvs k v = kvs.map (fun kv => if kv.1 = k then (kv.1, v) else kv) := by
  unfold stored
  unfold valueAt at h
  rw [Option.isSome_map, List.find?_isSome] at h
  obtain ⟨p, hp, e⟩ := h
  rw [if_pos (List.any_eq_true.mpr ⟨p, hp, e⟩)]
theorem valueAt_none {kvs : List (Int × Value)} {k : Int} (h : ∀ p ∈ kvs, p.1 ≠ k) : valueAt kvs k = none := by
  unfold valueAt
  rw [Option.map_eq_none_iff, List.find?_eq_none]
  intro p hp e
  exact h p hp (of_decide_eq_true e)
theorem valueAt_append_left {kvs : List (Int × Value)} {k k' : Int} {v : Value} (h : k' ≠ k) : valueAt (kvs ++ [(k', v)]) k = valueAt kvs k := by
  unfold valueAt
  rw [List.find?_append]
  cases List.find? (fun kv => decide (kv.1 = k)) kvs with
  | none => simp [h]
  | some p => simp
theorem valueAt_append_self {kvs : List (Int × Value)} {k : Int} {v : Value} (h : valueAt kvs k = none) : valueAt (kvs ++ [(k, v)]) k = some v := by
  unfold valueAt at h ⊢
  rw [Option.map_eq_none_iff] at h
  rw [List.find?_append, h]
  simp
end
section
variable {prog : Program} {w : World} {A : Around} {E : Value → Shared → Prop} {s : Shared} {h₀ : Heap} {L d : Addr} {m : Str → Option Value} {news : List (Addr × Obj)} {g : Obj → List (Addr × Obj)} {o : Obj} {kvs : List (Int × Value)} {k : Int} {tk : Tok} {v : Value}
theorem set_new {Q : Unit → Shared → Prop} (F : Fr h₀ L s.heap m) (N : News h₀ L s.heap news) (U : UpdF d o news g) (hd : o.IsDictOf (intKind prog w) kvs) (hsz : kvs.length ≤ 40) (hv : valueAt kvs k = none)
    (h : ∀ h' o', Fr h₀ L h' m → News h₀ L h' (g o') → o'.IsDictOf (intKind prog w) (kvs ++ [(k, v)]) → Q () { s with heap := h', toks := s.toks + 1 }) : wpAny (model prog w) A (setItem (.ref d) (.int k tk) v) Q E s :=
  kda_set (knd := intKind prog w) F N U hd (intKind_is _ _ _ _) (by rw [sizeLine_eq]; omega) fun h' o' F' N' hd' => h h' o' F' N' (stored_new hv ▸ hd')
theorem set_old {Q : Unit → Shared → Prop} (F : Fr h₀ L s.heap m) (N : News h₀ L s.heap news) (U : UpdF d o news g) (hd : o.IsDictOf (intKind prog w) kvs) (hsz : kvs.length ≤ 40) (hv : (valueAt kvs k).isSome = true)
    (h : ∀ h' o', Fr h₀ L h' m → News h₀ L h' (g o') → o'.IsDictOf (intKind prog w) (kvs.map (fun kv => if kv.1 = k then (kv.1, v) else kv)) → Q () { s with heap := h', toks := s.toks + 1 }) : wpAny (model prog w) A (setItem (.ref d) (.int k tk) v) Q E s :=
  kda_set (knd := intKind prog w) F N U hd (intKind_is _ _ _ _) (by rw [sizeLine_eq]; omega) fun h' o' F' N' hd' => h h' o' F' N' (stored_old hv ▸ hd')
end
end Mine
end

section
-- part Ge
open PySem PySem.Spec PySem.Calls PySem.W PyProof.Rows Builtin Builtin.ObjectAttr
local macro_rules | `(tactic| walk_at "pad of mine") => `(tactic| fail)
local macro_rules | `(tactic| walk_at "pad of mine") => `(tactic| fail)
local macro_rules | `(tactic| walk_at "pad of mine") => `(tactic| fail)
local macro_rules | `(tactic| walk_at "pad of mine") => `(tactic| fail)
local macro_rules | `(tactic| walk_at "pad of mine") => `(tactic| fail)
local macro_rules | `(tactic| walk_at "pad of mine") => `(tactic| fail)
namespace Mine
section
variable {prog : Program} {w : World} {A : Around} {E : Value → Shared → Prop} {s : Shared} {K : Frag} {x C L : Addr} {ox : Obj} {od : Obj} {name : Str} {h₀ : Heap} {m : Str → Option Value} {es : List DictEntry} {n : Nat} {Q : Value → Shared → Prop}

theorem ge_check {M : Model} {Q : Unit → Shared → Prop} {nameV : Value} (X : K.In s.heap) (I : InstAt s.heap x ox C (some od)) (hm : mroIn K C (.type "BaseException") = some true) (h : Q () s) :
    wpAny M A (checkBuiltinCall "BaseException.__getattribute__" ⟨[.ref x, nameV], []⟩) Q E s := by
  have hk : builtinKind "BaseException.__getattribute__" = some .slot := by decide +kernel
  have hsplit : splitId "BaseException.__getattribute__" = some ("BaseException", "__getattribute__") := by decide +kernel
  have ha := PySem.F.args_bexc_ga (.ref x) nameV
  have L0 := I.type (M := M)
  have L1 := looks_mroIn (M := M) X hm
  simp only [checkBuiltinCall, hk, hsplit]
  refine wpAny_bind ?_
  unfold isInstance
  refine wpAny_bind (L0.here ?_)
  show wpAny _ _ (isSubtype (.ref C) (.type "BaseException")) _ _ _
  refine L1.here ?_
  repeat (any_goals (first | assumption | wp_step))

theorem get_exc {expr : Bool} {v : Value} (F : Fr h₀ L s.heap m) (X₀ : K.In h₀) (I : InstAt s.heap x ox C (some (dictOf es n))) (hga : findIn K (.ref C) "__getattribute__" = some (some (.builtin "BaseException.__getattribute__"))) (hk : findIn K (.ref C) "__getattr__" = some none)
    (hm : mroIn K C (.type "BaseException") = some true) (hh : hasDictIn K C = true) (ha : findIn K (.ref C) name = some none) (hl : getL name es = some (some v)) (hv : handedIn v = true) (h : Q v { s with toks := s.toks + 1 }) :
    wpAny (model prog w) A (getAttr (.ref x) name expr) Q E s := by
  have X := X₀.keeps F.keep
  have hf : findObj K C (some (dictOf es n)) name = some (.value v) := findObj_own hh ha rfl (by rw [lookIn_dict, hl])
  unfold getAttr
  obtain ⟨hp, g, d, t, os⟩ := s
  refine wpAny_bind ?_
  refine wpAny_mkText ?_
  have L0 := I.type (M := model prog w)
  have L1 := looks_findIn (M := model prog w) X hga
  have L2 := looks_findIn (M := model prog w) X hk
  have L3 := looks_find (M := model prog w) X I hf
  have f3 := PySem.F.attr_Exception.ga.bind (.ref x)
  unfold getAttrBy
  refine wpAny_holding (wpAny_bind (L0.at (wpAny_bind (L1.at ?_))))
  have hx2 : (Value.builtin "BaseException.__getattribute__" == Value.builtin "object.__getattribute__") = false := by decide +kernel
  have hx1 : (onTheHeap (Value.ref C) && Value.builtin "BaseException.__getattribute__" == Value.builtin "object.__getattribute__") = false := by rw [hx2]; rfl
  have hx0 : (expr && onTheHeap (Value.builtin "BaseException.__getattribute__")) = false := by cases expr <;> rfl
  dsimp only
  rw [hx1, if_neg Bool.false_ne_true]
  unfold getAttrByItsOwn hookBefore
  rw [if_pos (by rfl)]
  refine wpAny_bind (L2.at ?_)
  refine wpAny_bind (wpAny_attempt (wpAny_holding ?_))
  unfold callGetattribute
  rw [hx0, if_neg Bool.false_ne_true]
  unfold boundAndCalled
  refine wpAny_bind ?_
  rw [f3]
  refine wpAny_pure ?_
  dsimp only
  refine wpAny_call (codeAny_call_builtin PySem.F.attr_Exception.ga.plain PySem.F.entry_bexc_ga (ge_check X I hm ?_))
  unfold Builtin.«object.__getattribute__»
  refine wpAny_bind (wpAny_of_eq (a := (.ref x, [.str name t])) (by rfl) ?_)
  dsimp only
  refine wpAny_bind (wpAny_pure (wpAny_bind (L0.at (wpAny_bind (L3.at ?_)))))
  refine wpAny_pure ?_
  show wpAny _ _ (handedOut v) _ _ _
  rw [handedOut_of hv]; exact wpAny_pure h
end
end Mine
end

section
-- part Gs
open PySem PySem.Spec PySem.Calls PySem.W PyProof.Rows Builtin Builtin.ObjectAttr
local macro_rules | `(tactic| walk_at "pad of mine") => `(tactic| fail)
local macro_rules | `(tactic| walk_at "pad of mine") => `(tactic| fail)
local macro_rules | `(tactic| walk_at "pad of mine") => `(tactic| fail)
local macro_rules | `(tactic| walk_at "pad of mine") => `(tactic| fail)
local macro_rules | `(tactic| walk_at "pad of mine") => `(tactic| fail)
local macro_rules | `(tactic| walk_at "pad of mine") => `(tactic| fail)
local macro_rules | `(tactic| walk_at "pad of mine") => `(tactic| fail)
namespace Mine
section
variable {prog : Program} {w : World} {A : Around} {E : Value → Shared → Prop} {s : Shared} {K : Frag} {x C L dx : Addr} {ox : Obj} {name : Str} {h₀ : Heap} {m : Str → Option Value} {es es' : List DictEntry} {n n' : Nat} {news news' : List (Addr × Obj)} {v : Value} {cd : ClassData}

/-- a str key stands at hand, or no key is an object: the question for a ref key is not asked -/
theorem no_ask {es : List DictEntry} (hl : (getL name es).isSome = true) : (!es.any (·.key.isStr name) && es.any (·.refKey)) = false := by
  cases q : es.any (·.key.isStr name) with
  | true => rfl
  | false =>
    have hf : es.find? (·.key.isStr name) = none := List.find?_eq_none.mpr fun a ha hk => by
      have := List.any_eq_false.mp q a ha
      exact this hk
    unfold getL at hl
    rw [hf] at hl
    cases r : es.any (·.refKey) with
    | false => rfl
    | true => rw [r] at hl; cases hl

theorem set_exc {Q : Unit → Shared → Prop} (F : Fr h₀ L s.heap m) (X₀ : K.In h₀) (N : News h₀ L s.heap news) (I : InstAt s.heap x ox C (some (dictOf es n))) (hdx : ox.dict = some dx)
    (hs : findIn K (.ref C) "__setattr__" = some (some (.builtin "object.__setattr__"))) (hc : clsIn K C = some cd) (hp : ∀ self : Value, refuseLoop self "__setattr__" cd.mro = pure ()) (hm : mroIn K C (.type "object") = some true)
    (hD : cd.hasDict = true) (ha : findIn K (.ref C) name = some none) (hl : (getL name es).isSome = true)
    (e : (putL name (PyData.keyHash w.params name) (.str name (s.toks + 1)) v es, putN name es n) = (es', n')) (U : Upd dx (dictOf es n) (dictOf es' n') news news') (hz : es'.length ≤ 1000)
    (h : ∀ h', Fr h₀ L h' m → News h₀ L h' news' → Q () { s with heap := h', toks := s.toks + 2 }) :
    wpAny (model prog w) A (setAttr (.ref x) name v) Q E s := by
  obtain ⟨pre, post, rfl, rfl, a, b⟩ := U.split
  obtain ⟨e1, e2⟩ := Prod.mk.inj e
  have X := X₀.keeps F.keep
  refine set_plain X I hs ?_
  obtain ⟨hp', g, d, tk, os⟩ := s
  have SF := PySem.F.store_object
  have sub : Looks (model prog w) hp' (isInstance (.ref x) (.type "object")) true := I.type.andThen (looks_mroIn X hm)
  have L0 := I.type (M := model prog w)
  have L2 := looks_findIn (M := model prog w) X ha
  have L3 := looks_clsIn (M := model prog w) X hc
  have Lm : Looks (model prog w) hp' (mroOf (.ref C)) cd.mro := (looks_clsIn X hc).andThen .now
  obtain ⟨U1, U2⟩ := news_upd (f := Obj.putName name (PyData.keyHash w.params name) (.str name (tk + 1)) v) F N a b (show _ = dictOf es' n' by rw [putName_dict, e1, e2]) rfl
  have D := (N (dx, dictOf es n) (by simp)).1
  have D' := (U2 (dx, dictOf es' n') (by simp)).1
  refine codeAny_call_builtin SF.slot.plain SF.entry (@check_slot (model prog w) _ _ ⟨hp', g, d, tk + 1, os⟩ "object.__setattr__" "object" "__setattr__" (.ref x) [.str name tk, v] [] _ SF.kind SF.split sub (SF.args (.ref x) (.str name tk) v) ?_)
  rw [osa_eq, refuse_eq]
  refine wpAny_bind (wpAny_bind (L0.at (wpAny_bind (Lm.at ?_))))
  rw [hp]
  refine wpAny_pure (wpAny_bind (L0.at (wpAny_bind (L2.at ?_))))
  refine wpAny_bind (wpAny_pure ?_)
  show wpAny _ _ (storeInOwnDict (.ref x) (.ref C) (.str name tk) name v false) _ _ _
  obtain ⟨hx, hcl, -, -⟩ := I
  obtain ⟨oc, odi, oda, osl⟩ := ox
  dsimp only at hcl hdx
  subst hcl hdx
  refine wpAny_bind (wpAny_pure (wpAny_bind (wpAny_bind (wpAny_loadPart hx (wpAny_bind (L3.at ?_))))))
  rw [hD]
  refine wpAny_pure (a := some dx) (wpAny_bind (wpAny_pure (wpAny_bind ?_)))
  unfold nsSet
  refine wpAny_bind (wpAny_bind (wpAny_askSetting (wpAny_pure (wpAny_bind (wpAny_mkText (wpAny_bind (wpAny_loadPart D ?_)))))))
  have c : (!es.toArray.any (·.key.isStr name) && es.toArray.any (·.refKey)) = false := by
    rw [← Array.any_toList, ← Array.any_toList]
    exact no_ask hl
  dsimp only [dictOf]
  rw [aRefKeyMayBeTheName_at, c]
  refine wpAny_updatePart D ?_
  refine wpAny_bind (wpAny_lookBehind D' (pastItsLine_dict (by rw [List.size_toArray, sizeLine_eq]; omega)) ?_)
  exact wpAny_pure (h _ U1 U2)
end
end Mine
end

section
-- part Defs
open PySem PySem.Spec PySem.Calls PySem.W PyProof.Rows
local macro_rules | `(tactic| walk_at "pad of mine") => `(tactic| fail)
local macro_rules | `(tactic| walk_at "pad of mine") => `(tactic| fail)
local macro_rules | `(tactic| walk_at "pad of mine") => `(tactic| fail)
local macro_rules | `(tactic| walk_at "pad of mine") => `(tactic| fail)
local macro_rules | `(tactic| walk_at "pad of mine") => `(tactic| fail)
local macro_rules | `(tactic| walk_at "pad of mine") => `(tactic| fail)
local macro_rules | `(tactic| walk_at "pad of mine") => `(tactic| fail)
local macro_rules | `(tactic| walk_at "pad of mine") => `(tactic| fail)
namespace Mine

abbrev PW : Program := PySem.Challenge.pw_vj0023_01

/-- the ten expressions of the law's grammar -/
inductive Ex where
  | top | one | uS | uA | uZ | uB | lS | lA | lZ | lB
  deriving DecidableEq
def Ex.all : List Ex := [.top, .one, .uS, .uA, .uZ, .uB, .lS, .lA, .lZ, .lB]
theorem Ex.mem_all (e : Ex) : e ∈ Ex.all := by cases e <;> decide
def Ex.cls : Ex → Addr
  | .top | .uZ | .lZ => 489
  | .one => 451
  | .uS | .lS => 425
  | .uA | .uB | .lA | .lB => 367
def Ex.nm : Ex → Str
  | .uS => Str.ofString "u"
  | .lS => Str.ofString "l"
  | _ => Str.ofString ""

/-- where the expressions and their dicts stand -/
structure Gr where
  xa : Ex → Addr
  xd : Ex → Addr

abbrev Led := List (Addr × Obj)
abbrev KV := List (Int × Value)
abbrev Rows := Ex → Option (Int × Addr × KV)

/-- what a call may do to what stood before: plain dicts alone are changed -/
structure Keep (news news' : Led) : Prop where
  same : ∀ p ∈ news, p.2.cls ≠ .type "dict" → p ∈ news'
  dom : ∀ p ∈ news, ∃ o, (p.1, o) ∈ news' ∧ o.cls = p.2.cls
theorem Keep.refl (news : Led) : Keep news news := ⟨fun _ h _ => h, fun p h => ⟨p.2, h, rfl⟩⟩
theorem Keep.trans {a b c : Led} (x : Keep a b) (y : Keep b c) : Keep a c :=
  ⟨fun p h n => y.same p (x.same p h n) n, fun p h => let ⟨o, ho, e⟩ := x.dom p h; let ⟨o', ho', e'⟩ := y.dom (p.1, o) ho; ⟨o', ho', e'.trans e⟩⟩

theorem ref_nd (a : Addr) : Value.ref a ≠ Value.type "dict" := nofun
theorem tup_nd : Value.type "tuple" ≠ Value.type "dict" := by decide
theorem lst_nd : Value.type "list" ≠ Value.type "dict" := by decide
/-- the pairs (number, row) that an expression's tuple `oids` bears -/
def PairsIn (news : Led) : List Value → List (Int × Addr) → Prop
  | [], [] => True
  | v :: vs, p :: ps => (∃ a tk ep, v = .ref a ∧ (a, tupO [.int p.1 tk, .ref p.2] ep) ∈ news ∧ ∃ ob, (p.2, ob) ∈ news ∧ ob.cls = .type "dict") ∧ PairsIn news vs ps
  | _, _ => False
theorem PairsIn.keep {news news' : Led} (k : Keep news news') : ∀ {vs ps}, PairsIn news vs ps → PairsIn news' vs ps
  | [], [], _ => trivial
  | _ :: _, _ :: _, ⟨⟨a, tk, ep, e, h, _, ho, hc⟩, r⟩ => ⟨⟨a, tk, ep, e, k.same _ h tup_nd, let ⟨o, h1, h2⟩ := k.dom _ ho; ⟨o, h1, h2.trans hc⟩⟩, PairsIn.keep k r⟩
theorem PairsIn.length {news : Led} : ∀ {vs ps}, PairsIn news vs ps → vs.length = ps.length
  | [], [], _ => rfl
  | _ :: _, _ :: _, ⟨_, r⟩ => congrArg (· + 1) (PairsIn.length r)

/-- the instance's own dict: no `oids`, or one -/
def OidsOk (news : Led) (xd : Addr) (ps : List (Int × Addr)) : Prop :=
  (ps = [] ∧ (xd, dictOf [] 0) ∈ news) ∨
  ∃ hh kk t vs ep, (xd, dictOf [⟨hh, .str (Str.ofString "oids") kk, .ref t⟩] 1) ∈ news ∧ (t, tupO vs ep) ∈ news ∧ PairsIn news vs ps ∧ vs ≠ []

def DictAt (w : World) (news : Led) (d : Addr) (kv : KV) : Prop := ∃ o, (d, o) ∈ news ∧ o.IsDictOf (intKind PW w) kv ∧ (d == sysModules) = false

def ExOk (w : World) (R : Nat) (news : Led) (ckv : KV) (xd : Addr) (r : Option (Int × Addr × KV)) : Prop :=
  ∃ ps, OidsOk news xd ps ∧ match r with
    | some (i, ec, kv) => ((∃ tl, ps = (i, ec) :: tl) ∧ ps.length ≤ R + 1) ∧ valueAt ckv i = some (.ref ec) ∧ DictAt w news ec kv
    | none => ps.length ≤ R ∧ ∀ p ∈ ps, ∀ q ∈ ckv, q.2 ≠ .ref p.2

/-- the error's dict -/
def ErrOk (news : Led) (gr : Gr) (ed : Addr) (text : Str) : Prop :=
  ∃ h1 h2 h3 k1 k2 k3 tt epos et ev, (ed, dictOf [⟨h1, .str (Str.ofString "text") k1, .str text tt⟩, ⟨h2, .str (Str.ofString "pos") k2, .int epos et⟩, ⟨h3, .str (Str.ofString "expr") k3, ev⟩] 3) ∈ news ∧
    -1 ≤ epos ∧ epos ≤ 12 ∧ (ev = .none ∨ ∃ e, ev = .ref (gr.xa e))

/-- one run's state -/
structure St (w : World) (R : Nat) (gr : Gr) (c ed : Addr) (text : Str) (news : Led) (ckv : KV) (rows : Rows) : Prop where
  cache : DictAt w news c ckv
  keys : ∀ p ∈ ckv, 0 ≤ p.1 ∧ p.1 < (ckv.length : Int)
  refs : ∀ p ∈ ckv, ∃ e a kv, p.2 = .ref a ∧ rows e = some (p.1, a, kv)
  count : ckv.length = Ex.all.countP fun e => (rows e).isSome
  ex : ∀ e, ExOk w R news ckv (gr.xd e) (rows e)
  inj : ∀ e e' i a kv i' a' kv', rows e = some (i, a, kv) → rows e' = some (i', a', kv') → e ≠ e' → a ≠ a'
  off : ∀ e i a kv, rows e = some (i, a, kv) → a ≠ c ∧ a ≠ ed ∧ (∀ e', a ≠ gr.xd e') ∧ ∀ p ∈ kv, 0 ≤ p.1 ∧ p.1 ≤ 12
  err : ErrOk news gr ed text
  apart : c ≠ ed ∧ (∀ e, gr.xd e ≠ c ∧ gr.xd e ≠ ed) ∧ ∀ e e', e ≠ e' → gr.xd e ≠ gr.xd e'

/-- rows only grow -/
def Grow (rows rows' : Rows) : Prop := ∀ e i a kv, rows e = some (i, a, kv) → ∃ kv', rows' e = some (i, a, kv') ∧ ∀ k, (∃ v, (k, v) ∈ kv) → ∃ v, (k, v) ∈ kv'

/-- the places that an expression was asked at -/
def Keys (rows : Rows) (e : Ex) (k : Int) : Prop := ∃ i a kv v, rows e = some (i, a, kv) ∧ (k, v) ∈ kv
end Mine

namespace Mine
/-- a parse's tree -/
inductive T where
  | node (e : Ex) (s t : Int) (cs : List T)

mutual
inductive IsT (gr : Gr) (text : Str) (B : Led) (news : Led) : Value → T → Prop
  | mk {a l d : Addr} {od : Obj} {e : Ex} {s t : Int} {ts tt tx : Tok} {vs : List Value} {cs : List T} {ep : Nat} :
      (a, ({ cls := .ref 243, dict := some d, data := .plain, slots := #[some (.ref l), some (.int t tt), some (.ref (gr.xa e)), some (.str text tx), some (.int s ts)] } : Obj)) ∈ news →
      (d, od) ∈ news → (l, lstO vs ep) ∈ news → (∀ q ∈ B, q.1 ≠ a) → (∀ q ∈ B, q.1 ≠ l) → (∀ q ∈ B, q.1 ≠ d) → vs.length ≤ 30 → IsTs gr text B news vs cs → IsT gr text B news (.ref a) (.node e s t cs)
inductive IsTs (gr : Gr) (text : Str) (B : Led) (news : Led) : List Value → List T → Prop
  | nil : IsTs gr text B news [] []
  | cons {v : Value} {t : T} {vs : List Value} {cs : List T} : IsT gr text B news v t → IsTs gr text B news vs cs → IsTs gr text B news (v :: vs) (t :: cs)
end
mutual
theorem IsT.keep {gr : Gr} {text : Str} {B : Led} {news news' : Led} (k : Keep news news') : ∀ {v t}, IsT gr text B news v t → IsT gr text B news' v t
  | _, _, .mk h1 h2 h3 b1 b2 b3 z h4 => let ⟨_, h2', _⟩ := k.dom _ h2; .mk (k.same _ h1 (ref_nd _)) h2' (k.same _ h3 lst_nd) b1 b2 b3 z (IsTs.keep k h4)
theorem IsTs.keep {gr : Gr} {text : Str} {B : Led} {news news' : Led} (k : Keep news news') : ∀ {vs ts}, IsTs gr text B news vs ts → IsTs gr text B news' vs ts
  | _, _, .nil => .nil
  | _, _, .cons h1 h2 => .cons (IsT.keep k h1) (IsTs.keep k h2)
end
mutual
theorem IsT.le {gr : Gr} {text : Str} {B B' : Led} {news : Led} (k : ∀ q ∈ B', ∃ o, (q.1, o) ∈ B) : ∀ {v t}, IsT gr text B news v t → IsT gr text B' news v t
  | _, _, .mk h1 h2 h3 b1 b2 b3 z h4 => .mk h1 h2 h3 (fun q hq => let ⟨o, ho⟩ := k q hq; b1 (q.1, o) ho) (fun q hq => let ⟨o, ho⟩ := k q hq; b2 (q.1, o) ho) (fun q hq => let ⟨o, ho⟩ := k q hq; b3 (q.1, o) ho) z (IsTs.le k h4)
theorem IsTs.le {gr : Gr} {text : Str} {B B' : Led} {news : Led} (k : ∀ q ∈ B', ∃ o, (q.1, o) ∈ B) : ∀ {vs ts}, IsTs gr text B news vs ts → IsTs gr text B' news vs ts
  | _, _, .nil => .nil
  | _, _, .cons h1 h2 => .cons (IsT.le k h1) (IsTs.le k h2)
end
mutual
theorem IsT.sub {gr : Gr} {text : Str} {B a b : Led} (k : ∀ q ∈ a, (∀ z ∈ B, z.1 ≠ q.1) → q ∈ b) : ∀ {v t}, IsT gr text B a v t → IsT gr text B b v t
  | _, _, .mk h1 h2 h3 b1 b2 b3 z h4 => .mk (k _ h1 b1) (k _ h2 b3) (k _ h3 b2) b1 b2 b3 z (IsTs.sub k h4)
theorem IsTs.sub {gr : Gr} {text : Str} {B a b : Led} (k : ∀ q ∈ a, (∀ z ∈ B, z.1 ≠ q.1) → q ∈ b) : ∀ {v t}, IsTs gr text B a v t → IsTs gr text B b v t
  | _, _, .nil => .nil
  | _, _, .cons h1 h2 => .cons (IsT.sub k h1) (IsTs.sub k h2)
end
theorem Keep.at {news news' : Led} (k : Keep news news') : ∀ q ∈ news, ∃ o, (q.1, o) ∈ news' := fun q hq => let ⟨o, h, _⟩ := k.dom q hq; ⟨o, h⟩
def ResOk (gr : Gr) (text : Str) (B : Led) (news : Led) (r : Value) : Option T → Prop
  | none => r = .none
  | some t => IsT gr text B news r t

/-- the slots of an expression's instance, as far as its name -/
def NameAt : Ex → Array (Option Value) → Prop
  | .top, sl | .uZ, sl | .lZ, sl => ∃ a b c d tk, sl = #[a, b, c, d, some (.str (Str.ofString "") tk)]
  | e, sl => ∃ a b tk, sl = #[a, b, some (.str e.nm tk)]
def Ex.lit : Ex → Str
  | .uA | .lB => Str.ofString "a"
  | _ => Str.ofString "b"
def Ex.mem : Ex → List Ex
  | .uS => [.uA, .uZ, .uB]
  | .lS => [.lA, .lZ, .lB]
  | .one => [.uS, .lS]
  | .uZ => [.uS]
  | .lZ => [.lS]
  | .top => [.one]
  | _ => []
abbrev INF : UInt64 := 9218868437227405312
/-- the slots of an expression's instance, its own part -/
def ShapeAt (gr : Gr) (news : Led) : Ex → Array (Option Value) → Prop
  | .uA, sl => ∃ tk b c, sl = #[some (.str (Str.ofString "a") tk), b, c]
  | .uB, sl => ∃ tk b c, sl = #[some (.str (Str.ofString "b") tk), b, c]
  | .lA, sl => ∃ tk b c, sl = #[some (.str (Str.ofString "b") tk), b, c]
  | .lB, sl => ∃ tk b c, sl = #[some (.str (Str.ofString "a") tk), b, c]
  | .uS, sl => ∃ mt ep b c, sl = #[some (.ref mt), b, c] ∧ (mt, tupO [.ref (gr.xa .uA), .ref (gr.xa .uZ), .ref (gr.xa .uB)] ep) ∈ news
  | .lS, sl => ∃ mt ep b c, sl = #[some (.ref mt), b, c] ∧ (mt, tupO [.ref (gr.xa .lA), .ref (gr.xa .lZ), .ref (gr.xa .lB)] ep) ∈ news
  | .one, sl => ∃ mt ep b c, sl = #[some (.ref mt), b, c] ∧ (mt, tupO [.ref (gr.xa .uS), .ref (gr.xa .lS)] ep) ∈ news
  | .uZ, sl => ∃ ft it mt ep b c, sl = #[some (.float INF ft), some (.int 0 it), some (.ref mt), b, c] ∧ (mt, tupO [.ref (gr.xa .uS)] ep) ∈ news
  | .lZ, sl => ∃ ft it mt ep b c, sl = #[some (.float INF ft), some (.int 0 it), some (.ref mt), b, c] ∧ (mt, tupO [.ref (gr.xa .lS)] ep) ∈ news
  | .top, sl => ∃ ft it mt ep b c, sl = #[some (.float INF ft), some (.int 0 it), some (.ref mt), b, c] ∧ (mt, tupO [.ref (gr.xa .one)] ep) ∈ news
theorem ShapeAt.keep {gr : Gr} {news news' : Led} (k : Keep news news') : ∀ {e sl}, ShapeAt gr news e sl → ShapeAt gr news' e sl := by
  intro e sl h
  cases e
  case uA => exact h
  case uB => exact h
  case lA => exact h
  case lB => exact h
  case uS => obtain ⟨a, b, c, d, h1, h2⟩ := h; exact ⟨a, b, c, d, h1, k.same _ h2 tup_nd⟩
  case lS => obtain ⟨a, b, c, d, h1, h2⟩ := h; exact ⟨a, b, c, d, h1, k.same _ h2 tup_nd⟩
  case one => obtain ⟨a, b, c, d, h1, h2⟩ := h; exact ⟨a, b, c, d, h1, k.same _ h2 tup_nd⟩
  all_goals (obtain ⟨a, b, c, d, e1, e2, h1, h2⟩ := h; exact ⟨a, b, c, d, e1, e2, h1, k.same _ h2 tup_nd⟩)
def InstOk (news : Led) (gr : Gr) (e : Ex) (sl : Array (Option Value)) : Prop := (gr.xa e, ({ cls := .ref e.cls, dict := some (gr.xd e), data := .plain, slots := sl } : Obj)) ∈ news
theorem InstOk.keep {news news' : Led} {gr : Gr} {e : Ex} {sl : Array (Option Value)} (k : Keep news news') (x : InstOk news gr e sl) : InstOk news' gr e sl := k.same _ x (ref_nd _)

/-- a call's contract -/
def Spec (w : World) (mean : ExcName → Option Value) (mg mb : Str → Option Value) (f : Addr) (args : List Value) (dd uu : Nat) (Pre : Led → Prop) (Post : Led → Value → Led → Prop) : Prop :=
  ∀ (dp un : Nat) (gd : Option (List Code)) (cn : Str) (cs : Scope) (a : Addr) (ccd : Value) (cl : List (Str × Addr)) (outer : List Env) (A₀ : Around) (base h₀ : Heap) (L : Addr) (m : Str → Option Value) (news : Led) (s : Shared) (Q E : Value → Shared → Prop),
    Below A₀ base outer h₀ → Fr h₀ L s.heap m → (hd.heap_39 w.params).In h₀ → News h₀ L s.heap news → Top topProg TLOOSE mean mg mb h₀ → cs.kind = .function → Pre news → dp + dd < recursionLimit → un + uu < cLine →
    (∀ r news' h' tk', Fr h₀ L h' m → News h₀ L h' news' → Post news r news' → Q r { s with heap := h', toks := tk' }) →
    wpAny (model PW w) (ktrTop dp un gd cn cs L a ccd cl outer) (call (.ref f) args) Q E s
theorem relist {h₀ h : Heap} {L : Addr} {news : Led} (N : News h₀ L h news) (as : Led) (has : ∀ q ∈ as, q ∈ news) :
    ∃ rest : Led, News h₀ L h (as ++ rest) ∧ (∀ q ∈ rest, q ∈ news) ∧ (∀ r ∈ as, ∀ q ∈ rest, q.1 ≠ r.1) ∧ (∀ q ∈ news, (∀ r ∈ as, q.1 ≠ r.1) → q ∈ rest) ∧ ∀ q ∈ news, q ∈ as ++ rest := by
  refine ⟨news.filter (fun q => decide (∀ r ∈ as, q.1 ≠ r.1)), ?_, fun q hq => (List.mem_filter.mp hq).1, fun r hr q hq => of_decide_eq_true (List.mem_filter.mp hq).2 r hr, fun q hq h => List.mem_filter.mpr ⟨hq, decide_eq_true h⟩, fun q hq => ?_⟩
  rotate_left
  · by_cases h : ∀ r ∈ as, q.1 ≠ r.1
    · exact List.mem_append_right _ (List.mem_filter.mpr ⟨hq, decide_eq_true h⟩)
    · simp only [ne_eq, Classical.not_forall, Classical.not_not] at h
      obtain ⟨r, hr, e⟩ := h
      obtain ⟨a, o⟩ := q
      obtain ⟨b, o2⟩ := r
      dsimp only at e
      subst e
      rw [Mine.News.fn N hq (has _ hr)]
      exact List.mem_append_left _ hr
  intro q hq
  rcases List.mem_append.mp hq with hq | hq
  · exact N q (has q hq)
  · exact N q (List.mem_filter.mp hq).1
theorem dict_cls {w : World} {o : Obj} {kv : KV} (h : o.IsDictOf (intKind PW w) kv) : o.cls = .type "dict" := by
  obtain ⟨es, ep, hx, _⟩ := h
  exact hx.1
end Mine
end

section
-- part St
open PySem PySem.Spec PySem.Calls PySem.W PyProof.Rows
local macro_rules | `(tactic| walk_at "pad of mine") => `(tactic| fail)
local macro_rules | `(tactic| walk_at "pad of mine") => `(tactic| fail)
local macro_rules | `(tactic| walk_at "pad of mine") => `(tactic| fail)
local macro_rules | `(tactic| walk_at "pad of mine") => `(tactic| fail)
local macro_rules | `(tactic| walk_at "pad of mine") => `(tactic| fail)
local macro_rules | `(tactic| walk_at "pad of mine") => `(tactic| fail)
local macro_rules | `(tactic| walk_at "pad of mine") => `(tactic| fail)
local macro_rules | `(tactic| walk_at "pad of mine") => `(tactic| fail)
local macro_rules | `(tactic| walk_at "pad of mine") => `(tactic| fail)
set_option linter.unusedVariables false
namespace Mine
structure Stat (gr : Gr) (er ed : Addr) (news : Led) : Prop where
  inst : ∀ e, ∃ sl, InstOk news gr e sl ∧ NameAt e sl ∧ ShapeAt gr news e sl
  err : ∃ vs sl, (er, ({ cls := .ref 87, dict := some ed, data := .fields vs, slots := sl } : Obj)) ∈ news
theorem Stat.keep {gr : Gr} {er ed : Addr} {news news' : Led} (k : Keep news news') (x : Stat gr er ed news) : Stat gr er ed news' :=
  ⟨fun e => let ⟨sl, a, b, z⟩ := x.inst e; ⟨sl, a.keep k, b, z.keep k⟩, let ⟨vs, sl, a⟩ := x.err; ⟨vs, sl, k.same _ a (ref_nd _)⟩⟩

section
variable {w : World} {R : Nat} {gr : Gr} {c er ed : Addr} {text : Str} {e : Ex} {news nf : Led} {ckv : KV} {rows : Rows}

/-- dicts and tuples of the one ledger stand in the other -/
def Sub (a b : Led) : Prop := ∀ q ∈ a, q.2.cls = .type "dict" ∨ q.2.cls = .type "tuple" → q ∈ b
theorem PairsIn.sub {a b : Led} (k : Sub a b) : ∀ {vs ps}, PairsIn a vs ps → PairsIn b vs ps
  | [], [], _ => trivial
  | _ :: _, _ :: _, ⟨⟨a, tk, ep, e, h, ob, ho, hc⟩, r⟩ => ⟨⟨a, tk, ep, e, k _ h (.inr rfl), ob, k _ ho (.inl hc), hc⟩, PairsIn.sub k r⟩
theorem OidsOk.sub {a b : Led} (k : Sub a b) {xd : Addr} {ps} : OidsOk a xd ps → OidsOk b xd ps
  | .inl ⟨e, h⟩ => .inl ⟨e, k _ h (.inl rfl)⟩
  | .inr ⟨hh, kk, t, vs, ep, h1, h2, h3, h4⟩ => .inr ⟨hh, kk, t, vs, ep, k _ h1 (.inl rfl), k _ h2 (.inr rfl), h3.sub k, h4⟩
theorem DictAt.sub {a b : Led} (k : Sub a b) {d : Addr} {kv : KV} : DictAt w a d kv → DictAt w b d kv
  | ⟨o, h, r, z⟩ => ⟨o, k _ h (.inl (dict_cls r)), r, z⟩
theorem ExOk.sub {a b : Led} (k : Sub a b) {xd : Addr} {r} : ExOk w R a ckv xd r → ExOk w R b ckv xd r := by
  rintro ⟨ps, h, z⟩
  refine ⟨ps, h.sub k, ?_⟩
  cases r with
  | none => exact z
  | some r => exact ⟨z.1, z.2.1, z.2.2.sub k⟩
theorem ErrOk.sub {a b : Led} (k : Sub a b) : ErrOk a gr ed text → ErrOk b gr ed text
  | ⟨h1, h2, h3, k1, k2, k3, tt, ep, et, ev, h, r⟩ => ⟨h1, h2, h3, k1, k2, k3, tt, ep, et, ev, k _ h (.inl rfl), r⟩
theorem St.sub {a b : Led} (k : Sub a b) (S : St w R gr c ed text a ckv rows) : St w R gr c ed text b ckv rows :=
  ⟨S.cache.sub k, S.keys, S.refs, S.count, fun e => (S.ex e).sub k, S.inj, S.off, S.err.sub k, S.apart⟩
theorem St.mono {a b : Led} (k : ∀ q ∈ a, q ∈ b) (S : St w R gr c ed text a ckv rows) : St w R gr c ed text b ckv rows := S.sub fun q hq _ => k q hq
theorem Keep.of_sub {a b : Led} (k : ∀ q ∈ a, q ∈ b) : Keep a b := ⟨fun p h _ => k p h, fun p h => ⟨p.2, k p h, rfl⟩⟩

/-- the ledger with one entry put to the front -/
theorem front {h₀ h : Heap} {L d : Addr} {o : Obj} (N : News h₀ L h nf) (hd : (d, o) ∈ nf) :
    ∃ rest : Led, News h₀ L h ((d, o) :: rest) ∧ (∀ q ∈ rest, q.1 ≠ d) ∧ ∀ q ∈ nf, q ∈ (d, o) :: rest := by
  refine ⟨nf.filter (fun q => decide (q.1 ≠ d)), ?_, fun q hq => of_decide_eq_true (List.mem_filter.mp hq).2, ?_⟩
  · intro q hq
    rcases List.mem_cons.mp hq with rfl | hq
    · exact N _ hd
    · exact N _ (List.mem_filter.mp hq).1
  · intro q hq
    by_cases hq1 : q.1 = d
    · obtain ⟨a, o'⟩ := q
      dsimp only at hq1
      subst hq1
      rw [Mine.News.fn N hq hd]
      exact List.Mem.head _
    · exact List.mem_cons_of_mem _ (List.mem_filter.mpr ⟨hq, decide_eq_true hq1⟩)

theorem count_new (r : Int × Addr × KV) (hrow : rows e = none) : (Ex.all.countP fun e' => (if e' = e then some r else rows e').isSome) = (Ex.all.countP fun e' => (rows e').isSome) + 1 := by
  cases e <;> simp [Ex.all, List.countP_cons, hrow] <;> omega
theorem count_old (r r' : Int × Addr × KV) (hrow : rows e = some r) : (Ex.all.countP fun e' => (if e' = e then some r' else rows e').isSome) = (Ex.all.countP fun e' => (rows e').isSome) := by
  congr 1
  funext e'
  by_cases h : e' = e
  · subst h; simp [hrow]
  · simp [h]

/-- what others' entries become when the ledger turns to nf -/
structure Turned (news nf : Led) (out : List Addr) : Prop where
  sub : ∀ q ∈ news, (∀ a ∈ out, q.1 ≠ a) → q ∈ nf
  dom : ∀ q ∈ news, ∃ o, (q.1, o) ∈ nf ∧ o.cls = q.2.cls
  cls : ∀ q ∈ news, q.2.cls ≠ .type "dict" → q ∈ nf
theorem Turned.keep {out : List Addr} (x : Turned news nf out) : Keep news nf := ⟨fun p h n => x.cls p h n, x.dom⟩
theorem PairsIn.turn {out : List Addr} (x : Turned news nf out) : ∀ {vs ps}, PairsIn news vs ps → PairsIn nf vs ps := fun h => h.keep x.keep
theorem OidsOk.turn {out : List Addr} (x : Turned news nf out) {xd : Addr} {ps} (hx : ∀ a ∈ out, xd ≠ a) : OidsOk news xd ps → OidsOk nf xd ps
  | .inl ⟨e, h⟩ => .inl ⟨e, x.sub _ h hx⟩
  | .inr ⟨hh, kk, t, vs, ep, h1, h2, h3, h4⟩ => .inr ⟨hh, kk, t, vs, ep, x.sub _ h1 hx, x.cls _ h2 tup_nd, h3.turn x, h4⟩
theorem DictAt.turn {out : List Addr} (x : Turned news nf out) {d : Addr} {kv : KV} (hx : ∀ a ∈ out, d ≠ a) : DictAt w news d kv → DictAt w nf d kv
  | ⟨o, h, r⟩ => ⟨o, x.sub _ h hx, r⟩

theorem valueAt_mem {kvs : KV} {k : Int} {v : Value} (h : valueAt kvs k = some v) : (k, v) ∈ kvs := by
  unfold valueAt at h
  obtain ⟨p, hp, rfl⟩ := Option.map_eq_some_iff.mp h
  have := List.find?_some hp
  have e : p.1 = k := of_decide_eq_true this
  exact e ▸ List.mem_of_find?_eq_some hp
theorem valueAt_append_of {kvs : KV} {k k' : Int} {v v' : Value} (h : valueAt kvs k = some v) : valueAt (kvs ++ [(k', v')]) k = some v := by
  unfold valueAt at h ⊢
  rw [List.find?_append]
  cases q : List.find? (fun kv => decide (kv.1 = k)) kvs with
  | none => rw [q] at h; cases h
  | some p => rw [q] at h; simpa using h
theorem PairsIn.dom : ∀ {vs ps}, PairsIn news vs ps → ∀ p ∈ ps, ∃ o, (p.2, o) ∈ news
  | [], [], _, q, hq => by cases hq
  | _ :: _, p :: _, ⟨⟨_, _, _, _, _, ob, ho, _⟩, r⟩, q, hq => by
    rcases List.mem_cons.mp hq with rfl | hq
    · exact ⟨ob, ho⟩
    · exact PairsIn.dom r q hq
theorem OidsOk.dom {xd : Addr} {ps} (h : OidsOk news xd ps) : ∀ p ∈ ps, ∃ o, (p.2, o) ∈ news := by
  rcases h with ⟨rfl, _⟩ | ⟨_, _, _, _, _, _, _, h3, _⟩
  · intro p hp; cases hp
  · exact h3.dom
theorem OidsOk.at {xd : Addr} {ps} (h : OidsOk news xd ps) : ∃ o, (xd, o) ∈ news := by
  rcases h with ⟨_, h⟩ | ⟨_, _, _, _, _, h, _⟩ <;> exact ⟨_, h⟩
theorem St.xdAt (S : St w R gr c ed text news ckv rows) (e : Ex) : ∃ o, (gr.xd e, o) ∈ news := let ⟨_, h, _⟩ := S.ex e; h.at
theorem St.rowAt (S : St w R gr c ed text news ckv rows) {e : Ex} {i : Int} {a : Addr} {kv : KV} (h : rows e = some (i, a, kv)) : DictAt w news a kv ∧ valueAt ckv i = some (.ref a) := by
  obtain ⟨ps, _, z⟩ := S.ex e
  rw [h] at z
  exact ⟨z.2.2, z.2.1⟩
theorem St.edAt (S : St w R gr c ed text news ckv rows) : ∃ o, (ed, o) ∈ news := let ⟨_, _, _, _, _, _, _, _, _, _, h, _⟩ := S.err; ⟨_, h⟩
theorem ErrOk.turn {out : List Addr} (x : Turned news nf out) (hx : ∀ a ∈ out, ed ≠ a) : ErrOk news gr ed text → ErrOk nf gr ed text
  | ⟨h1, h2, h3, k1, k2, k3, tt, ep, et, ev, h, r⟩ => ⟨h1, h2, h3, k1, k2, k3, tt, ep, et, ev, x.sub _ h hx, r⟩

theorem St.new {d t : Addr} {oc' oe : Obj} {hh : Int} {kk : Tok} {ep : Nat} {vs : List Value} {ps : List (Int × Addr)} (S : St w R gr c ed text news ckv rows) (hrow : rows e = none) (x : Turned news nf [c, gr.xd e]) (hd : ∀ q ∈ news, q.1 ≠ d)
    (hoc : (c, oc') ∈ nf) (hocd : oc'.IsDictOf (intKind PW w) (ckv ++ [((ckv.length : Int), .ref d)])) (hxd : (gr.xd e, dictOf [⟨hh, .str (Str.ofString "oids") kk, .ref t⟩] 1) ∈ nf) (ht : (t, tupO vs ep) ∈ nf)
    (hp : PairsIn nf vs (((ckv.length : Int), d) :: ps)) (hde : (d, oe) ∈ nf) (hoe : oe.IsDictOf (intKind PW w) []) (hds : (d == sysModules) = false) (hv : vs ≠ []) (hR : ps.length ≤ R) :
    St w R gr c ed text nf (ckv ++ [((ckv.length : Int), .ref d)]) (fun e' => if e' = e then some ((ckv.length : Int), d, []) else rows e') := by
  have neq : ∀ {a : Addr}, (∃ o, (a, o) ∈ news) → a ≠ d := fun ⟨o, h⟩ => hd _ h
  have hcs := S.cache
  have hcd : c ≠ d := neq (let ⟨o, h, _⟩ := hcs; ⟨o, h⟩)
  have hlt : ∀ {i : Int} {v : Value}, valueAt ckv i = some v → i ≠ (ckv.length : Int) := fun h e => by
    have := (S.keys _ (valueAt_mem h)).2
    dsimp only at this
    omega
  refine ⟨⟨oc', hoc, hocd, let ⟨_, _, _, z⟩ := hcs; z⟩, ?_, ?_, ?_, ?_, ?_, ?_, S.err.turn x ?_, S.apart⟩
  · intro p hp'
    rcases List.mem_append.mp hp' with h | h
    · have := S.keys p h
      simp only [List.length_append, List.length_cons, List.length_nil]
      omega
    · rw [List.mem_singleton.mp h]
      simp only [List.length_append, List.length_cons, List.length_nil]
      omega
  · intro p hp'
    rcases List.mem_append.mp hp' with h | h
    · obtain ⟨e1, a, kv, h1, h2⟩ := S.refs p h
      have hne : e1 ≠ e := fun z => by rw [z, hrow] at h2; cases h2
      exact ⟨e1, a, kv, h1, by simp [hne, h2]⟩
    · rw [List.mem_singleton.mp h]
      exact ⟨e, d, [], rfl, by simp⟩
  · rw [count_new _ hrow, ← S.count]; simp
  · intro e'
    by_cases he : e' = e
    · subst he
      refine ⟨((ckv.length : Int), d) :: ps, .inr ⟨hh, kk, t, vs, ep, hxd, ht, hp, hv⟩, ?_⟩
      simp only [if_true]
      exact ⟨⟨⟨ps, rfl⟩, Nat.succ_le_succ hR⟩, valueAt_append_self (valueAt_none fun q hq => by have := S.keys q hq; omega), oe, hde, hoe, hds⟩
    · simp only [if_neg he]
      obtain ⟨qs, hq, z⟩ := S.ex e'
      refine ⟨qs, hq.turn x ?_, ?_⟩
      · intro a ha
        simp only [List.mem_cons, List.not_mem_nil, or_false] at ha
        rcases ha with rfl | rfl
        · exact (S.apart.2.1 e').1
        · exact S.apart.2.2 e' e he
      · cases hr : rows e' with
        | none =>
          rw [hr] at z
          refine ⟨z.1, ?_⟩
          intro p hp' q hq'
          rcases List.mem_append.mp hq' with h | h
          · exact z.2 p hp' q h
          · rw [List.mem_singleton.mp h]
            intro e2
            injection e2 with e2
            exact neq (hq.dom p hp') e2.symm
        | some r =>
          obtain ⟨i, ec, kv⟩ := r
          rw [hr] at z
          obtain ⟨o1, o2, o3, _⟩ := S.off e' i ec kv hr
          refine ⟨z.1, valueAt_append_of z.2.1, z.2.2.turn x ?_⟩
          intro a ha
          simp only [List.mem_cons, List.not_mem_nil, or_false] at ha
          rcases ha with rfl | rfl
          · exact o1
          · exact o3 e
  · intro e1 e2 i a kv i' a' kv' h1 h2 hne
    by_cases q1 : e1 = e
    · by_cases q2 : e2 = e
      · exact absurd (q1.trans q2.symm) hne
      · simp only [if_pos q1] at h1
        simp only [if_neg q2] at h2
        injection h1 with h1
        obtain ⟨-, h1⟩ := Prod.mk.inj h1
        obtain ⟨h1, -⟩ := Prod.mk.inj h1
        subst h1
        exact fun z => neq (let ⟨o, h, _⟩ := (S.rowAt h2).1; ⟨o, h⟩) z.symm
    · simp only [if_neg q1] at h1
      by_cases q2 : e2 = e
      · simp only [if_pos q2] at h2
        injection h2 with h2
        obtain ⟨-, h2⟩ := Prod.mk.inj h2
        obtain ⟨h2, -⟩ := Prod.mk.inj h2
        subst h2
        exact neq (let ⟨o, h, _⟩ := (S.rowAt h1).1; ⟨o, h⟩)
      · simp only [if_neg q2] at h2
        exact S.inj e1 e2 i a kv i' a' kv' h1 h2 hne
  · intro e1 i a kv h1
    by_cases q1 : e1 = e
    · simp only [if_pos q1] at h1
      injection h1 with h1
      obtain ⟨-, h1⟩ := Prod.mk.inj h1
      obtain ⟨rfl, rfl⟩ := Prod.mk.inj h1
      exact ⟨hcd.symm, (neq S.edAt).symm, fun e' => (neq (S.xdAt e')).symm, fun p hp => by cases hp⟩
    · simp only [if_neg q1] at h1
      exact S.off e1 i a kv h1
  · intro a ha
    simp only [List.mem_cons, List.not_mem_nil, or_false] at ha
    rcases ha with rfl | rfl
    · exact S.apart.1.symm
    · exact ((S.apart.2.1 e).2).symm

theorem St.row {d : Addr} {oe : Obj} {ci : Int} {kv kv' : KV} (S : St w R gr c ed text news ckv rows) (hrow : rows e = some (ci, d, kv)) (x : Turned news nf [d]) (hde : (d, oe) ∈ nf) (hoe : oe.IsDictOf (intKind PW w) kv') (hk : ∀ p ∈ kv', 0 ≤ p.1 ∧ p.1 ≤ 12) :
    St w R gr c ed text nf ckv (fun e' => if e' = e then some (ci, d, kv') else rows e') := by
  obtain ⟨a1, a2, a3, _⟩ := S.off e ci d kv hrow
  obtain ⟨⟨_, _, _, hds⟩, hva⟩ := S.rowAt hrow
  refine ⟨S.cache.turn x ?_, S.keys, ?_, ?_, ?_, ?_, ?_, S.err.turn x ?_, S.apart⟩
  · intro a ha; rw [List.mem_singleton.mp ha]; exact a1.symm
  · intro p hp
    obtain ⟨e1, a, kv1, h1, h2⟩ := S.refs p hp
    by_cases he : e1 = e
    · subst he
      rw [hrow] at h2
      cases h2
      exact ⟨e1, d, kv', h1, by simp⟩
    · exact ⟨e1, a, kv1, h1, by simp [he, h2]⟩
  · rw [count_old _ _ hrow, ← S.count]
  · intro e'
    obtain ⟨qs, hq, z⟩ := S.ex e'
    have hqt : OidsOk nf (gr.xd e') qs := hq.turn x (by intro a ha; rw [List.mem_singleton.mp ha]; exact (a3 e').symm)
    by_cases he : e' = e
    · subst he
      rw [hrow] at z
      simp only [if_true]
      exact ⟨qs, hqt, z.1, z.2.1, oe, hde, hoe, hds⟩
    · simp only [if_neg he]
      refine ⟨qs, hqt, ?_⟩
      cases hr : rows e' with
      | none => rw [hr] at z; exact z
      | some r =>
        obtain ⟨i', ec, kv2⟩ := r
        rw [hr] at z
        exact ⟨z.1, z.2.1, z.2.2.turn x (by intro a ha; rw [List.mem_singleton.mp ha]; exact S.inj e' e i' ec kv2 ci d kv hr hrow he)⟩
  · intro e1 e2 i a kv1 i' a' kv2 h1 h2 hne
    by_cases q1 : e1 = e
    · by_cases q2 : e2 = e
      · exact absurd (q1.trans q2.symm) hne
      · simp only [if_pos q1] at h1
        simp only [if_neg q2] at h2
        injection h1 with h1
        obtain ⟨-, h1⟩ := Prod.mk.inj h1
        obtain ⟨rfl, -⟩ := Prod.mk.inj h1
        exact S.inj e e2 ci d kv i' a' kv2 hrow h2 (fun z => q2 z.symm)
    · simp only [if_neg q1] at h1
      by_cases q2 : e2 = e
      · simp only [if_pos q2] at h2
        injection h2 with h2
        obtain ⟨-, h2⟩ := Prod.mk.inj h2
        obtain ⟨rfl, -⟩ := Prod.mk.inj h2
        exact S.inj e1 e i a kv1 ci d kv h1 hrow q1
      · simp only [if_neg q2] at h2
        exact S.inj e1 e2 i a kv1 i' a' kv2 h1 h2 hne
  · intro e1 i a kv1 h1
    by_cases q1 : e1 = e
    · simp only [if_pos q1] at h1
      injection h1 with h1
      obtain ⟨-, h1⟩ := Prod.mk.inj h1
      obtain ⟨rfl, rfl⟩ := Prod.mk.inj h1
      exact ⟨a1, a2, a3, hk⟩
    · simp only [if_neg q1] at h1
      exact S.off e1 i a kv1 h1
  · intro a ha; rw [List.mem_singleton.mp ha]; exact a2.symm

theorem St.errset (S : St w R gr c ed text news ckv rows) (x : Turned news nf [ed]) (he : ErrOk nf gr ed text) : St w R gr c ed text nf ckv rows := by
  refine ⟨S.cache.turn x ?_, S.keys, S.refs, S.count, ?_, S.inj, S.off, he, S.apart⟩
  · intro a ha; rw [List.mem_singleton.mp ha]; exact S.apart.1
  · intro e'
    obtain ⟨qs, hq, z⟩ := S.ex e'
    refine ⟨qs, hq.turn x (by intro a ha; rw [List.mem_singleton.mp ha]; exact (S.apart.2.1 e').2), ?_⟩
    cases hr : rows e' with
    | none => rw [hr] at z; exact z
    | some r =>
      obtain ⟨i', ec, kv2⟩ := r
      rw [hr] at z
      exact ⟨z.1, z.2.1, z.2.2.turn x (by intro a ha; rw [List.mem_singleton.mp ha]; exact (S.off e' i' ec kv2 hr).2.1)⟩

theorem nd_len : ∀ (n : Nat) (l : List Int), l.Nodup → (∀ x ∈ l, 0 ≤ x ∧ x < (n : Int)) → l.length ≤ n
  | 0, [], _, _ => Nat.le_refl _
  | 0, x :: l, _, h => by have := h x (.head _); omega
  | n + 1, l, hn, h => by
    have ih := nd_len n (l.erase (n : Int)) (hn.erase _) fun x hx => by
      have h1 := (List.Nodup.mem_erase_iff hn).mp hx
      have h2 := h x h1.2
      have h3 := h1.1
      omega
    rw [List.length_erase] at ih
    split at ih <;> omega
theorem dict_len {o : Obj} {kv : KV} (h : o.IsDictOf (intKind PW w) kv) (hk : ∀ p ∈ kv, 0 ≤ p.1 ∧ p.1 ≤ 12) : kv.length ≤ 13 := by
  obtain ⟨_, _, _, _, _, _, hn⟩ := h
  have := nd_len 13 (kv.map (·.1)) hn fun x hx => by
    obtain ⟨p, hp, rfl⟩ := List.mem_map.mp hx
    have := hk p hp
    omega
  simpa using this

/-- a row's change, seen in the keys -/
theorem keys_row {ci : Int} {d : Addr} {kv kv' : KV} (hrow : rows e = some (ci, d, kv)) (e' : Ex) (k : Int) :
    Keys (fun e' => if e' = e then some (ci, d, kv') else rows e') e' k ↔ (if e' = e then (∃ v, (k, v) ∈ kv') else Keys rows e' k) := by
  unfold Keys
  by_cases h : e' = e
  · subst h
    simp only [if_true]
    constructor
    · rintro ⟨i, a, kv2, v, h1, h2⟩
      injection h1 with h1
      obtain ⟨-, h1⟩ := Prod.mk.inj h1
      obtain ⟨-, rfl⟩ := Prod.mk.inj h1
      exact ⟨v, h2⟩
    · rintro ⟨v, h⟩
      exact ⟨ci, d, kv', v, rfl, h⟩
  · simp only [if_neg h]
theorem keys_new {ci : Int} {d : Addr} (hrow : rows e = none) (e' : Ex) (k : Int) : Keys (fun e' => if e' = e then some (ci, d, []) else rows e') e' k ↔ Keys rows e' k := by
  unfold Keys
  by_cases h : e' = e
  · subst h
    simp only [if_true, hrow]
    constructor
    · rintro ⟨i, a, kv2, v, h1, h2⟩
      injection h1 with h1
      obtain ⟨-, h1⟩ := Prod.mk.inj h1
      obtain ⟨-, rfl⟩ := Prod.mk.inj h1
      cases h2
    · rintro ⟨i, a, kv2, v, h1, h2⟩
      cases h1
  · simp only [if_neg h]
theorem grow_row {ci : Int} {d : Addr} {kv kv' : KV} (hrow : rows e = some (ci, d, kv)) (hk : ∀ k, (∃ v, (k, v) ∈ kv) → ∃ v, (k, v) ∈ kv') : Grow rows (fun e' => if e' = e then some (ci, d, kv') else rows e') := by
  intro e1 i a kv1 h
  by_cases q : e1 = e
  · subst q
    rw [hrow] at h
    cases h
    exact ⟨kv', by simp, hk⟩
  · exact ⟨kv1, by simp [q, h], fun k h => h⟩
theorem grow_new {r : Int × Addr × KV} (hrow : rows e = none) : Grow rows (fun e' => if e' = e then some r else rows e') := by
  intro e1 i a kv1 h
  by_cases q : e1 = e
  · subst q; rw [hrow] at h; cases h
  · exact ⟨kv1, by simp [q, h], fun k h => h⟩
theorem Grow.refl (rows : Rows) : Grow rows rows := fun e i a kv h => ⟨kv, h, fun k h => h⟩
theorem Grow.trans {a b c : Rows} (x : Grow a b) (y : Grow b c) : Grow a c := fun e i d kv h => by
  obtain ⟨kv1, h1, k1⟩ := x e i d kv h
  obtain ⟨kv2, h2, k2⟩ := y e i d kv1 h1
  exact ⟨kv2, h2, fun k hk => k2 k (k1 k hk)⟩

theorem turned_of {as : Led} (hfn : ∀ a o o', (a, o) ∈ news → (a, o') ∈ news → o = o') (has : ∀ r ∈ as, r ∈ news ∧ r.2.cls = .type "dict" ∧ ∃ o, (r.1, o) ∈ nf ∧ o.cls = .type "dict") (hin : ∀ q ∈ news, (∀ r ∈ as, q.1 ≠ r.1) → q ∈ nf) :
    Turned news nf (as.map (·.1)) := by
  refine ⟨fun q hq ho => hin q hq fun r hr => ho r.1 (List.mem_map_of_mem hr), fun q hq => ?_, fun q hq hc => hin q hq fun r hr e => ?_⟩
  · by_cases h : ∀ r ∈ as, q.1 ≠ r.1
    · exact ⟨q.2, hin q hq h, rfl⟩
    · simp only [ne_eq, Classical.not_forall, Classical.not_not] at h
      obtain ⟨r, hr, e⟩ := h
      obtain ⟨h1, h2, o, ho, hoc⟩ := has r hr
      refine ⟨o, e ▸ ho, ?_⟩
      obtain ⟨a, o1⟩ := q
      obtain ⟨b, o2⟩ := r
      dsimp only at e
      subst e
      rw [hfn _ _ _ hq h1]
      exact hoc.trans h2.symm
  · obtain ⟨h1, h2, _⟩ := has r hr
    obtain ⟨a, o⟩ := q
    obtain ⟨b, o2⟩ := r
    dsimp only at e
    subst e
    rw [hfn _ _ _ hq h1] at hc
    exact hc h2

/-- the end of match_core's search for its row -/
structure ProEnd (w : World) (R : Nat) (gr : Gr) (c ed : Addr) (text : Str) (e : Ex) (news : Led) (rows : Rows) (s : Shared) (g1 : Heap) (L1 : Addr) (M : Str → Option Value) (f : Flow) (s₂ : Shared) : Prop where
  out : f = Flow.next ∧ ∃ (h : Heap) (tk : Nat) (o : Option Value) (ec : Addr) (oe : Obj) (ckv1 : KV) (rows1 : Rows) (i : Int) (kv1 : KV) (rest1 : Led),
    s₂ = { s with heap := h, toks := tk } ∧ Fr g1 L1 h (fun y => if y = Str.ofString "expr_cache" then some (.ref ec) else if y = Str.ofString "oid" then o else M y) ∧ News g1 L1 h ((ec, oe) :: rest1) ∧
    (∀ q ∈ rest1, q.1 ≠ ec) ∧ rows1 e = some (i, ec, kv1) ∧ oe.IsDictOf (intKind PW w) kv1 ∧ (ec == sysModules) = false ∧ St w R gr c ed text ((ec, oe) :: rest1) ckv1 rows1 ∧ Keep news ((ec, oe) :: rest1) ∧ Grow rows rows1 ∧
    Keys rows1 = Keys rows

theorem pro_new {s : Shared} {g1 h : Heap} {L1 : Addr} {tk : Nat} {M Mf : Str → Option Value} {o : Option Value} {d t : Addr} {oc' oe : Obj} {hh : Int} {kk : Tok} {ep : Nat} {vs : List Value} {ps : List (Int × Addr)}
    (S : St w R gr c ed text news ckv rows) (hrow : rows e = none) (Ff : Fr g1 L1 h Mf) (Nf : News g1 L1 h nf)
    (hm : Mf = fun y => if y = Str.ofString "expr_cache" then some (.ref d) else if y = Str.ofString "oid" then o else M y)
    (x : Turned news nf [c, gr.xd e]) (hd : ∀ q ∈ news, q.1 ≠ d)
    (hoc : (c, oc') ∈ nf) (hocd : oc'.IsDictOf (intKind PW w) (ckv ++ [((ckv.length : Int), .ref d)])) (hxd : (gr.xd e, dictOf [⟨hh, .str (Str.ofString "oids") kk, .ref t⟩] 1) ∈ nf) (ht : (t, tupO vs ep) ∈ nf)
    (hp : PairsIn nf vs (((ckv.length : Int), d) :: ps)) (hde : (d, oe) ∈ nf) (hoe : oe.IsDictOf (intKind PW w) []) (hds : (d == sysModules) = false) (hv : vs ≠ []) (hR : ps.length ≤ R) :
    ProEnd w R gr c ed text e news rows s g1 L1 M Flow.next { s with heap := h, toks := tk } := by
  obtain ⟨rest1, N1, off, sub⟩ := front Nf hde
  have S' := S.new hrow x hd hoc hocd hxd ht hp hde hoe hds hv hR
  refine ⟨rfl, h, tk, o, d, oe, ckv ++ [((ckv.length : Int), .ref d)], (fun e' => if e' = e then some ((ckv.length : Int), d, []) else rows e'), (ckv.length : Int), [], rest1, rfl, hm ▸ Ff, N1, off, if_pos rfl, hoe, hds, S'.mono sub, x.keep.trans (Keep.of_sub sub), grow_new hrow, funext fun e' => funext fun k => propext (keys_new hrow e' k)⟩

theorem pro_hit {s : Shared} {g1 h : Heap} {L1 : Addr} {tk : Nat} {M Mf : Str → Option Value} {o : Option Value} {d : Addr} {ci : Int} {kv : KV}
    (S : St w R gr c ed text nf ckv rows) (k : Keep news nf) (hrow : rows e = some (ci, d, kv)) (Ff : Fr g1 L1 h Mf) (Nf : News g1 L1 h nf)
    (hm : Mf = fun y => if y = Str.ofString "expr_cache" then some (.ref d) else if y = Str.ofString "oid" then o else M y) :
    ProEnd w R gr c ed text e news rows s g1 L1 M Flow.next { s with heap := h, toks := tk } := by
  obtain ⟨⟨oe, hde, hoe, hds⟩, _⟩ := S.rowAt hrow
  obtain ⟨rest1, N1, off, sub⟩ := front Nf hde
  refine ⟨rfl, h, tk, o, d, oe, ckv, rows, ci, kv, rest1, rfl, hm ▸ Ff, N1, off, hrow, hoe, hds, S.mono sub, k.trans (Keep.of_sub sub), Grow.refl _, rfl⟩

theorem pro_newA {s : Shared} {g1 h : Heap} {L1 : Addr} {tk : Nat} {M Mf : Str → Option Value} {o : Option Value} {D D1 D2 D3 d : Addr} {oc od oc' oe : Obj} {hh i : Int} {kk t2 : Tok} {rest : Led}
    (S : St w R gr c ed text news ckv rows) (hrow : rows e = none) (hfn : ∀ a o o', (a, o) ∈ news → (a, o') ∈ news → o = o') (hoc0 : (c, oc) ∈ news) (hoc1 : oc.cls = .type "dict") (hxd0 : (gr.xd e, od) ∈ news) (hxd1 : od.cls = .type "dict")
    (hrin : ∀ q ∈ news, (∀ r ∈ [(c, oc), (gr.xd e, od)], q.1 ≠ r.1) → q ∈ rest)
    (Ff : Fr g1 L1 h Mf) (hm : Mf = fun y => if y = Str.ofString "expr_cache" then some (.ref d) else if y = Str.ofString "oid" then o else M y)
    (Nf : News g1 L1 h ((D, tupO [] 0) :: (D1, tupO [.ref D2] 0) :: (D2, tupO [.int i t2, .ref d] 0) :: (d, oe) :: (D3, tupO [] 0) :: (c, oc') :: (gr.xd e, dictOf [⟨hh, .str (Str.ofString "oids") kk, .ref D1⟩] 1) :: rest))
    (hi : i = (ckv.length : Int)) (hl : D3 < d ∧ c < d ∧ gr.xd e < d ∧ AllLt d rest)
    (hocd : oc'.IsDictOf (intKind PW w) (ckv ++ [((ckv.length : Int), .ref d)])) (hoe : oe.IsDictOf (intKind PW w) []) (hds : (d == sysModules) = false) :
    ProEnd w R gr c ed text e news rows s g1 L1 M Flow.next { s with heap := h, toks := tk } := by
  subst hi
  refine pro_new (vs := [.ref D2]) (ep := 0) (ps := []) (t := D1) S hrow Ff Nf hm ?_ ?_ (oc' := oc') (oe := oe) (by simp) hocd (hh := hh) (kk := kk) (by simp) (by simp) ⟨⟨D2, t2, 0, rfl, by simp, oe, by simp, dict_cls hoe⟩, trivial⟩ (by simp) hoe hds (by simp) (by simp)
  · refine turned_of (as := [(c, oc), (gr.xd e, od)]) hfn ?_ fun q hq h => by simp [hrin q hq h]
    intro r hr
    simp only [List.mem_cons, List.not_mem_nil, or_false] at hr
    rcases hr with rfl | rfl
    · exact ⟨hoc0, hoc1, oc', by simp, dict_cls hocd⟩
    · exact ⟨hxd0, hxd1, dictOf [⟨hh, .str (Str.ofString "oids") kk, .ref D1⟩] 1, by simp, rfl⟩
  · intro q hq
    by_cases h : ∀ r ∈ [(c, oc), (gr.xd e, od)], q.1 ≠ r.1
    · exact Nat.ne_of_lt (ktn_ltOf hl.2.2.2 q (hrin q hq h))
    · simp only [ne_eq, Classical.not_forall, Classical.not_not] at h
      obtain ⟨r, hr, e1⟩ := h
      simp only [List.mem_cons, List.not_mem_nil, or_false] at hr
      rcases hr with rfl | rfl
      · rw [e1]; exact Nat.ne_of_lt hl.2.1
      · rw [e1]; exact Nat.ne_of_lt hl.2.2.1

theorem pro_newB {s : Shared} {g1 h : Heap} {L1 : Addr} {tk : Nat} {M Mf : Str → Option Value} {o : Option Value} {T D D1 D2 D3 d : Addr} {oc od oc' oe : Obj} {hh i : Int} {kk t2 : Tok} {rest : Led} {vs zs : List Value} {ps : List (Int × Addr)} {x0 : Obj}
    (S : St w R gr c ed text news ckv rows) (hrow : rows e = none) (hfn : ∀ a o o', (a, o) ∈ news → (a, o') ∈ news → o = o') (hoc0 : (c, oc) ∈ news) (hoc1 : oc.cls = .type "dict") (hxd0 : (gr.xd e, od) ∈ news) (hxd1 : od.cls = .type "dict")
    (hrin : ∀ q ∈ news, (∀ r ∈ [(c, oc), (gr.xd e, od)], q.1 ≠ r.1) → q ∈ rest)
    (Ff : Fr g1 L1 h Mf) (hm : Mf = fun y => if y = Str.ofString "expr_cache" then some (.ref d) else if y = Str.ofString "oid" then o else M y)
    (Nf : News g1 L1 h ((T, tupO zs 0) :: (D, tupO [] 0) :: (D1, tupO [.ref D2] 0) :: (D2, tupO [.int i t2, .ref d] 0) :: (d, oe) :: (D3, tupO [] 0) :: (c, oc') :: (gr.xd e, dictOf [⟨hh, .str (Str.ofString "oids") kk, .ref T⟩] 1) :: rest))
    (hzs : zs = .ref D2 :: vs) (hpi : PairsIn news vs ps) (hR : ps.length ≤ R)
    (hi : i = (ckv.length : Int)) (hl : D3 < d ∧ c < d ∧ gr.xd e < d ∧ AllLt d rest)
    (hocd : oc'.IsDictOf (intKind PW w) (ckv ++ [((ckv.length : Int), .ref d)])) (hoe : oe.IsDictOf (intKind PW w) []) (hds : (d == sysModules) = false) :
    ProEnd w R gr c ed text e news rows s g1 L1 M Flow.next { s with heap := h, toks := tk } := by
  subst hi
  subst hzs
  have hT : Turned news ((T, tupO (.ref D2 :: vs) 0) :: (D, tupO [] 0) :: (D1, tupO [.ref D2] 0) :: (D2, tupO [.int (ckv.length : Int) t2, .ref d] 0) :: (d, oe) :: (D3, tupO [] 0) :: (c, oc') :: (gr.xd e, dictOf [⟨hh, .str (Str.ofString "oids") kk, .ref T⟩] 1) :: rest) [c, gr.xd e] := by
    refine turned_of (as := [(c, oc), (gr.xd e, od)]) hfn ?_ fun q hq h => by simp [hrin q hq h]
    intro r hr
    simp only [List.mem_cons, List.not_mem_nil, or_false] at hr
    rcases hr with rfl | rfl
    · exact ⟨hoc0, hoc1, oc', by simp, dict_cls hocd⟩
    · exact ⟨hxd0, hxd1, dictOf [⟨hh, .str (Str.ofString "oids") kk, .ref T⟩] 1, by simp, rfl⟩
  refine pro_new (vs := .ref D2 :: vs) (ep := 0) (ps := ps) (t := T) S hrow Ff Nf hm hT ?_ (oc' := oc') (oe := oe) (by simp) hocd (hh := hh) (kk := kk) (by simp) (by simp) ⟨⟨D2, t2, 0, rfl, by simp, oe, by simp, dict_cls hoe⟩, hpi.turn hT⟩ (by simp) hoe hds (by simp) hR
  · intro q hq
    by_cases h : ∀ r ∈ [(c, oc), (gr.xd e, od)], q.1 ≠ r.1
    · exact Nat.ne_of_lt (ktn_ltOf hl.2.2.2 q (hrin q hq h))
    · simp only [ne_eq, Classical.not_forall, Classical.not_not] at h
      obtain ⟨r, hr, e1⟩ := h
      simp only [List.mem_cons, List.not_mem_nil, or_false] at hr
      rcases hr with rfl | rfl
      · rw [e1]; exact Nat.ne_of_lt hl.2.1
      · rw [e1]; exact Nat.ne_of_lt hl.2.2.1
end
end Mine
end

section
-- part Mcl
open PySem PySem.Spec PySem.Calls PySem.W PyProof.Rows
local macro_rules | `(tactic| walk_at "pad of mine") => `(tactic| fail)
local macro_rules | `(tactic| walk_at "pad of mine") => `(tactic| fail)
local macro_rules | `(tactic| walk_at "pad of mine") => `(tactic| fail)
local macro_rules | `(tactic| walk_at "pad of mine") => `(tactic| fail)
local macro_rules | `(tactic| walk_at "pad of mine") => `(tactic| fail)
local macro_rules | `(tactic| walk_at "pad of mine") => `(tactic| fail)
local macro_rules | `(tactic| walk_at "pad of mine") => `(tactic| fail)
local macro_rules | `(tactic| walk_at "pad of mine") => `(tactic| fail)
local macro_rules | `(tactic| walk_at "pad of mine") => `(tactic| fail)
local macro_rules | `(tactic| walk_at "pad of mine") => `(tactic| fail)
local macro_rules | `(tactic| k_mem) => `(tactic| first | exact List.Mem.head _ | (refine' List.mem_cons_of_mem _ ?_; k_mem))
namespace Mine
theorem InstAt.of_newsF {h₀ h : Heap} {L x C dx : Addr} {news : List (Addr × Obj)} {od : Obj} {vs : Array Value} {sl : Array (Option Value)} (N : News h₀ L h news) (h1 : (x, ({ cls := .ref C, dict := some dx, data := .fields vs, slots := sl } : Obj)) ∈ news) (h2 : (dx, od) ∈ news) :
    InstAt h x ({ cls := .ref C, dict := some dx, data := .fields vs, slots := sl } : Obj) C (some od) := ⟨N.get h1, rfl, rfl, N.get h2⟩
end Mine

namespace Mine
section
variable {w : World} {A : Around} {E : Value → Shared → Prop} {s : Shared} {L : Addr} {h₀ : Heap} {m : Str → Option Value} {gr : Gr} {news : Led} {sl : Array (Option Value)} {od : Obj} {Q : Value → Shared → Prop} {t : Tok} {dflt : Value}
theorem none_name (hA : A.handled = none) (F : Fr h₀ L s.heap m) (N : News h₀ L s.heap news) (h : ∀ h' tk, Fr h₀ L h' m → News h₀ L h' news → Q dflt { s with heap := h', toks := tk }) :
    wpAny (model PW w) A (call (.builtin "getattr") [.none, .str (Str.ofString "name") t, dflt]) Q E s := ga3_none_name hA fun h' tk hk => h h' tk (F.keeps hk) (Mine.News.keeps N hk)
theorem truthy_lst {d : Addr} {vs : List Value} {n : Nat} {b : Bool} {Q : Bool → Shared → Prop} (N : News h₀ L s.heap news) (hm : (d, lstO vs n) ∈ news) (hz : vs.length ≤ 1000) (hb : (!vs.isEmpty) = b)
    (h : Q b { s with toks := s.toks + 1 + 1 }) : wpAny (model PW w) A (truthy (.ref d)) Q E s :=
  wpAny_truthy_list (items := vs.toArray) ⟨_, N.get hm, rfl, _, rfl⟩ (by simp; omega) (by rw [show (!vs.toArray.isEmpty) = b by simpa using hb]; exact h)
theorem inf_gt (n : Int) : (Float64.cmpInt INF n == some Ordering.gt) = true := by
  have : Float64.decode INF = .inf false := by kernel_rfl
  unfold Float64.cmpInt
  rw [this]
  rfl
theorem inf_lt {n : Int} {u : Tok} {Q : Value → Shared → Prop} (h : Q (.bool true) s) : wpAny (model PW w) A (compareOp .Lt (.int n u) (.float INF t)) Q E s := lt_if (by rw [inf_gt]; exact h)
theorem len_lst {d : Addr} {vs : List Value} {n : Nat} {Q : Value → Shared → Prop} (N : News h₀ L s.heap news) (hm : (d, lstO vs n) ∈ news) (hz : vs.length ≤ 1000)
    (h : Q (.int vs.length (s.toks + 1)) { s with toks := s.toks + 1 + 1 }) : wpAny (model PW w) A (call (.builtin "len") [.ref d]) Q E s :=
  Calls.call_len_list (items := vs.toArray) ⟨_, N.get hm, rfl, _, rfl⟩ (by simp; omega) h
theorem core_method {es : List DictEntry} {n : Nat} {pl : Sem Bool} {Q : Value × List Value → Shared → Prop} (F : Fr h₀ L s.heap m) (X₀ : (hd.heap_39 w.params).In h₀) (N : News h₀ L s.heap news) (e : Ex) (hi : (gr.xa e, ({ cls := .ref e.cls, dict := some (gr.xd e), data := .plain, slots := sl } : Obj)) ∈ news) (hd : (gr.xd e, dictOf es n) ∈ news)
    (hl : getL (Str.ofString "match_core") es = some none) (h : Q (.ref 297, [.ref (gr.xa e)]) s) : wpAny (model PW w) A (getMethod (.ref (gr.xa e)) (Str.ofString "match_core") pl) Q E s := by
  have I := InstAt.of_news N hi hd
  cases e <;> exact method_inst F X₀ I (by k_is) (by k_is) (by k_is) hl h
theorem name3 (F : Fr h₀ L s.heap m) (X₀ : (hd.heap_39 w.params).In h₀) (N : News h₀ L s.heap news) (e : Ex) (hi : (gr.xa e, ({ cls := .ref e.cls, dict := some (gr.xd e), data := .plain, slots := sl } : Obj)) ∈ news) (hd : (gr.xd e, od) ∈ news) (hn : NameAt e sl)
    (h : ∀ tk, Q (.str e.nm tk) s) : wpAny (model PW w) A (call (.builtin "getattr") [.ref (gr.xa e), .str (Str.ofString "name") t, dflt]) Q E s := by
  have I := InstAt.of_news N hi hd
  have X := X₀.keeps F.keep
  cases e <;> (
    first
    | (obtain ⟨a, b, c, d, tk, rfl⟩ := hn
       exact ga3_name X I (by k_is) (ga_slot (i := 4) F X₀ I (by k_is) (by k_is) (by k_is) (by k_is) (by k_is) (by k_is) rfl rfl (h tk)))
    | (obtain ⟨a, b, tk, rfl⟩ := hn
       exact ga3_name X I (by k_is) (ga_slot (i := 2) F X₀ I (by k_is) (by k_is) (by k_is) (by k_is) (by k_is) (by k_is) rfl rfl (h tk))))
end
end Mine
namespace Mine
abbrev mcM (x : Addr) (text : Str) (tt : Tok) (p : Int) (tp : Tok) (c er : Addr) : Str → Option Value := fun y => List.lookup y [(Str.ofString "error", .ref er), (Str.ofString "cache", .ref c), (Str.ofString "pos", .int p tp), (Str.ofString "text", .str text tt), (Str.ofString "self", .ref x)]

theorem mcM_0 {x : Addr} {text : Str} {tt : Tok} {p : Int} {tp : Tok} {c er : Addr} : mcM x text tt p tp c er = fun y => if y = Str.ofString "expr_cache" then none else if y = Str.ofString "oid" then none else mcM x text tt p tp c er y := by
  funext y
  by_cases h1 : y = Str.ofString "expr_cache"
  · subst h1; rfl
  · simp only [if_neg h1]
    by_cases h2 : y = Str.ofString "oid"
    · subst h2; rfl
    · simp only [if_neg h2]
theorem PairsIn.get {news : Led} : ∀ {vs : List Value} {ps : List (Int × Addr)}, PairsIn news vs ps → ∀ (i : Nat) (x : Value), vs[i]? = some x → ∃ a tk ep i' a', x = Value.ref a ∧ (a, tupO [.int i' tk, .ref a'] ep) ∈ news ∧ (i', a') ∈ ps
  | [], [], _, i, x, h => by simp at h
  | v :: vs, p :: ps, ⟨⟨a, tk, ep, e, h, _⟩, r⟩, i, x, hx => by
    cases i with
    | zero => simp at hx; subst hx; exact ⟨a, tk, ep, p.1, p.2, e, h, by simp⟩
    | succ i =>
      obtain ⟨a, tk, ep, i', a', h1, h2, h3⟩ := PairsIn.get r i x (by simpa using hx)
      exact ⟨a, tk, ep, i', a', h1, h2, List.mem_cons_of_mem _ h3⟩

theorem mcM_turn {M : Str → Option Value} {a b ev o1 : Option Value} : (fun y => if y = Str.ofString "expr_cache" then a else if y = Str.ofString "oid" then b else if y = Str.ofString "expr_cache" then ev else if y = Str.ofString "oid" then o1 else M y) =
    fun y => if y = Str.ofString "expr_cache" then a else if y = Str.ofString "oid" then b else M y := by
  funext y
  by_cases h1 : y = Str.ofString "expr_cache"
  · simp only [if_pos h1]
  · by_cases h2 : y = Str.ofString "oid"
    · simp only [if_neg h1, if_pos h2]
    · simp only [if_neg h1, if_neg h2]

theorem mcM_done {M : Str → Option Value} {a ev o1 : Option Value} : (fun y => if y = Str.ofString "expr_cache" then a else if y = Str.ofString "expr_cache" then ev else if y = Str.ofString "oid" then o1 else M y) =
    fun y => if y = Str.ofString "expr_cache" then a else if y = Str.ofString "oid" then o1 else M y := by
  funext y
  by_cases h1 : y = Str.ofString "expr_cache"
  · simp only [if_pos h1]
  · simp only [if_neg h1]

theorem mcM_new {x : Addr} {text : Str} {tt : Tok} {p : Int} {tp : Tok} {c er : Addr} {v : Value} : (fun y => if y = Str.ofString "expr_cache" then some v else mcM x text tt p tp c er y) =
    fun y => if y = Str.ofString "expr_cache" then some v else if y = Str.ofString "oid" then none else mcM x text tt p tp c er y := by
  funext y
  by_cases h1 : y = Str.ofString "expr_cache"
  · simp only [if_pos h1]
  · simp only [if_neg h1]
    by_cases h2 : y = Str.ofString "oid"
    · subst h2; rfl
    · simp only [if_neg h2]

theorem own_dict {w : World} {R : Nat} {gr : Gr} {c ed : Addr} {text : Str} {news : Led} {ckv : KV} {rows : Rows} (S : St w R gr c ed text news ckv rows) (e : Ex) :
    ∃ es n, (gr.xd e, dictOf es n) ∈ news ∧ getL (Str.ofString "_uncached_match") es = some none ∧ getL (Str.ofString "match_core") es = some none := by
  obtain ⟨ps, hps, -⟩ := S.ex e
  rcases hps with ⟨-, h⟩ | ⟨hh, kk, t, vs, ep, h, -⟩
  · exact ⟨_, _, h, rfl, rfl⟩
  · refine ⟨_, _, h, ?_, ?_⟩ <;> rfl
theorem valueAt_isSome {kv : KV} {p : Int} (h : ∃ v, (p, v) ∈ kv) : (valueAt kv p).isSome = true := by
  obtain ⟨v, h⟩ := h
  unfold valueAt
  rw [Option.isSome_map, List.find?_isSome]
  exact ⟨_, h, decide_eq_true rfl⟩
theorem mem_rest {news : Led} {d : Addr} {o : Obj} {q : Addr × Obj} (h : q ∈ (d, o) :: news) (hne : q.1 ≠ d) : q ∈ news := by
  rcases List.mem_cons.mp h with rfl | h
  · exact absurd rfl hne
  · exact h
theorem nd_row {h₀ h : Heap} {L d : Addr} {news : Led} {o : Obj} {q : Addr × Obj} (N : News h₀ L h ((d, o) :: news)) (hc : o.cls = .type "dict") (h : q ∈ (d, o) :: news) (hn : q.2.cls ≠ .type "dict") : q ∈ news :=
  mem_rest h (Mine.News.ne N (o := q.2) h (.head _) (by rw [hc]; exact hn))

theorem keys_put {rows : Rows} {e : Ex} {ci : Int} {d : Addr} {kv : KV} {p : Int} {v : Value} (hrow : rows e = some (ci, d, kv)) :
    Keys (fun e' => if e' = e then some (ci, d, kv ++ [(p, v)]) else rows e') = fun e' k => Keys rows e' k ∨ (e' = e ∧ k = p) := by
  funext e' k
  rw [eq_iff_iff, keys_row hrow]
  by_cases h : e' = e
  · subst h
    simp only [if_true, true_and, List.mem_append, List.mem_singleton, Prod.mk.injEq]
    constructor
    · rintro ⟨v', h | ⟨h, -⟩⟩
      · exact .inl ⟨ci, d, kv, v', hrow, h⟩
      · exact .inr h
    · rintro (⟨i, a, kv', v', h1, h2⟩ | h)
      · rw [hrow] at h1; cases h1; exact ⟨v', .inl h2⟩
      · exact ⟨v, .inr ⟨h, rfl⟩⟩
  · simp [h]
theorem keys_map {rows : Rows} {e : Ex} {ci : Int} {d : Addr} {kv : KV} {p : Int} {v : Value} (hrow : rows e = some (ci, d, kv)) :
    Keys (fun e' => if e' = e then some (ci, d, kv.map (fun q => if q.1 = p then (q.1, v) else q)) else rows e') = Keys rows := by
  funext e' k
  rw [eq_iff_iff, keys_row hrow]
  by_cases h : e' = e
  · subst h
    simp only [if_true, List.mem_map]
    constructor
    · rintro ⟨v', q, h1, h2⟩
      have : q.1 = k := by split at h2 <;> (cases h2; rfl)
      exact ⟨ci, d, kv, q.2, hrow, this ▸ h1⟩
    · rintro ⟨i, a, kv', v', h1, h2⟩
      rw [hrow] at h1; cases h1
      by_cases hk : k = p
      · exact ⟨v, (k, v'), h2, by simp [hk]⟩
      · exact ⟨v', (k, v'), h2, by simp [hk]⟩
  · simp only [if_neg h]
theorem Spec.use {w : World} {mean : ExcName → Option Value} {mg mb : Str → Option Value} {f : Addr} {args : List Value} {dd uu : Nat} {Pre : Led → Prop} {Post : Led → Value → Led → Prop}
    {dp un : Nat} {gd : Option (List Code)} {cn : Str} {cs : Scope} {a : Addr} {ccd : Value} {cl : List (Str × Addr)} {outer : List Env} {A₀ : Around} {base h₀ : Heap} {L : Addr} {m : Str → Option Value} {news : Led} {s : Shared} {Q E : Value → Shared → Prop}
    (B : Below A₀ base outer h₀) (F : Fr h₀ L s.heap m) (X : (hd.heap_39 w.params).In h₀) (N : News h₀ L s.heap news) (T : Top topProg TLOOSE mean mg mb h₀) (hk : cs.kind = .function) (C : Spec w mean mg mb f args dd uu Pre Post) (pre : Pre news)
    (hd : dp + dd < recursionLimit) (hu : un + uu < cLine)
    (ret : ∀ r news' h' tk', Fr h₀ L h' m → News h₀ L h' news' → Post news r news' → Q r { s with heap := h', toks := tk' }) :
    wpAny (model PW w) (ktrTop dp un gd cn cs L a ccd cl outer) (call (.ref f) args) Q E s := C _ _ _ _ _ _ _ _ _ _ _ _ _ _ _ _ _ _ B F X N T hk pre hd hu ret

theorem allNe_c1 {P1 : Prop} {b a : Nat} {l : Led} (k : P1 ∧ AllLt b l) (h : b ≤ a) : ∀ p ∈ l, p.1 ≠ a := allNe_of k.2 h
theorem allNe_c2 {P1 P2 : Prop} {b a : Nat} {l : Led} (k : P1 ∧ P2 ∧ AllLt b l) (h : b ≤ a) : ∀ p ∈ l, p.1 ≠ a := allNe_of k.2.2 h
theorem allNe_c3 {P1 P2 P3 : Prop} {b a : Nat} {l : Led} (k : P1 ∧ P2 ∧ P3 ∧ AllLt b l) (h : b ≤ a) : ∀ p ∈ l, p.1 ≠ a := allNe_of k.2.2.2 h
theorem allNe_c4 {P1 P2 P3 P4 : Prop} {b a : Nat} {l : Led} (k : P1 ∧ P2 ∧ P3 ∧ P4 ∧ AllLt b l) (h : b ≤ a) : ∀ p ∈ l, p.1 ≠ a := allNe_of k.2.2.2.2 h
theorem allNe_c5 {P1 P2 P3 P4 P5 : Prop} {b a : Nat} {l : Led} (k : P1 ∧ P2 ∧ P3 ∧ P4 ∧ P5 ∧ AllLt b l) (h : b ≤ a) : ∀ p ∈ l, p.1 ≠ a := allNe_of k.2.2.2.2.2 h
theorem allNe_c6 {P1 P2 P3 P4 P5 P6 : Prop} {b a : Nat} {l : Led} (k : P1 ∧ P2 ∧ P3 ∧ P4 ∧ P5 ∧ P6 ∧ AllLt b l) (h : b ≤ a) : ∀ p ∈ l, p.1 ≠ a := allNe_of k.2.2.2.2.2.2 h
theorem allNe_c7 {P1 P2 P3 P4 P5 P6 P7 : Prop} {b a : Nat} {l : Led} (k : P1 ∧ P2 ∧ P3 ∧ P4 ∧ P5 ∧ P6 ∧ P7 ∧ AllLt b l) (h : b ≤ a) : ∀ p ∈ l, p.1 ≠ a := allNe_of k.2.2.2.2.2.2.2 h
theorem allNe_c8 {P1 P2 P3 P4 P5 P6 P7 P8 : Prop} {b a : Nat} {l : Led} (k : P1 ∧ P2 ∧ P3 ∧ P4 ∧ P5 ∧ P6 ∧ P7 ∧ P8 ∧ AllLt b l) (h : b ≤ a) : ∀ p ∈ l, p.1 ≠ a := allNe_of k.2.2.2.2.2.2.2.2 h
theorem dom_lt {news rest : Led} {D d : Nat} {o : Obj} (K : Keep news (((D : Addr), o) :: rest)) (h : D < d) (hr : AllLt d rest) : ∀ q ∈ news, q.1 < d := fun q hq => by
  obtain ⟨ob, h1, -⟩ := K.dom q hq
  rcases List.mem_cons.mp h1 with h2 | h2
  · have : q.1 = D := congrArg Prod.fst h2
    rw [this]; exact h
  · exact ktn_ltOf hr (q.1, ob) h2
theorem map_keys {kv : KV} {p : Int} {v : Value} : ∀ k, (∃ v', (k, v') ∈ kv) → ∃ v', (k, v') ∈ kv.map (fun q => if q.1 = p then (q.1, v) else q) := by
  rintro k ⟨v', h⟩
  by_cases hk : k = p
  · exact ⟨v, List.mem_map.mpr ⟨_, h, by simp [hk]⟩⟩
  · exact ⟨v', List.mem_map.mpr ⟨_, h, by simp [hk]⟩⟩
theorem turned_head {d : Addr} {o o' : Obj} {rest : Led} (hc : o.cls = .type "dict") (hc' : o'.cls = .type "dict") : Turned ((d, o) :: rest) ((d, o') :: rest) [d] := by
  refine ⟨fun q hq h => List.mem_cons_of_mem _ (mem_rest hq (h d (by simp))), fun q hq => ?_, fun q hq h => ?_⟩
  · rcases List.mem_cons.mp hq with rfl | hq
    · exact ⟨o', .head _, hc'.trans hc.symm⟩
    · exact ⟨q.2, .tail _ hq, rfl⟩
  · rcases List.mem_cons.mp hq with rfl | hq
    · exact absurd hc h
    · exact .tail _ hq
theorem turned_snd {x : Addr × Obj} {d : Addr} {o o' : Obj} {rest : Led} (hc : o.cls = .type "dict") (hc' : o'.cls = .type "dict") : Turned (x :: (d, o) :: rest) (x :: (d, o') :: rest) [d] := by
  refine ⟨fun q hq h => ?_, fun q hq => ?_, fun q hq h => ?_⟩
  · rcases List.mem_cons.mp hq with rfl | hq
    · exact .head _
    · exact .tail _ (.tail _ (mem_rest hq (h d (by simp))))
  · rcases List.mem_cons.mp hq with rfl | hq
    · exact ⟨q.2, .head _, rfl⟩
    · rcases List.mem_cons.mp hq with rfl | hq
      · exact ⟨o', .tail _ (.head _), hc'.trans hc.symm⟩
      · exact ⟨q.2, .tail _ (.tail _ hq), rfl⟩
  · rcases List.mem_cons.mp hq with rfl | hq
    · exact .head _
    · rcases List.mem_cons.mp hq with rfl | hq
      · exact absurd hc h
      · exact .tail _ (.tail _ hq)
theorem row_put {w : World} {R : Nat} {gr : Gr} {c ed : Addr} {text : Str} {rest1 : Led} {ckv : KV} {rows : Rows} {e : Ex} {ci : Int} {d : Addr} {kv kv' : KV} {oe o' : Obj} (S : St w R gr c ed text ((d, oe) :: rest1) ckv rows) (hrow : rows e = some (ci, d, kv))
    (hc : oe.cls = .type "dict") (hd : o'.IsDictOf (intKind PW w) kv') (hk : ∀ q ∈ kv', 0 ≤ q.1 ∧ q.1 ≤ 12) :
    St w R gr c ed text ((d, o') :: rest1) ckv (fun e' => if e' = e then some (ci, d, kv') else rows e') ∧ Keep ((d, oe) :: rest1) ((d, o') :: rest1) :=
  ⟨S.row hrow (turned_head hc (dict_cls hd)) (.head _) hd hk, (turned_head hc (dict_cls hd)).keep⟩
theorem row_map {w : World} {R : Nat} {gr : Gr} {c ed : Addr} {text : Str} {rest1 : Led} {ckv : KV} {rows : Rows} {e : Ex} {ci : Int} {d : Addr} {kv : KV} {oe o' : Obj} {p : Int} {v : Value} (S : St w R gr c ed text ((d, oe) :: rest1) ckv rows) (hrow : rows e = some (ci, d, kv))
    (hc : oe.cls = .type "dict") (hd : o'.IsDictOf (intKind PW w) (kv.map fun q => if q.1 = p then (q.1, v) else q)) :
    St w R gr c ed text ((d, o') :: rest1) ckv (fun e' => if e' = e then some (ci, d, kv.map fun q => if q.1 = p then (q.1, v) else q) else rows e') ∧ Keep ((d, oe) :: rest1) ((d, o') :: rest1) :=
  row_put S hrow hc hd (by
    intro q hq
    obtain ⟨q', h, rfl⟩ := List.mem_map.mp hq
    have := (S.off e ci d kv hrow).2.2.2 q' h
    split <;> exact this)
theorem err_put {w : World} {R : Nat} {gr : Gr} {c ed : Addr} {text : Str} {x : Addr × Obj} {rest : Led} {ckv : KV} {rows : Rows} {o o' : Obj} (S : St w R gr c ed text (x :: (ed, o) :: rest) ckv rows)
    (hc : o.cls = .type "dict") (hc' : o'.cls = .type "dict") (he : ErrOk (x :: (ed, o') :: rest) gr ed text) : St w R gr c ed text (x :: (ed, o') :: rest) ckv rows ∧ Keep (x :: (ed, o) :: rest) (x :: (ed, o') :: rest) :=
  ⟨S.errset (turned_snd hc hc') he, (turned_snd hc hc').keep⟩

theorem IsTs.snoc {gr : Gr} {text : Str} {B news : Led} {v : Value} {t : T} : ∀ {vs ts}, IsTs gr text B news vs ts → IsT gr text B news v t → IsTs gr text B news (vs ++ [v]) (ts ++ [t])
  | _, _, .nil, h => .cons h .nil
  | _, _, .cons h1 h2, h => .cons h1 (IsTs.snoc h2 h)
theorem IsTs.length {gr : Gr} {text : Str} {B news : Led} : ∀ {vs ts}, IsTs gr text B news vs ts → vs.length = ts.length
  | _, _, .nil => rfl
  | _, _, .cons _ h => congrArg (· + 1) (IsTs.length h)
/-- the state within the loops that gather children -/
structure LoopAt (w : World) (R : Nat) (gr : Gr) (c er ed : Addr) (text : Str) (tt tp : Tok) (e : Ex) (p : Int) (news0 : Led) (rows0 : Rows) (D : Addr) (q : Int) (tq : Tok) (ts : List T) (vs : List Value) (ckv : KV) (rows : Rows) (m : Str → Option Value) (rest : Led) : Prop where
  m_self : m (Str.ofString "self") = some (.ref (gr.xa e))
  m_text : m (Str.ofString "text") = some (.str text tt)
  m_pos : m (Str.ofString "pos") = some (.int p tp)
  m_cache : m (Str.ofString "cache") = some (.ref c)
  m_error : m (Str.ofString "error") = some (.ref er)
  m_new_pos : m (Str.ofString "new_pos") = some (.int q tq)
  m_children : m (Str.ofString "children") = some (.ref D)
  st : St w R gr c ed text ((D, lstO vs vs.length) :: rest) ckv rows
  keep : Keep news0 ((D, lstO vs vs.length) :: rest)
  grow : Grow rows0 rows
  trees : IsTs gr text ((D, lstO [] 0) :: news0) ((D, lstO vs vs.length) :: rest) vs ts
  off : ∀ q ∈ rest, q.1 ≠ D
  new : ∀ q ∈ news0, q.1 ≠ D
end Mine
end

section
-- part Sem
open PySem PySem.Spec PySem.Calls PySem.W PyProof.Rows
local macro_rules | `(tactic| walk_at "pad of mine") => `(tactic| fail)
local macro_rules | `(tactic| walk_at "pad of mine") => `(tactic| fail)
local macro_rules | `(tactic| walk_at "pad of mine") => `(tactic| fail)
local macro_rules | `(tactic| walk_at "pad of mine") => `(tactic| fail)
local macro_rules | `(tactic| walk_at "pad of mine") => `(tactic| fail)
local macro_rules | `(tactic| walk_at "pad of mine") => `(tactic| fail)
local macro_rules | `(tactic| walk_at "pad of mine") => `(tactic| fail)
local macro_rules | `(tactic| walk_at "pad of mine") => `(tactic| fail)
local macro_rules | `(tactic| walk_at "pad of mine") => `(tactic| fail)
local macro_rules | `(tactic| walk_at "pad of mine") => `(tactic| fail)
local macro_rules | `(tactic| walk_at "pad of mine") => `(tactic| fail)
set_option linter.unusedVariables false
namespace Mine
def litRes (e : Ex) (text : Str) (p : Int) : Option T := if Txt.startswith3 text e.lit p = true then some (.node e p (p + 1) []) else none
abbrev eS (g : Bool) : Ex := if g then .uS else .lS
abbrev eA (g : Bool) : Ex := if g then .uA else .lA
abbrev eZ (g : Bool) : Ex := if g then .uZ else .lZ
abbrev eB (g : Bool) : Ex := if g then .uB else .lB
theorem litRes_some {e : Ex} {text : Str} {p : Int} {t : T} (h : litRes e text p = some t) : t = .node e p (p + 1) [] ∧ Txt.startswith3 text e.lit p = true := by
  unfold litRes at h
  split at h
  · rename_i z
    injection h with h
    exact ⟨h.symm, z⟩
  · cases h
/-- letter `y` at `p` -/
theorem sw_iff {x y : Str} {p : Int} (hy : y.length = 1) (hp : 0 ≤ p) : Txt.startswith3 x y p = true ↔ p < (x.length : Int) ∧ Txt.startswith3 x y p = true := by
  refine ⟨fun h => ⟨?_, h⟩, fun h => h.2⟩
  unfold Txt.startswith3 at h
  rw [Bool.and_eq_true, decide_eq_true_eq] at h
  have h1 := h.1
  unfold fromIndex at h1
  rw [if_neg (by omega)] at h1
  omega
theorem lit_len (e : Ex) : e.lit.length = 1 := by cases e <;> rfl
theorem litRes_lt {e : Ex} {text : Str} {p : Int} {t : T} (hp : 0 ≤ p) (h : litRes e text p = some t) : p < (text.length : Int) := ((sw_iff (lit_len e) hp).mp (litRes_some h).2).1
theorem sw_ne {x y z : Str} {p : Int} (hy : y.length = 1) (hz : z.length = 1) (h1 : Txt.startswith3 x y p = true) (h2 : Txt.startswith3 x z p = true) : y.cps = z.cps := by
  unfold Txt.startswith3 at h1 h2
  rw [Bool.and_eq_true] at h1 h2
  have a := h1.2
  have b := h2.2
  unfold Builtin.Str.subAt at a b
  rw [hy] at a
  rw [hz] at b
  rw [beq_iff_eq] at a b
  exact a.symm.trans b
theorem lit_apart {text : Str} {p : Int} {t : T} (g : Bool) (h : litRes (eB g) text p = some t) : litRes (eA g) text p = none := by
  have h1 := (litRes_some h).2
  unfold litRes
  rw [if_neg]
  intro h2
  have := sw_ne (lit_len _) (lit_len _) h1 h2
  revert this
  cases g <;> decide
theorem lit_apart' {text : Str} {p : Int} {t : T} (h : litRes .lA text p = some t) : litRes .uA text p = none := by
  have h1 := (litRes_some h).2
  unfold litRes
  rw [if_neg]
  intro h2
  have := sw_ne (lit_len _) (lit_len _) h1 h2
  revert this
  decide

mutual
/-- a rule's own match -/
inductive RS (text : Str) (g : Bool) : Int → Option T → Prop
  | no {p : Int} : litRes (eA g) text p = none → RS text g p none
  | bad {p q : Int} {a : T} {ts : List T} : litRes (eA g) text p = some a → RZ text g (p + 1) ts q → litRes (eB g) text q = none → RS text g p none
  | ok {p q : Int} {a b : T} {ts : List T} : litRes (eA g) text p = some a → RZ text g (p + 1) ts q → litRes (eB g) text q = some b → RS text g p (some (.node (eS g) p (q + 1) [a, .node (eZ g) (p + 1) q ts, b]))
/-- any number of a rule's matches -/
inductive RZ (text : Str) (g : Bool) : Int → List T → Int → Prop
  | stop {p : Int} : ¬ p < (text.length : Int) → RZ text g p [] p
  | fail {p : Int} : p < (text.length : Int) → RS text g p none → RZ text g p [] p
  | step {p t q : Int} {e : Ex} {cs ts : List T} : p < (text.length : Int) → RS text g p (some (.node e p t cs)) → RZ text g t ts q → RZ text g p (.node e p t cs :: ts) q
end
inductive RO (text : Str) : Int → Option T → Prop
  | u {p t : Int} {e : Ex} {cs : List T} : RS text true p (some (.node e p t cs)) → RO text p (some (.node .one p t [.node e p t cs]))
  | l {p t : Int} {e : Ex} {cs : List T} : RS text true p none → RS text false p (some (.node e p t cs)) → RO text p (some (.node .one p t [.node e p t cs]))
  | no {p : Int} : RS text true p none → RS text false p none → RO text p none
inductive RT (text : Str) : Int → List T → Int → Prop
  | stop {p : Int} : ¬ p < (text.length : Int) → RT text p [] p
  | fail {p : Int} : p < (text.length : Int) → RO text p none → RT text p [] p
  | step {p t q : Int} {e : Ex} {cs ts : List T} : p < (text.length : Int) → RO text p (some (.node e p t cs)) → RT text t ts q → RT text p (.node e p t cs :: ts) q

abbrev Ks := Ex → Int → Prop
def Ks.add (K : Ks) (e : Ex) (p : Int) : Ks := fun e' k => K e' k ∨ (e' = e ∧ k = p)
def Lt (K : Ks) (e : Ex) (x : Int) : Prop := ∀ k, K e k → k < x
def Frame (g : Bool) (K0 K : Ks) : Prop := ∀ e, e ≠ eS g → e ≠ eA g → e ≠ eB g → e ≠ eZ g → ∀ k, K e k ↔ K0 e k
theorem Frame.refl (g : Bool) (K : Ks) : Frame g K K := fun _ _ _ _ _ _ => Iff.rfl
theorem Frame.trans {g : Bool} {a b c : Ks} (x : Frame g a b) (y : Frame g b c) : Frame g a c := fun e h1 h2 h3 h4 k => (y e h1 h2 h3 h4 k).trans (x e h1 h2 h3 h4 k)
theorem Frame.add {g : Bool} {a b : Ks} {e : Ex} {p : Int} (x : Frame g a b) (he : e = eS g ∨ e = eA g ∨ e = eB g ∨ e = eZ g) : Frame g a (b.add e p) := fun e' h1 h2 h3 h4 k => by
  unfold Ks.add
  refine (or_iff_left ?_).trans (x e' h1 h2 h3 h4 k)
  rintro ⟨rfl, -⟩
  rcases he with h | h | h | h
  · exact h1 h
  · exact h2 h
  · exact h3 h
  · exact h4 h
/-- all keys of the group lie below -/
structure Bel (g : Bool) (x : Int) (K : Ks) : Prop where
  s : Lt K (eS g) x
  a : Lt K (eA g) x
  b : Lt K (eB g) x
  z : Lt K (eZ g) x
/-- all but Z's lie below, Z's no higher -/
structure Up (g : Bool) (x : Int) (K : Ks) : Prop where
  s : Lt K (eS g) x
  a : Lt K (eA g) x
  b : Lt K (eB g) x
  z : Lt K (eZ g) (x + 1)
structure PS (g : Bool) (x : Int) (K : Ks) : Prop where
  s : Lt K (eS g) (x + 1)
  a : Lt K (eA g) x
  b : Lt K (eB g) x
  z : Lt K (eZ g) (x + 1)
structure QLow (g : Bool) (x : Int) (K : Ks) : Prop where
  s : Lt K (eS g) (x + 1)
  a : Lt K (eA g) (x + 1)
  b : Lt K (eB g) x
  z : Lt K (eZ g) (x + 1)
structure QS (text : Str) (g : Bool) (p : Int) (K0 : Ks) (res : Option T) (K : Ks) : Prop where
  rel : RS text g p res
  frame : Frame g K0 K
  some : ∀ e s t cs, res = some (.node e s t cs) → s = p ∧ p < t ∧ t ≤ (text.length : Int) ∧ Bel g t K
  bs : ∀ k, K (eB g) k → K0 (eB g) k ∨ p < k
  low : litRes (eA g) text p = none → QLow g p K
structure QZ (text : Str) (g : Bool) (p : Int) (K0 : Ks) (res : Option T) (K : Ks) : Prop where
  rel : ∃ ts q, res = some (.node (eZ g) p q ts) ∧ RZ text g p ts q ∧ p ≤ q ∧ q ≤ (text.length : Int) ∧ ¬ K (eB g) q ∧ (litRes (eA g) text q = none → QLow g q K)
  frame : Frame g K0 K
  bs : ∀ k, K (eB g) k → K0 (eB g) k ∨ p ≤ k
end Mine
end

section
-- part McLit
open PySem PySem.Spec PySem.Calls PySem.W PyProof.Rows
local macro_rules | `(tactic| k_room) => `(tactic| ktr_room)
local macro_rules | `(tactic| k_all) => `(tactic| exact allNe_of' (by assumption) (by omega))
local macro_rules | `(tactic| k_all) => `(tactic| ((with_reducible rename AllLt _ _ => hAllLt); exact allNe_of hAllLt (by omega)))
local macro_rules | `(tactic| k_all) => `(tactic| assumption)
local macro_rules | `(tactic| k_mem) => `(tactic| first | exact List.Mem.head _ | (refine' List.mem_cons_of_mem _ ?_; k_mem))
local macro_rules | `(tactic| walk_at "call builtin:getattr") => `(tactic| (k_here; k_dflt (refine' Mine.oids_miss ?hA ?k1 ?k2 ?k3 ?k4 ?k5 ?k6 ?k7 ?k8 ?k9 ?k10 ?k11 ?k12 ?_; (case hA => exact rfl); (case k1 => k_asm); (case k2 => k_asm); (case k3 => k_asm); (case k4 => k_inst); (case k5 => k_is); (case k6 => k_is); (case k7 => k_is); (case k8 => k_is); (case k9 => k_is); (case k10 => decide +kernel); (case k11 => decide +kernel); (case k12 => k_get); k_whole); intro h' tk' F' N'; (try k_sweep)))
local macro_rules | `(tactic| walk_at "call builtin:getattr") => `(tactic| (k_here; k_dflt (refine' Mine.oids_hit ?k1 ?k2 ?k4 ?k5 ?k6 ?k7 ?k8 ?k12 ?k13 ?_; (case k1 => k_asm); (case k2 => k_asm); (case k4 => k_inst); (case k5 => k_is); (case k6 => k_is); (case k7 => k_is); (case k8 => k_is); (case k12 => k_get); (case k13 => k_handed); k_whole)))
local macro_rules | `(tactic| walk_at "exec For Tuple Call") => `(tactic| refine wpAny_For ?_)
local macro_rules | `(tactic| walk_at "call builtin:len") => `(tactic| (k_here; (with_reducible show wpAny _ _ (call (Value.builtin "len") [Value.ref _]) _ _ _); k_dflt (refine kda_len (knd := PySem.intKind _ _) (by k_asm) (by k_mem) (by assumption) (by assumption) (by first | omega | (simp only [List.length_append, List.length_cons, List.length_nil]; omega)) ?_)))
local macro_rules | `(tactic| walk_at "setItem ref int") => `(tactic| (k_here; k_dflt (refine' Mine.set_new ?F ?N ?U ?d ?z ?v ?_; (case F => k_asm); (case N => k_asm); (case U => k_updF); (case d => assumption); (case z => (try simp only [List.length_append, List.length_cons, List.length_nil]); omega); (case v => assumption)); intro h' o' F' N' hd'; (try dsimp only at N'); (try k_sweep)))
local macro_rules | `(tactic| walk_at "getMethod ref") => `(tactic| (k_here; (with_reducible show wpAny _ _ (getMethod (Value.ref _) (Str.ofString "get") _) _ _ _); k_dflt (refine kdg_method (knd := PySem.intKind _ _) (by k_asm) (by k_mem) (by assumption) ?_)))
local macro_rules | `(tactic| walk_at "call builtin:dict.get") => `(tactic| (k_here; k_dflt (refine kdg_get1 (knd := PySem.intKind _ _) (by k_asm) (by k_mem) (by assumption) (by assumption) (intKind_is _ _ _ _) _ (by first | assumption | rfl) ?_); (try dsimp only [Option.getD])))
local macro_rules | `(tactic| walk_at "compareOp In int ref") => `(tactic| (k_here; k_dflt (refine kda_in (knd := PySem.intKind _ _) (by k_asm) (by k_mem) (by assumption) (by assumption) (intKind_is _ _ _ _) _ (by first | assumption | rfl) ?_)))
local macro_rules | `(tactic| walk_at "compareOp Is ref ref") => `(tactic| (k_here; k_dflt (refine' wpAny_is_ref_other ?ne ?x ?y ?n ?_; (case ne => assumption); (case x => (exact (PyProof.Rows.News.get (by k_asm) (by k_mem)))); (case y => (exact (PyProof.Rows.News.get (by k_asm) (by k_mem)))); (case n => assumption))))
local macro_rules | `(tactic| walk_at "binaryOp Add ref ref") => `(tactic| (k_here; k_dflt (refine' kde_addT ?k1 ?k2 ?k3 ?k4 ?k5 ?k6 ?k7 ?k8 ?_; (case k1 => k_asm); (case k2 => k_asm); (case k3 => exact PyProof.Rows.News.isTup (by k_asm) (by k_mem)); (case k4 => exact PyProof.Rows.News.isTup (by k_asm) (by k_mem)); (case k5 => exact List.cons_ne_nil _ _); (case k6 => assumption); (case k7 => (simp only [List.length_cons, List.length_nil]; omega)); (case k8 => exact rfl); k_whole); intro D' h' F' N' l1; (try k_lt l1); (try k_sweep)))
local macro_rules | `(tactic| walk_at "getMethod ref") => `(tactic| (k_here; k_dflt (refine' method_inst ?k1 ?k2 ?k3 ?k4 ?k5 ?k6 ?k7 ?_; (case k1 => k_asm); (case k2 => k_asm); (case k3 => k_inst); (case k4 => k_is); (case k5 => k_is); (case k6 => k_is); (case k7 => assumption); k_whole)))
local macro_rules | `(tactic| walk_at "setItem ref int") => `(tactic| (k_here; k_dflt (refine' Mine.set_old ?F ?N ?U ?d ?z ?v ?_; (case F => k_asm); (case N => k_asm); (case U => k_updF); (case d => assumption); (case z => omega); (case v => assumption)); intro h' o' F' N' hd'; (try dsimp only at N'); (try k_sweep)))
local macro_rules | `(tactic| k_inst) => `(tactic| (refine' Mine.InstAt.of_newsF ?N ?h1 ?h2; (case N => k_asm); (case h1 => k_mem); (case h2 => k_mem)))
local macro_rules | `(tactic| walk_at "getAttr ref") => `(tactic| (k_here; k_dflt (refine' Mine.get_exc ?k1 ?k2 ?k3 ?k4 ?k5 ?k6 ?k7 ?k8 ?k9 ?k10 ?_; (case k1 => k_asm); (case k2 => k_asm); (case k3 => k_inst); (case k4 => k_is); (case k5 => k_is); (case k6 => k_is); (case k7 => k_is); (case k8 => k_is); (case k9 => k_get); (case k10 => k_handed); k_whole)))
local macro_rules | `(tactic| walk_at "setAttr ref") => `(tactic| (k_here; k_dflt (refine' Mine.set_exc ?k1 ?k2 ?k3 ?k4 ?k5 ?k6 ?k7 ?k8 ?k9 ?k10 ?k11 ?k12 ?k13 ?k14 ?k15 ?_; (case k1 => k_asm); (case k2 => k_asm); (case k3 => k_asm); (case k4 => k_inst); (case k5 => exact rfl); (case k6 => k_is); (case k7 => k_is); (case k8 => (intro self; (try dsimp only); (repeat rw [refuseLoop_ref]); exact PySem.F.store_Exception.passes self)); (case k9 => k_is); (case k10 => exact rfl); (case k11 => k_is); (case k12 => k_get); (case k13 => k_put); (case k14 => k_upd); (case k15 => exact Nat.le_of_ble_eq_true rfl); k_whole); intro h' F' N'; (try k_sweep)))
local macro_rules | `(tactic| walk_at "call builtin:getattr") => `(tactic| (k_here; k_dflt (refine' Mine.none_name ?hA ?k1 ?k2 ?_; (case hA => exact rfl); (case k1 => k_asm); (case k2 => k_asm)); intro h' tk' F' N'; (try k_sweep)))
local macro_rules | `(tactic| walk_at "call builtin:getattr") => `(tactic| (k_here; k_dflt (refine' Mine.name3 ?k1 ?k2 ?k3 _ ?k4 ?k5 ?k6 ?_; (case k1 => k_asm); (case k2 => k_asm); (case k3 => k_asm); (case k4 => k_mem); (case k5 => k_mem); (case k6 => assumption)); intro nt'))
local macro_rules | `(tactic| walk_at "eval Name") => `(tactic| (k_here; k_dflt (refine' ld ?k1 ?k2 ?_; (case k1 => k_asm); (case k2 => first | exact rfl | assumption); k_whole)))
local macro_rules | `(tactic| walk_at "call builtin:list.append") => `(tactic| (k_here; (show wpAny _ _ (call (Value.builtin _) [Value.ref _, _]) _ _ _); k_dflt (refine' append_K ?k1 ?k2 ?k3 ?_ ?z; (case k1 => k_asm); (case k2 => k_asm); (case k3 => k_upd); (case z => (rw [sizeLine_eq]; simp only [List.size_toArray]; omega)); k_whole); intro h' F' N'; (try k_sweep)))
local macro_rules | `(tactic| walk_at "getMethod ref") => `(tactic| (k_here; (with_reducible show wpAny _ _ (getMethod (Value.ref _) (Str.ofString "match_core") _) _ _ _); k_dflt (refine' Mine.core_method ?k1 ?k2 ?k3 _ ?k4 ?k5 ?k6 ?_; (case k1 => k_asm); (case k2 => k_asm); (case k3 => k_asm); (case k4 => k_mem); (case k5 => k_mem); (case k6 => assumption))))
local macro_rules | `(tactic| walk_at "loadName") => `(tactic| (refine' ldn ?k1 ?k2 ?_; (case k1 => assumption); (case k2 => first | exact rfl | assumption)))
local macro_rules | `(tactic| k_all) => `(tactic| first | exact Mine.allNe_c1 (by assumption) (by omega) | exact Mine.allNe_c2 (by assumption) (by omega) | exact Mine.allNe_c3 (by assumption) (by omega) | exact Mine.allNe_c4 (by assumption) (by omega) | exact Mine.allNe_c5 (by assumption) (by omega) | exact Mine.allNe_c6 (by assumption) (by omega) | exact Mine.allNe_c7 (by assumption) (by omega) | exact Mine.allNe_c8 (by assumption) (by omega))
local macro_rules | `(tactic| walk_at "truthy ref") => `(tactic| (k_here; (with_reducible show wpAny _ _ (truthy (Value.ref _)) _ _ _); k_dflt (refine' Mine.truthy_lst ?N ?m ?z ?b ?_; (case N => k_asm); (case m => k_mem); (case z => first | omega | (simp only [List.length_cons, List.length_nil]; omega)); (case b => first | assumption | exact (show _ = true from rfl) | exact (show _ = false from rfl)))))
local macro_rules | `(tactic| walk_at "compareOp Lt int float") => `(tactic| refine Mine.inf_lt ?_)
local macro_rules | `(tactic| walk_at "call builtin:len") => `(tactic| (k_here; (with_reducible show wpAny _ _ (call (Value.builtin "len") [Value.ref _]) _ _ _); k_dflt (refine' Mine.len_lst ?N ?m ?z ?_; (case N => k_asm); (case m => k_mem); (case z => first | omega | (simp only [List.length_cons, List.length_nil]; omega)))))
local macro_rules | `(tactic| walk_at "call ref") => `(tactic| (k_here; (with_reducible show wpAny _ _ (call (Value.ref 87) _) _ _ _); k_dflt (refine' Mine.call_exc ?F ?X ?N ?hC ?hB ?hA ?hN ?hi ?hf ?hself ?hz ?_; (case F => k_asm); (case X => k_asm); (case N => k_asm); (case hC => k_is); (case hB => decide +kernel); (case hA => decide +kernel); (case hN => decide +kernel); (case hi => k_is); (case hf => k_is); (case hself => k_is); (case hz => exact Nat.le_of_ble_eq_true rfl); k_whole); intro x' t' h' F' N' l1 l2; (try k_lt l1); (try k_lt2 l2); (try k_sweep); k_enter))
local macro_rules | `(tactic| walk_at "call ref") => `(tactic| (k_here; (with_reducible show wpAny _ _ (call (Value.ref 125) _) _ _ _); k_dflt (refine' Mine.call_exc ?F ?X ?N ?hC ?hB ?hA ?hN ?hi ?hf ?hself ?hz ?_; (case F => k_asm); (case X => k_asm); (case N => k_asm); (case hC => k_is); (case hB => decide +kernel); (case hA => decide +kernel); (case hN => decide +kernel); (case hi => k_is); (case hf => k_is); (case hself => k_is); (case hz => exact Nat.le_of_ble_eq_true rfl); k_whole); intro x' t' h' F' N' l1 l2; (try k_lt l1); (try k_lt2 l2); (try k_sweep); k_enter))
local macro_rules | `(tactic| walk_at "setAttr ref") => `(tactic| (k_here; k_dflt (refine' Mine.set_exc0 ?F ?X ?N ?hx ?hs ?hc ?hp ?hm ?hD ?ha ?_; (case F => k_asm); (case X => k_asm); (case N => k_asm); (case hx => k_all); (case hs => k_is); (case hc => k_is); (case hp => (intro self; (try dsimp only); (repeat rw [refuseLoop_ref]); exact PySem.F.store_Exception.passes self)); (case hm => k_is); (case hD => exact rfl); (case ha => k_is); k_whole); intro d' h' F' N' l1; (try k_lt l1); (try k_sweep)))
namespace Mine
theorem mc_lit {w : World} {mean : ExcName → Option Value} {mg mb : Str → Option Value} {gr : Gr} {c er ed : Addr} {text : Str} {e : Ex} {p : Int} {tt tp : Tok} {dU uU R : Nat} (hRR : R ≤ 20)
    (hcls : e.cls = 367) (hnq : e = .uA ∨ e = .uB ∨ e = .lA ∨ e = .lB) (hp0 : 0 ≤ p) (hp1 : p ≤ 12)
    {UP : (Ex → Int → Prop) → Prop} {UR : (Ex → Int → Prop) → Option T → (Ex → Int → Prop) → Prop}
    (hU : ∀ ckv rows, Spec w mean mg mb 356 [.ref (gr.xa e), .str text tt, .int p tp, .ref c, .ref er] dU uU
      (fun news => St w R gr c ed text news ckv rows ∧ Stat gr er ed news ∧ UP (Keys rows))
      (fun news r news' => ∃ ckv' rows' res, St w R gr c ed text news' ckv' rows' ∧ Keep news news' ∧ Grow rows rows' ∧ ResOk gr text news news' r res ∧ UR (Keys rows) res (Keys rows')))
    (ckv : KV) (rows : Rows) :
    Spec w mean mg mb 297 [.ref (gr.xa e), .str text tt, .int p tp, .ref c, .ref er] (dU + 10) (uU + 50)
      (fun news => St w R gr c ed text news ckv rows ∧ Stat gr er ed news ∧ ¬ Keys rows e p ∧ UP (fun e' k => Keys rows e' k ∨ (e' = e ∧ k = p)))
      (fun news r news' => ∃ ckv' rows' res, St w R gr c ed text news' ckv' rows' ∧ Keep news news' ∧ Grow rows rows' ∧ ResOk gr text news news' r res ∧ UR (fun e' k => Keys rows e' k ∨ (e' = e ∧ k = p)) res (Keys rows')) := by
  intro dp un gd cn cs a ccd cl outer A₀ base h₀ L m news s Q E B F X N T hk hPre hdd huu hret
  obtain ⟨S, ST, hnk, hup⟩ := hPre
  obtain ⟨sl, hin, hna, -⟩ := ST.inst e
  have hnn : e.nm = Str.ofString "" := by rcases hnq with rfl | rfl | rfl | rfl <;> rfl
  have hna' : ∃ a b tk, sl = #[a, b, some (.str (Str.ofString "") tk)] := by rcases hnq with rfl | rfl | rfl | rfl <;> exact hna
  obtain ⟨sl1, sl2, sltk, rfl⟩ := hna'
  unfold InstOk at hin
  rw [hcls] at hin
  w_top off; w_on
  refine wpAny_call ?_
  w_strict (k_dflt (refine' code_def ?k1 ?k2 ?k3 ?k4 ?k5 ?kA ?kF ?kK ?k6 ?k7 ?k8 ?k9 ?kB ?_ ?c2 ?c3 ?c4 ?c5; (case kA => exact rfl); (case kF => exact rfl); (case kK => assumption); (case k1 => k_asm); (case k2 => k_asm); (case k3 => k_asm); (case k4 => k_asm); (case k5 => k_asm); (case k6 => k_is); (case k7 => k_is); (case k8 => ktr_room); (case k9 => exact BindsTo.of_eq rfl); (case c5 => decide); (case kB => exact locs rfl); (case c2 => exact rfl); (case c3 => exact rfl); (case c4 => exact rfl); k_whole); intro g1 L1 h1 FG1 F1 N1 B1 X1 T1; (try dsimp only); (try k_fold))
  have hfn : ∀ a o o', (a, o) ∈ news → (a, o') ∈ news → o = o' := fun a o o' x y => Mine.News.fn N1 x y
  replace F1 : Fr g1 L1 h1 (mcM (gr.xa e) text tt p tp c er) := F1
  refine wpAny_execs_cons ?_
  refine wpAny_mono (Q := ProEnd w R gr c ed text e news rows s g1 L1 (mcM (gr.xa e) text tt p tp c er)) (E := fun _ _ => False) ?pro ?rest (fun _ _ x => x.elim)
  case pro =>
    clear qk ek
    obtain ⟨ps, hps, hr⟩ := S.ex e
    obtain ⟨oc, hoc, hocd, hcs⟩ := S.cache
    cases hrow : rows e with
    | none =>
      rcases hps with ⟨rfl, hxd⟩ | hps
      · obtain ⟨rest, Nr, hrs, hro, hrin, hrall⟩ := relist N1 [(c, oc), (gr.xd e, dictOf [] 0)] (by simp [hoc, hxd])
        have hrc : ∀ q ∈ rest, q.1 ≠ c := hro (c, oc) (by simp)
        have hrx : ∀ q ∈ rest, q.1 ≠ gr.xd e := hro (gr.xd e, dictOf [] 0) (by simp)
        have hir : (gr.xa e, ({ cls := .ref 367, dict := some (gr.xd e), data := .plain, slots := #[sl1, sl2, some (.str (Str.ofString "") sltk)] } : Obj)) ∈ rest :=
          hrin _ hin (by simp only [List.mem_cons, List.not_mem_nil, or_false, forall_eq_or_imp, forall_eq]; exact ⟨Mine.News.ne N1 hin hoc (by rw [dict_cls hocd]; exact ref_nd _), Mine.News.ne N1 hin hxd (ref_nd _)⟩)
        have hcx : @Ne Nat (gr.xd e) c := (S.apart.2.1 e).1
        have hcl : ckv.length ≤ 20 := by rw [S.count]; exact Nat.le_trans List.countP_le_length (by decide)
        have hcn : valueAt ckv (ckv.length : Int) = none := valueAt_none fun q hq => by have := S.keys q hq; omega
        simp only [List.cons_append, List.nil_append] at Nr
        w_strict (iterate 14 (first | (k_unfold; (try dsimp only)) | (k_end; wrow_close) | walk1 | (dsimp only; walk1) | (leave1; walk_say "STEP leave1"; try dsimp only) | fail "no step"))
        refine Mine.for_tup (vs := []) (ep := 0) rfl (fun _ m' n' => m' = _ ∧ n' = _) (by assumption) (by assumption) ⟨rfl, rfl⟩ ?ht ?turn ?done
        case ht => rintro i m' n' ⟨-, rfl⟩; exact List.Mem.head _
        case turn => intro i x it o h tk m' n' hx; simp at hx
        case done =>
          rintro h9 tk9 m9 n9 ⟨rfl, rfl⟩ F9 N9
          w_strict (k_sweep; repeat' (first | (k_unfold; (try dsimp only)) | (k_end; wrow_close) | walk1 | (dsimp only; walk1) | (leave1; walk_say "STEP leave1"; try dsimp only) | fail "no step"))
          with_reducible rename News _ _ _ _ => Nf
          with_reducible rename Fr _ _ _ _ => Ff
          dsimp only at Nf ⊢
          exact pro_newA (o := none) S hrow hfn hoc (dict_cls hocd) hxd rfl hrin Ff mcM_new Nf (by simp) (by assumption) (by assumption) (by assumption) (by assumption)
      · obtain ⟨hh, kk, t, vs, ep, hxd, ht, hpi, hvn⟩ := hps
        rw [hrow] at hr
        obtain ⟨rest, Nr, hrs, hro, hrin, hrall⟩ := relist N1 [(c, oc), (gr.xd e, dictOf [⟨hh, .str (Str.ofString "oids") kk, .ref t⟩] 1)] (by simp [hoc, hxd])
        have hrc : ∀ q ∈ rest, q.1 ≠ c := hro (c, oc) (by simp)
        have hrx : ∀ q ∈ rest, q.1 ≠ gr.xd e := hro (gr.xd e, dictOf [⟨hh, .str (Str.ofString "oids") kk, .ref t⟩] 1) (by simp)
        have nd : ∀ q ∈ news, q.2.cls ≠ .type "dict" → q ∈ rest := fun q hq hc => hrin q hq (by
          simp only [List.mem_cons, List.not_mem_nil, or_false, forall_eq_or_imp, forall_eq]
          exact ⟨Mine.News.ne N1 (o := q.2) hq hoc (by rw [dict_cls hocd]; exact hc), Mine.News.ne N1 (o := q.2) hq hxd hc⟩)
        have hir : (gr.xa e, ({ cls := .ref 367, dict := some (gr.xd e), data := .plain, slots := #[sl1, sl2, some (.str (Str.ofString "") sltk)] } : Obj)) ∈ rest := nd _ hin (ref_nd _)
        have htr : (t, tupO vs ep) ∈ rest := nd _ ht tup_nd
        have hcx : @Ne Nat (gr.xd e) c := (S.apart.2.1 e).1
        have hcl : ckv.length ≤ 20 := by rw [S.count]; exact Nat.le_trans List.countP_le_length (by decide)
        have hcn : valueAt ckv (ckv.length : Int) = none := valueAt_none fun q hq => by have := S.keys q hq; omega
        simp only [List.cons_append, List.nil_append] at Nr
        have hvl : vs.length ≤ 100 := by rw [hpi.length]; have := hr.1; omega
        w_strict (iterate 14 (first | (k_unfold; (try dsimp only)) | (k_end; wrow_close) | walk1 | (dsimp only; walk1) | (leave1; walk_say "STEP leave1"; try dsimp only) | fail "no step"))
        refine Mine.for_tup (vs := vs) (ep := ep) rfl (fun _ m' n' => (∃ o ev, m' = (fun y => if y = Str.ofString "expr_cache" then ev else if y = Str.ofString "oid" then o else mcM (gr.xa e) text tt p tp c er y)) ∧ n' = _) (by assumption) (by assumption) ⟨⟨none, none, mcM_0⟩, rfl⟩ ?ht ?turn ?done
        case ht => rintro i m' n' ⟨-, rfl⟩; simp [htr]
        case turn =>
          rintro i x it o h tk m' n' hx ⟨⟨o1, ev, rfl⟩, rfl⟩ F9 N9 hoi off
          obtain ⟨pa, ptk, pep, pi, pe, rfl, hpm, hps⟩ := hpi.get i x hx
          have hpr := nd _ hpm tup_nd
          cases hv : valueAt ckv pi with
          | none =>
            w_strict (k_sweep; repeat' (first | (k_unfold; (try dsimp only)) | (k_end; wrow_close) | walk1 | (dsimp only; walk1) | (leave1; walk_say "STEP leave1"; try dsimp only) | fail "no step"))
            with_reducible rename News _ _ _ _ => Nf
            with_reducible rename Fr _ _ _ _ => Ff
            exact ⟨_, _, _, _, rfl, Ff, Nf, off, ⟨_, _, mcM_turn⟩, rfl⟩
          | some v =>
            obtain ⟨e1, a', kv1, rfl, hr1⟩ := S.refs _ (valueAt_mem hv)
            have hne : a' ≠ pe := fun z => hr.2 (pi, pe) hps _ (valueAt_mem hv) (by rw [z])
            obtain ⟨oa, hoa, hoad, -⟩ := (S.rowAt hr1).1
            have hoa' := hrall _ hoa
            have hoac : oa.cls ≠ .type "tuple" := by rw [dict_cls hoad]; decide
            obtain ⟨ob, hob⟩ := PairsIn.dom hpi _ hps
            have hob' := hrall _ hob
            simp only [List.cons_append, List.nil_append] at hoa' hob'
            w_strict (k_sweep; repeat' (first | (k_unfold; (try dsimp only)) | (k_end; wrow_close) | walk1 | (dsimp only; walk1) | (leave1; walk_say "STEP leave1"; try dsimp only) | fail "no step"))
            with_reducible rename News _ _ _ _ => Nf
            with_reducible rename Fr _ _ _ _ => Ff
            exact ⟨_, _, _, _, rfl, Ff, Nf, off, ⟨_, _, mcM_turn⟩, rfl⟩
        case done =>
          rintro h9 tk9 m9 n9 ⟨⟨o1, ev, rfl⟩, rfl⟩ F9 N9
          w_strict (k_sweep; repeat' (first | (k_unfold; (try dsimp only)) | (k_end; wrow_close) | walk1 | (dsimp only; walk1) | (leave1; walk_say "STEP leave1"; try dsimp only) | fail "no step"))
          with_reducible rename News _ _ _ _ => Nf
          with_reducible rename Fr _ _ _ _ => Ff
          dsimp only at Nf ⊢
          exact pro_newB (x0 := oc) S hrow hfn hoc (dict_cls hocd) hxd rfl hrin Ff mcM_done Nf rfl hpi hr.1 (by simp) (by assumption) (by assumption) (by assumption) (by assumption)
    | some r =>
      obtain ⟨ci, ec, kv⟩ := r
      rw [hrow] at hr
      obtain ⟨⟨⟨tl, rfl⟩, hpl⟩, hva, -⟩ := hr
      rcases hps with ⟨hps, -⟩ | ⟨hh, kk, t, vs, ep, hxd, ht, hpi, hvn⟩
      · cases hps
      obtain ⟨oec, hec, hecd, -⟩ := (S.rowAt hrow).1
      have hvl : vs.length ≤ 100 := by rw [hpi.length]; omega
      w_strict (iterate 14 (first | (k_unfold; (try dsimp only)) | (k_end; wrow_close) | walk1 | (dsimp only; walk1) | (leave1; walk_say "STEP leave1"; try dsimp only) | fail "no step"))
      refine Mine.for_tup (vs := vs) (ep := ep) rfl (fun i m' n' => i = 0 ∧ m' = mcM (gr.xa e) text tt p tp c er ∧ n' = _) (by assumption) (by assumption) ⟨rfl, rfl, rfl⟩ ?ht ?turn ?done
      case ht => rintro i m' n' ⟨-, -, rfl⟩; exact List.mem_cons_of_mem _ ht
      case done => rintro h9 tk9 m9 n9 ⟨h, -, -⟩; exact absurd (List.eq_nil_of_length_eq_zero h) hvn
      case turn =>
        rintro i x it o h tk m' n' hx ⟨rfl, rfl, rfl⟩ F9 N9 hoi off
        obtain ⟨v0, vs', rfl⟩ := List.exists_cons_of_ne_nil hvn
        simp at hx
        subst hx
        obtain ⟨⟨pa, ptk, pep, rfl, hpm, -⟩, -⟩ := hpi
        w_strict (k_sweep; repeat' (first | (k_unfold; (try dsimp only)) | (k_end; wrow_close) | walk1 | (dsimp only; walk1) | (leave1; walk_say "STEP leave1"; try dsimp only) | fail "no step"))
        with_reducible rename News _ _ _ _ => Nf
        with_reducible rename Fr _ _ _ _ => Ff
        dsimp only
        exact pro_hit (S.mono fun q hq => by simp [hq]) (Keep.of_sub fun q hq => by simp [hq]) hrow Ff Nf rfl
  case rest =>
    rintro f s₂ ⟨rfl, h2, tk2, o2, ec, oe, ckv1, rows1, i1, kv1, rest1, rfl, F2, N2, off2, hrow1, hoed, hes, S1, K1, G1, hkeys⟩
    dsimp only
    have hnk1 : valueAt kv1 p = none := valueAt_none fun q hq hp => hnk (by rw [← hkeys]; exact ⟨i1, ec, kv1, q.2, hrow1, hp ▸ hq⟩)
    have hkr := (S1.off e i1 ec kv1 hrow1).2.2.2
    have hkl : kv1.length ≤ 13 := dict_len hoed hkr
    have hoc1 := dict_cls hoed
    have in1 : (gr.xa e, ({ cls := .ref 367, dict := some (gr.xd e), data := .plain, slots := #[sl1, sl2, some (.str (Str.ofString "") sltk)] } : Obj)) ∈ rest1 := nd_row N2 hoc1 (K1.same _ hin (ref_nd _)) (ref_nd _)
    obtain ⟨es, en, hxd, hum, -⟩ := own_dict S1 e
    replace hxd := mem_rest hxd ((S1.off e i1 ec kv1 hrow1).2.2.1 e).symm
    have hnk2 : (valueAt kv1 p).isSome = false := by rw [hnk1]; rfl
    have hfn2 : ∀ a o o', (a, o) ∈ (ec, oe) :: rest1 → (a, o') ∈ (ec, oe) :: rest1 → o = o' := fun a o o' x y => Mine.News.fn N2 x y
    w_strict (k_sweep; iterate 31 (first | (k_unfold; (try dsimp only)) | (k_end; wrow_close) | walk1 | (dsimp only; walk1) | (leave1; walk_say "STEP leave1"; try dsimp only) | fail "no step"))
    with_reducible rename News _ _ _ _ => N3
    with_reducible rename Fr _ _ _ _ => F3
    rename Obj.IsDictOf _ _ (kv1 ++ _) => hd3
    obtain ⟨S3, K3⟩ := row_put S1 hrow1 hoc1 hd3 (by
        intro q hq
        rcases List.mem_append.mp hq with h | h
        · exact hkr q h
        · rw [List.mem_singleton.mp h]; exact ⟨hp0, hp1⟩)
    replace K3 := K1.trans K3
    have G3 := G1.trans (grow_row hrow1 (kv' := kv1 ++ [(p, .ref 251)]) fun k ⟨v, hv⟩ => ⟨v, List.mem_append_left _ hv⟩)
    have hk3 := keys_put (p := p) (v := .ref 251) hrow1
    rw [hkeys] at hk3
    refine Spec.use B1 F3 X1 N3 T1 rfl (hU _ _) ⟨S3, ST.keep K3, hk3 ▸ hup⟩ (by ktr_room) (by ktr_units) ?_
    rintro r news4 h4 tk4 F4 N4 ⟨ckv4, rows4, res, S4, K4, G4, hres, hur⟩
    rw [hk3] at hur
    obtain ⟨kv4, hrow4, hkv4⟩ := G4 e i1 ec _ (if_pos rfl)
    have hhas : (valueAt kv4 p).isSome = true := valueAt_isSome (hkv4 p ⟨_, List.mem_append_right _ (.head _)⟩)
    obtain ⟨⟨oe4, hde4, hoe4, -⟩, -⟩ := S4.rowAt hrow4
    obtain ⟨rest4, N5, off5, sub5⟩ := front N4 hde4
    have hoc4 := dict_cls hoe4
    have K5 := (K3.trans K4).trans (Keep.of_sub sub5)
    have S5 := S4.mono sub5
    have ST5 := ST.keep K5
    have hkr5 := (S5.off e i1 ec kv4 hrow4).2.2.2
    have hkl5 : kv4.length ≤ 13 := dict_len hoe4 hkr5
    have hfn5 : ∀ a o o', (a, o) ∈ (ec, oe4) :: rest4 → (a, o') ∈ (ec, oe4) :: rest4 → o = o' := fun a o o' x y => Mine.News.fn N5 x y
    have in5 : (gr.xa e, ({ cls := .ref 367, dict := some (gr.xd e), data := .plain, slots := #[sl1, sl2, some (.str (Str.ofString "") sltk)] } : Obj)) ∈ rest4 := nd_row N5 hoc4 (K5.same _ hin (ref_nd _)) (ref_nd _)
    obtain ⟨vse, sle, her⟩ := ST5.err
    replace her := nd_row N5 hoc4 her (ref_nd _)
    obtain ⟨hh1, hh2, hh3, kk1, kk2, kk3, ettt, epos, et, ev, hed, hep0, hep1, hev⟩ := S5.err
    replace hed := mem_rest hed ((S5.off e i1 ec kv4 hrow4).2.1).symm
    obtain ⟨es5, en5, hxd5, -⟩ := own_dict S5 e
    replace hxd5 := mem_rest hxd5 ((S5.off e i1 ec kv4 hrow4).2.2.1 e).symm
    clear N4 hde4
    cases res with
    | some T0 =>
      cases hres with
      | @mk na nl nd nod ne ns nt nts ntt ntx nvs ncs nep hn1 hn2 hn3 hn4 hn5 hn8 hn6 hn7 =>
      have hn1' := nd_row N5 hoc4 (sub5 _ hn1) (ref_nd _)
      w_strict (repeat' (first | (k_unfold; (try dsimp only)) | (k_end; wrow_close) | walk1 | (dsimp only; walk1) | (leave1; walk_say "STEP leave1"; try dsimp only) | fail "no step"))
      with_reducible rename News _ _ _ _ => N9
      with_reducible rename Fr _ _ _ _ => F9
      rename Obj.IsDictOf _ _ (List.map _ _) => hd9
      obtain ⟨S9, K9⟩ := row_map S5 hrow4 hoc4 hd9
      have hk9 := keys_map (p := p) (v := .ref na) hrow4
      refine hret _ _ _ _ F9 N9 ⟨_, _, some (.node ne ns nt ncs), S9, K5.trans K9, G3.trans (G4.trans (grow_row hrow4 (map_keys))), ?_, ?_⟩
      · exact IsT.keep ((Keep.of_sub sub5).trans K9) (IsT.le K3.at (.mk hn1 hn2 hn3 hn4 hn5 hn8 hn6 hn7))
      · rw [hk9]; exact hur
    | none =>
      cases hres
      obtain ⟨rest6, N6, hrs6, hro6, hrin6, hrall6⟩ := relist N5 [(ec, oe4), (ed, dictOf [⟨hh1, .str (Str.ofString "text") kk1, .str text ettt⟩, ⟨hh2, .str (Str.ofString "pos") kk2, .int epos et⟩, ⟨hh3, .str (Str.ofString "expr") kk3, ev⟩] 3)] (by simp [hed])
      have nd6 : ∀ q ∈ rest4, q.2.cls ≠ .type "dict" → q ∈ rest6 := fun q hq hc => hrin6 q (.tail _ hq) (by
        simp only [List.mem_cons, List.not_mem_nil, or_false, forall_eq_or_imp, forall_eq]
        exact ⟨off5 q hq, Mine.News.ne N5 (o := q.2) (.tail _ hq) (.tail _ hed) hc⟩)
      simp only [List.cons_append, List.nil_append] at N6 hrall6
      have in6 := nd6 _ in5 (ref_nd _)
      have her6 := nd6 _ her (ref_nd _)
      have xd6 : ∀ e' o, (gr.xd e', o) ∈ (ec, oe4) :: rest4 → (gr.xd e', o) ∈ rest6 := fun e' o h => hrin6 _ h (by
        simp only [List.mem_cons, List.not_mem_nil, or_false, forall_eq_or_imp, forall_eq]
        exact ⟨((S5.off e i1 ec kv4 hrow4).2.2.1 e').symm, (S5.apart.2.1 e').2⟩)
      have hxd6 := xd6 e _ (.tail _ hxd5)
      have S6 := S5.mono hrall6
      have K6 := K5.trans (Keep.of_sub hrall6)
      have hce6 : @Ne Nat ec ed := (S5.off e i1 ec kv4 hrow4).2.1
      have hoff6 : ∀ q ∈ rest6, q.1 ≠ ec := hro6 (ec, oe4) (by simp)
      have hofd6 : ∀ q ∈ rest6, q.1 ≠ ed := fun q hq => hro6 (ed, _) (List.mem_cons_of_mem _ (List.mem_singleton.mpr rfl)) q hq
      clear N5 hed in5 her hxd5 off5
      rcases hev with rfl | ⟨e9, rfl⟩
      · w_strict (repeat' (first | (k_unfold; (try dsimp only)) | (k_end; wrow_close) | walk1 | (dsimp only; walk1) | (leave1; walk_say "STEP leave1"; try dsimp only) | fail "no step"))
        · with_reducible rename News _ _ _ _ => N9
          with_reducible rename Fr _ _ _ _ => F9
          rename Obj.IsDictOf _ _ (List.map _ _) => hd9
          obtain ⟨S9, K9⟩ := row_map S6 hrow4 hoc4 hd9
          have hk9 := keys_map (p := p) (v := .none) hrow4
          obtain ⟨S9', K9'⟩ := err_put (o' := dictOf [⟨hh1, .str (Str.ofString "text") kk1, .str text ettt⟩, ⟨hh2, .str (Str.ofString "pos") kk2, .int p tp⟩, ⟨hh3, .str (Str.ofString "expr") kk3, .ref (gr.xa e)⟩] 3) S9 rfl rfl
            ⟨hh1, hh2, hh3, kk1, kk2, kk3, ettt, p, tp, .ref (gr.xa e), by simp, by omega, by omega, .inr ⟨e, rfl⟩⟩
          exact hret _ _ _ _ F9 N9 ⟨_, _, none, S9', K6.trans (K9.trans K9'), G3.trans (G4.trans (grow_row hrow4 map_keys)), rfl, hk9 ▸ hur⟩
        · with_reducible rename News _ _ _ _ => N9
          with_reducible rename Fr _ _ _ _ => F9
          rename Obj.IsDictOf _ _ (List.map _ _) => hd9
          obtain ⟨S9, K9⟩ := row_map S6 hrow4 hoc4 hd9
          have hk9 := keys_map (p := p) (v := .none) hrow4
          exact hret _ _ _ _ F9 N9 ⟨_, _, none, S9, K6.trans K9, G3.trans (G4.trans (grow_row hrow4 map_keys)), rfl, hk9 ▸ hur⟩
      · obtain ⟨sl9, hi9, hn9, -⟩ := ST5.inst e9
        have hi9' := nd6 _ (nd_row (Mine.News.sub N6 hrall6) hoc4 hi9 (ref_nd _)) (ref_nd _)
        obtain ⟨o9, ho9⟩ := S5.xdAt e9
        replace ho9 := xd6 e9 _ ho9
        w_strict (repeat' (first | (k_unfold; (try dsimp only)) | (k_end; wrow_close) | walk1 | (dsimp only; walk1) | (leave1; walk_say "STEP leave1"; try dsimp only) | fail "no step"))
        all_goals
          with_reducible rename News _ _ _ _ => N9
          with_reducible rename Fr _ _ _ _ => F9
          rename Obj.IsDictOf _ _ (List.map _ _) => hd9
          obtain ⟨S9, K9⟩ := row_map S6 hrow4 hoc4 hd9
          have hk9 := keys_map (p := p) (v := .none) hrow4
          exact hret _ _ _ _ F9 N9 ⟨_, _, none, S9, K6.trans K9, G3.trans (G4.trans (grow_row hrow4 map_keys)), rfl, hk9 ▸ hur⟩
end Mine
end

section
-- part McSeq
open PySem PySem.Spec PySem.Calls PySem.W PyProof.Rows
local macro_rules | `(tactic| walk_at "pad of mine") => `(tactic| fail)
local macro_rules | `(tactic| k_room) => `(tactic| ktr_room)
local macro_rules | `(tactic| k_all) => `(tactic| exact allNe_of' (by assumption) (by omega))
local macro_rules | `(tactic| k_all) => `(tactic| ((with_reducible rename AllLt _ _ => hAllLt); exact allNe_of hAllLt (by omega)))
local macro_rules | `(tactic| k_all) => `(tactic| assumption)
local macro_rules | `(tactic| k_mem) => `(tactic| first | exact List.Mem.head _ | (refine' List.mem_cons_of_mem _ ?_; k_mem))
local macro_rules | `(tactic| walk_at "call builtin:getattr") => `(tactic| (k_here; k_dflt (refine' Mine.oids_miss ?hA ?k1 ?k2 ?k3 ?k4 ?k5 ?k6 ?k7 ?k8 ?k9 ?k10 ?k11 ?k12 ?_; (case hA => exact rfl); (case k1 => k_asm); (case k2 => k_asm); (case k3 => k_asm); (case k4 => k_inst); (case k5 => k_is); (case k6 => k_is); (case k7 => k_is); (case k8 => k_is); (case k9 => k_is); (case k10 => decide +kernel); (case k11 => decide +kernel); (case k12 => k_get); k_whole); intro h' tk' F' N'; (try k_sweep)))
local macro_rules | `(tactic| walk_at "call builtin:getattr") => `(tactic| (k_here; k_dflt (refine' Mine.oids_hit ?k1 ?k2 ?k4 ?k5 ?k6 ?k7 ?k8 ?k12 ?k13 ?_; (case k1 => k_asm); (case k2 => k_asm); (case k4 => k_inst); (case k5 => k_is); (case k6 => k_is); (case k7 => k_is); (case k8 => k_is); (case k12 => k_get); (case k13 => k_handed); k_whole)))
local macro_rules | `(tactic| walk_at "exec For Tuple Call") => `(tactic| refine wpAny_For ?_)
local macro_rules | `(tactic| walk_at "call builtin:len") => `(tactic| (k_here; (with_reducible show wpAny _ _ (call (Value.builtin "len") [Value.ref _]) _ _ _); k_dflt (refine kda_len (knd := PySem.intKind _ _) (by k_asm) (by k_mem) (by assumption) (by assumption) (by first | omega | (simp only [List.length_append, List.length_cons, List.length_nil]; omega)) ?_)))
local macro_rules | `(tactic| walk_at "setItem ref int") => `(tactic| (k_here; k_dflt (refine' Mine.set_new ?F ?N ?U ?d ?z ?v ?_; (case F => k_asm); (case N => k_asm); (case U => k_updF); (case d => assumption); (case z => (try simp only [List.length_append, List.length_cons, List.length_nil]); omega); (case v => assumption)); intro h' o' F' N' hd'; (try dsimp only at N'); (try k_sweep)))
local macro_rules | `(tactic| walk_at "getMethod ref") => `(tactic| (k_here; (with_reducible show wpAny _ _ (getMethod (Value.ref _) (Str.ofString "get") _) _ _ _); k_dflt (refine kdg_method (knd := PySem.intKind _ _) (by k_asm) (by k_mem) (by assumption) ?_)))
local macro_rules | `(tactic| walk_at "call builtin:dict.get") => `(tactic| (k_here; k_dflt (refine kdg_get1 (knd := PySem.intKind _ _) (by k_asm) (by k_mem) (by assumption) (by assumption) (intKind_is _ _ _ _) _ (by first | assumption | rfl) ?_); (try dsimp only [Option.getD])))
local macro_rules | `(tactic| walk_at "compareOp In int ref") => `(tactic| (k_here; k_dflt (refine kda_in (knd := PySem.intKind _ _) (by k_asm) (by k_mem) (by assumption) (by assumption) (intKind_is _ _ _ _) _ (by first | assumption | rfl) ?_)))
local macro_rules | `(tactic| walk_at "compareOp Is ref ref") => `(tactic| (k_here; k_dflt (refine' wpAny_is_ref_other ?ne ?x ?y ?n ?_; (case ne => assumption); (case x => (exact (PyProof.Rows.News.get (by k_asm) (by k_mem)))); (case y => (exact (PyProof.Rows.News.get (by k_asm) (by k_mem)))); (case n => assumption))))
local macro_rules | `(tactic| walk_at "binaryOp Add ref ref") => `(tactic| (k_here; k_dflt (refine' kde_addT ?k1 ?k2 ?k3 ?k4 ?k5 ?k6 ?k7 ?k8 ?_; (case k1 => k_asm); (case k2 => k_asm); (case k3 => exact PyProof.Rows.News.isTup (by k_asm) (by k_mem)); (case k4 => exact PyProof.Rows.News.isTup (by k_asm) (by k_mem)); (case k5 => exact List.cons_ne_nil _ _); (case k6 => assumption); (case k7 => (simp only [List.length_cons, List.length_nil]; omega)); (case k8 => exact rfl); k_whole); intro D' h' F' N' l1; (try k_lt l1); (try k_sweep)))
local macro_rules | `(tactic| walk_at "getMethod ref") => `(tactic| (k_here; k_dflt (refine' method_inst ?k1 ?k2 ?k3 ?k4 ?k5 ?k6 ?k7 ?_; (case k1 => k_asm); (case k2 => k_asm); (case k3 => k_inst); (case k4 => k_is); (case k5 => k_is); (case k6 => k_is); (case k7 => assumption); k_whole)))
local macro_rules | `(tactic| walk_at "setItem ref int") => `(tactic| (k_here; k_dflt (refine' Mine.set_old ?F ?N ?U ?d ?z ?v ?_; (case F => k_asm); (case N => k_asm); (case U => k_updF); (case d => assumption); (case z => omega); (case v => assumption)); intro h' o' F' N' hd'; (try dsimp only at N'); (try k_sweep)))
local macro_rules | `(tactic| k_inst) => `(tactic| (refine' Mine.InstAt.of_newsF ?N ?h1 ?h2; (case N => k_asm); (case h1 => k_mem); (case h2 => k_mem)))
local macro_rules | `(tactic| walk_at "getAttr ref") => `(tactic| (k_here; k_dflt (refine' Mine.get_exc ?k1 ?k2 ?k3 ?k4 ?k5 ?k6 ?k7 ?k8 ?k9 ?k10 ?_; (case k1 => k_asm); (case k2 => k_asm); (case k3 => k_inst); (case k4 => k_is); (case k5 => k_is); (case k6 => k_is); (case k7 => k_is); (case k8 => k_is); (case k9 => k_get); (case k10 => k_handed); k_whole)))
local macro_rules | `(tactic| walk_at "setAttr ref") => `(tactic| (k_here; k_dflt (refine' Mine.set_exc ?k1 ?k2 ?k3 ?k4 ?k5 ?k6 ?k7 ?k8 ?k9 ?k10 ?k11 ?k12 ?k13 ?k14 ?k15 ?_; (case k1 => k_asm); (case k2 => k_asm); (case k3 => k_asm); (case k4 => k_inst); (case k5 => exact rfl); (case k6 => k_is); (case k7 => k_is); (case k8 => (intro self; (try dsimp only); (repeat rw [refuseLoop_ref]); exact PySem.F.store_Exception.passes self)); (case k9 => k_is); (case k10 => exact rfl); (case k11 => k_is); (case k12 => k_get); (case k13 => k_put); (case k14 => k_upd); (case k15 => exact Nat.le_of_ble_eq_true rfl); k_whole); intro h' F' N'; (try k_sweep)))
local macro_rules | `(tactic| walk_at "call builtin:getattr") => `(tactic| (k_here; k_dflt (refine' Mine.none_name ?hA ?k1 ?k2 ?_; (case hA => exact rfl); (case k1 => k_asm); (case k2 => k_asm)); intro h' tk' F' N'; (try k_sweep)))
local macro_rules | `(tactic| walk_at "call builtin:getattr") => `(tactic| (k_here; k_dflt (refine' Mine.name3 ?k1 ?k2 ?k3 _ ?k4 ?k5 ?k6 ?_; (case k1 => k_asm); (case k2 => k_asm); (case k3 => k_asm); (case k4 => k_mem); (case k5 => k_mem); (case k6 => assumption)); intro nt'))
local macro_rules | `(tactic| walk_at "eval Name") => `(tactic| (k_here; k_dflt (refine' ld ?k1 ?k2 ?_; (case k1 => k_asm); (case k2 => first | exact rfl | assumption); k_whole)))
local macro_rules | `(tactic| walk_at "call builtin:list.append") => `(tactic| (k_here; (show wpAny _ _ (call (Value.builtin _) [Value.ref _, _]) _ _ _); k_dflt (refine' append_K ?k1 ?k2 ?k3 ?_ ?z; (case k1 => k_asm); (case k2 => k_asm); (case k3 => k_upd); (case z => (rw [sizeLine_eq]; simp only [List.size_toArray]; omega)); k_whole); intro h' F' N'; (try k_sweep)))
local macro_rules | `(tactic| walk_at "getMethod ref") => `(tactic| (k_here; (with_reducible show wpAny _ _ (getMethod (Value.ref _) (Str.ofString "match_core") _) _ _ _); k_dflt (refine' Mine.core_method ?k1 ?k2 ?k3 _ ?k4 ?k5 ?k6 ?_; (case k1 => k_asm); (case k2 => k_asm); (case k3 => k_asm); (case k4 => k_mem); (case k5 => k_mem); (case k6 => assumption))))
local macro_rules | `(tactic| walk_at "loadName") => `(tactic| (refine' ldn ?k1 ?k2 ?_; (case k1 => assumption); (case k2 => first | exact rfl | assumption)))
local macro_rules | `(tactic| k_all) => `(tactic| first | exact Mine.allNe_c1 (by assumption) (by omega) | exact Mine.allNe_c2 (by assumption) (by omega) | exact Mine.allNe_c3 (by assumption) (by omega) | exact Mine.allNe_c4 (by assumption) (by omega) | exact Mine.allNe_c5 (by assumption) (by omega) | exact Mine.allNe_c6 (by assumption) (by omega) | exact Mine.allNe_c7 (by assumption) (by omega) | exact Mine.allNe_c8 (by assumption) (by omega))
local macro_rules | `(tactic| walk_at "truthy ref") => `(tactic| (k_here; (with_reducible show wpAny _ _ (truthy (Value.ref _)) _ _ _); k_dflt (refine' Mine.truthy_lst ?N ?m ?z ?b ?_; (case N => k_asm); (case m => k_mem); (case z => first | omega | (simp only [List.length_cons, List.length_nil]; omega)); (case b => first | assumption | exact (show _ = true from rfl) | exact (show _ = false from rfl)))))
local macro_rules | `(tactic| walk_at "compareOp Lt int float") => `(tactic| refine Mine.inf_lt ?_)
local macro_rules | `(tactic| walk_at "call builtin:len") => `(tactic| (k_here; (with_reducible show wpAny _ _ (call (Value.builtin "len") [Value.ref _]) _ _ _); k_dflt (refine' Mine.len_lst ?N ?m ?z ?_; (case N => k_asm); (case m => k_mem); (case z => first | omega | (simp only [List.length_cons, List.length_nil]; omega)))))
local macro_rules | `(tactic| walk_at "call ref") => `(tactic| (k_here; (with_reducible show wpAny _ _ (call (Value.ref 87) _) _ _ _); k_dflt (refine' Mine.call_exc ?F ?X ?N ?hC ?hB ?hA ?hN ?hi ?hf ?hself ?hz ?_; (case F => k_asm); (case X => k_asm); (case N => k_asm); (case hC => k_is); (case hB => decide +kernel); (case hA => decide +kernel); (case hN => decide +kernel); (case hi => k_is); (case hf => k_is); (case hself => k_is); (case hz => exact Nat.le_of_ble_eq_true rfl); k_whole); intro x' t' h' F' N' l1 l2; (try k_lt l1); (try k_lt2 l2); (try k_sweep); k_enter))
local macro_rules | `(tactic| walk_at "call ref") => `(tactic| (k_here; (with_reducible show wpAny _ _ (call (Value.ref 125) _) _ _ _); k_dflt (refine' Mine.call_exc ?F ?X ?N ?hC ?hB ?hA ?hN ?hi ?hf ?hself ?hz ?_; (case F => k_asm); (case X => k_asm); (case N => k_asm); (case hC => k_is); (case hB => decide +kernel); (case hA => decide +kernel); (case hN => decide +kernel); (case hi => k_is); (case hf => k_is); (case hself => k_is); (case hz => exact Nat.le_of_ble_eq_true rfl); k_whole); intro x' t' h' F' N' l1 l2; (try k_lt l1); (try k_lt2 l2); (try k_sweep); k_enter))
local macro_rules | `(tactic| walk_at "setAttr ref") => `(tactic| (k_here; k_dflt (refine' Mine.set_exc0 ?F ?X ?N ?hx ?hs ?hc ?hp ?hm ?hD ?ha ?_; (case F => k_asm); (case X => k_asm); (case N => k_asm); (case hx => k_all); (case hs => k_is); (case hc => k_is); (case hp => (intro self; (try dsimp only); (repeat rw [refuseLoop_ref]); exact PySem.F.store_Exception.passes self)); (case hm => k_is); (case hD => exact rfl); (case ha => k_is); k_whole); intro d' h' F' N' l1; (try k_lt l1); (try k_sweep)))
namespace Mine
theorem mc_seq {w : World} {mean : ExcName → Option Value} {mg mb : Str → Option Value} {gr : Gr} {c er ed : Addr} {text : Str} {e : Ex} {p : Int} {tt tp : Tok} {dU uU R : Nat} (hRR : R ≤ 20)
    (hcls : e.cls = 425) (hnq : e = .uS ∨ e = .lS) (hp0 : 0 ≤ p) (hp1 : p ≤ 12)
    {UP : (Ex → Int → Prop) → Prop} {UR : (Ex → Int → Prop) → Option T → (Ex → Int → Prop) → Prop}
    (hU : ∀ ckv rows, Spec w mean mg mb 415 [.ref (gr.xa e), .str text tt, .int p tp, .ref c, .ref er] dU uU
      (fun news => St w R gr c ed text news ckv rows ∧ Stat gr er ed news ∧ UP (Keys rows))
      (fun news r news' => ∃ ckv' rows' res, St w R gr c ed text news' ckv' rows' ∧ Keep news news' ∧ Grow rows rows' ∧ ResOk gr text news news' r res ∧ UR (Keys rows) res (Keys rows')))
    (ckv : KV) (rows : Rows) :
    Spec w mean mg mb 297 [.ref (gr.xa e), .str text tt, .int p tp, .ref c, .ref er] (dU + 10) (uU + 50)
      (fun news => St w R gr c ed text news ckv rows ∧ Stat gr er ed news ∧ ¬ Keys rows e p ∧ UP (fun e' k => Keys rows e' k ∨ (e' = e ∧ k = p)))
      (fun news r news' => ∃ ckv' rows' res, St w R gr c ed text news' ckv' rows' ∧ Keep news news' ∧ Grow rows rows' ∧ ResOk gr text news news' r res ∧ UR (fun e' k => Keys rows e' k ∨ (e' = e ∧ k = p)) res (Keys rows')) := by
  intro dp un gd cn cs a ccd cl outer A₀ base h₀ L m news s Q E B F X N T hk hPre hdd huu hret
  obtain ⟨S, ST, hnk, hup⟩ := hPre
  obtain ⟨sl, hin, hna, -⟩ := ST.inst e
  have hnn : e.nm = Str.ofString "u" ∨ e.nm = Str.ofString "l" := by rcases hnq with rfl | rfl <;> first | exact .inl rfl | exact .inr rfl
  have hna' : ∃ a b tk, sl = #[a, b, some (.str e.nm tk)] := by rcases hnq with rfl | rfl <;> exact hna
  obtain ⟨sl1, sl2, sltk, hsl⟩ := hna'
  obtain ⟨nm, hnm⟩ : ∃ nm, nm = e.nm := ⟨_, rfl⟩
  rw [← hnm] at hnn hsl
  subst hsl
  unfold InstOk at hin
  rw [hcls] at hin
  w_top off; w_on
  refine wpAny_call ?_
  w_strict (k_dflt (refine' code_def ?k1 ?k2 ?k3 ?k4 ?k5 ?kA ?kF ?kK ?k6 ?k7 ?k8 ?k9 ?kB ?_ ?c2 ?c3 ?c4 ?c5; (case kA => exact rfl); (case kF => exact rfl); (case kK => assumption); (case k1 => k_asm); (case k2 => k_asm); (case k3 => k_asm); (case k4 => k_asm); (case k5 => k_asm); (case k6 => k_is); (case k7 => k_is); (case k8 => ktr_room); (case k9 => exact BindsTo.of_eq rfl); (case c5 => decide); (case kB => exact locs rfl); (case c2 => exact rfl); (case c3 => exact rfl); (case c4 => exact rfl); k_whole); intro g1 L1 h1 FG1 F1 N1 B1 X1 T1; (try dsimp only); (try k_fold))
  have hfn : ∀ a o o', (a, o) ∈ news → (a, o') ∈ news → o = o' := fun a o o' x y => Mine.News.fn N1 x y
  replace F1 : Fr g1 L1 h1 (mcM (gr.xa e) text tt p tp c er) := F1
  refine wpAny_execs_cons ?_
  refine wpAny_mono (Q := ProEnd w R gr c ed text e news rows s g1 L1 (mcM (gr.xa e) text tt p tp c er)) (E := fun _ _ => False) ?pro ?rest (fun _ _ x => x.elim)
  case pro =>
    clear qk ek
    obtain ⟨ps, hps, hr⟩ := S.ex e
    obtain ⟨oc, hoc, hocd, hcs⟩ := S.cache
    cases hrow : rows e with
    | none =>
      rcases hps with ⟨rfl, hxd⟩ | hps
      · obtain ⟨rest, Nr, hrs, hro, hrin, hrall⟩ := relist N1 [(c, oc), (gr.xd e, dictOf [] 0)] (by simp [hoc, hxd])
        have hrc : ∀ q ∈ rest, q.1 ≠ c := hro (c, oc) (by simp)
        have hrx : ∀ q ∈ rest, q.1 ≠ gr.xd e := hro (gr.xd e, dictOf [] 0) (by simp)
        have hir : (gr.xa e, ({ cls := .ref 425, dict := some (gr.xd e), data := .plain, slots := #[sl1, sl2, some (.str nm sltk)] } : Obj)) ∈ rest :=
          hrin _ hin (by simp only [List.mem_cons, List.not_mem_nil, or_false, forall_eq_or_imp, forall_eq]; exact ⟨Mine.News.ne N1 hin hoc (by rw [dict_cls hocd]; exact ref_nd _), Mine.News.ne N1 hin hxd (ref_nd _)⟩)
        have hcx : @Ne Nat (gr.xd e) c := (S.apart.2.1 e).1
        have hcl : ckv.length ≤ 20 := by rw [S.count]; exact Nat.le_trans List.countP_le_length (by decide)
        have hcn : valueAt ckv (ckv.length : Int) = none := valueAt_none fun q hq => by have := S.keys q hq; omega
        simp only [List.cons_append, List.nil_append] at Nr
        w_strict (iterate 14 (first | (k_unfold; (try dsimp only)) | (k_end; wrow_close) | walk1 | (dsimp only; walk1) | (leave1; walk_say "STEP leave1"; try dsimp only) | fail "no step"))
        refine Mine.for_tup (vs := []) (ep := 0) rfl (fun _ m' n' => m' = _ ∧ n' = _) (by assumption) (by assumption) ⟨rfl, rfl⟩ ?ht ?turn ?done
        case ht => rintro i m' n' ⟨-, rfl⟩; exact List.Mem.head _
        case turn => intro i x it o h tk m' n' hx; simp at hx
        case done =>
          rintro h9 tk9 m9 n9 ⟨rfl, rfl⟩ F9 N9
          w_strict (k_sweep; repeat' (first | (k_unfold; (try dsimp only)) | (k_end; wrow_close) | walk1 | (dsimp only; walk1) | (leave1; walk_say "STEP leave1"; try dsimp only) | fail "no step"))
          with_reducible rename News _ _ _ _ => Nf
          with_reducible rename Fr _ _ _ _ => Ff
          dsimp only at Nf ⊢
          exact pro_newA (o := none) S hrow hfn hoc (dict_cls hocd) hxd rfl hrin Ff mcM_new Nf (by simp) (by assumption) (by assumption) (by assumption) (by assumption)
      · obtain ⟨hh, kk, t, vs, ep, hxd, ht, hpi, hvn⟩ := hps
        rw [hrow] at hr
        obtain ⟨rest, Nr, hrs, hro, hrin, hrall⟩ := relist N1 [(c, oc), (gr.xd e, dictOf [⟨hh, .str (Str.ofString "oids") kk, .ref t⟩] 1)] (by simp [hoc, hxd])
        have hrc : ∀ q ∈ rest, q.1 ≠ c := hro (c, oc) (by simp)
        have hrx : ∀ q ∈ rest, q.1 ≠ gr.xd e := hro (gr.xd e, dictOf [⟨hh, .str (Str.ofString "oids") kk, .ref t⟩] 1) (by simp)
        have nd : ∀ q ∈ news, q.2.cls ≠ .type "dict" → q ∈ rest := fun q hq hc => hrin q hq (by
          simp only [List.mem_cons, List.not_mem_nil, or_false, forall_eq_or_imp, forall_eq]
          exact ⟨Mine.News.ne N1 (o := q.2) hq hoc (by rw [dict_cls hocd]; exact hc), Mine.News.ne N1 (o := q.2) hq hxd hc⟩)
        have hir : (gr.xa e, ({ cls := .ref 425, dict := some (gr.xd e), data := .plain, slots := #[sl1, sl2, some (.str nm sltk)] } : Obj)) ∈ rest := nd _ hin (ref_nd _)
        have htr : (t, tupO vs ep) ∈ rest := nd _ ht tup_nd
        have hcx : @Ne Nat (gr.xd e) c := (S.apart.2.1 e).1
        have hcl : ckv.length ≤ 20 := by rw [S.count]; exact Nat.le_trans List.countP_le_length (by decide)
        have hcn : valueAt ckv (ckv.length : Int) = none := valueAt_none fun q hq => by have := S.keys q hq; omega
        simp only [List.cons_append, List.nil_append] at Nr
        have hvl : vs.length ≤ 100 := by rw [hpi.length]; have := hr.1; omega
        w_strict (iterate 14 (first | (k_unfold; (try dsimp only)) | (k_end; wrow_close) | walk1 | (dsimp only; walk1) | (leave1; walk_say "STEP leave1"; try dsimp only) | fail "no step"))
        refine Mine.for_tup (vs := vs) (ep := ep) rfl (fun _ m' n' => (∃ o ev, m' = (fun y => if y = Str.ofString "expr_cache" then ev else if y = Str.ofString "oid" then o else mcM (gr.xa e) text tt p tp c er y)) ∧ n' = _) (by assumption) (by assumption) ⟨⟨none, none, mcM_0⟩, rfl⟩ ?ht ?turn ?done
        case ht => rintro i m' n' ⟨-, rfl⟩; simp [htr]
        case turn =>
          rintro i x it o h tk m' n' hx ⟨⟨o1, ev, rfl⟩, rfl⟩ F9 N9 hoi off
          obtain ⟨pa, ptk, pep, pi, pe, rfl, hpm, hps⟩ := hpi.get i x hx
          have hpr := nd _ hpm tup_nd
          cases hv : valueAt ckv pi with
          | none =>
            w_strict (k_sweep; repeat' (first | (k_unfold; (try dsimp only)) | (k_end; wrow_close) | walk1 | (dsimp only; walk1) | (leave1; walk_say "STEP leave1"; try dsimp only) | fail "no step"))
            with_reducible rename News _ _ _ _ => Nf
            with_reducible rename Fr _ _ _ _ => Ff
            exact ⟨_, _, _, _, rfl, Ff, Nf, off, ⟨_, _, mcM_turn⟩, rfl⟩
          | some v =>
            obtain ⟨e1, a', kv1, rfl, hr1⟩ := S.refs _ (valueAt_mem hv)
            have hne : a' ≠ pe := fun z => hr.2 (pi, pe) hps _ (valueAt_mem hv) (by rw [z])
            obtain ⟨oa, hoa, hoad, -⟩ := (S.rowAt hr1).1
            have hoa' := hrall _ hoa
            have hoac : oa.cls ≠ .type "tuple" := by rw [dict_cls hoad]; decide
            obtain ⟨ob, hob⟩ := PairsIn.dom hpi _ hps
            have hob' := hrall _ hob
            simp only [List.cons_append, List.nil_append] at hoa' hob'
            w_strict (k_sweep; repeat' (first | (k_unfold; (try dsimp only)) | (k_end; wrow_close) | walk1 | (dsimp only; walk1) | (leave1; walk_say "STEP leave1"; try dsimp only) | fail "no step"))
            with_reducible rename News _ _ _ _ => Nf
            with_reducible rename Fr _ _ _ _ => Ff
            exact ⟨_, _, _, _, rfl, Ff, Nf, off, ⟨_, _, mcM_turn⟩, rfl⟩
        case done =>
          rintro h9 tk9 m9 n9 ⟨⟨o1, ev, rfl⟩, rfl⟩ F9 N9
          w_strict (k_sweep; repeat' (first | (k_unfold; (try dsimp only)) | (k_end; wrow_close) | walk1 | (dsimp only; walk1) | (leave1; walk_say "STEP leave1"; try dsimp only) | fail "no step"))
          with_reducible rename News _ _ _ _ => Nf
          with_reducible rename Fr _ _ _ _ => Ff
          dsimp only at Nf ⊢
          exact pro_newB (x0 := oc) S hrow hfn hoc (dict_cls hocd) hxd rfl hrin Ff mcM_done Nf rfl hpi hr.1 (by simp) (by assumption) (by assumption) (by assumption) (by assumption)
    | some r =>
      obtain ⟨ci, ec, kv⟩ := r
      rw [hrow] at hr
      obtain ⟨⟨⟨tl, rfl⟩, hpl⟩, hva, -⟩ := hr
      rcases hps with ⟨hps, -⟩ | ⟨hh, kk, t, vs, ep, hxd, ht, hpi, hvn⟩
      · cases hps
      obtain ⟨oec, hec, hecd, -⟩ := (S.rowAt hrow).1
      have hvl : vs.length ≤ 100 := by rw [hpi.length]; omega
      w_strict (iterate 14 (first | (k_unfold; (try dsimp only)) | (k_end; wrow_close) | walk1 | (dsimp only; walk1) | (leave1; walk_say "STEP leave1"; try dsimp only) | fail "no step"))
      refine Mine.for_tup (vs := vs) (ep := ep) rfl (fun i m' n' => i = 0 ∧ m' = mcM (gr.xa e) text tt p tp c er ∧ n' = _) (by assumption) (by assumption) ⟨rfl, rfl, rfl⟩ ?ht ?turn ?done
      case ht => rintro i m' n' ⟨-, -, rfl⟩; exact List.mem_cons_of_mem _ ht
      case done => rintro h9 tk9 m9 n9 ⟨h, -, -⟩; exact absurd (List.eq_nil_of_length_eq_zero h) hvn
      case turn =>
        rintro i x it o h tk m' n' hx ⟨rfl, rfl, rfl⟩ F9 N9 hoi off
        obtain ⟨v0, vs', rfl⟩ := List.exists_cons_of_ne_nil hvn
        simp at hx
        subst hx
        obtain ⟨⟨pa, ptk, pep, rfl, hpm, -⟩, -⟩ := hpi
        w_strict (k_sweep; repeat' (first | (k_unfold; (try dsimp only)) | (k_end; wrow_close) | walk1 | (dsimp only; walk1) | (leave1; walk_say "STEP leave1"; try dsimp only) | fail "no step"))
        with_reducible rename News _ _ _ _ => Nf
        with_reducible rename Fr _ _ _ _ => Ff
        dsimp only
        exact pro_hit (S.mono fun q hq => by simp [hq]) (Keep.of_sub fun q hq => by simp [hq]) hrow Ff Nf rfl
  case rest =>
    rintro f s₂ ⟨rfl, h2, tk2, o2, ec, oe, ckv1, rows1, i1, kv1, rest1, rfl, F2, N2, off2, hrow1, hoed, hes, S1, K1, G1, hkeys⟩
    dsimp only
    have hnk1 : valueAt kv1 p = none := valueAt_none fun q hq hp => hnk (by rw [← hkeys]; exact ⟨i1, ec, kv1, q.2, hrow1, hp ▸ hq⟩)
    have hkr := (S1.off e i1 ec kv1 hrow1).2.2.2
    have hkl : kv1.length ≤ 13 := dict_len hoed hkr
    have hoc1 := dict_cls hoed
    have in1 : (gr.xa e, ({ cls := .ref 425, dict := some (gr.xd e), data := .plain, slots := #[sl1, sl2, some (.str nm sltk)] } : Obj)) ∈ rest1 := nd_row N2 hoc1 (K1.same _ hin (ref_nd _)) (ref_nd _)
    obtain ⟨es, en, hxd, hum, -⟩ := own_dict S1 e
    replace hxd := mem_rest hxd ((S1.off e i1 ec kv1 hrow1).2.2.1 e).symm
    have hnk2 : (valueAt kv1 p).isSome = false := by rw [hnk1]; rfl
    have hfn2 : ∀ a o o', (a, o) ∈ (ec, oe) :: rest1 → (a, o') ∈ (ec, oe) :: rest1 → o = o' := fun a o o' x y => Mine.News.fn N2 x y
    w_strict (k_sweep; iterate 31 (first | (k_unfold; (try dsimp only)) | (k_end; wrow_close) | walk1 | (dsimp only; walk1) | (leave1; walk_say "STEP leave1"; try dsimp only) | fail "no step"))
    with_reducible rename News _ _ _ _ => N3
    with_reducible rename Fr _ _ _ _ => F3
    rename Obj.IsDictOf _ _ (kv1 ++ _) => hd3
    obtain ⟨S3, K3⟩ := row_put S1 hrow1 hoc1 hd3 (by
        intro q hq
        rcases List.mem_append.mp hq with h | h
        · exact hkr q h
        · rw [List.mem_singleton.mp h]; exact ⟨hp0, hp1⟩)
    replace K3 := K1.trans K3
    have G3 := G1.trans (grow_row hrow1 (kv' := kv1 ++ [(p, .ref 251)]) fun k ⟨v, hv⟩ => ⟨v, List.mem_append_left _ hv⟩)
    have hk3 := keys_put (p := p) (v := .ref 251) hrow1
    rw [hkeys] at hk3
    refine Spec.use B1 F3 X1 N3 T1 rfl (hU _ _) ⟨S3, ST.keep K3, hk3 ▸ hup⟩ (by ktr_room) (by ktr_units) ?_
    rintro r news4 h4 tk4 F4 N4 ⟨ckv4, rows4, res, S4, K4, G4, hres, hur⟩
    rw [hk3] at hur
    obtain ⟨kv4, hrow4, hkv4⟩ := G4 e i1 ec _ (if_pos rfl)
    have hhas : (valueAt kv4 p).isSome = true := valueAt_isSome (hkv4 p ⟨_, List.mem_append_right _ (.head _)⟩)
    obtain ⟨⟨oe4, hde4, hoe4, -⟩, -⟩ := S4.rowAt hrow4
    obtain ⟨rest4, N5, off5, sub5⟩ := front N4 hde4
    have hoc4 := dict_cls hoe4
    have K5 := (K3.trans K4).trans (Keep.of_sub sub5)
    have S5 := S4.mono sub5
    have ST5 := ST.keep K5
    have hkr5 := (S5.off e i1 ec kv4 hrow4).2.2.2
    have hkl5 : kv4.length ≤ 13 := dict_len hoe4 hkr5
    have hfn5 : ∀ a o o', (a, o) ∈ (ec, oe4) :: rest4 → (a, o') ∈ (ec, oe4) :: rest4 → o = o' := fun a o o' x y => Mine.News.fn N5 x y
    have in5 : (gr.xa e, ({ cls := .ref 425, dict := some (gr.xd e), data := .plain, slots := #[sl1, sl2, some (.str nm sltk)] } : Obj)) ∈ rest4 := nd_row N5 hoc4 (K5.same _ hin (ref_nd _)) (ref_nd _)
    obtain ⟨vse, sle, her⟩ := ST5.err
    replace her := nd_row N5 hoc4 her (ref_nd _)
    obtain ⟨hh1, hh2, hh3, kk1, kk2, kk3, ettt, epos, et, ev, hed, hep0, hep1, hev⟩ := S5.err
    replace hed := mem_rest hed ((S5.off e i1 ec kv4 hrow4).2.1).symm
    obtain ⟨es5, en5, hxd5, -⟩ := own_dict S5 e
    replace hxd5 := mem_rest hxd5 ((S5.off e i1 ec kv4 hrow4).2.2.1 e).symm
    clear N4 hde4
    cases res with
    | some T0 =>
      cases hres with
      | @mk na nl nd nod ne ns nt nts ntt ntx nvs ncs nep hn1 hn2 hn3 hn4 hn5 hn8 hn6 hn7 =>
      have hn1' := nd_row N5 hoc4 (sub5 _ hn1) (ref_nd _)
      w_strict (repeat' (first | (k_unfold; (try dsimp only)) | (k_end; wrow_close) | walk1 | (dsimp only; walk1) | (leave1; walk_say "STEP leave1"; try dsimp only) | fail "no step"))
      with_reducible rename News _ _ _ _ => N9
      with_reducible rename Fr _ _ _ _ => F9
      rename Obj.IsDictOf _ _ (List.map _ _) => hd9
      obtain ⟨S9, K9⟩ := row_map S5 hrow4 hoc4 hd9
      have hk9 := keys_map (p := p) (v := .ref na) hrow4
      refine hret _ _ _ _ F9 N9 ⟨_, _, some (.node ne ns nt ncs), S9, K5.trans K9, G3.trans (G4.trans (grow_row hrow4 (map_keys))), ?_, ?_⟩
      · exact IsT.keep ((Keep.of_sub sub5).trans K9) (IsT.le K3.at (.mk hn1 hn2 hn3 hn4 hn5 hn8 hn6 hn7))
      · rw [hk9]; exact hur
    | none =>
      cases hres
      obtain ⟨rest6, N6, hrs6, hro6, hrin6, hrall6⟩ := relist N5 [(ec, oe4), (ed, dictOf [⟨hh1, .str (Str.ofString "text") kk1, .str text ettt⟩, ⟨hh2, .str (Str.ofString "pos") kk2, .int epos et⟩, ⟨hh3, .str (Str.ofString "expr") kk3, ev⟩] 3)] (by simp [hed])
      have nd6 : ∀ q ∈ rest4, q.2.cls ≠ .type "dict" → q ∈ rest6 := fun q hq hc => hrin6 q (.tail _ hq) (by
        simp only [List.mem_cons, List.not_mem_nil, or_false, forall_eq_or_imp, forall_eq]
        exact ⟨off5 q hq, Mine.News.ne N5 (o := q.2) (.tail _ hq) (.tail _ hed) hc⟩)
      simp only [List.cons_append, List.nil_append] at N6 hrall6
      have in6 := nd6 _ in5 (ref_nd _)
      have her6 := nd6 _ her (ref_nd _)
      have xd6 : ∀ e' o, (gr.xd e', o) ∈ (ec, oe4) :: rest4 → (gr.xd e', o) ∈ rest6 := fun e' o h => hrin6 _ h (by
        simp only [List.mem_cons, List.not_mem_nil, or_false, forall_eq_or_imp, forall_eq]
        exact ⟨((S5.off e i1 ec kv4 hrow4).2.2.1 e').symm, (S5.apart.2.1 e').2⟩)
      have hxd6 := xd6 e _ (.tail _ hxd5)
      have S6 := S5.mono hrall6
      have K6 := K5.trans (Keep.of_sub hrall6)
      have hce6 : @Ne Nat ec ed := (S5.off e i1 ec kv4 hrow4).2.1
      have hoff6 : ∀ q ∈ rest6, q.1 ≠ ec := hro6 (ec, oe4) (by simp)
      have hofd6 : ∀ q ∈ rest6, q.1 ≠ ed := fun q hq => hro6 (ed, _) (List.mem_cons_of_mem _ (List.mem_singleton.mpr rfl)) q hq
      clear N5 hed in5 her hxd5 off5
      clear hev hnm
      rcases hnn with rfl | rfl
      · w_strict (repeat' (first | (k_unfold; (try dsimp only)) | (k_end; wrow_close) | walk1 | (dsimp only; walk1) | (leave1; walk_say "STEP leave1"; try dsimp only) | fail "no step"))
        · with_reducible rename News _ _ _ _ => N9
          with_reducible rename Fr _ _ _ _ => F9
          rename Obj.IsDictOf _ _ (List.map _ _) => hd9
          obtain ⟨S9, K9⟩ := row_map S6 hrow4 hoc4 hd9
          have hk9 := keys_map (p := p) (v := .none) hrow4
          obtain ⟨S9', K9'⟩ := err_put (o' := dictOf [⟨hh1, .str (Str.ofString "text") kk1, .str text ettt⟩, ⟨hh2, .str (Str.ofString "pos") kk2, .int p tp⟩, ⟨hh3, .str (Str.ofString "expr") kk3, .ref (gr.xa e)⟩] 3) S9 rfl rfl
            ⟨hh1, hh2, hh3, kk1, kk2, kk3, ettt, p, tp, .ref (gr.xa e), by simp, by omega, by omega, .inr ⟨e, rfl⟩⟩
          exact hret _ _ _ _ F9 N9 ⟨_, _, none, S9', K6.trans (K9.trans K9'), G3.trans (G4.trans (grow_row hrow4 map_keys)), rfl, hk9 ▸ hur⟩
        · with_reducible rename News _ _ _ _ => N9
          with_reducible rename Fr _ _ _ _ => F9
          rename Obj.IsDictOf _ _ (List.map _ _) => hd9
          obtain ⟨S9, K9⟩ := row_map S6 hrow4 hoc4 hd9
          have hk9 := keys_map (p := p) (v := .none) hrow4
          exact hret _ _ _ _ F9 N9 ⟨_, _, none, S9, K6.trans K9, G3.trans (G4.trans (grow_row hrow4 map_keys)), rfl, hk9 ▸ hur⟩
      · w_strict (repeat' (first | (k_unfold; (try dsimp only)) | (k_end; wrow_close) | walk1 | (dsimp only; walk1) | (leave1; walk_say "STEP leave1"; try dsimp only) | fail "no step"))
        · with_reducible rename News _ _ _ _ => N9
          with_reducible rename Fr _ _ _ _ => F9
          rename Obj.IsDictOf _ _ (List.map _ _) => hd9
          obtain ⟨S9, K9⟩ := row_map S6 hrow4 hoc4 hd9
          have hk9 := keys_map (p := p) (v := .none) hrow4
          obtain ⟨S9', K9'⟩ := err_put (o' := dictOf [⟨hh1, .str (Str.ofString "text") kk1, .str text ettt⟩, ⟨hh2, .str (Str.ofString "pos") kk2, .int p tp⟩, ⟨hh3, .str (Str.ofString "expr") kk3, .ref (gr.xa e)⟩] 3) S9 rfl rfl
            ⟨hh1, hh2, hh3, kk1, kk2, kk3, ettt, p, tp, .ref (gr.xa e), by simp, by omega, by omega, .inr ⟨e, rfl⟩⟩
          exact hret _ _ _ _ F9 N9 ⟨_, _, none, S9', K6.trans (K9.trans K9'), G3.trans (G4.trans (grow_row hrow4 map_keys)), rfl, hk9 ▸ hur⟩
        · with_reducible rename News _ _ _ _ => N9
          with_reducible rename Fr _ _ _ _ => F9
          rename Obj.IsDictOf _ _ (List.map _ _) => hd9
          obtain ⟨S9, K9⟩ := row_map S6 hrow4 hoc4 hd9
          have hk9 := keys_map (p := p) (v := .none) hrow4
          exact hret _ _ _ _ F9 N9 ⟨_, _, none, S9, K6.trans K9, G3.trans (G4.trans (grow_row hrow4 map_keys)), rfl, hk9 ▸ hur⟩
end Mine
end

section
-- part McOne
open PySem PySem.Spec PySem.Calls PySem.W PyProof.Rows
local macro_rules | `(tactic| k_room) => `(tactic| ktr_room)
local macro_rules | `(tactic| k_all) => `(tactic| exact allNe_of' (by assumption) (by omega))
local macro_rules | `(tactic| k_all) => `(tactic| ((with_reducible rename AllLt _ _ => hAllLt); exact allNe_of hAllLt (by omega)))
local macro_rules | `(tactic| k_all) => `(tactic| assumption)
local macro_rules | `(tactic| k_mem) => `(tactic| first | exact List.Mem.head _ | (refine' List.mem_cons_of_mem _ ?_; k_mem))
local macro_rules | `(tactic| walk_at "call builtin:getattr") => `(tactic| (k_here; k_dflt (refine' Mine.oids_miss ?hA ?k1 ?k2 ?k3 ?k4 ?k5 ?k6 ?k7 ?k8 ?k9 ?k10 ?k11 ?k12 ?_; (case hA => exact rfl); (case k1 => k_asm); (case k2 => k_asm); (case k3 => k_asm); (case k4 => k_inst); (case k5 => k_is); (case k6 => k_is); (case k7 => k_is); (case k8 => k_is); (case k9 => k_is); (case k10 => decide +kernel); (case k11 => decide +kernel); (case k12 => k_get); k_whole); intro h' tk' F' N'; (try k_sweep)))
local macro_rules | `(tactic| walk_at "call builtin:getattr") => `(tactic| (k_here; k_dflt (refine' Mine.oids_hit ?k1 ?k2 ?k4 ?k5 ?k6 ?k7 ?k8 ?k12 ?k13 ?_; (case k1 => k_asm); (case k2 => k_asm); (case k4 => k_inst); (case k5 => k_is); (case k6 => k_is); (case k7 => k_is); (case k8 => k_is); (case k12 => k_get); (case k13 => k_handed); k_whole)))
local macro_rules | `(tactic| walk_at "exec For Tuple Call") => `(tactic| refine wpAny_For ?_)
local macro_rules | `(tactic| walk_at "call builtin:len") => `(tactic| (k_here; (with_reducible show wpAny _ _ (call (Value.builtin "len") [Value.ref _]) _ _ _); k_dflt (refine kda_len (knd := PySem.intKind _ _) (by k_asm) (by k_mem) (by assumption) (by assumption) (by first | omega | (simp only [List.length_append, List.length_cons, List.length_nil]; omega)) ?_)))
local macro_rules | `(tactic| walk_at "setItem ref int") => `(tactic| (k_here; k_dflt (refine' Mine.set_new ?F ?N ?U ?d ?z ?v ?_; (case F => k_asm); (case N => k_asm); (case U => k_updF); (case d => assumption); (case z => (try simp only [List.length_append, List.length_cons, List.length_nil]); omega); (case v => assumption)); intro h' o' F' N' hd'; (try dsimp only at N'); (try k_sweep)))
local macro_rules | `(tactic| walk_at "getMethod ref") => `(tactic| (k_here; (with_reducible show wpAny _ _ (getMethod (Value.ref _) (Str.ofString "get") _) _ _ _); k_dflt (refine kdg_method (knd := PySem.intKind _ _) (by k_asm) (by k_mem) (by assumption) ?_)))
local macro_rules | `(tactic| walk_at "call builtin:dict.get") => `(tactic| (k_here; k_dflt (refine kdg_get1 (knd := PySem.intKind _ _) (by k_asm) (by k_mem) (by assumption) (by assumption) (intKind_is _ _ _ _) _ (by first | assumption | rfl) ?_); (try dsimp only [Option.getD])))
local macro_rules | `(tactic| walk_at "compareOp In int ref") => `(tactic| (k_here; k_dflt (refine kda_in (knd := PySem.intKind _ _) (by k_asm) (by k_mem) (by assumption) (by assumption) (intKind_is _ _ _ _) _ (by first | assumption | rfl) ?_)))
local macro_rules | `(tactic| walk_at "compareOp Is ref ref") => `(tactic| (k_here; k_dflt (refine' wpAny_is_ref_other ?ne ?x ?y ?n ?_; (case ne => assumption); (case x => (exact (PyProof.Rows.News.get (by k_asm) (by k_mem)))); (case y => (exact (PyProof.Rows.News.get (by k_asm) (by k_mem)))); (case n => assumption))))
local macro_rules | `(tactic| walk_at "binaryOp Add ref ref") => `(tactic| (k_here; k_dflt (refine' kde_addT ?k1 ?k2 ?k3 ?k4 ?k5 ?k6 ?k7 ?k8 ?_; (case k1 => k_asm); (case k2 => k_asm); (case k3 => exact PyProof.Rows.News.isTup (by k_asm) (by k_mem)); (case k4 => exact PyProof.Rows.News.isTup (by k_asm) (by k_mem)); (case k5 => exact List.cons_ne_nil _ _); (case k6 => assumption); (case k7 => (simp only [List.length_cons, List.length_nil]; omega)); (case k8 => exact rfl); k_whole); intro D' h' F' N' l1; (try k_lt l1); (try k_sweep)))
local macro_rules | `(tactic| walk_at "getMethod ref") => `(tactic| (k_here; k_dflt (refine' method_inst ?k1 ?k2 ?k3 ?k4 ?k5 ?k6 ?k7 ?_; (case k1 => k_asm); (case k2 => k_asm); (case k3 => k_inst); (case k4 => k_is); (case k5 => k_is); (case k6 => k_is); (case k7 => assumption); k_whole)))
local macro_rules | `(tactic| walk_at "setItem ref int") => `(tactic| (k_here; k_dflt (refine' Mine.set_old ?F ?N ?U ?d ?z ?v ?_; (case F => k_asm); (case N => k_asm); (case U => k_updF); (case d => assumption); (case z => omega); (case v => assumption)); intro h' o' F' N' hd'; (try dsimp only at N'); (try k_sweep)))
local macro_rules | `(tactic| k_inst) => `(tactic| (refine' Mine.InstAt.of_newsF ?N ?h1 ?h2; (case N => k_asm); (case h1 => k_mem); (case h2 => k_mem)))
local macro_rules | `(tactic| walk_at "getAttr ref") => `(tactic| (k_here; k_dflt (refine' Mine.get_exc ?k1 ?k2 ?k3 ?k4 ?k5 ?k6 ?k7 ?k8 ?k9 ?k10 ?_; (case k1 => k_asm); (case k2 => k_asm); (case k3 => k_inst); (case k4 => k_is); (case k5 => k_is); (case k6 => k_is); (case k7 => k_is); (case k8 => k_is); (case k9 => k_get); (case k10 => k_handed); k_whole)))
local macro_rules | `(tactic| walk_at "setAttr ref") => `(tactic| (k_here; k_dflt (refine' Mine.set_exc ?k1 ?k2 ?k3 ?k4 ?k5 ?k6 ?k7 ?k8 ?k9 ?k10 ?k11 ?k12 ?k13 ?k14 ?k15 ?_; (case k1 => k_asm); (case k2 => k_asm); (case k3 => k_asm); (case k4 => k_inst); (case k5 => exact rfl); (case k6 => k_is); (case k7 => k_is); (case k8 => (intro self; (try dsimp only); (repeat rw [refuseLoop_ref]); exact PySem.F.store_Exception.passes self)); (case k9 => k_is); (case k10 => exact rfl); (case k11 => k_is); (case k12 => k_get); (case k13 => k_put); (case k14 => k_upd); (case k15 => exact Nat.le_of_ble_eq_true rfl); k_whole); intro h' F' N'; (try k_sweep)))
local macro_rules | `(tactic| walk_at "call builtin:getattr") => `(tactic| (k_here; k_dflt (refine' Mine.none_name ?hA ?k1 ?k2 ?_; (case hA => exact rfl); (case k1 => k_asm); (case k2 => k_asm)); intro h' tk' F' N'; (try k_sweep)))
local macro_rules | `(tactic| walk_at "call builtin:getattr") => `(tactic| (k_here; k_dflt (refine' Mine.name3 ?k1 ?k2 ?k3 _ ?k4 ?k5 ?k6 ?_; (case k1 => k_asm); (case k2 => k_asm); (case k3 => k_asm); (case k4 => k_mem); (case k5 => k_mem); (case k6 => assumption)); intro nt'))
local macro_rules | `(tactic| walk_at "eval Name") => `(tactic| (k_here; k_dflt (refine' ld ?k1 ?k2 ?_; (case k1 => k_asm); (case k2 => first | exact rfl | assumption); k_whole)))
local macro_rules | `(tactic| walk_at "call builtin:list.append") => `(tactic| (k_here; (show wpAny _ _ (call (Value.builtin _) [Value.ref _, _]) _ _ _); k_dflt (refine' append_K ?k1 ?k2 ?k3 ?_ ?z; (case k1 => k_asm); (case k2 => k_asm); (case k3 => k_upd); (case z => (rw [sizeLine_eq]; simp only [List.size_toArray]; omega)); k_whole); intro h' F' N'; (try k_sweep)))
local macro_rules | `(tactic| walk_at "getMethod ref") => `(tactic| (k_here; (with_reducible show wpAny _ _ (getMethod (Value.ref _) (Str.ofString "match_core") _) _ _ _); k_dflt (refine' Mine.core_method ?k1 ?k2 ?k3 _ ?k4 ?k5 ?k6 ?_; (case k1 => k_asm); (case k2 => k_asm); (case k3 => k_asm); (case k4 => k_mem); (case k5 => k_mem); (case k6 => assumption))))
local macro_rules | `(tactic| walk_at "loadName") => `(tactic| (refine' ldn ?k1 ?k2 ?_; (case k1 => assumption); (case k2 => first | exact rfl | assumption)))
local macro_rules | `(tactic| k_all) => `(tactic| first | exact Mine.allNe_c1 (by assumption) (by omega) | exact Mine.allNe_c2 (by assumption) (by omega) | exact Mine.allNe_c3 (by assumption) (by omega) | exact Mine.allNe_c4 (by assumption) (by omega) | exact Mine.allNe_c5 (by assumption) (by omega) | exact Mine.allNe_c6 (by assumption) (by omega) | exact Mine.allNe_c7 (by assumption) (by omega) | exact Mine.allNe_c8 (by assumption) (by omega))
local macro_rules | `(tactic| walk_at "truthy ref") => `(tactic| (k_here; (with_reducible show wpAny _ _ (truthy (Value.ref _)) _ _ _); k_dflt (refine' Mine.truthy_lst ?N ?m ?z ?b ?_; (case N => k_asm); (case m => k_mem); (case z => first | omega | (simp only [List.length_cons, List.length_nil]; omega)); (case b => first | assumption | exact (show _ = true from rfl) | exact (show _ = false from rfl)))))
local macro_rules | `(tactic| walk_at "compareOp Lt int float") => `(tactic| refine Mine.inf_lt ?_)
local macro_rules | `(tactic| walk_at "call builtin:len") => `(tactic| (k_here; (with_reducible show wpAny _ _ (call (Value.builtin "len") [Value.ref _]) _ _ _); k_dflt (refine' Mine.len_lst ?N ?m ?z ?_; (case N => k_asm); (case m => k_mem); (case z => first | omega | (simp only [List.length_cons, List.length_nil]; omega)))))
local macro_rules | `(tactic| walk_at "call ref") => `(tactic| (k_here; (with_reducible show wpAny _ _ (call (Value.ref 87) _) _ _ _); k_dflt (refine' Mine.call_exc ?F ?X ?N ?hC ?hB ?hA ?hN ?hi ?hf ?hself ?hz ?_; (case F => k_asm); (case X => k_asm); (case N => k_asm); (case hC => k_is); (case hB => decide +kernel); (case hA => decide +kernel); (case hN => decide +kernel); (case hi => k_is); (case hf => k_is); (case hself => k_is); (case hz => exact Nat.le_of_ble_eq_true rfl); k_whole); intro x' t' h' F' N' l1 l2; (try k_lt l1); (try k_lt2 l2); (try k_sweep); k_enter))
local macro_rules | `(tactic| walk_at "call ref") => `(tactic| (k_here; (with_reducible show wpAny _ _ (call (Value.ref 125) _) _ _ _); k_dflt (refine' Mine.call_exc ?F ?X ?N ?hC ?hB ?hA ?hN ?hi ?hf ?hself ?hz ?_; (case F => k_asm); (case X => k_asm); (case N => k_asm); (case hC => k_is); (case hB => decide +kernel); (case hA => decide +kernel); (case hN => decide +kernel); (case hi => k_is); (case hf => k_is); (case hself => k_is); (case hz => exact Nat.le_of_ble_eq_true rfl); k_whole); intro x' t' h' F' N' l1 l2; (try k_lt l1); (try k_lt2 l2); (try k_sweep); k_enter))
local macro_rules | `(tactic| walk_at "setAttr ref") => `(tactic| (k_here; k_dflt (refine' Mine.set_exc0 ?F ?X ?N ?hx ?hs ?hc ?hp ?hm ?hD ?ha ?_; (case F => k_asm); (case X => k_asm); (case N => k_asm); (case hx => k_all); (case hs => k_is); (case hc => k_is); (case hp => (intro self; (try dsimp only); (repeat rw [refuseLoop_ref]); exact PySem.F.store_Exception.passes self)); (case hm => k_is); (case hD => exact rfl); (case ha => k_is); k_whole); intro d' h' F' N' l1; (try k_lt l1); (try k_sweep)))
namespace Mine
theorem mc_one {w : World} {mean : ExcName → Option Value} {mg mb : Str → Option Value} {gr : Gr} {c er ed : Addr} {text : Str} {e : Ex} {p : Int} {tt tp : Tok} {dU uU R : Nat} (hRR : R ≤ 20)
    (hcls : e.cls = 451) (hnq : e = .one) (hp0 : 0 ≤ p) (hp1 : p ≤ 12)
    {UP : (Ex → Int → Prop) → Prop} {UR : (Ex → Int → Prop) → Option T → (Ex → Int → Prop) → Prop}
    (hU : ∀ ckv rows, Spec w mean mg mb 441 [.ref (gr.xa e), .str text tt, .int p tp, .ref c, .ref er] dU uU
      (fun news => St w R gr c ed text news ckv rows ∧ Stat gr er ed news ∧ UP (Keys rows))
      (fun news r news' => ∃ ckv' rows' res, St w R gr c ed text news' ckv' rows' ∧ Keep news news' ∧ Grow rows rows' ∧ ResOk gr text news news' r res ∧ UR (Keys rows) res (Keys rows')))
    (ckv : KV) (rows : Rows) :
    Spec w mean mg mb 297 [.ref (gr.xa e), .str text tt, .int p tp, .ref c, .ref er] (dU + 10) (uU + 50)
      (fun news => St w R gr c ed text news ckv rows ∧ Stat gr er ed news ∧ ¬ Keys rows e p ∧ UP (fun e' k => Keys rows e' k ∨ (e' = e ∧ k = p)))
      (fun news r news' => ∃ ckv' rows' res, St w R gr c ed text news' ckv' rows' ∧ Keep news news' ∧ Grow rows rows' ∧ ResOk gr text news news' r res ∧ UR (fun e' k => Keys rows e' k ∨ (e' = e ∧ k = p)) res (Keys rows')) := by
  intro dp un gd cn cs a ccd cl outer A₀ base h₀ L m news s Q E B F X N T hk hPre hdd huu hret
  obtain ⟨S, ST, hnk, hup⟩ := hPre
  obtain ⟨sl, hin, hna, -⟩ := ST.inst e
  have hnn : e.nm = Str.ofString "" := by subst hnq; rfl
  have hna' : ∃ a b tk, sl = #[a, b, some (.str (Str.ofString "") tk)] := by subst hnq; exact hna
  obtain ⟨sl1, sl2, sltk, rfl⟩ := hna'
  unfold InstOk at hin
  rw [hcls] at hin
  w_top off; w_on
  refine wpAny_call ?_
  w_strict (k_dflt (refine' code_def ?k1 ?k2 ?k3 ?k4 ?k5 ?kA ?kF ?kK ?k6 ?k7 ?k8 ?k9 ?kB ?_ ?c2 ?c3 ?c4 ?c5; (case kA => exact rfl); (case kF => exact rfl); (case kK => assumption); (case k1 => k_asm); (case k2 => k_asm); (case k3 => k_asm); (case k4 => k_asm); (case k5 => k_asm); (case k6 => k_is); (case k7 => k_is); (case k8 => ktr_room); (case k9 => exact BindsTo.of_eq rfl); (case c5 => decide); (case kB => exact locs rfl); (case c2 => exact rfl); (case c3 => exact rfl); (case c4 => exact rfl); k_whole); intro g1 L1 h1 FG1 F1 N1 B1 X1 T1; (try dsimp only); (try k_fold))
  have hfn : ∀ a o o', (a, o) ∈ news → (a, o') ∈ news → o = o' := fun a o o' x y => Mine.News.fn N1 x y
  replace F1 : Fr g1 L1 h1 (mcM (gr.xa e) text tt p tp c er) := F1
  refine wpAny_execs_cons ?_
  refine wpAny_mono (Q := ProEnd w R gr c ed text e news rows s g1 L1 (mcM (gr.xa e) text tt p tp c er)) (E := fun _ _ => False) ?pro ?rest (fun _ _ x => x.elim)
  case pro =>
    clear qk ek
    obtain ⟨ps, hps, hr⟩ := S.ex e
    obtain ⟨oc, hoc, hocd, hcs⟩ := S.cache
    cases hrow : rows e with
    | none =>
      rcases hps with ⟨rfl, hxd⟩ | hps
      · obtain ⟨rest, Nr, hrs, hro, hrin, hrall⟩ := relist N1 [(c, oc), (gr.xd e, dictOf [] 0)] (by simp [hoc, hxd])
        have hrc : ∀ q ∈ rest, q.1 ≠ c := hro (c, oc) (by simp)
        have hrx : ∀ q ∈ rest, q.1 ≠ gr.xd e := hro (gr.xd e, dictOf [] 0) (by simp)
        have hir : (gr.xa e, ({ cls := .ref 451, dict := some (gr.xd e), data := .plain, slots := #[sl1, sl2, some (.str (Str.ofString "") sltk)] } : Obj)) ∈ rest :=
          hrin _ hin (by simp only [List.mem_cons, List.not_mem_nil, or_false, forall_eq_or_imp, forall_eq]; exact ⟨Mine.News.ne N1 hin hoc (by rw [dict_cls hocd]; exact ref_nd _), Mine.News.ne N1 hin hxd (ref_nd _)⟩)
        have hcx : @Ne Nat (gr.xd e) c := (S.apart.2.1 e).1
        have hcl : ckv.length ≤ 20 := by rw [S.count]; exact Nat.le_trans List.countP_le_length (by decide)
        have hcn : valueAt ckv (ckv.length : Int) = none := valueAt_none fun q hq => by have := S.keys q hq; omega
        simp only [List.cons_append, List.nil_append] at Nr
        w_strict (iterate 14 (first | (k_unfold; (try dsimp only)) | (k_end; wrow_close) | walk1 | (dsimp only; walk1) | (leave1; walk_say "STEP leave1"; try dsimp only) | fail "no step"))
        refine Mine.for_tup (vs := []) (ep := 0) rfl (fun _ m' n' => m' = _ ∧ n' = _) (by assumption) (by assumption) ⟨rfl, rfl⟩ ?ht ?turn ?done
        case ht => rintro i m' n' ⟨-, rfl⟩; exact List.Mem.head _
        case turn => intro i x it o h tk m' n' hx; simp at hx
        case done =>
          rintro h9 tk9 m9 n9 ⟨rfl, rfl⟩ F9 N9
          w_strict (k_sweep; repeat' (first | (k_unfold; (try dsimp only)) | (k_end; wrow_close) | walk1 | (dsimp only; walk1) | (leave1; walk_say "STEP leave1"; try dsimp only) | fail "no step"))
          with_reducible rename News _ _ _ _ => Nf
          with_reducible rename Fr _ _ _ _ => Ff
          dsimp only at Nf ⊢
          exact pro_newA (o := none) S hrow hfn hoc (dict_cls hocd) hxd rfl hrin Ff mcM_new Nf (by simp) (by assumption) (by assumption) (by assumption) (by assumption)
      · obtain ⟨hh, kk, t, vs, ep, hxd, ht, hpi, hvn⟩ := hps
        rw [hrow] at hr
        obtain ⟨rest, Nr, hrs, hro, hrin, hrall⟩ := relist N1 [(c, oc), (gr.xd e, dictOf [⟨hh, .str (Str.ofString "oids") kk, .ref t⟩] 1)] (by simp [hoc, hxd])
        have hrc : ∀ q ∈ rest, q.1 ≠ c := hro (c, oc) (by simp)
        have hrx : ∀ q ∈ rest, q.1 ≠ gr.xd e := hro (gr.xd e, dictOf [⟨hh, .str (Str.ofString "oids") kk, .ref t⟩] 1) (by simp)
        have nd : ∀ q ∈ news, q.2.cls ≠ .type "dict" → q ∈ rest := fun q hq hc => hrin q hq (by
          simp only [List.mem_cons, List.not_mem_nil, or_false, forall_eq_or_imp, forall_eq]
          exact ⟨Mine.News.ne N1 (o := q.2) hq hoc (by rw [dict_cls hocd]; exact hc), Mine.News.ne N1 (o := q.2) hq hxd hc⟩)
        have hir : (gr.xa e, ({ cls := .ref 451, dict := some (gr.xd e), data := .plain, slots := #[sl1, sl2, some (.str (Str.ofString "") sltk)] } : Obj)) ∈ rest := nd _ hin (ref_nd _)
        have htr : (t, tupO vs ep) ∈ rest := nd _ ht tup_nd
        have hcx : @Ne Nat (gr.xd e) c := (S.apart.2.1 e).1
        have hcl : ckv.length ≤ 20 := by rw [S.count]; exact Nat.le_trans List.countP_le_length (by decide)
        have hcn : valueAt ckv (ckv.length : Int) = none := valueAt_none fun q hq => by have := S.keys q hq; omega
        simp only [List.cons_append, List.nil_append] at Nr
        have hvl : vs.length ≤ 100 := by rw [hpi.length]; have := hr.1; omega
        w_strict (iterate 14 (first | (k_unfold; (try dsimp only)) | (k_end; wrow_close) | walk1 | (dsimp only; walk1) | (leave1; walk_say "STEP leave1"; try dsimp only) | fail "no step"))
        refine Mine.for_tup (vs := vs) (ep := ep) rfl (fun _ m' n' => (∃ o ev, m' = (fun y => if y = Str.ofString "expr_cache" then ev else if y = Str.ofString "oid" then o else mcM (gr.xa e) text tt p tp c er y)) ∧ n' = _) (by assumption) (by assumption) ⟨⟨none, none, mcM_0⟩, rfl⟩ ?ht ?turn ?done
        case ht => rintro i m' n' ⟨-, rfl⟩; simp [htr]
        case turn =>
          rintro i x it o h tk m' n' hx ⟨⟨o1, ev, rfl⟩, rfl⟩ F9 N9 hoi off
          obtain ⟨pa, ptk, pep, pi, pe, rfl, hpm, hps⟩ := hpi.get i x hx
          have hpr := nd _ hpm tup_nd
          cases hv : valueAt ckv pi with
          | none =>
            w_strict (k_sweep; repeat' (first | (k_unfold; (try dsimp only)) | (k_end; wrow_close) | walk1 | (dsimp only; walk1) | (leave1; walk_say "STEP leave1"; try dsimp only) | fail "no step"))
            with_reducible rename News _ _ _ _ => Nf
            with_reducible rename Fr _ _ _ _ => Ff
            exact ⟨_, _, _, _, rfl, Ff, Nf, off, ⟨_, _, mcM_turn⟩, rfl⟩
          | some v =>
            obtain ⟨e1, a', kv1, rfl, hr1⟩ := S.refs _ (valueAt_mem hv)
            have hne : a' ≠ pe := fun z => hr.2 (pi, pe) hps _ (valueAt_mem hv) (by rw [z])
            obtain ⟨oa, hoa, hoad, -⟩ := (S.rowAt hr1).1
            have hoa' := hrall _ hoa
            have hoac : oa.cls ≠ .type "tuple" := by rw [dict_cls hoad]; decide
            obtain ⟨ob, hob⟩ := PairsIn.dom hpi _ hps
            have hob' := hrall _ hob
            simp only [List.cons_append, List.nil_append] at hoa' hob'
            w_strict (k_sweep; repeat' (first | (k_unfold; (try dsimp only)) | (k_end; wrow_close) | walk1 | (dsimp only; walk1) | (leave1; walk_say "STEP leave1"; try dsimp only) | fail "no step"))
            with_reducible rename News _ _ _ _ => Nf
            with_reducible rename Fr _ _ _ _ => Ff
            exact ⟨_, _, _, _, rfl, Ff, Nf, off, ⟨_, _, mcM_turn⟩, rfl⟩
        case done =>
          rintro h9 tk9 m9 n9 ⟨⟨o1, ev, rfl⟩, rfl⟩ F9 N9
          w_strict (k_sweep; repeat' (first | (k_unfold; (try dsimp only)) | (k_end; wrow_close) | walk1 | (dsimp only; walk1) | (leave1; walk_say "STEP leave1"; try dsimp only) | fail "no step"))
          with_reducible rename News _ _ _ _ => Nf
          with_reducible rename Fr _ _ _ _ => Ff
          dsimp only at Nf ⊢
          exact pro_newB (x0 := oc) S hrow hfn hoc (dict_cls hocd) hxd rfl hrin Ff mcM_done Nf rfl hpi hr.1 (by simp) (by assumption) (by assumption) (by assumption) (by assumption)
    | some r =>
      obtain ⟨ci, ec, kv⟩ := r
      rw [hrow] at hr
      obtain ⟨⟨⟨tl, rfl⟩, hpl⟩, hva, -⟩ := hr
      rcases hps with ⟨hps, -⟩ | ⟨hh, kk, t, vs, ep, hxd, ht, hpi, hvn⟩
      · cases hps
      obtain ⟨oec, hec, hecd, -⟩ := (S.rowAt hrow).1
      have hvl : vs.length ≤ 100 := by rw [hpi.length]; omega
      w_strict (iterate 14 (first | (k_unfold; (try dsimp only)) | (k_end; wrow_close) | walk1 | (dsimp only; walk1) | (leave1; walk_say "STEP leave1"; try dsimp only) | fail "no step"))
      refine Mine.for_tup (vs := vs) (ep := ep) rfl (fun i m' n' => i = 0 ∧ m' = mcM (gr.xa e) text tt p tp c er ∧ n' = _) (by assumption) (by assumption) ⟨rfl, rfl, rfl⟩ ?ht ?turn ?done
      case ht => rintro i m' n' ⟨-, -, rfl⟩; exact List.mem_cons_of_mem _ ht
      case done => rintro h9 tk9 m9 n9 ⟨h, -, -⟩; exact absurd (List.eq_nil_of_length_eq_zero h) hvn
      case turn =>
        rintro i x it o h tk m' n' hx ⟨rfl, rfl, rfl⟩ F9 N9 hoi off
        obtain ⟨v0, vs', rfl⟩ := List.exists_cons_of_ne_nil hvn
        simp at hx
        subst hx
        obtain ⟨⟨pa, ptk, pep, rfl, hpm, -⟩, -⟩ := hpi
        w_strict (k_sweep; repeat' (first | (k_unfold; (try dsimp only)) | (k_end; wrow_close) | walk1 | (dsimp only; walk1) | (leave1; walk_say "STEP leave1"; try dsimp only) | fail "no step"))
        with_reducible rename News _ _ _ _ => Nf
        with_reducible rename Fr _ _ _ _ => Ff
        dsimp only
        exact pro_hit (S.mono fun q hq => by simp [hq]) (Keep.of_sub fun q hq => by simp [hq]) hrow Ff Nf rfl
  case rest =>
    rintro f s₂ ⟨rfl, h2, tk2, o2, ec, oe, ckv1, rows1, i1, kv1, rest1, rfl, F2, N2, off2, hrow1, hoed, hes, S1, K1, G1, hkeys⟩
    dsimp only
    have hnk1 : valueAt kv1 p = none := valueAt_none fun q hq hp => hnk (by rw [← hkeys]; exact ⟨i1, ec, kv1, q.2, hrow1, hp ▸ hq⟩)
    have hkr := (S1.off e i1 ec kv1 hrow1).2.2.2
    have hkl : kv1.length ≤ 13 := dict_len hoed hkr
    have hoc1 := dict_cls hoed
    have in1 : (gr.xa e, ({ cls := .ref 451, dict := some (gr.xd e), data := .plain, slots := #[sl1, sl2, some (.str (Str.ofString "") sltk)] } : Obj)) ∈ rest1 := nd_row N2 hoc1 (K1.same _ hin (ref_nd _)) (ref_nd _)
    obtain ⟨es, en, hxd, hum, -⟩ := own_dict S1 e
    replace hxd := mem_rest hxd ((S1.off e i1 ec kv1 hrow1).2.2.1 e).symm
    have hnk2 : (valueAt kv1 p).isSome = false := by rw [hnk1]; rfl
    have hfn2 : ∀ a o o', (a, o) ∈ (ec, oe) :: rest1 → (a, o') ∈ (ec, oe) :: rest1 → o = o' := fun a o o' x y => Mine.News.fn N2 x y
    w_strict (k_sweep; iterate 31 (first | (k_unfold; (try dsimp only)) | (k_end; wrow_close) | walk1 | (dsimp only; walk1) | (leave1; walk_say "STEP leave1"; try dsimp only) | fail "no step"))
    with_reducible rename News _ _ _ _ => N3
    with_reducible rename Fr _ _ _ _ => F3
    rename Obj.IsDictOf _ _ (kv1 ++ _) => hd3
    obtain ⟨S3, K3⟩ := row_put S1 hrow1 hoc1 hd3 (by
        intro q hq
        rcases List.mem_append.mp hq with h | h
        · exact hkr q h
        · rw [List.mem_singleton.mp h]; exact ⟨hp0, hp1⟩)
    replace K3 := K1.trans K3
    have G3 := G1.trans (grow_row hrow1 (kv' := kv1 ++ [(p, .ref 251)]) fun k ⟨v, hv⟩ => ⟨v, List.mem_append_left _ hv⟩)
    have hk3 := keys_put (p := p) (v := .ref 251) hrow1
    rw [hkeys] at hk3
    refine Spec.use B1 F3 X1 N3 T1 rfl (hU _ _) ⟨S3, ST.keep K3, hk3 ▸ hup⟩ (by ktr_room) (by ktr_units) ?_
    rintro r news4 h4 tk4 F4 N4 ⟨ckv4, rows4, res, S4, K4, G4, hres, hur⟩
    rw [hk3] at hur
    obtain ⟨kv4, hrow4, hkv4⟩ := G4 e i1 ec _ (if_pos rfl)
    have hhas : (valueAt kv4 p).isSome = true := valueAt_isSome (hkv4 p ⟨_, List.mem_append_right _ (.head _)⟩)
    obtain ⟨⟨oe4, hde4, hoe4, -⟩, -⟩ := S4.rowAt hrow4
    obtain ⟨rest4, N5, off5, sub5⟩ := front N4 hde4
    have hoc4 := dict_cls hoe4
    have K5 := (K3.trans K4).trans (Keep.of_sub sub5)
    have S5 := S4.mono sub5
    have ST5 := ST.keep K5
    have hkr5 := (S5.off e i1 ec kv4 hrow4).2.2.2
    have hkl5 : kv4.length ≤ 13 := dict_len hoe4 hkr5
    have hfn5 : ∀ a o o', (a, o) ∈ (ec, oe4) :: rest4 → (a, o') ∈ (ec, oe4) :: rest4 → o = o' := fun a o o' x y => Mine.News.fn N5 x y
    have in5 : (gr.xa e, ({ cls := .ref 451, dict := some (gr.xd e), data := .plain, slots := #[sl1, sl2, some (.str (Str.ofString "") sltk)] } : Obj)) ∈ rest4 := nd_row N5 hoc4 (K5.same _ hin (ref_nd _)) (ref_nd _)
    obtain ⟨vse, sle, her⟩ := ST5.err
    replace her := nd_row N5 hoc4 her (ref_nd _)
    obtain ⟨hh1, hh2, hh3, kk1, kk2, kk3, ettt, epos, et, ev, hed, hep0, hep1, hev⟩ := S5.err
    replace hed := mem_rest hed ((S5.off e i1 ec kv4 hrow4).2.1).symm
    obtain ⟨es5, en5, hxd5, -⟩ := own_dict S5 e
    replace hxd5 := mem_rest hxd5 ((S5.off e i1 ec kv4 hrow4).2.2.1 e).symm
    clear N4 hde4
    cases res with
    | some T0 =>
      cases hres with
      | @mk na nl nd nod ne ns nt nts ntt ntx nvs ncs nep hn1 hn2 hn3 hn4 hn5 hn8 hn6 hn7 =>
      have hn1' := nd_row N5 hoc4 (sub5 _ hn1) (ref_nd _)
      w_strict (repeat' (first | (k_unfold; (try dsimp only)) | (k_end; wrow_close) | walk1 | (dsimp only; walk1) | (leave1; walk_say "STEP leave1"; try dsimp only) | fail "no step"))
      with_reducible rename News _ _ _ _ => N9
      with_reducible rename Fr _ _ _ _ => F9
      rename Obj.IsDictOf _ _ (List.map _ _) => hd9
      obtain ⟨S9, K9⟩ := row_map S5 hrow4 hoc4 hd9
      have hk9 := keys_map (p := p) (v := .ref na) hrow4
      refine hret _ _ _ _ F9 N9 ⟨_, _, some (.node ne ns nt ncs), S9, K5.trans K9, G3.trans (G4.trans (grow_row hrow4 (map_keys))), ?_, ?_⟩
      · exact IsT.keep ((Keep.of_sub sub5).trans K9) (IsT.le K3.at (.mk hn1 hn2 hn3 hn4 hn5 hn8 hn6 hn7))
      · rw [hk9]; exact hur
    | none =>
      cases hres
      obtain ⟨rest6, N6, hrs6, hro6, hrin6, hrall6⟩ := relist N5 [(ec, oe4), (ed, dictOf [⟨hh1, .str (Str.ofString "text") kk1, .str text ettt⟩, ⟨hh2, .str (Str.ofString "pos") kk2, .int epos et⟩, ⟨hh3, .str (Str.ofString "expr") kk3, ev⟩] 3)] (by simp [hed])
      have nd6 : ∀ q ∈ rest4, q.2.cls ≠ .type "dict" → q ∈ rest6 := fun q hq hc => hrin6 q (.tail _ hq) (by
        simp only [List.mem_cons, List.not_mem_nil, or_false, forall_eq_or_imp, forall_eq]
        exact ⟨off5 q hq, Mine.News.ne N5 (o := q.2) (.tail _ hq) (.tail _ hed) hc⟩)
      simp only [List.cons_append, List.nil_append] at N6 hrall6
      have in6 := nd6 _ in5 (ref_nd _)
      have her6 := nd6 _ her (ref_nd _)
      have xd6 : ∀ e' o, (gr.xd e', o) ∈ (ec, oe4) :: rest4 → (gr.xd e', o) ∈ rest6 := fun e' o h => hrin6 _ h (by
        simp only [List.mem_cons, List.not_mem_nil, or_false, forall_eq_or_imp, forall_eq]
        exact ⟨((S5.off e i1 ec kv4 hrow4).2.2.1 e').symm, (S5.apart.2.1 e').2⟩)
      have hxd6 := xd6 e _ (.tail _ hxd5)
      have S6 := S5.mono hrall6
      have K6 := K5.trans (Keep.of_sub hrall6)
      have hce6 : @Ne Nat ec ed := (S5.off e i1 ec kv4 hrow4).2.1
      have hoff6 : ∀ q ∈ rest6, q.1 ≠ ec := hro6 (ec, oe4) (by simp)
      have hofd6 : ∀ q ∈ rest6, q.1 ≠ ed := fun q hq => hro6 (ed, _) (List.mem_cons_of_mem _ (List.mem_singleton.mpr rfl)) q hq
      clear N5 hed in5 her hxd5 off5
      rcases hev with rfl | ⟨e9, rfl⟩
      · w_strict (repeat' (first | (k_unfold; (try dsimp only)) | (k_end; wrow_close) | walk1 | (dsimp only; walk1) | (leave1; walk_say "STEP leave1"; try dsimp only) | fail "no step"))
        · with_reducible rename News _ _ _ _ => N9
          with_reducible rename Fr _ _ _ _ => F9
          rename Obj.IsDictOf _ _ (List.map _ _) => hd9
          obtain ⟨S9, K9⟩ := row_map S6 hrow4 hoc4 hd9
          have hk9 := keys_map (p := p) (v := .none) hrow4
          obtain ⟨S9', K9'⟩ := err_put (o' := dictOf [⟨hh1, .str (Str.ofString "text") kk1, .str text ettt⟩, ⟨hh2, .str (Str.ofString "pos") kk2, .int p tp⟩, ⟨hh3, .str (Str.ofString "expr") kk3, .ref (gr.xa e)⟩] 3) S9 rfl rfl
            ⟨hh1, hh2, hh3, kk1, kk2, kk3, ettt, p, tp, .ref (gr.xa e), by simp, by omega, by omega, .inr ⟨e, rfl⟩⟩
          exact hret _ _ _ _ F9 N9 ⟨_, _, none, S9', K6.trans (K9.trans K9'), G3.trans (G4.trans (grow_row hrow4 map_keys)), rfl, hk9 ▸ hur⟩
        · with_reducible rename News _ _ _ _ => N9
          with_reducible rename Fr _ _ _ _ => F9
          rename Obj.IsDictOf _ _ (List.map _ _) => hd9
          obtain ⟨S9, K9⟩ := row_map S6 hrow4 hoc4 hd9
          have hk9 := keys_map (p := p) (v := .none) hrow4
          exact hret _ _ _ _ F9 N9 ⟨_, _, none, S9, K6.trans K9, G3.trans (G4.trans (grow_row hrow4 map_keys)), rfl, hk9 ▸ hur⟩
      · obtain ⟨sl9, hi9, hn9, -⟩ := ST5.inst e9
        have hi9' := nd6 _ (nd_row (Mine.News.sub N6 hrall6) hoc4 hi9 (ref_nd _)) (ref_nd _)
        obtain ⟨o9, ho9⟩ := S5.xdAt e9
        replace ho9 := xd6 e9 _ ho9
        w_strict (repeat' (first | (k_unfold; (try dsimp only)) | (k_end; wrow_close) | walk1 | (dsimp only; walk1) | (leave1; walk_say "STEP leave1"; try dsimp only) | fail "no step"))
        all_goals
          with_reducible rename News _ _ _ _ => N9
          with_reducible rename Fr _ _ _ _ => F9
          rename Obj.IsDictOf _ _ (List.map _ _) => hd9
          obtain ⟨S9, K9⟩ := row_map S6 hrow4 hoc4 hd9
          have hk9 := keys_map (p := p) (v := .none) hrow4
          exact hret _ _ _ _ F9 N9 ⟨_, _, none, S9, K6.trans K9, G3.trans (G4.trans (grow_row hrow4 map_keys)), rfl, hk9 ▸ hur⟩
end Mine
end

section
-- part McQua
open PySem PySem.Spec PySem.Calls PySem.W PyProof.Rows
local macro_rules | `(tactic| walk_at "pad of mine") => `(tactic| fail)
local macro_rules | `(tactic| k_room) => `(tactic| ktr_room)
local macro_rules | `(tactic| k_all) => `(tactic| exact allNe_of' (by assumption) (by omega))
local macro_rules | `(tactic| k_all) => `(tactic| ((with_reducible rename AllLt _ _ => hAllLt); exact allNe_of hAllLt (by omega)))
local macro_rules | `(tactic| k_all) => `(tactic| assumption)
local macro_rules | `(tactic| k_mem) => `(tactic| first | exact List.Mem.head _ | (refine' List.mem_cons_of_mem _ ?_; k_mem))
local macro_rules | `(tactic| walk_at "call builtin:getattr") => `(tactic| (k_here; k_dflt (refine' Mine.oids_miss ?hA ?k1 ?k2 ?k3 ?k4 ?k5 ?k6 ?k7 ?k8 ?k9 ?k10 ?k11 ?k12 ?_; (case hA => exact rfl); (case k1 => k_asm); (case k2 => k_asm); (case k3 => k_asm); (case k4 => k_inst); (case k5 => k_is); (case k6 => k_is); (case k7 => k_is); (case k8 => k_is); (case k9 => k_is); (case k10 => decide +kernel); (case k11 => decide +kernel); (case k12 => k_get); k_whole); intro h' tk' F' N'; (try k_sweep)))
local macro_rules | `(tactic| walk_at "call builtin:getattr") => `(tactic| (k_here; k_dflt (refine' Mine.oids_hit ?k1 ?k2 ?k4 ?k5 ?k6 ?k7 ?k8 ?k12 ?k13 ?_; (case k1 => k_asm); (case k2 => k_asm); (case k4 => k_inst); (case k5 => k_is); (case k6 => k_is); (case k7 => k_is); (case k8 => k_is); (case k12 => k_get); (case k13 => k_handed); k_whole)))
local macro_rules | `(tactic| walk_at "exec For Tuple Call") => `(tactic| refine wpAny_For ?_)
local macro_rules | `(tactic| walk_at "call builtin:len") => `(tactic| (k_here; (with_reducible show wpAny _ _ (call (Value.builtin "len") [Value.ref _]) _ _ _); k_dflt (refine kda_len (knd := PySem.intKind _ _) (by k_asm) (by k_mem) (by assumption) (by assumption) (by first | omega | (simp only [List.length_append, List.length_cons, List.length_nil]; omega)) ?_)))
local macro_rules | `(tactic| walk_at "setItem ref int") => `(tactic| (k_here; k_dflt (refine' Mine.set_new ?F ?N ?U ?d ?z ?v ?_; (case F => k_asm); (case N => k_asm); (case U => k_updF); (case d => assumption); (case z => (try simp only [List.length_append, List.length_cons, List.length_nil]); omega); (case v => assumption)); intro h' o' F' N' hd'; (try dsimp only at N'); (try k_sweep)))
local macro_rules | `(tactic| walk_at "getMethod ref") => `(tactic| (k_here; (with_reducible show wpAny _ _ (getMethod (Value.ref _) (Str.ofString "get") _) _ _ _); k_dflt (refine kdg_method (knd := PySem.intKind _ _) (by k_asm) (by k_mem) (by assumption) ?_)))
local macro_rules | `(tactic| walk_at "call builtin:dict.get") => `(tactic| (k_here; k_dflt (refine kdg_get1 (knd := PySem.intKind _ _) (by k_asm) (by k_mem) (by assumption) (by assumption) (intKind_is _ _ _ _) _ (by first | assumption | rfl) ?_); (try dsimp only [Option.getD])))
local macro_rules | `(tactic| walk_at "compareOp In int ref") => `(tactic| (k_here; k_dflt (refine kda_in (knd := PySem.intKind _ _) (by k_asm) (by k_mem) (by assumption) (by assumption) (intKind_is _ _ _ _) _ (by first | assumption | rfl) ?_)))
local macro_rules | `(tactic| walk_at "compareOp Is ref ref") => `(tactic| (k_here; k_dflt (refine' wpAny_is_ref_other ?ne ?x ?y ?n ?_; (case ne => assumption); (case x => (exact (PyProof.Rows.News.get (by k_asm) (by k_mem)))); (case y => (exact (PyProof.Rows.News.get (by k_asm) (by k_mem)))); (case n => assumption))))
local macro_rules | `(tactic| walk_at "binaryOp Add ref ref") => `(tactic| (k_here; k_dflt (refine' kde_addT ?k1 ?k2 ?k3 ?k4 ?k5 ?k6 ?k7 ?k8 ?_; (case k1 => k_asm); (case k2 => k_asm); (case k3 => exact PyProof.Rows.News.isTup (by k_asm) (by k_mem)); (case k4 => exact PyProof.Rows.News.isTup (by k_asm) (by k_mem)); (case k5 => exact List.cons_ne_nil _ _); (case k6 => assumption); (case k7 => (simp only [List.length_cons, List.length_nil]; omega)); (case k8 => exact rfl); k_whole); intro D' h' F' N' l1; (try k_lt l1); (try k_sweep)))
local macro_rules | `(tactic| walk_at "getMethod ref") => `(tactic| (k_here; k_dflt (refine' method_inst ?k1 ?k2 ?k3 ?k4 ?k5 ?k6 ?k7 ?_; (case k1 => k_asm); (case k2 => k_asm); (case k3 => k_inst); (case k4 => k_is); (case k5 => k_is); (case k6 => k_is); (case k7 => assumption); k_whole)))
local macro_rules | `(tactic| walk_at "setItem ref int") => `(tactic| (k_here; k_dflt (refine' Mine.set_old ?F ?N ?U ?d ?z ?v ?_; (case F => k_asm); (case N => k_asm); (case U => k_updF); (case d => assumption); (case z => omega); (case v => assumption)); intro h' o' F' N' hd'; (try dsimp only at N'); (try k_sweep)))
local macro_rules | `(tactic| k_inst) => `(tactic| (refine' Mine.InstAt.of_newsF ?N ?h1 ?h2; (case N => k_asm); (case h1 => k_mem); (case h2 => k_mem)))
local macro_rules | `(tactic| walk_at "getAttr ref") => `(tactic| (k_here; k_dflt (refine' Mine.get_exc ?k1 ?k2 ?k3 ?k4 ?k5 ?k6 ?k7 ?k8 ?k9 ?k10 ?_; (case k1 => k_asm); (case k2 => k_asm); (case k3 => k_inst); (case k4 => k_is); (case k5 => k_is); (case k6 => k_is); (case k7 => k_is); (case k8 => k_is); (case k9 => k_get); (case k10 => k_handed); k_whole)))
local macro_rules | `(tactic| walk_at "setAttr ref") => `(tactic| (k_here; k_dflt (refine' Mine.set_exc ?k1 ?k2 ?k3 ?k4 ?k5 ?k6 ?k7 ?k8 ?k9 ?k10 ?k11 ?k12 ?k13 ?k14 ?k15 ?_; (case k1 => k_asm); (case k2 => k_asm); (case k3 => k_asm); (case k4 => k_inst); (case k5 => exact rfl); (case k6 => k_is); (case k7 => k_is); (case k8 => (intro self; (try dsimp only); (repeat rw [refuseLoop_ref]); exact PySem.F.store_Exception.passes self)); (case k9 => k_is); (case k10 => exact rfl); (case k11 => k_is); (case k12 => k_get); (case k13 => k_put); (case k14 => k_upd); (case k15 => exact Nat.le_of_ble_eq_true rfl); k_whole); intro h' F' N'; (try k_sweep)))
local macro_rules | `(tactic| walk_at "call builtin:getattr") => `(tactic| (k_here; k_dflt (refine' Mine.none_name ?hA ?k1 ?k2 ?_; (case hA => exact rfl); (case k1 => k_asm); (case k2 => k_asm)); intro h' tk' F' N'; (try k_sweep)))
local macro_rules | `(tactic| walk_at "call builtin:getattr") => `(tactic| (k_here; k_dflt (refine' Mine.name3 ?k1 ?k2 ?k3 _ ?k4 ?k5 ?k6 ?_; (case k1 => k_asm); (case k2 => k_asm); (case k3 => k_asm); (case k4 => k_mem); (case k5 => k_mem); (case k6 => assumption)); intro nt'))
local macro_rules | `(tactic| walk_at "eval Name") => `(tactic| (k_here; k_dflt (refine' ld ?k1 ?k2 ?_; (case k1 => k_asm); (case k2 => first | exact rfl | assumption); k_whole)))
local macro_rules | `(tactic| walk_at "call builtin:list.append") => `(tactic| (k_here; (show wpAny _ _ (call (Value.builtin _) [Value.ref _, _]) _ _ _); k_dflt (refine' append_K ?k1 ?k2 ?k3 ?_ ?z; (case k1 => k_asm); (case k2 => k_asm); (case k3 => k_upd); (case z => (rw [sizeLine_eq]; simp only [List.size_toArray]; omega)); k_whole); intro h' F' N'; (try k_sweep)))
local macro_rules | `(tactic| walk_at "getMethod ref") => `(tactic| (k_here; (with_reducible show wpAny _ _ (getMethod (Value.ref _) (Str.ofString "match_core") _) _ _ _); k_dflt (refine' Mine.core_method ?k1 ?k2 ?k3 _ ?k4 ?k5 ?k6 ?_; (case k1 => k_asm); (case k2 => k_asm); (case k3 => k_asm); (case k4 => k_mem); (case k5 => k_mem); (case k6 => assumption))))
local macro_rules | `(tactic| walk_at "loadName") => `(tactic| (refine' ldn ?k1 ?k2 ?_; (case k1 => assumption); (case k2 => first | exact rfl | assumption)))
local macro_rules | `(tactic| k_all) => `(tactic| first | exact Mine.allNe_c1 (by assumption) (by omega) | exact Mine.allNe_c2 (by assumption) (by omega) | exact Mine.allNe_c3 (by assumption) (by omega) | exact Mine.allNe_c4 (by assumption) (by omega) | exact Mine.allNe_c5 (by assumption) (by omega) | exact Mine.allNe_c6 (by assumption) (by omega) | exact Mine.allNe_c7 (by assumption) (by omega) | exact Mine.allNe_c8 (by assumption) (by omega))
local macro_rules | `(tactic| walk_at "truthy ref") => `(tactic| (k_here; (with_reducible show wpAny _ _ (truthy (Value.ref _)) _ _ _); k_dflt (refine' Mine.truthy_lst ?N ?m ?z ?b ?_; (case N => k_asm); (case m => k_mem); (case z => first | omega | (simp only [List.length_cons, List.length_nil]; omega)); (case b => first | assumption | exact (show _ = true from rfl) | exact (show _ = false from rfl)))))
local macro_rules | `(tactic| walk_at "compareOp Lt int float") => `(tactic| refine Mine.inf_lt ?_)
local macro_rules | `(tactic| walk_at "call builtin:len") => `(tactic| (k_here; (with_reducible show wpAny _ _ (call (Value.builtin "len") [Value.ref _]) _ _ _); k_dflt (refine' Mine.len_lst ?N ?m ?z ?_; (case N => k_asm); (case m => k_mem); (case z => first | omega | (simp only [List.length_cons, List.length_nil]; omega)))))
local macro_rules | `(tactic| walk_at "call ref") => `(tactic| (k_here; (with_reducible show wpAny _ _ (call (Value.ref 87) _) _ _ _); k_dflt (refine' Mine.call_exc ?F ?X ?N ?hC ?hB ?hA ?hN ?hi ?hf ?hself ?hz ?_; (case F => k_asm); (case X => k_asm); (case N => k_asm); (case hC => k_is); (case hB => decide +kernel); (case hA => decide +kernel); (case hN => decide +kernel); (case hi => k_is); (case hf => k_is); (case hself => k_is); (case hz => exact Nat.le_of_ble_eq_true rfl); k_whole); intro x' t' h' F' N' l1 l2; (try k_lt l1); (try k_lt2 l2); (try k_sweep); k_enter))
local macro_rules | `(tactic| walk_at "call ref") => `(tactic| (k_here; (with_reducible show wpAny _ _ (call (Value.ref 125) _) _ _ _); k_dflt (refine' Mine.call_exc ?F ?X ?N ?hC ?hB ?hA ?hN ?hi ?hf ?hself ?hz ?_; (case F => k_asm); (case X => k_asm); (case N => k_asm); (case hC => k_is); (case hB => decide +kernel); (case hA => decide +kernel); (case hN => decide +kernel); (case hi => k_is); (case hf => k_is); (case hself => k_is); (case hz => exact Nat.le_of_ble_eq_true rfl); k_whole); intro x' t' h' F' N' l1 l2; (try k_lt l1); (try k_lt2 l2); (try k_sweep); k_enter))
local macro_rules | `(tactic| walk_at "setAttr ref") => `(tactic| (k_here; k_dflt (refine' Mine.set_exc0 ?F ?X ?N ?hx ?hs ?hc ?hp ?hm ?hD ?ha ?_; (case F => k_asm); (case X => k_asm); (case N => k_asm); (case hx => k_all); (case hs => k_is); (case hc => k_is); (case hp => (intro self; (try dsimp only); (repeat rw [refuseLoop_ref]); exact PySem.F.store_Exception.passes self)); (case hm => k_is); (case hD => exact rfl); (case ha => k_is); k_whole); intro d' h' F' N' l1; (try k_lt l1); (try k_sweep)))
namespace Mine
theorem mc_qua {w : World} {mean : ExcName → Option Value} {mg mb : Str → Option Value} {gr : Gr} {c er ed : Addr} {text : Str} {e : Ex} {p : Int} {tt tp : Tok} {dU uU R : Nat} (hRR : R ≤ 20)
    (hcls : e.cls = 489) (hnq : e = .top ∨ e = .uZ ∨ e = .lZ) (hp0 : 0 ≤ p) (hp1 : p ≤ 12)
    {UP : (Ex → Int → Prop) → Prop} {UR : (Ex → Int → Prop) → Option T → (Ex → Int → Prop) → Prop}
    (hU : ∀ ckv rows, Spec w mean mg mb 478 [.ref (gr.xa e), .str text tt, .int p tp, .ref c, .ref er] dU uU
      (fun news => St w R gr c ed text news ckv rows ∧ Stat gr er ed news ∧ UP (Keys rows))
      (fun news r news' => ∃ ckv' rows' res, St w R gr c ed text news' ckv' rows' ∧ Keep news news' ∧ Grow rows rows' ∧ ResOk gr text news news' r res ∧ UR (Keys rows) res (Keys rows')))
    (ckv : KV) (rows : Rows) :
    Spec w mean mg mb 297 [.ref (gr.xa e), .str text tt, .int p tp, .ref c, .ref er] (dU + 10) (uU + 50)
      (fun news => St w R gr c ed text news ckv rows ∧ Stat gr er ed news ∧ ¬ Keys rows e p ∧ UP (fun e' k => Keys rows e' k ∨ (e' = e ∧ k = p)))
      (fun news r news' => ∃ ckv' rows' res, St w R gr c ed text news' ckv' rows' ∧ Keep news news' ∧ Grow rows rows' ∧ ResOk gr text news news' r res ∧ UR (fun e' k => Keys rows e' k ∨ (e' = e ∧ k = p)) res (Keys rows')) := by
  intro dp un gd cn cs a ccd cl outer A₀ base h₀ L m news s Q E B F X N T hk hPre hdd huu hret
  obtain ⟨S, ST, hnk, hup⟩ := hPre
  obtain ⟨sl, hin, hna, -⟩ := ST.inst e
  have hnn : e.nm = Str.ofString "" := by rcases hnq with rfl | rfl | rfl <;> rfl
  have hna' : ∃ a b c d tk, sl = #[a, b, c, d, some (.str (Str.ofString "") tk)] := by rcases hnq with rfl | rfl | rfl <;> exact hna
  obtain ⟨sl1, sl2, sl3, sl4, sltk, rfl⟩ := hna'
  unfold InstOk at hin
  rw [hcls] at hin
  w_top off; w_on
  refine wpAny_call ?_
  w_strict (k_dflt (refine' code_def ?k1 ?k2 ?k3 ?k4 ?k5 ?kA ?kF ?kK ?k6 ?k7 ?k8 ?k9 ?kB ?_ ?c2 ?c3 ?c4 ?c5; (case kA => exact rfl); (case kF => exact rfl); (case kK => assumption); (case k1 => k_asm); (case k2 => k_asm); (case k3 => k_asm); (case k4 => k_asm); (case k5 => k_asm); (case k6 => k_is); (case k7 => k_is); (case k8 => ktr_room); (case k9 => exact BindsTo.of_eq rfl); (case c5 => decide); (case kB => exact locs rfl); (case c2 => exact rfl); (case c3 => exact rfl); (case c4 => exact rfl); k_whole); intro g1 L1 h1 FG1 F1 N1 B1 X1 T1; (try dsimp only); (try k_fold))
  have hfn : ∀ a o o', (a, o) ∈ news → (a, o') ∈ news → o = o' := fun a o o' x y => Mine.News.fn N1 x y
  replace F1 : Fr g1 L1 h1 (mcM (gr.xa e) text tt p tp c er) := F1
  refine wpAny_execs_cons ?_
  refine wpAny_mono (Q := ProEnd w R gr c ed text e news rows s g1 L1 (mcM (gr.xa e) text tt p tp c er)) (E := fun _ _ => False) ?pro ?rest (fun _ _ x => x.elim)
  case pro =>
    clear qk ek
    obtain ⟨ps, hps, hr⟩ := S.ex e
    obtain ⟨oc, hoc, hocd, hcs⟩ := S.cache
    cases hrow : rows e with
    | none =>
      rcases hps with ⟨rfl, hxd⟩ | hps
      · obtain ⟨rest, Nr, hrs, hro, hrin, hrall⟩ := relist N1 [(c, oc), (gr.xd e, dictOf [] 0)] (by simp [hoc, hxd])
        have hrc : ∀ q ∈ rest, q.1 ≠ c := hro (c, oc) (by simp)
        have hrx : ∀ q ∈ rest, q.1 ≠ gr.xd e := hro (gr.xd e, dictOf [] 0) (by simp)
        have hir : (gr.xa e, ({ cls := .ref 489, dict := some (gr.xd e), data := .plain, slots := #[sl1, sl2, sl3, sl4, some (.str (Str.ofString "") sltk)] } : Obj)) ∈ rest :=
          hrin _ hin (by simp only [List.mem_cons, List.not_mem_nil, or_false, forall_eq_or_imp, forall_eq]; exact ⟨Mine.News.ne N1 hin hoc (by rw [dict_cls hocd]; exact ref_nd _), Mine.News.ne N1 hin hxd (ref_nd _)⟩)
        have hcx : @Ne Nat (gr.xd e) c := (S.apart.2.1 e).1
        have hcl : ckv.length ≤ 20 := by rw [S.count]; exact Nat.le_trans List.countP_le_length (by decide)
        have hcn : valueAt ckv (ckv.length : Int) = none := valueAt_none fun q hq => by have := S.keys q hq; omega
        simp only [List.cons_append, List.nil_append] at Nr
        w_strict (iterate 14 (first | (k_unfold; (try dsimp only)) | (k_end; wrow_close) | walk1 | (dsimp only; walk1) | (leave1; walk_say "STEP leave1"; try dsimp only) | fail "no step"))
        refine Mine.for_tup (vs := []) (ep := 0) rfl (fun _ m' n' => m' = _ ∧ n' = _) (by assumption) (by assumption) ⟨rfl, rfl⟩ ?ht ?turn ?done
        case ht => rintro i m' n' ⟨-, rfl⟩; exact List.Mem.head _
        case turn => intro i x it o h tk m' n' hx; simp at hx
        case done =>
          rintro h9 tk9 m9 n9 ⟨rfl, rfl⟩ F9 N9
          w_strict (k_sweep; repeat' (first | (k_unfold; (try dsimp only)) | (k_end; wrow_close) | walk1 | (dsimp only; walk1) | (leave1; walk_say "STEP leave1"; try dsimp only) | fail "no step"))
          with_reducible rename News _ _ _ _ => Nf
          with_reducible rename Fr _ _ _ _ => Ff
          dsimp only at Nf ⊢
          exact pro_newA (o := none) S hrow hfn hoc (dict_cls hocd) hxd rfl hrin Ff mcM_new Nf (by simp) (by assumption) (by assumption) (by assumption) (by assumption)
      · obtain ⟨hh, kk, t, vs, ep, hxd, ht, hpi, hvn⟩ := hps
        rw [hrow] at hr
        obtain ⟨rest, Nr, hrs, hro, hrin, hrall⟩ := relist N1 [(c, oc), (gr.xd e, dictOf [⟨hh, .str (Str.ofString "oids") kk, .ref t⟩] 1)] (by simp [hoc, hxd])
        have hrc : ∀ q ∈ rest, q.1 ≠ c := hro (c, oc) (by simp)
        have hrx : ∀ q ∈ rest, q.1 ≠ gr.xd e := hro (gr.xd e, dictOf [⟨hh, .str (Str.ofString "oids") kk, .ref t⟩] 1) (by simp)
        have nd : ∀ q ∈ news, q.2.cls ≠ .type "dict" → q ∈ rest := fun q hq hc => hrin q hq (by
          simp only [List.mem_cons, List.not_mem_nil, or_false, forall_eq_or_imp, forall_eq]
          exact ⟨Mine.News.ne N1 (o := q.2) hq hoc (by rw [dict_cls hocd]; exact hc), Mine.News.ne N1 (o := q.2) hq hxd hc⟩)
        have hir : (gr.xa e, ({ cls := .ref 489, dict := some (gr.xd e), data := .plain, slots := #[sl1, sl2, sl3, sl4, some (.str (Str.ofString "") sltk)] } : Obj)) ∈ rest := nd _ hin (ref_nd _)
        have htr : (t, tupO vs ep) ∈ rest := nd _ ht tup_nd
        have hcx : @Ne Nat (gr.xd e) c := (S.apart.2.1 e).1
        have hcl : ckv.length ≤ 20 := by rw [S.count]; exact Nat.le_trans List.countP_le_length (by decide)
        have hcn : valueAt ckv (ckv.length : Int) = none := valueAt_none fun q hq => by have := S.keys q hq; omega
        simp only [List.cons_append, List.nil_append] at Nr
        have hvl : vs.length ≤ 100 := by rw [hpi.length]; have := hr.1; omega
        w_strict (iterate 14 (first | (k_unfold; (try dsimp only)) | (k_end; wrow_close) | walk1 | (dsimp only; walk1) | (leave1; walk_say "STEP leave1"; try dsimp only) | fail "no step"))
        refine Mine.for_tup (vs := vs) (ep := ep) rfl (fun _ m' n' => (∃ o ev, m' = (fun y => if y = Str.ofString "expr_cache" then ev else if y = Str.ofString "oid" then o else mcM (gr.xa e) text tt p tp c er y)) ∧ n' = _) (by assumption) (by assumption) ⟨⟨none, none, mcM_0⟩, rfl⟩ ?ht ?turn ?done
        case ht => rintro i m' n' ⟨-, rfl⟩; simp [htr]
        case turn =>
          rintro i x it o h tk m' n' hx ⟨⟨o1, ev, rfl⟩, rfl⟩ F9 N9 hoi off
          obtain ⟨pa, ptk, pep, pi, pe, rfl, hpm, hps⟩ := hpi.get i x hx
          have hpr := nd _ hpm tup_nd
          cases hv : valueAt ckv pi with
          | none =>
            w_strict (k_sweep; repeat' (first | (k_unfold; (try dsimp only)) | (k_end; wrow_close) | walk1 | (dsimp only; walk1) | (leave1; walk_say "STEP leave1"; try dsimp only) | fail "no step"))
            with_reducible rename News _ _ _ _ => Nf
            with_reducible rename Fr _ _ _ _ => Ff
            exact ⟨_, _, _, _, rfl, Ff, Nf, off, ⟨_, _, mcM_turn⟩, rfl⟩
          | some v =>
            obtain ⟨e1, a', kv1, rfl, hr1⟩ := S.refs _ (valueAt_mem hv)
            have hne : a' ≠ pe := fun z => hr.2 (pi, pe) hps _ (valueAt_mem hv) (by rw [z])
            obtain ⟨oa, hoa, hoad, -⟩ := (S.rowAt hr1).1
            have hoa' := hrall _ hoa
            have hoac : oa.cls ≠ .type "tuple" := by rw [dict_cls hoad]; decide
            obtain ⟨ob, hob⟩ := PairsIn.dom hpi _ hps
            have hob' := hrall _ hob
            simp only [List.cons_append, List.nil_append] at hoa' hob'
            w_strict (k_sweep; repeat' (first | (k_unfold; (try dsimp only)) | (k_end; wrow_close) | walk1 | (dsimp only; walk1) | (leave1; walk_say "STEP leave1"; try dsimp only) | fail "no step"))
            with_reducible rename News _ _ _ _ => Nf
            with_reducible rename Fr _ _ _ _ => Ff
            exact ⟨_, _, _, _, rfl, Ff, Nf, off, ⟨_, _, mcM_turn⟩, rfl⟩
        case done =>
          rintro h9 tk9 m9 n9 ⟨⟨o1, ev, rfl⟩, rfl⟩ F9 N9
          w_strict (k_sweep; repeat' (first | (k_unfold; (try dsimp only)) | (k_end; wrow_close) | walk1 | (dsimp only; walk1) | (leave1; walk_say "STEP leave1"; try dsimp only) | fail "no step"))
          with_reducible rename News _ _ _ _ => Nf
          with_reducible rename Fr _ _ _ _ => Ff
          dsimp only at Nf ⊢
          exact pro_newB (x0 := oc) S hrow hfn hoc (dict_cls hocd) hxd rfl hrin Ff mcM_done Nf rfl hpi hr.1 (by simp) (by assumption) (by assumption) (by assumption) (by assumption)
    | some r =>
      obtain ⟨ci, ec, kv⟩ := r
      rw [hrow] at hr
      obtain ⟨⟨⟨tl, rfl⟩, hpl⟩, hva, -⟩ := hr
      rcases hps with ⟨hps, -⟩ | ⟨hh, kk, t, vs, ep, hxd, ht, hpi, hvn⟩
      · cases hps
      obtain ⟨oec, hec, hecd, -⟩ := (S.rowAt hrow).1
      have hvl : vs.length ≤ 100 := by rw [hpi.length]; omega
      w_strict (iterate 14 (first | (k_unfold; (try dsimp only)) | (k_end; wrow_close) | walk1 | (dsimp only; walk1) | (leave1; walk_say "STEP leave1"; try dsimp only) | fail "no step"))
      refine Mine.for_tup (vs := vs) (ep := ep) rfl (fun i m' n' => i = 0 ∧ m' = mcM (gr.xa e) text tt p tp c er ∧ n' = _) (by assumption) (by assumption) ⟨rfl, rfl, rfl⟩ ?ht ?turn ?done
      case ht => rintro i m' n' ⟨-, -, rfl⟩; exact List.mem_cons_of_mem _ ht
      case done => rintro h9 tk9 m9 n9 ⟨h, -, -⟩; exact absurd (List.eq_nil_of_length_eq_zero h) hvn
      case turn =>
        rintro i x it o h tk m' n' hx ⟨rfl, rfl, rfl⟩ F9 N9 hoi off
        obtain ⟨v0, vs', rfl⟩ := List.exists_cons_of_ne_nil hvn
        simp at hx
        subst hx
        obtain ⟨⟨pa, ptk, pep, rfl, hpm, -⟩, -⟩ := hpi
        w_strict (k_sweep; repeat' (first | (k_unfold; (try dsimp only)) | (k_end; wrow_close) | walk1 | (dsimp only; walk1) | (leave1; walk_say "STEP leave1"; try dsimp only) | fail "no step"))
        with_reducible rename News _ _ _ _ => Nf
        with_reducible rename Fr _ _ _ _ => Ff
        dsimp only
        exact pro_hit (S.mono fun q hq => by simp [hq]) (Keep.of_sub fun q hq => by simp [hq]) hrow Ff Nf rfl
  case rest =>
    rintro f s₂ ⟨rfl, h2, tk2, o2, ec, oe, ckv1, rows1, i1, kv1, rest1, rfl, F2, N2, off2, hrow1, hoed, hes, S1, K1, G1, hkeys⟩
    dsimp only
    have hnk1 : valueAt kv1 p = none := valueAt_none fun q hq hp => hnk (by rw [← hkeys]; exact ⟨i1, ec, kv1, q.2, hrow1, hp ▸ hq⟩)
    have hkr := (S1.off e i1 ec kv1 hrow1).2.2.2
    have hkl : kv1.length ≤ 13 := dict_len hoed hkr
    have hoc1 := dict_cls hoed
    have in1 : (gr.xa e, ({ cls := .ref 489, dict := some (gr.xd e), data := .plain, slots := #[sl1, sl2, sl3, sl4, some (.str (Str.ofString "") sltk)] } : Obj)) ∈ rest1 := nd_row N2 hoc1 (K1.same _ hin (ref_nd _)) (ref_nd _)
    obtain ⟨es, en, hxd, hum, -⟩ := own_dict S1 e
    replace hxd := mem_rest hxd ((S1.off e i1 ec kv1 hrow1).2.2.1 e).symm
    have hnk2 : (valueAt kv1 p).isSome = false := by rw [hnk1]; rfl
    have hfn2 : ∀ a o o', (a, o) ∈ (ec, oe) :: rest1 → (a, o') ∈ (ec, oe) :: rest1 → o = o' := fun a o o' x y => Mine.News.fn N2 x y
    w_strict (k_sweep; iterate 31 (first | (k_unfold; (try dsimp only)) | (k_end; wrow_close) | walk1 | (dsimp only; walk1) | (leave1; walk_say "STEP leave1"; try dsimp only) | fail "no step"))
    with_reducible rename News _ _ _ _ => N3
    with_reducible rename Fr _ _ _ _ => F3
    rename Obj.IsDictOf _ _ (kv1 ++ _) => hd3
    obtain ⟨S3, K3⟩ := row_put S1 hrow1 hoc1 hd3 (by
        intro q hq
        rcases List.mem_append.mp hq with h | h
        · exact hkr q h
        · rw [List.mem_singleton.mp h]; exact ⟨hp0, hp1⟩)
    replace K3 := K1.trans K3
    have G3 := G1.trans (grow_row hrow1 (kv' := kv1 ++ [(p, .ref 251)]) fun k ⟨v, hv⟩ => ⟨v, List.mem_append_left _ hv⟩)
    have hk3 := keys_put (p := p) (v := .ref 251) hrow1
    rw [hkeys] at hk3
    refine Spec.use B1 F3 X1 N3 T1 rfl (hU _ _) ⟨S3, ST.keep K3, hk3 ▸ hup⟩ (by ktr_room) (by ktr_units) ?_
    rintro r news4 h4 tk4 F4 N4 ⟨ckv4, rows4, res, S4, K4, G4, hres, hur⟩
    rw [hk3] at hur
    obtain ⟨kv4, hrow4, hkv4⟩ := G4 e i1 ec _ (if_pos rfl)
    have hhas : (valueAt kv4 p).isSome = true := valueAt_isSome (hkv4 p ⟨_, List.mem_append_right _ (.head _)⟩)
    obtain ⟨⟨oe4, hde4, hoe4, -⟩, -⟩ := S4.rowAt hrow4
    obtain ⟨rest4, N5, off5, sub5⟩ := front N4 hde4
    have hoc4 := dict_cls hoe4
    have K5 := (K3.trans K4).trans (Keep.of_sub sub5)
    have S5 := S4.mono sub5
    have ST5 := ST.keep K5
    have hkr5 := (S5.off e i1 ec kv4 hrow4).2.2.2
    have hkl5 : kv4.length ≤ 13 := dict_len hoe4 hkr5
    have hfn5 : ∀ a o o', (a, o) ∈ (ec, oe4) :: rest4 → (a, o') ∈ (ec, oe4) :: rest4 → o = o' := fun a o o' x y => Mine.News.fn N5 x y
    have in5 : (gr.xa e, ({ cls := .ref 489, dict := some (gr.xd e), data := .plain, slots := #[sl1, sl2, sl3, sl4, some (.str (Str.ofString "") sltk)] } : Obj)) ∈ rest4 := nd_row N5 hoc4 (K5.same _ hin (ref_nd _)) (ref_nd _)
    obtain ⟨vse, sle, her⟩ := ST5.err
    replace her := nd_row N5 hoc4 her (ref_nd _)
    obtain ⟨hh1, hh2, hh3, kk1, kk2, kk3, ettt, epos, et, ev, hed, hep0, hep1, hev⟩ := S5.err
    replace hed := mem_rest hed ((S5.off e i1 ec kv4 hrow4).2.1).symm
    obtain ⟨es5, en5, hxd5, -⟩ := own_dict S5 e
    replace hxd5 := mem_rest hxd5 ((S5.off e i1 ec kv4 hrow4).2.2.1 e).symm
    clear N4 hde4
    cases res with
    | some T0 =>
      cases hres with
      | @mk na nl nd nod ne ns nt nts ntt ntx nvs ncs nep hn1 hn2 hn3 hn4 hn5 hn8 hn6 hn7 =>
      have hn1' := nd_row N5 hoc4 (sub5 _ hn1) (ref_nd _)
      w_strict (repeat' (first | (k_unfold; (try dsimp only)) | (k_end; wrow_close) | walk1 | (dsimp only; walk1) | (leave1; walk_say "STEP leave1"; try dsimp only) | fail "no step"))
      with_reducible rename News _ _ _ _ => N9
      with_reducible rename Fr _ _ _ _ => F9
      rename Obj.IsDictOf _ _ (List.map _ _) => hd9
      obtain ⟨S9, K9⟩ := row_map S5 hrow4 hoc4 hd9
      have hk9 := keys_map (p := p) (v := .ref na) hrow4
      refine hret _ _ _ _ F9 N9 ⟨_, _, some (.node ne ns nt ncs), S9, K5.trans K9, G3.trans (G4.trans (grow_row hrow4 (map_keys))), ?_, ?_⟩
      · exact IsT.keep ((Keep.of_sub sub5).trans K9) (IsT.le K3.at (.mk hn1 hn2 hn3 hn4 hn5 hn8 hn6 hn7))
      · rw [hk9]; exact hur
    | none =>
      cases hres
      obtain ⟨rest6, N6, hrs6, hro6, hrin6, hrall6⟩ := relist N5 [(ec, oe4), (ed, dictOf [⟨hh1, .str (Str.ofString "text") kk1, .str text ettt⟩, ⟨hh2, .str (Str.ofString "pos") kk2, .int epos et⟩, ⟨hh3, .str (Str.ofString "expr") kk3, ev⟩] 3)] (by simp [hed])
      have nd6 : ∀ q ∈ rest4, q.2.cls ≠ .type "dict" → q ∈ rest6 := fun q hq hc => hrin6 q (.tail _ hq) (by
        simp only [List.mem_cons, List.not_mem_nil, or_false, forall_eq_or_imp, forall_eq]
        exact ⟨off5 q hq, Mine.News.ne N5 (o := q.2) (.tail _ hq) (.tail _ hed) hc⟩)
      simp only [List.cons_append, List.nil_append] at N6 hrall6
      have in6 := nd6 _ in5 (ref_nd _)
      have her6 := nd6 _ her (ref_nd _)
      have xd6 : ∀ e' o, (gr.xd e', o) ∈ (ec, oe4) :: rest4 → (gr.xd e', o) ∈ rest6 := fun e' o h => hrin6 _ h (by
        simp only [List.mem_cons, List.not_mem_nil, or_false, forall_eq_or_imp, forall_eq]
        exact ⟨((S5.off e i1 ec kv4 hrow4).2.2.1 e').symm, (S5.apart.2.1 e').2⟩)
      have hxd6 := xd6 e _ (.tail _ hxd5)
      have S6 := S5.mono hrall6
      have K6 := K5.trans (Keep.of_sub hrall6)
      have hce6 : @Ne Nat ec ed := (S5.off e i1 ec kv4 hrow4).2.1
      have hoff6 : ∀ q ∈ rest6, q.1 ≠ ec := hro6 (ec, oe4) (by simp)
      have hofd6 : ∀ q ∈ rest6, q.1 ≠ ed := fun q hq => hro6 (ed, _) (List.mem_cons_of_mem _ (List.mem_singleton.mpr rfl)) q hq
      clear N5 hed in5 her hxd5 off5
      rcases hev with rfl | ⟨e9, rfl⟩
      · w_strict (repeat' (first | (k_unfold; (try dsimp only)) | (k_end; wrow_close) | walk1 | (dsimp only; walk1) | (leave1; walk_say "STEP leave1"; try dsimp only) | fail "no step"))
        · with_reducible rename News _ _ _ _ => N9
          with_reducible rename Fr _ _ _ _ => F9
          rename Obj.IsDictOf _ _ (List.map _ _) => hd9
          obtain ⟨S9, K9⟩ := row_map S6 hrow4 hoc4 hd9
          have hk9 := keys_map (p := p) (v := .none) hrow4
          obtain ⟨S9', K9'⟩ := err_put (o' := dictOf [⟨hh1, .str (Str.ofString "text") kk1, .str text ettt⟩, ⟨hh2, .str (Str.ofString "pos") kk2, .int p tp⟩, ⟨hh3, .str (Str.ofString "expr") kk3, .ref (gr.xa e)⟩] 3) S9 rfl rfl
            ⟨hh1, hh2, hh3, kk1, kk2, kk3, ettt, p, tp, .ref (gr.xa e), by simp, by omega, by omega, .inr ⟨e, rfl⟩⟩
          exact hret _ _ _ _ F9 N9 ⟨_, _, none, S9', K6.trans (K9.trans K9'), G3.trans (G4.trans (grow_row hrow4 map_keys)), rfl, hk9 ▸ hur⟩
        · with_reducible rename News _ _ _ _ => N9
          with_reducible rename Fr _ _ _ _ => F9
          rename Obj.IsDictOf _ _ (List.map _ _) => hd9
          obtain ⟨S9, K9⟩ := row_map S6 hrow4 hoc4 hd9
          have hk9 := keys_map (p := p) (v := .none) hrow4
          exact hret _ _ _ _ F9 N9 ⟨_, _, none, S9, K6.trans K9, G3.trans (G4.trans (grow_row hrow4 map_keys)), rfl, hk9 ▸ hur⟩
      · obtain ⟨sl9, hi9, hn9, -⟩ := ST5.inst e9
        have hi9' := nd6 _ (nd_row (Mine.News.sub N6 hrall6) hoc4 hi9 (ref_nd _)) (ref_nd _)
        obtain ⟨o9, ho9⟩ := S5.xdAt e9
        replace ho9 := xd6 e9 _ ho9
        w_strict (repeat' (first | (k_unfold; (try dsimp only)) | (k_end; wrow_close) | walk1 | (dsimp only; walk1) | (leave1; walk_say "STEP leave1"; try dsimp only) | fail "no step"))
        all_goals
          with_reducible rename News _ _ _ _ => N9
          with_reducible rename Fr _ _ _ _ => F9
          rename Obj.IsDictOf _ _ (List.map _ _) => hd9
          obtain ⟨S9, K9⟩ := row_map S6 hrow4 hoc4 hd9
          have hk9 := keys_map (p := p) (v := .none) hrow4
          exact hret _ _ _ _ F9 N9 ⟨_, _, none, S9, K6.trans K9, G3.trans (G4.trans (grow_row hrow4 map_keys)), rfl, hk9 ▸ hur⟩
end Mine
end

section
-- part UnLit
open PySem PySem.Spec PySem.Calls PySem.W PyProof.Rows
local macro_rules | `(tactic| k_room) => `(tactic| ktr_room)
local macro_rules | `(tactic| k_all) => `(tactic| exact allNe_of' (by assumption) (by omega))
local macro_rules | `(tactic| k_all) => `(tactic| ((with_reducible rename AllLt _ _ => hAllLt); exact allNe_of hAllLt (by omega)))
local macro_rules | `(tactic| k_all) => `(tactic| assumption)
local macro_rules | `(tactic| k_mem) => `(tactic| first | exact List.Mem.head _ | (refine' List.mem_cons_of_mem _ ?_; k_mem))
local macro_rules | `(tactic| walk_at "call builtin:getattr") => `(tactic| (k_here; k_dflt (refine' Mine.oids_miss ?hA ?k1 ?k2 ?k3 ?k4 ?k5 ?k6 ?k7 ?k8 ?k9 ?k10 ?k11 ?k12 ?_; (case hA => exact rfl); (case k1 => k_asm); (case k2 => k_asm); (case k3 => k_asm); (case k4 => k_inst); (case k5 => k_is); (case k6 => k_is); (case k7 => k_is); (case k8 => k_is); (case k9 => k_is); (case k10 => decide +kernel); (case k11 => decide +kernel); (case k12 => k_get); k_whole); intro h' tk' F' N'; (try k_sweep)))
local macro_rules | `(tactic| walk_at "call builtin:getattr") => `(tactic| (k_here; k_dflt (refine' Mine.oids_hit ?k1 ?k2 ?k4 ?k5 ?k6 ?k7 ?k8 ?k12 ?k13 ?_; (case k1 => k_asm); (case k2 => k_asm); (case k4 => k_inst); (case k5 => k_is); (case k6 => k_is); (case k7 => k_is); (case k8 => k_is); (case k12 => k_get); (case k13 => k_handed); k_whole)))
local macro_rules | `(tactic| walk_at "exec For Tuple Call") => `(tactic| refine wpAny_For ?_)
local macro_rules | `(tactic| walk_at "call builtin:len") => `(tactic| (k_here; (with_reducible show wpAny _ _ (call (Value.builtin "len") [Value.ref _]) _ _ _); k_dflt (refine kda_len (knd := PySem.intKind _ _) (by k_asm) (by k_mem) (by assumption) (by assumption) (by first | omega | (simp only [List.length_append, List.length_cons, List.length_nil]; omega)) ?_)))
local macro_rules | `(tactic| walk_at "setItem ref int") => `(tactic| (k_here; k_dflt (refine' Mine.set_new ?F ?N ?U ?d ?z ?v ?_; (case F => k_asm); (case N => k_asm); (case U => k_updF); (case d => assumption); (case z => (try simp only [List.length_append, List.length_cons, List.length_nil]); omega); (case v => assumption)); intro h' o' F' N' hd'; (try dsimp only at N'); (try k_sweep)))
local macro_rules | `(tactic| walk_at "getMethod ref") => `(tactic| (k_here; (with_reducible show wpAny _ _ (getMethod (Value.ref _) (Str.ofString "get") _) _ _ _); k_dflt (refine kdg_method (knd := PySem.intKind _ _) (by k_asm) (by k_mem) (by assumption) ?_)))
local macro_rules | `(tactic| walk_at "call builtin:dict.get") => `(tactic| (k_here; k_dflt (refine kdg_get1 (knd := PySem.intKind _ _) (by k_asm) (by k_mem) (by assumption) (by assumption) (intKind_is _ _ _ _) _ (by first | assumption | rfl) ?_); (try dsimp only [Option.getD])))
local macro_rules | `(tactic| walk_at "compareOp In int ref") => `(tactic| (k_here; k_dflt (refine kda_in (knd := PySem.intKind _ _) (by k_asm) (by k_mem) (by assumption) (by assumption) (intKind_is _ _ _ _) _ (by first | assumption | rfl) ?_)))
local macro_rules | `(tactic| walk_at "compareOp Is ref ref") => `(tactic| (k_here; k_dflt (refine' wpAny_is_ref_other ?ne ?x ?y ?n ?_; (case ne => assumption); (case x => (exact (PyProof.Rows.News.get (by k_asm) (by k_mem)))); (case y => (exact (PyProof.Rows.News.get (by k_asm) (by k_mem)))); (case n => assumption))))
local macro_rules | `(tactic| walk_at "binaryOp Add ref ref") => `(tactic| (k_here; k_dflt (refine' kde_addT ?k1 ?k2 ?k3 ?k4 ?k5 ?k6 ?k7 ?k8 ?_; (case k1 => k_asm); (case k2 => k_asm); (case k3 => exact PyProof.Rows.News.isTup (by k_asm) (by k_mem)); (case k4 => exact PyProof.Rows.News.isTup (by k_asm) (by k_mem)); (case k5 => exact List.cons_ne_nil _ _); (case k6 => assumption); (case k7 => (simp only [List.length_cons, List.length_nil]; omega)); (case k8 => exact rfl); k_whole); intro D' h' F' N' l1; (try k_lt l1); (try k_sweep)))
local macro_rules | `(tactic| walk_at "getMethod ref") => `(tactic| (k_here; k_dflt (refine' method_inst ?k1 ?k2 ?k3 ?k4 ?k5 ?k6 ?k7 ?_; (case k1 => k_asm); (case k2 => k_asm); (case k3 => k_inst); (case k4 => k_is); (case k5 => k_is); (case k6 => k_is); (case k7 => assumption); k_whole)))
local macro_rules | `(tactic| walk_at "setItem ref int") => `(tactic| (k_here; k_dflt (refine' Mine.set_old ?F ?N ?U ?d ?z ?v ?_; (case F => k_asm); (case N => k_asm); (case U => k_updF); (case d => assumption); (case z => omega); (case v => assumption)); intro h' o' F' N' hd'; (try dsimp only at N'); (try k_sweep)))
local macro_rules | `(tactic| k_inst) => `(tactic| (refine' Mine.InstAt.of_newsF ?N ?h1 ?h2; (case N => k_asm); (case h1 => k_mem); (case h2 => k_mem)))
local macro_rules | `(tactic| walk_at "getAttr ref") => `(tactic| (k_here; k_dflt (refine' Mine.get_exc ?k1 ?k2 ?k3 ?k4 ?k5 ?k6 ?k7 ?k8 ?k9 ?k10 ?_; (case k1 => k_asm); (case k2 => k_asm); (case k3 => k_inst); (case k4 => k_is); (case k5 => k_is); (case k6 => k_is); (case k7 => k_is); (case k8 => k_is); (case k9 => k_get); (case k10 => k_handed); k_whole)))
local macro_rules | `(tactic| walk_at "setAttr ref") => `(tactic| (k_here; k_dflt (refine' Mine.set_exc ?k1 ?k2 ?k3 ?k4 ?k5 ?k6 ?k7 ?k8 ?k9 ?k10 ?k11 ?k12 ?k13 ?k14 ?k15 ?_; (case k1 => k_asm); (case k2 => k_asm); (case k3 => k_asm); (case k4 => k_inst); (case k5 => exact rfl); (case k6 => k_is); (case k7 => k_is); (case k8 => (intro self; (try dsimp only); (repeat rw [refuseLoop_ref]); exact PySem.F.store_Exception.passes self)); (case k9 => k_is); (case k10 => exact rfl); (case k11 => k_is); (case k12 => k_get); (case k13 => k_put); (case k14 => k_upd); (case k15 => exact Nat.le_of_ble_eq_true rfl); k_whole); intro h' F' N'; (try k_sweep)))
local macro_rules | `(tactic| walk_at "call builtin:getattr") => `(tactic| (k_here; k_dflt (refine' Mine.none_name ?hA ?k1 ?k2 ?_; (case hA => exact rfl); (case k1 => k_asm); (case k2 => k_asm)); intro h' tk' F' N'; (try k_sweep)))
local macro_rules | `(tactic| walk_at "call builtin:getattr") => `(tactic| (k_here; k_dflt (refine' Mine.name3 ?k1 ?k2 ?k3 _ ?k4 ?k5 ?k6 ?_; (case k1 => k_asm); (case k2 => k_asm); (case k3 => k_asm); (case k4 => k_mem); (case k5 => k_mem); (case k6 => assumption)); intro nt'))
local macro_rules | `(tactic| walk_at "eval Name") => `(tactic| (k_here; k_dflt (refine' ld ?k1 ?k2 ?_; (case k1 => k_asm); (case k2 => first | exact rfl | assumption); k_whole)))
local macro_rules | `(tactic| walk_at "call builtin:list.append") => `(tactic| (k_here; (show wpAny _ _ (call (Value.builtin _) [Value.ref _, _]) _ _ _); k_dflt (refine' append_K ?k1 ?k2 ?k3 ?_ ?z; (case k1 => k_asm); (case k2 => k_asm); (case k3 => k_upd); (case z => (rw [sizeLine_eq]; simp only [List.size_toArray]; omega)); k_whole); intro h' F' N'; (try k_sweep)))
local macro_rules | `(tactic| walk_at "getMethod ref") => `(tactic| (k_here; (with_reducible show wpAny _ _ (getMethod (Value.ref _) (Str.ofString "match_core") _) _ _ _); k_dflt (refine' Mine.core_method ?k1 ?k2 ?k3 _ ?k4 ?k5 ?k6 ?_; (case k1 => k_asm); (case k2 => k_asm); (case k3 => k_asm); (case k4 => k_mem); (case k5 => k_mem); (case k6 => assumption))))
local macro_rules | `(tactic| walk_at "loadName") => `(tactic| (refine' ldn ?k1 ?k2 ?_; (case k1 => assumption); (case k2 => first | exact rfl | assumption)))
local macro_rules | `(tactic| k_all) => `(tactic| first | exact Mine.allNe_c1 (by assumption) (by omega) | exact Mine.allNe_c2 (by assumption) (by omega) | exact Mine.allNe_c3 (by assumption) (by omega) | exact Mine.allNe_c4 (by assumption) (by omega) | exact Mine.allNe_c5 (by assumption) (by omega) | exact Mine.allNe_c6 (by assumption) (by omega) | exact Mine.allNe_c7 (by assumption) (by omega) | exact Mine.allNe_c8 (by assumption) (by omega))
local macro_rules | `(tactic| walk_at "truthy ref") => `(tactic| (k_here; (with_reducible show wpAny _ _ (truthy (Value.ref _)) _ _ _); k_dflt (refine' Mine.truthy_lst ?N ?m ?z ?b ?_; (case N => k_asm); (case m => k_mem); (case z => first | omega | (simp only [List.length_cons, List.length_nil]; omega)); (case b => first | assumption | exact (show _ = true from rfl) | exact (show _ = false from rfl)))))
local macro_rules | `(tactic| walk_at "compareOp Lt int float") => `(tactic| refine Mine.inf_lt ?_)
local macro_rules | `(tactic| walk_at "call builtin:len") => `(tactic| (k_here; (with_reducible show wpAny _ _ (call (Value.builtin "len") [Value.ref _]) _ _ _); k_dflt (refine' Mine.len_lst ?N ?m ?z ?_; (case N => k_asm); (case m => k_mem); (case z => first | omega | (simp only [List.length_cons, List.length_nil]; omega)))))
local macro_rules | `(tactic| walk_at "call ref") => `(tactic| (k_here; (with_reducible show wpAny _ _ (call (Value.ref 87) _) _ _ _); k_dflt (refine' Mine.call_exc ?F ?X ?N ?hC ?hB ?hA ?hN ?hi ?hf ?hself ?hz ?_; (case F => k_asm); (case X => k_asm); (case N => k_asm); (case hC => k_is); (case hB => decide +kernel); (case hA => decide +kernel); (case hN => decide +kernel); (case hi => k_is); (case hf => k_is); (case hself => k_is); (case hz => exact Nat.le_of_ble_eq_true rfl); k_whole); intro x' t' h' F' N' l1 l2; (try k_lt l1); (try k_lt2 l2); (try k_sweep); k_enter))
local macro_rules | `(tactic| walk_at "call ref") => `(tactic| (k_here; (with_reducible show wpAny _ _ (call (Value.ref 125) _) _ _ _); k_dflt (refine' Mine.call_exc ?F ?X ?N ?hC ?hB ?hA ?hN ?hi ?hf ?hself ?hz ?_; (case F => k_asm); (case X => k_asm); (case N => k_asm); (case hC => k_is); (case hB => decide +kernel); (case hA => decide +kernel); (case hN => decide +kernel); (case hi => k_is); (case hf => k_is); (case hself => k_is); (case hz => exact Nat.le_of_ble_eq_true rfl); k_whole); intro x' t' h' F' N' l1 l2; (try k_lt l1); (try k_lt2 l2); (try k_sweep); k_enter))
local macro_rules | `(tactic| walk_at "setAttr ref") => `(tactic| (k_here; k_dflt (refine' Mine.set_exc0 ?F ?X ?N ?hx ?hs ?hc ?hp ?hm ?hD ?ha ?_; (case F => k_asm); (case X => k_asm); (case N => k_asm); (case hx => k_all); (case hs => k_is); (case hc => k_is); (case hp => (intro self; (try dsimp only); (repeat rw [refuseLoop_ref]); exact PySem.F.store_Exception.passes self)); (case hm => k_is); (case hD => exact rfl); (case ha => k_is); k_whole); intro d' h' F' N' l1; (try k_lt l1); (try k_sweep)))
namespace Mine
theorem lit_inst {gr : Gr} {news : Led} {e : Ex} (hnq : e = .uA ∨ e = .uB ∨ e = .lA ∨ e = .lB) {er ed : Addr} (ST : Stat gr er ed news) :
    ∃ tk b c, (gr.xa e, ({ cls := .ref 367, dict := some (gr.xd e), data := .plain, slots := #[some (.str e.lit tk), b, c] } : Obj)) ∈ news := by
  obtain ⟨sl, h1, -, h2⟩ := ST.inst e
  rcases hnq with rfl | rfl | rfl | rfl <;> (obtain ⟨tk, b, c, rfl⟩ := h2; exact ⟨tk, b, c, h1⟩)

theorem un_lit {w : World} {mean : ExcName → Option Value} {mg mb : Str → Option Value} {gr : Gr} {c er ed : Addr} {text : Str} {e : Ex} {p : Int} {tt tp : Tok} {R : Nat}
    (hnq : e = .uA ∨ e = .uB ∨ e = .lA ∨ e = .lB) (hp0 : 0 ≤ p) (hp1 : p ≤ 12) (htx : text.length ≤ 12) (ckv : KV) (rows : Rows) :
    Spec w mean mg mb 356 [.ref (gr.xa e), .str text tt, .int p tp, .ref c, .ref er] 12 60
      (fun news => St w R gr c ed text news ckv rows ∧ Stat gr er ed news)
      (fun news r news' => ∃ ckv' rows' res, St w R gr c ed text news' ckv' rows' ∧ Keep news news' ∧ Grow rows rows' ∧ ResOk gr text news news' r res ∧ (rows' = rows ∧ res = litRes e text p)) := by
  intro dp un gd cn cs a ccd cl outer A₀ base h₀ L m news s Q E B F X N T hk hPre hdd huu hret
  obtain ⟨S, ST⟩ := hPre
  obtain ⟨ltk, lb, lc, hin⟩ := lit_inst hnq ST
  have hl1 : e.lit.length = 1 := by rcases hnq with rfl | rfl | rfl | rfl <;> rfl
  obtain ⟨lt, hlt⟩ : ∃ lt, lt = e.lit := ⟨_, rfl⟩
  rw [← hlt] at hin hl1
  obtain ⟨es, en, hxd, hum, -⟩ := own_dict S e
  w_top off; w_on
  refine wpAny_call ?_
  w_strict (k_dflt (refine' code_def ?k1 ?k2 ?k3 ?k4 ?k5 ?kA ?kF ?kK ?k6 ?k7 ?k8 ?k9 ?kB ?_ ?c2 ?c3 ?c4 ?c5; (case kA => exact rfl); (case kF => exact rfl); (case kK => assumption); (case k1 => k_asm); (case k2 => k_asm); (case k3 => k_asm); (case k4 => k_asm); (case k5 => k_asm); (case k6 => k_is); (case k7 => k_is); (case k8 => ktr_room); (case k9 => exact BindsTo.of_eq rfl); (case c5 => decide); (case kB => exact locs rfl); (case c2 => exact rfl); (case c3 => exact rfl); (case c4 => exact rfl); k_whole); intro g1 L1 h1 FG1 F1 N1 B1 X1 T1; (try dsimp only); (try k_fold))
  w_strict (repeat' (first | (k_unfold; (try dsimp only)) | (k_end; wrow_close) | walk1 | (dsimp only; walk1) | (leave1; walk_say "STEP leave1"; try dsimp only) | fail "no step"))
  · with_reducible rename News _ _ _ _ => N9
    with_reducible rename Fr _ _ _ _ => F9
    rename Txt.startswith3 _ _ _ = true => hsw
    rename ∀ p ∈ news, p.1 < _ => hl0
    rename _ < _ ∧ _ < _ ∧ AllLt _ _ => hl9
    rename _ < _ => hlx
    rw [hl1] at N9
    refine hret _ _ _ _ F9 N9 ⟨_, _, some (.node e p (p + 1) []), S.mono fun q hq => by simp [hq], Keep.of_sub fun q hq => by simp [hq], Grow.refl _, ?_, rfl, ?_⟩
    · refine IsT.mk (vs := []) (ep := 0) (.tail _ (.head _)) (.tail _ (.tail _ (.head _))) (.head _) ?_ ?_ (fun q hq => Nat.ne_of_lt (hl0 q hq)) (by simp) .nil
      · intro q hq; have := hl0 q hq; exact Nat.ne_of_lt (Nat.lt_trans this hlx)
      · intro q hq; exact Nat.ne_of_lt (ktn_ltOf hl9.2.2 q hq)
    · unfold litRes; rw [← hlt, if_pos hsw]
  · with_reducible rename News _ _ _ _ => N9
    with_reducible rename Fr _ _ _ _ => F9
    rename Txt.startswith3 _ _ _ = false => hsw
    refine hret _ _ _ _ F9 N9 ⟨_, _, none, S, Keep.refl _, Grow.refl _, rfl, rfl, ?_⟩
    unfold litRes; rw [← hlt, if_neg (by rw [hsw]; exact Bool.false_ne_true)]
end Mine
end

section
-- part UnSeq
open PySem PySem.Spec PySem.Calls PySem.W PyProof.Rows
local macro_rules | `(tactic| walk_at "pad of mine") => `(tactic| fail)
local macro_rules | `(tactic| k_room) => `(tactic| ktr_room)
local macro_rules | `(tactic| k_all) => `(tactic| exact allNe_of' (by assumption) (by omega))
local macro_rules | `(tactic| k_all) => `(tactic| ((with_reducible rename AllLt _ _ => hAllLt); exact allNe_of hAllLt (by omega)))
local macro_rules | `(tactic| k_all) => `(tactic| assumption)
local macro_rules | `(tactic| k_mem) => `(tactic| first | exact List.Mem.head _ | (refine' List.mem_cons_of_mem _ ?_; k_mem))
local macro_rules | `(tactic| walk_at "call builtin:getattr") => `(tactic| (k_here; k_dflt (refine' Mine.oids_miss ?hA ?k1 ?k2 ?k3 ?k4 ?k5 ?k6 ?k7 ?k8 ?k9 ?k10 ?k11 ?k12 ?_; (case hA => exact rfl); (case k1 => k_asm); (case k2 => k_asm); (case k3 => k_asm); (case k4 => k_inst); (case k5 => k_is); (case k6 => k_is); (case k7 => k_is); (case k8 => k_is); (case k9 => k_is); (case k10 => decide +kernel); (case k11 => decide +kernel); (case k12 => k_get); k_whole); intro h' tk' F' N'; (try k_sweep)))
local macro_rules | `(tactic| walk_at "call builtin:getattr") => `(tactic| (k_here; k_dflt (refine' Mine.oids_hit ?k1 ?k2 ?k4 ?k5 ?k6 ?k7 ?k8 ?k12 ?k13 ?_; (case k1 => k_asm); (case k2 => k_asm); (case k4 => k_inst); (case k5 => k_is); (case k6 => k_is); (case k7 => k_is); (case k8 => k_is); (case k12 => k_get); (case k13 => k_handed); k_whole)))
local macro_rules | `(tactic| walk_at "exec For Tuple Call") => `(tactic| refine wpAny_For ?_)
local macro_rules | `(tactic| walk_at "call builtin:len") => `(tactic| (k_here; (with_reducible show wpAny _ _ (call (Value.builtin "len") [Value.ref _]) _ _ _); k_dflt (refine kda_len (knd := PySem.intKind _ _) (by k_asm) (by k_mem) (by assumption) (by assumption) (by first | omega | (simp only [List.length_append, List.length_cons, List.length_nil]; omega)) ?_)))
local macro_rules | `(tactic| walk_at "setItem ref int") => `(tactic| (k_here; k_dflt (refine' Mine.set_new ?F ?N ?U ?d ?z ?v ?_; (case F => k_asm); (case N => k_asm); (case U => k_updF); (case d => assumption); (case z => (try simp only [List.length_append, List.length_cons, List.length_nil]); omega); (case v => assumption)); intro h' o' F' N' hd'; (try dsimp only at N'); (try k_sweep)))
local macro_rules | `(tactic| walk_at "getMethod ref") => `(tactic| (k_here; (with_reducible show wpAny _ _ (getMethod (Value.ref _) (Str.ofString "get") _) _ _ _); k_dflt (refine kdg_method (knd := PySem.intKind _ _) (by k_asm) (by k_mem) (by assumption) ?_)))
local macro_rules | `(tactic| walk_at "call builtin:dict.get") => `(tactic| (k_here; k_dflt (refine kdg_get1 (knd := PySem.intKind _ _) (by k_asm) (by k_mem) (by assumption) (by assumption) (intKind_is _ _ _ _) _ (by first | assumption | rfl) ?_); (try dsimp only [Option.getD])))
local macro_rules | `(tactic| walk_at "compareOp In int ref") => `(tactic| (k_here; k_dflt (refine kda_in (knd := PySem.intKind _ _) (by k_asm) (by k_mem) (by assumption) (by assumption) (intKind_is _ _ _ _) _ (by first | assumption | rfl) ?_)))
local macro_rules | `(tactic| walk_at "compareOp Is ref ref") => `(tactic| (k_here; k_dflt (refine' wpAny_is_ref_other ?ne ?x ?y ?n ?_; (case ne => assumption); (case x => (exact (PyProof.Rows.News.get (by k_asm) (by k_mem)))); (case y => (exact (PyProof.Rows.News.get (by k_asm) (by k_mem)))); (case n => assumption))))
local macro_rules | `(tactic| walk_at "binaryOp Add ref ref") => `(tactic| (k_here; k_dflt (refine' kde_addT ?k1 ?k2 ?k3 ?k4 ?k5 ?k6 ?k7 ?k8 ?_; (case k1 => k_asm); (case k2 => k_asm); (case k3 => exact PyProof.Rows.News.isTup (by k_asm) (by k_mem)); (case k4 => exact PyProof.Rows.News.isTup (by k_asm) (by k_mem)); (case k5 => exact List.cons_ne_nil _ _); (case k6 => assumption); (case k7 => (simp only [List.length_cons, List.length_nil]; omega)); (case k8 => exact rfl); k_whole); intro D' h' F' N' l1; (try k_lt l1); (try k_sweep)))
local macro_rules | `(tactic| walk_at "getMethod ref") => `(tactic| (k_here; k_dflt (refine' method_inst ?k1 ?k2 ?k3 ?k4 ?k5 ?k6 ?k7 ?_; (case k1 => k_asm); (case k2 => k_asm); (case k3 => k_inst); (case k4 => k_is); (case k5 => k_is); (case k6 => k_is); (case k7 => assumption); k_whole)))
local macro_rules | `(tactic| walk_at "setItem ref int") => `(tactic| (k_here; k_dflt (refine' Mine.set_old ?F ?N ?U ?d ?z ?v ?_; (case F => k_asm); (case N => k_asm); (case U => k_updF); (case d => assumption); (case z => omega); (case v => assumption)); intro h' o' F' N' hd'; (try dsimp only at N'); (try k_sweep)))
local macro_rules | `(tactic| k_inst) => `(tactic| (refine' Mine.InstAt.of_newsF ?N ?h1 ?h2; (case N => k_asm); (case h1 => k_mem); (case h2 => k_mem)))
local macro_rules | `(tactic| walk_at "getAttr ref") => `(tactic| (k_here; k_dflt (refine' Mine.get_exc ?k1 ?k2 ?k3 ?k4 ?k5 ?k6 ?k7 ?k8 ?k9 ?k10 ?_; (case k1 => k_asm); (case k2 => k_asm); (case k3 => k_inst); (case k4 => k_is); (case k5 => k_is); (case k6 => k_is); (case k7 => k_is); (case k8 => k_is); (case k9 => k_get); (case k10 => k_handed); k_whole)))
local macro_rules | `(tactic| walk_at "setAttr ref") => `(tactic| (k_here; k_dflt (refine' Mine.set_exc ?k1 ?k2 ?k3 ?k4 ?k5 ?k6 ?k7 ?k8 ?k9 ?k10 ?k11 ?k12 ?k13 ?k14 ?k15 ?_; (case k1 => k_asm); (case k2 => k_asm); (case k3 => k_asm); (case k4 => k_inst); (case k5 => exact rfl); (case k6 => k_is); (case k7 => k_is); (case k8 => (intro self; (try dsimp only); (repeat rw [refuseLoop_ref]); exact PySem.F.store_Exception.passes self)); (case k9 => k_is); (case k10 => exact rfl); (case k11 => k_is); (case k12 => k_get); (case k13 => k_put); (case k14 => k_upd); (case k15 => exact Nat.le_of_ble_eq_true rfl); k_whole); intro h' F' N'; (try k_sweep)))
local macro_rules | `(tactic| walk_at "call builtin:getattr") => `(tactic| (k_here; k_dflt (refine' Mine.none_name ?hA ?k1 ?k2 ?_; (case hA => exact rfl); (case k1 => k_asm); (case k2 => k_asm)); intro h' tk' F' N'; (try k_sweep)))
local macro_rules | `(tactic| walk_at "call builtin:getattr") => `(tactic| (k_here; k_dflt (refine' Mine.name3 ?k1 ?k2 ?k3 _ ?k4 ?k5 ?k6 ?_; (case k1 => k_asm); (case k2 => k_asm); (case k3 => k_asm); (case k4 => k_mem); (case k5 => k_mem); (case k6 => assumption)); intro nt'))
local macro_rules | `(tactic| walk_at "eval Name") => `(tactic| (k_here; k_dflt (refine' ld ?k1 ?k2 ?_; (case k1 => k_asm); (case k2 => first | exact rfl | assumption); k_whole)))
local macro_rules | `(tactic| walk_at "call builtin:list.append") => `(tactic| (k_here; (show wpAny _ _ (call (Value.builtin _) [Value.ref _, _]) _ _ _); k_dflt (refine' append_K ?k1 ?k2 ?k3 ?_ ?z; (case k1 => k_asm); (case k2 => k_asm); (case k3 => k_upd); (case z => (rw [sizeLine_eq]; simp only [List.size_toArray]; omega)); k_whole); intro h' F' N'; (try k_sweep)))
local macro_rules | `(tactic| walk_at "getMethod ref") => `(tactic| (k_here; (with_reducible show wpAny _ _ (getMethod (Value.ref _) (Str.ofString "match_core") _) _ _ _); k_dflt (refine' Mine.core_method ?k1 ?k2 ?k3 _ ?k4 ?k5 ?k6 ?_; (case k1 => k_asm); (case k2 => k_asm); (case k3 => k_asm); (case k4 => k_mem); (case k5 => k_mem); (case k6 => assumption))))
local macro_rules | `(tactic| walk_at "loadName") => `(tactic| (refine' ldn ?k1 ?k2 ?_; (case k1 => assumption); (case k2 => first | exact rfl | assumption)))
local macro_rules | `(tactic| k_all) => `(tactic| first | exact Mine.allNe_c1 (by assumption) (by omega) | exact Mine.allNe_c2 (by assumption) (by omega) | exact Mine.allNe_c3 (by assumption) (by omega) | exact Mine.allNe_c4 (by assumption) (by omega) | exact Mine.allNe_c5 (by assumption) (by omega) | exact Mine.allNe_c6 (by assumption) (by omega) | exact Mine.allNe_c7 (by assumption) (by omega) | exact Mine.allNe_c8 (by assumption) (by omega))
local macro_rules | `(tactic| walk_at "truthy ref") => `(tactic| (k_here; (with_reducible show wpAny _ _ (truthy (Value.ref _)) _ _ _); k_dflt (refine' Mine.truthy_lst ?N ?m ?z ?b ?_; (case N => k_asm); (case m => k_mem); (case z => first | omega | (simp only [List.length_cons, List.length_nil]; omega)); (case b => first | assumption | exact (show _ = true from rfl) | exact (show _ = false from rfl)))))
local macro_rules | `(tactic| walk_at "compareOp Lt int float") => `(tactic| refine Mine.inf_lt ?_)
local macro_rules | `(tactic| walk_at "call builtin:len") => `(tactic| (k_here; (with_reducible show wpAny _ _ (call (Value.builtin "len") [Value.ref _]) _ _ _); k_dflt (refine' Mine.len_lst ?N ?m ?z ?_; (case N => k_asm); (case m => k_mem); (case z => first | omega | (simp only [List.length_cons, List.length_nil]; omega)))))
local macro_rules | `(tactic| walk_at "call ref") => `(tactic| (k_here; (with_reducible show wpAny _ _ (call (Value.ref 87) _) _ _ _); k_dflt (refine' Mine.call_exc ?F ?X ?N ?hC ?hB ?hA ?hN ?hi ?hf ?hself ?hz ?_; (case F => k_asm); (case X => k_asm); (case N => k_asm); (case hC => k_is); (case hB => decide +kernel); (case hA => decide +kernel); (case hN => decide +kernel); (case hi => k_is); (case hf => k_is); (case hself => k_is); (case hz => exact Nat.le_of_ble_eq_true rfl); k_whole); intro x' t' h' F' N' l1 l2; (try k_lt l1); (try k_lt2 l2); (try k_sweep); k_enter))
local macro_rules | `(tactic| walk_at "call ref") => `(tactic| (k_here; (with_reducible show wpAny _ _ (call (Value.ref 125) _) _ _ _); k_dflt (refine' Mine.call_exc ?F ?X ?N ?hC ?hB ?hA ?hN ?hi ?hf ?hself ?hz ?_; (case F => k_asm); (case X => k_asm); (case N => k_asm); (case hC => k_is); (case hB => decide +kernel); (case hA => decide +kernel); (case hN => decide +kernel); (case hi => k_is); (case hf => k_is); (case hself => k_is); (case hz => exact Nat.le_of_ble_eq_true rfl); k_whole); intro x' t' h' F' N' l1 l2; (try k_lt l1); (try k_lt2 l2); (try k_sweep); k_enter))
local macro_rules | `(tactic| walk_at "setAttr ref") => `(tactic| (k_here; k_dflt (refine' Mine.set_exc0 ?F ?X ?N ?hx ?hs ?hc ?hp ?hm ?hD ?ha ?_; (case F => k_asm); (case X => k_asm); (case N => k_asm); (case hx => k_all); (case hs => k_is); (case hc => k_is); (case hp => (intro self; (try dsimp only); (repeat rw [refuseLoop_ref]); exact PySem.F.store_Exception.passes self)); (case hm => k_is); (case hD => exact rfl); (case ha => k_is); k_whole); intro d' h' F' N' l1; (try k_lt l1); (try k_sweep)))
namespace Mine
theorem seq_inst {gr : Gr} {news : Led} {e : Ex} (hnq : e = .uS ∨ e = .lS) {er ed : Addr} (ST : Stat gr er ed news) :
    ∃ mt ep b c, (gr.xa e, ({ cls := .ref 425, dict := some (gr.xd e), data := .plain, slots := #[some (.ref mt), b, c] } : Obj)) ∈ news ∧ (mt, tupO (e.mem.map fun x => .ref (gr.xa x)) ep) ∈ news := by
  obtain ⟨sl, h1, -, h2⟩ := ST.inst e
  rcases hnq with rfl | rfl <;> (obtain ⟨mt, ep, b, c, rfl, h3⟩ := h2; exact ⟨mt, ep, b, c, h1, h3⟩)
theorem un_seq {w : World} {mean : ExcName → Option Value} {mg mb : Str → Option Value} {gr : Gr} {c er ed : Addr} {text : Str} {e : Ex} {p : Int} {tt tp : Tok} {R dU uU : Nat}
    (hnq : e = .uS ∨ e = .lS) (hp0 : 0 ≤ p) (hp1 : p ≤ 12)
    {I : Nat → Int → List T → (Ex → Int → Prop) → Prop} {Fl : (Ex → Int → Prop) → Prop}
    (hI : ∀ i q ts K, I i q ts K → 0 ≤ q ∧ q ≤ 14)
    (hM : ∀ i x, e.mem[i]? = some x → ∀ q tq ts ckv rows, I i q ts (Keys rows) → Spec w mean mg mb 297 [.ref (gr.xa x), .str text tt, .int q tq, .ref c, .ref er] dU uU
      (fun news => St w R gr c ed text news ckv rows ∧ Stat gr er ed news)
      (fun news r news' => ∃ ckv' rows' res, St w R gr c ed text news' ckv' rows' ∧ Keep news news' ∧ Grow rows rows' ∧ ResOk gr text news news' r res ∧
        match res with | none => Fl (Keys rows') | some (.node e' s t cs) => s = q ∧ I (i + 1) t (ts ++ [.node e' s t cs]) (Keys rows')))
    (ckv : KV) (rows : Rows) (h0 : I 0 p [] (Keys rows)) :
    Spec w mean mg mb 415 [.ref (gr.xa e), .str text tt, .int p tp, .ref c, .ref er] (dU + 6) (uU + 60)
      (fun news => St w R gr c ed text news ckv rows ∧ Stat gr er ed news)
      (fun news r news' => ∃ ckv' rows' res, St w R gr c ed text news' ckv' rows' ∧ Keep news news' ∧ Grow rows rows' ∧ ResOk gr text news news' r res ∧
        match res with | none => Fl (Keys rows') | some t => ∃ q ts, t = .node e p q ts ∧ I 3 q ts (Keys rows')) := by
  intro dp un gd cn cs a ccd cl outer A₀ base h₀ L m news s Q E B F X N T hk hPre hdd huu hret
  obtain ⟨S, ST⟩ := hPre
  obtain ⟨mt, mep, lb, lc, hin, hmt⟩ := seq_inst hnq ST
  have hm3 : e.mem.length = 3 := by rcases hnq with rfl | rfl <;> rfl
  obtain ⟨es, en, hxd, hum, -⟩ := own_dict S e
  w_top off; w_on
  refine wpAny_call ?_
  w_strict (k_dflt (refine' code_def ?k1 ?k2 ?k3 ?k4 ?k5 ?kA ?kF ?kK ?k6 ?k7 ?k8 ?k9 ?kB ?_ ?c2 ?c3 ?c4 ?c5; (case kA => exact rfl); (case kF => exact rfl); (case kK => assumption); (case k1 => k_asm); (case k2 => k_asm); (case k3 => k_asm); (case k4 => k_asm); (case k5 => k_asm); (case k6 => k_is); (case k7 => k_is); (case k8 => ktr_room); (case k9 => exact BindsTo.of_eq rfl); (case c5 => decide); (case kB => exact locs rfl); (case c2 => exact rfl); (case c3 => exact rfl); (case c4 => exact rfl); k_whole); intro g1 L1 h1 FG1 F1 N1 B1 X1 T1; (try dsimp only); (try k_fold))
  w_strict (iterate 12 (first | (k_unfold; (try dsimp only)) | (k_end; wrow_close) | walk1 | (dsimp only; walk1) | (leave1; walk_say "STEP leave1"; try dsimp only) | fail "no step"))
  refine wpAny_For ?_
  w_strict (iterate 3 (first | (k_unfold; (try dsimp only)) | (k_end; wrow_close) | walk1 | (dsimp only; walk1) | (leave1; walk_say "STEP leave1"; try dsimp only) | fail "no step"))
  rename ∀ p ∈ news, p.1 < _ => hl0
  rename Addr => D0
  have hfresh : ∀ q ∈ news, q.1 ≠ D0 := fun q hq => Nat.ne_of_lt (hl0 q hq)
  refine Mine.for_tup (t := mt) (vs := e.mem.map fun x => .ref (gr.xa x)) (ep := mep) rfl
    (fun i m' n' => ∃ q tq ts vs ckv' rows' rest, n' = (D0, lstO vs vs.length) :: rest ∧ LoopAt w R gr c er ed text tt tp e p news rows D0 q tq ts vs ckv' rows' m' rest ∧ I i q ts (Keys rows') ∧ ts.length = i) (by assumption) (by assumption) ?hJ ?ht ?turn ?done
  case hJ =>
    refine ⟨p, tp, [], [], ckv, rows, news, rfl, ⟨rfl, rfl, rfl, rfl, rfl, rfl, rfl, S.mono fun q hq => by simp [hq], Keep.of_sub fun q hq => by simp [hq], Grow.refl _, .nil, hfresh, hfresh⟩, h0, rfl⟩
  case ht =>
    rintro i m' n' ⟨q, tq, ts, vs, ckv', rows', rest, rfl, J, -, -⟩
    exact J.keep.same _ hmt tup_nd
  case turn =>
    rintro i x it o h tk m' n' hx ⟨q, tq, ts, vs, ckv', rows', rest, rfl, J, hi, hlen⟩ F9 N9 hoi off
    rw [List.getElem?_map] at hx
    obtain ⟨y, hy, rfl⟩ := Option.map_eq_some_iff.mp hx
    obtain ⟨js, jt, jp, jc, je, jn, jd, JS, JK, JG, JT, Joff, Jnew⟩ := J
    have ST9 := ST.keep JK
    obtain ⟨sly, hiny, -, -⟩ := ST9.inst y
    obtain ⟨esy, eny, hxdy, -, humy⟩ := own_dict JS y
    unfold InstOk at hiny
    w_strict (k_sweep; iterate 19 (first | (k_unfold; (try dsimp only)) | (k_end; wrow_close) | walk1 | (dsimp only; walk1) | (leave1; walk_say "STEP leave1"; try dsimp only) | fail "no step"))
    refine Spec.use B1 (by assumption) X1 (by assumption) T1 rfl (hM i y hy q tq ts _ _ hi) ⟨JS.mono fun q hq => .tail _ hq, ST9.keep (Keep.of_sub fun q hq => .tail _ hq)⟩ (by ktr_room) (by ktr_units) ?_
    rintro r news4 h4 tk4 F4 N4 ⟨ckv4, rows4, res, S4, K4, G4, hres, hur⟩
    have hit4 : (it, o) ∈ news4 := K4.same _ (.head _) (by rw [hoi]; decide)
    have hD4 : (D0, lstO vs vs.length) ∈ news4 := K4.same _ (.tail _ (.head _)) lst_nd
    have hiD : @Ne Nat D0 it := off (D0, _) (.head _)
    obtain ⟨rest5, N5, hrs5, hro5, hrin5, hrall5⟩ := relist N4 [(it, o), (D0, lstO vs vs.length)] (by simp [hit4, hD4])
    simp only [List.cons_append, List.nil_append] at N5 hrall5
    have hoi5 : ∀ q ∈ rest5, q.1 ≠ it := hro5 (it, o) (by simp)
    have hoD5 : ∀ q ∈ rest5, q.1 ≠ D0 := fun q hq => hro5 (D0, lstO vs vs.length) (by simp) q hq
    have K0 : Keep ((D0, lstO vs vs.length) :: rest) ((D0, lstO vs vs.length) :: rest5) := by
      have aux : ∀ q ∈ news4, q.1 ≠ it → q ∈ (D0, lstO vs vs.length) :: rest5 := fun q hq hn => by
        rcases List.mem_cons.mp (hrall5 q hq) with rfl | h
        · exact absurd rfl hn
        · exact h
      refine ⟨fun q hq hn => aux q (K4.same q (.tail _ hq) hn) (off q hq), fun q hq => ?_⟩
      obtain ⟨ob, h1, h2⟩ := K4.dom q (.tail _ hq)
      exact ⟨ob, aux (q.1, ob) h1 (off q hq), h2⟩
    have hsub5 : Sub news4 ((D0, lstO vs vs.length) :: rest5) := fun q hq hc => by
      rcases List.mem_cons.mp (hrall5 q hq) with rfl | h
      · rw [hoi] at hc; rcases hc with h | h <;> simp at h
      · exact h
    have S5 := S4.sub hsub5
    have hvs := JT.length
    have hvl : vs.length ≤ 3 := by
      have : i < e.mem.length := by rw [List.getElem?_eq_some_iff] at hy; exact hy.1
      omega
    have hq := hI _ _ _ _ hi
    cases res with
    | none =>
      cases hres
      w_strict (k_sweep; repeat' (first | (k_unfold; (try dsimp only)) | (k_end; wrow_close) | walk1 | (dsimp only; walk1) | (leave1; walk_say "STEP leave1"; try dsimp only) | fail "no step"))
      with_reducible rename News _ _ _ _ => N6
      with_reducible rename Fr _ _ _ _ => F6
      exact hret _ _ _ _ F6 N6 ⟨ckv4, rows4, none, S4.mono hrall5, (JK.trans ((Keep.of_sub fun q hq => .tail _ hq).trans K4)).trans (Keep.of_sub hrall5), JG.trans G4, rfl, hur⟩
    | some T0 =>
      cases hres with
      | @mk na nl nd nod ne ns nt nts ntt ntx nvs ncs nep hn1 hn2 hn3 hn4 hn5 hn8 hn6 hn7 =>
      have hn1' : (na, _) ∈ rest5 := hrin5 _ hn1 (by
        simp only [List.mem_cons, List.not_mem_nil, or_false, forall_eq_or_imp, forall_eq]
        exact ⟨(hn4 (it, o) (.head _)).symm, (hn4 (D0, _) (.tail _ (.head _))).symm⟩)
      have hn2' : (nd, nod) ∈ rest5 := hrin5 _ hn2 (by
        simp only [List.mem_cons, List.not_mem_nil, or_false, forall_eq_or_imp, forall_eq]
        exact ⟨(hn8 (it, o) (.head _)).symm, (hn8 (D0, _) (.tail _ (.head _))).symm⟩)
      obtain ⟨rfl, hi'⟩ := hur
      w_strict (k_sweep; repeat' (first | (k_unfold; (try dsimp only)) | (k_end; wrow_close) | walk1 | (dsimp only; walk1) | (leave1; walk_say "STEP leave1"; try dsimp only) | fail "no step"))
      with_reducible rename News _ _ _ _ => N6
      with_reducible rename Fr _ _ _ _ => F6
      have hpush : W.listOf (vs.toArray.push (Value.ref na)) (vs.length + 1) = lstO (vs ++ [.ref na]) (vs ++ [Value.ref na]).length := by simp
      rw [hpush] at N6
      have hlu : ∀ q ∈ ((D0, lstO vs vs.length) :: rest5 : Led), q.1 ≠ D0 → q ∈ ((D0, lstO (vs ++ [.ref na]) (vs ++ [Value.ref na]).length) :: rest5 : Led) := fun q hq hn => .tail _ (mem_rest hq hn)
      have K6 : Keep news ((D0, lstO (vs ++ [.ref na]) (vs ++ [Value.ref na]).length) :: rest5) := by
        have K05 := JK.trans K0
        refine ⟨fun q hq hn => hlu q (K05.same q hq hn) (Jnew q hq), fun q hq => ?_⟩
        obtain ⟨ob, h1, h2⟩ := K05.dom q hq
        exact ⟨ob, hlu (q.1, ob) h1 (Jnew q hq), h2⟩
      have hts5 : IsTs gr text ((D0, lstO [] 0) :: news) ((D0, lstO vs vs.length) :: rest5) vs ts := JT.keep K0
      have hts6 : IsTs gr text ((D0, lstO [] 0) :: news) ((D0, lstO (vs ++ [.ref na]) (vs ++ [Value.ref na]).length) :: rest5) vs ts :=
        hts5.sub fun q hq hz => hlu q hq (hz (D0, lstO [] 0) (.head _)).symm
      have ht4 : IsT gr text ((it, o) :: (D0, lstO vs vs.length) :: rest) news4 (.ref na) (.node ne ns nt ncs) := .mk hn1 hn2 hn3 hn4 hn5 hn8 hn6 hn7
      have ht6 : IsT gr text ((D0, lstO [] 0) :: news) ((D0, lstO (vs ++ [.ref na]) (vs ++ [Value.ref na]).length) :: rest5) (.ref na) (.node ne ns nt ncs) := by
        refine IsT.le (B := (it, o) :: (D0, lstO vs vs.length) :: rest) ?_ (ht4.sub fun q hq hz => ?_)
        · intro q hq
          rcases List.mem_cons.mp hq with rfl | hq
          · exact ⟨_, .tail _ (.head _)⟩
          · obtain ⟨ob, h1, -⟩ := JK.dom q hq
            exact ⟨ob, .tail _ h1⟩
        · exact .tail _ (hrin5 q hq (by
            simp only [List.mem_cons, List.not_mem_nil, or_false, forall_eq_or_imp, forall_eq]
            exact ⟨(hz (it, o) (.head _)).symm, (hz (D0, _) (.tail _ (.head _))).symm⟩))
      have S6 : St w R gr c ed text ((D0, lstO (vs ++ [.ref na]) (vs ++ [Value.ref na]).length) :: rest5) ckv4 rows4 := S5.sub fun q hq hc => by
        rcases List.mem_cons.mp hq with rfl | h
        · rcases hc with h | h <;> simp at h
        · exact .tail _ h
      dsimp only
      have hqn : ns + (nt - ns) = nt := by omega
      rw [hqn] at F6
      refine ⟨_, _, _, _, rfl, F6, N6, ?_, nt, _, _, _, ckv4, rows4, rest5, rfl, ⟨?_, ?_, ?_, ?_, ?_, rfl, ?_, S6, K6, JG.trans G4, hts6.snoc ht6, hoD5, Jnew⟩, hi', by simp [hlen]⟩
      · intro q hq
        rcases List.mem_cons.mp hq with rfl | h
        · exact hiD
        · exact hoi5 q h
      all_goals first | assumption | exact rfl
  case done =>
    rintro h tk m' n' ⟨q, tq, ts, vs, ckv', rows', rest, rfl, J, hi, hlen⟩ F9 N9
    obtain ⟨js, jt, jp, jc, je, jn, jd, JS, JK, JG, JT, Joff, Jnew⟩ := J
    have hvs := JT.length
    have hlen3 : vs.length = 3 := by rw [hvs, hlen, List.length_map, hm3]
    have hne : (!vs.isEmpty) = true := by cases vs with | nil => simp at hlen3 | cons => rfl
    w_strict (k_sweep; repeat' (first | (k_unfold; (try dsimp only)) | (k_end; wrow_close) | walk1 | (dsimp only; walk1) | (leave1; walk_say "STEP leave1"; try dsimp only) | fail "no step"))
    with_reducible rename News _ _ _ _ => N6
    with_reducible rename Fr _ _ _ _ => F6
    rename _ < _ ∧ AllLt _ _ => hl9
    rename _ < _ => hlx
    have hd9 := dom_lt JK hl9.1 hl9.2
    refine hret _ _ _ _ F6 N6 ⟨_, _, some (.node e p q ts), JS.mono fun q hq => .tail _ (.tail _ hq), JK.trans (Keep.of_sub fun q hq => .tail _ (.tail _ hq)), JG, ?_, q, ts, rfl, ?_⟩
    · refine IsT.mk (vs := vs) (ep := vs.length) (.head _) (.tail _ (.head _)) (.tail _ (.tail _ (.head _))) (fun q hq => Nat.ne_of_lt (Nat.lt_trans (hd9 q hq) hlx)) Jnew (fun q hq => Nat.ne_of_lt (hd9 q hq)) (by omega) ?_
      exact IsTs.keep (Keep.of_sub fun q hq => .tail _ (.tail _ hq)) (IsTs.le (fun q hq => ⟨_, .tail _ hq⟩) JT)
    · rw [List.length_map, hm3] at hi; exact hi
end Mine
end

section
-- part UnOne
open PySem PySem.Spec PySem.Calls PySem.W PyProof.Rows
local macro_rules | `(tactic| k_room) => `(tactic| ktr_room)
local macro_rules | `(tactic| k_all) => `(tactic| exact allNe_of' (by assumption) (by omega))
local macro_rules | `(tactic| k_all) => `(tactic| ((with_reducible rename AllLt _ _ => hAllLt); exact allNe_of hAllLt (by omega)))
local macro_rules | `(tactic| k_all) => `(tactic| assumption)
local macro_rules | `(tactic| k_mem) => `(tactic| first | exact List.Mem.head _ | (refine' List.mem_cons_of_mem _ ?_; k_mem))
local macro_rules | `(tactic| walk_at "call builtin:getattr") => `(tactic| (k_here; k_dflt (refine' Mine.oids_miss ?hA ?k1 ?k2 ?k3 ?k4 ?k5 ?k6 ?k7 ?k8 ?k9 ?k10 ?k11 ?k12 ?_; (case hA => exact rfl); (case k1 => k_asm); (case k2 => k_asm); (case k3 => k_asm); (case k4 => k_inst); (case k5 => k_is); (case k6 => k_is); (case k7 => k_is); (case k8 => k_is); (case k9 => k_is); (case k10 => decide +kernel); (case k11 => decide +kernel); (case k12 => k_get); k_whole); intro h' tk' F' N'; (try k_sweep)))
local macro_rules | `(tactic| walk_at "call builtin:getattr") => `(tactic| (k_here; k_dflt (refine' Mine.oids_hit ?k1 ?k2 ?k4 ?k5 ?k6 ?k7 ?k8 ?k12 ?k13 ?_; (case k1 => k_asm); (case k2 => k_asm); (case k4 => k_inst); (case k5 => k_is); (case k6 => k_is); (case k7 => k_is); (case k8 => k_is); (case k12 => k_get); (case k13 => k_handed); k_whole)))
local macro_rules | `(tactic| walk_at "exec For Tuple Call") => `(tactic| refine wpAny_For ?_)
local macro_rules | `(tactic| walk_at "call builtin:len") => `(tactic| (k_here; (with_reducible show wpAny _ _ (call (Value.builtin "len") [Value.ref _]) _ _ _); k_dflt (refine kda_len (knd := PySem.intKind _ _) (by k_asm) (by k_mem) (by assumption) (by assumption) (by first | omega | (simp only [List.length_append, List.length_cons, List.length_nil]; omega)) ?_)))
local macro_rules | `(tactic| walk_at "setItem ref int") => `(tactic| (k_here; k_dflt (refine' Mine.set_new ?F ?N ?U ?d ?z ?v ?_; (case F => k_asm); (case N => k_asm); (case U => k_updF); (case d => assumption); (case z => (try simp only [List.length_append, List.length_cons, List.length_nil]); omega); (case v => assumption)); intro h' o' F' N' hd'; (try dsimp only at N'); (try k_sweep)))
local macro_rules | `(tactic| walk_at "getMethod ref") => `(tactic| (k_here; (with_reducible show wpAny _ _ (getMethod (Value.ref _) (Str.ofString "get") _) _ _ _); k_dflt (refine kdg_method (knd := PySem.intKind _ _) (by k_asm) (by k_mem) (by assumption) ?_)))
local macro_rules | `(tactic| walk_at "call builtin:dict.get") => `(tactic| (k_here; k_dflt (refine kdg_get1 (knd := PySem.intKind _ _) (by k_asm) (by k_mem) (by assumption) (by assumption) (intKind_is _ _ _ _) _ (by first | assumption | rfl) ?_); (try dsimp only [Option.getD])))
local macro_rules | `(tactic| walk_at "compareOp In int ref") => `(tactic| (k_here; k_dflt (refine kda_in (knd := PySem.intKind _ _) (by k_asm) (by k_mem) (by assumption) (by assumption) (intKind_is _ _ _ _) _ (by first | assumption | rfl) ?_)))
local macro_rules | `(tactic| walk_at "compareOp Is ref ref") => `(tactic| (k_here; k_dflt (refine' wpAny_is_ref_other ?ne ?x ?y ?n ?_; (case ne => assumption); (case x => (exact (PyProof.Rows.News.get (by k_asm) (by k_mem)))); (case y => (exact (PyProof.Rows.News.get (by k_asm) (by k_mem)))); (case n => assumption))))
local macro_rules | `(tactic| walk_at "binaryOp Add ref ref") => `(tactic| (k_here; k_dflt (refine' kde_addT ?k1 ?k2 ?k3 ?k4 ?k5 ?k6 ?k7 ?k8 ?_; (case k1 => k_asm); (case k2 => k_asm); (case k3 => exact PyProof.Rows.News.isTup (by k_asm) (by k_mem)); (case k4 => exact PyProof.Rows.News.isTup (by k_asm) (by k_mem)); (case k5 => exact List.cons_ne_nil _ _); (case k6 => assumption); (case k7 => (simp only [List.length_cons, List.length_nil]; omega)); (case k8 => exact rfl); k_whole); intro D' h' F' N' l1; (try k_lt l1); (try k_sweep)))
local macro_rules | `(tactic| walk_at "getMethod ref") => `(tactic| (k_here; k_dflt (refine' method_inst ?k1 ?k2 ?k3 ?k4 ?k5 ?k6 ?k7 ?_; (case k1 => k_asm); (case k2 => k_asm); (case k3 => k_inst); (case k4 => k_is); (case k5 => k_is); (case k6 => k_is); (case k7 => assumption); k_whole)))
local macro_rules | `(tactic| walk_at "setItem ref int") => `(tactic| (k_here; k_dflt (refine' Mine.set_old ?F ?N ?U ?d ?z ?v ?_; (case F => k_asm); (case N => k_asm); (case U => k_updF); (case d => assumption); (case z => omega); (case v => assumption)); intro h' o' F' N' hd'; (try dsimp only at N'); (try k_sweep)))
local macro_rules | `(tactic| k_inst) => `(tactic| (refine' Mine.InstAt.of_newsF ?N ?h1 ?h2; (case N => k_asm); (case h1 => k_mem); (case h2 => k_mem)))
local macro_rules | `(tactic| walk_at "getAttr ref") => `(tactic| (k_here; k_dflt (refine' Mine.get_exc ?k1 ?k2 ?k3 ?k4 ?k5 ?k6 ?k7 ?k8 ?k9 ?k10 ?_; (case k1 => k_asm); (case k2 => k_asm); (case k3 => k_inst); (case k4 => k_is); (case k5 => k_is); (case k6 => k_is); (case k7 => k_is); (case k8 => k_is); (case k9 => k_get); (case k10 => k_handed); k_whole)))
local macro_rules | `(tactic| walk_at "setAttr ref") => `(tactic| (k_here; k_dflt (refine' Mine.set_exc ?k1 ?k2 ?k3 ?k4 ?k5 ?k6 ?k7 ?k8 ?k9 ?k10 ?k11 ?k12 ?k13 ?k14 ?k15 ?_; (case k1 => k_asm); (case k2 => k_asm); (case k3 => k_asm); (case k4 => k_inst); (case k5 => exact rfl); (case k6 => k_is); (case k7 => k_is); (case k8 => (intro self; (try dsimp only); (repeat rw [refuseLoop_ref]); exact PySem.F.store_Exception.passes self)); (case k9 => k_is); (case k10 => exact rfl); (case k11 => k_is); (case k12 => k_get); (case k13 => k_put); (case k14 => k_upd); (case k15 => exact Nat.le_of_ble_eq_true rfl); k_whole); intro h' F' N'; (try k_sweep)))
local macro_rules | `(tactic| walk_at "call builtin:getattr") => `(tactic| (k_here; k_dflt (refine' Mine.none_name ?hA ?k1 ?k2 ?_; (case hA => exact rfl); (case k1 => k_asm); (case k2 => k_asm)); intro h' tk' F' N'; (try k_sweep)))
local macro_rules | `(tactic| walk_at "call builtin:getattr") => `(tactic| (k_here; k_dflt (refine' Mine.name3 ?k1 ?k2 ?k3 _ ?k4 ?k5 ?k6 ?_; (case k1 => k_asm); (case k2 => k_asm); (case k3 => k_asm); (case k4 => k_mem); (case k5 => k_mem); (case k6 => assumption)); intro nt'))
local macro_rules | `(tactic| walk_at "eval Name") => `(tactic| (k_here; k_dflt (refine' ld ?k1 ?k2 ?_; (case k1 => k_asm); (case k2 => first | exact rfl | assumption); k_whole)))
local macro_rules | `(tactic| walk_at "call builtin:list.append") => `(tactic| (k_here; (show wpAny _ _ (call (Value.builtin _) [Value.ref _, _]) _ _ _); k_dflt (refine' append_K ?k1 ?k2 ?k3 ?_ ?z; (case k1 => k_asm); (case k2 => k_asm); (case k3 => k_upd); (case z => (rw [sizeLine_eq]; simp only [List.size_toArray]; omega)); k_whole); intro h' F' N'; (try k_sweep)))
local macro_rules | `(tactic| walk_at "getMethod ref") => `(tactic| (k_here; (with_reducible show wpAny _ _ (getMethod (Value.ref _) (Str.ofString "match_core") _) _ _ _); k_dflt (refine' Mine.core_method ?k1 ?k2 ?k3 _ ?k4 ?k5 ?k6 ?_; (case k1 => k_asm); (case k2 => k_asm); (case k3 => k_asm); (case k4 => k_mem); (case k5 => k_mem); (case k6 => assumption))))
local macro_rules | `(tactic| walk_at "loadName") => `(tactic| (refine' ldn ?k1 ?k2 ?_; (case k1 => assumption); (case k2 => first | exact rfl | assumption)))
local macro_rules | `(tactic| k_all) => `(tactic| first | exact Mine.allNe_c1 (by assumption) (by omega) | exact Mine.allNe_c2 (by assumption) (by omega) | exact Mine.allNe_c3 (by assumption) (by omega) | exact Mine.allNe_c4 (by assumption) (by omega) | exact Mine.allNe_c5 (by assumption) (by omega) | exact Mine.allNe_c6 (by assumption) (by omega) | exact Mine.allNe_c7 (by assumption) (by omega) | exact Mine.allNe_c8 (by assumption) (by omega))
local macro_rules | `(tactic| walk_at "truthy ref") => `(tactic| (k_here; (with_reducible show wpAny _ _ (truthy (Value.ref _)) _ _ _); k_dflt (refine' Mine.truthy_lst ?N ?m ?z ?b ?_; (case N => k_asm); (case m => k_mem); (case z => first | omega | (simp only [List.length_cons, List.length_nil]; omega)); (case b => first | assumption | exact (show _ = true from rfl) | exact (show _ = false from rfl)))))
local macro_rules | `(tactic| walk_at "compareOp Lt int float") => `(tactic| refine Mine.inf_lt ?_)
local macro_rules | `(tactic| walk_at "call builtin:len") => `(tactic| (k_here; (with_reducible show wpAny _ _ (call (Value.builtin "len") [Value.ref _]) _ _ _); k_dflt (refine' Mine.len_lst ?N ?m ?z ?_; (case N => k_asm); (case m => k_mem); (case z => first | omega | (simp only [List.length_cons, List.length_nil]; omega)))))
local macro_rules | `(tactic| walk_at "call ref") => `(tactic| (k_here; (with_reducible show wpAny _ _ (call (Value.ref 87) _) _ _ _); k_dflt (refine' Mine.call_exc ?F ?X ?N ?hC ?hB ?hA ?hN ?hi ?hf ?hself ?hz ?_; (case F => k_asm); (case X => k_asm); (case N => k_asm); (case hC => k_is); (case hB => decide +kernel); (case hA => decide +kernel); (case hN => decide +kernel); (case hi => k_is); (case hf => k_is); (case hself => k_is); (case hz => exact Nat.le_of_ble_eq_true rfl); k_whole); intro x' t' h' F' N' l1 l2; (try k_lt l1); (try k_lt2 l2); (try k_sweep); k_enter))
local macro_rules | `(tactic| walk_at "call ref") => `(tactic| (k_here; (with_reducible show wpAny _ _ (call (Value.ref 125) _) _ _ _); k_dflt (refine' Mine.call_exc ?F ?X ?N ?hC ?hB ?hA ?hN ?hi ?hf ?hself ?hz ?_; (case F => k_asm); (case X => k_asm); (case N => k_asm); (case hC => k_is); (case hB => decide +kernel); (case hA => decide +kernel); (case hN => decide +kernel); (case hi => k_is); (case hf => k_is); (case hself => k_is); (case hz => exact Nat.le_of_ble_eq_true rfl); k_whole); intro x' t' h' F' N' l1 l2; (try k_lt l1); (try k_lt2 l2); (try k_sweep); k_enter))
local macro_rules | `(tactic| walk_at "setAttr ref") => `(tactic| (k_here; k_dflt (refine' Mine.set_exc0 ?F ?X ?N ?hx ?hs ?hc ?hp ?hm ?hD ?ha ?_; (case F => k_asm); (case X => k_asm); (case N => k_asm); (case hx => k_all); (case hs => k_is); (case hc => k_is); (case hp => (intro self; (try dsimp only); (repeat rw [refuseLoop_ref]); exact PySem.F.store_Exception.passes self)); (case hm => k_is); (case hD => exact rfl); (case ha => k_is); k_whole); intro d' h' F' N' l1; (try k_lt l1); (try k_sweep)))
namespace Mine
theorem one_inst {gr : Gr} {news : Led} {er ed : Addr} (ST : Stat gr er ed news) :
    ∃ mt ep b c, (gr.xa .one, ({ cls := .ref 451, dict := some (gr.xd .one), data := .plain, slots := #[some (.ref mt), b, c] } : Obj)) ∈ news ∧ (mt, tupO (Ex.one.mem.map fun x => .ref (gr.xa x)) ep) ∈ news := by
  obtain ⟨sl, h1, -, mt, ep, b, c, rfl, h3⟩ := ST.inst .one
  exact ⟨mt, ep, b, c, h1, h3⟩
/-- the state within a loop that only asks -/
structure AskAt (w : World) (R : Nat) (gr : Gr) (c er ed : Addr) (text : Str) (tt tp : Tok) (e : Ex) (p : Int) (news0 : Led) (rows0 : Rows) (ckv : KV) (rows : Rows) (m : Str → Option Value) (news : Led) : Prop where
  m_self : m (Str.ofString "self") = some (.ref (gr.xa e))
  m_text : m (Str.ofString "text") = some (.str text tt)
  m_pos : m (Str.ofString "pos") = some (.int p tp)
  m_cache : m (Str.ofString "cache") = some (.ref c)
  m_error : m (Str.ofString "error") = some (.ref er)
  st : St w R gr c ed text news ckv rows
  keep : Keep news0 news
  grow : Grow rows0 rows
theorem un_one {w : World} {mean : ExcName → Option Value} {mg mb : Str → Option Value} {gr : Gr} {c er ed : Addr} {text : Str} {p : Int} {tt tp : Tok} {R dU uU : Nat}
    {I : Nat → (Ex → Int → Prop) → Prop} {G : T → (Ex → Int → Prop) → Prop} (hp0 : 0 ≤ p) (hp1 : p ≤ 12)
    (hM : ∀ i x, Ex.one.mem[i]? = some x → ∀ ckv rows, I i (Keys rows) → Spec w mean mg mb 297 [.ref (gr.xa x), .str text tt, .int p tp, .ref c, .ref er] dU uU
      (fun news => St w R gr c ed text news ckv rows ∧ Stat gr er ed news)
      (fun news r news' => ∃ ckv' rows' res, St w R gr c ed text news' ckv' rows' ∧ Keep news news' ∧ Grow rows rows' ∧ ResOk gr text news news' r res ∧
        match res with | none => I (i + 1) (Keys rows') | some t => G t (Keys rows')))
    (ckv : KV) (rows : Rows) (h0 : I 0 (Keys rows)) :
    Spec w mean mg mb 441 [.ref (gr.xa .one), .str text tt, .int p tp, .ref c, .ref er] (dU + 6) (uU + 60)
      (fun news => St w R gr c ed text news ckv rows ∧ Stat gr er ed news)
      (fun news r news' => ∃ ckv' rows' res, St w R gr c ed text news' ckv' rows' ∧ Keep news news' ∧ Grow rows rows' ∧ ResOk gr text news news' r res ∧
        match res with | none => I 2 (Keys rows') | some t => ∃ e' s' q cs, t = .node .one p q [.node e' s' q cs] ∧ G (.node e' s' q cs) (Keys rows')) := by
  intro dp un gd cn cs a ccd cl outer A₀ base h₀ L m news s Q E B F X N T hk hPre hdd huu hret
  obtain ⟨S, ST⟩ := hPre
  obtain ⟨mt, mep, lb, lc, hin, hmt⟩ := one_inst ST
  obtain ⟨es, en, hxd, hum, -⟩ := own_dict S .one
  w_top off; w_on
  refine wpAny_call ?_
  w_strict (k_dflt (refine' code_def ?k1 ?k2 ?k3 ?k4 ?k5 ?kA ?kF ?kK ?k6 ?k7 ?k8 ?k9 ?kB ?_ ?c2 ?c3 ?c4 ?c5; (case kA => exact rfl); (case kF => exact rfl); (case kK => assumption); (case k1 => k_asm); (case k2 => k_asm); (case k3 => k_asm); (case k4 => k_asm); (case k5 => k_asm); (case k6 => k_is); (case k7 => k_is); (case k8 => ktr_room); (case k9 => exact BindsTo.of_eq rfl); (case c5 => decide); (case kB => exact locs rfl); (case c2 => exact rfl); (case c3 => exact rfl); (case c4 => exact rfl); k_whole); intro g1 L1 h1 FG1 F1 N1 B1 X1 T1; (try dsimp only); (try k_fold))
  w_strict (iterate 2 (first | (k_unfold; (try dsimp only)) | (k_end; wrow_close) | walk1 | (dsimp only; walk1) | (leave1; walk_say "STEP leave1"; try dsimp only) | fail "no step"))
  refine wpAny_For ?_
  w_strict (iterate 3 (first | (k_unfold; (try dsimp only)) | (k_end; wrow_close) | walk1 | (dsimp only; walk1) | (leave1; walk_say "STEP leave1"; try dsimp only) | fail "no step"))
  refine Mine.for_tup (t := mt) (vs := Ex.one.mem.map fun x => .ref (gr.xa x)) (ep := mep) rfl
    (fun i m' n' => ∃ ckv' rows', AskAt w R gr c er ed text tt tp .one p news rows ckv' rows' m' n' ∧ I i (Keys rows')) (by assumption) (by assumption) ?hJ ?ht ?turn ?done
  case hJ =>
    exact ⟨ckv, rows, ⟨rfl, rfl, rfl, rfl, rfl, S, Keep.refl _, Grow.refl _⟩, h0⟩
  case ht =>
    rintro i m' n' ⟨ckv', rows', J, -⟩
    exact J.keep.same _ hmt tup_nd
  case turn =>
    rintro i x it o h tk m' n' hx ⟨ckv', rows', J, hi⟩ F9 N9 hoi off
    rw [List.getElem?_map] at hx
    obtain ⟨y, hy, rfl⟩ := Option.map_eq_some_iff.mp hx
    obtain ⟨js, jt, jp, jc, je, JS, JK, JG⟩ := J
    have ST9 := ST.keep JK
    obtain ⟨sly, hiny, -, -⟩ := ST9.inst y
    obtain ⟨esy, eny, hxdy, -, humy⟩ := own_dict JS y
    unfold InstOk at hiny
    w_strict (k_sweep; iterate 19 (first | (k_unfold; (try dsimp only)) | (k_end; wrow_close) | walk1 | (dsimp only; walk1) | (leave1; walk_say "STEP leave1"; try dsimp only) | fail "no step"))
    refine Spec.use B1 (by assumption) X1 (by assumption) T1 rfl (hM i y hy _ _ hi) ⟨JS.mono fun q hq => .tail _ hq, ST9.keep (Keep.of_sub fun q hq => .tail _ hq)⟩ (by ktr_room) (by ktr_units) ?_
    rintro r news4 h4 tk4 F4 N4 ⟨ckv4, rows4, res, S4, K4, G4, hres, hur⟩
    have hit4 : (it, o) ∈ news4 := K4.same _ (.head _) (by rw [hoi]; decide)
    obtain ⟨rest5, N5, hrs5, hro5, hrin5, hrall5⟩ := relist N4 [(it, o)] (by simp [hit4])
    simp only [List.cons_append, List.nil_append] at N5 hrall5
    have hoi5 : ∀ q ∈ rest5, q.1 ≠ it := hro5 (it, o) (by simp)
    have haux : ∀ q ∈ news4, q.1 ≠ it → q ∈ rest5 := fun q hq hn => hrin5 q hq (by simpa using hn)
    have K0 : Keep n' rest5 := by
      refine ⟨fun q hq hn => haux q (K4.same q (.tail _ hq) hn) (off q hq), fun q hq => ?_⟩
      obtain ⟨ob, h1, h2⟩ := K4.dom q (.tail _ hq)
      exact ⟨ob, haux (q.1, ob) h1 (off q hq), h2⟩
    have hsub5 : Sub news4 rest5 := fun q hq hc => by
      rcases List.mem_cons.mp (hrall5 q hq) with rfl | h
      · rw [hoi] at hc; rcases hc with h | h <;> simp at h
      · exact h
    have S5 := S4.sub hsub5
    have K5 := JK.trans K0
    have G5 := JG.trans G4
    cases res with
    | none =>
      cases hres
      w_strict (k_sweep; repeat' (first | (k_unfold; (try dsimp only)) | (k_end; wrow_close) | walk1 | (dsimp only; walk1) | (leave1; walk_say "STEP leave1"; try dsimp only) | fail "no step"))
      with_reducible rename News _ _ _ _ => N6
      with_reducible rename Fr _ _ _ _ => F6
      dsimp only
      refine ⟨_, _, _, _, rfl, F6, N6, hoi5, _, _, ⟨?_, ?_, ?_, ?_, ?_, S5, K5, G5⟩, hur⟩ <;> first | assumption | exact rfl
    | some T0 =>
      cases hres with
      | @mk na nl nd nod ne ns nt nts ntt ntx nvs ncs nep hn1 hn2 hn3 hn4 hn5 hn8 hn6 hn7 =>
      have hn1' : (na, _) ∈ rest5 := haux _ hn1 (hn4 (it, o) (.head _)).symm
      have hn2' : (nd, nod) ∈ rest5 := haux _ hn2 (hn8 (it, o) (.head _)).symm
      w_strict (k_sweep; repeat' (first | (k_unfold; (try dsimp only)) | (k_end; wrow_close) | walk1 | (dsimp only; walk1) | (leave1; walk_say "STEP leave1"; try dsimp only) | fail "no step"))
      with_reducible rename News _ _ _ _ => N6
      with_reducible rename Fr _ _ _ _ => F6
      rename _ < _ ∧ _ < _ ∧ AllLt _ _ => hl9
      rename _ < _ ∧ AllLt _ _ => hll
      rename _ < _ => hlx
      have Kn : Keep news ((it, o) :: rest5) := K5.trans (Keep.of_sub fun q hq => .tail _ hq)
      have hd9 := dom_lt Kn hl9.2.1 hl9.2.2
      have hll9 := dom_lt Kn hll.1 hll.2
      refine hret _ _ _ _ F6 N6 ⟨_, _, some (.node .one p nt [.node ne ns nt ncs]), S5.mono fun q hq => .tail _ (.tail _ (.tail _ (.tail _ hq))), K5.trans (Keep.of_sub fun q hq => .tail _ (.tail _ (.tail _ (.tail _ hq)))), G5, ?_, ne, ns, nt, ncs, rfl, hur⟩
      refine IsT.mk (vs := [.ref na]) (ep := 0) (.head _) (.tail _ (.head _)) (.tail _ (.tail _ (.head _))) (fun q hq => Nat.ne_of_lt (Nat.lt_trans (hd9 q hq) hlx)) (fun q hq => Nat.ne_of_lt (hll9 q hq)) (fun q hq => Nat.ne_of_lt (hd9 q hq)) (by simp) (.cons ?_ .nil)
      have ht4 : IsT gr text ((it, o) :: n') news4 (.ref na) (.node ne ns nt ncs) := .mk hn1 hn2 hn3 hn4 hn5 hn8 hn6 hn7
      exact (ht4.le fun q hq => let ⟨ob, h1, _⟩ := JK.dom q hq; ⟨ob, .tail _ h1⟩).keep (Keep.of_sub fun q hq => .tail _ (.tail _ (.tail _ (hrall5 q hq))))
  case done =>
    rintro h tk m' n' ⟨ckv', rows', J, hi⟩ F9 N9
    obtain ⟨js, jt, jp, jc, je, JS, JK, JG⟩ := J
    w_strict (k_sweep; repeat' (first | (k_unfold; (try dsimp only)) | (k_end; wrow_close) | walk1 | (dsimp only; walk1) | (leave1; walk_say "STEP leave1"; try dsimp only) | fail "no step"))
    with_reducible rename News _ _ _ _ => N6
    with_reducible rename Fr _ _ _ _ => F6
    exact hret _ _ _ _ F6 N6 ⟨_, _, none, JS, JK, JG, rfl, hi⟩
end Mine
end

section
-- part UnQua
open PySem PySem.Spec PySem.Calls PySem.W PyProof.Rows
local macro_rules | `(tactic| walk_at "pad of mine") => `(tactic| fail)
local macro_rules | `(tactic| k_room) => `(tactic| ktr_room)
local macro_rules | `(tactic| k_all) => `(tactic| exact allNe_of' (by assumption) (by omega))
local macro_rules | `(tactic| k_all) => `(tactic| ((with_reducible rename AllLt _ _ => hAllLt); exact allNe_of hAllLt (by omega)))
local macro_rules | `(tactic| k_all) => `(tactic| assumption)
local macro_rules | `(tactic| k_mem) => `(tactic| first | exact List.Mem.head _ | (refine' List.mem_cons_of_mem _ ?_; k_mem))
local macro_rules | `(tactic| walk_at "call builtin:getattr") => `(tactic| (k_here; k_dflt (refine' Mine.oids_miss ?hA ?k1 ?k2 ?k3 ?k4 ?k5 ?k6 ?k7 ?k8 ?k9 ?k10 ?k11 ?k12 ?_; (case hA => exact rfl); (case k1 => k_asm); (case k2 => k_asm); (case k3 => k_asm); (case k4 => k_inst); (case k5 => k_is); (case k6 => k_is); (case k7 => k_is); (case k8 => k_is); (case k9 => k_is); (case k10 => decide +kernel); (case k11 => decide +kernel); (case k12 => k_get); k_whole); intro h' tk' F' N'; (try k_sweep)))
local macro_rules | `(tactic| walk_at "call builtin:getattr") => `(tactic| (k_here; k_dflt (refine' Mine.oids_hit ?k1 ?k2 ?k4 ?k5 ?k6 ?k7 ?k8 ?k12 ?k13 ?_; (case k1 => k_asm); (case k2 => k_asm); (case k4 => k_inst); (case k5 => k_is); (case k6 => k_is); (case k7 => k_is); (case k8 => k_is); (case k12 => k_get); (case k13 => k_handed); k_whole)))
local macro_rules | `(tactic| walk_at "exec For Tuple Call") => `(tactic| refine wpAny_For ?_)
local macro_rules | `(tactic| walk_at "call builtin:len") => `(tactic| (k_here; (with_reducible show wpAny _ _ (call (Value.builtin "len") [Value.ref _]) _ _ _); k_dflt (refine kda_len (knd := PySem.intKind _ _) (by k_asm) (by k_mem) (by assumption) (by assumption) (by first | omega | (simp only [List.length_append, List.length_cons, List.length_nil]; omega)) ?_)))
local macro_rules | `(tactic| walk_at "setItem ref int") => `(tactic| (k_here; k_dflt (refine' Mine.set_new ?F ?N ?U ?d ?z ?v ?_; (case F => k_asm); (case N => k_asm); (case U => k_updF); (case d => assumption); (case z => (try simp only [List.length_append, List.length_cons, List.length_nil]); omega); (case v => assumption)); intro h' o' F' N' hd'; (try dsimp only at N'); (try k_sweep)))
local macro_rules | `(tactic| walk_at "getMethod ref") => `(tactic| (k_here; (with_reducible show wpAny _ _ (getMethod (Value.ref _) (Str.ofString "get") _) _ _ _); k_dflt (refine kdg_method (knd := PySem.intKind _ _) (by k_asm) (by k_mem) (by assumption) ?_)))
local macro_rules | `(tactic| walk_at "call builtin:dict.get") => `(tactic| (k_here; k_dflt (refine kdg_get1 (knd := PySem.intKind _ _) (by k_asm) (by k_mem) (by assumption) (by assumption) (intKind_is _ _ _ _) _ (by first | assumption | rfl) ?_); (try dsimp only [Option.getD])))
local macro_rules | `(tactic| walk_at "compareOp In int ref") => `(tactic| (k_here; k_dflt (refine kda_in (knd := PySem.intKind _ _) (by k_asm) (by k_mem) (by assumption) (by assumption) (intKind_is _ _ _ _) _ (by first | assumption | rfl) ?_)))
local macro_rules | `(tactic| walk_at "compareOp Is ref ref") => `(tactic| (k_here; k_dflt (refine' wpAny_is_ref_other ?ne ?x ?y ?n ?_; (case ne => assumption); (case x => (exact (PyProof.Rows.News.get (by k_asm) (by k_mem)))); (case y => (exact (PyProof.Rows.News.get (by k_asm) (by k_mem)))); (case n => assumption))))
local macro_rules | `(tactic| walk_at "binaryOp Add ref ref") => `(tactic| (k_here; k_dflt (refine' kde_addT ?k1 ?k2 ?k3 ?k4 ?k5 ?k6 ?k7 ?k8 ?_; (case k1 => k_asm); (case k2 => k_asm); (case k3 => exact PyProof.Rows.News.isTup (by k_asm) (by k_mem)); (case k4 => exact PyProof.Rows.News.isTup (by k_asm) (by k_mem)); (case k5 => exact List.cons_ne_nil _ _); (case k6 => assumption); (case k7 => (simp only [List.length_cons, List.length_nil]; omega)); (case k8 => exact rfl); k_whole); intro D' h' F' N' l1; (try k_lt l1); (try k_sweep)))
local macro_rules | `(tactic| walk_at "getMethod ref") => `(tactic| (k_here; k_dflt (refine' method_inst ?k1 ?k2 ?k3 ?k4 ?k5 ?k6 ?k7 ?_; (case k1 => k_asm); (case k2 => k_asm); (case k3 => k_inst); (case k4 => k_is); (case k5 => k_is); (case k6 => k_is); (case k7 => assumption); k_whole)))
local macro_rules | `(tactic| walk_at "setItem ref int") => `(tactic| (k_here; k_dflt (refine' Mine.set_old ?F ?N ?U ?d ?z ?v ?_; (case F => k_asm); (case N => k_asm); (case U => k_updF); (case d => assumption); (case z => omega); (case v => assumption)); intro h' o' F' N' hd'; (try dsimp only at N'); (try k_sweep)))
local macro_rules | `(tactic| k_inst) => `(tactic| (refine' Mine.InstAt.of_newsF ?N ?h1 ?h2; (case N => k_asm); (case h1 => k_mem); (case h2 => k_mem)))
local macro_rules | `(tactic| walk_at "getAttr ref") => `(tactic| (k_here; k_dflt (refine' Mine.get_exc ?k1 ?k2 ?k3 ?k4 ?k5 ?k6 ?k7 ?k8 ?k9 ?k10 ?_; (case k1 => k_asm); (case k2 => k_asm); (case k3 => k_inst); (case k4 => k_is); (case k5 => k_is); (case k6 => k_is); (case k7 => k_is); (case k8 => k_is); (case k9 => k_get); (case k10 => k_handed); k_whole)))
local macro_rules | `(tactic| walk_at "setAttr ref") => `(tactic| (k_here; k_dflt (refine' Mine.set_exc ?k1 ?k2 ?k3 ?k4 ?k5 ?k6 ?k7 ?k8 ?k9 ?k10 ?k11 ?k12 ?k13 ?k14 ?k15 ?_; (case k1 => k_asm); (case k2 => k_asm); (case k3 => k_asm); (case k4 => k_inst); (case k5 => exact rfl); (case k6 => k_is); (case k7 => k_is); (case k8 => (intro self; (try dsimp only); (repeat rw [refuseLoop_ref]); exact PySem.F.store_Exception.passes self)); (case k9 => k_is); (case k10 => exact rfl); (case k11 => k_is); (case k12 => k_get); (case k13 => k_put); (case k14 => k_upd); (case k15 => exact Nat.le_of_ble_eq_true rfl); k_whole); intro h' F' N'; (try k_sweep)))
local macro_rules | `(tactic| walk_at "call builtin:getattr") => `(tactic| (k_here; k_dflt (refine' Mine.none_name ?hA ?k1 ?k2 ?_; (case hA => exact rfl); (case k1 => k_asm); (case k2 => k_asm)); intro h' tk' F' N'; (try k_sweep)))
local macro_rules | `(tactic| walk_at "call builtin:getattr") => `(tactic| (k_here; k_dflt (refine' Mine.name3 ?k1 ?k2 ?k3 _ ?k4 ?k5 ?k6 ?_; (case k1 => k_asm); (case k2 => k_asm); (case k3 => k_asm); (case k4 => k_mem); (case k5 => k_mem); (case k6 => assumption)); intro nt'))
local macro_rules | `(tactic| walk_at "eval Name") => `(tactic| (k_here; k_dflt (refine' ld ?k1 ?k2 ?_; (case k1 => k_asm); (case k2 => first | exact rfl | assumption); k_whole)))
local macro_rules | `(tactic| walk_at "call builtin:list.append") => `(tactic| (k_here; (show wpAny _ _ (call (Value.builtin _) [Value.ref _, _]) _ _ _); k_dflt (refine' append_K ?k1 ?k2 ?k3 ?_ ?z; (case k1 => k_asm); (case k2 => k_asm); (case k3 => k_upd); (case z => (rw [sizeLine_eq]; simp only [List.size_toArray]; omega)); k_whole); intro h' F' N'; (try k_sweep)))
local macro_rules | `(tactic| walk_at "getMethod ref") => `(tactic| (k_here; (with_reducible show wpAny _ _ (getMethod (Value.ref _) (Str.ofString "match_core") _) _ _ _); k_dflt (refine' Mine.core_method ?k1 ?k2 ?k3 _ ?k4 ?k5 ?k6 ?_; (case k1 => k_asm); (case k2 => k_asm); (case k3 => k_asm); (case k4 => k_mem); (case k5 => k_mem); (case k6 => assumption))))
local macro_rules | `(tactic| walk_at "loadName") => `(tactic| (refine' ldn ?k1 ?k2 ?_; (case k1 => assumption); (case k2 => first | exact rfl | assumption)))
local macro_rules | `(tactic| k_all) => `(tactic| first | exact Mine.allNe_c1 (by assumption) (by omega) | exact Mine.allNe_c2 (by assumption) (by omega) | exact Mine.allNe_c3 (by assumption) (by omega) | exact Mine.allNe_c4 (by assumption) (by omega) | exact Mine.allNe_c5 (by assumption) (by omega) | exact Mine.allNe_c6 (by assumption) (by omega) | exact Mine.allNe_c7 (by assumption) (by omega) | exact Mine.allNe_c8 (by assumption) (by omega))
local macro_rules | `(tactic| walk_at "truthy ref") => `(tactic| (k_here; (with_reducible show wpAny _ _ (truthy (Value.ref _)) _ _ _); k_dflt (refine' Mine.truthy_lst ?N ?m ?z ?b ?_; (case N => k_asm); (case m => k_mem); (case z => first | omega | (simp only [List.length_cons, List.length_nil]; omega)); (case b => first | assumption | exact (show _ = true from rfl) | exact (show _ = false from rfl)))))
local macro_rules | `(tactic| walk_at "compareOp Lt int float") => `(tactic| refine Mine.inf_lt ?_)
local macro_rules | `(tactic| walk_at "call builtin:len") => `(tactic| (k_here; (with_reducible show wpAny _ _ (call (Value.builtin "len") [Value.ref _]) _ _ _); k_dflt (refine' Mine.len_lst ?N ?m ?z ?_; (case N => k_asm); (case m => k_mem); (case z => first | omega | (simp only [List.length_cons, List.length_nil]; omega)))))
local macro_rules | `(tactic| walk_at "call ref") => `(tactic| (k_here; (with_reducible show wpAny _ _ (call (Value.ref 87) _) _ _ _); k_dflt (refine' Mine.call_exc ?F ?X ?N ?hC ?hB ?hA ?hN ?hi ?hf ?hself ?hz ?_; (case F => k_asm); (case X => k_asm); (case N => k_asm); (case hC => k_is); (case hB => decide +kernel); (case hA => decide +kernel); (case hN => decide +kernel); (case hi => k_is); (case hf => k_is); (case hself => k_is); (case hz => exact Nat.le_of_ble_eq_true rfl); k_whole); intro x' t' h' F' N' l1 l2; (try k_lt l1); (try k_lt2 l2); (try k_sweep); k_enter))
local macro_rules | `(tactic| walk_at "call ref") => `(tactic| (k_here; (with_reducible show wpAny _ _ (call (Value.ref 125) _) _ _ _); k_dflt (refine' Mine.call_exc ?F ?X ?N ?hC ?hB ?hA ?hN ?hi ?hf ?hself ?hz ?_; (case F => k_asm); (case X => k_asm); (case N => k_asm); (case hC => k_is); (case hB => decide +kernel); (case hA => decide +kernel); (case hN => decide +kernel); (case hi => k_is); (case hf => k_is); (case hself => k_is); (case hz => exact Nat.le_of_ble_eq_true rfl); k_whole); intro x' t' h' F' N' l1 l2; (try k_lt l1); (try k_lt2 l2); (try k_sweep); k_enter))
local macro_rules | `(tactic| walk_at "setAttr ref") => `(tactic| (k_here; k_dflt (refine' Mine.set_exc0 ?F ?X ?N ?hx ?hs ?hc ?hp ?hm ?hD ?ha ?_; (case F => k_asm); (case X => k_asm); (case N => k_asm); (case hx => k_all); (case hs => k_is); (case hc => k_is); (case hp => (intro self; (try dsimp only); (repeat rw [refuseLoop_ref]); exact PySem.F.store_Exception.passes self)); (case hm => k_is); (case hD => exact rfl); (case ha => k_is); k_whole); intro d' h' F' N' l1; (try k_lt l1); (try k_sweep)))
namespace Mine
theorem qua_inst {gr : Gr} {news : Led} {e y : Ex} (hnq : (e = .top ∧ y = .one) ∨ (e = .uZ ∧ y = .uS) ∨ (e = .lZ ∧ y = .lS)) {er ed : Addr} (ST : Stat gr er ed news) :
    ∃ ft it mt ep b c, (gr.xa e, ({ cls := .ref 489, dict := some (gr.xd e), data := .plain, slots := #[some (.float INF ft), some (.int 0 it), some (.ref mt), b, c] } : Obj)) ∈ news ∧ (mt, tupO [.ref (gr.xa y)] ep) ∈ news := by
  obtain ⟨sl, h1, -, h2⟩ := ST.inst e
  rcases hnq with ⟨rfl, rfl⟩ | ⟨rfl, rfl⟩ | ⟨rfl, rfl⟩ <;> (obtain ⟨ft, it, mt, ep, b, c, rfl, h3⟩ := h2; exact ⟨ft, it, mt, ep, b, c, h1, h3⟩)
structure QuaEnd (w : World) (R : Nat) (gr : Gr) (c er ed : Addr) (text : Str) (tt tp : Tok) (e : Ex) (p : Int) (news0 : Led) (rows0 : Rows) (D : Addr) (s : Shared) (g1 : Heap) (L1 : Addr) (Z : Int → List T → (Ex → Int → Prop) → Prop) (f : Flow) (s' : Shared) : Prop where
  out : f = Flow.next ∧ ∃ h tk m' q tq ts vs ckv' rows' rest, s' = { s with heap := h, toks := tk } ∧ Fr g1 L1 h m' ∧ News g1 L1 h ((D, lstO vs vs.length) :: rest) ∧
    LoopAt w R gr c er ed text tt tp e p news0 rows0 D q tq ts vs ckv' rows' m' rest ∧ vs.length ≤ 12 ∧ Z q ts (Keys rows')
structure QuaTurn (w : World) (R : Nat) (gr : Gr) (c er ed : Addr) (text : Str) (tt tp : Tok) (e : Ex) (p : Int) (news0 : Led) (rows0 : Rows) (D : Addr) (s : Shared) (g1 : Heap) (L1 : Addr) (I : Int → List T → (Ex → Int → Prop) → Prop) (n : Nat) (s' : Shared) : Prop where
  out : ∃ h tk m' q tq ts vs ckv' rows' rest szt, s' = { s with heap := h, toks := tk } ∧ Fr g1 L1 h m' ∧ News g1 L1 h ((D, lstO vs vs.length) :: rest) ∧
    LoopAt w R gr c er ed text tt tp e p news0 rows0 D q tq ts vs ckv' rows' m' rest ∧ m' (Str.ofString "size") = some (.int (text.length : Int) szt) ∧ I q ts (Keys rows') ∧ n = ((text.length : Int) - q).toNat
theorem un_qua {w : World} {mean : ExcName → Option Value} {mg mb : Str → Option Value} {gr : Gr} {c er ed : Addr} {text : Str} {e y : Ex} {p : Int} {tt tp : Tok} {R dU uU : Nat}
    (hnq : (e = .top ∧ y = .one) ∨ (e = .uZ ∧ y = .uS) ∨ (e = .lZ ∧ y = .lS)) (htx : text.length ≤ 12)
    {I : Int → List T → (Ex → Int → Prop) → Prop} {Fn : Int → List T → (Ex → Int → Prop) → Prop}
    (hI : ∀ q ts K, I q ts K → 0 ≤ q ∧ q ≤ (text.length : Int) ∧ (ts.length : Int) ≤ q)
    (hM : ∀ q tq ts ckv rows, I q ts (Keys rows) → q < (text.length : Int) → Spec w mean mg mb 297 [.ref (gr.xa y), .str text tt, .int q tq, .ref c, .ref er] dU uU
      (fun news => St w R gr c ed text news ckv rows ∧ Stat gr er ed news)
      (fun news r news' => ∃ ckv' rows' res, St w R gr c ed text news' ckv' rows' ∧ Keep news news' ∧ Grow rows rows' ∧ ResOk gr text news news' r res ∧
        match res with | none => Fn q ts (Keys rows') | some (.node e' s t cs) => s = q ∧ q < t ∧ I t (ts ++ [.node e' s t cs]) (Keys rows')))
    (ckv : KV) (rows : Rows) (h0 : I p [] (Keys rows)) :
    Spec w mean mg mb 478 [.ref (gr.xa e), .str text tt, .int p tp, .ref c, .ref er] (dU + 6) (uU + 60)
      (fun news => St w R gr c ed text news ckv rows ∧ Stat gr er ed news)
      (fun news r news' => ∃ ckv' rows' res, St w R gr c ed text news' ckv' rows' ∧ Keep news news' ∧ Grow rows rows' ∧ ResOk gr text news news' r res ∧
        ∃ q ts, res = some (.node e p q ts) ∧ ((¬ q < (text.length : Int) ∧ I q ts (Keys rows')) ∨ (q < (text.length : Int) ∧ Fn q ts (Keys rows')))) := by
  intro dp un gd cn cs a ccd cl outer A₀ base h₀ L m news s Q E B F X N T hk hPre hdd huu hret
  obtain ⟨S, ST⟩ := hPre
  obtain ⟨ft, iit, mt, mep, lb, lc, hin, hmt⟩ := qua_inst hnq ST
  obtain ⟨es, en, hxd, hum, -⟩ := own_dict S e
  w_top off; w_on
  refine wpAny_call ?_
  w_strict (k_dflt (refine' code_def ?k1 ?k2 ?k3 ?k4 ?k5 ?kA ?kF ?kK ?k6 ?k7 ?k8 ?k9 ?kB ?_ ?c2 ?c3 ?c4 ?c5; (case kA => exact rfl); (case kF => exact rfl); (case kK => assumption); (case k1 => k_asm); (case k2 => k_asm); (case k3 => k_asm); (case k4 => k_asm); (case k5 => k_asm); (case k6 => k_is); (case k7 => k_is); (case k8 => ktr_room); (case k9 => exact BindsTo.of_eq rfl); (case c5 => decide); (case kB => exact locs rfl); (case c2 => exact rfl); (case c3 => exact rfl); (case c4 => exact rfl); k_whole); intro g1 L1 h1 FG1 F1 N1 B1 X1 T1; (try dsimp only); (try k_fold))
  w_strict (iterate 22 (first | (k_unfold; (try dsimp only)) | (k_end; wrow_close) | walk1 | (dsimp only; walk1) | (leave1; walk_say "STEP leave1"; try dsimp only) | fail "no step"))
  rename ∀ p ∈ news, p.1 < _ => hl0
  rename Addr => D0
  have hfresh : ∀ q ∈ news, q.1 ≠ D0 := fun q hq => Nat.ne_of_lt (hl0 q hq)
  refine wpAny_mono (Q := QuaEnd w R gr c er ed text tt tp e p news rows D0 s g1 L1 fun q ts K => (¬ q < (text.length : Int) ∧ I q ts K) ∨ (q < (text.length : Int) ∧ Fn q ts K)) (E := fun _ _ => False)
    (wpAny_While (codeAny_whileLoop (QuaTurn w R gr c er ed text tt tp e p news rows D0 s g1 L1 I) ?turn ((text.length : Int) - p).toNat ?hJ)) ?fin (fun _ _ x => x.elim)
  case hJ =>
    exact ⟨_, _, _, p, tp, [], [], ckv, rows, news, _, rfl, by assumption, by assumption, ⟨rfl, rfl, rfl, rfl, rfl, rfl, rfl, S.mono fun q hq => by simp [hq], Keep.of_sub fun q hq => by simp [hq], Grow.refl _, .nil, hfresh, hfresh⟩, rfl, h0, rfl⟩
  case turn =>
    rintro n s' ⟨h, tk, m', q, tq, ts, vs, ckv', rows', rest, szt, rfl, F9, N9, J, jsz, hi, rfl⟩
    obtain ⟨js, jt, jp, jc, je, jn, jd, JS, JK, JG, JT, Joff, Jnew⟩ := J
    have hvs := JT.length
    obtain ⟨hq0, hq1, hq2⟩ := hI _ _ _ hi
    have hvl : vs.length ≤ 12 := by omega
    have hin9 := JK.same _ hin (ref_nd _)
    have hmt9 := JK.same _ hmt tup_nd
    obtain ⟨es9, en9, hxd9, -, -⟩ := own_dict JS e
    have ST9 := ST.keep JK
    obtain ⟨sly, hiny, -, -⟩ := ST9.inst y
    obtain ⟨esy, eny, hxdy, -, humy⟩ := own_dict JS y
    unfold InstOk at hiny
    w_strict (k_sweep; iterate 8 (first | (k_unfold; (try dsimp only)) | (k_end; wrow_close) | walk1 | (dsimp only; walk1) | (leave1; walk_say "STEP leave1"; try dsimp only) | fail "no step"))
    · w_strict (iterate 39 (first | (k_unfold; (try dsimp only)) | (k_end; wrow_close) | walk1 | (dsimp only; walk1) | (leave1; walk_say "STEP leave1"; try dsimp only) | fail "no step"))
      have hql : q < (text.length : Int) := by assumption
      refine Spec.use B1 (by assumption) X1 (by assumption) T1 rfl (hM q tq ts _ _ hi hql) ⟨JS, ST9⟩ (by ktr_room) (by ktr_units) ?_
      rintro r news4 h4 tk4 F4 N4 ⟨ckv4, rows4, res, S4, K4, G4, hres, hur⟩
      have hD4 : (D0, lstO vs vs.length) ∈ news4 := K4.same _ (.head _) lst_nd
      obtain ⟨rest5, N5, hrs5, hro5, hrin5, hrall5⟩ := relist N4 [(D0, lstO vs vs.length)] (by simp [hD4])
      simp only [List.cons_append, List.nil_append] at N5 hrall5
      have hoD5 : ∀ q ∈ rest5, q.1 ≠ D0 := fun q hq => hro5 (D0, lstO vs vs.length) (by simp) q hq
      have S5 := S4.mono hrall5
      have K0 := K4.trans (Keep.of_sub hrall5)
      have hts5 : IsTs gr text ((D0, lstO [] 0) :: news) ((D0, lstO vs vs.length) :: rest5) vs ts := JT.keep K0
      cases res with
      | none =>
        cases hres
        w_strict (k_sweep; repeat' (first | (k_unfold; (try dsimp only)) | (k_end; wrow_close) | walk1 | (dsimp only; walk1) | (leave1; walk_say "STEP leave1"; try dsimp only) | fail "no step"))
        with_reducible rename News _ _ _ _ => N6
        with_reducible rename Fr _ _ _ _ => F6
        refine ⟨rfl, _, _, _, q, tq, ts, vs, ckv4, rows4, rest5, rfl, F6, N6, ⟨?_, ?_, ?_, ?_, ?_, ?_, ?_, S5, JK.trans K0, JG.trans G4, hts5, hoD5, Jnew⟩, hvl, .inr ⟨hql, hur⟩⟩ <;> first | assumption | exact rfl
      | some T0 =>
        cases hres with
        | @mk na nl nd nod ne ns nt nts ntt ntx nvs ncs nep hn1 hn2 hn3 hn4 hn5 hn8 hn6 hn7 =>
        have hn1' : (na, _) ∈ rest5 := hrin5 _ hn1 (by simpa using (hn4 (D0, _) (.head _)).symm)
        have hn2' : (nd, nod) ∈ rest5 := hrin5 _ hn2 (by simpa using (hn8 (D0, _) (.head _)).symm)
        obtain ⟨rfl, hlt, hi'⟩ := hur
        have hne0 : ¬ (nt - ns = 0) := by omega
        have hin5 : (gr.xa e, _) ∈ rest5 := mem_rest (K0.same _ hin9 (ref_nd _)) (Mine.News.ne N5 (o := { cls := .ref 489, dict := some (gr.xd e), data := .plain, slots := #[some (.float INF ft), some (.int 0 iit), some (.ref mt), lb, lc] }) (K0.same _ hin9 (ref_nd _)) (.head _) (by simp))
        obtain ⟨es5, en5, hxd5, -, -⟩ := own_dict S5 e
        replace hxd5 := mem_rest hxd5 (Mine.News.ne N5 (o := dictOf es5 en5) hxd5 (.head _) (by simp))
        w_strict (k_sweep; iterate 21 (first | (k_unfold; (try dsimp only)) | (k_end; wrow_close) | walk1 | (dsimp only; walk1) | (leave1; walk_say "STEP leave1"; try dsimp only) | fail "no step"))
        with_reducible rename News _ _ _ _ => N6
        have hpush : W.listOf (vs.toArray.push (Value.ref na)) (vs.length + 1) = lstO (vs ++ [.ref na]) (vs ++ [Value.ref na]).length := by simp
        rw [hpush] at N6
        have hvl2 : (vs ++ [Value.ref na]).length ≤ 13 := by simp; omega
        have hlu : ∀ q ∈ ((D0, lstO vs vs.length) :: rest5 : Led), q.1 ≠ D0 → q ∈ ((D0, lstO (vs ++ [.ref na]) (vs ++ [Value.ref na]).length) :: rest5 : Led) := fun q hq hn => .tail _ (mem_rest hq hn)
        have K6 : Keep news ((D0, lstO (vs ++ [.ref na]) (vs ++ [Value.ref na]).length) :: rest5) := by
          have K05 := JK.trans K0
          refine ⟨fun q hq hn => hlu q (K05.same q hq hn) (Jnew q hq), fun q hq => ?_⟩
          obtain ⟨ob, h1, h2⟩ := K05.dom q hq
          exact ⟨ob, hlu (q.1, ob) h1 (Jnew q hq), h2⟩
        have hts6 : IsTs gr text ((D0, lstO [] 0) :: news) ((D0, lstO (vs ++ [.ref na]) (vs ++ [Value.ref na]).length) :: rest5) vs ts :=
          hts5.sub fun q hq hz => hlu q hq (hz (D0, lstO [] 0) (.head _)).symm
        have ht4 : IsT gr text ((D0, lstO vs vs.length) :: rest) news4 (.ref na) (.node ne ns nt ncs) := .mk hn1 hn2 hn3 hn4 hn5 hn8 hn6 hn7
        have ht6 : IsT gr text ((D0, lstO [] 0) :: news) ((D0, lstO (vs ++ [.ref na]) (vs ++ [Value.ref na]).length) :: rest5) (.ref na) (.node ne ns nt ncs) := by
          refine IsT.le (B := (D0, lstO vs vs.length) :: rest) ?_ (ht4.sub fun q hq hz => ?_)
          · intro q hq
            rcases List.mem_cons.mp hq with rfl | hq
            · exact ⟨_, .head _⟩
            · obtain ⟨ob, h1, -⟩ := JK.dom q hq
              exact ⟨ob, h1⟩
          · exact hlu q (hrall5 q hq) (hz (D0, _) (.head _)).symm
        have S6 : St w R gr c ed text ((D0, lstO (vs ++ [.ref na]) (vs ++ [Value.ref na]).length) :: rest5) ckv4 rows4 := S5.sub fun q hq hc => by
          rcases List.mem_cons.mp hq with rfl | h
          · rcases hc with h | h <;> simp at h
          · exact .tail _ h
        w_strict (iterate 36 (first | (k_unfold; (try dsimp only)) | (k_end; wrow_close) | walk1 | (dsimp only; walk1) | (leave1; walk_say "STEP leave1"; try dsimp only) | fail "no step"))
        · exact absurd (by assumption) hne0
        · w_strict (iterate 9 (first | (k_unfold; (try dsimp only)) | (k_end; wrow_close) | walk1 | (dsimp only; walk1) | (leave1; walk_say "STEP leave1"; try dsimp only) | fail "no step"))
          with_reducible rename News _ _ _ _ => N7
          with_reducible rename Fr _ _ _ _ => F7
          have hqn : ns + (nt - ns) = nt := by omega
          rw [hqn] at F7
          dsimp only
          refine ⟨((text.length : Int) - nt).toNat, by omega, ⟨_, _, _, nt, _, ts ++ [.node ne ns nt ncs], vs ++ [.ref na], ckv4, rows4, rest5, szt, rfl, F7, N7, ⟨?_, ?_, ?_, ?_, ?_, rfl, ?_, S6, K6, JG.trans G4, hts6.snoc ht6, hoD5, Jnew⟩, ?_, hi', rfl⟩⟩ <;> first | assumption | exact rfl
    · have hql : ¬ q < (text.length : Int) := by assumption
      w_strict (k_sweep; repeat' (first | (k_unfold; (try dsimp only)) | (k_end; wrow_close) | walk1 | (dsimp only; walk1) | (leave1; walk_say "STEP leave1"; try dsimp only) | fail "no step"))
      with_reducible rename News _ _ _ _ => N6
      with_reducible rename Fr _ _ _ _ => F6
      exact ⟨rfl, _, _, _, q, tq, ts, vs, ckv', rows', rest, rfl, F6, N6, ⟨js, jt, jp, jc, je, jn, jd, JS, JK, JG, JT, Joff, Jnew⟩, hvl, .inl ⟨hql, hi⟩⟩
  case fin =>
    rintro f s' ⟨rfl, h, tk, m', q, tq, ts, vs, ckv', rows', rest, rfl, F9, N9, J, hvl, hz⟩
    obtain ⟨js, jt, jp, jc, je, jn, jd, JS, JK, JG, JT, Joff, Jnew⟩ := J
    have hin9 := mem_rest (JK.same _ hin (ref_nd _)) (Jnew _ hin).symm.symm
    obtain ⟨es9, en9, hxd9, -, -⟩ := own_dict JS e
    replace hxd9 := mem_rest hxd9 (Mine.News.ne N9 (o := dictOf es9 en9) hxd9 (.head _) (by simp))
    dsimp only
    cases vs with
    | nil =>
      w_strict (k_sweep; repeat' (first | (k_unfold; (try dsimp only)) | (k_end; wrow_close) | walk1 | (dsimp only; walk1) | (leave1; walk_say "STEP leave1"; try dsimp only) | fail "no step"))
      with_reducible rename News _ _ _ _ => N6
      with_reducible rename Fr _ _ _ _ => F6
      rename _ < _ ∧ _ < _ ∧ _ < _ ∧ AllLt _ _ => hll
      rename _ < _ ∧ AllLt _ _ => hl9
      rename _ < _ => hlx
      have hd9 := dom_lt JK hl9.1 hl9.2
      have hll9 := dom_lt JK hll.2.2.1 hll.2.2.2
      cases JT
      refine hret _ _ _ _ F6 N6 ⟨_, _, some (.node e p q []), JS.mono fun q hq => .tail _ (.tail _ (.tail _ hq)), JK.trans (Keep.of_sub fun q hq => .tail _ (.tail _ (.tail _ hq))), JG, ?_, q, [], rfl, hz⟩
      exact IsT.mk (vs := []) (ep := 0) (.tail _ (.head _)) (.tail _ (.tail _ (.head _))) (.head _) (fun q hq => Nat.ne_of_lt (Nat.lt_trans (hd9 q hq) hlx)) (fun q hq => Nat.ne_of_lt (hll9 q hq)) (fun q hq => Nat.ne_of_lt (hd9 q hq)) (by simp) .nil
    | cons v vs' =>
      w_strict (k_sweep; repeat' (first | (k_unfold; (try dsimp only)) | (k_end; wrow_close) | walk1 | (dsimp only; walk1) | (leave1; walk_say "STEP leave1"; try dsimp only) | fail "no step"))
      with_reducible rename News _ _ _ _ => N6
      with_reducible rename Fr _ _ _ _ => F6
      rename _ < _ ∧ AllLt _ _ => hl9
      rename _ < _ => hlx
      have hd9 := dom_lt JK hl9.1 hl9.2
      refine hret _ _ _ _ F6 N6 ⟨_, _, some (.node e p q ts), JS.mono fun q hq => .tail _ (.tail _ hq), JK.trans (Keep.of_sub fun q hq => .tail _ (.tail _ hq)), JG, ?_, q, ts, rfl, hz⟩
      refine IsT.mk (vs := v :: vs') (ep := (v :: vs').length) (.head _) (.tail _ (.head _)) (.tail _ (.tail _ (.head _))) (fun q hq => Nat.ne_of_lt (Nat.lt_trans (hd9 q hq) hlx)) Jnew (fun q hq => Nat.ne_of_lt (hd9 q hq)) (by omega) ?_
      exact IsTs.keep (Keep.of_sub fun q hq => .tail _ (.tail _ hq)) (IsTs.le (fun q hq => ⟨_, .tail _ hq⟩) JT)
end Mine
end

section
-- part Pl
open PySem PySem.Spec PySem.Calls PySem.W PyProof.Rows
set_option linter.unusedVariables false
namespace Mine
/-- the letter at a place: true is `a` -/
def upAt (tx : Str) (k : Int) : Bool := tx.cps[k.toNat]? == some 97
def AB (tx : Str) : Prop := ∀ i, i < tx.length → tx.cps[i]? = some 97 ∨ tx.cps[i]? = some 98
def hN (tx : Str) : Nat → Int
  | 0 => 0
  | n + 1 => hN tx n + (if tx.cps[n]? == some 97 then 1 else -1)
def hh (tx : Str) (k : Int) : Int := hN tx k.toNat
theorem hh_succ (tx : Str) {k : Int} (hk : 0 ≤ k) : hh tx (k + 1) = hh tx k + (if upAt tx k then 1 else -1) := by
  obtain ⟨n, rfl⟩ : ∃ n : Nat, k = n := ⟨k.toNat, by omega⟩
  show hN tx ((n : Int) + 1).toNat = _
  rw [show ((n : Int) + 1).toNat = n + 1 from by omega]
  show hN tx n + _ = hN tx ((n : Int)).toNat + _
  unfold upAt
  rw [show ((n : Int)).toNat = n from by omega]
abbrev sg (g : Bool) : Int := if g then 1 else -1
theorem extract_one (a : Array Nat) (n c : Nat) : (n + 1 ≤ a.size ∧ a.extract n (n + 1) = #[c]) ↔ a[n]? = some c := by
  constructor
  · rintro ⟨h1, h2⟩
    have h3 : (a.extract n (n + 1))[0]? = some c := by rw [h2]; rfl
    rw [Array.getElem?_extract] at h3
    simpa [show min (n + 1) a.size - n = 1 by omega] using h3
  · intro h
    obtain ⟨h1, h2⟩ := Array.getElem?_eq_some_iff.mp h
    refine ⟨h1, Array.ext (by simp; omega) fun i hi1 hi2 => ?_⟩
    have : i = 0 := by simp at hi2; omega
    subst this
    simp [h2]
def Ex.cp (e : Ex) : Nat := if e = .uA ∨ e = .lB then 97 else 98
theorem lit_cps (e : Ex) : e.lit.cps = #[e.cp] := by cases e <;> decide
theorem litRes_of (tx : Str) (e : Ex) {p : Int} (hp : 0 ≤ p) : litRes e tx p = if tx.cps[p.toNat]? = some e.cp then some (.node e p (p + 1) []) else none := by
  unfold litRes
  have : Txt.startswith3 tx e.lit p = true ↔ tx.cps[p.toNat]? = some e.cp := by
    rw [← extract_one]
    unfold Txt.startswith3 fromIndex Builtin.Str.subAt
    rw [Bool.and_eq_true, decide_eq_true_eq, beq_iff_eq, lit_len, lit_cps, if_neg (by omega), show (max 0 p).toNat = p.toNat by omega]
    rfl
  simp only [this]
theorem cpA (g : Bool) : (eA g).cp = if g then 97 else 98 := by cases g <;> rfl
theorem cpB (g : Bool) : (eB g).cp = if g then 98 else 97 := by cases g <;> rfl
/-- the letter of a rule stands at a place -/
abbrev At (tx : Str) (g : Bool) (k : Int) : Prop := k < (tx.length : Int) ∧ upAt tx k = g
theorem at_iff {tx : Str} (ab : AB tx) {p : Int} (hp : 0 ≤ p) (g : Bool) : tx.cps[p.toNat]? = some (if g then 97 else 98) ↔ At tx g p := by
  show _ ↔ (p < (tx.length : Int) ∧ (tx.cps[p.toNat]? == some 97) = g)
  constructor
  · intro h
    obtain ⟨h1, h2⟩ := Array.getElem?_eq_some_iff.mp h
    refine ⟨by show p < (tx.cps.size : Int); omega, ?_⟩
    rw [h]; cases g <;> rfl
  · rintro ⟨h1, h2⟩
    rcases ab p.toNat (by omega) with h | h <;> rw [h] at h2 ⊢ <;> subst h2 <;> rfl
theorem litA {tx : Str} (ab : AB tx) {p : Int} (hp : 0 ≤ p) (g : Bool) : (At tx g p ∧ litRes (eA g) tx p = some (.node (eA g) p (p + 1) [])) ∨ (¬ At tx g p ∧ litRes (eA g) tx p = none) := by
  rw [litRes_of tx _ hp, cpA]
  by_cases h : At tx g p
  · exact .inl ⟨h, if_pos ((at_iff ab hp g).mpr h)⟩
  · exact .inr ⟨h, if_neg fun z => h ((at_iff ab hp g).mp z)⟩
theorem litB {tx : Str} (ab : AB tx) {p : Int} (hp : 0 ≤ p) (g : Bool) : (At tx (!g) p ∧ litRes (eB g) tx p = some (.node (eB g) p (p + 1) [])) ∨ (¬ At tx (!g) p ∧ litRes (eB g) tx p = none) := by
  rw [litRes_of tx _ hp, cpB]
  have e : (if g = true then 98 else 97) = (if (!g) = true then 97 else 98) := by cases g <;> rfl
  rw [e]
  by_cases h : At tx (!g) p
  · exact .inl ⟨h, if_pos ((at_iff ab hp _).mpr h)⟩
  · exact .inr ⟨h, if_neg fun z => h ((at_iff ab hp _).mp z)⟩

abbrev Tri := Int × Int × Str
mutual
/-- the rules in a tree, a node ahead of its children -/
def rulesT : T → List Tri
  | .node e s t cs => (if e.nm = Str.ofString "" then [] else [(s, t, e.nm)]) ++ rulesTs cs
def rulesTs : List T → List Tri
  | [] => []
  | c :: cs => rulesT c ++ rulesTs cs
end
mutual
/-- the rules in a tree, a node behind its children -/
def postT : T → List Tri
  | .node e s t cs => postTs cs ++ (if e.nm = Str.ofString "" then [] else [(s, t, e.nm)])
def postTs : List T → List Tri
  | [] => []
  | c :: cs => postT c ++ postTs cs
end
mutual
def deepT : T → Int
  | .node e s t cs => deepTs cs + (if e.nm = Str.ofString "" then 0 else 1)
def deepTs : List T → Int
  | [] => 0
  | c :: cs => max (deepT c) (deepTs cs)
end
mutual
theorem perm_T : ∀ t, (rulesT t).Perm (postT t)
  | .node e s t cs => by
    unfold rulesT postT
    exact List.perm_append_comm.trans ((perm_Ts cs).append_right _)
theorem perm_Ts : ∀ ts, (rulesTs ts).Perm (postTs ts)
  | [] => .refl _
  | c :: cs => by
    unfold rulesTs postTs
    exact (perm_T c).append (perm_Ts cs)
end
/-- one step of the stack; the top stands first -/
def pstep (tx : Str) (S : List Int × List Tri) (k : Int) : List Int × List Tri :=
  match S.1 with
  | [] => ([k], S.2)
  | f :: r => if upAt tx f ≠ upAt tx k then (r, S.2 ++ [(f, k + 1, (eS (upAt tx f)).nm)]) else (k :: f :: r, S.2)
def prun (tx : Str) : Nat → Int → List Int × List Tri → List Int × List Tri
  | 0, _, S => S
  | n + 1, k, S => prun tx n (k + 1) (pstep tx S k)
theorem prun_add (tx : Str) : ∀ (m n : Nat) (k : Int) (S), prun tx (m + n) k S = prun tx n (k + m) (prun tx m k S)
  | 0, n, k, S => by simp [prun]
  | m + 1, n, k, S => by
    rw [Nat.add_right_comm]
    show prun tx (m + n) (k + 1) (pstep tx S k) = prun tx n (k + (m + 1 : Nat)) (prun tx m (k + 1) (pstep tx S k))
    rw [prun_add tx m n]
    congr 1
    omega
def TopOk (tx : Str) (g : Bool) (st : List Int) : Prop := ∀ f r, st = f :: r → upAt tx f = g

/-- what a rule's node says -/
structure NodeS (tx : Str) (g : Bool) (p : Int) (e : Ex) (s t : Int) (cs : List T) : Prop where
  ex : e = eS g
  sx : s = p
  at_ : At tx g p
  lt : p < t
  le : t ≤ (tx.length : Int)
  back : hh tx t = hh tx p
  mid : ∀ k, p < k → k < t → 0 < sg g * (hh tx k - hh tx p)
  run : ∀ st fd, TopOk tx g st → prun tx (t - p).toNat p (st, fd) = (st, fd ++ postT (.node e s t cs))
  starts : (∀ x ∈ rulesT (.node e s t cs), p ≤ x.1 ∧ x.1 < t) ∧ (rulesT (.node e s t cs)).Pairwise fun a b => a.1 < b.1
  deep : (∀ k, p ≤ k → k ≤ t → sg g * (hh tx k - hh tx p) ≤ deepT (.node e s t cs)) ∧ ∃ k, p ≤ k ∧ k ≤ t ∧ sg g * (hh tx k - hh tx p) = deepT (.node e s t cs)
def NoS (tx : Str) (g : Bool) (p : Int) : Prop := At tx g p → ∀ k, p < k → k ≤ (tx.length : Int) → 0 < sg g * (hh tx k - hh tx p)
structure RunZ (tx : Str) (g : Bool) (p : Int) (ts : List T) (q : Int) : Prop where
  le : p ≤ q
  len : q ≤ (tx.length : Int)
  back : hh tx q = hh tx p
  mid : ∀ k, p ≤ k → k ≤ q → 0 ≤ sg g * (hh tx k - hh tx p)
  last : NoS tx g q
  run : ∀ st fd, TopOk tx g st → prun tx (q - p).toNat p (st, fd) = (st, fd ++ postTs ts)
  starts : (∀ x ∈ rulesTs ts, p ≤ x.1 ∧ x.1 < q) ∧ (rulesTs ts).Pairwise fun a b => a.1 < b.1
  deep : (∀ k, p ≤ k → k ≤ q → sg g * (hh tx k - hh tx p) ≤ deepTs ts) ∧ ∃ k, p ≤ k ∧ k ≤ q ∧ sg g * (hh tx k - hh tx p) = deepTs ts
theorem sgB (g : Bool) {tx : Str} {p : Int} (hp : 0 ≤ p) (h : upAt tx p = g) : sg g * (hh tx (p + 1) - hh tx p) = 1 := by
  rw [hh_succ tx hp, h]; cases g <;> simp [sg] <;> omega
theorem sgN (g : Bool) {tx : Str} {p : Int} (hp : 0 ≤ p) (h : upAt tx p = !g) : sg g * (hh tx (p + 1) - hh tx p) = -1 := by
  rw [hh_succ tx hp, h]; cases g <;> simp [sg] <;> omega
theorem sg_add (g : Bool) (a b c : Int) : sg g * (a - c) = sg g * (a - b) + sg g * (b - c) := by cases g <;> simp [sg] <;> omega
theorem sg_zero (g : Bool) (a b : Int) (h : a = b) : sg g * (a - b) = 0 := by subst h; cases g <;> simp [sg] 
theorem sg_eq (g : Bool) (a b : Int) (h : sg g * (a - b) = 0) : a = b := by cases g <;> simp [sg] at h <;> omega
theorem nm_eS (g : Bool) : (eS g).nm ≠ Str.ofString "" := by cases g <;> decide
theorem nm_eA (g : Bool) : (eA g).nm = Str.ofString "" := by cases g <;> rfl
theorem nm_eB (g : Bool) : (eB g).nm = Str.ofString "" := by cases g <;> rfl
theorem nm_eZ (g : Bool) : (eZ g).nm = Str.ofString "" := by cases g <;> rfl
theorem run_z {tx : Str} {g : Bool} {p : Int} (hp : 0 ≤ p) (hl : p ≤ (tx.length : Int)) (h : NoS tx g p) : RunZ tx g p [] p := by
  refine ⟨Int.le_refl _, hl, rfl, fun k h1 h2 => ?_, h, fun st fd _ => ?_, ⟨nofun, .nil⟩, fun k h1 h2 => ?_, p, Int.le_refl _, Int.le_refl _, ?_⟩
  · rw [show k = p by omega, sg_zero g _ _ rfl]; omega
  · simp [prun, postTs]
  · rw [show k = p by omega, sg_zero g _ _ rfl]; exact Int.le_refl _
  · rw [sg_zero g _ _ rfl]; rfl
theorem run_step {tx : Str} {g : Bool} {p t q : Int} {e : Ex} {cs ts : List T} (hp : 0 ≤ p) (a : NodeS tx g p e p t cs) (z : RunZ tx g t ts q) : RunZ tx g p (.node e p t cs :: ts) q := by
  have h1 := a.lt
  have h2 := z.le
  have hsum : ∀ k, sg g * (hh tx k - hh tx p) = sg g * (hh tx k - hh tx t) := fun k => by rw [a.back]
  refine ⟨by omega, z.len, z.back.trans a.back, fun k k1 k2 => ?_, z.last, fun st fd hs => ?_, ⟨fun x hx => ?_, ?_⟩, fun k k1 k2 => ?_, ?_⟩
  · by_cases hk : k < t
    · by_cases hk' : p < k
      · exact Int.le_of_lt (a.mid k hk' hk)
      · rw [show k = p by omega, sg_zero g _ _ rfl]; omega
    · rw [hsum]; exact z.mid k (by omega) k2
  · rw [show (q - p).toNat = (t - p).toNat + (q - t).toNat by omega, prun_add, a.run st fd hs, show p + ((t - p).toNat : Int) = t by omega, z.run _ _ hs]
    rw [show postTs (.node e p t cs :: ts) = postT (.node e p t cs) ++ postTs ts from by simp [postTs], List.append_assoc]
  · unfold rulesTs at hx
    rcases List.mem_append.mp hx with hx | hx
    · have := a.starts.1 x hx; omega
    · have := z.starts.1 x hx; omega
  · unfold rulesTs
    refine List.pairwise_append.mpr ⟨a.starts.2, z.starts.2, fun x hx y hy => ?_⟩
    have := a.starts.1 x hx
    have := z.starts.1 y hy
    omega
  · unfold deepTs
    by_cases hk : k ≤ t
    · have := a.deep.1 k k1 hk; omega
    · rw [hsum]; have := z.deep.1 k (by omega) k2; omega
  · unfold deepTs
    obtain ⟨k1, a1, a2, a3⟩ := a.deep.2
    obtain ⟨k2, b1, b2, b3⟩ := z.deep.2
    by_cases h : deepT (.node e p t cs) ≤ deepTs ts
    · exact ⟨k2, by omega, by omega, by rw [hsum, b3]; omega⟩
    · exact ⟨k1, by omega, by omega, by rw [a3]; omega⟩
theorem node_ok {tx : Str} {g : Bool} {p q : Int} {ts : List T} (hp : 0 ≤ p) (ha : At tx g p) (z : RunZ tx g (p + 1) ts q) (hb : At tx (!g) q) :
    NodeS tx g p (eS g) p (q + 1) [.node (eA g) p (p + 1) [], .node (eZ g) (p + 1) q ts, .node (eB g) q (q + 1) []] := by
  have h2 := z.le
  have h3 := hb.1
  have one := sgB g hp ha.2
  have hq := sgN g (show 0 ≤ q by omega) hb.2
  have hz : ∀ k, sg g * (hh tx k - hh tx p) = sg g * (hh tx k - hh tx (p + 1)) + 1 := fun k => by rw [sg_add g (hh tx k) (hh tx (p + 1)) (hh tx p), one]
  have hpost : postT (.node (eS g) p (q + 1) [.node (eA g) p (p + 1) [], .node (eZ g) (p + 1) q ts, .node (eB g) q (q + 1) []]) = postTs ts ++ [(p, q + 1, (eS g).nm)] := by
    simp [postT, postTs, nm_eS, nm_eA, nm_eB, nm_eZ]
  have hrul : rulesT (.node (eS g) p (q + 1) [.node (eA g) p (p + 1) [], .node (eZ g) (p + 1) q ts, .node (eB g) q (q + 1) []]) = (p, q + 1, (eS g).nm) :: rulesTs ts := by
    simp [rulesT, rulesTs, nm_eS, nm_eA, nm_eB, nm_eZ]
  have h0 : 0 ≤ deepTs ts := by
    have := z.deep.1 (p + 1) (Int.le_refl _) h2
    rw [sg_zero g _ _ rfl] at this
    exact this
  have hdp : deepT (.node (eS g) p (q + 1) [.node (eA g) p (p + 1) [], .node (eZ g) (p + 1) q ts, .node (eB g) q (q + 1) []]) = deepTs ts + 1 := by
    simp only [deepT, deepTs, nm_eS, nm_eA, nm_eB, nm_eZ, if_true, if_false]
    omega
  refine ⟨rfl, rfl, ha, by omega, by omega, ?_, fun k k1 k2 => ?_, fun st fd hs => ?_, ⟨fun x hx => ?_, ?_⟩, fun k k1 k2 => ?_, ?_⟩
  · refine sg_eq g _ _ ?_
    rw [sg_add g _ (hh tx q), hq, hz, sg_zero g _ _ z.back]
    rfl
  · rw [hz]; have := z.mid k (by omega) (by omega); omega
  · rw [hpost, show (q + 1 - p).toNat = 1 + ((q - (p + 1)).toNat + 1) by omega, prun_add]
    have e1 : prun tx 1 p (st, fd) = (p :: st, fd) := by
      show pstep tx (st, fd) p = _
      unfold pstep
      cases st with
      | nil => rfl
      | cons f r => dsimp only; rw [if_neg]; rw [hs f r rfl, ha.2]; simp
    rw [e1, prun_add, show p + ((1 : Nat) : Int) = p + 1 by omega, z.run (p :: st) fd (fun f r h => by injection h with h1 h2; rw [← h1]; exact ha.2), show p + 1 + ((q - (p + 1)).toNat : Int) = q by omega]
    show pstep tx (p :: st, fd ++ postTs ts) q = _
    unfold pstep
    dsimp only
    rw [if_pos (by rw [ha.2, hb.2]; cases g <;> decide), ha.2, List.append_assoc]
  · rw [hrul] at hx
    rcases List.mem_cons.mp hx with rfl | hx
    · exact ⟨Int.le_refl _, by show p < q + 1; omega⟩
    · have := z.starts.1 x hx; omega
  · rw [hrul]
    refine List.pairwise_cons.mpr ⟨fun x hx => ?_, z.starts.2⟩
    have := z.starts.1 x hx
    show p < x.1
    omega
  · rw [hdp]
    by_cases hk : k = p
    · subst hk; rw [sg_zero g _ _ rfl]; omega
    · by_cases hk' : k ≤ q
      · rw [hz]; have := z.deep.1 k (by omega) hk'; omega
      · rw [show k = q + 1 by omega, sg_add g _ (hh tx q), hq, hz, sg_zero g _ _ z.back]; omega
  · rw [hdp]
    obtain ⟨k, a1, a2, a3⟩ := z.deep.2
    exact ⟨k, by omega, by omega, by rw [hz, a3]⟩
theorem no_ok {tx : Str} {g : Bool} {p q : Int} {ts : List T} (ab : AB tx) (hp : 0 ≤ p) (z : RunZ tx g (p + 1) ts q) (hb : ¬ At tx (!g) q) : NoS tx g p := by
  intro ha k k1 k2
  have one := sgB g hp ha.2
  rw [sg_add g _ (hh tx (p + 1)), one]
  by_cases hk : k ≤ q
  · have := z.mid k (by omega) hk; omega
  · have hq : At tx g q := ⟨by omega, by
      by_cases h : upAt tx q = g
      · exact h
      · exact absurd ⟨by omega, by revert h; cases upAt tx q <;> cases g <;> simp⟩ hb⟩
    have := z.last hq k (by omega) k2
    rw [z.back] at this
    omega
mutual
theorem rs_law {tx : Str} {g : Bool} (ab : AB tx) : ∀ {p : Int} {res : Option T}, RS tx g p res → 0 ≤ p → (res = none → NoS tx g p) ∧ ∀ e s t cs, res = some (.node e s t cs) → NodeS tx g p e s t cs
  | p, _, .no h, hp => ⟨fun _ ha => by
      rcases litA ab hp g with ⟨_, z⟩ | ⟨z, _⟩
      · rw [h] at z; cases z
      · exact absurd ha z, nofun⟩
  | p, _, .bad (q := q) h1 h2 h3, hp => by
      have hl : p < (tx.length : Int) := litRes_lt hp h1
      have z := rz_law ab h2 (by omega) (by omega)
      refine ⟨fun _ => no_ok ab hp z ?_, nofun⟩
      have := z.le
      rcases litB ab (show 0 ≤ q by omega) g with ⟨_, y⟩ | ⟨y, _⟩
      · rw [h3] at y; cases y
      · exact y
  | p, _, .ok (q := q) h1 h2 h3, hp => by
      have hl : p < (tx.length : Int) := litRes_lt hp h1
      have z := rz_law ab h2 (by omega) (by omega)
      refine ⟨nofun, fun e s t cs he => ?_⟩
      have := z.le
      rcases litA ab hp g with ⟨ha, y⟩ | ⟨_, y⟩
      rotate_left
      · rw [h1] at y; cases y
      rcases litB ab (show 0 ≤ q by omega) g with ⟨hb, y'⟩ | ⟨_, y'⟩
      rotate_left
      · rw [h3] at y'; cases y'
      rw [h1] at y
      rw [h3] at y'
      cases y
      cases y'
      cases he
      exact node_ok hp ha z hb
theorem rz_law {tx : Str} {g : Bool} (ab : AB tx) : ∀ {p q : Int} {ts : List T}, RZ tx g p ts q → 0 ≤ p → p ≤ (tx.length : Int) → RunZ tx g p ts q
  | p, _, _, .stop h, hp, hl => run_z hp hl fun ha => absurd ha.1 h
  | p, _, _, .fail h h1, hp, hl => run_z hp hl ((rs_law ab h1 hp).1 rfl)
  | p, _, _, .step (t := t) h h1 h2, hp, hl => by
      have a := (rs_law ab h1 hp).2 _ _ _ _ rfl
      have := a.lt
      exact run_step hp a (rz_law ab h2 (by omega) a.le)
end
end Mine
end

section
-- part Pt
open PySem PySem.Spec PySem.Calls PySem.W PyProof.Rows
local macro_rules | `(tactic| walk_at "pad of mine") => `(tactic| fail)
set_option linter.unusedVariables false
namespace Mine
/-- the places of one height among `k, k+1, ..` -/
def zer (tx : Str) (b : Int) : Nat → Int → List Int
  | 0, _ => []
  | n + 1, k => if hh tx k = b then k :: zer tx b n (k + 1) else zer tx b n (k + 1)
theorem zer_add (tx : Str) (b : Int) : ∀ (m n : Nat) (k : Int), zer tx b (m + n) k = zer tx b m k ++ zer tx b n (k + m)
  | 0, n, k => by simp [zer]
  | m + 1, n, k => by
    rw [Nat.add_right_comm]
    show (if hh tx k = b then k :: zer tx b (m + n) (k + 1) else zer tx b (m + n) (k + 1)) = (if hh tx k = b then k :: zer tx b m (k + 1) else zer tx b m (k + 1)) ++ _
    rw [zer_add tx b m n, show k + 1 + (m : Int) = k + ((m + 1 : Nat) : Int) by omega]
    split <;> simp
theorem zer_none (tx : Str) (b : Int) : ∀ (n : Nat) (k : Int), (∀ i, k ≤ i → i < k + n → hh tx i ≠ b) → zer tx b n k = []
  | 0, _, _ => rfl
  | n + 1, k, h => by
    unfold zer
    rw [if_neg (h k (Int.le_refl _) (by omega))]
    exact zer_none tx b n (k + 1) fun i h1 h2 => h i (by omega) (by omega)
theorem zer_piece {tx : Str} {b p t : Int} (hp : p < t) (h0 : hh tx p = b) (h : ∀ k, p < k → k < t → hh tx k ≠ b) : zer tx b (t - p).toNat p = [p] := by
  rw [show (t - p).toNat = (t - (p + 1)).toNat + 1 by omega]
  unfold zer
  rw [if_pos h0, zer_none tx b _ _ fun i h1 h2 => h i (by omega) (by omega)]
def T.s : T → Int | .node _ s _ _ => s
def T.t : T → Int | .node _ _ t _ => t
def T.e : T → Ex | .node e _ _ _ => e
def T.cs : T → List T | .node _ _ _ cs => cs
theorem ne_of_sg (g : Bool) {a b : Int} (h : 0 < sg g * (a - b)) : a ≠ b := by intro e; rw [sg_zero g _ _ e] at h; omega
/-- a piece of the top: one rule's match -/
def PieceOk (tx : Str) (c : T) : Prop := ∃ g e cs, c = .node .one c.s c.t [.node e c.s c.t cs] ∧ NodeS tx g c.s e c.s c.t cs
structure RunT (tx : Str) (p : Int) (ts : List T) (q : Int) : Prop where
  le : p ≤ q
  len : q ≤ (tx.length : Int)
  back : hh tx q = hh tx p
  pieces : ∀ c ∈ ts, PieceOk tx c ∧ p ≤ c.s
  chain : ts.map T.s ++ [q] = p :: ts.map T.t
  level : zer tx (hh tx p) ((tx.length : Int) - p + 1).toNat p = p :: ts.map T.t
  last : ∀ k, q < k → k ≤ (tx.length : Int) → hh tx k ≠ hh tx p
  run : ∀ fd, prun tx (q - p).toNat p ([], fd) = ([], fd ++ postTs ts)
  starts : (∀ x ∈ rulesTs ts, p ≤ x.1 ∧ x.1 < q) ∧ (rulesTs ts).Pairwise fun a b => a.1 < b.1
  deep : (∀ k, p ≤ k → k ≤ q → (hh tx k - hh tx p).natAbs ≤ deepTs ts) ∧ ∃ k, p ≤ k ∧ k ≤ q ∧ ((hh tx k - hh tx p).natAbs : Int) = deepTs ts
theorem rt_stop {tx : Str} {p : Int} (hp : 0 ≤ p) (hl : p ≤ (tx.length : Int)) (h : ∀ k, p < k → k ≤ (tx.length : Int) → hh tx k ≠ hh tx p) : RunT tx p [] p := by
  refine ⟨Int.le_refl _, hl, rfl, nofun, rfl, ?_, h, fun fd => ?_, ⟨nofun, .nil⟩, fun k h1 h2 => ?_, p, Int.le_refl _, Int.le_refl _, ?_⟩
  · rw [show ((tx.length : Int) - p + 1).toNat = ((tx.length : Int) + 1 - p).toNat by omega]
    exact zer_piece (by omega) rfl fun k h1 h2 => h k h1 (by omega)
  · simp [prun, postTs]
  · rw [show k = p by omega]; simp [deepTs]
  · simp [deepTs]
theorem abs_sg (g : Bool) {x : Int} (h : 0 ≤ sg g * x) : (x.natAbs : Int) = sg g * x := by cases g <;> simp [sg] at h ⊢ <;> omega
theorem one_nm : Ex.one.nm = Str.ofString "" := rfl
theorem rt_step {tx : Str} {g : Bool} {p t q : Int} {e : Ex} {cs ts : List T} (hp : 0 ≤ p) (a : NodeS tx g p e p t cs) (z : RunT tx t ts q) : RunT tx p (.node .one p t [.node e p t cs] :: ts) q := by
  have h1 := a.lt
  have h2 := z.le
  have h3 := a.le
  have hmid : ∀ k, p < k → k < t → hh tx k ≠ hh tx p := fun k k1 k2 => ne_of_sg g (a.mid k k1 k2)
  have hpost : postTs (.node .one p t [.node e p t cs] :: ts) = postT (.node e p t cs) ++ postTs ts := by simp [postTs, postT, one_nm]
  have hrul : rulesTs (.node .one p t [.node e p t cs] :: ts) = rulesT (.node e p t cs) ++ rulesTs ts := by simp [rulesTs, rulesT, one_nm]
  have h0 : ∀ k, p ≤ k → k ≤ t → 0 ≤ sg g * (hh tx k - hh tx p) := fun k k1 k2 => by
    by_cases e1 : k = p
    · subst e1; rw [sg_zero g _ _ rfl]; omega
    · by_cases e2 : k = t
      · subst e2; rw [sg_zero g _ _ a.back]; omega
      · exact Int.le_of_lt (a.mid k (by omega) (by omega))
  have hd0 : 0 ≤ deepT (.node e p t cs) := by
    have := a.deep.1 p (Int.le_refl _) (by omega)
    rw [sg_zero g _ _ rfl] at this
    exact this
  have hdp : deepTs (.node .one p t [.node e p t cs] :: ts) = max (deepT (.node e p t cs)) (deepTs ts) := by
    show max (deepT (.node .one p t [.node e p t cs])) (deepTs ts) = _
    congr 1
    revert hd0
    generalize T.node e p t cs = c
    intro hd0
    simp only [deepT, deepTs, one_nm, if_true]
    omega
  refine ⟨by omega, z.len, z.back.trans a.back, fun c hc => ?_, ?_, ?_, fun k k1 k2 => ?_, fun fd => ?_, ⟨fun x hx => ?_, ?_⟩, fun k k1 k2 => ?_, ?_⟩
  · rcases List.mem_cons.mp hc with rfl | hc
    · exact ⟨⟨g, e, cs, rfl, a⟩, Int.le_refl _⟩
    · have := z.pieces c hc; exact ⟨this.1, by omega⟩
  · show p :: (ts.map T.s ++ [q]) = p :: t :: ts.map T.t
    rw [z.chain]
  · rw [show ((tx.length : Int) - p + 1).toNat = (t - p).toNat + ((tx.length : Int) - t + 1).toNat by omega, zer_add, zer_piece h1 rfl hmid, show p + ((t - p).toNat : Int) = t by omega, ← a.back, z.level]
    rfl
  · rw [← a.back]; exact z.last k k1 k2
  · rw [hpost, show (q - p).toNat = (t - p).toNat + (q - t).toNat by omega, prun_add, a.run [] fd (fun f r h => by cases h), show p + ((t - p).toNat : Int) = t by omega, z.run, List.append_assoc]
  · rw [hrul] at hx
    rcases List.mem_append.mp hx with hx | hx
    · have := a.starts.1 x hx; omega
    · have := z.starts.1 x hx; omega
  · rw [hrul]
    refine List.pairwise_append.mpr ⟨a.starts.2, z.starts.2, fun x hx y hy => ?_⟩
    have := a.starts.1 x hx
    have := z.starts.1 y hy
    omega
  · rw [hdp]
    by_cases hk : k ≤ t
    · have := a.deep.1 k k1 hk
      rw [abs_sg g (h0 k k1 hk)]
      omega
    · rw [← a.back]; have := z.deep.1 k (by omega) k2; omega
  · rw [hdp]
    obtain ⟨k1, a1, a2, a3⟩ := a.deep.2
    obtain ⟨k2, b1, b2, b3⟩ := z.deep.2
    by_cases h : deepT (.node e p t cs) ≤ deepTs ts
    · exact ⟨k2, by omega, by omega, by rw [← a.back, b3]; omega⟩
    · exact ⟨k1, by omega, by omega, by rw [abs_sg g (h0 k1 a1 a2), a3]; omega⟩
theorem no_more {tx : Str} {q : Int} (ab : AB tx) (h1 : NoS tx true q) (h2 : NoS tx false q) : ∀ k, q < k → k ≤ (tx.length : Int) → hh tx k ≠ hh tx q := by
  intro k k1 k2
  cases hu : upAt tx q with
  | true => exact ne_of_sg true (h1 ⟨by omega, hu⟩ k k1 k2)
  | false => exact ne_of_sg false (h2 ⟨by omega, hu⟩ k k1 k2)
theorem rt_law {tx : Str} (ab : AB tx) : ∀ {p q : Int} {ts : List T}, RT tx p ts q → 0 ≤ p → p ≤ (tx.length : Int) → RunT tx p ts q := by
  intro p q ts h
  induction h with
  | stop h => intro hp hl; exact rt_stop hp hl fun k k1 k2 => by omega
  | fail h h1 =>
    intro hp hl
    cases h1 with
    | no a b => exact rt_stop hp hl (no_more ab ((rs_law ab a hp).1 rfl) ((rs_law ab b hp).1 rfl))
  | step h h1 h2 ih =>
    intro hp hl
    cases h1 with
    | u a =>
      have a := (rs_law ab a hp).2 _ _ _ _ rfl
      exact rt_step hp a (ih (by have := a.lt; omega) a.le)
    | l b a =>
      have a := (rs_law ab a hp).2 _ _ _ _ rfl
      exact rt_step hp a (ih (by have := a.lt; omega) a.le)
/-- a rule alone at the start: the next place of that height, if the first letter is its own -/
theorem rule_law {tx : Str} (ab : AB tx) {g : Bool} {p : Int} {res : Option T} (h : RS tx g p res) (hp : 0 ≤ p) (hl : p ≤ (tx.length : Int)) :
    (match res with | some (.node _ _ t _) => t | none => -1) = if At tx g p then ((zer tx (hh tx p) ((tx.length : Int) - p + 1).toNat p)[1]?).getD (-1) else -1 := by
  obtain ⟨h1, h2⟩ := rs_law ab h hp
  cases res with
  | none =>
    dsimp only
    split
    · rename_i ha
      rw [show ((tx.length : Int) - p + 1).toNat = ((tx.length : Int) + 1 - p).toNat by omega, zer_piece (by omega) rfl fun k k1 k2 => ne_of_sg g (h1 rfl ha k k1 (by omega))]
      rfl
    · rfl
  | some t =>
    obtain ⟨e, s, t, cs⟩ := t
    have a := h2 _ _ _ _ rfl
    have b1 := a.lt
    have b2 := a.le
    dsimp only
    rw [if_pos a.at_, show ((tx.length : Int) - p + 1).toNat = (t - p).toNat + (((tx.length : Int) - t).toNat + 1) by omega, zer_add, zer_piece a.lt rfl fun k k1 k2 => ne_of_sg g (a.mid k k1 k2), show p + ((t - p).toNat : Int) = t by omega]
    unfold zer
    rw [if_pos a.back]
    rfl
end Mine
end

section
-- part Gx
open PySem PySem.Spec PySem.Calls PySem.W PyProof.Rows Builtin Builtin.ObjectAttr
local macro_rules | `(tactic| walk_at "pad of mine") => `(tactic| fail)
local macro_rules | `(tactic| walk_at "pad of mine") => `(tactic| fail)
namespace Mine
/-- an exception of an own class, as it is born -/
abbrev excObj (C t : Addr) : Obj := { cls := .ref C, data := .fields #[.ref t, .none, .none, .none, .bool false, .none] }
abbrev excTail : List Value := [.type "Exception", .type "BaseException", .type "object"]
section
variable {prog : Program} {w : World} {A : Around} {E : Value → Shared → Prop} {s : Shared} {K : Frag} {C L : Addr} {h₀ : Heap} {m : Str → Option Value} {news : List (Addr × Obj)}
variable {nm q : Str} {Ns : Addr} {bs bm : List Value} {hdct : Bool} {sn : List Str} {sub : List Value} {ab : Bool} {col : Option Bool} {dd : Option Addr} {k0 k1 k2 k3 k5 : Option Value}

theorem exc_check {M : Model} {h : Heap} {g : Array GenState} {d : Drawn} {t : Nat} {os : OsState} {rest : List Value} {Q : Unit → Shared → Prop} (hB : bm.contains (.type "Exception") = true) (hC : h.get? C = some (excClassObj nm q C Ns bs bm hdct sn sub ab col dd k0 k1 k2 k3 k5 "Exception.__new__"))
    (hq : Q () ⟨h, g, d, t, os⟩) : wpAny M A (checkBuiltinCall "Exception.__new__" ⟨.ref C :: rest, []⟩) Q E ⟨h, g, d, t, os⟩ := by
  have Fn := PySem.F.excBase_Exception
  have hcont : (Value.ref C :: bm).contains (.type "Exception") = true := by rw [List.contains_cons, hB, Bool.or_true]
  have hstar := Fn.noStar
  simp only [checkBuiltinCall, Fn.newKind, Fn.newSplit, Fn.newRow]
  repeat (first | refine wpAny_loadPart_at hC ?_ | (refine wpAny_isSubtype_exc hC ?_; rw [hcont]) | refine wpAny_staticBase_exc hC ?_ | refine wpAny_madeBy_exc hC ?_ | simp only [bne_self_eq_false, Bool.false_eq_true, if_false] | wp_step)
  exact hq
theorem exc_born {h : Heap} {g : Array GenState} {d : Drawn} {t : Nat} {os : OsState} {R : Result → Shared → Prop} (hB : bm.contains (.type "Exception") = true) (hA : bm.contains (.type "AttributeError") = false) (hN : bm.contains (.type "NameError") = false) {rest : List Value}
    (hC : h.get? C = some (excClassObj nm q C Ns bs bm hdct sn sub ab col dd k0 k1 k2 k3 k5 "Exception.__new__"))
    (hq : R (.ok (.ret (.ref (h.objs.size + 1)))) ⟨(h.push (tupO rest 0)).push (excObj C h.objs.size), g, d, t, os⟩) (hrest : rest.length ≤ sizeLine) :
    codeAny (model prog w) A (.builtin "Exception.__new__" ⟨.ref C :: rest, []⟩) R ⟨h, g, d, t, os⟩ := by
  have Fn := PySem.F.excBase_Exception
  have hends := Fn.ends
  have hcB : (Value.ref C :: bm).contains (.type "Exception") = true := by rw [List.contains_cons, hB, Bool.or_true]
  have hcA : (Value.ref C :: bm).contains (.type "AttributeError") = false := by rw [List.contains_cons, hA]; rfl
  have hcN : (Value.ref C :: bm).contains (.type "NameError") = false := by rw [List.contains_cons, hN]; rfl
  refine codeAny_builtinAt Fn.entry ?_
  unfold Builtin.«BaseException.__new__»
  refine PySem.wpAt_bind ?_
  show PySem.wpAt _ _ _ (stack >>= _) _ _ _
  refine PySem.wpAt_bind (PySem.wpAt_stack fun p below => PySem.wpAt_of_wpAny ?_)
  wp_walk
  refine PySem.wpAt_of_wpAny ?_
  rw [Fn.owner]
  repeat (first | with_reducible refine wpAny_madeHere_exc Fn.canon hC ?_ | with_reducible refine wpAny_loadPart_at hC ?_ | (with_reducible refine wpAny_isSubtype_exc hC ?_; first | rw [hcB] | rw [hcA] | rw [hcN]) | wp_step)
  show R _ _
  rw [Heap.size_push]
  exact hq

theorem call_exc {pos : List Value} {fI : Addr} {Q : Value → Shared → Prop} (F : Fr h₀ L s.heap m) (X₀ : K.In h₀) (N : News h₀ L s.heap news)
    (hC₀ : K.lookup C = some (excClassObj nm q C Ns bs bm hdct sn sub ab col dd k0 k1 k2 k3 k5 "Exception.__new__")) (hB : bm.contains (.type "Exception") = true) (hA : bm.contains (.type "AttributeError") = false) (hN : bm.contains (.type "NameError") = false)
    (hi : findIn K (.ref C) "__init__" = some (some (.ref fI))) (hf : isFn K (.ref fI) = true) (hself : mroIn K C (.ref C) = some true) (hz : pos.length ≤ 100)
    (h : ∀ x t h', Fr h₀ L h' m → News h₀ L h' ((x, excObj C t) :: (t, tupO pos 0) :: news) → (∀ p ∈ news, p.1 < t) → t < x →
      codeAny (model prog w) (A.under (.builtin "type.__call__" ⟨.ref C :: pos, []⟩)) (.call (.ref fI) ⟨.ref x :: pos, []⟩) (InitBack x fun r s' => match r with | .ok (.ret v) => Q v s' | .ok _ => False | .error e => E e s') { s with heap := h' }) :
    wpAny (model prog w) A (call (.ref C) pos) Q E s := by
  have X := X₀.keeps F.keep
  have N' := (N.push F (tupO pos 0)).push (F.push _) (excObj C s.heap.objs.size)
  rw [Heap.size_push] at N'
  have F' := (F.push (tupO pos 0)).push (excObj C s.heap.objs.size)
  have hlt : ∀ p ∈ news, p.1 < s.heap.objs.size := fun p hp => Heap.lt_size (N p hp).1
  replace h := h _ _ _ F' N' hlt (Nat.lt_succ_self _)
  have hC := X _ _ hC₀
  obtain ⟨hh, g, d, t, os⟩ := s
  have Fn := PySem.F.excBase_Exception
  have f1 := tc_lookup
  have f2 := tc_bind (.ref C)
  have hTy : (⟨hh, g, d, t, os⟩ : Shared).TypeIs (.ref C) "type" := ⟨_, hC, rfl⟩
  refine wpAny_call (codeAny_of_tree ?_)
  show wpAny _ _ (callAny (.ref C) _) _ _ _
  repeat (any_goals (first | assumption | with_reducible refine wpAny_loadPart_at hC ?_ | wp_step))
  refine ⟨rfl, ?_⟩
  refine codeAny_call_builtin_at (Code.quiet_builtin _ (by decide +kernel)) entry_typeCall (wpAny_check_type_call_sub hC ?_)
  repeat (first | with_reducible refine wpAny_loadPart_at hC ?_ | with_reducible refine wpAny_madeBy_exc hC ?_ | wp_step)
  refine codeAny_call_builtin_code (Code.quiet_builtin _ Fn.quiet) (exc_check hB hC ?_)
  refine exc_born hB hA hN hC ?_ (show pos.length ≤ sizeLine by rw [sizeLine_eq]; omega)
  show wpAny _ _ _ _ _ _
  have hC₁ := Heap.get?_push_of_some (excObj C hh.objs.size) (Heap.get?_push_of_some (tupO pos 0) hC)
  have hget : ((hh.push (tupO pos 0)).push (excObj C hh.objs.size)).get? (hh.objs.size + 1) = some (excObj C hh.objs.size) := by heap_get
  have hcC : (Value.ref C :: bm).contains (.ref C) = true := by simp
  have X₁ : K.In ((hh.push (tupO pos 0)).push (excObj C hh.objs.size)) := X.keeps fun b o e => Heap.get?_push_of_some _ (Heap.get?_push_of_some _ e)
  have t1 : Looks (model prog w) ((hh.push (tupO pos 0)).push (excObj C hh.objs.size)) (typeOf (.ref (hh.objs.size + 1))) (.ref C) := (Looks.ld hget).andThen .now
  have i1 := looks_mroIn (M := model prog w) X₁ hself
  have t2 : Looks (model prog w) ((hh.push (tupO pos 0)).push (excObj C hh.objs.size)) (isInstance (.ref (hh.objs.size + 1)) (.ref C)) true := t1.andThen i1
  have s1 := looks_findIn (M := model prog w) X₁ hi
  have b1 := bind_fn (M := model prog w) X₁ (.ref (hh.objs.size + 1)) (beq_iff_eq.mp hf)
  refine wpAny_bind (t2.at ?_)
  dsimp only
  refine wpAny_bind (wpAny_holding ?_)
  unfold callSpecial? specialOf
  refine wpAny_bind (wpAny_bind (t1.at (s1.at ?_)))
  refine wpAny_holding (wpAny_bind (b1.at ?_))
  refine wpAny_bind (wpAny_call (codeAny_mono h fun r s' z => ?_))
  rcases r with e | (v | _ | _ | _) <;> first | exact z | exact z.elim | skip
  obtain ⟨rfl, z⟩ := z
  exact wpAny_pure (wpAny_pure z)

theorem set_exc0 {x t : Addr} {name : Str} {v : Value} {cd : ClassData} {Q : Unit → Shared → Prop} (F : Fr h₀ L s.heap m) (X₀ : K.In h₀) (N : News h₀ L s.heap ((x, excObj C t) :: news)) (hx : ∀ p ∈ news, p.1 ≠ x)
    (hs : findIn K (.ref C) "__setattr__" = some (some (.builtin "object.__setattr__"))) (hc : clsIn K C = some cd) (hp : ∀ self : Value, refuseLoop self "__setattr__" cd.mro = pure ()) (hm : mroIn K C (.type "object") = some true)
    (hD : cd.hasDict = true) (ha : findIn K (.ref C) name = some none)
    (h : ∀ d h', Fr h₀ L h' m → News h₀ L h' ((d, dictOf [⟨PyData.keyHash w.params name, .str name (s.toks + 1), v⟩] 1) :: (x, ({ excObj C t with dict := some d } : Obj)) :: news) → (∀ p ∈ ((x, excObj C t) :: news : List (Addr × Obj)), p.1 < d) → Q () { s with heap := h', toks := s.toks + 2 }) :
    wpAny (model prog w) A (setAttr (.ref x) name v) Q E s := by
  have X := X₀.keeps F.keep
  have hx0 := (N _ (.head _)).1
  have I : InstAt s.heap x (excObj C t) C none := ⟨hx0, rfl, rfl, trivial⟩
  refine set_plain X I hs ?_
  have hlt : ∀ p ∈ ((x, excObj C t) :: news : List (Addr × Obj)), p.1 < s.heap.objs.size := fun p hp => Heap.lt_size (N p hp).1
  have F1 := F.push emptyDict
  have N1 := N.push F emptyDict
  obtain ⟨F2, N2⟩ := news_upd (pre := [(s.heap.objs.size, emptyDict)]) (post := news) (d := x) (o := excObj C t) (o' := { excObj C t with dict := some s.heap.objs.size }) (f := fun o => { o with dict := some s.heap.objs.size }) F1 N1
    (fun p hp => by rw [List.mem_singleton.mp hp]; exact Nat.ne_of_gt (hlt _ (.head _))) hx rfl rfl
  obtain ⟨F3, N3⟩ := news_upd (pre := []) (post := (x, ({ excObj C t with dict := some s.heap.objs.size } : Obj)) :: news) (d := s.heap.objs.size) (o := emptyDict) (o' := dictOf [⟨PyData.keyHash w.params name, .str name (s.toks + 1), v⟩] 1)
    (f := Obj.putName name (PyData.keyHash w.params name) (.str name (s.toks + 1)) v) F2 N2 (fun p hp => nomatch hp) (fun p hp => by
      rcases List.mem_cons.mp hp with rfl | hp
      · exact Nat.ne_of_lt (hlt (x, excObj C t) (.head _))
      · exact Nat.ne_of_lt (hlt _ (.tail _ hp))) rfl rfl
  replace h := h _ _ F3 N3 hlt
  have D2 := (N2 (s.heap.objs.size, emptyDict) (.head _)).1
  have D3 := (N3 (s.heap.objs.size, _) (.head _)).1
  obtain ⟨hp', g, d, tk, os⟩ := s
  have SF := PySem.F.store_object
  have sub : Looks (model prog w) hp' (isInstance (.ref x) (.type "object")) true := I.type.andThen (looks_mroIn X hm)
  have L0 := I.type (M := model prog w)
  have L2 := looks_findIn (M := model prog w) X ha
  have L3 := looks_clsIn (M := model prog w) X hc
  have Lm : Looks (model prog w) hp' (mroOf (.ref C)) cd.mro := (looks_clsIn X hc).andThen .now
  refine codeAny_call_builtin SF.slot.plain SF.entry (@check_slot (model prog w) _ _ ⟨hp', g, d, tk + 1, os⟩ "object.__setattr__" "object" "__setattr__" (.ref x) [.str name tk, v] [] _ SF.kind SF.split sub (SF.args (.ref x) (.str name tk) v) ?_)
  rw [osa_eq, refuse_eq]
  refine wpAny_bind (wpAny_bind (L0.at (wpAny_bind (Lm.at ?_))))
  rw [hp]
  refine wpAny_pure (wpAny_bind (L0.at (wpAny_bind (L2.at ?_))))
  refine wpAny_bind (wpAny_pure ?_)
  show wpAny _ _ (storeInOwnDict (.ref x) (.ref C) (.str name tk) name v false) _ _ _
  refine wpAny_bind (wpAny_pure (wpAny_bind (wpAny_bind (wpAny_loadPart hx0 (wpAny_bind (L3.at ?_))))))
  rw [hD]
  refine wpAny_bind (wpAny_alloc (wpAny_bind ?_))
  refine wpAny_update (N1 (x, excObj C t) (.tail _ (.head _))).1 ?_
  refine wpAny_bind (wpAny_pure ?_)
  refine wpAny_pure (wpAny_bind (wpAny_pure (wpAny_bind ?_)))
  unfold nsSet
  refine wpAny_bind (wpAny_bind (wpAny_askSetting (wpAny_pure (wpAny_bind (wpAny_mkText (wpAny_bind (wpAny_loadPart D2 ?_)))))))
  dsimp only [emptyDict]
  have c : (!(#[] : Array DictEntry).any (·.key.isStr name) && (#[] : Array DictEntry).any (·.refKey)) = false := by simp
  rw [aRefKeyMayBeTheName_at, c]
  refine wpAny_updatePart D2 ?_
  refine wpAny_bind (wpAny_lookBehind D3 (pastItsLine_dict (by simp [sizeLine_eq])) ?_)
  exact wpAny_pure h
end
end Mine
end

section
-- part Gr
open PySem PySem.Spec PySem.Calls PySem.W PyProof.Rows Builtin Builtin.ObjectAttr
local macro_rules | `(tactic| walk_at "pad of mine") => `(tactic| fail)
local macro_rules | `(tactic| walk_at "pad of mine") => `(tactic| fail)
local macro_rules | `(tactic| walk_at "pad of mine") => `(tactic| fail)
namespace Mine
section
variable {prog : Program} {w : World} {A : Around} {E : Value → Shared → Prop} {s : Shared} {K : Frag} {C L : Addr} {h₀ : Heap} {m : Str → Option Value} {news : List (Addr × Obj)} {env : Env}
theorem raise_own {e : PySem.Expr} {pos : Pos} {Q : Flow → Shared → Prop} (hh : A.handled = none) (hm : mroIn K C (.type "BaseException") = some true) (ht : typeIn K (.ref C) = some (.type "type"))
    (h : wpAny (model prog w) A (eval e env) (fun v s₁ => ∃ a o vs, v = .ref a ∧ s₁.heap.get? a = some o ∧ o.cls = .ref C ∧ o.data = .fields vs ∧ vs[1]? = some .none ∧ K.In s₁.heap ∧ E (.ref a) s₁) E s) :
    wpAny (model prog w) A (exec (.Raise (some e) none pos) env) Q E s := by
  show wpAny _ A (do standAt pos; raiseStmt env (some (do let v ← eval e env; standAt pos; pure v)) none) Q E s
  refine wpAny_bind (wpAny_standAt ?_)
  unfold raiseStmt
  dsimp only
  refine wpAny_bind (wpAny_bind (wpAny_mono h (fun v s₁ h₁ => wpAny_bind (wpAny_standAt (wpAny_pure ?_))) fun _ _ x => x))
  obtain ⟨a, o, vs, rfl, ha, hc, hd, h1, X, hE⟩ := h₁
  obtain ⟨hp, g, d, tk, os⟩ := s₁
  dsimp only at ha X
  have t1 : Looks (model prog w) hp (typeOf (.ref a)) (.ref C) := (Looks.ld ha).andThen (by rw [hc]; exact .now)
  have t2 := looks_mroIn (M := model prog w) X hm
  have t3 := looks_typeIn (M := model prog w) X ht
  have n1 : Looks (model prog w) hp (isType (.ref a)) false := by
    show Looks _ _ (loadHead a >>= _) _
    exact (Looks.ld ha).andThen (by rw [hd]; exact .now)
  have i1 : Looks (model prog w) hp (isInstance (.ref a) (.type "BaseException")) true := t1.andThen t2
  refine wpAny_bind (wpAny_pure ?_)
  dsimp only
  refine wpAny_bind (wpAny_holding ?_)
  unfold excFromValue isExcClass
  refine wpAny_bind (wpAny_bind (n1.at ?_))
  simp only [Bool.false_eq_true, if_false]
  refine wpAny_pure ?_
  simp only [Bool.false_eq_true, if_false]
  refine wpAny_bind (i1.at ?_)
  simp only [if_true]
  refine wpAny_pure ?_
  refine wpAny_bind (n1.at ?_)
  simp only [Bool.false_eq_true, if_false]
  unfold raisedInstance
  refine wpAny_bind (wpAny_bind (t1.at (wpAny_bind (t3.at ?_))))
  rw [if_pos (show (Value.type "type" == Value.type "type") = true by decide)]
  refine wpAny_pure ?_
  unfold setFlight raiseNew
  refine wpAny_bind (wpAny_bind (wpAny_field ha hd h1 ?_))
  rw [if_neg (by decide)]
  refine wpAny_pure (wpAny_bind (wpAny_handled ?_))
  rw [hh]
  first
    | exact wpAny_throw hE
    | exact wpAny_bind (wpAny_pure (wpAny_throw hE))
end
section
variable {M : Model} {A : Around} {E : Value → Shared → Prop} {s' : Shared} {base g : Heap} {outer : List Env} {L a e t : Addr} {m : Str → Option Value} {name : Str} {scope : Scope} {cd : Value} {Q : Unit → Shared → Prop} {news : List (Addr × Obj)}
/-- an own instance, made earlier, leaves the frame it was raised in -/
theorem leave_own {oe : Obj} {ws : Array Value} {vs : List Value} {n : Nat} (K : Below A base outer g) (F : Fr g L s'.heap m) (N : News g L s'.heap news) (he : (e, oe) ∈ news) (hd : oe.data = .fields ws) (h0 : ws[0]? = some (.ref t)) (h1 : ws[1]? = some .none)
    (ht : (t, tupO vs n) ∈ news)
    (hQ : ∀ h', RaisedS base g outer e oe.cls t vs (news.filter fun q => decide (q.1 ≠ e ∧ q.1 ≠ t)) h' → RaisedK base outer e oe.cls t vs (news.filter fun q => decide (q.1 ≠ e ∧ q.1 ≠ t)) h' → g.UpToSlots h' → Q () { s' with heap := h' }) (hk : scope.kind = .function := by rfl) :
    wpAny M (A.deeper (envOf name scope L a cd)) (leaving (envOf name scope L a cd) (.ref e)) Q E s' := by
  have K' := K.push (name := name) (a := a) (cd := cd) F hk
  let fs := (envOf name scope L a cd :: outer).filterMap (·.frame)
  have hin : ∀ env ∈ (envOf name scope L a cd :: outer), ∀ b, env.frame = some b → b ∈ e :: t :: fs := fun env he b hb => .tail _ (.tail _ (List.mem_filterMap.mpr ⟨env, he, hb⟩))
  have nb : ∀ {b : Addr} {o : Obj}, (b, o) ∈ news → base.get? b = none := fun hq => fresh_of_stays K.stays (N _ hq).2.2
  have st : base.StaysIn (hideAll s'.heap (e :: t :: fs)) := fun b o q => hideAll_get _ (K'.stays b o q) fun hm => by
    rcases List.mem_cons.mp hm with rfl | hm
    · rw [nb he] at q; cases q
    · rcases List.mem_cons.mp hm with rfl | hm
      · rw [nb ht] at q; cases q
      · rw [(K'.frames.mem hm).1] at q; cases q
  have sg : ∀ b o, g.get? b = some o → b ∉ outer.filterMap (·.frame) → (hideAll s'.heap (e :: t :: fs)).get? b = some o := fun b o q nm => hideAll_get _ (F.keep b o q) fun hm => by
    rcases List.mem_cons.mp hm with rfl | hm
    · rw [(N _ he).2.2] at q; cases q
    · rcases List.mem_cons.mp hm with rfl | hm
      · rw [(N _ ht).2.2] at q; cases q
      · rcases kts_mem hm with z | z
        · rw [z, kts_self F] at q
          cases q
        · exact nm z
  have hl : ∀ q ∈ news.filter (fun q => decide (q.1 ≠ e ∧ q.1 ≠ t)), (hideAll s'.heap (e :: t :: fs)).get? q.1 = some q.2 ∧ g.get? q.1 = none ∧ base.get? q.1 = none := fun q hq => by
    obtain ⟨hq, hd⟩ := List.mem_filter.mp hq
    have hd := of_decide_eq_true hd
    refine ⟨hideAll_get _ (N q hq).1 fun hm => ?_, (N q hq).2.2, fresh_of_stays K.stays (N q hq).2.2⟩
    rcases List.mem_cons.mp hm with z | hm
    · exact hd.1 z
    · rcases List.mem_cons.mp hm with z | hm
      · exact hd.2 z
      · obtain ⟨env, he, hf⟩ := List.mem_filterMap.mp hm
        rcases List.mem_cons.mp he with rfl | he
        · exact (N q hq).2.1 (Option.some.inj hf).symm
        · obtain ⟨o, ho, _⟩ := (K.frames.mem (List.mem_filterMap.mpr ⟨env, he, hf⟩)).2
          rw [(N q hq).2.2] at ho; cases ho
  have hen : (hideAll s'.heap (e :: t :: fs)).get? e = none := hideAll_none _ (.head _)
  have htn : (hideAll s'.heap (e :: t :: fs)).get? t = none := hideAll_none _ (.tail _ (.head _))
  refine wpAny_leaving_firstW (a0 := .ref t) K'.stack (funFrames_hide K'.frames hin) rfl (N _ he).1 (fun b o q => of_hideAll _ q) hen hd h1 h0 fun h' hL => ?_
  obtain ⟨k1, ⟨_, _, k2⟩, k3, k4⟩ := hL
  have tup : h'.TupAt t vs := Heap.TupAt.of_slots ⟨_, _, (N _ ht).1, rfl, rfl⟩ k4
  have R : RaisedS base g outer e oe.cls t vs (news.filter fun q => decide (q.1 ≠ e ∧ q.1 ≠ t)) h' := ⟨⟨_, st, sg, hl, ⟨k1, hen, k2, k3⟩, htn⟩, tup⟩
  exact hQ h' R R.toK ((Heap.UpToSlots.of_keeps F.keep).trans k4)
end
end Mine
end

section
-- part Cx
open PySem PySem.Spec PySem.Calls PySem.W PyProof.Rows Builtin Builtin.ObjectAttr
local macro_rules | `(tactic| walk_at "pad of mine") => `(tactic| fail)
local macro_rules | `(tactic| walk_at "pad of mine") => `(tactic| fail)
local macro_rules | `(tactic| walk_at "pad of mine") => `(tactic| fail)
local macro_rules | `(tactic| walk_at "pad of mine") => `(tactic| fail)
set_option linter.unusedVariables false
namespace Mine
section
variable {prog : Program} {w : World} {A₀ A : Around} {s : Shared} {base h₀ g₀ : Heap} {outer : List Env} {L a : Addr} {m : Str → Option Value} {cn : Str} {cs : Scope} {ccd : Value} {cl : List (Str × Addr)} {news : List (Addr × Obj)} {K : Frag} {p : Program} {loose : List Str} {mean : ExcName → Option Value} {mg mb : Str → Option Value}
    {R : Result → Shared → Prop} {name qual : Str} {params : Arguments} {body : List Stmt} {scope : Scope} {dV kV doc pm cdv ct oc : Value} {an od : Option Addr} {osl : Array (Option Value)} {f : Addr} {args : Args} {binds : List (Str × Value)}
theorem enterX (B : Below A₀ base outer h₀) (F : Fr h₀ L s.heap m) (N : News h₀ L s.heap news) (hA : A.frames = some (envX cn cs L a ccd cl :: outer)) (hck : cs.kind = .function) :
    ∃ oL es ep, (hideAll s.heap (news.map (·.1))).get? L = some oL ∧ oL.data = .dict es ep ∧ (∀ h', h'.get? L = some oL → Heap.Ns h' L m) ∧ (∀ (sl : Array (Option Value)) h', h'.get? L = some { oL with slots := sl } → Heap.Ns h' L m) ∧
      h₀.StaysIn (hideAll s.heap (news.map (·.1))) ∧ Below A base (envX cn cs L a ccd cl :: outer) (hideAll s.heap (news.map (·.1))) := by
  have nm : ∀ b o, h₀.get? b = some o → b ∉ news.map (·.1) := fun b o e q => by
    obtain ⟨p, hp, rfl⟩ := List.mem_map.mp q
    rw [(N p hp).2.2] at e; cases e
  have st : h₀.StaysIn (hideAll s.heap (news.map (·.1))) := fun b o e => hideAll_get _ (F.keep b o e) (nm b o e)
  obtain ⟨oL, es, ep, hL, hLd, hLk, hLf⟩ := F.ns
  have nL : L ∉ news.map (·.1) := fun q => by
    obtain ⟨p, hp, e⟩ := List.mem_map.mp q
    exact (N p hp).2.1 e
  have hLg := hideAll_get (news.map (·.1)) hL nL
  have B₁ := pushX (env := envX cn cs L a ccd cl) B F rfl hck
  exact ⟨oL, es, ep, hLg, hLd, fun h' e => ⟨oL, es, ep, e, hLd, hLk, hLf⟩, fun sl h' e => ⟨_, es, ep, e, hLd, hLk, hLf⟩, st, ⟨hA, fun b o e => st b o (B.stays b o e), funFrames_hideAll B₁.frames fun env he b hb hf => by
    cases he with
    | head => exact nL ((Option.some.inj hf : L = b) ▸ hb)
    | tail _ he =>
      obtain ⟨L₁, o₁, hf₁, ho₁⟩ := funFrames_in B.frames env he
      rw [hf₁] at hf
      exact nm L₁ o₁ ho₁ ((Option.some.inj hf : L₁ = b) ▸ hb)⟩⟩

theorem defX0 (B : Below A₀ base [] h₀) (F : Fr h₀ L s.heap m) (X₀ : K.In h₀) (N : News h₀ L s.heap news) (T : Top p loose mean mg mb h₀) (hA : A.frames = some [envX cn cs L a ccd cl])
    (ho : K.lookup f = some ⟨oc, od, .func (fnOf name qual params body scope dV kV doc pm an cdv ct), osl⟩) (hcd : codeIn K cdv qual = true) (hroom : A.depth < recursionLimit)
    (hbind : BindsTo s (fnOf name qual params body scope dV kV doc pm an cdv ct) args binds) (hloc : ∀ y ∈ binds, scope.names.lookup y.1 = some .local)
    (h : ∀ g L' h₁, Fr h₀ L g m → Fr g L' h₁ (fun y => binds.reverse.lookup y) → News g L' h₁ news → Below A base [envX cn cs L a ccd cl] g → K.In g → Top p loose mean mg mb g → KtsDicts ([envX cn cs L a ccd cl].filterMap (·.frame)) g →
      wpAny (model prog w) (A.deeper (envOf qual scope L' f cdv)) (execs body (envOf qual scope L' f cdv))
        (fun fl s' => LeaveS0 ([envX cn cs L a ccd cl].filterMap (·.frame)) h₀ L m g R (match fl with | .ret v => v | _ => .none) s')
        (fun e s' => wpAny (model prog w) (A.deeper (envOf qual scope L' f cdv)) (leaving (envOf qual scope L' f cdv) e) (fun _ s'' => R (.error e) s'') (fun e' s'' => R (.error e') s'') s')
        { s with heap := h₁, toks := s.toks + binds.length })
    (hck : cs.kind = .function) (hco : scope.isCoroutine = false) (hgen : scope.isGenerator = false) (hk : scope.kind = .function)
    (hcell : ∀ x ∈ scope.names, x.2 ≠ .cell) : codeAny (model prog w) A (.call (.ref f) args) R s := by
  have X := X₀.keeps F.keep
  refine codeAny_call_def (fd := fnOf name qual params body scope dV kV doc pm an cdv ct) (body := body) (binds := binds) hroom (X _ _ ho) rfl (T.nolimit.keeps F.keep) (codeRec_of X hcd) rfl hbind hcell hloc (fun h₁ hns hk₁ => ?_) hco hgen hk
  obtain ⟨oL, es, ep, hLg, hLd, hN, hNs, st, B₂⟩ := enterX B F N hA hck
  refine wpAny_mono (h _ s.heap.objs.size h₁ ⟨hN _ hLg, st, F.above⟩ ⟨hns, fun b o e => hk₁ b o (of_hideAll _ e), Nat.le_of_eq (hideAll_size _ _)⟩
    (fun p hp => ⟨hk₁ _ _ (N p hp).1, Nat.ne_of_lt (Heap.lt_size (N p hp).1), hideAll_none _ (List.mem_map_of_mem hp)⟩) B₂ (X₀.keeps st) (T.keeps st) (fun b hb => by
      obtain rfl := List.mem_singleton.mp (show b ∈ [L] from hb)
      exact ⟨oL, es, ep, hLg, hLd⟩)) (fun fl s' hl => ?_) fun _ _ y => y
  obtain ⟨g', L', m', news', T', F', N', k⟩ := hl
  have nL₀ : h₀.get? L = none := kts_self F
  obtain ⟨sl, hs⟩ := T'.up hLg
  refine k ⟨hNs sl _ (F'.keep _ _ hs), fun b o e => F'.keep b o (T'.other b o (st b o e) (fun q => by
    have z := List.mem_singleton.mp (show b ∈ [L] from q)
    rw [z, nL₀] at e
    cases e)), F.above⟩ fun p hp => ⟨(N' p hp).1, fun q => ?_, ?_⟩
  · have := (N' p hp).2.2; rw [q, hs] at this; cases this
  · cases q : h₀.get? p.1 with
    | none => rfl
    | some o =>
      obtain ⟨sl', hs'⟩ := T'.up (st _ _ q)
      have := (N' p hp).2.2
      rw [hs'] at this
      cases this
end
end Mine
end

section
-- part Ind
open PySem PySem.Spec PySem.Calls PySem.W PyProof.Rows
local macro_rules | `(tactic| walk_at "pad of mine") => `(tactic| fail)
local macro_rules | `(tactic| walk_at "pad of mine") => `(tactic| fail)
local macro_rules | `(tactic| walk_at "pad of mine") => `(tactic| fail)
local macro_rules | `(tactic| walk_at "pad of mine") => `(tactic| fail)
local macro_rules | `(tactic| walk_at "pad of mine") => `(tactic| fail)
set_option linter.unusedVariables false
namespace Mine
theorem Spec.mono {w : World} {mean : ExcName → Option Value} {mg mb : Str → Option Value} {f : Addr} {args : List Value} {dd uu dd' uu' : Nat} {Pre Pre' : Led → Prop} {Post Post' : Led → Value → Led → Prop}
    (S : Spec w mean mg mb f args dd uu Pre Post) (hd : dd ≤ dd') (hu : uu ≤ uu') (hp : ∀ n, Pre' n → Pre n) (hq : ∀ n r n', Pre' n → Post n r n' → Post' n r n') : Spec w mean mg mb f args dd' uu' Pre' Post' := by
  intro dp un gd cn cs a ccd cl outer A₀ base h₀ L m news s Q E B F X N T hk hPre hdd huu hret
  exact S dp un gd cn cs a ccd cl outer A₀ base h₀ L m news s Q E B F X N T hk (hp _ hPre) (by omega) (by omega) fun r news' h' tk' a b c => hret r news' h' tk' a b (hq _ _ _ hPre c)
section
variable {w : World} {mean : ExcName → Option Value} {mg mb : Str → Option Value} {gr : Gr} {c er ed : Addr} {text : Str} {tt : Tok} {R : Nat}
/-- a call's outcome, by the keys before and behind -/
def Outc (w : World) (R : Nat) (gr : Gr) (c ed : Addr) (text : Str) (rows : Rows) (Z : Option T → Ks → Prop) (news : Led) (r : Value) (news' : Led) : Prop :=
  ∃ ckv' rows' res, St w R gr c ed text news' ckv' rows' ∧ Keep news news' ∧ Grow rows rows' ∧ ResOk gr text news news' r res ∧ Z res (Keys rows')
def McOk (w : World) (mean : ExcName → Option Value) (mg mb : Str → Option Value) (gr : Gr) (c er ed : Addr) (text : Str) (tt : Tok) (R : Nat) (e : Ex) (p : Int) (dd uu : Nat) (UP : Ks → Prop) (UR : Ks → Option T → Ks → Prop) : Prop :=
  ∀ tp ckv rows, ¬ Keys rows e p → UP (Ks.add (Keys rows) e p) → Spec w mean mg mb 297 [.ref (gr.xa e), .str text tt, .int p tp, .ref c, .ref er] dd uu
    (fun news => St w R gr c ed text news ckv rows ∧ Stat gr er ed news) (Outc w R gr c ed text rows (UR (Ks.add (Keys rows) e p)))
theorem lit_ok (hR : R ≤ 20) {e : Ex} (he : e = .uA ∨ e = .uB ∨ e = .lA ∨ e = .lB) {p : Int} (h0 : 0 ≤ p) (h1 : p ≤ 12) (htx : text.length ≤ 12) :
    McOk w mean mg mb gr c er ed text tt R e p 22 110 (fun _ => True) (fun K res K' => K' = K ∧ res = litRes e text p) := by
  intro tp ckv rows hk hu
  refine (mc_lit (dU := 12) (uU := 60) hR (by rcases he with rfl | rfl | rfl | rfl <;> rfl) he h0 h1 (UP := fun _ => True) (UR := fun K res K' => K' = K ∧ res = litRes e text p) (fun ckv rows => ?_) ckv rows).mono (by omega) (by omega) (fun n h => ⟨h.1, h.2, hk, trivial⟩) (fun n r n' _ h => h)
  refine (un_lit he h0 h1 htx ckv rows).mono (by omega) (by omega) (fun n h => ⟨h.1, h.2.1⟩) (fun n r n' _ h => ?_)
  obtain ⟨ckv', rows', res, a, b, d, e', f, g⟩ := h
  exact ⟨ckv', rows', res, a, b, d, e', by rw [f], g⟩

theorem eS_cases (g : Bool) : eS g = .uS ∨ eS g = .lS := by cases g <;> simp
theorem add_self (K : Ks) (e : Ex) (p : Int) : K.add e p e p := .inr ⟨rfl, rfl⟩
theorem add_of {K : Ks} {e e' : Ex} {p k : Int} (h : K e' k) : K.add e p e' k := .inl h
theorem add_ne {K : Ks} {e e' : Ex} {p k : Int} (hne : e' ≠ e) (h : K.add e p e' k) : K e' k := h.resolve_right fun z => hne z.1
theorem Lt.add {K : Ks} {e e' : Ex} {p x : Int} (h : Lt K e' x) (hp : e' = e → p < x) : Lt (K.add e p) e' x := by
  intro k hk
  rcases hk with hk | ⟨h1, rfl⟩
  · exact h k hk
  · exact hp h1
theorem Lt.mono {K : Ks} {e : Ex} {x y : Int} (h : Lt K e x) (hy : x ≤ y) : Lt K e y := fun k hk => Int.lt_of_lt_of_le (h k hk) hy
theorem ne_g (g : Bool) : eS g ≠ eA g ∧ eS g ≠ eB g ∧ eS g ≠ eZ g ∧ eA g ≠ eB g ∧ eA g ≠ eZ g ∧ eB g ≠ eZ g := by cases g <;> decide
theorem mem0 (g : Bool) : (eS g).mem[0]? = some (eA g) := by cases g <;> rfl
theorem mem1 (g : Bool) : (eS g).mem[1]? = some (eZ g) := by cases g <;> rfl
theorem mem2 (g : Bool) : (eS g).mem[2]? = some (eB g) := by cases g <;> rfl
theorem mem3 (g : Bool) : (eS g).mem[3]? = none := by cases g <;> rfl

/-- a rule, given its inner repetition -/
theorem s_ok (hR : R ≤ 20) (htx : text.length ≤ 12) (g : Bool) {p : Int} (h0 : 0 ≤ p) (h1 : p ≤ (text.length : Int)) {dd uu : Nat} (hdd : 22 ≤ dd) (huu : 110 ≤ uu)
    (hZ : p < (text.length : Int) → McOk w mean mg mb gr c er ed text tt R (eZ g) (p + 1) dd uu (Up g (p + 1)) (QZ text g (p + 1))) :
    McOk w mean mg mb gr c er ed text tt R (eS g) p (dd + 16) (uu + 110) (PS g p) (QS text g p) := by
  intro tp ckv rows hk hu
  obtain ⟨n1, n2, n3, n4, n5, n6⟩ := ne_g g
  refine (mc_seq (dU := dd + 6) (uU := uu + 60) hR (by cases g <;> rfl) (eS_cases g) h0 (by omega) (UP := PS g p) (UR := QS text g p) (fun ckv rows => ?_) ckv rows).mono (by omega) (by omega) (fun n h => ⟨h.1, h.2, hk, hu⟩) (fun n r n' _ h => h)
  by_cases hps : PS g p (Keys rows)
  case neg =>
    intro dp un gd cn cs a ccd cl outer A₀ base h₀ L m news s Q E B F X N T hk hPre
    exact absurd hPre.2.2 hps
  let K0 : Ks := Keys rows
  let I : Nat → Int → List T → Ks → Prop := fun i q ts K => match i with
    | 0 => q = p ∧ ts = [] ∧ K = K0
    | 1 => ∃ a, litRes (eA g) text p = some a ∧ q = p + 1 ∧ ts = [a] ∧ K = K0.add (eA g) p
    | 2 => ∃ a ts', litRes (eA g) text p = some a ∧ RZ text g (p + 1) ts' q ∧ ts = [a, .node (eZ g) (p + 1) q ts'] ∧ p + 1 ≤ q ∧ q ≤ (text.length : Int) ∧ Frame g K0 K ∧ (∀ k, K (eB g) k → K0 (eB g) k ∨ p < k) ∧ ¬ K (eB g) q ∧ (litRes (eA g) text q = none → QLow g q K)
    | 3 => ∃ a b ts' q', litRes (eA g) text p = some a ∧ RZ text g (p + 1) ts' q' ∧ litRes (eB g) text q' = some b ∧ q = q' + 1 ∧ ts = [a, .node (eZ g) (p + 1) q' ts', b] ∧ p + 1 ≤ q' ∧ q' < (text.length : Int) ∧ Frame g K0 K ∧ (∀ k, K (eB g) k → K0 (eB g) k ∨ p < k) ∧ Bel g q K
    | _ => False
  let Fl : Ks → Prop := fun K => QS text g p K0 none K
  refine (un_seq (I := I) (Fl := Fl) (dU := dd) (uU := uu) (eS_cases g) h0 (by omega) ?hI ?hM ckv rows ⟨rfl, rfl, rfl⟩).mono (by omega) (by omega) (fun n h => ⟨h.1, h.2.1⟩) ?hq
  case hI =>
    intro i q ts K h
    match i, h with
    | 0, h => obtain ⟨rfl, -⟩ := h; omega
    | 1, h => obtain ⟨a, -, rfl, -⟩ := h; omega
    | 2, h => obtain ⟨a, ts', -, -, -, h5, h6, -⟩ := h; omega
    | 3, h => obtain ⟨a, b, ts', q', -, -, -, rfl, -, h5, h6, -⟩ := h; omega
  case hq =>
    rintro n r n' - ⟨ckv', rows', res, a1, a2, a3, a4, h⟩
    refine ⟨ckv', rows', res, a1, a2, a3, a4, ?_⟩
    cases res with
    | none => exact h
    | some t =>
      obtain ⟨q, ts, rfl, a, b, ts', q', i1, i2, i3, rfl, rfl, i5, i6, i7, i8, i9⟩ := h
      refine ⟨.ok i1 i2 i3, i7, ?_, i8, fun z => by rw [z] at i1; cases i1⟩
      rintro e s t cs hh
      injection hh with hh
      injection hh with e1 e2 e3 e4
      subst e2 e3
      exact ⟨rfl, by omega, by omega, i9⟩
  case hM =>
    intro i x hx q tq ts ckv1 rows1 hi
    match i, hi with
    | 0, hi =>
      obtain ⟨rfl, rfl, hK⟩ := hi
      have hxe : x = eA g := by rw [mem0 g] at hx; injection hx with hx; exact hx.symm
      subst hxe
      refine (lit_ok hR (by cases g <;> simp) h0 (by omega) htx tq ckv1 rows1 (fun z => by rw [hK] at z; have := hps.a _ z; omega) trivial).mono hdd huu (fun n h => h) ?_
      rintro n r n' - ⟨ckv', rows', res, a1, a2, a3, a4, h1', h2'⟩
      refine ⟨ckv', rows', res, a1, a2, a3, a4, ?_⟩
      rw [hK] at h1'
      cases res with
      | none =>
        show QS text g q K0 none (Keys rows')
        rw [h1']
        refine ⟨.no h2'.symm, (Frame.refl g K0).add (by simp), nofun, fun k hk => .inl (add_ne n4.symm hk), fun _ => ⟨?_, ?_, ?_, ?_⟩⟩
        · exact hps.s.add fun z => absurd z n1
        · exact (hps.a.mono (by omega)).add fun _ => by omega
        · exact hps.b.add fun z => absurd z n4.symm
        · exact hps.z.add fun z => absurd z n5.symm
      | some t =>
        obtain ⟨rfl, -⟩ := litRes_some h2'.symm
        exact ⟨rfl, _, h2'.symm, rfl, rfl, h1'⟩
    | 1, hi =>
      obtain ⟨a, ha, rfl, rfl, hK⟩ := hi
      have hlt := litRes_lt h0 ha
      have hxe : x = eZ g := by rw [mem1 g] at hx; injection hx with hx; exact hx.symm
      subst hxe
      refine (hZ hlt tq ckv1 rows1 (fun z => ?_) ⟨?_, ?_, ?_, ?_⟩).mono (Nat.le_refl _) (Nat.le_refl _) (fun n h => h) ?_
      · rw [hK] at z
        have := hps.z _ (add_ne n5.symm z)
        omega
      · rw [hK]; exact (hps.s.add fun z => absurd z n1).add fun z => absurd z n3
      · rw [hK]; exact ((hps.a.mono (by omega)).add fun _ => by omega).add fun z => absurd z n5
      · rw [hK]; exact ((hps.b.mono (by omega)).add fun z => absurd z n4.symm).add fun z => absurd z n6
      · rw [hK]; exact ((hps.z.mono (by omega)).add fun z => absurd z n5.symm).add fun _ => by omega
      · rintro n r n' - ⟨ckv', rows', res, a1, a2, a3, a4, h⟩
        refine ⟨ckv', rows', res, a1, a2, a3, a4, ?_⟩
        obtain ⟨⟨ts, q, rfl, r1, r2, r3, r4, r5⟩, fr, bs⟩ := h
        rw [hK] at fr bs
        refine ⟨rfl, a, ts, ha, r1, rfl, r2, r3, ?_, ?_, r4, r5⟩
        · exact (((Frame.refl g K0).add (by simp)).add (by simp)).trans fr
        · intro k hk
          rcases bs k hk with h | h
          · exact .inl (add_ne n4.symm (add_ne n6 h))
          · exact .inr (by omega)
    | 2, hi =>
      obtain ⟨a, ts', ha, hrz, rfl, hq1, hq2, fr, bs, hnb, low⟩ := hi
      have hxe : x = eB g := by rw [mem2 g] at hx; injection hx with hx; exact hx.symm
      subst hxe
      refine (lit_ok hR (by cases g <;> simp) (by omega) (by omega) htx tq ckv1 rows1 hnb trivial).mono hdd huu (fun n h => h) ?_
      rintro n r n' - ⟨ckv', rows', res, a1, a2, a3, a4, h1', h2'⟩
      refine ⟨ckv', rows', res, a1, a2, a3, a4, ?_⟩
      have fr' : Frame g K0 (Keys rows') := by rw [h1']; exact fr.add (by simp)
      have bs' : ∀ k, Keys rows' (eB g) k → K0 (eB g) k ∨ p < k := by
        intro k hk
        rw [h1'] at hk
        rcases hk with hk | ⟨-, rfl⟩
        · exact bs k hk
        · exact .inr (by omega)
      cases res with
      | none => exact ⟨.bad ha hrz h2'.symm, fr', nofun, bs', fun z => by rw [z] at ha; cases ha⟩
      | some t =>
        have hl := low (lit_apart g h2'.symm)
        have hlt := litRes_lt (by omega) h2'.symm
        obtain ⟨rfl, -⟩ := litRes_some h2'.symm
        refine ⟨rfl, a, _, ts', q, ha, hrz, h2'.symm, rfl, rfl, hq1, hlt, fr', bs', ?_⟩
        rw [h1']
        exact ⟨hl.s.add fun z => absurd z n2, hl.a.add fun z => absurd z n4, (hl.b.mono (by omega)).add fun _ => by omega, hl.z.add fun z => absurd z n6.symm⟩
    | 3, hi => rw [mem3 g] at hx; cases hx

theorem z_cases (g : Bool) : (eZ g = .top ∧ eS g = .one) ∨ (eZ g = .uZ ∧ eS g = .uS) ∨ (eZ g = .lZ ∧ eS g = .lS) := by cases g <;> simp
theorem z_cases' (g : Bool) : eZ g = .top ∨ eZ g = .uZ ∨ eZ g = .lZ := by cases g <;> simp
/-- a repetition, given the rule at all places ahead -/
theorem z_ok (hR : R ≤ 20) (htx : text.length ≤ 12) (g : Bool) {p : Int} (h0 : 0 ≤ p) (h1 : p ≤ (text.length : Int)) {dd uu : Nat}
    (hS : ∀ q, p ≤ q → q < (text.length : Int) → McOk w mean mg mb gr c er ed text tt R (eS g) q dd uu (PS g q) (QS text g q)) :
    McOk w mean mg mb gr c er ed text tt R (eZ g) p (dd + 16) (uu + 110) (Up g p) (QZ text g p) := by
  intro tp ckv rows hk hu
  obtain ⟨n1, n2, n3, n4, n5, n6⟩ := ne_g g
  refine (mc_qua (dU := dd + 6) (uU := uu + 60) hR (by cases g <;> rfl) (z_cases' g) h0 (by omega) (UP := Up g p) (UR := QZ text g p) (fun ckv rows => ?_) ckv rows).mono (by omega) (by omega) (fun n h => ⟨h.1, h.2, hk, hu⟩) (fun n r n' _ h => h)
  by_cases hps : Up g p (Keys rows)
  case neg =>
    intro dp un gd cn cs a ccd cl outer A₀ base h₀ L m news s Q E B F X N T hk hPre
    exact absurd hPre.2.2 hps
  let K0 : Ks := Keys rows
  let I : Int → List T → Ks → Prop := fun q ts K => p ≤ q ∧ q ≤ (text.length : Int) ∧ (ts.length : Int) ≤ q - p ∧ (∀ ts2 r, RZ text g q ts2 r → RZ text g p (ts ++ ts2) r) ∧ Up g q K ∧ Frame g K0 K ∧ ∀ k, K (eB g) k → K0 (eB g) k ∨ p ≤ k
  let Fn : Int → List T → Ks → Prop := fun q ts K => p ≤ q ∧ q < (text.length : Int) ∧ (∀ ts2 r, RZ text g q ts2 r → RZ text g p (ts ++ ts2) r) ∧ RS text g q none ∧ ¬ K (eB g) q ∧ (litRes (eA g) text q = none → QLow g q K) ∧ Frame g K0 K ∧ ∀ k, K (eB g) k → K0 (eB g) k ∨ p ≤ k
  refine (un_qua (I := I) (Fn := Fn) (dU := dd) (uU := uu) (z_cases g) htx ?hI ?hM ckv rows ⟨Int.le_refl _, h1, by simp, fun ts2 r h => h, hps, Frame.refl _ _, fun k hk => .inl hk⟩).mono (by omega) (by omega) (fun n h => ⟨h.1, h.2.1⟩) ?hq
  case hI =>
    rintro q ts K ⟨a, b, d, -⟩
    omega
  case hq =>
    rintro n r n' - ⟨ckv', rows', res, a1, a2, a3, a4, q, ts, rfl, h⟩
    refine ⟨ckv', rows', _, a1, a2, a3, a4, ?_⟩
    rcases h with ⟨hql, b1, b2, b3, b4, b5, b6, b7⟩ | ⟨hql, b1, b2, b3, b4, b5, b6, b7, b8⟩
    · refine ⟨⟨ts, q, rfl, by simpa using b4 [] q (.stop hql), b1, b2, fun z => ?_, fun _ => ⟨b5.s.mono (by omega), b5.a.mono (by omega), b5.b, b5.z⟩⟩, b6, b7⟩
      have := b5.b _ z
      omega
    · exact ⟨⟨ts, q, rfl, by simpa using b3 [] q (.fail hql b4), b1, by omega, b5, b6⟩, b7, b8⟩
  case hM =>
    rintro q tq ts ckv1 rows1 ⟨b1, b2, b3, b4, b5, b6, b7⟩ hql
    refine (hS q b1 hql tq ckv1 rows1 (fun z => by have := b5.s _ z; omega) ⟨?_, ?_, ?_, ?_⟩).mono (Nat.le_refl _) (Nat.le_refl _) (fun n h => h) ?_
    · exact (b5.s.mono (by omega)).add fun _ => by omega
    · exact b5.a.add fun z => absurd z n1.symm
    · exact b5.b.add fun z => absurd z n2.symm
    · exact b5.z.add fun z => absurd z n3.symm
    · rintro n r n' - ⟨ckv', rows', res, a1, a2, a3, a4, h⟩
      refine ⟨ckv', rows', res, a1, a2, a3, a4, ?_⟩
      have hbs : ∀ k, Keys rows' (eB g) k → K0 (eB g) k ∨ p ≤ k := by
        intro k hk
        rcases h.bs k hk with z | z
        · exact b7 k (add_ne n2.symm z)
        · exact .inr (by omega)
      have hfr : Frame g K0 (Keys rows') := (b6.add (by simp)).trans h.frame
      cases res with
      | none =>
        refine ⟨b1, hql, b4, h.rel, fun z => ?_, h.low, hfr, hbs⟩
        rcases h.bs q z with z | z
        · have := b5.b _ (add_ne n2.symm z); omega
        · omega
      | some t =>
        obtain ⟨e', s', t', cs'⟩ := t
        obtain ⟨rfl, h3, h4, h5⟩ := h.some _ _ _ _ rfl
        refine ⟨rfl, h3, by omega, h4, by simp; omega, fun ts2 r hr => ?_, ⟨h5.s, h5.a, h5.b, h5.z.mono (by omega)⟩, hfr, hbs⟩
        rw [List.append_assoc]
        exact b4 _ _ (.step hql h.rel hr)

/-- both, by induction on what is left of the text -/
theorem sz_ok (hR : R ≤ 20) (htx : text.length ≤ 12) (g : Bool) : ∀ (n : Nat),
    (∀ p : Int, 0 ≤ p → p ≤ (text.length : Int) → (text.length : Int) - p ≤ n → McOk w mean mg mb gr c er ed text tt R (eS g) p (38 + 32 * n) (220 + 220 * n) (PS g p) (QS text g p)) ∧
    (∀ p : Int, 0 ≤ p → p ≤ (text.length : Int) → (text.length : Int) - p ≤ n → McOk w mean mg mb gr c er ed text tt R (eZ g) p (54 + 32 * n) (330 + 220 * n) (Up g p) (QZ text g p)) := by
  have up : ∀ {e : Ex} {p : Int} {dd uu dd' uu' : Nat} {UP : Ks → Prop} {UR : Ks → Option T → Ks → Prop}, McOk w mean mg mb gr c er ed text tt R e p dd uu UP UR → dd ≤ dd' → uu ≤ uu' → McOk w mean mg mb gr c er ed text tt R e p dd' uu' UP UR :=
    fun h a b tp ckv rows h1 h2 => (h tp ckv rows h1 h2).mono a b (fun _ z => z) fun _ _ _ _ z => z
  intro n
  induction n with
  | zero =>
    have hs : ∀ p : Int, 0 ≤ p → p ≤ (text.length : Int) → (text.length : Int) - p ≤ (0 : Nat) → McOk w mean mg mb gr c er ed text tt R (eS g) p (38 + 32 * 0) (220 + 220 * 0) (PS g p) (QS text g p) :=
      fun p h0 h1 h2 => s_ok (dd := 22) (uu := 110) hR htx g h0 h1 (by omega) (by omega) fun hlt => by omega
    refine ⟨hs, fun p h0 h1 h2 => z_ok hR htx g h0 h1 fun q hq hlt => by omega⟩
  | succ n ih =>
    have hs : ∀ p : Int, 0 ≤ p → p ≤ (text.length : Int) → (text.length : Int) - p ≤ (n + 1 : Nat) → McOk w mean mg mb gr c er ed text tt R (eS g) p (38 + 32 * (n + 1)) (220 + 220 * (n + 1)) (PS g p) (QS text g p) :=
      fun p h0 h1 h2 => up (s_ok hR htx g h0 h1 (by omega) (by omega) fun hlt => ih.2 (p + 1) (by omega) (by omega) (by omega)) (by omega) (by omega)
    refine ⟨hs, fun p h0 h1 h2 => up (z_ok hR htx g h0 h1 fun q hq hlt => hs q (by omega) (by omega) (by omega)) (by omega) (by omega)⟩

structure PO (x : Int) (K : Ks) : Prop where
  u : Up true x K
  l : Up false x K
  o : Lt K .one (x + 1)
structure QO (text : Str) (p : Int) (K0 : Ks) (res : Option T) (K : Ks) : Prop where
  rel : RO text p res
  some : ∀ e s t cs, res = some (.node e s t cs) → s = p ∧ p < t ∧ t ≤ (text.length : Int) ∧ Bel true t K ∧ Bel false t K
  one : ∀ k, K .one k → K0 .one k
structure PT (x : Int) (K : Ks) : Prop where
  u : Up true x K
  l : Up false x K
  o : Lt K .one x
structure QT (text : Str) (p : Int) (K0 : Ks) (res : Option T) (K : Ks) : Prop where
  rel : ∃ ts q, res = some (.node .top p q ts) ∧ RT text p ts q ∧ p ≤ q ∧ q ≤ (text.length : Int)
theorem grp_ne {g g' : Bool} {e : Ex} (hne : g ≠ g') (he : e = eS g' ∨ e = eA g' ∨ e = eB g' ∨ e = eZ g') : e ≠ eS g ∧ e ≠ eA g ∧ e ≠ eB g ∧ e ≠ eZ g := by
  rcases he with rfl | rfl | rfl | rfl <;> (revert hne; revert g' ; revert g; decide)
theorem Up.frame {g g' : Bool} {x : Int} {a b : Ks} (hne : g ≠ g') (f : Frame g a b) (h : Up g' x a) : Up g' x b := by
  have k : ∀ e, (e = eS g' ∨ e = eA g' ∨ e = eB g' ∨ e = eZ g') → ∀ k, b e k → a e k := fun e he k hk => (f e (grp_ne hne he).1 (grp_ne hne he).2.1 (grp_ne hne he).2.2.1 (grp_ne hne he).2.2.2 k).mp hk
  exact ⟨fun y hy => h.s y (k _ (by simp) y hy), fun y hy => h.a y (k _ (by simp) y hy), fun y hy => h.b y (k _ (by simp) y hy), fun y hy => h.z y (k _ (by simp) y hy)⟩
theorem Bel.frame {g g' : Bool} {x : Int} {a b : Ks} (hne : g ≠ g') (f : Frame g a b) (h : Bel g' x a) : Bel g' x b := by
  have k : ∀ e, (e = eS g' ∨ e = eA g' ∨ e = eB g' ∨ e = eZ g') → ∀ k, b e k → a e k := fun e he k hk => (f e (grp_ne hne he).1 (grp_ne hne he).2.1 (grp_ne hne he).2.2.1 (grp_ne hne he).2.2.2 k).mp hk
  exact ⟨fun y hy => h.s y (k _ (by simp) y hy), fun y hy => h.a y (k _ (by simp) y hy), fun y hy => h.b y (k _ (by simp) y hy), fun y hy => h.z y (k _ (by simp) y hy)⟩
theorem Up.bel {g : Bool} {x y : Int} {a : Ks} (h : Up g x a) (hy : x < y) : Bel g y a := ⟨h.s.mono (by omega), h.a.mono (by omega), h.b.mono (by omega), h.z.mono (by omega)⟩
theorem QLow.bel {g : Bool} {x y : Int} {a : Ks} (h : QLow g x a) (hy : x < y) : Bel g y a := ⟨h.s.mono (by omega), h.a.mono (by omega), h.b.mono (by omega), h.z.mono (by omega)⟩
theorem Up.ps {g : Bool} {x : Int} {a : Ks} (h : Up g x a) : PS g x (a.add (eS g) x) := by
  obtain ⟨n1, n2, n3, n4, n5, n6⟩ := ne_g g
  exact ⟨(h.s.mono (by omega)).add fun _ => by omega, h.a.add fun z => absurd z n1.symm, h.b.add fun z => absurd z n2.symm, h.z.add fun z => absurd z n3.symm⟩
theorem Bel.up {g : Bool} {x : Int} {a : Ks} (h : Bel g x a) : Up g x a := ⟨h.s, h.a, h.b, h.z.mono (by omega)⟩
theorem one_ne (g : Bool) : Ex.one ≠ eS g ∧ Ex.one ≠ eA g ∧ Ex.one ≠ eB g ∧ Ex.one ≠ eZ g := by cases g <;> decide
theorem one_ok (hR : R ≤ 20) (htx : text.length ≤ 12) {p : Int} (h0 : 0 ≤ p) (h1 : p ≤ (text.length : Int)) {dd uu : Nat}
    (hS : ∀ g, McOk w mean mg mb gr c er ed text tt R (eS g) p dd uu (PS g p) (QS text g p)) :
    McOk w mean mg mb gr c er ed text tt R .one p (dd + 16) (uu + 110) (PO p) (QO text p) := by
  intro tp ckv rows hk hu
  refine (mc_one (dU := dd + 6) (uU := uu + 60) hR rfl rfl h0 (by omega) (UP := PO p) (UR := QO text p) (fun ckv rows => ?_) ckv rows).mono (by omega) (by omega) (fun n h => ⟨h.1, h.2, hk, hu⟩) (fun n r n' _ h => h)
  by_cases hps : PO p (Keys rows)
  case neg =>
    intro dp un gd cn cs a ccd cl outer A₀ base h₀ L m news s Q E B F X N T hk hPre
    exact absurd hPre.2.2 hps
  let K0 : Ks := Keys rows
  let I : Nat → Ks → Prop := fun i K => match i with
    | 0 => K = K0
    | 1 => RS text true p none ∧ Frame true K0 K ∧ (litRes (eA true) text p = none → QLow true p K)
    | 2 => RS text true p none ∧ RS text false p none ∧ ∀ k, K .one k → K0 .one k
    | _ => False
  let G : T → Ks → Prop := fun t K => ∃ e s t' cs, t = .node e s t' cs ∧ QO text p K0 (some (.node .one p t' [.node e s t' cs])) K
  refine (un_one (I := I) (G := G) (dU := dd) (uU := uu) h0 (by omega) ?hM ckv rows rfl).mono (by omega) (by omega) (fun n h => ⟨h.1, h.2.1⟩) ?hq
  case hq =>
    rintro n r n' - ⟨ckv', rows', res, a1, a2, a3, a4, h⟩
    refine ⟨ckv', rows', res, a1, a2, a3, a4, ?_⟩
    cases res with
    | none => exact ⟨.no h.1 h.2.1, nofun, h.2.2⟩
    | some t =>
      obtain ⟨e', s', q, cs, rfl, e2, s2, t2, cs2, hh, hg⟩ := h
      injection hh with z1 z2 z3 z4
      subst z1 z2 z3 z4
      exact hg
  case hM =>
    intro i x hx ckv1 rows1 hi
    match i, hi with
    | 0, hi =>
      have hxe : x = eS true := by injection hx with hx; exact hx.symm
      subst hxe
      have hi' : Keys rows1 = K0 := hi
      refine (hS true tp ckv1 rows1 (fun z => by rw [hi'] at z; have := hps.u.s _ z; omega) (by rw [hi']; exact hps.u.ps)).mono (Nat.le_refl _) (Nat.le_refl _) (fun n h => h) ?_
      rintro n r n' - ⟨ckv', rows', res, a1, a2, a3, a4, h⟩
      refine ⟨ckv', rows', res, a1, a2, a3, a4, ?_⟩
      rw [hi'] at h
      have fr : Frame true K0 (Keys rows') := ((Frame.refl _ _).add (by simp)).trans h.frame
      obtain ⟨o1, o2, o3, o4⟩ := one_ne true
      cases res with
      | none => exact ⟨h.rel, fr, h.low⟩
      | some t =>
        obtain ⟨e, s, t, cs⟩ := t
        obtain ⟨rfl, h3, h4, h5⟩ := h.some _ _ _ _ rfl
        refine ⟨e, s, t, cs, rfl, .u h.rel, ?_, fun k hk => (fr .one o1 o2 o3 o4 k).mp hk⟩
        rintro e' s' t' cs' hh
        injection hh with hh
        injection hh with z1 z2 z3 z4
        subst z2 z3
        exact ⟨rfl, h3, h4, h5, (hps.l.bel h3).frame (by simp) fr⟩
    | 1, hi =>
      obtain ⟨hr, fr, low⟩ := hi
      have hxe : x = eS false := by injection hx with hx; exact hx.symm
      subst hxe
      have hl := hps.l.frame (g := true) (by simp) fr
      refine (hS false tp ckv1 rows1 (fun z => by have := hl.s _ z; omega) hl.ps).mono (Nat.le_refl _) (Nat.le_refl _) (fun n h => h) ?_
      rintro n r n' - ⟨ckv', rows', res, a1, a2, a3, a4, h⟩
      refine ⟨ckv', rows', res, a1, a2, a3, a4, ?_⟩
      have fr' : Frame false (Keys rows1) (Keys rows') := ((Frame.refl _ _).add (by simp)).trans h.frame
      have hone : ∀ k, Keys rows' .one k → K0 .one k := fun k hk => by
        obtain ⟨o1, o2, o3, o4⟩ := one_ne true
        obtain ⟨q1, q2, q3, q4⟩ := one_ne false
        exact (fr .one o1 o2 o3 o4 k).mp ((fr' .one q1 q2 q3 q4 k).mp hk)
      cases res with
      | none => exact ⟨hr, h.rel, hone⟩
      | some t =>
        obtain ⟨e, s, t, cs⟩ := t
        obtain ⟨rfl, h3, h4, h5⟩ := h.some _ _ _ _ rfl
        refine ⟨e, s, t, cs, rfl, .l hr h.rel, ?_, hone⟩
        rintro e' s' t' cs' hh
        injection hh with hh
        injection hh with z1 z2 z3 z4
        subst z2 z3
        refine ⟨rfl, h3, h4, ?_, h5⟩
        have hla : litRes (eA true) text s = none := by
          cases h.rel with
          | ok q1 _ _ => exact lit_apart' q1
        exact ((low hla).bel h3).frame (g := false) (by simp) fr'
    | 2, hi => cases hx
theorem top_ok (hR : R ≤ 20) (htx : text.length ≤ 12) {p : Int} (h0 : 0 ≤ p) (h1 : p ≤ (text.length : Int)) {dd uu : Nat}
    (hS : ∀ q, p ≤ q → q < (text.length : Int) → McOk w mean mg mb gr c er ed text tt R .one q dd uu (PO q) (QO text q)) :
    McOk w mean mg mb gr c er ed text tt R .top p (dd + 16) (uu + 110) (PT p) (QT text p) := by
  intro tp ckv rows hk hu
  refine (mc_qua (dU := dd + 6) (uU := uu + 60) hR rfl (.inl rfl) h0 (by omega) (UP := PT p) (UR := QT text p) (fun ckv rows => ?_) ckv rows).mono (by omega) (by omega) (fun n h => ⟨h.1, h.2, hk, hu⟩) (fun n r n' _ h => h)
  by_cases hps : PT p (Keys rows)
  case neg =>
    intro dp un gd cn cs a ccd cl outer A₀ base h₀ L m news s Q E B F X N T hk hPre
    exact absurd hPre.2.2 hps
  let I : Int → List T → Ks → Prop := fun q ts K => p ≤ q ∧ q ≤ (text.length : Int) ∧ (ts.length : Int) ≤ q - p ∧ (∀ ts2 r, RT text q ts2 r → RT text p (ts ++ ts2) r) ∧ PT q K
  let Fn : Int → List T → Ks → Prop := fun q ts K => p ≤ q ∧ q < (text.length : Int) ∧ (∀ ts2 r, RT text q ts2 r → RT text p (ts ++ ts2) r) ∧ RO text q none
  refine (un_qua (I := I) (Fn := Fn) (dU := dd) (uU := uu) (.inl ⟨rfl, rfl⟩) htx ?hI ?hM ckv rows ⟨Int.le_refl _, h1, by simp, fun ts2 r h => h, hps⟩).mono (by omega) (by omega) (fun n h => ⟨h.1, h.2.1⟩) ?hq
  case hI =>
    rintro q ts K ⟨a, b, d, -⟩
    omega
  case hq =>
    rintro n r n' - ⟨ckv', rows', res, a1, a2, a3, a4, q, ts, rfl, h⟩
    refine ⟨ckv', rows', _, a1, a2, a3, a4, ?_⟩
    rcases h with ⟨hql, b1, b2, b3, b4, -⟩ | ⟨hql, b1, b2, b3, b4⟩
    · exact ⟨ts, q, rfl, by simpa using b4 [] q (.stop hql), b1, b2⟩
    · exact ⟨ts, q, rfl, by simpa using b3 [] q (.fail hql b4), b1, by omega⟩
  case hM =>
    rintro q tq ts ckv1 rows1 ⟨b1, b2, b3, b4, b5⟩ hql
    have hup : ∀ g, Up g q (Keys rows1) → Up g q (Ks.add (Keys rows1) .one q) := fun g h => by
      obtain ⟨o1, o2, o3, o4⟩ := one_ne g
      exact ⟨h.s.add fun z => absurd z.symm o1, h.a.add fun z => absurd z.symm o2, h.b.add fun z => absurd z.symm o3, h.z.add fun z => absurd z.symm o4⟩
    refine (hS q b1 hql tq ckv1 rows1 (fun z => by have := b5.o _ z; omega) ⟨hup _ b5.u, hup _ b5.l, (b5.o.mono (by omega)).add fun _ => by omega⟩).mono (Nat.le_refl _) (Nat.le_refl _) (fun n h => h) ?_
    rintro n r n' - ⟨ckv', rows', res, a1, a2, a3, a4, h⟩
    refine ⟨ckv', rows', res, a1, a2, a3, a4, ?_⟩
    cases res with
    | none => exact ⟨b1, hql, b4, h.rel⟩
    | some t =>
      obtain ⟨e', s', t', cs'⟩ := t
      obtain ⟨rfl, h3, h4, h5, h6⟩ := h.some _ _ _ _ rfl
      refine ⟨rfl, h3, by omega, h4, by simp; omega, fun ts2 r hr => ?_, h5.up, h6.up, fun k hk => ?_⟩
      · rw [List.append_assoc]
        exact b4 _ _ (.step hql h.rel hr)
      · rcases h.one k hk with z | ⟨-, rfl⟩
        · have := b5.o _ z; omega
        · exact h3
/-- the whole, at fixed room -/
theorem all_ok (hR : R ≤ 20) (htx : text.length ≤ 12) {p : Int} (h0 : 0 ≤ p) (h1 : p ≤ (text.length : Int)) :
    (∀ g, McOk w mean mg mb gr c er ed text tt R (eS g) p 500 4000 (PS g p) (QS text g p)) ∧ McOk w mean mg mb gr c er ed text tt R .top p 500 4000 (PT p) (QT text p) := by
  have up : ∀ {e : Ex} {p : Int} {dd uu dd' uu' : Nat} {UP : Ks → Prop} {UR : Ks → Option T → Ks → Prop}, McOk w mean mg mb gr c er ed text tt R e p dd uu UP UR → dd ≤ dd' → uu ≤ uu' → McOk w mean mg mb gr c er ed text tt R e p dd' uu' UP UR :=
    fun h a b tp ckv rows h1 h2 => (h tp ckv rows h1 h2).mono a b (fun _ z => z) fun _ _ _ _ z => z
  have hs : ∀ g (q : Int), 0 ≤ q → q ≤ (text.length : Int) → McOk w mean mg mb gr c er ed text tt R (eS g) q (38 + 32 * 12) (220 + 220 * 12) (PS g q) (QS text g q) := fun g q a b => (sz_ok hR htx g 12).1 q a b (by omega)
  exact ⟨fun g => up (hs g p h0 h1) (by omega) (by omega), up (top_ok hR htx h0 h1 fun q hq hlt => one_ok hR htx (by omega) (by omega) fun g => hs g q (by omega) (by omega)) (by omega) (by omega)⟩
end
end Mine
end

section
-- part Le
open PySem PySem.Spec PySem.Calls PySem.W PyProof.Rows
local macro_rules | `(tactic| k_room) => `(tactic| ktr_room)
local macro_rules | `(tactic| k_all) => `(tactic| exact allNe_of' (by assumption) (by omega))
local macro_rules | `(tactic| k_all) => `(tactic| ((with_reducible rename AllLt _ _ => hAllLt); exact allNe_of hAllLt (by omega)))
local macro_rules | `(tactic| k_all) => `(tactic| assumption)
local macro_rules | `(tactic| k_mem) => `(tactic| first | exact List.Mem.head _ | (refine' List.mem_cons_of_mem _ ?_; k_mem))
local macro_rules | `(tactic| walk_at "call builtin:getattr") => `(tactic| (k_here; k_dflt (refine' Mine.oids_miss ?hA ?k1 ?k2 ?k3 ?k4 ?k5 ?k6 ?k7 ?k8 ?k9 ?k10 ?k11 ?k12 ?_; (case hA => exact rfl); (case k1 => k_asm); (case k2 => k_asm); (case k3 => k_asm); (case k4 => k_inst); (case k5 => k_is); (case k6 => k_is); (case k7 => k_is); (case k8 => k_is); (case k9 => k_is); (case k10 => decide +kernel); (case k11 => decide +kernel); (case k12 => k_get); k_whole); intro h' tk' F' N'; (try k_sweep)))
local macro_rules | `(tactic| walk_at "call builtin:getattr") => `(tactic| (k_here; k_dflt (refine' Mine.oids_hit ?k1 ?k2 ?k4 ?k5 ?k6 ?k7 ?k8 ?k12 ?k13 ?_; (case k1 => k_asm); (case k2 => k_asm); (case k4 => k_inst); (case k5 => k_is); (case k6 => k_is); (case k7 => k_is); (case k8 => k_is); (case k12 => k_get); (case k13 => k_handed); k_whole)))
local macro_rules | `(tactic| walk_at "exec For Tuple Call") => `(tactic| refine wpAny_For ?_)
local macro_rules | `(tactic| walk_at "call builtin:len") => `(tactic| (k_here; (with_reducible show wpAny _ _ (call (Value.builtin "len") [Value.ref _]) _ _ _); k_dflt (refine kda_len (knd := PySem.intKind _ _) (by k_asm) (by k_mem) (by assumption) (by assumption) (by first | omega | (simp only [List.length_append, List.length_cons, List.length_nil]; omega)) ?_)))
local macro_rules | `(tactic| walk_at "setItem ref int") => `(tactic| (k_here; k_dflt (refine' Mine.set_new ?F ?N ?U ?d ?z ?v ?_; (case F => k_asm); (case N => k_asm); (case U => k_updF); (case d => assumption); (case z => (try simp only [List.length_append, List.length_cons, List.length_nil]); omega); (case v => assumption)); intro h' o' F' N' hd'; (try dsimp only at N'); (try k_sweep)))
local macro_rules | `(tactic| walk_at "getMethod ref") => `(tactic| (k_here; (with_reducible show wpAny _ _ (getMethod (Value.ref _) (Str.ofString "get") _) _ _ _); k_dflt (refine kdg_method (knd := PySem.intKind _ _) (by k_asm) (by k_mem) (by assumption) ?_)))
local macro_rules | `(tactic| walk_at "call builtin:dict.get") => `(tactic| (k_here; k_dflt (refine kdg_get1 (knd := PySem.intKind _ _) (by k_asm) (by k_mem) (by assumption) (by assumption) (intKind_is _ _ _ _) _ (by first | assumption | rfl) ?_); (try dsimp only [Option.getD])))
local macro_rules | `(tactic| walk_at "compareOp In int ref") => `(tactic| (k_here; k_dflt (refine kda_in (knd := PySem.intKind _ _) (by k_asm) (by k_mem) (by assumption) (by assumption) (intKind_is _ _ _ _) _ (by first | assumption | rfl) ?_)))
local macro_rules | `(tactic| walk_at "compareOp Is ref ref") => `(tactic| (k_here; k_dflt (refine' wpAny_is_ref_other ?ne ?x ?y ?n ?_; (case ne => assumption); (case x => (exact (PyProof.Rows.News.get (by k_asm) (by k_mem)))); (case y => (exact (PyProof.Rows.News.get (by k_asm) (by k_mem)))); (case n => assumption))))
local macro_rules | `(tactic| walk_at "binaryOp Add ref ref") => `(tactic| (k_here; k_dflt (refine' kde_addT ?k1 ?k2 ?k3 ?k4 ?k5 ?k6 ?k7 ?k8 ?_; (case k1 => k_asm); (case k2 => k_asm); (case k3 => exact PyProof.Rows.News.isTup (by k_asm) (by k_mem)); (case k4 => exact PyProof.Rows.News.isTup (by k_asm) (by k_mem)); (case k5 => exact List.cons_ne_nil _ _); (case k6 => assumption); (case k7 => (simp only [List.length_cons, List.length_nil]; omega)); (case k8 => exact rfl); k_whole); intro D' h' F' N' l1; (try k_lt l1); (try k_sweep)))
local macro_rules | `(tactic| walk_at "getMethod ref") => `(tactic| (k_here; k_dflt (refine' method_inst ?k1 ?k2 ?k3 ?k4 ?k5 ?k6 ?k7 ?_; (case k1 => k_asm); (case k2 => k_asm); (case k3 => k_inst); (case k4 => k_is); (case k5 => k_is); (case k6 => k_is); (case k7 => assumption); k_whole)))
local macro_rules | `(tactic| walk_at "setItem ref int") => `(tactic| (k_here; k_dflt (refine' Mine.set_old ?F ?N ?U ?d ?z ?v ?_; (case F => k_asm); (case N => k_asm); (case U => k_updF); (case d => assumption); (case z => omega); (case v => assumption)); intro h' o' F' N' hd'; (try dsimp only at N'); (try k_sweep)))
local macro_rules | `(tactic| k_inst) => `(tactic| (refine' Mine.InstAt.of_newsF ?N ?h1 ?h2; (case N => k_asm); (case h1 => k_mem); (case h2 => k_mem)))
local macro_rules | `(tactic| walk_at "getAttr ref") => `(tactic| (k_here; k_dflt (refine' Mine.get_exc ?k1 ?k2 ?k3 ?k4 ?k5 ?k6 ?k7 ?k8 ?k9 ?k10 ?_; (case k1 => k_asm); (case k2 => k_asm); (case k3 => k_inst); (case k4 => k_is); (case k5 => k_is); (case k6 => k_is); (case k7 => k_is); (case k8 => k_is); (case k9 => k_get); (case k10 => k_handed); k_whole)))
local macro_rules | `(tactic| walk_at "setAttr ref") => `(tactic| (k_here; k_dflt (refine' Mine.set_exc ?k1 ?k2 ?k3 ?k4 ?k5 ?k6 ?k7 ?k8 ?k9 ?k10 ?k11 ?k12 ?k13 ?k14 ?k15 ?_; (case k1 => k_asm); (case k2 => k_asm); (case k3 => k_asm); (case k4 => k_inst); (case k5 => exact rfl); (case k6 => k_is); (case k7 => k_is); (case k8 => (intro self; (try dsimp only); (repeat rw [refuseLoop_ref]); exact PySem.F.store_Exception.passes self)); (case k9 => k_is); (case k10 => exact rfl); (case k11 => k_is); (case k12 => k_get); (case k13 => k_put); (case k14 => k_upd); (case k15 => exact Nat.le_of_ble_eq_true rfl); k_whole); intro h' F' N'; (try k_sweep)))
local macro_rules | `(tactic| walk_at "call builtin:getattr") => `(tactic| (k_here; k_dflt (refine' Mine.none_name ?hA ?k1 ?k2 ?_; (case hA => exact rfl); (case k1 => k_asm); (case k2 => k_asm)); intro h' tk' F' N'; (try k_sweep)))
local macro_rules | `(tactic| walk_at "call builtin:getattr") => `(tactic| (k_here; k_dflt (refine' Mine.name3 ?k1 ?k2 ?k3 _ ?k4 ?k5 ?k6 ?_; (case k1 => k_asm); (case k2 => k_asm); (case k3 => k_asm); (case k4 => k_mem); (case k5 => k_mem); (case k6 => assumption)); intro nt'))
local macro_rules | `(tactic| walk_at "eval Name") => `(tactic| (k_here; k_dflt (refine' ld ?k1 ?k2 ?_; (case k1 => k_asm); (case k2 => first | exact rfl | assumption); k_whole)))
local macro_rules | `(tactic| walk_at "call builtin:list.append") => `(tactic| (k_here; (show wpAny _ _ (call (Value.builtin _) [Value.ref _, _]) _ _ _); k_dflt (refine' append_K ?k1 ?k2 ?k3 ?_ ?z; (case k1 => k_asm); (case k2 => k_asm); (case k3 => k_upd); (case z => (rw [sizeLine_eq]; simp only [List.size_toArray]; omega)); k_whole); intro h' F' N'; (try k_sweep)))
local macro_rules | `(tactic| walk_at "getMethod ref") => `(tactic| (k_here; (with_reducible show wpAny _ _ (getMethod (Value.ref _) (Str.ofString "match_core") _) _ _ _); k_dflt (refine' Mine.core_method ?k1 ?k2 ?k3 _ ?k4 ?k5 ?k6 ?_; (case k1 => k_asm); (case k2 => k_asm); (case k3 => k_asm); (case k4 => k_mem); (case k5 => k_mem); (case k6 => assumption))))
local macro_rules | `(tactic| walk_at "loadName") => `(tactic| (refine' ldn ?k1 ?k2 ?_; (case k1 => assumption); (case k2 => first | exact rfl | assumption)))
local macro_rules | `(tactic| k_all) => `(tactic| first | exact Mine.allNe_c1 (by assumption) (by omega) | exact Mine.allNe_c2 (by assumption) (by omega) | exact Mine.allNe_c3 (by assumption) (by omega) | exact Mine.allNe_c4 (by assumption) (by omega) | exact Mine.allNe_c5 (by assumption) (by omega) | exact Mine.allNe_c6 (by assumption) (by omega) | exact Mine.allNe_c7 (by assumption) (by omega) | exact Mine.allNe_c8 (by assumption) (by omega))
local macro_rules | `(tactic| walk_at "truthy ref") => `(tactic| (k_here; (with_reducible show wpAny _ _ (truthy (Value.ref _)) _ _ _); k_dflt (refine' Mine.truthy_lst ?N ?m ?z ?b ?_; (case N => k_asm); (case m => k_mem); (case z => first | omega | (simp only [List.length_cons, List.length_nil]; omega)); (case b => first | assumption | exact (show _ = true from rfl) | exact (show _ = false from rfl)))))
local macro_rules | `(tactic| walk_at "compareOp Lt int float") => `(tactic| refine Mine.inf_lt ?_)
local macro_rules | `(tactic| walk_at "call builtin:len") => `(tactic| (k_here; (with_reducible show wpAny _ _ (call (Value.builtin "len") [Value.ref _]) _ _ _); k_dflt (refine' Mine.len_lst ?N ?m ?z ?_; (case N => k_asm); (case m => k_mem); (case z => first | omega | (simp only [List.length_cons, List.length_nil]; omega)))))
local macro_rules | `(tactic| walk_at "call ref") => `(tactic| (k_here; (with_reducible show wpAny _ _ (call (Value.ref 87) _) _ _ _); k_dflt (refine' Mine.call_exc ?F ?X ?N ?hC ?hB ?hA ?hN ?hi ?hf ?hself ?hz ?_; (case F => k_asm); (case X => k_asm); (case N => k_asm); (case hC => k_is); (case hB => decide +kernel); (case hA => decide +kernel); (case hN => decide +kernel); (case hi => k_is); (case hf => k_is); (case hself => k_is); (case hz => exact Nat.le_of_ble_eq_true rfl); k_whole); intro x' t' h' F' N' l1 l2; (try k_lt l1); (try k_lt2 l2); (try k_sweep); k_enter))
local macro_rules | `(tactic| walk_at "call ref") => `(tactic| (k_here; (with_reducible show wpAny _ _ (call (Value.ref 125) _) _ _ _); k_dflt (refine' Mine.call_exc ?F ?X ?N ?hC ?hB ?hA ?hN ?hi ?hf ?hself ?hz ?_; (case F => k_asm); (case X => k_asm); (case N => k_asm); (case hC => k_is); (case hB => decide +kernel); (case hA => decide +kernel); (case hN => decide +kernel); (case hi => k_is); (case hf => k_is); (case hself => k_is); (case hz => exact Nat.le_of_ble_eq_true rfl); k_whole); intro x' t' h' F' N' l1 l2; (try k_lt l1); (try k_lt2 l2); (try k_sweep); k_enter))
local macro_rules | `(tactic| walk_at "setAttr ref") => `(tactic| (k_here; k_dflt (refine' Mine.set_exc0 ?F ?X ?N ?hx ?hs ?hc ?hp ?hm ?hD ?ha ?_; (case F => k_asm); (case X => k_asm); (case N => k_asm); (case hx => k_all); (case hs => k_is); (case hc => k_is); (case hp => (intro self; (try dsimp only); (repeat rw [refuseLoop_ref]); exact PySem.F.store_Exception.passes self)); (case hm => k_is); (case hD => exact rfl); (case ha => k_is); k_whole); intro d' h' F' N' l1; (try k_lt l1); (try k_sweep)))
namespace Mine
/-- a call's contract, from the law's own frame -/
def Spec0 (w : World) (mean : ExcName → Option Value) (mg mb : Str → Option Value) (f : Addr) (args : List Value) (dd uu : Nat) (Pre : Led → Prop) (Post : Led → Value → Led → Prop) : Prop :=
  ∀ (dp un : Nat) (gd : Option (List Code)) (cn : Str) (cs : Scope) (a : Addr) (ccd : Value) (cl : List (Str × Addr)) (A₀ : Around) (base h₀ : Heap) (L : Addr) (m : Str → Option Value) (news : Led) (s : Shared) (Q E : Value → Shared → Prop),
    (hd.heap_39 w.params).In base → Top topProg TLOOSE mean mg mb base → Below A₀ base [] h₀ → Fr h₀ L s.heap m → (hd.heap_39 w.params).In h₀ → News h₀ L s.heap news → Top topProg TLOOSE mean mg mb h₀ → cs.kind = .function → Pre news → dp + dd < recursionLimit → un + uu < cLine →
    (∀ r news' h' tk', Fr h₀ L h' m → News h₀ L h' news' → Post news r news' → Q r { s with heap := h', toks := tk' }) →
    wpAny (model PW w) (ktrTop dp un gd cn cs L a ccd cl []) (call (.ref f) args) Q E s
/-- the grammar between two parses -/
structure GrOk (R : Nat) (gr : Gr) (news : Led) : Prop where
  ex : ∀ e, ∃ ps, OidsOk news (gr.xd e) ps ∧ ps.length ≤ R
  inst : ∀ e, ∃ sl, InstOk news gr e sl ∧ NameAt e sl ∧ ShapeAt gr news e sl
  apart : ∀ e e', e ≠ e' → gr.xd e ≠ gr.xd e'
theorem start_st {w : World} {R : Nat} {gr : Gr} {c er ed : Addr} {text : Str} {news nf : Led} {oc : Obj} {vs : Array Value} {sl : Array (Option Value)} {hh0 hh : Heap} {LL : Addr} (N9 : News hh0 LL hh nf) (G : GrOk R gr news) (hsub : ∀ q ∈ news, q ∈ nf) (hoc : (c, oc) ∈ nf) (hocd : oc.IsDictOf (intKind PW w) [])
    (hcs : (c == sysModules) = false) (he : ErrOk nf gr ed text) (her : (er, ({ cls := .ref 87, dict := some ed, data := .fields vs, slots := sl } : Obj)) ∈ nf) (hce : c ≠ ed) (hcn : ∀ q ∈ news, q.1 ≠ c) (hen : ∀ q ∈ news, q.1 ≠ ed) :
    St w R gr c ed text nf [] (fun _ => none) ∧ Stat gr er ed nf := by
  have hx : ∀ e, ∃ o, (gr.xd e, o) ∈ news := fun e => let ⟨ps, h, _⟩ := G.ex e; h.at
  refine ⟨⟨⟨oc, hoc, hocd, hcs⟩, nofun, nofun, rfl, fun e => ?_, nofun, nofun, he, hce, fun e => ?_, G.apart⟩, fun e => ?_, vs, sl, her⟩
  · obtain ⟨ps, h1, h2⟩ := G.ex e
    exact ⟨ps, h1.sub fun q hq _ => hsub q hq, h2, nofun⟩
  · obtain ⟨o, ho⟩ := hx e
    exact ⟨hcn _ ho, hen _ ho⟩
  · obtain ⟨sl, h1, h2, h3⟩ := G.inst e
    exact ⟨sl, h1.keep (Keep.of_sub hsub), h2, h3.keep (Keep.of_sub hsub)⟩
theorem end_gr {w : World} {R : Nat} {gr : Gr} {c er ed : Addr} {text : Str} {news : Led} {ckv : KV} {rows : Rows} (S : St w R gr c ed text news ckv rows) (ST : Stat gr er ed news) : GrOk (R + 1) gr news := by
  refine ⟨fun e => ?_, ST.inst, S.apart.2.2⟩
  obtain ⟨ps, h1, h2⟩ := S.ex e
  refine ⟨ps, h1, ?_⟩
  cases hr : rows e with
  | none => rw [hr] at h2; exact Nat.le_succ_of_le h2.1
  | some r => obtain ⟨i, ec, kv⟩ := r; rw [hr] at h2; exact h2.1.2
theorem keys0 {e : Ex} {k : Int} : ¬ Keys (fun _ => none) e k := by rintro ⟨i, a, kv, v, h, -⟩; cases h
theorem up0 (g : Bool) (p : Int) : Up g p (Keys fun _ => none) := ⟨fun k h => (keys0 h).elim, fun k h => (keys0 h).elim, fun k h => (keys0 h).elim, fun k h => (keys0 h).elim⟩
theorem OidsOk.drop {a b : Led} {x : Str} {xt : Tok} {l : List Value} (k : ∀ q ∈ a, q.2.cls = .type "dict" ∨ (q.2.cls = .type "tuple" ∧ ∀ n, q.2 ≠ tupO (.str x xt :: l) n) → q ∈ b) {xd : Addr} {ps : List (Int × Addr)} : OidsOk a xd ps → OidsOk b xd ps := by
  have kp : ∀ {vs ps}, PairsIn a vs ps → PairsIn b vs ps := by
    intro vs
    induction vs with
    | nil => intro ps h; cases ps with | nil => exact trivial | cons _ _ => exact h.elim
    | cons v vs ih =>
      intro ps h
      cases ps with
      | nil => exact h.elim
      | cons p ps =>
        obtain ⟨⟨a1, tk, ep, e, h1, ob, ho, hc⟩, r⟩ := h
        exact ⟨⟨a1, tk, ep, e, k _ h1 (.inr ⟨rfl, fun n z => by simp at z⟩), ob, k _ ho (.inl hc), hc⟩, ih r⟩
  rintro (⟨e, h⟩ | ⟨hh, kk, t, vs, ep, h1, h2, h3, h4⟩)
  · exact .inl ⟨e, k _ h (.inl rfl)⟩
  · refine .inr ⟨hh, kk, t, vs, ep, k _ h1 (.inl rfl), k _ h2 (.inr ⟨rfl, fun n z => ?_⟩), kp h3, h4⟩
    cases vs with
    | nil => exact h4 rfl
    | cons v vs =>
      cases ps with
      | nil => exact h3
      | cons p ps =>
        obtain ⟨⟨a1, tk, ep, e, -⟩, -⟩ := h3
        subst e
        simp at z
theorem GrOk.drop {R : Nat} {gr : Gr} {a b : Led} {x : Str} {xt : Tok} {l : List Value} (k : ∀ q ∈ a, q.2.cls = .type "dict" ∨ (q.2.cls = .type "tuple" ∧ ∀ n, q.2 ≠ tupO (.str x xt :: l) n) ∨ (∃ e : Ex, q.2.cls = .ref e.cls) → q ∈ b) (G : GrOk R gr a) : GrOk R gr b := by
  refine ⟨fun e => ?_, fun e => ?_, G.apart⟩
  · obtain ⟨ps, h1, h2⟩ := G.ex e
    exact ⟨ps, h1.drop fun q hq h => k q hq (h.imp id .inl), h2⟩
  · obtain ⟨sl, h1, h2, h3⟩ := G.inst e
    have kt : ∀ {mt : Addr} {y : Addr} {vs : List Value} {ep : Nat}, (mt, tupO (.ref y :: vs) ep) ∈ a → (mt, tupO (.ref y :: vs) ep) ∈ b := fun h => k _ h (.inr (.inl ⟨rfl, fun n z => by simp at z⟩))
    refine ⟨sl, k _ h1 (.inr (.inr ⟨e, rfl⟩)), h2, ?_⟩
    cases e
    case uA => exact h3
    case uB => exact h3
    case lA => exact h3
    case lB => exact h3
    case uS => obtain ⟨a, b, c, d, e1, e2⟩ := h3; exact ⟨a, b, c, d, e1, kt e2⟩
    case lS => obtain ⟨a, b, c, d, e1, e2⟩ := h3; exact ⟨a, b, c, d, e1, kt e2⟩
    case one => obtain ⟨a, b, c, d, e1, e2⟩ := h3; exact ⟨a, b, c, d, e1, kt e2⟩
    all_goals (obtain ⟨a, b, c, d, e1, e2, e3, e4⟩ := h3; exact ⟨a, b, c, d, e1, e2, e3, kt e4⟩)
theorem ecls_ne (e : Ex) : Value.ref e.cls ≠ .ref 87 := by cases e <;> decide
theorem ecls_ne' (e : Ex) : Value.ref e.cls ≠ .ref 125 := by cases e <;> decide
theorem raise_gr {R : Nat} {gr : Gr} {news4 news : Led} {er t : Addr} {oe : Obj} {text : Str} {tt : Tok} {l : List Value} {n : Nat} (fn : ∀ a o o', (a, o) ∈ news4 → (a, o') ∈ news4 → o = o') {C : Addr} (her : (er, oe) ∈ news4) (hoe : oe.cls = .ref C) (hC : ∀ e : Ex, Value.ref e.cls ≠ .ref C) (het : (t, tupO (.str text tt :: l) n) ∈ news4)
    (G : GrOk R gr news4) (K : Keep news news4) (he0 : ∀ q ∈ news, q.1 ≠ er) (ht0 : ∀ q ∈ news, q.1 ≠ t) :
    GrOk R gr (news4.filter fun q => decide (q.1 ≠ er ∧ q.1 ≠ t)) ∧ Keep news (news4.filter fun q => decide (q.1 ≠ er ∧ q.1 ≠ t)) := by
  refine ⟨G.drop (x := text) (xt := tt) (l := l) fun q hq hc => List.mem_filter.mpr ⟨hq, decide_eq_true ⟨fun z => ?_, fun z => ?_⟩⟩, fun q hq hc => ?_, fun q hq => ?_⟩
  · have := fn er q.2 oe (z ▸ hq) her
    rw [this, hoe] at hc
    rcases hc with h | ⟨h, -⟩ | ⟨e, h⟩
    · cases h
    · cases h
    · exact hC e h.symm
  · have := fn t q.2 _ (z ▸ hq) het
    rw [this] at hc
    rcases hc with h | ⟨-, h⟩ | ⟨e, h⟩
    · simp at h
    · exact h n rfl
    · cases h
  · exact List.mem_filter.mpr ⟨K.same q hq hc, decide_eq_true ⟨he0 q hq, ht0 q hq⟩⟩
  · obtain ⟨o, h1, h2⟩ := K.dom q hq
    exact ⟨o, List.mem_filter.mpr ⟨h1, decide_eq_true ⟨he0 q hq, ht0 q hq⟩⟩, h2⟩
theorem le_ok {w : World} {mean : ExcName → Option Value} {mg mb : Str → Option Value} {gr : Gr} {text : Str} {tt tp : Tok} {R : Nat} {g : Bool} {p : Int} (hR : R ≤ 20) (htx : text.length ≤ 12) (hp0 : 0 ≤ p) (hp1 : p ≤ (text.length : Int)) :
    Spec0 w mean mg mb 569 [.ref (gr.xa (eS g)), .str text tt, .int p tp] 600 5000 (fun news => GrOk R gr news)
      (fun news r news' => GrOk (R + 1) gr news' ∧ Keep news news' ∧ ∃ tk res, RS text g p res ∧ r = .int (match res with | some (.node _ _ t _) => t | none => -1) tk) := by
  intro dp un gd cn cs a ccd cl A₀ base h₀ L m news s Q E XB TB B F X N T hk hPre hdd huu hret
  obtain ⟨slS, hin, hna, hsh⟩ := hPre.inst (eS g)
  obtain ⟨ps, hps, hpl⟩ := hPre.ex (eS g)
  have hxdS : ∃ es n, (gr.xd (eS g), dictOf es n) ∈ news ∧ getL (Str.ofString "match") es = some none ∧ getL (Str.ofString "match_core") es = some none := by
    rcases hps with ⟨-, h⟩ | ⟨hh, kk, t, vs, ep, h, -⟩
    · exact ⟨_, _, h, rfl, rfl⟩
    · exact ⟨_, _, h, by rfl, by rfl⟩
  obtain ⟨es, en, hxd, hmt, hmc⟩ := hxdS
  unfold InstOk at hin
  have hcls : (eS g).cls = 425 := by cases g <;> rfl
  rw [hcls] at hin
  w_top off; w_on
  refine wpAny_call ?_
  w_strict (k_dflt (refine' Mine.defX0 ?k1 ?k2 ?k3 ?k4 ?k5 ?kA ?k6 ?k7 ?k8 ?k9 ?kB ?_ ?cK ?c2 ?c3 ?c4 ?c5; (case kA => exact rfl); (case k2 => k_asm); (case k1 => k_asm); (case k3 => k_asm); (case k4 => k_asm); (case k5 => k_asm); (case k6 => k_is); (case k7 => k_is); (case k8 => ktr_room); (case k9 => exact BindsTo.of_eq rfl); (case kB => exact locs rfl); (case cK => assumption); (case c2 => exact rfl); (case c3 => exact rfl); (case c4 => exact rfl); (case c5 => decide); k_whole); intro g1 L1 h1 FG1 F1 N1 B1 X1 T1 D1; (try dsimp only); (try k_lift B1); (try k_fold))
  w_strict (iterate 66 (first | (k_unfold; (try dsimp only)) | (k_end; wrow_close) | walk1 | (dsimp only; walk1) | (leave1; walk_say "STEP leave1"; try dsimp only) | fail "no step"))
  with_reducible rename News _ _ _ _ => N9
  rename Obj.IsDictOf (intKind _ _) _ [] => hocd
  rename (_ == sysModules) = false => hcs
  rename _ < _ ∧ _ < _ ∧ _ < _ ∧ AllLt _ _ => hl3
  rename _ < _ ∧ _ < _ ∧ AllLt _ _ => hl2
  have hst := start_st (gr := gr) (text := text) N9 hPre (fun q hq => .tail _ (.tail _ (.tail _ (.tail _ hq)))) (.head _) hocd hcs
    ⟨_, _, _, _, _, _, _, -1, _, _, .tail _ (.head _), by omega, by omega, .inl rfl⟩ (.tail _ (.tail _ (.head _))) (Nat.ne_of_gt hl3.1) (fun q hq => Nat.ne_of_lt (ktn_ltOf hl3.2.2.2 q hq)) (fun q hq => Nat.ne_of_lt (ktn_ltOf hl2.2.2 q hq))
  refine Spec.use (by assumption) (by assumption) (by assumption) N9 (by assumption) rfl ((all_ok hR htx hp0 hp1).1 g _ [] (fun _ => none) keys0 (up0 g p).ps) hst (by ktr_room) (by ktr_units) ?_
  rintro r news4 h4 tk4 F4 N4 ⟨ckv4, rows4, res, S4, K4, G4, hres, hur⟩
  have hfn4 : ∀ a o o', (a, o) ∈ news4 → (a, o') ∈ news4 → o = o' := fun a o o' x y => Mine.News.fn N4 x y
  have K5 : Keep news news4 := (Keep.of_sub fun q hq => .tail _ (.tail _ (.tail _ (.tail _ hq)))).trans K4
  have G5 := end_gr S4 (hst.2.keep K4)
  cases res with
  | some T0 =>
    cases hres with
    | @mk na nl nd nod ne ns nt nts ntt ntx nvs ncs nep hn1 hn2 hn3 hn4 hn5 hn8 hn6 hn7 =>
    w_strict (k_sweep; repeat' (first | (k_unfold; (try dsimp only)) | (k_end; wrow_close) | walk1 | (dsimp only; walk1) | (leave1; walk_say "STEP leave1"; try dsimp only) | fail "no step"))
    with_reducible rename News _ _ _ _ => N6
    with_reducible rename Fr _ _ _ _ => F6
    exact hret _ _ _ _ F6 N6 ⟨G5, K5, _, _, hur.rel, rfl⟩
  | none =>
    have her := K4.same _ (.tail _ (.tail _ (.head _))) (ref_nd _)
    have het := K4.same _ (.tail _ (.tail _ (.tail _ (.head _)))) tup_nd
    cases hres
    w_strict (k_sweep; iterate 11 (first | (k_unfold; (try dsimp only)) | (k_end; wrow_close) | walk1 | (dsimp only; walk1) | (leave1; walk_say "STEP leave1"; try dsimp only) | fail "no step"))
    w_strict (refine Mine.raise_own (K := hd.heap_39 w.params) (C := 87) rfl (by k_is) (by k_is) ?_)
    w_strict ((first | (k_unfold; (try dsimp only)) | (k_end; wrow_close) | walk1 | (dsimp only; walk1) | (leave1; walk_say "STEP leave1"; try dsimp only) | fail "no step"))
    with_reducible rename News _ _ _ _ => N6
    with_reducible rename Fr _ _ _ _ => F6
    refine ⟨_, _, _, rfl, (N6 _ her).1, rfl, rfl, rfl, Frag.In.keeps (by assumption) F6.keep, ?_⟩
    w_strict ((first | (k_unfold; (try dsimp only)) | (k_end; wrow_close) | walk1 | (dsimp only; walk1) | (leave1; walk_say "STEP leave1"; try dsimp only) | fail "no step"))
    rename Below _ _ (_ :: _ :: []) _ => BB
    refine Mine.leave_own BB F6 N6 her rfl rfl rfl het ?_
    intro h9 R9 RK9 U9
    dsimp only at R9 RK9 U9 ⊢
    w_strict (refine' caught_SO0 ?R ?F ?K ?hsm ?XB ?TB ?D ?T0 ?ex ?q ?_; (case R => exact R9); (case K => exact B1); (case F => assumption); (case hsm => exact U9); (case XB => exact XB); (case TB => exact TB); (case D => exact D1); (case T0 => exact KtsTurn.refl); (case ex => k_is); (case q => kts_isx))
    intro h10 g10 n10 T10 F10 N10' G10 N10 K10 X10 P10 D10
    w_strict (repeat' (first | (k_unfold; (try dsimp only)) | (k_end; wrow_close) | walk1 | (dsimp only; walk1) | (leave1; walk_say "STEP leave1"; try dsimp only) | fail "no step"))
    with_reducible rename News _ _ _ _ => N7
    with_reducible rename Fr _ _ _ _ => F7
    rename ∀ p ∈ news, p.1 < _ => hlt0
    rename _ < _ => hlx0
    obtain ⟨Gz, Kz⟩ := raise_gr hfn4 her rfl ecls_ne het G5 K5 (fun q hq => Nat.ne_of_lt (Nat.lt_trans (hlt0 q hq) hlx0)) (fun q hq => Nat.ne_of_lt (hlt0 q hq))
    exact hret _ _ _ _ F7 N7 ⟨Gz, Kz, _, none, hur.rel, rfl⟩
end Mine
end

section
-- part Lw
open PySem PySem.Spec PySem.Calls PySem.W PyProof.Rows
local macro_rules | `(tactic| walk_at "pad of mine") => `(tactic| fail)
local macro_rules | `(tactic| k_room) => `(tactic| ktr_room)
local macro_rules | `(tactic| k_all) => `(tactic| exact allNe_of' (by assumption) (by omega))
local macro_rules | `(tactic| k_all) => `(tactic| ((with_reducible rename AllLt _ _ => hAllLt); exact allNe_of hAllLt (by omega)))
local macro_rules | `(tactic| k_all) => `(tactic| assumption)
local macro_rules | `(tactic| k_mem) => `(tactic| first | exact List.Mem.head _ | (refine' List.mem_cons_of_mem _ ?_; k_mem))
local macro_rules | `(tactic| walk_at "call builtin:getattr") => `(tactic| (k_here; k_dflt (refine' Mine.oids_miss ?hA ?k1 ?k2 ?k3 ?k4 ?k5 ?k6 ?k7 ?k8 ?k9 ?k10 ?k11 ?k12 ?_; (case hA => exact rfl); (case k1 => k_asm); (case k2 => k_asm); (case k3 => k_asm); (case k4 => k_inst); (case k5 => k_is); (case k6 => k_is); (case k7 => k_is); (case k8 => k_is); (case k9 => k_is); (case k10 => decide +kernel); (case k11 => decide +kernel); (case k12 => k_get); k_whole); intro h' tk' F' N'; (try k_sweep)))
local macro_rules | `(tactic| walk_at "call builtin:getattr") => `(tactic| (k_here; k_dflt (refine' Mine.oids_hit ?k1 ?k2 ?k4 ?k5 ?k6 ?k7 ?k8 ?k12 ?k13 ?_; (case k1 => k_asm); (case k2 => k_asm); (case k4 => k_inst); (case k5 => k_is); (case k6 => k_is); (case k7 => k_is); (case k8 => k_is); (case k12 => k_get); (case k13 => k_handed); k_whole)))
local macro_rules | `(tactic| walk_at "exec For Tuple Call") => `(tactic| refine wpAny_For ?_)
local macro_rules | `(tactic| walk_at "call builtin:len") => `(tactic| (k_here; (with_reducible show wpAny _ _ (call (Value.builtin "len") [Value.ref _]) _ _ _); k_dflt (refine kda_len (knd := PySem.intKind _ _) (by k_asm) (by k_mem) (by assumption) (by assumption) (by first | omega | (simp only [List.length_append, List.length_cons, List.length_nil]; omega)) ?_)))
local macro_rules | `(tactic| walk_at "setItem ref int") => `(tactic| (k_here; k_dflt (refine' Mine.set_new ?F ?N ?U ?d ?z ?v ?_; (case F => k_asm); (case N => k_asm); (case U => k_updF); (case d => assumption); (case z => (try simp only [List.length_append, List.length_cons, List.length_nil]); omega); (case v => assumption)); intro h' o' F' N' hd'; (try dsimp only at N'); (try k_sweep)))
local macro_rules | `(tactic| walk_at "getMethod ref") => `(tactic| (k_here; (with_reducible show wpAny _ _ (getMethod (Value.ref _) (Str.ofString "get") _) _ _ _); k_dflt (refine kdg_method (knd := PySem.intKind _ _) (by k_asm) (by k_mem) (by assumption) ?_)))
local macro_rules | `(tactic| walk_at "call builtin:dict.get") => `(tactic| (k_here; k_dflt (refine kdg_get1 (knd := PySem.intKind _ _) (by k_asm) (by k_mem) (by assumption) (by assumption) (intKind_is _ _ _ _) _ (by first | assumption | rfl) ?_); (try dsimp only [Option.getD])))
local macro_rules | `(tactic| walk_at "compareOp In int ref") => `(tactic| (k_here; k_dflt (refine kda_in (knd := PySem.intKind _ _) (by k_asm) (by k_mem) (by assumption) (by assumption) (intKind_is _ _ _ _) _ (by first | assumption | rfl) ?_)))
local macro_rules | `(tactic| walk_at "compareOp Is ref ref") => `(tactic| (k_here; k_dflt (refine' wpAny_is_ref_other ?ne ?x ?y ?n ?_; (case ne => assumption); (case x => (exact (PyProof.Rows.News.get (by k_asm) (by k_mem)))); (case y => (exact (PyProof.Rows.News.get (by k_asm) (by k_mem)))); (case n => assumption))))
local macro_rules | `(tactic| walk_at "binaryOp Add ref ref") => `(tactic| (k_here; k_dflt (refine' kde_addT ?k1 ?k2 ?k3 ?k4 ?k5 ?k6 ?k7 ?k8 ?_; (case k1 => k_asm); (case k2 => k_asm); (case k3 => exact PyProof.Rows.News.isTup (by k_asm) (by k_mem)); (case k4 => exact PyProof.Rows.News.isTup (by k_asm) (by k_mem)); (case k5 => exact List.cons_ne_nil _ _); (case k6 => assumption); (case k7 => (simp only [List.length_cons, List.length_nil]; omega)); (case k8 => exact rfl); k_whole); intro D' h' F' N' l1; (try k_lt l1); (try k_sweep)))
local macro_rules | `(tactic| walk_at "getMethod ref") => `(tactic| (k_here; k_dflt (refine' method_inst ?k1 ?k2 ?k3 ?k4 ?k5 ?k6 ?k7 ?_; (case k1 => k_asm); (case k2 => k_asm); (case k3 => k_inst); (case k4 => k_is); (case k5 => k_is); (case k6 => k_is); (case k7 => assumption); k_whole)))
local macro_rules | `(tactic| walk_at "setItem ref int") => `(tactic| (k_here; k_dflt (refine' Mine.set_old ?F ?N ?U ?d ?z ?v ?_; (case F => k_asm); (case N => k_asm); (case U => k_updF); (case d => assumption); (case z => omega); (case v => assumption)); intro h' o' F' N' hd'; (try dsimp only at N'); (try k_sweep)))
local macro_rules | `(tactic| k_inst) => `(tactic| (refine' Mine.InstAt.of_newsF ?N ?h1 ?h2; (case N => k_asm); (case h1 => k_mem); (case h2 => k_mem)))
local macro_rules | `(tactic| walk_at "getAttr ref") => `(tactic| (k_here; k_dflt (refine' Mine.get_exc ?k1 ?k2 ?k3 ?k4 ?k5 ?k6 ?k7 ?k8 ?k9 ?k10 ?_; (case k1 => k_asm); (case k2 => k_asm); (case k3 => k_inst); (case k4 => k_is); (case k5 => k_is); (case k6 => k_is); (case k7 => k_is); (case k8 => k_is); (case k9 => k_get); (case k10 => k_handed); k_whole)))
local macro_rules | `(tactic| walk_at "setAttr ref") => `(tactic| (k_here; k_dflt (refine' Mine.set_exc ?k1 ?k2 ?k3 ?k4 ?k5 ?k6 ?k7 ?k8 ?k9 ?k10 ?k11 ?k12 ?k13 ?k14 ?k15 ?_; (case k1 => k_asm); (case k2 => k_asm); (case k3 => k_asm); (case k4 => k_inst); (case k5 => exact rfl); (case k6 => k_is); (case k7 => k_is); (case k8 => (intro self; (try dsimp only); (repeat rw [refuseLoop_ref]); exact PySem.F.store_Exception.passes self)); (case k9 => k_is); (case k10 => exact rfl); (case k11 => k_is); (case k12 => k_get); (case k13 => k_put); (case k14 => k_upd); (case k15 => exact Nat.le_of_ble_eq_true rfl); k_whole); intro h' F' N'; (try k_sweep)))
local macro_rules | `(tactic| walk_at "call builtin:getattr") => `(tactic| (k_here; k_dflt (refine' Mine.none_name ?hA ?k1 ?k2 ?_; (case hA => exact rfl); (case k1 => k_asm); (case k2 => k_asm)); intro h' tk' F' N'; (try k_sweep)))
local macro_rules | `(tactic| walk_at "call builtin:getattr") => `(tactic| (k_here; k_dflt (refine' Mine.name3 ?k1 ?k2 ?k3 _ ?k4 ?k5 ?k6 ?_; (case k1 => k_asm); (case k2 => k_asm); (case k3 => k_asm); (case k4 => k_mem); (case k5 => k_mem); (case k6 => assumption)); intro nt'))
local macro_rules | `(tactic| walk_at "eval Name") => `(tactic| (k_here; k_dflt (refine' ld ?k1 ?k2 ?_; (case k1 => k_asm); (case k2 => first | exact rfl | assumption); k_whole)))
local macro_rules | `(tactic| walk_at "call builtin:list.append") => `(tactic| (k_here; (show wpAny _ _ (call (Value.builtin _) [Value.ref _, _]) _ _ _); k_dflt (refine' append_K ?k1 ?k2 ?k3 ?_ ?z; (case k1 => k_asm); (case k2 => k_asm); (case k3 => k_upd); (case z => (rw [sizeLine_eq]; simp only [List.size_toArray]; omega)); k_whole); intro h' F' N'; (try k_sweep)))
local macro_rules | `(tactic| walk_at "getMethod ref") => `(tactic| (k_here; (with_reducible show wpAny _ _ (getMethod (Value.ref _) (Str.ofString "match_core") _) _ _ _); k_dflt (refine' Mine.core_method ?k1 ?k2 ?k3 _ ?k4 ?k5 ?k6 ?_; (case k1 => k_asm); (case k2 => k_asm); (case k3 => k_asm); (case k4 => k_mem); (case k5 => k_mem); (case k6 => assumption))))
local macro_rules | `(tactic| walk_at "loadName") => `(tactic| (refine' ldn ?k1 ?k2 ?_; (case k1 => assumption); (case k2 => first | exact rfl | assumption)))
local macro_rules | `(tactic| k_all) => `(tactic| first | exact Mine.allNe_c1 (by assumption) (by omega) | exact Mine.allNe_c2 (by assumption) (by omega) | exact Mine.allNe_c3 (by assumption) (by omega) | exact Mine.allNe_c4 (by assumption) (by omega) | exact Mine.allNe_c5 (by assumption) (by omega) | exact Mine.allNe_c6 (by assumption) (by omega) | exact Mine.allNe_c7 (by assumption) (by omega) | exact Mine.allNe_c8 (by assumption) (by omega))
local macro_rules | `(tactic| walk_at "truthy ref") => `(tactic| (k_here; (with_reducible show wpAny _ _ (truthy (Value.ref _)) _ _ _); k_dflt (refine' Mine.truthy_lst ?N ?m ?z ?b ?_; (case N => k_asm); (case m => k_mem); (case z => first | omega | (simp only [List.length_cons, List.length_nil]; omega)); (case b => first | assumption | exact (show _ = true from rfl) | exact (show _ = false from rfl)))))
local macro_rules | `(tactic| walk_at "compareOp Lt int float") => `(tactic| refine Mine.inf_lt ?_)
local macro_rules | `(tactic| walk_at "call builtin:len") => `(tactic| (k_here; (with_reducible show wpAny _ _ (call (Value.builtin "len") [Value.ref _]) _ _ _); k_dflt (refine' Mine.len_lst ?N ?m ?z ?_; (case N => k_asm); (case m => k_mem); (case z => first | omega | (simp only [List.length_cons, List.length_nil]; omega)))))
local macro_rules | `(tactic| walk_at "call ref") => `(tactic| (k_here; (with_reducible show wpAny _ _ (call (Value.ref 87) _) _ _ _); k_dflt (refine' Mine.call_exc ?F ?X ?N ?hC ?hB ?hA ?hN ?hi ?hf ?hself ?hz ?_; (case F => k_asm); (case X => k_asm); (case N => k_asm); (case hC => k_is); (case hB => decide +kernel); (case hA => decide +kernel); (case hN => decide +kernel); (case hi => k_is); (case hf => k_is); (case hself => k_is); (case hz => exact Nat.le_of_ble_eq_true rfl); k_whole); intro x' t' h' F' N' l1 l2; (try k_lt l1); (try k_lt2 l2); (try k_sweep); k_enter))
local macro_rules | `(tactic| walk_at "call ref") => `(tactic| (k_here; (with_reducible show wpAny _ _ (call (Value.ref 125) _) _ _ _); k_dflt (refine' Mine.call_exc ?F ?X ?N ?hC ?hB ?hA ?hN ?hi ?hf ?hself ?hz ?_; (case F => k_asm); (case X => k_asm); (case N => k_asm); (case hC => k_is); (case hB => decide +kernel); (case hA => decide +kernel); (case hN => decide +kernel); (case hi => k_is); (case hf => k_is); (case hself => k_is); (case hz => exact Nat.le_of_ble_eq_true rfl); k_whole); intro x' t' h' F' N' l1 l2; (try k_lt l1); (try k_lt2 l2); (try k_sweep); k_enter))
local macro_rules | `(tactic| walk_at "setAttr ref") => `(tactic| (k_here; k_dflt (refine' Mine.set_exc0 ?F ?X ?N ?hx ?hs ?hc ?hp ?hm ?hD ?ha ?_; (case F => k_asm); (case X => k_asm); (case N => k_asm); (case hx => k_all); (case hs => k_is); (case hc => k_is); (case hp => (intro self; (try dsimp only); (repeat rw [refuseLoop_ref]); exact PySem.F.store_Exception.passes self)); (case hm => k_is); (case hD => exact rfl); (case ha => k_is); k_whole); intro d' h' F' N' l1; (try k_lt l1); (try k_sweep)))
namespace Mine
theorem not_top {e : Ex} {k : Int} (he : e ≠ .top) : ¬ Ks.add (Keys fun _ => none) .top 0 e k := by
  rintro (h | ⟨h, -⟩)
  · exact keys0 h
  · exact he h
theorem up_top (g : Bool) : Up g 0 (Ks.add (Keys fun _ => none) .top 0) := by
  have h : eS g ≠ .top ∧ eA g ≠ .top ∧ eB g ≠ .top ∧ eZ g ≠ .top := by cases g <;> decide
  exact ⟨fun k z => (not_top h.1 z).elim, fun k z => (not_top h.2.1 z).elim, fun k z => (not_top h.2.2.1 z).elim, fun k z => (not_top h.2.2.2 z).elim⟩
theorem pt_top : PT 0 (Ks.add (Keys fun _ => none) .top 0) := ⟨up_top true, up_top false, fun k z => (not_top (by decide) z).elim⟩
theorem lw_ok {w : World} {mean : ExcName → Option Value} {mg mb : Str → Option Value} {gr : Gr} {text : Str} {tt : Tok} {R : Nat} (hR : R ≤ 20) (htx : text.length ≤ 12) :
    Spec0 w mean mg mb 576 [.ref (gr.xa .top), .str text tt] 650 5500 (fun news => GrOk R gr news)
      (fun news r news' => GrOk (R + 1) gr news' ∧ Keep news news' ∧ ∃ tk ts q, RT text 0 ts q ∧ q ≤ (text.length : Int) ∧ r = .int (if q < (text.length : Int) then -1 else q) tk) := by
  intro dp un gd cn cs a ccd cl A₀ base h₀ L m news s Q E XB TB B F X N T hk hPre hdd huu hret
  obtain ⟨slS, hin, hna, hsh⟩ := hPre.inst .top
  obtain ⟨ps, hps, hpl⟩ := hPre.ex .top
  have hxdS : ∃ es n, (gr.xd .top, dictOf es n) ∈ news ∧ getL (Str.ofString "match") es = some none ∧ getL (Str.ofString "match_core") es = some none ∧ getL (Str.ofString "parse") es = some none := by
    rcases hps with ⟨-, h⟩ | ⟨hh, kk, t, vs, ep, h, -⟩
    · exact ⟨_, _, h, rfl, rfl, rfl⟩
    · exact ⟨_, _, h, by rfl, by rfl, by rfl⟩
  obtain ⟨es, en, hxd, hmt, hmc, hmp⟩ := hxdS
  unfold InstOk at hin
  have hcls : Ex.top.cls = 489 := rfl
  rw [hcls] at hin
  w_top off; w_on
  refine wpAny_call ?_
  w_strict (k_dflt (refine' Mine.defX0 ?k1 ?k2 ?k3 ?k4 ?k5 ?kA ?k6 ?k7 ?k8 ?k9 ?kB ?_ ?cK ?c2 ?c3 ?c4 ?c5; (case kA => exact rfl); (case k2 => k_asm); (case k1 => k_asm); (case k3 => k_asm); (case k4 => k_asm); (case k5 => k_asm); (case k6 => k_is); (case k7 => k_is); (case k8 => ktr_room); (case k9 => exact BindsTo.of_eq rfl); (case kB => exact locs rfl); (case cK => assumption); (case c2 => exact rfl); (case c3 => exact rfl); (case c4 => exact rfl); (case c5 => decide); k_whole); intro g1 L1 h1 FG1 F1 N1 B1 X1 T1 D1; (try dsimp only); (try k_lift B1); (try k_fold))
  w_strict (iterate 78 (first | (k_unfold; (try dsimp only)) | (k_end; wrow_close) | walk1 | (dsimp only; walk1) | (leave1; walk_say "STEP leave1"; try dsimp only) | fail "no step"))
  with_reducible rename News _ _ _ _ => N9
  rename Obj.IsDictOf (intKind _ _) _ [] => hocd
  rename (_ == sysModules) = false => hcs
  rename _ < _ ∧ _ < _ ∧ _ < _ ∧ AllLt _ _ => hl3
  rename _ < _ ∧ _ < _ ∧ AllLt _ _ => hl2
  have hst := start_st (gr := gr) (text := text) N9 hPre (fun q hq => .tail _ (.tail _ (.tail _ (.tail _ hq)))) (.head _) hocd hcs
    ⟨_, _, _, _, _, _, _, -1, _, _, .tail _ (.head _), by omega, by omega, .inl rfl⟩ (.tail _ (.tail _ (.head _))) (Nat.ne_of_gt hl3.1) (fun q hq => Nat.ne_of_lt (ktn_ltOf hl3.2.2.2 q hq)) (fun q hq => Nat.ne_of_lt (ktn_ltOf hl2.2.2 q hq))
  refine Spec.use (by assumption) (by assumption) (by assumption) N9 (by assumption) rfl ((all_ok hR htx (Int.le_refl 0) (by omega)).2 _ [] (fun _ => none) keys0 pt_top) hst (by ktr_room) (by ktr_units) ?_
  rintro r news4 h4 tk4 F4 N4 ⟨ckv4, rows4, res, S4, K4, G4, hres, ⟨⟨ts, q, rfl, hrt, hq0, hq1⟩⟩⟩
  have hfn4 : ∀ a o o', (a, o) ∈ news4 → (a, o') ∈ news4 → o = o' := fun a o o' x y => Mine.News.fn N4 x y
  have K5 : Keep news news4 := (Keep.of_sub fun q hq => .tail _ (.tail _ (.tail _ (.tail _ hq)))).trans K4
  have G5 := end_gr S4 (hst.2.keep K4)
  have hin4 := K5.same _ hin (ref_nd _)
  cases hres with
  | @mk na nl nd nod ne ns nt nts ntt ntx nvs ncs nep hn1 hn2 hn3 hn4 hn5 hn8 hn6 hn7 =>
  w_strict (k_sweep; iterate 33 (first | (k_unfold; (try dsimp only)) | (k_end; wrow_close) | walk1 | (dsimp only; walk1) | (leave1; walk_say "STEP leave1"; try dsimp only) | fail "no step"))
  · have hlt : q < (text.length : Int) := by assumption
    w_strict ((first | (k_unfold; (try dsimp only)) | (k_end; wrow_close) | walk1 | (dsimp only; walk1) | (leave1; walk_say "STEP leave1"; try dsimp only) | fail "no step"))
    w_strict (refine Mine.raise_own (K := hd.heap_39 w.params) (C := 125) rfl (by k_is) (by k_is) ?_)
    w_strict (iterate 33 (first | (k_unfold; (try dsimp only)) | (k_end; wrow_close) | walk1 | (dsimp only; walk1) | (leave1; walk_say "STEP leave1"; try dsimp only) | fail "no step"))
    with_reducible rename News _ _ _ _ => N6
    with_reducible rename Fr _ _ _ _ => F6
    have hfn6 : ∀ a o o', _ → _ → o = o' := fun a o o' x y => Mine.News.fn N6 (a := a) (o := o) (o' := o') x y
    refine ⟨_, _, _, rfl, (N6 _ (.tail _ (.head _))).1, rfl, rfl, rfl, Frag.In.keeps (by assumption) F6.keep, ?_⟩
    w_strict ((first | (k_unfold; (try dsimp only)) | (k_end; wrow_close) | walk1 | (dsimp only; walk1) | (leave1; walk_say "STEP leave1"; try dsimp only) | fail "no step"))
    rename Below _ _ (_ :: _ :: []) _ => BB
    refine Mine.leave_own BB F6 N6 (.tail _ (.head _)) rfl rfl rfl (.tail _ (.tail _ (.head _))) ?_
    intro h9 R9 RK9 U9
    dsimp only at R9 RK9 U9 ⊢
    w_strict (refine' caught_SO0 ?R ?F ?K ?hsm ?XB ?TB ?D ?T0 ?ex ?q ?_; (case R => exact R9); (case K => exact B1); (case F => assumption); (case hsm => exact U9); (case XB => exact XB); (case TB => exact TB); (case D => exact D1); (case T0 => exact KtsTurn.refl); (case ex => k_is); (case q => kts_isx))
    intro h10 g10 n10 T10 F10 N10' G10 N10 K10 X10 P10 D10
    w_strict (repeat' (first | (k_unfold; (try dsimp only)) | (k_end; wrow_close) | walk1 | (dsimp only; walk1) | (leave1; walk_say "STEP leave1"; try dsimp only) | fail "no step"))
    with_reducible rename News _ _ _ _ => N7
    with_reducible rename Fr _ _ _ _ => F7
    rename ∀ p ∈ news4, p.1 < _ => hlt4
    rename _ < _ => hlx4
    have hdom : ∀ q ∈ news, q.1 < _ := fun q hq => let ⟨ob, h1, _⟩ := K5.dom q hq; hlt4 (q.1, ob) h1
    obtain ⟨Gz, Kz⟩ := raise_gr (news := news) hfn6 (.tail _ (.head _)) rfl ecls_ne' (.tail _ (.tail _ (.head _))) (G5.drop (x := text) (xt := tt) (l := []) fun q hq _ => .tail _ (.tail _ (.tail _ hq))) (K5.trans (Keep.of_sub fun q hq => .tail _ (.tail _ (.tail _ hq))))
      (fun q hq => Nat.ne_of_lt (Nat.lt_trans (hdom q hq) hlx4)) (fun q hq => Nat.ne_of_lt (hdom q hq))
    exact hret _ _ _ _ F7 N7 ⟨Gz, Kz, _, ts, q, hrt, hq1, by rw [if_pos hlt]⟩
  · have hlt : ¬ q < (text.length : Int) := by assumption
    w_strict (repeat' (first | (k_unfold; (try dsimp only)) | (k_end; wrow_close) | walk1 | (dsimp only; walk1) | (leave1; walk_say "STEP leave1"; try dsimp only) | fail "no step"))
    with_reducible rename News _ _ _ _ => N6
    with_reducible rename Fr _ _ _ _ => F6
    exact hret _ _ _ _ F6 N6 ⟨G5, K5, _, ts, q, hrt, hq1, by rw [if_neg hlt]⟩
end Mine
end

section
-- part La
open PySem PySem.Spec PySem.Calls PySem.W PyProof.Rows
namespace Mine
section
variable {prog : Program} {w : World} {A : Around} {E : Value → Shared → Prop} {s : Shared} {h₀ : Heap} {L l : Addr} {m : Str → Option Value} {news : List (Addr × Obj)} {vs : List Value} {n : Nat} {k : Int} {t : Tok} {x : Value} {Q : Value → Shared → Prop}
theorem item_lst (N : News h₀ L s.heap news) (hm : (l, lstO vs n) ∈ news) (h0 : 0 ≤ k) (h1 : k < 2 ^ 63) (hx : vs[k.toNat]? = some x) (h : Q x s) : wpAny (model prog w) A (getItem (.ref l) (.int k t)) Q E s :=
  wpAny_getItem_list (items := vs.toArray) ⟨_, N.get hm, rfl, _, rfl⟩ h0 h1 (by simpa using hx) h
end
end Mine
end

section
-- part Mk0
open PySem PySem.Spec PySem.Calls PySem.W PyProof.Rows PyProof.V
local macro_rules | `(tactic| walk_at "pad of mine") => `(tactic| fail)
set_option linter.unusedVariables false
namespace Mine
section
variable {prog : Program} {w : World} {A A₀ : Around} {s : Shared} {K : Frag} {L : Addr} {h₀ base : Heap} {m mg mb : Str → Option Value} {news : List (Addr × Obj)} {p : Program} {loose : List Str} {mean : ExcName → Option Value} {env : Env} {outer : List Env}
  {R : Result → Shared → Prop} {name qual : Str} {params : Arguments} {body : List Stmt} {scope : Scope} {dV kV doc pm cdv ct oc : Value} {an od : Option Addr} {osl : Array (Option Value)} {f cc : Addr} {args : Args} {binds : List (Str × Value)}
theorem ks_frame {E : Value → Shared → Prop} (B : Below A₀ base outer h₀) (F : Fr h₀ L s.heap m) (N : News h₀ L s.heap news) (hlim : h₀.NoLimit) (hA : A.frames = some (env :: outer)) (hf : env.frame = some L) (hke : env.scope.kind = .function)
    (hloc : ∀ y ∈ binds, scope.names.lookup y.1 = some .local)
    (h : ∀ g L' h₁, Fr h₀ L g m → Fr g L' h₁ (fun y => binds.reverse.lookup y) → News g L' h₁ news → Below A base (env :: outer) g → h₀.StaysIn g → (∀ p ∈ news, p.1 < L') →
      _root_.PySem.wpAt (model prog w) (A.deeper (ksEnv qual scope L' f cdv cc)) (.func body (ksEnv qual scope L' f cdv cc)) (execs body (ksEnv qual scope L' f cdv cc))
        (fun fl s' => LeaveK h₀ L m g R (match fl with | .ret v => v | _ => .none) s')
        (fun e s' => wpAny (model prog w) (A.deeper (ksEnv qual scope L' f cdv cc)) (leaving (ksEnv qual scope L' f cdv cc) e) (fun _ s'' => R (.error e) s'') (fun e' s'' => R (.error e') s'') s')
        { s with heap := h₁, toks := s.toks + binds.length })
    (hcell : ∀ x ∈ scope.names, x.2 ≠ .cell) (hk : scope.kind = .function) :
    wpAny (model prog w) A.in1 (newFunctionEnv scope mainGlobals [("__class__", cc)] binds (qual ++ ".<locals>.") (some f) cdv none builtinsNs) (fun env' s₂ => s₂.heap.NoLimit ∧ codeAny (model prog w) A (.func body env') R s₂) E s := by
  obtain ⟨FG, BG, st, lv⟩ := groundX (R := R) B F N hA hf hke
  refine wpAny_newFunctionEnv hcell hloc (fun h₁ hns hsb => ⟨(hlim.keeps F.keep).fresh _ hsb, ks_codeAny_funcAt ?_⟩) hk
  have hk₁ : ∀ b o, s.heap.get? b = some o → h₁.get? b = some o := fun b o e => hsb.extBut b o (Nat.ne_of_lt (Heap.lt_size e)) (Heap.get?_push_of_some _ e)
  show _root_.PySem.wpAt (model prog w) (A.deeper (ksEnv qual scope s.heap.objs.size f cdv cc)) _ (execs body (ksEnv qual scope s.heap.objs.size f cdv cc)) _ _ _
  exact ks_wpAt_mono (h _ s.heap.objs.size h₁ FG ⟨hns, fun b o e => hk₁ b o (of_hideAll _ e), Nat.le_of_eq (hideAll_size _ _)⟩
    (fun p hp => ⟨hk₁ _ _ (N p hp).1, Nat.ne_of_lt (Heap.lt_size (N p hp).1), hideAll_none _ (List.mem_map_of_mem hp)⟩) BG st (fun p hp => Heap.lt_size (N p hp).1)) (fun fl s' hl => lv _ _ hl) fun _ _ y => y

theorem ks_both {vs : List Value} {nm nr : Str} {ex front : List (Str × Value)} {g₁ : Addr → Sem (List (Str × Value))} {g₂ : Addr → Addr → Sem (List (Str × Value))}
    (B : Below A₀ base outer h₀) (F : Fr h₀ L s.heap m) (X₀ : K.In h₀) (N : News h₀ L s.heap news) (T : Top p loose mean mg mb h₀) (hA : A.frames = some (env :: outer)) (hf : env.frame = some L) (hke : env.scope.kind = .function)
    (ho : K.lookup f = some ⟨oc, od, .func (ksFn name qual params body scope dV kV doc pm an cdv ct cc), osl⟩) (hcd : codeIn K cdv qual = true) (hroom : A.depth < recursionLimit)
    (hn : kwDistinct ex = true)
    (hp : peekA K ⟨prog, w.params⟩ (bindArgs (ksFn name qual params body scope dV kV doc pm an cdv ct cc) args) = some (({ cls := .type "tuple", data := .seq vs.toArray } : Obj), g₁))
    (hp₂ : ∀ D, peekA K ⟨prog, w.params⟩ (g₁ D) = some (dictOf [] 0, g₂ D))
    (hk₂ : ∀ C D, g₂ C D = (forIn ex PUnit.unit (fun x _ => (nsSet D x.1 x.2 >>= fun _ => pure (ForInStep.yield PUnit.unit))) >>= fun _ => pure (front ++ [(nr, Value.ref C)] ++ [(nm, Value.ref D)])))
    (hloc : ∀ C D, ∀ y ∈ front ++ [(nr, Value.ref C)] ++ [(nm, Value.ref D)], scope.names.lookup y.1 = some .local)
    (h : ∀ C D o g L' h₁ tk, (∀ p ∈ news, p.1 < C) → C < D → (D == sysModules) = false → o.IsDictOf (strKind prog w) ex → Fr h₀ L g m → Fr g L' h₁ (fun y => (front ++ [(nr, Value.ref C)] ++ [(nm, Value.ref D)]).reverse.lookup y) →
      News g L' h₁ ((D, o) :: (C, ({ cls := .type "tuple", data := .seq vs.toArray } : Obj)) :: news) → Below A base (env :: outer) g → K.In g → Top p loose mean mg mb g → D < L' →
      _root_.PySem.wpAt (model prog w) (A.deeper (ksEnv qual scope L' f cdv cc)) (.func body (ksEnv qual scope L' f cdv cc)) (execs body (ksEnv qual scope L' f cdv cc))
        (fun fl s' => LeaveK h₀ L m g R (match fl with | .ret v => v | _ => .none) s')
        (fun e s' => wpAny (model prog w) (A.deeper (ksEnv qual scope L' f cdv cc)) (leaving (ksEnv qual scope L' f cdv cc) e) (fun _ s'' => R (.error e) s'') (fun e' s'' => R (.error e') s'') s')
        { s with heap := h₁, toks := tk })
    (hco : scope.isCoroutine = false) (hgen : scope.isGenerator = false) (hk : scope.kind = .function)
    (hcell : ∀ x ∈ scope.names, x.2 ≠ .cell) : codeAny (model prog w) A (.call (.ref f) args) R s := by
  have hn' := kwDistinct_nodup hn
  refine codeAny_call_function (fd := ksFn name qual params body scope dV kV doc pm an cdv ct cc) (body := body) hroom ((X₀.keeps F.keep) _ _ ho) rfl hco hgen rfl (codeRec_of (X₀.keeps F.keep) hcd) ?_
  refine wp_of_peekA (o := ({ cls := .type "tuple", data := .seq vs.toArray } : Obj)) F N (X₀.keeps F.keep) rfl _ g₁ hp fun h' F' N' l => ?_
  refine wp_of_peekA (s := { s with heap := h' }) (o := dictOf [] 0) F' N' (X₀.keeps F'.keep) rfl _ (g₂ s.heap.objs.size) (hp₂ _) fun h'' F'' N'' l' => ?_
  rw [hk₂]
  refine wpAny_bind (kp_fill ex { s with heap := h'' } [] 0 F'' N'' (fun p hp => Nat.ne_of_lt (l' p hp)) (fun _ he => nomatch he) (fun _ he => nomatch he) hn' fun h₃ F₃ N₃ => wpAny_pure ?_)
  exact ks_frame (s := { s with heap := h₃, toks := s.toks + ex.length }) B F₃ N₃ T.nolimit hA hf hke (hloc _ _)
    (fun g L' h₁ FG FL NG BG st lt => h _ _ _ g L' h₁ _ l (l' _ (.head _)) (F'.notModules (modules_low T.nolimit)) (kp_isDict s.toks (0 + ex.length) hn') FG FL NG BG (X₀.keeps st) (T.keeps st) (lt _ (.head _))) hcell hk

theorem ks_more {nm : Str} {ex front : List (Str × Value)} {g₁ : Addr → Sem (List (Str × Value))}
    (B : Below A₀ base outer h₀) (F : Fr h₀ L s.heap m) (X₀ : K.In h₀) (N : News h₀ L s.heap news) (T : Top p loose mean mg mb h₀) (hA : A.frames = some (env :: outer)) (hf : env.frame = some L) (hke : env.scope.kind = .function)
    (ho : K.lookup f = some ⟨oc, od, .func (ksFn name qual params body scope dV kV doc pm an cdv ct cc), osl⟩) (hcd : codeIn K cdv qual = true) (hroom : A.depth < recursionLimit)
    (hn : kwDistinct ex = true)
    (hp : peekA K ⟨prog, w.params⟩ (bindArgs (ksFn name qual params body scope dV kV doc pm an cdv ct cc) args) = some (dictOf [] 0, g₁))
    (hk₁ : ∀ D, g₁ D = (forIn ex PUnit.unit (fun x _ => (nsSet D x.1 x.2 >>= fun _ => pure (ForInStep.yield PUnit.unit))) >>= fun _ => pure (front ++ [(nm, Value.ref D)])))
    (hloc : ∀ D, ∀ y ∈ front ++ [(nm, Value.ref D)], scope.names.lookup y.1 = some .local)
    (h : ∀ D o g L' h₁ tk, (∀ p ∈ news, p.1 < D) → (D == sysModules) = false → o.IsDictOf (strKind prog w) ex → Fr h₀ L g m → Fr g L' h₁ (fun y => (front ++ [(nm, Value.ref D)]).reverse.lookup y) →
      News g L' h₁ ((D, o) :: news) → Below A base (env :: outer) g → K.In g → Top p loose mean mg mb g → D < L' →
      _root_.PySem.wpAt (model prog w) (A.deeper (ksEnv qual scope L' f cdv cc)) (.func body (ksEnv qual scope L' f cdv cc)) (execs body (ksEnv qual scope L' f cdv cc))
        (fun fl s' => LeaveK h₀ L m g R (match fl with | .ret v => v | _ => .none) s')
        (fun e s' => wpAny (model prog w) (A.deeper (ksEnv qual scope L' f cdv cc)) (leaving (ksEnv qual scope L' f cdv cc) e) (fun _ s'' => R (.error e) s'') (fun e' s'' => R (.error e') s'') s')
        { s with heap := h₁, toks := tk })
    (hco : scope.isCoroutine = false) (hgen : scope.isGenerator = false) (hk : scope.kind = .function)
    (hcell : ∀ x ∈ scope.names, x.2 ≠ .cell) : codeAny (model prog w) A (.call (.ref f) args) R s := by
  have hn' := kwDistinct_nodup hn
  refine codeAny_call_function (fd := ksFn name qual params body scope dV kV doc pm an cdv ct cc) (body := body) hroom ((X₀.keeps F.keep) _ _ ho) rfl hco hgen rfl (codeRec_of (X₀.keeps F.keep) hcd) ?_
  refine wp_of_peekA (o := dictOf [] 0) F N (X₀.keeps F.keep) rfl _ g₁ hp fun h' F' N' l => ?_
  rw [hk₁]
  refine wpAny_bind (kp_fill ex { s with heap := h' } [] 0 F' N' (fun p hp => Nat.ne_of_lt (l p hp)) (fun _ he => nomatch he) (fun _ he => nomatch he) hn' fun h₃ F₃ N₃ => wpAny_pure ?_)
  exact ks_frame (s := { s with heap := h₃, toks := s.toks + ex.length }) B F₃ N₃ T.nolimit hA hf hke (hloc _)
    (fun g L' h₁ FG FL NG BG st lt => h _ _ g L' h₁ _ l (F.notModules (modules_low T.nolimit)) (kp_isDict s.toks (0 + ex.length) hn') FG FL NG BG (X₀.keeps st) (T.keeps st) (lt _ (.head _))) hcell hk
end
end Mine
end

section
-- part Star
open PySem PySem.Spec PySem.Calls PySem.W PyProof.Rows PyProof.V
local macro_rules | `(tactic| walk_at "pad of mine") => `(tactic| fail)
local macro_rules | `(tactic| walk_at "pad of mine") => `(tactic| fail)
set_option linter.unusedVariables false
namespace Mine
section
variable {prog : Program} {w : World} {A : Around} {E : Value → Shared → Prop} {s : Shared} {L : Addr} {h₀ : Heap} {m : Str → Option Value} {news : List (Addr × Obj)}
theorem sub_dict : isSubtype (.type "dict") (.type "dict") = pure true := by rw [isSubtype_type]; kernel_rfl
theorem dict_type {a : Addr} {o : Obj} (ho : s.heap.get? a = some o) (hc : o.cls = .type "dict") : s.TypeIs (.ref a) "dict" := ⟨o, ho, hc⟩
/-- an empty mapping merged into a dict -/
theorem merge_none {d a : Addr} {od oa : Obj} {es : Array DictEntry} {ep ea : Nat} {Q : Unit → Shared → Prop} (hd : s.heap.get? d = some od) (hdd : od.data = .dict es ep) (hne : es.isEmpty = false) (ha : s.heap.get? a = some oa) (hac : oa.cls = .type "dict") (had : oa.data = .dict #[] ea) (hs : (a == sysModules) = false)
    (h : Q () s) : wpAny (model prog w) A (mergeMapping d (.ref a) true) Q E s := by
  have hT := dict_type ha hac
  unfold mergeMapping
  refine wpAny_bind (wpAny_isInstance (T := "dict") (b := true) hT sub_dict ?_)
  dsimp only
  rw [if_pos rfl]
  refine wpAny_bind (wpAny_specialOf hT F.slot_dict_iter.lookup ?_)
  refine wpAny_bind (wpAny_pure ?_)
  rw [show ((some (Value.builtin "dict.__iter__") : Option Value) == some (.builtin "dict.__iter__")) = true by decide]
  dsimp only
  rw [hs]
  simp only [Bool.false_eq_true, if_false]
  refine wpAny_bind (wpAny_dictEntries hd hdd ?_)
  rw [hne]
  simp only [Bool.false_eq_true, if_false]
  refine wpAny_bind (wpAny_dictEntries ha had ?_)
  refine wpAny_bind (wpAny_dictEpoch ha had ?_)
  exact wpAny_pure h
/-- one fresh entry merged into an empty dict -/
theorem merge_one {d a : Addr} {k : Str} {tk : Tok} {v : Value} {Q : Unit → Shared → Prop} (hd : s.heap.get? d = some (dictOf [] 0)) (ha : s.heap.get? a = some (dictOf [⟨PyData.keyHash w.params k, .str k tk, v⟩] 1)) (hs : (a == sysModules) = false)
    (h : ∀ h', h' = s.heap.update d (Obj.mapDictKeys (·.push ⟨PyData.keyHash w.params k, .str k tk, v⟩)) → a ≠ d → Q () { s with heap := h' }) : wpAny (model prog w) A (mergeMapping d (.ref a) true) Q E s := by
  have hT := dict_type ha rfl
  have hne : a ≠ d := by
    rintro rfl
    rw [hd] at ha
    cases ha
  unfold mergeMapping
  refine wpAny_bind (wpAny_isInstance (T := "dict") (b := true) hT sub_dict ?_)
  dsimp only
  rw [if_pos rfl]
  refine wpAny_bind (wpAny_specialOf hT F.slot_dict_iter.lookup ?_)
  refine wpAny_bind (wpAny_pure ?_)
  rw [show ((some (Value.builtin "dict.__iter__") : Option Value) == some (.builtin "dict.__iter__")) = true by decide]
  dsimp only
  rw [hs]
  simp only [Bool.false_eq_true, if_false]
  refine wpAny_bind (wpAny_dictEntries hd rfl ?_)
  rw [if_pos (show (#[] : Array DictEntry).isEmpty = true from rfl)]
  refine wpAny_bind (wpAny_dictEntries ha rfl ?_)
  simp only [List.forIn_toArray, List.forIn_cons, List.forIn_nil]
  refine wpAny_bind (wpAny_bind (wpAny_pure (wpAny_pure ?_)))
  refine wpAny_bind (wpAny_dictEntries ha rfl ?_)
  refine wpAny_bind (wpAny_dictEpoch ha rfl ?_)
  simp only [List.size_toArray, List.length_cons, List.length_nil, List.range_succ, List.range_zero, List.nil_append, List.forIn_cons, List.forIn_nil]
  refine wpAny_bind (wpAny_bind (wpAny_bind (wpAny_dictEntries ha rfl ?_)))
  show wpAny (model prog w) A (holding [Value.str k tk, v] _ >>= _) _ _ _
  have hfind : ∀ {Q' : Option Nat → Shared → Prop}, Q' none s → wpAny (model prog w) A (dictFind d (.str k tk) (PyData.keyHash w.params k)) Q' E s := fun hq =>
    wpAny_dictFind_of (knd := strKind prog w) (k := k) (strKind_is _ _ _ _) hd rfl (fun e he => by simp at he) (by rw [show (#[] : Array DictEntry).findIdx? (fun e => (PySem.strKind prog w).is k e.key) = none by simp]; exact hq)
  refine wpAny_bind (wpAny_holding ?_)
  rw [if_pos trivial]
  refine wpAny_bind (hfind ?_)
  simp only [Option.isSome_none, Bool.false_eq_true, if_false]
  unfold dictPut
  refine wpAny_bind (hfind ?_)
  dsimp only
  refine wpAny_updateDictKeys hd rfl ?_ (by simp) (by simp)
  refine wpAny_bind (wpAny_dictEpoch (o := dictOf [⟨PyData.keyHash w.params k, .str k tk, v⟩] 1) ((Heap.get?_update_other _ _ (Ne.symm hne)).trans ha) rfl ?_)
  simp only [bne_self_eq_false, Bool.false_eq_true, if_false]
  refine wpAny_pure (wpAny_pure (wpAny_pure (h _ rfl hne)))

theorem merged_star {f : Value} {nm : Str} {tn tk : Sem Value} {b : Value} {d : Addr} {od : Obj} {pos : Pos} {Q : Addr → Shared → Prop} (F : Fr h₀ L s.heap m) (N : News h₀ L s.heap news) (hd : (d, od) ∈ news) (hod : od.IsDictOf (strKind prog w) []) (hs : (d == sysModules) = false)
    (hlow : sysModules < h₀.objs.size)
    (hn : ∀ (A' : Around) (s' : Shared) (Q' : Value → Shared → Prop) (E' : Value → Shared → Prop), Fr h₀ L s'.heap m → Q' b s' → wpAny (model prog w) A' tn Q' E' s')
    (hk : ∀ (A' : Around) (s' : Shared) (Q' : Value → Shared → Prop) (E' : Value → Shared → Prop), Fr h₀ L s'.heap m → Q' (.ref d) s' → wpAny (model prog w) A' tk Q' E' s')
    (h : ∀ e h' tk' t a2 o2, Fr h₀ L h' m → News h₀ L h' ((a2, o2) :: (e, dictOf [⟨PyData.keyHash w.params nm, .str nm t, b⟩] 1) :: news) → (∀ p ∈ news, p.1 < e) → e < a2 → Q e { s with heap := h', toks := tk' }) :
    wpAny (model prog w) A (mergedKeywords f (backToKw pos [(some nm, tn), (none, tk)])) Q E s := by
  unfold mergedKeywords
  refine wpAny_bind (wpAny_alloc ?_)
  have F1 := F.push (dictOf [] 0)
  have N1 := N.push F (dictOf [] 0)
  refine wpAny_bind (wpAny_holding ?_)
  rw [show backToKw pos [(some nm, tn), (none, tk)] = [(some nm, tn >>= fun v => standAt pos >>= fun _ => pure v), (none, tk >>= fun v => standAt pos >>= fun _ => pure v)] from rfl]
  refine wpAny_bind ?_
  rw [List.forIn_cons]
  refine wpAny_bind (wpAny_pure ?_)
  dsimp only
  rw [List.forIn_cons]
  dsimp only
  refine wpAny_bind (wpAny_bind ?_)
  rw [List.nil_append, if_neg (show ¬ (([(nm, tn >>= fun v => standAt pos >>= fun _ => pure v)] : List (Str × Sem Value)).isEmpty = true) from fun h => Bool.noConfusion h)]
  show wpAny (model prog w) A (evalAll [tn >>= fun v => standAt pos >>= fun _ => pure v] >>= _) _ _ _
  refine wpAny_bind (wpAny_evalAll_cons (wpAny_bind (hn _ _ _ _ F1 (wpAny_bind (wpAny_standAt (wpAny_pure (wpAny_evalAll_nil ?_)))))))
  refine wpAny_bind (wpAny_alloc ?_)
  have F2 := F1.push (dictOf [] 0)
  have N2 := N1.push F1 (dictOf [] 0)
  rw [show (([(nm, tn >>= fun v => standAt pos >>= fun _ => pure v)] : List (Str × Sem Value)).zip [b]) = [((nm, tn >>= fun v => standAt pos >>= fun _ => pure v), b)] from rfl]
  refine wpAny_bind ?_
  rw [List.forIn_cons]
  refine wpAny_bind (wpAny_bind (kp_nsSet (es := []) (n := 0) F2 N2 (fun p hp => Nat.ne_of_lt ?_) (fun _ he => nomatch he) (fun _ he => nomatch he) fun h3 F3 N3 => ?_))
  · rcases List.mem_cons.mp hp with rfl | hp
    · show s.heap.objs.size < (s.heap.push _).objs.size
      rw [Heap.size_push]; omega
    · have := Heap.lt_size (N1 p (.tail _ hp)).1
      exact this
  refine wpAny_pure ?_
  dsimp only
  rw [List.forIn_nil]
  refine wpAny_pure ?_
  have hA := (N3 _ (.head _)).1
  have hD := (N3 _ (.tail _ (.head _))).1
  refine wpAny_onRaise (wpAny_holding (wpAny_tryCatch (wpAny_onRaise (merge_one hD hA (F1.notModules hlow) fun h4 e4 hne => ?_))))
  have U := news_upd (pre := [_]) (f := Obj.mapDictKeys (·.push ⟨PyData.keyHash w.params nm, .str nm s.toks, b⟩)) (o' := dictOf [⟨PyData.keyHash w.params nm, .str nm s.toks, b⟩] 1) F3 N3 (fun q hq => by rw [List.mem_singleton.mp hq]; exact hne) (fun q hq => Nat.ne_of_lt (Heap.lt_size (N q hq).1)) rfl rfl
  rw [← e4] at U
  have hd4 := (U.2 _ (.tail _ (.head _))).1
  have hod4 := (U.2 _ (.tail _ (.tail _ hd))).1
  obtain ⟨es, ep, hx, hy, -, hz, -⟩ := hod
  have hes : es = #[] := by
    obtain ⟨l⟩ := es
    cases hz
    rfl
  subst hes
  refine wpAny_bind (wpAny_bind (hk _ _ _ _ U.1 (wpAny_bind (wpAny_standAt (wpAny_pure ?_)))))
  refine wpAny_bind (wpAny_onRaise (wpAny_holding (wpAny_tryCatch (wpAny_onRaise (merge_none hd4 rfl rfl hod4 hx.1 hy hs ?_)))))
  refine wpAny_pure ?_
  dsimp only
  rw [List.forIn_nil]
  refine wpAny_pure ?_
  rw [if_pos (show ([] : List (Str × Sem Value)).isEmpty = true from rfl)]
  refine wpAny_pure (wpAny_pure ?_)
  exact h _ _ _ _ _ _ U.1 U.2 (fun p hp => Heap.lt_size (N p hp).1) (by show s.heap.objs.size < (s.heap.push _).objs.size; rw [Heap.size_push]; omega)
theorem kwIn_one {f : Value} {nm : Str} {t : Tok} {b : Value} {e : Addr} {Q : List (Str × Value) → Shared → Prop} (he : s.heap.get? e = some (dictOf [⟨PyData.keyHash w.params nm, .str nm t, b⟩] 1)) (h : Q [(nm, b)] s) :
    wpAny (model prog w) A (keywordsIn f e) Q E s := by
  unfold keywordsIn
  refine wpAny_bind (wpAny_dictEntries he rfl ?_)
  refine wpAny_bind ?_
  rw [List.forIn_toArray, List.forIn_cons]
  refine wpAny_bind (wpAny_pure ?_)
  dsimp only
  rw [List.forIn_nil]
  exact wpAny_pure (wpAny_pure h)
/-- a bound method called with an item, a keyword and an empty mapping -/
theorem callWith_star {K : Frag} {q g : Addr} {self : Value} {nm : Str} {t1 tn tk : Sem Value} {a b : Value} {d : Addr} {od : Obj} {pos : Pos} {Q : Value → Shared → Prop} (F : Fr h₀ L s.heap m) (X₀ : K.In h₀) (N : News h₀ L s.heap news) (hq : (q, methodObj (.ref g) self) ∈ news) (hf : fnIn K g = true)
    (hd : (d, od) ∈ news) (hod : od.IsDictOf (strKind prog w) []) (hs : (d == sysModules) = false) (hlow : sysModules < h₀.objs.size)
    (h1 : ∀ (A' : Around) (s' : Shared) (Q' : Value → Shared → Prop) (E' : Value → Shared → Prop), Fr h₀ L s'.heap m → Q' a s' → wpAny (model prog w) A' t1 Q' E' s')
    (hn : ∀ (A' : Around) (s' : Shared) (Q' : Value → Shared → Prop) (E' : Value → Shared → Prop), Fr h₀ L s'.heap m → Q' b s' → wpAny (model prog w) A' tn Q' E' s')
    (hk : ∀ (A' : Around) (s' : Shared) (Q' : Value → Shared → Prop) (E' : Value → Shared → Prop), Fr h₀ L s'.heap m → Q' (.ref d) s' → wpAny (model prog w) A' tk Q' E' s')
    (h : ∀ e h' tk' t a2 o2, Fr h₀ L h' m → News h₀ L h' ((a2, o2) :: (e, dictOf [⟨PyData.keyHash w.params nm, .str nm t, b⟩] 1) :: news) → (∀ p ∈ news, p.1 < e) → e < a2 → wpAny (model prog w) A (call (.ref q) [a] [(nm, b)]) Q E { s with heap := h', toks := tk' }) :
    wpAny (model prog w) A (callWith pos (.ref q) [] (backTo pos [(false, t1)]) (backToKw pos [(some nm, tn), (none, tk)])) Q E s := by
  unfold callWith
  refine wpAny_bind (wpAny_holding ?_)
  unfold evalArgs
  show wpAny _ _ (spliced [(false, t1)] >>= _) _ _ _
  refine wpAny_bind (Calls.spliced_cons (h1 _ _ _ _ F (Calls.spliced_nil ?_)))
  refine wpAny_holding ?_
  rw [if_neg (show ¬ ((backToKw pos [(some nm, tn), (none, tk)]).all (fun x => x.1.isSome) = true) from fun h => Bool.noConfusion h)]
  refine wpAny_bind (merged_star F N hd hod hs hlow hn hk fun e h' tk' t a2 o2 F' N' lt lt2 => ?_)
  refine wpAny_bind (wpAny_pure ?_)
  refine wpAny_bind (wpAny_holding (kwIn_one (N' _ (.tail _ (.head _))).1 ?_))
  refine wpAny_pure ?_
  refine wpAny_bind (wpAny_standAt ?_)
  obtain ⟨k, hk', Lk⟩ := keeps_M (M := model prog w) hf h' ⟨(N' _ (.tail _ (.tail _ hq))).1, X₀.keeps F'.keep⟩
  refine wpAny_bind (Lk.here ?_)
  have hc := h e h' tk' t a2 o2 F' N' lt lt2
  have tail : ∀ {t : Sem Value} {s₁ : Shared}, wpAny (model prog w) A t Q E s₁ → wpAny (model prog w) A (t >>= fun r => holding [r] point >>= fun _ => pure r) Q E s₁ :=
    fun ht => wpAny_bind (wpAny_mono ht (fun r s₂ hr => wpAny_bind (wpAny_holding (wpAny_point (wpAny_pure hr)))) fun _ _ x => x)
  rw [show (((backTo pos [(false, t1)]).any fun x => x.1) || (backToKw pos [(some nm, tn), (none, tk)]).any fun x => x.1.isNone) = true from rfl]
  rcases hk' with rfl | rfl | rfl
  · exact tail (by unfold callMarked; exact Calls.wpAny_keep hc)
  · exact tail (wpAny_operateT hc)
  · exact tail (wpAny_operateT hc)
theorem ks_methodKw {M : Model} {c : Code} {env : Env} {o : PySem.Expr} {name : Str} {apos pos : Pos} {args : List PySem.Expr} {kws : List Keyword} {Q : Value → Shared → Prop}
    (h : _root_.PySem.wpAt M A c (attributeBase o name env (eval o env)) (fun ov s₁ => wpAny M A (getAttr ov name true) (fun f s₂ => wpAny M A (callWith pos f [] (backTo pos (starEach args env)) (backToKw pos (keywordEach kws env))) Q E s₂) E s₁) E s)
    (he : eval (.Call (.Attribute o name apos) args kws pos) env = (do
      let ov ← attributeBase o name env (eval o env)
      standAt apos.atName
      let (f, first) ← holding [ov] (do pure (← getAttr ov name true, []))
      callWith pos f first (backTo pos (starEach args env)) (backToKw pos (keywordEach kws env))) := by rfl) :
    _root_.PySem.wpAt M A c (eval (.Call (.Attribute o name apos) args kws pos) env) Q E s := by
  rw [he]
  refine _root_.PySem.wpAt_bind (ks_wpAt_mono h (fun ov s₁ h₁ => _root_.PySem.wpAt_of_wpAny (wpAny_bind (wpAny_standAt (wpAny_bind (wpAny_holding (wpAny_bind (wpAny_mono h₁ (fun fx s₂ h₂ => wpAny_pure ?_) fun _ _ x => x))))))) fun _ _ x => x)
  exact h₂
theorem super_attr {K : Frag} {so D x C f2 : Addr} {ox : Obj} {odx : Option Obj} {name : Str} {Q : Value → Shared → Prop} (F : Fr h₀ L s.heap m) (X₀ : K.In h₀) (N : News h₀ L s.heap news) (hso : (so, ks_superObj D x C) ∈ news) (I : InstAt s.heap x ox C odx) (ho : nsIn K cStatics "thirdparty.any" = some none)
    (hm : ks_superIn K C D name = some (some (.ref f2))) (ht : typeIn K (.ref f2) = some (.type "function")) (hn : (name == ("__class__" : Str)) = false)
    (h : ∀ q h', Fr h₀ L h' m → News h₀ L h' ((q, methodObj (.ref f2) (.ref x)) :: news) → (∀ p ∈ news, p.1 < q) → Q (.ref q) { s with heap := h', toks := s.toks + 1 }) : wpAny (model prog w) A (getAttr (.ref so) name true) Q E s := by
  have X : K.In s.heap := X₀.keeps F.keep
  obtain ⟨hh, g, d, t, os⟩ := s
  cases hc : clsIn K C with
  | none => unfold ks_superIn at hm; rw [hc] at hm; cases hm
  | some cd =>
    unfold ks_superIn at hm
    rw [hc] at hm
    obtain ⟨of, hof, hofc⟩ : ∃ of, hh.get? f2 = some of ∧ of.cls = .type "function" := by
      have ht' : (K.lookup f2).map (·.cls) = some (.type "function") := ht
      cases z : K.lookup f2 with
      | none => rw [z] at ht'; cases ht'
      | some of => rw [z] at ht'; exact ⟨of, X _ _ z, Option.some.inj ht'⟩
    have hT : ∀ t', (⟨hh, g, d, t', os⟩ : Shared).TypeIs (.ref so) "super" := fun _ => ⟨_, (N _ hso).1, rfl⟩
    unfold getAttr getAttrBy
    refine wpAny_bind (wpAny_mkText (wpAny_holding (wpAny_bind (wpAny_typeOf (hT _) (wpAny_bind (wpAny_of_eq _root_.PySem.F.ks_slot_super_ga.lookup ?_))))))
    show wpAny _ _ (getAttrByItsOwn (.ref so) (.str name t) (.type "super") (.builtin "super.__getattribute__") true true) _ _ _
    unfold getAttrByItsOwn hookBefore callGetattribute boundAndCalled
    refine wpAny_bind (wpAny_of_eq (show (if onTheHeap (.type "super") then typeLookup (.type "super") "__getattr__" else pure none) = pure none from rfl) ?_)
    refine wpAny_bind (wpAny_attempt (wpAny_holding ?_))
    show wpAny _ _ (bindSpecial (.builtin "super.__getattribute__") (.ref so) >>= _) _ _ _
    refine wpAny_bind (wpAny_of_eq (_root_.PySem.F.ks_slot_super_ga.bind _) ?_)
    refine wpAny_mono (Q := fun v s' => v = .ref hh.objs.size ∧ s' = ⟨hh.push { cls := .type "method", data := .fields #[.ref f2, .ref x] }, g, d, t + 1, os⟩) (E := fun _ _ => False)
      (wpAny_call_entry _root_.PySem.F.ks_slot_super_ga (hT _) _root_.PySem.F.ks_entry_super_ga (ks_wpAny_super_ga (N _ hso).1 (looks_opaque X ho) (l₀ := cd.mro) (fun A Q E s k q => wpAny_bind ((looks_clsIn X hc) A _ E s k (wpAny_pure q))) rfl X hm hof hofc (ks_ne X I hc) hn ⟨_, rfl, rfl, rfl⟩) (_root_.PySem.F.ks_gaArgs_super _ _)) (fun v s' hv => ?_) fun _ _ z => z.elim
    obtain ⟨rfl, rfl⟩ := hv
    refine wpAny_pure ?_
    obtain ⟨F', N', l'⟩ := ks_newsPush (s := ⟨hh, g, d, t, os⟩) (o := methodObj (.ref f2) (.ref x)) F N rfl (Heap.get?_push_at rfl rfl) (fun b o e => Heap.get?_push_of_some _ e)
    exact h _ _ F' N' l'
end
end Mine
end

section
-- part MkLit
open PySem PySem.Spec PySem.Calls PySem.W PyProof.Rows
local macro_rules | `(tactic| walk_at "pad of mine") => `(tactic| fail)
local macro_rules | `(tactic| walk_at "pad of mine") => `(tactic| fail)
local macro_rules | `(tactic| k_room) => `(tactic| ktr_room)
local macro_rules | `(tactic| k_all) => `(tactic| exact allNe_of' (by assumption) (by omega))
local macro_rules | `(tactic| k_all) => `(tactic| ((with_reducible rename AllLt _ _ => hAllLt); exact allNe_of hAllLt (by omega)))
local macro_rules | `(tactic| k_all) => `(tactic| assumption)
local macro_rules | `(tactic| k_mem) => `(tactic| first | exact List.Mem.head _ | (refine' List.mem_cons_of_mem _ ?_; k_mem))
local macro_rules | `(tactic| walk_at "call builtin:dict.get") => `(tactic| (k_here; k_dflt (first | refine kdg_get2 (knd := PySem.strKind _ _) (by k_asm) (by k_mem) (by assumption) (by assumption) (strKind_is _ _ _ _) (some _) (by rfl) ?_ | refine kdg_get2 (knd := PySem.strKind _ _) (by k_asm) (by k_mem) (by assumption) (by assumption) (strKind_is _ _ _ _) none (by rfl) ?_); (try dsimp only [Option.getD])))
namespace Mine
/-- what was there is there still -/
def Spec1 (w : World) (mean : ExcName → Option Value) (mg mb : Str → Option Value) (f : Addr) (args : List Value) (kw : List (Str × Value)) (dd uu : Nat) (Pre : Led → Prop) (Post : Led → Value → Led → Prop) : Prop :=
  ∀ (dp un : Nat) (gd : Option (List Code)) (cn : Str) (cs : Scope) (a : Addr) (ccd : Value) (cl : List (Str × Addr)) (outer : List Env) (A₀ : Around) (base h₀ : Heap) (L : Addr) (m : Str → Option Value) (news : Led) (s : Shared) (Q E : Value → Shared → Prop),
    Below A₀ base outer h₀ → Fr h₀ L s.heap m → (hd.heap_39 w.params).In h₀ → News h₀ L s.heap news → Top topProg TLOOSE mean mg mb h₀ → cs.kind = .function → Pre news → dp + dd < recursionLimit → un + uu < cLine →
    (∀ r news' h' tk', Fr h₀ L h' m → News h₀ L h' news' → Post news r news' → Q r { s with heap := h', toks := tk' }) →
    wpAny (model PW w) (ktrTop dp un gd cn cs L a ccd cl outer) (call (.ref f) args kw) Q E s
theorem mk_lit {w : World} {mean : ExcName → Option Value} {mg mb : Str → Option Value} {lt : Str} {ta : Tok} :
    Spec1 w mean mg mb 367 [.str lt ta] [] 40 200 (fun _ => True)
      (fun news r news' => ∃ x d b c, r = .ref x ∧ (x, ({ cls := .ref 367, dict := some d, data := .plain, slots := #[some (.str lt ta), some b, some (.str (Str.ofString "") c)] } : Obj)) ∈ news' ∧ (d, dictOf [] 0) ∈ news' ∧
        (∀ q ∈ news, q ∈ news') ∧ (∀ q ∈ news, q.1 ≠ x ∧ q.1 ≠ d)) := by
  intro dp un gd cn cs a ccd cl outer A₀ base h₀ L m news s Q E B F X N T hk hPre hdd huu hret
  w_top off; w_on
  w_strict (k_dflt (refine' call_cls ?k1 ?k2 ?k3 ?k4 ?k5 ?k6 ?_; (case k1 => k_asm); (case k2 => k_asm); (case k3 => k_asm); (case k4 => k_is); (case k5 => k_is); (case k6 => k_is)); intro x' d' h' F' N' hl1 hl2; have l1 := hl1; have l2 := hl2; (try k_lt l1); (try k_lt2 l2))
  w_strict (k_dflt (refine' ks_code_super (binds := [(Str.ofString "self", .ref x'), (Str.ofString "literal", .str lt ta), (Str.ofString "name", .str (Str.ofString "") 627)]) ?k1 ?k2 ?k3 ?k4 ?k5 ?kA ?kF ?kK ?k6 ?k7 ?k8 ?k9 ?kB ?_ ?c1 ?c2 ?c3 ?c4; (case kA => exact rfl); (case kF => exact rfl); (case kK => assumption); (case k1 => k_asm); (case k2 => k_asm); (case k3 => k_asm); (case k4 => k_asm); (case k5 => k_asm); (case k6 => k_is); (case k7 => k_is); (case k8 => ktr_room); (case k9 => first | exact BindsTo.of_eq rfl | exact binds_K (by k_in) rfl (by k_is) rfl rfl rfl); (case kB => exact locs rfl); (case c1 => decide); (case c2 => exact rfl); (case c3 => exact rfl); (case c4 => exact rfl)); intro g1 L1 h1 FG1 F1 N1 B1 X1 T1 l1; (try k_lt l1); (try dsimp only); (try k_fold))
  w_strict (iterate 3 (first | (k_unfold; (try dsimp only)) | (k_end; wrow_close) | walk1 | (dsimp only; walk1) | (leave1; walk_say "STEP leave1"; try dsimp only) | fail "no step"))
  w_strict (repeat' (first | (k_unfold; (try dsimp only)) | (k_end; wrow_close) | walk1 | (dsimp only; walk1) | (leave1; walk_say "STEP leave1"; try dsimp only) | fail "no step"))
  with_reducible rename News _ _ _ _ => N9
  with_reducible rename Fr _ _ _ _ => F9
  exact hret _ _ _ _ F9 N9 ⟨x', d', _, _, rfl, by k_mem, by k_mem, fun q hq => by simp [hq], fun q hq => ⟨Nat.ne_of_lt (Nat.lt_trans (hl1 q hq) hl2), Nat.ne_of_lt (hl1 q hq)⟩⟩
end Mine
end

section
-- part MkSeq
open PySem PySem.Spec PySem.Calls PySem.W PyProof.Rows
local macro_rules | `(tactic| k_room) => `(tactic| ktr_room)
local macro_rules | `(tactic| k_all) => `(tactic| exact allNe_of' (by assumption) (by omega))
local macro_rules | `(tactic| k_all) => `(tactic| ((with_reducible rename AllLt _ _ => hAllLt); exact allNe_of hAllLt (by omega)))
local macro_rules | `(tactic| k_all) => `(tactic| assumption)
local macro_rules | `(tactic| k_mem) => `(tactic| first | exact List.Mem.head _ | (refine' List.mem_cons_of_mem _ ?_; k_mem))
local macro_rules | `(tactic| walk_at "call builtin:dict.get") => `(tactic| (k_here; k_dflt (first | refine kdg_get2 (knd := PySem.strKind _ _) (by k_asm) (by k_mem) (by assumption) (by assumption) (strKind_is _ _ _ _) (some _) (by rfl) ?_ | refine kdg_get2 (knd := PySem.strKind _ _) (by k_asm) (by k_mem) (by assumption) (by assumption) (strKind_is _ _ _ _) none (by rfl) ?_); (try dsimp only [Option.getD])))
namespace Mine
theorem mk_seq {w : World} {mean : ExcName → Option Value} {mg mb : Str → Option Value} {v1 v2 v3 : Value} {nm : Str} {tk : Tok} :
    Spec1 w mean mg mb 425 [v1, v2, v3] [(Str.ofString "name", .str nm tk)] 40 200 (fun _ => True)
      (fun news r news' => ∃ x d t k tk', r = .ref x ∧ (x, ({ cls := .ref 425, dict := some d, data := .plain, slots := #[some (.ref t), some k, some (.str nm tk')] } : Obj)) ∈ news' ∧ (d, dictOf [] 0) ∈ news' ∧ (t, tupO [v1, v2, v3] 0) ∈ news' ∧
        (∀ q ∈ news, q ∈ news') ∧ (∀ q ∈ news, q.1 ≠ x ∧ q.1 ≠ d)) := by
  intro dp un gd cn cs a ccd cl outer A₀ base h₀ L m news s Q E B F X N T hk hPre hdd huu hret
  w_top off; w_on
  w_strict (k_dflt (refine' call_cls ?k1 ?k2 ?k3 ?k4 ?k5 ?k6 ?_; (case k1 => k_asm); (case k2 => k_asm); (case k3 => k_asm); (case k4 => k_is); (case k5 => k_is); (case k6 => k_is)); intro x' d' h' F' N' hl1 hl2; have l1 := hl1; have l2 := hl2; (try k_lt l1); (try k_lt2 l2))
  w_strict (k_dflt (refine' Mine.ks_both (vs := [v1, v2, v3]) (nm := Str.ofString "kwargs") (nr := Str.ofString "members") (ex := [(Str.ofString "name", .str nm tk)]) (front := [(Str.ofString "self", .ref x')]) ?k1 ?k2 ?k3 ?k4 ?k5 ?kA ?kF ?kK ?k6 ?k7 ?k8 ?kN ?kP ?kS ?kT ?kB ?_ ?c2 ?c3 ?c4 ?c5; (case kA => exact rfl); (case kF => exact rfl); (case kK => assumption); (case k1 => k_asm); (case k2 => k_asm); (case k3 => k_asm); (case k4 => k_asm); (case k5 => k_asm); (case k6 => k_is); (case k7 => k_is); (case k8 => ktr_room); (case kN => exact rfl); (case kP => exact rfl); (case kS => exact fun _ => rfl); (case kT => exact fun _ _ => rfl); (case kB => exact fun _ _ => locs rfl); (case c5 => decide); (case c2 => exact rfl); (case c3 => exact rfl); (case c4 => exact rfl)); intro C' D' o' g1 L1 h1 tk1 l1 l2 hs hkd FG1 F1 N1 B1 X1 T1 l3; (try k_lt l1); (try k_lt2 l2); (try dsimp only); (try k_fold))
  w_strict (repeat' (first | (k_unfold; (try dsimp only)) | (k_end; wrow_close) | walk1 | (dsimp only; walk1) | (leave1; walk_say "STEP leave1"; try dsimp only) | fail "no step"))
  with_reducible rename News _ _ _ _ => N9
  with_reducible rename Fr _ _ _ _ => F9
  exact hret _ _ _ _ F9 N9 ⟨x', d', _, _, _, rfl, by k_mem, by k_mem, by k_mem, fun q hq => by simp [hq], fun q hq => ⟨Nat.ne_of_lt (Nat.lt_trans (hl1 q hq) hl2), Nat.ne_of_lt (hl1 q hq)⟩⟩
theorem mk_one {w : World} {mean : ExcName → Option Value} {mg mb : Str → Option Value} {v1 v2 : Value} :
    Spec1 w mean mg mb 451 [v1, v2] [] 40 200 (fun _ => True)
      (fun news r news' => ∃ x d t k tk', r = .ref x ∧ (x, ({ cls := .ref 451, dict := some d, data := .plain, slots := #[some (.ref t), some k, some (.str (Str.ofString "") tk')] } : Obj)) ∈ news' ∧ (d, dictOf [] 0) ∈ news' ∧ (t, tupO [v1, v2] 0) ∈ news' ∧
        (∀ q ∈ news, q ∈ news') ∧ (∀ q ∈ news, q.1 ≠ x ∧ q.1 ≠ d)) := by
  intro dp un gd cn cs a ccd cl outer A₀ base h₀ L m news s Q E B F X N T hk hPre hdd huu hret
  w_top off; w_on
  w_strict (k_dflt (refine' call_cls ?k1 ?k2 ?k3 ?k4 ?k5 ?k6 ?_; (case k1 => k_asm); (case k2 => k_asm); (case k3 => k_asm); (case k4 => k_is); (case k5 => k_is); (case k6 => k_is)); intro x' d' h' F' N' hl1 hl2; have l1 := hl1; have l2 := hl2; (try k_lt l1); (try k_lt2 l2))
  w_strict (k_dflt (refine' Mine.ks_both (vs := [v1, v2]) (nm := Str.ofString "kwargs") (nr := Str.ofString "members") (ex := []) (front := [(Str.ofString "self", .ref x')]) ?k1 ?k2 ?k3 ?k4 ?k5 ?kA ?kF ?kK ?k6 ?k7 ?k8 ?kN ?kP ?kS ?kT ?kB ?_ ?c2 ?c3 ?c4 ?c5; (case kA => exact rfl); (case kF => exact rfl); (case kK => assumption); (case k1 => k_asm); (case k2 => k_asm); (case k3 => k_asm); (case k4 => k_asm); (case k5 => k_asm); (case k6 => k_is); (case k7 => k_is); (case k8 => ktr_room); (case kN => exact rfl); (case kP => exact rfl); (case kS => exact fun _ => rfl); (case kT => exact fun _ _ => rfl); (case kB => exact fun _ _ => locs rfl); (case c5 => decide); (case c2 => exact rfl); (case c3 => exact rfl); (case c4 => exact rfl)); intro C' D' o' g1 L1 h1 tk1 l1 l2 hs hkd FG1 F1 N1 B1 X1 T1 l3; (try k_lt l1); (try k_lt2 l2); (try dsimp only); (try k_fold))
  w_strict (repeat' (first | (k_unfold; (try dsimp only)) | (k_end; wrow_close) | walk1 | (dsimp only; walk1) | (leave1; walk_say "STEP leave1"; try dsimp only) | fail "no step"))
  with_reducible rename News _ _ _ _ => N9
  with_reducible rename Fr _ _ _ _ => F9
  exact hret _ _ _ _ F9 N9 ⟨x', d', _, _, _, rfl, by k_mem, by k_mem, by k_mem, fun q hq => by simp [hq], fun q hq => ⟨Nat.ne_of_lt (Nat.lt_trans (hl1 q hq) hl2), Nat.ne_of_lt (hl1 q hq)⟩⟩
end Mine
end

section
-- part MkQua
open PySem PySem.Spec PySem.Calls PySem.W PyProof.Rows
local macro_rules | `(tactic| walk_at "pad of mine") => `(tactic| fail)
local macro_rules | `(tactic| k_room) => `(tactic| ktr_room)
local macro_rules | `(tactic| k_all) => `(tactic| exact allNe_of' (by assumption) (by omega))
local macro_rules | `(tactic| k_all) => `(tactic| ((with_reducible rename AllLt _ _ => hAllLt); exact allNe_of hAllLt (by omega)))
local macro_rules | `(tactic| k_all) => `(tactic| assumption)
local macro_rules | `(tactic| k_mem) => `(tactic| first | exact List.Mem.head _ | (refine' List.mem_cons_of_mem _ ?_; k_mem))
local macro_rules | `(tactic| walk_at "call builtin:dict.get") => `(tactic| (k_here; k_dflt (first | refine kdg_get2 (knd := PySem.strKind _ _) (by k_asm) (by k_mem) (by assumption) (by assumption) (strKind_is _ _ _ _) (some _) (by rfl) ?_ | refine kdg_get2 (knd := PySem.strKind _ _) (by k_asm) (by k_mem) (by assumption) (by assumption) (strKind_is _ _ _ _) none (by rfl) ?_); (try dsimp only [Option.getD])))
namespace Mine
theorem mk_zom {w : World} {mean : ExcName → Option Value} {mg mb : Str → Option Value} {v : Value} :
    Spec1 w mean mg mb 501 [v] [] 60 400 (fun _ => True)
      (fun news r news' => ∃ x d t k ft it tk', r = .ref x ∧ (x, ({ cls := .ref 489, dict := some d, data := .plain, slots := #[some (.float INF ft), some (.int 0 it), some (.ref t), some k, some (.str (Str.ofString "") tk')] } : Obj)) ∈ news' ∧ (d, dictOf [] 0) ∈ news' ∧ (t, tupO [v] 0) ∈ news' ∧
        (∀ q ∈ news, q ∈ news') ∧ (∀ q ∈ news, q.1 ≠ x ∧ q.1 ≠ d)) := by
  intro dp un gd cn cs a ccd cl outer A₀ base h₀ L m news s Q E B F X N T hk hPre hdd huu hret
  w_top off; w_on
  refine wpAny_call ?_
  w_strict (k_dflt (refine' code_def (binds := [(Str.ofString "member", v), (Str.ofString "name", .str (Str.ofString "") 851)]) ?k1 ?k2 ?k3 ?k4 ?k5 ?kA ?kF ?kK ?k6 ?k7 ?k8 ?k9 ?kB ?_ ?c2 ?c3 ?c4 ?c5; (case kA => exact rfl); (case kF => exact rfl); (case kK => assumption); (case k1 => k_asm); (case k2 => k_asm); (case k3 => k_asm); (case k4 => k_asm); (case k5 => k_asm); (case k6 => k_is); (case k7 => k_is); (case k8 => ktr_room); (case k9 => first | exact BindsTo.of_eq rfl | exact binds_K (by k_in) rfl (by k_is) rfl rfl rfl); (case c5 => decide); (case kB => exact locs rfl); (case c2 => exact rfl); (case c3 => exact rfl); (case c4 => exact rfl); k_whole); intro g1 L1 h1 FG1 F1 N1 B1 X1 T1; (try dsimp only); (try k_fold))
  w_strict (repeat' (first | (k_unfold; (try dsimp only)) | (k_end; wrow_close) | walk1 | (dsimp only; walk1) | (leave1; walk_say "STEP leave1"; try dsimp only) | fail "no step"))
  generalize hfl : (Num.parseText? (Str.ofString "inf")).getD 0 = fl
  have hfl' : fl = INF := hfl.symm.trans (by kernel_rfl)
  clear hfl
  subst hfl'
  refine (fun (H : ∀ t1 t2 : Tok, wpAny _ _ (call (Value.ref 489) [v] [(Str.ofString "name", Value.str (Str.ofString "") 851), (Str.ofString "min", Value.int 0 t1), (Str.ofString "max", Value.float INF t2)]) _ _ _) => H _ _) ?_
  intro t1 t2
  w_strict (k_dflt (refine' call_cls ?k1 ?k2 ?k3 ?k4 ?k5 ?k6 ?_; (case k1 => k_asm); (case k2 => k_asm); (case k3 => k_asm); (case k4 => k_is); (case k5 => k_is); (case k6 => k_is)); intro x' d' h' F' N' hl1 hl2; have l1 := hl1; have l2 := hl2; (try k_lt l1); (try k_lt2 l2))
  w_strict (k_dflt (refine' Mine.ks_more (nm := Str.ofString "kwargs") (ex := []) (front := [(Str.ofString "self", .ref x'), (Str.ofString "member", v), (Str.ofString "min", Value.int 0 t1), (Str.ofString "max", Value.float INF t2), (Str.ofString "name", Value.str (Str.ofString "") 851)]) ?k1 ?k2 ?k3 ?k4 ?k5 ?kA ?kF ?kK ?k6 ?k7 ?k8 ?kN ?kP ?kT ?kB ?_ ?c2 ?c3 ?c4 ?c5; (case kA => exact rfl); (case kF => exact rfl); (case kK => exact rfl); (case k1 => k_asm); (case k2 => k_asm); (case k3 => k_asm); (case k4 => k_asm); (case k5 => k_asm); (case k6 => k_is); (case k7 => k_is); (case k8 => ktr_room); (case kN => exact rfl); (case kP => exact rfl); (case kT => exact fun _ => rfl); (case kB => exact fun _ => locs rfl); (case c5 => decide); (case c2 => exact rfl); (case c3 => exact rfl); (case c4 => exact rfl)); intro D' o' g2 L2 h2 tk2 l1 hs hkd FG2 F2 N2 B2 X2 T2 l3; (try k_lt l1); (try dsimp only); (try k_fold))
  w_strict (iterate 2 (first | (k_unfold; (try dsimp only)) | (k_end; wrow_close) | walk1 | (dsimp only; walk1) | (leave1; walk_say "STEP leave1"; try dsimp only) | fail "no step"))
  w_strict (refine Mine.ks_methodKw ?_)
  w_strict ((first | (k_unfold; (try dsimp only)) | (k_end; wrow_close) | walk1 | (dsimp only; walk1) | (leave1; walk_say "STEP leave1"; try dsimp only) | fail "no step"))
  w_strict (k_dflt (refine' Mine.super_attr ?k1 ?k2 ?k3 ?k4 ?k5 ?k6 ?k7 ?k8 ?k9 ?_; (case k1 => k_asm); (case k2 => k_asm); (case k3 => k_asm); (case k4 => k_mem); (case k5 => k_inst); (case k6 => k_is); (case k7 => ks_is); (case k8 => k_is); (case k9 => decide)); intro q9 h9 F9 N9 l9)
  w_strict (refine' Mine.callWith_star (K := hd.heap_39 w.params) (nm := Str.ofString "name") (a := v) (b := .str (Str.ofString "") 851) (d := D') F9 ?k1 N9 ?k2 ?k3 ?k4 hkd hs (modules_low T2.nolimit) ?h1 ?hn ?hk ?_; (case k1 => k_asm); (case k2 => k_mem); (case k3 => k_is); (case k4 => k_mem); (case h1 => exact fun A' s' Q' E' F' h => nameX_L F' rfl h); (case hn => exact fun A' s' Q' E' F' h => nameX_L F' rfl h); (case hk => exact fun A' s' Q' E' F' h => nameX_L F' rfl h))
  intro e10 h10 tk10 t10 a10 o10 F10 N10 lt10 lt11
  k_lt l9
  k_lt lt10
  k_lt2 lt11
  w_strict (refine' call_meth ?k1 ?k2 ?_; (case k1 => k_asm); (case k2 => k_mem))
  w_strict (k_dflt (refine' Mine.ks_both (vs := [v]) (nm := Str.ofString "kwargs") (nr := Str.ofString "members") (ex := [(Str.ofString "name", .str (Str.ofString "") 851)]) (front := [(Str.ofString "self", .ref x')]) ?k1 ?k2 ?k3 ?k4 ?k5 ?kA ?kF ?kK ?k6 ?k7 ?k8 ?kN ?kP ?kS ?kT ?kB ?_ ?c2 ?c3 ?c4 ?c5; (case kA => exact rfl); (case kF => exact rfl); (case kK => exact rfl); (case k1 => k_asm); (case k2 => k_asm); (case k3 => k_asm); (case k4 => k_asm); (case k5 => k_asm); (case k6 => k_is); (case k7 => k_is); (case k8 => ktr_room); (case kN => exact rfl); (case kP => exact rfl); (case kS => exact fun _ => rfl); (case kT => exact fun _ _ => rfl); (case kB => exact fun _ _ => locs rfl); (case c5 => decide); (case c2 => exact rfl); (case c3 => exact rfl); (case c4 => exact rfl)); intro C' D2 o2 g3 L3 h3 tk3 l1 l2 hs2 hkd2 FG3 F3 N3 B3 X3 T3 l3; (try k_lt l1); (try k_lt2 l2); (try dsimp only); (try k_fold))
  w_strict (repeat' (first | (k_unfold; (try dsimp only)) | (k_end; wrow_close) | walk1 | (dsimp only; walk1) | (leave1; walk_say "STEP leave1"; try dsimp only) | fail "no step"))
  with_reducible rename News _ _ _ _ => NZ
  with_reducible rename Fr _ _ _ _ => FZ
  exact hret _ _ _ _ FZ NZ ⟨x', d', _, _, _, _, _, rfl, by k_mem, by k_mem, by k_mem, fun q hq => by simp [hq], fun q hq => ⟨Nat.ne_of_lt (Nat.lt_trans (hl1 q hq) hl2), Nat.ne_of_lt (hl1 q hq)⟩⟩
end Mine
end

section
-- part Xe
open PySem.W.X PySem.W.XRun PySem PySem.Spec PySem.Calls PySem.W PyProof.Rows
namespace Mine
/-- what a run by x_run hands on -/
def EndQ (P : Value → Led → Prop) (h : Heap) (g : Array GenState) (d : Drawn) (os : OsState) (Q : Value → Shared → Prop) : Prop :=
  ∀ v h' tk nw, Mem h h' [] nw → P v nw → Q v ⟨h', g, d, tk, os⟩
theorem mem_keep {h h' : Heap} {nw : Led} (D : Mem h h' [] nw) : ∀ b o, h.get? b = some o → h'.get? b = some o := fun b o e => D.keep b o e (by unfold away; simp)
theorem mem_fr {h₀ h h' : Heap} {L : Addr} {m : Str → Option Value} {nw : Led} (D : Mem h h' [] nw) (F : Fr h₀ L h m) : Fr h₀ L h' m := F.keeps (mem_keep D)
theorem mem_news {h₀ h h' : Heap} {L : Addr} {m : Str → Option Value} {nw news : Led} (D : Mem h h' [] nw) (F : Fr h₀ L h m) (N : News h₀ L h news) : News h₀ L h' (nw ++ news) := by
  intro q hq
  rcases List.mem_append.mp hq with hq | hq
  · obtain ⟨h1, h2⟩ := D.nw q hq
    refine ⟨h1, fun e => ?_, ?_⟩
    · obtain ⟨o, _, _, ho, _⟩ := F.ns
      rw [← e, h2] at ho
      cases ho
    · cases e : h₀.get? q.1 with
      | none => rfl
      | some o => have := F.keep _ _ e; rw [h2] at this; cases this
  · exact ⟨mem_keep D _ _ (N q hq).1, (N q hq).2⟩
theorem mem_off {h h' h₀ : Heap} {L : Addr} {nw news : Led} (D : Mem h h' [] nw) (N : News h₀ L h news) {a : Addr} {o : Obj} (ha : (a, o) ∈ nw) : ∀ q ∈ news, q.1 ≠ a := fun q hq e => by
  have := (D.nw _ ha).2
  dsimp only at this
  rw [← e, (N q hq).1] at this
  cases this
end Mine
end

section
-- part LzRes
open PySem.W.X PySem.W.XRun PySem PySem.Spec PySem.Calls PySem.W PyProof.Rows
local macro_rules | `(tactic| k_room) => `(tactic| ktr_room)
local macro_rules | `(tactic| k_all) => `(tactic| exact allNe_of' (by assumption) (by omega))
local macro_rules | `(tactic| k_all) => `(tactic| ((with_reducible rename AllLt _ _ => hAllLt); exact allNe_of hAllLt (by omega)))
local macro_rules | `(tactic| k_all) => `(tactic| assumption)
local macro_rules | `(tactic| k_mem) => `(tactic| first | exact List.Mem.head _ | (refine' List.mem_cons_of_mem _ ?_; k_mem))
local macro_rules | `(tactic| walk_at "call builtin:dict.get") => `(tactic| (k_here; k_dflt (first | refine kdg_get2 (knd := PySem.strKind _ _) (by k_asm) (by k_mem) (by assumption) (by assumption) (strKind_is _ _ _ _) (some _) (by rfl) ?_ | refine kdg_get2 (knd := PySem.strKind _ _) (by k_asm) (by k_mem) (by assumption) (by assumption) (strKind_is _ _ _ _) none (by rfl) ?_); (try dsimp only [Option.getD])))
local macro_rules | `(tactic| x_close) => `(tactic| ((with_reducible rename Mine.EndQ _ _ _ _ _ _ => eQ); (with_reducible rename Mem _ _ _ _ => DD); refine eQ _ _ _ _ DD ?_; exact rfl))
namespace Mine
theorem lz_u {w : World} {s : Shared} {l d rm u du : Addr} {tl tr : Tok} {rep : Nat} {slu : Array (Option Value)} {Q E : Value → Shared → Prop} (X : (hd.heap_39 w.params).In s.heap) (h0 : s.heap.get? (nat_lit 0) = some (obj0 w.params)) (h1 : s.heap.get? (nat_lit 1) = some (obj1 w.params))
    (hl : s.heap.get? l = some ({ cls := .ref 525, dict := some d, data := .prim (.str (Str.ofString "u") tl) } : Obj)) (hd' : s.heap.get? d = some ({ cls := .type "dict", data := .dict #[] } : Obj)) (hr : s.heap.get? rm = some ({ cls := .type "dict", data := .dict #[⟨PyData.keyHash w.params (Str.ofString "u"), .str (Str.ofString "u") tr, .ref u⟩] rep } : Obj)) (hu : s.heap.get? u = some ({ cls := .ref 425, dict := some du, data := .plain, slots := slu } : Obj))
    (hQ : EndQ (fun v nw => v = .ref u) s.heap s.gens s.drawn s.os Q) :
    wpAny (model PW w) { handled := none, depth := 500, frames := none, guards := none, units := 5000 } (call (.ref 515) [.ref l, .ref rm] []) Q E s := by
  unfold obj0 at h0
  unfold obj1 at h1
  x_run
theorem lz_l {w : World} {s : Shared} {l d rm u du : Addr} {tl tr : Tok} {rep : Nat} {slu : Array (Option Value)} {Q E : Value → Shared → Prop} (X : (hd.heap_39 w.params).In s.heap) (h0 : s.heap.get? (nat_lit 0) = some (obj0 w.params)) (h1 : s.heap.get? (nat_lit 1) = some (obj1 w.params))
    (hl : s.heap.get? l = some ({ cls := .ref 525, dict := some d, data := .prim (.str (Str.ofString "l") tl) } : Obj)) (hd' : s.heap.get? d = some ({ cls := .type "dict", data := .dict #[] } : Obj)) (hr : s.heap.get? rm = some ({ cls := .type "dict", data := .dict #[⟨PyData.keyHash w.params (Str.ofString "l"), .str (Str.ofString "l") tr, .ref u⟩] rep } : Obj)) (hu : s.heap.get? u = some ({ cls := .ref 425, dict := some du, data := .plain, slots := slu } : Obj))
    (hQ : EndQ (fun v nw => v = .ref u) s.heap s.gens s.drawn s.os Q) :
    wpAny (model PW w) { handled := none, depth := 500, frames := none, guards := none, units := 5000 } (call (.ref 515) [.ref l, .ref rm] []) Q E s := by
  unfold obj0 at h0
  unfold obj1 at h1
  x_run
end Mine
end

section
-- part Gn
open PySem PySem.Spec PySem.Calls PySem.W PyProof.Rows PyProof.V
local macro_rules | `(tactic| walk_at "pad of mine") => `(tactic| fail)
local macro_rules | `(tactic| walk_at "pad of mine") => `(tactic| fail)
local macro_rules | `(tactic| walk_at "pad of mine") => `(tactic| fail)
set_option linter.unusedVariables false
namespace Mine
abbrev lstA (acc : Array Value) (c : Nat) : Obj := { cls := .type "list", dict := none, data := .seq acc c, slots := #[] }
/-- what a generator's run may do to the state around it -/
structure GW (Own : Addr → Prop) (s s' : Shared) : Prop where
  drawn : s'.drawn = s.drawn
  os : s'.os = s.os
  size : s.gens.size ≤ s'.gens.size
  old : ∀ i, i < s.gens.size → s'.gens[i]? = s.gens[i]?
  bare : ∀ i x, s.gens.size ≤ i → s'.gens[i]? = some x → x.bare = true
  lst : ∀ S o, Own S → s.heap.get? S = some o → (∃ acc c, o = lstA acc c) → s'.heap.get? S = some o
theorem GW.refl {Own : Addr → Prop} (s : Shared) : GW Own s s := ⟨rfl, rfl, Nat.le_refl _, fun _ _ => rfl, fun i x h e => (by rw [Array.getElem?_eq_none h] at e; cases e), fun _ _ _ e _ => e⟩
theorem GW.trans {Own : Addr → Prop} {a b c : Shared} (x : GW Own a b) (y : GW Own b c) : GW Own a c :=
  ⟨y.drawn.trans x.drawn, y.os.trans x.os, Nat.le_trans x.size y.size, fun i h => (y.old i (Nat.lt_of_lt_of_le h x.size)).trans (x.old i h), fun i z h e => by
    by_cases q : i < b.gens.size
    · rw [y.old i q] at e; exact x.bare i z h e
    · exact y.bare i z (Nat.le_of_not_lt q) e, fun S o w h c => y.lst S o w (x.lst S o w h c) c⟩
/-- the same, the generator `g` itself left out -/
structure GC (Own : Addr → Prop) (g : Nat) (s s' : Shared) : Prop where
  drawn : s'.drawn = s.drawn
  os : s'.os = s.os
  size : s.gens.size ≤ s'.gens.size
  old : ∀ i, i < s.gens.size → i ≠ g → s'.gens[i]? = s.gens[i]?
  bare : ∀ i x, (s.gens.size ≤ i ∨ i = g) → s'.gens[i]? = some x → x.bare = true
  lst : ∀ S o, Own S → s.heap.get? S = some o → (∃ acc c, o = lstA acc c) → s'.heap.get? S = some o
theorem GC.of {Own : Addr → Prop} {g : Nat} {s s₁ : Shared} {gs gs' : GenState} (hg : s.gens[g]? = some gs) (hb : gs'.bare = true) (x : GW Own (s.setGen g .running) s₁) : GC Own g s (s₁.setGen g gs') := by
  have e1 := GenOnly.setGen s g .running
  have e2 := GenOnly.setGen s₁ g gs'
  have hs := x.size
  rw [e1.1] at hs
  have hlt : g < s.gens.size := by
    rcases Nat.lt_or_ge g s.gens.size with h | h
    · exact h
    · rw [Array.getElem?_eq_none h] at hg; cases hg
  have hg1 : ∃ z, s₁.gens[g]? = some z := ⟨_, Array.getElem?_eq_getElem (Nat.lt_of_lt_of_le hlt hs)⟩
  obtain ⟨z, hz⟩ := hg1
  refine ⟨x.drawn, x.os, by rw [e2.1]; exact hs, fun i h1 h2 => ?_, fun i z' h1 h2 => ?_, fun S o w h c => x.lst S o w h c⟩
  · rw [e2.2 i h2, x.old i (by rw [e1.1]; exact h1), e1.2 i h2]
  · by_cases q : i = g
    · subst q
      rw [setGen_self hz] at h2
      cases h2
      exact hb
    · rw [e2.2 i q] at h2
      exact x.bare i z' (by rw [e1.1]; exact h1.resolve_right q) h2
abbrev NoE : Value → Shared → Prop := fun _ _ => False
section
variable {prog : Program} {w : World} {Own : Addr → Prop} {A : Around} {J : Nat → Shared → Prop} {vals : Nat → Value} {n₀ : Nat} {cenv : Env} {elt iter : PySem.Expr} {x : Str} {px pos : Pos} {scope : Scope} {I : Addr}
abbrev loopC (elt : PySem.Expr) (x : Str) (px : Pos) (iter : PySem.Expr) (scope : Scope) (pos : Pos) (I : Addr) (cenv : Env) : Code := .compLoop (.GeneratorExp elt [⟨.Name x px, iter, [], 0⟩] scope pos) 0 (.ref I) .none cenv
abbrev startC (elt : PySem.Expr) (x : Str) (px : Pos) (iter : PySem.Expr) (scope : Scope) (pos : Pos) (I : Addr) (cenv : Env) : Code := .compStart (.GeneratorExp elt [⟨.Name x px, iter, [], 0⟩] scope pos) 0 (.ref I) .none cenv
abbrev RP (Own : Addr → Prop) (J : Nat → Shared → Prop) (n₀ : Nat) : GenEnd := fun n s₀ r s₁ => r = .ok .next ∧ (n = 0 ∧ J (n₀ + 1) s₁ ∧ GW Own s₀ s₁)
abbrev YP (Own : Addr → Prop) (J : Nat → Shared → Prop) (vals : Nat → Value) (n₀ : Nat) : Protocol := fun m s₀ v s kap => v = vals (n₀ - 1 - m) ∧ J (n₀ - m) s ∧ GW Own s₀ s ∧ ∀ s'', J (n₀ - m) s'' → kap (.send .none) s''
/-- one turn of the generator's loop -/
def Turn (prog : Program) (w : World) (Own : Addr → Prop) (A' : Around) (J : Nat → Shared → Prop) (vals : Nat → Value) (n₀ : Nat) (cenv : Env) (elt : PySem.Expr) (x : Str) (px : Pos) (I : Addr) : Prop :=
  ∀ i s, i < n₀ → J i s → wpAny (model prog w) A' (pyNext (.ref I)) (fun r s1 => ∃ v, r = some v ∧ wpAny (model prog w) A' (letOwnedTupleGo (.Name x px) (.ref I) v) (fun _ s2 => wpAny (model prog w) A' (assign (.Name x px) cenv v) (fun _ s3 =>
    wpAny (model prog w) A' (eval elt cenv) (fun y s4 => y = vals i ∧ J (i + 1) s4 ∧ GW Own s s4) NoE s3) NoE s2) NoE s1) NoE s
def Last (prog : Program) (w : World) (Own : Addr → Prop) (A' : Around) (J : Nat → Shared → Prop) (n₀ : Nat) (I : Addr) : Prop :=
  ∀ s, J n₀ s → wpAny (model prog w) A' (pyNext (.ref I)) (fun r s1 => r = none ∧ J (n₀ + 1) s1 ∧ GW Own s s1) NoE s
theorem seg_loopJ (hturn : Turn prog w Own (A.over (loopC elt x px iter scope pos I cenv) []) J vals n₀ cenv elt x px I) (hdone : Last prog w Own (A.over (loopC elt x px iter scope pos I cenv) []) J n₀ I) (hco : cenv.scope.isCoroutine = false) :
    ∀ (k i : Nat) (s₀ s : Shared), n₀ - i = k → i ≤ n₀ → J i s → GW Own s₀ s → Seg (model prog w) A (RP Own J n₀) (YP Own J vals n₀) (n₀ - i) s₀ (loopC elt x px iter scope pos I cenv) ((model prog w).den (loopC elt x px iter scope pos I cenv)) [] s := by
  intro k
  induction k with
  | zero =>
    intro i s₀ s hk hi hj hg
    have hin : i = n₀ := by omega
    subst hin
    show Seg _ A _ _ _ s₀ _ ((compTurn (.GeneratorExp elt [⟨.Name x px, iter, [], 0⟩] scope pos) 0 (.ref I) .none cenv).onRaise (leaving cenv)) [] s
    rw [compTurn_gen, Sem.onRaise_eq_wrap]
    refine seg_bind_wrap (wpAny_standAt ?_)
    refine seg_bind_wrap (wpAny_mono (hdone s hj) (fun r s1 h1 => ?_) fun _ _ e => e.elim)
    obtain ⟨rfl, h2, h3⟩ := h1
    exact seg_end (.ok .next) ⟨rfl, by omega, h2, hg.trans h3⟩
  | succ k ih =>
    intro i s₀ s hk hi hj hg
    have hlt : i < n₀ := by omega
    show Seg _ A _ _ _ s₀ _ ((compTurn (.GeneratorExp elt [⟨.Name x px, iter, [], 0⟩] scope pos) 0 (.ref I) .none cenv).onRaise (leaving cenv)) [] s
    rw [compTurn_gen, Sem.onRaise_eq_wrap]
    refine seg_bind_wrap (wpAny_standAt ?_)
    refine seg_bind_wrap (wpAny_mono (hturn i s hlt hj) (fun r s1 h1 => ?_) fun _ _ e => e.elim)
    obtain ⟨v, rfl, h1⟩ := h1
    refine seg_bind_wrap (wpAny_mono h1 (fun _ s2 h2 => ?_) fun _ _ e => e.elim)
    refine seg_bind_wrap (wpAny_mono h2 (fun _ s3 h3 => ?_) fun _ _ e => e.elim)
    refine seg_bind_wrap (wpAny_pure ?_)
    simp only [if_true]
    have hy : ∀ v, yieldOut cenv v = yieldValue v := fun v => by simp only [yieldOut, hco, Bool.false_eq_true, if_false]
    simp only [hy]
    rw [Sem.bind_eq_wrap', Sem.bind_eq_wrap', Sem.wrap_wrap, Sem.wrap_wrap]
    refine seg_wrap (wpAny_mono h3 (fun y s₄ h₄ => ?_) fun _ _ e => e.elim)
    obtain ⟨rfl, h4, h5⟩ := h₄
    have e0 : n₀ - i = (n₀ - (i + 1)) + 1 := by omega
    rw [e0]
    refine seg_at (seg_yield rfl rfl rfl ?_)
    have e1 : n₀ - 1 - (n₀ - (i + 1)) = i := by omega
    have e2 : n₀ - (n₀ - (i + 1)) = i + 1 := by omega
    refine ⟨by rw [e1], by rw [e2]; exact h4, hg.trans h5, fun s'' hs => ?_⟩
    rw [e2] at hs
    exact seg_again rfl (ih (i + 1) s'' s'' (by omega) hlt hs (GW.refl _))

theorem seg_startJ (hturn : Turn prog w Own (A.over (loopC elt x px iter scope pos I cenv) []) J vals n₀ cenv elt x px I) (hdone : Last prog w Own (A.over (loopC elt x px iter scope pos I cenv) []) J n₀ I) (hco : cenv.scope.isCoroutine = false)
    (hself : ∀ (A' : Around) (s : Shared) (Q : Value → Shared → Prop) (E : Value → Shared → Prop), J 0 s → Q (.ref I) s → wpAny (model prog w) A' (pyIter (.ref I)) Q E s) (s : Shared) (hj : J 0 s) :
    Seg (model prog w) A (RP Own J n₀) (YP Own J vals n₀) n₀ s (startC elt x px iter scope pos I cenv) ((model prog w).den (startC elt x px iter scope pos I cenv)) [] s := by
  have loop := seg_loopJ hturn hdone hco n₀ 0 s s (Nat.sub_zero _) (Nat.zero_le _) hj (GW.refl _)
  rw [Nat.sub_zero] at loop
  show Seg _ A _ _ _ s _ ((compStart (.GeneratorExp elt [⟨.Name x px, iter, [], 0⟩] scope pos) 0 (.ref I) .none cenv).onRaise (leaving cenv)) [] s
  unfold compStart
  rw [Sem.onRaise_eq_wrap]
  show Seg _ A _ _ _ s _ ((ask >>= _).wrap _ _ _ _) [] s
  refine seg_bind_wrap (wpAny_askSetting ?_)
  split
  · exact seg_again rfl loop
  · first
      | exact seg_bind_wrap (wpAny_rule (seg_bind_wrap (wpAny_standAt (seg_bind_wrap (hself _ s _ _ hj (seg_again rfl loop))))))
      | (refine seg_bind_wrap (wpAny_rule ?_); show Seg _ A _ _ _ s _ ((standAt iter.pos >>= _).wrap _ _ _ _) [] s; exact seg_bind_wrap (wpAny_standAt (seg_bind_wrap (hself _ s _ _ hj (seg_again rfl loop)))))
/-- the generator's own state, between two turns -/
def Rdy (prog : Program) (w : World) (Own : Addr → Prop) (B : Around) (J : Nat → Shared → Prop) (vals : Nat → Value) (n₀ g i : Nat) (s : Shared) : Prop :=
  ∃ gs, s.gens[g]? = some gs ∧ ∀ s'', J i s'' → gs.Goes (model prog w) B.in1 (RP Own J n₀) (YP Own J vals n₀) (n₀ - i) (.send .none) s''
theorem next_J {B : Around} {G g i : Nat} {s : Shared} {Q : Option Value → Shared → Prop} {E : Value → Shared → Prop} (hh : B.handled = none) (hroom : B.depth < recursionLimit) (hi : i < n₀) (hl : s.heap.NoLimit) (hG : s.heap.IsGen G g) (hJg : ∀ i s x, J i s → J i (s.setGen g x)) (hj : J i s)
    (R : Rdy prog w Own B J vals n₀ g i s) (h : ∀ s', J (i + 1) s' → Rdy prog w Own B J vals n₀ g (i + 1) s' → GC Own g s s' → Q (some (vals i)) s') : wpAny (model prog w) B (pyNext (.ref G)) Q E s := by
  obtain ⟨gs, hgs, hgo⟩ := R
  obtain ⟨m, hm⟩ : ∃ m, n₀ - i = m + 1 := ⟨n₀ - i - 1, by omega⟩
  rw [hm] at hgo
  refine wpAny_pyNext_genexpQ (P := fun n s₀ s₁ => n = 0 ∧ J (n₀ + 1) s₁ ∧ GW Own s₀ s₁) hh hl hroom hG hgs (hgo _ (hJg _ _ _ hj)) (fun v s₁ gs' hb hv => ?_) (fun s₁ hp h' hk => ?_)
  · obtain ⟨rfl, h1, h2, h3⟩ := hv
    have e1 : n₀ - 1 - (m + 1 - 1) = i := by omega
    have e2 : n₀ - (m + 1 - 1) = i + 1 := by omega
    rw [e2] at h1 h3
    rw [e1]
    have hc := GC.of hgs hb h2
    refine h _ (hJg _ _ _ h1) ⟨gs', ?_, ?_⟩ hc
    · have hs := h2.size
      have e3 := GenOnly.setGen s g .running
      rw [e3.1] at hs
      have hlt : g < s.gens.size := by
        rcases Nat.lt_or_ge g s.gens.size with z | z
        · exact z
        · rw [Array.getElem?_eq_none z] at hgs; cases hgs
      exact setGen_self (Array.getElem?_eq_getElem (Nat.lt_of_lt_of_le hlt hs))
    · have e4 : n₀ - (i + 1) = m := by omega
      rw [e4]
      exact fun s'' hs => h3 s'' hs
  · exact absurd hp.1 (Nat.succ_ne_zero m)
theorem last_J {B : Around} {G g : Nat} {s : Shared} {Q : Option Value → Shared → Prop} {E : Value → Shared → Prop} (hh : B.handled = none) (hroom : B.depth < recursionLimit) (hl : s.heap.NoLimit) (hG : s.heap.IsGen G g) (hJg : ∀ i s x, J i s → J i (s.setGen g x)) (hj : J n₀ s)
    (hJh : ∀ i s h', J i s → (∀ b o, s.heap.get? b = some o → h'.get? b = some o) → J i { s with heap := h' })
    (R : Rdy prog w Own B J vals n₀ g n₀ s) (h : ∀ s', J (n₀ + 1) s' → GC Own g s s' → Q none s') : wpAny (model prog w) B (pyNext (.ref G)) Q E s := by
  obtain ⟨gs, hgs, hgo⟩ := R
  rw [Nat.sub_self] at hgo
  refine wpAny_pyNext_genexpQ (P := fun n s₀ s₁ => n = 0 ∧ J (n₀ + 1) s₁ ∧ GW Own s₀ s₁) hh hl hroom hG hgs (hgo _ (hJg _ _ _ hj)) (fun v s₁ gs' hb hv => ?_) (fun s₁ hp h' hk => ?_)
  · obtain ⟨_, h1, _, h3⟩ := hv
    exact False.elim (h3 s₁ (by simpa using h1))
  · obtain ⟨_, h1, h2⟩ := hp
    have hc := GC.of (gs' := .finished) hgs rfl h2
    refine h _ (hJh _ _ _ (hJg _ _ _ h1) hk) ⟨hc.drawn, hc.os, hc.size, hc.old, hc.bare, fun S o w e c => hk _ _ (hc.lst S o w e c)⟩

/-- the end state against the first, heaps left out -/
structure GD (g : Nat) (s s' : Shared) : Prop where
  drawn : s'.drawn = s.drawn
  os : s'.os = s.os
  size : s.gens.size ≤ s'.gens.size
  old : ∀ i, i < s.gens.size → i ≠ g → s'.gens[i]? = s.gens[i]?
  bare : ∀ i x, (s.gens.size ≤ i ∨ i = g) → s'.gens[i]? = some x → x.bare = true
theorem GC.toD {Own : Addr → Prop} {g : Nat} {s s' : Shared} (x : GC Own g s s') : GD g s s' := ⟨x.drawn, x.os, x.size, x.old, x.bare⟩
theorem GD.trans {g : Nat} {a b c : Shared} (hg : g < a.gens.size) (x : GD g a b) (y : GD g b c) : GD g a c :=
  ⟨y.drawn.trans x.drawn, y.os.trans x.os, Nat.le_trans x.size y.size, fun i h n => (y.old i (Nat.lt_of_lt_of_le h x.size) n).trans (x.old i h n), fun i z h e => by
    by_cases q : i = g
    · exact y.bare i z (.inr q) e
    · by_cases q2 : i < b.gens.size
      · rw [y.old i q2 q] at e; exact x.bare i z h e
      · exact y.bare i z (.inl (Nat.le_of_not_lt q2)) e⟩
theorem GD.heap {g : Nat} {a b : Shared} {h : Heap} {t : Tok} (x : GD g a b) : GD g a { b with heap := h, toks := t } := ⟨x.drawn, x.os, x.size, x.old, x.bare⟩
abbrev valsTo (vals : Nat → Value) (i : Nat) : Array Value := ((List.range i).map vals).toArray
theorem valsTo_succ (vals : Nat → Value) (i : Nat) : (valsTo vals i).push (vals i) = valsTo vals (i + 1) := by simp [valsTo, List.range_succ]
/-- what J must bear -/
structure JOk (Own : Addr → Prop) (J : Nat → Shared → Prop) (G g : Nat) : Prop where
  gen : ∀ i s x, J i s → J i (s.setGen g x)
  ext : ∀ i s h', J i s → (∀ b o, s.heap.get? b = some o → h'.get? b = some o) → J i { s with heap := h' }
  upd : ∀ i s S o f, J i s → s.heap.get? S = some o → (∃ acc c, o = lstA acc c) → Own S → J i { s with heap := s.heap.update S f }
  own : ∀ i s, J i s → Own s.heap.objs.size
  lim : ∀ i s, J i s → s.heap.NoLimit
  isg : ∀ i s, J i s → s.heap.IsGen G g
  tok : ∀ i s t, J i s → J i { s with toks := t }
theorem Rdy.heap {B : Around} {g i : Nat} {s : Shared} {h : Heap} {t : Tok} (x : Rdy prog w Own B J vals n₀ g i s) : Rdy prog w Own B J vals n₀ g i { s with heap := h, toks := t } := x
theorem ext_loopJ {A₁ : Around} {G g : Nat} {S : Addr} {R : Result → Shared → Prop} {res : Value} (ok : JOk Own J G g) (hh : A₁.in1.handled = none) (hroom : A₁.in1.depth < recursionLimit) (hS : Own S) (hn : n₀ ≤ sizeLine) :
    ∀ (k i : Nat) (s : Shared) (c : Nat), n₀ - i = k → i ≤ n₀ → J i s → Rdy prog w Own A₁.in1 J vals n₀ g i s → g < s.gens.size → s.heap.get? S = some (lstA (valsTo vals i) c) →
    (∀ s' c', J (n₀ + 1) s' → GD g s s' → s'.heap.get? S = some (lstA (valsTo vals n₀) c') → R (.ok (.ret res)) s') →
    codeAny (model prog w) A₁ (.builtin "list.extend.loop" ⟨[.ref S, .ref G, res], []⟩) R s := by
  intro k
  induction k with
  | zero =>
    intro i s c hk hi hj hr hg hs hR
    have hin : i = n₀ := by omega
    subst hin
    refine codeAny_builtin F.entry_extend_loop ?_
    rw [Around.under_plainId F.plain_extend_loop _]
    show wpAny _ A₁.in1 (pyNext (.ref G) >>= _) _ _ s
    refine wpAny_bind (last_J hh hroom (ok.lim _ _ hj) (ok.isg _ _ hj) ok.gen hj ok.ext hr fun s' h1 h2 => ?_)
    exact wpAny_pure (hR s' c h1 h2.toD (h2.lst _ _ hS hs ⟨_, _, rfl⟩))
  | succ k ih =>
    intro i s c hk hi hj hr hg hs hR
    have hlt : i < n₀ := by omega
    refine codeAny_builtin F.entry_extend_loop ?_
    rw [Around.under_plainId F.plain_extend_loop _]
    show wpAny _ A₁.in1 (pyNext (.ref G) >>= _) _ _ s
    refine wpAny_bind (next_J hh hroom hlt (ok.lim _ _ hj) (ok.isg _ _ hj) ok.gen hj hr fun s' h1 h2 h3 => ?_)
    have hS' := h3.lst _ _ hS hs ⟨_, _, rfl⟩
    show wpAny _ A₁.in1 (updateSeq S (·.push (vals i)) >>= _) _ _ _
    refine wpAny_bind ?_
    refine wpAny_updateSeq hS' rfl (wpAny_pure ⟨plainId_quiet F.plain_extend_loop _, ih (i + 1) _ ?cc (by omega) hlt (ok.upd _ _ _ _ _ (ok.tok _ _ _ h1) hS' ⟨_, _, rfl⟩ hS) h2 (Nat.lt_of_lt_of_le hg h3.size) ?b1 fun s'' c' h4 h5 h6 => ?b2⟩) ?b3 ?b4
    case b1 =>
      rw [Heap.get?_update_self _ hS' rfl]
      show some (lstA ((valsTo vals i).push (vals i)) _) = _
      rw [valsTo_succ]
    case b2 => exact hR s'' c' h4 (GD.trans hg h3.toD (by exact ⟨h5.drawn, h5.os, h5.size, h5.old, h5.bare⟩)) h6
    case b3 => simp [valsTo]; omega
    case b4 => simp [valsTo]; omega

theorem collect_J {A : Around} {G g : Nat} {s : Shared} {Q : List Value → Shared → Prop} {E : Value → Shared → Prop} (ok : JOk Own J G g) (hh : A.in1.handled = none) (hroom : A.in1.depth < recursionLimit) (hn : n₀ ≤ sizeLine)
    (hj : J 0 s) (hr : Rdy prog w Own A.in1 J vals n₀ g 0 s) (hg : g < s.gens.size) (h : ∀ s', J (n₀ + 1) s' → GD g s s' → Q (valsTo vals n₀).toList s') : wpAny (model prog w) A (collect (.ref G)) Q E s := by
  have hown := ok.own _ _ hj
  have hSI : s.heap.objs.size ≠ G := by
    intro e
    obtain ⟨o, _, _, ho, _⟩ := ok.isg _ _ hj
    have hlt : G < s.heap.objs.size := Heap.lt_size ho
    rw [e] at hlt
    exact Nat.lt_irrefl _ hlt
  unfold collect
  refine wpAny_bind (wpAny_runValue (codeAny_builtin F.entry_proto_collect ?_))
  rw [Around.under_plainId F.plain_proto_collect _]
  show wpAny _ A.in1 (newList [] >>= fun l => again (.builtin "list.__iadd__" ⟨[l, .ref G], []⟩)) _ _ s
  refine wpAny_bind (wpAny_newObj_type ?_)
  refine wpAny_pure ⟨plainId_quiet F.plain_list_iadd _, codeAny_builtin F.entry_list_iadd ?_⟩
  rw [Around.under_plainId F.plain_list_iadd _]
  have hj₁ := ok.ext 0 s (s.heap.push { cls := .type "list", data := .seq ([] : List Value).toArray }) hj fun b o e => Heap.get?_push_of_some _ e
  have hT : ({ s with heap := s.heap.push { cls := .type "list", data := .seq ([] : List Value).toArray } } : Shared).TypeIs (.ref G) "generator" := (ok.isg _ _ hj₁).typeIs
  show wpAny _ A.in1 (Builtin.List.listExtendWith (.ref s.heap.objs.size) (.ref G) (.ref s.heap.objs.size)) _ _ _
  unfold Builtin.List.listExtendWith
  refine wpAny_bind (wpAny_typeOf hT ?_)
  have h1 : Builtin.List.listSameRef (.ref s.heap.objs.size) (.ref G) = false := by simp [Builtin.List.listSameRef, hSI]
  have h2 : (Value.type "generator" == Value.type "list") = false := by decide
  have h3 : (Value.type "generator" == Value.type "tuple") = false := by decide
  simp only [h1, h2, h3, Bool.or_false, Bool.false_eq_true, if_false]
  refine wpAny_bind (wpAny_pyIter_gen (ok.isg _ _ hj₁) ?_)
  refine wpAny_bind (wpAny_holding ?_)
  unfold Builtin.List.listLengthHint
  refine wpAny_bind (wpAny_specialOf hT F.gen_no_len ?_)
  show wpAny _ A.in1 (specialOf (Value.ref G) (Str.ofString "__length_hint__") >>= _) _ _ _
  refine wpAny_bind (wpAny_specialOf hT F.gen_no_hint ?_)
  refine wpAny_pure ?_
  show wpAny _ A.in1 (rule "list.extend.makes-room" >>= fun _ => Builtin.List.listTouch (.ref s.heap.objs.size) >>= fun _ =>
    again (.builtin "list.extend.loop" ⟨[.ref s.heap.objs.size, .ref G, .ref s.heap.objs.size], []⟩)) _ _ _
  refine wpAny_bind (wpAny_rule ?_)
  have hS₁ : (s.heap.push { cls := .type "list", data := .seq ([] : List Value).toArray }).get? s.heap.objs.size = some { cls := .type "list", data := .seq ([] : List Value).toArray } := Heap.get?_push_size _ rfl
  refine wpAny_bind ?_
  show wpAny _ A.in1 (updateSeq s.heap.objs.size (·.push .none) >>= fun _ => updateSeq s.heap.objs.size (·.pop)) _ _ _
  refine wpAny_bind (wpAny_updateSeq hS₁ rfl ?_)
  have hS₂ := Heap.get?_update_self (Obj.mapSeq (·.push Value.none)) hS₁ rfl
  have hj₂ := ok.upd _ _ _ _ (Obj.mapSeq (·.push Value.none)) hj₁ hS₁ ⟨_, _, rfl⟩ hown
  refine wpAny_updateSeq hS₂ rfl ?_
  have hS₃ := Heap.get?_update_self (Obj.mapSeq (·.pop)) hS₂ rfl
  have hj₃ := ok.upd _ _ _ _ (Obj.mapSeq (·.pop)) hj₂ hS₂ ⟨_, _, rfl⟩ hown
  refine wpAny_pure ⟨plainId_quiet F.plain_extend_loop _, ext_loopJ ok hh hroom hown hn n₀ 0 _ _ rfl (Nat.zero_le _) hj₃ hr hg hS₃ fun s' c' h4 h5 h6 => ?_⟩
  show wpAny _ A (load s.heap.objs.size >>= _) _ _ s'
  refine wpAny_bind (wpAny_load h6 ?_)
  exact wpAny_pure (h s' h4 ⟨h5.drawn, h5.os, h5.size, h5.old, h5.bare⟩)
theorem tuple_J {A : Around} {G g : Nat} {s : Shared} {Q : Value → Shared → Prop} {E : Value → Shared → Prop} (ok : JOk Own J G g) (hh : A.in1.in1.in1.handled = none) (hroom : A.in1.in1.in1.depth < recursionLimit) (hn : n₀ ≤ sizeLine)
    (hj : J 0 s) (hr : Rdy prog w Own A.in1.in1.in1 J vals n₀ g 0 s) (hg : g < s.gens.size)
    (h : ∀ s', J (n₀ + 1) s' → GD g s s' → Q (.ref s'.heap.objs.size) { s' with heap := s'.heap.push { cls := .type "tuple", data := .seq (valsTo vals n₀) } }) : wpAny (model prog w) A (call (.type "tuple") [.ref G]) Q E s := by
  refine callType_codes (Q₁ := fun obj s₁ => s₁.TypeIs obj "tuple" ∧ Q obj s₁) F.called_tuple (F.typeCall_tuple_1 _) F.entry_object_init ?_ fun obj s₁ h₁ => ?_
  rotate_left
  · exact ⟨h₁.1, F.args_object_init_2 obj _, object_init_meets F.called_tuple.init.lookup F.called_tuple.made (by decide) prog w A.in1 _ s₁ ⟨h₁.1, rfl, h₁.2⟩⟩
  refine codeAny_of_tree ?_
  show wpAny _ A.in1.in1 (do checkBuiltinCall "tuple.__new__" ⟨[.type "tuple", .ref G], []⟩; again (.builtin "tuple.__new__" ⟨[.type "tuple", .ref G], []⟩)) _ _ s
  refine wpAny_bind (wpAny_of_eq (F.newCall_tuple_1 _) (wpAny_pure ⟨plainId_quiet F.plain_tuple_new _, codeAny_builtin F.entry_tuple_new ?_⟩))
  rw [Around.under_plainId F.plain_tuple_new _]
  have hsub := sub_tuple_self
  have hinit := init_tuple_lookup
  have hmh := madeHere_tuple
  have hTI := (ok.isg _ _ hj).typeIs
  wp_walk using wpAny_typeOf hTI, collect_J ok hh hroom hn hj hr hg
  intro s' h1 h2
  show wpAny _ _ (Builtin.Tuple.tupleExact (valsTo vals n₀).toList.toArray >>= fun v => ret v) _ _ _
  unfold Builtin.Tuple.tupleExact
  refine wpAny_bind (wpAny_newObj_type ?_ (by show (valsTo vals n₀).toList.toArray.size ≤ sizeLine; simp [valsTo]; exact hn))
  refine wpAny_pure ?_
  rw [show (valsTo vals n₀).toList.toArray = valsTo vals n₀ by simp]
  exact ⟨⟨_, Heap.get?_push_size _ rfl, rfl⟩, h s' h1 h2⟩
end
end Mine
end

section
-- part Gj
open PySem PySem.Spec PySem.Calls PySem.W PyProof.Rows PyProof.V
local macro_rules | `(tactic| walk_at "pad of mine") => `(tactic| fail)
local macro_rules | `(tactic| walk_at "pad of mine") => `(tactic| fail)
local macro_rules | `(tactic| walk_at "pad of mine") => `(tactic| fail)
local macro_rules | `(tactic| walk_at "pad of mine") => `(tactic| fail)
set_option linter.unusedVariables false
namespace Mine
def OwnAt (g : Heap) (L : Addr) : Addr → Prop := fun S => g.get? S = none ∧ @LT.lt Nat _ L S
/-- the generator's state, seen through a ledger -/
def Jn (g : Heap) (L : Addr) (M : Nat → Str → Option Value) (Inv : Nat → Led → Prop) (i : Nat) (s : Shared) : Prop := ∃ led, Fr g L s.heap (M i) ∧ News g L s.heap led ∧ Inv i led
def NoLst (o : Obj) : Prop := ¬ ∃ acc c, o = lstA acc c
structure InvOk (C : Addr) (Inv : Nat → Led → Prop) (G g : Nat) : Prop where
  mono : ∀ i a b, (∀ q ∈ a, NoLst q.2 ∨ ¬ @LT.lt Nat _ C q.1 → q ∈ b) → Inv i a → Inv i b
  isg : ∀ i a, Inv i a → ∃ o nm qn, (G, o) ∈ a ∧ o.cls = .type "generator" ∧ o.data = .fields #[.int g 0, nm, qn] ∧ o.slots = #[]
theorem own_size {g : Heap} {L : Addr} {h : Heap} {M : Str → Option Value} (F : Fr g L h M) : OwnAt g L h.objs.size := by
  constructor
  · cases e : g.get? h.objs.size with
    | none => rfl
    | some o => exact absurd (Heap.lt_size (F.keep _ _ e)) (Nat.lt_irrefl _)
  · obtain ⟨o, _, _, ho, _⟩ := F.ns
    exact Heap.lt_size ho
theorem jn_ok {g : Heap} {L : Addr} {M : Nat → Str → Option Value} {Inv : Nat → Led → Prop} {G n : Nat} (ok : InvOk L Inv G n) (hlim : g.NoLimit) : JOk (OwnAt g L) (Jn g L M Inv) G n where
  gen := fun i s x h => h
  ext := fun i s h' ⟨led, F, N, I⟩ k => ⟨led, F.keeps k, Mine.News.keeps N k, I⟩
  upd := fun i s S o f ⟨led, F, N, I⟩ hs hl hw => by
    have hsb : Heap.SameBut S s.heap (s.heap.update S f) := Heap.SameBut.update ..
    refine ⟨led.filter fun q => decide (q.1 ≠ S), F.change hsb (Nat.ne_of_gt hw.2) hw.1, fun q hq => ?_, ok.mono i led _ (fun q hq hn => ?_) I⟩
    · obtain ⟨h1, h2⟩ := List.mem_filter.mp hq
      have h2 := of_decide_eq_true h2
      exact ⟨(Heap.get?_update_other _ _ (Ne.symm h2)).trans (N q h1).1, (N q h1).2⟩
    · refine List.mem_filter.mpr ⟨hq, decide_eq_true fun e => ?_⟩
      have := (N q hq).1
      rw [e, hs] at this
      cases this
      rcases hn with hn | hn
      · exact hn hl
      · rw [e] at hn; exact hn hw.2
  own := fun i s ⟨led, F, N, I⟩ => own_size F
  lim := fun i s ⟨led, F, N, I⟩ => hlim.keeps F.keep
  isg := fun i s ⟨led, F, N, I⟩ => by
    obtain ⟨o, nm, qn, h1, h2, h3, h4⟩ := ok.isg i led I
    exact ⟨o, nm, qn, (N _ h1).1, h2, h3, h4⟩
  tok := fun i s t h => h
/-- the ledger with all own lists of the heap -/
theorem with_lists {g : Heap} {L : Addr} {h : Heap} {led : Led} (N : News g L h led) : ∃ led', News g L h led' ∧ (∀ q ∈ led, q ∈ led') ∧ ∀ S o, OwnAt g L S → h.get? S = some o → (∃ acc c, o = lstA acc c) → (S, o) ∈ led' := by
  classical
  let new : Led := (List.range h.objs.size).filterMap fun a => if g.get? a = none ∧ @LT.lt Nat _ L a then (h.get? a).map fun o => (a, o) else none
  refine ⟨led ++ new, fun q hq => ?_, fun q hq => List.mem_append_left _ hq, fun S o hw hs hl => List.mem_append_right _ (List.mem_filterMap.mpr ⟨S, List.mem_range.mpr (Heap.lt_size hs), ?_⟩)⟩
  · rcases List.mem_append.mp hq with hq | hq
    · exact N q hq
    · obtain ⟨a, _, ha⟩ := List.mem_filterMap.mp hq
      split at ha
      · rename_i c
        cases e : h.get? a with
        | none => rw [e] at ha; cases ha
        | some o => rw [e] at ha; cases ha; exact ⟨e, Nat.ne_of_gt c.2, c.1⟩
      · cases ha
  · rw [if_pos (show g.get? S = none ∧ @LT.lt Nat _ L S from hw), hs]; rfl
section
variable {A₀ A₁ : Around} {base g h : Heap} {outer : List Env} {env : Env} {L : Addr} {M : Str → Option Value}
/-- the ground under a generator's own frame: what stood, and the frame that made it -/
theorem gen_ground (B : Below A₀ base outer g) (hA : A₁.frames = some (env :: outer)) (hf : env.frame = some L) (hke : env.scope.kind = .function) (F : Fr g L h M) :
    ∃ gC, g.StaysIn gC ∧ gC.objs.size = h.objs.size ∧ (∀ b o, gC.get? b = some o → h.get? b = some o) ∧ (∀ b o, gC.get? b = some o → g.get? b = some o ∨ b = L) ∧ (∀ o, h.get? L = some o → gC.get? L = some o) ∧ Below A₁ base (env :: outer) gC := by
  classical
  let hide : List Addr := (List.range h.objs.size).filter fun a => decide (g.get? a = none ∧ a ≠ L)
  have hm : ∀ a, a ∈ hide → g.get? a = none ∧ a ≠ L := fun a ha => of_decide_eq_true (List.mem_filter.mp ha).2
  have st : g.StaysIn (hideAll h hide) := fun b o e => hideAll_get _ (F.keep b o e) fun q => by rw [(hm b q).1] at e; cases e
  have B₁ := pushX (env := env) B F hf hke
  refine ⟨hideAll h hide, st, hideAll_size _ _, fun b o e => of_hideAll _ e, fun b o e => ?_, fun o e => hideAll_get _ e fun q => (hm L q).2 rfl, ⟨hA, fun b o e => st b o (B.stays b o e), funFrames_hideAll B₁.frames fun env' he b hb hfr => ?_⟩⟩
  · by_cases q : b = L
    · exact .inr q
    · left
      cases e' : g.get? b with
      | some o' =>
        have e2 := F.keep _ _ e'
        rw [of_hideAll _ e] at e2
        cases e2
        rfl
      | none =>
        have hl := Heap.lt_size (of_hideAll _ e)
        have := hideAll_none (h := h) hide (List.mem_filter.mpr ⟨List.mem_range.mpr hl, decide_eq_true ⟨e', q⟩⟩)
        rw [this] at e
        cases e
  · cases he with
    | head =>
      rw [hf] at hfr
      exact (hm b hb).2 (Option.some.inj hfr).symm
    | tail _ he =>
      obtain ⟨L₁, o₁, hf₁, ho₁⟩ := funFrames_in B.frames env' he
      rw [hf₁] at hfr
      obtain rfl := Option.some.inj hfr
      rw [(hm L₁ hb).1] at ho₁
      cases ho₁
/-- back to the frame that made the generator -/
theorem gen_back {gC h' : Heap} {C : Addr} {mC : Str → Option Value} {led : Led} (hg : g.StaysIn gC) (hsub : ∀ b o, gC.get? b = some o → g.get? b = some o ∨ b = L) (hL : ∀ o, h.get? L = some o → gC.get? L = some o) (hC : gC.objs.size ≤ C) (hne : C ≠ L) (F : Fr g L h M) (F' : Fr gC C h' mC) (N' : News gC C h' led) :
    Fr g L h' M ∧ ∃ oC, (h'.get? C = some oC) ∧ News g L h' ((C, oC) :: led) := by
  obtain ⟨oL, es, ep, hoL, r⟩ := F.ns
  have hgC : ∀ b, gC.get? b = none → g.get? b = none := fun b e => by
    cases q : g.get? b with
    | none => rfl
    | some o => rw [hg b o q] at e; cases e
  have hCn : gC.get? C = none := by
    cases q : gC.get? C with
    | none => rfl
    | some o => exact absurd (Nat.lt_of_lt_of_le (Heap.lt_size q) hC) (Nat.lt_irrefl _)
  refine ⟨⟨⟨oL, es, ep, F'.keep _ _ (hL _ hoL), r⟩, fun b o e => F'.keep b o (hg b o e), F.above⟩, ?_⟩
  obtain ⟨oC, _, _, hoC, _⟩ := F'.ns
  refine ⟨oC, hoC, fun q hq => ?_⟩
  rcases List.mem_cons.mp hq with rfl | hq
  · exact ⟨hoC, hne, hgC _ hCn⟩
  · refine ⟨(N' q hq).1, fun e => ?_, hgC _ (N' q hq).2.2⟩
    have := (N' q hq).2.2
    rw [e, hL _ hoL] at this
    cases this
end
end Mine
end

section
-- part Gt
open PySem PySem.Spec PySem.Calls PySem.W PyProof.Rows PyProof.V
local macro_rules | `(tactic| walk_at "pad of mine") => `(tactic| fail)
local macro_rules | `(tactic| walk_at "pad of mine") => `(tactic| fail)
local macro_rules | `(tactic| walk_at "pad of mine") => `(tactic| fail)
local macro_rules | `(tactic| walk_at "pad of mine") => `(tactic| fail)
local macro_rules | `(tactic| walk_at "pad of mine") => `(tactic| fail)
set_option linter.unusedVariables false
namespace Mine
/-- the same around a call, but for lists -/
structure GWf (s s' : Shared) : Prop where
  drawn : s'.drawn = s.drawn
  os : s'.os = s.os
  size : s.gens.size ≤ s'.gens.size
  old : ∀ i, i < s.gens.size → s'.gens[i]? = s.gens[i]?
  bare : ∀ i x, s.gens.size ≤ i → s'.gens[i]? = some x → x.bare = true
theorem GWf.heap (s : Shared) (h : Heap) (t : Tok) : GWf s { s with heap := h, toks := t } := ⟨rfl, rfl, Nat.le_refl _, fun _ _ => rfl, fun i x h e => (by rw [Array.getElem?_eq_none h] at e; cases e)⟩
theorem GWf.trans {a b c : Shared} (x : GWf a b) (y : GWf b c) : GWf a c :=
  ⟨y.drawn.trans x.drawn, y.os.trans x.os, Nat.le_trans x.size y.size, fun i h => (y.old i (Nat.lt_of_lt_of_le h x.size)).trans (x.old i h), fun i z h e => by
    by_cases q : i < b.gens.size
    · rw [y.old i q] at e; exact x.bare i z h e
    · exact y.bare i z (Nat.le_of_not_lt q) e⟩
/-- the ledger of a generator over a tuple -/
structure GInv (G : Addr) (oG : Obj) (I mt rc : Addr) (oR : Obj) (vs : List Value) (ep : Nat) (Elt : Nat → Led → Prop) (i : Nat) (led : Led) : Prop where
  gen : (G, oG) ∈ led
  it : i ≤ vs.length → ∃ oI, (I, oI) ∈ led ∧ ItAt "tuple_iterator" oI mt i
  mem : (mt, tupO vs ep) ∈ led
  rc : (rc, oR) ∈ led
  elt : Elt i led
theorem itat_nolst {T : String} {o : Obj} {t : Addr} {i : Nat} (h : ItAt T o t i) : NoLst o := by
  rintro ⟨acc, c, rfl⟩
  have := h.dat
  cases this
theorem tup_nolst {vs : List Value} {ep : Nat} : NoLst (tupO vs ep) := by rintro ⟨acc, c, h⟩; exact absurd (congrArg Obj.cls h) (show Value.type "tuple" ≠ Value.type "list" by decide)
theorem ginv_ok {C : Addr} {G : Addr} {oG : Obj} {gn : Nat} {nm qn : Value} {I mt rc : Addr} {oR : Obj} {vs : List Value} {ep : Nat} {Elt : Nat → Led → Prop} (hcG : oG.cls = .type "generator") (hdG : oG.data = .fields #[.int gn 0, nm, qn]) (hsG : oG.slots = #[]) (hR : NoLst oR)
    (hE : ∀ i a b, (∀ q ∈ a, NoLst q.2 ∨ ¬ @LT.lt Nat _ C q.1 → q ∈ b) → Elt i a → Elt i b) : InvOk C (GInv G oG I mt rc oR vs ep Elt) G gn where
  mono := fun i a b k h => ⟨k _ h.gen (.inl (by rintro ⟨acc, c, z⟩; dsimp only at z; rw [z] at hdG; cases hdG)), fun hi => let ⟨o, h1, h2⟩ := h.it hi; ⟨o, k _ h1 (.inl (itat_nolst h2)), h2⟩, k _ h.mem (.inl tup_nolst), k _ h.rc (.inl hR), hE i a b k h.elt⟩
  isg := fun i a h => ⟨oG, nm, qn, h.gen, hcG, hdG, hsG⟩
/-- a generator's frame, turn by turn -/
def mC (x : Str) (I : Addr) (vs : List Value) : Nat → Str → Option Value
  | 0 => fun y => if y = ".0" then some (.ref I) else none
  | i + 1 => fun y => match vs[i]? with | some v => if y = x then some v else mC x I vs i y | none => mC x I vs i y
section
variable {prog : Program} {w : World} {gC : Heap} {C G I mt rc : Addr} {oG oR : Obj} {vs : List Value} {ep n₀ : Nat} {Elt : Nat → Led → Prop} {vals : Nat → Value} {cenv : Env} {elt : PySem.Expr} {x : Str} {px : Pos} {A' : Around}
theorem turn_ok (hh : A'.handled = none) (hlen : vs.length = n₀) (hloc : cenv.locals = C) (hx : cenv.kindOf x = some .local) (hp : (cenv.scope.kind == .class || (cenv.scope.kind == .module && cenv.locals != cenv.globals)) = false)
    (hE : ∀ i a b, (∀ q ∈ a, NoLst q.2 ∨ ¬ @LT.lt Nat _ C q.1 → q ∈ b) → Elt i a → Elt i b) (hEI : ∀ i a b, (∀ q ∈ a, q.1 ≠ I → q ∈ b) → (∃ o i', (I, o) ∈ a ∧ ItAt "tuple_iterator" o mt i') → (∀ y o o', (y, o) ∈ a → (y, o') ∈ a → o = o') → Elt i a → Elt i b) (hGI : G ≠ I) (hmI : mt ≠ I) (hrI : rc ≠ I)
    (hel : ∀ i led s, i < n₀ → Fr gC C s.heap (mC x I vs (i + 1)) → News gC C s.heap led → (G, oG) ∈ led → (∃ oI, (I, oI) ∈ led ∧ ItAt "tuple_iterator" oI mt (i + 1)) → (mt, tupO vs ep) ∈ led → (rc, oR) ∈ led → Elt i led →
      wpAny (model prog w) A' (eval elt cenv) (fun y s' => y = vals i ∧ GWf s s' ∧ ∃ led', Fr gC C s'.heap (mC x I vs (i + 1)) ∧ News gC C s'.heap led' ∧ GInv G oG I mt rc oR vs ep Elt (i + 1) led' ∧ ∀ q ∈ led, (∃ acc c, q.2 = lstA acc c) → q ∈ led') NoE s) :
    Turn prog w (OwnAt gC C) A' (Jn gC C (mC x I vs) (GInv G oG I mt rc oR vs ep Elt)) vals n₀ cenv elt x px I := by
  rintro i s hi ⟨led0, F0, N0, I0⟩
  obtain ⟨led, N1, hs1, hl1⟩ := with_lists N0
  have F1 := F0
  obtain ⟨oI, hI, hit⟩ := I0.it (by omega)
  have hI' := hs1 _ hI
  obtain ⟨rest, N2, off, sub⟩ := front N1 hI'
  have hmem : ∀ q ∈ led, q.1 ≠ I → q ∈ rest := fun q hq hn => by
    rcases List.mem_cons.mp (sub q hq) with e | e
    · exact absurd (by rw [e]) hn
    · exact e
  obtain ⟨v, hv⟩ : ∃ v, vs[i]? = some v := ⟨_, List.getElem?_eq_getElem (by omega)⟩
  refine next_tup F1 N2 hit off (hmem _ (hs1 _ I0.mem) hmI) hv fun o' h' F3 N3 hit' => ⟨v, rfl, ?_⟩
  refine letOwned_of rfl (N3 _ (.head _)).1 hit'.cls hit'.dat (by decide) ?_
  subst hloc
  refine wpAny_assign_Name (wpAny_storeName_local hx F3.ns (fun h'' hn hs => ?_) hp)
  have F4 := F3.set hn hs
  have N4 := N3.set hs
  have e1 : (fun y => if y = x then some v else mC x I vs i y) = mC x I vs (i + 1) := by funext y; show _ = (match vs[i]? with | some v => if y = x then some v else mC x I vs i y | none => mC x I vs i y); rw [hv]
  rw [e1] at F4
  refine wpAny_mono (hel i _ _ hi F4 N4 (.tail _ (hmem _ (hs1 _ I0.gen) hGI)) ⟨o', .head _, hit'⟩ (.tail _ (hmem _ (hs1 _ I0.mem) hmI)) (.tail _ (hmem _ (hs1 _ I0.rc) hrI)) ?_) (fun y s' hy => ?_) fun _ _ e => e
  · exact hEI i led _ (fun q hq hn => .tail _ (hmem q hq hn)) ⟨oI, i, hI', hit⟩ (fun y o o' => Mine.News.fn N1) (hE i led0 led (fun q hq _ => hs1 q hq) I0.elt)
  · obtain ⟨rfl, gw, led', F5, N5, J5, hl5⟩ := hy
    refine ⟨rfl, ⟨led', F5, N5, J5⟩, ⟨gw.drawn, gw.os, gw.size, gw.old, gw.bare, fun S o how hs' hlst => ?_⟩⟩
    have h1 := hl1 S o how hs' hlst
    have hSI : S ≠ I := by
      rintro rfl
      have e : o = oI := Mine.News.fn N1 h1 hI'
      subst e
      exact itat_nolst hit hlst
    exact (N5 _ (hl5 _ (.tail _ (hmem _ h1 hSI)) hlst)).1

theorem last_ok (hh : A'.handled = none) (hlen : vs.length = n₀)
    (hE : ∀ i a b, (∀ q ∈ a, NoLst q.2 ∨ ¬ @LT.lt Nat _ C q.1 → q ∈ b) → Elt i a → Elt i b) (hEI : ∀ i a b, (∀ q ∈ a, q.1 ≠ I → q ∈ b) → (∃ o i', (I, o) ∈ a ∧ ItAt "tuple_iterator" o mt i') → (∀ y o o', (y, o) ∈ a → (y, o') ∈ a → o = o') → Elt i a → Elt i b) (hEn : ∀ a, Elt n₀ a → Elt (n₀ + 1) a) (hGI : G ≠ I) (hmI : mt ≠ I) (hrI : rc ≠ I) :
    Last prog w (OwnAt gC C) A' (Jn gC C (mC x I vs) (GInv G oG I mt rc oR vs ep Elt)) n₀ I := by
  rintro s ⟨led0, F0, N0, I0⟩
  obtain ⟨led, N1, hs1, hl1⟩ := with_lists N0
  obtain ⟨oI, hI, hit⟩ := I0.it (by omega)
  have hI' := hs1 _ hI
  obtain ⟨rest, N2, off, sub⟩ := front N1 hI'
  have hmem : ∀ q ∈ led, q.1 ≠ I → q ∈ rest := fun q hq hn => by
    rcases List.mem_cons.mp (sub q hq) with e | e
    · exact absurd (by rw [e]) hn
    · exact e
  refine next_tup_end hh F0 N2 hit off (hmem _ (hs1 _ I0.mem) hmI) (List.getElem?_eq_none (by omega)) fun h' F3 N3 => ⟨rfl, ⟨rest, ?_, N3, ?_⟩, ⟨rfl, rfl, Nat.le_refl _, fun _ _ => rfl, fun i x h e => (by rw [Array.getElem?_eq_none h] at e; cases e), fun S o how hs' hlst => ?_⟩⟩
  · have e1 : mC x I vs (n₀ + 1) = mC x I vs n₀ := by
      funext y
      show (match vs[n₀]? with | some v => _ | none => _) = _
      rw [List.getElem?_eq_none (by omega)]
    rw [e1]
    exact F3
  · exact ⟨hmem _ (hs1 _ I0.gen) hGI, fun h => absurd h (by omega), hmem _ (hs1 _ I0.mem) hmI, hmem _ (hs1 _ I0.rc) hrI, hEn _ (hEI n₀ led _ hmem ⟨oI, n₀, hI', hit⟩ (fun y o o' => Mine.News.fn N1) (hE n₀ led0 led (fun q hq _ => hs1 q hq) I0.elt))⟩
  · have h1 := hl1 S o how hs' hlst
    have hSI : S ≠ I := by
      rintro rfl
      have e : o = oI := Mine.News.fn N1 h1 hI'
      subst e
      exact itat_nolst hit hlst
    exact (N3 _ (hmem _ h1 hSI)).1
end
end Mine
end

section
-- part Gm
open PySem PySem.Spec PySem.Calls PySem.W PyProof.Rows PyProof.V
local macro_rules | `(tactic| walk_at "pad of mine") => `(tactic| fail)
local macro_rules | `(tactic| walk_at "pad of mine") => `(tactic| fail)
local macro_rules | `(tactic| walk_at "pad of mine") => `(tactic| fail)
local macro_rules | `(tactic| walk_at "pad of mine") => `(tactic| fail)
local macro_rules | `(tactic| walk_at "pad of mine") => `(tactic| fail)
local macro_rules | `(tactic| walk_at "pad of mine") => `(tactic| fail)
set_option linter.unusedVariables false
namespace Mine
/-- a code's table, in the ledger -/
def TabAt (led : Led) (P : Addr) : Prop := ∃ ps, (P, tabObj ps) ∈ led ∧ TriplesOk ps.toList
/-- what a client says of a generator's elements -/
structure EltOk (prog : Program) (w : World) (A' : Around) (gC : Heap) (C : Addr) (G : Addr) (oG : Obj) (I mt rc : Addr) (oR : Obj) (vs : List Value) (ep n₀ : Nat) (vals : Nat → Value) (Elt : Nat → Led → Prop) (cenv : Env) (elt : PySem.Expr) (x : Str) : Prop where
  turn : ∀ i led s, i < n₀ → Fr gC C s.heap (mC x I vs (i + 1)) → News gC C s.heap led → (G, oG) ∈ led → (∃ oI, (I, oI) ∈ led ∧ ItAt "tuple_iterator" oI mt (i + 1)) → (mt, tupO vs ep) ∈ led → (rc, oR) ∈ led → Elt i led →
      wpAny (model prog w) A' (eval elt cenv) (fun y s' => y = vals i ∧ GWf s s' ∧ ∃ led', Fr gC C s'.heap (mC x I vs (i + 1)) ∧ News gC C s'.heap led' ∧ GInv G oG I mt rc oR vs ep Elt (i + 1) led' ∧ ∀ q ∈ led, (∃ acc c, q.2 = lstA acc c) → q ∈ led') NoE s
section
variable {prog : Program} {w : World} {A A₀ : Around} {base g : Heap} {L c P mt rc : Addr} {M : Str → Option Value} {s : Shared} {env : Env} {outer : List Env} {K : Frag} {p : Program} {loose : List Str} {mean : ExcName → Option Value} {mg mb : Str → Option Value} {led : Led} {oR : Obj} {vs : List Value} {ep n₀ : Nat} {vals : Nat → Value} {Elt : Nat → Led → Prop} {elt iter : PySem.Expr} {x : Str} {px pos : Pos} {scope : Scope} {cl : List (Str × Addr)} {E : Value → Shared → Prop} {Q : Value → Shared → Prop}
theorem gen_make (F : Fr g L s.heap M) (N : News g L s.heap led) (B : Below A₀ base outer g) (hA : A.frames = some (env :: outer)) (hf : env.frame = some L) (hke : env.scope.kind = .function) (X : K.In g) (T : Top p loose mean mg mb g)
    (hh : A.handled = none) (hroom : A.depth < recursionLimit) (hcode : env.code = .ref c) (ht : codeHdIn K c P = true) (hP : TabAt led P) (hmt : (mt, tupO vs ep) ∈ led) (hrc : (rc, oR) ∈ led) (hPm : P ≠ mt) (hPr : P ≠ rc) (hoR : NoLst oR) (hgl : env.globals = mainGlobals)
    (hco : scope.isCoroutine = false) (hclos : closureFor scope env = pure cl) (hcell : ∀ y ∈ scope.names, y.2 ≠ .cell) (h0 : scope.names.lookup (".0" : Str) = some NameKind.local) (hx : scope.names.lookup x = some .local) (hkind : scope.kind = .function) (hfold : ∀ x, genFold iter env x = pure x)
    (hlen : vs.length = n₀) (hiter : ∀ (Q' : Value → Shared → Prop) (E' : Value → Shared → Prop), (∀ t, Q' (.ref mt) { s with toks := t }) → wpAny (model prog w) A (eval iter env) Q' E' s)
    (hE' : ∀ C : Addr, (∀ q ∈ led, @LT.lt Nat _ q.1 C) → ∀ i a b, (∀ q ∈ a, NoLst q.2 ∨ ¬ @LT.lt Nat _ C q.1 → q ∈ b) → Elt i a → Elt i b) (hE0 : ∀ a, (∀ q ∈ led, q.1 ≠ P → q ∈ a) → TabAt a P → Elt 0 a) (hEI' : ∀ I : Addr, (∀ q ∈ led, q.1 ≠ I) → ∀ i a b, (∀ q ∈ a, q.1 ≠ I → q ∈ b) → (∃ o i', (I, o) ∈ a ∧ ItAt "tuple_iterator" o mt i') → (∀ y o o', (y, o) ∈ a → (y, o') ∈ a → o = o') → Elt i a → Elt i b) (hEn : ∀ a, Elt n₀ a → Elt (n₀ + 1) a)
    (hel : ∀ gC C G oG I code, (∀ q ∈ led, @LT.lt Nat _ q.1 C) → (∀ q ∈ led, q.1 ≠ G ∧ q.1 ≠ I) → g.StaysIn gC → (∀ b o, gC.get? b = some o → g.get? b = some o ∨ b = L) → (∃ oL, gC.get? L = some oL) → Below A base (env :: outer) gC →
      EltOk prog w (A.in1.in1.in1.in1.over (loopC elt x px iter scope pos I (genEnv scope cl C code builtinsNs env)) []) gC C G oG I mt rc oR vs ep n₀ vals Elt (genEnv scope cl C code builtinsNs env) elt x)
    (h : ∀ G h' tk gs,
      (∀ (Q' : Value → Shared → Prop) (E' : Value → Shared → Prop) (t' : Tok), (∀ Tt led' s', Fr g L s'.heap M → News g L s'.heap ((Tt, { cls := .type "tuple", data := .seq (valsTo vals n₀) }) :: led') → (∀ q ∈ led', q.1 < Tt) → Elt (n₀ + 1) led' → GWf s s' → Q' (.ref Tt) s') →
        wpAny (model prog w) A (call (.type "tuple") [.ref G]) Q' E' { s with heap := h', toks := t', gens := gs }) → Fr g L h' M →
      Q (.ref G) { s with heap := h', toks := tk, gens := gs }) (hn : n₀ ≤ sizeLine) :
    wpAny (model prog w) A (eval (.GeneratorExp elt [⟨.Name x px, iter, [], 0⟩] scope pos) env) Q E s := by
  refine wpAny_GeneratorExp_make hco hclos hcell h0 hkind hroom ?_ hfold
  refine hiter _ _ fun t0 => iter_tup (s := { s with toks := t0 }) F N hmt fun I oI h1 F1 N1 lt1 hit => ⟨T.nolimit.keeps F1.keep, ?_⟩
  obtain ⟨ps, hPl, htr⟩ := hP
  have hPin : (P, tabObj ps) ∈ (I, oI) :: led := .tail _ hPl
  have hCH := codeHd_of_K (X.keeps F1.keep) ht
  have hcd := hCH.code (N1 _ hPin).1 htr
  have htb := hCH.tab (N1 _ hPin).1
  have hgx : ∀ {Q' : Value → Shared → Prop}, (∀ code h' tk ps', Heap.ExtBut P h1 h' → h'.get? P = some (tabObj ps') → TriplesOk ps'.toList → Q' code { s with heap := h', toks := tk }) →
      wpAny (model prog w) A (genexprCode env pos (env.qual ++ "<genexpr>") scope) Q' E { s with heap := h1, toks := t0 } := fun {Q'} hq => by
    cases hnf : codeAmong pos ps.toList with
    | some cv => exact wpAny_genexprCode_hit (s := { s with heap := h1, toks := t0 }) hcode hcd hnf (hq cv h1 t0 ps (Heap.ExtBut.refl _ _) (N1 _ hPin).1 htr)
    | none =>
      refine wpAny_genexprCodeX (s := { s with heap := h1, toks := t0 }) hcode hcd htb hnf fun c' h' tk e1 _ _ e2 _ e3 _ => ?_
      obtain ⟨_, _, _, _, _, _, _, _, _, op9, _, _, _, _, _, _, _, hop9, hpd9, htr9, _⟩ := e2
      exact hq _ h' tk _ e1 e3.2 htr9
  refine hgx fun code h2 tk2 ps2 hx2 hop2 htr2 => ?_
  -- the ledger behind the code's making
  have hPn := (N1 _ hPin).2
  have F2 : Fr g L h2 M := Fr.extOff F1 hx2 hPn.1 hPn.2
  generalize hop : tabObj ps2 = op2 at hop2
  have N2 : News g L h2 ((P, op2) :: ((I, oI) :: led).filter fun q => decide (q.1 ≠ P)) := fun q hq => by
    rcases List.mem_cons.mp hq with rfl | hq
    · exact ⟨hop2, hPn⟩
    · obtain ⟨a1, a2⟩ := List.mem_filter.mp hq
      exact ⟨hx2 _ _ (of_decide_eq_true a2) (N1 _ a1).1, (N1 _ a1).2⟩
  have hPI : P ≠ I := fun e => by
    have := lt1 _ hPl
    exact absurd e (Nat.ne_of_lt this)
  have hIin : (I, oI) ∈ (P, op2) :: ((I, oI) :: led).filter fun q => decide (q.1 ≠ P) := .tail _ (List.mem_filter.mpr ⟨.head _, decide_eq_true fun e => hPI e.symm⟩)
  have hled : ∀ q ∈ led, q.1 ≠ P → q ∈ (P, op2) :: ((I, oI) :: led).filter fun q => decide (q.1 ≠ P) := fun q hq hn => .tail _ (List.mem_filter.mpr ⟨.tail _ hq, decide_eq_true hn⟩)
  obtain ⟨bm, ob, BM⟩ := bmod_of_top T
  have BM2 : BMod h2 mainGlobals mg bm ob := ⟨BM.ns.keeps F2.keep, BM.name, BM.ne, F2.keep _ _ BM.obj, BM.cls, BM.dict, BM.data⟩
  rw [hgl]
  refine wpAny_builtinsFor BM2.ns BM2.name BM2.ne BM2.obj BM2.cls BM2.dict BM2.data ?_
  intro h3 hn3 hs3
  generalize hC : h2.objs.size = C at hn3 hs3 ⊢
  obtain ⟨gC, hst, hsz, hgsub, hgor, hgL, BC⟩ := gen_ground (A₁ := A) B hA hf hke F2
  obtain ⟨oL, _, _, hoL, _⟩ := F2.ns
  have up3 : ∀ b o, h2.get? b = some o → h3.get? b = some o := fun b o e => hs3.extBut b o (by rw [← hC]; exact Nat.ne_of_lt (Heap.lt_size e)) (Heap.get?_push_of_some _ e)
  have hCsz : h3.objs.size = C + 1 := by rw [hs3.1, Heap.size_push, hC]
  generalize hG : h3.objs.size = G
  generalize hoG : ({ cls := Value.type "generator", data := Data.fields #[Value.int (↑s.gens.size) 0, Value.str (Str.ofString "<genexpr>") (tk2 + 1), Value.str (env.qual ++ Str.ofString "<genexpr>") (tk2 + 1 + 1)] } : Obj) = oG
  have hgn : ∀ b, g.get? b = none → b ≠ L → gC.get? b = none := fun b e hne => by
    cases q : gC.get? b with
    | none => rfl
    | some o =>
      rcases hgor b o q with z | z
      · rw [e] at z; cases z
      · exact absurd z hne
  have hIC : I < C := by rw [← hC]; exact Heap.lt_size (N2 _ hIin).1
  have hGC : C < G := by rw [← hG, hCsz]; exact Nat.lt_succ_self _
  have F5 : Fr gC C (h3.push oG) (mC x I vs 0) := ⟨hn3.push _, fun b o e => Heap.get?_push_of_some _ (up3 _ _ (hgsub b o e)), by rw [hsz, hC]; exact Nat.le_refl _⟩
  have N5 : News gC C (h3.push oG) ((G, oG) :: (P, op2) :: ((I, oI) :: led).filter fun q => decide (q.1 ≠ P)) := fun q hq => by
    rcases List.mem_cons.mp hq with rfl | hq
    · refine ⟨?_, Nat.ne_of_gt hGC, ?_⟩
      · show (h3.push oG).get? G = some oG
        rw [← hG]
        exact Heap.get?_push_size _ (by rw [← hoG]; rfl)
      · cases q : gC.get? G with
        | none => rfl
        | some o =>
          have h1 : G < gC.objs.size := Heap.lt_size q
          rw [hsz, hC] at h1
          exact absurd (Nat.lt_trans h1 hGC) (Nat.lt_irrefl _)
    · obtain ⟨a1, a2, a3⟩ := N2 q hq
      refine ⟨Heap.get?_push_of_some _ (up3 _ _ a1), ?_, hgn _ a3 a2⟩
      have := Heap.lt_size a1
      rw [hC] at this
      exact Nat.ne_of_lt this
  have hledC : ∀ q ∈ led, @LT.lt Nat _ q.1 C := fun q hq => by rw [← hC]; exact Nat.lt_of_lt_of_le (Nat.lt_trans (lt1 q hq) (by rw [← hC] at hIC; exact hIC)) (Nat.le_refl _)
  have hE := hE' C hledC
  have hEI := hEI' I (fun q hq => Nat.ne_of_lt (lt1 q hq))
  have hcG : oG.cls = .type "generator" := by rw [← hoG]
  have hdG : oG.data = .fields #[.int (s.gens.size : Int) 0, .str (Str.ofString "<genexpr>") (tk2 + 1), .str (env.qual ++ Str.ofString "<genexpr>") (tk2 + 1 + 1)] := by rw [← hoG]
  have hsG : oG.slots = #[] := by rw [← hoG]
  have hXC : K.In gC := X.keeps hst
  have ok := jn_ok (g := gC) (L := C) (M := mC x I vs) (ginv_ok (I := I) (mt := mt) (rc := rc) (vs := vs) (ep := ep) (G := G) hcG hdG hsG hoR hE) (T.nolimit.keeps hst)
  have hIm : mt ≠ I := Nat.ne_of_lt (lt1 _ hmt)
  have hIr : rc ≠ I := Nat.ne_of_lt (lt1 _ hrc)
  have hGI : G ≠ I := Nat.ne_of_gt (Nat.lt_trans hIC hGC)
  have hin5 : ∀ q ∈ led, q.1 ≠ P → q ∈ ((G, oG) :: (P, op2) :: ((I, oI) :: led).filter fun q => decide (q.1 ≠ P)) := fun q hq hn => .tail _ (hled q hq hn)
  have J0 : Jn gC C (mC x I vs) (GInv G oG I mt rc oR vs ep Elt) 0 { s with heap := h3.push oG } :=
    ⟨_, F5, N5, ⟨.head _, fun _ => ⟨oI, .tail _ hIin, hit⟩, hin5 _ hmt (fun e => hPm e.symm), hin5 _ hrc (fun e => hPr e.symm), hE0 _ hin5 ⟨ps2, by rw [hop]; exact .tail _ (.head _), htr2⟩⟩⟩
  have tn := (hel gC C G oG I code hledC (fun q hq => ⟨Nat.ne_of_lt (Nat.lt_trans (hledC q hq) hGC), Nat.ne_of_lt (lt1 q hq)⟩) hst hgor ⟨oL, hgL _ hoL⟩ ⟨BC.stack, BC.stays, BC.frames⟩).turn
  have turn := turn_ok (prog := prog) (w := w) (cenv := genEnv scope cl C code builtinsNs env) (A' := A.in1.in1.in1.in1.over (loopC elt x px iter scope pos I (genEnv scope cl C code builtinsNs env)) []) (px := px) hh hlen rfl hx (by simp [genEnv, hkind]) hE hEI hGI hIm hIr tn
  have last := last_ok (prog := prog) (w := w) (gC := gC) (C := C) (x := x) (oG := oG) (oR := oR) (ep := ep) (A' := A.in1.in1.in1.in1.over (loopC elt x px iter scope pos I (genEnv scope cl C code builtinsNs env)) []) hh hlen hE hEI hEn hGI hIm hIr
  have hself : ∀ (A' : Around) (s : Shared) (Q : Value → Shared → Prop) (E : Value → Shared → Prop), Jn gC C (mC x I vs) (GInv G oG I mt rc oR vs ep Elt) 0 s → Q (.ref I) s → wpAny (model prog w) A' (pyIter (.ref I)) Q E s := by
    rintro A' s1 Q1 E1 ⟨l1, F1', N1', I1'⟩ hq
    obtain ⟨o1, h1, h2⟩ := I1'.it (Nat.zero_le _)
    exact wpAny_pyIter_tupleiter ⟨o1, (N1' _ h1).1, h2.cls, h2.dat⟩ hq
  have FL : Fr g L (h3.push oG) M := ⟨F2.ns.keeps (fun b o e => Heap.get?_push_of_some _ (up3 _ _ e)), fun b o e => Heap.get?_push_of_some _ (up3 _ _ (F2.keep b o e)), F2.above⟩
  have hCL : C ≠ L := by
    intro e
    have := Heap.lt_size hoL
    rw [hC, e] at this
    exact Nat.lt_irrefl _ this
  refine h G (h3.push oG) _ _ (fun Q' E' t' hQ' => ?_) FL
  have hgsz : (s.gens.push (.fresh (startC elt x px iter scope pos I (genEnv scope cl C code builtinsNs env)))).size = s.gens.size + 1 := Array.size_push ..
  refine tuple_J (g := s.gens.size) (n₀ := n₀) (vals := vals) ok hh hroom hn J0 ⟨.fresh (startC elt x px iter scope pos I (genEnv scope cl C code builtinsNs env)), Array.getElem?_push_size .., fun s'' hj => ⟨rfl, by rw [Nat.sub_zero]; exact seg_startJ turn last hco hself s'' hj⟩⟩ (by show s.gens.size < (s.gens.push _).size; rw [Array.size_push]; exact Nat.lt_succ_self _) fun s' hj' hd => ?_
  obtain ⟨led', F6, N6, I6⟩ := hj'
  obtain ⟨F7, oC, hoC, N7⟩ := gen_back hst hgor (fun o e => hgL o e) (by rw [hsz, hC]; exact Nat.le_refl _) hCL F2 F6 N6
  refine hQ' _ ((C, oC) :: led') _ (F7.push _) (N7.push F7 _) (fun q hq => Heap.lt_size (N7 q hq).1) (hE _ led' _ (fun q hq _ => .tail _ hq) I6.elt) ⟨hd.drawn, hd.os, ?_, fun i hi => ?_, fun i z hi e => ?_⟩
  · have h1 : (s.gens.push (.fresh (startC elt x px iter scope pos I (genEnv scope cl C code builtinsNs env)))).size ≤ s'.gens.size := hd.size
    rw [hgsz] at h1
    exact Nat.le_of_succ_le h1
  · show s'.gens[i]? = s.gens[i]?
    rw [hd.old i (by show i < (s.gens.push _).size; rw [Array.size_push]; exact Nat.lt_succ_of_lt hi) (Nat.ne_of_lt hi)]
    show (s.gens.push _)[i]? = _
    rw [Array.getElem?_push_lt hi, Array.getElem?_eq_getElem hi]
  · refine hd.bare i z ?_ e
    by_cases q : i = s.gens.size
    · exact .inr q
    · left
      show (s.gens.push _).size ≤ i
      rw [Array.size_push]
      exact Nat.lt_of_le_of_ne hi (fun e => q e.symm)
end
end Mine
end

section
-- part Wk
open PySem PySem.Spec PySem.Calls PySem.W PyProof.Rows PyProof.V
local macro_rules | `(tactic| walk_at "pad of mine") => `(tactic| fail)
local macro_rules | `(tactic| walk_at "pad of mine") => `(tactic| fail)
local macro_rules | `(tactic| walk_at "pad of mine") => `(tactic| fail)
local macro_rules | `(tactic| walk_at "pad of mine") => `(tactic| fail)
local macro_rules | `(tactic| walk_at "pad of mine") => `(tactic| fail)
local macro_rules | `(tactic| walk_at "pad of mine") => `(tactic| fail)
local macro_rules | `(tactic| walk_at "pad of mine") => `(tactic| fail)
namespace Mine
theorem wpAny_weak {M : Model} {A A' : Around} {α : Type} {t : Sem α} {Q : α → Shared → Prop} {E : Value → Shared → Prop} {s : Shared} (h : wpAny M A' t Q E s) (hh : A'.handled = A.handled) (hd : A.depth ≤ A'.depth) (hf : A'.frames = none) (hg : A'.guards = none) (hu : A.units ≤ A'.units) : wpAny M A t Q E s :=
  fun Γ p hΓ => h Γ p ⟨hΓ.1.trans hh.symm, Nat.le_trans hΓ.2.1 hd, fun l hl => (by rw [hf] at hl; cases hl), fun g hg' => (by rw [hg] at hg'; cases hg'), Nat.le_trans hΓ.2.2.2.2 hu⟩
end Mine
end

section
-- part RsA
open PySem PySem.Spec PySem.Calls PySem.W PyProof.Rows
local macro_rules | `(tactic| walk_at "pad of mine") => `(tactic| fail)
local macro_rules | `(tactic| walk_at "pad of mine") => `(tactic| fail)
local macro_rules | `(tactic| walk_at "pad of mine") => `(tactic| fail)
local macro_rules | `(tactic| walk_at "pad of mine") => `(tactic| fail)
local macro_rules | `(tactic| walk_at "pad of mine") => `(tactic| fail)
local macro_rules | `(tactic| walk_at "pad of mine") => `(tactic| fail)
local macro_rules | `(tactic| walk_at "pad of mine") => `(tactic| fail)
local macro_rules | `(tactic| k_room) => `(tactic| ktr_room)
local macro_rules | `(tactic| k_all) => `(tactic| exact allNe_of' (by assumption) (by omega))
local macro_rules | `(tactic| k_all) => `(tactic| ((with_reducible rename AllLt _ _ => hAllLt); exact allNe_of hAllLt (by omega)))
local macro_rules | `(tactic| k_all) => `(tactic| assumption)
local macro_rules | `(tactic| k_mem) => `(tactic| first | exact List.Mem.head _ | (refine' List.mem_cons_of_mem _ ?_; k_mem))
local macro_rules | `(tactic| walk_at "call builtin:dict.get") => `(tactic| (k_here; k_dflt (first | refine kdg_get2 (knd := PySem.strKind _ _) (by k_asm) (by k_mem) (by assumption) (by assumption) (strKind_is _ _ _ _) (some _) (by rfl) ?_ | refine kdg_get2 (knd := PySem.strKind _ _) (by k_asm) (by k_mem) (by assumption) (by assumption) (strKind_is _ _ _ _) none (by rfl) ?_); (try dsimp only [Option.getD])))
namespace Mine
/-- the two namespaces of the ground that a run by x_run reads -/
def Bt (w : World) (h : Heap) : Prop := h.get? (nat_lit 0) = some (obj0 w.params) ∧ h.get? (nat_lit 1) = some (obj1 w.params)
theorem Bt.keeps {w : World} {h h' : Heap} (x : Bt w h) (k : ∀ b o, h.get? b = some o → h'.get? b = some o) : Bt w h' := ⟨k _ _ x.1, k _ _ x.2⟩
/-- a call's contract, from any frame -/
def SpecA (w : World) (mean : ExcName → Option Value) (mg mb : Str → Option Value) (f : Addr) (args : List Value) (dd uu : Nat) (Pre : Led → Prop) (Post : Led → Value → Led → Prop) : Prop :=
  ∀ (dp un : Nat) (gd : Option (List Code)) (env : Env) (outer : List Env) (A₀ : Around) (base h₀ : Heap) (L : Addr) (m : Str → Option Value) (news : Led) (s : Shared) (Q E : Value → Shared → Prop),
    env.frame = some L → env.scope.kind = .function → Below A₀ base outer h₀ → Fr h₀ L s.heap m → (hd.heap_39 w.params).In h₀ → News h₀ L s.heap news → Top topProg TLOOSE mean mg mb h₀ → Bt w h₀ → Pre news → dp + dd < recursionLimit → un + uu < cLine →
    (∀ r news' s', Fr h₀ L s'.heap m → News h₀ L s'.heap news' → Post news r news' → GWf s s' → Q r s') →
    wpAny (model PW w) { handled := none, depth := dp, frames := some (env :: outer), guards := gd, units := un } (call (.ref f) args) Q E s
theorem lit_res {w : World} {mean : ExcName → Option Value} {mg mb : Str → Option Value} {e rm : Value} :
    SpecA w mean mg mb 274 [e, rm] 5 30 (fun _ => True) (fun news r news' => r = e ∧ news' = news) := by
  intro dp un gd env outer A₀ base h₀ L m news s Q E hf hk B F X N T hbt hPre hdd huu hret
  w_top off; w_on
  refine wpAny_call ?_
  w_strict (k_dflt (refine' code_def ?k1 ?k2 ?k3 ?k4 ?k5 ?kA ?kF ?kK ?k6 ?k7 ?k8 ?k9 ?kB ?_ ?c2 ?c3 ?c4 ?c5; (case kA => exact rfl); (case kF => assumption); (case kK => assumption); (case k1 => k_asm); (case k2 => k_asm); (case k3 => k_asm); (case k4 => k_asm); (case k5 => k_asm); (case k6 => k_is); (case k7 => k_is); (case k8 => ktr_room); (case k9 => exact BindsTo.of_eq rfl); (case c5 => decide); (case kB => exact locs rfl); (case c2 => exact rfl); (case c3 => exact rfl); (case c4 => exact rfl)); intro g1 L1 h1 FG1 F1 N1 B1 X1 T1; (try dsimp only); (try k_fold))
  w_strict (repeat' (first | (k_unfold; (try dsimp only)) | (k_end; wrow_close) | walk1 | (dsimp only; walk1) | (leave1; walk_say "STEP leave1"; try dsimp only) | fail "no step"))
  with_reducible rename News _ _ _ _ => NZ
  with_reducible rename Fr _ _ _ _ => FZ
  exact hret _ _ _ FZ NZ ⟨rfl, rfl⟩ (GWf.heap _ _ _)

theorem lazy_res {w : World} {mean : ExcName → Option Value} {mg mb : Str → Option Value} {b : Bool} {l d rm u du : Addr} {tl tr : Tok} {rep : Nat} {slu : Array (Option Value)} :
    SpecA w mean mg mb 515 [.ref l, .ref rm] 500 4900 (fun news => (l, ({ cls := .ref 525, dict := some d, data := .prim (.str (Str.ofString (if b then "u" else "l")) tl) } : Obj)) ∈ news ∧ (d, dictOf [] 0) ∈ news ∧ (rm, dictOf [⟨PyData.keyHash w.params (Str.ofString (if b then "u" else "l")), .str (Str.ofString (if b then "u" else "l")) tr, .ref u⟩] rep) ∈ news ∧ (u, ({ cls := .ref 425, dict := some du, data := .plain, slots := slu } : Obj)) ∈ news)
      (fun news r news' => r = .ref u ∧ ∀ q ∈ news, q ∈ news') := by
  intro dp un gd env outer A₀ base h₀ L m news s Q E hf hk B F X N T hbt hPre hdd huu hret
  obtain ⟨h1, h2, h3, h4⟩ := hPre
  have hX := X.keeps F.keep
  have hb := hbt.keeps F.keep
  have hQ : EndQ (fun v nw => v = .ref u) s.heap s.gens s.drawn s.os Q := fun v h' tk nw D hv => hret v (nw ++ news) ⟨h', s.gens, s.drawn, tk, s.os⟩ (mem_fr D F) (mem_news D F N) ⟨hv, fun q hq => List.mem_append_right _ hq⟩ (GWf.heap s h' tk)
  have e1 : recursionLimit = 1000 := rfl
  have e2 : cLine = 9900 := rfl
  rw [e1] at hdd
  rw [e2] at huu
  cases b
  · exact wpAny_weak (lz_l hX hb.1 hb.2 (N _ h1).1 (N _ h2).1 (N _ h3).1 (N _ h4).1 hQ) rfl (by show dp ≤ 500; omega) rfl rfl (by show un ≤ 5000; omega)
  · exact wpAny_weak (lz_u hX hb.1 hb.2 (N _ h1).1 (N _ h2).1 (N _ h3).1 (N _ h4).1 hQ) rfl (by show dp ≤ 500; omega) rfl rfl (by show un ≤ 5000; omega)
end Mine
end

section
-- part Rs2
open PySem PySem.Spec PySem.Calls PySem.W PyProof.Rows
local macro_rules | `(tactic| k_room) => `(tactic| ktr_room)
local macro_rules | `(tactic| k_all) => `(tactic| exact allNe_of' (by assumption) (by omega))
local macro_rules | `(tactic| k_all) => `(tactic| ((with_reducible rename AllLt _ _ => hAllLt); exact allNe_of hAllLt (by omega)))
local macro_rules | `(tactic| k_all) => `(tactic| assumption)
local macro_rules | `(tactic| k_mem) => `(tactic| first | exact List.Mem.head _ | (refine' List.mem_cons_of_mem _ ?_; k_mem))
local macro_rules | `(tactic| walk_at "call builtin:dict.get") => `(tactic| (k_here; k_dflt (first | refine kdg_get2 (knd := PySem.strKind _ _) (by k_asm) (by k_mem) (by assumption) (by assumption) (strKind_is _ _ _ _) (some _) (by rfl) ?_ | refine kdg_get2 (knd := PySem.strKind _ _) (by k_asm) (by k_mem) (by assumption) (by assumption) (strKind_is _ _ _ _) none (by rfl) ?_); (try dsimp only [Option.getD])))
namespace Mine
/-- the generator's element: a method called with the cell's content -/
theorem elt_call {w : World} {A : Around} {gC : Heap} {C : Addr} {mc : Str → Option Value} {s : Shared} {led : Led} {cenv : Env} {rc rm f : Addr} {e : Addr} {oR : Obj} {p1 p3 p4 : Pos} {pl : Sem Bool} {Q E : Value → Shared → Prop}
    (F : Fr gC C s.heap mc) (X : (hd.heap_39 w.params).In gC) (N : News gC C s.heap led) (hloc : cenv.locals = C) (hm : mc (Str.ofString "m") = some (.ref e)) (hrc : (rc, oR) ∈ led) (hoR : oR.data = .cell (some (.ref rm)))
    (hk : cenv.scope.kind = .function) (hx : cenv.kindOf (Str.ofString "m") = some .local) (hy : cenv.kindOf (Str.ofString "rule_map") = some .free) (hc : cenv.cells.lookup (Str.ofString "rule_map") = some rc)
    (hmeth : ∀ (pl : Sem Bool) (Q' : Value × List Value → Shared → Prop), Q' (.ref f, [.ref e]) s → wpAny (model PW w) A (getMethod (.ref e) (Str.ofString "resolve_refs") pl) Q' E s)
    (hkeep : keepIn (hd.heap_39 w.params) (.ref f) = true)
    (h : wpAny (model PW w) A (call (.ref f) [.ref e, .ref rm]) Q E s) :
    wpAny (model PW w) A (eval (.Name (Str.ofString "m") p1) cenv) (fun ov s₁ => wpAny (model PW w) A (getMethod ov (Str.ofString "resolve_refs") pl) (fun fx s₂ => wpAny (model PW w) A (callWith p4 fx.1 fx.2 (backTo p4 (starEach [.Name (Str.ofString "rule_map") p3] cenv)) []) Q E s₂) E s₁) E s := by
  subst hloc
  refine wpAny_Name (wpAny_loadName_local hk hx F.ns hm ?_) (by decide)
  refine hmeth _ _ ?_
  refine callWith_K X hkeep ?_
  show wpAny _ _ (spliced [(false, eval (.Name (Str.ofString "rule_map") _) cenv)]) _ _ _
  refine Calls.spliced_cons (wpAny_Name (wpAny_loadName_free hk hy hc ⟨oR, (N _ hrc).1, hoR⟩ ?_ (by decide)) (by decide))
  refine Calls.spliced_nil ⟨X.keeps F.keep, ?_⟩
  exact h
end Mine
end

section
-- part Rs3
open PySem PySem.Spec PySem.Calls PySem.W PyProof.Rows
local macro_rules | `(tactic| walk_at "pad of mine") => `(tactic| fail)
local macro_rules | `(tactic| k_room) => `(tactic| ktr_room)
local macro_rules | `(tactic| k_all) => `(tactic| exact allNe_of' (by assumption) (by omega))
local macro_rules | `(tactic| k_all) => `(tactic| ((with_reducible rename AllLt _ _ => hAllLt); exact allNe_of hAllLt (by omega)))
local macro_rules | `(tactic| k_all) => `(tactic| assumption)
local macro_rules | `(tactic| k_mem) => `(tactic| first | exact List.Mem.head _ | (refine' List.mem_cons_of_mem _ ?_; k_mem))
local macro_rules | `(tactic| walk_at "call builtin:dict.get") => `(tactic| (k_here; k_dflt (first | refine kdg_get2 (knd := PySem.strKind _ _) (by k_asm) (by k_mem) (by assumption) (by assumption) (strKind_is _ _ _ _) (some _) (by rfl) ?_ | refine kdg_get2 (knd := PySem.strKind _ _) (by k_asm) (by k_mem) (by assumption) (by assumption) (strKind_is _ _ _ _) none (by rfl) ?_); (try dsimp only [Option.getD])))
namespace Mine
theorem TabAt.ex {a : Led} {P : Addr} (h : TabAt a P) : ∃ op ps, (P, op) ∈ a ∧ op.data = .fields ps ∧ TriplesOk ps.toList := let ⟨ps, x1, x3⟩ := h; ⟨_, ps, x1, rfl, x3⟩
theorem TabAt.sub {a b : Led} {P : Addr} (k : ∀ q ∈ a, q ∈ b) (h : TabAt a P) : TabAt b P := let ⟨ps, x1, x3⟩ := h; ⟨ps, k _ x1, x3⟩
theorem tab_nolst {ps : Array Value} : NoLst (tabObj ps) := by rintro ⟨acc, c, h⟩; cases congrArg Obj.cls h
theorem quant_res {w : World} {mean : ExcName → Option Value} {mg mb : Str → Option Value} {b : Bool} {x d mt l dl rm u du : Addr} {tl tr : Tok} {rep : Nat} {slu : Array (Option Value)} {fl mn k nm : Option Value} :
    SpecA w mean mg mb 394 [.ref x, .ref rm] 520 5000
      (fun news => (x, ({ cls := .ref 489, dict := some d, data := .plain, slots := #[fl, mn, some (.ref mt), k, nm] } : Obj)) ∈ news ∧ (d, dictOf [] 0) ∈ news ∧ (mt, tupO [.ref l] 0) ∈ news ∧ TabAt news 389 ∧
        (l, ({ cls := .ref 525, dict := some dl, data := .prim (.str (Str.ofString (if b then "u" else "l")) tl) } : Obj)) ∈ news ∧ (dl, dictOf [] 0) ∈ news ∧ (rm, dictOf [⟨PyData.keyHash w.params (Str.ofString (if b then "u" else "l")), .str (Str.ofString (if b then "u" else "l")) tr, .ref u⟩] rep) ∈ news ∧ (u, ({ cls := .ref 425, dict := some du, data := .plain, slots := slu } : Obj)) ∈ news)
      (fun news r news' => r = .ref x ∧ ∃ t, (x, ({ cls := .ref 489, dict := some d, data := .plain, slots := #[fl, mn, some (.ref t), k, nm] } : Obj)) ∈ news' ∧ (t, tupO [.ref u] 0) ∈ news' ∧ TabAt news' 389 ∧ ∀ q ∈ news, q.1 ≠ x → q.1 ≠ 389 → q ∈ news') := by
  intro dp un gd env outer A₀ base h₀ L m news s Q E hf hk B F X N T hbt hPre hdd huu hret
  obtain ⟨p1, p2, p3, p4, p5, p6, p7, p8⟩ := hPre
  w_top off; w_on
  refine wpAny_call ?_
  w_strict (k_dflt (refine' code_defC ?k1 ?k2 ?k3 ?k4 ?k5 ?kA ?kF ?kK ?k6 ?k7 ?k8 ?k9 ?kB ?kD ?_ ?c2 ?c3 ?c4; (case kA => exact rfl); (case kF => assumption); (case kK => assumption); (case k1 => k_asm); (case k2 => k_asm); (case k3 => k_asm); (case k4 => k_asm); (case k5 => k_asm); (case k6 => k_is); (case k7 => k_is); (case k8 => ktr_room); (case k9 => exact BindsTo.of_eq rfl); (case kB => exact rfl); (case kD => decide +kernel); (case c2 => exact rfl); (case c3 => exact rfl); (case c4 => exact rfl)); intro g1 L1 h1 tk1 cells1 FG1 F1 N1 Y1 B1 X1 T1 l1; obtain ⟨o', hE9, dR⟩ := CellsAre.one Y1; subst hE9; (try simp only [List.cons_append, List.nil_append] at N1); (try dsimp only); (try k_fold))
  w_strict (iterate 6 (first | (k_unfold; (try dsimp only)) | (k_end; wrow_close) | walk1 | (dsimp only; walk1) | (leave1; walk_say "STEP leave1"; try dsimp only) | fail "no step"))
  with_reducible rename Fr _ _ _ _ => F2
  have hRn : NoLst o' := by rintro ⟨acc, c, z⟩; rw [z] at dR; cases dR
  have n389 : ∀ a o, (a, o) ∈ news → (∀ fs, o.data ≠ .fields fs) → a ≠ 389 := by
    intro a o ha hd he
    obtain ⟨op, ps, h9, h8, -⟩ := TabAt.ex p4
    rw [he] at ha
    rw [Mine.News.fn N h9 ha] at h8
    exact hd _ h8
  refine gen_make (K := hd.heap_39 w.params) (c := 393) (P := 389) (mt := mt) (rc := L1 + 1) (oR := o') (vs := [.ref l]) (ep := 0) (n₀ := 1) (vals := fun _ => .ref u) (Elt := fun i a => (∀ q ∈ (L1 + 1, o') :: news, q.1 ≠ 389 → q ∈ a) ∧ TabAt a 389) F2 N1 B1 rfl rfl rfl X1 T1 rfl ?room rfl (by kernel_rfl) ?tab ?mt (.head _) ?pm ?pr hRn rfl rfl rfl (by decide) rfl rfl rfl (fun _ => rfl) rfl ?iter ?e1 ?e2 ?e3 ?e4 ?el ?h ?n
  case room => ktr_room
  case tab => exact TabAt.sub (fun q hq => .tail _ hq) p4
  case mt => exact .tail _ p3
  case pm =>
    obtain ⟨op, ps, h9, h8, -⟩ := TabAt.ex p4
    rintro rfl
    have := Mine.News.fn N h9 p3
    subst this
    cases h8
  case pr =>
    obtain ⟨op, ps, h9, h8, -⟩ := TabAt.ex p4
    have := l1 _ h9
    exact Nat.ne_of_lt (Nat.lt_succ_of_lt this)
  case e1 => exact fun C hC i a b k ⟨h1, h2⟩ => ⟨fun q hq hn => k q (h1 q hq hn) (.inr (Nat.lt_asymm (hC q hq))), let ⟨ps, x1, x3⟩ := h2; ⟨ps, k _ x1 (.inl tab_nolst), x3⟩⟩
  case e2 => exact fun a h1 h2 => ⟨h1, h2⟩
  case e3 =>
    exact fun I hI i a b k _ _ ⟨h1, h2⟩ => ⟨fun q hq hn => k q (h1 q hq hn) (hI q hq), let ⟨ps, x1, x3⟩ := h2; ⟨ps, k _ x1 (by obtain ⟨op', _, h9, -⟩ := TabAt.ex p4; exact hI (389, op') (.tail _ h9)), x3⟩⟩
  case e4 => exact fun a h => h
  case n => exact Nat.le_of_ble_eq_true rfl
  case iter =>
    intro Q' E' hq
    w_strict (iterate 3 (first | (k_unfold; (try dsimp only)) | (k_end; wrow_close) | walk1 | (dsimp only; walk1) | (leave1; walk_say "STEP leave1"; try dsimp only) | fail "no step"))
    exact hq _
  case el =>
    intro gC C G oG I code hC hGne hst hor hL BC
    refine ⟨fun i led s' hi F' N' hG hI hm2 hrc hE => ?_⟩
    obtain rfl : i = 0 := by omega
    have X9 := X1.keeps hst
    have T9 := T1.keeps hst
    have q5 := hE.1 _ (.tail _ p5) (n389 _ _ p5 (fun _ => nofun))
    have q6 := hE.1 _ (.tail _ p6) (n389 _ _ p6 (fun _ => nofun))
    have q7 := hE.1 _ (.tail _ p7) (n389 _ _ p7 (fun _ => nofun))
    have q8 := hE.1 _ (.tail _ p8) (n389 _ _ p8 (fun _ => nofun))
    refine MethodCall_ (elt_call (f := 515) (rc := L1 + 1) (rm := rm) (e := l) F' X9 N' rfl rfl hrc dR rfl rfl rfl rfl (fun pl Q' hq => method_inst F' X9 ⟨N'.get q5, rfl, rfl, N'.get q6⟩ (by k_is) (by k_is) (by k_is) rfl hq) (by k_is) ?_)
    have lz := lazy_res (w := w) (mean := mean) (mg := mg) (mb := mb) (b := b) (l := l) (d := dl) (rm := rm) (u := u) (du := du) (tl := tl) (tr := tr) (rep := rep) (slu := slu)
    refine lz _ _ _ _ _ _ base gC C _ led s' _ _ rfl rfl BC F' X9 N' T9 ((hbt.keeps FG1.keep).keeps hst) ⟨q5, q6, q7, q8⟩ ?room2 ?units2 ?ret2
    case room2 => show dp + 1 + 0 + 1 + 500 < recursionLimit; omega
    case ret2 =>
      rintro r led2 s2 F2 N2 ⟨rfl, hsub⟩ gw
      exact ⟨rfl, gw, led2, F2, N2, ⟨hsub _ hG, fun _ => let ⟨oI, y1, y2⟩ := hI; ⟨oI, hsub _ y1, y2⟩, hsub _ hm2, hsub _ hrc, ⟨fun q hq hn => hsub _ (hE.1 q hq hn), hE.2.sub hsub⟩⟩, fun q hq _ => hsub q hq⟩
    case units2 => first | (show un + 5 + 4900 < cLine; omega) | (show un + 6 + 4900 < cLine; omega) | (show un + 7 + 4900 < cLine; omega) | (show un + 8 + 4900 < cLine; omega) | (show un + 9 + 4900 < cLine; omega) | (show un + 10 + 4900 < cLine; omega) | (show un + 11 + 4900 < cLine; omega) | (show un + 12 + 4900 < cLine; omega) | (show un + 13 + 4900 < cLine; omega) | (show un + 14 + 4900 < cLine; omega) | (show un + 15 + 4900 < cLine; omega) | (show un + 16 + 4900 < cLine; omega) | (show un + 18 + 4900 < cLine; omega) | (show un + 20 + 4900 < cLine; omega)
  case h =>
    intro G h' tk gs hcall FL
    clear F2 N1
    w_strict (repeat' (first | (k_unfold; (try dsimp only)) | (k_end; wrow_close) | walk1 | (dsimp only; walk1) | (leave1; walk_say "STEP leave1"; try dsimp only) | fail "no step"))
    refine hcall _ _ _ ?_
    rintro Tt led2 s2 F7 N7 ltT ⟨hE1, hE2⟩ gw
    have q1 := hE1 _ (.tail _ p1) (n389 _ _ p1 (fun _ => nofun))
    have q2 := hE1 _ (.tail _ p2) (n389 _ _ p2 (fun _ => nofun))
    have hfn := fun a o o' (h1 : (a, o) ∈ (_ : Led)) h2 => Mine.News.fn N7 (a := a) (o := o) (o' := o') h1 h2
    obtain ⟨rest, N8, off, sub⟩ := front N7 (.tail _ q1)
    have hdx : d ≠ x := by
      rintro rfl
      have := hfn _ _ _ (.tail _ q1) (.tail _ q2)
      cases this
    have q3 : (d, dictOf [] 0) ∈ rest := by
      rcases List.mem_cons.mp (sub _ (.tail _ q2)) with e | e
      · exact absurd (congrArg Prod.fst e) hdx
      · exact e
    clear N7 FL hcall
    w_strict (repeat' (first | (k_unfold; (try dsimp only)) | (k_end; wrow_close) | walk1 | (dsimp only; walk1) | (leave1; walk_say "STEP leave1"; try dsimp only) | fail "no step"))
    with_reducible rename News _ _ _ _ => NZ
    with_reducible rename Fr _ _ _ _ => FZ
    have hTx : Tt ≠ x := by
      intro e
      have := ltT _ q1
      exact Nat.ne_of_gt this e
    have hin : ∀ q ∈ led2, q.1 ≠ x → q ∈ rest := fun q hq hn => by
      rcases List.mem_cons.mp (sub _ (.tail _ hq)) with e | e
      · exact absurd (congrArg Prod.fst e) hn
      · exact e
    have hT : (Tt, tupO [.ref u] 0) ∈ rest := by
      rcases List.mem_cons.mp (sub _ (.head _)) with e | e
      · exact absurd (congrArg Prod.fst e) hTx
      · exact e
    refine hret _ _ _ FZ NZ ⟨rfl, Tt, .head _, .tail _ hT, ?_, fun q hq h1 h2 => .tail _ (hin _ (hE1 _ (.tail _ hq) h2) h1)⟩ ⟨gw.drawn, gw.os, gw.size, gw.old, gw.bare⟩
    obtain ⟨ps, y1, y3⟩ := hE2
    refine ⟨ps, .tail _ (hin _ y1 fun e => ?_), y3⟩
    exact n389 _ _ p1 (fun _ => nofun) e.symm
end Mine
end

section
-- part Rs4
open PySem PySem.Spec PySem.Calls PySem.W PyProof.Rows
local macro_rules | `(tactic| k_room) => `(tactic| ktr_room)
local macro_rules | `(tactic| k_all) => `(tactic| exact allNe_of' (by assumption) (by omega))
local macro_rules | `(tactic| k_all) => `(tactic| ((with_reducible rename AllLt _ _ => hAllLt); exact allNe_of hAllLt (by omega)))
local macro_rules | `(tactic| k_all) => `(tactic| assumption)
local macro_rules | `(tactic| k_mem) => `(tactic| first | exact List.Mem.head _ | (refine' List.mem_cons_of_mem _ ?_; k_mem))
local macro_rules | `(tactic| walk_at "call builtin:dict.get") => `(tactic| (k_here; k_dflt (first | refine kdg_get2 (knd := PySem.strKind _ _) (by k_asm) (by k_mem) (by assumption) (by assumption) (strKind_is _ _ _ _) (some _) (by rfl) ?_ | refine kdg_get2 (knd := PySem.strKind _ _) (by k_asm) (by k_mem) (by assumption) (by assumption) (strKind_is _ _ _ _) none (by rfl) ?_); (try dsimp only [Option.getD])))
namespace Mine
/-- what stays true while a rule's references are resolved -/
structure SElt (ld : Led) (x ez dz : Addr) (fl mn kz nz : Option Value) (mz : Addr) (i : Nat) (a : Led) : Prop where
  all : ∀ q ∈ ld, q.1 ≠ 389 → q.1 ≠ ez → q ∈ a
  tab : TabAt a 389
  oldz : i ≤ 1 → (ez, ({ cls := .ref 489, dict := some dz, data := .plain, slots := #[fl, mn, some (.ref mz), kz, nz] } : Obj)) ∈ a
  new : 2 ≤ i → ∃ t, (ez, ({ cls := .ref 489, dict := some dz, data := .plain, slots := #[fl, mn, some (.ref t), kz, nz] } : Obj)) ∈ a ∧ (t, tupO [.ref x] 0) ∈ a
theorem selt_mono {news : Led} {rc : Addr × Obj} {x ez dz : Addr} {fl mn kz nz : Option Value} {mz : Addr} (p4 : TabAt news 389) :
    ∀ C : Addr, (∀ q ∈ rc :: news, @LT.lt Nat _ q.1 C) → ∀ i a b, (∀ q ∈ a, NoLst q.2 ∨ ¬ @LT.lt Nat _ C q.1 → q ∈ b) → SElt (rc :: news) x ez dz fl mn kz nz mz i a → SElt (rc :: news) x ez dz fl mn kz nz mz i b := fun C hC i a b k h =>
  have nl : ∀ sl, NoLst ({ cls := .ref 489, dict := some dz, data := .plain, slots := sl } : Obj) := fun sl ⟨acc, c, z⟩ => by cases congrArg Obj.cls z
  ⟨fun q hq h1 h2 => k q (h.all q hq h1 h2) (.inr (Nat.lt_asymm (hC q hq))), let ⟨ps, x1, x3⟩ := h.tab; ⟨ps, k _ x1 (.inl tab_nolst), x3⟩,
    fun hi => k _ (h.oldz hi) (.inl (nl _)), fun hi => let ⟨t, h1, h2⟩ := h.new hi; ⟨t, k _ h1 (.inl (nl _)), k _ h2 (.inl tup_nolst)⟩⟩
theorem selt_off {news : Led} {rc : Addr × Obj} {x ez dz mt : Addr} {fl mn kz nz : Option Value} {mz : Addr} (pz1 : (ez, ({ cls := .ref 489, dict := some dz, data := .plain, slots := #[fl, mn, some (.ref mz), kz, nz] } : Obj)) ∈ news) (p4 : TabAt news 389) :
    ∀ I : Addr, (∀ q ∈ rc :: news, q.1 ≠ I) → ∀ i a b, (∀ q ∈ a, q.1 ≠ I → q ∈ b) → (∃ o i', (I, o) ∈ a ∧ ItAt "tuple_iterator" o mt i') → (∀ y o o', (y, o) ∈ a → (y, o') ∈ a → o = o') → SElt (rc :: news) x ez dz fl mn kz nz mz i a → SElt (rc :: news) x ez dz fl mn kz nz mz i b := fun I hI i a b k ⟨oI, i', g1, g2⟩ fn h =>
  have hez : ez ≠ I := hI _ (.tail _ pz1)
  ⟨fun q hq h1 h2 => k q (h.all q hq h1 h2) (hI q hq), let ⟨ps, x1, x3⟩ := h.tab; ⟨ps, k _ x1 (by obtain ⟨op', _, h9, -⟩ := TabAt.ex p4; exact hI (389, op') (.tail _ h9)), x3⟩,
    fun hi => k _ (h.oldz hi) hez, fun hi => let ⟨t, h1, h2⟩ := h.new hi; ⟨t, k _ h1 hez, k _ h2 (fun e => by
      dsimp only at e
      rw [e] at h2
      have := fn _ _ _ g1 h2
      rw [this] at g2
      cases g2.dat)⟩⟩
theorem seq_res {w : World} {mean : ExcName → Option Value} {mg mb : Str → Option Value} {b : Bool} {x d mt ea da ez dz eb db mz l dl rm : Addr} {tl tr : Tok} {rep : Nat} {sla slb : Array (Option Value)} {fl mn kz nz k nm : Option Value} :
    SpecA w mean mg mb 394 [.ref x, .ref rm] 540 5100
      (fun news => (x, ({ cls := .ref 425, dict := some d, data := .plain, slots := #[some (.ref mt), k, nm] } : Obj)) ∈ news ∧ (d, dictOf [] 0) ∈ news ∧ (mt, tupO [.ref ea, .ref ez, .ref eb] 0) ∈ news ∧ TabAt news 389 ∧
        (l, ({ cls := .ref 525, dict := some dl, data := .prim (.str (Str.ofString (if b then "u" else "l")) tl) } : Obj)) ∈ news ∧ (dl, dictOf [] 0) ∈ news ∧ (rm, dictOf [⟨PyData.keyHash w.params (Str.ofString (if b then "u" else "l")), .str (Str.ofString (if b then "u" else "l")) tr, .ref x⟩] rep) ∈ news ∧
        ((ea, ({ cls := .ref 367, dict := some da, data := .plain, slots := sla } : Obj)) ∈ news ∧ (da, dictOf [] 0) ∈ news) ∧ ((eb, ({ cls := .ref 367, dict := some db, data := .plain, slots := slb } : Obj)) ∈ news ∧ (db, dictOf [] 0) ∈ news) ∧
        ((ez, ({ cls := .ref 489, dict := some dz, data := .plain, slots := #[fl, mn, some (.ref mz), kz, nz] } : Obj)) ∈ news ∧ (dz, dictOf [] 0) ∈ news ∧ (mz, tupO [.ref l] 0) ∈ news))
      (fun news r news' => r = .ref x ∧ ∃ t tz, (x, ({ cls := .ref 425, dict := some d, data := .plain, slots := #[some (.ref t), k, nm] } : Obj)) ∈ news' ∧ (t, tupO [.ref ea, .ref ez, .ref eb] 0) ∈ news' ∧ (ez, ({ cls := .ref 489, dict := some dz, data := .plain, slots := #[fl, mn, some (.ref tz), kz, nz] } : Obj)) ∈ news' ∧ (tz, tupO [.ref x] 0) ∈ news' ∧
        TabAt news' 389 ∧ ∀ q ∈ news, q.1 ≠ x → q.1 ≠ ez → q.1 ≠ 389 → q ∈ news') := by
  intro dp un gd env outer A₀ base h₀ L m news s Q E hf hk B F X N T hbt hPre hdd huu hret
  obtain ⟨p1, p2, p3, p4, p5, p6, p7, ⟨pa1, pa2⟩, ⟨pb1, pb2⟩, pz1, pz2, pz3⟩ := hPre
  w_top off; w_on
  refine wpAny_call ?_
  w_strict (k_dflt (refine' code_defC ?k1 ?k2 ?k3 ?k4 ?k5 ?kA ?kF ?kK ?k6 ?k7 ?k8 ?k9 ?kB ?kD ?_ ?c2 ?c3 ?c4; (case kA => exact rfl); (case kF => assumption); (case kK => assumption); (case k1 => k_asm); (case k2 => k_asm); (case k3 => k_asm); (case k4 => k_asm); (case k5 => k_asm); (case k6 => k_is); (case k7 => k_is); (case k8 => ktr_room); (case k9 => exact BindsTo.of_eq rfl); (case kB => exact rfl); (case kD => decide +kernel); (case c2 => exact rfl); (case c3 => exact rfl); (case c4 => exact rfl)); intro g1 L1 h1 tk1 cells1 FG1 F1 N1 Y1 B1 X1 T1 l1; obtain ⟨o', hE9, dR⟩ := CellsAre.one Y1; subst hE9; (try simp only [List.cons_append, List.nil_append] at N1); (try dsimp only); (try k_fold))
  w_strict (iterate 6 (first | (k_unfold; (try dsimp only)) | (k_end; wrow_close) | walk1 | (dsimp only; walk1) | (leave1; walk_say "STEP leave1"; try dsimp only) | fail "no step"))
  with_reducible rename Fr _ _ _ _ => F2
  have hRn : NoLst o' := by rintro ⟨acc, c, z⟩; rw [z] at dR; cases dR
  have n389 : ∀ a o, (a, o) ∈ news → (∀ fs, o.data ≠ .fields fs) → a ≠ 389 := by
    intro a o ha hd he
    obtain ⟨op, ps, h9, h8, -⟩ := TabAt.ex p4
    rw [he] at ha
    rw [Mine.News.fn N h9 ha] at h8
    exact hd _ h8
  refine gen_make (K := hd.heap_39 w.params) (c := 393) (P := 389) (mt := mt) (rc := L1 + 1) (oR := o') (vs := [.ref ea, .ref ez, .ref eb]) (ep := 0) (n₀ := 3) (vals := fun i => [Value.ref ea, .ref ez, .ref eb].getD i .none) (Elt := SElt ((L1 + 1, o') :: news) x ez dz fl mn kz nz mz) F2 N1 B1 rfl rfl rfl X1 T1 rfl ?room rfl (by kernel_rfl) ?tab ?mt (.head _) ?pm ?pr hRn rfl rfl rfl (by decide) rfl rfl rfl (fun _ => rfl) rfl ?iter ?e1 ?e2 ?e3 ?e4 ?el ?h ?n
  case room => ktr_room
  case tab => exact TabAt.sub (fun q hq => .tail _ hq) p4
  case mt => exact .tail _ p3
  case pm =>
    obtain ⟨op, ps, h9, h8, -⟩ := TabAt.ex p4
    rintro rfl
    have := Mine.News.fn N h9 p3
    subst this
    cases h8
  case pr =>
    obtain ⟨op, ps, h9, h8, -⟩ := TabAt.ex p4
    have := l1 _ h9
    exact Nat.ne_of_lt (Nat.lt_succ_of_lt this)
  case e1 => exact selt_mono p4
  case e2 => exact fun a h1 h2 => ⟨fun q hq hn _ => h1 q hq hn, h2, fun _ => h1 _ (.tail _ pz1) (n389 _ _ pz1 (fun _ => nofun)), fun h => absurd h (by omega)⟩
  case e3 => exact selt_off pz1 p4
  case e4 => exact fun a h => ⟨h.all, h.tab, fun q => absurd q (by omega), fun _ => h.new (by omega)⟩
  case n => exact Nat.le_of_ble_eq_true rfl
  case iter =>
    intro Q' E' hq
    w_strict (iterate 3 (first | (k_unfold; (try dsimp only)) | (k_end; wrow_close) | walk1 | (dsimp only; walk1) | (leave1; walk_say "STEP leave1"; try dsimp only) | fail "no step"))
    exact hq _
  case el =>
    intro gC C G oG I code hC hGne hst hor hL BC
    refine ⟨fun i led s' hi F' N' hG hI hm2 hrc hE => ?_⟩
    have X9 := X1.keeps hst
    have T9 := T1.keeps hst
    have hbt' := (hbt.keeps FG1.keep).keeps hst
    have old : ∀ q ∈ news, q.1 ≠ 389 → q.1 ≠ ez → q ∈ led := fun q hq h1 h2 => hE.all q (.tail _ hq) h1 h2
    have hi3 : i = 0 ∨ i = 1 ∨ i = 2 := by omega
    rcases hi3 with rfl | rfl | rfl
    · skip
      have r1 := old _ pa1 (n389 _ _ pa1 (fun _ => nofun)) (fun q => by dsimp only at q; rw [q] at pa1; have := Mine.News.fn N pa1 pz1; cases this)
      have r2 := old _ pa2 (n389 _ _ pa2 (fun _ => nofun)) (fun q => by dsimp only at q; rw [q] at pa2; have := Mine.News.fn N pa2 pz1; cases this)
      refine MethodCall_ (elt_call (f := 274) (rc := L1 + 1) (rm := rm) (e := ea) F' X9 N' rfl rfl hrc dR rfl rfl rfl rfl (fun pl Q' hq => method_inst F' X9 ⟨N'.get r1, rfl, rfl, N'.get r2⟩ (by k_is) (by k_is) (by k_is) rfl hq) (by k_is) ?_)
      have lz := lit_res (w := w) (mean := mean) (mg := mg) (mb := mb) (e := .ref ea) (rm := .ref rm)
      refine lz _ _ _ _ _ _ base gC C _ led s' _ _ rfl rfl BC F' X9 N' T9 hbt' trivial ?room2 ?units2 ?ret2
      case room2 => show dp + 1 + 0 + 1 + 5 < recursionLimit; omega
      case units2 => first | (show un + 5 + 30 < cLine; omega) | (show un + 6 + 30 < cLine; omega) | (show un + 7 + 30 < cLine; omega) | (show un + 8 + 30 < cLine; omega) | (show un + 9 + 30 < cLine; omega) | (show un + 10 + 30 < cLine; omega) | (show un + 11 + 30 < cLine; omega) | (show un + 12 + 30 < cLine; omega) | (show un + 13 + 30 < cLine; omega) | (show un + 14 + 30 < cLine; omega) | (show un + 15 + 30 < cLine; omega) | (show un + 16 + 30 < cLine; omega) | (show un + 17 + 30 < cLine; omega) | (show un + 18 + 30 < cLine; omega) | (show un + 19 + 30 < cLine; omega) | (show un + 20 + 30 < cLine; omega) | (show un + 21 + 30 < cLine; omega)
      case ret2 =>
        rintro r led2 s2 F2 N2 ⟨rfl, rfl⟩ gw
        exact ⟨rfl, gw, led2, F2, N2, ⟨hG, fun _ => hI, hm2, hrc, ⟨hE.all, hE.tab, fun _ => hE.oldz (by omega), fun q => absurd q (by omega)⟩⟩, fun q hq _ => hq⟩
    · have z1 := hE.oldz (by omega)
      have nz9 : ∀ a o, (a, o) ∈ news → (∀ s : Array (Option Value), o ≠ { cls := .ref 489, dict := some dz, data := .plain, slots := s }) → a ≠ ez := fun a o h h2 e => by rw [e] at h; exact h2 _ (Mine.News.fn N h pz1)
      have old' : ∀ a o, (a, o) ∈ news → (∀ fs, o.data ≠ .fields fs) → (∀ s : Array (Option Value), o ≠ { cls := .ref 489, dict := some dz, data := .plain, slots := s }) → (a, o) ∈ led := fun a o h h1 h2 => old _ h (n389 _ _ h h1) (nz9 _ _ h h2)
      have z2 := old' _ _ pz2 (fun _ => nofun) (fun _ => nofun)
      refine MethodCall_ (elt_call (f := 394) (rc := L1 + 1) (rm := rm) (e := ez) F' X9 N' rfl rfl hrc dR rfl rfl rfl rfl (fun pl Q' hq => method_inst F' X9 ⟨N'.get z1, rfl, rfl, N'.get z2⟩ (by k_is) (by k_is) (by k_is) rfl hq) (by k_is) ?_)
      have lz := quant_res (w := w) (mean := mean) (mg := mg) (mb := mb) (b := b) (x := ez) (d := dz) (mt := mz) (l := l) (dl := dl) (rm := rm) (u := x) (du := d) (tl := tl) (tr := tr) (rep := rep) (slu := #[some (.ref mt), k, nm]) (fl := fl) (mn := mn) (k := kz) (nm := nz)
      refine lz _ _ _ _ _ _ base gC C _ led s' _ _ rfl rfl BC F' X9 N' T9 hbt' ⟨z1, z2, old' _ _ pz3 (fun _ => nofun) (fun _ => nofun), hE.tab, old' _ _ p5 (fun _ => nofun) (fun _ => nofun), old' _ _ p6 (fun _ => nofun) (fun _ => nofun), old' _ _ p7 (fun _ => nofun) (fun _ => nofun), old' _ _ p1 (fun _ => nofun) (fun _ => nofun)⟩ ?room2 ?units2 ?ret2
      case room2 => show dp + 1 + 0 + 1 + 520 < recursionLimit; omega
      case units2 => first | (show un + 5 + 5000 < cLine; omega) | (show un + 6 + 5000 < cLine; omega) | (show un + 7 + 5000 < cLine; omega) | (show un + 8 + 5000 < cLine; omega) | (show un + 9 + 5000 < cLine; omega) | (show un + 10 + 5000 < cLine; omega) | (show un + 11 + 5000 < cLine; omega) | (show un + 12 + 5000 < cLine; omega) | (show un + 13 + 5000 < cLine; omega) | (show un + 14 + 5000 < cLine; omega) | (show un + 15 + 5000 < cLine; omega) | (show un + 16 + 5000 < cLine; omega) | (show un + 17 + 5000 < cLine; omega) | (show un + 18 + 5000 < cLine; omega) | (show un + 19 + 5000 < cLine; omega) | (show un + 20 + 5000 < cLine; omega) | (show un + 21 + 5000 < cLine; omega)
      case ret2 =>
        rintro r led2 s2 F2 N2 ⟨rfl, t, y1, y2, y3, y4⟩ gw
        have off2 : ∀ a o, (a, o) ∈ led → (∀ fs, o.data ≠ .fields fs) → o.data ≠ .plain → (a, o) ∈ led2 := fun a o h h1 h2 => y4 _ h (fun e => by dsimp only at e; rw [e] at h; have := Mine.News.fn N' h z1; rw [this] at h2; exact h2 rfl) (fun e => by dsimp only at e; obtain ⟨op, ps, v1, v2, -⟩ := TabAt.ex hE.tab; rw [e] at h; rw [Mine.News.fn N' h v1] at h1; exact h1 _ v2)
        have n389' : ∀ q ∈ led, q.1 = G ∨ q.1 = I → q.1 ≠ 389 := fun q hq h e => by
          obtain ⟨op0, ps0, v0, -, -⟩ := TabAt.ex p4
          have := hGne _ (.tail _ v0)
          rcases h with h | h
          · exact this.1 (e.symm.trans h)
          · exact this.2 (e.symm.trans h)
        have nez : G ≠ ez ∧ I ≠ ez := ⟨fun e => (hGne _ (.tail _ pz1)).1 e.symm, fun e => (hGne _ (.tail _ pz1)).2 e.symm⟩
        refine ⟨rfl, gw, led2, F2, N2, ⟨y4 _ hG nez.1 (n389' _ hG (.inl rfl)), fun _ => let ⟨oI, v1, v2⟩ := hI; ⟨oI, y4 _ v1 nez.2 (n389' _ v1 (.inr rfl)), v2⟩, off2 _ _ hm2 (fun _ => nofun) nofun, off2 _ _ hrc (by rw [dR]; exact fun _ => nofun) (by rw [dR]; exact nofun), ⟨fun q hq h1 h2 => y4 _ (hE.all q hq h1 h2) h2 h1, y3, fun q => absurd q (by omega), fun _ => ⟨t, y1, y2⟩⟩⟩, fun q hq hl => ?_⟩
        obtain ⟨acc, c, hl⟩ := hl
        obtain ⟨qa, qo⟩ := q
        dsimp only at hl
        subst hl
        exact off2 _ _ hq (fun _ => nofun) nofun
    · skip
      have r1 := old _ pb1 (n389 _ _ pb1 (fun _ => nofun)) (fun q => by dsimp only at q; rw [q] at pb1; have := Mine.News.fn N pb1 pz1; cases this)
      have r2 := old _ pb2 (n389 _ _ pb2 (fun _ => nofun)) (fun q => by dsimp only at q; rw [q] at pb2; have := Mine.News.fn N pb2 pz1; cases this)
      refine MethodCall_ (elt_call (f := 274) (rc := L1 + 1) (rm := rm) (e := eb) F' X9 N' rfl rfl hrc dR rfl rfl rfl rfl (fun pl Q' hq => method_inst F' X9 ⟨N'.get r1, rfl, rfl, N'.get r2⟩ (by k_is) (by k_is) (by k_is) rfl hq) (by k_is) ?_)
      have lz := lit_res (w := w) (mean := mean) (mg := mg) (mb := mb) (e := .ref eb) (rm := .ref rm)
      refine lz _ _ _ _ _ _ base gC C _ led s' _ _ rfl rfl BC F' X9 N' T9 hbt' trivial ?room2 ?units2 ?ret2
      case room2 => show dp + 1 + 0 + 1 + 5 < recursionLimit; omega
      case units2 => first | (show un + 5 + 30 < cLine; omega) | (show un + 6 + 30 < cLine; omega) | (show un + 7 + 30 < cLine; omega) | (show un + 8 + 30 < cLine; omega) | (show un + 9 + 30 < cLine; omega) | (show un + 10 + 30 < cLine; omega) | (show un + 11 + 30 < cLine; omega) | (show un + 12 + 30 < cLine; omega) | (show un + 13 + 30 < cLine; omega) | (show un + 14 + 30 < cLine; omega) | (show un + 15 + 30 < cLine; omega) | (show un + 16 + 30 < cLine; omega) | (show un + 17 + 30 < cLine; omega) | (show un + 18 + 30 < cLine; omega) | (show un + 19 + 30 < cLine; omega) | (show un + 20 + 30 < cLine; omega) | (show un + 21 + 30 < cLine; omega)
      case ret2 =>
        rintro r led2 s2 F2 N2 ⟨rfl, rfl⟩ gw
        exact ⟨rfl, gw, led2, F2, N2, ⟨hG, fun _ => hI, hm2, hrc, ⟨hE.all, hE.tab, fun q => absurd q (by omega), fun _ => hE.new (by omega)⟩⟩, fun q hq _ => hq⟩
  case h =>
    intro G h' tk gs hcall FL
    clear F2 N1
    w_strict (repeat' (first | (k_unfold; (try dsimp only)) | (k_end; wrow_close) | walk1 | (dsimp only; walk1) | (leave1; walk_say "STEP leave1"; try dsimp only) | fail "no step"))
    refine hcall _ _ _ ?_
    rintro Tt led2 s2 F7 N7 ltT hE9 gw
    have hE1 := hE9.all
    have hE2 := hE9.tab
    have nz9 : ∀ a o, (a, o) ∈ news → (∀ s : Array (Option Value), o ≠ { cls := .ref 489, dict := some dz, data := .plain, slots := s }) → a ≠ ez := fun a o h h2 e => by rw [e] at h; exact h2 _ (Mine.News.fn N h pz1)
    have q1 := hE1 _ (.tail _ p1) (n389 _ _ p1 (fun _ => nofun)) (nz9 _ _ p1 (fun _ => nofun))
    have q2 := hE1 _ (.tail _ p2) (n389 _ _ p2 (fun _ => nofun)) (nz9 _ _ p2 (fun _ => nofun))
    obtain ⟨tz, qz1, qz2⟩ := hE9.new (by omega)
    have hxz : ez ≠ x := by
      rintro rfl
      have := Mine.News.fn N pz1 p1
      cases this
    have htzx : tz ≠ x := by
      rintro rfl
      have := Mine.News.fn N7 (.tail _ qz2) (.tail _ q1)
      cases this
    have hfn := fun a o o' (h1 : (a, o) ∈ (_ : Led)) h2 => Mine.News.fn N7 (a := a) (o := o) (o' := o') h1 h2
    obtain ⟨rest, N8, off, sub⟩ := front N7 (.tail _ q1)
    have hdx : d ≠ x := by
      rintro rfl
      have := hfn _ _ _ (.tail _ q1) (.tail _ q2)
      cases this
    have q3 : (d, dictOf [] 0) ∈ rest := by
      rcases List.mem_cons.mp (sub _ (.tail _ q2)) with e | e
      · exact absurd (congrArg Prod.fst e) hdx
      · exact e
    clear N7 FL hcall
    w_strict (repeat' (first | (k_unfold; (try dsimp only)) | (k_end; wrow_close) | walk1 | (dsimp only; walk1) | (leave1; walk_say "STEP leave1"; try dsimp only) | fail "no step"))
    with_reducible rename News _ _ _ _ => NZ
    with_reducible rename Fr _ _ _ _ => FZ
    have hTx : Tt ≠ x := by
      intro e
      have := ltT _ q1
      exact Nat.ne_of_gt this e
    have hin : ∀ q ∈ led2, q.1 ≠ x → q ∈ rest := fun q hq hn => by
      rcases List.mem_cons.mp (sub _ (.tail _ hq)) with e | e
      · exact absurd (congrArg Prod.fst e) hn
      · exact e
    have hT : (Tt, tupO [.ref ea, .ref ez, .ref eb] 0) ∈ rest := by
      rcases List.mem_cons.mp (sub _ (.head _)) with e | e
      · exact absurd (congrArg Prod.fst e) hTx
      · exact e
    refine hret _ _ _ FZ NZ ⟨rfl, Tt, tz, .head _, .tail _ hT, .tail _ (hin _ qz1 hxz), .tail _ (hin _ qz2 htzx), ?_, fun q hq h1 h3 h2 => .tail _ (hin _ (hE1 _ (.tail _ hq) h2 h3) h1)⟩ ⟨gw.drawn, gw.os, gw.size, gw.old, gw.bare⟩
    obtain ⟨ps, y1, y3⟩ := hE2
    refine ⟨ps, .tail _ (hin _ y1 fun e => ?_), y3⟩
    exact n389 _ _ p1 (fun _ => nofun) e.symm
end Mine
end

section
-- part Fw
open PySem PySem.Spec PySem.Calls PySem.W PyProof.Rows
namespace Mine
section
variable {prog : Program} {w : World} {A : Around} {s : Shared} {h₀ : Heap} {L I : Addr} {m : Str → Option Value} {news : List (Addr × Obj)} {env : Env} {E : Value → Shared → Prop} {n : Nat} {P : Nat → Value → Prop} {St : Nat → Heap → Prop}
theorem for_walk_loop {R : Result → Shared → Prop} {x : Str} {px : Pos} {body orelse : List Stmt} (W : Walks prog w A I [I] [I] n P St) (hIo : ∀ i h, St i h → ∃ o, h.get? I = some o) (J : Nat → (Str → Option Value) → List (Addr × Obj) → Prop)
    (turn : ∀ i v oI h tk m news, i < n → P i v → J i m news → Fr h₀ L h m → News h₀ L h ((I, oI) :: news) → (∀ p ∈ news, p.1 ≠ I) →
      wpAny (model prog w) A (assign (.Name x px) env v) (fun _ s₂ => wpAny (model prog w) A (execs body env) (fun f s₃ => match f with
        | .next | .cont => TurnEnd s h₀ L I oI J i s₃
        | .brk => R (.ok .next) s₃
        | .ret v => R (.ok (.ret v)) s₃) (fun _ _ => False) s₂) (fun _ _ => False) { s with heap := h, toks := tk })
    (done : ∀ h tk m news, J n m news → Fr h₀ L h m → News h₀ L h news → wpAny (model prog w) A (execs orelse env) (fun f s₃ => R (.ok f) s₃) (fun _ _ => False) { s with heap := h, toks := tk }) :
    ∀ k i oI h tk m news, n - i = k → i ≤ n → J i m news → Fr h₀ L h m → News h₀ L h ((I, oI) :: news) → St i h → (∀ p ∈ news, p.1 ≠ I) →
      codeAny (model prog w) A (.forLoop (.Name x px) (.ref I) body orelse env) R { s with heap := h, toks := tk } := by
  have mv : ∀ {h h' : Heap} {m : Str → Option Value} {news : List (Addr × Obj)} {oI : Obj}, Fr h₀ L h m → News h₀ L h ((I, oI) :: news) → (∀ p ∈ news, p.1 ≠ I) → (∀ b o, b ∉ [I] → h.get? b = some o → h'.get? b = some o) → Fr h₀ L h' m ∧ News h₀ L h' news := fun {h h' m news oI} F N off hk => by
    have hI := N _ (.head _)
    refine ⟨⟨F.ns.at' fun o e => hk _ o (by simpa using hI.2.1.symm) e, fun b o e => hk b o (fun hb => ?_) (F.keep b o e), F.above⟩, fun p hp => ⟨hk _ _ (by simpa using off p hp) (N p (.tail _ hp)).1, (N p (.tail _ hp)).2⟩⟩
    rw [List.mem_singleton.mp hb, hI.2.2] at e
    cases e
  intro k
  induction k with
  | zero =>
    intro i oI h tk m news hk hi hJ F N st off
    have he : i = n := by omega
    subst he
    refine for_turn (W.done _ _ _ st fun h' tk' hk' => ?_)
    obtain ⟨F', N'⟩ := mv F N off hk'
    exact wpAny_mono (done h' tk' m news hJ F' N') (fun _ _ x => x) fun _ _ x => x.elim
  | succ k ih =>
    intro i oI h tk m news hk hi hJ F N st off
    have hlt : i < n := by omega
    refine for_turn (W.item i _ _ _ hlt st fun v h' tk' hP st' hk' => ?_)
    obtain ⟨F', N'⟩ := mv F N off hk'
    obtain ⟨oI', hoI⟩ := hIo _ _ st'
    have hI := N _ (.head _)
    have N2 : News h₀ L h' ((I, oI') :: news) := fun p hp => by
      rcases List.mem_cons.mp hp with rfl | hp
      · exact ⟨hoI, hI.2⟩
      · exact N' p hp
    show wpAny _ _ (pure ()) _ _ _
    refine wpAny_pure ?_
    refine wpAny_mono (turn i v oI' h' tk' m news hlt hP hJ F' N2 off) (fun _ s₂ h₂ => ?_) fun _ _ x => x.elim
    refine wpAny_mono h₂ (fun f s₃ h₃ => ?_) fun _ _ x => x.elim
    cases f with
    | next => obtain ⟨h'', tk', m', news', rfl, F'', N'', off', hJ'⟩ := h₃.out; exact ih (i + 1) oI' h'' tk' m' news' (by omega) (by omega) hJ' F'' N'' (W.frame _ _ _ st' fun b hb o e => by rw [List.mem_singleton.mp hb] at e ⊢; rw [hoI] at e; cases e; exact (N'' _ (.head _)).1) off'
    | cont => obtain ⟨h'', tk', m', news', rfl, F'', N'', off', hJ'⟩ := h₃.out; exact ih (i + 1) oI' h'' tk' m' news' (by omega) (by omega) hJ' F'' N'' (W.frame _ _ _ st' fun b hb o e => by rw [List.mem_singleton.mp hb] at e ⊢; rw [hoI] at e; cases e; exact (N'' _ (.head _)).1) off'
    | brk => exact h₃
    | ret v => exact h₃
/-- a for over the letters of an ASCII text -/
theorem for_str {Q : Flow → Shared → Prop} {x : Str} {px : Pos} {body orelse : List Stmt} {tx : Str} {tt : Tok} (ha : tx.cps.all (· < 128) = true) (hh : A.handled = none) (J : Nat → (Str → Option Value) → List (Addr × Obj) → Prop)
    (F : Fr h₀ L s.heap m) (N : News h₀ L s.heap news) (hJ : J 0 m news)
    (turn : ∀ i v I oI h tk m news, i < tx.cps.size → SignAt tx i v → J i m news → Fr h₀ L h m → News h₀ L h ((I, oI) :: news) → (∀ p ∈ news, p.1 ≠ I) →
      wpAny (model prog w) A (assign (.Name x px) env v) (fun _ s₂ => wpAny (model prog w) A (execs body env) (fun f s₃ => match f with
        | .next | .cont => TurnEnd s h₀ L I oI J i s₃
        | .brk => Q .next s₃
        | .ret v => Q (.ret v) s₃) (fun _ _ => False) s₂) (fun _ _ => False) { s with heap := h, toks := tk })
    (done : ∀ h tk m news, J tx.cps.size m news → Fr h₀ L h m → News h₀ L h news → wpAny (model prog w) A (execs orelse env) (fun f s₃ => Q f s₃) (fun _ _ => False) { s with heap := h, toks := tk }) :
    wpAny (model prog w) A (pyIter (.str tx tt)) (fun it s₂ => codeAny (model prog w) A (.forLoop (.Name x px) it body orelse env) (fun r s' => match r with | .ok f => Q f s' | .error e => cameBackBy (model prog w) A env E e s') s₂) E s := by
  refine wpAny_pyIter_ascii ha ?_
  refine for_walk_loop (R := fun r s' => match r with | .ok f => Q f s' | .error e => cameBackBy (model prog w) A env E e s') (Walks.strAscii hh _ tx tt) (fun i h st => let ⟨o, e, _⟩ := st; ⟨o, e⟩) J (fun i v oI h tk m news a b c d e f => ?_) (fun h tk m news a b c => ?_) _ 0 _ _ s.toks m news rfl (Nat.zero_le _) hJ (F.push _) (N.push F _) ⟨_, Heap.get?_push_size _ rfl, rfl, rfl⟩ (fun p hp => Nat.ne_of_lt (Heap.lt_size (N p hp).1))
  · refine wpAny_mono (turn i v _ oI h tk m news a b c d e f) (fun _ s₂ h₂ => wpAny_mono h₂ (fun f s₃ h₃ => ?_) fun _ _ x => x) fun _ _ x => x
    cases f <;> exact h₃
  · exact wpAny_mono (done h tk m news a b c) (fun f s₃ h₃ => h₃) fun _ _ x => x
/-- a for over a range with step one -/
theorem for_range {Q : Flow → Shared → Prop} {x : Str} {px : Pos} {body orelse : List Stmt} {r : Addr} {a b : Int} {t u v : Tok} {n : Nat} (hr : IsRange s.heap r a b 1 t u v) (hsm : Builtin.Range.small a b 1 = true) (hn : Builtin.Range.rangeSize a b 1 = ((n : Nat) : Int)) (hh : A.handled = none) (J : Nat → (Str → Option Value) → List (Addr × Obj) → Prop)
    (F : Fr h₀ L s.heap m) (N : News h₀ L s.heap news) (hJ : J 0 m news)
    (turn : ∀ i t I oI h tk m news, i < n → J i m news → Fr h₀ L h m → News h₀ L h ((I, oI) :: news) → (∀ p ∈ news, p.1 ≠ I) →
      wpAny (model prog w) A (assign (.Name x px) env (.int (a + (i : Int)) t)) (fun _ s₂ => wpAny (model prog w) A (execs body env) (fun f s₃ => match f with
        | .next | .cont => TurnEnd s h₀ L I oI J i s₃
        | .brk => Q .next s₃
        | .ret v => Q (.ret v) s₃) (fun _ _ => False) s₂) (fun _ _ => False) { s with heap := h, toks := tk })
    (done : ∀ h tk m news, J n m news → Fr h₀ L h m → News h₀ L h news → wpAny (model prog w) A (execs orelse env) (fun f s₃ => Q f s₃) (fun _ _ => False) { s with heap := h, toks := tk }) :
    wpAny (model prog w) A (pyIter (.ref r)) (fun it s₂ => codeAny (model prog w) A (.forLoop (.Name x px) it body orelse env) (fun r s' => match r with | .ok f => Q f s' | .error e => cameBackBy (model prog w) A env E e s') s₂) E s := by
  refine wpAny_pyIter_range hr hsm ?_
  refine for_walk_loop (R := fun r s' => match r with | .ok f => Q f s' | .error e => cameBackBy (model prog w) A env E e s') (LCg.range_walks hh a n) (fun i h st => ⟨_, st⟩) J (fun i v oI h tk m news hi b c d e f => ?_) (fun h tk m news a b c => ?_) _ 0 _ _ s.toks m news rfl (Nat.zero_le _) hJ (F.push _) (N.push F _) (by show IsRangeIter _ _ _ _ _; rw [hn]; simpa using Heap.get?_push_size _ rfl) (fun p hp => Nat.ne_of_lt (Heap.lt_size (N p hp).1))
  · obtain ⟨t, rfl⟩ := b
    refine wpAny_mono (turn i t _ oI h tk m news hi c d e f) (fun _ s₂ h₂ => wpAny_mono h₂ (fun f s₃ h₃ => ?_) fun _ _ x => x) fun _ _ x => x
    cases f <;> exact h₃
  · exact wpAny_mono (done h tk m news a b c) (fun f s₃ h₃ => h₃) fun _ _ x => x
end
end Mine
end

section
-- part Cm
open PySem PySem.Spec PySem.Calls PySem.W PyProof.Rows
local macro_rules | `(tactic| walk_at "pad of mine") => `(tactic| fail)
local macro_rules | `(tactic| walk_at "pad of mine") => `(tactic| fail)
namespace Mine
section
variable {prog : Program} {w : World} {A : Around} {h₀ : Heap} {L : Addr} {m : Str → Option Value} {env : Env} {elt ct : PySem.Expr} {x : Str} {scope : Scope} {cl : List (Str × Addr)} {s : Shared} {S : List (Addr × Obj) → Prop} {P : Nat → Value → Prop} {Fin : List Value → List (Addr × Obj) → Prop}
/-- all turns of a comprehension, by what holds between two -/
theorem comp_all {n : Nat} (J : Nat → List Value → List (Addr × Obj) → Prop) {news : List (Addr × Obj)} (h0 : J 0 [] news)
    (turn : ∀ i v ys nw I oI C oC D m₂ h tk (E' : Value → Shared → Prop), i < n → P i v → J i ys nw → LCg.NsObj oC m₂ → m₂ x = some v → Fr h₀ L h m → News h₀ L h ((I, oI) :: (C, oC) :: (D, LCg.lst ys) :: nw) → LCg.Off3 I C D nw → ((@Ne Nat I C) ∧ (@Ne Nat I D) ∧ (@Ne Nat C D)) →
      wpAny (model prog w) A (eval elt (compEnvC scope cl C env)) (LCg.CompEnd h₀ L m { s with heap := h, toks := tk } I oI C oC D (LCg.lst ys) S (fun y nw' => J (i + 1) (ys ++ [y]) nw')) E' { s with heap := h, toks := tk })
    (fin : ∀ ys nw, J n ys nw → Fin ys nw) : LCg.CompRest prog w A h₀ L m env elt x scope cl s S P Fin n 0 [] news := by
  have key : ∀ (k i : Nat) (ys : List Value) (nw : List (Addr × Obj)), i + k = n → J i ys nw → LCg.CompRest prog w A h₀ L m env elt x scope cl s S P Fin k i ys nw := by
    intro k
    induction k with
    | zero => intro i ys nw hi hJ; obtain rfl : i = n := by omega
              exact LCg.CompRest.zero (fin ys nw hJ)
    | succ k ih =>
      intro i ys nw hi hJ
      refine LCg.CompRest.succ fun v I oI C oC D m₂ h tk E' hv hC hx F N off ne => ?_
      refine wpAny_mono (turn i v ys nw I oI C oC D m₂ h tk E' (by omega) hv hJ hC hx F N off ne) (fun y s₂ hq => ?_) fun _ _ e => e
      obtain ⟨h', tk', nw', e, F', N', off', hS, hJ'⟩ := hq
      exact ⟨h', tk', nw', e, F', N', off', hS, ih (i + 1) _ _ (by omega) hJ'⟩
  exact key n 0 [] news (by omega) h0
/-- the end of a turn that leaves the ledger as it was -/
theorem comp_same {y : Value} {s₁ : Shared} {I C D : Addr} {oI oC oD : Obj} {nw : List (Addr × Obj)} {rest : Value → List (Addr × Obj) → Prop} {h' : Heap} {tk : Nat} (F : Fr h₀ L h' m) (N : News h₀ L h' ((I, oI) :: (C, oC) :: (D, oD) :: nw)) (off : LCg.Off3 I C D nw) (hS : S nw) (r : rest y nw) :
    LCg.CompEnd h₀ L m s₁ I oI C oC D oD S rest y { s₁ with heap := h', toks := tk } := ⟨h', tk, nw, rfl, F, N, off, hS, r⟩
/-- the end of a turn behind which the ledger has grown -/
theorem comp_grown {y : Value} {s₁ : Shared} {I C D : Addr} {oI oC oD : Obj} {nw all : List (Addr × Obj)} {rest : Value → List (Addr × Obj) → Prop} {h' : Heap} {tk : Nat} (F : Fr h₀ L h' m) (N : News h₀ L h' all) (hall : ∀ q ∈ ((I, oI) :: (C, oC) :: (D, oD) :: nw), q ∈ all) (off : LCg.Off3 I C D nw)
    (hS : ∀ a, (∀ q ∈ nw, q ∈ a) → S a) (r : ∀ a, (∀ q ∈ nw, q ∈ a) → (∀ q ∈ all, q.1 ≠ I → q.1 ≠ C → q.1 ≠ D → q ∈ a) → (∀ q ∈ a, q ∈ all) → rest y a) :
    LCg.CompEnd h₀ L m s₁ I oI C oC D oD S rest y { s₁ with heap := h', toks := tk } := by
  have hin : ∀ q ∈ nw, q ∈ all.filter (fun q => decide (q.1 ≠ I ∧ q.1 ≠ C ∧ q.1 ≠ D)) := fun q hq => List.mem_filter.mpr ⟨hall q (.tail _ (.tail _ (.tail _ hq))), decide_eq_true (off.mem q hq)⟩
  refine ⟨h', tk, all.filter (fun q => decide (q.1 ≠ I ∧ q.1 ≠ C ∧ q.1 ≠ D)), rfl, F, fun q hq => ?_, LCg.Off3.of fun q hq => of_decide_eq_true (List.mem_filter.mp hq).2, hS _ hin, r _ hin (fun q hq h1 h2 h3 => List.mem_filter.mpr ⟨hq, decide_eq_true ⟨h1, h2, h3⟩⟩) fun q hq => (List.mem_filter.mp hq).1⟩
  rcases List.mem_cons.mp hq with rfl | hq
  · exact N _ (hall _ (.head _))
  · rcases List.mem_cons.mp hq with rfl | hq
    · exact N _ (hall _ (.tail _ (.head _)))
    · rcases List.mem_cons.mp hq with rfl | hq
      · exact N _ (hall _ (.tail _ (.tail _ (.head _))))
      · exact N _ (List.mem_filter.mp hq).1
end
end Mine
end

section
-- part Srt
open PySem PySem.Calls PySem.W PyProof.Rows
local macro_rules | `(tactic| walk_at "pad of mine") => `(tactic| fail)
local macro_rules | `(tactic| walk_at "pad of mine") => `(tactic| fail)
local macro_rules | `(tactic| walk_at "pad of mine") => `(tactic| fail)
namespace Mine
/-- what a sort's tree comes to, if its questions are answered by keys -/
def kh {α : Type} (n : Nat) (key : Nat → Int) (P : α → Prop) : KasT α → Prop
  | .ret a => P a
  | .ask i j k => (i < n ∧ j < n) ∧ kh n key P (k (decide (key i < key j)))
theorem kh_bind {α β : Type} {n : Nat} {key : Nat → Int} {P : β → Prop} {f : α → KasT β} : ∀ (t : KasT α), kh n key (fun a => kh n key P (f a)) t → kh n key P (t.bind f)
  | .ret _, h => h
  | .ask _ _ _, h => ⟨h.1, kh_bind _ h.2⟩
theorem kh_mono {α : Type} {n : Nat} {key : Nat → Int} {P P' : α → Prop} (hp : ∀ a, P a → P' a) : ∀ (t : KasT α), kh n key P t → kh n key P' t
  | .ret _, h => hp _ h
  | .ask _ _ _, h => ⟨h.1, kh_mono hp _ h.2⟩
theorem kh_wp {α : Type} {n : Nat} {key : Nat → Int} {s : Shared} {cmp : Nat → Nat → (Bool → Shared → Prop) → Shared → Prop} {Q : α → Shared → Prop} (hc : ∀ i j C, i < n → j < n → C (decide (key i < key j)) s → cmp i j C s) : ∀ (t : KasT α), kh n key (fun a => Q a s) t → t.kasWp cmp Q s
  | .ret _, h => h
  | .ask _ _ _, h => hc _ _ _ h.1.1 h.1.2 (kh_wp hc _ h.2)
section
variable {n : Nat} {key : Nat → Int}
abbrev V (key : Nat → Int) (p : Array Nat) (i : Nat) : Int := key (p.getD i 0)
structure Pm (n : Nat) (p : Array Nat) : Prop where
  perm : p.Perm (List.toArray (List.range n))
theorem Pm.size {p : Array Nat} (h : Pm n p) : p.size = n := by have := h.perm.size_eq; simpa using this
theorem Pm.nodup {p : Array Nat} (h : Pm n p) : p.toList.Nodup := (Array.perm_iff_toList_perm.mp h.perm).nodup_iff.mpr (by simpa using List.nodup_range)
theorem getD_of {p : Array Nat} {i : Nat} (h : i < p.size) : p.getD i 0 = p[i] := by simp [Array.getD, h]
theorem Pm.lt {p : Array Nat} (h : Pm n p) (h1 : 0 < n) (i : Nat) : p.getD i 0 < n := by
  by_cases hi : i < p.size
  · rw [getD_of hi]
    have : p[i] ∈ List.range n := by
      have := (Array.perm_iff_toList_perm.mp h.perm).mem_iff.mp (show p[i] ∈ p.toList by simp)
      simpa using this
    simpa using this
  · simp [Array.getD, hi]; exact h1
theorem Pm.inj {p : Array Nat} (h : Pm n p) {i j : Nat} (hi : i < n) (hj : j < n) (e : p.getD i 0 = p.getD j 0) : i = j := by
  have hz := h.size
  rw [getD_of (by omega), getD_of (by omega)] at e
  have := h.nodup
  exact (List.getElem_inj (xs := p.toList) (h₀ := by simpa using (by omega : i < p.size)) (h₁ := by simpa using (by omega : j < p.size)) this).mp (by simpa using e)
def Asc (key : Nat → Int) (p : Array Nat) (m : Nat) : Prop := ∀ i j, i < j → j < m → V key p i < V key p j
def Dsc (key : Nat → Int) (p : Array Nat) (m : Nat) : Prop := ∀ i j, i < j → j < m → V key p j < V key p i
def Dis (n : Nat) (key : Nat → Int) : Prop := ∀ i j, i < n → j < n → key i = key j → i = j
theorem Pm.ne {p : Array Nat} (h : Pm n p) (D : Dis n key) {i j : Nat} (hi : i < n) (hj : j < n) (e : i ≠ j) : V key p i ≠ V key p j := fun z =>
  e (h.inj hi hj (D _ _ (h.lt (by omega) i) (h.lt (by omega) j) z))
theorem asc_ok (D : Dis n key) {p : Array Nat} (hp : Pm n p) : ∀ (f m : Nat), Asc key p m → 1 ≤ m → m + f ≤ n → kh n key (fun m' => (m ≤ m' ∧ m' ≤ m + f ∧ Asc key p m') ∧ (m' < m + f → V key p m' < V key p (m' - 1))) (kas_asc p f m)
  | 0, m, h, _, _ => ⟨⟨Nat.le_refl _, Nat.le_refl _, h⟩, fun z => absurd z (Nat.lt_irrefl _)⟩
  | f + 1, m, h, h1, h2 => by
    refine ⟨⟨hp.lt (by omega) _, hp.lt (by omega) _⟩, ?_⟩
    by_cases c : V key p m < V key p (m - 1)
    · rw [decide_eq_true c]; dsimp only; rw [if_pos rfl]
      exact ⟨⟨Nat.le_refl _, by omega, h⟩, fun _ => c⟩
    · rw [decide_eq_false c]; dsimp only; rw [if_neg (by decide)]
      have hne := hp.ne D (i := m) (j := m - 1) (by omega) (by omega) (by omega)
      refine kh_mono (fun a ha => ⟨⟨by omega, by omega, ha.1.2.2⟩, fun z => ha.2 (by omega)⟩) _ (asc_ok D hp f (m + 1) (fun i j hij hj => ?_) (by omega) (by omega))
      by_cases hjm : j < m
      · exact h i j hij hjm
      · obtain rfl : j = m := by omega
        by_cases e : i = j - 1
        · subst e; omega
        · have := h i (j - 1) (by omega) (by omega); omega
theorem dsc_ok (D : Dis n key) {p : Array Nat} (hp : Pm n p) : ∀ (f m : Nat), Dsc key p m → 1 ≤ m → m + f ≤ n → kh n key (fun r => r.1 = p ∧ r.2.2 = 0 ∧ m ≤ r.2.1 ∧ r.2.1 ≤ m + f ∧ Dsc key p r.2.1) (kas_desc f p m 0)
  | 0, m, h, _, _ => ⟨rfl, rfl, Nat.le_refl _, Nat.le_refl _, h⟩
  | f + 1, m, h, h1, h2 => by
    refine ⟨⟨hp.lt (by omega) _, hp.lt (by omega) _⟩, ?_⟩
    by_cases c : V key p m < V key p (m - 1)
    · rw [decide_eq_true c]; dsimp only; rw [if_pos rfl, if_neg (by omega)]
      refine kh_mono (fun a ha => ⟨ha.1, ha.2.1, by omega, by omega, ha.2.2.2.2⟩) _ (dsc_ok D hp f (m + 1) (fun i j hij hj => ?_) (by omega) (by omega))
      by_cases hjm : j < m
      · exact h i j hij hjm
      · obtain rfl : j = m := by omega
        by_cases e : i = j - 1
        · subst e; omega
        · have := h i (j - 1) (by omega) (by omega); omega
    · rw [decide_eq_false c]; dsimp only; rw [if_neg (by decide)]
      have hne := hp.ne D (i := m) (j := m - 1) (by omega) (by omega) (by omega)
      refine ⟨⟨hp.lt (by omega) _, hp.lt (by omega) _⟩, ?_⟩
      have c2 : V key p (m - 1) < V key p m := by omega
      rw [decide_eq_true c2]; dsimp only; rw [if_pos rfl]
      exact ⟨rfl, rfl, Nat.le_refl _, Nat.le_add_right _ _, h⟩
theorem rev_pm {p : Array Nat} (hp : Pm n p) (i j : Nat) : Pm n (kas_rev p i j) := ⟨(mirror_perm _ _ _ _).trans hp.perm⟩
theorem rev_at {p : Array Nat} {m : Nat} (hm : m ≤ p.size) (k : Nat) (hk : k < m) : (kas_rev p 0 m).getD k 0 = p.getD (m - 1 - k) 0 := by
  have h := getElem?_mirror_all (xs := p) (i := 0) hm k
  rw [if_pos ⟨Nat.zero_le _, hk⟩] at h
  rw [Array.getD_eq_getD_getElem?, Array.getD_eq_getD_getElem?]
  unfold kas_rev
  rw [h]
  congr 2
  omega
theorem tail_ok (D : Dis n key) {p : Array Nat} {m : Nat} (hp : Pm n p) (h : Dsc key p m) (h1 : 1 ≤ m) (h2 : m ≤ n) : kh n key (fun r => Pm n r.2 ∧ Asc key r.2 r.1 ∧ 1 ≤ r.1 ∧ r.1 ≤ n) (kas_tail3 m n p) := by
  unfold kas_tail3
  refine kh_bind _ (kh_mono (fun a ha => ?_) _ (asc_ok D (rev_pm hp 0 m) (n - m) m (fun i j hij hj => ?_) h1 (by omega)))
  · exact ⟨rev_pm hp 0 m, ha.1.2.2, by omega, by omega⟩
  · unfold V
    rw [rev_at (by rw [hp.size]; exact h2) i (by omega), rev_at (by rw [hp.size]; exact h2) j (by omega)]
    exact h _ _ (by omega) (by omega)
theorem count_ok (D : Dis n key) {p : Array Nat} (hp : Pm n p) (h2 : 2 ≤ n) : kh n key (fun r => Pm n r.2 ∧ Asc key r.2 r.1 ∧ 1 ≤ r.1 ∧ r.1 ≤ n) (kas_count n p) := by
  unfold kas_count
  refine kh_bind _ (kh_mono (fun m hm => ?_) _ (asc_ok D hp (n - 1) 1 (fun i j hij hj => by omega) (Nat.le_refl _) (by omega)))
  obtain ⟨⟨h1, h3, ha⟩, hst⟩ := hm
  by_cases e : m = n
  · rw [if_pos (by simpa using e)]
    exact ⟨hp, ha, h1, by omega⟩
  · rw [if_neg (by simpa using e)]
    by_cases e1 : m > 1
    · rw [if_pos e1]
      refine ⟨⟨hp.lt (by omega) _, hp.lt (by omega) _⟩, ?_⟩
      have := ha 0 (m - 1) (by omega) (by omega)
      rw [decide_eq_true this]; dsimp only; rw [if_pos rfl]
      exact ⟨hp, ha, h1, by omega⟩
    · rw [if_neg e1]
      obtain rfl : m = 1 := by omega
      unfold kas_descPart
      have h0 := hst (by omega)
      refine kh_bind _ (kh_mono (fun r hr => ?_) _ (dsc_ok D hp (n - (1 + 1)) (1 + 1) (fun i j hij hj => ?_) (by omega) (by omega)))
      · obtain ⟨r1, r2, r3⟩ := r
        obtain ⟨e1, e2, h5, h6, h7⟩ := hr
        dsimp only at e1 e2 h5 h6 h7 ⊢
        subst e1; subst e2
        rw [if_neg (by omega)]
        exact tail_ok D hp h7 (by omega) (by omega)
      · obtain rfl : j = 1 := by omega
        obtain rfl : i = 0 := by omega
        exact h0
theorem place_ok (D : Dis n key) {p : Array Nat} (hp : Pm n p) {k : Nat} (hk : k < n) (hA : Asc key p k) : ∀ (f l r : Nat), l ≤ r → r ≤ k → r ≤ l + f → (∀ i, i < l → V key p i < V key p k) → (∀ i, r ≤ i → i < k → V key p k < V key p i) →
    kh n key (fun l' => l' ≤ k ∧ (∀ i, i < l' → V key p i < V key p k) ∧ ∀ i, l' ≤ i → i < k → V key p k < V key p i) (kas_place p k f l r)
  | 0, l, r, h1, h2, h3, h4, h5 => ⟨by omega, h4, fun i hi hik => h5 i (by omega) hik⟩
  | f + 1, l, r, h1, h2, h3, h4, h5 => by
    unfold kas_place
    by_cases e : l ≥ r
    · rw [if_pos e]
      exact ⟨by omega, h4, fun i hi hik => h5 i (by omega) hik⟩
    · rw [if_neg e]
      refine ⟨⟨hp.lt (by omega) _, hp.lt (by omega) _⟩, ?_⟩
      have hm1 : (l + r) / 2 < r := by omega
      have hm2 : l ≤ (l + r) / 2 := by omega
      generalize (l + r) / 2 = mid at hm1 hm2 ⊢
      by_cases c : V key p k < V key p mid
      · rw [decide_eq_true c]; dsimp only; rw [if_pos rfl]
        refine place_ok D hp hk hA f l mid hm2 (by omega) (by omega) h4 fun i hi hik => ?_
        by_cases e2 : i = mid
        · subst e2; exact c
        · have := hA mid i (by omega) hik; omega
      · rw [decide_eq_false c]; dsimp only; rw [if_neg (by decide)]
        have hne := hp.ne D (i := mid) (j := k) (by omega) hk (by omega)
        refine place_ok D hp hk hA f (mid + 1) r (by omega) h2 (by omega) (fun i hi => ?_) h5
        by_cases e2 : i = mid
        · subst e2; omega
        · have := hA i mid (by omega) (by omega); omega
theorem bub_at {p : Array Nat} {k l : Nat} (hk : k < p.size) (hl : l ≤ k) (i : Nat) : (bubble p k (k - l)).getD i 0 = if i = l then p.getD k 0 else if l < i ∧ i ≤ k then p.getD (i - 1) 0 else p.getD i 0 := by
  have h := getElem?_bubble hk (k - l) (by omega) i
  rw [show k - (k - l) = l by omega] at h
  rw [Array.getD_eq_getD_getElem?, Array.getD_eq_getD_getElem?, Array.getD_eq_getD_getElem?, Array.getD_eq_getD_getElem?, h]
  repeat' split
  all_goals rfl
theorem bin_ok (D : Dis n key) : ∀ (f : Nat) (p : Array Nat) (k : Nat), Pm n p → Asc key p k → 1 ≤ k → k + f = n → kh n key (fun p' => Pm n p' ∧ Asc key p' n) (kas_bin f p k)
  | 0, p, k, hp, h, _, hz => ⟨hp, by rw [← hz]; exact h⟩
  | f + 1, p, k, hp, h, h1, hz => by
    unfold kas_bin
    refine kh_bind _ (kh_mono (fun l hl => ?_) _ (place_ok D hp (by omega) h k 0 k (by omega) (Nat.le_refl _) (by omega) (fun i hi => by omega) fun i h1 h2 => by omega))
    obtain ⟨hlk, hlo, hhi⟩ := hl
    have hz2 := hp.size
    refine bin_ok D f _ (k + 1) ⟨(bubble_perm _ _ _).trans hp.perm⟩ (fun i j hij hj => ?_) (by omega) (by omega)
    unfold V
    rw [bub_at (by omega) hlk, bub_at (by omega) hlk]
    repeat' split
    all_goals first
      | (exfalso; omega)
      | exact hlo _ (by omega)
      | exact hhi _ (by omega) (by omega)
      | exact h _ _ (by omega) (by omega)
theorem sort_ok (D : Dis n key) (h2 : 2 ≤ n) : kh n key (fun p => Pm n p ∧ Asc key p n) (kas_sort n) := by
  unfold kas_sort
  refine kh_bind _ (kh_mono (fun r hr => ?_) _ (count_ok D ⟨Array.Perm.refl _⟩ h2))
  obtain ⟨hp, ha, h1, hn⟩ := hr
  split
  · refine bin_ok D _ _ _ hp (by rw [Nat.max_eq_left h1]; exact ha) (by omega) (by omega)
  · obtain rfl : r.1 = n := by omega
    exact ⟨hp, ha⟩
end
end Mine
end

section
-- part So
open PySem PySem.Calls PySem.W PyProof.Rows
local macro_rules | `(tactic| walk_at "pad of mine") => `(tactic| fail)
local macro_rules | `(tactic| walk_at "pad of mine") => `(tactic| fail)
local macro_rules | `(tactic| walk_at "pad of mine") => `(tactic| fail)
local macro_rules | `(tactic| walk_at "pad of mine") => `(tactic| fail)
namespace Mine
section
variable {prog : Program} {w : World} {A : Around} {E : Value → Shared → Prop} {s : Shared} {h₀ : Heap} {L a l : Addr} {m : Str → Option Value} {news : List (Addr × Obj)} {v : Value}
/-- a list of one item sorted in its place -/
theorem sort_one {n : Nat} {P : PySem.Fin → Shared → Prop} (F : Fr h₀ L s.heap m) (N : News h₀ L s.heap news) (ho : s.heap.get? a = some (seqObj "list" #[v] n)) (haL : a ≠ L) (ha0 : h₀.get? a = none) (hna : ∀ p ∈ news, p.1 ≠ a)
    (h : ∀ h' c, Fr h₀ L h' m → News h₀ L h' ((a, seqObj "list" #[v] c) :: news) → P (.done (.ret .none)) { s with heap := h' }) : wpAny (model prog w) A (Builtin.«list.sort» ⟨[.ref a], []⟩) P E s := by
  have k1 := Heap.SameBut.update s.heap a (Obj.mapSeq fun _ => (#[] : Array Value))
  obtain ⟨e1, g1⟩ : ∃ e, (s.heap.update a (Obj.mapSeq fun _ => (#[] : Array Value))).get? a = some (seqObj "list" #[] e) := ⟨_, get?_update_seq ho fun _ => #[]⟩
  rw [list_sort_plain]
  refine wpAny_bind (listItems_at ho rfl ?_)
  refine wpAny_bind (listUpdate_at ho rfl ?_ (by show 1 ≤ _; rw [sizeLine_eq]; omega) (Nat.zero_le _))
  refine wpAny_bind (seqEpoch_at g1 rfl ?_)
  refine wpAny_bind (wpAny_newTuple ?_ (by show 1 ≤ _; rw [sizeLine_eq]; omega))
  refine wpAny_bind (wpAny_newList ?_ (Nat.zero_le _))
  refine wpAny_holding ?_
  show wpAny (model prog w) A _ P E { s with heap := ((s.heap.update a (Obj.mapSeq fun _ => (#[] : Array Value))).push (seqObj "tuple" #[v] 0)).push (seqObj "list" #[] 0) }
  have F2 : Fr h₀ L (((s.heap.update a (Obj.mapSeq fun _ => (#[] : Array Value))).push (seqObj "tuple" #[v] 0)).push (seqObj "list" #[] 0)) m := ((kas_fr F k1 haL ha0).push _).push _
  have N2 : News h₀ L (((s.heap.update a (Obj.mapSeq fun _ => (#[] : Array Value))).push (seqObj "tuple" #[v] 0)).push (seqObj "list" #[] 0)) news :=
    (kas_news N k1 hna).grown fun b x e => Heap.get?_push_of_some _ (Heap.get?_push_of_some _ e)
  have g2 : (((s.heap.update a (Obj.mapSeq fun _ => (#[] : Array Value))).push (seqObj "tuple" #[v] 0)).push (seqObj "list" #[] 0)).get? a = some (seqObj "list" #[] e1) := Heap.get?_push_of_some _ (Heap.get?_push_of_some _ g1)
  generalize ((s.heap.update a (Obj.mapSeq fun _ => (#[] : Array Value))).push (seqObj "tuple" #[v] 0)).push (seqObj "list" #[] 0) = h2 at F2 N2 g2 ⊢
  dsimp only
  rw [if_pos (show #[v].size < 2 from Nat.le_refl 2), if_pos (show #[v].size < 2 from Nat.le_refl 2)]
  refine wpAny_bind (wpAny_pure ?_)
  refine wpAny_bind (wpAny_pure ?_)
  dsimp only
  have k3 := Heap.SameBut.update h2 a (Obj.mapSeq fun _ => (#[v] : Array Value))
  obtain ⟨e3, g3⟩ : ∃ e, (h2.update a (Obj.mapSeq fun _ => (#[v] : Array Value))).get? a = some (seqObj "list" #[v] e) := ⟨_, get?_update_seq g2 fun _ => #[v]⟩
  refine wpAny_bind (seqEpoch_at g2 rfl ?_)
  rw [show Array.map (fun x => x.snd) (arrOf (SortSt.mk' general' (#[v].zip #[v]) #[] 7 none)) = #[v] from (show Array.map (fun x => x.snd) (#[v].zip #[v]) = #[v] by simp)]
  refine wpAny_bind (listUpdate_at g2 rfl ?_ (Nat.zero_le _) (by show 1 ≤ _; rw [sizeLine_eq]; omega))
  simp only [bne_self_eq_false, Bool.false_eq_true, if_false]
  exact wpAny_pure (h _ e3 (kas_fr F2 k3 haL ha0) fun p hp => by
    rcases List.mem_cons.mp hp with rfl | hp
    · exact ⟨g3, haL, ha0⟩
    · exact kas_news N2 k3 hna p hp)
theorem sorted_one {Q : Value → Shared → Prop} (F : Fr h₀ L s.heap m) (N : News h₀ L s.heap news) (hl : s.heap.IsList l #[v])
    (h : ∀ D c h', Fr h₀ L h' m → News h₀ L h' ((D, seqObj "list" #[v] c) :: news) → (∀ q ∈ news, q.1 < D) → Q (.ref D) { s with heap := h' }) :
    wpAny (model prog w) A (call (.builtin "sorted") [.ref l]) Q E s := by
  refine Calls.call_function_entry kind_sorted plain_sorted entry_sorted (args_sorted1 _) ?_
  unfold Builtin.«sorted»
  refine wpAny_bind (m := checkCount "sorted" 1 1 _) (wpAny_pure ?_)
  refine wpAny_bind (collect_list hl ?_ (by show 1 ≤ _; rw [sizeLine_eq]; omega))
  refine wpAny_bind (wpAny_newList ?_ (by show 1 ≤ _; rw [sizeLine_eq]; omega))
  have hz : ((s.heap.push (seqObj "list" #[] 0)).update s.heap.objs.size (Obj.mapSeq (· ++ #[v]))).objs.size = s.heap.objs.size + 1 := by rw [Heap.size_update, size_push']
  have g1 : (((s.heap.push (seqObj "list" #[] 0)).update s.heap.objs.size (Obj.mapSeq (· ++ #[v]))).push (seqObj "list" #[v] 0)).get? (s.heap.objs.size + 1) = some (seqObj "list" #[v] 0) := by
    rw [← hz]; exact Heap.get?_push_size _ rfl
  have keep : ∀ b o, s.heap.get? b = some o → (((s.heap.push (seqObj "list" #[] 0)).update s.heap.objs.size (Obj.mapSeq (· ++ #[v]))).push (seqObj "list" #[v] 0)).get? b = some o := fun b o q => by
    have hb := Heap.lt_size q
    rw [Heap.get?_push_ne _ _ _ (by rw [hz]; exact Nat.ne_of_lt (Nat.lt_succ_of_lt hb)), Heap.get?_update_ne _ _ _ _ (Nat.ne_of_lt hb), Heap.get?_push_ne _ _ _ (Nat.ne_of_lt hb), q]
  have hL : L < s.heap.objs.size := F.ns.lt
  show wpAny _ _ _ _ _ { s with heap := ((s.heap.push (seqObj "list" #[] 0)).update s.heap.objs.size (Obj.mapSeq (· ++ #[v]))).push (seqObj "list" #[v] 0) }
  rw [hz]
  refine wpAny_bind (wpAny_holding (wpAny_call_entry slot_list_sort ⟨_, g1, rfl⟩ entry_list_sort ?body (args_list_sort _)))
  case body =>
    exact sort_one (s := { s with heap := ((s.heap.push (seqObj "list" #[] 0)).update s.heap.objs.size (Obj.mapSeq (· ++ #[v]))).push (seqObj "list" #[v] 0) }) (F.kept keep) (N.grown keep) g1
      (Nat.ne_of_gt (Nat.lt_succ_of_lt hL)) (Heap.get?_none_of_le (Nat.le_trans F.above (Nat.le_succ_of_le (Nat.le_of_lt hL)))) (fun p hp => Nat.ne_of_lt (Nat.lt_succ_of_lt (Heap.lt_size (N p hp).1)))
      fun h' c F' N' => ⟨_, rfl, wpAny_pure ⟨_, rfl, h _ c h' F' N' fun q hq => Nat.lt_succ_of_lt (Heap.lt_size (N q hq).1)⟩⟩
end
end Mine
end

section
-- part Po
open PySem PySem.Spec PySem.Calls PySem.W PyProof.Rows
local macro_rules | `(tactic| walk_at "pad of mine") => `(tactic| fail)
local macro_rules | `(tactic| walk_at "pad of mine") => `(tactic| fail)
local macro_rules | `(tactic| walk_at "pad of mine") => `(tactic| fail)
local macro_rules | `(tactic| walk_at "pad of mine") => `(tactic| fail)
local macro_rules | `(tactic| walk_at "pad of mine") => `(tactic| fail)
namespace Mine
theorem my_post {M : Model} {A : Around} {cd : Code} {s s₁ : Shared} {cw : ClaimW} {cl : Str → Option Addr} {mean : ExcName → Option Value} {args : List WData} {tabs : List (Addr × Addr)} (hT : TabsAt tabs s₁.heap) (hr : ∀ cls, cw.raises args cls = false) (hp : cw.post args (.bool true) args = true)
    (h : codeAny M A cd (fun r s' => r = .ok (.ret (.bool true)) ∧ (∀ b o, (ghostOf s₁.heap tabs).get? b = some o → s'.heap.get? b = some o) ∧ s'.os = s₁.os ∧ AllBare s'.gens ∧ GrownAll tabs s'.heap) s) : codeAny M A cd (GoodWG cw cl mean args s₁) s :=
  codeAny_mono h fun r s' ⟨hv, hk, hos, hg, hgr⟩ => by
    subst hv
    have keep : ∀ b o, b ∉ tabs.map (·.2) → s₁.heap.get? b = some o → s'.heap.get? b = some o := fun b o hb e => hk b o (ghost_ne e hb)
    have grown : ∀ b o, b ∈ tabs.map (·.2) → s₁.heap.get? b = some o → isCodeTable s₁.heap b ∧ o = tabObj #[] ∧ ∃ ps, s'.heap.get? b = some (tabObj ps) := fun b o hb e => by
      obtain ⟨q, hq, rfl⟩ := List.mem_map.mp hb
      have e2 := (hT q hq).2
      rw [e] at e2
      exact ⟨((hT q hq).1.tab (hT q hq).2).isCodeTable, Option.some.inj e2, hgr.get q hq⟩
    refine ⟨.inl ⟨_, _, [], rfl, hr, ReadsW.bool true, hp, fun _ => ⟨List.nodup_nil, fun _ hm => (nomatch hm)⟩⟩, ⟨fun b o e => ?_, fun b o e => ?_⟩, hos, hg⟩
    · by_cases hb : b ∈ tabs.map (·.2)
      · obtain ⟨ht, rfl, ps, hP⟩ := grown b o hb e
        exact .inr (.inl ⟨ht, rfl, #[], ps, rfl, by rw [Array.empty_append]; exact hP⟩)
      · exact .inl (keep b o hb e)
    · by_cases hb : b ∈ tabs.map (·.2)
      · obtain ⟨_, _, ps, hP⟩ := grown b o hb e
        exact ⟨_, hP⟩
      · exact ⟨o, keep b o hb e⟩
end Mine
end

section
-- part Nx
open PySem PySem.Spec PySem.Calls PySem.W PyProof.Rows
local macro_rules | `(tactic| walk_at "pad of mine") => `(tactic| fail)
local macro_rules | `(tactic| walk_at "pad of mine") => `(tactic| fail)
local macro_rules | `(tactic| walk_at "pad of mine") => `(tactic| fail)
local macro_rules | `(tactic| walk_at "pad of mine") => `(tactic| fail)
local macro_rules | `(tactic| k_room) => `(tactic| ktr_room)
local macro_rules | `(tactic| k_all) => `(tactic| exact allNe_of' (by assumption) (by omega))
local macro_rules | `(tactic| k_all) => `(tactic| ((with_reducible rename AllLt _ _ => hAllLt); exact allNe_of hAllLt (by omega)))
local macro_rules | `(tactic| k_all) => `(tactic| assumption)
local macro_rules | `(tactic| k_mem) => `(tactic| first | exact List.Mem.head _ | (refine' List.mem_cons_of_mem _ ?_; k_mem))
local macro_rules | `(tactic| walk_at "call builtin:dict.get") => `(tactic| (k_here; k_dflt (first | refine kdg_get2 (knd := PySem.strKind _ _) (by k_asm) (by k_mem) (by assumption) (by assumption) (strKind_is _ _ _ _) (some _) (by rfl) ?_ | refine kdg_get2 (knd := PySem.strKind _ _) (by k_asm) (by k_mem) (by assumption) (by assumption) (strKind_is _ _ _ _) none (by rfl) ?_); (try dsimp only [Option.getD])))
local macro_rules | `(tactic| walk_at "getItem ref int") => `(tactic| (k_here; k_dflt (refine' Mine.item_lst ?N ?m ?a ?b ?c ?_; (case N => k_asm); (case m => k_mem); (case a => decide); (case b => decide); (case c => rfl); k_whole)))
namespace Mine
theorem nx_ok {w : World} {mean : ExcName → Option Value} {mg mb : Str → Option Value} {st sl : Addr} {vs : List Value} {ns : List Int} {ep ep2 : Nat} {c lim : Int} {tc tl : Tok} {gg : Obj → Led} (hi : IntsAre vs ns) (hl : vs.length ≤ 63) (hc : 0 ≤ c) (hlim : 0 < lim) :
    Spec1 w mean mg mb 536 [.ref st, .int lim tl] [] 40 300 (fun news => UpdF st (lstO [.ref sl, .int c tc] ep) news gg ∧ (sl, lstO vs ep2) ∈ news)
      (fun news r news' => ∃ k tk tc' ep', r = .int k tk ∧ 0 ≤ k ∧ k < lim ∧ news' = gg (lstO [.ref sl, .int (c + 1) tc'] ep')) := by
  intro dp un gd cn cs a ccd cl outer A₀ base h₀ L m news s Q E B F X N T hk hPre hdd huu hret
  obtain ⟨hU, hsl⟩ := hPre
  obtain ⟨pre, post, e0, hg, x1, x2⟩ := hU.split
  subst e0
  w_top off; w_on
  refine wpAny_call ?_
  w_strict (k_dflt (refine' code_def ?k1 ?k2 ?k3 ?k4 ?k5 ?kA ?kF ?kK ?k6 ?k7 ?k8 ?k9 ?kB ?_ ?c2 ?c3 ?c4 ?c5; (case kA => exact rfl); (case kF => exact rfl); (case kK => assumption); (case k1 => k_asm); (case k2 => k_asm); (case k3 => k_asm); (case k4 => k_asm); (case k5 => k_asm); (case k6 => k_is); (case k7 => k_is); (case k8 => ktr_room); (case k9 => exact BindsTo.of_eq rfl); (case c5 => decide); (case kB => exact locs rfl); (case c2 => exact rfl); (case c3 => exact rfl); (case c4 => exact rfl); k_whole); intro g1 L1 h1 FG1 F1 N1 B1 X1 T1; (try dsimp only); (try k_fold))
  have hne : sl ≠ st := by
    rintro rfl
    have := Mine.News.fn N hsl (List.mem_append_right _ (.head _))
    rw [show vs = [.ref sl, .int c tc] by simpa using congrArg (fun o : Obj => match o.data with | .seq a _ => a.toList | _ => []) this] at hi
    cases hi
  have hin : ∀ q ∈ ([(st, lstO [.ref sl, .int c tc] ep), (sl, lstO vs ep2)] : Led), q ∈ pre ++ (st, lstO [.ref sl, .int c tc] ep) :: post := by
    intro q hq
    rcases List.mem_cons.mp hq with e | hq
    · rw [e]; exact List.mem_append_right _ (List.mem_cons_self ..)
    · rw [List.mem_singleton.mp hq]; exact hsl
  obtain ⟨rest, N2, -, off2, -, sub2⟩ := relist N1 [(st, lstO [.ref sl, .int c tc] ep), (sl, lstO vs ep2)] hin
  have off3 : ∀ p ∈ ((sl, lstO vs ep2) :: rest : Led), p.1 ≠ st := fun p hp => by
    rcases List.mem_cons.mp hp with rfl | hp
    · exact hne
    · exact off2 _ (.head _) p hp
  have back : ∀ {h' : Heap} {o : Obj}, News h₀ L h' ((st, o) :: (sl, lstO vs ep2) :: rest) → News h₀ L h' (gg o) := fun {h' o} NN => by
    rw [hg]
    intro p hp
    have key : p ∈ pre ++ post → p ∈ ((st, o) :: (sl, lstO vs ep2) :: rest : Led) := fun hq => by
      have hst : p.1 ≠ st := (List.mem_append.mp hq).elim (x1 p) (x2 p)
      have := sub2 p (List.mem_append.mpr ((List.mem_append.mp hq).imp id fun z => .tail _ z))
      rcases List.mem_cons.mp this with e | z
      · exact absurd (congrArg Prod.fst e) hst
      · exact .tail _ z
    rcases List.mem_append.mp hp with hp | hp
    · exact NN p (key (List.mem_append_left _ hp))
    · rcases List.mem_cons.mp hp with rfl | hp
      · exact NN _ (.head _)
      · exact NN p (key (List.mem_append_right _ hp))
  clear N1 N hU
  simp only [List.cons_append, List.nil_append] at N2
  have hvl := hi.length
  w_strict (repeat' (first | (k_unfold; (try dsimp only)) | (k_end; wrow_close) | walk1 | (dsimp only; walk1) | (leave1; walk_say "STEP leave1"; try dsimp only) | fail "no step"))
  · with_reducible rename News _ _ _ _ => NZ
    with_reducible rename Fr _ _ _ _ => FZ
    exact hret _ _ _ _ FZ (back NZ) ⟨0, _, _, _, rfl, Int.le_refl _, hlim, rfl⟩
  · with_reducible rename News _ _ _ _ => NZ
    with_reducible rename Fr _ _ _ _ => FZ
    exact hret _ _ _ _ FZ (back NZ) ⟨_, _, _, _, rfl, Int.fmod_nonneg_of_pos _ hlim, Int.fmod_lt_of_pos _ hlim, rfl⟩
end Mine
end

section
-- part Lev
open PySem PySem.Spec PySem.Calls PySem.W PyProof.Rows
local macro_rules | `(tactic| walk_at "pad of mine") => `(tactic| fail)
local macro_rules | `(tactic| k_room) => `(tactic| ktr_room)
local macro_rules | `(tactic| k_all) => `(tactic| exact allNe_of' (by assumption) (by omega))
local macro_rules | `(tactic| k_all) => `(tactic| ((with_reducible rename AllLt _ _ => hAllLt); exact allNe_of hAllLt (by omega)))
local macro_rules | `(tactic| k_all) => `(tactic| assumption)
local macro_rules | `(tactic| k_mem) => `(tactic| first | exact List.Mem.head _ | (refine' List.mem_cons_of_mem _ ?_; k_mem))
local macro_rules | `(tactic| walk_at "call builtin:dict.get") => `(tactic| (k_here; k_dflt (first | refine kdg_get2 (knd := PySem.strKind _ _) (by k_asm) (by k_mem) (by assumption) (by assumption) (strKind_is _ _ _ _) (some _) (by rfl) ?_ | refine kdg_get2 (knd := PySem.strKind _ _) (by k_asm) (by k_mem) (by assumption) (by assumption) (strKind_is _ _ _ _) none (by rfl) ?_); (try dsimp only [Option.getD])))
local macro_rules | `(tactic| walk_at "getItem ref int") => `(tactic| (k_here; k_dflt (refine' Mine.item_lst ?N ?m ?a ?b ?c ?_; (case N => k_asm); (case m => k_mem); (case a => decide); (case b => decide); (case c => rfl); k_whole)))
local macro_rules | `(tactic| walk_at "eval Name") => `(tactic| (k_here; k_dflt (refine' ld ?k1 ?k2 ?_; (case k1 => k_asm); (case k2 => first | exact rfl | assumption); k_whole)))
local macro_rules | `(tactic| walk_at "loadName") => `(tactic| (refine' ldn ?k1 ?k2 ?_; (case k1 => assumption); (case k2 => first | exact rfl | assumption)))
local macro_rules | `(tactic| walk_at "call builtin:list.append") => `(tactic| (k_here; (show wpAny _ _ (call (Value.builtin _) [Value.ref _, _]) _ _ _); k_dflt (refine' append_K ?k1 ?k2 ?k3 ?_ ?z; (case k1 => k_asm); (case k2 => k_asm); (case k3 => first | exact Upd.head (by assumption) | exact Upd.tail (by k_ne) (Upd.head (by assumption)) | exact Upd.tail (by k_ne) (Upd.tail (by k_ne) (Upd.head (by assumption))) | k_upd); (case z => (rw [sizeLine_eq]; simp only [List.size_toArray]; omega)); k_whole); intro h' F' N'; (try k_sweep)))
local macro_rules | `(tactic| walk_at "call builtin:len") => `(tactic| (k_here; (with_reducible show wpAny _ _ (call (Value.builtin "len") [Value.ref _]) _ _ _); k_dflt (refine' Mine.len_lst ?N ?m ?z ?_; (case N => k_asm); (case m => k_mem); (case z => first | omega | (simp only [List.length_cons, List.length_nil]; omega)))))
namespace Mine
theorem sl_eq {tx : Str} {p : Int} (h0 : 0 ≤ p) (h1 : p ≤ (tx.length : Int)) : Txt.slice tx (some p) none = ⟨(tx.cps.toList.drop p.toNat).toArray⟩ := by
  rw [slice_from_eq h0 h1 rfl, List.take_of_length_le]
  have : tx.length = tx.cps.size := rfl
  simp
  omega
theorem sl_at {tx : Str} {p : Int} (h0 : 0 ≤ p) (h1 : p ≤ (tx.length : Int)) (i : Nat) : (Txt.slice tx (some p) none).cps[i]? = tx.cps[p.toNat + i]? := by
  rw [sl_eq h0 h1]
  simp
theorem sl_size {tx : Str} {p : Int} (h0 : 0 ≤ p) (h1 : p ≤ (tx.length : Int)) : (Txt.slice tx (some p) none).cps.size = tx.length - p.toNat := by
  rw [sl_eq h0 h1]
  simp [Str.length]
theorem sl_all {tx : Str} {p : Int} (ab : AB tx) (h0 : 0 ≤ p) (h1 : p ≤ (tx.length : Int)) : (Txt.slice tx (some p) none).cps.all (· < 128) = true := by
  rw [Array.all_eq_true]
  intro i hi
  have e := sl_at h0 h1 i
  rw [Array.getElem?_eq_getElem hi] at e
  have hs := sl_size h0 h1
  rcases ab (p.toNat + i) (by omega) with h | h <;> rw [h] at e <;> rw [Option.some.inj e] <;> decide
/-- the heights from a place on -/
abbrev lvs (tx : Str) (p : Int) (n : Nat) : List Int := (List.range n).map fun (j : Nat) => hh tx (p + j) - hh tx p
theorem lvs_succ (tx : Str) (p : Int) (n : Nat) : lvs tx p (n + 1) = lvs tx p n ++ [hh tx (p + n) - hh tx p] := by simp [lvs, List.range_succ]
theorem lvs_last (tx : Str) (p : Int) (n : Nat) : (lvs tx p (n + 1)).getD n 0 = hh tx (p + n) - hh tx p := by simp [lvs]
theorem push_lst {vs : List Value} {x : Value} {n : Nat} : W.listOf (vs.toArray.push x) n = lstO (vs ++ [x]) n := by
  show ({ cls := .type "list", data := .seq (vs.toArray.push x) n } : Obj) = { cls := .type "list", data := .seq (vs ++ [x]).toArray n }
  rw [List.push_toArray]
theorem hh_up {tx : Str} {p : Int} {i : Nat} (hp : 0 ≤ p) (h : tx.cps[p.toNat + i]? = some 97) : hh tx (p + i) - hh tx p + 1 = hh tx (p + ((i + 1 : Nat) : Int)) - hh tx p := by
  have e := hh_succ tx (k := p + i) (by omega)
  have e2 : upAt tx (p + i) = true := by unfold upAt; rw [show (p + (i : Int)).toNat = p.toNat + i by omega, h]; rfl
  rw [e2] at e
  rw [show p + ((i + 1 : Nat) : Int) = p + i + 1 by omega, e]
  simp
  omega
theorem hh_dn {tx : Str} {p : Int} {i : Nat} (hp : 0 ≤ p) (h : tx.cps[p.toNat + i]? = some 98) : hh tx (p + i) - hh tx p + -1 = hh tx (p + ((i + 1 : Nat) : Int)) - hh tx p := by
  have e := hh_succ tx (k := p + i) (by omega)
  have e2 : upAt tx (p + i) = false := by unfold upAt; rw [show (p + (i : Int)).toNat = p.toNat + i by omega, h]; rfl
  rw [e2] at e
  rw [show p + ((i + 1 : Nat) : Int) = p + i + 1 by omega, e]
  simp
  omega
theorem lev_ok {w : World} {mean : ExcName → Option Value} {mg mb : Str → Option Value} {tx : Str} {tt tp : Tok} {p : Int} (ab : AB tx) (htx : tx.length ≤ 12) (hp0 : 0 ≤ p) (hp1 : p ≤ (tx.length : Int)) : Spec1 w mean mg mb 543 [.str tx tt, .int p tp] [] 60 400 (fun _ => True)
    (fun news r news' => ∃ x vs ep, r = .ref x ∧ news' = (x, lstO vs ep) :: news ∧ IntsAre vs (lvs tx p (tx.length - p.toNat + 1)) ∧ ∀ q ∈ news, q.1 < x) := by
  intro dp un gd cn cs a ccd cl outer A₀ base h₀ L m news s Q E B F X N T hk hPre hdd huu hret
  w_top off; w_on
  refine wpAny_call ?_
  w_strict (k_dflt (refine' code_def ?k1 ?k2 ?k3 ?k4 ?k5 ?kA ?kF ?kK ?k6 ?k7 ?k8 ?k9 ?kB ?_ ?c2 ?c3 ?c4 ?c5; (case kA => exact rfl); (case kF => exact rfl); (case kK => assumption); (case k1 => k_asm); (case k2 => k_asm); (case k3 => k_asm); (case k4 => k_asm); (case k5 => k_asm); (case k6 => k_is); (case k7 => k_is); (case k8 => ktr_room); (case k9 => exact BindsTo.of_eq rfl); (case c5 => decide); (case kB => exact locs rfl); (case c2 => exact rfl); (case c3 => exact rfl); (case c4 => exact rfl); k_whole); intro g1 L1 h1 FG1 F1 N1 B1 X1 T1; (try dsimp only); (try k_fold))
  w_strict (iterate 10 (first | (k_unfold; (try dsimp only)) | (k_end; wrow_close) | walk1 | (dsimp only; walk1) | (leave1; walk_say "STEP leave1"; try dsimp only) | fail "no step"))
  w_strict (refine wpAny_For ?_)
  w_strict (iterate 8 (first | (k_unfold; (try dsimp only)) | (k_end; wrow_close) | walk1 | (dsimp only; walk1) | (leave1; walk_say "STEP leave1"; try dsimp only) | fail "no step"))
  with_reducible rename Fr g1 _ _ _ => F5
  with_reducible rename News g1 _ _ _ => N5
  rename ∀ p ∈ news, p.1 < _ => hlt
  have HH : ∃ (D : Addr) (tz : Tok) (m5 : Str → Option Value), (∀ p ∈ news, p.1 < D) ∧ News g1 L1 _ ((D, lstO [.int 0 tz] 0) :: news) ∧ Fr g1 L1 _ m5 ∧ m5 (Str.ofString "rows") = some (.ref D) := ⟨_, _, _, hlt, N5, F5, rfl⟩
  clear hlt N5 F5
  obtain ⟨D, tz, m5, hlt, N5, F5, hr⟩ := HH
  have hsz := sl_size hp0 hp1
  refine for_str (sl_all ab hp0 hp1) rfl (fun i m news' => m (Str.ofString "rows") = some (.ref D) ∧ ∃ vs ep, news' = (D, lstO vs ep) :: news ∧ IntsAre vs (lvs tx p (i + 1))) F5 N5 ?_ ?_ ?_
  · refine ⟨hr, [.int 0 _], 0, rfl, ?_⟩
    have e : lvs tx p (0 + 1) = [0] := by simp [lvs]
    rw [e]
    exact .cons _ _ .nil
  · rintro i v I oI h tk m9 news9 hi ⟨c, u, hc, rfl⟩ ⟨hr, vs, ep, rfl, hv⟩ F9 N9 off9
    rw [hsz] at hi
    rw [sl_at hp0 hp1] at hc
    have hvl := hv.length
    have hvn : vs.length = i + 1 := by rw [hvl]; simp [lvs]
    have hlen : vs.length ≤ 20 := by omega
    have hc2 := ab (p.toNat + i) (by omega)
    rw [hc] at hc2
    have offD : ∀ q ∈ news, q.1 ≠ D := fun q hq => Nat.ne_of_lt (hlt q hq)
    have offI : @Ne Nat D I := off9 _ (.head _)
    rcases hc2 with e | e <;> cases e
    · w_strict (repeat' (first | (k_unfold; (try dsimp only)) | (k_end; wrow_close) | walk1 | (dsimp only; walk1) | (leave1; walk_say "STEP leave1"; try dsimp only) | fail "no step"))
      show TurnEnd _ _ _ _ _ _ _ _
      with_reducible rename News g1 _ _ _ => NZ
      with_reducible rename Fr g1 _ _ _ => FZ
      rw [push_lst] at NZ
      refine ⟨_, _, _, _, rfl, FZ, NZ, List.forall_mem_cons.mpr ⟨offI, fun q hq => off9 q (.tail _ hq)⟩, hr, _, _, rfl, ?_⟩
      rw [lvs_succ tx p (i + 1), ← hh_up hp0 hc, ← lvs_last, show ((vs.length : Int) - 1).toNat = i by omega]
      exact hv.append (.cons _ _ .nil)
    · w_strict (repeat' (first | (k_unfold; (try dsimp only)) | (k_end; wrow_close) | walk1 | (dsimp only; walk1) | (leave1; walk_say "STEP leave1"; try dsimp only) | fail "no step"))
      show TurnEnd _ _ _ _ _ _ _ _
      with_reducible rename News g1 _ _ _ => NZ
      with_reducible rename Fr g1 _ _ _ => FZ
      rw [push_lst] at NZ
      refine ⟨_, _, _, _, rfl, FZ, NZ, List.forall_mem_cons.mpr ⟨offI, fun q hq => off9 q (.tail _ hq)⟩, hr, _, _, rfl, ?_⟩
      rw [lvs_succ tx p (i + 1), ← hh_dn hp0 hc, ← lvs_last, show ((vs.length : Int) - 1).toNat = i by omega]
      exact hv.append (.cons _ _ .nil)
  · intro h tk m9 news9 ⟨hr, vs, ep, e, hv⟩ F9 N9
    subst e
    w_strict (repeat' (first | (k_unfold; (try dsimp only)) | (k_end; wrow_close) | walk1 | (dsimp only; walk1) | (leave1; walk_say "STEP leave1"; try dsimp only) | fail "no step"))
    with_reducible rename News h₀ _ _ _ => NZ
    with_reducible rename Fr h₀ _ _ _ => FZ
    rw [hsz] at hv
    exact hret _ _ _ _ FZ NZ ⟨_, _, _, rfl, rfl, hv, hlt⟩
end Mine
end

section
-- part En
open PySem PySem.Spec PySem.Calls PySem.W PyProof.Rows
local macro_rules | `(tactic| k_room) => `(tactic| ktr_room)
local macro_rules | `(tactic| k_all) => `(tactic| exact allNe_of' (by assumption) (by omega))
local macro_rules | `(tactic| k_all) => `(tactic| ((with_reducible rename AllLt _ _ => hAllLt); exact allNe_of hAllLt (by omega)))
local macro_rules | `(tactic| k_all) => `(tactic| assumption)
local macro_rules | `(tactic| k_mem) => `(tactic| first | exact List.Mem.head _ | (refine' List.mem_cons_of_mem _ ?_; k_mem))
local macro_rules | `(tactic| walk_at "call builtin:dict.get") => `(tactic| (k_here; k_dflt (first | refine kdg_get2 (knd := PySem.strKind _ _) (by k_asm) (by k_mem) (by assumption) (by assumption) (strKind_is _ _ _ _) (some _) (by rfl) ?_ | refine kdg_get2 (knd := PySem.strKind _ _) (by k_asm) (by k_mem) (by assumption) (by assumption) (strKind_is _ _ _ _) none (by rfl) ?_); (try dsimp only [Option.getD])))
local macro_rules | `(tactic| walk_at "getItem ref int") => `(tactic| (k_here; k_dflt (refine' Mine.item_lst ?N ?m ?a ?b ?c ?_; (case N => k_asm); (case m => k_mem); (case a => decide); (case b => decide); (case c => rfl); k_whole)))
namespace Mine
/-- every rule's instance, its dict and its name stand in the ledger -/
def NmOk (gr : Gr) (news : Led) : Prop := ∀ e, ∃ sl o, (gr.xa e, ({ cls := .ref e.cls, dict := some (gr.xd e), data := .plain, slots := sl } : Obj)) ∈ news ∧ (gr.xd e, o) ∈ news ∧ NameAt e sl
theorem NmOk.sub {gr : Gr} {a b : Led} (k : ∀ q ∈ a, q ∈ b) (h : NmOk gr a) : NmOk gr b := fun e => let ⟨sl, o, h1, h2, h3⟩ := h e; ⟨sl, o, k _ h1, k _ h2, h3⟩
theorem get_propC {prog : Program} {w : World} {A : Around} {E : Value → Shared → Prop} {s : Shared} {K : Frag} {x C L p fget : Addr} {h₀ : Heap} {m : Str → Option Value} {ox od : Obj} {name : Str} {expr : Bool} {Q : Value → Shared → Prop} {rest : List Value} (F : Fr h₀ L s.heap m) (X₀ : K.In h₀) (I : InstAt s.heap x ox C (some od)) (hg : plainGet K C name = true) (hc : isClsIn K C = true)
    (ha : findIn K (.ref C) name = some (some (.ref p))) (hn : specialIn K (.ref p) "__get__" = some (some (.builtin "property.__get__"))) (ht : takesIn K (.ref p) = some true) (hp : recIn K p "property" = some (.ref fget :: rest))
    (h : codeAny (model prog w) A.in1 (.call (.ref fget) ⟨[.ref x], []⟩) (fun r s' => match r with | .ok (.ret v) => wpAny (model prog w) A (handedOut v) Q E s' | .ok _ => False | .error e => wpAny (model prog w) A (noteIf true (.ref x) (.str name s.toks) e) (fun _ s'' => E e s'') E s') { s with toks := s.toks + 1 }) :
    wpAny (model prog w) A (getAttr (.ref x) name expr) Q E s :=
  get_bind (X₀.keeps F.keep) I (plainGet_of hg).1 (findObj_data hc ha hn ht) (plainGet_of hg).2 (wpAny_call (prop_get (s := { s with toks := s.toks + 1 }) (X₀.keeps F.keep) hp h))
theorem ename {w : World} {mean : ExcName → Option Value} {mg mb : Str → Option Value} {gr : Gr} {e : Ex} {x d : Addr} {od : Obj} {s0 s1 s3 s4 : Option Value} {bb : Bool}
    {dp un : Nat} {gd : Option (List Code)} {cn : Str} {cs : Scope} {a : Addr} {ccd : Value} {cl : List (Str × Addr)} {outer : List Env} {A₀ : Around} {base h₀ : Heap} {L : Addr} {m : Str → Option Value} {news : Led} {s : Shared} {Q E : Value → Shared → Prop}
    (B : Below A₀ base outer h₀) (F : Fr h₀ L s.heap m) (X : (hd.heap_39 w.params).In h₀) (N : News h₀ L s.heap news) (T : Top topProg TLOOSE mean mg mb h₀) (hk : cs.kind = .function) (hG : NmOk gr news)
    (q1 : (x, ({ cls := .ref 243, dict := some d, data := .plain, slots := #[s0, s1, some (.ref (gr.xa e)), s3, s4] } : Obj)) ∈ news) (q2 : (d, od) ∈ news) (hdd : dp + 10 < recursionLimit)
    (h : ∀ tk h' tk', Fr h₀ L h' m → News h₀ L h' news → Q (.str e.nm tk) { s with heap := h', toks := tk' }) :
    wpAny (model PW w) (ktrTop dp un gd cn cs L a ccd cl outer) (getAttr (.ref x) (Str.ofString "expr_name") bb) Q E s := by
  obtain ⟨sl, o2, j1, j2, hn⟩ := hG e
  w_top off; w_on
  refine get_propC F X ⟨N.get q1, rfl, rfl, N.get q2⟩ (by k_is) (by k_is) (by k_is) (by k_is) (by k_is) (by k_is) ?_
  w_strict (k_dflt (refine' code_def ?k1 ?k2 ?k3 ?k4 ?k5 ?kA ?kF ?kK ?k6 ?k7 ?k8 ?k9 ?kB ?_ ?c2 ?c3 ?c4 ?c5; (case kA => exact rfl); (case kF => exact rfl); (case kK => assumption); (case k1 => k_asm); (case k2 => k_asm); (case k3 => k_asm); (case k4 => k_asm); (case k5 => k_asm); (case k6 => k_is); (case k7 => k_is); (case k8 => ktr_room); (case k9 => exact BindsTo.of_eq rfl); (case c5 => decide); (case kB => exact locs rfl); (case c2 => exact rfl); (case c3 => exact rfl); (case c4 => exact rfl); k_whole); intro g1 L1 h1 FG1 F1 N1 B1 X1 T1; (try dsimp only); (try k_fold))
  w_strict (iterate 6 (first | (k_unfold; (try dsimp only)) | (k_end; wrow_close) | walk1 | (dsimp only; walk1) | (leave1; walk_say "STEP leave1"; try dsimp only) | fail "no step"))
  with_reducible rename Fr g1 _ _ _ => F2
  refine get_slot F2 X1 ⟨N1.get q1, rfl, rfl, N1.get q2⟩ (by k_is) (by k_is) (by k_is) (by k_is) (by k_is) (by k_is) rfl rfl ?_
  cases e
  case' top => obtain ⟨_, _, _, _, tk, rfl⟩ := hn
  case' uZ => obtain ⟨_, _, _, _, tk, rfl⟩ := hn
  case' lZ => obtain ⟨_, _, _, _, tk, rfl⟩ := hn
  case' one => obtain ⟨_, _, tk, rfl⟩ := hn
  case' uS => obtain ⟨_, _, tk, rfl⟩ := hn
  case' lS => obtain ⟨_, _, tk, rfl⟩ := hn
  case' uA => obtain ⟨_, _, tk, rfl⟩ := hn
  case' lA => obtain ⟨_, _, tk, rfl⟩ := hn
  case' uB => obtain ⟨_, _, tk, rfl⟩ := hn
  case' lB => obtain ⟨_, _, tk, rfl⟩ := hn
  all_goals refine get_slot F2 X1 ⟨N1.get j1, rfl, rfl, N1.get j2⟩ (by k_is) (by k_is) (by k_is) (by k_is) (by k_is) (by k_is) rfl rfl ?_
  all_goals w_strict (repeat' (first | (k_unfold; (try dsimp only)) | (k_end; wrow_close) | walk1 | (dsimp only; walk1) | (leave1; walk_say "STEP leave1"; try dsimp only) | fail "no step"))
  all_goals (
    with_reducible rename News h₀ _ _ _ => NZ
    with_reducible rename Fr h₀ _ _ _ => FZ
    exact h _ _ _ FZ NZ)
end Mine
end

section
-- part Rul
open PySem PySem.Spec PySem.Calls PySem.W PyProof.Rows
local macro_rules | `(tactic| k_room) => `(tactic| ktr_room)
local macro_rules | `(tactic| k_all) => `(tactic| exact allNe_of' (by assumption) (by omega))
local macro_rules | `(tactic| k_all) => `(tactic| ((with_reducible rename AllLt _ _ => hAllLt); exact allNe_of hAllLt (by omega)))
local macro_rules | `(tactic| k_all) => `(tactic| assumption)
local macro_rules | `(tactic| k_mem) => `(tactic| first | exact List.Mem.head _ | (refine' List.mem_cons_of_mem _ ?_; k_mem))
local macro_rules | `(tactic| walk_at "call builtin:dict.get") => `(tactic| (k_here; k_dflt (first | refine kdg_get2 (knd := PySem.strKind _ _) (by k_asm) (by k_mem) (by assumption) (by assumption) (strKind_is _ _ _ _) (some _) (by rfl) ?_ | refine kdg_get2 (knd := PySem.strKind _ _) (by k_asm) (by k_mem) (by assumption) (by assumption) (strKind_is _ _ _ _) none (by rfl) ?_); (try dsimp only [Option.getD])))
local macro_rules | `(tactic| walk_at "getItem ref int") => `(tactic| (k_here; k_dflt (refine' Mine.item_lst ?N ?m ?a ?b ?c ?_; (case N => k_asm); (case m => k_mem); (case a => decide); (case b => decide); (case c => rfl); k_whole)))
local macro_rules | `(tactic| walk_at "eval Name") => `(tactic| (k_here; k_dflt (refine' ld ?k1 ?k2 ?_; (case k1 => k_asm); (case k2 => first | exact rfl | assumption); k_whole)))
local macro_rules | `(tactic| walk_at "loadName") => `(tactic| (refine' ldn ?k1 ?k2 ?_; (case k1 => assumption); (case k2 => first | exact rfl | assumption)))
local macro_rules | `(tactic| walk_at "call builtin:list.append") => `(tactic| (k_here; (show wpAny _ _ (call (Value.builtin _) [Value.ref _, _]) _ _ _); k_dflt (refine' append_K ?k1 ?k2 ?k3 ?_ ?z; (case k1 => k_asm); (case k2 => k_asm); (case k3 => first | exact Upd.head (by assumption) | exact Upd.tail (by k_ne) (Upd.head (by assumption)) | exact Upd.tail (by k_ne) (Upd.tail (by k_ne) (Upd.head (by assumption))) | k_upd); (case z => (rw [sizeLine_eq]; simp only [List.size_toArray]; omega)); k_whole); intro h' F' N'; (try k_sweep)))
local macro_rules | `(tactic| walk_at "call builtin:len") => `(tactic| (k_here; (with_reducible show wpAny _ _ (call (Value.builtin "len") [Value.ref _]) _ _ _); k_dflt (refine' Mine.len_lst ?N ?m ?z ?_; (case N => k_asm); (case m => k_mem); (case z => first | omega | (simp only [List.length_cons, List.length_nil]; omega)))))
namespace Mine
/-- values that bear triples -/
def TripsAre (led : Led) : List Value → List Tri → Prop
  | [], [] => True
  | v :: vs, c :: cs => (∃ t x y z ep, v = .ref t ∧ (t, tupO [.int c.1 x, .int c.2.1 y, .str c.2.2 z] ep) ∈ led) ∧ TripsAre led vs cs
  | _, _ => False
theorem TripsAre.sub {a b : Led} (k : ∀ q ∈ a, q.2.cls = .type "tuple" → q ∈ b) : ∀ {vs cs}, TripsAre a vs cs → TripsAre b vs cs
  | [], [], h => h
  | _ :: _, _ :: _, ⟨⟨t, x, y, z, ep, e, h⟩, r⟩ => ⟨⟨t, x, y, z, ep, e, k _ h rfl⟩, TripsAre.sub k r⟩
theorem Spec1.use {w : World} {mean : ExcName → Option Value} {mg mb : Str → Option Value} {f : Addr} {args : List Value} {kw : List (Str × Value)} {dd uu : Nat} {Pre : Led → Prop} {Post : Led → Value → Led → Prop}
    {dp un : Nat} {gd : Option (List Code)} {cn : Str} {cs : Scope} {a : Addr} {ccd : Value} {cl : List (Str × Addr)} {outer : List Env} {A₀ : Around} {base h₀ : Heap} {L : Addr} {m : Str → Option Value} {news : Led} {s : Shared} {Q E : Value → Shared → Prop}
    (B : Below A₀ base outer h₀) (F : Fr h₀ L s.heap m) (X : (hd.heap_39 w.params).In h₀) (N : News h₀ L s.heap news) (T : Top topProg TLOOSE mean mg mb h₀) (hk : cs.kind = .function) (C : Spec1 w mean mg mb f args kw dd uu Pre Post) (pre : Pre news)
    (hd : dp + dd < recursionLimit) (hu : un + uu < cLine)
    (ret : ∀ r news' h' tk', Fr h₀ L h' m → News h₀ L h' news' → Post news r news' → Q r { s with heap := h', toks := tk' }) :
    wpAny (model PW w) (ktrTop dp un gd cn cs L a ccd cl outer) (call (.ref f) args kw) Q E s := C _ _ _ _ _ _ _ _ _ _ _ _ _ _ _ _ _ _ B F X N T hk pre hd hu ret
theorem TripsAre.append {a : Led} : ∀ {vs cs ws ds}, TripsAre a vs cs → TripsAre a ws ds → TripsAre a (vs ++ ws) (cs ++ ds)
  | [], [], _, _, _, h => h
  | _ :: _, _ :: _, _, _, ⟨x, r⟩, h => ⟨x, TripsAre.append r h⟩
theorem TripsAre.length {a : Led} : ∀ {vs cs}, TripsAre a vs cs → vs.length = cs.length
  | [], [], _ => rfl
  | _ :: _, _ :: _, ⟨_, r⟩ => congrArg (· + 1) (TripsAre.length r)
mutual
def htT : T → Nat
  | .node _ _ _ cs => 1 + htTs cs
def htTs : List T → Nat
  | [] => 0
  | c :: cs => max (htT c) (htTs cs)
end
theorem htTs_mem : ∀ {cs : List T} {c : T}, c ∈ cs → htT c ≤ htTs cs
  | d :: cs, c, h => by
    unfold htTs
    rcases List.mem_cons.mp h with rfl | h
    · omega
    · have := htTs_mem h; omega
theorem rulesTs_mem : ∀ {cs : List T} {c : T}, c ∈ cs → (rulesT c).length ≤ (rulesTs cs).length
  | d :: cs, c, h => by
    unfold rulesTs
    rw [List.length_append]
    rcases List.mem_cons.mp h with rfl | h
    · omega
    · have := rulesTs_mem h; omega
theorem rulesTs_take (cs : List T) (i : Nat) (c : T) (h : cs[i]? = some c) : rulesTs (cs.take (i + 1)) = rulesTs (cs.take i) ++ rulesT c := by
  induction cs generalizing i with
  | nil => simp at h
  | cons d cs ih =>
    cases i with
    | zero => simp at h; subst h; simp [rulesTs]
    | succ i =>
      simp at h
      show rulesT d ++ rulesTs (cs.take (i + 1)) = (rulesT d ++ rulesTs (cs.take i)) ++ rulesT c
      rw [ih i h, List.append_assoc]
theorem rulesTs_take_le (cs : List T) (i : Nat) : (rulesTs (cs.take i)).length ≤ (rulesTs cs).length := by
  induction cs generalizing i with
  | nil => simp
  | cons d cs ih =>
    cases i with
    | zero => simp [rulesTs]
    | succ i =>
      show (rulesT d ++ rulesTs (cs.take i)).length ≤ (rulesT d ++ rulesTs cs).length
      rw [List.length_append, List.length_append]
      have := ih i
      omega
theorem IsTs.get {gr : Gr} {text : Str} {B news : Led} : ∀ {vs ts}, IsTs gr text B news vs ts → ∀ {i : Nat} {v : Value}, vs[i]? = some v → ∃ t, ts[i]? = some t ∧ IsT gr text B news v t
  | _, _, .nil, i, v, h => by simp at h
  | _, _, .cons h1 h2, i, v, h => by
    cases i with
    | zero => simp at h; subst h; exact ⟨_, rfl, h1⟩
    | succ i => exact IsTs.get h2 (by simpa using h)
theorem list_add {prog : Program} {w : World} {A : Around} {E : Value → Shared → Prop} {s : Shared} {h₀ : Heap} {L a b : Addr} {m : Str → Option Value} {news : Led} {vs ws : List Value} {n k : Nat} {Q : Value → Shared → Prop} (F : Fr h₀ L s.heap m) (N : News h₀ L s.heap news) (ha : (a, lstO vs n) ∈ news) (hb : (b, lstO ws k) ∈ news)
    (hz : vs.length + ws.length ≤ 10000) (h : ∀ D h', Fr h₀ L h' m → News h₀ L h' ((D, lstO (vs ++ ws) 0) :: news) → (∀ p ∈ news, p.1 < D) → Q (.ref D) { s with heap := h' }) : wpAny (model prog w) A (binaryOp .Add (.ref a) (.ref b)) Q E s := by
  refine kmk_add_lit (its := vs.toArray) (its2 := ws.toArray) F N ⟨_, N.get ha, rfl, _, rfl⟩ ⟨_, N.get hb, rfl, _, rfl⟩ rfl (fun D h' F' N' l => h D h' F' N' l) ?_
  rw [sizeLine_eq]
  simp
  omega
theorem rules_ok {w : World} {mean : ExcName → Option Value} {mg mb : Str → Option Value} {gr : Gr} {text : Str} {BB : Led} : ∀ (n : Nat) (t : T) (v : Value), htT t ≤ n → (rulesT t).length ≤ 1000 →
    Spec1 w mean mg mb 557 [v] [] (20 + 20 * n) (100 + 100 * n) (fun news => IsT gr text BB news v t ∧ NmOk gr news)
      (fun news r news' => ∃ x vs ep, r = .ref x ∧ (x, lstO vs ep) ∈ news' ∧ TripsAre news' vs (rulesT t) ∧ ∀ q ∈ news, q ∈ news') := by
  intro n
  induction n with
  | zero => intro t v hz; cases t; simp [htT] at hz
  | succ n ih =>
  intro t v hht hrl dp un gd cn cs a ccd cl outer A₀ base h₀ L m news s Q E B F X N T hk hPre hdd huu hret
  obtain ⟨hT, hG⟩ := hPre
  cases hT with
  | @mk x l d od e p q ts tt tx vs ch ep hin hd hl b1 b2 b3 hz hch =>
  w_top off; w_on
  refine wpAny_call ?_
  w_strict (k_dflt (refine' code_def ?k1 ?k2 ?k3 ?k4 ?k5 ?kA ?kF ?kK ?k6 ?k7 ?k8 ?k9 ?kB ?_ ?c2 ?c3 ?c4 ?c5; (case kA => exact rfl); (case kF => exact rfl); (case kK => assumption); (case k1 => k_asm); (case k2 => k_asm); (case k3 => k_asm); (case k4 => k_asm); (case k5 => k_asm); (case k6 => k_is); (case k7 => k_is); (case k8 => ktr_room); (case k9 => exact BindsTo.of_eq rfl); (case c5 => decide); (case kB => exact locs rfl); (case c2 => exact rfl); (case c3 => exact rfl); (case c4 => exact rfl); k_whole); intro g1 L1 h1 FG1 F1 N1 B1 X1 T1; (try dsimp only); (try k_fold))
  w_strict (iterate 7 (first | (k_unfold; (try dsimp only)) | (k_end; wrow_close) | walk1 | (dsimp only; walk1) | (leave1; walk_say "STEP leave1"; try dsimp only) | fail "no step"))
  refine ename (by assumption) (by assumption) (by assumption) N1 (by assumption) rfl hG hin hd (by (try dsimp only); omega) ?_
  intro tk9 h9 tk9' F9 N9
  w_strict (iterate 4 (first | (k_unfold; (try dsimp only)) | (k_end; wrow_close) | walk1 | (dsimp only; walk1) | (leave1; walk_say "STEP leave1"; try dsimp only) | fail "no step"))
  · w_strict (iterate 5 (first | (k_unfold; (try dsimp only)) | (k_end; wrow_close) | walk1 | (dsimp only; walk1) | (leave1; walk_say "STEP leave1"; try dsimp only) | fail "no step"))
    w_strict (refine wpAny_For ?_)
    w_strict (iterate 3 (first | (k_unfold; (try dsimp only)) | (k_end; wrow_close) | walk1 | (dsimp only; walk1) | (leave1; walk_say "STEP leave1"; try dsimp only) | fail "no step"))
    with_reducible rename Fr g1 _ _ _ => F5
    with_reducible rename News g1 _ _ _ => N5
    have hnm : e.nm = Str.ofString "" := eq_of_beq (by assumption)
    have HH : ∃ (D : Addr) (fs : List Value) (n : Nat) (m5 : Str → Option Value) (led : Led), News g1 L1 _ led ∧ Fr g1 L1 _ m5 ∧ m5 (Str.ofString "found") = some (.ref D) ∧ (D, lstO fs n) ∈ led ∧ TripsAre led fs (if e.nm = Str.ofString "" then [] else [(p, q, e.nm)]) ∧ ∀ q ∈ news, q ∈ led := ⟨_, [], _, _, _, N5, F5, rfl, .head _, by rw [if_pos hnm]; trivial, fun q hq => .tail _ hq⟩
    clear N5 F5
    obtain ⟨D, fs, n0, m5, led, N5, F5, hr, hD, hfs, hsub⟩ := HH
    refine for_lst (vs := vs) (ep := ep) (t := l) rfl (fun i m' led' => ∃ D fs n, m' (Str.ofString "found") = some (.ref D) ∧ (D, lstO fs n) ∈ led' ∧ TripsAre led' fs ((if e.nm = Str.ofString "" then [] else [(p, q, e.nm)]) ++ rulesTs (ch.take i)) ∧ ∀ q ∈ news, q ∈ led') F5 N5 ⟨D, fs, n0, hr, hD, by rw [List.take_zero]; simpa [rulesTs] using hfs, hsub⟩ (fun i m' led' hJ => let ⟨_, _, _, _, _, _, h⟩ := hJ; h _ hl) ?_ ?_
    · rintro i x9 it o9 h9 tk9 m9 led9 hx9 ⟨D9, fs9, n9, hr9, hD9, hfs9, hsub9⟩ F9 N9 hc9 off9
      obtain ⟨t9, ht9, hT9⟩ := hch.get hx9
      have hm9 : t9 ∈ ch := List.mem_of_getElem? ht9
      have hh9 : htT t9 ≤ n := by have := htTs_mem hm9; unfold htT at hht; omega
      have hl9 : (rulesT t9).length ≤ 1000 := by have := rulesTs_mem hm9; unfold rulesT at hrl; rw [List.length_append] at hrl; omega
      w_strict (iterate 14 (first | (k_unfold; (try dsimp only)) | (k_end; wrow_close) | walk1 | (dsimp only; walk1) | (leave1; walk_say "STEP leave1"; try dsimp only) | fail "no step"))
      with_reducible rename Fr g1 _ _ _ => F8
      with_reducible rename News g1 _ _ _ => N8
      refine Spec1.use (by assumption) F8 X1 N8 (by assumption) rfl (ih t9 x9 hh9 hl9) ⟨hT9.sub fun q hq _ => .tail _ (hsub9 q hq), hG.sub fun q hq => .tail _ (hsub9 q hq)⟩ (by (try dsimp only); omega) (by (try dsimp only); omega) ?_
      rintro r8 led8 h8 tk8 F7 N7 ⟨x8, vs8, ep8, rfl, hx8, ht8, hs8⟩
      clear F8 N8
      have hfn8 : ∀ a o o', (a, o) ∈ led8 → (a, o') ∈ led8 → o = o' := fun a o o' x y => Mine.News.fn N7 x y
      w_strict (refine list_add F7 N7 (hs8 _ (.tail _ hD9)) hx8 ?_ ?_)
      · rw [hfs9.length, ht8.length, List.length_append]
        have := rulesTs_take_le ch i
        unfold rulesT at hrl
        rw [List.length_append] at hrl
        omega
      intro D2 h6 F6 N6 lt6
      w_strict (iterate 3 (first | (k_unfold; (try dsimp only)) | (k_end; wrow_close) | walk1 | (dsimp only; walk1) | (leave1; walk_say "STEP leave1"; try dsimp only) | fail "no step"))
      show TurnEnd _ _ _ _ _ _ _ _
      with_reducible rename News g1 _ _ _ => NZ
      with_reducible rename Fr g1 _ _ _ => FZ
      have hit : ∀ q ∈ led9, q ∈ led8.filter (fun q => decide (q.1 ≠ it)) := fun q hq => List.mem_filter.mpr ⟨hs8 q (.tail _ hq), decide_eq_true (off9 q hq)⟩
      have hitt : ∀ q ∈ led8, q.2.cls = .type "tuple" → q ∈ led8.filter (fun q => decide (q.1 ≠ it)) := fun q hq hc => List.mem_filter.mpr ⟨hq, decide_eq_true fun z => by
        have := hfn8 it q.2 o9 (z ▸ hq) (hs8 _ (.head _))
        rw [this, hc9] at hc
        exact absurd hc (by decide)⟩
      have hI8 := hs8 _ (.head _)
      have hDit : D2 ≠ it := Nat.ne_of_gt (lt6 _ hI8)
      refine ⟨_, _, _, (D2, lstO (fs9 ++ vs8) 0) :: led8.filter (fun q => decide (q.1 ≠ it)), rfl, FZ, ?_, ?_, D2, fs9 ++ vs8, 0, rfl, .head _, ?_, fun q hq => .tail _ (hit q (hsub9 q hq))⟩
      · intro q hq
        rcases List.mem_cons.mp hq with rfl | hq
        · exact NZ _ (.tail _ hI8)
        · rcases List.mem_cons.mp hq with rfl | hq
          · exact NZ _ (.head _)
          · exact NZ _ (.tail _ (List.mem_filter.mp hq).1)
      · intro q hq
        rcases List.mem_cons.mp hq with rfl | hq
        · exact hDit
        · exact of_decide_eq_true (List.mem_filter.mp hq).2
      · rw [rulesTs_take ch i t9 ht9, ← List.append_assoc]
        exact (hfs9.sub fun q hq _ => .tail _ (hit q hq)).append (ht8.sub fun q hq hc => .tail _ (hitt q hq hc))
    · rintro h9 tk9 m9 led9 ⟨D9, fs9, n9, hr9, hD9, hfs9, hsub9⟩ F9 N9
      w_strict (repeat' (first | (k_unfold; (try dsimp only)) | (k_end; wrow_close) | walk1 | (dsimp only; walk1) | (leave1; walk_say "STEP leave1"; try dsimp only) | fail "no step"))
      with_reducible rename News h₀ _ _ _ => NZ
      with_reducible rename Fr h₀ _ _ _ => FZ
      refine hret _ _ _ _ FZ NZ ⟨D9, fs9, n9, rfl, hD9, ?_, hsub9⟩
      rw [hch.length, List.take_length] at hfs9
      unfold rulesT
      exact hfs9
  · w_strict (iterate 14 (first | (k_unfold; (try dsimp only)) | (k_end; wrow_close) | walk1 | (dsimp only; walk1) | (leave1; walk_say "STEP leave1"; try dsimp only) | fail "no step"))
    refine ename (by assumption) (by assumption) (by assumption) N9 (by assumption) rfl hG hin hd (by (try dsimp only); omega) ?_
    intro tk8 h8 tk8' F8 N8
    clear N9 F9
    w_strict (iterate 6 (first | (k_unfold; (try dsimp only)) | (k_end; wrow_close) | walk1 | (dsimp only; walk1) | (leave1; walk_say "STEP leave1"; try dsimp only) | fail "no step"))
    w_strict (refine wpAny_For ?_)
    w_strict (iterate 3 (first | (k_unfold; (try dsimp only)) | (k_end; wrow_close) | walk1 | (dsimp only; walk1) | (leave1; walk_say "STEP leave1"; try dsimp only) | fail "no step"))
    with_reducible rename Fr g1 _ _ _ => F5
    with_reducible rename News g1 _ _ _ => N5
    have hnm : ¬ e.nm = Str.ofString "" := fun z => by
      have : (e.nm == Str.ofString "") = false := by assumption
      rw [z] at this
      cases this
    have HH : ∃ (D : Addr) (fs : List Value) (n : Nat) (m5 : Str → Option Value) (led : Led), News g1 L1 _ led ∧ Fr g1 L1 _ m5 ∧ m5 (Str.ofString "found") = some (.ref D) ∧ (D, lstO fs n) ∈ led ∧ TripsAre led fs (if e.nm = Str.ofString "" then [] else [(p, q, e.nm)]) ∧ ∀ q ∈ news, q ∈ led := ⟨_, [_], _, _, _, N5, F5, rfl, .head _, by rw [if_neg hnm]; exact ⟨⟨_, _, _, _, _, rfl, .tail _ (.head _)⟩, trivial⟩, fun q hq => .tail _ (.tail _ hq)⟩
    clear N5 F5
    obtain ⟨D, fs, n0, m5, led, N5, F5, hr, hD, hfs, hsub⟩ := HH
    refine for_lst (vs := vs) (ep := ep) (t := l) rfl (fun i m' led' => ∃ D fs n, m' (Str.ofString "found") = some (.ref D) ∧ (D, lstO fs n) ∈ led' ∧ TripsAre led' fs ((if e.nm = Str.ofString "" then [] else [(p, q, e.nm)]) ++ rulesTs (ch.take i)) ∧ ∀ q ∈ news, q ∈ led') F5 N5 ⟨D, fs, n0, hr, hD, by rw [List.take_zero]; simpa [rulesTs] using hfs, hsub⟩ (fun i m' led' hJ => let ⟨_, _, _, _, _, _, h⟩ := hJ; h _ hl) ?_ ?_
    · rintro i x9 it o9 h9 tk9 m9 led9 hx9 ⟨D9, fs9, n9, hr9, hD9, hfs9, hsub9⟩ F9 N9 hc9 off9
      obtain ⟨t9, ht9, hT9⟩ := hch.get hx9
      have hm9 : t9 ∈ ch := List.mem_of_getElem? ht9
      have hh9 : htT t9 ≤ n := by have := htTs_mem hm9; unfold htT at hht; omega
      have hl9 : (rulesT t9).length ≤ 1000 := by have := rulesTs_mem hm9; unfold rulesT at hrl; rw [List.length_append] at hrl; omega
      w_strict (iterate 14 (first | (k_unfold; (try dsimp only)) | (k_end; wrow_close) | walk1 | (dsimp only; walk1) | (leave1; walk_say "STEP leave1"; try dsimp only) | fail "no step"))
      with_reducible rename Fr g1 _ _ _ => F8
      with_reducible rename News g1 _ _ _ => N8
      refine Spec1.use (by assumption) F8 X1 N8 (by assumption) rfl (ih t9 x9 hh9 hl9) ⟨hT9.sub fun q hq _ => .tail _ (hsub9 q hq), hG.sub fun q hq => .tail _ (hsub9 q hq)⟩ (by (try dsimp only); omega) (by (try dsimp only); omega) ?_
      rintro r8 led8 h8 tk8 F7 N7 ⟨x8, vs8, ep8, rfl, hx8, ht8, hs8⟩
      clear F8 N8
      have hfn8 : ∀ a o o', (a, o) ∈ led8 → (a, o') ∈ led8 → o = o' := fun a o o' x y => Mine.News.fn N7 x y
      w_strict (refine list_add F7 N7 (hs8 _ (.tail _ hD9)) hx8 ?_ ?_)
      · rw [hfs9.length, ht8.length, List.length_append]
        have := rulesTs_take_le ch i
        unfold rulesT at hrl
        rw [List.length_append] at hrl
        omega
      intro D2 h6 F6 N6 lt6
      w_strict (iterate 3 (first | (k_unfold; (try dsimp only)) | (k_end; wrow_close) | walk1 | (dsimp only; walk1) | (leave1; walk_say "STEP leave1"; try dsimp only) | fail "no step"))
      show TurnEnd _ _ _ _ _ _ _ _
      with_reducible rename News g1 _ _ _ => NZ
      with_reducible rename Fr g1 _ _ _ => FZ
      have hit : ∀ q ∈ led9, q ∈ led8.filter (fun q => decide (q.1 ≠ it)) := fun q hq => List.mem_filter.mpr ⟨hs8 q (.tail _ hq), decide_eq_true (off9 q hq)⟩
      have hitt : ∀ q ∈ led8, q.2.cls = .type "tuple" → q ∈ led8.filter (fun q => decide (q.1 ≠ it)) := fun q hq hc => List.mem_filter.mpr ⟨hq, decide_eq_true fun z => by
        have := hfn8 it q.2 o9 (z ▸ hq) (hs8 _ (.head _))
        rw [this, hc9] at hc
        exact absurd hc (by decide)⟩
      have hI8 := hs8 _ (.head _)
      have hDit : D2 ≠ it := Nat.ne_of_gt (lt6 _ hI8)
      refine ⟨_, _, _, (D2, lstO (fs9 ++ vs8) 0) :: led8.filter (fun q => decide (q.1 ≠ it)), rfl, FZ, ?_, ?_, D2, fs9 ++ vs8, 0, rfl, .head _, ?_, fun q hq => .tail _ (hit q (hsub9 q hq))⟩
      · intro q hq
        rcases List.mem_cons.mp hq with rfl | hq
        · exact NZ _ (.tail _ hI8)
        · rcases List.mem_cons.mp hq with rfl | hq
          · exact NZ _ (.head _)
          · exact NZ _ (.tail _ (List.mem_filter.mp hq).1)
      · intro q hq
        rcases List.mem_cons.mp hq with rfl | hq
        · exact hDit
        · exact of_decide_eq_true (List.mem_filter.mp hq).2
      · rw [rulesTs_take ch i t9 ht9, ← List.append_assoc]
        exact (hfs9.sub fun q hq _ => .tail _ (hit q hq)).append (ht8.sub fun q hq hc => .tail _ (hitt q hq hc))
    · rintro h9 tk9 m9 led9 ⟨D9, fs9, n9, hr9, hD9, hfs9, hsub9⟩ F9 N9
      w_strict (repeat' (first | (k_unfold; (try dsimp only)) | (k_end; wrow_close) | walk1 | (dsimp only; walk1) | (leave1; walk_say "STEP leave1"; try dsimp only) | fail "no step"))
      with_reducible rename News h₀ _ _ _ => NZ
      with_reducible rename Fr h₀ _ _ _ => FZ
      refine hret _ _ _ _ FZ NZ ⟨D9, fs9, n9, rfl, hD9, ?_, hsub9⟩
      rw [hch.length, List.take_length] at hfs9
      unfold rulesT
      exact hfs9
end Mine
end

section
-- part Deep
open PySem PySem.Spec PySem.Calls PySem.W PyProof.Rows
local macro_rules | `(tactic| walk_at "pad of mine") => `(tactic| fail)
local macro_rules | `(tactic| k_room) => `(tactic| ktr_room)
local macro_rules | `(tactic| k_all) => `(tactic| exact allNe_of' (by assumption) (by omega))
local macro_rules | `(tactic| k_all) => `(tactic| ((with_reducible rename AllLt _ _ => hAllLt); exact allNe_of hAllLt (by omega)))
local macro_rules | `(tactic| k_all) => `(tactic| assumption)
local macro_rules | `(tactic| k_mem) => `(tactic| first | exact List.Mem.head _ | (refine' List.mem_cons_of_mem _ ?_; k_mem))
local macro_rules | `(tactic| walk_at "call builtin:dict.get") => `(tactic| (k_here; k_dflt (first | refine kdg_get2 (knd := PySem.strKind _ _) (by k_asm) (by k_mem) (by assumption) (by assumption) (strKind_is _ _ _ _) (some _) (by rfl) ?_ | refine kdg_get2 (knd := PySem.strKind _ _) (by k_asm) (by k_mem) (by assumption) (by assumption) (strKind_is _ _ _ _) none (by rfl) ?_); (try dsimp only [Option.getD])))
local macro_rules | `(tactic| walk_at "getItem ref int") => `(tactic| (k_here; k_dflt (refine' Mine.item_lst ?N ?m ?a ?b ?c ?_; (case N => k_asm); (case m => k_mem); (case a => decide); (case b => decide); (case c => rfl); k_whole)))
local macro_rules | `(tactic| walk_at "eval Name") => `(tactic| (k_here; k_dflt (refine' ld ?k1 ?k2 ?_; (case k1 => k_asm); (case k2 => first | exact rfl | assumption); k_whole)))
local macro_rules | `(tactic| walk_at "loadName") => `(tactic| (refine' ldn ?k1 ?k2 ?_; (case k1 => assumption); (case k2 => first | exact rfl | assumption)))
local macro_rules | `(tactic| walk_at "call builtin:list.append") => `(tactic| (k_here; (show wpAny _ _ (call (Value.builtin _) [Value.ref _, _]) _ _ _); k_dflt (refine' append_K ?k1 ?k2 ?k3 ?_ ?z; (case k1 => k_asm); (case k2 => k_asm); (case k3 => first | exact Upd.head (by assumption) | exact Upd.tail (by k_ne) (Upd.head (by assumption)) | exact Upd.tail (by k_ne) (Upd.tail (by k_ne) (Upd.head (by assumption))) | k_upd); (case z => (rw [sizeLine_eq]; simp only [List.size_toArray]; omega)); k_whole); intro h' F' N'; (try k_sweep)))
local macro_rules | `(tactic| walk_at "call builtin:len") => `(tactic| (k_here; (with_reducible show wpAny _ _ (call (Value.builtin "len") [Value.ref _]) _ _ _); k_dflt (refine' Mine.len_lst ?N ?m ?z ?_; (case N => k_asm); (case m => k_mem); (case z => first | omega | (simp only [List.length_cons, List.length_nil]; omega)))))
namespace Mine
theorem deepTs_ge : ∀ {cs : List T} {d : Int}, d ∈ cs.map deepT → d ≤ deepTs cs
  | c :: cs, d, h => by
    unfold deepTs
    rcases List.mem_cons.mp h with rfl | h
    · omega
    · have := deepTs_ge h; omega
theorem deepTs_mem : ∀ {cs : List T}, deepTs cs ∈ (0 : Int) :: cs.map deepT
  | [] => .head _
  | c :: cs => by
    unfold deepTs
    by_cases h : deepTs cs ≤ deepT c
    · rw [Int.max_eq_left h]; exact .tail _ (.head _)
    · rw [Int.max_eq_right (by omega)]
      rcases List.mem_cons.mp (deepTs_mem (cs := cs)) with e | e
      · rw [e]; exact .head _
      · exact .tail _ (.tail _ e)
theorem deepTs_0 : ∀ (cs : List T), 0 ≤ deepTs cs
  | [] => Int.le_refl _
  | c :: cs => by
    unfold deepTs
    have := deepTs_0 cs
    omega
theorem deep_ok {w : World} {mean : ExcName → Option Value} {mg mb : Str → Option Value} {gr : Gr} {text : Str} {BB : Led} : ∀ (n : Nat) (t : T) (v : Value), htT t ≤ n →
    Spec1 w mean mg mb 562 [v] [] (20 + 20 * n) (100 + 100 * n) (fun news => IsT gr text BB news v t ∧ NmOk gr news)
      (fun news r news' => ∃ tk, r = .int (deepT t) tk ∧ ∀ q ∈ news, q ∈ news') := by
  intro n
  induction n with
  | zero => intro t v hz; cases t; simp [htT] at hz
  | succ n ih =>
  intro t v hht dp un gd cn cs a ccd cl outer A₀ base h₀ L m news s Q E B F X N T hk hPre hdd huu hret
  obtain ⟨hT, hG⟩ := hPre
  cases hT with
  | @mk x l d od e p q ts tt tx vs ch ep hin hd hl b1 b2 b3 hz hch =>
  w_top off; w_on
  refine wpAny_call ?_
  w_strict (k_dflt (refine' code_def ?k1 ?k2 ?k3 ?k4 ?k5 ?kA ?kF ?kK ?k6 ?k7 ?k8 ?k9 ?kB ?_ ?c2 ?c3 ?c4 ?c5; (case kA => exact rfl); (case kF => exact rfl); (case kK => assumption); (case k1 => k_asm); (case k2 => k_asm); (case k3 => k_asm); (case k4 => k_asm); (case k5 => k_asm); (case k6 => k_is); (case k7 => k_is); (case k8 => ktr_room); (case k9 => exact BindsTo.of_eq rfl); (case c5 => decide); (case kB => exact locs rfl); (case c2 => exact rfl); (case c3 => exact rfl); (case c4 => exact rfl); k_whole); intro g1 L1 h1 FG1 F1 N1 B1 X1 T1; (try dsimp only); (try k_fold))
  w_strict (iterate 13 (first | (k_unfold; (try dsimp only)) | (k_end; wrow_close) | walk1 | (dsimp only; walk1) | (leave1; walk_say "STEP leave1"; try dsimp only) | fail "no step"))
  with_reducible rename Fr g1 _ _ _ => F5
  with_reducible rename News g1 _ _ _ => N5
  rename Addr => D0
  have HH : ∃ (t0 : Tok), News g1 L1 _ ((D0, lstO [.int 0 t0] 0) :: news) := ⟨_, N5⟩
  clear N5
  obtain ⟨t0, N5⟩ := HH
  refine LCg.ListComp_U (F₀ := F5) rfl (by decide) rfl (by decide) rfl ?_
  w_strict (iterate 3 (first | (k_unfold; (try dsimp only)) | (k_end; wrow_close) | walk1 | (dsimp only; walk1) | (leave1; walk_say "STEP leave1"; try dsimp only) | fail "no step"))
  have hl' : (l, lstO vs ep) ∈ (D0, lstO [.int 0 t0] 0) :: news := .tail _ hl
  with_reducible rename Fr g1 _ _ _ => F6
  with_reducible rename News g1 _ _ _ => N6
  refine LCg.CompSrc.ledger rfl F6 N6 hl' (by rw [sizeLine_eq]; simp; omega) ?_
  intro gx
  refine comp_all (fun i ys nw => IntsAre ys ((ch.take i).map deepT) ∧ ∀ q ∈ (D0, lstO [.int 0 t0] 0) :: news, q ∈ nw) ⟨.nil, fun q hq => hq⟩ ?_ ?_
  · rintro i v9 ys nw I oI C oC DD m₂ h9 tk9 E' hi hv9 ⟨hys, hsub⟩ hC hm9 F9 N9 off9 ne9
    have hx9 : vs[i]? = some v9 := by simpa using hv9
    obtain ⟨t9, ht9, hT9⟩ := hch.get hx9
    have hm9' : t9 ∈ ch := List.mem_of_getElem? ht9
    have hh9 : htT t9 ≤ n := by have := htTs_mem hm9'; unfold htT at hht; omega
    w_strict (iterate 8 (first | (k_unfold; (try dsimp only)) | (k_end; wrow_close) | walk1 | (dsimp only; walk1) | (leave1; walk_say "STEP leave1"; try dsimp only) | fail "no step"))
    with_reducible rename Fr g1 _ _ _ => F8
    with_reducible rename News g1 _ _ _ => N8
    refine Spec1.use (by assumption) F8 X1 N8 (by assumption) rfl (ih t9 v9 hh9) ⟨hT9.sub fun q hq _ => .tail _ (.tail _ (.tail _ (hsub _ (.tail _ hq)))), hG.sub fun q hq => .tail _ (.tail _ (.tail _ (hsub _ (.tail _ hq))))⟩ (by (try dsimp only); omega) (by (try dsimp only); omega) ?_
    rintro r8 led8 h8 tk8 F7 N7 ⟨tk7, rfl, hs8⟩
    refine comp_grown F7 N7 hs8 off9 (fun a ha => .inr ⟨_, ha _ (hsub _ hl'), rfl, _, rfl⟩) fun a h1 _ _ => ⟨?_, fun q hq => h1 q (hsub q hq)⟩
    rw [List.take_add_one, ht9]
    simpa using hys.append (.cons (deepT t9) tk7 .nil)
  · intro ys nw ⟨hys, hsub⟩ D9 h9 tk9 F9 N9 off9
    have hys : IntsAre ys (ch.map deepT) := by
      have : vs.toArray.size = ch.length := by rw [List.size_toArray]; exact hch.length
      rw [this, List.take_length] at hys
      exact hys
    have hyl := hys.length
    have hcl := hch.length
    rw [List.length_map] at hyl
    w_strict (refine list_add F9 N9 (.tail _ (hsub _ (.head _))) (.head _) ?_ ?_)
    · simp; omega
    intro D2 h6 F6 N6 lt6
    w_strict (iterate 3 (first | (k_unfold; (try dsimp only)) | (k_end; wrow_close) | walk1 | (dsimp only; walk1) | (leave1; walk_say "STEP leave1"; try dsimp only) | fail "no step"))
    rename ∀ a ∈ _, a ≤ _ => hM1
    rename _ ∈ [0] ++ _ => hM2
    rename Int => M
    have hM : M = deepTs ch := by
      apply Int.le_antisymm
      · rcases List.mem_cons.mp hM2 with e | e
        · rw [e]; exact deepTs_0 ch
        · exact deepTs_ge e
      · exact hM1 _ deepTs_mem
    w_strict (iterate 8 (first | (k_unfold; (try dsimp only)) | (k_end; wrow_close) | walk1 | (dsimp only; walk1) | (leave1; walk_say "STEP leave1"; try dsimp only) | fail "no step"))
    have hs9 : ∀ q ∈ news, q ∈ (D2, lstO ([Value.int 0 t0] ++ ys) 0) :: (D9, LCg.lst ys) :: nw := fun q hq => .tail _ (.tail _ (hsub q (.tail _ hq)))
    with_reducible rename News g1 _ _ _ => N8
    refine ename (by assumption) (by assumption) (by assumption) N8 (by assumption) rfl (hG.sub hs9) (hs9 _ hin) (hs9 _ hd) (by (try dsimp only); omega) ?_
    intro tk8 h8 tk8' F7 N7
    clear N8
    w_strict (repeat' (first | (k_unfold; (try dsimp only)) | (k_end; wrow_close) | walk1 | (dsimp only; walk1) | (leave1; walk_say "STEP leave1"; try dsimp only) | fail "no step"))
    · with_reducible rename News h₀ _ _ _ => NZ
      with_reducible rename Fr h₀ _ _ _ => FZ
      have hnm : e.nm = Str.ofString "" := eq_of_beq (by assumption)
      have hv : M + 0 = deepT (Mine.T.node e p q ch) := by rw [hM]; unfold deepT; rw [if_pos hnm]
      exact hret _ _ _ _ FZ NZ ⟨_, congrArg (fun z => Value.int z _) hv, hs9⟩
    · with_reducible rename News h₀ _ _ _ => NZ
      with_reducible rename Fr h₀ _ _ _ => FZ
      have hnm : ¬ e.nm = Str.ofString "" := fun z => by
        have : (e.nm == Str.ofString "") = false := by assumption
        rw [z] at this
        cases this
      have hv : M + 1 = deepT (Mine.T.node e p q ch) := by rw [hM]; unfold deepT; rw [if_neg hnm]
      exact hret _ _ _ _ FZ NZ ⟨_, congrArg (fun z => Value.int z _) hv, hs9⟩
end Mine
end

section
-- part Prs
open PySem PySem.Spec PySem.Calls PySem.W PyProof.Rows
local macro_rules | `(tactic| k_room) => `(tactic| ktr_room)
local macro_rules | `(tactic| k_all) => `(tactic| exact allNe_of' (by assumption) (by omega))
local macro_rules | `(tactic| k_all) => `(tactic| ((with_reducible rename AllLt _ _ => hAllLt); exact allNe_of hAllLt (by omega)))
local macro_rules | `(tactic| k_all) => `(tactic| assumption)
local macro_rules | `(tactic| k_mem) => `(tactic| first | exact List.Mem.head _ | (refine' List.mem_cons_of_mem _ ?_; k_mem))
local macro_rules | `(tactic| walk_at "call builtin:dict.get") => `(tactic| (k_here; k_dflt (first | refine kdg_get2 (knd := PySem.strKind _ _) (by k_asm) (by k_mem) (by assumption) (by assumption) (strKind_is _ _ _ _) (some _) (by rfl) ?_ | refine kdg_get2 (knd := PySem.strKind _ _) (by k_asm) (by k_mem) (by assumption) (by assumption) (strKind_is _ _ _ _) none (by rfl) ?_); (try dsimp only [Option.getD])))
local macro_rules | `(tactic| walk_at "getItem ref int") => `(tactic| (k_here; k_dflt (refine' Mine.item_lst ?N ?m ?a ?b ?c ?_; (case N => k_asm); (case m => k_mem); (case a => decide); (case b => decide); (case c => rfl); k_whole)))
local macro_rules | `(tactic| walk_at "eval Name") => `(tactic| (k_here; k_dflt (refine' ld ?k1 ?k2 ?_; (case k1 => k_asm); (case k2 => first | exact rfl | assumption); k_whole)))
local macro_rules | `(tactic| walk_at "loadName") => `(tactic| (refine' ldn ?k1 ?k2 ?_; (case k1 => assumption); (case k2 => first | exact rfl | assumption)))
local macro_rules | `(tactic| walk_at "call builtin:list.append") => `(tactic| (k_here; (show wpAny _ _ (call (Value.builtin _) [Value.ref _, _]) _ _ _); k_dflt (refine' append_K ?k1 ?k2 ?k3 ?_ ?z; (case k1 => k_asm); (case k2 => k_asm); (case k3 => first | exact Upd.head (by assumption) | exact Upd.tail (by k_ne) (Upd.head (by assumption)) | exact Upd.tail (by k_ne) (Upd.tail (by k_ne) (Upd.head (by assumption))) | k_upd); (case z => (rw [sizeLine_eq]; simp only [List.size_toArray]; omega)); k_whole); intro h' F' N'; (try k_sweep)))
local macro_rules | `(tactic| walk_at "call builtin:len") => `(tactic| (k_here; (with_reducible show wpAny _ _ (call (Value.builtin "len") [Value.ref _]) _ _ _); k_dflt (refine' Mine.len_lst ?N ?m ?z ?_; (case N => k_asm); (case m => k_mem); (case z => first | omega | (simp only [List.length_cons, List.length_nil]; omega)))))
namespace Mine
theorem TripsAre.tups {a : Led} {h₀ h : Heap} {L : Addr} (N : News h₀ L h a) : ∀ {vs cs}, TripsAre a vs cs → ∃ fs, KatTups h vs fs ∧ fs.length = cs.length ∧ ∀ f ∈ fs, ∃ n t, f = Value.int n t
  | [], [], _ => ⟨[], trivial, rfl, nofun⟩
  | _ :: _, _ :: _, ⟨⟨t, x, y, z, ep, e, hm⟩, r⟩ => by
    subst e
    obtain ⟨fs, h1, h2, h3⟩ := TripsAre.tups N r
    exact ⟨_ :: fs, KatTups.cons (N.get hm) rfl rfl rfl h1, congrArg (· + 1) h2, fun f hf => by
      rcases List.mem_cons.mp hf with rfl | hf
      · exact ⟨_, _, rfl⟩
      · exact h3 f hf⟩
theorem TripsAre.at {a : Led} : ∀ {vs cs}, TripsAre a vs cs → ∀ (i : Nat), i < cs.length → ∃ t x y z ep, vs.getD i Value.none = .ref t ∧ (t, tupO [.int (cs.getD i default).1 x, .int (cs.getD i default).2.1 y, .str (cs.getD i default).2.2 z] ep) ∈ a
  | [], [], _, i, hi => absurd hi (Nat.not_lt_zero i)
  | _ :: _, _ :: _, ⟨⟨t, x, y, z, ep, e, h⟩, _⟩, 0, _ => ⟨t, x, y, z, ep, e, h⟩
  | _ :: _, _ :: _, ⟨_, r⟩, i + 1, hi => TripsAre.at r i (Nat.lt_of_succ_lt_succ hi)
theorem TripsAre.pick {a : Led} {vs : List Value} {cs : List Tri} (h : TripsAre a vs cs) : ∀ (is : List Nat), (∀ i ∈ is, i < cs.length) → TripsAre a (is.map fun i => vs.getD i Value.none) (is.map fun i => cs.getD i default)
  | [], _ => trivial
  | i :: is, hi => by
    obtain ⟨t, x, y, z, ep, e, hm⟩ := h.at i (hi i (.head _))
    exact ⟨⟨t, x, y, z, ep, e, hm⟩, TripsAre.pick h is fun j hj => hi j (.tail _ hj)⟩
section
variable {w : World} {A : Around} {E : Value → Shared → Prop} {s : Shared} {h₀ : Heap} {L l : Addr} {m : Str → Option Value} {news : Led}
theorem sort_trips {vs : List Value} {cs : List Tri} {n : Nat} {Q : Value → Shared → Prop} (F : Fr h₀ L s.heap m) (N : News h₀ L s.heap news) (hl : (l, lstO vs n) ∈ news) (ht : TripsAre news vs cs) (h64 : cs.length < 64) (hd : (cs.map (·.1)).Nodup)
    (h : ∀ D vs' cs' c h', Fr h₀ L h' m → News h₀ L h' ((D, lstO vs' c) :: news) → TripsAre news vs' cs' → cs'.Perm cs → cs'.Pairwise (fun a b => a.1 < b.1) → (∀ q ∈ news, q.1 < D) → Q (.ref D) { s with heap := h' }) :
    wpAny (model PW w) A (call (.builtin "sorted") [.ref l]) Q E s := by
  have hlen := ht.length
  have hL : s.heap.IsList l vs.toArray := ⟨_, N.get hl, rfl, n, rfl⟩
  by_cases h2 : 2 ≤ vs.length
  · refine kat_sorted F N hL h2 (by omega) fun D e1 h' F' N' lt => ?_
    obtain ⟨fs, f1, f2, f3⟩ := TripsAre.tups (a := news) (fun p hp => N' p (.tail _ hp)) ht
    refine kat_kind (T := .type "int") f1 (by omega) (fun v hv => ?_) rfl ?_
    · obtain ⟨k, t, rfl⟩ := f3 v hv
      exact Looks.now
    have D0 : Dis vs.length fun i => (cs.getD i default).1 := fun i j hi hj e => by
      have hi' : i < (cs.map (·.1)).length := by simp; omega
      have hj' : j < (cs.map (·.1)).length := by simp; omega
      refine (List.getElem_inj (h₀ := hi') (h₁ := hj') hd).mp ?_
      have a1 : i < cs.length := by omega
      have a2 : j < cs.length := by omega
      simpa [a1, a2] using e
    refine kh_wp (n := vs.length) (key := fun i => (cs.getD i default).1) (fun i j C hi hj hC => ?_) _ (kh_mono (fun p hp => ?_) _ (sort_ok D0 h2))
    · obtain ⟨t1, x1, y1, z1, ep1, e1, m1⟩ := ht.at i (by omega)
      obtain ⟨t2, x2, y2, z2, ep2, e2, m2⟩ := ht.at j (by omega)
      unfold kas_ask
      rw [e1, e2]
      refine kat_lt (N'.get (.tail _ m1)) rfl (N'.get (.tail _ m2)) rfl ?_
      refine kat_cons (wpAny_eqBool_int ?_)
      by_cases hij : (cs.getD i default).1 = (cs.getD j default).1
      · obtain rfl := D0 i j hi hj hij
        rw [show ((cs.getD i default).1 == (cs.getD i default).1) = true from beq_self_eq_true _]
        refine kat_yes (kat_cons (wpAny_eqBool_int ?_))
        rw [show ((cs.getD i default).2.1 == (cs.getD i default).2.1) = true from beq_self_eq_true _]
        refine kat_yes (kat_cons (wpAny_eqBool_str ?_))
        rw [decide_eq_true rfl]
        refine kat_yes (kat_nil ?_)
        have e3 : decide ((cs.getD i default).1 < (cs.getD i default).1) = false := decide_eq_false (Int.lt_irrefl _)
        simpa [e3] using hC
      · rw [show ((cs.getD i default).1 == (cs.getD j default).1) = false from beq_false_of_ne hij]
        refine kat_no ?_
        exact oneLt_int hC
    · obtain ⟨hpm, hasc⟩ := hp
      refine KasFin.intro F' N' (UpdF.head fun q hq => Nat.ne_of_lt (lt q hq)) fun h'' c F'' N'' => ?_
      have hpl : p.toList.Perm (List.range vs.length) := by simpa using Array.perm_iff_toList_perm.mp hpm.perm
      have hin : ∀ i ∈ p.toList, i < cs.length := fun i hi => by have := hpl.mem_iff.mp hi; simp at this; omega
      refine h D (p.toList.map fun i => vs.getD i Value.none) (p.toList.map fun i => cs.getD i default) c h'' F'' N'' (ht.pick p.toList hin) ?_ ?_ lt
      · have e1 : (List.range vs.length).map (fun i => cs.getD i default) = cs := by
          refine List.ext_getElem (by simp [hlen]) fun i h1 h2 => ?_
          simp at h1
          have h3 : i < cs.length := by omega
          simp [h3]
        have := hpl.map (fun i => cs.getD i default)
        rw [e1] at this
        exact this
      · rw [List.pairwise_iff_getElem]
        intro i j hi hj hij
        have hz := hpm.size
        simp at hi hj
        have := hasc i j hij (by omega)
        unfold V at this
        rw [getD_of (by omega), getD_of (by omega)] at this
        simpa using this
  · match vs, cs, ht with
    | [], [], _ =>
      refine sorted_N (ns := []) F N hL .nil (by simp) fun h' vs' ns' e F' N' i1 i2 i3 => ?_
      obtain rfl := List.Perm.eq_nil i2
      cases i1
      exact h _ [] [] e h' F' N' trivial (.refl _) .nil fun q hq => Nat.lt_succ_of_lt (Heap.lt_size (N q hq).1)
    | [v], [c], ht =>
      exact sorted_one F N hL fun D c' h' F' N' lt => h D [v] [c] c' h' F' N' ht (.refl _) (List.pairwise_singleton _ _) lt
    | _ :: _ :: _, _, _ => simp at h2
end
end Mine
end

section
-- part Prs2
open PySem PySem.Spec PySem.Calls PySem.W PyProof.Rows
local macro_rules | `(tactic| walk_at "pad of mine") => `(tactic| fail)
local macro_rules | `(tactic| walk_at "pad of mine") => `(tactic| fail)
local macro_rules | `(tactic| k_room) => `(tactic| ktr_room)
local macro_rules | `(tactic| k_all) => `(tactic| exact allNe_of' (by assumption) (by omega))
local macro_rules | `(tactic| k_all) => `(tactic| ((with_reducible rename AllLt _ _ => hAllLt); exact allNe_of hAllLt (by omega)))
local macro_rules | `(tactic| k_all) => `(tactic| assumption)
local macro_rules | `(tactic| k_mem) => `(tactic| first | exact List.Mem.head _ | (refine' List.mem_cons_of_mem _ ?_; k_mem))
local macro_rules | `(tactic| walk_at "call builtin:dict.get") => `(tactic| (k_here; k_dflt (first | refine kdg_get2 (knd := PySem.strKind _ _) (by k_asm) (by k_mem) (by assumption) (by assumption) (strKind_is _ _ _ _) (some _) (by rfl) ?_ | refine kdg_get2 (knd := PySem.strKind _ _) (by k_asm) (by k_mem) (by assumption) (by assumption) (strKind_is _ _ _ _) none (by rfl) ?_); (try dsimp only [Option.getD])))
local macro_rules | `(tactic| walk_at "getItem ref int") => `(tactic| (k_here; k_dflt (refine' Mine.item_lst ?N ?m ?a ?b ?c ?_; (case N => k_asm); (case m => k_mem); (case a => decide); (case b => decide); (case c => rfl); k_whole)))
local macro_rules | `(tactic| walk_at "eval Name") => `(tactic| (k_here; k_dflt (refine' ld ?k1 ?k2 ?_; (case k1 => k_asm); (case k2 => first | exact rfl | assumption); k_whole)))
local macro_rules | `(tactic| walk_at "loadName") => `(tactic| (refine' ldn ?k1 ?k2 ?_; (case k1 => assumption); (case k2 => first | exact rfl | assumption)))
local macro_rules | `(tactic| walk_at "call builtin:list.append") => `(tactic| (k_here; (show wpAny _ _ (call (Value.builtin _) [Value.ref _, _]) _ _ _); k_dflt (refine' append_K ?k1 ?k2 ?k3 ?_ ?z; (case k1 => k_asm); (case k2 => k_asm); (case k3 => first | exact Upd.head (by assumption) | exact Upd.tail (by k_ne) (Upd.head (by assumption)) | exact Upd.tail (by k_ne) (Upd.tail (by k_ne) (Upd.head (by assumption))) | k_upd); (case z => (rw [sizeLine_eq]; simp only [List.size_toArray]; omega)); k_whole); intro h' F' N'; (try k_sweep)))
local macro_rules | `(tactic| walk_at "call builtin:len") => `(tactic| (k_here; (with_reducible show wpAny _ _ (call (Value.builtin "len") [Value.ref _]) _ _ _); k_dflt (refine' Mine.len_lst ?N ?m ?z ?_; (case N => k_asm); (case m => k_mem); (case z => first | omega | (simp only [List.length_cons, List.length_nil]; omega)))))
namespace Mine
theorem str_item {prog : Program} {w : World} {A : Around} {E : Value → Shared → Prop} {s : Shared} {x : Str} {t u : Tok} {i : Int} {c : Nat} {Q : Value → Shared → Prop} (h0 : 0 ≤ i) (h1 : i < 2 ^ 63) (hc : x.cps[i.toNat]? = some c) (h : Q (.str ⟨#[c]⟩ s.toks) { s with toks := s.toks + 1 }) :
    wpAny (model prog w) A (getItem (.str x t) (.int i u)) Q E s := by
  refine PyProof.Rows.getItem_str ?_ ?_ h
  · rw [decide_eq_false (by omega), decide_eq_false (by omega)]; rfl
  · have hlt : i.toNat < x.length := (Array.getElem?_eq_some_iff.mp hc).1
    have : seqIndex? i x.length = some i.toNat := by unfold seqIndex?; simp; omega
    rw [this]
    exact hc
theorem lst_tail {prog : Program} {w : World} {A : Around} {E : Value → Shared → Prop} {s : Shared} {value slice : PySem.Expr} {h₀ : Heap} {L l : Addr} {news : Led} {vs : List Value} {n : Nat} {k : Int} {u : Tok} {v : Value} {Q : Value → Shared → Prop}
    (N : News h₀ L s.heap news) (hm : (l, lstO vs n) ∈ news) (h0 : 0 ≤ k) (h1 : k < 2 ^ 63) (hx : vs[k.toNat]? = some v) (h : Q v s)
    (hs : subscripted slice false (.ref l) (.int k u) = operate [.ref l, .int k u] (getItem (.ref l) (.int k u)) := by with_unfolding_all rfl) : wpAny (model prog w) A (subscriptTail value slice (.ref l) (.int k u)) Q E s := by
  have hl : s.heap.IsList l vs.toArray := ⟨_, N.get hm, rfl, _, rfl⟩
  exact tail_any hl.typeIs slot_list_getitem.lookup (wpAny_getItem_list hl h0 h1 (by simpa using hx) h) hs
theorem str_tail {prog : Program} {w : World} {A : Around} {E : Value → Shared → Prop} {s : Shared} {value slice : PySem.Expr} {x : Str} {t u : Tok} {k : Int} {c : Nat} {Q : Value → Shared → Prop}
    (h0 : 0 ≤ k) (h1 : k < 2 ^ 63) (hc : x.cps[k.toNat]? = some c) (h : Q (.str ⟨#[c]⟩ s.toks) { s with toks := s.toks + 1 })
    (hs : subscripted slice false (.str x t) (.int k u) = operate [.str x t, .int k u] (getItem (.str x t) (.int k u)) := by with_unfolding_all rfl) : wpAny (model prog w) A (subscriptTail value slice (.str x t) (.int k u)) Q E s :=
  tail_any (typeIs_str s x t) slot_str_getitem.lookup (str_item h0 h1 hc h) hs
theorem idx_a {prog : Program} {w : World} {A : Around} {E : Value → Shared → Prop} {s : Shared} {t u : Tok} {Q : Value → Shared → Prop} (h : Q (.int 0 s.toks) { s with toks := s.toks + 1 }) : wpAny (model prog w) A (call (.builtin "str.index") [.str (Str.ofString "ab") t, .str ⟨#[97]⟩ u]) Q E s :=
  SC.index (i := 0) (rest := []) (by decide +kernel) h
theorem idx_b {prog : Program} {w : World} {A : Around} {E : Value → Shared → Prop} {s : Shared} {t u : Tok} {Q : Value → Shared → Prop} (h : Q (.int 1 s.toks) { s with toks := s.toks + 1 }) : wpAny (model prog w) A (call (.builtin "str.index") [.str (Str.ofString "ab") t, .str ⟨#[98]⟩ u]) Q E s :=
  SC.index (i := 1) (rest := []) (by decide +kernel) h
theorem pop_led {h₀ h : Heap} {L D I S Fd : Addr} {oD oI oS oF : Obj} {rest : Led} (N : News h₀ L h ((D, oD) :: (I, oI) :: (S, oS) :: (Fd, oF) :: rest)) : News h₀ L h ((I, oI) :: (S, oS) :: (Fd, oF) :: (D, oD) :: rest) := by
  intro z hz
  refine N z ?_
  simp only [List.mem_cons] at hz ⊢
  rcases hz with h | h | h | h | h
  · exact .inr (.inl h)
  · exact .inr (.inr (.inl h))
  · exact .inr (.inr (.inr (.inl h)))
  · exact .inl h
  · exact .inr (.inr (.inr (.inr h)))
theorem pop_off {D I S Fd : Addr} {oD oS oF : Obj} {rest : Led} (l : I < D ∧ S < D ∧ Fd < D ∧ AllLt D rest) (h1 : @Ne Nat S I) (h2 : @Ne Nat Fd I) (h3 : ∀ z ∈ rest, z.1 ≠ I) : ∀ z ∈ ((S, oS) :: (Fd, oF) :: (D, oD) :: rest : Led), z.1 ≠ I :=
  List.forall_mem_cons.mpr ⟨h1, List.forall_mem_cons.mpr ⟨h2, List.forall_mem_cons.mpr ⟨Nat.ne_of_gt l.1, h3⟩⟩⟩
/-- the state between two turns of the stack's loop -/
structure PJ (tx : Str) (tt : Tok) (p : Int) (S Fd : Addr) (news : Led) (i : Nat) (m : Str → Option Value) (led : Led) : Prop where
  m_stack : m (Str.ofString "stack") = some (.ref S)
  m_found : m (Str.ofString "found") = some (.ref Fd)
  m_text : m (Str.ofString "text") = some (.str tx tt)
  out : ∃ ss n1 fs n2 rest st fd, led = (S, lstO ss n1) :: (Fd, lstO fs n2) :: rest ∧ (∀ q ∈ rest, q.1 ≠ S) ∧ (∀ q ∈ rest, q.1 ≠ Fd) ∧ (∀ q ∈ news, q ∈ rest) ∧
    prun tx i p ([], []) = (st, fd) ∧ IntsAre ss st.reverse ∧ TripsAre rest fs fd ∧ (∀ x ∈ st, p ≤ x ∧ x < p + i) ∧ st.length ≤ i ∧ fd.length ≤ i
theorem prun_succ (tx : Str) (i : Nat) (p : Int) (st : List Int × List Tri) : prun tx (i + 1) p st = pstep tx (prun tx i p st) (p + i) := by
  rw [prun_add]; rfl
theorem snoc_ints {ss : List Value} {f : Int} {r : List Int} (h : IntsAre ss (f :: r).reverse) : ∃ ss' t, ss = ss' ++ [.int f t] ∧ IntsAre ss' r.reverse := by
  rw [List.reverse_cons] at h
  generalize r.reverse = r' at h ⊢
  clear r
  induction r' generalizing ss with
  | nil => cases h with | cons t _ h => cases h; exact ⟨[], _, rfl, .nil⟩
  | cons a r' ih =>
    cases h with
    | cons t _ h =>
      obtain ⟨ss', t', rfl, h'⟩ := ih h
      exact ⟨_ :: ss', t', rfl, .cons _ _ h'⟩
theorem lett {tx : Str} (ab : AB tx) {k : Int} (h0 : 0 ≤ k) (h1 : k < (tx.length : Int)) : (upAt tx k = true ∧ tx.cps[k.toNat]? = some 97) ∨ (upAt tx k = false ∧ tx.cps[k.toNat]? = some 98) := by
  unfold upAt
  rcases ab k.toNat (by omega) with h | h <;> rw [h]
  · exact .inl ⟨rfl, rfl⟩
  · exact .inr ⟨rfl, rfl⟩
local macro_rules | `(tactic| walk_at "getItem ref int") => `(tactic| (k_here; k_dflt (refine' Mine.item_lst ?N ?m ?a ?b ?c ?_; (case N => k_asm); (case m => k_mem); (case a => omega); (case b => omega); (case c => assumption); k_whole)))
local macro_rules | `(tactic| walk_at "getItem str int") => `(tactic| (k_here; refine' Mine.str_item ?a ?b ?c ?_; (case a => omega); (case b => omega); (case c => assumption)))
local macro_rules | `(tactic| walk_at "subscriptTail") => `(tactic| (k_here; (with_reducible show wpAny _ _ (subscriptTail _ _ (Value.ref _) (Value.int _ _)) _ _ _); k_dflt (refine' Mine.lst_tail ?N ?m ?a ?b ?c ?_ ?hs; (case N => k_asm); (case m => k_mem); (case a => omega); (case b => omega); (case c => assumption); (case hs => with_unfolding_all rfl); k_whole)))
local macro_rules | `(tactic| walk_at "subscriptTail") => `(tactic| (k_here; (with_reducible show wpAny _ _ (subscriptTail _ _ (Value.str _ _) (Value.int _ _)) _ _ _); k_dflt (refine' Mine.str_tail ?a ?b ?c ?_ ?hs; (case a => omega); (case b => omega); (case c => assumption); (case hs => with_unfolding_all rfl); k_whole)))
local macro_rules | `(tactic| walk_at "subscriptTail Name Name str int") => `(tactic| (k_here; k_dflt (refine' Mine.str_tail ?a ?b ?c ?_ ?hs; (case a => omega); (case b => omega); (case c => assumption); (case hs => with_unfolding_all rfl); k_whole)))
local macro_rules | `(tactic| walk_at "call builtin:list.pop") => `(tactic| (k_here; (with_reducible show wpAny _ _ (call (Value.builtin _) [Value.ref _]) _ _ _); k_dflt (refine' kl_pop ?F ?N ?e ?U ?z ?_; (case F => k_asm); (case N => k_asm); (case e => assumption); (case U => k_upd); (case z => (rw [sizeLine_eq]; simp only [List.size_toArray, List.toList_toArray]; omega))); intro h' F' N'; (try dsimp only [List.nil_append, List.cons_append] at N')))
local macro_rules | `(tactic| walk_at "call builtin:str.index") => `(tactic| (k_here; first | refine Mine.idx_a ?_ | refine Mine.idx_b ?_))
theorem push_lstP {vs : List Value} {x : Value} {n : Nat} : W.listOf (vs.toArray.push x) n = lstO (vs ++ [x]) n := by
  show ({ cls := .type "list", data := .seq (vs.toArray.push x) n } : Obj) = { cls := .type "list", data := .seq (vs ++ [x]).toArray n }
  rw [List.push_toArray]
theorem push_lst0 {x : Value} {n : Nat} : W.listOf (#[].push x) n = lstO [x] n := rfl
theorem prs_ok {w : World} {mean : ExcName → Option Value} {mg mb : Str → Option Value} {tx : Str} {tt tp tq : Tok} {p q : Int} (ab : AB tx) (htx : tx.length ≤ 12) (hp0 : 0 ≤ p) (hpq : p ≤ q) (hq : q ≤ (tx.length : Int))
    {fd : List Tri} (hrun : prun tx (q - p).toNat p ([], []) = ([], fd)) (hnd : (fd.map (·.1)).Nodup) :
    Spec1 w mean mg mb 550 [.str tx tt, .int p tp, .int q tq] [] 60 400 (fun _ => True)
      (fun news r news' => ∃ x vs cs ep, r = .ref x ∧ (x, lstO vs ep) ∈ news' ∧ TripsAre news' vs cs ∧ cs.Perm fd ∧ cs.Pairwise (fun a b => a.1 < b.1) ∧ ∀ q ∈ news, q ∈ news') := by
  intro dp un gd cn cs a ccd cl outer A₀ base h₀ L m news s Q E B F X N T hk hPre hdd huu hret
  w_top off; w_on
  refine wpAny_call ?_
  w_strict (k_dflt (refine' code_def ?k1 ?k2 ?k3 ?k4 ?k5 ?kA ?kF ?kK ?k6 ?k7 ?k8 ?k9 ?kB ?_ ?c2 ?c3 ?c4 ?c5; (case kA => exact rfl); (case kF => exact rfl); (case kK => assumption); (case k1 => k_asm); (case k2 => k_asm); (case k3 => k_asm); (case k4 => k_asm); (case k5 => k_asm); (case k6 => k_is); (case k7 => k_is); (case k8 => ktr_room); (case k9 => exact BindsTo.of_eq rfl); (case c5 => decide); (case kB => exact locs rfl); (case c2 => exact rfl); (case c3 => exact rfl); (case c4 => exact rfl); k_whole); intro g1 L1 h1 FG1 F1 N1 B1 X1 T1; (try dsimp only); (try k_fold))
  w_strict (iterate 14 (first | (k_unfold; (try dsimp only)) | (k_end; wrow_close) | walk1 | (dsimp only; walk1) | (leave1; walk_say "STEP leave1"; try dsimp only) | fail "no step"))
  w_strict (refine wpAny_For ?_)
  w_strict (iterate 9 (first | (k_unfold; (try dsimp only)) | (k_end; wrow_close) | walk1 | (dsimp only; walk1) | (leave1; walk_say "STEP leave1"; try dsimp only) | fail "no step"))
  have hsm : Builtin.Range.small p q 1 = true := small_one (by omega) (by omega) (by omega) (by omega)
  have hn : Builtin.Range.rangeSize p q 1 = (((q - p).toNat : Nat) : Int) := rangeSize_nat _ _
  rename Fr g1 L1 _ _ => F5
  rename News g1 L1 _ _ => N5
  rename IsRange _ _ _ _ _ _ _ _ => hr5
  rename ∀ q ∈ news, q.1 < _ => hlt5
  rename _ < _ ∧ AllLt _ news => hlt6
  have HH : ∃ (S Fd : Addr) (m5 : Str → Option Value), (∀ q ∈ news, q.1 < S) ∧ S < Fd ∧ News g1 L1 _ ((Fd, lstO [] 0) :: (S, lstO [] 0) :: news) ∧ Fr g1 L1 _ m5 ∧ m5 (Str.ofString "stack") = some (.ref S) ∧ m5 (Str.ofString "found") = some (.ref Fd) ∧ m5 (Str.ofString "text") = some (.str tx tt) := ⟨_, _, _, hlt5, hlt6.1, N5, F5, rfl, rfl, rfl⟩
  clear hlt5 hlt6 N5 F5
  obtain ⟨S, Fd, m5, lS, lF, N5, F5, q1, q2, q3⟩ := HH
  have hSF : @Ne Nat S Fd := Nat.ne_of_lt lF
  have hlN : ∀ z ∈ news, z.1 ≠ S ∧ z.1 ≠ Fd := fun z hz => ⟨Nat.ne_of_lt (lS z hz), Nat.ne_of_lt (Nat.lt_trans (lS z hz) lF)⟩
  refine for_range hr5 hsm hn rfl (PJ tx tt p S Fd news) F5 (news := (S, lstO [] 0) :: (Fd, lstO [] 0) :: news) ?_ ⟨q1, q2, q3, [], 0, [], 0, news, [], [], rfl, fun z hz => (hlN z hz).1, fun z hz => (hlN z hz).2, fun z hz => hz, rfl, .nil, trivial, nofun, Nat.le_refl _, Nat.le_refl _⟩ ?_ ?_
  · intro z hz
    rcases List.mem_cons.mp hz with rfl | hz
    · exact N5 _ (.tail _ (.head _))
    · rcases List.mem_cons.mp hz with rfl | hz
      · exact N5 _ (.head _)
      · exact N5 _ (.tail _ (.tail _ hz))
  · rintro i tk I oI h9 tk9 m9 led9 hi ⟨g1', g2', g3', ss, n1, fs, n2, rest, st, fd9, rfl, o1, o2, sub, hrn, his, hts, hst, hz1, hz2⟩ F9 N9 off9
    have offS : @Ne Nat S I := off9 _ (.head _)
    have offF : @Ne Nat Fd I := off9 _ (.tail _ (.head _))
    have offR : ∀ z ∈ rest, z.1 ≠ I := fun z hz => off9 z (.tail _ (.tail _ hz))
    have hk0 : 0 ≤ p + (i : Int) := by omega
    have hk1 : p + (i : Int) < (tx.length : Int) := by omega
    have hrn2 := prun_succ tx i p ([], [])
    rw [hrn] at hrn2
    have hisl := his.length
    have htsl := hts.length
    cases st with
    | nil =>
      cases his
      w_strict (repeat' (first | (k_unfold; (try dsimp only)) | (k_end; wrow_close) | walk1 | (dsimp only; walk1) | (leave1; walk_say "STEP leave1"; try dsimp only) | fail "no step"))
      show TurnEnd _ _ _ _ _ _ _ _
      with_reducible rename News g1 _ _ _ => NZ
      with_reducible rename Fr g1 _ _ _ => FZ
      rw [push_lst0] at NZ
      exact ⟨_, _, _, _, rfl, FZ, NZ, (List.forall_mem_cons.mpr ⟨offS, fun z hz => off9 z (.tail _ hz)⟩), g1', g2', g3', _, _, _, _, _, _, _, rfl, o1, o2, sub, hrn2, .cons _ _ .nil, hts, fun x hx => by rw [List.mem_singleton.mp hx]; exact ⟨by omega, by omega⟩, by simp, by show fd9.length ≤ i + 1; omega⟩
    | cons f r =>
      obtain ⟨ss', tf, rfl, his'⟩ := snoc_ints his
      have hf := hst f (.head _)
      obtain ⟨sv, hsv⟩ : ∃ sv, sv = ss' ++ [Value.int f tf] := ⟨_, rfl⟩
      have hl1 : ss'.length = r.length := by rw [his'.length, List.length_reverse]
      have hl2 : sv.length = r.length + 1 := by rw [hsv]; simp [hl1]
      have hz3 : r.length + 1 ≤ i := hz1
      have hl3 : sv.length ≤ 1000 := by omega
      have hl4 : 0 < (sv.length : Int) := by omega
      have hlast : sv[((sv.length : Int) - 1).toNat]? = some (.int f tf) := by rw [show ((sv.length : Int) - 1).toNat = ss'.length by omega, hsv]; simp
      have hpop : kl_last sv.toArray.toList = some (ss', .int f tf) := by rw [hsv, List.toList_toArray]; exact kpa_last _ _
      rw [← hsv] at N9 off9
      clear his hisl hz1
      rcases lett ab (k := f) (by omega) (by omega) with ⟨u1, c1⟩ | ⟨u1, c1⟩ <;> rcases lett ab (k := p + (i : Int)) hk0 hk1 with ⟨u2, c2⟩ | ⟨u2, c2⟩
      · w_strict (repeat' (first | (k_unfold; (try dsimp only)) | (k_end; wrow_close) | walk1 | (dsimp only; walk1) | (leave1; walk_say "STEP leave1"; try dsimp only) | fail "no step"))
        show TurnEnd _ _ _ _ _ _ _ _
        with_reducible rename News g1 _ _ _ => NZ
        with_reducible rename Fr g1 _ _ _ => FZ
        have hps : pstep tx (f :: r, fd9) (p + (i : Int)) = ((p + (i : Int)) :: f :: r, fd9) := by
          unfold pstep
          dsimp only
          rw [if_neg (by rw [u1, u2]; decide)]
        rw [hps] at hrn2
        rw [push_lstP] at NZ
        have his2 : ∀ tk : Tok, IntsAre (sv ++ [Value.int (p + (i : Int)) tk]) ((p + (i : Int)) :: f :: r).reverse := by
          intro tk
          rw [List.reverse_cons, hsv, List.reverse_cons]
          exact (his'.append (.cons _ _ .nil)).append (.cons _ _ .nil)
        exact ⟨_, _, _, _, rfl, FZ, NZ, List.forall_mem_cons.mpr ⟨offS, fun z hz => off9 z (.tail _ hz)⟩, g1', g2', g3', _, _, _, _, _, _, _, rfl, o1, o2, sub, hrn2, his2 _, hts, fun x hx => by
          rcases List.mem_cons.mp hx with rfl | hx
          · exact ⟨by omega, by omega⟩
          · have := hst x hx; exact ⟨by omega, by omega⟩, by show r.length + 1 + 1 ≤ i + 1; omega, by omega⟩
      · w_strict (repeat' (first | (k_unfold; (try dsimp only)) | (k_end; wrow_close) | walk1 | (dsimp only; walk1) | (leave1; walk_say "STEP leave1"; try dsimp only) | fail "no step"))
        show TurnEnd _ _ _ _ _ _ _ _
        with_reducible rename News g1 _ _ _ => NZ
        with_reducible rename Fr g1 _ _ _ => FZ
        rename _ < _ ∧ _ < _ ∧ _ < _ ∧ AllLt _ _ => ltD
        have hps : pstep tx (f :: r, fd9) (p + (i : Int)) = (r, fd9 ++ [(f, p + (i : Int) + 1, Str.ofString "u")]) := by
          unfold pstep
          dsimp only
          rw [if_pos (by rw [u1, u2]; decide), u1]
          rfl
        rw [hps] at hrn2
        rw [push_lstP] at NZ
        exact ⟨_, _, _, _, rfl, FZ, pop_led NZ, pop_off ltD offS offF offR, g1', g2', g3', _, _, _, _, _, _, _, rfl, List.forall_mem_cons.mpr ⟨Nat.ne_of_gt ltD.2.1, o1⟩, List.forall_mem_cons.mpr ⟨Nat.ne_of_gt ltD.2.2.1, o2⟩, fun z hz => .tail _ (sub z hz), hrn2, his', (hts.sub fun z hz _ => .tail _ hz).append ⟨⟨_, _, _, _, _, rfl, .head _⟩, trivial⟩, fun x hx => by have := hst x (.tail _ hx); exact ⟨by omega, by omega⟩, by omega, by rw [List.length_append]; show fd9.length + 1 ≤ i + 1; omega⟩
      · w_strict (repeat' (first | (k_unfold; (try dsimp only)) | (k_end; wrow_close) | walk1 | (dsimp only; walk1) | (leave1; walk_say "STEP leave1"; try dsimp only) | fail "no step"))
        show TurnEnd _ _ _ _ _ _ _ _
        with_reducible rename News g1 _ _ _ => NZ
        with_reducible rename Fr g1 _ _ _ => FZ
        rename _ < _ ∧ _ < _ ∧ _ < _ ∧ AllLt _ _ => ltD
        have hps : pstep tx (f :: r, fd9) (p + (i : Int)) = (r, fd9 ++ [(f, p + (i : Int) + 1, Str.ofString "l")]) := by
          unfold pstep
          dsimp only
          rw [if_pos (by rw [u1, u2]; decide), u1]
          rfl
        rw [hps] at hrn2
        rw [push_lstP] at NZ
        exact ⟨_, _, _, _, rfl, FZ, pop_led NZ, pop_off ltD offS offF offR, g1', g2', g3', _, _, _, _, _, _, _, rfl, List.forall_mem_cons.mpr ⟨Nat.ne_of_gt ltD.2.1, o1⟩, List.forall_mem_cons.mpr ⟨Nat.ne_of_gt ltD.2.2.1, o2⟩, fun z hz => .tail _ (sub z hz), hrn2, his', (hts.sub fun z hz _ => .tail _ hz).append ⟨⟨_, _, _, _, _, rfl, .head _⟩, trivial⟩, fun x hx => by have := hst x (.tail _ hx); exact ⟨by omega, by omega⟩, by omega, by rw [List.length_append]; show fd9.length + 1 ≤ i + 1; omega⟩
      · w_strict (repeat' (first | (k_unfold; (try dsimp only)) | (k_end; wrow_close) | walk1 | (dsimp only; walk1) | (leave1; walk_say "STEP leave1"; try dsimp only) | fail "no step"))
        show TurnEnd _ _ _ _ _ _ _ _
        with_reducible rename News g1 _ _ _ => NZ
        with_reducible rename Fr g1 _ _ _ => FZ
        have hps : pstep tx (f :: r, fd9) (p + (i : Int)) = ((p + (i : Int)) :: f :: r, fd9) := by
          unfold pstep
          dsimp only
          rw [if_neg (by rw [u1, u2]; decide)]
        rw [hps] at hrn2
        rw [push_lstP] at NZ
        have his2 : ∀ tk : Tok, IntsAre (sv ++ [Value.int (p + (i : Int)) tk]) ((p + (i : Int)) :: f :: r).reverse := by
          intro tk
          rw [List.reverse_cons, hsv, List.reverse_cons]
          exact (his'.append (.cons _ _ .nil)).append (.cons _ _ .nil)
        exact ⟨_, _, _, _, rfl, FZ, NZ, List.forall_mem_cons.mpr ⟨offS, fun z hz => off9 z (.tail _ hz)⟩, g1', g2', g3', _, _, _, _, _, _, _, rfl, o1, o2, sub, hrn2, his2 _, hts, fun x hx => by
          rcases List.mem_cons.mp hx with rfl | hx
          · exact ⟨by omega, by omega⟩
          · have := hst x hx; exact ⟨by omega, by omega⟩, by show r.length + 1 + 1 ≤ i + 1; omega, by omega⟩
  · rintro h9 tk9 m9 led9 ⟨g1', g2', g3', ss, n1, fs, n2, rest, st, fd9, rfl, o1, o2, sub, hrn, his, hts, hst, hz1, hz2⟩ F9 N9
    rw [hrun] at hrn
    obtain ⟨rfl, rfl⟩ := Prod.mk.inj hrn
    have hz3 : fd.length < 64 := by omega
    w_strict (iterate 9 (first | (k_unfold; (try dsimp only)) | (k_end; wrow_close) | walk1 | (dsimp only; walk1) | (leave1; walk_say "STEP leave1"; try dsimp only) | fail "no step"))
    with_reducible rename News g1 _ _ _ => N8
    with_reducible rename Fr g1 _ _ _ => F8
    refine sort_trips F8 N8 (.tail _ (.head _)) (hts.sub fun z hz _ => .tail _ (.tail _ hz)) hz3 hnd ?_
    intro D vs' cs' c h8 F7 N7 t7 p7 w7 l7
    w_strict (repeat' (first | (k_unfold; (try dsimp only)) | (k_end; wrow_close) | walk1 | (dsimp only; walk1) | (leave1; walk_say "STEP leave1"; try dsimp only) | fail "no step"))
    with_reducible rename News h₀ _ _ _ => NZ
    with_reducible rename Fr h₀ _ _ _ => FZ
    exact hret _ _ _ _ FZ NZ ⟨D, vs', cs', c, rfl, .head _, t7.sub fun z hz _ => .tail _ hz, p7, w7, fun z hz => .tail _ (.tail _ (.tail _ (sub z hz)))⟩
end Mine
end

section
-- part MkLazy
open PySem.W.X PySem.W.XRun PySem PySem.Spec PySem.Calls PySem.W PyProof.Rows
local macro_rules | `(tactic| k_room) => `(tactic| ktr_room)
local macro_rules | `(tactic| k_all) => `(tactic| exact allNe_of' (by assumption) (by omega))
local macro_rules | `(tactic| k_all) => `(tactic| ((with_reducible rename AllLt _ _ => hAllLt); exact allNe_of hAllLt (by omega)))
local macro_rules | `(tactic| k_all) => `(tactic| assumption)
local macro_rules | `(tactic| k_mem) => `(tactic| first | exact List.Mem.head _ | (refine' List.mem_cons_of_mem _ ?_; k_mem))
local macro_rules | `(tactic| walk_at "call builtin:dict.get") => `(tactic| (k_here; k_dflt (first | refine kdg_get2 (knd := PySem.strKind _ _) (by k_asm) (by k_mem) (by assumption) (by assumption) (strKind_is _ _ _ _) (some _) (by rfl) ?_ | refine kdg_get2 (knd := PySem.strKind _ _) (by k_asm) (by k_mem) (by assumption) (by assumption) (strKind_is _ _ _ _) none (by rfl) ?_); (try dsimp only [Option.getD])))
local macro_rules | `(tactic| x_close) => `(tactic| ((with_reducible rename Mine.EndQ _ _ _ _ _ _ => eQ); (with_reducible rename Mem _ _ _ _ => DD); refine eQ _ _ _ _ DD ?_; exact ⟨_, _, _, rfl, rfl⟩))
namespace Mine
theorem mk_lazyX {w : World} {A : Around} {s : Shared} {ta : Tok} {lt : Str} {Q E : Value → Shared → Prop} (X : (hd.heap_39 w.params).In s.heap) (hz : ¬ (Nat.ble sizeLine.succ lt.length = true)) (hQ : EndQ (fun v nw => ∃ x d tk, v = .ref x ∧ nw = [(x, { cls := .ref 525, dict := some d, data := .prim (.str lt tk) }), (d, dictOf [] 0)]) s.heap s.gens s.drawn s.os Q) :
    wpAny (model PW w) A (call (.ref 525) [.str lt ta] []) Q E s := by
  x_run
end Mine
end

section
-- part Tm
open PySem PySem.Spec PySem.Calls PySem.W PyProof.Rows
local macro_rules | `(tactic| k_room) => `(tactic| ktr_room)
local macro_rules | `(tactic| k_all) => `(tactic| exact allNe_of' (by assumption) (by omega))
local macro_rules | `(tactic| k_all) => `(tactic| ((with_reducible rename AllLt _ _ => hAllLt); exact allNe_of hAllLt (by omega)))
local macro_rules | `(tactic| k_all) => `(tactic| assumption)
local macro_rules | `(tactic| k_mem) => `(tactic| first | exact List.Mem.head _ | (refine' List.mem_cons_of_mem _ ?_; k_mem))
local macro_rules | `(tactic| walk_at "call builtin:getattr") => `(tactic| (k_here; k_dflt (refine' Mine.oids_miss ?hA ?k1 ?k2 ?k3 ?k4 ?k5 ?k6 ?k7 ?k8 ?k9 ?k10 ?k11 ?k12 ?_; (case hA => exact rfl); (case k1 => k_asm); (case k2 => k_asm); (case k3 => k_asm); (case k4 => k_inst); (case k5 => k_is); (case k6 => k_is); (case k7 => k_is); (case k8 => k_is); (case k9 => k_is); (case k10 => decide +kernel); (case k11 => decide +kernel); (case k12 => k_get); k_whole); intro h' tk' F' N'; (try k_sweep)))
local macro_rules | `(tactic| walk_at "call builtin:getattr") => `(tactic| (k_here; k_dflt (refine' Mine.oids_hit ?k1 ?k2 ?k4 ?k5 ?k6 ?k7 ?k8 ?k12 ?k13 ?_; (case k1 => k_asm); (case k2 => k_asm); (case k4 => k_inst); (case k5 => k_is); (case k6 => k_is); (case k7 => k_is); (case k8 => k_is); (case k12 => k_get); (case k13 => k_handed); k_whole)))
local macro_rules | `(tactic| walk_at "exec For Tuple Call") => `(tactic| refine wpAny_For ?_)
local macro_rules | `(tactic| walk_at "call builtin:len") => `(tactic| (k_here; (with_reducible show wpAny _ _ (call (Value.builtin "len") [Value.ref _]) _ _ _); k_dflt (refine kda_len (knd := PySem.intKind _ _) (by k_asm) (by k_mem) (by assumption) (by assumption) (by first | omega | (simp only [List.length_append, List.length_cons, List.length_nil]; omega)) ?_)))
local macro_rules | `(tactic| walk_at "setItem ref int") => `(tactic| (k_here; k_dflt (refine' Mine.set_new ?F ?N ?U ?d ?z ?v ?_; (case F => k_asm); (case N => k_asm); (case U => k_updF); (case d => assumption); (case z => (try simp only [List.length_append, List.length_cons, List.length_nil]); omega); (case v => assumption)); intro h' o' F' N' hd'; (try dsimp only at N'); (try k_sweep)))
local macro_rules | `(tactic| walk_at "getMethod ref") => `(tactic| (k_here; (with_reducible show wpAny _ _ (getMethod (Value.ref _) (Str.ofString "get") _) _ _ _); k_dflt (refine kdg_method (knd := PySem.intKind _ _) (by k_asm) (by k_mem) (by assumption) ?_)))
local macro_rules | `(tactic| walk_at "call builtin:dict.get") => `(tactic| (k_here; k_dflt (refine kdg_get1 (knd := PySem.intKind _ _) (by k_asm) (by k_mem) (by assumption) (by assumption) (intKind_is _ _ _ _) _ (by first | assumption | rfl) ?_); (try dsimp only [Option.getD])))
local macro_rules | `(tactic| walk_at "compareOp In int ref") => `(tactic| (k_here; k_dflt (refine kda_in (knd := PySem.intKind _ _) (by k_asm) (by k_mem) (by assumption) (by assumption) (intKind_is _ _ _ _) _ (by first | assumption | rfl) ?_)))
local macro_rules | `(tactic| walk_at "compareOp Is ref ref") => `(tactic| (k_here; k_dflt (refine' wpAny_is_ref_other ?ne ?x ?y ?n ?_; (case ne => assumption); (case x => (exact (PyProof.Rows.News.get (by k_asm) (by k_mem)))); (case y => (exact (PyProof.Rows.News.get (by k_asm) (by k_mem)))); (case n => assumption))))
local macro_rules | `(tactic| walk_at "binaryOp Add ref ref") => `(tactic| (k_here; k_dflt (refine' kde_addT ?k1 ?k2 ?k3 ?k4 ?k5 ?k6 ?k7 ?k8 ?_; (case k1 => k_asm); (case k2 => k_asm); (case k3 => exact PyProof.Rows.News.isTup (by k_asm) (by k_mem)); (case k4 => exact PyProof.Rows.News.isTup (by k_asm) (by k_mem)); (case k5 => exact List.cons_ne_nil _ _); (case k6 => assumption); (case k7 => (simp only [List.length_cons, List.length_nil]; omega)); (case k8 => exact rfl); k_whole); intro D' h' F' N' l1; (try k_lt l1); (try k_sweep)))
local macro_rules | `(tactic| walk_at "getMethod ref") => `(tactic| (k_here; k_dflt (refine' method_inst ?k1 ?k2 ?k3 ?k4 ?k5 ?k6 ?k7 ?_; (case k1 => k_asm); (case k2 => k_asm); (case k3 => k_inst); (case k4 => k_is); (case k5 => k_is); (case k6 => k_is); (case k7 => assumption); k_whole)))
local macro_rules | `(tactic| walk_at "setItem ref int") => `(tactic| (k_here; k_dflt (refine' Mine.set_old ?F ?N ?U ?d ?z ?v ?_; (case F => k_asm); (case N => k_asm); (case U => k_updF); (case d => assumption); (case z => omega); (case v => assumption)); intro h' o' F' N' hd'; (try dsimp only at N'); (try k_sweep)))
local macro_rules | `(tactic| k_inst) => `(tactic| (refine' Mine.InstAt.of_newsF ?N ?h1 ?h2; (case N => k_asm); (case h1 => k_mem); (case h2 => k_mem)))
local macro_rules | `(tactic| walk_at "getAttr ref") => `(tactic| (k_here; k_dflt (refine' Mine.get_exc ?k1 ?k2 ?k3 ?k4 ?k5 ?k6 ?k7 ?k8 ?k9 ?k10 ?_; (case k1 => k_asm); (case k2 => k_asm); (case k3 => k_inst); (case k4 => k_is); (case k5 => k_is); (case k6 => k_is); (case k7 => k_is); (case k8 => k_is); (case k9 => k_get); (case k10 => k_handed); k_whole)))
local macro_rules | `(tactic| walk_at "setAttr ref") => `(tactic| (k_here; k_dflt (refine' Mine.set_exc ?k1 ?k2 ?k3 ?k4 ?k5 ?k6 ?k7 ?k8 ?k9 ?k10 ?k11 ?k12 ?k13 ?k14 ?k15 ?_; (case k1 => k_asm); (case k2 => k_asm); (case k3 => k_asm); (case k4 => k_inst); (case k5 => exact rfl); (case k6 => k_is); (case k7 => k_is); (case k8 => (intro self; (try dsimp only); (repeat rw [refuseLoop_ref]); exact PySem.F.store_Exception.passes self)); (case k9 => k_is); (case k10 => exact rfl); (case k11 => k_is); (case k12 => k_get); (case k13 => k_put); (case k14 => k_upd); (case k15 => exact Nat.le_of_ble_eq_true rfl); k_whole); intro h' F' N'; (try k_sweep)))
local macro_rules | `(tactic| walk_at "call builtin:getattr") => `(tactic| (k_here; k_dflt (refine' Mine.none_name ?hA ?k1 ?k2 ?_; (case hA => exact rfl); (case k1 => k_asm); (case k2 => k_asm)); intro h' tk' F' N'; (try k_sweep)))
local macro_rules | `(tactic| walk_at "call builtin:getattr") => `(tactic| (k_here; k_dflt (refine' Mine.name3 ?k1 ?k2 ?k3 _ ?k4 ?k5 ?k6 ?_; (case k1 => k_asm); (case k2 => k_asm); (case k3 => k_asm); (case k4 => k_mem); (case k5 => k_mem); (case k6 => assumption)); intro nt'))
local macro_rules | `(tactic| walk_at "eval Name") => `(tactic| (k_here; k_dflt (refine' ld ?k1 ?k2 ?_; (case k1 => k_asm); (case k2 => first | exact rfl | assumption); k_whole)))
local macro_rules | `(tactic| walk_at "call builtin:list.append") => `(tactic| (k_here; (show wpAny _ _ (call (Value.builtin _) [Value.ref _, _]) _ _ _); k_dflt (refine' append_K ?k1 ?k2 ?k3 ?_ ?z; (case k1 => k_asm); (case k2 => k_asm); (case k3 => k_upd); (case z => (rw [sizeLine_eq]; simp only [List.size_toArray]; omega)); k_whole); intro h' F' N'; (try k_sweep)))
local macro_rules | `(tactic| walk_at "getMethod ref") => `(tactic| (k_here; (with_reducible show wpAny _ _ (getMethod (Value.ref _) (Str.ofString "match_core") _) _ _ _); k_dflt (refine' Mine.core_method ?k1 ?k2 ?k3 _ ?k4 ?k5 ?k6 ?_; (case k1 => k_asm); (case k2 => k_asm); (case k3 => k_asm); (case k4 => k_mem); (case k5 => k_mem); (case k6 => assumption))))
local macro_rules | `(tactic| walk_at "loadName") => `(tactic| (refine' ldn ?k1 ?k2 ?_; (case k1 => assumption); (case k2 => first | exact rfl | assumption)))
local macro_rules | `(tactic| k_all) => `(tactic| first | exact Mine.allNe_c1 (by assumption) (by omega) | exact Mine.allNe_c2 (by assumption) (by omega) | exact Mine.allNe_c3 (by assumption) (by omega) | exact Mine.allNe_c4 (by assumption) (by omega) | exact Mine.allNe_c5 (by assumption) (by omega) | exact Mine.allNe_c6 (by assumption) (by omega) | exact Mine.allNe_c7 (by assumption) (by omega) | exact Mine.allNe_c8 (by assumption) (by omega))
local macro_rules | `(tactic| walk_at "truthy ref") => `(tactic| (k_here; (with_reducible show wpAny _ _ (truthy (Value.ref _)) _ _ _); k_dflt (refine' Mine.truthy_lst ?N ?m ?z ?b ?_; (case N => k_asm); (case m => k_mem); (case z => first | omega | (simp only [List.length_cons, List.length_nil]; omega)); (case b => first | assumption | exact (show _ = true from rfl) | exact (show _ = false from rfl)))))
local macro_rules | `(tactic| walk_at "compareOp Lt int float") => `(tactic| refine Mine.inf_lt ?_)
local macro_rules | `(tactic| walk_at "call builtin:len") => `(tactic| (k_here; (with_reducible show wpAny _ _ (call (Value.builtin "len") [Value.ref _]) _ _ _); k_dflt (refine' Mine.len_lst ?N ?m ?z ?_; (case N => k_asm); (case m => k_mem); (case z => first | omega | (simp only [List.length_cons, List.length_nil]; omega)))))
local macro_rules | `(tactic| walk_at "call ref") => `(tactic| (k_here; (with_reducible show wpAny _ _ (call (Value.ref 87) _) _ _ _); k_dflt (refine' Mine.call_exc ?F ?X ?N ?hC ?hB ?hA ?hN ?hi ?hf ?hself ?hz ?_; (case F => k_asm); (case X => k_asm); (case N => k_asm); (case hC => k_is); (case hB => decide +kernel); (case hA => decide +kernel); (case hN => decide +kernel); (case hi => k_is); (case hf => k_is); (case hself => k_is); (case hz => exact Nat.le_of_ble_eq_true rfl); k_whole); intro x' t' h' F' N' l1 l2; (try k_lt l1); (try k_lt2 l2); (try k_sweep); k_enter))
local macro_rules | `(tactic| walk_at "call ref") => `(tactic| (k_here; (with_reducible show wpAny _ _ (call (Value.ref 125) _) _ _ _); k_dflt (refine' Mine.call_exc ?F ?X ?N ?hC ?hB ?hA ?hN ?hi ?hf ?hself ?hz ?_; (case F => k_asm); (case X => k_asm); (case N => k_asm); (case hC => k_is); (case hB => decide +kernel); (case hA => decide +kernel); (case hN => decide +kernel); (case hi => k_is); (case hf => k_is); (case hself => k_is); (case hz => exact Nat.le_of_ble_eq_true rfl); k_whole); intro x' t' h' F' N' l1 l2; (try k_lt l1); (try k_lt2 l2); (try k_sweep); k_enter))
local macro_rules | `(tactic| walk_at "setAttr ref") => `(tactic| (k_here; k_dflt (refine' Mine.set_exc0 ?F ?X ?N ?hx ?hs ?hc ?hp ?hm ?hD ?ha ?_; (case F => k_asm); (case X => k_asm); (case N => k_asm); (case hx => k_all); (case hs => k_is); (case hc => k_is); (case hp => (intro self; (try dsimp only); (repeat rw [refuseLoop_ref]); exact PySem.F.store_Exception.passes self)); (case hm => k_is); (case hD => exact rfl); (case ha => k_is); k_whole); intro d' h' F' N' l1; (try k_lt l1); (try k_sweep)))
namespace Mine
theorem not_topP {e : Ex} {k p : Int} (he : e ≠ .top) : ¬ Ks.add (Keys fun _ => none) .top p e k := by
  rintro (h | ⟨h, -⟩)
  · exact keys0 h
  · exact he h
theorem up_topP (g : Bool) (p : Int) : Up g p (Ks.add (Keys fun _ => none) .top p) := by
  have h : eS g ≠ .top ∧ eA g ≠ .top ∧ eB g ≠ .top ∧ eZ g ≠ .top := by cases g <;> decide
  exact ⟨fun k z => (not_topP h.1 z).elim, fun k z => (not_topP h.2.1 z).elim, fun k z => (not_topP h.2.2.1 z).elim, fun k z => (not_topP h.2.2.2 z).elim⟩
theorem pt_topP (p : Int) : PT p (Ks.add (Keys fun _ => none) .top p) := ⟨up_topP true p, up_topP false p, fun k z => (not_topP (by decide) z).elim⟩
theorem tm_ok {w : World} {mean : ExcName → Option Value} {mg mb : Str → Option Value} {gr : Gr} {text : Str} {tt tp : Tok} {R : Nat} {p : Int} (hR : R ≤ 20) (htx : text.length ≤ 12) (hp0 : 0 ≤ p) (hp1 : p ≤ (text.length : Int)) :
    Spec1 w mean mg mb 290 [.ref (gr.xa .top), .str text tt] [(Str.ofString "pos", .int p tp)] 600 5000 (fun news => GrOk R gr news)
      (fun news r news' => GrOk (R + 1) gr news' ∧ Keep news news' ∧ ∃ BB ts q, RT text p ts q ∧ q ≤ (text.length : Int) ∧ IsT gr text BB news' r (.node .top p q ts)) := by
  intro dp un gd cn cs a ccd cl outer A₀ base h₀ L m news s Q E B F X N T hk hPre hdd huu hret
  obtain ⟨slS, hin, hna, hsh⟩ := hPre.inst .top
  obtain ⟨ps, hps, hpl⟩ := hPre.ex .top
  have hxdS : ∃ es n, (gr.xd .top, dictOf es n) ∈ news ∧ getL (Str.ofString "match") es = some none ∧ getL (Str.ofString "match_core") es = some none := by
    rcases hps with ⟨-, h⟩ | ⟨hh, kk, t, vs, ep, h, -⟩
    · exact ⟨_, _, h, rfl, rfl⟩
    · exact ⟨_, _, h, by rfl, by rfl⟩
  obtain ⟨es, en, hxd, hmt, hmc⟩ := hxdS
  unfold InstOk at hin
  have hcls : Ex.top.cls = 489 := rfl
  rw [hcls] at hin
  w_top off; w_on
  refine wpAny_call ?_
  w_strict (k_dflt (refine' code_def (binds := [(Str.ofString "self", .ref (gr.xa .top)), (Str.ofString "text", .str text tt), (Str.ofString "pos", .int p tp)]) ?k1 ?k2 ?k3 ?k4 ?k5 ?kA ?kF ?kK ?k6 ?k7 ?k8 ?k9 ?kB ?_ ?c2 ?c3 ?c4 ?c5; (case kA => exact rfl); (case kF => exact rfl); (case kK => assumption); (case k1 => k_asm); (case k2 => k_asm); (case k3 => k_asm); (case k4 => k_asm); (case k5 => k_asm); (case k6 => k_is); (case k7 => k_is); (case k8 => ktr_room); (case k9 => first | exact BindsTo.of_eq rfl | exact binds_K (by k_in) rfl (by k_is) rfl rfl rfl); (case c5 => decide); (case kB => exact locs rfl); (case c2 => exact rfl); (case c3 => exact rfl); (case c4 => exact rfl); k_whole); intro g1 L1 h1 FG1 F1 N1 B1 X1 T1; (try dsimp only); (try k_fold))
  w_strict (iterate 48 (first | (k_unfold; (try dsimp only)) | (k_end; wrow_close) | walk1 | (dsimp only; walk1) | (leave1; walk_say "STEP leave1"; try dsimp only) | fail "no step"))
  with_reducible rename News _ _ _ _ => N9
  rename Obj.IsDictOf (intKind _ _) _ [] => hocd
  rename (_ == sysModules) = false => hcs
  rename _ < _ ∧ _ < _ ∧ _ < _ ∧ AllLt _ _ => hl3
  rename _ < _ ∧ _ < _ ∧ AllLt _ _ => hl2
  have hst := start_st (gr := gr) (text := text) N9 hPre (fun q hq => .tail _ (.tail _ (.tail _ (.tail _ hq)))) (.head _) hocd hcs
    ⟨_, _, _, _, _, _, _, -1, _, _, .tail _ (.head _), by omega, by omega, .inl rfl⟩ (.tail _ (.tail _ (.head _))) (Nat.ne_of_gt hl3.1) (fun q hq => Nat.ne_of_lt (ktn_ltOf hl3.2.2.2 q hq)) (fun q hq => Nat.ne_of_lt (ktn_ltOf hl2.2.2 q hq))
  refine Spec.use (by assumption) (by assumption) (by assumption) N9 (by assumption) rfl ((all_ok hR htx hp0 hp1).2 _ [] (fun _ => none) keys0 (pt_topP p)) hst (by ktr_room) (by ktr_units) ?_
  rintro r news4 h4 tk4 F4 N4 ⟨ckv4, rows4, res, S4, K4, G4, hres, ⟨⟨ts, q, rfl, hrt, hq0, hq1⟩⟩⟩
  have K5 : Keep news news4 := (Keep.of_sub fun q hq => .tail _ (.tail _ (.tail _ (.tail _ hq)))).trans K4
  have G5 := end_gr S4 (hst.2.keep K4)
  have hres2 := hres
  cases hres with
  | @mk na nl nd nod ne ns nt nts ntt ntx nvs ncs nep hn1 hn2 hn3 hn4 hn5 hn8 hn6 hn7 =>
  w_strict (k_sweep; repeat' (first | (k_unfold; (try dsimp only)) | (k_end; wrow_close) | walk1 | (dsimp only; walk1) | (leave1; walk_say "STEP leave1"; try dsimp only) | fail "no step"))
  with_reducible rename News _ _ _ _ => N6
  with_reducible rename Fr _ _ _ _ => F6
  exact hret _ _ _ _ F6 N6 ⟨G5, K5, _, ts, q, hrt, hq1, hres2⟩
end Mine
end

section
-- part Lb
open PySem PySem.W PyProof.Rows
namespace Mine
/-- the law's statements and its scope, read off the program -/
abbrev lawX : {x : List Stmt × Scope // ∃ a b c d e f g h, PW.main.body[30]? = some (Stmt.FunctionDef a b x.1 c d e x.2 f g h)} := ⟨(_, _), _, _, _, _, _, _, _, _, rfl⟩
abbrev lawB : List Stmt := lawX.1.1
abbrev lawS : Scope := lawX.1.2
abbrev lawT3 : {t : List Stmt // ∃ a b c, lawB = a :: b :: c :: t} := ⟨_, _, _, _, rfl⟩
abbrev lawT8 : {t : List Stmt // ∃ a b c d e, lawT3.1 = a :: b :: c :: d :: e :: t} := ⟨_, _, _, _, _, _, rfl⟩
abbrev lawT11 : {t : List Stmt // ∃ a b c, lawT8.1 = a :: b :: c :: t} := ⟨_, _, _, _, rfl⟩
abbrev lawT12 : {t : List Stmt // ∃ a, lawT11.1 = a :: t} := ⟨_, _, rfl⟩
abbrev lawT13 : {t : List Stmt // ∃ a, lawT12.1 = a :: t} := ⟨_, _, rfl⟩
abbrev lawT15 : {t : List Stmt // ∃ a b c d, lawT11.1 = a :: b :: c :: d :: t} := ⟨_, _, _, _, _, rfl⟩
abbrev lawT14 : {t : List Stmt // ∃ a b c, lawT11.1 = a :: b :: c :: t} := ⟨_, _, _, _, rfl⟩
abbrev lawT16 : {t : List Stmt // ∃ a b, lawT14.1 = a :: b :: t} := ⟨_, _, _, rfl⟩
abbrev lawT17 : {t : List Stmt // ∃ a, lawT16.1 = a :: t} := ⟨_, _, rfl⟩
abbrev lawT18 : {t : List Stmt // ∃ a, lawT17.1 = a :: t} := ⟨_, _, rfl⟩
abbrev lawCl (L : Addr) : List (Str × Addr) := cellsFrom (L + 1) lawS.names []
abbrev LA (dp un : Nat) (gd : Option (List Code)) (L a : Addr) (ccd : Value) : Around := ktrTop dp un gd (Str.ofString "law") lawS L a ccd (lawCl L) []
abbrev LE (L a : Addr) (ccd : Value) : Env := envX (Str.ofString "law") lawS L a ccd (lawCl L)
/-- what stands around the law's frame -/
structure LCx (w : World) (mean : ExcName → Option Value) (mg mb : Str → Option Value) (A₀ : Around) (base h₀ : Heap) (dp un : Nat) : Prop where
  XB : (hd.heap_39 w.params).In base
  TB : Top topProg TLOOSE mean mg mb base
  B : Below A₀ base [] h₀
  X : (hd.heap_39 w.params).In h₀
  T : Top topProg TLOOSE mean mg mb h₀
  bt : Bt w h₀
  hdd : dp + 690 < recursionLimit
  huu : un + 7000 < cLine
theorem updf_tail' {a d : Addr} {ob o : Obj} {r : List (Addr × Obj)} {g : Obj → List (Addr × Obj)} (h : @Ne Nat a d) (u : UpdF d o r g) : UpdF d o ((a, ob) :: r) (fun o' => (a, ob) :: g o') := .tail h u
abbrev cellO (v : Option Value) : Obj := { cls := .type "cell", data := .cell v }
abbrev CellAt (news : Led) (c : Addr) (v : Option Value) : Prop := (c, cellO v) ∈ news
theorem storeX {M : Model} {A : Around} {E : Value → Shared → Prop} {s : Shared} {h₀ : Heap} {L a : Addr} {m : Str → Option Value} {cn : Str} {cs : Scope} {ccd : Value} {cl : List (Str × Addr)}
    {x : Str} {v : Value} {Q : Unit → Shared → Prop} {news : List (Addr × Obj)} {g : Obj → List (Addr × Obj)} {c : Addr} {v₀ : Option Value} (F : Fr h₀ L s.heap m) (N : News h₀ L s.heap news) (hc : cl.lookup x = some c) (U : UpdF c (cellO v₀) news g)
    (h : ∀ h', Fr h₀ L h' m → News h₀ L h' (g (cellO (some v))) → Q () { s with heap := h' })
    (hk : cs.kind = .function) (hx : (envX cn cs L a ccd cl).kindOf x = some .cell) : wpAny M A (storeName (envX cn cs L a ccd cl) x v) Q E s := by
  obtain ⟨pre, post, rfl, hg, h1, h2⟩ := U.split
  have hmem := N (c, cellO v₀) (List.mem_append_right _ (.head _))
  unfold storeName
  simp only [hx, hk]
  refine wpAny_bind (wpAny_cellOf hc ?_)
  unfold cellSet
  refine wpAny_bind (wpAny_load hmem.1 ?_)
  have hs := Heap.SameBut.update s.heap c (fun o : Obj => { o with data := .cell (some v) })
  refine wpAny_update hmem.1 (h _ ⟨F.ns.sameBut hs (Ne.symm hmem.2.1), fun b ob e => (hs.2 b (fun q => ?_)).trans (F.keep b ob e), F.above⟩ (hg (cellO (some v)) ▸ N.setAt h1 h2 hs (Heap.get?_update_self _ hmem.1 rfl)))
  rw [q, hmem.2.2] at e; cases e
end Mine
end

section
-- part PA
open PySem PySem.Spec PySem.Calls PySem.W PyProof.Rows
local macro_rules | `(tactic| k_room) => `(tactic| ktr_room)
local macro_rules | `(tactic| k_all) => `(tactic| exact allNe_of' (by assumption) (by omega))
local macro_rules | `(tactic| k_all) => `(tactic| ((with_reducible rename AllLt _ _ => hAllLt); exact allNe_of hAllLt (by omega)))
local macro_rules | `(tactic| k_all) => `(tactic| assumption)
local macro_rules | `(tactic| k_mem) => `(tactic| first | exact List.Mem.head _ | (refine' List.mem_cons_of_mem _ ?_; k_mem))
local macro_rules | `(tactic| walk_at "call builtin:dict.get") => `(tactic| (k_here; k_dflt (first | refine kdg_get2 (knd := PySem.strKind _ _) (by k_asm) (by k_mem) (by assumption) (by assumption) (strKind_is _ _ _ _) (some _) (by rfl) ?_ | refine kdg_get2 (knd := PySem.strKind _ _) (by k_asm) (by k_mem) (by assumption) (by assumption) (strKind_is _ _ _ _) none (by rfl) ?_); (try dsimp only [Option.getD])))
local macro_rules | `(tactic| walk_at "getItem ref int") => `(tactic| (k_here; k_dflt (refine' Mine.item_lst ?N ?m ?a ?b ?c ?_; (case N => k_asm); (case m => k_mem); (case a => decide); (case b => decide); (case c => rfl); k_whole)))
local macro_rules | `(tactic| walk_at "eval Name") => `(tactic| (k_here; k_dflt (refine' nameX_L ?zpk1 ?zpk2 ?_ ?zphk ?zphx ?zphd; (case zpk1 => k_asm); (case zpk2 => first | assumption | exact rfl); (case zphk => rfl); (case zphx => rfl); (case zphd => decide); k_whole)))
local macro_rules | `(tactic| walk_at "eval Name") => `(tactic| (k_here; k_dflt (refine' nameX_C ?zpN ?zpc ?zpm ?zpd ?_ ?zphk ?zphx ?zphd; (case zpN => k_asm); (case zpc => exact rfl); (case zpm => first | assumption | k_mem); (case zpd => first | assumption | exact rfl); (case zphk => rfl); (case zphx => rfl); (case zphd => decide); k_whole)))
local macro_rules | `(tactic| k_all) => `(tactic| (refine List.forall_mem_cons.mpr ⟨?_, ?_⟩; (show @Ne Nat _ _; omega); k_all))
local macro_rules | `(tactic| walk_at "storeName") => `(tactic| (k_here; k_dflt (refine' Mine.storeX ?zpF ?zpN ?zpc ?zpU ?_ ?zpa ?zpb; (case zpa => rfl); (case zpb => rfl); (case zpF => k_asm); (case zpN => k_asm); (case zpc => exact rfl); (case zpU => (first | exact UpdF.head (by k_all) | exact Mine.updf_tail' (by omega) (UpdF.head (by k_all)) | exact Mine.updf_tail' (by omega) (Mine.updf_tail' (by omega) (UpdF.head (by k_all))) | exact Mine.updf_tail' (by omega) (Mine.updf_tail' (by omega) (Mine.updf_tail' (by omega) (UpdF.head (by k_all)))) | exact Mine.updf_tail' (by omega) (Mine.updf_tail' (by omega) (Mine.updf_tail' (by omega) (Mine.updf_tail' (by omega) (UpdF.head (by k_all))))) | exact Mine.updf_tail' (by omega) (Mine.updf_tail' (by omega) (Mine.updf_tail' (by omega) (Mine.updf_tail' (by omega) (Mine.updf_tail' (by omega) (UpdF.head (by k_all)))))) | exact Mine.updf_tail' (by omega) (Mine.updf_tail' (by omega) (Mine.updf_tail' (by omega) (Mine.updf_tail' (by omega) (Mine.updf_tail' (by omega) (Mine.updf_tail' (by omega) (UpdF.head (by k_all))))))) | exact Mine.updf_tail' (by omega) (Mine.updf_tail' (by omega) (Mine.updf_tail' (by omega) (Mine.updf_tail' (by omega) (Mine.updf_tail' (by omega) (Mine.updf_tail' (by omega) (Mine.updf_tail' (by omega) (UpdF.head (by k_all)))))))))); k_whole); intro h' F' N'; (try dsimp only at N'); (try k_sweep)))
local macro_rules | `(tactic| k_mem) => `(tactic| with_reducible assumption)
local macro_rules | `(tactic| walk_at "eval Name") => `(tactic| (k_here; (with_reducible show wpAny _ _ (eval (PySem.Expr.Name _ _) (compEnvC _ _ _ _)) _ _ _); k_dflt (refine' lcf_cell ?zfN ?zfc ?zfm ?zfd ?_ ?zfa ?zfb; (case zfa => rfl); (case zfb => rfl); (case zfN => k_asm); (case zfc => exact rfl); (case zfm => k_mem); (case zfd => exact rfl); k_whole)))
namespace Mine
abbrev one1 (c : Nat) : Str := ⟨#[c]⟩
theorem join_cps : ∀ cs : List Nat, (Str.join (Str.ofString "") (cs.map one1)).cps.toList = cs
  | [] => rfl
  | [_] => rfl
  | c :: d :: r => by
    show ((one1 c ++ Str.ofString "") ++ Str.join (Str.ofString "") ((d :: r).map one1)).cps.toList = _
    rw [Str.cps_append, Str.cps_append, Array.toList_append, Array.toList_append, join_cps (d :: r)]
    rfl
theorem joinAB {cs : List Nat} (h : ∀ c ∈ cs, c = 97 ∨ c = 98) : AB (Txt.join (Str.ofString "") (cs.map one1)) ∧ (Txt.join (Str.ofString "") (cs.map one1)).length = cs.length := by
  have e : (Txt.join (Str.ofString "") (cs.map one1)).cps.toList = cs := by
    show (Builtin.Str.glued (Str.ofString "") (cs.map one1)).cps.toList = cs
    rw [StrLaws.glued_eq_join]
    exact join_cps cs
  have el : (Txt.join (Str.ofString "") (cs.map one1)).length = cs.length := by rw [← congrArg List.length e, Array.length_toList]; rfl
  refine ⟨fun i hi => ?_, el⟩
  rw [el] at hi
  rw [← Array.getElem?_toList, e, List.getElem?_eq_getElem hi]
  exact (h _ (List.getElem_mem hi)).imp (congrArg some) (congrArg some)
theorem carried_snoc {v : Value} {d : PyData} (hc : Carried v d) : ∀ {vs : List Value} {ds : List PyData}, CarriedAll vs ds → CarriedAll (vs ++ [v]) (ds ++ [d])
  | _, _, .nil => .cons hc .nil
  | _, _, .cons h r => .cons h (carried_snoc hc r)
theorem partA {w : World} {mean : ExcName → Option Value} {mg mb : Str → Option Value} {A₀ : Around} {base h₀ : Heap} {dp un : Nat} {gd : Option (List Code)} {L a : Addr} {ccd : Value} {m : Str → Option Value} {news : Led} {s : Shared} {Q : Flow → Shared → Prop} {E : Value → Shared → Prop}
    {sc : Addr} {vs : List Value} {ns : List Int}
    (C : LCx w mean mg mb A₀ base h₀ dp un) (F : Fr h₀ L s.heap m) (hsc : m (Str.ofString "script") = some (.ref sc)) (hl : h₀.IsList sc vs.toArray) (hi : IntsAre vs ns) (hn : ns.length ≤ 63)
    (N : News h₀ L s.heap ((L + 1 + 1 + 1 + 1 + 1, cellO none) :: (L + 1 + 1 + 1 + 1, cellO none) :: (L + 1 + 1 + 1, cellO none) :: (L + 1 + 1, cellO none) :: (L + 1, cellO none) :: news)) (hlt : ∀ q ∈ news, q.1 < L)
    (k : ∀ (tx : Str) (tt : Tok) (p : Int) (tp : Tok) (news3 : Led) (h' : Heap) (tk' : Nat), AB tx → tx.length ≤ 12 → 0 ≤ p → p ≤ (tx.length : Int) → Fr h₀ L h' m → News h₀ L h' news3 →
      CellAt news3 (L + 1 + 1) (some (.str tx tt)) → CellAt news3 (L + 1 + 1 + 1) (some (.int p tp)) → CellAt news3 (L + 1 + 1 + 1 + 1) none → CellAt news3 (L + 1 + 1 + 1 + 1 + 1) none → (∀ q ∈ news, q ∈ news3) →
      wpAny (model PW w) (LA dp un gd L a ccd) (execs lawT3.1 (LE L a ccd)) Q E { s with heap := h', toks := tk' }) : wpAny (model PW w) (LA dp un gd L a ccd) (execs lawB (LE L a ccd)) Q E s := by
  obtain ⟨XB, TB, B, X, T, bt, hdd, huu⟩ := C
  show wpAny _ _ (execs (_ :: _) _) _ _ _
  w_top off; w_on
  w_strict (iterate 38 (first | (k_unfold; (try dsimp only)) | (k_end; wrow_close) | walk1 | (dsimp only; walk1) | (leave1; walk_say "STEP leave1"; try dsimp only) | fail "no step"))
  with_reducible rename News _ _ _ _ => N5
  with_reducible rename Fr _ _ _ _ => F5
  rename IntsAre _ (List.take 60 ns) => hws
  rename _ < _ ∧ _ < _ ∧ _ < _ ∧ _ < _ ∧ _ < _ ∧ _ < _ ∧ AllLt _ _ => lst5
  rename _ < _ ∧ _ < _ ∧ _ < _ ∧ _ < _ ∧ _ < _ ∧ AllLt _ _ => lsl5
  rename Addr => st
  have HH : ∃ (sl : Addr) (ws : List Value) (t0 : Tok), IntsAre ws (ns.take 60) ∧ News h₀ L _ ((st, lstO [.ref sl, .int 0 t0] 0) :: (sl, lstO ws 0) :: (L + 1 + 1 + 1 + 1 + 1, cellO none) :: (L + 1 + 1 + 1 + 1, cellO none) :: (L + 1 + 1 + 1, cellO none) :: (L + 1 + 1, cellO none) :: (L + 1, cellO (some (.ref st))) :: news) ∧
    (@LT.lt Nat _ (sl) st ∧ @LT.lt Nat _ (L + 1 + 1 + 1 + 1 + 1) st ∧ @LT.lt Nat _ (L + 1 + 1 + 1 + 1) st ∧ @LT.lt Nat _ (L + 1 + 1 + 1) st ∧ @LT.lt Nat _ (L + 1 + 1) st ∧ @LT.lt Nat _ (L + 1) st ∧ AllLt st news) ∧ (@LT.lt Nat _ (L + 1 + 1 + 1 + 1 + 1) sl ∧ @LT.lt Nat _ (L + 1 + 1 + 1 + 1) sl ∧ @LT.lt Nat _ (L + 1 + 1 + 1) sl ∧ @LT.lt Nat _ (L + 1 + 1) sl ∧ @LT.lt Nat _ (L + 1) sl ∧ AllLt sl news) := ⟨_, _, _, hws, N5, lst5, lsl5⟩
  clear hws N5 lst5 lsl5
  obtain ⟨sl, ws, t0, hws, N5, lst5, lsl5⟩ := HH
  have hwsK : True → IntsAre ws (ns.take 60) := fun _ => hws
  have hwl : ws.length ≤ 63 := by have := hws.length; simp at this; omega
  have offst : ∀ q ∈ ((sl, lstO ws 0) :: (L + 1 + 1 + 1 + 1 + 1, cellO none) :: (L + 1 + 1 + 1 + 1, cellO none) :: (L + 1 + 1 + 1, cellO none) :: (L + 1 + 1, cellO none) :: (L + 1, cellO (some (.ref st))) :: news : Led), q.1 ≠ st := allNe_of' (b := st) (ktn_ltOf lst5) (Nat.le_refl _)
  refine Spec1.use B F5 X N5 T rfl (nx_ok (sl := sl) (st := st) (c := 0) (lim := 13) (hwsK trivial) hwl (Int.le_refl 0) (by decide)) ⟨UpdF.head offst, .tail _ (.head _)⟩ (by (try dsimp only); omega) (by (try dsimp only); omega) ?_
  rintro r5 led5 h5 tk5 F6 N6 ⟨kk, tkk, tc, ep, rfl, hk0, hk1, rfl⟩
  clear N5 F5
  w_strict (iterate 2 (first | (k_unfold; (try dsimp only)) | (k_end; wrow_close) | walk1 | (dsimp only; walk1) | (leave1; walk_say "STEP leave1"; try dsimp only) | fail "no step"))
  rename IsRange _ _ _ _ _ _ _ _ => hr5
  with_reducible rename News _ _ _ _ => N5
  with_reducible rename Fr _ _ _ _ => F5
  have hn5 : Builtin.Range.rangeSize 0 kk 1 = ((kk.toNat : Nat) : Int) := by rw [rangeSize_nat]; omega
  refine LCg.CompSrc.range rfl F5 N5 hr5 (small_one (by omega) (by omega) (by omega) (by omega)) hn5 (by rw [sizeLine_eq]; omega) ?_
  intro gx
  refine comp_all (fun i ys nw => (∃ cs : List Nat, CarriedAll ys (cs.map fun c => PyData.str (one1 c)) ∧ cs.length = i ∧ ∀ c ∈ cs, c = 97 ∨ c = 98) ∧ ∃ c tc ep, 0 ≤ c ∧ nw = (st, lstO [.ref sl, .int c tc] ep) :: (sl, lstO ws 0) :: (L + 1 + 1 + 1 + 1 + 1, cellO none) :: (L + 1 + 1 + 1 + 1, cellO none) :: (L + 1 + 1 + 1, cellO none) :: (L + 1 + 1, cellO none) :: (L + 1, cellO (some (.ref st))) :: news) ⟨⟨[], .nil, rfl, nofun⟩, _, _, _, by omega, rfl⟩ ?_ ?_
  · rintro i v9 ys nw I oI C oC D m₂ h9 tk9 E' hi9 ⟨tv, rfl⟩ ⟨⟨cs, hcs, hcl, hcab⟩, c, tc9, ep9, hc0, rfl⟩ hC hm9 F9 N9 off9 ne9
    w_strict (iterate 12 (first | (k_unfold; (try dsimp only)) | (k_end; wrow_close) | walk1 | (dsimp only; walk1) | (leave1; walk_say "STEP leave1"; try dsimp only) | fail "no step"))
    refine Spec1.use B F9 X N9 T rfl (nx_ok (sl := sl) (st := st) (lim := 2) (hwsK trivial) hwl hc0 (by decide)) ⟨.tail (Ne.symm off9.1.1) (.tail (Ne.symm off9.1.2.1) (.tail (Ne.symm off9.1.2.2) (.head offst))), .tail _ (.tail _ (.tail _ (.tail _ (.head _))))⟩ (by (try dsimp only); omega) (by (try dsimp only); omega) ?_
    rintro r8 led8 h8 tk8 F8 N8 ⟨k8, tkk8, tc8, ep8, rfl, hk80, hk81, rfl⟩
    clear N9 F9
    obtain rfl | rfl : k8 = 0 ∨ k8 = 1 := by omega
    · w_strict ((first | (k_unfold; (try dsimp only)) | (k_end; wrow_close) | walk1 | (dsimp only; walk1) | (leave1; walk_say "STEP leave1"; try dsimp only) | fail "no step"))
      exact comp_same F8 N8 ⟨off9.1, off9.2⟩ trivial ⟨⟨cs ++ [97], by rw [List.map_append]; exact carried_snoc (Carried.str (one1 97) tk8) hcs, by simp [hcl], fun c hc => (List.mem_append.mp hc).elim (hcab c) fun h => .inl (List.mem_singleton.mp h)⟩, _, _, _, by omega, rfl⟩
    · w_strict ((first | (k_unfold; (try dsimp only)) | (k_end; wrow_close) | walk1 | (dsimp only; walk1) | (leave1; walk_say "STEP leave1"; try dsimp only) | fail "no step"))
      exact comp_same F8 N8 ⟨off9.1, off9.2⟩ trivial ⟨⟨cs ++ [98], by rw [List.map_append]; exact carried_snoc (Carried.str (one1 98) tk8) hcs, by simp [hcl], fun c hc => (List.mem_append.mp hc).elim (hcab c) fun h => .inr (List.mem_singleton.mp h)⟩, _, _, _, by omega, rfl⟩
  · rintro ys nw ⟨⟨cs, hcs, hcl, hcab⟩, c, tc9, ep9, hc0, rfl⟩ D9 h9 tk9 F9 N9 off9
    clear F5 N5
    w_strict ((first | (k_unfold; (try dsimp only)) | (k_end; wrow_close) | walk1 | (dsimp only; walk1) | (leave1; walk_say "STEP leave1"; try dsimp only) | fail "no step"))
    refine KT.join_1 (l := cs) (g := one1) ⟨_, N9.get (.head _), rfl, _, rfl⟩ hcs (fun _ _ => rfl) (by omega) ?_
    intro tt ktk hlen
    obtain ⟨ab, -⟩ := joinAB hcab
    generalize Txt.join (Str.ofString "") (cs.map one1) = tx at hlen ab ⊢
    replace N9 : News h₀ L h9 _ := fun p hp => N9 p (.tail _ hp)
    clear off9
    w_strict (iterate 22 (first | (k_unfold; (try dsimp only)) | (k_end; wrow_close) | walk1 | (dsimp only; walk1) | (leave1; walk_say "STEP leave1"; try dsimp only) | fail "no step"))
    with_reducible rename News _ _ _ _ => N7
    with_reducible rename Fr _ _ _ _ => F7
    refine Spec1.use B F7 X N7 T rfl (nx_ok (sl := sl) (st := st) (lim := (tx.length : Int) + 1) (hwsK trivial) hwl hc0 (by omega)) ⟨UpdF.head (by k_all), .tail _ (.head _)⟩ (by (try dsimp only); omega) (by (try dsimp only); omega) ?_
    rintro r8 led8 h8 tk8 F8 N8 ⟨p, tp, tc8, ep8, rfl, hp0, hp1, rfl⟩
    clear N7 F7
    w_strict (iterate 2 (first | (k_unfold; (try dsimp only)) | (k_end; wrow_close) | walk1 | (dsimp only; walk1) | (leave1; walk_say "STEP leave1"; try dsimp only) | fail "no step"))
    with_reducible rename News _ _ _ _ => N9
    with_reducible rename Fr _ _ _ _ => F9
    exact k tx tt p tp _ _ _ ab (by omega) hp0 (by omega) F9 N9 (by k_mem) (by k_mem) (by k_mem) (by k_mem) fun q hq => by simp [hq]
end Mine
end

section
-- part PB
open PySem PySem.Spec PySem.Calls PySem.W PyProof.Rows
local macro_rules | `(tactic| walk_at "pad of mine") => `(tactic| fail)
local macro_rules | `(tactic| k_room) => `(tactic| ktr_room)
local macro_rules | `(tactic| k_all) => `(tactic| exact allNe_of' (by assumption) (by omega))
local macro_rules | `(tactic| k_all) => `(tactic| ((with_reducible rename AllLt _ _ => hAllLt); exact allNe_of hAllLt (by omega)))
local macro_rules | `(tactic| k_all) => `(tactic| assumption)
local macro_rules | `(tactic| k_mem) => `(tactic| first | exact List.Mem.head _ | (refine' List.mem_cons_of_mem _ ?_; k_mem))
local macro_rules | `(tactic| walk_at "call builtin:dict.get") => `(tactic| (k_here; k_dflt (first | refine kdg_get2 (knd := PySem.strKind _ _) (by k_asm) (by k_mem) (by assumption) (by assumption) (strKind_is _ _ _ _) (some _) (by rfl) ?_ | refine kdg_get2 (knd := PySem.strKind _ _) (by k_asm) (by k_mem) (by assumption) (by assumption) (strKind_is _ _ _ _) none (by rfl) ?_); (try dsimp only [Option.getD])))
local macro_rules | `(tactic| walk_at "getItem ref int") => `(tactic| (k_here; k_dflt (refine' Mine.item_lst ?N ?m ?a ?b ?c ?_; (case N => k_asm); (case m => k_mem); (case a => decide); (case b => decide); (case c => rfl); k_whole)))
local macro_rules | `(tactic| walk_at "eval Name") => `(tactic| (k_here; k_dflt (refine' nameX_L ?zpk1 ?zpk2 ?_ ?zphk ?zphx ?zphd; (case zpk1 => k_asm); (case zpk2 => first | assumption | exact rfl); (case zphk => rfl); (case zphx => rfl); (case zphd => decide); k_whole)))
local macro_rules | `(tactic| walk_at "eval Name") => `(tactic| (k_here; k_dflt (refine' nameX_C ?zpN ?zpc ?zpm ?zpd ?_ ?zphk ?zphx ?zphd; (case zpN => k_asm); (case zpc => exact rfl); (case zpm => first | assumption | k_mem); (case zpd => first | assumption | exact rfl); (case zphk => rfl); (case zphx => rfl); (case zphd => decide); k_whole)))
local macro_rules | `(tactic| k_all) => `(tactic| (refine List.forall_mem_cons.mpr ⟨?_, ?_⟩; (show @Ne Nat _ _; omega); k_all))
local macro_rules | `(tactic| walk_at "storeName") => `(tactic| (k_here; k_dflt (refine' Mine.storeX ?zpF ?zpN ?zpc ?zpU ?_ ?zpa ?zpb; (case zpa => rfl); (case zpb => rfl); (case zpF => k_asm); (case zpN => k_asm); (case zpc => exact rfl); (case zpU => (first | exact UpdF.head (by k_all) | exact Mine.updf_tail' (by omega) (UpdF.head (by k_all)) | exact Mine.updf_tail' (by omega) (Mine.updf_tail' (by omega) (UpdF.head (by k_all))) | exact Mine.updf_tail' (by omega) (Mine.updf_tail' (by omega) (Mine.updf_tail' (by omega) (UpdF.head (by k_all)))) | exact Mine.updf_tail' (by omega) (Mine.updf_tail' (by omega) (Mine.updf_tail' (by omega) (Mine.updf_tail' (by omega) (UpdF.head (by k_all))))) | exact Mine.updf_tail' (by omega) (Mine.updf_tail' (by omega) (Mine.updf_tail' (by omega) (Mine.updf_tail' (by omega) (Mine.updf_tail' (by omega) (UpdF.head (by k_all)))))) | exact Mine.updf_tail' (by omega) (Mine.updf_tail' (by omega) (Mine.updf_tail' (by omega) (Mine.updf_tail' (by omega) (Mine.updf_tail' (by omega) (Mine.updf_tail' (by omega) (UpdF.head (by k_all))))))) | exact Mine.updf_tail' (by omega) (Mine.updf_tail' (by omega) (Mine.updf_tail' (by omega) (Mine.updf_tail' (by omega) (Mine.updf_tail' (by omega) (Mine.updf_tail' (by omega) (Mine.updf_tail' (by omega) (UpdF.head (by k_all)))))))))); k_whole); intro h' F' N'; (try dsimp only at N'); (try k_sweep)))
local macro_rules | `(tactic| k_mem) => `(tactic| with_reducible assumption)
local macro_rules | `(tactic| walk_at "eval Name") => `(tactic| (k_here; (with_reducible show wpAny _ _ (eval (PySem.Expr.Name _ _) (compEnvC _ _ _ _)) _ _ _); k_dflt (refine' lcf_cell ?zfN ?zfc ?zfm ?zfd ?_ ?zfa ?zfb; (case zfa => rfl); (case zfb => rfl); (case zfN => k_asm); (case zfc => exact rfl); (case zfm => k_mem); (case zfd => exact rfl); k_whole)))
namespace Mine
theorem dict1 {w : World} {o : Obj} {k : Str} {v : Value} (h : o.IsDictOf (PySem.strKind PW w) [(k, v)]) : ∃ tr ep, o = dictOf [⟨PyData.keyHash w.params k, .str k tr, v⟩] ep := by
  obtain ⟨es, ep, ⟨h1, h2, h3⟩, h4, h5, h6, -⟩ := h
  obtain ⟨l⟩ := es
  cases h6 with
  | cons hk hv r =>
    cases r
    rename_i e
    obtain ⟨t, ht⟩ := Value.isStrOf_shape hk
    obtain ⟨k', hk', hh⟩ := h5 e (by simp)
    obtain rfl : k' = k := Value.isStrOf_inj _ _ _ hk' hk
    obtain ⟨cls, dct, dat, sl⟩ := o
    obtain ⟨a, b, c⟩ := e
    dsimp only at h1 h2 h3 h4 ht hv hh
    subst h1; subst h2; subst h3; subst h4; subst ht; subst hv; subst hh
    exact ⟨t, ep, rfl⟩
/-- an object that resolve_refs leaves alone -/
def Other (o : Obj) : Prop := ((o.cls ≠ .ref 425 ∧ o.cls ≠ .ref 489) ∨ o.data ≠ .plain) ∧ ∀ fs, o.data ≠ .fields fs
theorem mv {h₀ h : Heap} {L x z : Addr} {led led' : Led} {ox oz : Obj} (N : News h₀ L h led) (T : TabAt led 389) (hx : (x, ox) ∈ led) (hz : (z, oz) ∈ led) (x1 : ox.cls = .ref 425) (x2 : ox.data = .plain) (z1 : oz.cls = .ref 489) (z2 : oz.data = .plain)
    (sub : ∀ q ∈ led, q.1 ≠ x → q.1 ≠ z → q.1 ≠ 389 → q ∈ led') : ∀ q ∈ led, Other q.2 → q ∈ led' := by
  rintro ⟨a, o⟩ hq ⟨h1, h2⟩
  refine sub _ hq ?_ ?_ ?_ <;> dsimp only at *
  · rintro rfl
    obtain rfl := Mine.News.fn N hq hx
    rcases h1 with h | h
    · exact h.1 x1
    · exact h x2
  · rintro rfl
    obtain rfl := Mine.News.fn N hq hz
    rcases h1 with h | h
    · exact h.2 z1
    · exact h z2
  · rintro rfl
    obtain ⟨op, ps, h9, h8, -⟩ := TabAt.ex T
    obtain rfl := Mine.News.fn N hq h9
    exact h2 _ h8
theorem oth_cell {o : Obj} {v : Option Value} (h : o.data = .cell v) : Other o := ⟨.inr (by rw [h]; nofun), by rw [h]; intro _; nofun⟩
theorem oth_dict {es : List DictEntry} {n : Nat} : Other (dictOf es n) := ⟨.inr nofun, nofun⟩
theorem oth_tup {vs : List Value} {n : Nat} : Other (tupO vs n) := ⟨.inr nofun, nofun⟩
theorem oth_lit {d : Option Addr} {sl : Array (Option Value)} : Other { cls := .ref 367, dict := d, data := .plain, slots := sl } := ⟨.inl ⟨show Value.ref 367 ≠ Value.ref 425 by decide, show Value.ref 367 ≠ Value.ref 489 by decide⟩, nofun⟩
theorem oth_lazy {d : Option Addr} {v : Value} : Other { cls := .ref 525, dict := d, data := .prim v } := ⟨.inr nofun, nofun⟩
theorem mk_lazy {w : World} {A : Around} {s : Shared} {h₀ : Heap} {L : Addr} {m : Str → Option Value} {news : Led} {ta : Tok} {lt : Str} {Q E : Value → Shared → Prop} (F : Fr h₀ L s.heap m) (X : (hd.heap_39 w.params).In h₀) (N : News h₀ L s.heap news) (hz : ¬ (Nat.ble sizeLine.succ lt.length = true))
    (h : ∀ x d tk h' tk', Fr h₀ L h' m → News h₀ L h' ((x, ({ cls := .ref 525, dict := some d, data := .prim (.str lt tk) } : Obj)) :: (d, dictOf [] 0) :: news) → (∀ q ∈ news, q.1 ≠ x ∧ q.1 ≠ d) → Q (.ref x) { s with heap := h', toks := tk' }) :
    wpAny (model PW w) A (call (.ref 525) [.str lt ta] []) Q E s :=
  mk_lazyX (X.keeps F.keep) hz fun v h' tk nw D ⟨x, d, tk1, e1, e2⟩ => by
    subst e1; subst e2
    exact h x d tk1 h' tk (mem_fr D F) (mem_news D F N) fun q hq => ⟨mem_off D N (.head _) q hq, mem_off D N (.tail _ (.head _)) q hq⟩
theorem tab_ne {h₀ h : Heap} {L x : Addr} {led : Led} {o : Obj} (N : News h₀ L h led) (T : TabAt led 389) (hx : (x, o) ∈ led) (hd : ∀ fs, o.data ≠ .fields fs) : x ≠ 389 := by
  rintro rfl
  obtain ⟨op, ps, h9, h8, -⟩ := TabAt.ex T
  obtain rfl := Mine.News.fn N hx h9
  exact hd _ h8
theorem partB {w : World} {mean : ExcName → Option Value} {mg mb : Str → Option Value} {A₀ : Around} {base h₀ : Heap} {dp un : Nat} {gd : Option (List Code)} {L a : Addr} {ccd : Value} {m : Str → Option Value} {news : Led} {s : Shared} {Q : Flow → Shared → Prop} {E : Value → Shared → Prop}
    (C : LCx w mean mg mb A₀ base h₀ dp un) (F : Fr h₀ L s.heap m) (N : News h₀ L s.heap news) (htab : TabAt news 389)
    (k : ∀ (gr : Gr) (newsB : Led) (m' : Str → Option Value) (s' : Shared), Fr h₀ L s'.heap m' → News h₀ L s'.heap newsB → GWf s s' → GrOk 0 gr newsB → m' (Str.ofString "up") = some (.ref (gr.xa .uS)) → m' (Str.ofString "down") = some (.ref (gr.xa .lS)) → m' (Str.ofString "top") = some (.ref (gr.xa .top)) →
      (∀ c v, CellAt news c v → CellAt newsB c v) → ((207, tabObj #[]) ∈ news → (207, tabObj #[]) ∈ newsB) → TabAt newsB 389 → wpAny (model PW w) (LA dp un gd L a ccd) (execs lawT8.1 (LE L a ccd)) Q E s') : wpAny (model PW w) (LA dp un gd L a ccd) (execs lawT3.1 (LE L a ccd)) Q E s := by
  obtain ⟨XB, TB, B, X, T, bt, hdd, huu⟩ := C
  show wpAny _ _ (execs (_ :: _) _) _ _ _
  w_top off; w_on
  w_strict (iterate 13 (first | (k_unfold; (try dsimp only)) | (k_end; wrow_close) | walk1 | (dsimp only; walk1) | (leave1; walk_say "STEP leave1"; try dsimp only) | fail "no step"))
  refine Spec1.use B F X N T rfl mk_lit trivial (by (try dsimp only); omega) (by (try dsimp only); omega) ?_
  rintro r1 led1 h1 tk1 F1 N1 ⟨x1, d1, b1, c1, rfl, x1i, x1d, sub1, off1⟩
  w_strict (iterate 12 (first | (k_unfold; (try dsimp only)) | (k_end; wrow_close) | walk1 | (dsimp only; walk1) | (leave1; walk_say "STEP leave1"; try dsimp only) | fail "no step"))
  refine mk_lazy F1 X N1 (by decide) ?_
  intro l1 ld1 ltk1 h2 tk2 F2 N2 off2
  w_strict (iterate 2 (first | (k_unfold; (try dsimp only)) | (k_end; wrow_close) | walk1 | (dsimp only; walk1) | (leave1; walk_say "STEP leave1"; try dsimp only) | fail "no step"))
  refine Spec1.use B F2 X N2 T rfl mk_zom trivial (by (try dsimp only); omega) (by (try dsimp only); omega) ?_
  rintro r3 led3 h3 tk3 F3 N3 ⟨x2, d2, t2, k2, ft2, it2, c2, rfl, x2i, x2d, x2t, sub3, off3⟩
  clear F1 N1 F2 N2
  w_strict (iterate 8 (first | (k_unfold; (try dsimp only)) | (k_end; wrow_close) | walk1 | (dsimp only; walk1) | (leave1; walk_say "STEP leave1"; try dsimp only) | fail "no step"))
  refine Spec1.use B F3 X N3 T rfl mk_lit trivial (by (try dsimp only); omega) (by (try dsimp only); omega) ?_
  rintro r4 led4 h4 tk4 F4 N4 ⟨x3, d3, b3, c3, rfl, x3i, x3d, sub4, off4⟩
  clear F3 N3
  w_strict (iterate 5 (first | (k_unfold; (try dsimp only)) | (k_end; wrow_close) | walk1 | (dsimp only; walk1) | (leave1; walk_say "STEP leave1"; try dsimp only) | fail "no step"))
  refine Spec1.use B F4 X N4 T rfl mk_seq trivial (by (try dsimp only); omega) (by (try dsimp only); omega) ?_
  rintro r5 led5 h5 tk5 F5 N5 ⟨x4, d4, t4, k4, c4, rfl, x4i, x4d, x4t, sub5, off5⟩
  clear F4 N4
  w_strict (iterate 15 (first | (k_unfold; (try dsimp only)) | (k_end; wrow_close) | walk1 | (dsimp only; walk1) | (leave1; walk_say "STEP leave1"; try dsimp only) | fail "no step"))
  with_reducible rename News _ _ _ _ => N6
  with_reducible rename Fr _ _ _ _ => F6
  refine Spec1.use B F6 X N6 T rfl mk_lit trivial (by (try dsimp only); omega) (by (try dsimp only); omega) ?_
  rintro r7 led7 h7 tk7 F7 N7 ⟨y1, e1, b7, c7, rfl, y1i, y1d, sub7, off7⟩
  clear F6 N6
  w_strict (iterate 12 (first | (k_unfold; (try dsimp only)) | (k_end; wrow_close) | walk1 | (dsimp only; walk1) | (leave1; walk_say "STEP leave1"; try dsimp only) | fail "no step"))
  refine mk_lazy F7 X N7 (by decide) ?_
  intro l2 ld2 ltk2 h8 tk8 F8 N8 off8
  w_strict (iterate 2 (first | (k_unfold; (try dsimp only)) | (k_end; wrow_close) | walk1 | (dsimp only; walk1) | (leave1; walk_say "STEP leave1"; try dsimp only) | fail "no step"))
  refine Spec1.use B F8 X N8 T rfl mk_zom trivial (by (try dsimp only); omega) (by (try dsimp only); omega) ?_
  rintro r9 led9 h9 tk9 F9 N9 ⟨y2, e2, u2, k9, ft9, it9, c9, rfl, y2i, y2d, y2t, sub9, off9⟩
  clear F7 N7 F8 N8
  w_strict (iterate 8 (first | (k_unfold; (try dsimp only)) | (k_end; wrow_close) | walk1 | (dsimp only; walk1) | (leave1; walk_say "STEP leave1"; try dsimp only) | fail "no step"))
  refine Spec1.use B F9 X N9 T rfl mk_lit trivial (by (try dsimp only); omega) (by (try dsimp only); omega) ?_
  rintro r10 led10 h10 tk10 F10 N10 ⟨y3, e3, b10, c10, rfl, y3i, y3d, sub10, off10⟩
  clear F9 N9
  w_strict (iterate 5 (first | (k_unfold; (try dsimp only)) | (k_end; wrow_close) | walk1 | (dsimp only; walk1) | (leave1; walk_say "STEP leave1"; try dsimp only) | fail "no step"))
  refine Spec1.use B F10 X N10 T rfl mk_seq trivial (by (try dsimp only); omega) (by (try dsimp only); omega) ?_
  rintro r11 led11 h11 tk11 F11 N11 ⟨y4, e4, u4, k11, c11, rfl, y4i, y4d, y4t, sub11, off11⟩
  clear F10 N10
  w_strict (iterate 6 (first | (k_unfold; (try dsimp only)) | (k_end; wrow_close) | walk1 | (dsimp only; walk1) | (leave1; walk_say "STEP leave1"; try dsimp only) | fail "no step"))
  with_reducible rename News _ _ _ _ => N12
  with_reducible rename Fr _ _ _ _ => F12
  have s45 : ∀ q ∈ led5, q ∈ led11 := fun q hq => sub11 q (sub10 q (sub9 q (.tail _ (.tail _ (sub7 q hq)))))
  refine method_inst F12 X ⟨N12.get (s45 _ x4i), rfl, rfl, N12.get (s45 _ x4d)⟩ (by k_is) (by k_is) (by k_is) rfl ?_
  w_strict (iterate 10 (first | (k_unfold; (try dsimp only)) | (k_end; wrow_close) | walk1 | (dsimp only; walk1) | (leave1; walk_say "STEP leave1"; try dsimp only) | fail "no step"))
  with_reducible rename News _ _ _ _ => N13
  with_reducible rename Fr _ _ _ _ => F13
  rename Obj.IsDictOf _ _ _ => hdo
  rename ∀ q ∈ led11, q.1 < _ => hrm
  obtain ⟨tr1, rep1, rfl⟩ := dict1 hdo
  clear F12 N12 hdo
  have r45 : ∀ q ∈ led4, q ∈ led11 := fun q hq => s45 q (sub5 q hq)
  have r35 : ∀ q ∈ led3, q ∈ led11 := fun q hq => r45 q (sub4 q hq)
  have r15 : ∀ q ∈ led1, q ∈ led11 := fun q hq => r35 q (sub3 q (.tail _ (.tail _ hq)))
  have r05 : ∀ q ∈ news, q ∈ led11 := fun q hq => r15 q (sub1 q hq)
  have t11 : TabAt led11 389 := htab.sub r05
  refine seq_res (b := true) (x := x4) (d := d4) (mt := t4) (ea := x1) (da := d1) (ez := x2) (dz := d2) (mz := t2) (eb := x3) (db := d3) (l := l1) (dl := ld1) (tr := tr1) (rep := rep1) dp un gd _ _ _ base h₀ L _ _ _ _ _ rfl rfl B F13 X N13 T bt
    ⟨.tail _ (s45 _ x4i), .tail _ (s45 _ x4d), .tail _ (s45 _ x4t), t11.sub fun q hq => .tail _ hq, .tail _ (r35 _ (sub3 _ (.head _))), .tail _ (r35 _ (sub3 _ (.tail _ (.head _)))), .head _, ⟨.tail _ (r15 _ x1i), .tail _ (r15 _ x1d)⟩, ⟨.tail _ (r45 _ x3i), .tail _ (r45 _ x3d)⟩, .tail _ (r35 _ x2i), .tail _ (r35 _ x2d), .tail _ (r35 _ x2t)⟩ (by (try dsimp only); omega) (by (try dsimp only); omega) ?_
  rintro r14 led14 s14 F14 N14 ⟨rfl, t4', t2', x4i', x4t', x2i', x2t', htab14, mv14⟩ gw14
  have v57 : ∀ q ∈ led5, q ∈ led7 := fun q hq => sub7 q hq
  have v71 : ∀ q ∈ led7, q ∈ led10 := fun q hq => sub10 q (sub9 q (.tail _ (.tail _ hq)))
  have v35 : ∀ q ∈ led3, q ∈ led7 := fun q hq => v57 q (sub5 q (sub4 q hq))
  have n44 : y4 ≠ x4 := fun e => (off11 _ (v71 _ (v57 _ x4i))).1 e.symm
  have n42 : y4 ≠ x2 := fun e => (off11 _ (v71 _ (v35 _ x2i))).1 e.symm
  have n24 : y2 ≠ x4 := fun e => (off9 _ (.tail _ (.tail _ (v57 _ x4i)))).1 e.symm
  have n22 : y2 ≠ x2 := fun e => (off9 _ (.tail _ (.tail _ (v35 _ x2i)))).1 e.symm
  have w9 : ∀ q ∈ led9, q ∈ led11 := fun q hq => sub11 q (sub10 q hq)
  have n49 : y4 ≠ 389 := tab_ne (Mine.News.sub N13 fun q hq => .tail _ hq) t11 y4i nofun
  have n29 : y2 ≠ 389 := tab_ne (Mine.News.sub N13 fun q hq => .tail _ hq) t11 (w9 _ y2i) nofun
  have m14 := mv N13 (t11.sub fun q hq => .tail _ hq) (.tail _ (s45 _ x4i)) (.tail _ (r35 _ x2i)) rfl rfl rfl rfl mv14
  have y4j := mv14 _ (.tail _ y4i) n44 n42 n49
  have y2j := mv14 _ (.tail _ (w9 _ y2i)) n24 n22 n29
  have tb14 : (207, tabObj #[]) ∈ news → (207, tabObj #[]) ∈ led14 := fun h => mv14 _ (.tail _ (r05 _ h)) (News.ne N13 (.tail _ (r05 _ h)) (.tail _ (s45 _ x4i)) nofun) (News.ne N13 (.tail _ (r05 _ h)) (.tail _ (r35 _ x2i)) nofun) (by decide)
  clear N13 F13
  w_strict (iterate 4 (first | (k_unfold; (try dsimp only)) | (k_end; wrow_close) | walk1 | (dsimp only; walk1) | (leave1; walk_say "STEP leave1"; try dsimp only) | fail "no step"))
  refine method_inst F14 X ⟨N14.get y4j, rfl, rfl, N14.get (m14 _ (.tail _ y4d) oth_dict)⟩ (by k_is) (by k_is) (by k_is) rfl ?_
  w_strict (iterate 10 (first | (k_unfold; (try dsimp only)) | (k_end; wrow_close) | walk1 | (dsimp only; walk1) | (leave1; walk_say "STEP leave1"; try dsimp only) | fail "no step"))
  with_reducible rename News _ _ _ _ => N15
  with_reducible rename Fr _ _ _ _ => F15
  rename Obj.IsDictOf _ _ _ => hdo
  rename ∀ q ∈ led14, q.1 < _ => hrm2
  obtain ⟨tr2, rep2, rfl⟩ := dict1 hdo
  clear F14 N14 hdo
  refine seq_res (b := false) (x := y4) (d := e4) (mt := u4) (ea := y1) (da := e1) (ez := y2) (dz := e2) (mz := u2) (eb := y3) (db := e3) (l := l2) (dl := ld2) (tr := tr2) (rep := rep2) dp un gd _ _ _ base h₀ L _ _ _ _ _ rfl rfl B F15 X N15 T bt
    ⟨.tail _ y4j, .tail _ (m14 _ (.tail _ y4d) oth_dict), .tail _ (m14 _ (.tail _ y4t) oth_tup), htab14.sub fun q hq => .tail _ hq, .tail _ (m14 _ (.tail _ (w9 _ (sub9 _ (.head _)))) oth_lazy), .tail _ (m14 _ (.tail _ (w9 _ (sub9 _ (.tail _ (.head _))))) oth_dict), .head _,
      ⟨.tail _ (m14 _ (.tail _ (w9 _ (sub9 _ (.tail _ (.tail _ y1i))))) oth_lit), .tail _ (m14 _ (.tail _ (w9 _ (sub9 _ (.tail _ (.tail _ y1d))))) oth_dict)⟩, ⟨.tail _ (m14 _ (.tail _ (sub11 _ y3i)) oth_lit), .tail _ (m14 _ (.tail _ (sub11 _ y3d)) oth_dict)⟩, .tail _ y2j, .tail _ (m14 _ (.tail _ (w9 _ y2d)) oth_dict), .tail _ (m14 _ (.tail _ (w9 _ y2t)) oth_tup)⟩ (by (try dsimp only); omega) (by (try dsimp only); omega) ?_
  rintro r16 led16 s16 F16 N16 ⟨rfl, u4', u2', y4i', y4t', y2i', y2t', htab16, mv16⟩ gw16
  have m16 := mv N15 (htab14.sub fun q hq => .tail _ hq) (.tail _ y4j) (.tail _ y2j) rfl rfl rfl rfl mv16
  have x49 : x4 ≠ 389 := tab_ne (Mine.News.sub N15 fun q hq => .tail _ hq) htab14 x4i' nofun
  have x29 : x2 ≠ 389 := tab_ne (Mine.News.sub N15 fun q hq => .tail _ hq) htab14 x2i' nofun
  have x4j := mv16 _ (.tail _ x4i') n44.symm n24.symm x49
  have x2j := mv16 _ (.tail _ x2i') n42.symm n22.symm x29
  have mm : ∀ q ∈ led11, Other q.2 → q ∈ led16 := fun q hq ho => m16 q (.tail _ (m14 q (.tail _ hq) ho)) ho
  have tb16 : (207, tabObj #[]) ∈ news → (207, tabObj #[]) ∈ led16 := fun h => mv16 _ (.tail _ (tb14 h)) (News.ne N15 (.tail _ (tb14 h)) (.tail _ y4j) nofun) (News.ne N15 (.tail _ (tb14 h)) (.tail _ y2j) nofun) (by decide)
  clear F15 N15
  w_strict (iterate 15 (first | (k_unfold; (try dsimp only)) | (k_end; wrow_close) | walk1 | (dsimp only; walk1) | (leave1; walk_say "STEP leave1"; try dsimp only) | fail "no step"))
  refine Spec1.use B F16 X N16 T rfl mk_one trivial (by (try dsimp only); omega) (by (try dsimp only); omega) ?_
  rintro r17 led17 h17 tk17 F17 N17 ⟨z1, f1, v1, k17, c17, rfl, z1i, z1d, z1t, sub17, off17⟩
  w_strict (iterate 2 (first | (k_unfold; (try dsimp only)) | (k_end; wrow_close) | walk1 | (dsimp only; walk1) | (leave1; walk_say "STEP leave1"; try dsimp only) | fail "no step"))
  refine Spec1.use B F17 X N17 T rfl mk_zom trivial (by (try dsimp only); omega) (by (try dsimp only); omega) ?_
  rintro r18 led18 h18 tk18 F18 N18 ⟨z2, f2, v2, k18, ft18, it18, c18, rfl, z2i, z2d, z2t, sub18, off18⟩
  clear F16 N16 F17 N17
  w_strict (iterate 2 (first | (k_unfold; (try dsimp only)) | (k_end; wrow_close) | walk1 | (dsimp only; walk1) | (leave1; walk_say "STEP leave1"; try dsimp only) | fail "no step"))
  with_reducible rename News _ _ _ _ => N19
  with_reducible rename Fr _ _ _ _ => F19
  have Md1_3 := sub3 _ (.tail _ (.tail _ x1d))
  have Md1_4 := sub4 _ Md1_3
  have Md1_5 := sub5 _ Md1_4
  have Md1_7 := sub7 _ Md1_5
  have Md1_9 := sub9 _ (.tail _ (.tail _ Md1_7))
  have Md1_10 := sub10 _ Md1_9
  have Md1_11 := sub11 _ Md1_10
  have Md1_16 := mm _ Md1_11 oth_dict
  have Md1_17 := sub17 _ Md1_16
  have Md1_18 := sub18 _ Md1_17
  have Md2_4 := sub4 _ x2d
  have Md2_5 := sub5 _ Md2_4
  have Md2_7 := sub7 _ Md2_5
  have Md2_9 := sub9 _ (.tail _ (.tail _ Md2_7))
  have Md2_10 := sub10 _ Md2_9
  have Md2_11 := sub11 _ Md2_10
  have Md2_16 := mm _ Md2_11 oth_dict
  have Md2_17 := sub17 _ Md2_16
  have Md2_18 := sub18 _ Md2_17
  have Md3_5 := sub5 _ x3d
  have Md3_7 := sub7 _ Md3_5
  have Md3_9 := sub9 _ (.tail _ (.tail _ Md3_7))
  have Md3_10 := sub10 _ Md3_9
  have Md3_11 := sub11 _ Md3_10
  have Md3_16 := mm _ Md3_11 oth_dict
  have Md3_17 := sub17 _ Md3_16
  have Md3_18 := sub18 _ Md3_17
  have Md4_7 := sub7 _ x4d
  have Md4_9 := sub9 _ (.tail _ (.tail _ Md4_7))
  have Md4_10 := sub10 _ Md4_9
  have Md4_11 := sub11 _ Md4_10
  have Md4_16 := mm _ Md4_11 oth_dict
  have Md4_17 := sub17 _ Md4_16
  have Md4_18 := sub18 _ Md4_17
  have Me1_9 := sub9 _ (.tail _ (.tail _ y1d))
  have Me1_10 := sub10 _ Me1_9
  have Me1_11 := sub11 _ Me1_10
  have Me1_16 := mm _ Me1_11 oth_dict
  have Me1_17 := sub17 _ Me1_16
  have Me1_18 := sub18 _ Me1_17
  have Me2_10 := sub10 _ y2d
  have Me2_11 := sub11 _ Me2_10
  have Me2_16 := mm _ Me2_11 oth_dict
  have Me2_17 := sub17 _ Me2_16
  have Me2_18 := sub18 _ Me2_17
  have Me3_11 := sub11 _ y3d
  have Me3_16 := mm _ Me3_11 oth_dict
  have Me3_17 := sub17 _ Me3_16
  have Me3_18 := sub18 _ Me3_17
  have Me4_16 := mm _ y4d oth_dict
  have Me4_17 := sub17 _ Me4_16
  have Me4_18 := sub18 _ Me4_17
  have Mf1_18 := sub18 _ z1d
  have Ad1d2 : d1 ≠ d2 := (off3 _ (.tail _ (.tail _ x1d))).2
  have Ad1d3 : d1 ≠ d3 := (off4 _ Md1_3).2
  have Ad2d3 : d2 ≠ d3 := (off4 _ x2d).2
  have Ad1d4 : d1 ≠ d4 := (off5 _ Md1_4).2
  have Ad2d4 : d2 ≠ d4 := (off5 _ Md2_4).2
  have Ad3d4 : d3 ≠ d4 := (off5 _ x3d).2
  have Ad1e1 : d1 ≠ e1 := (off7 _ Md1_5).2
  have Ad2e1 : d2 ≠ e1 := (off7 _ Md2_5).2
  have Ad3e1 : d3 ≠ e1 := (off7 _ Md3_5).2
  have Ad4e1 : d4 ≠ e1 := (off7 _ x4d).2
  have Ad1e2 : d1 ≠ e2 := (off9 _ (.tail _ (.tail _ Md1_7))).2
  have Ad2e2 : d2 ≠ e2 := (off9 _ (.tail _ (.tail _ Md2_7))).2
  have Ad3e2 : d3 ≠ e2 := (off9 _ (.tail _ (.tail _ Md3_7))).2
  have Ad4e2 : d4 ≠ e2 := (off9 _ (.tail _ (.tail _ Md4_7))).2
  have Ae1e2 : e1 ≠ e2 := (off9 _ (.tail _ (.tail _ y1d))).2
  have Ad1e3 : d1 ≠ e3 := (off10 _ Md1_9).2
  have Ad2e3 : d2 ≠ e3 := (off10 _ Md2_9).2
  have Ad3e3 : d3 ≠ e3 := (off10 _ Md3_9).2
  have Ad4e3 : d4 ≠ e3 := (off10 _ Md4_9).2
  have Ae1e3 : e1 ≠ e3 := (off10 _ Me1_9).2
  have Ae2e3 : e2 ≠ e3 := (off10 _ y2d).2
  have Ad1e4 : d1 ≠ e4 := (off11 _ Md1_10).2
  have Ad2e4 : d2 ≠ e4 := (off11 _ Md2_10).2
  have Ad3e4 : d3 ≠ e4 := (off11 _ Md3_10).2
  have Ad4e4 : d4 ≠ e4 := (off11 _ Md4_10).2
  have Ae1e4 : e1 ≠ e4 := (off11 _ Me1_10).2
  have Ae2e4 : e2 ≠ e4 := (off11 _ Me2_10).2
  have Ae3e4 : e3 ≠ e4 := (off11 _ y3d).2
  have Ad1f1 : d1 ≠ f1 := (off17 _ Md1_16).2
  have Ad2f1 : d2 ≠ f1 := (off17 _ Md2_16).2
  have Ad3f1 : d3 ≠ f1 := (off17 _ Md3_16).2
  have Ad4f1 : d4 ≠ f1 := (off17 _ Md4_16).2
  have Ae1f1 : e1 ≠ f1 := (off17 _ Me1_16).2
  have Ae2f1 : e2 ≠ f1 := (off17 _ Me2_16).2
  have Ae3f1 : e3 ≠ f1 := (off17 _ Me3_16).2
  have Ae4f1 : e4 ≠ f1 := (off17 _ Me4_16).2
  have Ad1f2 : d1 ≠ f2 := (off18 _ Md1_17).2
  have Ad2f2 : d2 ≠ f2 := (off18 _ Md2_17).2
  have Ad3f2 : d3 ≠ f2 := (off18 _ Md3_17).2
  have Ad4f2 : d4 ≠ f2 := (off18 _ Md4_17).2
  have Ae1f2 : e1 ≠ f2 := (off18 _ Me1_17).2
  have Ae2f2 : e2 ≠ f2 := (off18 _ Me2_17).2
  have Ae3f2 : e3 ≠ f2 := (off18 _ Me3_17).2
  have Ae4f2 : e4 ≠ f2 := (off18 _ Me4_17).2
  have Af1f2 : f1 ≠ f2 := (off18 _ z1d).2
  have grok : GrOk 0 ⟨fun | .top => z2 | .one => z1 | .uS => x4 | .uA => x1 | .uZ => x2 | .uB => x3 | .lS => y4 | .lA => y1 | .lZ => y2 | .lB => y3, fun | .top => f2 | .one => f1 | .uS => d4 | .uA => d1 | .uZ => d2 | .uB => d3 | .lS => e4 | .lA => e1 | .lZ => e2 | .lB => e3⟩ led18 := by
    refine ⟨fun e => ?_, fun e => ?_, fun e e' hne => ?_⟩
    · cases e
      · exact ⟨[], .inl ⟨rfl, z2d⟩, Nat.le_refl _⟩
      · exact ⟨[], .inl ⟨rfl, Mf1_18⟩, Nat.le_refl _⟩
      · exact ⟨[], .inl ⟨rfl, Md4_18⟩, Nat.le_refl _⟩
      · exact ⟨[], .inl ⟨rfl, Md1_18⟩, Nat.le_refl _⟩
      · exact ⟨[], .inl ⟨rfl, Md2_18⟩, Nat.le_refl _⟩
      · exact ⟨[], .inl ⟨rfl, Md3_18⟩, Nat.le_refl _⟩
      · exact ⟨[], .inl ⟨rfl, Me4_18⟩, Nat.le_refl _⟩
      · exact ⟨[], .inl ⟨rfl, Me1_18⟩, Nat.le_refl _⟩
      · exact ⟨[], .inl ⟨rfl, Me2_18⟩, Nat.le_refl _⟩
      · exact ⟨[], .inl ⟨rfl, Me3_18⟩, Nat.le_refl _⟩
    · cases e
      · exact ⟨_, z2i, ⟨_, _, _, _, _, rfl⟩, ⟨_, _, _, _, _, _, rfl, z2t⟩⟩
      · exact ⟨_, sub18 _ z1i, ⟨_, _, _, rfl⟩, ⟨_, _, _, _, rfl, sub18 _ z1t⟩⟩
      · exact ⟨_, (sub18 _ (sub17 _ (x4j))), ⟨_, _, _, rfl⟩, ⟨_, _, _, _, rfl, (sub18 _ (sub17 _ (m16 _ (.tail _ x4t') oth_tup)))⟩⟩
      · exact ⟨_, (sub18 _ (sub17 _ (mm _ (r15 _ x1i) oth_lit))), ⟨_, _, _, rfl⟩, ⟨_, _, _, rfl⟩⟩
      · exact ⟨_, (sub18 _ (sub17 _ (x2j))), ⟨_, _, _, _, _, rfl⟩, ⟨_, _, _, _, _, _, rfl, (sub18 _ (sub17 _ (m16 _ (.tail _ x2t') oth_tup)))⟩⟩
      · exact ⟨_, (sub18 _ (sub17 _ (mm _ (r45 _ x3i) oth_lit))), ⟨_, _, _, rfl⟩, ⟨_, _, _, rfl⟩⟩
      · exact ⟨_, (sub18 _ (sub17 _ (y4i'))), ⟨_, _, _, rfl⟩, ⟨_, _, _, _, rfl, (sub18 _ (sub17 _ (y4t')))⟩⟩
      · exact ⟨_, (sub18 _ (sub17 _ (mm _ (w9 _ (sub9 _ (.tail _ (.tail _ y1i)))) oth_lit))), ⟨_, _, _, rfl⟩, ⟨_, _, _, rfl⟩⟩
      · exact ⟨_, (sub18 _ (sub17 _ (y2i'))), ⟨_, _, _, _, _, rfl⟩, ⟨_, _, _, _, _, _, rfl, (sub18 _ (sub17 _ (y2t')))⟩⟩
      · exact ⟨_, (sub18 _ (sub17 _ (mm _ (sub11 _ y3i) oth_lit))), ⟨_, _, _, rfl⟩, ⟨_, _, _, rfl⟩⟩
    cases e <;> cases e'
    · exact absurd rfl hne
    · exact Af1f2.symm
    · exact Ad4f2.symm
    · exact Ad1f2.symm
    · exact Ad2f2.symm
    · exact Ad3f2.symm
    · exact Ae4f2.symm
    · exact Ae1f2.symm
    · exact Ae2f2.symm
    · exact Ae3f2.symm
    · exact Af1f2
    · exact absurd rfl hne
    · exact Ad4f1.symm
    · exact Ad1f1.symm
    · exact Ad2f1.symm
    · exact Ad3f1.symm
    · exact Ae4f1.symm
    · exact Ae1f1.symm
    · exact Ae2f1.symm
    · exact Ae3f1.symm
    · exact Ad4f2
    · exact Ad4f1
    · exact absurd rfl hne
    · exact Ad1d4.symm
    · exact Ad2d4.symm
    · exact Ad3d4.symm
    · exact Ad4e4
    · exact Ad4e1
    · exact Ad4e2
    · exact Ad4e3
    · exact Ad1f2
    · exact Ad1f1
    · exact Ad1d4
    · exact absurd rfl hne
    · exact Ad1d2
    · exact Ad1d3
    · exact Ad1e4
    · exact Ad1e1
    · exact Ad1e2
    · exact Ad1e3
    · exact Ad2f2
    · exact Ad2f1
    · exact Ad2d4
    · exact Ad1d2.symm
    · exact absurd rfl hne
    · exact Ad2d3
    · exact Ad2e4
    · exact Ad2e1
    · exact Ad2e2
    · exact Ad2e3
    · exact Ad3f2
    · exact Ad3f1
    · exact Ad3d4
    · exact Ad1d3.symm
    · exact Ad2d3.symm
    · exact absurd rfl hne
    · exact Ad3e4
    · exact Ad3e1
    · exact Ad3e2
    · exact Ad3e3
    · exact Ae4f2
    · exact Ae4f1
    · exact Ad4e4.symm
    · exact Ad1e4.symm
    · exact Ad2e4.symm
    · exact Ad3e4.symm
    · exact absurd rfl hne
    · exact Ae1e4.symm
    · exact Ae2e4.symm
    · exact Ae3e4.symm
    · exact Ae1f2
    · exact Ae1f1
    · exact Ad4e1.symm
    · exact Ad1e1.symm
    · exact Ad2e1.symm
    · exact Ad3e1.symm
    · exact Ae1e4
    · exact absurd rfl hne
    · exact Ae1e2
    · exact Ae1e3
    · exact Ae2f2
    · exact Ae2f1
    · exact Ad4e2.symm
    · exact Ad1e2.symm
    · exact Ad2e2.symm
    · exact Ad3e2.symm
    · exact Ae2e4
    · exact Ae1e2.symm
    · exact absurd rfl hne
    · exact Ae2e3
    · exact Ae3f2
    · exact Ae3f1
    · exact Ad4e3.symm
    · exact Ad1e3.symm
    · exact Ad2e3.symm
    · exact Ad3e3.symm
    · exact Ae3e4
    · exact Ae1e3.symm
    · exact Ae2e3.symm
    · exact absurd rfl hne
  exact k _ led18 _ _ F19 N19 ((GWf.trans (GWf.heap s _ _) gw14).trans ((GWf.heap s14 _ _).trans (gw16.trans (GWf.heap s16 _ _)))) grok rfl rfl rfl (fun c v h1 => sub18 _ (sub17 _ (mm _ (r05 _ h1) (oth_cell rfl))))
    (fun h => sub18 _ (sub17 _ (tb16 h))) (htab16.sub fun q hq => sub18 _ (sub17 _ hq))
end Mine
end

section
-- part Cu
open PySem PySem.Spec PySem.Calls PySem.W PyProof.Rows
namespace Mine
/-- a ledger behind a store into a cell -/
structure CellUp (a b : Led) (c : Addr) (o : Obj) (v : Value) : Prop where
  was : (c, o) ∈ a
  dat : ∃ v₀, o.data = .cell v₀
  now : (c, { o with data := .cell (some v) }) ∈ b
  old : ∀ q ∈ a, q.1 ≠ c → q ∈ b
  fn : ∀ q ∈ a, q.1 = c → q.2 = o
theorem CellUp.mem {a b : Led} {c : Addr} {o : Obj} {v : Value} (k : CellUp a b c o v) {q : Addr × Obj} (hq : q ∈ a) (hd : ∀ v, q.2.data ≠ .cell v) : q ∈ b :=
  k.old q hq fun e => let ⟨v₀, h⟩ := k.dat; hd v₀ (by rw [k.fn q hq e, h])
theorem CellUp.dom {a b : Led} {c : Addr} {o : Obj} {v : Value} (k : CellUp a b c o v) {q : Addr × Obj} (hq : q ∈ a) : ∃ o', (q.1, o') ∈ b ∧ o'.cls = q.2.cls := by
  by_cases e : q.1 = c
  · refine ⟨_, e ▸ k.now, ?_⟩
    rw [k.fn q hq e]
  · exact ⟨q.2, k.old q hq e, rfl⟩
theorem CellUp.cell {a b : Led} {c c' : Addr} {o : Obj} {v : Value} {v' : Option Value} (k : CellUp a b c o v) (h : CellAt a c' v') (hn : c' ≠ c) : CellAt b c' v' := k.old _ h hn
theorem CellUp.self {a b : Led} {c : Addr} {v₀ : Option Value} {v : Value} (k : CellUp a b c (cellO v₀) v) : CellAt b c (some v) := k.now
theorem CellUp.pairs {a b : Led} {c : Addr} {o : Obj} {v : Value} (k : CellUp a b c o v) : ∀ {vs ps}, PairsIn a vs ps → PairsIn b vs ps
  | [], [], _ => trivial
  | _ :: _, _ :: _, ⟨⟨a1, tk, ep, e, h, ob, ho, hc⟩, r⟩ => ⟨⟨a1, tk, ep, e, k.mem h nofun, let ⟨o', h1, h2⟩ := k.dom ho; ⟨o', h1, h2.trans hc⟩⟩, CellUp.pairs k r⟩
theorem CellUp.grok {a b : Led} {c : Addr} {o : Obj} {v : Value} {R : Nat} {gr : Gr} (k : CellUp a b c o v) (G : GrOk R gr a) : GrOk R gr b := by
  refine ⟨fun e => ?_, fun e => ?_, G.apart⟩
  · obtain ⟨ps, h1, h2⟩ := G.ex e
    refine ⟨ps, ?_, h2⟩
    rcases h1 with ⟨e1, h⟩ | ⟨hh, kk, t, vs, ep, h3, h4, h5, h6⟩
    · exact .inl ⟨e1, k.mem h nofun⟩
    · exact .inr ⟨hh, kk, t, vs, ep, k.mem h3 nofun, k.mem h4 nofun, k.pairs h5, h6⟩
  · obtain ⟨sl, h1, h2, h3⟩ := G.inst e
    refine ⟨sl, k.mem h1 nofun, h2, ?_⟩
    have kt : ∀ {mt : Addr} {vs : List Value} {ep : Nat}, (mt, tupO vs ep) ∈ a → (mt, tupO vs ep) ∈ b := fun h => k.mem h nofun
    cases e
    case uA => exact h3
    case uB => exact h3
    case lA => exact h3
    case lB => exact h3
    case uS => obtain ⟨a, b, c, d, e1, e2⟩ := h3; exact ⟨a, b, c, d, e1, kt e2⟩
    case lS => obtain ⟨a, b, c, d, e1, e2⟩ := h3; exact ⟨a, b, c, d, e1, kt e2⟩
    case one => obtain ⟨a, b, c, d, e1, e2⟩ := h3; exact ⟨a, b, c, d, e1, kt e2⟩
    all_goals (obtain ⟨a, b, c, d, e1, e2, e3, e4⟩ := h3; exact ⟨a, b, c, d, e1, e2, e3, kt e4⟩)
theorem GrOk.sub {R : Nat} {gr : Gr} {a b : Led} (k : ∀ q ∈ a, q ∈ b) (G : GrOk R gr a) : GrOk R gr b := by
  refine ⟨fun e => ?_, fun e => ?_, G.apart⟩
  · obtain ⟨ps, h1, h2⟩ := G.ex e
    exact ⟨ps, h1.sub fun q hq _ => k q hq, h2⟩
  · obtain ⟨sl, h1, h2, h3⟩ := G.inst e
    exact ⟨sl, h1.keep (Keep.of_sub k), h2, h3.keep (Keep.of_sub k)⟩
mutual
theorem IsT.cell {gr : Gr} {text : Str} {B a b : Led} {c : Addr} {o : Obj} {v : Value} (k : CellUp a b c o v) : ∀ {x t}, IsT gr text B a x t → IsT gr text B b x t
  | _, _, .mk h1 h2 h3 b1 b2 b3 z h4 => let ⟨_, h2', _⟩ := k.dom h2; .mk (k.mem h1 nofun) h2' (k.mem h3 nofun) b1 b2 b3 z (IsTs.cell k h4)
theorem IsTs.cell {gr : Gr} {text : Str} {B a b : Led} {c : Addr} {o : Obj} {v : Value} (k : CellUp a b c o v) : ∀ {vs ts}, IsTs gr text B a vs ts → IsTs gr text B b vs ts
  | _, _, .nil => .nil
  | _, _, .cons h1 h2 => .cons (IsT.cell k h1) (IsTs.cell k h2)
end
theorem storeC {M : Model} {A : Around} {E : Value → Shared → Prop} {s : Shared} {h₀ : Heap} {L a : Addr} {m : Str → Option Value} {cn : Str} {cs : Scope} {ccd : Value} {cl : List (Str × Addr)} {x : Str} {v : Value} {Q : Unit → Shared → Prop} {news : List (Addr × Obj)} {c : Addr} {o : Obj} {v₀ : Option Value}
    (F : Fr h₀ L s.heap m) (N : News h₀ L s.heap news) (hc : cl.lookup x = some c) (hm : (c, o) ∈ news) (hd : o.data = .cell v₀)
    (h : ∀ h' led, Fr h₀ L h' m → News h₀ L h' led → CellUp news led c o v → Q () { s with heap := h' })
    (hk : cs.kind = .function) (hx : (envX cn cs L a ccd cl).kindOf x = some .cell) : wpAny M A (storeName (envX cn cs L a ccd cl) x v) Q E s := by
  have hmem := N (c, o) hm
  unfold storeName
  simp only [hx, hk]
  refine wpAny_bind (wpAny_cellOf hc ?_)
  unfold cellSet
  refine wpAny_bind (wpAny_load hmem.1 ?_)
  dsimp only
  rw [hd]
  have hs := Heap.SameBut.update s.heap c (fun o : Obj => { o with data := .cell (some v) })
  refine wpAny_update hmem.1 (h _ ((c, { o with data := .cell (some v) }) :: news.filter fun q => decide (q.1 ≠ c)) ⟨F.ns.sameBut hs (Ne.symm hmem.2.1), fun b ob e => (hs.2 b (fun q => ?_)).trans (F.keep b ob e), F.above⟩ (fun q hq => ?_) ⟨hm, ⟨_, hd⟩, .head _, fun q hq hn => .tail _ (List.mem_filter.mpr ⟨hq, decide_eq_true hn⟩), fun q hq e => ?_⟩)
  · rw [q, hmem.2.2] at e; cases e
  · rcases List.mem_cons.mp hq with rfl | hq
    · exact ⟨Heap.get?_update_self _ hmem.1 rfl, hmem.2⟩
    · have h1 := List.mem_filter.mp hq
      exact ⟨(hs.2 q.1 (of_decide_eq_true h1.2)).trans (N q h1.1).1, (N q h1.1).2⟩
  · obtain ⟨q1, q2⟩ := q
    dsimp only at e ⊢
    subst e
    exact Mine.News.fn N hq hm
/-- all turns of a comprehension with a test, by what holds between two -/
theorem comp_allT {prog : Program} {w : World} {A : Around} {h₀ : Heap} {L : Addr} {m : Str → Option Value} {env : Env} {elt ct : PySem.Expr} {x : Str} {scope : Scope} {cl : List (Str × Addr)} {s : Shared} {S : List (Addr × Obj) → Prop} {P : Nat → Value → Prop} {Fin : List Value → List (Addr × Obj) → Prop} {n : Nat}
    (J : Nat → List Value → List (Addr × Obj) → Prop) {news : List (Addr × Obj)} (h0 : J 0 [] news)
    (turn : ∀ i v ys nw I oI C oC D m₂ h tk (E' : Value → Shared → Prop), i < n → P i v → J i ys nw → LCg.NsObj oC m₂ → m₂ x = some v → Fr h₀ L h m → News h₀ L h ((I, oI) :: (C, oC) :: (D, LCg.lst ys) :: nw) → LCg.Off3 I C D nw → ((@Ne Nat I C) ∧ (@Ne Nat I D) ∧ (@Ne Nat C D)) →
      wpAny (model prog w) A (isTrue ct (compEnvC scope cl C env) (eval ct (compEnvC scope cl C env))) (fun ok s' => if ok = true then
        wpAny (model prog w) A (eval elt (compEnvC scope cl C env)) (LCg.CompEnd h₀ L m { s with heap := h, toks := tk } I oI C oC D (LCg.lst ys) S (fun y nw' => J (i + 1) (ys ++ [y]) nw')) E' s'
        else LCg.CompEnd h₀ L m { s with heap := h, toks := tk } I oI C oC D (LCg.lst ys) S (fun _ nw' => J (i + 1) ys nw') Value.none s') E' { s with heap := h, toks := tk })
    (fin : ∀ ys nw, J n ys nw → Fin ys nw) : LCt.CompRestT prog w A h₀ L m env ct elt x scope cl s S P Fin n 0 [] news := by
  have key : ∀ (k i : Nat) (ys : List Value) (nw : List (Addr × Obj)), i + k = n → J i ys nw → LCt.CompRestT prog w A h₀ L m env ct elt x scope cl s S P Fin k i ys nw := by
    intro k
    induction k with
    | zero => intro i ys nw hi hJ; obtain rfl : i = n := by omega
              exact LCt.CompRestT.zero (fin ys nw hJ)
    | succ k ih =>
      intro i ys nw hi hJ
      refine LCt.CompRestT.succ fun v I oI C oC D m₂ h tk E' hv hC hx F N off ne => ?_
      refine wpAny_mono (turn i v ys nw I oI C oC D m₂ h tk E' (by omega) hv hJ hC hx F N off ne) (fun ok s₁ h₁ => ?_) fun _ _ e => e
      cases ok with
      | true =>
        simp only [if_true] at h₁ ⊢
        refine wpAny_mono h₁ (fun y s₂ hq => ?_) fun _ _ e => e
        obtain ⟨h', tk', nw', e, F', N', off', hS, hJ'⟩ := hq
        exact ⟨h', tk', nw', e, F', N', off', hS, ih (i + 1) _ _ (by omega) hJ'⟩
      | false =>
        simp only [Bool.false_eq_true, if_false] at h₁ ⊢
        obtain ⟨h', tk', nw', e, F', N', off', hS, hJ'⟩ := h₁
        exact ⟨h', tk', nw', e, F', N', off', hS, ih (i + 1) _ _ (by omega) hJ'⟩
  exact key n 0 [] news (by omega) h0
end Mine
end

section
-- part PC
open PySem PySem.Spec PySem.Calls PySem.W PyProof.Rows
local macro_rules | `(tactic| k_room) => `(tactic| ktr_room)
local macro_rules | `(tactic| k_all) => `(tactic| exact allNe_of' (by assumption) (by omega))
local macro_rules | `(tactic| k_all) => `(tactic| ((with_reducible rename AllLt _ _ => hAllLt); exact allNe_of hAllLt (by omega)))
local macro_rules | `(tactic| k_all) => `(tactic| assumption)
local macro_rules | `(tactic| k_mem) => `(tactic| first | exact List.Mem.head _ | (refine' List.mem_cons_of_mem _ ?_; k_mem))
local macro_rules | `(tactic| walk_at "call builtin:dict.get") => `(tactic| (k_here; k_dflt (first | refine kdg_get2 (knd := PySem.strKind _ _) (by k_asm) (by k_mem) (by assumption) (by assumption) (strKind_is _ _ _ _) (some _) (by rfl) ?_ | refine kdg_get2 (knd := PySem.strKind _ _) (by k_asm) (by k_mem) (by assumption) (by assumption) (strKind_is _ _ _ _) none (by rfl) ?_); (try dsimp only [Option.getD])))
local macro_rules | `(tactic| walk_at "getItem ref int") => `(tactic| (k_here; k_dflt (refine' Mine.item_lst ?N ?m ?a ?b ?c ?_; (case N => k_asm); (case m => k_mem); (case a => decide); (case b => decide); (case c => rfl); k_whole)))
local macro_rules | `(tactic| walk_at "eval Name") => `(tactic| (k_here; k_dflt (refine' nameX_L ?zpk1 ?zpk2 ?_ ?zphk ?zphx ?zphd; (case zpk1 => k_asm); (case zpk2 => first | assumption | exact rfl); (case zphk => rfl); (case zphx => rfl); (case zphd => decide); k_whole)))
local macro_rules | `(tactic| walk_at "eval Name") => `(tactic| (k_here; k_dflt (refine' nameX_C ?zpN ?zpc ?zpm ?zpd ?_ ?zphk ?zphx ?zphd; (case zpN => k_asm); (case zpc => exact rfl); (case zpm => first | assumption | k_mem); (case zpd => first | assumption | exact rfl); (case zphk => rfl); (case zphx => rfl); (case zphd => decide); k_whole)))
local macro_rules | `(tactic| k_all) => `(tactic| (refine List.forall_mem_cons.mpr ⟨?_, ?_⟩; (show @Ne Nat _ _; omega); k_all))
local macro_rules | `(tactic| walk_at "storeName") => `(tactic| (k_here; k_dflt (refine' Mine.storeX ?zpF ?zpN ?zpc ?zpU ?_ ?zpa ?zpb; (case zpa => rfl); (case zpb => rfl); (case zpF => k_asm); (case zpN => k_asm); (case zpc => exact rfl); (case zpU => (first | exact UpdF.head (by k_all) | exact Mine.updf_tail' (by omega) (UpdF.head (by k_all)) | exact Mine.updf_tail' (by omega) (Mine.updf_tail' (by omega) (UpdF.head (by k_all))) | exact Mine.updf_tail' (by omega) (Mine.updf_tail' (by omega) (Mine.updf_tail' (by omega) (UpdF.head (by k_all)))) | exact Mine.updf_tail' (by omega) (Mine.updf_tail' (by omega) (Mine.updf_tail' (by omega) (Mine.updf_tail' (by omega) (UpdF.head (by k_all))))) | exact Mine.updf_tail' (by omega) (Mine.updf_tail' (by omega) (Mine.updf_tail' (by omega) (Mine.updf_tail' (by omega) (Mine.updf_tail' (by omega) (UpdF.head (by k_all)))))) | exact Mine.updf_tail' (by omega) (Mine.updf_tail' (by omega) (Mine.updf_tail' (by omega) (Mine.updf_tail' (by omega) (Mine.updf_tail' (by omega) (Mine.updf_tail' (by omega) (UpdF.head (by k_all))))))) | exact Mine.updf_tail' (by omega) (Mine.updf_tail' (by omega) (Mine.updf_tail' (by omega) (Mine.updf_tail' (by omega) (Mine.updf_tail' (by omega) (Mine.updf_tail' (by omega) (Mine.updf_tail' (by omega) (UpdF.head (by k_all)))))))))); k_whole); intro h' F' N'; (try dsimp only at N'); (try k_sweep)))
local macro_rules | `(tactic| k_mem) => `(tactic| with_reducible assumption)
local macro_rules | `(tactic| walk_at "eval Name") => `(tactic| (k_here; (with_reducible show wpAny _ _ (eval (PySem.Expr.Name _ _) (compEnvC _ _ _ _)) _ _ _); k_dflt (refine' lcf_cell ?zfN ?zfc ?zfm ?zfd ?_ ?zfa ?zfb; (case zfa => rfl); (case zfb => rfl); (case zfN => k_asm); (case zfc => exact rfl); (case zfm => k_mem); (case zfd => exact rfl); k_whole)))
namespace Mine
theorem cell_nd : Value.type "cell" ≠ Value.type "dict" := by decide
theorem ints_at {vs : List Value} {ns : List Int} (h : IntsAre vs ns) : ∀ {i : Nat} {n : Int}, ns[i]? = some n → ∃ t, vs[i]? = some (.int n t) := by
  induction h with
  | nil => intro i n h; simp at h
  | cons k t r ih =>
    intro i n h
    cases i with
    | zero => simp at h; subst h; exact ⟨t, rfl⟩
    | succ i => exact ih (by simpa using h)
theorem lvs_getD (tx : Str) (p : Int) {n i : Nat} (h : i < n) : (lvs tx p n).getD (0 + (i : Int)).toNat 0 = hh tx (p + i) - hh tx p := by
  rw [show (0 + (i : Int)).toNat = i by omega]; simp [lvs, h]
theorem lvs_at (tx : Str) (p : Int) {n i : Nat} (h : i < n) : (lvs tx p n)[i]? = some (hh tx (p + i) - hh tx p) := by simp [lvs, h]
theorem zer_succ (tx : Str) (b : Int) (n : Nat) (k : Int) : zer tx b (n + 1) k = zer tx b n k ++ (if hh tx (k + n) = b then [k + n] else []) := by
  rw [zer_add]
  congr 1
theorem partC {w : World} {mean : ExcName → Option Value} {mg mb : Str → Option Value} {A₀ : Around} {base h₀ : Heap} {dp un : Nat} {gd : Option (List Code)} {L a : Addr} {ccd : Value} {m : Str → Option Value} {news : Led} {s : Shared} {Q : Flow → Shared → Prop} {E : Value → Shared → Prop}
    {gr : Gr} {tx : Str} {tt tp : Tok} {p : Int}
    (C : LCx w mean mg mb A₀ base h₀ dp un) (F : Fr h₀ L s.heap m) (N : News h₀ L s.heap news) (G : GrOk 0 gr news) (ab : AB tx) (htx : tx.length ≤ 12) (hp0 : 0 ≤ p) (hp1 : p ≤ (tx.length : Int))
    (cT : CellAt news (L + 1 + 1) (some (.str tx tt))) (cS : CellAt news (L + 1 + 1 + 1) (some (.int p tp))) (cR : CellAt news (L + 1 + 1 + 1 + 1) none) (cB : CellAt news (L + 1 + 1 + 1 + 1 + 1) none)
    (mU : m (Str.ofString "up") = some (.ref (gr.xa .uS))) (mD : m (Str.ofString "down") = some (.ref (gr.xa .lS))) (mT : m (Str.ofString "top") = some (.ref (gr.xa .top)))
    (k : ∀ (m' : Str → Option Value) (newsC : Led) (h' : Heap) (tk' : Nat) (lv : Addr) (lvs' : List Value) (lep : Nat) (rw : Addr) (rvs : List Value) (rep : Nat) (nd : Value) (BB : Led) (ts : List T) (q : Int), Fr h₀ L h' m' → News h₀ L h' newsC → GrOk 1 gr newsC →
      CellAt newsC (L + 1 + 1) (some (.str tx tt)) → CellAt newsC (L + 1 + 1 + 1) (some (.int p tp)) → CellAt newsC (L + 1 + 1 + 1 + 1) (some (.ref rw)) → CellAt newsC (L + 1 + 1 + 1 + 1 + 1) none →
      (rw, lstO rvs rep) ∈ newsC → IntsAre rvs (lvs tx p (tx.length - p.toNat + 1)) → (lv, lstO lvs' lep) ∈ newsC → IntsAre lvs' (zer tx (hh tx p) (tx.length - p.toNat + 1) p) → RT tx p ts q → q ≤ (tx.length : Int) → IsT gr tx BB newsC nd (.node .top p q ts) →
      m' (Str.ofString "up") = some (.ref (gr.xa .uS)) → m' (Str.ofString "down") = some (.ref (gr.xa .lS)) → m' (Str.ofString "top") = some (.ref (gr.xa .top)) → m' (Str.ofString "level") = some (.ref lv) → m' (Str.ofString "node") = some nd →
      (∀ q ∈ news, q.2.cls ≠ .type "dict" → (∀ v, q.2.data ≠ .cell v) → q ∈ newsC) →
      wpAny (model PW w) (LA dp un gd L a ccd) (execs lawT11.1 (LE L a ccd)) Q E { s with heap := h', toks := tk' }) : wpAny (model PW w) (LA dp un gd L a ccd) (execs lawT8.1 (LE L a ccd)) Q E s := by
  obtain ⟨XB, TB, B, X, T, bt, hdd, huu⟩ := C
  show wpAny _ _ (execs (_ :: _) _) _ _ _
  w_top off; w_on
  w_strict (iterate 11 (first | (k_unfold; (try dsimp only)) | (k_end; wrow_close) | walk1 | (dsimp only; walk1) | (leave1; walk_say "STEP leave1"; try dsimp only) | fail "no step"))
  refine Spec1.use B F X N T rfl (lev_ok ab htx hp0 hp1) trivial (by (try dsimp only); omega) (by (try dsimp only); omega) ?_
  rintro r1 led1 h1 tk1 F1 N1 ⟨rw, rvs, rep, rfl, rfl, hrv, hrlt⟩
  refine storeC F1 N1 rfl (.tail _ cR) rfl ?_ rfl rfl
  intro h2 led2 F2 N2 k2
  have c2j : CellAt led2 _ _ := k2.old _ (.tail _ cT) (Nat.ne_of_lt (Nat.lt_succ_of_lt (Nat.lt_succ_self _)))
  have c3j : CellAt led2 _ _ := k2.old _ (.tail _ cS) (Nat.ne_of_lt (Nat.lt_succ_self _))
  have c5j : CellAt led2 _ _ := k2.old _ (.tail _ cB) (Nat.ne_of_gt (Nat.lt_succ_self _))
  have c4j : CellAt led2 (L + 1 + 1 + 1 + 1) (some (.ref rw)) := k2.now
  have rwj := k2.mem (.head _) nofun
  have G2 := k2.grok (G.sub fun q hq => .tail _ hq)
  have hrl : rvs.length = tx.length - p.toNat + 1 := by rw [hrv.length]; simp
  have hrl2 : rvs.length ≤ 1000 := by omega
  clear F1 N1 N F
  w_strict ((first | (k_unfold; (try dsimp only)) | (k_end; wrow_close) | walk1 | (dsimp only; walk1) | (leave1; walk_say "STEP leave1"; try dsimp only) | fail "no step"))
  refine LCt.Assign_ListComp_T (F₀ := F2) (by rfl) (by with_unfolding_all rfl) (by with_unfolding_all rfl) (by decide) (by rfl) (by decide) (by rfl) (by rfl) (by rfl) ?_
  w_strict (iterate 10 (first | (k_unfold; (try dsimp only)) | (k_end; wrow_close) | walk1 | (dsimp only; walk1) | (leave1; walk_say "STEP leave1"; try dsimp only) | fail "no step"))
  refine Mine.len_lst N2 rwj hrl2 ?_
  w_strict (iterate 2 (first | (k_unfold; (try dsimp only)) | (k_end; wrow_close) | walk1 | (dsimp only; walk1) | (leave1; walk_say "STEP leave1"; try dsimp only) | fail "no step"))
  rename IsRange _ _ _ _ _ _ _ _ => hr5
  with_reducible rename News _ _ _ _ => N5
  with_reducible rename Fr _ _ _ _ => F5
  refine LCt.CompSrcT.range rfl F5 N5 hr5 (small_one (by omega) (by omega) (by omega) (by simp; omega)) (n := tx.length - p.toNat + 1) (by rw [rangeSize_nat]; simp) (by rw [sizeLine_eq]; omega) ?_
  intro gx
  refine comp_allT (fun i ys nw => IntsAre ys (zer tx (hh tx p) i p) ∧ nw = led2) ⟨.nil, rfl⟩ ?_ ?_
  · rintro i v9 ys nw I oI C oC D m₂ h9 tk9 E' hi9 ⟨tv, rfl⟩ ⟨hys, rfl⟩ hC hm9 F9 N9 off9 ne9
    have hz9 := zer_succ tx (hh tx p) i p
    have hg9 := lvs_getD tx p hi9
    w_strict (iterate 13 (first | (k_unfold; (try dsimp only)) | (k_end; wrow_close) | walk1 | (dsimp only; walk1) | (leave1; walk_say "STEP leave1"; try dsimp only) | fail "no step"))
    · with_reducible rename News _ _ _ _ => N7
      with_reducible rename Fr _ _ _ _ => F7
      rename List.getD _ _ _ = 0 => hz
      refine comp_same F7 N7 off9 ?_ ?_
      · trivial
      refine ⟨?_, rfl⟩
      rw [hz9, if_pos (by omega), show p + (i : Int) = p + (0 + (i : Int)) by omega]
      exact hys.append (.cons _ _ .nil)
    · with_reducible rename News _ _ _ _ => N7
      with_reducible rename Fr _ _ _ _ => F7
      rename List.getD _ _ _ ≠ 0 => hz
      refine comp_same F7 N7 off9 ?_ ?_
      · trivial
      refine ⟨?_, rfl⟩
      rw [hz9, if_neg (by omega), List.append_nil]
      exact hys
  · rintro ys nw ⟨hys, rfl⟩ D9 h9 tk9 F9 N9 off9
    clear F5 N5
    obtain ⟨slT, hT1, hT2, hT3⟩ := G2.inst .top
    unfold InstOk at hT1
    rw [show Ex.top.cls = 489 from rfl] at hT1
    have hTd : (gr.xd .top, dictOf [] 0) ∈ nw := by
      obtain ⟨ps, h1, h2⟩ := G2.ex .top
      rcases h1 with ⟨-, h⟩ | ⟨hh, kk, t, vs, ep, h3, h4, h5, h6⟩
      · exact h
      · cases ps with
        | nil => cases vs with
          | nil => exact absurd rfl h6
          | cons _ _ => exact h5.elim
        | cons _ _ => simp at h2
    w_strict (iterate 4 (first | (k_unfold; (try dsimp only)) | (k_end; wrow_close) | walk1 | (dsimp only; walk1) | (leave1; walk_say "STEP leave1"; try dsimp only) | fail "no step"))
    refine method_inst F9 X ⟨N9.get (.tail _ hT1), rfl, rfl, N9.get (.tail _ hTd)⟩ (by k_is) (by k_is) (by k_is) rfl ?_
    w_strict (iterate 8 (first | (k_unfold; (try dsimp only)) | (k_end; wrow_close) | walk1 | (dsimp only; walk1) | (leave1; walk_say "STEP leave1"; try dsimp only) | fail "no step"))
    refine Spec1.use B F9 X N9 T rfl (tm_ok (gr := gr) (text := tx) (R := 0) (by omega) htx hp0 hp1) (GrOk.sub (fun q hq => .tail _ hq) G2) (by (try dsimp only); omega) (by (try dsimp only); omega) ?_
    rintro r4 led4 h4 tk4 F4 N4 ⟨G4, K4, BB, ts, q, hrt, hql, hT⟩
    clear F9 N9
    w_strict (iterate 2 (first | (k_unfold; (try dsimp only)) | (k_end; wrow_close) | walk1 | (dsimp only; walk1) | (leave1; walk_say "STEP leave1"; try dsimp only) | fail "no step"))
    with_reducible rename News _ _ _ _ => NZ
    with_reducible rename Fr _ _ _ _ => FZ
    exact k _ led4 _ _ D9 ys ys.length rw rvs rep r4 BB ts q FZ NZ G4 (K4.same _ (.tail _ c2j) cell_nd) (K4.same _ (.tail _ c3j) cell_nd) (K4.same _ (.tail _ c4j) cell_nd) (K4.same _ (.tail _ c5j) cell_nd)
      (K4.same _ (.tail _ rwj) lst_nd) (by assumption) (K4.same _ (.head _) lst_nd) hys hrt hql hT mU mD mT rfl rfl (fun q hq h1 h2 => K4.same _ (.tail _ (k2.mem (.tail _ hq) h2)) h1)
end Mine
end

section
-- part Ld
open PySem PySem.Spec PySem.Calls PySem.W PyProof.Rows
namespace Mine
/-- what stands while the law asks its questions -/
structure LD (gr : Gr) (tx : Str) (tt : Tok) (p : Int) (tp : Tok) (L rw lv : Addr) (nd : Value) (ts : List T) (q : Int) (m : Str → Option Value) (news : Led) : Prop where
  G : GrOk 1 gr news
  cT : CellAt news (L + 1 + 1) (some (.str tx tt))
  cS : CellAt news (L + 1 + 1 + 1) (some (.int p tp))
  cR : CellAt news (L + 1 + 1 + 1 + 1) (some (.ref rw))
  cB : CellAt news (L + 1 + 1 + 1 + 1 + 1) none
  rows : ∃ rvs rep, (rw, lstO rvs rep) ∈ news ∧ IntsAre rvs (lvs tx p (tx.length - p.toNat + 1))
  level : ∃ lvs' lep, (lv, lstO lvs' lep) ∈ news ∧ IntsAre lvs' (zer tx (hh tx p) (tx.length - p.toNat + 1) p)
  tree : ∃ BB, IsT gr tx BB news nd (.node .top p q ts)
  mU : m (Str.ofString "up") = some (.ref (gr.xa .uS))
  mD : m (Str.ofString "down") = some (.ref (gr.xa .lS))
  mT : m (Str.ofString "top") = some (.ref (gr.xa .top))
  mL : m (Str.ofString "level") = some (.ref lv)
  mN : m (Str.ofString "node") = some nd
  ab : AB tx
  htx : tx.length ≤ 12
  hp0 : 0 ≤ p
  hp1 : p ≤ (tx.length : Int)
  run : RunT tx p ts q
  ht : htT (Mine.T.node .top p q ts) ≤ 20
theorem LD.sub {gr : Gr} {tx : Str} {tt : Tok} {p : Int} {tp : Tok} {L rw lv : Addr} {nd : Value} {ts : List T} {q : Int} {m : Str → Option Value} {a b : Led} (k : ∀ q ∈ a, q ∈ b) (D : LD gr tx tt p tp L rw lv nd ts q m a) : LD gr tx tt p tp L rw lv nd ts q m b := by
  obtain ⟨rvs, rep, h1, h2⟩ := D.rows
  obtain ⟨l1, l2, h3, h4⟩ := D.level
  obtain ⟨BB, hT⟩ := D.tree
  exact ⟨D.G.sub k, k _ D.cT, k _ D.cS, k _ D.cR, k _ D.cB, ⟨rvs, rep, k _ h1, h2⟩, ⟨l1, l2, k _ h3, h4⟩, ⟨BB, hT.sub fun q hq _ => k q hq⟩, D.mU, D.mD, D.mT, D.mL, D.mN, D.ab, D.htx, D.hp0, D.hp1, D.run, D.ht⟩
theorem LD.level' {gr : Gr} {tx : Str} {tt : Tok} {p : Int} {tp : Tok} {L rw lv : Addr} {nd : Value} {ts : List T} {q : Int} {m : Str → Option Value} {a : Led} (D : LD gr tx tt p tp L rw lv nd ts q m a) : zer tx (hh tx p) (tx.length - p.toNat + 1) p = p :: ts.map T.t := by
  have h := D.run.level
  have h1 := D.hp0
  have h2 := D.hp1
  rw [show ((tx.length : Int) - p + 1).toNat = tx.length - p.toNat + 1 by omega] at h
  exact h
end Mine
end

section
-- part PD1
open PySem PySem.Spec PySem.Calls PySem.W PyProof.Rows
local macro_rules | `(tactic| walk_at "pad of mine") => `(tactic| fail)
local macro_rules | `(tactic| k_room) => `(tactic| ktr_room)
local macro_rules | `(tactic| k_all) => `(tactic| exact allNe_of' (by assumption) (by omega))
local macro_rules | `(tactic| k_all) => `(tactic| ((with_reducible rename AllLt _ _ => hAllLt); exact allNe_of hAllLt (by omega)))
local macro_rules | `(tactic| k_all) => `(tactic| assumption)
local macro_rules | `(tactic| k_mem) => `(tactic| first | exact List.Mem.head _ | (refine' List.mem_cons_of_mem _ ?_; k_mem))
local macro_rules | `(tactic| walk_at "call builtin:dict.get") => `(tactic| (k_here; k_dflt (first | refine kdg_get2 (knd := PySem.strKind _ _) (by k_asm) (by k_mem) (by assumption) (by assumption) (strKind_is _ _ _ _) (some _) (by rfl) ?_ | refine kdg_get2 (knd := PySem.strKind _ _) (by k_asm) (by k_mem) (by assumption) (by assumption) (strKind_is _ _ _ _) none (by rfl) ?_); (try dsimp only [Option.getD])))
local macro_rules | `(tactic| walk_at "getItem ref int") => `(tactic| (k_here; k_dflt (refine' Mine.item_lst ?N ?m ?a ?b ?c ?_; (case N => k_asm); (case m => k_mem); (case a => decide); (case b => decide); (case c => rfl); k_whole)))
local macro_rules | `(tactic| walk_at "eval Name") => `(tactic| (k_here; k_dflt (refine' nameX_L ?zpk1 ?zpk2 ?_ ?zphk ?zphx ?zphd; (case zpk1 => k_asm); (case zpk2 => first | assumption | exact rfl); (case zphk => rfl); (case zphx => rfl); (case zphd => decide); k_whole)))
local macro_rules | `(tactic| walk_at "eval Name") => `(tactic| (k_here; k_dflt (refine' nameX_C ?zpN ?zpc ?zpm ?zpd ?_ ?zphk ?zphx ?zphd; (case zpN => k_asm); (case zpc => exact rfl); (case zpm => first | assumption | k_mem); (case zpd => first | assumption | exact rfl); (case zphk => rfl); (case zphx => rfl); (case zphd => decide); k_whole)))
local macro_rules | `(tactic| k_all) => `(tactic| (refine List.forall_mem_cons.mpr ⟨?_, ?_⟩; (show @Ne Nat _ _; omega); k_all))
local macro_rules | `(tactic| walk_at "storeName") => `(tactic| (k_here; k_dflt (refine' Mine.storeX ?zpF ?zpN ?zpc ?zpU ?_ ?zpa ?zpb; (case zpa => rfl); (case zpb => rfl); (case zpF => k_asm); (case zpN => k_asm); (case zpc => exact rfl); (case zpU => (first | exact UpdF.head (by k_all) | exact Mine.updf_tail' (by omega) (UpdF.head (by k_all)) | exact Mine.updf_tail' (by omega) (Mine.updf_tail' (by omega) (UpdF.head (by k_all))) | exact Mine.updf_tail' (by omega) (Mine.updf_tail' (by omega) (Mine.updf_tail' (by omega) (UpdF.head (by k_all)))) | exact Mine.updf_tail' (by omega) (Mine.updf_tail' (by omega) (Mine.updf_tail' (by omega) (Mine.updf_tail' (by omega) (UpdF.head (by k_all))))) | exact Mine.updf_tail' (by omega) (Mine.updf_tail' (by omega) (Mine.updf_tail' (by omega) (Mine.updf_tail' (by omega) (Mine.updf_tail' (by omega) (UpdF.head (by k_all)))))) | exact Mine.updf_tail' (by omega) (Mine.updf_tail' (by omega) (Mine.updf_tail' (by omega) (Mine.updf_tail' (by omega) (Mine.updf_tail' (by omega) (Mine.updf_tail' (by omega) (UpdF.head (by k_all))))))) | exact Mine.updf_tail' (by omega) (Mine.updf_tail' (by omega) (Mine.updf_tail' (by omega) (Mine.updf_tail' (by omega) (Mine.updf_tail' (by omega) (Mine.updf_tail' (by omega) (Mine.updf_tail' (by omega) (UpdF.head (by k_all)))))))))); k_whole); intro h' F' N'; (try dsimp only at N'); (try k_sweep)))
local macro_rules | `(tactic| k_mem) => `(tactic| with_reducible assumption)
local macro_rules | `(tactic| walk_at "eval Name") => `(tactic| (k_here; (with_reducible show wpAny _ _ (eval (PySem.Expr.Name _ _) (compEnvC _ _ _ _)) _ _ _); k_dflt (refine' lcf_cell ?zfN ?zfc ?zfm ?zfd ?_ ?zfa ?zfb; (case zfa => rfl); (case zfb => rfl); (case zfN => k_asm); (case zfc => exact rfl); (case zfm => k_mem); (case zfd => exact rfl); k_whole)))
namespace Mine
theorem isl {h₀ h : Heap} {L a : Addr} {news : Led} {vs : List Value} {n : Nat} (N : News h₀ L h news) (hm : (a, lstO vs n) ∈ news) : h.IsList a vs.toArray := ⟨_, N.get hm, rfl, _, rfl⟩
theorem ne_same {prog : Program} {w : World} {A : Around} {E : Value → Shared → Prop} {s : Shared} {a b : Addr} {vs us : List Value} {ns : List Int} {Q : Value → Shared → Prop} (hl : s.heap.IsList a vs.toArray) (hi : IntsAre vs ns) (hl' : s.heap.IsList b us.toArray) (hi' : IntsAre us ns) (hu : A.units + 64 < cLine)
    (h : Q (.bool false) s) : wpAny (model prog w) A (compareOp .NotEq (.ref a) (.ref b)) Q E s :=
  ne_intsK hl hi hl' hi' hu (by rw [decide_eq_true (show ns = ns from rfl)]; exact h)
theorem partD1 {w : World} {mean : ExcName → Option Value} {mg mb : Str → Option Value} {A₀ : Around} {base h₀ : Heap} {dp un : Nat} {gd : Option (List Code)} {L a : Addr} {ccd : Value} {m : Str → Option Value} {news : Led} {s : Shared} {Q : Flow → Shared → Prop} {E : Value → Shared → Prop}
    {gr : Gr} {tx : Str} {tt tp : Tok} {p : Int} {rw lv : Addr} {nd : Value} {ts : List T} {q : Int}
    (C : LCx w mean mg mb A₀ base h₀ dp un) (F : Fr h₀ L s.heap m) (N : News h₀ L s.heap news) (D : LD gr tx tt p tp L rw lv nd ts q m news)
    (k : ∀ (h' : Heap) (tk' : Nat), Fr h₀ L h' m → News h₀ L h' news → wpAny (model PW w) (LA dp un gd L a ccd) (execs lawT12.1 (LE L a ccd)) Q E { s with heap := h', toks := tk' }) : wpAny (model PW w) (LA dp un gd L a ccd) (execs lawT11.1 (LE L a ccd)) Q E s := by
  obtain ⟨XB, TB, B, X, HT, bt, hdd, huu⟩ := C
  obtain ⟨BB, hT⟩ := D.tree
  have mN := D.mN
  have mL := D.mL
  cases hT with
  | @mk na cl d od e p2 q2 ts2 tt2 tx2 vs ch ep hin hd hl b1 b2 b3 hz hch =>
  show wpAny _ _ (execs (_ :: _) _) _ _ _
  w_top off; w_on
  w_strict (iterate 12 (first | (k_unfold; (try dsimp only)) | (k_end; wrow_close) | walk1 | (dsimp only; walk1) | (leave1; walk_say "STEP leave1"; try dsimp only) | fail "no step"))
  rename Addr => D0
  with_reducible rename News _ _ _ _ => N5
  with_reducible rename Fr _ _ _ _ => F5
  have HH : ∃ (t0 : Tok), News h₀ L _ ((D0, lstO [.int p t0] 0) :: news) := ⟨_, N5⟩
  clear N5
  obtain ⟨t0, N5⟩ := HH
  have hchl := hch.length
  refine LCg.ListComp_U (F₀ := F5) (by with_unfolding_all rfl) (by decide) (by rfl) (by decide) (by rfl) ?_
  w_strict (iterate 3 (first | (k_unfold; (try dsimp only)) | (k_end; wrow_close) | walk1 | (dsimp only; walk1) | (leave1; walk_say "STEP leave1"; try dsimp only) | fail "no step"))
  with_reducible rename Fr _ _ _ _ => F6
  with_reducible rename News _ _ _ _ => N6
  refine LCg.CompSrc.ledger rfl F6 N6 (.tail _ hl) (by rw [sizeLine_eq]; simp; omega) ?_
  intro gx
  refine comp_all (fun i ys nw => IntsAre ys ((ts.take i).map Mine.T.t) ∧ nw = (D0, lstO [.int p t0] 0) :: news) ⟨.nil, rfl⟩ ?_ ?_
  · rintro i v9 ys nw I oI C oC DD m₂ h9 tk9 E' hi hv9 ⟨hys, rfl⟩ hC hm9 F9 N9 off9 ne9
    have hx9 : vs[i]? = some v9 := by simpa using hv9
    obtain ⟨t9, ht9, hT9⟩ := hch.get hx9
    cases hT9 with
    | @mk na9 cl9 d9 od9 e9 p9 q9 ts9 tt9 tx9 vs9 ch9 ep9 hin9 hd9 hl9 b19 b29 b39 hz9 hch9 =>
    w_strict (iterate 3 (first | (k_unfold; (try dsimp only)) | (k_end; wrow_close) | walk1 | (dsimp only; walk1) | (leave1; walk_say "STEP leave1"; try dsimp only) | fail "no step"))
    with_reducible rename News _ _ _ _ => N7
    with_reducible rename Fr _ _ _ _ => F7
    refine comp_same F7 N7 off9 (.inr ⟨_, .tail _ hl, rfl, _, rfl⟩) ⟨?_, rfl⟩
    rw [List.take_add_one, ht9]
    simpa [Mine.T.t] using hys.append (.cons q9 tt9 .nil)
  · rintro ys nw ⟨hys, rfl⟩ D9 h9 tk9 F9 N9 off9
    rw [List.size_toArray, hchl, List.take_length] at hys
    have hysl := hys.length
    rw [List.length_map] at hysl
    obtain ⟨lvs', lep, hlv, hlvs⟩ := D.level
    rw [D.level'] at hlvs
    w_strict (refine list_add F9 N9 (.tail _ (.head _)) (.head _) ?_ ?_)
    · simp; omega
    intro D2 h6 F6 N6 lt6
    w_strict ((first | (k_unfold; (try dsimp only)) | (k_end; wrow_close) | walk1 | (dsimp only; walk1) | (leave1; walk_say "STEP leave1"; try dsimp only) | fail "no step"))
    have hys2 : IntsAre ([Value.int p t0] ++ ys) (p :: ts.map Mine.T.t) := .cons p t0 hys
    refine ne_same (isl N6 (.head _)) hys2 (isl N6 (.tail _ (.tail _ (.tail _ hlv)))) hlvs (by (try dsimp only); omega) ?_
    replace N6 : News h₀ L h6 news := fun z hz => N6 z (.tail _ (.tail _ (.tail _ hz)))
    clear F9 N9 off9 lt6
    w_strict (iterate 4 (first | (k_unfold; (try dsimp only)) | (k_end; wrow_close) | walk1 | (dsimp only; walk1) | (leave1; walk_say "STEP leave1"; try dsimp only) | fail "no step"))
    refine LCg.ListComp_U (F₀ := F6) (by with_unfolding_all rfl) (by decide) (by rfl) (by decide) (by rfl) ?_
    w_strict (iterate 3 (first | (k_unfold; (try dsimp only)) | (k_end; wrow_close) | walk1 | (dsimp only; walk1) | (leave1; walk_say "STEP leave1"; try dsimp only) | fail "no step"))
    refine LCg.CompSrc.ledger rfl F6 N6 hl (by rw [sizeLine_eq]; simp; omega) ?_
    intro gy
    refine comp_all (fun i ys nw => IntsAre ys ((ts.take i).map Mine.T.s) ∧ nw = news) ⟨.nil, rfl⟩ ?_ ?_
    · rintro i v8 ys8 nw I oI C oC DD m₂ h8 tk8 E' hi hv8 ⟨hys8, rfl⟩ hC hm8 F8 N8 off8 ne8
      have hx8 : vs[i]? = some v8 := by simpa using hv8
      obtain ⟨t8, ht8, hT8⟩ := hch.get hx8
      cases hT8 with
      | @mk na8 cl8 d8 od8 e8 p8 q8 ts8 tt8 tx8 vs8 ch8 ep8 hin8 hd8 hl8 b18 b28 b38 hz8 hch8 =>
      w_strict (iterate 3 (first | (k_unfold; (try dsimp only)) | (k_end; wrow_close) | walk1 | (dsimp only; walk1) | (leave1; walk_say "STEP leave1"; try dsimp only) | fail "no step"))
      with_reducible rename News _ _ _ _ => N7
      with_reducible rename Fr _ _ _ _ => F7
      refine comp_same F7 N7 off8 (.inr ⟨_, hl, rfl, _, rfl⟩) ⟨?_, rfl⟩
      rw [List.take_add_one, ht8]
      simpa [Mine.T.s] using hys8.append (.cons p8 ts8 .nil)
    · rintro ys8 nw ⟨hys8, rfl⟩ D8 h8 tk8 F8 N8 off8
      rw [List.size_toArray, hchl, List.take_length] at hys8
      w_strict (iterate 12 (first | (k_unfold; (try dsimp only)) | (k_end; wrow_close) | walk1 | (dsimp only; walk1) | (leave1; walk_say "STEP leave1"; try dsimp only) | fail "no step"))
      have hlvl := hlvs.length
      rw [List.length_cons, List.length_map] at hlvl
      refine Mine.len_lst N8 (.tail _ hlv) (by omega) ?_
      w_strict (iterate 4 (first | (k_unfold; (try dsimp only)) | (k_end; wrow_close) | walk1 | (dsimp only; walk1) | (leave1; walk_say "STEP leave1"; try dsimp only) | fail "no step"))
      with_reducible rename IntsAre _ (List.take _ _) => hsl
      with_reducible rename News _ _ _ _ => N7
      have hch2 : List.take ((lvs'.length : Int) - 1).toNat (p :: ts.map Mine.T.t) = ts.map Mine.T.s := by
        rw [← D.run.chain, show ((lvs'.length : Int) - 1).toNat = (ts.map Mine.T.s).length by rw [List.length_map]; omega, List.take_left]
      rw [hch2] at hsl
      refine ne_same (isl (n := ys8.length) N7 (.tail _ (.head _))) hys8 (isl (n := 0) N7 (.head _)) hsl (by (try dsimp only); omega) ?_
      replace N7 : News h₀ L _ nw := fun z hz => N7 z (.tail _ (.tail _ hz))
      clear off8
      w_strict (iterate 4 (first | (k_unfold; (try dsimp only)) | (k_end; wrow_close) | walk1 | (dsimp only; walk1) | (leave1; walk_say "STEP leave1"; try dsimp only) | fail "no step"))
      with_reducible rename Fr _ _ _ _ => F7
      refine wpAny_pure ?_
      exact k _ _ F7 N7
end Mine
end

section
-- part PD2
open PySem PySem.Spec PySem.Calls PySem.W PyProof.Rows
local macro_rules | `(tactic| k_room) => `(tactic| ktr_room)
local macro_rules | `(tactic| k_all) => `(tactic| exact allNe_of' (by assumption) (by omega))
local macro_rules | `(tactic| k_all) => `(tactic| ((with_reducible rename AllLt _ _ => hAllLt); exact allNe_of hAllLt (by omega)))
local macro_rules | `(tactic| k_all) => `(tactic| assumption)
local macro_rules | `(tactic| k_mem) => `(tactic| first | exact List.Mem.head _ | (refine' List.mem_cons_of_mem _ ?_; k_mem))
local macro_rules | `(tactic| walk_at "call builtin:dict.get") => `(tactic| (k_here; k_dflt (first | refine kdg_get2 (knd := PySem.strKind _ _) (by k_asm) (by k_mem) (by assumption) (by assumption) (strKind_is _ _ _ _) (some _) (by rfl) ?_ | refine kdg_get2 (knd := PySem.strKind _ _) (by k_asm) (by k_mem) (by assumption) (by assumption) (strKind_is _ _ _ _) none (by rfl) ?_); (try dsimp only [Option.getD])))
local macro_rules | `(tactic| walk_at "getItem ref int") => `(tactic| (k_here; k_dflt (refine' Mine.item_lst ?N ?m ?a ?b ?c ?_; (case N => k_asm); (case m => k_mem); (case a => decide); (case b => decide); (case c => rfl); k_whole)))
local macro_rules | `(tactic| walk_at "eval Name") => `(tactic| (k_here; k_dflt (refine' nameX_L ?zpk1 ?zpk2 ?_ ?zphk ?zphx ?zphd; (case zpk1 => k_asm); (case zpk2 => first | assumption | exact rfl); (case zphk => rfl); (case zphx => rfl); (case zphd => decide); k_whole)))
local macro_rules | `(tactic| walk_at "eval Name") => `(tactic| (k_here; k_dflt (refine' nameX_C ?zpN ?zpc ?zpm ?zpd ?_ ?zphk ?zphx ?zphd; (case zpN => k_asm); (case zpc => exact rfl); (case zpm => first | assumption | k_mem); (case zpd => first | assumption | exact rfl); (case zphk => rfl); (case zphx => rfl); (case zphd => decide); k_whole)))
local macro_rules | `(tactic| k_all) => `(tactic| (refine List.forall_mem_cons.mpr ⟨?_, ?_⟩; (show @Ne Nat _ _; omega); k_all))
local macro_rules | `(tactic| walk_at "storeName") => `(tactic| (k_here; k_dflt (refine' Mine.storeX ?zpF ?zpN ?zpc ?zpU ?_ ?zpa ?zpb; (case zpa => rfl); (case zpb => rfl); (case zpF => k_asm); (case zpN => k_asm); (case zpc => exact rfl); (case zpU => (first | exact UpdF.head (by k_all) | exact Mine.updf_tail' (by omega) (UpdF.head (by k_all)) | exact Mine.updf_tail' (by omega) (Mine.updf_tail' (by omega) (UpdF.head (by k_all))) | exact Mine.updf_tail' (by omega) (Mine.updf_tail' (by omega) (Mine.updf_tail' (by omega) (UpdF.head (by k_all)))) | exact Mine.updf_tail' (by omega) (Mine.updf_tail' (by omega) (Mine.updf_tail' (by omega) (Mine.updf_tail' (by omega) (UpdF.head (by k_all))))) | exact Mine.updf_tail' (by omega) (Mine.updf_tail' (by omega) (Mine.updf_tail' (by omega) (Mine.updf_tail' (by omega) (Mine.updf_tail' (by omega) (UpdF.head (by k_all)))))) | exact Mine.updf_tail' (by omega) (Mine.updf_tail' (by omega) (Mine.updf_tail' (by omega) (Mine.updf_tail' (by omega) (Mine.updf_tail' (by omega) (Mine.updf_tail' (by omega) (UpdF.head (by k_all))))))) | exact Mine.updf_tail' (by omega) (Mine.updf_tail' (by omega) (Mine.updf_tail' (by omega) (Mine.updf_tail' (by omega) (Mine.updf_tail' (by omega) (Mine.updf_tail' (by omega) (Mine.updf_tail' (by omega) (UpdF.head (by k_all)))))))))); k_whole); intro h' F' N'; (try dsimp only at N'); (try k_sweep)))
local macro_rules | `(tactic| k_mem) => `(tactic| with_reducible assumption)
local macro_rules | `(tactic| walk_at "eval Name") => `(tactic| (k_here; (with_reducible show wpAny _ _ (eval (PySem.Expr.Name _ _) (compEnvC _ _ _ _)) _ _ _); k_dflt (refine' lcf_cell ?zfN ?zfc ?zfm ?zfd ?_ ?zfa ?zfb; (case zfa => rfl); (case zfb => rfl); (case zfN => k_asm); (case zfc => exact rfl); (case zfm => k_mem); (case zfd => exact rfl); k_whole)))
namespace Mine
theorem ne_dat {w : World} {A : Around} {E : Value → Shared → Prop} {s : Shared} {h₀ : Heap} {L a b : Addr} {news n1 n2 : Led} {xs ys : List Value} {ka kb : Nat} {ds : List Dat} {Q : Value → Shared → Prop} (N : News h₀ L s.heap news) (ma : (a, lstO xs ka) ∈ news) (mb : (b, lstO ys kb) ∈ news)
    (Da : DatAll n1 xs ds) (sa : ∀ q ∈ n1, q ∈ news) (Db : DatAll n2 ys ds) (sb : ∀ q ∈ n2, q ∈ news) (ok : ∀ d ∈ ds, kqdOk 8 d = true) (hu : A.units + 64 < cLine) (h : Q (.bool false) s) : wpAny (model PW w) A (compareOp .NotEq (.ref a) (.ref b)) Q E s :=
  kqd_ne N ma rfl rfl Da sa mb rfl rfl Db sb ok ok hu (by classical rw [decide_eq_true (show ds = ds from rfl)]; exact h)
theorem nm_u : (eS true).nm = ⟨#[117]⟩ := by decide +kernel
theorem nm_l : (eS false).nm = ⟨#[108]⟩ := by decide +kernel
theorem ok_nm (g : Bool) : kqdOk 8 (Dat.str (eS g).nm) = true := by cases g <;> decide +kernel
theorem GrOk.nm {R : Nat} {gr : Gr} {news : Led} (G : GrOk R gr news) : NmOk gr news := fun e => by
  obtain ⟨sl, h1, h2, h3⟩ := G.inst e
  obtain ⟨ps, h4, h5⟩ := G.ex e
  obtain ⟨o, ho⟩ := h4.at
  exact ⟨sl, o, h1, ho, h2⟩
local macro_rules | `(tactic| walk_at "subscriptTail Name Name str int") => `(tactic| (k_here; k_dflt (refine' Mine.str_tail ?zga ?zgb ?zgc ?_ ?zghs; (case zga => omega); (case zgb => omega); (case zgc => assumption); (case zghs => with_unfolding_all rfl); k_whole)))
local macro_rules | `(tactic| walk_at "call builtin:str.index") => `(tactic| (k_here; first | refine Mine.idx_a ?_ | refine Mine.idx_b ?_))
theorem partD2 {w : World} {mean : ExcName → Option Value} {mg mb : Str → Option Value} {A₀ : Around} {base h₀ : Heap} {dp un : Nat} {gd : Option (List Code)} {L a : Addr} {ccd : Value} {m : Str → Option Value} {news : Led} {s : Shared} {Q : Flow → Shared → Prop} {E : Value → Shared → Prop}
    {gr : Gr} {tx : Str} {tt tp : Tok} {p : Int} {rw lv : Addr} {nd : Value} {ts : List T} {q : Int}
    (C : LCx w mean mg mb A₀ base h₀ dp un) (F : Fr h₀ L s.heap m) (N : News h₀ L s.heap news) (D : LD gr tx tt p tp L rw lv nd ts q m news)
    (k : ∀ (h' : Heap) (tk' : Nat), Fr h₀ L h' m → News h₀ L h' news → wpAny (model PW w) (LA dp un gd L a ccd) (execs lawT13.1 (LE L a ccd)) Q E { s with heap := h', toks := tk' }) : wpAny (model PW w) (LA dp un gd L a ccd) (execs lawT12.1 (LE L a ccd)) Q E s := by
  obtain ⟨XB, TB, B, X, HT, bt, hdd, huu⟩ := C
  obtain ⟨BB, hT⟩ := D.tree
  have mN := D.mN
  have mL := D.mL
  have cT := D.cT
  have htx := D.htx
  have G0 := D.G.nm
  cases hT with
  | @mk na cl d od e p2 q2 ts2 tt2 tx2 vs ch ep hin hd hl b1 b2 b3 hz hch =>
  have hchl := hch.length
  show wpAny _ _ (execs (_ :: _) _) _ _ _
  w_top off; w_on
  w_strict (iterate 3 (first | (k_unfold; (try dsimp only)) | (k_end; wrow_close) | walk1 | (dsimp only; walk1) | (leave1; walk_say "STEP leave1"; try dsimp only) | fail "no step"))
  refine LCg.ListComp_U (F₀ := F) (by with_unfolding_all rfl) (by decide) (by rfl) (by decide) (by rfl) ?_
  w_strict (iterate 3 (first | (k_unfold; (try dsimp only)) | (k_end; wrow_close) | walk1 | (dsimp only; walk1) | (leave1; walk_say "STEP leave1"; try dsimp only) | fail "no step"))
  refine LCg.CompSrc.ledger rfl F N hl (by rw [sizeLine_eq]; simp; omega) ?_
  intro gx
  refine comp_all (fun i ys nw => DatAll news ys ((ts.take i).map fun c => Dat.str (eS (upAt tx c.s)).nm) ∧ nw = news) ⟨.nil, rfl⟩ ?_ ?_
  · rintro i v9 ys nw I oI CC oC DD m₂ h9 tk9 E' hi hv9 ⟨hys, rfl⟩ hC hm9 F9 N9 off9 ne9
    have hx9 : vs[i]? = some v9 := by simpa using hv9
    obtain ⟨t9, ht9, hT9⟩ := hch.get hx9
    obtain ⟨⟨g, e9, cs9, he9, hn9⟩, -⟩ := D.run.pieces t9 (List.mem_of_getElem? ht9)
    rw [he9] at hT9
    cases hT9 with
    | @mk na9 cl9 d9 od9 e9 p9 q9 ts9 tt9 tx9 vs9 ch9 ep9 hin9 hd9 hl9 b19 b29 b39 hz9 hch9 =>
    cases hch9 with
    | cons hT8 hr8 =>
    cases hr8
    cases hT8 with
    | @mk na8 cl8 d8 od8 e8 p8 q8 ts8 tt8 tx8 vs8 ch8 ep8 hin8 hd8 hl8 b18 b28 b38 hz8 hch8 =>
    w_strict (iterate 6 (first | (k_unfold; (try dsimp only)) | (k_end; wrow_close) | walk1 | (dsimp only; walk1) | (leave1; walk_say "STEP leave1"; try dsimp only) | fail "no step"))
    refine lst_tail N9 (.tail _ (.tail _ (.tail _ hl9))) (by decide) (by decide) rfl ?_ (by with_unfolding_all rfl)
    refine ename B F9 X N9 HT rfl (G0.sub fun z hz => .tail _ (.tail _ (.tail _ hz))) (.tail _ (.tail _ (.tail _ hin8))) (.tail _ (.tail _ (.tail _ hd8))) (by (try dsimp only); omega) ?_
    intro tk8 h8 tk8' F8 N8
    refine comp_same F8 N8 off9 (.inr ⟨_, hl, rfl, _, rfl⟩) ⟨?_, rfl⟩
    have e1 : (eS (upAt tx t9.s)).nm = e9.nm := by rw [hn9.at_.2, hn9.ex]
    rw [List.take_add_one, ht9, List.map_append]
    show DatAll nw (ys ++ [_]) (_ ++ [Dat.str (eS (upAt tx t9.s)).nm])
    rw [e1]
    exact hys.append (.cons (.str _ _) .nil)
  · rintro ys nw ⟨hys, rfl⟩ D9 h9 tk9 F9 N9 off9
    rw [List.size_toArray, hchl, List.take_length] at hys
    obtain ⟨lvs', lep, hlv, hlvs⟩ := D.level
    rw [D.level'] at hlvs
    have hlvl := hlvs.length
    rw [List.length_cons, List.length_map] at hlvl
    refine LCg.ListComp_U (F₀ := F9) (by with_unfolding_all rfl) (by decide) (by rfl) (by decide) (by rfl) ?_
    w_strict (iterate 12 (first | (k_unfold; (try dsimp only)) | (k_end; wrow_close) | walk1 | (dsimp only; walk1) | (leave1; walk_say "STEP leave1"; try dsimp only) | fail "no step"))
    refine Mine.len_lst N9 (.tail _ hlv) (by omega) ?_
    w_strict (iterate 4 (first | (k_unfold; (try dsimp only)) | (k_end; wrow_close) | walk1 | (dsimp only; walk1) | (leave1; walk_say "STEP leave1"; try dsimp only) | fail "no step"))
    with_reducible rename IntsAre _ (List.take _ _) => hsl
    have hch2 : List.take ((lvs'.length : Int) - 1).toNat (p :: ts.map Mine.T.t) = ts.map Mine.T.s := by
      rw [← D.run.chain, show ((lvs'.length : Int) - 1).toNat = (ts.map Mine.T.s).length by rw [List.length_map]; omega, List.take_left]
    rw [hch2] at hsl
    rename List Value => ws
    with_reducible rename News _ _ _ _ => N7
    with_reducible rename Fr _ _ _ _ => F7
    have hwl := hsl.length
    rw [List.length_map] at hwl
    rename Addr => D1
    clear hch2
    have l2 : ∀ z ∈ nw, z.1 < D1 := by
      rename _ < D1 ∧ AllLt D1 nw => l1
      exact ktn_ltOf l1.2
    refine LCg.CompSrc.ledger (its := ws.toArray) (k := 0) rfl F7 N7 (.head _) (by rw [sizeLine_eq]; simp; omega) ?_
    intro gy
    have hs1 : LCg.SrcAt h₀ D1 ws.toArray ((D1, lstO ws 0) :: (D9, LCg.lst ys) :: nw) := .inr ⟨_, .head _, rfl, _, rfl⟩
    refine comp_all (fun i zs nz => DatAll nw zs ((ts.take i).map fun c => Dat.str (eS (upAt tx c.s)).nm) ∧ nz = (D1, lstO ws 0) :: (D9, LCg.lst ys) :: nw) ⟨.nil, rfl⟩ ?_ ?_
    · rintro i v8 zs nz I oI CC oC DD m₂ h8 tk8 E' hi hv8 ⟨hzs, rfl⟩ hC hm8 F8 N8 off8 ne8
      have hi2 : i < ts.length := by rw [List.size_toArray] at hi; omega
      obtain ⟨t9, ht9⟩ : ∃ t9, ts[i]? = some t9 := ⟨_, List.getElem?_eq_getElem hi2⟩
      obtain ⟨⟨g, e9, cs9, he9, hn9⟩, hp9⟩ := D.run.pieces t9 (List.mem_of_getElem? ht9)
      obtain ⟨u9, hu9⟩ := ints_at hsl (i := i) (n := t9.s) (by rw [List.getElem?_map, ht9]; rfl)
      have hv9 : v8 = .int t9.s u9 := by
        have : ws[i]? = some v8 := by simpa using hv8
        rw [hu9] at this
        exact (Option.some.inj this).symm
      subst hv9
      have hp0 := D.hp0
      have hlt9 := hn9.at_.1
      rcases lett D.ab (k := t9.s) (by omega) hlt9 with ⟨u1, c1⟩ | ⟨u1, c1⟩
      · w_strict (iterate 16 (first | (k_unfold; (try dsimp only)) | (k_end; wrow_close) | walk1 | (dsimp only; walk1) | (leave1; walk_say "STEP leave1"; try dsimp only) | fail "no step"))
        with_reducible rename News _ _ _ _ => NZ
        with_reducible rename Fr _ _ _ _ => FZ
        refine comp_same FZ NZ off8 hs1 ⟨?_, rfl⟩
        rw [List.take_add_one, ht9, List.map_append]
        show DatAll nw (zs ++ [_]) (_ ++ [Dat.str (eS (upAt tx t9.s)).nm])
        rw [u1, nm_u]
        exact hzs.append (.cons (.str ⟨#[117]⟩ _) .nil)
      · w_strict (iterate 16 (first | (k_unfold; (try dsimp only)) | (k_end; wrow_close) | walk1 | (dsimp only; walk1) | (leave1; walk_say "STEP leave1"; try dsimp only) | fail "no step"))
        with_reducible rename News _ _ _ _ => NZ
        with_reducible rename Fr _ _ _ _ => FZ
        refine comp_same FZ NZ off8 hs1 ⟨?_, rfl⟩
        rw [List.take_add_one, ht9, List.map_append]
        show DatAll nw (zs ++ [_]) (_ ++ [Dat.str (eS (upAt tx t9.s)).nm])
        rw [u1, nm_l]
        exact hzs.append (.cons (.str ⟨#[108]⟩ _) .nil)
    · rintro zs nz ⟨hzs, rfl⟩ D2 h8 tk8 F8 N8 off8
      rw [show ws.toArray.size = ts.length by rw [List.size_toArray]; exact hwl, List.take_length] at hzs
      clear F7 N7
      refine ne_dat N8 (ka := ys.length) (kb := zs.length) (.tail _ (.tail _ (.head _))) (.head _) hys (fun z hz => .tail _ (.tail _ (.tail _ hz))) hzs (fun z hz => .tail _ (.tail _ (.tail _ hz))) (fun d hd => ?_) (by (try dsimp only); omega) ?_
      · obtain ⟨c, -, rfl⟩ := List.mem_map.mp hd
        exact ok_nm _
      replace N8 : News h₀ L _ nw := fun z hz => N8 z (.tail _ (.tail _ (.tail _ hz)))
      clear off8
      w_strict (iterate 2 (first | (k_unfold; (try dsimp only)) | (k_end; wrow_close) | walk1 | (dsimp only; walk1) | (leave1; walk_say "STEP leave1"; try dsimp only) | fail "no step"))
      refine wpAny_pure ?_
      exact k _ _ F8 N8
end Mine
end

section
-- part PD3
open PySem PySem.Spec PySem.Calls PySem.W PyProof.Rows
local macro_rules | `(tactic| k_room) => `(tactic| ktr_room)
local macro_rules | `(tactic| k_all) => `(tactic| exact allNe_of' (by assumption) (by omega))
local macro_rules | `(tactic| k_all) => `(tactic| ((with_reducible rename AllLt _ _ => hAllLt); exact allNe_of hAllLt (by omega)))
local macro_rules | `(tactic| k_all) => `(tactic| assumption)
local macro_rules | `(tactic| k_mem) => `(tactic| first | exact List.Mem.head _ | (refine' List.mem_cons_of_mem _ ?_; k_mem))
local macro_rules | `(tactic| walk_at "call builtin:dict.get") => `(tactic| (k_here; k_dflt (first | refine kdg_get2 (knd := PySem.strKind _ _) (by k_asm) (by k_mem) (by assumption) (by assumption) (strKind_is _ _ _ _) (some _) (by rfl) ?_ | refine kdg_get2 (knd := PySem.strKind _ _) (by k_asm) (by k_mem) (by assumption) (by assumption) (strKind_is _ _ _ _) none (by rfl) ?_); (try dsimp only [Option.getD])))
local macro_rules | `(tactic| walk_at "getItem ref int") => `(tactic| (k_here; k_dflt (refine' Mine.item_lst ?N ?m ?a ?b ?c ?_; (case N => k_asm); (case m => k_mem); (case a => decide); (case b => decide); (case c => rfl); k_whole)))
local macro_rules | `(tactic| walk_at "eval Name") => `(tactic| (k_here; k_dflt (refine' nameX_L ?zpk1 ?zpk2 ?_ ?zphk ?zphx ?zphd; (case zpk1 => k_asm); (case zpk2 => first | assumption | exact rfl); (case zphk => rfl); (case zphx => rfl); (case zphd => decide); k_whole)))
local macro_rules | `(tactic| walk_at "eval Name") => `(tactic| (k_here; k_dflt (refine' nameX_C ?zpN ?zpc ?zpm ?zpd ?_ ?zphk ?zphx ?zphd; (case zpN => k_asm); (case zpc => exact rfl); (case zpm => first | assumption | k_mem); (case zpd => first | assumption | exact rfl); (case zphk => rfl); (case zphx => rfl); (case zphd => decide); k_whole)))
local macro_rules | `(tactic| k_all) => `(tactic| (refine List.forall_mem_cons.mpr ⟨?_, ?_⟩; (show @Ne Nat _ _; omega); k_all))
local macro_rules | `(tactic| walk_at "storeName") => `(tactic| (k_here; k_dflt (refine' Mine.storeX ?zpF ?zpN ?zpc ?zpU ?_ ?zpa ?zpb; (case zpa => rfl); (case zpb => rfl); (case zpF => k_asm); (case zpN => k_asm); (case zpc => exact rfl); (case zpU => (first | exact UpdF.head (by k_all) | exact Mine.updf_tail' (by omega) (UpdF.head (by k_all)) | exact Mine.updf_tail' (by omega) (Mine.updf_tail' (by omega) (UpdF.head (by k_all))) | exact Mine.updf_tail' (by omega) (Mine.updf_tail' (by omega) (Mine.updf_tail' (by omega) (UpdF.head (by k_all)))) | exact Mine.updf_tail' (by omega) (Mine.updf_tail' (by omega) (Mine.updf_tail' (by omega) (Mine.updf_tail' (by omega) (UpdF.head (by k_all))))) | exact Mine.updf_tail' (by omega) (Mine.updf_tail' (by omega) (Mine.updf_tail' (by omega) (Mine.updf_tail' (by omega) (Mine.updf_tail' (by omega) (UpdF.head (by k_all)))))) | exact Mine.updf_tail' (by omega) (Mine.updf_tail' (by omega) (Mine.updf_tail' (by omega) (Mine.updf_tail' (by omega) (Mine.updf_tail' (by omega) (Mine.updf_tail' (by omega) (UpdF.head (by k_all))))))) | exact Mine.updf_tail' (by omega) (Mine.updf_tail' (by omega) (Mine.updf_tail' (by omega) (Mine.updf_tail' (by omega) (Mine.updf_tail' (by omega) (Mine.updf_tail' (by omega) (Mine.updf_tail' (by omega) (UpdF.head (by k_all)))))))))); k_whole); intro h' F' N'; (try dsimp only at N'); (try k_sweep)))
local macro_rules | `(tactic| k_mem) => `(tactic| with_reducible assumption)
local macro_rules | `(tactic| walk_at "eval Name") => `(tactic| (k_here; (with_reducible show wpAny _ _ (eval (PySem.Expr.Name _ _) (compEnvC _ _ _ _)) _ _ _); k_dflt (refine' lcf_cell ?zfN ?zfc ?zfm ?zfd ?_ ?zfa ?zfb; (case zfa => rfl); (case zfb => rfl); (case zfN => k_asm); (case zfc => exact rfl); (case zfm => k_mem); (case zfd => exact rfl); k_whole)))
namespace Mine
theorem partD3 {w : World} {mean : ExcName → Option Value} {mg mb : Str → Option Value} {A₀ : Around} {base h₀ : Heap} {dp un : Nat} {gd : Option (List Code)} {L a : Addr} {ccd : Value} {m : Str → Option Value} {news : Led} {s : Shared} {Q : Flow → Shared → Prop} {E : Value → Shared → Prop}
    {gr : Gr} {tx : Str} {tt tp : Tok} {p : Int} {rw lv : Addr} {nd : Value} {ts : List T} {q : Int}
    (C : LCx w mean mg mb A₀ base h₀ dp un) (F : Fr h₀ L s.heap m) (N : News h₀ L s.heap news) (D : LD gr tx tt p tp L rw lv nd ts q m news)
    (k : ∀ (h' : Heap) (tk' : Nat), Fr h₀ L h' m → News h₀ L h' news → wpAny (model PW w) (LA dp un gd L a ccd) (execs lawT14.1 (LE L a ccd)) Q E { s with heap := h', toks := tk' }) : wpAny (model PW w) (LA dp un gd L a ccd) (execs lawT13.1 (LE L a ccd)) Q E s := by
  obtain ⟨XB, TB, B, X, HT, bt, hdd, huu⟩ := C
  obtain ⟨BB, hT⟩ := D.tree
  have mN := D.mN
  have mL := D.mL
  obtain ⟨lvs', lep, hlv, hlvs⟩ := D.level
  rw [D.level', ← D.run.chain] at hlvs
  have hlvl := hlvs.length
  rw [List.length_append, List.length_map] at hlvl
  obtain ⟨u9, hu9⟩ := ints_at hlvs (i := ts.length) (n := q) (by rw [List.getElem?_append_right (by simp)]; simp)
  cases hT with
  | @mk na cl d od e p2 q2 ts2 tt2 tx2 vs ch ep hin hd hl b1 b2 b3 hz hch =>
  have hchl := hch.length
  have hu9' : lvs'[((lvs'.length : Int) - 1).toNat]? = some (.int q u9) := by rw [show ((lvs'.length : Int) - 1).toNat = ts.length by rw [hlvl]; simp]; exact hu9
  clear hlvs
  have hlvb : lvs'.length ≤ 100 := by simp at hlvl; omega
  have hlv0 : 0 < lvs'.length := by simp at hlvl; omega
  show wpAny _ _ (execs (_ :: _) _) _ _ _
  w_top off; w_on
  w_strict (iterate 15 (first | (k_unfold; (try dsimp only)) | (k_end; wrow_close) | walk1 | (dsimp only; walk1) | (leave1; walk_say "STEP leave1"; try dsimp only) | fail "no step"))
  refine Mine.len_lst N hlv (by omega) ?_
  w_strict (iterate 2 (first | (k_unfold; (try dsimp only)) | (k_end; wrow_close) | walk1 | (dsimp only; walk1) | (leave1; walk_say "STEP leave1"; try dsimp only) | fail "no step"))
  refine lst_tail N hlv (by omega) (by omega) hu9' ?_ (by with_unfolding_all rfl)
  w_strict (iterate 3 (first | (k_unfold; (try dsimp only)) | (k_end; wrow_close) | walk1 | (dsimp only; walk1) | (leave1; walk_say "STEP leave1"; try dsimp only) | fail "no step"))
  · rename q ≠ q => hqq
    exact absurd rfl hqq
  · with_reducible rename News _ _ _ _ => NZ
    with_reducible rename Fr _ _ _ _ => FZ
    refine wpAny_pure ?_
    exact k _ _ FZ NZ
end Mine
end

section
-- part Pe
open PySem PySem.Spec PySem.Calls PySem.W PyProof.Rows
set_option linter.unusedVariables false
namespace Mine
mutual
theorem ht_rs {tx : Str} {g : Bool} : ∀ {p : Int} {res : Option T}, RS tx g p res → ∀ e s t cs, res = some (.node e s t cs) → (htT (.node e s t cs) : Int) ≤ t - p + 1 ∧ p + 2 ≤ t
  | p, _, .no h, e, s, t, cs, he => by cases he
  | p, _, .bad h1 h2 h3, e, s, t, cs, he => by cases he
  | p, _, .ok (q := q) h1 h2 h3, e, s, t, cs, he => by
      cases he
      obtain ⟨rfl, -⟩ := litRes_some h1
      obtain ⟨rfl, -⟩ := litRes_some h3
      obtain ⟨z1, z2⟩ := ht_rz h2
      simp only [htT, htTs]
      omega
theorem ht_rz {tx : Str} {g : Bool} : ∀ {p q : Int} {ts : List T}, RZ tx g p ts q → (htTs ts : Int) ≤ q - p + 1 ∧ p ≤ q
  | p, _, _, .stop h => by simp only [htTs]; omega
  | p, _, _, .fail h h1 => by simp only [htTs]; omega
  | p, _, _, .step (t := t) h h1 h2 => by
      obtain ⟨a1, a2⟩ := ht_rs h1 _ _ _ _ rfl
      obtain ⟨z1, z2⟩ := ht_rz h2
      simp only [htTs]
      omega
end
theorem ht_rt {tx : Str} : ∀ {p q : Int} {ts : List T}, RT tx p ts q → (htTs ts : Int) ≤ q - p + 2 ∧ p ≤ q := by
  intro p q ts h
  induction h with
  | stop h => simp only [htTs]; omega
  | fail h h1 => simp only [htTs]; omega
  | step h h1 h2 ih =>
    cases h1 with
    | u a =>
      obtain ⟨a1, a2⟩ := ht_rs a _ _ _ _ rfl
      simp only [htT, htTs] at *
      omega
    | l b a =>
      obtain ⟨a1, a2⟩ := ht_rs a _ _ _ _ rfl
      simp only [htT, htTs] at *
      omega
/-- ascending firsts within bounds are few -/
theorem few {cs : List Tri} : ∀ {p q : Int}, p ≤ q → (∀ x ∈ cs, p ≤ x.1 ∧ x.1 < q) → cs.Pairwise (fun a b => a.1 < b.1) → (cs.length : Int) ≤ q - p := by
  induction cs with
  | nil => intro p q h _ _; simp; omega
  | cons c cs ih =>
    intro p q h hb hp
    obtain ⟨h1, h2⟩ := List.pairwise_cons.mp hp
    have hc := hb c (.head _)
    have := ih (p := c.1 + 1) (q := q) (by omega) (fun x hx => ⟨by have := h1 x hx; omega, (hb x (.tail _ hx)).2⟩) h2
    simp only [List.length_cons]
    omega
theorem nodup_of {cs : List Tri} (h : cs.Pairwise fun a b => a.1 < b.1) : (cs.map (·.1)).Nodup := by
  rw [List.Nodup, List.pairwise_map]
  exact h.imp fun h => by omega
theorem same_of {a b : List Tri} (hp : a.Perm b) (ha : a.Pairwise fun x y => x.1 < y.1) (hb : b.Pairwise fun x y => x.1 < y.1) : a = b := by
  first
    | exact hp.eq_of_pairwise (fun x y _ _ h1 h2 => absurd h1 (by omega)) ha hb
    | exact List.Perm.eq_of_pairwise (fun x y _ _ h1 h2 => absurd h1 (by omega)) ha hb hp
mutual
theorem names_T : ∀ (t : T), ∀ c ∈ rulesT t, ∃ e : Ex, c.2.2 = e.nm
  | .node e s t cs, c, h => by
    unfold rulesT at h
    rcases List.mem_append.mp h with h | h
    · split at h
      · cases h
      · rw [List.mem_singleton.mp h]; exact ⟨e, rfl⟩
    · exact names_Ts cs c h
theorem names_Ts : ∀ (ts : List T), ∀ c ∈ rulesTs ts, ∃ e : Ex, c.2.2 = e.nm
  | [], c, h => by cases h
  | t :: ts, c, h => by
    unfold rulesTs at h
    rcases List.mem_append.mp h with h | h
    · exact names_T t c h
    · exact names_Ts ts c h
end
abbrev triD (c : Tri) : Dat := .tuple [.int c.1, .int c.2.1, .str c.2.2]
theorem trips_dat {led : Led} : ∀ {vs : List Value} {cs : List Tri}, TripsAre led vs cs → DatAll led vs (cs.map triD)
  | [], [], _ => .nil
  | _ :: _, _ :: _, ⟨⟨t, x, y, z, ep, e, h⟩, r⟩ => by
    subst e
    exact .cons (.tuple (vs := [_, _, _]) h (.cons (.int _ _) (.cons (.int _ _) (.cons (.str _ _) .nil)))) (trips_dat r)
theorem ok_ex (e : Ex) : PyData.strOk e.nm = true := by cases e <;> decide +kernel
theorem ok_tri {c : Tri} (h : ∃ e : Ex, c.2.2 = e.nm) : kqdOk 8 (triD c) = true := by
  obtain ⟨e, he⟩ := h
  simp only [triD, kqdOk, List.all_cons, List.all_nil, he, ok_ex]
  rfl
end Mine
end

section
-- part PD4
open PySem PySem.Spec PySem.Calls PySem.W PyProof.Rows
local macro_rules | `(tactic| walk_at "pad of mine") => `(tactic| fail)
local macro_rules | `(tactic| k_room) => `(tactic| ktr_room)
local macro_rules | `(tactic| k_all) => `(tactic| exact allNe_of' (by assumption) (by omega))
local macro_rules | `(tactic| k_all) => `(tactic| ((with_reducible rename AllLt _ _ => hAllLt); exact allNe_of hAllLt (by omega)))
local macro_rules | `(tactic| k_all) => `(tactic| assumption)
local macro_rules | `(tactic| k_mem) => `(tactic| first | exact List.Mem.head _ | (refine' List.mem_cons_of_mem _ ?_; k_mem))
local macro_rules | `(tactic| walk_at "call builtin:dict.get") => `(tactic| (k_here; k_dflt (first | refine kdg_get2 (knd := PySem.strKind _ _) (by k_asm) (by k_mem) (by assumption) (by assumption) (strKind_is _ _ _ _) (some _) (by rfl) ?_ | refine kdg_get2 (knd := PySem.strKind _ _) (by k_asm) (by k_mem) (by assumption) (by assumption) (strKind_is _ _ _ _) none (by rfl) ?_); (try dsimp only [Option.getD])))
local macro_rules | `(tactic| walk_at "getItem ref int") => `(tactic| (k_here; k_dflt (refine' Mine.item_lst ?N ?m ?a ?b ?c ?_; (case N => k_asm); (case m => k_mem); (case a => decide); (case b => decide); (case c => rfl); k_whole)))
local macro_rules | `(tactic| walk_at "eval Name") => `(tactic| (k_here; k_dflt (refine' nameX_L ?zpk1 ?zpk2 ?_ ?zphk ?zphx ?zphd; (case zpk1 => k_asm); (case zpk2 => first | assumption | exact rfl); (case zphk => rfl); (case zphx => rfl); (case zphd => decide); k_whole)))
local macro_rules | `(tactic| walk_at "eval Name") => `(tactic| (k_here; k_dflt (refine' nameX_C ?zpN ?zpc ?zpm ?zpd ?_ ?zphk ?zphx ?zphd; (case zpN => k_asm); (case zpc => exact rfl); (case zpm => first | assumption | k_mem); (case zpd => first | assumption | exact rfl); (case zphk => rfl); (case zphx => rfl); (case zphd => decide); k_whole)))
local macro_rules | `(tactic| k_all) => `(tactic| (refine List.forall_mem_cons.mpr ⟨?_, ?_⟩; (show @Ne Nat _ _; omega); k_all))
local macro_rules | `(tactic| walk_at "storeName") => `(tactic| (k_here; k_dflt (refine' Mine.storeX ?zpF ?zpN ?zpc ?zpU ?_ ?zpa ?zpb; (case zpa => rfl); (case zpb => rfl); (case zpF => k_asm); (case zpN => k_asm); (case zpc => exact rfl); (case zpU => (first | exact UpdF.head (by k_all) | exact Mine.updf_tail' (by omega) (UpdF.head (by k_all)) | exact Mine.updf_tail' (by omega) (Mine.updf_tail' (by omega) (UpdF.head (by k_all))) | exact Mine.updf_tail' (by omega) (Mine.updf_tail' (by omega) (Mine.updf_tail' (by omega) (UpdF.head (by k_all)))) | exact Mine.updf_tail' (by omega) (Mine.updf_tail' (by omega) (Mine.updf_tail' (by omega) (Mine.updf_tail' (by omega) (UpdF.head (by k_all))))) | exact Mine.updf_tail' (by omega) (Mine.updf_tail' (by omega) (Mine.updf_tail' (by omega) (Mine.updf_tail' (by omega) (Mine.updf_tail' (by omega) (UpdF.head (by k_all)))))) | exact Mine.updf_tail' (by omega) (Mine.updf_tail' (by omega) (Mine.updf_tail' (by omega) (Mine.updf_tail' (by omega) (Mine.updf_tail' (by omega) (Mine.updf_tail' (by omega) (UpdF.head (by k_all))))))) | exact Mine.updf_tail' (by omega) (Mine.updf_tail' (by omega) (Mine.updf_tail' (by omega) (Mine.updf_tail' (by omega) (Mine.updf_tail' (by omega) (Mine.updf_tail' (by omega) (Mine.updf_tail' (by omega) (UpdF.head (by k_all)))))))))); k_whole); intro h' F' N'; (try dsimp only at N'); (try k_sweep)))
local macro_rules | `(tactic| k_mem) => `(tactic| with_reducible assumption)
local macro_rules | `(tactic| walk_at "eval Name") => `(tactic| (k_here; (with_reducible show wpAny _ _ (eval (PySem.Expr.Name _ _) (compEnvC _ _ _ _)) _ _ _); k_dflt (refine' lcf_cell ?zfN ?zfc ?zfm ?zfd ?_ ?zfa ?zfb; (case zfa => rfl); (case zfb => rfl); (case zfN => k_asm); (case zfc => exact rfl); (case zfm => k_mem); (case zfd => exact rfl); k_whole)))
namespace Mine
theorem partD4 {w : World} {mean : ExcName → Option Value} {mg mb : Str → Option Value} {A₀ : Around} {base h₀ : Heap} {dp un : Nat} {gd : Option (List Code)} {L a : Addr} {ccd : Value} {m : Str → Option Value} {news : Led} {s : Shared} {Q : Flow → Shared → Prop} {E : Value → Shared → Prop}
    {gr : Gr} {tx : Str} {tt tp : Tok} {p : Int} {rw lv : Addr} {nd : Value} {ts : List T} {q : Int}
    (C : LCx w mean mg mb A₀ base h₀ dp un) (F : Fr h₀ L s.heap m) (N : News h₀ L s.heap news) (D : LD gr tx tt p tp L rw lv nd ts q m news)
    (k : ∀ (news' : Led) (h' : Heap) (tk' : Nat), Fr h₀ L h' m → News h₀ L h' news' → (∀ z ∈ news, z ∈ news') → wpAny (model PW w) (LA dp un gd L a ccd) (execs lawT15.1 (LE L a ccd)) Q E { s with heap := h', toks := tk' }) : wpAny (model PW w) (LA dp un gd L a ccd) (execs lawT14.1 (LE L a ccd)) Q E s := by
  obtain ⟨XB, TB, B, X, HT, bt, hdd, huu⟩ := C
  obtain ⟨BB, hT⟩ := D.tree
  have mN := D.mN
  have cT := D.cT
  have cS := D.cS
  have hT2 := hT
  have hru := D.run.run []
  rw [List.nil_append] at hru
  have hfew := few D.run.le D.run.starts.1 D.run.starts.2
  have hlen := D.run.len
  have htx := D.htx
  have hp0 := D.hp0
  have hrl : (rulesT (Mine.T.node .top p q ts)).length ≤ 1000 := by
    have e : rulesT (Mine.T.node .top p q ts) = rulesTs ts := by simp [rulesT, Ex.nm]
    rw [e]; omega
  have hnd : ((postTs ts).map (·.1)).Nodup := ((perm_Ts ts).map (·.1)).nodup_iff.mp (nodup_of D.run.starts.2)
  cases hT with
  | @mk na cl d od e p2 q2 ts2 tt2 tx2 vs ch ep hin hd hl b1 b2 b3 hz hch =>
  show wpAny _ _ (execs (_ :: _) _) _ _ _
  w_top off; w_on
  w_strict (iterate 10 (first | (k_unfold; (try dsimp only)) | (k_end; wrow_close) | walk1 | (dsimp only; walk1) | (leave1; walk_say "STEP leave1"; try dsimp only) | fail "no step"))
  refine Spec1.use B F X N HT rfl (rules_ok (gr := gr) (text := tx) (BB := BB) 20 (.node .top p q ts) (.ref na) D.ht hrl) ⟨hT2, D.G.nm⟩ (by (try dsimp only); omega) (by (try dsimp only); omega) ?_
  rintro r8 led8 h8 tk8 F8 N8 ⟨x8, vs8, ep8, rfl, hx8, ht8, hs8⟩
  have hin8 := hs8 _ hin
  have hd8 := hs8 _ hd
  have cT8 : CellAt led8 _ _ := hs8 _ cT
  have cS8 : CellAt led8 _ _ := hs8 _ cS
  clear hin hd cT cS F N
  w_strict (iterate 13 (first | (k_unfold; (try dsimp only)) | (k_end; wrow_close) | walk1 | (dsimp only; walk1) | (leave1; walk_say "STEP leave1"; try dsimp only) | fail "no step"))
  refine Spec1.use B F8 X N8 HT rfl (prs_ok D.ab htx hp0 D.run.le hlen hru hnd) trivial (by (try dsimp only); omega) (by (try dsimp only); omega) ?_
  rintro r7 led7 h7 tk7 F7 N7 ⟨x7, vs7, cs7, ep7, rfl, hx7, ht7, hp7, hw7, hs7⟩
  obtain rfl : cs7 = rulesTs ts := same_of (hp7.trans (perm_Ts ts).symm) hw7 D.run.starts.2
  have e8 : rulesT (Mine.T.node .top p q ts) = rulesTs ts := by simp [rulesT, Ex.nm]
  rw [e8] at ht8
  clear F8 N8 hnd hru
  refine ne_dat N7 (hs7 _ hx8) hx7 (trips_dat ht8) hs7 (trips_dat ht7) (fun z hz => hz) (fun d hd => ?_) (by (try dsimp only); omega) ?_
  · obtain ⟨c, hc, rfl⟩ := List.mem_map.mp hd
    exact ok_tri (names_Ts ts c hc)
  w_strict (iterate 2 (first | (k_unfold; (try dsimp only)) | (k_end; wrow_close) | walk1 | (dsimp only; walk1) | (leave1; walk_say "STEP leave1"; try dsimp only) | fail "no step"))
  refine wpAny_pure ?_
  exact k led7 _ _ F7 N7 fun z hz => hs7 _ (hs8 _ hz)
end Mine
end

section
-- part PD5
open PySem PySem.Spec PySem.Calls PySem.W PyProof.Rows
local macro_rules | `(tactic| k_room) => `(tactic| ktr_room)
local macro_rules | `(tactic| k_all) => `(tactic| exact allNe_of' (by assumption) (by omega))
local macro_rules | `(tactic| k_all) => `(tactic| ((with_reducible rename AllLt _ _ => hAllLt); exact allNe_of hAllLt (by omega)))
local macro_rules | `(tactic| k_all) => `(tactic| assumption)
local macro_rules | `(tactic| k_mem) => `(tactic| first | exact List.Mem.head _ | (refine' List.mem_cons_of_mem _ ?_; k_mem))
local macro_rules | `(tactic| walk_at "call builtin:dict.get") => `(tactic| (k_here; k_dflt (first | refine kdg_get2 (knd := PySem.strKind _ _) (by k_asm) (by k_mem) (by assumption) (by assumption) (strKind_is _ _ _ _) (some _) (by rfl) ?_ | refine kdg_get2 (knd := PySem.strKind _ _) (by k_asm) (by k_mem) (by assumption) (by assumption) (strKind_is _ _ _ _) none (by rfl) ?_); (try dsimp only [Option.getD])))
local macro_rules | `(tactic| walk_at "getItem ref int") => `(tactic| (k_here; k_dflt (refine' Mine.item_lst ?N ?m ?a ?b ?c ?_; (case N => k_asm); (case m => k_mem); (case a => decide); (case b => decide); (case c => rfl); k_whole)))
local macro_rules | `(tactic| walk_at "eval Name") => `(tactic| (k_here; k_dflt (refine' nameX_L ?zpk1 ?zpk2 ?_ ?zphk ?zphx ?zphd; (case zpk1 => k_asm); (case zpk2 => first | assumption | exact rfl); (case zphk => rfl); (case zphx => rfl); (case zphd => decide); k_whole)))
local macro_rules | `(tactic| walk_at "eval Name") => `(tactic| (k_here; k_dflt (refine' nameX_C ?zpN ?zpc ?zpm ?zpd ?_ ?zphk ?zphx ?zphd; (case zpN => k_asm); (case zpc => exact rfl); (case zpm => first | assumption | k_mem); (case zpd => first | assumption | exact rfl); (case zphk => rfl); (case zphx => rfl); (case zphd => decide); k_whole)))
local macro_rules | `(tactic| k_all) => `(tactic| (refine List.forall_mem_cons.mpr ⟨?_, ?_⟩; (show @Ne Nat _ _; omega); k_all))
local macro_rules | `(tactic| walk_at "storeName") => `(tactic| (k_here; k_dflt (refine' Mine.storeX ?zpF ?zpN ?zpc ?zpU ?_ ?zpa ?zpb; (case zpa => rfl); (case zpb => rfl); (case zpF => k_asm); (case zpN => k_asm); (case zpc => exact rfl); (case zpU => (first | exact UpdF.head (by k_all) | exact Mine.updf_tail' (by omega) (UpdF.head (by k_all)) | exact Mine.updf_tail' (by omega) (Mine.updf_tail' (by omega) (UpdF.head (by k_all))) | exact Mine.updf_tail' (by omega) (Mine.updf_tail' (by omega) (Mine.updf_tail' (by omega) (UpdF.head (by k_all)))) | exact Mine.updf_tail' (by omega) (Mine.updf_tail' (by omega) (Mine.updf_tail' (by omega) (Mine.updf_tail' (by omega) (UpdF.head (by k_all))))) | exact Mine.updf_tail' (by omega) (Mine.updf_tail' (by omega) (Mine.updf_tail' (by omega) (Mine.updf_tail' (by omega) (Mine.updf_tail' (by omega) (UpdF.head (by k_all)))))) | exact Mine.updf_tail' (by omega) (Mine.updf_tail' (by omega) (Mine.updf_tail' (by omega) (Mine.updf_tail' (by omega) (Mine.updf_tail' (by omega) (Mine.updf_tail' (by omega) (UpdF.head (by k_all))))))) | exact Mine.updf_tail' (by omega) (Mine.updf_tail' (by omega) (Mine.updf_tail' (by omega) (Mine.updf_tail' (by omega) (Mine.updf_tail' (by omega) (Mine.updf_tail' (by omega) (Mine.updf_tail' (by omega) (UpdF.head (by k_all)))))))))); k_whole); intro h' F' N'; (try dsimp only at N'); (try k_sweep)))
local macro_rules | `(tactic| k_mem) => `(tactic| with_reducible assumption)
local macro_rules | `(tactic| walk_at "eval Name") => `(tactic| (k_here; (with_reducible show wpAny _ _ (eval (PySem.Expr.Name _ _) (compEnvC _ _ _ _)) _ _ _); k_dflt (refine' lcf_cell ?zfN ?zfc ?zfm ?zfd ?_ ?zfa ?zfb; (case zfa => rfl); (case zfb => rfl); (case zfN => k_asm); (case zfc => exact rfl); (case zfm => k_mem); (case zfd => exact rfl); k_whole)))
namespace Mine
theorem lvs_take (tx : Str) (p : Int) {k n : Nat} (h : k ≤ n) : (lvs tx p n).take k = lvs tx p k := by
  unfold lvs; rw [← List.map_take, List.take_range, Nat.min_eq_left h]
theorem partD5 {w : World} {mean : ExcName → Option Value} {mg mb : Str → Option Value} {A₀ : Around} {base h₀ : Heap} {dp un : Nat} {gd : Option (List Code)} {L a : Addr} {ccd : Value} {m : Str → Option Value} {news : Led} {s : Shared} {Q : Flow → Shared → Prop} {E : Value → Shared → Prop}
    {gr : Gr} {tx : Str} {tt tp : Tok} {p : Int} {rw lv : Addr} {nd : Value} {ts : List T} {q : Int}
    (C : LCx w mean mg mb A₀ base h₀ dp un) (F : Fr h₀ L s.heap m) (N : News h₀ L s.heap news) (D : LD gr tx tt p tp L rw lv nd ts q m news)
    (k : ∀ (news' : Led) (h' : Heap) (tk' : Nat), Fr h₀ L h' m → News h₀ L h' news' → (∀ z ∈ news, z ∈ news') → wpAny (model PW w) (LA dp un gd L a ccd) (execs lawT16.1 (LE L a ccd)) Q E { s with heap := h', toks := tk' }) : wpAny (model PW w) (LA dp un gd L a ccd) (execs lawT15.1 (LE L a ccd)) Q E s := by
  obtain ⟨XB, TB, B, X, HT, bt, hdd, huu⟩ := C
  obtain ⟨BB, hT⟩ := D.tree
  have mN := D.mN
  have cS := D.cS
  have cR := D.cR
  have hT2 := hT
  have hle := D.run.le
  have hlen := D.run.len
  have htx := D.htx
  have hp0 := D.hp0
  obtain ⟨rvs, rep, hrw, hrv⟩ := D.rows
  have hrl := hrv.length
  rw [List.length_map, List.length_range] at hrl
  cases hT with
  | @mk na cl d od e p2 q2 ts2 tt2 tx2 vs ch ep hin hd hl b1 b2 b3 hz hch =>
  show wpAny _ _ (execs (_ :: _) _) _ _ _
  w_top off; w_on
  w_strict (iterate 10 (first | (k_unfold; (try dsimp only)) | (k_end; wrow_close) | walk1 | (dsimp only; walk1) | (leave1; walk_say "STEP leave1"; try dsimp only) | fail "no step"))
  refine Spec1.use B F X N HT rfl (deep_ok (gr := gr) (text := tx) (BB := BB) 20 (.node .top p q ts) (.ref na) D.ht) ⟨hT2, D.G.nm⟩ (by (try dsimp only); omega) (by (try dsimp only); omega) ?_
  rintro r8 led8 h8 tk8 F8 N8 ⟨tk9, rfl, hs8⟩
  have hin8 := hs8 _ hin
  have hd8 := hs8 _ hd
  have cR8 : CellAt led8 _ _ := hs8 _ cR
  have cS8 : CellAt led8 _ _ := hs8 _ cS
  have hrw8 := hs8 _ hrw
  clear hin hd cR cS F N
  w_strict (iterate 4 (first | (k_unfold; (try dsimp only)) | (k_end; wrow_close) | walk1 | (dsimp only; walk1) | (leave1; walk_say "STEP leave1"; try dsimp only) | fail "no step"))
  refine LCg.ListComp_U (F₀ := F8) (by with_unfolding_all rfl) (by decide) (by rfl) (by decide) (by rfl) ?_
  w_strict (iterate 16 (first | (k_unfold; (try dsimp only)) | (k_end; wrow_close) | walk1 | (dsimp only; walk1) | (leave1; walk_say "STEP leave1"; try dsimp only) | fail "no step"))
  with_reducible rename IntsAre _ (List.take _ _) => hsl
  rename List Value => ws
  with_reducible rename News _ _ _ _ => N7
  with_reducible rename Fr _ _ _ _ => F7
  have hwl := hsl.length
  rename Addr => D1
  have htk : List.take (q - p + 1).toNat (lvs tx p (tx.length - p.toNat + 1)) = lvs tx p (q - p + 1).toNat := lvs_take tx p (by omega)
  rw [htk] at hsl hwl
  obtain ⟨kN, hkN⟩ : ∃ kN, kN = (q - p + 1).toNat := ⟨_, rfl⟩
  rw [← hkN] at hsl hwl
  rename List.length _ = min _ _ => hC9
  rename List.length _ ≤ List.length _ => hL9
  clear hC9 hL9 htk
  rw [List.length_map, List.length_range] at hwl
  refine LCg.CompSrc.ledger (its := ws.toArray) (k := 0) rfl F7 N7 (.head _) (by rw [sizeLine_eq]; simp; omega) ?_
  intro gy
  have hs1 : LCg.SrcAt h₀ D1 ws.toArray ((D1, lstO ws 0) :: led8) := .inr ⟨_, .head _, rfl, _, rfl⟩
  refine comp_all (fun i zs nz => IntsAre zs (((lvs tx p kN).take i).map fun x => (x.natAbs : Int)) ∧ nz = (D1, lstO ws 0) :: led8) ⟨.nil, rfl⟩ ?_ ?_
  · rintro i v8 zs nz I oI CC oC DD m₂ h8 tk8 E' hi hv8 ⟨hzs, rfl⟩ hC hm8 F8 N8 off8 ne8
    have hi2 : i < kN := by rw [List.size_toArray] at hi; omega
    have hg : (lvs tx p kN)[i]? = some (hh tx (p + i) - hh tx p) := lvs_at tx p hi2
    obtain ⟨u9, hu9⟩ := ints_at hsl hg
    have hv9 : v8 = .int (hh tx (p + i) - hh tx p) u9 := by
      have : ws[i]? = some v8 := by simpa using hv8
      rw [hu9] at this
      exact (Option.some.inj this).symm
    subst hv9
    w_strict (iterate 7 (first | (k_unfold; (try dsimp only)) | (k_end; wrow_close) | walk1 | (dsimp only; walk1) | (leave1; walk_say "STEP leave1"; try dsimp only) | fail "no step"))
    with_reducible rename News _ _ _ _ => NZ
    with_reducible rename Fr _ _ _ _ => FZ
    refine comp_same FZ NZ off8 hs1 ⟨?_, rfl⟩
    have e9 : (if hh tx (p + (i : Int)) - hh tx p < 0 then -(hh tx (p + (i : Int)) - hh tx p) else hh tx (p + (i : Int)) - hh tx p) = ((hh tx (p + (i : Int)) - hh tx p).natAbs : Int) := by split <;> omega
    rw [e9, List.take_add_one, hg, List.map_append]
    exact hzs.append (.cons _ _ .nil)
  · rintro zs nz ⟨hzs, rfl⟩ D2 h8 tk8 F8 N8 off8
    rw [List.size_toArray, hwl, List.take_of_length_le (by simp)] at hzs
    w_strict ((first | (k_unfold; (try dsimp only)) | (k_end; wrow_close) | walk1 | (dsimp only; walk1) | (leave1; walk_say "STEP leave1"; try dsimp only) | fail "no step"))
    refine kso_max F8 N8 (isl (n := zs.length) N8 (.head _)) hzs (by simp; omega) rfl ?_
    intro h6 M tM tk6 F6 N6 hM1 hM2
    have hM : M = deepT (Mine.T.node .top p q ts) := by
      have e1 : deepT (Mine.T.node .top p q ts) = deepTs ts := by
        show deepTs ts + (if Ex.top.nm = Str.ofString "" then 0 else 1) = deepTs ts
        rw [if_pos (show Ex.top.nm = Str.ofString "" from rfl)]; omega
      rw [e1]
      obtain ⟨d1, k0, d2, d3, d4⟩ := D.run.deep
      apply Int.le_antisymm
      · obtain ⟨x, hx, rfl⟩ := List.mem_map.mp hM1
        obtain ⟨j, hj, rfl⟩ := List.mem_map.mp hx
        rw [List.mem_range] at hj
        exact d1 _ (by omega) (by omega)
      · rw [← d4]
        refine hM2 _ (List.mem_map.mpr ⟨hh tx k0 - hh tx p, List.mem_map.mpr ⟨(k0 - p).toNat, List.mem_range.mpr (by omega), by rw [show p + (((k0 - p).toNat : Nat) : Int) = k0 by omega]⟩, rfl⟩)
    clear hM1 hM2
    subst hM
    replace N6 : News h₀ L h6 led8 := fun z hz => N6 z (.tail _ (.tail _ hz))
    clear N8 F8 off8
    w_strict (iterate 3 (first | (k_unfold; (try dsimp only)) | (k_end; wrow_close) | walk1 | (dsimp only; walk1) | (leave1; walk_say "STEP leave1"; try dsimp only) | fail "no step"))
    · rename deepT _ ≠ deepT _ => hqq
      exact absurd rfl hqq
    · with_reducible rename News _ _ _ _ => NZ
      with_reducible rename Fr _ _ _ _ => FZ
      refine wpAny_pure ?_
      exact k led8 _ _ FZ NZ hs8
end Mine
end

section
-- part Ct
open PySem PySem.Spec PySem.Calls PySem.W PyProof.Rows
namespace Mine
theorem cnt_snoc (c n : Nat) : ∀ l : List Nat, PyProof.Rows.cnt c (l ++ [n]) = PyProof.Rows.cnt c l + (if n = c then 1 else 0)
  | [] => by rw [List.nil_append, cnt_cons, cnt_nil]; omega
  | a :: l => by rw [List.cons_append, cnt_cons, cnt_cons, cnt_snoc c n l]; omega
theorem hN_cnt {tx : Str} (ab : AB tx) : ∀ n, n ≤ tx.length → hN tx n = PyProof.Rows.cnt 97 (tx.cps.toList.take n) - PyProof.Rows.cnt 98 (tx.cps.toList.take n)
  | 0, _ => by simp [hN, cnt_nil]
  | n + 1, h => by
    show hN tx n + _ = _
    rw [hN_cnt ab n (by omega), List.take_add_one]
    rcases ab n (by omega) with e | e
    · rw [e, Array.getElem?_toList, e]
      show _ + (1 : Int) = PyProof.Rows.cnt 97 (_ ++ [97]) - PyProof.Rows.cnt 98 (_ ++ [97])
      rw [cnt_snoc, cnt_snoc, if_pos rfl, if_neg (by decide)]
      omega
    · rw [e, Array.getElem?_toList, e]
      show _ + (-1 : Int) = PyProof.Rows.cnt 97 (_ ++ [98]) - PyProof.Rows.cnt 98 (_ ++ [98])
      rw [cnt_snoc, cnt_snoc, if_pos rfl, if_neg (by decide)]
      omega
theorem hh_count {tx : Str} (ab : AB tx) : hh tx (tx.length : Int) = Txt.count tx ⟨#[97]⟩ - Txt.count tx ⟨#[98]⟩ := by
  have h := hN_cnt ab tx.length (Nat.le_refl _)
  rw [List.take_of_length_le (by rw [Array.length_toList]; exact Nat.le_refl _)] at h
  rw [count_cnt, count_cnt, ← h]
  show hN tx ((tx.length : Int)).toNat = _
  rw [Int.toNat_natCast]
theorem str_a : Str.ofString "a" = ⟨#[97]⟩ := by decide +kernel
theorem str_b : Str.ofString "b" = ⟨#[98]⟩ := by decide +kernel
theorem whole_law {tx : Str} (ab : AB tx) {ts : List T} {q : Int} (h : RT tx 0 ts q) (hq : q ≤ (tx.length : Int)) :
    (if q < (tx.length : Int) then -1 else q) = if Txt.count tx (Str.ofString "a") = Txt.count tx (Str.ofString "b") then (tx.length : Int) else -1 := by
  have R := rt_law ab h (Int.le_refl 0) (by omega)
  have h0 : hh tx 0 = 0 := rfl
  have hb := R.back
  rw [h0] at hb
  have hc := hh_count ab
  rw [str_a, str_b]
  by_cases hl : q < (tx.length : Int)
  · have := R.last _ hl (Int.le_refl _)
    rw [h0] at this
    rw [if_pos hl, if_neg (by omega)]
  · have e : q = (tx.length : Int) := by omega
    rw [if_neg hl, if_pos (by rw [← e, hb] at hc; omega), e]
theorem idx_hi {n : Nat} {i j : Int} (h : (n : Int) ≤ j) : Builtin.Str.strSliceIndices (some i) (some j) 1 n = Builtin.Str.strSliceIndices (some i) (some (n : Int)) 1 n := by
  have h0 : ¬ j < 0 := by omega
  have h1 : ¬ ((n : Int) < 0) := by omega
  have h2 : (1 : Int) > 0 := by decide
  simp only [Builtin.Str.strSliceIndices, h0, h1, h2, if_false, if_true, Int.min_eq_right h, Int.min_self]
/-- the letter at a place, as a piece of one letter -/
theorem piece {tx : Str} (ab : AB tx) {p : Int} (h0 : 0 ≤ p) (hl : p ≤ (tx.length : Int)) (g : Bool) : Txt.slice tx (some p) (some (p + 1)) = (⟨#[if g then 97 else 98]⟩ : Str) ↔ At tx g p := by
  rw [← at_iff ab h0 g]
  by_cases h : p < (tx.length : Int)
  · rw [beq_iff_eq.mp (slice_closesL h0 (show p ≤ p + 1 by omega) (show p + 1 ≤ (tx.length : Int) by omega)), show (p + 1 - p).toNat = 1 by omega]
    have hz : p.toNat < tx.cps.toList.length := by rw [Array.length_toList]; show p.toNat < tx.length; omega
    rw [List.drop_eq_getElem_cons hz, List.take_succ_cons, List.take_zero, ← Array.getElem?_toList, List.getElem?_eq_getElem hz]
    constructor
    · intro e
      have := congrArg Str.cps e
      simpa using this
    · intro e
      have := Option.some.inj e
      rw [this]
  · have e : p = (tx.length : Int) := by omega
    have e2 : Txt.slice tx (some p) (some (p + 1)) = Txt.slice tx (some p) (some (tx.length : Int)) := by
      unfold Txt.slice
      rw [idx_hi (show (tx.length : Int) ≤ p + 1 by omega)]
    rw [e2, beq_iff_eq.mp (slice_closesL h0 hl (Int.le_refl _)), show ((tx.length : Int) - p).toNat = 0 by omega, List.take_zero]
    constructor
    · intro e
      have := congrArg (fun x : Str => x.cps.size) e
      simp at this
    · intro e2
      obtain ⟨h2, -⟩ := Array.getElem?_eq_some_iff.mp e2
      have : p.toNat < tx.length := h2
      omega
end Mine
end

section
-- part Cs
open PySem PySem.Spec PySem.Calls PySem.W PyProof.Rows
local macro_rules | `(tactic| walk_at "pad of mine") => `(tactic| fail)
namespace Mine
open LCg
section
variable {prog : Program} {w : World} {A : Around} {E : Value → Shared → Prop} {s : Shared} {h₀ : Heap} {L : Addr} {m : Str → Option Value} {env : Env} {news : List (Addr × Obj)}
theorem str_st {I : Addr} {tx : Str} {t : Tok} : ∀ i (h h' : Heap) (o : Obj) (nw : List (Addr × Obj)), h.IsStrIter I "str_ascii_iterator" tx t i → h.get? I = some o → h'.get? I = some o → (∀ b o, h₀.get? b = some o → h'.get? b = some o) → News h₀ L h' nw → True → h'.IsStrIter I "str_ascii_iterator" tx t i :=
  fun i h h' o nw st e e' _ _ _ => by
    obtain ⟨o', q, r⟩ := st
    rw [e] at q; cases q
    exact ⟨o, e', r⟩
/-- a comprehension over a text, its list stored -/
theorem assign_comp_str {elt iter : PySem.Expr} {x y : Str} {px py : Pos} {scope : Scope} {cl : List (Str × Addr)} {pos spos : Pos} {Q : Flow → Shared → Prop} {tx : Str} (hLe : env.locals = L) (hh : A.handled = none) (F : Fr h₀ L s.heap m) (N : News h₀ L s.heap news)
    (hsw : swapsWith (.ListComp elt [⟨.Name x px, iter, [], 0⟩] scope pos) (some (.Name y py)) spos.line env = pure true)
    (hclos : closureFor scope env = pure cl) (hcell : ∀ z ∈ scope.names, z.2 ≠ .cell) (hkind : scope.kind = .function)
    (hnames : ∀ z ∈ scope.names, z.2 = .local → scope.names.lookup z.1 = some .local) (hx : scope.names.lookup x = some .local)
    (hy : env.kindOf y = some .local) (hp : (env.scope.kind == .class || (env.scope.kind == .module && env.locals != env.globals)) = false)
    (hi : ∀ Q' : Value → Shared → Prop, (∀ t k, Q' (.str tx t) { s with toks := k }) → wpAny (model prog w) A (eval iter env) Q' E s) (ha : tx.cps.all (· < 128) = true) (hsz : tx.cps.size ≤ sizeLine)
    (R : ∀ g k, CompRest prog w A h₀ L m env elt x scope cl { s with heap := g, toks := k } (fun _ => True) (SignAt tx) (FinA h₀ L m { s with heap := g, toks := k } y Q) tx.cps.size 0 [] news)
    (hs : ∀ x, foldedSetIterable iter env x = pure x := by intro _; rfl) :
    wpAny (model prog w) A (exec (.Assign [.Name y py] (.ListComp elt [⟨.Name x px, iter, [], 0⟩] scope pos) spos) env) Q E s := by
  subst hLe
  rw [exec_Assign_Name_used _ _ _ _ hsw]
  refine wpAny_bind (wpAny_standAt (wpAny_bind ?_))
  show wpAny _ A (do let _ ← comprehension (.ListComp elt [⟨.Name x px, iter, [], 0⟩] scope pos) scope env _ (newList []) false (eval iter env) (some (assign (.Name y py) env))) _ _ s
  refine wpAny_bind (wpAny_mono (wpAny_comprehension_free (use := some (assign (.Name y py) env)) (Q := fun _ s' => Q .next s') rfl hs hclos hkind hnames (hi _ fun t k => ?_)) (fun _ s' hq => wpAny_pure (wpAny_pure hq)) fun _ _ e => e)
  refine wpAny_pyIter_ascii ha ?_
  refine block_U (Walks.strAscii hh _ tx t) hsz (fun i h st => let ⟨o, e, _⟩ := st; ⟨o, e⟩) str_st hcell hkind hx ⟨_, Heap.get?_push_size _ rfl, rfl, rfl⟩ (fun b hb => ?_)
    (F.keeps fun _ _ e => Heap.get?_push_of_some _ e) (N.grown fun _ _ e => Heap.get?_push_of_some _ e) (Nat.ne_of_lt F.ns.lt) (next_is_new F) (fun p hp => Nat.ne_of_lt (Heap.lt_size (N p hp).1)) trivial (R _ _) ?_
  · rw [List.mem_singleton.mp hb]
    show s.heap.objs.size < (s.heap.push _).objs.size
    rw [Heap.size_push]; exact Nat.lt_succ_self _
  · intro D C h tk m' ys news' F' N' o1 hn hC₀ hD₀ hCL hDL hCD offC fin
    show wpAny _ A (assign (.Name y py) env (.ref D)) _ _ _
    refine wpAny_assign_Name (wpAny_storeName_local hy F'.ns (fun h₂ hn₂ hs₂ => ?_) hp)
    have hL₀ : h₀.get? env.locals = none := Heap.get?_none_of_le F'.above
    have F₂ : Fr h₀ env.locals h₂ (fun z => if z = y then some (.ref D) else m z) := ⟨hn₂, fun b o e => hs₂.extBut b o (fun q => by rw [q, hL₀] at e; cases e) (F'.keep b o e), F'.above⟩
    refine ⟨m', hn.sameBut hs₂ hCL, fun h'' hs'' => fin D h'' _ (F₂.change hs'' hCL hC₀) (fun p hp => ?_) o1⟩
    have z : h₂.get? p.1 = some p.2 := hs₂.extBut _ _ (N' p hp).2.1 (N' p hp).1
    refine ⟨hs''.extBut _ _ ?_ z, (N' p hp).2⟩
    rcases List.mem_cons.mp hp with rfl | hp
    · exact Ne.symm hCD
    · exact offC p hp
end
end Mine
end

section
-- part PE1
open PySem PySem.Spec PySem.Calls PySem.W PyProof.Rows
local macro_rules | `(tactic| walk_at "pad of mine") => `(tactic| fail)
local macro_rules | `(tactic| k_room) => `(tactic| ktr_room)
local macro_rules | `(tactic| k_all) => `(tactic| exact allNe_of' (by assumption) (by omega))
local macro_rules | `(tactic| k_all) => `(tactic| ((with_reducible rename AllLt _ _ => hAllLt); exact allNe_of hAllLt (by omega)))
local macro_rules | `(tactic| k_all) => `(tactic| assumption)
local macro_rules | `(tactic| k_mem) => `(tactic| first | exact List.Mem.head _ | (refine' List.mem_cons_of_mem _ ?_; k_mem))
local macro_rules | `(tactic| walk_at "call builtin:dict.get") => `(tactic| (k_here; k_dflt (first | refine kdg_get2 (knd := PySem.strKind _ _) (by k_asm) (by k_mem) (by assumption) (by assumption) (strKind_is _ _ _ _) (some _) (by rfl) ?_ | refine kdg_get2 (knd := PySem.strKind _ _) (by k_asm) (by k_mem) (by assumption) (by assumption) (strKind_is _ _ _ _) none (by rfl) ?_); (try dsimp only [Option.getD])))
local macro_rules | `(tactic| walk_at "getItem ref int") => `(tactic| (k_here; k_dflt (refine' Mine.item_lst ?N ?m ?a ?b ?c ?_; (case N => k_asm); (case m => k_mem); (case a => decide); (case b => decide); (case c => rfl); k_whole)))
local macro_rules | `(tactic| walk_at "eval Name") => `(tactic| (k_here; k_dflt (refine' nameX_L ?zpk1 ?zpk2 ?_ ?zphk ?zphx ?zphd; (case zpk1 => k_asm); (case zpk2 => first | assumption | exact rfl); (case zphk => rfl); (case zphx => rfl); (case zphd => decide); k_whole)))
local macro_rules | `(tactic| walk_at "eval Name") => `(tactic| (k_here; k_dflt (refine' nameX_C ?zpN ?zpc ?zpm ?zpd ?_ ?zphk ?zphx ?zphd; (case zpN => k_asm); (case zpc => exact rfl); (case zpm => first | assumption | k_mem); (case zpd => first | assumption | exact rfl); (case zphk => rfl); (case zphx => rfl); (case zphd => decide); k_whole)))
local macro_rules | `(tactic| k_all) => `(tactic| (refine List.forall_mem_cons.mpr ⟨?_, ?_⟩; (show @Ne Nat _ _; omega); k_all))
local macro_rules | `(tactic| walk_at "storeName") => `(tactic| (k_here; k_dflt (refine' Mine.storeX ?zpF ?zpN ?zpc ?zpU ?_ ?zpa ?zpb; (case zpa => rfl); (case zpb => rfl); (case zpF => k_asm); (case zpN => k_asm); (case zpc => exact rfl); (case zpU => (first | exact UpdF.head (by k_all) | exact Mine.updf_tail' (by omega) (UpdF.head (by k_all)) | exact Mine.updf_tail' (by omega) (Mine.updf_tail' (by omega) (UpdF.head (by k_all))) | exact Mine.updf_tail' (by omega) (Mine.updf_tail' (by omega) (Mine.updf_tail' (by omega) (UpdF.head (by k_all)))) | exact Mine.updf_tail' (by omega) (Mine.updf_tail' (by omega) (Mine.updf_tail' (by omega) (Mine.updf_tail' (by omega) (UpdF.head (by k_all))))) | exact Mine.updf_tail' (by omega) (Mine.updf_tail' (by omega) (Mine.updf_tail' (by omega) (Mine.updf_tail' (by omega) (Mine.updf_tail' (by omega) (UpdF.head (by k_all)))))) | exact Mine.updf_tail' (by omega) (Mine.updf_tail' (by omega) (Mine.updf_tail' (by omega) (Mine.updf_tail' (by omega) (Mine.updf_tail' (by omega) (Mine.updf_tail' (by omega) (UpdF.head (by k_all))))))) | exact Mine.updf_tail' (by omega) (Mine.updf_tail' (by omega) (Mine.updf_tail' (by omega) (Mine.updf_tail' (by omega) (Mine.updf_tail' (by omega) (Mine.updf_tail' (by omega) (Mine.updf_tail' (by omega) (UpdF.head (by k_all)))))))))); k_whole); intro h' F' N'; (try dsimp only at N'); (try k_sweep)))
local macro_rules | `(tactic| k_mem) => `(tactic| with_reducible assumption)
local macro_rules | `(tactic| walk_at "eval Name") => `(tactic| (k_here; (with_reducible show wpAny _ _ (eval (PySem.Expr.Name _ _) (compEnvC _ _ _ _)) _ _ _); k_dflt (refine' lcf_cell ?zfN ?zfc ?zfm ?zfd ?_ ?zfa ?zfb; (case zfa => rfl); (case zfb => rfl); (case zfN => k_asm); (case zfc => exact rfl); (case zfm => k_mem); (case zfd => exact rfl); k_whole)))
namespace Mine
theorem partE1 {w : World} {mean : ExcName → Option Value} {mg mb : Str → Option Value} {A₀ : Around} {base h₀ : Heap} {dp un : Nat} {gd : Option (List Code)} {L a : Addr} {ccd : Value} {m : Str → Option Value} {news : Led} {s : Shared} {Q : Flow → Shared → Prop} {E : Value → Shared → Prop}
    {gr : Gr} {tx : Str} {tt tp : Tok} {p : Int} {rw lv : Addr} {nd : Value} {ts : List T} {q : Int}
    (C : LCx w mean mg mb A₀ base h₀ dp un) (F : Fr h₀ L s.heap m) (N : News h₀ L s.heap news) (D : LD gr tx tt p tp L rw lv nd ts q m news)
    (k : ∀ (news' : Led) (h' : Heap) (tk' : Nat) (bt : Tok), Fr h₀ L h' m → News h₀ L h' news' → (∃ v₀, CellUp news news' (L + 1 + 1 + 1 + 1 + 1) (cellO v₀) (.int (((p :: ts.map Mine.T.t)[1]?).getD (-1)) bt)) → wpAny (model PW w) (LA dp un gd L a ccd) (execs lawT17.1 (LE L a ccd)) Q E { s with heap := h', toks := tk' }) : wpAny (model PW w) (LA dp un gd L a ccd) (execs lawT16.1 (LE L a ccd)) Q E s := by
  obtain ⟨XB, TB, B, X, HT, bt, hdd, huu⟩ := C
  have mL := D.mL
  have cB := D.cB
  obtain ⟨lvs', lep, hlv, hlvs⟩ := D.level
  rw [D.level'] at hlvs
  have hlvl := hlvs.length
  rw [List.length_cons, List.length_map] at hlvl
  have htsl : ts.length ≤ 100 := by
    have := (D.run.chain)
    obtain ⟨BB, hT⟩ := D.tree
    cases hT with
    | @mk na cl d od e p2 q2 ts2 tt2 tx2 vs ch ep hin hd hl b1 b2 b3 hz hch =>
    have := hch.length
    omega
  show wpAny _ _ (execs (_ :: _) _) _ _ _
  w_top off; w_on
  w_strict (iterate 10 (first | (k_unfold; (try dsimp only)) | (k_end; wrow_close) | walk1 | (dsimp only; walk1) | (leave1; walk_say "STEP leave1"; try dsimp only) | fail "no step"))
  refine Mine.len_lst N hlv (by omega) ?_
  by_cases hts : ts.length = 0
  · have hone : ((p :: ts.map Mine.T.t)[1]?).getD (-1) = -1 := by rw [List.length_eq_zero_iff.mp hts]; rfl
    have hnot : ¬ (1 : Int) < (lvs'.length : Int) := by omega
    w_strict (iterate 7 (first | (k_unfold; (try dsimp only)) | (k_end; wrow_close) | walk1 | (dsimp only; walk1) | (leave1; walk_say "STEP leave1"; try dsimp only) | fail "no step"))
    refine storeC F N rfl cB rfl ?_ rfl rfl
    intro h2 led2 F2 N2 k2
    rw [hone] at k
    exact k led2 _ _ _ F2 N2 ⟨_, k2⟩
  · obtain ⟨t0, ht0⟩ : ∃ t0, ts[0]? = some t0 := ⟨_, List.getElem?_eq_getElem (by omega)⟩
    have hone : ((p :: ts.map Mine.T.t)[1]?).getD (-1) = t0.t := by rw [List.getElem?_cons_succ, List.getElem?_map, ht0]; rfl
    obtain ⟨u9, hu9⟩ := ints_at hlvs (i := 1) (n := t0.t) (by rw [List.getElem?_cons_succ, List.getElem?_map, ht0]; rfl)
    have hyes : (1 : Int) < (lvs'.length : Int) := by omega
    w_strict (iterate 7 (first | (k_unfold; (try dsimp only)) | (k_end; wrow_close) | walk1 | (dsimp only; walk1) | (leave1; walk_say "STEP leave1"; try dsimp only) | fail "no step"))
    have hu9' : lvs'[(1 : Int).toNat]? = some (.int t0.t u9) := hu9
    refine lst_tail N hlv (by decide) (by decide) hu9' ?_ (by with_unfolding_all rfl)
    refine storeC F N rfl cB rfl ?_ rfl rfl
    intro h2 led2 F2 N2 k2
    rw [hone] at k
    exact k led2 _ _ _ F2 N2 ⟨_, k2⟩
end Mine
end

section
-- part PE2
open PySem PySem.Spec PySem.Calls PySem.W PyProof.Rows
local macro_rules | `(tactic| k_room) => `(tactic| ktr_room)
local macro_rules | `(tactic| k_all) => `(tactic| exact allNe_of' (by assumption) (by omega))
local macro_rules | `(tactic| k_all) => `(tactic| ((with_reducible rename AllLt _ _ => hAllLt); exact allNe_of hAllLt (by omega)))
local macro_rules | `(tactic| k_all) => `(tactic| assumption)
local macro_rules | `(tactic| k_mem) => `(tactic| first | exact List.Mem.head _ | (refine' List.mem_cons_of_mem _ ?_; k_mem))
local macro_rules | `(tactic| walk_at "call builtin:dict.get") => `(tactic| (k_here; k_dflt (first | refine kdg_get2 (knd := PySem.strKind _ _) (by k_asm) (by k_mem) (by assumption) (by assumption) (strKind_is _ _ _ _) (some _) (by rfl) ?_ | refine kdg_get2 (knd := PySem.strKind _ _) (by k_asm) (by k_mem) (by assumption) (by assumption) (strKind_is _ _ _ _) none (by rfl) ?_); (try dsimp only [Option.getD])))
local macro_rules | `(tactic| walk_at "getItem ref int") => `(tactic| (k_here; k_dflt (refine' Mine.item_lst ?N ?m ?a ?b ?c ?_; (case N => k_asm); (case m => k_mem); (case a => decide); (case b => decide); (case c => rfl); k_whole)))
local macro_rules | `(tactic| walk_at "eval Name") => `(tactic| (k_here; k_dflt (refine' nameX_L ?zpk1 ?zpk2 ?_ ?zphk ?zphx ?zphd; (case zpk1 => k_asm); (case zpk2 => first | assumption | exact rfl); (case zphk => rfl); (case zphx => rfl); (case zphd => decide); k_whole)))
local macro_rules | `(tactic| walk_at "eval Name") => `(tactic| (k_here; k_dflt (refine' nameX_C ?zpN ?zpc ?zpm ?zpd ?_ ?zphk ?zphx ?zphd; (case zpN => k_asm); (case zpc => exact rfl); (case zpm => first | assumption | k_mem); (case zpd => first | assumption | exact rfl); (case zphk => rfl); (case zphx => rfl); (case zphd => decide); k_whole)))
local macro_rules | `(tactic| k_all) => `(tactic| (refine List.forall_mem_cons.mpr ⟨?_, ?_⟩; (show @Ne Nat _ _; omega); k_all))
local macro_rules | `(tactic| walk_at "storeName") => `(tactic| (k_here; k_dflt (refine' Mine.storeX ?zpF ?zpN ?zpc ?zpU ?_ ?zpa ?zpb; (case zpa => rfl); (case zpb => rfl); (case zpF => k_asm); (case zpN => k_asm); (case zpc => exact rfl); (case zpU => (first | exact UpdF.head (by k_all) | exact Mine.updf_tail' (by omega) (UpdF.head (by k_all)) | exact Mine.updf_tail' (by omega) (Mine.updf_tail' (by omega) (UpdF.head (by k_all))) | exact Mine.updf_tail' (by omega) (Mine.updf_tail' (by omega) (Mine.updf_tail' (by omega) (UpdF.head (by k_all)))) | exact Mine.updf_tail' (by omega) (Mine.updf_tail' (by omega) (Mine.updf_tail' (by omega) (Mine.updf_tail' (by omega) (UpdF.head (by k_all))))) | exact Mine.updf_tail' (by omega) (Mine.updf_tail' (by omega) (Mine.updf_tail' (by omega) (Mine.updf_tail' (by omega) (Mine.updf_tail' (by omega) (UpdF.head (by k_all)))))) | exact Mine.updf_tail' (by omega) (Mine.updf_tail' (by omega) (Mine.updf_tail' (by omega) (Mine.updf_tail' (by omega) (Mine.updf_tail' (by omega) (Mine.updf_tail' (by omega) (UpdF.head (by k_all))))))) | exact Mine.updf_tail' (by omega) (Mine.updf_tail' (by omega) (Mine.updf_tail' (by omega) (Mine.updf_tail' (by omega) (Mine.updf_tail' (by omega) (Mine.updf_tail' (by omega) (Mine.updf_tail' (by omega) (UpdF.head (by k_all)))))))))); k_whole); intro h' F' N'; (try dsimp only at N'); (try k_sweep)))
local macro_rules | `(tactic| k_mem) => `(tactic| with_reducible assumption)
local macro_rules | `(tactic| walk_at "eval Name") => `(tactic| (k_here; (with_reducible show wpAny _ _ (eval (PySem.Expr.Name _ _) (compEnvC _ _ _ _)) _ _ _); k_dflt (refine' lcf_cell ?zfN ?zfc ?zfm ?zfd ?_ ?zfa ?zfb; (case zfa => rfl); (case zfb => rfl); (case zfN => k_asm); (case zfc => exact rfl); (case zfm => k_mem); (case zfd => exact rfl); k_whole)))
namespace Mine
theorem partE2 {w : World} {mean : ExcName → Option Value} {mg mb : Str → Option Value} {A₀ : Around} {base h₀ : Heap} {dp un : Nat} {gd : Option (List Code)} {L a : Addr} {ccd : Value} {m : Str → Option Value} {news : Led} {s : Shared} {Q : Flow → Shared → Prop} {E : Value → Shared → Prop}
    {tx : Str} {tt tp tb : Tok} {p bk : Int}
    (C : LCx w mean mg mb A₀ base h₀ dp un) (F : Fr h₀ L s.heap m) (N : News h₀ L s.heap news) (cT : CellAt news (L + 1 + 1) (some (.str tx tt))) (cS : CellAt news (L + 1 + 1 + 1) (some (.int p tp))) (cB : CellAt news (L + 1 + 1 + 1 + 1 + 1) (some (.int bk tb)))
    (ab : AB tx) (hp0 : 0 ≤ p) (hp1 : p ≤ (tx.length : Int)) (htx : tx.length ≤ 12)
    (k : ∀ (ev : Addr) (es : List Value) (news' : Led) (h' : Heap) (tk' : Nat), Fr h₀ L h' (fun z => if z = Str.ofString "ends" then some (.ref ev) else m z) → News h₀ L h' news' → (ev, lstO es es.length) ∈ news' → IntsAre es [if At tx true p then bk else -1, if At tx false p then bk else -1] → (∀ z ∈ news, z ∈ news') → wpAny (model PW w) (LA dp un gd L a ccd) (execs lawT18.1 (LE L a ccd)) Q E { s with heap := h', toks := tk' }) : wpAny (model PW w) (LA dp un gd L a ccd) (execs lawT17.1 (LE L a ccd)) Q E s := by
  obtain ⟨XB, TB, B, X, HT, bt, hdd, huu⟩ := C
  show wpAny _ _ (execs (_ :: _) _) _ _ _
  w_top off; w_on
  w_strict ((first | (k_unfold; (try dsimp only)) | (k_end; wrow_close) | walk1 | (dsimp only; walk1) | (leave1; walk_say "STEP leave1"; try dsimp only) | fail "no step"))
  refine assign_comp_str (tx := Str.ofString "ab") rfl rfl F N (by with_unfolding_all rfl) (by with_unfolding_all rfl) (by decide) (by rfl) (by decide) (by rfl) (by rfl) (by rfl) ?_ (by decide +kernel) (by decide +kernel) ?_
  · intro Q' h
    w_strict ((first | (k_unfold; (try dsimp only)) | (k_end; wrow_close) | walk1 | (dsimp only; walk1) | (leave1; walk_say "STEP leave1"; try dsimp only) | fail "no step"))
    exact h _ _
  intro g5 k5
  refine comp_all (fun i ys nw => IntsAre ys (([if At tx true p then bk else -1, if At tx false p then bk else -1] : List Int).take i) ∧ nw = news) ⟨.nil, rfl⟩ ?_ ?_
  · rintro i v9 ys nw I oI CC oC DD m₂ h9 tk9 E' hi9 ⟨c, u, hc, rfl⟩ ⟨hys, rfl⟩ hC hm9 F9 N9 off9 ne9
    have hz : (Str.ofString "ab").cps.size = 2 := by decide +kernel
    obtain ⟨g, hig, hcg⟩ : ∃ g : Bool, i = (if g then 0 else 1) ∧ c = (if g then 97 else 98) := by
      have e0 : (Str.ofString "ab").cps[0]? = some 97 := by decide +kernel
      have e1 : (Str.ofString "ab").cps[1]? = some 98 := by decide +kernel
      obtain rfl | rfl : i = 0 ∨ i = 1 := by omega
      · rw [e0] at hc; exact ⟨true, rfl, (Option.some.inj hc).symm⟩
      · rw [e1] at hc; exact ⟨false, rfl, (Option.some.inj hc).symm⟩
    have htk : (([if At tx true p then bk else -1, if At tx false p then bk else -1] : List Int).take (i + 1)) = (([if At tx true p then bk else -1, if At tx false p then bk else -1] : List Int).take i) ++ [if At tx g p then bk else -1] := by
      cases g <;> subst hig <;> rfl
    have hpc := piece ab hp0 hp1 g
    rw [← hcg] at hpc
    clear hc hcg
    w_strict (iterate 18 (first | (k_unfold; (try dsimp only)) | (k_end; wrow_close) | walk1 | (dsimp only; walk1) | (leave1; walk_say "STEP leave1"; try dsimp only) | fail "no step"))
    · w_strict ((first | (k_unfold; (try dsimp only)) | (k_end; wrow_close) | walk1 | (dsimp only; walk1) | (leave1; walk_say "STEP leave1"; try dsimp only) | fail "no step"))
      rename (_ == _) = true => hq
      have hAt := hpc.mp (beq_iff_eq.mp hq)
      with_reducible rename News _ _ _ _ => NZ
      with_reducible rename Fr _ _ _ _ => FZ
      refine comp_same FZ NZ off9 trivial ⟨?_, rfl⟩
      rw [htk, if_pos hAt]
      exact hys.append (.cons _ _ .nil)
    · w_strict (iterate 3 (first | (k_unfold; (try dsimp only)) | (k_end; wrow_close) | walk1 | (dsimp only; walk1) | (leave1; walk_say "STEP leave1"; try dsimp only) | fail "no step"))
      rename (_ == _) = false => hq
      have hAt : ¬ At tx g p := fun h => by
        have := hpc.mpr h
        rw [this] at hq
        simp at hq
      with_reducible rename News _ _ _ _ => NZ
      with_reducible rename Fr _ _ _ _ => FZ
      refine comp_same FZ NZ off9 trivial ⟨?_, rfl⟩
      rw [htk, if_neg hAt]
      exact hys.append (.cons _ _ .nil)
  · rintro ys nw ⟨hys, rfl⟩ D9 h9 tk9 F9 N9 off9
    have hz : (Str.ofString "ab").cps.size = 2 := by decide +kernel
    rw [hz] at hys
    exact k D9 ys _ _ _ F9 N9 (.head _) hys fun z hz => .tail _ hz
end Mine
end

section
-- part PE3
open PySem PySem.Spec PySem.Calls PySem.W PyProof.Rows
local macro_rules | `(tactic| walk_at "pad of mine") => `(tactic| fail)
local macro_rules | `(tactic| k_room) => `(tactic| ktr_room)
local macro_rules | `(tactic| k_all) => `(tactic| exact allNe_of' (by assumption) (by omega))
local macro_rules | `(tactic| k_all) => `(tactic| ((with_reducible rename AllLt _ _ => hAllLt); exact allNe_of hAllLt (by omega)))
local macro_rules | `(tactic| k_all) => `(tactic| assumption)
local macro_rules | `(tactic| k_mem) => `(tactic| first | exact List.Mem.head _ | (refine' List.mem_cons_of_mem _ ?_; k_mem))
local macro_rules | `(tactic| walk_at "call builtin:dict.get") => `(tactic| (k_here; k_dflt (first | refine kdg_get2 (knd := PySem.strKind _ _) (by k_asm) (by k_mem) (by assumption) (by assumption) (strKind_is _ _ _ _) (some _) (by rfl) ?_ | refine kdg_get2 (knd := PySem.strKind _ _) (by k_asm) (by k_mem) (by assumption) (by assumption) (strKind_is _ _ _ _) none (by rfl) ?_); (try dsimp only [Option.getD])))
local macro_rules | `(tactic| walk_at "getItem ref int") => `(tactic| (k_here; k_dflt (refine' Mine.item_lst ?N ?m ?a ?b ?c ?_; (case N => k_asm); (case m => k_mem); (case a => decide); (case b => decide); (case c => rfl); k_whole)))
local macro_rules | `(tactic| walk_at "eval Name") => `(tactic| (k_here; k_dflt (refine' nameX_L ?zpk1 ?zpk2 ?_ ?zphk ?zphx ?zphd; (case zpk1 => k_asm); (case zpk2 => first | assumption | exact rfl); (case zphk => rfl); (case zphx => rfl); (case zphd => decide); k_whole)))
local macro_rules | `(tactic| walk_at "eval Name") => `(tactic| (k_here; k_dflt (refine' nameX_C ?zpN ?zpc ?zpm ?zpd ?_ ?zphk ?zphx ?zphd; (case zpN => k_asm); (case zpc => exact rfl); (case zpm => first | assumption | k_mem); (case zpd => first | assumption | exact rfl); (case zphk => rfl); (case zphx => rfl); (case zphd => decide); k_whole)))
local macro_rules | `(tactic| k_all) => `(tactic| (refine List.forall_mem_cons.mpr ⟨?_, ?_⟩; (show @Ne Nat _ _; omega); k_all))
local macro_rules | `(tactic| walk_at "storeName") => `(tactic| (k_here; k_dflt (refine' Mine.storeX ?zpF ?zpN ?zpc ?zpU ?_ ?zpa ?zpb; (case zpa => rfl); (case zpb => rfl); (case zpF => k_asm); (case zpN => k_asm); (case zpc => exact rfl); (case zpU => (first | exact UpdF.head (by k_all) | exact Mine.updf_tail' (by omega) (UpdF.head (by k_all)) | exact Mine.updf_tail' (by omega) (Mine.updf_tail' (by omega) (UpdF.head (by k_all))) | exact Mine.updf_tail' (by omega) (Mine.updf_tail' (by omega) (Mine.updf_tail' (by omega) (UpdF.head (by k_all)))) | exact Mine.updf_tail' (by omega) (Mine.updf_tail' (by omega) (Mine.updf_tail' (by omega) (Mine.updf_tail' (by omega) (UpdF.head (by k_all))))) | exact Mine.updf_tail' (by omega) (Mine.updf_tail' (by omega) (Mine.updf_tail' (by omega) (Mine.updf_tail' (by omega) (Mine.updf_tail' (by omega) (UpdF.head (by k_all)))))) | exact Mine.updf_tail' (by omega) (Mine.updf_tail' (by omega) (Mine.updf_tail' (by omega) (Mine.updf_tail' (by omega) (Mine.updf_tail' (by omega) (Mine.updf_tail' (by omega) (UpdF.head (by k_all))))))) | exact Mine.updf_tail' (by omega) (Mine.updf_tail' (by omega) (Mine.updf_tail' (by omega) (Mine.updf_tail' (by omega) (Mine.updf_tail' (by omega) (Mine.updf_tail' (by omega) (Mine.updf_tail' (by omega) (UpdF.head (by k_all)))))))))); k_whole); intro h' F' N'; (try dsimp only at N'); (try k_sweep)))
local macro_rules | `(tactic| k_mem) => `(tactic| with_reducible assumption)
local macro_rules | `(tactic| walk_at "eval Name") => `(tactic| (k_here; (with_reducible show wpAny _ _ (eval (PySem.Expr.Name _ _) (compEnvC _ _ _ _)) _ _ _); k_dflt (refine' lcf_cell ?zfN ?zfc ?zfm ?zfd ?_ ?zfa ?zfb; (case zfa => rfl); (case zfb => rfl); (case zfN => k_asm); (case zfc => exact rfl); (case zfm => k_mem); (case zfd => exact rfl); k_whole)))
namespace Mine
theorem Spec0.use {w : World} {mean : ExcName → Option Value} {mg mb : Str → Option Value} {f : Addr} {args : List Value} {dd uu : Nat} {Pre : Led → Prop} {Post : Led → Value → Led → Prop}
    {dp un : Nat} {gd : Option (List Code)} {cn : Str} {cs : Scope} {a : Addr} {ccd : Value} {cl : List (Str × Addr)} {A₀ : Around} {base h₀ : Heap} {L : Addr} {m : Str → Option Value} {news : Led} {s : Shared} {Q E : Value → Shared → Prop}
    (XB : (hd.heap_39 w.params).In base) (TB : Top topProg TLOOSE mean mg mb base) (B : Below A₀ base [] h₀) (F : Fr h₀ L s.heap m) (X : (hd.heap_39 w.params).In h₀) (N : News h₀ L s.heap news) (T : Top topProg TLOOSE mean mg mb h₀) (hk : cs.kind = .function) (C : Spec0 w mean mg mb f args dd uu Pre Post) (pre : Pre news)
    (hd : dp + dd < recursionLimit) (hu : un + uu < cLine)
    (ret : ∀ r news' h' tk', Fr h₀ L h' m → News h₀ L h' news' → Post news r news' → Q r { s with heap := h', toks := tk' }) :
    wpAny (model PW w) (ktrTop dp un gd cn cs L a ccd cl []) (call (.ref f) args) Q E s := C _ _ _ _ _ _ _ _ _ _ _ _ _ _ _ _ _ XB TB B F X N T hk pre hd hu ret
theorem eq_same {prog : Program} {w : World} {A : Around} {E : Value → Shared → Prop} {s : Shared} {a b : Addr} {vs us : List Value} {ns : List Int} {Q : Value → Shared → Prop} (hl : s.heap.IsList a vs.toArray) (hi : IntsAre vs ns) (hl' : s.heap.IsList b us.toArray) (hi' : IntsAre us ns) (hu : A.units + 64 < cLine)
    (h : Q (.bool true) s) : wpAny (model prog w) A (compareOp .Eq (.ref a) (.ref b)) Q E s :=
  eq_intsK hl hi hl' hi' hu (by rw [decide_eq_true (show ns = ns from rfl)]; exact h)
theorem rule_val {tx : Str} (ab : AB tx) {g : Bool} {p bk : Int} {res : Option T} (h : RS tx g p res) (hp : 0 ≤ p) (hl : p ≤ (tx.length : Int)) (hbk : bk = ((zer tx (hh tx p) ((tx.length : Int) - p + 1).toNat p)[1]?).getD (-1)) {tk : Tok} :
    Value.int (match res with | some (.node _ _ t _) => t | none => -1) tk = Value.int (if At tx g p then bk else -1) tk := by
  have := rule_law ab h hp hl
  rw [← hbk] at this
  cases res with
  | none => exact congrArg (fun z => Value.int z tk) this
  | some t => cases t; exact congrArg (fun z => Value.int z tk) this
theorem partE3 {w : World} {mean : ExcName → Option Value} {mg mb : Str → Option Value} {A₀ : Around} {base h₀ : Heap} {dp un : Nat} {gd : Option (List Code)} {L a : Addr} {ccd : Value} {m : Str → Option Value} {news : Led} {s : Shared} {Q : Flow → Shared → Prop} {E : Value → Shared → Prop}
    {gr : Gr} {tx : Str} {tt tp : Tok} {p bk : Int} {ev : Addr} {es : List Value} {ts : List T}
    (C : LCx w mean mg mb A₀ base h₀ dp un) (F : Fr h₀ L s.heap m) (N : News h₀ L s.heap news) (G : GrOk 1 gr news) (cT : CellAt news (L + 1 + 1) (some (.str tx tt))) (cS : CellAt news (L + 1 + 1 + 1) (some (.int p tp)))
    (mU : m (Str.ofString "up") = some (.ref (gr.xa .uS))) (mD : m (Str.ofString "down") = some (.ref (gr.xa .lS))) (mT : m (Str.ofString "top") = some (.ref (gr.xa .top))) (mE : m (Str.ofString "ends") = some (.ref ev))
    (hev : (ev, lstO es es.length) ∈ news) (hes : IntsAre es [if At tx true p then bk else -1, if At tx false p then bk else -1])
    (hbk : bk = ((zer tx (hh tx p) ((tx.length : Int) - p + 1).toNat p)[1]?).getD (-1))
    (ab : AB tx) (hp0 : 0 ≤ p) (hp1 : p ≤ (tx.length : Int)) (htx : tx.length ≤ 12)
    (k : ∀ (news' : Led) (h' : Heap) (tk' : Nat), Fr h₀ L h' m → News h₀ L h' news' → (∀ z ∈ news, z.2.cls ≠ .type "dict" → z ∈ news') → Q (.ret (.bool true)) { s with heap := h', toks := tk' }) : wpAny (model PW w) (LA dp un gd L a ccd) (execs lawT18.1 (LE L a ccd)) Q E s := by
  obtain ⟨XB, TB, B, X, HT, bt, hdd, huu⟩ := C
  show wpAny _ _ (execs (_ :: _) _) _ _ _
  w_top off; w_on
  w_strict (iterate 17 (first | (k_unfold; (try dsimp only)) | (k_end; wrow_close) | walk1 | (dsimp only; walk1) | (leave1; walk_say "STEP leave1"; try dsimp only) | fail "no step"))
  refine Spec0.use XB TB B F X N HT rfl (le_ok (gr := gr) (text := tx) (R := 1) (g := true) (by omega) htx hp0 hp1) G (by (try dsimp only); omega) (by (try dsimp only); omega) ?_
  rintro r1 led1 h1 tk1 F1 N1 ⟨G1, K1, tkr1, res1, hres1, hr1⟩
  obtain rfl : r1 = .int (if At tx true p then bk else -1) tkr1 := hr1.trans (rule_val ab hres1 hp0 hp1 hbk)
  clear hr1
  have cT1 : CellAt led1 _ _ := K1.same _ cT cell_nd
  have cS1 : CellAt led1 _ _ := K1.same _ cS cell_nd
  have hev1 := K1.same _ hev lst_nd
  clear F N cT cS hev
  w_strict (iterate 12 (first | (k_unfold; (try dsimp only)) | (k_end; wrow_close) | walk1 | (dsimp only; walk1) | (leave1; walk_say "STEP leave1"; try dsimp only) | fail "no step"))
  refine Spec0.use XB TB B F1 X N1 HT rfl (le_ok (gr := gr) (text := tx) (R := 2) (g := false) (by omega) htx hp0 hp1) G1 (by (try dsimp only); omega) (by (try dsimp only); omega) ?_
  rintro r2 led2 h2 tk2 F2 N2 ⟨G2, K2, tkr2, res2, hres2, hr2⟩
  obtain rfl : r2 = .int (if At tx false p then bk else -1) tkr2 := hr2.trans (rule_val ab hres2 hp0 hp1 hbk)
  clear hr2
  have cT2 : CellAt led2 _ _ := K2.same _ cT1 cell_nd
  have hev2 := K2.same _ hev1 lst_nd
  clear F1 N1 cT1 cS1 hev1
  w_strict (iterate 3 (first | (k_unfold; (try dsimp only)) | (k_end; wrow_close) | walk1 | (dsimp only; walk1) | (leave1; walk_say "STEP leave1"; try dsimp only) | fail "no step"))
  rename Addr => D0
  with_reducible rename News _ _ _ _ => N5
  with_reducible rename Fr _ _ _ _ => F5
  refine eq_same (vs := [Value.int (if At tx true p then bk else -1) tkr1, Value.int (if At tx false p then bk else -1) tkr2]) (isl (n := 0) N5 (.head _)) (.cons _ _ (.cons _ _ .nil)) (isl N5 (.tail _ hev2)) hes (by (try dsimp only); omega) ?_
  replace N5 : News h₀ L _ led2 := fun z hz => N5 z (.tail _ hz)
  clear hev2 hes
  w_strict (iterate 13 (first | (k_unfold; (try dsimp only)) | (k_end; wrow_close) | walk1 | (dsimp only; walk1) | (leave1; walk_say "STEP leave1"; try dsimp only) | fail "no step"))
  refine Spec0.use XB TB B F5 X N5 HT rfl (lw_ok (gr := gr) (text := tx) (R := 3) (by omega) htx) G2 (by (try dsimp only); omega) (by (try dsimp only); omega) ?_
  rintro r3 led3 h3 tk3 F3 N3 ⟨G3, K3, tkr3, ts3, q3, hrt3, hq3, rfl⟩
  have hw := whole_law ab hrt3 hq3
  generalize (if q3 < (tx.length : Int) then -1 else q3) = W at hw ⊢
  have cT3 : CellAt led3 _ _ := K3.same _ cT2 cell_nd
  clear F5 N5 cT2
  w_strict (iterate 21 (first | (k_unfold; (try dsimp only)) | (k_end; wrow_close) | walk1 | (dsimp only; walk1) | (leave1; walk_say "STEP leave1"; try dsimp only) | fail "no step"))
  · have hc : Txt.count tx (Str.ofString "a") = Txt.count tx (Str.ofString "b") := by assumption
    rw [if_pos hc] at hw
    w_strict (iterate 8 (first | (k_unfold; (try dsimp only)) | (k_end; wrow_close) | walk1 | (dsimp only; walk1) | (leave1; walk_say "STEP leave1"; try dsimp only) | fail "no step"))
    with_reducible rename News _ _ _ _ => NZ
    with_reducible rename Fr _ _ _ _ => FZ
    rw [hw, beq_self_eq_true]
    exact k led3 _ _ FZ NZ fun z hz hc => K3.same _ (K2.same _ (K1.same _ hz hc) hc) hc
  · have hc : ¬ Txt.count tx (Str.ofString "a") = Txt.count tx (Str.ofString "b") := by assumption
    rw [if_neg hc] at hw
    w_strict (iterate 4 (first | (k_unfold; (try dsimp only)) | (k_end; wrow_close) | walk1 | (dsimp only; walk1) | (leave1; walk_say "STEP leave1"; try dsimp only) | fail "no step"))
    with_reducible rename News _ _ _ _ => NZ
    with_reducible rename Fr _ _ _ _ => FZ
    rw [hw, beq_self_eq_true]
    exact k led3 _ _ FZ NZ fun z hz hc => K3.same _ (K2.same _ (K1.same _ hz hc) hc) hc
end Mine
end

section
-- part En2
open PySem PySem.Spec PySem.Calls PySem.W PyProof.Rows
namespace Mine
theorem cells_at : ∀ (names : List (Str × NameKind)) (h : Heap) (acc : List (Str × Addr)) (lo : Nat), (∀ x ∈ acc, h.get? x.2 = some (cellO none) ∧ lo ≤ x.2) → lo ≤ h.objs.size → ∀ x ∈ cellsFrom h.objs.size names acc, (pushCells h names).get? x.2 = some (cellO none) ∧ lo ≤ x.2
  | [], _, _, _, ha, _ => ha
  | (name, kind) :: r, h, acc, lo, ha, hlo => by
    unfold pushCells cellsFrom
    split
    · have := cells_at r (h.push { cls := .type "cell", data := .cell none }) ((name, h.objs.size) :: acc) lo (fun x hx => by
        rcases List.mem_cons.mp hx with rfl | hx
        · exact ⟨Heap.get?_push_size _ rfl, hlo⟩
        · exact ⟨Heap.get?_push_of_some _ (ha x hx).1, (ha x hx).2⟩) (by rw [Heap.size_push]; omega)
      rwa [Heap.size_push] at this
    · exact cells_at r h acc lo ha hlo
theorem newEnv_one {M : Model} {A : Around} {E : Value → Shared → Prop} {s : Shared} {scope : Scope} {globals : Addr} {n : Str} {v : Value} {qual : Str} {func : Option Addr} {code : Value} {builtins : Addr} {Q : Env → Shared → Prop}
    (hk : scope.kind = .function) (hn : scope.names.lookup n = some .local)
    (hQ : ∀ env, env = newEnv scope s.heap.objs.size globals (cellsFrom (s.heap.objs.size + 1) scope.names []) qual func code none builtins →
      ∀ h₁ tk, h₁.Ns s.heap.objs.size (fun y => if y = n then some v else none) → (∀ b o, s.heap.get? b = some o → h₁.get? b = some o) →
        (∀ x ∈ cellsFrom (s.heap.objs.size + 1) scope.names [], h₁.get? x.2 = some (cellO none) ∧ s.heap.objs.size + 1 ≤ x.2) → Q env { s with heap := h₁, toks := tk }) :
    wpAny M A (newFunctionEnv scope globals [] [(n, v)] qual func code none builtins) Q E s := by
  simp only [newFunctionEnv, Option.isSome_none, Bool.false_eq_true, if_false]
  refine wpAny_bind (wpAny_alloc ?_)
  refine wpAny_bind (wpAny_layCells _ (fun name kind cells => by cases hkc : kind == NameKind.cell <;> simp [hkc]) _ _ _ _ ?_)
  have ok := cells_at scope.names (s.heap.push { cls := .type "frame", data := .dict #[] }) [] (s.heap.objs.size + 1) (fun _ hm => (nomatch hm)) (by rw [Heap.size_push]; exact Nat.le_refl _)
  rw [Heap.size_push] at ok
  rw [show ({ s with heap := s.heap.push { cls := .type "frame", data := .dict #[] } } : Shared).heap.objs.size = s.heap.objs.size + 1 from Heap.size_push ..]
  have ns0 : (pushCells (s.heap.push { cls := .type "frame", data := .dict #[] }) scope.names).Ns s.heap.objs.size (fun _ => none) := (Heap.Ns.new s.heap (.type "frame")).keeps (pushCells_keeps _ _)
  have kp0 : ∀ b o, s.heap.get? b = some o → (pushCells (s.heap.push { cls := .type "frame", data := .dict #[] }) scope.names).get? b = some o := fun b o e => pushCells_keeps _ _ b o (Heap.get?_push_of_some _ e)
  refine wpAny_bind ?_
  rw [List.forIn_cons]
  refine wpAny_bind (wpAny_bind (wpAny_storeName_local (env := newEnv scope s.heap.objs.size globals (cellsFrom (s.heap.objs.size + 1) scope.names []) qual func code none builtins) hn ns0 (fun h' hn' hs' => wpAny_pure ?_) (by show (scope.kind == .class || (scope.kind == .module && _)) = false; rw [hk]; rfl)))
  show wpAny M A (forIn [] _ _) _ _ _
  rw [List.forIn_nil]
  refine wpAny_pure (wpAny_pure (hQ _ rfl h' _ hn' (fun b o e => hs'.extBut b o (Nat.ne_of_lt (Heap.lt_size e)) (kp0 b o e)) fun x hx => ⟨hs'.extBut _ _ (Nat.ne_of_gt (ok x hx).2) (ok x hx).1, (ok x hx).2⟩))
/-- a call of a def of one local argument, its cells written out -/
theorem call_cellsM {prog : Program} {w : World} {A : Around} {R : Result → Shared → Prop} {s : Shared} {name : Str} {params : Arguments} {body : List Stmt} {scope : Scope} {pm cd doc : Value} {a : Addr} {o : Obj} {n : Str} {v : Value}
    (hroom : A.depth < recursionLimit) (ho : s.heap.get? a = some o) (hdata : o.data = .func (Calls.docDef name params body scope pm cd doc)) (hlim : s.heap.NoLimit) (hcd : s.heap.CodeRec cd name)
    (hbind : bindArgs (Calls.docDef name params body scope pm cd doc) ⟨[v], []⟩ = pure [(n, v)]) (hn : scope.names.lookup n = some .local)
    (h : ∀ h₁ tk, Fr s.heap s.heap.objs.size h₁ (fun y => if y = n then some v else none) → News s.heap s.heap.objs.size h₁ ((cellsFrom (s.heap.objs.size + 1) scope.names []).map fun x => (x.2, cellO none)) →
      wpAny (model prog w) (A.deeper (envOfC name scope s.heap.objs.size a cd)) (execs body (envOfC name scope s.heap.objs.size a cd))
        (fun f s' => R (.ok (.ret (match f with | .ret v => v | _ => .none))) s')
        (fun e s' => wpAny (model prog w) (A.deeper (envOfC name scope s.heap.objs.size a cd)) (leaving (envOfC name scope s.heap.objs.size a cd) e)
          (fun _ s'' => R (.error e) s'') (fun e' s'' => R (.error e') s'') s')
        { s with heap := h₁, toks := tk })
    (hco : scope.isCoroutine = false) (hgen : scope.isGenerator = false) (hk : scope.kind = .function) :
    codeAny (model prog w) A (.call (.ref a) ⟨[v], []⟩) R s := by
  refine codeAny_call_function hroom ho hdata hco hgen rfl hcd ?_
  rw [hbind]
  refine wpAny_pure (newEnv_one hk hn fun env he h₁ tk ns kp cs => ?_)
  subst he
  refine ⟨hlim.keeps kp, codeAny_func (h h₁ tk ⟨ns, kp, Nat.le_refl _⟩ fun q hq => ?_)⟩
  obtain ⟨x, hx, rfl⟩ := List.mem_map.mp hq
  exact ⟨(cs x hx).1, Nat.ne_of_gt (cs x hx).2, Heap.get?_none_of_le (Nat.le_of_succ_le (cs x hx).2)⟩
end Mine
end

section
-- part Lwb
open PySem PySem.Spec PySem.Calls PySem.W PyProof.Rows
local macro_rules | `(tactic| walk_at "pad of mine") => `(tactic| fail)
namespace Mine
theorem TabAt.mv {a b : Led} {P : Addr} (h : TabAt a P) (k : ∀ ps : Array Value, (P, tabObj ps) ∈ a → (P, tabObj ps) ∈ b) : TabAt b P := let ⟨ps, x1, x3⟩ := h; ⟨ps, k ps x1, x3⟩
theorem tab_nd : (tabObj (#[] : Array Value)).cls ≠ .type "dict" := nofun
theorem law_body {w : World} {mean : ExcName → Option Value} {mg mb : Str → Option Value} {A₀ : Around} {base h₀ : Heap} {dp un : Nat} {gd : Option (List Code)} {L a : Addr} {ccd : Value} {m : Str → Option Value} {news : Led} {s : Shared} {Q : Flow → Shared → Prop} {E : Value → Shared → Prop}
    {sc : Addr} {vs : List Value} {ns : List Int}
    (C : LCx w mean mg mb A₀ base h₀ dp un) (F : Fr h₀ L s.heap m) (hsc : m (Str.ofString "script") = some (.ref sc)) (hl : h₀.IsList sc vs.toArray) (hi : IntsAre vs ns) (hn : ns.length ≤ 63)
    (N : News h₀ L s.heap ((L + 1 + 1 + 1 + 1 + 1, cellO none) :: (L + 1 + 1 + 1 + 1, cellO none) :: (L + 1 + 1 + 1, cellO none) :: (L + 1 + 1, cellO none) :: (L + 1, cellO none) :: news)) (hlt : ∀ q ∈ news, q.1 < L)
    (h207 : (207, tabObj #[]) ∈ news) (h389 : TabAt news 389)
    (k : ∀ (m' : Str → Option Value) (news' : Led) (s' : Shared), Fr h₀ L s'.heap m' → News h₀ L s'.heap news' → GWf s s' → (207, tabObj #[]) ∈ news' → TabAt news' 389 → Q (.ret (.bool true)) s') :
    wpAny (model PW w) (LA dp un gd L a ccd) (execs lawB (LE L a ccd)) Q E s := by
  refine partA C F hsc hl hi hn N hlt ?_
  intro tx tt p tp news3 h3 tk3 ab htx hp0 hp1 F3 N3 cT cS cR cB sub3
  refine partB C F3 N3 (h389.sub sub3) ?_
  intro gr newsB mB sB FB NB gwB GB mU mD mT kc k207 htB
  refine partC C FB NB GB ab htx hp0 hp1 (kc _ _ cT) (kc _ _ cS) (kc _ _ cR) (kc _ _ cB) mU mD mT ?_
  intro mC newsC hC tkC lv lvs' lep rw rvs rep nd BB ts q FC NC GC cTC cSC cRC cBC hrw hrv hlv hlvs hrt hq hT mU mD mT mL mN keep
  have hht := ht_rt hrt
  have D : LD gr tx tt p tp L rw lv nd ts q mC newsC := ⟨GC, cTC, cSC, cRC, cBC, ⟨rvs, rep, hrw, hrv⟩, ⟨lvs', lep, hlv, hlvs⟩, ⟨BB, hT⟩, mU, mD, mT, mL, mN, ab, htx, hp0, hp1, rt_law ab hrt hp0 hp1, by show 1 + htTs ts ≤ 20; omega⟩
  have h2C : (207, tabObj #[]) ∈ newsC := keep _ (k207 (sub3 _ h207)) nofun nofun
  have h3C : TabAt newsC 389 := htB.mv fun ps hp => keep _ hp nofun nofun
  refine partD1 C FC NC D ?_
  intro h4 tk4 F4 N4
  refine partD2 C F4 N4 D ?_
  intro h5 tk5 F5 N5
  refine partD3 C F5 N5 D ?_
  intro h6 tk6 F6 N6
  refine partD4 C F6 N6 D ?_
  intro news7 h7 tk7 F7 N7 sub7
  have D7 := D.sub sub7
  refine partD5 C F7 N7 D7 ?_
  intro news8 h8 tk8 F8 N8 sub8
  have D8 := D7.sub sub8
  refine partE1 C F8 N8 D8 ?_
  intro news9 h9 tk9 tb F9 N9 ⟨v₀, k9⟩
  have n2 : @Ne Nat (L + 1 + 1) (L + 1 + 1 + 1 + 1 + 1) := by show @Ne Nat _ _; omega
  have n3 : @Ne Nat (L + 1 + 1 + 1) (L + 1 + 1 + 1 + 1 + 1) := by show @Ne Nat _ _; omega
  have c29 := k9.cell D8.cT n2
  have c39 := k9.cell D8.cS n3
  refine partE2 C F9 N9 c29 c39 k9.self ab hp0 hp1 htx ?_
  intro ev es newsE hE tkE FE NE hev hes subE
  have hbk : ((p :: ts.map Mine.T.t)[1]?).getD (-1) = ((zer tx (hh tx p) ((tx.length : Int) - p + 1).toNat p)[1]?).getD (-1) := by rw [D8.run.level]
  refine partE3 (ts := []) C FE NE ((k9.grok D8.G).sub subE) (subE _ c29) (subE _ c39) mU mD mT rfl hev hes hbk ab hp0 hp1 htx ?_
  intro newsZ hZ tkZ FZ NZ keepZ
  refine k _ newsZ _ FZ NZ ((GWf.trans (GWf.heap s h3 tk3) gwB).trans (GWf.heap sB hZ tkZ)) (keepZ _ (subE _ (k9.mem (sub8 _ (sub7 _ h2C)) nofun)) nofun) ?_
  exact h3C.mv fun ps hp => keepZ _ (subE _ (k9.mem (sub8 _ (sub7 _ hp)) nofun)) nofun
end Mine
end

open PySem PySem.Spec PySem.Calls PySem.W PyProof.Rows
theorem PySem.Challenge.cw_vj0023_01_holds : PySem.Challenge.rw_vj0023_01.Holds :=
  hd (by
  w_top off; w_on
  k_fill
  intro w s₀ s₁ mg mb G Y fa o pm cd doc dV kV ho hd hcd hD hmg hg args vals as hpre hlay hrd hwl hlo
  have KY := Mine.hook3_says Y
  have KX := KY.1.1
  have hT9 : TabsAt ([(211, 207), (393, 389)] : List (Addr × Addr)) s₁.heap := List.forall_mem_cons.mpr ⟨⟨codeHd_of_K (c := 211) (P := 207) KX (by kernel_rfl), KY.1.2 207 (.tail _ (.head _))⟩, List.forall_mem_cons.mpr ⟨⟨codeHd_of_K (c := 393) (P := 389) KX (by kernel_rfl), KY.1.2 389 (.head _)⟩, nofun⟩⟩
  have X := (Ground.X G).1
  have V := (Ground.X G).2
  refine Ground.open G ?_
  intro T B D TE TW
  try (refine guard_noD D (by decide +kernel) ?_; clear D)
  clear hmg
  wrow_args hpre hlay hrd hwl hlo
  refine enter_call ?_
  w_top on
  refine Mine.my_post hT9 (fun _ => rfl) (by first | rfl | wrow_post) ?_
  have hb0 : (ghostOf s₁.heap ([(211, 207), (393, 389)] : List (Addr × Addr))).get? (nat_lit 0) = some (Mine.obj0 w.params) := ghost_get hT9 KY.2.1 (fun q => by cases congrArg Obj.cls q)
  have hb1 : (ghostOf s₁.heap ([(211, 207), (393, 389)] : List (Addr × Addr))).get? (nat_lit 1) = some (Mine.obj1 w.params) := ghost_get hT9 KY.2.2 (fun q => by cases congrArg Obj.cls q)
  have he := Dflts.none hD rfl
  subst he
  have he := Dflts.noKw hD
  subst he
  refine Mine.call_cellsM (n := Str.ofString "script") (by decide) ho (fd_plain hd) (Top.nolimit T) hcd rfl rfl (fun h₁ tk₁ F N0 => ?_) rfl rfl rfl
  clear hd
  have N1 : News s₁.heap s₁.heap.objs.size h₁ [(s₁.heap.objs.size + 1 + 1 + 1 + 1 + 1, Mine.cellO none), (s₁.heap.objs.size + 1 + 1 + 1 + 1, Mine.cellO none), (s₁.heap.objs.size + 1 + 1 + 1, Mine.cellO none), (s₁.heap.objs.size + 1 + 1, Mine.cellO none), (s₁.heap.objs.size + 1, Mine.cellO none)] := N0
  clear N0
  kn_ghosts F T
  with_reducible rename Below _ _ _ _ => KB
  with_reducible rename Fr _ _ _ _ => FF
  with_reducible rename News _ _ _ _ => NN
  with_reducible rename Frag.In _ _ => XX
  with_reducible rename Top _ _ _ _ _ _ => TT
  rename _ < _ ∧ _ < _ => l0
  with_reducible rename IntsAre _ _ => hI
  rename ¬ _ < _ => hc
  refine Mine.law_body (A₀ := callerA) (base := ghostOf s₁.heap ([(211, 207), (393, 389)] : List (Addr × Addr))) (news := [(207, tabObj #[]), (389, tabObj #[])]) ⟨XX, TT, KB, XX, TT, ⟨hb0, hb1⟩, ?d1, ?d2⟩ FF rfl lifted hI (by omega) NN ?lt (.head _) ⟨#[], .tail _ (.head _), ?tr⟩ ?_
  case d1 => decide +kernel
  case d2 => decide +kernel
  case lt => exact List.forall_mem_cons.mpr ⟨l0.1, List.forall_mem_cons.mpr ⟨l0.2, fun _ h => absurd h List.not_mem_nil⟩⟩
  case tr => exact True.intro
  intro m' news' s' F' N' gw h2 h3
  refine ⟨rfl, fun b o e => F'.keep b o e, gw.os, fun y hy => ?_, ⟨GrownAt.of N' h2, let ⟨ps, x1, _⟩ := h3; GrownAt.of N' x1, True.intro⟩⟩
  obtain ⟨i, hi, rfl⟩ := Array.mem_iff_getElem.mp hy
  exact gw.bare i _ (by show s₁.gens.size ≤ i; rw [hg]; exact Nat.zero_le _) (Array.getElem?_eq_getElem hi))
