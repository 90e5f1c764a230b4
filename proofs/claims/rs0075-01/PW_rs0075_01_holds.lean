import PyProof.Rows.All
import Wide.All
import OpenK.AllK
import Wide.FinOn
import PySem.Challenge.RW_rs0075_01
set_option Elab.async false
set_option maxRecDepth 100000
section
open PySem PySem.W PyProof.Rows
set_option linter.unusedVariables false
namespace Mine
noncomputable abbrev pw : Program := PySem.Challenge.pw_rs0075_01
noncomputable def noArgs : Arguments := { posonlyargs := [], args := [], vararg := none, kwonlyargs := [], kw_defaults := [], kwarg := none, defaults := [] }
noncomputable def stAt (i : Nat) : Stmt := pw.main.body.getD i (.Pass ⟨0, 0, 0, 0⟩)
noncomputable def dP (i : Nat) : Arguments := match stAt i with | .FunctionDef _ a _ _ _ _ _ _ _ _ => a | _ => noArgs
noncomputable def dB (i : Nat) : List Stmt := match stAt i with | .FunctionDef _ _ b _ _ _ _ _ _ _ => b | _ => []
noncomputable def dS (i : Nat) : Scope := match stAt i with | .FunctionDef _ _ _ _ _ _ s _ _ _ => s | _ => pw.main.scope
noncomputable def lifeZ : Life := {}
noncomputable def ob0 (P : Params) : Obj := ⟨(.type "dict"), none, (.dict #[⟨PyData.keyHash P (Str.ofString "__name__"), (.str (Str.ofString "__name__") 1), (.str (Str.ofString "builtins") 160)⟩, ⟨PyData.keyHash P (Str.ofString "__doc__"), (.str (Str.ofString "__doc__") 2), (.builtin "builtins.__doc__:str#opaque")⟩, ⟨PyData.keyHash P (Str.ofString "__package__"), (.str (Str.ofString "__package__") 3), (.builtin "builtins.__package__:str#opaque")⟩, ⟨PyData.keyHash P (Str.ofString "__loader__"), (.str (Str.ofString "__loader__") 4), (.builtin "builtins.__loader__:shared#opaque")⟩, ⟨PyData.keyHash P (Str.ofString "__spec__"), (.str (Str.ofString "__spec__") 5), (.builtin "builtins.__spec__#opaque")⟩, ⟨PyData.keyHash P (Str.ofString "__build_class__"), (.str (Str.ofString "__build_class__") 6), (.builtin "__build_class__")⟩, ⟨PyData.keyHash P (Str.ofString "__import__"), (.str (Str.ofString "__import__") 7), (.builtin "__import__")⟩, ⟨PyData.keyHash P (Str.ofString "abs"), (.str (Str.ofString "abs") 8), (.builtin "abs")⟩, ⟨PyData.keyHash P (Str.ofString "all"), (.str (Str.ofString "all") 9), (.builtin "all")⟩, ⟨PyData.keyHash P (Str.ofString "any"), (.str (Str.ofString "any") 10), (.builtin "any")⟩, ⟨PyData.keyHash P (Str.ofString "ascii"), (.str (Str.ofString "ascii") 11), (.builtin "ascii")⟩, ⟨PyData.keyHash P (Str.ofString "bin"), (.str (Str.ofString "bin") 12), (.builtin "bin")⟩, ⟨PyData.keyHash P (Str.ofString "breakpoint"), (.str (Str.ofString "breakpoint") 13), (.builtin "breakpoint")⟩, ⟨PyData.keyHash P (Str.ofString "callable"), (.str (Str.ofString "callable") 14), (.builtin "callable")⟩, ⟨PyData.keyHash P (Str.ofString "chr"), (.str (Str.ofString "chr") 15), (.builtin "chr")⟩, ⟨PyData.keyHash P (Str.ofString "compile"), (.str (Str.ofString "compile") 16), (.builtin "compile")⟩, ⟨PyData.keyHash P (Str.ofString "delattr"), (.str (Str.ofString "delattr") 17), (.builtin "delattr")⟩, ⟨PyData.keyHash P (Str.ofString "dir"), (.str (Str.ofString "dir") 18), (.builtin "dir")⟩, ⟨PyData.keyHash P (Str.ofString "divmod"), (.str (Str.ofString "divmod") 19), (.builtin "divmod")⟩, ⟨PyData.keyHash P (Str.ofString "eval"), (.str (Str.ofString "eval") 20), (.builtin "eval")⟩, ⟨PyData.keyHash P (Str.ofString "exec"), (.str (Str.ofString "exec") 21), (.builtin "exec")⟩, ⟨PyData.keyHash P (Str.ofString "format"), (.str (Str.ofString "format") 22), (.builtin "format")⟩, ⟨PyData.keyHash P (Str.ofString "getattr"), (.str (Str.ofString "getattr") 23), (.builtin "getattr")⟩, ⟨PyData.keyHash P (Str.ofString "globals"), (.str (Str.ofString "globals") 24), (.builtin "globals")⟩, ⟨PyData.keyHash P (Str.ofString "hasattr"), (.str (Str.ofString "hasattr") 25), (.builtin "hasattr")⟩, ⟨PyData.keyHash P (Str.ofString "hash"), (.str (Str.ofString "hash") 26), (.builtin "hash")⟩, ⟨PyData.keyHash P (Str.ofString "hex"), (.str (Str.ofString "hex") 27), (.builtin "hex")⟩, ⟨PyData.keyHash P (Str.ofString "id"), (.str (Str.ofString "id") 28), (.builtin "id")⟩, ⟨PyData.keyHash P (Str.ofString "input"), (.str (Str.ofString "input") 29), (.builtin "input")⟩, ⟨PyData.keyHash P (Str.ofString "isinstance"), (.str (Str.ofString "isinstance") 30), (.builtin "isinstance")⟩, ⟨PyData.keyHash P (Str.ofString "issubclass"), (.str (Str.ofString "issubclass") 31), (.builtin "issubclass")⟩, ⟨PyData.keyHash P (Str.ofString "iter"), (.str (Str.ofString "iter") 32), (.builtin "iter")⟩, ⟨PyData.keyHash P (Str.ofString "aiter"), (.str (Str.ofString "aiter") 33), (.builtin "aiter")⟩, ⟨PyData.keyHash P (Str.ofString "len"), (.str (Str.ofString "len") 34), (.builtin "len")⟩, ⟨PyData.keyHash P (Str.ofString "locals"), (.str (Str.ofString "locals") 35), (.builtin "locals")⟩, ⟨PyData.keyHash P (Str.ofString "max"), (.str (Str.ofString "max") 36), (.builtin "max")⟩, ⟨PyData.keyHash P (Str.ofString "min"), (.str (Str.ofString "min") 37), (.builtin "min")⟩, ⟨PyData.keyHash P (Str.ofString "next"), (.str (Str.ofString "next") 38), (.builtin "next")⟩, ⟨PyData.keyHash P (Str.ofString "anext"), (.str (Str.ofString "anext") 39), (.builtin "anext")⟩, ⟨PyData.keyHash P (Str.ofString "oct"), (.str (Str.ofString "oct") 40), (.builtin "oct")⟩, ⟨PyData.keyHash P (Str.ofString "ord"), (.str (Str.ofString "ord") 41), (.builtin "ord")⟩, ⟨PyData.keyHash P (Str.ofString "pow"), (.str (Str.ofString "pow") 42), (.builtin "pow")⟩, ⟨PyData.keyHash P (Str.ofString "print"), (.str (Str.ofString "print") 43), (.builtin "print")⟩, ⟨PyData.keyHash P (Str.ofString "repr"), (.str (Str.ofString "repr") 44), (.builtin "repr")⟩, ⟨PyData.keyHash P (Str.ofString "round"), (.str (Str.ofString "round") 45), (.builtin "round")⟩, ⟨PyData.keyHash P (Str.ofString "setattr"), (.str (Str.ofString "setattr") 46), (.builtin "setattr")⟩, ⟨PyData.keyHash P (Str.ofString "sorted"), (.str (Str.ofString "sorted") 47), (.builtin "sorted")⟩, ⟨PyData.keyHash P (Str.ofString "sum"), (.str (Str.ofString "sum") 48), (.builtin "sum")⟩, ⟨PyData.keyHash P (Str.ofString "vars"), (.str (Str.ofString "vars") 49), (.builtin "vars")⟩, ⟨PyData.keyHash P (Str.ofString "None"), (.str (Str.ofString "None") 50), .none⟩, ⟨PyData.keyHash P (Str.ofString "Ellipsis"), (.str (Str.ofString "Ellipsis") 51), .ellipsis⟩, ⟨PyData.keyHash P (Str.ofString "NotImplemented"), (.str (Str.ofString "NotImplemented") 52), .notImplemented⟩, ⟨PyData.keyHash P (Str.ofString "False"), (.str (Str.ofString "False") 53), (.bool false)⟩, ⟨PyData.keyHash P (Str.ofString "True"), (.str (Str.ofString "True") 54), (.bool true)⟩, ⟨PyData.keyHash P (Str.ofString "bool"), (.str (Str.ofString "bool") 55), (.type "bool")⟩, ⟨PyData.keyHash P (Str.ofString "memoryview"), (.str (Str.ofString "memoryview") 56), (.type "memoryview")⟩, ⟨PyData.keyHash P (Str.ofString "bytearray"), (.str (Str.ofString "bytearray") 57), (.type "bytearray")⟩, ⟨PyData.keyHash P (Str.ofString "bytes"), (.str (Str.ofString "bytes") 58), (.type "bytes")⟩, ⟨PyData.keyHash P (Str.ofString "classmethod"), (.str (Str.ofString "classmethod") 59), (.type "classmethod")⟩, ⟨PyData.keyHash P (Str.ofString "complex"), (.str (Str.ofString "complex") 60), (.type "complex")⟩, ⟨PyData.keyHash P (Str.ofString "dict"), (.str (Str.ofString "dict") 61), (.type "dict")⟩, ⟨PyData.keyHash P (Str.ofString "enumerate"), (.str (Str.ofString "enumerate") 62), (.type "enumerate")⟩, ⟨PyData.keyHash P (Str.ofString "filter"), (.str (Str.ofString "filter") 63), (.type "filter")⟩, ⟨PyData.keyHash P (Str.ofString "float"), (.str (Str.ofString "float") 64), (.type "float")⟩, ⟨PyData.keyHash P (Str.ofString "frozenset"), (.str (Str.ofString "frozenset") 65), (.type "frozenset")⟩, ⟨PyData.keyHash P (Str.ofString "property"), (.str (Str.ofString "property") 66), (.type "property")⟩, ⟨PyData.keyHash P (Str.ofString "int"), (.str (Str.ofString "int") 67), (.type "int")⟩, ⟨PyData.keyHash P (Str.ofString "list"), (.str (Str.ofString "list") 68), (.type "list")⟩, ⟨PyData.keyHash P (Str.ofString "map"), (.str (Str.ofString "map") 69), (.type "map")⟩, ⟨PyData.keyHash P (Str.ofString "object"), (.str (Str.ofString "object") 70), (.type "object")⟩, ⟨PyData.keyHash P (Str.ofString "range"), (.str (Str.ofString "range") 71), (.type "range")⟩, ⟨PyData.keyHash P (Str.ofString "reversed"), (.str (Str.ofString "reversed") 72), (.type "reversed")⟩, ⟨PyData.keyHash P (Str.ofString "set"), (.str (Str.ofString "set") 73), (.type "set")⟩, ⟨PyData.keyHash P (Str.ofString "slice"), (.str (Str.ofString "slice") 74), (.type "slice")⟩, ⟨PyData.keyHash P (Str.ofString "staticmethod"), (.str (Str.ofString "staticmethod") 75), (.type "staticmethod")⟩, ⟨PyData.keyHash P (Str.ofString "str"), (.str (Str.ofString "str") 76), (.type "str")⟩, ⟨PyData.keyHash P (Str.ofString "super"), (.str (Str.ofString "super") 77), (.type "super")⟩, ⟨PyData.keyHash P (Str.ofString "tuple"), (.str (Str.ofString "tuple") 78), (.type "tuple")⟩, ⟨PyData.keyHash P (Str.ofString "type"), (.str (Str.ofString "type") 79), (.type "type")⟩, ⟨PyData.keyHash P (Str.ofString "zip"), (.str (Str.ofString "zip") 80), (.type "zip")⟩, ⟨PyData.keyHash P (Str.ofString "__debug__"), (.str (Str.ofString "__debug__") 81), (.bool true)⟩, ⟨PyData.keyHash P (Str.ofString "BaseException"), (.str (Str.ofString "BaseException") 82), (.type "BaseException")⟩, ⟨PyData.keyHash P (Str.ofString "BaseExceptionGroup"), (.str (Str.ofString "BaseExceptionGroup") 83), (.type "BaseExceptionGroup")⟩, ⟨PyData.keyHash P (Str.ofString "Exception"), (.str (Str.ofString "Exception") 84), (.type "Exception")⟩, ⟨PyData.keyHash P (Str.ofString "GeneratorExit"), (.str (Str.ofString "GeneratorExit") 85), (.type "GeneratorExit")⟩, ⟨PyData.keyHash P (Str.ofString "KeyboardInterrupt"), (.str (Str.ofString "KeyboardInterrupt") 86), (.type "KeyboardInterrupt")⟩, ⟨PyData.keyHash P (Str.ofString "SystemExit"), (.str (Str.ofString "SystemExit") 87), (.type "SystemExit")⟩, ⟨PyData.keyHash P (Str.ofString "ArithmeticError"), (.str (Str.ofString "ArithmeticError") 88), (.type "ArithmeticError")⟩, ⟨PyData.keyHash P (Str.ofString "AssertionError"), (.str (Str.ofString "AssertionError") 89), (.type "AssertionError")⟩, ⟨PyData.keyHash P (Str.ofString "AttributeError"), (.str (Str.ofString "AttributeError") 90), (.type "AttributeError")⟩, ⟨PyData.keyHash P (Str.ofString "BufferError"), (.str (Str.ofString "BufferError") 91), (.type "BufferError")⟩, ⟨PyData.keyHash P (Str.ofString "EOFError"), (.str (Str.ofString "EOFError") 92), (.type "EOFError")⟩, ⟨PyData.keyHash P (Str.ofString "ImportError"), (.str (Str.ofString "ImportError") 93), (.type "ImportError")⟩, ⟨PyData.keyHash P (Str.ofString "LookupError"), (.str (Str.ofString "LookupError") 94), (.type "LookupError")⟩, ⟨PyData.keyHash P (Str.ofString "MemoryError"), (.str (Str.ofString "MemoryError") 95), (.type "MemoryError")⟩, ⟨PyData.keyHash P (Str.ofString "NameError"), (.str (Str.ofString "NameError") 96), (.type "NameError")⟩, ⟨PyData.keyHash P (Str.ofString "OSError"), (.str (Str.ofString "OSError") 97), (.type "OSError")⟩, ⟨PyData.keyHash P (Str.ofString "ReferenceError"), (.str (Str.ofString "ReferenceError") 98), (.type "ReferenceError")⟩, ⟨PyData.keyHash P (Str.ofString "RuntimeError"), (.str (Str.ofString "RuntimeError") 99), (.type "RuntimeError")⟩, ⟨PyData.keyHash P (Str.ofString "StopAsyncIteration"), (.str (Str.ofString "StopAsyncIteration") 100), (.type "StopAsyncIteration")⟩, ⟨PyData.keyHash P (Str.ofString "StopIteration"), (.str (Str.ofString "StopIteration") 101), (.type "StopIteration")⟩, ⟨PyData.keyHash P (Str.ofString "SyntaxError"), (.str (Str.ofString "SyntaxError") 102), (.type "SyntaxError")⟩, ⟨PyData.keyHash P (Str.ofString "SystemError"), (.str (Str.ofString "SystemError") 103), (.type "SystemError")⟩, ⟨PyData.keyHash P (Str.ofString "TypeError"), (.str (Str.ofString "TypeError") 104), (.type "TypeError")⟩, ⟨PyData.keyHash P (Str.ofString "ValueError"), (.str (Str.ofString "ValueError") 105), (.type "ValueError")⟩, ⟨PyData.keyHash P (Str.ofString "Warning"), (.str (Str.ofString "Warning") 106), (.type "Warning")⟩, ⟨PyData.keyHash P (Str.ofString "FloatingPointError"), (.str (Str.ofString "FloatingPointError") 107), (.type "FloatingPointError")⟩, ⟨PyData.keyHash P (Str.ofString "OverflowError"), (.str (Str.ofString "OverflowError") 108), (.type "OverflowError")⟩, ⟨PyData.keyHash P (Str.ofString "ZeroDivisionError"), (.str (Str.ofString "ZeroDivisionError") 109), (.type "ZeroDivisionError")⟩, ⟨PyData.keyHash P (Str.ofString "BytesWarning"), (.str (Str.ofString "BytesWarning") 110), (.type "BytesWarning")⟩, ⟨PyData.keyHash P (Str.ofString "DeprecationWarning"), (.str (Str.ofString "DeprecationWarning") 111), (.type "DeprecationWarning")⟩, ⟨PyData.keyHash P (Str.ofString "EncodingWarning"), (.str (Str.ofString "EncodingWarning") 112), (.type "EncodingWarning")⟩, ⟨PyData.keyHash P (Str.ofString "FutureWarning"), (.str (Str.ofString "FutureWarning") 113), (.type "FutureWarning")⟩, ⟨PyData.keyHash P (Str.ofString "ImportWarning"), (.str (Str.ofString "ImportWarning") 114), (.type "ImportWarning")⟩, ⟨PyData.keyHash P (Str.ofString "PendingDeprecationWarning"), (.str (Str.ofString "PendingDeprecationWarning") 115), (.type "PendingDeprecationWarning")⟩, ⟨PyData.keyHash P (Str.ofString "ResourceWarning"), (.str (Str.ofString "ResourceWarning") 116), (.type "ResourceWarning")⟩, ⟨PyData.keyHash P (Str.ofString "RuntimeWarning"), (.str (Str.ofString "RuntimeWarning") 117), (.type "RuntimeWarning")⟩, ⟨PyData.keyHash P (Str.ofString "SyntaxWarning"), (.str (Str.ofString "SyntaxWarning") 118), (.type "SyntaxWarning")⟩, ⟨PyData.keyHash P (Str.ofString "UnicodeWarning"), (.str (Str.ofString "UnicodeWarning") 119), (.type "UnicodeWarning")⟩, ⟨PyData.keyHash P (Str.ofString "UserWarning"), (.str (Str.ofString "UserWarning") 120), (.type "UserWarning")⟩, ⟨PyData.keyHash P (Str.ofString "BlockingIOError"), (.str (Str.ofString "BlockingIOError") 121), (.type "BlockingIOError")⟩, ⟨PyData.keyHash P (Str.ofString "ChildProcessError"), (.str (Str.ofString "ChildProcessError") 122), (.type "ChildProcessError")⟩, ⟨PyData.keyHash P (Str.ofString "ConnectionError"), (.str (Str.ofString "ConnectionError") 123), (.type "ConnectionError")⟩, ⟨PyData.keyHash P (Str.ofString "FileExistsError"), (.str (Str.ofString "FileExistsError") 124), (.type "FileExistsError")⟩, ⟨PyData.keyHash P (Str.ofString "FileNotFoundError"), (.str (Str.ofString "FileNotFoundError") 125), (.type "FileNotFoundError")⟩, ⟨PyData.keyHash P (Str.ofString "InterruptedError"), (.str (Str.ofString "InterruptedError") 126), (.type "InterruptedError")⟩, ⟨PyData.keyHash P (Str.ofString "IsADirectoryError"), (.str (Str.ofString "IsADirectoryError") 127), (.type "IsADirectoryError")⟩, ⟨PyData.keyHash P (Str.ofString "NotADirectoryError"), (.str (Str.ofString "NotADirectoryError") 128), (.type "NotADirectoryError")⟩, ⟨PyData.keyHash P (Str.ofString "PermissionError"), (.str (Str.ofString "PermissionError") 129), (.type "PermissionError")⟩, ⟨PyData.keyHash P (Str.ofString "ProcessLookupError"), (.str (Str.ofString "ProcessLookupError") 130), (.type "ProcessLookupError")⟩, ⟨PyData.keyHash P (Str.ofString "TimeoutError"), (.str (Str.ofString "TimeoutError") 131), (.type "TimeoutError")⟩, ⟨PyData.keyHash P (Str.ofString "IndentationError"), (.str (Str.ofString "IndentationError") 132), (.type "IndentationError")⟩, ⟨PyData.keyHash P (Str.ofString "_IncompleteInputError"), (.str (Str.ofString "_IncompleteInputError") 133), (.type "_IncompleteInputError")⟩, ⟨PyData.keyHash P (Str.ofString "IndexError"), (.str (Str.ofString "IndexError") 134), (.type "IndexError")⟩, ⟨PyData.keyHash P (Str.ofString "KeyError"), (.str (Str.ofString "KeyError") 135), (.type "KeyError")⟩, ⟨PyData.keyHash P (Str.ofString "ModuleNotFoundError"), (.str (Str.ofString "ModuleNotFoundError") 136), (.type "ModuleNotFoundError")⟩, ⟨PyData.keyHash P (Str.ofString "NotImplementedError"), (.str (Str.ofString "NotImplementedError") 137), (.type "NotImplementedError")⟩, ⟨PyData.keyHash P (Str.ofString "PythonFinalizationError"), (.str (Str.ofString "PythonFinalizationError") 138), (.type "PythonFinalizationError")⟩, ⟨PyData.keyHash P (Str.ofString "RecursionError"), (.str (Str.ofString "RecursionError") 139), (.type "RecursionError")⟩, ⟨PyData.keyHash P (Str.ofString "UnboundLocalError"), (.str (Str.ofString "UnboundLocalError") 140), (.type "UnboundLocalError")⟩, ⟨PyData.keyHash P (Str.ofString "UnicodeError"), (.str (Str.ofString "UnicodeError") 141), (.type "UnicodeError")⟩, ⟨PyData.keyHash P (Str.ofString "BrokenPipeError"), (.str (Str.ofString "BrokenPipeError") 142), (.type "BrokenPipeError")⟩, ⟨PyData.keyHash P (Str.ofString "ConnectionAbortedError"), (.str (Str.ofString "ConnectionAbortedError") 143), (.type "ConnectionAbortedError")⟩, ⟨PyData.keyHash P (Str.ofString "ConnectionRefusedError"), (.str (Str.ofString "ConnectionRefusedError") 144), (.type "ConnectionRefusedError")⟩, ⟨PyData.keyHash P (Str.ofString "ConnectionResetError"), (.str (Str.ofString "ConnectionResetError") 145), (.type "ConnectionResetError")⟩, ⟨PyData.keyHash P (Str.ofString "TabError"), (.str (Str.ofString "TabError") 146), (.type "TabError")⟩, ⟨PyData.keyHash P (Str.ofString "UnicodeDecodeError"), (.str (Str.ofString "UnicodeDecodeError") 147), (.type "UnicodeDecodeError")⟩, ⟨PyData.keyHash P (Str.ofString "UnicodeEncodeError"), (.str (Str.ofString "UnicodeEncodeError") 148), (.type "UnicodeEncodeError")⟩, ⟨PyData.keyHash P (Str.ofString "UnicodeTranslateError"), (.str (Str.ofString "UnicodeTranslateError") 149), (.type "UnicodeTranslateError")⟩, ⟨PyData.keyHash P (Str.ofString "ExceptionGroup"), (.str (Str.ofString "ExceptionGroup") 150), (.type "ExceptionGroup")⟩, ⟨PyData.keyHash P (Str.ofString "EnvironmentError"), (.str (Str.ofString "EnvironmentError") 151), (.type "OSError")⟩, ⟨PyData.keyHash P (Str.ofString "IOError"), (.str (Str.ofString "IOError") 152), (.type "OSError")⟩, ⟨PyData.keyHash P (Str.ofString "open"), (.str (Str.ofString "open") 153), (.builtin "open")⟩, ⟨PyData.keyHash P (Str.ofString "quit"), (.str (Str.ofString "quit") 154), (.builtin "builtins.quit#opaque")⟩, ⟨PyData.keyHash P (Str.ofString "exit"), (.str (Str.ofString "exit") 155), (.builtin "builtins.exit#opaque")⟩, ⟨PyData.keyHash P (Str.ofString "copyright"), (.str (Str.ofString "copyright") 156), (.builtin "builtins.copyright#opaque")⟩, ⟨PyData.keyHash P (Str.ofString "credits"), (.str (Str.ofString "credits") 157), (.builtin "builtins.credits#opaque")⟩, ⟨PyData.keyHash P (Str.ofString "license"), (.str (Str.ofString "license") 158), (.builtin "builtins.license#opaque")⟩, ⟨PyData.keyHash P (Str.ofString "help"), (.str (Str.ofString "help") 159), (.builtin "builtins.help#opaque")⟩] 159), #[]⟩
noncomputable def ob1 (P : Params) : Obj := ⟨(.type "dict"), none, (.dict #[⟨PyData.keyHash P (Str.ofString "builtins"), (.str (Str.ofString "builtins") 162), (.ref 4)⟩, ⟨PyData.keyHash P (Str.ofString "__main__"), (.str (Str.ofString "__main__") 163), (.ref 5)⟩, ⟨PyData.keyHash P (Str.ofString "_sre"), (.str (Str.ofString "_sre") 244), (.ref 12)⟩] 3), #[]⟩
noncomputable def ob2 (P : Params) : Obj := ⟨.none, none, (.dict #[⟨PyData.keyHash P (Str.ofString "\x69mport.loaded._sre"), (.str (Str.ofString "\x69mport.loaded._sre") 183), (.bool true)⟩, ⟨PyData.keyHash P (Str.ofString "class._frozen_importlib.BuiltinImporter"), (.str (Str.ofString "class._frozen_importlib.BuiltinImporter") 185), (.ref 14)⟩, ⟨PyData.keyHash P (Str.ofString "watched.\x69mport"), (.str (Str.ofString "watched.\x69mport") 206), (.ref 18)⟩, ⟨PyData.keyHash P (Str.ofString "class._frozen_importlib.ModuleSpec"), (.str (Str.ofString "class._frozen_importlib.ModuleSpec") 216), (.ref 22)⟩, ⟨PyData.keyHash P (Str.ofString "sys.modules.booked-epoch"), (.str (Str.ofString "sys.modules.booked-epoch") 245), (.int 3 0)⟩, ⟨PyData.keyHash P (Str.ofString "\x69mport.later-laid._sre"), (.str (Str.ofString "\x69mport.later-laid._sre") 270), (.bool true)⟩, ⟨PyData.keyHash P (Str.ofString "watched.library"), (.str (Str.ofString "watched.library") 272), (.ref 27)⟩, ⟨PyData.keyHash P (Str.ofString "watched.library-objects"), (.str (Str.ofString "watched.library-objects") 0), (.str (Str.mk #[12]) 0)⟩, ⟨PyData.keyHash P (Str.ofString "watched.library-deep._sre"), (.str (Str.ofString "watched.library-deep._sre") 273), (.str (Str.mk #[4, 0, 0, 11, 4, 0, 0, 11, 4, 0, 0, 3, 4, 0, 0, 11, 8, 4, 100, 105, 99, 116, 2]) 0)⟩] 9), #[]⟩
noncomputable def ob3 (P : Params) : Obj := ⟨(.type "dict"), none, (.dict #[⟨PyData.keyHash P (Str.ofString "__name__"), (.str (Str.ofString "__name__") 165), (.str (Str.ofString "__main__") 164)⟩, ⟨PyData.keyHash P (Str.ofString "__doc__"), (.str (Str.ofString "__doc__") 166), .none⟩, ⟨PyData.keyHash P (Str.ofString "__package__"), (.str (Str.ofString "__package__") 167), .none⟩, ⟨PyData.keyHash P (Str.ofString "__loader__"), (.str (Str.ofString "__loader__") 168), (.builtin "__main__.__loader__#opaque")⟩, ⟨PyData.keyHash P (Str.ofString "__spec__"), (.str (Str.ofString "__spec__") 169), .none⟩, ⟨PyData.keyHash P (Str.ofString "__annotations__"), (.str (Str.ofString "__annotations__") 170), (.ref 6)⟩, ⟨PyData.keyHash P (Str.ofString "__builtins__"), (.str (Str.ofString "__builtins__") 171), (.ref 4)⟩, ⟨PyData.keyHash P (Str.ofString "__file__"), (.str (Str.ofString "__file__") 173), (.str (Str.ofString "/claim/cut.py") 172)⟩, ⟨PyData.keyHash P (Str.ofString "__cached__"), (.str (Str.ofString "__cached__") 174), .none⟩, ⟨PyData.keyHash P (Str.ofString "_sre"), (.str (Str.ofString "_sre") 275), (.ref 12)⟩] 10), #[]⟩
noncomputable def ob4 (P : Params) : Obj := ⟨(.type "module"), (some 0), .plain, #[]⟩
noncomputable def ob5 (P : Params) : Obj := ⟨(.type "module"), (some 3), .plain, #[]⟩
noncomputable def ob6 (P : Params) : Obj := ⟨(.type "dict"), none, (.dict #[] 0), #[]⟩
noncomputable def ob7 (P : Params) : Obj := ⟨(.type "tuple"), none, (.seq #[] 0), #[]⟩
noncomputable def ob8 (P : Params) : Obj := ⟨.none, none, (.fields #[]), #[]⟩
noncomputable def ob9 (P : Params) : Obj := ⟨(.type "code"), none, (.fields #[(.str (Str.ofString "<module>") 176), (.str (Str.ofString "<module>") 177), (.str (Str.ofString "/claim/cut.py") 178), (.int 1 0), (.int 0 0), (.int 0 0), (.int 0 0), (.int 0 0), (.ref 7), (.bool false), (.int 175 0), (.ref 8), .none, .none, .none, .none, (.int 179 0), (.int 1 0), (.str (Str.ofString "/claim/cut.py") 180)]), #[]⟩
noncomputable def ob10 (P : Params) : Obj := ⟨(.type "frame"), none, .plain, #[(some (.ref 9)), (some (.ref 3)), (some (.ref 3)), none, (some (.str (Str.ofString "__main__") 164)), none, (some (.ref 0))]⟩
noncomputable def ob11 (P : Params) : Obj := ⟨(.type "dict"), none, (.dict #[⟨PyData.keyHash P (Str.ofString "__name__"), (.str (Str.ofString "__name__") 247), (.str (Str.ofString "_sre") 246)⟩, ⟨PyData.keyHash P (Str.ofString "__doc__"), (.str (Str.ofString "__doc__") 248), .none⟩, ⟨PyData.keyHash P (Str.ofString "__package__"), (.str (Str.ofString "__package__") 250), (.str (Str.ofString "") 249)⟩, ⟨PyData.keyHash P (Str.ofString "__loader__"), (.str (Str.ofString "__loader__") 251), (.builtin "off-the-table:_sre.__loader__:shared#opaque")⟩, ⟨PyData.keyHash P (Str.ofString "__spec__"), (.str (Str.ofString "__spec__") 252), (.builtin "off-the-table:_sre.__spec__:shared#opaque")⟩, ⟨PyData.keyHash P (Str.ofString "compile"), (.str (Str.ofString "compile") 253), (.builtin "_sre.compile")⟩, ⟨PyData.keyHash P (Str.ofString "template"), (.str (Str.ofString "template") 254), (.builtin "off-the-table:_sre.template:shared#opaque")⟩, ⟨PyData.keyHash P (Str.ofString "getcodesize"), (.str (Str.ofString "getcodesize") 255), (.builtin "off-the-table:_sre.getcodesize:shared#opaque")⟩, ⟨PyData.keyHash P (Str.ofString "ascii_iscased"), (.str (Str.ofString "ascii_iscased") 256), (.builtin "off-the-table:_sre.ascii_iscased:shared#opaque")⟩, ⟨PyData.keyHash P (Str.ofString "unicode_iscased"), (.str (Str.ofString "unicode_iscased") 257), (.builtin "off-the-table:_sre.unicode_iscased:shared#opaque")⟩, ⟨PyData.keyHash P (Str.ofString "ascii_tolower"), (.str (Str.ofString "ascii_tolower") 258), (.builtin "off-the-table:_sre.ascii_tolower:shared#opaque")⟩, ⟨PyData.keyHash P (Str.ofString "unicode_tolower"), (.str (Str.ofString "unicode_tolower") 259), (.builtin "off-the-table:_sre.unicode_tolower:shared#opaque")⟩, ⟨PyData.keyHash P (Str.ofString "MAGIC"), (.str (Str.ofString "MAGIC") 261), (.int 20230612 260)⟩, ⟨PyData.keyHash P (Str.ofString "CODESIZE"), (.str (Str.ofString "CODESIZE") 263), (.int 4 262)⟩, ⟨PyData.keyHash P (Str.ofString "MAXREPEAT"), (.str (Str.ofString "MAXREPEAT") 265), (.int 4294967295 264)⟩, ⟨PyData.keyHash P (Str.ofString "MAXGROUPS"), (.str (Str.ofString "MAXGROUPS") 267), (.int 1073741823 266)⟩, ⟨PyData.keyHash P (Str.ofString "copyright"), (.str (Str.ofString "copyright") 269), (.str (Str.ofString " SRE 2.2.2 Copyright (c) 1997-2002 by Secret Labs AB ") 268)⟩] 17), #[]⟩
noncomputable def ob12 (P : Params) : Obj := ⟨(.type "module"), (some 11), .plain, #[]⟩
noncomputable def ob13 (P : Params) : Obj := ⟨(.type "dict"), none, (.dict #[⟨PyData.keyHash P (Str.ofString "__module__"), (.str (Str.ofString "__module__") 189), (.str (Str.ofString "_frozen_importlib") 186)⟩, ⟨PyData.keyHash P (Str.ofString "__firstlineno__"), (.str (Str.ofString "__firstlineno__") 190), (.int 971 187)⟩, ⟨PyData.keyHash P (Str.ofString "__doc__"), (.str (Str.ofString "__doc__") 191), (.builtin "_frozen_importlib.BuiltinImporter.__doc__:str#opaque")⟩, ⟨PyData.keyHash P (Str.ofString "_ORIGIN"), (.str (Str.ofString "_ORIGIN") 192), (.str (Str.ofString "built-in") 188)⟩, ⟨PyData.keyHash P (Str.ofString "find_spec"), (.str (Str.ofString "find_spec") 193), (.builtin "_frozen_importlib.BuiltinImporter.find_spec#opaque")⟩, ⟨PyData.keyHash P (Str.ofString "create_module"), (.str (Str.ofString "create_module") 194), (.builtin "_frozen_importlib.BuiltinImporter.create_module#opaque")⟩, ⟨PyData.keyHash P (Str.ofString "exec_module"), (.str (Str.ofString "exec_module") 195), (.builtin "_frozen_importlib.BuiltinImporter.exec_module#opaque")⟩, ⟨PyData.keyHash P (Str.ofString "get_code"), (.str (Str.ofString "get_code") 196), (.builtin "_frozen_importlib.BuiltinImporter.get_code#opaque")⟩, ⟨PyData.keyHash P (Str.ofString "get_source"), (.str (Str.ofString "get_source") 197), (.builtin "_frozen_importlib.BuiltinImporter.get_source#opaque")⟩, ⟨PyData.keyHash P (Str.ofString "is_package"), (.str (Str.ofString "is_package") 198), (.builtin "_frozen_importlib.BuiltinImporter.is_package#opaque")⟩, ⟨PyData.keyHash P (Str.ofString "load_module"), (.str (Str.ofString "load_module") 199), (.builtin "_frozen_importlib.BuiltinImporter.load_module#opaque")⟩, ⟨PyData.keyHash P (Str.ofString "__static_attributes__"), (.str (Str.ofString "__static_attributes__") 200), (.ref 15)⟩, ⟨PyData.keyHash P (Str.ofString "__dict__"), (.str (Str.ofString "__dict__") 202), (.ref 16)⟩, ⟨PyData.keyHash P (Str.ofString "__weakref__"), (.str (Str.ofString "__weakref__") 204), (.ref 17)⟩] 14), #[]⟩
noncomputable def ob14 (P : Params) : Obj := ⟨(.type "type"), none, (.cls { name := (Str.ofString "BuiltinImporter"), bases := [(.type "object")], mro := [(.ref 14), (.type "object")], ns := 13, qualname := (Str.ofString "BuiltinImporter"), hasDict := true, slotNames := [], subclasses := [], abstract := false, collection := none, hasDel := false }), #[]⟩
noncomputable def ob15 (P : Params) : Obj := ⟨(.type "tuple"), none, (.seq #[] 0), #[]⟩
noncomputable def ob16 (P : Params) : Obj := ⟨(.type "getset_descriptor"), none, (.fields #[(.str (Str.ofString "__dict__") 201), (.ref 14), (.builtin "function.__dict__"), (.builtin "function.__dict__#set")]), #[]⟩
noncomputable def ob17 (P : Params) : Obj := ⟨(.type "getset_descriptor"), none, (.fields #[(.str (Str.ofString "__weakref__") 203), (.ref 14), (.builtin "ExceptionGroup.__weakref__"), .none]), #[]⟩
noncomputable def ob18 (P : Params) : Obj := ⟨.none, none, (.seq #[(.int 13 0), (.str (Str.mk #[6, 189, 10, 95, 95, 109, 111, 100, 117, 108, 101, 95, 95, 6, 186, 17, 95, 102, 114, 111, 122, 101, 110, 95, 105, 109, 112, 111, 114, 116, 108, 105, 98, 6, 190, 15, 95, 95, 102, 105, 114, 115, 116, 108, 105, 110, 101, 110, 111, 95, 95, 4, 187, 0, 971, 6, 191, 7, 95, 95, 100, 111, 99, 95, 95, 9, 52, 95, 102, 114, 111, 122, 101, 110, 95, 105, 109, 112, 111, 114, 116, 108, 105, 98, 46, 66, 117, 105, 108, 116, 105, 110, 73, 109, 112, 111, 114, 116, 101, 114, 46, 95, 95, 100, 111, 99, 95, 95, 58, 115, 116, 114, 35, 111, 112, 97, 113, 117, 101, 6, 192, 7, 95, 79, 82, 73, 71, 73, 78, 6, 188, 8, 98, 117, 105, 108, 116, 45, 105, 110, 6, 193, 9, 102, 105, 110, 100, 95, 115, 112, 101, 99, 9, 50, 95, 102, 114, 111, 122, 101, 110, 95, 105, 109, 112, 111, 114, 116, 108, 105, 98, 46, 66, 117, 105, 108, 116, 105, 110, 73, 109, 112, 111, 114, 116, 101, 114, 46, 102, 105, 110, 100, 95, 115, 112, 101, 99, 35, 111, 112, 97, 113, 117, 101, 6, 194, 13, 99, 114, 101, 97, 116, 101, 95, 109, 111, 100, 117, 108, 101, 9, 54, 95, 102, 114, 111, 122, 101, 110, 95, 105, 109, 112, 111, 114, 116, 108, 105, 98, 46, 66, 117, 105, 108, 116, 105, 110, 73, 109, 112, 111, 114, 116, 101, 114, 46, 99, 114, 101, 97, 116, 101, 95, 109, 111, 100, 117, 108, 101, 35, 111, 112, 97, 113, 117, 101, 6, 195, 11, 101, 120, 101, 99, 95, 109, 111, 100, 117, 108, 101, 9, 52, 95, 102, 114, 111, 122, 101, 110, 95, 105, 109, 112, 111, 114, 116, 108, 105, 98, 46, 66, 117, 105, 108, 116, 105, 110, 73, 109, 112, 111, 114, 116, 101, 114, 46, 101, 120, 101, 99, 95, 109, 111, 100, 117, 108, 101, 35, 111, 112, 97, 113, 117, 101, 6, 196, 8, 103, 101, 116, 95, 99, 111, 100, 101, 9, 49, 95, 102, 114, 111, 122, 101, 110, 95, 105, 109, 112, 111, 114, 116, 108, 105, 98, 46, 66, 117, 105, 108, 116, 105, 110, 73, 109, 112, 111, 114, 116, 101, 114, 46, 103, 101, 116, 95, 99, 111, 100, 101, 35, 111, 112, 97, 113, 117, 101, 6, 197, 10, 103, 101, 116, 95, 115, 111, 117, 114, 99, 101, 9, 51, 95, 102, 114, 111, 122, 101, 110, 95, 105, 109, 112, 111, 114, 116, 108, 105, 98, 46, 66, 117, 105, 108, 116, 105, 110, 73, 109, 112, 111, 114, 116, 101, 114, 46, 103, 101, 116, 95, 115, 111, 117, 114, 99, 101, 35, 111, 112, 97, 113, 117, 101, 6, 198, 10, 105, 115, 95, 112, 97, 99, 107, 97, 103, 101, 9, 51, 95, 102, 114, 111, 122, 101, 110, 95, 105, 109, 112, 111, 114, 116, 108, 105, 98, 46, 66, 117, 105, 108, 116, 105, 110, 73, 109, 112, 111, 114, 116, 101, 114, 46, 105, 115, 95, 112, 97, 99, 107, 97, 103, 101, 35, 111, 112, 97, 113, 117, 101, 6, 199, 11, 108, 111, 97, 100, 95, 109, 111, 100, 117, 108, 101, 9, 52, 95, 102, 114, 111, 122, 101, 110, 95, 105, 109, 112, 111, 114, 116, 108, 105, 98, 46, 66, 117, 105, 108, 116, 105, 110, 73, 109, 112, 111, 114, 116, 101, 114, 46, 108, 111, 97, 100, 95, 109, 111, 100, 117, 108, 101, 35, 111, 112, 97, 113, 117, 101, 6, 200, 21, 95, 95, 115, 116, 97, 116, 105, 99, 95, 97, 116, 116, 114, 105, 98, 117, 116, 101, 115, 95, 95, 4, 0, 0, 15, 6, 202, 8, 95, 95, 100, 105, 99, 116, 95, 95, 4, 0, 0, 16, 6, 204, 11, 95, 95, 119, 101, 97, 107, 114, 101, 102, 95, 95, 4, 0, 0, 17]) 0), (.bool true), (.bool true), (.str (Str.ofString "") 205), (.int 21 0), (.str (Str.mk #[6, 227, 10, 95, 95, 109, 111, 100, 117, 108, 101, 95, 95, 6, 217, 17, 95, 102, 114, 111, 122, 101, 110, 95, 105, 109, 112, 111, 114, 116, 108, 105, 98, 6, 228, 15, 95, 95, 102, 105, 114, 115, 116, 108, 105, 110, 101, 110, 111, 95, 95, 4, 218, 0, 562, 6, 229, 7, 95, 95, 100, 111, 99, 95, 95, 9, 47, 95, 102, 114, 111, 122, 101, 110, 95, 105, 109, 112, 111, 114, 116, 108, 105, 98, 46, 77, 111, 100, 117, 108, 101, 83, 112, 101, 99, 46, 95, 95, 100, 111, 99, 95, 95, 58, 115, 116, 114, 35, 111, 112, 97, 113, 117, 101, 6, 230, 8, 95, 95, 105, 110, 105, 116, 95, 95, 9, 44, 95, 102, 114, 111, 122, 101, 110, 95, 105, 109, 112, 111, 114, 116, 108, 105, 98, 46, 77, 111, 100, 117, 108, 101, 83, 112, 101, 99, 46, 95, 95, 105, 110, 105, 116, 95, 95, 35, 111, 112, 97, 113, 117, 101, 6, 231, 8, 95, 95, 114, 101, 112, 114, 95, 95, 9, 44, 95, 102, 114, 111, 122, 101, 110, 95, 105, 109, 112, 111, 114, 116, 108, 105, 98, 46, 77, 111, 100, 117, 108, 101, 83, 112, 101, 99, 46, 95, 95, 114, 101, 112, 114, 95, 95, 35, 111, 112, 97, 113, 117, 101, 6, 232, 6, 95, 95, 101, 113, 95, 95, 9, 42, 95, 102, 114, 111, 122, 101, 110, 95, 105, 109, 112, 111, 114, 116, 108, 105, 98, 46, 77, 111, 100, 117, 108, 101, 83, 112, 101, 99, 46, 95, 95, 101, 113, 95, 95, 35, 111, 112, 97, 113, 117, 101, 6, 233, 6, 99, 97, 99, 104, 101, 100, 9, 42, 95, 102, 114, 111, 122, 101, 110, 95, 105, 109, 112, 111, 114, 116, 108, 105, 98, 46, 77, 111, 100, 117, 108, 101, 83, 112, 101, 99, 46, 99, 97, 99, 104, 101, 100, 35, 111, 112, 97, 113, 117, 101, 6, 234, 6, 112, 97, 114, 101, 110, 116, 9, 42, 95, 102, 114, 111, 122, 101, 110, 95, 105, 109, 112, 111, 114, 116, 108, 105, 98, 46, 77, 111, 100, 117, 108, 101, 83, 112, 101, 99, 46, 112, 97, 114, 101, 110, 116, 35, 111, 112, 97, 113, 117, 101, 6, 235, 12, 104, 97, 115, 95, 108, 111, 99, 97, 116, 105, 111, 110, 9, 48, 95, 102, 114, 111, 122, 101, 110, 95, 105, 109, 112, 111, 114, 116, 108, 105, 98, 46, 77, 111, 100, 117, 108, 101, 83, 112, 101, 99, 46, 104, 97, 115, 95, 108, 111, 99, 97, 116, 105, 111, 110, 35, 111, 112, 97, 113, 117, 101, 6, 236, 21, 95, 95, 115, 116, 97, 116, 105, 99, 95, 97, 116, 116, 114, 105, 98, 117, 116, 101, 115, 95, 95, 4, 0, 0, 23, 6, 238, 8, 95, 95, 100, 105, 99, 116, 95, 95, 4, 0, 0, 24, 6, 240, 11, 95, 95, 119, 101, 97, 107, 114, 101, 102, 95, 95, 4, 0, 0, 25, 6, 241, 8, 95, 95, 104, 97, 115, 104, 95, 95, 0]) 0), (.bool true), (.bool true), (.str (Str.ofString "") 242)] 1), #[]⟩
noncomputable def ob19 (P : Params) : Obj := ⟨(.type "list"), none, (.seq #[] 0), #[]⟩
noncomputable def ob20 (P : Params) : Obj := ⟨(.type "dict"), none, (.dict #[⟨PyData.keyHash P (Str.ofString "name"), (.str (Str.ofString "name") 208), (.str (Str.ofString "_sre") 207)⟩, ⟨PyData.keyHash P (Str.ofString "loader"), (.str (Str.ofString "loader") 209), (.ref 14)⟩, ⟨PyData.keyHash P (Str.ofString "origin"), (.str (Str.ofString "origin") 210), (.str (Str.ofString "built-in") 184)⟩, ⟨PyData.keyHash P (Str.ofString "loader_state"), (.str (Str.ofString "loader_state") 211), .none⟩, ⟨PyData.keyHash P (Str.ofString "submodule_search_locations"), (.str (Str.ofString "submodule_search_locations") 212), .none⟩, ⟨PyData.keyHash P (Str.ofString "_uninitialized_submodules"), (.str (Str.ofString "_uninitialized_submodules") 213), (.ref 19)⟩, ⟨PyData.keyHash P (Str.ofString "_set_fileattr"), (.str (Str.ofString "_set_fileattr") 214), (.bool false)⟩, ⟨PyData.keyHash P (Str.ofString "_cached"), (.str (Str.ofString "_cached") 215), .none⟩, ⟨PyData.keyHash P (Str.ofString "_initializing"), (.str (Str.ofString "_initializing") 243), (.bool false)⟩] 9), #[]⟩
noncomputable def ob21 (P : Params) : Obj := ⟨(.type "dict"), none, (.dict #[⟨PyData.keyHash P (Str.ofString "__module__"), (.str (Str.ofString "__module__") 227), (.str (Str.ofString "_frozen_importlib") 217)⟩, ⟨PyData.keyHash P (Str.ofString "__firstlineno__"), (.str (Str.ofString "__firstlineno__") 228), (.int 562 218)⟩, ⟨PyData.keyHash P (Str.ofString "__doc__"), (.str (Str.ofString "__doc__") 229), (.builtin "_frozen_importlib.ModuleSpec.__doc__:str#opaque")⟩, ⟨PyData.keyHash P (Str.ofString "__init__"), (.str (Str.ofString "__init__") 230), (.builtin "_frozen_importlib.ModuleSpec.__init__#opaque")⟩, ⟨PyData.keyHash P (Str.ofString "__repr__"), (.str (Str.ofString "__repr__") 231), (.builtin "_frozen_importlib.ModuleSpec.__repr__#opaque")⟩, ⟨PyData.keyHash P (Str.ofString "__eq__"), (.str (Str.ofString "__eq__") 232), (.builtin "_frozen_importlib.ModuleSpec.__eq__#opaque")⟩, ⟨PyData.keyHash P (Str.ofString "cached"), (.str (Str.ofString "cached") 233), (.builtin "_frozen_importlib.ModuleSpec.cached#opaque")⟩, ⟨PyData.keyHash P (Str.ofString "parent"), (.str (Str.ofString "parent") 234), (.builtin "_frozen_importlib.ModuleSpec.parent#opaque")⟩, ⟨PyData.keyHash P (Str.ofString "has_location"), (.str (Str.ofString "has_location") 235), (.builtin "_frozen_importlib.ModuleSpec.has_location#opaque")⟩, ⟨PyData.keyHash P (Str.ofString "__static_attributes__"), (.str (Str.ofString "__static_attributes__") 236), (.ref 23)⟩, ⟨PyData.keyHash P (Str.ofString "__dict__"), (.str (Str.ofString "__dict__") 238), (.ref 24)⟩, ⟨PyData.keyHash P (Str.ofString "__weakref__"), (.str (Str.ofString "__weakref__") 240), (.ref 25)⟩, ⟨PyData.keyHash P (Str.ofString "__hash__"), (.str (Str.ofString "__hash__") 241), .none⟩] 13), #[]⟩
noncomputable def ob22 (P : Params) : Obj := ⟨(.type "type"), none, (.cls { name := (Str.ofString "ModuleSpec"), bases := [(.type "object")], mro := [(.ref 22), (.type "object")], ns := 21, qualname := (Str.ofString "ModuleSpec"), hasDict := true, slotNames := [], subclasses := [], abstract := false, collection := none, hasDel := false }), #[]⟩
noncomputable def ob23 (P : Params) : Obj := ⟨(.type "tuple"), none, (.seq #[(.str (Str.ofString "_cached") 219), (.str (Str.ofString "_set_fileattr") 220), (.str (Str.ofString "_uninitialized_submodules") 221), (.str (Str.ofString "loader") 222), (.str (Str.ofString "loader_state") 223), (.str (Str.ofString "name") 224), (.str (Str.ofString "origin") 225), (.str (Str.ofString "submodule_search_locations") 226)] 0), #[]⟩
noncomputable def ob24 (P : Params) : Obj := ⟨(.type "getset_descriptor"), none, (.fields #[(.str (Str.ofString "__dict__") 237), (.ref 22), (.builtin "function.__dict__"), (.builtin "function.__dict__#set")]), #[]⟩
noncomputable def ob25 (P : Params) : Obj := ⟨(.type "getset_descriptor"), none, (.fields #[(.str (Str.ofString "__weakref__") 239), (.ref 22), (.builtin "ExceptionGroup.__weakref__"), .none]), #[]⟩
noncomputable def ob26 (P : Params) : Obj := ⟨(.ref 22), (some 20), .plain, #[]⟩
noncomputable def ob27 (P : Params) : Obj := ⟨.none, none, (.seq #[(.int 11 0), (.str (Str.mk #[6, 247, 8, 95, 95, 110, 97, 109, 101, 95, 95, 6, 246, 4, 95, 115, 114, 101, 6, 248, 7, 95, 95, 100, 111, 99, 95, 95, 0, 6, 250, 11, 95, 95, 112, 97, 99, 107, 97, 103, 101, 95, 95, 6, 249, 0, 6, 251, 10, 95, 95, 108, 111, 97, 100, 101, 114, 95, 95, 4, 0, 0, 14, 6, 252, 8, 95, 95, 115, 112, 101, 99, 95, 95, 4, 0, 0, 26, 6, 253, 7, 99, 111, 109, 112, 105, 108, 101, 9, 12, 95, 115, 114, 101, 46, 99, 111, 109, 112, 105, 108, 101, 6, 254, 8, 116, 101, 109, 112, 108, 97, 116, 101, 9, 13, 95, 115, 114, 101, 46, 116, 101, 109, 112, 108, 97, 116, 101, 6, 255, 11, 103, 101, 116, 99, 111, 100, 101, 115, 105, 122, 101, 9, 16, 95, 115, 114, 101, 46, 103, 101, 116, 99, 111, 100, 101, 115, 105, 122, 101, 6, 256, 13, 97, 115, 99, 105, 105, 95, 105, 115, 99, 97, 115, 101, 100, 9, 18, 95, 115, 114, 101, 46, 97, 115, 99, 105, 105, 95, 105, 115, 99, 97, 115, 101, 100, 6, 257, 15, 117, 110, 105, 99, 111, 100, 101, 95, 105, 115, 99, 97, 115, 101, 100, 9, 20, 95, 115, 114, 101, 46, 117, 110, 105, 99, 111, 100, 101, 95, 105, 115, 99, 97, 115, 101, 100, 6, 258, 13, 97, 115, 99, 105, 105, 95, 116, 111, 108, 111, 119, 101, 114, 9, 18, 95, 115, 114, 101, 46, 97, 115, 99, 105, 105, 95, 116, 111, 108, 111, 119, 101, 114, 6, 259, 15, 117, 110, 105, 99, 111, 100, 101, 95, 116, 111, 108, 111, 119, 101, 114, 9, 20, 95, 115, 114, 101, 46, 117, 110, 105, 99, 111, 100, 101, 95, 116, 111, 108, 111, 119, 101, 114, 6, 261, 5, 77, 65, 71, 73, 67, 4, 260, 0, 20230612, 6, 263, 8, 67, 79, 68, 69, 83, 73, 90, 69, 4, 262, 0, 4, 6, 265, 9, 77, 65, 88, 82, 69, 80, 69, 65, 84, 4, 264, 0, 4294967295, 6, 267, 9, 77, 65, 88, 71, 82, 79, 85, 80, 83, 4, 266, 0, 1073741823, 6, 269, 9, 99, 111, 112, 121, 114, 105, 103, 104, 116, 6, 268, 53, 32, 83, 82, 69, 32, 50, 46, 50, 46, 50, 32, 67, 111, 112, 121, 114, 105, 103, 104, 116, 32, 40, 99, 41, 32, 49, 57, 57, 55, 45, 50, 48, 48, 50, 32, 98, 121, 32, 83, 101, 99, 114, 101, 116, 32, 76, 97, 98, 115, 32, 65, 66, 32]) 0), (.bool true), (.bool false), (.str (Str.ofString "_sre") 271)] 0), #[]⟩
noncomputable def hpZ (P : Params) : Heap := ⟨(Array.mk [ob0 P, ob1 P, ob2 P, ob3 P, ob4 P, ob5 P, ob6 P, ob7 P, ob8 P, ob9 P, ob10 P, ob11 P, ob12 P, ob13 P, ob14 P, ob15 P, ob16 P, ob17 P, ob18 P, ob19 P, ob20 P, ob21 P, ob22 P, ob23 P, ob24 P, ob25 P, ob26 P, ob27 P]), lifeZ⟩
noncomputable def ob28 (P : Params) : Obj := ⟨(.type "tuple"), none, (.seq #[] 0), #[]⟩
noncomputable def ob29 (P : Params) : Obj := ⟨.none, none, (.fields #[]), #[]⟩
noncomputable def ob30 (P : Params) : Obj := ⟨(.type "code"), none, (.fields #[(.str (Str.ofString "<module>") 277), (.str (Str.ofString "<module>") 278), (.str (Str.ofString "/claim/cut.py") 279), (.int 1 0), (.int 0 0), (.int 0 0), (.int 0 0), (.int 0 0), (.ref 28), (.bool false), (.int 276 0), (.ref 29), .none, .none, .none, .none, (.int 280 0), (.int 1 0), (.str (Str.ofString "/claim/cut.py") 281)]), #[]⟩
noncomputable def ob31 (P : Params) : Obj := ⟨(.type "frame"), none, .plain, #[(some (.ref 30)), (some (.ref 3)), (some (.ref 3)), none, (some (.str (Str.ofString "__main__") 164)), none, (some (.ref 0))]⟩
noncomputable def hpA (P : Params) : Heap := ⟨(Array.mk [ob0 P, ob1 P, ob2 P, ob3 P, ob4 P, ob5 P, ob6 P, ob7 P, ob8 P, ob9 P, ob10 P, ob11 P, ob12 P, ob13 P, ob14 P, ob15 P, ob16 P, ob17 P, ob18 P, ob19 P, ob20 P, ob21 P, ob22 P, ob23 P, ob24 P, ob25 P, ob26 P, ob27 P, ob28 P, ob29 P, ob30 P, ob31 P]), lifeZ⟩
noncomputable def trB (P : Params) : BT := (.node (ob0 P) (.node (ob1 P) (.node (ob3 P) (.node (ob7 P) (.node (ob15 P) (.node (ob31 P) .nil .nil) .nil) (.node (ob23 P) .nil .nil)) (.node (ob11 P) (.node (ob19 P) .nil .nil) (.node (ob27 P) .nil .nil))) (.node (ob5 P) (.node (ob9 P) (.node (ob17 P) .nil .nil) (.node (ob25 P) .nil .nil)) (.node (ob13 P) (.node (ob21 P) .nil .nil) (.node (ob29 P) .nil .nil)))) (.node (ob2 P) (.node (ob4 P) (.node (ob8 P) (.node (ob16 P) .nil .nil) (.node (ob24 P) .nil .nil)) (.node (ob12 P) (.node (ob20 P) .nil .nil) (.node (ob28 P) .nil .nil))) (.node (ob6 P) (.node (ob10 P) (.node (ob18 P) .nil .nil) (.node (ob26 P) .nil .nil)) (.node (ob14 P) (.node (ob22 P) .nil .nil) (.node (ob30 P) .nil .nil)))))
noncomputable def ob3v1 (P : Params) : Obj := ⟨(.type "dict"), none, (.dict #[⟨PyData.keyHash P (Str.ofString "__name__"), (.str (Str.ofString "__name__") 165), (.str (Str.ofString "cpy313.stringprep") 282)⟩, ⟨PyData.keyHash P (Str.ofString "__doc__"), (.str (Str.ofString "__doc__") 166), .none⟩, ⟨PyData.keyHash P (Str.ofString "__package__"), (.str (Str.ofString "__package__") 167), .none⟩, ⟨PyData.keyHash P (Str.ofString "__loader__"), (.str (Str.ofString "__loader__") 168), (.builtin "__main__.__loader__#opaque")⟩, ⟨PyData.keyHash P (Str.ofString "__spec__"), (.str (Str.ofString "__spec__") 169), .none⟩, ⟨PyData.keyHash P (Str.ofString "__annotations__"), (.str (Str.ofString "__annotations__") 170), (.ref 6)⟩, ⟨PyData.keyHash P (Str.ofString "__builtins__"), (.str (Str.ofString "__builtins__") 171), (.ref 4)⟩, ⟨PyData.keyHash P (Str.ofString "__file__"), (.str (Str.ofString "__file__") 173), (.str (Str.ofString "/claim/cut.py") 172)⟩, ⟨PyData.keyHash P (Str.ofString "__cached__"), (.str (Str.ofString "__cached__") 174), .none⟩, ⟨PyData.keyHash P (Str.ofString "_sre"), (.str (Str.ofString "_sre") 275), (.ref 12)⟩] 10), #[]⟩
noncomputable def trP0 (P : Params) : BT := (.node (ob0 P) (.node (ob1 P) (.node (ob3v1 P) (.node (ob7 P) (.node (ob15 P) (.node (ob31 P) .nil .nil) .nil) (.node (ob23 P) .nil .nil)) (.node (ob11 P) (.node (ob19 P) .nil .nil) (.node (ob27 P) .nil .nil))) (.node (ob5 P) (.node (ob9 P) (.node (ob17 P) .nil .nil) (.node (ob25 P) .nil .nil)) (.node (ob13 P) (.node (ob21 P) .nil .nil) (.node (ob29 P) .nil .nil)))) (.node (ob2 P) (.node (ob4 P) (.node (ob8 P) (.node (ob16 P) .nil .nil) (.node (ob24 P) .nil .nil)) (.node (ob12 P) (.node (ob20 P) .nil .nil) (.node (ob28 P) .nil .nil))) (.node (ob6 P) (.node (ob10 P) (.node (ob18 P) .nil .nil) (.node (ob26 P) .nil .nil)) (.node (ob14 P) (.node (ob22 P) .nil .nil) (.node (ob30 P) .nil .nil)))))
noncomputable def ob3v2 (P : Params) : Obj := ⟨(.type "dict"), none, (.dict #[⟨PyData.keyHash P (Str.ofString "__name__"), (.str (Str.ofString "__name__") 165), (.str (Str.ofString "cpy313.stringprep") 282)⟩, ⟨PyData.keyHash P (Str.ofString "__doc__"), (.str (Str.ofString "__doc__") 166), .none⟩, ⟨PyData.keyHash P (Str.ofString "__package__"), (.str (Str.ofString "__package__") 167), .none⟩, ⟨PyData.keyHash P (Str.ofString "__loader__"), (.str (Str.ofString "__loader__") 168), (.builtin "__main__.__loader__#opaque")⟩, ⟨PyData.keyHash P (Str.ofString "__spec__"), (.str (Str.ofString "__spec__") 169), .none⟩, ⟨PyData.keyHash P (Str.ofString "__annotations__"), (.str (Str.ofString "__annotations__") 170), (.ref 6)⟩, ⟨PyData.keyHash P (Str.ofString "__builtins__"), (.str (Str.ofString "__builtins__") 171), (.ref 4)⟩, ⟨PyData.keyHash P (Str.ofString "__file__"), (.str (Str.ofString "__file__") 173), (.str (Str.ofString "/claim/cut.py") 172)⟩, ⟨PyData.keyHash P (Str.ofString "__cached__"), (.str (Str.ofString "__cached__") 174), .none⟩, ⟨PyData.keyHash P (Str.ofString "_sre"), (.str (Str.ofString "_sre") 275), (.ref 12)⟩, ⟨PyData.keyHash P (Str.ofString "b1_set"), (.str (Str.ofString "b1_set") 343), (.ref 39)⟩] 11), #[]⟩
noncomputable def ob32 (P : Params) : Obj := ⟨(.type "list"), none, (.seq #[(.int 173 284), (.int 847 285), (.int 6150 286), (.int 6155 287), (.int 6156 288), (.int 6157 289), (.int 8203 290), (.int 8204 291), (.int 8205 292), (.int 8288 293), (.int 65279 294)] 0), #[]⟩
noncomputable def ob33 (P : Params) : Obj := ⟨(.type "range"), none, (.fields #[(.int 65024 295), (.int 65040 296), (.int 1 297)]), #[]⟩
noncomputable def ob34 (P : Params) : Obj := ⟨(.type "list"), none, (.seq #[(.int 65024 300), (.int 65025 301), (.int 65026 302), (.int 65027 303), (.int 65028 304), (.int 65029 305), (.int 65030 306), (.int 65031 307), (.int 65032 308), (.int 65033 309), (.int 65034 310), (.int 65035 311), (.int 65036 312), (.int 65037 313), (.int 65038 314), (.int 65039 315)] 18), #[]⟩
noncomputable def ob35 (P : Params) : Obj := ⟨(.type "range_iterator"), none, (.fields #[(.int 65040 0), (.int 0 0), (.int 1 0)]), #[]⟩
noncomputable def ob36 (P : Params) : Obj := ⟨(.type "tuple"), none, (.seq #[] 0), #[]⟩
noncomputable def ob37 (P : Params) : Obj := ⟨(.type "StopIteration"), none, (.fields #[(.ref 36), .none, .none, .none, (.bool false), .none]), #[]⟩
noncomputable def ob38 (P : Params) : Obj := ⟨(.type "list"), none, (.seq #[(.int 173 284), (.int 847 285), (.int 6150 286), (.int 6155 287), (.int 6156 288), (.int 6157 289), (.int 8203 290), (.int 8204 291), (.int 8205 292), (.int 8288 293), (.int 65279 294), (.int 65024 300), (.int 65025 301), (.int 65026 302), (.int 65027 303), (.int 65028 304), (.int 65029 305), (.int 65030 306), (.int 65031 307), (.int 65032 308), (.int 65033 309), (.int 65034 310), (.int 65035 311), (.int 65036 312), (.int 65037 313), (.int 65038 314), (.int 65039 315)] 0), #[]⟩
noncomputable def ob39 (P : Params) : Obj := ⟨(.type "set"), none, (.set #[(65024, (.int 65024 300)), (65025, (.int 65025 301)), (65026, (.int 65026 302)), (65027, (.int 65027 303)), (65028, (.int 65028 304)), (65029, (.int 65029 305)), (6150, (.int 6150 286)), (65030, (.int 65030 306)), (65031, (.int 65031 307)), (65032, (.int 65032 308)), (65033, (.int 65033 309)), (6155, (.int 6155 287)), (6156, (.int 6156 288)), (6157, (.int 6157 289)), (8203, (.int 8203 290)), (8204, (.int 8204 291)), (8205, (.int 8205 292)), (65034, (.int 65034 310)), (65035, (.int 65035 311)), (65036, (.int 65036 312)), (65037, (.int 65037 313)), (65038, (.int 65038 314)), (65039, (.int 65039 315)), (173, (.int 173 284)), (847, (.int 847 285)), (8288, (.int 8288 293)), (65279, (.int 65279 294))] 29 ⟨127, #[0, 1, 2, 3, 4, 5, 6, 7, 8, 9, 10, 11, 12, 13, 14, 15, 16, 17, 18, 19, 20, 21, 22, 45, 79, 96, 127], #[], 0, (!P.followText "set-order"), 2, true⟩), #[]⟩
noncomputable def ob40 (P : Params) : Obj := ⟨(.type "list_iterator"), none, (.fields #[.none, (.int 27 0)]), #[]⟩
noncomputable def ob41 (P : Params) : Obj := ⟨(.type "tuple"), none, (.seq #[] 0), #[]⟩
noncomputable def ob42 (P : Params) : Obj := ⟨(.type "StopIteration"), none, (.fields #[(.ref 41), .none, .none, .none, (.bool false), .none]), #[]⟩
noncomputable def trP1 (P : Params) : BT := (.node (ob0 P) (.node (ob1 P) (.node (ob3v2 P) (.node (ob7 P) (.node (ob15 P) (.node (ob31 P) .nil .nil) .nil) (.node (ob23 P) (.node (ob39 P) .nil .nil) .nil)) (.node (ob11 P) (.node (ob19 P) (.node (ob35 P) .nil .nil) .nil) (.node (ob27 P) .nil .nil))) (.node (ob5 P) (.node (ob9 P) (.node (ob17 P) (.node (ob33 P) .nil .nil) .nil) (.node (ob25 P) (.node (ob41 P) .nil .nil) .nil)) (.node (ob13 P) (.node (ob21 P) (.node (ob37 P) .nil .nil) .nil) (.node (ob29 P) .nil .nil)))) (.node (ob2 P) (.node (ob4 P) (.node (ob8 P) (.node (ob16 P) (.node (ob32 P) .nil .nil) .nil) (.node (ob24 P) (.node (ob40 P) .nil .nil) .nil)) (.node (ob12 P) (.node (ob20 P) (.node (ob36 P) .nil .nil) .nil) (.node (ob28 P) .nil .nil))) (.node (ob6 P) (.node (ob10 P) (.node (ob18 P) (.node (ob34 P) .nil .nil) .nil) (.node (ob26 P) (.node (ob42 P) .nil .nil) .nil)) (.node (ob14 P) (.node (ob22 P) (.node (ob38 P) .nil .nil) .nil) (.node (ob30 P) .nil .nil)))))
noncomputable def ob3v3 (P : Params) : Obj := ⟨(.type "dict"), none, (.dict #[⟨PyData.keyHash P (Str.ofString "__name__"), (.str (Str.ofString "__name__") 165), (.str (Str.ofString "cpy313._pylong") 351)⟩, ⟨PyData.keyHash P (Str.ofString "__doc__"), (.str (Str.ofString "__doc__") 166), .none⟩, ⟨PyData.keyHash P (Str.ofString "__package__"), (.str (Str.ofString "__package__") 167), .none⟩, ⟨PyData.keyHash P (Str.ofString "__loader__"), (.str (Str.ofString "__loader__") 168), (.builtin "__main__.__loader__#opaque")⟩, ⟨PyData.keyHash P (Str.ofString "__spec__"), (.str (Str.ofString "__spec__") 169), .none⟩, ⟨PyData.keyHash P (Str.ofString "__annotations__"), (.str (Str.ofString "__annotations__") 170), (.ref 6)⟩, ⟨PyData.keyHash P (Str.ofString "__builtins__"), (.str (Str.ofString "__builtins__") 171), (.ref 4)⟩, ⟨PyData.keyHash P (Str.ofString "__file__"), (.str (Str.ofString "__file__") 173), (.str (Str.ofString "/claim/cut.py") 172)⟩, ⟨PyData.keyHash P (Str.ofString "__cached__"), (.str (Str.ofString "__cached__") 174), .none⟩, ⟨PyData.keyHash P (Str.ofString "_sre"), (.str (Str.ofString "_sre") 275), (.ref 12)⟩, ⟨PyData.keyHash P (Str.ofString "b1_set"), (.str (Str.ofString "b1_set") 343), (.ref 39)⟩, ⟨PyData.keyHash P (Str.ofString "in_table_b1"), (.str (Str.ofString "in_table_b1") 350), (.ref 49)⟩, ⟨PyData.keyHash P (Str.ofString "_DIV_LIMIT"), (.str (Str.ofString "_DIV_LIMIT") 354), (.int 4000 353)⟩, ⟨PyData.keyHash P (Str.ofString "_div2n1n"), (.str (Str.ofString "_div2n1n") 371), (.ref 56)⟩, ⟨PyData.keyHash P (Str.ofString "_div3n2n"), (.str (Str.ofString "_div3n2n") 385), (.ref 63)⟩, ⟨PyData.keyHash P (Str.ofString "_int2digits"), (.str (Str.ofString "_int2digits") 396), (.ref 70)⟩, ⟨PyData.keyHash P (Str.ofString "_digits2int"), (.str (Str.ofString "_digits2int") 407), (.ref 77)⟩, ⟨PyData.keyHash P (Str.ofString "_divmod_pos"), (.str (Str.ofString "_divmod_pos") 422), (.ref 84)⟩, ⟨PyData.keyHash P (Str.ofString "int_divmod"), (.str (Str.ofString "int_divmod") 432), (.ref 91)⟩] 19), #[]⟩
noncomputable def ob29v1 (P : Params) : Obj := ⟨.none, none, (.fields #[(.int 4 0), (.int 0 0), (.ref 48), (.int 8 0), (.int 0 0), (.ref 55), (.int 24 0), (.int 0 0), (.ref 62), (.int 34 0), (.int 0 0), (.ref 69), (.int 50 0), (.int 0 0), (.ref 76), (.int 59 0), (.int 0 0), (.ref 83), (.int 70 0), (.int 0 0), (.ref 90)]), #[]⟩
noncomputable def ob43 (P : Params) : Obj := ⟨(.type "tuple"), none, (.seq #[] 0), #[]⟩
noncomputable def ob44 (P : Params) : Obj := ⟨.none, none, (.fields #[]), #[]⟩
noncomputable def ob45 (P : Params) : Obj := ⟨(.type "tuple"), none, (.seq #[(.str (Str.ofString "code") 347)] 0), #[]⟩
noncomputable def ob46 (P : Params) : Obj := ⟨(.type "tuple"), none, (.seq #[] 0), #[]⟩
noncomputable def ob47 (P : Params) : Obj := ⟨.none, none, (.func { name := (Str.ofString "in_table_b1"), qualname := (Str.ofString "in_table_b1"), params := dP 3, body := .stmts (dB 3), scope := dS 3, globals := 0, closure := [], defaults := .none, kwdefaults := .none, doc := .none, pyModule := .none, annotations := none, code := .none, closureTuple := .none, builtins := 0 }), #[]⟩
noncomputable def ob48 (P : Params) : Obj := ⟨(.type "code"), none, (.fields #[(.str (Str.ofString "in_table_b1") 344), (.str (Str.ofString "in_table_b1") 345), (.str (Str.ofString "/claim/cut.py") 346), (.int 4 0), (.int 1 0), (.int 0 0), (.int 0 0), (.int 3 0), (.ref 43), (.bool true), (.int 276 0), (.ref 44), .none, (.ref 45), (.ref 46), (.ref 47), (.int 348 0), (.int 4 0), (.str (Str.ofString "/claim/cut.py") 349)]), #[]⟩
noncomputable def ob49 (P : Params) : Obj := ⟨(.type "function"), none, (.func { name := (Str.ofString "in_table_b1"), qualname := (Str.ofString "in_table_b1"), params := dP 3, body := .stmts (dB 3), scope := dS 3, globals := 3, closure := [], defaults := .none, kwdefaults := .none, doc := .none, pyModule := (.str (Str.ofString "cpy313.stringprep") 282), annotations := none, code := (.ref 48), closureTuple := .none, builtins := 0 }), #[]⟩
noncomputable def ob50 (P : Params) : Obj := ⟨(.type "tuple"), none, (.seq #[] 0), #[]⟩
noncomputable def ob51 (P : Params) : Obj := ⟨.none, none, (.fields #[]), #[]⟩
noncomputable def ob52 (P : Params) : Obj := ⟨(.type "tuple"), none, (.seq #[(.str (Str.ofString "a") 358), (.str (Str.ofString "b") 359), (.str (Str.ofString "n") 360), (.str (Str.ofString "pad") 361), (.str (Str.ofString "half_n") 362), (.str (Str.ofString "mask") 363), (.str (Str.ofString "b1") 364), (.str (Str.ofString "b2") 365), (.str (Str.ofString "q1") 366), (.str (Str.ofString "r") 367), (.str (Str.ofString "q2") 368)] 0), #[]⟩
noncomputable def ob53 (P : Params) : Obj := ⟨(.type "tuple"), none, (.seq #[] 0), #[]⟩
noncomputable def ob54 (P : Params) : Obj := ⟨.none, none, (.func { name := (Str.ofString "_div2n1n"), qualname := (Str.ofString "_div2n1n"), params := dP 6, body := .stmts (dB 6), scope := dS 6, globals := 0, closure := [], defaults := .none, kwdefaults := .none, doc := .none, pyModule := .none, annotations := none, code := .none, closureTuple := .none, builtins := 0 }), #[]⟩
noncomputable def ob55 (P : Params) : Obj := ⟨(.type "code"), none, (.fields #[(.str (Str.ofString "_div2n1n") 355), (.str (Str.ofString "_div2n1n") 356), (.str (Str.ofString "/claim/cut.py") 357), (.int 8 0), (.int 3 0), (.int 0 0), (.int 0 0), (.int 3 0), (.ref 50), (.bool true), (.int 276 0), (.ref 51), .none, (.ref 52), (.ref 53), (.ref 54), (.int 369 0), (.int 8 0), (.str (Str.ofString "/claim/cut.py") 370)]), #[]⟩
noncomputable def ob56 (P : Params) : Obj := ⟨(.type "function"), none, (.func { name := (Str.ofString "_div2n1n"), qualname := (Str.ofString "_div2n1n"), params := dP 6, body := .stmts (dB 6), scope := dS 6, globals := 3, closure := [], defaults := .none, kwdefaults := .none, doc := .none, pyModule := (.str (Str.ofString "cpy313._pylong") 351), annotations := none, code := (.ref 55), closureTuple := .none, builtins := 0 }), #[]⟩
noncomputable def ob57 (P : Params) : Obj := ⟨(.type "tuple"), none, (.seq #[] 0), #[]⟩
noncomputable def ob58 (P : Params) : Obj := ⟨.none, none, (.fields #[]), #[]⟩
noncomputable def ob59 (P : Params) : Obj := ⟨(.type "tuple"), none, (.seq #[(.str (Str.ofString "a12") 375), (.str (Str.ofString "a3") 376), (.str (Str.ofString "b") 377), (.str (Str.ofString "b1") 378), (.str (Str.ofString "b2") 379), (.str (Str.ofString "n") 380), (.str (Str.ofString "q") 381), (.str (Str.ofString "r") 382)] 0), #[]⟩
noncomputable def ob60 (P : Params) : Obj := ⟨(.type "tuple"), none, (.seq #[] 0), #[]⟩
noncomputable def ob61 (P : Params) : Obj := ⟨.none, none, (.func { name := (Str.ofString "_div3n2n"), qualname := (Str.ofString "_div3n2n"), params := dP 7, body := .stmts (dB 7), scope := dS 7, globals := 0, closure := [], defaults := .none, kwdefaults := .none, doc := .none, pyModule := .none, annotations := none, code := .none, closureTuple := .none, builtins := 0 }), #[]⟩
noncomputable def ob62 (P : Params) : Obj := ⟨(.type "code"), none, (.fields #[(.str (Str.ofString "_div3n2n") 372), (.str (Str.ofString "_div3n2n") 373), (.str (Str.ofString "/claim/cut.py") 374), (.int 24 0), (.int 6 0), (.int 0 0), (.int 0 0), (.int 3 0), (.ref 57), (.bool true), (.int 276 0), (.ref 58), .none, (.ref 59), (.ref 60), (.ref 61), (.int 383 0), (.int 24 0), (.str (Str.ofString "/claim/cut.py") 384)]), #[]⟩
noncomputable def ob63 (P : Params) : Obj := ⟨(.type "function"), none, (.func { name := (Str.ofString "_div3n2n"), qualname := (Str.ofString "_div3n2n"), params := dP 7, body := .stmts (dB 7), scope := dS 7, globals := 3, closure := [], defaults := .none, kwdefaults := .none, doc := .none, pyModule := (.str (Str.ofString "cpy313._pylong") 351), annotations := none, code := (.ref 62), closureTuple := .none, builtins := 0 }), #[]⟩
noncomputable def ob64 (P : Params) : Obj := ⟨(.type "tuple"), none, (.seq #[] 0), #[]⟩
noncomputable def ob65 (P : Params) : Obj := ⟨.none, none, (.fields #[]), #[]⟩
noncomputable def ob66 (P : Params) : Obj := ⟨(.type "tuple"), none, (.seq #[(.str (Str.ofString "a") 389), (.str (Str.ofString "n") 390)] 0), #[]⟩
noncomputable def ob67 (P : Params) : Obj := ⟨(.type "tuple"), none, (.seq #[(.str (Str.ofString "n") 391), (.str (Str.ofString "a_digits") 392), (.str (Str.ofString "inner") 393)] 0), #[]⟩
noncomputable def ob68 (P : Params) : Obj := ⟨.none, none, (.func { name := (Str.ofString "_int2digits"), qualname := (Str.ofString "_int2digits"), params := dP 8, body := .stmts (dB 8), scope := dS 8, globals := 0, closure := [], defaults := .none, kwdefaults := .none, doc := .none, pyModule := .none, annotations := none, code := .none, closureTuple := .none, builtins := 0 }), #[]⟩
noncomputable def ob69 (P : Params) : Obj := ⟨(.type "code"), none, (.fields #[(.str (Str.ofString "_int2digits") 386), (.str (Str.ofString "_int2digits") 387), (.str (Str.ofString "/claim/cut.py") 388), (.int 34 0), (.int 2 0), (.int 0 0), (.int 0 0), (.int 3 0), (.ref 64), (.bool true), (.int 276 0), (.ref 65), .none, (.ref 66), (.ref 67), (.ref 68), (.int 394 0), (.int 34 0), (.str (Str.ofString "/claim/cut.py") 395)]), #[]⟩
noncomputable def ob70 (P : Params) : Obj := ⟨(.type "function"), none, (.func { name := (Str.ofString "_int2digits"), qualname := (Str.ofString "_int2digits"), params := dP 8, body := .stmts (dB 8), scope := dS 8, globals := 3, closure := [], defaults := .none, kwdefaults := .none, doc := .none, pyModule := (.str (Str.ofString "cpy313._pylong") 351), annotations := none, code := (.ref 69), closureTuple := .none, builtins := 0 }), #[]⟩
noncomputable def ob71 (P : Params) : Obj := ⟨(.type "tuple"), none, (.seq #[] 0), #[]⟩
noncomputable def ob72 (P : Params) : Obj := ⟨.none, none, (.fields #[]), #[]⟩
noncomputable def ob73 (P : Params) : Obj := ⟨(.type "tuple"), none, (.seq #[(.str (Str.ofString "digits") 400), (.str (Str.ofString "n") 401)] 0), #[]⟩
noncomputable def ob74 (P : Params) : Obj := ⟨(.type "tuple"), none, (.seq #[(.str (Str.ofString "digits") 402), (.str (Str.ofString "n") 403), (.str (Str.ofString "inner") 404)] 0), #[]⟩
noncomputable def ob75 (P : Params) : Obj := ⟨.none, none, (.func { name := (Str.ofString "_digits2int"), qualname := (Str.ofString "_digits2int"), params := dP 9, body := .stmts (dB 9), scope := dS 9, globals := 0, closure := [], defaults := .none, kwdefaults := .none, doc := .none, pyModule := .none, annotations := none, code := .none, closureTuple := .none, builtins := 0 }), #[]⟩
noncomputable def ob76 (P : Params) : Obj := ⟨(.type "code"), none, (.fields #[(.str (Str.ofString "_digits2int") 397), (.str (Str.ofString "_digits2int") 398), (.str (Str.ofString "/claim/cut.py") 399), (.int 50 0), (.int 2 0), (.int 0 0), (.int 0 0), (.int 3 0), (.ref 71), (.bool true), (.int 276 0), (.ref 72), .none, (.ref 73), (.ref 74), (.ref 75), (.int 405 0), (.int 50 0), (.str (Str.ofString "/claim/cut.py") 406)]), #[]⟩
noncomputable def ob77 (P : Params) : Obj := ⟨(.type "function"), none, (.func { name := (Str.ofString "_digits2int"), qualname := (Str.ofString "_digits2int"), params := dP 9, body := .stmts (dB 9), scope := dS 9, globals := 3, closure := [], defaults := .none, kwdefaults := .none, doc := .none, pyModule := (.str (Str.ofString "cpy313._pylong") 351), annotations := none, code := (.ref 76), closureTuple := .none, builtins := 0 }), #[]⟩
noncomputable def ob78 (P : Params) : Obj := ⟨(.type "tuple"), none, (.seq #[] 0), #[]⟩
noncomputable def ob79 (P : Params) : Obj := ⟨.none, none, (.fields #[]), #[]⟩
noncomputable def ob80 (P : Params) : Obj := ⟨(.type "tuple"), none, (.seq #[(.str (Str.ofString "a") 411), (.str (Str.ofString "b") 412), (.str (Str.ofString "n") 413), (.str (Str.ofString "a_digits") 414), (.str (Str.ofString "r") 415), (.str (Str.ofString "q_digits") 416), (.str (Str.ofString "a_digit") 417), (.str (Str.ofString "q_digit") 418), (.str (Str.ofString "q") 419)] 0), #[]⟩
noncomputable def ob81 (P : Params) : Obj := ⟨(.type "tuple"), none, (.seq #[] 0), #[]⟩
noncomputable def ob82 (P : Params) : Obj := ⟨.none, none, (.func { name := (Str.ofString "_divmod_pos"), qualname := (Str.ofString "_divmod_pos"), params := dP 10, body := .stmts (dB 10), scope := dS 10, globals := 0, closure := [], defaults := .none, kwdefaults := .none, doc := .none, pyModule := .none, annotations := none, code := .none, closureTuple := .none, builtins := 0 }), #[]⟩
noncomputable def ob83 (P : Params) : Obj := ⟨(.type "code"), none, (.fields #[(.str (Str.ofString "_divmod_pos") 408), (.str (Str.ofString "_divmod_pos") 409), (.str (Str.ofString "/claim/cut.py") 410), (.int 59 0), (.int 2 0), (.int 0 0), (.int 0 0), (.int 3 0), (.ref 78), (.bool true), (.int 276 0), (.ref 79), .none, (.ref 80), (.ref 81), (.ref 82), (.int 420 0), (.int 59 0), (.str (Str.ofString "/claim/cut.py") 421)]), #[]⟩
noncomputable def ob84 (P : Params) : Obj := ⟨(.type "function"), none, (.func { name := (Str.ofString "_divmod_pos"), qualname := (Str.ofString "_divmod_pos"), params := dP 10, body := .stmts (dB 10), scope := dS 10, globals := 3, closure := [], defaults := .none, kwdefaults := .none, doc := .none, pyModule := (.str (Str.ofString "cpy313._pylong") 351), annotations := none, code := (.ref 83), closureTuple := .none, builtins := 0 }), #[]⟩
noncomputable def ob85 (P : Params) : Obj := ⟨(.type "tuple"), none, (.seq #[] 0), #[]⟩
noncomputable def ob86 (P : Params) : Obj := ⟨.none, none, (.fields #[]), #[]⟩
noncomputable def ob87 (P : Params) : Obj := ⟨(.type "tuple"), none, (.seq #[(.str (Str.ofString "a") 426), (.str (Str.ofString "b") 427), (.str (Str.ofString "q") 428), (.str (Str.ofString "r") 429)] 0), #[]⟩
noncomputable def ob88 (P : Params) : Obj := ⟨(.type "tuple"), none, (.seq #[] 0), #[]⟩
noncomputable def ob89 (P : Params) : Obj := ⟨.none, none, (.func { name := (Str.ofString "int_divmod"), qualname := (Str.ofString "int_divmod"), params := dP 11, body := .stmts (dB 11), scope := dS 11, globals := 0, closure := [], defaults := .none, kwdefaults := .none, doc := .none, pyModule := .none, annotations := none, code := .none, closureTuple := .none, builtins := 0 }), #[]⟩
noncomputable def ob90 (P : Params) : Obj := ⟨(.type "code"), none, (.fields #[(.str (Str.ofString "int_divmod") 423), (.str (Str.ofString "int_divmod") 424), (.str (Str.ofString "/claim/cut.py") 425), (.int 70 0), (.int 2 0), (.int 0 0), (.int 0 0), (.int 3 0), (.ref 85), (.bool true), (.int 276 0), (.ref 86), .none, (.ref 87), (.ref 88), (.ref 89), (.int 430 0), (.int 70 0), (.str (Str.ofString "/claim/cut.py") 431)]), #[]⟩
noncomputable def ob91 (P : Params) : Obj := ⟨(.type "function"), none, (.func { name := (Str.ofString "int_divmod"), qualname := (Str.ofString "int_divmod"), params := dP 11, body := .stmts (dB 11), scope := dS 11, globals := 3, closure := [], defaults := .none, kwdefaults := .none, doc := .none, pyModule := (.str (Str.ofString "cpy313._pylong") 351), annotations := none, code := (.ref 90), closureTuple := .none, builtins := 0 }), #[]⟩
noncomputable def trP10 (P : Params) : BT := (.node (ob0 P) (.node (ob1 P) (.node (ob3v3 P) (.node (ob7 P) (.node (ob15 P) (.node (ob31 P) (.node (ob63 P) .nil .nil) .nil) (.node (ob47 P) (.node (ob79 P) .nil .nil) .nil)) (.node (ob23 P) (.node (ob39 P) (.node (ob71 P) .nil .nil) .nil) (.node (ob55 P) (.node (ob87 P) .nil .nil) .nil))) (.node (ob11 P) (.node (ob19 P) (.node (ob35 P) (.node (ob67 P) .nil .nil) .nil) (.node (ob51 P) (.node (ob83 P) .nil .nil) .nil)) (.node (ob27 P) (.node (ob43 P) (.node (ob75 P) .nil .nil) .nil) (.node (ob59 P) (.node (ob91 P) .nil .nil) .nil)))) (.node (ob5 P) (.node (ob9 P) (.node (ob17 P) (.node (ob33 P) (.node (ob65 P) .nil .nil) .nil) (.node (ob49 P) (.node (ob81 P) .nil .nil) .nil)) (.node (ob25 P) (.node (ob41 P) (.node (ob73 P) .nil .nil) .nil) (.node (ob57 P) (.node (ob89 P) .nil .nil) .nil))) (.node (ob13 P) (.node (ob21 P) (.node (ob37 P) (.node (ob69 P) .nil .nil) .nil) (.node (ob53 P) (.node (ob85 P) .nil .nil) .nil)) (.node (ob29v1 P) (.node (ob45 P) (.node (ob77 P) .nil .nil) .nil) (.node (ob61 P) .nil .nil))))) (.node (ob2 P) (.node (ob4 P) (.node (ob8 P) (.node (ob16 P) (.node (ob32 P) (.node (ob64 P) .nil .nil) .nil) (.node (ob48 P) (.node (ob80 P) .nil .nil) .nil)) (.node (ob24 P) (.node (ob40 P) (.node (ob72 P) .nil .nil) .nil) (.node (ob56 P) (.node (ob88 P) .nil .nil) .nil))) (.node (ob12 P) (.node (ob20 P) (.node (ob36 P) (.node (ob68 P) .nil .nil) .nil) (.node (ob52 P) (.node (ob84 P) .nil .nil) .nil)) (.node (ob28 P) (.node (ob44 P) (.node (ob76 P) .nil .nil) .nil) (.node (ob60 P) .nil .nil)))) (.node (ob6 P) (.node (ob10 P) (.node (ob18 P) (.node (ob34 P) (.node (ob66 P) .nil .nil) .nil) (.node (ob50 P) (.node (ob82 P) .nil .nil) .nil)) (.node (ob26 P) (.node (ob42 P) (.node (ob74 P) .nil .nil) .nil) (.node (ob58 P) (.node (ob90 P) .nil .nil) .nil))) (.node (ob14 P) (.node (ob22 P) (.node (ob38 P) (.node (ob70 P) .nil .nil) .nil) (.node (ob54 P) (.node (ob86 P) .nil .nil) .nil)) (.node (ob30 P) (.node (ob46 P) (.node (ob78 P) .nil .nil) .nil) (.node (ob62 P) .nil .nil))))))
noncomputable def ob3v4 (P : Params) : Obj := ⟨(.type "dict"), none, (.dict #[⟨PyData.keyHash P (Str.ofString "__name__"), (.str (Str.ofString "__name__") 165), (.str (Str.ofString "law_rs0075_01") 502)⟩, ⟨PyData.keyHash P (Str.ofString "__doc__"), (.str (Str.ofString "__doc__") 166), .none⟩, ⟨PyData.keyHash P (Str.ofString "__package__"), (.str (Str.ofString "__package__") 167), .none⟩, ⟨PyData.keyHash P (Str.ofString "__loader__"), (.str (Str.ofString "__loader__") 168), (.builtin "__main__.__loader__#opaque")⟩, ⟨PyData.keyHash P (Str.ofString "__spec__"), (.str (Str.ofString "__spec__") 169), .none⟩, ⟨PyData.keyHash P (Str.ofString "__annotations__"), (.str (Str.ofString "__annotations__") 170), (.ref 6)⟩, ⟨PyData.keyHash P (Str.ofString "__builtins__"), (.str (Str.ofString "__builtins__") 171), (.ref 4)⟩, ⟨PyData.keyHash P (Str.ofString "__file__"), (.str (Str.ofString "__file__") 173), (.str (Str.ofString "/claim/cut.py") 172)⟩, ⟨PyData.keyHash P (Str.ofString "__cached__"), (.str (Str.ofString "__cached__") 174), .none⟩, ⟨PyData.keyHash P (Str.ofString "_sre"), (.str (Str.ofString "_sre") 275), (.ref 12)⟩, ⟨PyData.keyHash P (Str.ofString "b1_set"), (.str (Str.ofString "b1_set") 343), (.ref 39)⟩, ⟨PyData.keyHash P (Str.ofString "in_table_b1"), (.str (Str.ofString "in_table_b1") 350), (.ref 49)⟩, ⟨PyData.keyHash P (Str.ofString "_DIV_LIMIT"), (.str (Str.ofString "_DIV_LIMIT") 354), (.int 4000 353)⟩, ⟨PyData.keyHash P (Str.ofString "_div2n1n"), (.str (Str.ofString "_div2n1n") 371), (.ref 56)⟩, ⟨PyData.keyHash P (Str.ofString "_div3n2n"), (.str (Str.ofString "_div3n2n") 385), (.ref 63)⟩, ⟨PyData.keyHash P (Str.ofString "_int2digits"), (.str (Str.ofString "_int2digits") 396), (.ref 70)⟩, ⟨PyData.keyHash P (Str.ofString "_digits2int"), (.str (Str.ofString "_digits2int") 407), (.ref 77)⟩, ⟨PyData.keyHash P (Str.ofString "_divmod_pos"), (.str (Str.ofString "_divmod_pos") 422), (.ref 84)⟩, ⟨PyData.keyHash P (Str.ofString "int_divmod"), (.str (Str.ofString "int_divmod") 432), (.ref 91)⟩, ⟨PyData.keyHash P (Str.ofString "_twin_re_1"), (.str (Str.ofString "_twin_re_1") 450), (.ref 96)⟩, ⟨PyData.keyHash P (Str.ofString "_twin_re_2"), (.str (Str.ofString "_twin_re_2") 492), (.ref 101)⟩, ⟨PyData.keyHash P (Str.ofString "CRLF"), (.str (Str.ofString "CRLF") 494), (.str (Str.mk #[13, 10]) 493)⟩, ⟨PyData.keyHash P (Str.ofString "quotedata"), (.str (Str.ofString "quotedata") 501), (.ref 108)⟩, ⟨PyData.keyHash P (Str.ofString "_law_prepared"), (.str (Str.ofString "_law_prepared") 509), (.ref 113)⟩, ⟨PyData.keyHash P (Str.ofString "_law_thirds"), (.str (Str.ofString "_law_thirds") 520), (.ref 120)⟩, ⟨PyData.keyHash P (Str.ofString "_law_roads"), (.str (Str.ofString "_law_roads") 542), (.ref 127)⟩, ⟨PyData.keyHash P (Str.ofString "_law_counts"), (.str (Str.ofString "_law_counts") 548), (.ref 132)⟩, ⟨PyData.keyHash P (Str.ofString "law"), (.str (Str.ofString "law") 554), (.ref 137)⟩] 28), #[]⟩
noncomputable def ob29v2 (P : Params) : Obj := ⟨.none, none, (.fields #[(.int 4 0), (.int 0 0), (.ref 48), (.int 8 0), (.int 0 0), (.ref 55), (.int 24 0), (.int 0 0), (.ref 62), (.int 34 0), (.int 0 0), (.ref 69), (.int 50 0), (.int 0 0), (.ref 76), (.int 59 0), (.int 0 0), (.ref 83), (.int 70 0), (.int 0 0), (.ref 90), (.int 85 0), (.int 0 0), (.ref 107), (.int 88 0), (.int 0 0), (.ref 112), (.int 93 0), (.int 0 0), (.ref 119), (.int 106 0), (.int 0 0), (.ref 126), (.int 139 0), (.int 0 0), (.ref 131), (.int 153 0), (.int 0 0), (.ref 136)]), #[]⟩
noncomputable def ob92 (P : Params) : Obj := ⟨(.type "list"), none, (.seq #[(.int 14 438), (.int 4 439), (.int 0 440), (.int 1 441), (.int 1 442), (.int 6 443), (.int 1 444), (.int 16 445), (.int 46 446), (.int 1 447)] 0), #[]⟩
noncomputable def ob93 (P : Params) : Obj := ⟨(.type "dict"), none, (.dict #[] 0), #[]⟩
noncomputable def ob94 (P : Params) : Obj := ⟨(.type "tuple"), none, (.seq #[.none] 0), #[]⟩
noncomputable def ob95 (P : Params) : Obj := ⟨(.type "tuple"), none, (.seq #[(.int 14 0), (.int 4 0), (.int 0 0), (.int 1 0), (.int 1 0), (.int 6 0), (.int 1 0), (.int 16 0), (.int 46 0), (.int 1 0)] 0), #[]⟩
noncomputable def ob96 (P : Params) : Obj := ⟨(.type "re.Pattern"), none, (.fields #[(.str (Str.ofString "(?m)^\\.") 436), (.int 40 449), (.int 0 0), .none, .none, (.ref 95), (.int 0 0)]), #[]⟩
noncomputable def ob97 (P : Params) : Obj := ⟨(.type "list"), none, (.seq #[(.int 14 454), (.int 9 455), (.int 4 456), (.int 1 457), (.int 2 458), (.int 16 459), (.int 10 460), (.int 16 461), (.int 13 462), (.int 0 463), (.int 7 464), (.int 7 465), (.int 16 466), (.int 13 467), (.int 16 468), (.int 10 469), (.int 15 470), (.int 18 471), (.int 5 472), (.int 16 473), (.int 10 474), (.int 15 475), (.int 13 476), (.int 11 477), (.int 16 478), (.int 13 479), (.int 5 480), (.int 5 481), (.int 0 482), (.int 16 483), (.int 10 484), (.int 1 485), (.int 15 486), (.int 2 487), (.int 0 488), (.int 1 489)] 0), #[]⟩
noncomputable def ob98 (P : Params) : Obj := ⟨(.type "dict"), none, (.dict #[] 0), #[]⟩
noncomputable def ob99 (P : Params) : Obj := ⟨(.type "tuple"), none, (.seq #[.none] 0), #[]⟩
noncomputable def ob100 (P : Params) : Obj := ⟨(.type "tuple"), none, (.seq #[(.int 14 0), (.int 9 0), (.int 4 0), (.int 1 0), (.int 2 0), (.int 16 0), (.int 10 0), (.int 16 0), (.int 13 0), (.int 0 0), (.int 7 0), (.int 7 0), (.int 16 0), (.int 13 0), (.int 16 0), (.int 10 0), (.int 15 0), (.int 18 0), (.int 5 0), (.int 16 0), (.int 10 0), (.int 15 0), (.int 13 0), (.int 11 0), (.int 16 0), (.int 13 0), (.int 5 0), (.int 5 0), (.int 0 0), (.int 16 0), (.int 10 0), (.int 1 0), (.int 15 0), (.int 2 0), (.int 0 0), (.int 1 0)] 0), #[]⟩
noncomputable def ob101 (P : Params) : Obj := ⟨(.type "re.Pattern"), none, (.fields #[(.str (Str.ofString "(?:\\r\\n|\\n|\\r(?!\\n))") 452), (.int 32 491), (.int 0 0), .none, .none, (.ref 100), (.int 0 0)]), #[]⟩
noncomputable def ob102 (P : Params) : Obj := ⟨(.type "tuple"), none, (.seq #[] 0), #[]⟩
noncomputable def ob103 (P : Params) : Obj := ⟨.none, none, (.fields #[]), #[]⟩
noncomputable def ob104 (P : Params) : Obj := ⟨(.type "tuple"), none, (.seq #[(.str (Str.ofString "data") 498)] 0), #[]⟩
noncomputable def ob105 (P : Params) : Obj := ⟨(.type "tuple"), none, (.seq #[] 0), #[]⟩
noncomputable def ob106 (P : Params) : Obj := ⟨.none, none, (.func { name := (Str.ofString "quotedata"), qualname := (Str.ofString "quotedata"), params := dP 16, body := .stmts (dB 16), scope := dS 16, globals := 0, closure := [], defaults := .none, kwdefaults := .none, doc := .none, pyModule := .none, annotations := none, code := .none, closureTuple := .none, builtins := 0 }), #[]⟩
noncomputable def ob107 (P : Params) : Obj := ⟨(.type "code"), none, (.fields #[(.str (Str.ofString "quotedata") 495), (.str (Str.ofString "quotedata") 496), (.str (Str.ofString "/claim/cut.py") 497), (.int 85 0), (.int 1 0), (.int 0 0), (.int 0 0), (.int 3 0), (.ref 102), (.bool true), (.int 276 0), (.ref 103), .none, (.ref 104), (.ref 105), (.ref 106), (.int 499 0), (.int 85 0), (.str (Str.ofString "/claim/cut.py") 500)]), #[]⟩
noncomputable def ob108 (P : Params) : Obj := ⟨(.type "function"), none, (.func { name := (Str.ofString "quotedata"), qualname := (Str.ofString "quotedata"), params := dP 16, body := .stmts (dB 16), scope := dS 16, globals := 3, closure := [], defaults := .none, kwdefaults := .none, doc := .none, pyModule := (.str (Str.ofString "cpy313.smtplib") 433), annotations := none, code := (.ref 107), closureTuple := .none, builtins := 0 }), #[]⟩
noncomputable def ob109 (P : Params) : Obj := ⟨(.type "tuple"), none, (.seq #[] 0), #[]⟩
noncomputable def ob110 (P : Params) : Obj := ⟨.none, none, (.fields #[]), #[]⟩
noncomputable def ob111 (P : Params) : Obj := ⟨.none, none, (.func { name := (Str.ofString "_law_prepared"), qualname := (Str.ofString "_law_prepared"), params := dP 18, body := .stmts (dB 18), scope := dS 18, globals := 0, closure := [], defaults := .none, kwdefaults := .none, doc := .none, pyModule := .none, annotations := none, code := .none, closureTuple := .none, builtins := 0 }), #[]⟩
noncomputable def ob112 (P : Params) : Obj := ⟨(.type "code"), none, (.fields #[(.str (Str.ofString "_law_prepared") 504), (.str (Str.ofString "_law_prepared") 505), (.str (Str.ofString "/claim/cut.py") 506), (.int 88 0), (.int 1 0), (.int 0 0), (.int 0 0), (.int 3 0), (.ref 109), (.bool true), (.int 276 0), (.ref 110), .none, .none, .none, (.ref 111), (.int 507 0), (.int 88 0), (.str (Str.ofString "/claim/cut.py") 508)]), #[]⟩
noncomputable def ob113 (P : Params) : Obj := ⟨(.type "function"), none, (.func { name := (Str.ofString "_law_prepared"), qualname := (Str.ofString "_law_prepared"), params := dP 18, body := .stmts (dB 18), scope := dS 18, globals := 3, closure := [], defaults := .none, kwdefaults := .none, doc := .none, pyModule := (.str (Str.ofString "law_rs0075_01") 502), annotations := none, code := (.ref 112), closureTuple := .none, builtins := 0 }), #[]⟩
noncomputable def ob114 (P : Params) : Obj := ⟨(.type "tuple"), none, (.seq #[] 0), #[]⟩
noncomputable def ob115 (P : Params) : Obj := ⟨.none, none, (.fields #[]), #[]⟩
noncomputable def ob116 (P : Params) : Obj := ⟨(.type "tuple"), none, (.seq #[(.str (Str.ofString "number") 513), (.str (Str.ofString "bits") 514), (.str (Str.ofString "ones") 515), (.str (Str.ofString "run") 516), (.str (Str.ofString "bit") 517)] 0), #[]⟩
noncomputable def ob117 (P : Params) : Obj := ⟨(.type "tuple"), none, (.seq #[] 0), #[]⟩
noncomputable def ob118 (P : Params) : Obj := ⟨.none, none, (.func { name := (Str.ofString "_law_thirds"), qualname := (Str.ofString "_law_thirds"), params := dP 19, body := .stmts (dB 19), scope := dS 19, globals := 0, closure := [], defaults := .none, kwdefaults := .none, doc := .none, pyModule := .none, annotations := none, code := .none, closureTuple := .none, builtins := 0 }), #[]⟩
noncomputable def ob119 (P : Params) : Obj := ⟨(.type "code"), none, (.fields #[(.str (Str.ofString "_law_thirds") 510), (.str (Str.ofString "_law_thirds") 511), (.str (Str.ofString "/claim/cut.py") 512), (.int 93 0), (.int 1 0), (.int 0 0), (.int 0 0), (.int 3 0), (.ref 114), (.bool true), (.int 276 0), (.ref 115), .none, (.ref 116), (.ref 117), (.ref 118), (.int 518 0), (.int 93 0), (.str (Str.ofString "/claim/cut.py") 519)]), #[]⟩
noncomputable def ob120 (P : Params) : Obj := ⟨(.type "function"), none, (.func { name := (Str.ofString "_law_thirds"), qualname := (Str.ofString "_law_thirds"), params := dP 19, body := .stmts (dB 19), scope := dS 19, globals := 3, closure := [], defaults := .none, kwdefaults := .none, doc := .none, pyModule := (.str (Str.ofString "law_rs0075_01") 502), annotations := none, code := (.ref 119), closureTuple := .none, builtins := 0 }), #[]⟩
noncomputable def ob121 (P : Params) : Obj := ⟨(.type "tuple"), none, (.seq #[] 0), #[]⟩
noncomputable def ob122 (P : Params) : Obj := ⟨.none, none, (.fields #[]), #[]⟩
noncomputable def ob123 (P : Params) : Obj := ⟨(.type "tuple"), none, (.seq #[(.str (Str.ofString "heaps") 524), (.str (Str.ofString "unseen") 525), (.str (Str.ofString "beside") 526), (.str (Str.ofString "stays") 527), (.str (Str.ofString "typed") 528), (.str (Str.ofString "early") 529), (.str (Str.ofString "late") 530), (.str (Str.ofString "fresh") 531), (.str (Str.ofString "bare") 532), (.str (Str.ofString "heap") 533), (.str (Str.ofString "ends") 534), (.str (Str.ofString "hurt") 535), (.str (Str.ofString "dots") 536), (.str (Str.ofString "stay") 537), (.str (Str.ofString "k") 538), (.str (Str.ofString "kept") 539)] 0), #[]⟩
noncomputable def ob124 (P : Params) : Obj := ⟨(.type "tuple"), none, (.seq #[] 0), #[]⟩
noncomputable def ob125 (P : Params) : Obj := ⟨.none, none, (.func { name := (Str.ofString "_law_roads"), qualname := (Str.ofString "_law_roads"), params := dP 20, body := .stmts (dB 20), scope := dS 20, globals := 0, closure := [], defaults := .none, kwdefaults := .none, doc := .none, pyModule := .none, annotations := none, code := .none, closureTuple := .none, builtins := 0 }), #[]⟩
noncomputable def ob126 (P : Params) : Obj := ⟨(.type "code"), none, (.fields #[(.str (Str.ofString "_law_roads") 521), (.str (Str.ofString "_law_roads") 522), (.str (Str.ofString "/claim/cut.py") 523), (.int 106 0), (.int 1 0), (.int 0 0), (.int 0 0), (.int 3 0), (.ref 121), (.bool true), (.int 276 0), (.ref 122), .none, (.ref 123), (.ref 124), (.ref 125), (.int 540 0), (.int 106 0), (.str (Str.ofString "/claim/cut.py") 541)]), #[]⟩
noncomputable def ob127 (P : Params) : Obj := ⟨(.type "function"), none, (.func { name := (Str.ofString "_law_roads"), qualname := (Str.ofString "_law_roads"), params := dP 20, body := .stmts (dB 20), scope := dS 20, globals := 3, closure := [], defaults := .none, kwdefaults := .none, doc := .none, pyModule := (.str (Str.ofString "law_rs0075_01") 502), annotations := none, code := (.ref 126), closureTuple := .none, builtins := 0 }), #[]⟩
noncomputable def ob128 (P : Params) : Obj := ⟨(.type "tuple"), none, (.seq #[] 0), #[]⟩
noncomputable def ob129 (P : Params) : Obj := ⟨.none, none, (.fields #[]), #[]⟩
noncomputable def ob130 (P : Params) : Obj := ⟨.none, none, (.func { name := (Str.ofString "_law_counts"), qualname := (Str.ofString "_law_counts"), params := dP 21, body := .stmts (dB 21), scope := dS 21, globals := 0, closure := [], defaults := .none, kwdefaults := .none, doc := .none, pyModule := .none, annotations := none, code := .none, closureTuple := .none, builtins := 0 }), #[]⟩
noncomputable def ob131 (P : Params) : Obj := ⟨(.type "code"), none, (.fields #[(.str (Str.ofString "_law_counts") 543), (.str (Str.ofString "_law_counts") 544), (.str (Str.ofString "/claim/cut.py") 545), (.int 139 0), (.int 1 0), (.int 0 0), (.int 0 0), (.int 3 0), (.ref 128), (.bool true), (.int 276 0), (.ref 129), .none, .none, .none, (.ref 130), (.int 546 0), (.int 139 0), (.str (Str.ofString "/claim/cut.py") 547)]), #[]⟩
noncomputable def ob132 (P : Params) : Obj := ⟨(.type "function"), none, (.func { name := (Str.ofString "_law_counts"), qualname := (Str.ofString "_law_counts"), params := dP 21, body := .stmts (dB 21), scope := dS 21, globals := 3, closure := [], defaults := .none, kwdefaults := .none, doc := .none, pyModule := (.str (Str.ofString "law_rs0075_01") 502), annotations := none, code := (.ref 131), closureTuple := .none, builtins := 0 }), #[]⟩
noncomputable def ob133 (P : Params) : Obj := ⟨(.type "tuple"), none, (.seq #[] 0), #[]⟩
noncomputable def ob134 (P : Params) : Obj := ⟨.none, none, (.fields #[]), #[]⟩
noncomputable def ob135 (P : Params) : Obj := ⟨.none, none, (.func { name := (Str.ofString "law"), qualname := (Str.ofString "law"), params := dP 22, body := .stmts (dB 22), scope := dS 22, globals := 0, closure := [], defaults := .none, kwdefaults := .none, doc := .none, pyModule := .none, annotations := none, code := .none, closureTuple := .none, builtins := 0 }), #[]⟩
noncomputable def ob136 (P : Params) : Obj := ⟨(.type "code"), none, (.fields #[(.str (Str.ofString "law") 549), (.str (Str.ofString "law") 550), (.str (Str.ofString "/claim/cut.py") 551), (.int 153 0), (.int 1 0), (.int 0 0), (.int 0 0), (.int 3 0), (.ref 133), (.bool true), (.int 276 0), (.ref 134), .none, .none, .none, (.ref 135), (.int 552 0), (.int 153 0), (.str (Str.ofString "/claim/cut.py") 553)]), #[]⟩
noncomputable def ob137 (P : Params) : Obj := ⟨(.type "function"), none, (.func { name := (Str.ofString "law"), qualname := (Str.ofString "law"), params := dP 22, body := .stmts (dB 22), scope := dS 22, globals := 3, closure := [], defaults := .none, kwdefaults := .none, doc := .none, pyModule := (.str (Str.ofString "law_rs0075_01") 502), annotations := none, code := (.ref 136), closureTuple := .none, builtins := 0 }), #[]⟩
noncomputable def trP21 (P : Params) : BT := (.node (ob0 P) (.node (ob1 P) (.node (ob3v4 P) (.node (ob7 P) (.node (ob15 P) (.node (ob31 P) (.node (ob63 P) (.node (ob127 P) .nil .nil) .nil) (.node (ob95 P) .nil .nil)) (.node (ob47 P) (.node (ob79 P) .nil .nil) (.node (ob111 P) .nil .nil))) (.node (ob23 P) (.node (ob39 P) (.node (ob71 P) (.node (ob135 P) .nil .nil) .nil) (.node (ob103 P) .nil .nil)) (.node (ob55 P) (.node (ob87 P) .nil .nil) (.node (ob119 P) .nil .nil)))) (.node (ob11 P) (.node (ob19 P) (.node (ob35 P) (.node (ob67 P) (.node (ob131 P) .nil .nil) .nil) (.node (ob99 P) .nil .nil)) (.node (ob51 P) (.node (ob83 P) .nil .nil) (.node (ob115 P) .nil .nil))) (.node (ob27 P) (.node (ob43 P) (.node (ob75 P) .nil .nil) (.node (ob107 P) .nil .nil)) (.node (ob59 P) (.node (ob91 P) .nil .nil) (.node (ob123 P) .nil .nil))))) (.node (ob5 P) (.node (ob9 P) (.node (ob17 P) (.node (ob33 P) (.node (ob65 P) (.node (ob129 P) .nil .nil) .nil) (.node (ob97 P) .nil .nil)) (.node (ob49 P) (.node (ob81 P) .nil .nil) (.node (ob113 P) .nil .nil))) (.node (ob25 P) (.node (ob41 P) (.node (ob73 P) (.node (ob137 P) .nil .nil) .nil) (.node (ob105 P) .nil .nil)) (.node (ob57 P) (.node (ob89 P) .nil .nil) (.node (ob121 P) .nil .nil)))) (.node (ob13 P) (.node (ob21 P) (.node (ob37 P) (.node (ob69 P) (.node (ob133 P) .nil .nil) .nil) (.node (ob101 P) .nil .nil)) (.node (ob53 P) (.node (ob85 P) .nil .nil) (.node (ob117 P) .nil .nil))) (.node (ob29v2 P) (.node (ob45 P) (.node (ob77 P) .nil .nil) (.node (ob109 P) .nil .nil)) (.node (ob61 P) (.node (ob93 P) .nil .nil) (.node (ob125 P) .nil .nil)))))) (.node (ob2 P) (.node (ob4 P) (.node (ob8 P) (.node (ob16 P) (.node (ob32 P) (.node (ob64 P) (.node (ob128 P) .nil .nil) .nil) (.node (ob96 P) .nil .nil)) (.node (ob48 P) (.node (ob80 P) .nil .nil) (.node (ob112 P) .nil .nil))) (.node (ob24 P) (.node (ob40 P) (.node (ob72 P) (.node (ob136 P) .nil .nil) .nil) (.node (ob104 P) .nil .nil)) (.node (ob56 P) (.node (ob88 P) .nil .nil) (.node (ob120 P) .nil .nil)))) (.node (ob12 P) (.node (ob20 P) (.node (ob36 P) (.node (ob68 P) (.node (ob132 P) .nil .nil) .nil) (.node (ob100 P) .nil .nil)) (.node (ob52 P) (.node (ob84 P) .nil .nil) (.node (ob116 P) .nil .nil))) (.node (ob28 P) (.node (ob44 P) (.node (ob76 P) .nil .nil) (.node (ob108 P) .nil .nil)) (.node (ob60 P) (.node (ob92 P) .nil .nil) (.node (ob124 P) .nil .nil))))) (.node (ob6 P) (.node (ob10 P) (.node (ob18 P) (.node (ob34 P) (.node (ob66 P) (.node (ob130 P) .nil .nil) .nil) (.node (ob98 P) .nil .nil)) (.node (ob50 P) (.node (ob82 P) .nil .nil) (.node (ob114 P) .nil .nil))) (.node (ob26 P) (.node (ob42 P) (.node (ob74 P) .nil .nil) (.node (ob106 P) .nil .nil)) (.node (ob58 P) (.node (ob90 P) .nil .nil) (.node (ob122 P) .nil .nil)))) (.node (ob14 P) (.node (ob22 P) (.node (ob38 P) (.node (ob70 P) (.node (ob134 P) .nil .nil) .nil) (.node (ob102 P) .nil .nil)) (.node (ob54 P) (.node (ob86 P) .nil .nil) (.node (ob118 P) .nil .nil))) (.node (ob30 P) (.node (ob46 P) (.node (ob78 P) .nil .nil) (.node (ob110 P) .nil .nil)) (.node (ob62 P) (.node (ob94 P) .nil .nil) (.node (ob126 P) .nil .nil)))))))
noncomputable def hpF (P : Params) : Heap := ⟨(Array.mk [ob0 P, ob1 P, ob2 P, ob3v4 P, ob4 P, ob5 P, ob6 P, ob7 P, ob8 P, ob9 P, ob10 P, ob11 P, ob12 P, ob13 P, ob14 P, ob15 P, ob16 P, ob17 P, ob18 P, ob19 P, ob20 P, ob21 P, ob22 P, ob23 P, ob24 P, ob25 P, ob26 P, ob27 P, ob28 P, ob29v2 P, ob30 P, ob31 P, ob32 P, ob33 P, ob34 P, ob35 P, ob36 P, ob37 P, ob38 P, ob39 P, ob40 P, ob41 P, ob42 P, ob43 P, ob44 P, ob45 P, ob46 P, ob47 P, ob48 P, ob49 P, ob50 P, ob51 P, ob52 P, ob53 P, ob54 P, ob55 P, ob56 P, ob57 P, ob58 P, ob59 P, ob60 P, ob61 P, ob62 P, ob63 P, ob64 P, ob65 P, ob66 P, ob67 P, ob68 P, ob69 P, ob70 P, ob71 P, ob72 P, ob73 P, ob74 P, ob75 P, ob76 P, ob77 P, ob78 P, ob79 P, ob80 P, ob81 P, ob82 P, ob83 P, ob84 P, ob85 P, ob86 P, ob87 P, ob88 P, ob89 P, ob90 P, ob91 P, ob92 P, ob93 P, ob94 P, ob95 P, ob96 P, ob97 P, ob98 P, ob99 P, ob100 P, ob101 P, ob102 P, ob103 P, ob104 P, ob105 P, ob106 P, ob107 P, ob108 P, ob109 P, ob110 P, ob111 P, ob112 P, ob113 P, ob114 P, ob115 P, ob116 P, ob117 P, ob118 P, ob119 P, ob120 P, ob121 P, ob122 P, ob123 P, ob124 P, ob125 P, ob126 P, ob127 P, ob128 P, ob129 P, ob130 P, ob131 P, ob132 P, ob133 P, ob134 P, ob135 P, ob136 P, ob137 P]), lifeZ⟩
noncomputable def adsF : List Addr := [2, 3, 6, 11, 12, 39, 43, 45, 46, 48, 49, 50, 52, 53, 55, 56, 57, 59, 60, 62, 63, 64, 66, 67, 69, 70, 71, 73, 74, 76, 77, 78, 80, 81, 83, 84, 85, 87, 88, 90, 91, 95, 96, 100, 101, 102, 104, 105, 107, 108, 109, 112, 113, 114, 116, 117, 119, 120, 121, 123, 124, 126, 127, 128, 131, 132, 133, 136, 137]
noncomputable def KF : Params → Frag := fun P => ((nat_lit 2 : Nat), ob2 P) :: ((nat_lit 3 : Nat), ob3v4 P) :: ((nat_lit 6 : Nat), ob6 P) :: ((nat_lit 11 : Nat), ob11 P) :: ((nat_lit 12 : Nat), ob12 P) :: ((nat_lit 39 : Nat), ob39 P) :: ((nat_lit 43 : Nat), ob43 P) :: ((nat_lit 45 : Nat), ob45 P) :: ((nat_lit 46 : Nat), ob46 P) :: ((nat_lit 48 : Nat), ob48 P) :: ((nat_lit 49 : Nat), ob49 P) :: ((nat_lit 50 : Nat), ob50 P) :: ((nat_lit 52 : Nat), ob52 P) :: ((nat_lit 53 : Nat), ob53 P) :: ((nat_lit 55 : Nat), ob55 P) :: ((nat_lit 56 : Nat), ob56 P) :: ((nat_lit 57 : Nat), ob57 P) :: ((nat_lit 59 : Nat), ob59 P) :: ((nat_lit 60 : Nat), ob60 P) :: ((nat_lit 62 : Nat), ob62 P) :: ((nat_lit 63 : Nat), ob63 P) :: ((nat_lit 64 : Nat), ob64 P) :: ((nat_lit 66 : Nat), ob66 P) :: ((nat_lit 67 : Nat), ob67 P) :: ((nat_lit 69 : Nat), ob69 P) :: ((nat_lit 70 : Nat), ob70 P) :: ((nat_lit 71 : Nat), ob71 P) :: ((nat_lit 73 : Nat), ob73 P) :: ((nat_lit 74 : Nat), ob74 P) :: ((nat_lit 76 : Nat), ob76 P) :: ((nat_lit 77 : Nat), ob77 P) :: ((nat_lit 78 : Nat), ob78 P) :: ((nat_lit 80 : Nat), ob80 P) :: ((nat_lit 81 : Nat), ob81 P) :: ((nat_lit 83 : Nat), ob83 P) :: ((nat_lit 84 : Nat), ob84 P) :: ((nat_lit 85 : Nat), ob85 P) :: ((nat_lit 87 : Nat), ob87 P) :: ((nat_lit 88 : Nat), ob88 P) :: ((nat_lit 90 : Nat), ob90 P) :: ((nat_lit 91 : Nat), ob91 P) :: ((nat_lit 95 : Nat), ob95 P) :: ((nat_lit 96 : Nat), ob96 P) :: ((nat_lit 100 : Nat), ob100 P) :: ((nat_lit 101 : Nat), ob101 P) :: ((nat_lit 102 : Nat), ob102 P) :: ((nat_lit 104 : Nat), ob104 P) :: ((nat_lit 105 : Nat), ob105 P) :: ((nat_lit 107 : Nat), ob107 P) :: ((nat_lit 108 : Nat), ob108 P) :: ((nat_lit 109 : Nat), ob109 P) :: ((nat_lit 112 : Nat), ob112 P) :: ((nat_lit 113 : Nat), ob113 P) :: ((nat_lit 114 : Nat), ob114 P) :: ((nat_lit 116 : Nat), ob116 P) :: ((nat_lit 117 : Nat), ob117 P) :: ((nat_lit 119 : Nat), ob119 P) :: ((nat_lit 120 : Nat), ob120 P) :: ((nat_lit 121 : Nat), ob121 P) :: ((nat_lit 123 : Nat), ob123 P) :: ((nat_lit 124 : Nat), ob124 P) :: ((nat_lit 126 : Nat), ob126 P) :: ((nat_lit 127 : Nat), ob127 P) :: ((nat_lit 128 : Nat), ob128 P) :: ((nat_lit 131 : Nat), ob131 P) :: ((nat_lit 132 : Nat), ob132 P) :: ((nat_lit 133 : Nat), ob133 P) :: ((nat_lit 136 : Nat), ob136 P) :: ((nat_lit 137 : Nat), ob137 P) :: []
end Mine
end
section
open PySem PySem.W PyProof.Rows
namespace Mine
noncomputable def env0 : Env := { scope := pw.main.scope, locals := mainNs, globals := mainNs, cells := [], code := .ref 30, frame := some 31 }
noncomputable abbrev bE : List Stmt := behindTheImports pw
noncomputable abbrev cE : Code := .body bE env0
noncomputable abbrev posZ : Pos := ⟨0, 0, 0, 0⟩
noncomputable abbrev annZ : Option Value := some (.ref 6)
noncomputable abbrev fB : List Frame := [topFrame posZ]
noncomputable abbrev sZ (w : World) (os : OsState) : Shared := ⟨hpZ w.params, #[], {}, 276, os⟩
noncomputable def sA (w : World) (os : OsState) : Shared := ⟨hpA w.params, #[], {}, 282, os⟩
noncomputable def tB (w : World) (os : OsState) : SharedT := ⟨trB w.params, 32, lifeZ, #[], {}, 282, os⟩
noncomputable def tP0 (w : World) (os : OsState) : SharedT := ⟨trP0 w.params, 32, lifeZ, #[], {}, 284, os⟩
noncomputable def tP1 (w : World) (os : OsState) : SharedT := ⟨trP1 w.params, 43, lifeZ, #[], {}, 344, os⟩
noncomputable def tP10 (w : World) (os : OsState) : SharedT := ⟨trP10 w.params, 92, lifeZ, #[], {}, 433, os⟩
noncomputable def tP21 (w : World) (os : OsState) : SharedT := ⟨trP21 w.params, 138, lifeZ, #[], {}, 555, os⟩
noncomputable abbrev sF (w : World) (os : OsState) : Shared := ⟨hpF w.params, #[], {}, 555, os⟩
noncomputable abbrev sts (i n : Nat) : List Stmt := (bE.drop i).take n
theorem h_open (w : World) : (fencedOpening treeTable pw w 4000).map (fun s => (s.heap, s.gens, s.drawn, s.toks)) = some (hpZ w.params, #[], {}, 276) := by
  kernel_rfl
theorem h_size (w : World) : ((hpZ w.params).isNs mainGlobals && (#[] : Array GenState).size == 0, (hpZ w.params).objs.size, (hpZ w.params).nsMap mainGlobals "__annotations__") = (true, 28, annZ) := by
  kernel_rfl
theorem h_pre (w : World) (os : OsState) : topGo treeTable pw w 28 annZ 12 (sZ w os) (topStub pw) = some (sA w os, ⟨denote treeTable cE, cE, posZ, fB⟩) := by
  kernel_rfl
theorem h_block (w : World) (os : OsState) : segRun treeTable pw w 28 annZ 1 1 (sA w os) (blockOf bE env0 cE posZ fB) = some (.next, (tB w os).abs, cE, posZ) := by
  kernel_rfl
theorem h_p0 (w : World) (os : OsState) : segRunT treeTable pw w 28 annZ 1 10 (tB w os) (piecesOf (sts 0 1) env0 cE posZ fB) = some (.next, tP0 w os, cE, ⟨2, 0, 2, 8⟩) := by
  rw [PySem.W.Fast.te10110043849684766642, PySem.W.Fast.te14364793385576792824]
  kernel_rfl
noncomputable abbrev SetStep (w : World) : Prop := (fun os => segRunT treeTable pw w 28 annZ 1 999 (tP0 w os) (piecesOf (sts 1 1) env0 cE ⟨2, 0, 2, 8⟩ fB)) = (fun os => some (.next, tP1 w os, cE, ⟨3, 0, 3, 6⟩))
theorem h_p1ff (w : World) : SetStep ((w.withFollow "special-get-raises" false).withFollow "set-order" false) := by
  unfold SetStep
  rw [PySem.W.Fast.te10110043849684766642, PySem.W.Fast.te14364793385576792824]
  kernel_rfl
theorem h_p1ft (w : World) : SetStep ((w.withFollow "special-get-raises" false).withFollow "set-order" true) := by
  unfold SetStep
  rw [PySem.W.Fast.te10110043849684766642, PySem.W.Fast.te14364793385576792824]
  kernel_rfl
theorem h_p1tf (w : World) : SetStep ((w.withFollow "special-get-raises" true).withFollow "set-order" false) := by
  unfold SetStep
  rw [PySem.W.Fast.te10110043849684766642, PySem.W.Fast.te14364793385576792824]
  kernel_rfl
theorem h_p1tt (w : World) : SetStep ((w.withFollow "special-get-raises" true).withFollow "set-order" true) := by
  unfold SetStep
  rw [PySem.W.Fast.te10110043849684766642, PySem.W.Fast.te14364793385576792824]
  kernel_rfl
theorem h_p1 : ∀ w : World, SetStep w :=
  byRow2 "set-order" (P := SetStep) (byRow2 "special-get-raises" (P := fun w => SetStep (w.withFollow "set-order" false)) h_p1ff h_p1tf) (byRow2 "special-get-raises" (P := fun w => SetStep (w.withFollow "set-order" true)) h_p1ft h_p1tt)
theorem h_p10 (w : World) (os : OsState) : segRunT treeTable pw w 28 annZ 1 258 (tP1 w os) (piecesOf (sts 2 9) env0 cE ⟨3, 0, 3, 6⟩ fB) = some (.next, tP10 w os, cE, ⟨70, 0, 80, 32⟩) := by
  rw [PySem.W.Fast.te10110043849684766642, PySem.W.Fast.te14364793385576792824]
  kernel_rfl
theorem h_p21 (w : World) (os : OsState) : segRunT treeTable pw w 28 annZ 1 356 (tP10 w os) (piecesOf (sts 11 11) env0 cE ⟨70, 0, 80, 32⟩ fB) = some (.next, tP21 w os, cE, ⟨153, 0, 170, 103⟩) := by
  rw [PySem.W.Fast.te10110043849684766642, PySem.W.Fast.te14364793385576792824]
  kernel_rfl
theorem h_fin (w : World) (os : OsState) : topRun treeTable pw w 28 annZ 2 (tP21 w os).abs (restOf [] env0 cE ⟨153, 0, 170, 103⟩ fB) = some (sF w os) := by
  kernel_rfl
theorem h_body : bE = sts 0 1 ++ (sts 1 1 ++ (sts 2 9 ++ (sts 11 11 ++ []))) := by kernel_rfl
theorem h_run (w : World) (os : OsState) : topRun treeTable pw w 28 annZ (12 + (1 + (10 + (999 + (258 + (356 + 2)))))) (sZ w os) (topStub pw) = some (sF w os) := by
  refine go_top (h_pre w os) (piece_block (env := env0) (q := posZ) (h_block w os) ?_)
  have e : restOf bE env0 cE posZ fB = restOf (sts 0 1 ++ (sts 1 1 ++ (sts 2 9 ++ (sts 11 11 ++ [])))) env0 cE posZ fB := congrArg (fun b => restOf b env0 cE posZ fB) h_body
  rw [e]
  exact piece_app (segRun_of (h_p0 w os)) (piece_app (segRun_of (congrFun (h_p1 w) os)) (piece_app (segRun_of (h_p10 w os)) (piece_app (segRun_of (h_p21 w os)) (h_fin w os))))
end Mine
end
section
open PySem PySem.W PyProof.Rows
namespace Mine
abbrev ol : OpenLaw := PySem.Challenge.rw_rs0075_01
noncomputable def qv : Program := { pw with main := { pw.main with body := [stAt 0, stAt 2, stAt 3, stAt 5, stAt 6, stAt 7, stAt 8, stAt 9, stAt 10, stAt 11, stAt 13, stAt 14, stAt 15, stAt 16, stAt 18, stAt 19, stAt 20, stAt 21, stAt 22] } }
noncomputable def looseF : List Str := [Str.ofString "b1_set", Str.ofString "_twin_re_1", Str.ofString "_twin_re_2"]
noncomputable def xtF (s : Shared) : Bool := xlAt qv [] s && recOk (RowW.records ol.row.toRowW) s
noncomputable abbrev modsF : List Str := importedModules pw.main.body
theorem kads (P : Params) : adsF = (KF P).map (·.1) := by kernel_rfl
noncomputable abbrev hookF : Hook := kHook KF adsF kads
theorem l_statics (w : World) (os : OsState) : (staticsOk modsF (hpZ w.params) (hpF w.params) && namesBound pw (hpF w.params) && gensDone (sF w os) && laidKept (hpZ w.params) (hpF w.params)) = true := by
  kernel_rfl
theorem l_obs (w : World) (os : OsState) : hookF.obs (sF w os) = hookF.val w := by kernel_rfl
theorem l_seen1 (w : World) (os : OsState) : seen ((recsOf qv).map (·.name)) (ownsOf qv) [] { sF w os with gens := #[] } = expectedOf qv := by kernel_rfl
theorem l_seen2 (w : World) : (hpF w.params).bltView = bltViewBooted := by kernel_rfl
theorem l_seen3 (w : World) (os : OsState) : ((hpF w.params).keysOk (looseW qv looseF) ((recsOf qv).map (·.name)) ((litsOf qv).map (·.1)) ((clssOf qv (looseW qv looseF)).map (·.name)) && (hpF w.params).accountedOkI modsF && (hpF w.params).isNs mainGlobals && (hpF w.params).isNs builtinsNs && tablesOk qv (hpF w.params) && xtF (sF w os) && (if true then (sF w os).gens.size == 0 else !leftWithCleanup (sF w os).gens)) = true := by kernel_rfl
theorem l_seen4 (w : World) (os : OsState) : tabsOk qv (sF w os) = true := by kernel_rfl
theorem l_seen5 (w : World) (os : OsState) : pinSeenD qv (drecsOf qv) (sF w os) = pinGoodD (drecsOf qv) := by kernel_rfl
theorem l_seen6 (w : World) (os : OsState) : plainSeenE qv (looseW qv looseF) (sF w os) = plainGoodE qv (looseW qv looseF) := by kernel_rfl
theorem l_seen7 (w : World) (os : OsState) : plainSeenD qv looseF (sF w os) = plainGoodD qv looseF := by kernel_rfl
theorem l_seen8 (w : World) (os : OsState) : wideSeen qv (sF w os) = wideGood qv := by kernel_rfl
theorem l_seen9 (w : World) (os : OsState) : clsSeenW qv looseF (sF w os) = clsGoodW qv looseF := by kernel_rfl
theorem headL : LeftO pw qv looseF xtF hookF.obs hookF.val 4000 := by
  refine LeftO.of_pieces (H₀ := hpZ) (H₁ := hpF) h_open h_size h_run (by decide +kernel) (fun w => funext fun os => ?_)
  refine Prod.ext (l_statics w os) (Prod.ext ?_ (l_obs w os))
  refine Prod.ext (l_seen1 w os) (Prod.ext (l_seen2 w) (Prod.ext (l_seen3 w os) (Prod.ext (l_seen4 w os) (Prod.ext (l_seen5 w os) (Prod.ext (l_seen6 w os) (Prod.ext (l_seen7 w os) (Prod.ext (l_seen8 w os) (l_seen9 w os))))))))
end Mine
end
section
open PySem PySem.W PyProof.Rows
namespace Mine
set_option maxHeartbeats 8000000 in
theorem theHead (hc : ∀ d kwd, defOf qv ol.row.name = some (d, kwd) → WalkO qv looseF (XL qv []) (kHook KF adsF kads).says ol.row.toRowW d kwd fun f vs => PySem.call f vs) : ol.Holds := by
  w_on
  o_law
  refine holds_open (q := qv) (loose := looseF) (Xt := xtF) (XP := XL qv []) (Yf := hookF.obs) (Ya := hookF.val) (YP := hookF.says) (N := 4000) headL hookF.of hookF.keeps (fun s e => xl_of s (Bool.and_eq_true_iff.mp e).1) XL.keeps (by rfl) (by rfl) (by rfl) (fun s e => recFacts_of (Bool.and_eq_true_iff.mp e).2) (by rfl) (by first | assumption | decide +kernel) (by decide +kernel) ⟨rfl, rfl, rfl, rfl, rfl, by decide +kernel⟩ ?hw ?hc
  case hw => w_witness2
  case hc => exact hc _ _ rfl
end Mine
end
section
open PySem PySem.W PyProof.Rows
namespace Mine
noncomputable def looseT : List Str := looseW qv looseF ++ (recsOf qv).map (·.name) ++ (litsOf qv).map (·.1) ++ (clssOf qv (looseW qv looseF)).map (·.name)
noncomputable abbrev pr : Program := ol.row.toRowW.prog
noncomputable abbrev tup2 (x y : Value) (c : Nat) : Obj := { cls := .type "tuple", data := .seq #[x, y] c }
/-- a call of the def at f with the values vs, from any frame: P says what must follow -/
noncomputable abbrev Con (w : World) (mean : ExcName → Option Value) (mg mb : Str → Option Value) (f : Addr) (vs : List Value) (d u : Nat)
    (P : Heap → Addr → (Str → Option Value) → List (Addr × Obj) → Shared → (Value → Shared → Prop) → Prop) : Prop :=
  ∀ (dp un : Nat) (gd : Option (List Code)) (cn : Str) (cs : Scope) (a : Addr) (ccd : Value) (cl : List (Str × Addr)) (outer : List Env) (A₀ : Around) (base h₀ : Heap) (L : Addr) (m : Str → Option Value) (news : List (Addr × Obj)) (s : Shared) (Q E : Value → Shared → Prop),
    Below A₀ base outer h₀ → Fr h₀ L s.heap m → (KF w.params).In h₀ → News h₀ L s.heap news → Top topProg looseT mean mg mb h₀ → CodeHd base 69 65 → CodeHd base 76 72 → cs.kind = .function →
    dp + d < recursionLimit → un + u < cLine → P h₀ L m news s Q →
    wpAny (model pr w) (ktrTop dp un gd cn cs L a ccd cl outer) (call (.ref f) vs) Q E s
/-- it gives back a pair of ints -/
noncomputable abbrev Ret2 (q r : Int) (h₀ : Heap) (L : Addr) (m : Str → Option Value) (news : List (Addr × Obj)) (s : Shared) (Q : Value → Shared → Prop) : Prop :=
  ∀ (D : Addr) (t1 t2 : Tok) (c : Nat) (h' : Heap) (tk' : Nat), Fr h₀ L h' m → News h₀ L h' ((D, tup2 (.int q t1) (.int r t2) c) :: news) → (∀ p ∈ news, p.1 < D) → Q (.ref D) { s with heap := h', toks := tk' }
theorem kf0 : (PySem.Challenge.rw_rs0075_01, KF) = (PySem.Challenge.rw_rs0075_01, KF) := rfl
end Mine
namespace Mine
theorem Con.use {w : World} {mean : ExcName → Option Value} {mg mb : Str → Option Value} {f : Addr} {vs : List Value} {d u : Nat} {P : Heap → Addr → (Str → Option Value) → List (Addr × Obj) → Shared → (Value → Shared → Prop) → Prop} {dp un : Nat} {gd : Option (List Code)} {cn : Str} {cs : Scope} {a : Addr} {ccd : Value} {cl : List (Str × Addr)} {outer : List Env} {A₀ : Around} {base h₀ : Heap} {L : Addr} {m : Str → Option Value} {news : List (Addr × Obj)} {s : Shared} {Q E : Value → Shared → Prop}
    (C : Con w mean mg mb f vs d u P) (B : Below A₀ base outer h₀) (F : Fr h₀ L s.heap m) (X : (KF w.params).In h₀) (N : News h₀ L s.heap news) (T : Top topProg looseT mean mg mb h₀) (C1 : CodeHd base 69 65) (C2 : CodeHd base 76 72) (hk : cs.kind = .function)
    (hd : dp + d < recursionLimit) (hu : un + u < cLine) (hP : P h₀ L m news s Q) : wpAny (model pr w) (ktrTop dp un gd cn cs L a ccd cl outer) (call (.ref f) vs) Q E s :=
  C _ _ _ _ _ _ _ _ _ _ _ _ _ _ _ _ _ _ B F X N T C1 C2 hk hd hu hP
open Builtin.Int (intBits)
theorem mulOk {a b : Int} (ha : intBits a ≤ 33554432) (hb : intBits b ≤ 33554432) : IntMulOk a b := by
  unfold IntMulOk
  have : Builtin.Int.intTooBig (intBits a + intBits b) = false := by
    unfold Builtin.Int.intTooBig bitsLine
    simp only [decide_eq_false_iff_not]
    omega
  rw [this]; simp
theorem bits_lt {a : Int} {k : Nat} (h0 : 0 ≤ a) (h : a < 2 ^ k) : intBits a ≤ k := by
  refine intBits_le_iff.mpr ?_
  have : (a.natAbs : Int) < ((2 ^ k : Nat) : Int) := by
    rw [Int.natCast_pow]; simpa [Int.natAbs_of_nonneg h0] using h
  omega
theorem lt_bits {a : Int} {k : Nat} (h : intBits a ≤ k) : a < 2 ^ k := by
  have := intBits_le_iff.mp h
  have h2 : (a.natAbs : Int) < ((2 ^ k : Nat) : Int) := by omega
  rw [Int.natCast_pow] at h2
  have : a ≤ (a.natAbs : Int) := by omega
  exact Int.lt_of_le_of_lt this h2
end Mine
end
section
open PySem PySem.W PySem.Calls PyProof.Rows PySem.Spec
namespace Mine
/-- the frame's map with the two names x, y overlaid -/
noncomputable abbrev ov2 (m : Str → Option Value) (x y : Str) (vx vy : Value) : Str → Option Value := fun z => if z = x then some vx else if z = y then some vy else m z
theorem ov2_eq {m m' : Str → Option Value} {x y : Str} {vx vy : Value} (h1 : m' x = some vx) (h2 : m' y = some vy) (h3 : ∀ z, z ≠ x → z ≠ y → m' z = m z) : m' = ov2 m x y vx vy := by
  funext z
  by_cases e : z = x
  · subst e; simp [ov2, h1]
  · by_cases e2 : z = y
    · subst e2; simp [ov2, h2, e]
    · simp [ov2, e, e2, h3 z e e2]
section
variable {prog : Program} {w : World} {A : Around} {E : Value → Shared → Prop} {Q : Flow → Shared → Prop} {s : Shared} {env : Env} {h₀ : Heap} {L : Addr}
noncomputable def End2 (h₀ : Heap) (L : Addr) (s : Shared) (m₀ : Str → Option Value) (news : List (Addr × Obj)) (x y : Str) (P : Int → Int → Prop) (μ : Int → Int → Nat) (k : Nat) (f : Flow) (s₂ : Shared) : Prop :=
  f = .next ∧ ∃ q r tq tr h' tk' m', s₂ = { s with heap := h', toks := tk' } ∧ Fr h₀ L h' m' ∧ News h₀ L h' news ∧ m' x = some (.int q tq) ∧ m' y = some (.int r tr) ∧ (∀ z, z ≠ x → z ≠ y → m' z = m₀ z) ∧ P q r ∧ μ q r < k
theorem wh2 {test : Expr} {body : List Stmt} {pos : Pos} {m₀ : Str → Option Value} {news : List (Addr × Obj)} (x y : Str) (P : Int → Int → Prop) (μ : Int → Int → Nat) {q₀ r₀ : Int} {tq₀ tr₀ : Tok}
    (F : Fr h₀ L s.heap m₀) (N : News h₀ L s.heap news) (hx : m₀ x = some (.int q₀ tq₀)) (hy : m₀ y = some (.int r₀ tr₀)) (hp : P q₀ r₀)
    (turn : ∀ q r tq tr h tk, P q r → Fr h₀ L h (ov2 m₀ x y (.int q tq) (.int r tr)) → News h₀ L h news →
      wpAny (model prog w) A (isTrue test env (eval test env)) (fun b s₂ =>
        if b = true then wpAny (model prog w) A (execs body env) (End2 h₀ L s m₀ news x y P μ (μ q r)) E s₂ else Q .next s₂) E { s with heap := h, toks := tk })
    (hE : PassesOwn (model prog w) A env E := by passes_own) :
    wpAny (model prog w) A (exec (.While test body [] pos) env) Q E s := by
  refine While_inv2 (fun n m nx => nx = news ∧ ∃ q r tq tr, m = ov2 m₀ x y (.int q tq) (.int r tr) ∧ μ q r = n ∧ P q r) F N ⟨rfl, q₀, r₀, tq₀, tr₀, ov2_eq hx hy (fun _ _ _ => rfl), rfl, hp⟩ ?_ hE
  rintro n m₁ nx h tk F₁ N₁ ⟨rfl, q, r, tq, tr, rfl, rfl, hp'⟩
  refine wpAny_mono (turn q r tq tr h tk hp' F₁ N₁) (fun b s₂ p => ?_) fun _ _ x => x
  cases b with
  | false => simpa using p
  | true =>
    simp only [if_true] at p ⊢
    refine wpAny_mono p (fun f s₃ e => ?_) fun _ _ x => x
    obtain ⟨rfl, q', r', tq', tr', h', tk', m', rfl, F', N', e1, e2, e3, hp2, hm⟩ := e
    exact ⟨h', tk', m', nx, μ q' r', rfl, F', N', hm, rfl, q', r', tq', tr', ov2_eq e1 e2 e3, rfl, hp2⟩
end
end Mine
end
section
open PySem PySem.W PyProof.Rows
open Builtin.Int (intBits)
namespace Mine
/-- what the two halves' calls of _div3n2n give, where n = 2 h -/
structure Half (w : World) (mean : ExcName → Option Value) (mg mb : Str → Option Value) (d u : Nat) (a b n h q1 r1 q2 r2 : Int) : Prop where
  hh : 0 ≤ h
  hn : 0 ≤ n
  hz0 : (intBits 1 : Int) + h ≤ 2 ^ 27
  hz1 : (intBits q1 : Int) + h ≤ 2 ^ 27
  con1 : ∀ t1 t2 t3 t4 t5 t6, Con w mean mg mb 63 [.int (a.fdiv (2 ^ n.toNat)) t1, .int (Builtin.bitAnd (a.fdiv (2 ^ h.toNat)) (1 * 2 ^ h.toNat - 1)) t2, .int b t3, .int (b.fdiv (2 ^ h.toNat)) t4, .int (Builtin.bitAnd b (1 * 2 ^ h.toNat - 1)) t5, .int h t6] d u (Ret2 q1 r1)
  con2 : ∀ t1 t2 t3 t4 t5 t6, Con w mean mg mb 63 [.int r1 t1, .int (Builtin.bitAnd a (1 * 2 ^ h.toNat - 1)) t2, .int b t3, .int (b.fdiv (2 ^ h.toNat)) t4, .int (Builtin.bitAnd b (1 * 2 ^ h.toNat - 1)) t5, .int h t6] d u (Ret2 q2 r2)
end Mine
namespace Mine
section
variable {prog : Program} {w : World} {A : Around} {E : Value → Shared → Prop} {s : Shared} {a b : Int} {t u : Tok} {Q : Value → Shared → Prop}
theorem divmod_L {h₀ : Heap} {L : Addr} {m : Str → Option Value} {news : List (Addr × Obj)} (F : Fr h₀ L s.heap m) (N : News h₀ L s.heap news) (hb : b ≠ 0) (hp : Builtin.divisionGoesByPylong a b = false)
    (h : ∀ D t1 t2 h' tk', Fr h₀ L h' m → News h₀ L h' ((D, tup2 (.int (a.fdiv b) t1) (.int (a.fmod b) t2) 0) :: news) → (∀ p ∈ news, p.1 < D) → Q (.ref D) { s with toks := tk', heap := h' }) :
    wpAny (model prog w) A (call (.builtin "divmod") [.int a t, .int b u]) Q E s :=
  divmod_N F N hb (fun h' F' N' => h _ _ _ h' _ F' N' fun p hp => Heap.lt_size (N p hp).1) (.inl hp)
end
end Mine
end
section
open PySem PySem.Sre PySem.Sre.M
namespace Mine
noncomputable def c1 : Array Nat := #[14, 4, 0, 1, 1, 6, 1, 16, 46, 1]
noncomputable def st1 (text : Array Nat) (seen : Seen) (s : Nat) (first must : Bool) : M :=
  { code := c1, text, lim := text.size, start := s, lastStart := text.size, mustAdvance := must, pc := 5, pos := s, handed := s, outermost := first, marks := #[],
    frames := [{ wait := .nextStart, pc := 5, pos := s, outermost := first }], weight := 1, seen }
noncomputable def lineStart (text : Array Nat) (s : Nat) : Bool := s == 0 || text.getD (s - 1) 0 == 10
theorem runFor_add (a b : Nat) (m : M) : runFor (a + b) m = runFor b (runFor a m) := by
  induction a generalizing m with
  | zero => rw [Nat.zero_add]; rfl
  | succ a ih =>
    rw [Nat.succ_add]
    show (if m.outcome.isSome then m else runFor (a + b) m.step) = runFor b (if m.outcome.isSome then m else runFor a m.step)
    cases h : m.outcome.isSome
    · simp only [Bool.false_eq_true, if_false]; exact ih _
    · simp only [if_true]
      cases b with
      | zero => rfl
      | succ b => show m = (if m.outcome.isSome then m else _); rw [h]; rfl
theorem runFor_done {m : M} (h : m.outcome.isSome = true) (n : Nat) : runFor n m = m := by
  cases n with
  | zero => rfl
  | succ n => show (if m.outcome.isSome then m else _) = m; rw [h]; rfl
theorem runFor_one (m : M) (h : m.outcome = none) : runFor 1 m = m.step := by
  show (if m.outcome.isSome then m else _) = _
  rw [h]; rfl
theorem start1 (text : Array Nat) (s : Nat) (must : Bool) (h : s < text.size) : forSearch c1 text 0 s text.size must = st1 text (({} : Seen).add 14) s true must := by
  show (if (decide (s > text.size) || decide (text.size - s < 1)) = true then _ else _) = _
  rw [if_neg (by simp; omega)]
  rfl
theorem start1_end (text : Array Nat) (s : Nat) (must : Bool) (h : text.size ≤ s) : ∃ m : M, forSearch c1 text 0 s text.size must = m.say false ∧ m.frames = [] ∧ m.outcome = none := by
  refine ⟨_, (by show (if (decide (s > text.size) || decide (text.size - s < 1)) = true then _ else _) = _; rw [if_pos (by simp; omega)]), rfl, rfl⟩
theorem step_exec {m : M} (h1 : m.outcome = none) (h2 : m.answer = none) (h3 : m.pc < m.code.size) : runFor 1 m = m.exec := by
  rw [runFor_one m h1]; unfold M.step; rw [h1, h2]; simp [h3]
theorem exec_AT {m : M} (b : Bool) (h : ops[m.word 0]? = some .AT) (hat : m.isAt (m.word 1) = .ok b) :
    m.exec = if b then { m with seen := (m.seen.add (m.word 0)).add (43 + m.word 1), pc := m.pc + 2 } else { m with seen := (m.seen.add (m.word 0)).add (43 + m.word 1), answer := some false } := by
  unfold M.exec; rw [h]; dsimp only
  have : isAt { m with seen := m.seen.add (m.word 0) } (word { m with seen := m.seen.add (m.word 0) } 1) = .ok b := hat
  rw [this]; cases b <;> rfl
theorem exec_LIT {m : M} (b : Bool) (h : ops[m.word 0]? = some .LITERAL) (hb : (decide (m.pos < m.lim) && (m.text.getD m.pos 0 == m.word 1)) = b) :
    m.exec = if b then { m with seen := m.seen.add (m.word 0), pc := m.pc + 2, pos := m.pos + 1 } else { m with seen := m.seen.add (m.word 0), answer := some false } := by
  have hi : itemWidth m.code m.pc = 2 := by
    unfold itemWidth
    have : ops[m.code.getD m.pc 0]? = some .LITERAL := h
    rw [this]
  have ha : ∀ sn, accepts m.code m.pc (m.text.getD m.pos 0) sn = .ok (m.text.getD m.pos 0 == m.word 1, sn) := by
    intro sn
    unfold accepts
    have : ops[m.code.getD m.pc 0]? = some .LITERAL := h
    rw [this]; rfl
  unfold M.exec; rw [h]; dsimp only
  by_cases hp : m.pos < m.lim
  · rw [if_neg (by omega : ¬ m.pos ≥ m.lim)]
    simp only [hp, decide_true, Bool.true_and] at hb
    have : accepts m.code m.pc (m.text.getD m.pos 0) (m.seen.add (m.word 0)) = .ok (b, m.seen.add (m.word 0)) := by rw [ha, hb]
    rw [this]
    cases b
    · rfl
    · show _ = _; rw [hi]; rfl
  · rw [if_pos (by omega : m.pos ≥ m.lim)]
    simp only [hp, decide_false, Bool.false_and] at hb
    subst hb; rfl
theorem exec_OK {m : M} (h : ops[m.word 0]? = some .SUCCESS) (hb : (m.outermost && ((m.wholeText && m.pos != m.lim) || (m.mustAdvance && m.pos == m.start))) = false) :
    m.exec = { m with seen := m.seen.add (m.word 0), handed := m.pos, answer := some true } := by
  unfold M.exec; rw [h]; dsimp only
  rw [hb]; rfl
/-- no line starts here -/
theorem step1_no (text : Array Nat) (seen : Seen) (s : Nat) (first must : Bool) (h : lineStart text s = false) (hs : s < text.size) :
    runFor 2 (st1 text seen s first must) = st1 text ((seen.add 6).add 44) (s + 1) false false := by
  have e1 : runFor 1 (st1 text seen s first must) = { (st1 text seen s first must) with answer := some false, seen := (seen.add 6).add 44 } := by
    rw [step_exec rfl rfl (by show 5 < 10; decide), exec_AT false rfl (by show Except.ok (lineStart text s) = _; rw [h])]; rfl
  rw [runFor_add 1 1, e1, runFor_one _ rfl]
  show (if s < text.size then _ else _) = _
  rw [if_pos hs]
  rfl
theorem at1 (text : Array Nat) (seen : Seen) (s : Nat) (first must : Bool) (h : lineStart text s = true) :
    runFor 1 (st1 text seen s first must) = { (st1 text seen s first must) with pc := 7, seen := (seen.add 6).add 44 } := by
  rw [step_exec rfl rfl (by show 5 < 10; decide), exec_AT true rfl (by show Except.ok (lineStart text s) = _; rw [h])]; rfl
/-- a line starts here, but no dot stands here -/
theorem step1_other (text : Array Nat) (seen : Seen) (s : Nat) (first must : Bool) (h : lineStart text s = true) (hs : s < text.size) (hd : (text.getD s 0 == 46) = false) :
    runFor 3 (st1 text seen s first must) = st1 text (((seen.add 6).add 44).add 16) (s + 1) false false := by
  have e3 : runFor 1 ({ (st1 text seen s first must) with pc := 7, seen := (seen.add 6).add 44 } : M) = { (st1 text seen s first must) with pc := 7, answer := some false, seen := ((seen.add 6).add 44).add 16 } := by
    rw [step_exec rfl rfl (by show 7 < 10; decide), exec_LIT false rfl (by show (decide (s < text.size) && (text.getD s 0 == 46)) = _; rw [hd, Bool.and_false])]; rfl
  rw [runFor_add 1 2, at1 _ _ _ _ _ h, runFor_add 1 1, e3, runFor_one _ rfl]
  show (if s < text.size then _ else _) = _
  rw [if_pos hs]
  rfl
/-- the text's end -/
theorem step1_end (text : Array Nat) (seen : Seen) (first must : Bool) :
    (runFor 4 (st1 text seen text.size first must)).outcome = some .failed := by
  cases h : lineStart text text.size
  · have e1 : runFor 1 (st1 text seen text.size first must) = { (st1 text seen text.size first must) with answer := some false, seen := (seen.add 6).add 44 } := by
      rw [step_exec rfl rfl (by show 5 < 10; decide), exec_AT false rfl (by show Except.ok (lineStart text text.size) = _; rw [h])]; rfl
    have e2 : runFor 1 ({ (st1 text seen text.size first must) with answer := some false, seen := (seen.add 6).add 44 } : M) = { (st1 text seen text.size first must) with answer := some false, seen := (seen.add 6).add 44, frames := [], weight := 0 } := by
      rw [runFor_one _ rfl]
      show (if text.size < text.size then _ else _) = _
      rw [if_neg (by omega)]; rfl
    rw [runFor_add 1 3, e1, runFor_add 1 2, e2]
    rfl
  · have e2 : runFor 1 ({ (st1 text seen text.size first must) with pc := 7, answer := some false, seen := ((seen.add 6).add 44).add 16 } : M) = { (st1 text seen text.size first must) with answer := some false, seen := ((seen.add 6).add 44).add 16, frames := [], weight := 0 } := by
      rw [runFor_one _ rfl]
      show (if text.size < text.size then _ else _) = _
      rw [if_neg (by omega)]; rfl
    have e3 : runFor 1 ({ (st1 text seen text.size first must) with pc := 7, seen := (seen.add 6).add 44 } : M) = { (st1 text seen text.size first must) with pc := 7, answer := some false, seen := ((seen.add 6).add 44).add 16 } := by
      rw [step_exec rfl rfl (by show 7 < 10; decide), exec_LIT false rfl (by show (decide (text.size < text.size) && _) = _; simp)]; rfl
    rw [runFor_add 1 3, at1 _ _ _ _ _ h, runFor_add 1 2, e3, runFor_add 1 1, e2]
    rfl
/-- a dot at a line's start -/
theorem step1_yes (text : Array Nat) (seen : Seen) (s : Nat) (first must : Bool) (h : lineStart text s = true) (hs : s < text.size) (hd : (text.getD s 0 == 46) = true) :
    ∃ m, runFor 5 (st1 text seen s first must) = m ∧ m.outcome = some .matched ∧ m.start = s ∧ m.handed = s + 1 := by
  have e2 : runFor 1 ({ (st1 text seen s first must) with pc := 7, seen := (seen.add 6).add 44 } : M) = { (st1 text seen s first must) with pc := 9, pos := s + 1, seen := ((seen.add 6).add 44).add 16 } := by
    rw [step_exec rfl rfl (by show 7 < 10; decide), exec_LIT true rfl (by show (decide (s < text.size) && (text.getD s 0 == 46)) = _; rw [hd]; simp [hs])]; rfl
  have e3 : runFor 1 ({ (st1 text seen s first must) with pc := 9, pos := s + 1, seen := ((seen.add 6).add 44).add 16 } : M) = { (st1 text seen s first must) with pc := 9, pos := s + 1, handed := s + 1, answer := some true, seen := (((seen.add 6).add 44).add 16).add 1 } := by
    rw [step_exec rfl rfl (by show 9 < 10; decide), exec_OK rfl (by show (first && (false && (s + 1 != text.size) || must && (s + 1 == s))) = _; simp)]; rfl
  rw [runFor_add 1 4, at1 _ _ _ _ _ h, runFor_add 1 3, e2, runFor_add 1 2, e3]
  exact ⟨_, rfl, rfl, rfl, rfl⟩
end Mine
end
section
open PySem PySem.Sre PySem.Sre.M
namespace Mine
noncomputable def c2p : Array Nat := #[14, 9, 4, 1, 2, 16, 10, 16, 13, 0, 7, 7, 16, 13, 16, 10, 15, 18, 5, 16, 10, 15, 13, 11, 16, 13, 5, 5, 0, 16, 10, 1, 15, 2, 0, 1]
noncomputable def fr0 (s : Nat) (first : Bool) : Sre.Frame := { wait := .nextStart, pc := 10, pos := s, outermost := first }
noncomputable def k0 : Sre.Kept := { lastmark := -1, lastindex := -1 }
noncomputable def frB (pc s : Nat) (first : Bool) : Sre.Frame := { wait := .nextBranch, pc, pos := s, outermost := first, kept := k0 }
noncomputable def frL (s : Nat) (first : Bool) : Sre.Frame := { wait := .lookNot, pc := 26, pos := s, outermost := first, kept := k0 }
/-- the machine's state at pc with these frames -/
noncomputable def st2 (text : Array Nat) (seen : Seen) (s : Nat) (out : Bool) (pc pos handed : Nat) (frames : List Sre.Frame) (weight : Nat) (answer : Option Bool) : M :=
  { code := c2p, text, lim := text.size, start := s, lastStart := text.size, pc, pos, handed, outermost := out, marks := #[], frames, weight, seen, answer }
theorem lit2 {text : Array Nat} {seen : Seen} {s : Nat} {out : Bool} {pc pos handed : Nat} {frames : List Sre.Frame} {weight : Nat} (b : Bool) (hop : ops[c2p.getD pc 0]? = some .LITERAL) (hpc : pc < 36)
    (hb : (decide (pos < text.size) && (text.getD pos 0 == c2p.getD (pc + 1) 0)) = b) :
    ∃ seen', runFor 1 (st2 text seen s out pc pos handed frames weight none) = if b then st2 text seen' s out (pc + 2) (pos + 1) handed frames weight none else st2 text seen' s out pc pos handed frames weight (some false) := by
  refine ⟨seen.add (c2p.getD pc 0), ?_⟩
  rw [step_exec rfl rfl (by show pc < 36; exact hpc), exec_LIT (m := st2 text seen s out pc pos handed frames weight none) b hop hb]
  cases b <;> rfl
theorem fin2 (text : Array Nat) (seen : Seen) (s : Nat) (first : Bool) (pos handed pc' : Nat) :
    (runFor 4 (st2 text seen s first 35 pos handed [frB pc' s first, fr0 s first] 2 none)).outcome = some .matched ∧ (runFor 4 (st2 text seen s first 35 pos handed [frB pc' s first, fr0 s first] 2 none)).start = s ∧
      (runFor 4 (st2 text seen s first 35 pos handed [frB pc' s first, fr0 s first] 2 none)).handed = pos := by
  have e1 : ∃ sn, runFor 1 (st2 text seen s first 35 pos handed [frB pc' s first, fr0 s first] 2 none) = st2 text sn s first 35 pos pos [frB pc' s first, fr0 s first] 2 (some true) := by
    refine ⟨seen.add 1, ?_⟩
    rw [step_exec rfl rfl (by show 35 < 36; decide), exec_OK rfl (by show (first && (false && _ || false && _)) = _; simp)]; rfl
  obtain ⟨sn1, e1⟩ := e1
  have e2 : runFor 1 (st2 text sn1 s first 35 pos pos [frB pc' s first, fr0 s first] 2 (some true)) = st2 text sn1 s first pc' s pos [fr0 s first] 1 (some true) := rfl
  have e3 : runFor 1 (st2 text sn1 s first pc' s pos [fr0 s first] 1 (some true)) = st2 text sn1 s first 10 s pos [] 0 (some true) := rfl
  have e : runFor 4 (st2 text seen s first 35 pos handed [frB pc' s first, fr0 s first] 2 none) = runFor 1 (st2 text sn1 s first 10 s pos [] 0 (some true)) := by
    rw [show 4 = 1 + (1 + (1 + 1)) from rfl, runFor_add, e1, runFor_add, e2, runFor_add, e3]
  rw [e]
  exact ⟨rfl, rfl, rfl⟩
theorem jump2 (text : Array Nat) (seen : Seen) (s : Nat) (first : Bool) (pc pos handed : Nat) (frames : List Sre.Frame) (h : pc = 16 ∨ pc = 21 ∨ pc = 32) :
    runFor 1 (st2 text seen s first pc pos handed frames 2 none) = st2 text (seen.add 15) s first 35 pos handed frames 2 none := by
  rcases h with rfl | rfl | rfl <;> rfl
set_option maxHeartbeats 1000000 in
/-- from a start whose sign is a line feed or a carriage return there is a match -/
theorem match2 (text : Array Nat) (seen : Seen) (s : Nat) (first : Bool) (hs : s < text.size) (hc : (text.getD s 0 == 10 || text.getD s 0 == 13) = true) :
    ∃ m n, n ≤ 15 ∧ runFor n (st2 text seen s first 10 s s [fr0 s first] 1 none) = m ∧ m.outcome = some .matched ∧ m.start = s
      ∧ m.handed = if text.getD s 0 == 13 && (decide (s + 1 < text.size) && text.getD (s + 1) 0 == 10) then s + 2 else s + 1 := by
  have b1 : ∃ sn, runFor 1 (st2 text seen s first 10 s s [fr0 s first] 1 none) = st2 text sn s first 12 s s [frB 11 s first, fr0 s first] 2 none := ⟨_, rfl⟩
  obtain ⟨sn1, b1⟩ := b1
  cases h13 : (text.getD s 0 == 13)
  · -- a line feed
    rw [h13, Bool.or_false] at hc
    obtain ⟨sn2, b2⟩ := lit2 (text := text) (seen := sn1) (s := s) (out := first) (pc := 12) (pos := s) (handed := s) (frames := [frB 11 s first, fr0 s first]) (weight := 2) false rfl (by decide)
      (by show (decide (s < text.size) && (text.getD s 0 == 13)) = _; rw [h13, Bool.and_false])
    simp only [Bool.false_eq_true, if_false] at b2
    have b3 : ∃ sn, runFor 1 (st2 text sn2 s first 12 s s [frB 11 s first, fr0 s first] 2 (some false)) = st2 text sn s first 19 s s [frB 18 s first, fr0 s first] 2 none := ⟨_, rfl⟩
    obtain ⟨sn3, b3⟩ := b3
    obtain ⟨sn4, b4⟩ := lit2 (text := text) (seen := sn3) (s := s) (out := first) (pc := 19) (pos := s) (handed := s) (frames := [frB 18 s first, fr0 s first]) (weight := 2) true rfl (by decide)
      (by show (decide (s < text.size) && (text.getD s 0 == 10)) = _; rw [hc]; simp [hs])
    simp only [if_true] at b4
    refine ⟨_, 1 + (1 + (1 + (1 + 5))), by decide, rfl, ?_⟩
    rw [runFor_add, b1, runFor_add, b2, runFor_add, b3, runFor_add, b4, show 5 = 1 + 4 from rfl, runFor_add, jump2 _ _ _ _ _ _ _ _ (.inr (.inl rfl))]
    exact fin2 ..
  · obtain ⟨sn2, b2⟩ := lit2 (text := text) (seen := sn1) (s := s) (out := first) (pc := 12) (pos := s) (handed := s) (frames := [frB 11 s first, fr0 s first]) (weight := 2) true rfl (by decide)
      (by show (decide (s < text.size) && (text.getD s 0 == 13)) = _; rw [h13]; simp [hs])
    simp only [if_true] at b2
    cases h10 : (decide (s + 1 < text.size) && (text.getD (s + 1) 0 == 10))
    · obtain ⟨sn3, b3⟩ := lit2 (text := text) (seen := sn2) (s := s) (out := first) (pc := 14) (pos := s + 1) (handed := s) (frames := [frB 11 s first, fr0 s first]) (weight := 2) false rfl (by decide) h10
      simp only [Bool.false_eq_true, if_false] at b3
      have b4 : ∃ sn, runFor 1 (st2 text sn3 s first 14 (s + 1) s [frB 11 s first, fr0 s first] 2 (some false)) = st2 text sn s first 19 s s [frB 18 s first, fr0 s first] 2 none := ⟨_, rfl⟩
      obtain ⟨sn4, b4⟩ := b4
      have n10 : (text.getD s 0 == 10) = false := by
        have := eq_of_beq h13
        rw [this]; rfl
      obtain ⟨sn5, b5⟩ := lit2 (text := text) (seen := sn4) (s := s) (out := first) (pc := 19) (pos := s) (handed := s) (frames := [frB 18 s first, fr0 s first]) (weight := 2) false rfl (by decide)
        (by show (decide (s < text.size) && (text.getD s 0 == 10)) = _; rw [n10, Bool.and_false])
      simp only [Bool.false_eq_true, if_false] at b5
      have b6 : ∃ sn, runFor 1 (st2 text sn5 s first 19 s s [frB 18 s first, fr0 s first] 2 (some false)) = st2 text sn s first 24 s s [frB 23 s first, fr0 s first] 2 none := ⟨_, rfl⟩
      obtain ⟨sn6, b6⟩ := b6
      obtain ⟨sn7, b7⟩ := lit2 (text := text) (seen := sn6) (s := s) (out := first) (pc := 24) (pos := s) (handed := s) (frames := [frB 23 s first, fr0 s first]) (weight := 2) true rfl (by decide)
        (by show (decide (s < text.size) && (text.getD s 0 == 13)) = _; rw [h13]; simp [hs])
      simp only [if_true] at b7
      have b8 : ∃ sn, runFor 1 (st2 text sn7 s first 26 (s + 1) s [frB 23 s first, fr0 s first] 2 none) = st2 text sn s false 29 (s + 1) (s + 1) [frL (s + 1) first, frB 23 s first, fr0 s first] 3 none := ⟨_, rfl⟩
      obtain ⟨sn8, b8⟩ := b8
      obtain ⟨sn9, b9⟩ := lit2 (text := text) (seen := sn8) (s := s) (out := false) (pc := 29) (pos := s + 1) (handed := s + 1) (frames := [frL (s + 1) first, frB 23 s first, fr0 s first]) (weight := 3) false rfl (by decide) h10
      simp only [Bool.false_eq_true, if_false] at b9
      have b10 : ∃ sn, runFor 1 (st2 text sn9 s false 29 (s + 1) (s + 1) [frL (s + 1) first, frB 23 s first, fr0 s first] 3 (some false)) = st2 text sn s first 32 (s + 1) (s + 1) [frB 23 s first, fr0 s first] 2 none := ⟨_, rfl⟩
      obtain ⟨sn10, b10⟩ := b10
      refine ⟨_, 1 + (1 + (1 + (1 + (1 + (1 + (1 + (1 + (1 + (1 + 5))))))))), by decide, rfl, ?_⟩
      rw [runFor_add, b1, runFor_add, b2, runFor_add, b3, runFor_add, b4, runFor_add, b5, runFor_add, b6, runFor_add, b7, runFor_add, b8, runFor_add, b9, runFor_add, b10, show 5 = 1 + 4 from rfl, runFor_add, jump2 _ _ _ _ _ _ _ _ (.inr (.inr rfl))]
      exact fin2 ..
    · obtain ⟨sn3, b3⟩ := lit2 (text := text) (seen := sn2) (s := s) (out := first) (pc := 14) (pos := s + 1) (handed := s) (frames := [frB 11 s first, fr0 s first]) (weight := 2) true rfl (by decide) h10
      simp only [if_true] at b3
      refine ⟨_, 1 + (1 + (1 + 5)), by decide, rfl, ?_⟩
      rw [runFor_add, b1, runFor_add, b2, runFor_add, b3, show 5 = 1 + 4 from rfl, runFor_add, jump2 _ _ _ _ _ _ _ _ (.inl rfl)]
      exact fin2 ..
/-- the first sign that the first set admits -/
theorem admitted2 (m : M) (hm : m.code = c2p) (hl : m.lim = m.text.size) (fuel s : Nat) (seen : Seen) (hf : m.text.size < s + fuel) :
    (∃ p sn, admitted m fuel s seen = .ok (some p, sn) ∧ s ≤ p ∧ p < m.text.size ∧ (m.text.getD p 0 == 10 || m.text.getD p 0 == 13) = true ∧ ∀ q, s ≤ q → q < p → (m.text.getD q 0 == 10 || m.text.getD q 0 == 13) = false)
    ∨ (∃ sn, admitted m fuel s seen = .ok (none, sn) ∧ ∀ q, s ≤ q → q < m.text.size → (m.text.getD q 0 == 10 || m.text.getD q 0 == 13) = false) := by
  induction fuel generalizing s seen with
  | zero => exact .inr ⟨seen, rfl, fun q h1 h2 => by omega⟩
  | succ f ih =>
    unfold admitted
    by_cases hs : s ≥ m.lim
    · rw [if_pos hs]
      exact .inr ⟨seen, rfl, fun q h1 h2 => by omega⟩
    · rw [if_neg hs]
      have key : ∃ sn, inSet m.code (m.text.getD s 0) m.code.size 5 true seen = .ok ((m.text.getD s 0 == 10 || m.text.getD s 0 == 13), sn) := by
        rw [hm]
        generalize m.text.getD s 0 = c
        show ∃ sn, (if c == 10 then Except.ok (true, seen.add 16) else if c == 13 then Except.ok (true, (seen.add 16).add 16) else Except.ok (!true, ((seen.add 16).add 16).add 0)) = _
        cases h1 : c == 10
        · cases h2 : c == 13
          · exact ⟨_, rfl⟩
          · exact ⟨_, rfl⟩
        · exact ⟨_, rfl⟩
      obtain ⟨sn, key⟩ := key
      rw [key]
      cases hc : (m.text.getD s 0 == 10 || m.text.getD s 0 == 13)
      · show (∃ p sn', admitted m f (s + 1) sn = _ ∧ _) ∨ (∃ sn', admitted m f (s + 1) sn = _ ∧ _)
        rcases ih (s + 1) sn (by omega) with ⟨p, sn', h1, h2, h3, h4, h5⟩ | ⟨sn', h1, h2⟩
        · refine .inl ⟨p, sn', h1, by omega, h3, h4, fun q hq1 hq2 => ?_⟩
          by_cases e : q = s
          · rw [e]; exact hc
          · exact h5 q (by omega) hq2
        · refine .inr ⟨sn', h1, fun q hq1 hq2 => ?_⟩
          by_cases e : q = s
          · rw [e]; exact hc
          · exact h2 q (by omega) hq2
      · exact .inl ⟨s, sn, rfl, Nat.le_refl _, by omega, hc, fun q h1 h2 => by omega⟩
end Mine
end
section
open PySem PySem.Sre PySem.Sre.M
namespace Mine
noncomputable def Found (m : M) (N : Nat) (r : Option (Nat × Nat)) : Prop :=
  ∃ n, n ≤ N ∧ match r with
    | none => (runFor n m).outcome = some .failed
    | some (b, e) => (runFor n m).outcome = some .matched ∧ (runFor n m).start = b ∧ (runFor n m).handed = e
noncomputable def NextIs (P : Nat → Bool) (size s : Nat) : Option Nat → Prop
  | none => ∀ q, s ≤ q → q < size → P q = false
  | some p => s ≤ p ∧ p < size ∧ P p = true ∧ ∀ q, s ≤ q → q < p → P q = false
theorem Found.after {m m' : M} {k N : Nat} {r : Option (Nat × Nat)} (h : runFor k m = m') (f : Found m' N r) : Found m (k + N) r := by
  obtain ⟨n, hn, f⟩ := f
  refine ⟨k + n, by omega, ?_⟩
  rw [runFor_add, h]; exact f
theorem Found.mono {m : M} {N N' : Nat} {r : Option (Nat × Nat)} (h : N ≤ N') (f : Found m N r) : Found m N' r := by
  obtain ⟨n, hn, f⟩ := f
  exact ⟨n, by omega, f⟩
theorem NextIs.later {P : Nat → Bool} {size s : Nat} {r : Option Nat} (h : P s = false) (x : NextIs P size (s + 1) r) : NextIs P size s r := by
  cases r with
  | none => exact fun q h1 h2 => if e : q = s then e ▸ h else x q (by omega) h2
  | some p =>
    obtain ⟨h1, h2, h3, h4⟩ := x
    exact ⟨by omega, h2, h3, fun q a b => if e : q = s then e ▸ h else h4 q (by omega) b⟩
noncomputable def dotAt (text : Array Nat) (q : Nat) : Bool := lineStart text q && text.getD q 0 == 46
theorem search1 (text : Array Nat) : ∀ (k s : Nat) (seen : Seen) (first must : Bool), s + k = text.size →
    ∃ r, NextIs (dotAt text) text.size s r ∧ Found (st1 text seen s first must) (3 * k + 5) (r.map fun p => (p, p + 1)) := by
  intro k
  induction k with
  | zero =>
    intro s seen first must h
    refine ⟨none, fun q h1 h2 => by omega, 4, by omega, ?_⟩
    have : s = text.size := by omega
    rw [this]
    exact step1_end text seen first must
  | succ k ih =>
    intro s seen first must h
    have hs : s < text.size := by omega
    cases h1 : lineStart text s
    · obtain ⟨r, x, f⟩ := ih (s + 1) ((seen.add 6).add 44) false false (by omega)
      exact ⟨r, x.later (by unfold dotAt; rw [h1]; rfl), (f.after (step1_no text seen s first must h1 hs)).mono (by omega)⟩
    · cases h2 : (text.getD s 0 == 46)
      · obtain ⟨r, x, f⟩ := ih (s + 1) (((seen.add 6).add 44).add 16) false false (by omega)
        exact ⟨r, x.later (by unfold dotAt; rw [h1, h2]; rfl), (f.after (step1_other text seen s first must h1 hs h2)).mono (by omega)⟩
      · obtain ⟨m, e, f1, f2, f3⟩ := step1_yes text seen s first must h1 hs h2
        exact ⟨some s, ⟨Nat.le_refl _, hs, by unfold dotAt; rw [h1, h2]; rfl, fun q a b => by omega⟩, 5, by omega, by rw [← e] at f1 f2 f3; exact ⟨f1, f2, f3⟩⟩
theorem found1 (text : Array Nat) (s : Nat) (must : Bool) (h : s ≤ text.size) :
    ∃ r, NextIs (dotAt text) text.size s r ∧ Found (forSearch c1 text 0 s text.size must) (3 * text.size + 5) (r.map fun p => (p, p + 1)) := by
  by_cases hs : s < text.size
  · rw [start1 text s must hs]
    obtain ⟨r, x, f⟩ := search1 text (text.size - s) s (({} : Seen).add 14) true must (by omega)
    exact ⟨r, x, f.mono (by omega)⟩
  · obtain ⟨m, e, hf, ho⟩ := start1_end text s must (by omega)
    refine ⟨none, fun q h1 h2 => by omega, 1, by omega, ?_⟩
    rw [e, runFor_one (m.say false) ho]
    show (M.step (m.say false)).outcome = _
    unfold M.step M.say
    dsimp only
    rw [ho, hf]; rfl
noncomputable def eolAt (text : Array Nat) (q : Nat) : Bool := text.getD q 0 == 10 || text.getD q 0 == 13
noncomputable def eolEnd (text : Array Nat) (s : Nat) : Nat := if text.getD s 0 == 13 && (decide (s + 1 < text.size) && text.getD (s + 1) 0 == 10) then s + 2 else s + 1
noncomputable def fr2 (text : Array Nat) (s : Nat) (must : Bool) : M :=
  { code := c2p, text, lim := text.size, start := s, lastStart := text.size, mustAdvance := must, pc := 10, pos := s, handed := s, marks := #[], seen := ({} : Seen).add 14 }
theorem start2 (text : Array Nat) (s : Nat) (must : Bool) (h : s < text.size) : forSearch c2p text 0 s text.size must = (fr2 text s must).attemptFrom s true := by
  show (if (decide (s > text.size) || decide (text.size - s < 1)) = true then _ else _) = _
  rw [if_neg (by simp; omega)]
  rfl
theorem start2_end (text : Array Nat) (s : Nat) (must : Bool) (h : text.size ≤ s) : ∃ m : M, forSearch c2p text 0 s text.size must = m.say false ∧ m.frames = [] ∧ m.outcome = none := by
  refine ⟨_, (by show (if (decide (s > text.size) || decide (text.size - s < 1)) = true then _ else _) = _; rw [if_pos (by simp; omega)]), rfl, rfl⟩
theorem found2 (text : Array Nat) (s : Nat) (must : Bool) (h : s ≤ text.size) :
    ∃ r, NextIs (eolAt text) text.size s r ∧ Found (forSearch c2p text 0 s text.size must) 15 (r.map fun p => (p, eolEnd text p)) := by
  by_cases hs : s < text.size
  · rw [start2 text s must hs]
    have hf : (fr2 text s must).hasFirstSet = true := rfl
    unfold attemptFrom
    rw [hf]
    simp only [Bool.not_true, Bool.false_eq_true, if_false]
    rcases admitted2 (fr2 text s must) rfl rfl ((fr2 text s must).lim + 1 - s) s (fr2 text s must).seen (by show text.size < s + (text.size + 1 - s); omega) with ⟨p, sn, h1, h2, h3, h4, h5⟩ | ⟨sn, h1, h2⟩
    · rw [h1]
      refine ⟨some p, ⟨h2, h3, h4, h5⟩, ?_⟩
      obtain ⟨m, n, hn, e, f1, f2, f3⟩ := match2 text sn p true h3 h4
      rw [← e] at f1 f2 f3
      exact ⟨n, hn, f1, f2, f3⟩
    · rw [h1]
      refine ⟨none, h2, 1, by omega, ?_⟩
      rfl
  · obtain ⟨m, e, hf, ho⟩ := start2_end text s must (by omega)
    refine ⟨none, fun q h1 h2 => by omega, 1, by omega, ?_⟩
    rw [e, runFor_one (m.say false) ho]
    show (M.step (m.say false)).outcome = _
    unfold M.step M.say
    dsimp only
    rw [ho, hf]; rfl
end Mine
end
section
open PySem PySem.Sre PySem.Sre.M PySem.Builtin.Re
namespace Mine
section
variable {Md : Model} {A : Around} {E : Value → Shared → Prop} {s : Shared}
theorem runFor_same {m : M} {a b : Nat} (ha : (runFor a m).outcome.isSome = true) (hb : (runFor b m).outcome.isSome = true) : runFor a m = runFor b m := by
  have h1 : runFor (a + b) m = runFor a m := by rw [runFor_add, runFor_done ha]
  have h2 : runFor (b + a) m = runFor b m := by rw [runFor_add, runFor_done hb]
  rw [← h1, ← h2, Nat.add_comm]
theorem wp_drive {Q : M → Shared → Prop} : ∀ (T n : Nat) (m : M), n ≤ 4 * T → 1 ≤ T → (runFor n m).outcome.isSome = true → Q (runFor n m) s → wpAny Md A (reDrive T m) Q E s := by
  intro T
  induction T with
  | zero => intro n m _ h; omega
  | succ T ih =>
    intro n m hn _ ho hq
    show wpAny Md A (if (runFor 4 m).outcome.isSome then pure (runFor 4 m) else do rule "sre.turn"; reDrive T (runFor 4 m)) Q E s
    cases h4 : (runFor 4 m).outcome.isSome
    · simp only [Bool.false_eq_true, if_false]
      have hn4 : ¬ n ≤ 4 := fun h => by
        have : runFor 4 m = runFor n m := by
          rw [show 4 = n + (4 - n) by omega, runFor_add, runFor_done ho]
        rw [this, ho] at h4; cases h4
      have e : runFor n m = runFor (n - 4) (runFor 4 m) := by rw [← runFor_add, show 4 + (n - 4) = n by omega]
      rw [e] at ho hq
      exact wpAny_bind (wpAny_rule (ih (n - 4) _ (by omega) (by omega) ho hq))
    · simp only [if_true]
      rw [runFor_same h4 ho]
      exact wpAny_pure hq
theorem wp_forUnit {α : Type} {f : α → PUnit → Sem (ForInStep PUnit)} (hf : ∀ a (Q' : ForInStep PUnit → Shared → Prop) s, Q' (.yield ⟨⟩) s → wpAny Md A (f a ⟨⟩) Q' E s) {Q : PUnit → Shared → Prop} :
    ∀ (l : List α), Q ⟨⟩ s → wpAny Md A (forIn l PUnit.unit f) Q E s := by
  intro l
  induction l with
  | nil => intro h; rw [List.forIn_nil]; exact wpAny_pure h
  | cons a r ih => intro h; rw [List.forIn_cons]; exact wpAny_bind (hf a _ _ (ih h))
theorem wp_runToEnd {m : M} {N : Nat} {r : Option (Nat × Nat)} (F : Found m N r) (hN : N ≤ 100000000) {Q : Option M → Shared → Prop}
    (h0 : r = none → Q none s) (h1 : ∀ b e m', r = some (b, e) → m'.start = b → m'.handed = e → Q (some m') s) : wpAny Md A (reRunToEnd m) Q E s := by
  obtain ⟨n, hn, F⟩ := F
  unfold reRunToEnd
  have ho : (runFor n m).outcome.isSome = true := by
    cases r with
    | none => rw [show (runFor n m).outcome = some .failed from F]; rfl
    | some p => rw [show (runFor n m).outcome = some .matched from F.1]; rfl
  refine wpAny_bind (wp_drive (2 ^ 64) n m (by omega) (by decide) ho ?_)
  refine wpAny_bind (wp_forUnit (fun a Q' s h => ?_) _ ?_)
  · skip
    split
    · exact wpAny_bind (wpAny_rule (wpAny_pure h))
    · exact wpAny_pure h
  · cases r with
    | none =>
      rw [show (runFor n m).outcome = some .failed from F]
      exact wpAny_pure (h0 rfl)
    | some p =>
      rw [show (runFor n m).outcome = some .matched from F.1]
      exact wpAny_pure (h1 _ _ _ rfl F.2.1 F.2.2)
end
end Mine
end
section
open PySem PySem.Sre PySem.Sre.M PySem.Builtin.Re
namespace Mine
theorem entry_subloop : entryFor table "re.Pattern.sub.loop" = some Builtin.«re.Pattern.sub.loop» := entryFor_of_tree (by kernel_rfl)
theorem plain_subloop : plainId "re.Pattern.sub.loop" = true := by decide +kernel
/-- a compiled pattern with no groups, over strs -/
structure PatAt (h : Heap) (P c : Addr) (code : Array Nat) : Prop where
  ex : ∃ o fs oc items n, h.get? P = some o ∧ o.data = .fields fs ∧ reRawNat (fs.getD 6 .none) = 0 ∧ fs.getD 5 .none = .ref c ∧ reRawNat (fs.getD 2 .none) = 0 ∧ h.get? c = some oc ∧ oc.data = .seq items n
    ∧ (items.map reRawOf).map (·.toNat) = code
theorem PatAt.keeps {h h' : Heap} {P c : Addr} {code : Array Nat} (x : PatAt h P c code) (k : ∀ b, b = P ∨ b = c → ∀ o, h.get? b = some o → h'.get? b = some o) : PatAt h' P c code := by
  obtain ⟨o, fs, oc, items, n, h1, h2, h3, h4, h5, h6, h7⟩ := x.ex
  exact ⟨o, fs, oc, items, n, k _ (.inl rfl) _ h1, h2, h3, h4, h5, k _ (.inr rfl) _ h6, h7⟩
section
variable {Md : Model} {A : Around} {E : Value → Shared → Prop} {s : Shared}
theorem wp_whole {P c : Addr} {code : Array Nat} {x : Str} {t : Tok} {Q : ReTarget → Shared → Prop} (hp : PatAt s.heap P c code)
    (h : Q { pattern := .ref P, string := .str x t, code, text := x.cps, kind := 0, groups := 0, pos := 0, lim := x.cps.size } s) : wpAny Md A (reWholeTarget (.ref P) (.str x t)) Q E s := by
  obtain ⟨o, fs, oc, items, n, h1, h2, h3, h4, h5, h6, h7, h8⟩ := hp.ex
  unfold reWholeTarget
  refine wpAny_bind (wpAny_fieldsOf h1 h2 ?_)
  have ht : reTextOf (.str x t) = pure (x.cps, 0) := rfl
  rw [ht]
  refine wpAny_bind (wpAny_pure ?_)
  dsimp only
  rw [h3, h4, h5]
  refine wpAny_bind (wpAny_pure ?_)
  unfold reRawItems
  refine wpAny_bind (wpAny_bind (wpAny_seqItems h6 h7 (wpAny_pure ?_)))
  refine wpAny_pure ?_
  show Q { code := (items.map reRawOf).map (·.toNat), .. } s
  rw [h8]
  exact h
end
noncomputable def cat (l : List (Str × Tok)) : List Nat := l.flatMap fun p => p.1.cps.toList
theorem glue0 (texts : List Str) : ∀ acc : Array Nat, (texts.foldl (fun acc p => acc ++ (#[] : Array Nat) ++ p.cps) acc).toList = acc.toList ++ texts.flatMap fun x => x.cps.toList := by
  induction texts with
  | nil => intro acc; simp
  | cons x r ih => intro acc; rw [List.foldl_cons, ih]; simp
theorem joinE (texts : List Str) : (Txt.join ⟨#[]⟩ texts).cps.toList = texts.flatMap fun x => x.cps.toList := by
  show ((texts.drop 1).foldl (fun acc p => acc ++ (#[] : Array Nat) ++ p.cps) (texts.headD Str.empty).cps).toList = _
  rw [glue0]
  cases texts with
  | nil => rfl
  | cons x r => simp
theorem cat_snoc (l : List (Str × Tok)) (x : Str) (t : Tok) : cat (l ++ [(x, t)]) = cat l ++ x.cps.toList := by
  simp [cat]
section
variable {prog : Program} {w : World} {A : Around} {R : Result → Shared → Prop}
noncomputable abbrev FinPost (prog : Program) (w : World) (A : Around) (R : Result → Shared → Prop) : Fin → Shared → Prop :=
  fun fin s' => match fin with | .done f => R (.ok f) s' | .again c' => c'.quiet = true ∧ codeAny (model prog w) A c' R s'
theorem sub_tail {s : Shared} {D : Addr} {nn : Int} {text : Array Nat} {l : List (Str × Tok)} {ep : Nat} (hD : s.heap.get? D = some { cls := .type "list", data := .seq (strValues l).toArray ep }) (hll : l.length ≤ 2001) (hl1 : ∀ p ∈ l, p.1.length ≤ 1000)
    (h : ∀ t' tk', R (.ok (.ret (.str ⟨(cat l).toArray⟩ t'))) { s with toks := tk' }) :
    wpAny (model prog w) A.in1 (do
      let joiner ← reSlice text 0 0 0
      let y ← seqItems? (.ref D)
      if (y.getD #[]).isEmpty then (do let x ← pure joiner; if false = true then (do let q ← holding [x] (do let q ← mkInt nn; newTuple [x, q]); ret q) else ret x)
      else (do let x ← call (.builtin (if (0 : Nat) == 0 then "str.join" else "bytes.join")) [joiner, .ref D]; if false = true then (do let q ← holding [x] (do let q ← mkInt nn; newTuple [x, q]); ret q) else ret x)) (FinPost prog w A R) (fun e s' => R (.error e) s') s := by
  have e0 : text.extract 0 0 = #[] := by apply Array.ext <;> simp
  show wpAny _ _ (mkStr ⟨text.extract 0 0⟩ >>= _) _ _ _
  rw [e0]
  refine wpAny_bind (wpAny_mkStr ?_ (by show (#[] : Array Nat).size ≤ sizeLine; decide))
  refine wpAny_bind (wpAny_seqItems hD rfl ?_)
  cases l with
  | nil =>
    refine wpAny_bind (wpAny_pure (wpAny_pure ?_))
    exact h _ _
  | cons p r =>
    show wpAny _ _ (call (.builtin "str.join") [.str ⟨#[]⟩ s.toks, .ref D] >>= _) _ _ _
    refine wpAny_bind ?_
    refine SC.join (l := p :: r) (texts := (p :: r).map (·.1)) ⟨_, hD, rfl, _, rfl⟩ rfl ?_ ?_
    · unfold JoinOk
      rw [StrLaws.joinFits (B := 1000) (fun y hy => ?_) (by rw [List.length_map]; show _ * 1000 + _ * 0 ≤ _; omega)]
      · rfl
      · obtain ⟨q, hq, rfl⟩ := List.mem_map.mp hy
        exact hl1 q hq
    · intro t' k
      refine wpAny_pure ?_
      have e : Txt.join ⟨#[]⟩ ((p :: r).map (·.1)) = ⟨(cat (p :: r)).toArray⟩ := by
        have := joinE ((p :: r).map (·.1))
        generalize Txt.join ⟨#[]⟩ ((p :: r).map (·.1)) = J at this
        obtain ⟨cps⟩ := J
        have e2 : cps.toList = cat (p :: r) := by
          rw [this]; unfold cat; rw [List.flatMap_map]
        rw [← e2]
      rw [e]
      exact h _ _
theorem pushed {h : Heap} {D : Addr} {l : List (Str × Tok)} {ep : Nat} {x : Str} {t : Tok} (hD : h.get? D = some { cls := .type "list", data := .seq (strValues l).toArray ep }) :
    ∃ ep', (h.update D (Obj.mapSeq (·.push (.str x t)))).get? D = some { cls := .type "list", data := .seq (strValues (l ++ [(x, t)])).toArray ep' } := by
  have := Heap.get?_update_self (Obj.mapSeq (·.push (.str x t))) hD rfl
  rw [show (strValues (l ++ [(x, t)])).toArray = (strValues l).toArray.push (.str x t) by simp [strValues]]
  exact ⟨_, this⟩
/-- the loop of Pattern.sub with a literal that has no backslash -/
theorem sub_loop {P c D : Addr} {code text : Array Nat} {rep : Str} {t u : Tok} {Pn : Nat → Bool} {en : Nat → Nat} {N : Nat} {sub : Nat → List Nat}
    (hN : N ≤ 100000000) (hsz : text.size ≤ 1000) (hrep : rep.length ≤ 2)
    (hen : ∀ p, p < text.size → Pn p = true → p < en p ∧ en p ≤ text.size)
    (found : ∀ q must, q ≤ text.size → ∃ r, NextIs Pn text.size q r ∧ Found (forSearch code text 0 q text.size must) N (r.map fun p => (p, en p)))
    (hs0 : ∀ q, q ≤ text.size → NextIs Pn text.size q none → sub q = (text.extract q text.size).toList)
    (hs1 : ∀ q p, q ≤ text.size → NextIs Pn text.size q (some p) → sub q = (text.extract q p).toList ++ rep.cps.toList ++ sub (en p))
    (hDP : D ≠ P) (hDc : D ≠ c) :
    ∀ (k : Nat) (s : Shared) (start : Nat) (n : Int) (must : Bool) (l : List (Str × Tok)) (ep : Nat), text.size - start < k → start ≤ text.size → l.length ≤ 2 * start →
      (∀ p ∈ l, p.1.length ≤ 1000) → PatAt s.heap P c code → s.heap.get? D = some { cls := .type "list", data := .seq (strValues l).toArray ep } →
      (∀ t' h' tk', (∀ b o, b ≠ D → s.heap.get? b = some o → h'.get? b = some o) → R (.ok (.ret (.str ⟨(cat l ++ sub start).toArray⟩ t'))) { s with heap := h', toks := tk' }) →
      codeAny (model prog w) A (.builtin "re.Pattern.sub.loop" ⟨[.ref P, .str ⟨text⟩ t, .str rep u, rawInt 0, rawInt 0, rawInt n, rawInt start, rawInt start, .bool must, .ref D, .bool false], []⟩) R s := by
  intro k
  induction k with
  | zero => intro s start n must l ep hk; omega
  | succ k ih =>
    intro s start n must l ep hk hst hll hl1 hp hD hR
    have hzl : (strValues l).toArray.size ≤ 2000 := by simp [strValues]; omega
    have hline : sizeLine = 16777216 := by decide
    refine codeAny_builtin entry_subloop ?_
    rw [Around.under_plainId plain_subloop _]
    unfold Builtin.«re.Pattern.sub.loop» rawInt
    dsimp only
    refine wpAny_bind (wp_whole hp ?_)
    refine wpAny_bind (wpAny_pure ?_)
    obtain ⟨r, hnx, hF⟩ := found start must hst
    refine wpAny_bind ?_
    rw [if_neg (by simp)]
    show wpAny _ _ (reRunToEnd (forSearch code text 0 start text.size must)) _ _ _
    refine wp_runToEnd hF hN ?_ ?_
    · intro hr
      have hr : r = none := by cases r with | none => rfl | some p => cases hr
      subst hr
      dsimp only
      simp only [Int.toNat_natCast]
      have e := hs0 start hst hnx
      by_cases hlt : start < text.size
      · rw [if_pos hlt]
        show wpAny _ _ (mkStr ⟨text.extract start text.size⟩ >>= _) _ _ _
        have hxl : (text.extract start text.size).size ≤ 1000 := by rw [Array.size_extract]; omega
        refine wpAny_bind (wpAny_mkStr ?_ (by show (text.extract start text.size).size ≤ sizeLine; omega))
        refine wpAny_bind (wpAny_updateSeq hD rfl ?_ (by omega) (by rw [Array.size_push]; omega))
        obtain ⟨ep2, hD2⟩ := pushed (x := ⟨text.extract start text.size⟩) (t := s.toks) hD
        refine sub_tail (l := l ++ [(⟨text.extract start text.size⟩, s.toks)]) hD2 (by simp; omega) ?_ ?_
        · intro p hp'
          rcases List.mem_append.mp hp' with h | h
          · exact hl1 p h
          · rw [List.mem_singleton.mp h]; exact hxl
        · intro t' tk'
          rw [cat_snoc, ← e]
          exact hR _ _ _ fun b o hb hb' => (Heap.get?_update_other _ _ (Ne.symm hb)).trans hb'
      · rw [if_neg hlt]
        refine sub_tail (l := l) hD (by omega) hl1 ?_
        intro t' tk'
        have : sub start = [] := by rw [e, show start = text.size by omega]; simp
        have h := hR t' s.heap tk' fun b o _ hb => hb
        rw [this, List.append_nil] at h
        exact h
    · intro b e m' hr hm1 hm2
      cases r with
      | none => cases hr
      | some p =>
      simp only [Option.map_some, Option.some.injEq, Prod.mk.injEq] at hr
      obtain ⟨rfl, rfl⟩ := hr
      obtain ⟨n1, n2, n3, n4⟩ := id hnx
      obtain ⟨g1, g2⟩ := hen p n2 n3
      have e := hs1 start p hst hnx
      dsimp only
      simp only [Int.toNat_natCast]
      rw [hm1, hm2]
      have hrest : ∀ (l' : List (Str × Tok)) (ep' : Nat) (s' : Shared), s'.gens = s.gens → s'.drawn = s.drawn → s'.os = s.os → l'.length ≤ 2 * start + 1 → (∀ q ∈ l', q.1.length ≤ 1000) → cat l' = cat l ++ (text.extract start p).toList →
          s'.heap.get? D = some { cls := .type "list", data := .seq (strValues l').toArray ep' } → (∀ b o, b ≠ D → s.heap.get? b = some o → s'.heap.get? b = some o) →
          wpAny (model prog w) A.in1 (do
            let item ← pure (Value.str rep u)
            if (item != Value.none) = true then do
              updateSeq D fun x => x.push item
              again (Code.builtin "re.Pattern.sub.loop" ⟨[.ref P, .str ⟨text⟩ t, .str rep u, .int 0 0, .int 0 0, .int (n + 1) 0, .int (en p : Int) 0, .int (en p : Int) 0, .bool (en p == p), .ref D, .bool false], []⟩)
            else again (Code.builtin "re.Pattern.sub.loop" ⟨[.ref P, .str ⟨text⟩ t, .str rep u, .int 0 0, .int 0 0, .int (n + 1) 0, .int (en p : Int) 0, .int (en p : Int) 0, .bool (en p == p), .ref D, .bool false], []⟩))
            (FinPost prog w A R) (fun e s' => R (.error e) s') s' := by
        intro l' ep' s' es1 es2 es3 hl' hl1' hcat hD' hkeep
        have hzl' : (strValues l').toArray.size ≤ 2001 := by simp [strValues]; omega
        refine wpAny_bind (wpAny_pure ?_)
        show wpAny _ _ (updateSeq D (fun x => x.push (Value.str rep u)) >>= _) _ _ _
        refine wpAny_bind (wpAny_updateSeq hD' rfl ?_ (by omega) (by rw [Array.size_push]; omega))
        obtain ⟨ep2, hD2⟩ := pushed (x := rep) (t := u) hD'
        refine wpAny_pure ⟨plainId_quiet plain_subloop _, ?_⟩
        refine ih _ (en p) (n + 1) _ (l' ++ [(rep, u)]) ep2 (by omega) g2 (by simp; omega) ?_ ?_ hD2 ?_
        · intro q hq
          rcases List.mem_append.mp hq with h | h
          · exact hl1' q h
          · rw [List.mem_singleton.mp h]; show rep.length ≤ 1000; omega
        · exact hp.keeps fun b hb o ho => (Heap.get?_update_other _ _ (by rcases hb with rfl | rfl <;> assumption)).trans (hkeep b o (by rcases hb with rfl | rfl <;> exact Ne.symm (by assumption)) ho)
        · intro t' h' tk' hk'
          rw [cat_snoc, hcat, List.append_assoc, List.append_assoc, ← List.append_assoc (text.extract start p).toList, ← e]
          show R _ { gens := s'.gens, drawn := s'.drawn, os := s'.os, heap := h', toks := tk' }
          rw [es1, es2, es3]
          exact hR t' h' tk' fun b o hb ho => hk' b o hb ((Heap.get?_update_other _ _ (Ne.symm hb)).trans (hkeep b o hb ho))
      by_cases hlt : start < p
      · rw [if_pos hlt]
        show wpAny _ _ (mkStr ⟨text.extract start p⟩ >>= _) _ _ _
        have hxl : (text.extract start p).size ≤ 1000 := by rw [Array.size_extract]; omega
        refine wpAny_bind (wpAny_mkStr ?_ (by show (text.extract start p).size ≤ sizeLine; omega))
        refine wpAny_bind (wpAny_updateSeq hD rfl ?_ (by omega) (by rw [Array.size_push]; omega))
        obtain ⟨ep2, hD2⟩ := pushed (x := ⟨text.extract start p⟩) (t := s.toks) hD
        refine hrest (l ++ [(⟨text.extract start p⟩, s.toks)]) ep2 _ rfl rfl rfl (by simp; omega) ?_ (cat_snoc _ _ _) hD2 (fun b o hb ho => (Heap.get?_update_other _ _ (Ne.symm hb)).trans ho)
        intro q hq
        rcases List.mem_append.mp hq with h | h
        · exact hl1 q h
        · rw [List.mem_singleton.mp h]; exact hxl
      · rw [if_neg hlt]
        refine hrest l ep s rfl rfl rfl (by omega) hl1 ?_ hD (fun b o _ ho => ho)
        have : (text.extract start p).toList = [] := by simp; omega
        rw [this, List.append_nil]
end
end Mine
end
section
open PySem PySem.Sre PySem.Sre.M PySem.Builtin.Re
namespace Mine
theorem owner_pat : Manifest.owners.lookup (String.ofList ['n', 'r', 'e', 't', 't', 'a', 'P', '.', 'e', 'r'].reverse) = some Manifest.sig_re_Pattern := by kernel_rfl
theorem slot_sub : Slot "re.Pattern" "sub" "re.Pattern.sub" :=
  .of (owner := "re.Pattern") (n := "sub") (by rw [typeLookup_type, builtinLookup_eq_fast]; kernel_rfl) (by decide +kernel) (by decide +kernel) (by decide +kernel)
    (by first | exact .inl (by decide +kernel) | exact .inr (by decide +kernel)) (by rw [isSubtype_type]; kernel_rfl)
theorem type_sub : typeOf (.builtin "re.Pattern.sub") = pure (.type "method_descriptor") := by show builtinType _ = _; rw [builtinType_eq_fast]; kernel_rfl
theorem entry_sub : entryFor table "re.Pattern.sub" = some Builtin.«re.Pattern.sub» := entryFor_of_tree (by kernel_rfl)
theorem args_sub_3 (a b c : Value) : argsOk "re.Pattern.sub" ⟨[a, b, c], []⟩ := by
  unfold argsOk; rw [signature?_of (id := "re.Pattern.sub") (n := ['b', 'u', 's']) (o := ['n', 'r', 'e', 't', 't', 'a', 'P', '.', 'e', 'r']) (by kernel_rfl) owner_pat]; kernel_rfl
theorem str_no_call : typeLookup (.type "str") "__call__" = pure none := by rw [typeLookup_type, builtinLookup_eq_fast]; kernel_rfl
section
variable {prog : Program} {w : World} {A : Around} {E : Value → Shared → Prop} {s : Shared}
theorem wp_sub {P c : Addr} {o : Obj} {code text : Array Nat} {rep : Str} {t u : Tok} {Pn : Nat → Bool} {en : Nat → Nat} {N : Nat} {sub : Nat → List Nat} {Q : Value → Shared → Prop}
    (hN : N ≤ 100000000) (hsz : text.size ≤ 1000) (hrep : rep.length ≤ 2) (hlit : rep.cps.contains 92 = false)
    (hen : ∀ p, p < text.size → Pn p = true → p < en p ∧ en p ≤ text.size)
    (found : ∀ q must, q ≤ text.size → ∃ r, NextIs Pn text.size q r ∧ Found (forSearch code text 0 q text.size must) N (r.map fun p => (p, en p)))
    (hs0 : ∀ q, q ≤ text.size → NextIs Pn text.size q none → sub q = (text.extract q text.size).toList)
    (hs1 : ∀ q p, q ≤ text.size → NextIs Pn text.size q (some p) → sub q = (text.extract q p).toList ++ rep.cps.toList ++ sub (en p))
    (hp : PatAt s.heap P c code) (ho : s.heap.get? P = some o) (hc : o.cls = .type "re.Pattern")
    (h : ∀ t' h' tk', (∀ b o, s.heap.get? b = some o → h'.get? b = some o) → Q (.str ⟨(sub 0).toArray⟩ t') { s with heap := h', toks := tk' }) :
    wpAny (model prog w) A (call (.builtin "re.Pattern.sub") [.ref P, .str rep u, .str ⟨text⟩ t]) Q E s := by
  refine wpAny_call (codeAny_call_builtin slot_sub.plain entry_sub (slot_sub.check _ _ _ _ _ _ _ _ ⟨o, ho, hc⟩ (args_sub_3 _ _ _) ?_))
  show wpAny _ _ (reSubstitute "re.Pattern.sub" "sub" false ⟨[.ref P, .str rep u, .str ⟨text⟩ t], []⟩) _ _ _
  unfold reSubstitute
  dsimp only
  have hn : reNamed "re.Pattern.sub" "sub" ["repl", "string", "count"] 2 [.str rep u, .str ⟨text⟩ t] [] = pure [some (.str rep u), some (.str ⟨text⟩ t), none] := rfl
  rw [hn]
  refine wpAny_bind (wpAny_pure ?_)
  dsimp only
  refine wpAny_bind (wpAny_pure ?_)
  refine wpAny_bind (wpAny_specialOf (typeIs_str _ _ _) str_no_call ?_)
  simp only [Option.isSome_none, Bool.false_eq_true, if_false]
  refine wpAny_bind (wpAny_pure ?_)
  dsimp only
  rw [hlit]
  refine wpAny_bind (wpAny_pure ?_)
  simp only [Bool.not_false, if_true]
  refine wpAny_bind (wpAny_pure ?_)
  refine wpAny_bind (wpAny_holding (wp_whole hp ?_))
  refine wpAny_bind (wpAny_newList ?_ (by show 0 ≤ _; omega))
  refine wpAny_pure ⟨plainId_quiet plain_subloop _, ?_⟩
  obtain ⟨o1, fs, oc, items, n, h1, h2, h3, h4, h5, h6, h7⟩ := id hp.ex
  have kp : ∀ b o', s.heap.get? b = some o' → (s.heap.push { cls := .type "list", data := .seq (#[] : Array Value) }).get? b = some o' := fun b o' e =>
    (Heap.get?_push_ne _ _ _ (Nat.ne_of_lt (Heap.lt_size e))).trans e
  refine sub_loop hN hsz hrep hen found hs0 hs1 (Nat.ne_of_gt (Heap.lt_size h1)) (Nat.ne_of_gt (Heap.lt_size h6)) (text.size + 1) _ 0 0 false [] 0 (by omega) (by omega) (by simp) (fun p hp => nomatch hp) (hp.keeps fun b _ o' e => kp b o' e) (Heap.get?_push_size _ rfl) ?_
  intro t' h' tk' hk
  exact h t' h' tk' fun b o' e => hk b o' (Nat.ne_of_lt (Heap.lt_size e)) (kp b o' e)
end
end Mine
end
section
open PySem PySem.Sre PySem.Sre.M PySem.Builtin.Re
namespace Mine
noncomputable def stuff : Bool → List Nat → List Nat
  | _, [] => []
  | b, c :: r => if b && c == 46 then 46 :: 46 :: stuff false r else c :: stuff (c == 10) r
noncomputable def norm : Bool → List Nat → List Nat
  | _, [] => []
  | b, c :: r => if b && c == 10 then norm false r else if c == 10 then 13 :: 10 :: norm false r else if c == 13 then 13 :: 10 :: norm true r else c :: norm false r
theorem drop_at (text : Array Nat) (q : Nat) (h : q < text.size) : text.toList.drop q = text.getD q 0 :: text.toList.drop (q + 1) := by
  have e : text.getD q 0 = text.toList[q]'(by simpa using h) := by simp [Array.getD, h]
  rw [e]
  exact List.drop_eq_getElem_cons (by simpa using h)
theorem ext_one (text : Array Nat) (q p : Nat) (h : q < p) (hp : p ≤ text.size) : (text.extract q p).toList = text.getD q 0 :: (text.extract (q + 1) p).toList := by
  have e : ∀ a, (text.extract a p).toList = (text.toList.drop a).take (p - a) := by intro a; simp [List.extract_eq_take_drop]
  rw [e, e, drop_at text q (by omega), show p - q = (p - (q + 1)) + 1 by omega, List.take_succ_cons]
/-- a sub's spec over positions from what it does at each -/
theorem spec0 (text : Array Nat) (Pn : Nat → Bool) (sub : Nat → List Nat) (hend : sub text.size = []) (hno : ∀ q, q < text.size → Pn q = false → sub q = text.getD q 0 :: sub (q + 1)) :
    ∀ q, q ≤ text.size → NextIs Pn text.size q none → sub q = (text.extract q text.size).toList := by
  have key : ∀ k q, q + k = text.size → NextIs Pn text.size q none → sub q = (text.extract q text.size).toList := by
    intro k
    induction k with
    | zero => intro q h _; rw [show q = text.size by omega, hend]; simp
    | succ k ih =>
      intro q h hn
      rw [hno q (by omega) (hn q (Nat.le_refl _) (by omega)), ext_one text q text.size (by omega) (Nat.le_refl _), ih (q + 1) (by omega) fun a h1 h2 => hn a (by omega) h2]
  exact fun q hq => key (text.size - q) q (by omega)
theorem spec1 (text : Array Nat) (Pn : Nat → Bool) (en : Nat → Nat) (rep : List Nat) (sub : Nat → List Nat) (hno : ∀ q, q < text.size → Pn q = false → sub q = text.getD q 0 :: sub (q + 1))
    (hyes : ∀ p, p < text.size → Pn p = true → sub p = rep ++ sub (en p)) :
    ∀ q p, q ≤ text.size → NextIs Pn text.size q (some p) → sub q = (text.extract q p).toList ++ rep ++ sub (en p) := by
  have key : ∀ k q p, q + k = p → NextIs Pn text.size q (some p) → sub q = (text.extract q p).toList ++ rep ++ sub (en p) := by
    intro k
    induction k with
    | zero =>
      rintro q p h ⟨h1, h2, h3, h4⟩
      have e : q = p := by omega
      subst e
      rw [hyes q h2 h3]
      have : (text.extract q q).toList = [] := by simp
      rw [this]; rfl
    | succ k ih =>
      rintro q p h ⟨h1, h2, h3, h4⟩
      rw [hno q (by omega) (h4 q (Nat.le_refl _) (by omega)), ext_one text q p (by omega) (by omega), ih (q + 1) p (by omega) ⟨by omega, h2, h3, fun a b c => h4 a (by omega) c⟩]
      rfl
  exact fun q p hq hn => key (p - q) q p (by have := hn.1; omega) hn
noncomputable def sub1 (text : Array Nat) (q : Nat) : List Nat := stuff (lineStart text q) (text.toList.drop q)
theorem line_succ (text : Array Nat) (q : Nat) : lineStart text (q + 1) = (text.getD q 0 == 10) := by
  unfold lineStart
  simp
theorem sub1_end (text : Array Nat) : sub1 text text.size = [] := by
  unfold sub1
  rw [List.drop_eq_nil_of_le (by simp)]
  rfl
theorem sub1_no (text : Array Nat) : ∀ q, q < text.size → dotAt text q = false → sub1 text q = text.getD q 0 :: sub1 text (q + 1) := by
  intro q hq h
  unfold sub1 dotAt at *
  rw [drop_at text q hq, line_succ]
  show (if (lineStart text q && text.getD q 0 == 46) = true then _ else _) = _
  rw [h]; rfl
theorem sub1_yes (text : Array Nat) : ∀ p, p < text.size → dotAt text p = true → sub1 text p = [46, 46] ++ sub1 text (p + 1) := by
  intro q hq h
  unfold sub1 dotAt at *
  rw [drop_at text q hq, line_succ]
  show (if (lineStart text q && text.getD q 0 == 46) = true then _ else _) = _
  rw [h]
  simp only [Bool.and_eq_true, beq_iff_eq] at h
  rw [h.2]; rfl
noncomputable def sub2 (text : Array Nat) (q : Nat) : List Nat := norm false (text.toList.drop q)
theorem sub2_end (text : Array Nat) : sub2 text text.size = [] := by
  unfold sub2
  rw [List.drop_eq_nil_of_le (by simp)]
  rfl
theorem sub2_no (text : Array Nat) : ∀ q, q < text.size → eolAt text q = false → sub2 text q = text.getD q 0 :: sub2 text (q + 1) := by
  intro q hq h
  unfold sub2 eolAt at *
  rw [drop_at text q hq]
  simp only [Bool.or_eq_false_iff] at h
  simp only [norm, h.1, h.2, Bool.and_false, Bool.false_eq_true, if_false]
theorem sub2_yes (text : Array Nat) : ∀ p, p < text.size → eolAt text p = true → sub2 text p = [13, 10] ++ sub2 text (eolEnd text p) := by
  intro q hq h
  unfold sub2 eolAt eolEnd at *
  rw [drop_at text q hq]
  cases h13 : (text.getD q 0 == 13)
  · rw [h13, Bool.or_false] at h
    simp only [norm, h, Bool.false_and, Bool.false_eq_true, if_false, if_true]
    rfl
  · have n10 : (text.getD q 0 == 10) = false := by rw [eq_of_beq h13]; rfl
    simp only [norm, h13, n10, Bool.and_false, Bool.false_eq_true, if_false, if_true, Bool.true_and]
    by_cases hq1 : q + 1 < text.size
    · rw [drop_at text (q + 1) hq1]
      simp only [hq1, decide_true, Bool.true_and]
      cases h10 : (text.getD (q + 1) 0 == 10)
      · simp only [norm, h10, Bool.and_false, Bool.false_eq_true, if_false]
        rw [drop_at text (q + 1) hq1]
        simp only [norm, h10, Bool.and_false, Bool.false_eq_true, if_false]
        rfl
      · simp only [norm, h10, Bool.true_and, if_true]
        rfl
    · simp only [hq1, decide_false, Bool.false_and, Bool.false_eq_true, if_false]
      rw [List.drop_eq_nil_of_le (by simp; omega)]
      rfl
theorem eolEnd_le (text : Array Nat) (p : Nat) (h : p < text.size) : p < eolEnd text p ∧ eolEnd text p ≤ text.size := by
  unfold eolEnd
  cases hb : (text.getD p 0 == 13 && (decide (p + 1 < text.size) && text.getD (p + 1) 0 == 10))
  · simp only [Bool.false_eq_true, if_false]; omega
  · simp only [if_true]
    simp only [Bool.and_eq_true, decide_eq_true_eq] at hb
    have := hb.2.1
    omega
section
variable {prog : Program} {w : World} {A : Around} {E : Value → Shared → Prop} {s : Shared}
theorem wp_sub1 {P c : Addr} {o : Obj} {text : Array Nat} {t u : Tok} {Q : Value → Shared → Prop} (hsz : text.size ≤ 1000)
    (hp : PatAt s.heap P c c1) (ho : s.heap.get? P = some o) (hc : o.cls = .type "re.Pattern")
    (h : ∀ t' h' tk', (∀ b o, s.heap.get? b = some o → h'.get? b = some o) → Q (.str ⟨(stuff true text.toList).toArray⟩ t') { s with heap := h', toks := tk' }) :
    wpAny (model prog w) A (call (.builtin "re.Pattern.sub") [.ref P, .str ⟨#[46, 46]⟩ u, .str ⟨text⟩ t]) Q E s :=
  wp_sub (Pn := dotAt text) (en := fun p => p + 1) (N := 3 * text.size + 5) (sub := sub1 text) (by omega) hsz (by decide) (by decide +kernel) (fun p hp _ => ⟨by omega, by omega⟩) (fun q must hq => found1 text q must hq)
    (spec0 text _ _ (sub1_end text) (sub1_no text)) (spec1 text _ _ [46, 46] _ (sub1_no text) (sub1_yes text)) hp ho hc h
theorem wp_sub2 {P c : Addr} {o : Obj} {text : Array Nat} {t u : Tok} {Q : Value → Shared → Prop} (hsz : text.size ≤ 1000)
    (hp : PatAt s.heap P c c2p) (ho : s.heap.get? P = some o) (hc : o.cls = .type "re.Pattern")
    (h : ∀ t' h' tk', (∀ b o, s.heap.get? b = some o → h'.get? b = some o) → Q (.str ⟨(norm false text.toList).toArray⟩ t') { s with heap := h', toks := tk' }) :
    wpAny (model prog w) A (call (.builtin "re.Pattern.sub") [.ref P, .str ⟨#[13, 10]⟩ u, .str ⟨text⟩ t]) Q E s :=
  wp_sub (Pn := eolAt text) (en := eolEnd text) (N := 15) (sub := sub2 text) (by omega) hsz (by decide) (by decide +kernel) (fun p hp _ => eolEnd_le text p hp) (fun q must hq => found2 text q must hq)
    (spec0 text _ _ (sub2_end text) (sub2_no text)) (spec1 text _ _ [13, 10] _ (sub2_no text) (sub2_yes text)) hp ho hc h
end
end Mine
end
section
namespace Mine
/-- a number as Python's row-end loop sees it: the k-th bit -/
noncomputable def bitN (h k : Nat) : Bool := h / 2 ^ k % 2 == 1
/-- the ones of a number's digits to the base two -/
noncomputable def ones1 : Nat → Nat → Nat
  | 0, _ => 0
  | f + 1, v => v % 2 + ones1 f (v / 2)
noncomputable def thStep (p : Nat × Nat) (b : Nat) : Nat × Nat := if b = 1 then (p.1, 2 * p.2 + 1) else if 0 < p.2 then (p.1 + ones1 9 (p.2 / 3), 0) else p
noncomputable def bitsL : Nat → Nat → List Nat
  | 0, _ => []
  | f + 1, v => if v = 0 then [] else v % 2 :: bitsL f (v / 2)
noncomputable def thirdsN (h : Nat) : Nat := ((bitsL 9 h ++ [0]).foldl thStep (0, 0)).1
noncomputable def threesN (h : Nat) : Nat := ((List.range 4).filter fun k => h / 4 ^ k % 4 == 3).length
noncomputable def crlf : Nat → List Nat
  | 0 => []
  | n + 1 => 13 :: 10 :: crlf n
noncomputable def rest1 (e h : Nat) : List Nat := ((List.range (2 * e)).filter fun k => !bitN h k).map fun k => if k % 2 = 0 then 13 else 10
theorem road1 : ∀ e : Fin 4, ∀ h : Fin 256, h.val < 4 ^ (e.val + 1) → norm false (rest1 (e.val + 1) h.val) = crlf (e.val + 1 - thirdsN h.val) := by decide +kernel
theorem road2a : ∀ e : Fin 4, ∀ h : Fin 256, h.val < 4 ^ (e.val + 1) → ((List.range (e.val + 1)).filter fun j => !(bitN h.val (2 * j) && bitN h.val (2 * j + 1))).length = e.val + 1 - threesN h.val := by decide +kernel
theorem road2b : ∀ e : Fin 4, ∀ h : Fin 256, h.val < 4 ^ (e.val + 1) → (!bitN h.val (2 * e.val + 1)) = decide (h.val < 2 ^ (2 * (e.val + 1) - 1)) := by decide +kernel
theorem e13 : ∀ e : Fin 4, ∀ h : Fin 256, (rest1 (e.val + 1) h.val).all (fun c => c == 13 || c == 10) = true := by decide +kernel
/-- the signs of a table: nb tells which are left out -/
structure Nb (nb : Nat → Bool) : Prop where
  r : nb 13 = false
  n : nb 10 = false
  d : nb 46 = false
noncomputable def head10 (l : List Nat) : Bool := l.head? == some 10
theorem norm_any {b : Bool} {l : List Nat} (h : head10 l = false) : norm b l = norm false l := by
  cases l with
  | nil => rfl
  | cons c r =>
    have : (c == 10) = false := by simpa [head10] using h
    simp [norm, this]
/-- the row ends of one piece, behind which no feed stands -/
theorem norm_app : ∀ (l rest : List Nat) (b : Bool), (∀ c ∈ l, c = 13 ∨ c = 10) → head10 rest = false → norm b (l ++ rest) = norm b l ++ norm false rest
  | [], rest, b, _, h => by simpa [norm] using norm_any h
  | c :: r, rest, b, hl, h => by
    have ih := fun b => norm_app r rest b (fun c hc => hl c (.tail _ hc)) h
    rw [List.cons_append]
    simp only [norm, ih]
    split
    · rfl
    · split
      · rfl
      · split <;> rfl
theorem norm_plain : ∀ (l rest : List Nat), (∀ c ∈ l, c ≠ 13 ∧ c ≠ 10) → norm false (l ++ rest) = l ++ norm false rest
  | [], _, _ => rfl
  | c :: r, rest, h => by
    obtain ⟨h1, h2⟩ := h c (.head _)
    rw [List.cons_append, List.cons_append, ← norm_plain r rest fun c hc => h c (.tail _ hc)]
    simp [norm, h1, h2]
theorem stuff_crlf (b : Bool) (rest : List Nat) : ∀ n, stuff b (crlf (n + 1) ++ rest) = crlf (n + 1) ++ stuff true rest
  | 0 => by simp [stuff, crlf]
  | n + 1 => by
    show stuff b (13 :: 10 :: (crlf (n + 1) ++ rest)) = 13 :: 10 :: (crlf (n + 1) ++ stuff true rest)
    have ih := stuff_crlf true rest n
    simp [stuff, ih]
theorem stuff_dots (b : Bool) (st : Nat) (rest : List Nat) (h1 : st ≠ 46) (h2 : st ≠ 10) : ∀ d, stuff b (List.replicate d 46 ++ st :: rest) = (if decide (d ≠ 0) && b then [46] else []) ++ (List.replicate d 46 ++ st :: stuff false rest) := by
  have f : ∀ d, stuff false (List.replicate d 46 ++ st :: rest) = List.replicate d 46 ++ st :: stuff false rest := by
    intro d
    induction d with
    | zero => have h3 : (st == 10) = false := by simp [h2]
              simp [stuff, h3]
    | succ d ih => rw [List.replicate_succ, List.cons_append]; simp [stuff, ih]
  intro d
  cases d with
  | zero => have h3 : (st == 10) = false := by simp [h2]
            simp [stuff, h1, h3]
  | succ d =>
    rw [List.replicate_succ, List.cons_append]
    cases b <;> simp [stuff, f]
noncomputable def flat : List (Nat × Nat) → List Nat
  | [] => []
  | p :: r => p.1 :: p.2 :: flat r
noncomputable def nrm1 (p : Nat × Nat) : List Nat := if p.1 = 13 then (if p.2 = 10 then [13, 10] else [13, 10, p.2]) else if p.2 = 10 then [p.1, 13, 10] else [p.1, p.2]
noncomputable def nrm : List (Nat × Nat) → List Nat
  | [] => []
  | p :: r => nrm1 p ++ nrm r
section
variable {nb : Nat → Bool} (B : Nb nb)
include B
theorem nbne {c : Nat} (h : nb c = true) : c ≠ 13 ∧ c ≠ 10 ∧ c ≠ 46 := by
  refine ⟨?_, ?_, ?_⟩ <;> (rintro rfl; simp [B.r, B.n, B.d] at h)
theorem norm_flat : ∀ (ps : List (Nat × Nat)) (rest : List Nat), (∀ p ∈ ps, (p.1 = 13 ∨ nb p.1 = true) ∧ (p.2 = 10 ∨ nb p.2 = true)) → norm false (flat ps ++ rest) = nrm ps ++ norm false rest
  | [], _, _ => rfl
  | (x, y) :: r, rest, h => by
    have ih := norm_flat r rest fun c hc => h c (.tail _ hc)
    obtain ⟨h1, h2⟩ := h _ (.head _)
    show norm false (x :: y :: (flat r ++ rest)) = nrm1 (x, y) ++ nrm r ++ norm false rest
    dsimp only at h1 h2
    rcases h1 with rfl | h1
    · rcases h2 with rfl | h2
      · simp [norm, nrm1, ih]
      · obtain ⟨y1, y2, y3⟩ := nbne B h2
        simp [norm, nrm1, ih, y1, y2]
    · obtain ⟨x1, x2, x3⟩ := nbne B h1
      rcases h2 with rfl | h2
      · simp [norm, nrm1, ih, x1, x2]
      · obtain ⟨y1, y2, y3⟩ := nbne B h2
        simp [norm, nrm1, ih, x1, x2, y1, y2]
theorem stuff_nrm1 (b : Bool) (p : Nat × Nat) (rest : List Nat) (h : (p.1 = 13 ∨ nb p.1 = true) ∧ (p.2 = 10 ∨ nb p.2 = true)) : stuff b (nrm1 p ++ rest) = nrm1 p ++ stuff (p.2 == 10) rest := by
  obtain ⟨x, y⟩ := p
  obtain ⟨h1, h2⟩ := h
  dsimp only at h1 h2 ⊢
  rcases h1 with rfl | h1
  · rcases h2 with rfl | h2
    · simp [stuff, nrm1]
    · obtain ⟨y1, y2, y3⟩ := nbne B h2
      simp [stuff, nrm1, y1, y2, y3]
  · obtain ⟨x1, x2, x3⟩ := nbne B h1
    rcases h2 with rfl | h2
    · simp [stuff, nrm1, x1, x2, x3]
    · obtain ⟨y1, y2, y3⟩ := nbne B h2
      simp [stuff, nrm1, x1, x2, x3, y1, y2, y3]
theorem stuff_nrm : ∀ (ps : List (Nat × Nat)) (q : Nat × Nat) (b : Bool) (rest : List Nat), (∀ p ∈ ps ++ [q], (p.1 = 13 ∨ nb p.1 = true) ∧ (p.2 = 10 ∨ nb p.2 = true)) → stuff b (nrm (ps ++ [q]) ++ rest) = nrm (ps ++ [q]) ++ stuff (q.2 == 10) rest
  | [], q, b, rest, h => by
    have := stuff_nrm1 B b q rest (h q (.head _))
    simpa [nrm] using this
  | p :: r, q, b, rest, h => by
    have ih := stuff_nrm r q (p.2 == 10) rest fun c hc => h c (.tail _ hc)
    show stuff b (nrm1 p ++ nrm (r ++ [q]) ++ rest) = nrm1 p ++ nrm (r ++ [q]) ++ stuff (q.2 == 10) rest
    rw [List.append_assoc, stuff_nrm1 B b p _ (h p (.head _)), ih, List.append_assoc]
theorem filt_nrm : ∀ (ps : List (Nat × Nat)), (∀ p ∈ ps, (p.1 = 13 ∨ nb p.1 = true) ∧ (p.2 = 10 ∨ nb p.2 = true)) → (nrm ps).filter (fun c => !nb c) = crlf (ps.filter fun p => !(nb p.1 && nb p.2)).length
  | [], _ => rfl
  | (x, y) :: r, h => by
    have ih := filt_nrm r fun c hc => h c (.tail _ hc)
    obtain ⟨h1, h2⟩ := h _ (.head _)
    show (nrm1 (x, y) ++ nrm r).filter _ = _
    rw [List.filter_append, ih]
    dsimp only at h1 h2
    rcases h1 with rfl | h1
    · rcases h2 with rfl | h2
      · simp [nrm1, B.r, B.n, crlf]
      · obtain ⟨y1, y2, y3⟩ := nbne B h2
        simp [nrm1, B.r, B.n, y2, h2, crlf]
    · obtain ⟨x1, x2, x3⟩ := nbne B h1
      rcases h2 with rfl | h2
      · simp [nrm1, B.r, B.n, x1, h1, crlf]
      · obtain ⟨y1, y2, y3⟩ := nbne B h2
        simp [nrm1, B.r, B.n, x1, y2, h1, h2, crlf]
end
end Mine
end
section
namespace Mine
/-- one piece's numbers -/
structure Pc where
  d : Nat
  st : Nat
  e : Nat
  h : Nat
  un : Nat → Nat
noncomputable def Pc.sgn (p : Pc) (k : Nat) : Nat := if bitN p.h k then p.un k else if k % 2 = 0 then 13 else 10
noncomputable def Pc.text (p : Pc) : List Nat := List.replicate p.d 46 ++ p.st :: (List.range (2 * p.e)).map p.sgn
noncomputable def Pc.kept (p : Pc) : Nat := p.e - thirdsN p.h
/-- typed, early, late, fresh, bare -/
structure Rd where
  t : List Nat := []
  ea : List Nat := []
  la : List Nat := []
  fr : Bool := true
  ba : Bool := true
noncomputable def Rd.step (r : Rd) (p : Pc) : Rd where
  t := r.t ++ p.text
  ea := r.ea ++ ((if decide (p.d ≠ 0) && r.fr then [46] else []) ++ (List.replicate p.d 46 ++ p.st :: crlf p.kept))
  la := r.la ++ ((if decide (p.d ≠ 0) && r.ba then [46] else []) ++ (List.replicate p.d 46 ++ p.st :: crlf (p.e - threesN p.h)))
  fr := decide (0 < p.kept)
  ba := decide (p.h < 2 ^ (2 * p.e - 1))
structure Pc.Ok (nb : Nat → Bool) (p : Pc) : Prop where
  st1 : nb p.st = false
  st2 : p.st ≠ 13 ∧ p.st ≠ 10 ∧ p.st ≠ 46
  e1 : 1 ≤ p.e ∧ p.e ≤ 4
  h1 : p.h < 4 ^ p.e
  un : ∀ k, nb (p.un k) = true
section
variable {nb : Nat → Bool} (B : Nb nb) {p : Pc} (O : p.Ok nb)
include B O
theorem pc_fin : ∃ e : Fin 4, ∃ h : Fin 256, p.e = e.val + 1 ∧ p.h = h.val ∧ h.val < 4 ^ (e.val + 1) := by
  obtain ⟨e1, e2⟩ := O.e1
  have h1 := O.h1
  have : p.h < 256 := Nat.lt_of_lt_of_le h1 (Nat.pow_le_pow_right (by decide) e2)
  refine ⟨⟨p.e - 1, by omega⟩, ⟨p.h, this⟩, by show p.e = p.e - 1 + 1; omega, rfl, ?_⟩
  show p.h < 4 ^ (p.e - 1 + 1)
  rw [show p.e - 1 + 1 = p.e by omega]; exact h1
theorem sgn_nb (k : Nat) : nb (p.sgn k) = bitN p.h k := by
  unfold Pc.sgn
  cases hb : bitN p.h k
  · simp only [Bool.false_eq_true, if_false]; split
    · exact B.r
    · exact B.n
  · simp only [if_true]; exact O.un k
theorem text_filt : p.text.filter (fun c => !nb c) = List.replicate p.d 46 ++ p.st :: rest1 p.e p.h := by
  unfold Pc.text rest1
  rw [List.filter_append, List.filter_cons, List.filter_map]
  have e1 : (List.replicate p.d 46).filter (fun c => !nb c) = List.replicate p.d 46 := by
    rw [List.filter_eq_self]; intro a ha; rw [(List.mem_replicate.mp ha).2, B.d]; rfl
  have e2 : ((fun c => !nb c) ∘ p.sgn) = fun k => !bitN p.h k := by funext k; simp [sgn_nb B O k]
  rw [e1, O.st1, e2]
  simp only [Bool.not_false, if_true]
  congr 2
  refine List.map_congr_left fun k hk => ?_
  have := (List.mem_filter.mp hk).2
  unfold Pc.sgn
  simp only [Bool.not_eq_true'] at this
  rw [this]; rfl
theorem nf_head (rest : List Nat) : head10 ((p.text ++ rest).filter fun c => !nb c) = false ∧ head10 (p.text ++ rest) = false := by
  constructor
  · rw [List.filter_append, text_filt B O]
    cases p.d with
    | zero => simp [head10, O.st2.2.1]
    | succ d => simp [head10, List.replicate_succ]
  · unfold Pc.text
    cases p.d with
    | zero => simp [head10, O.st2.2.1]
    | succ d => simp [head10, List.replicate_succ]
theorem piece1 (fr : Bool) (rest : List Nat) (hr : head10 (rest.filter fun c => !nb c) = false) :
    stuff fr (norm false ((p.text ++ rest).filter fun c => !nb c)) = ((if decide (p.d ≠ 0) && fr then [46] else []) ++ (List.replicate p.d 46 ++ p.st :: crlf p.kept)) ++ stuff (decide (0 < p.kept)) (norm false (rest.filter fun c => !nb c)) := by
  obtain ⟨e, h, he, hh, hlt⟩ := pc_fin B O
  rw [List.filter_append, text_filt B O]
  have s1 : List.replicate p.d 46 ++ p.st :: rest1 p.e p.h = (List.replicate p.d 46 ++ [p.st]) ++ rest1 p.e p.h := by simp
  have hm : ∀ c ∈ rest1 p.e p.h, c = 13 ∨ c = 10 := by
    have := e13 e h
    rw [← he, ← hh] at this
    intro c hc
    have := List.all_eq_true.mp this c hc
    simpa using this
  have s2 : norm false (rest1 p.e p.h) = crlf p.kept := by
    have := road1 e h hlt
    rw [← he, ← hh] at this
    exact this
  rw [s1, List.append_assoc, norm_plain _ _ (fun c hc => by
    rcases List.mem_append.mp hc with hc | hc
    · rw [(List.mem_replicate.mp hc).2]; decide
    · rw [List.mem_singleton.mp hc]; exact ⟨O.st2.1, O.st2.2.1⟩), norm_app _ _ _ hm hr, s2, List.append_assoc, List.singleton_append, stuff_dots _ _ _ O.st2.2.2 O.st2.2.1]
  cases hk : p.kept with
  | zero => simp [crlf]
  | succ k => rw [stuff_crlf]; simp
theorem text_flat : ∃ ps : List (Nat × Nat), ∃ q : Nat × Nat, p.text = (List.replicate p.d 46 ++ [p.st]) ++ flat (ps ++ [q]) ∧ (∀ r ∈ ps ++ [q], (r.1 = 13 ∨ nb r.1 = true) ∧ (r.2 = 10 ∨ nb r.2 = true)) ∧
    (((ps ++ [q]).filter fun p => !(nb p.1 && nb p.2)).length = p.e - threesN p.h) ∧ (q.2 == 10) = decide (p.h < 2 ^ (2 * p.e - 1)) := by
  obtain ⟨e, h, he, hh, hlt⟩ := pc_fin B O
  have g : ∀ j, ((fun j => (p.sgn (2 * j), p.sgn (2 * j + 1))) j).1 = 13 ∨ nb ((fun j => (p.sgn (2 * j), p.sgn (2 * j + 1))) j).1 = true := by
    intro j
    dsimp only
    rw [sgn_nb B O]
    unfold Pc.sgn
    cases bitN p.h (2 * j)
    · left; simp
    · right; rfl
  have g2 : ∀ j, ((fun j => (p.sgn (2 * j), p.sgn (2 * j + 1))) j).2 = 10 ∨ nb ((fun j => (p.sgn (2 * j), p.sgn (2 * j + 1))) j).2 = true := by
    intro j
    dsimp only
    rw [sgn_nb B O]
    unfold Pc.sgn
    cases bitN p.h (2 * j + 1)
    · left; simp
    · right; rfl
  have fl : ∀ (n : Nat) (f : Nat → Nat), (List.range (2 * n)).map f = flat ((List.range n).map fun j => (f (2 * j), f (2 * j + 1))) := by
    have fa : ∀ l m, flat (l ++ m) = flat l ++ flat m := by
      intro l m
      induction l with
      | nil => rfl
      | cons a r ih => simp [flat, ih]
    intro n f
    induction n with
    | zero => rfl
    | succ n ih =>
      rw [show 2 * (n + 1) = 2 * n + 1 + 1 by omega, List.range_succ, List.range_succ, List.range_succ]
      simp only [List.map_append, fa, ih]
      simp [flat]
  have hps : (List.range p.e).map (fun j => (p.sgn (2 * j), p.sgn (2 * j + 1))) = (List.range e.val).map (fun j => (p.sgn (2 * j), p.sgn (2 * j + 1))) ++ [(p.sgn (2 * e.val), p.sgn (2 * e.val + 1))] := by
    rw [he, List.range_succ, List.map_append]; rfl
  refine ⟨(List.range e.val).map fun j => (p.sgn (2 * j), p.sgn (2 * j + 1)), (p.sgn (2 * e.val), p.sgn (2 * e.val + 1)), ?_, ?_, ?_, ?_⟩
  · unfold Pc.text
    rw [fl, hps]; simp
  · rw [← hps]
    intro r hr
    obtain ⟨j, -, rfl⟩ := List.mem_map.mp hr
    exact ⟨g j, g2 j⟩
  · rw [← hps, List.filter_map, List.length_map]
    have := road2a e h hlt
    rw [← he, ← hh] at this
    rw [← this]
    congr 1
    refine List.filter_congr fun j _ => ?_
    simp [sgn_nb B O]
  · have := road2b e h hlt
    rw [← hh, ← he] at this
    rw [← this]
    have hs := sgn_nb B O (2 * e.val + 1)
    unfold Pc.sgn at hs ⊢
    cases hb : bitN p.h (2 * e.val + 1)
    · have : (2 * e.val + 1) % 2 = 1 := by omega
      simp [this]
    · rw [hb] at hs
      have := nbne B hs
      simpa using this.2.1
theorem piece2 (ba : Bool) (rest : List Nat) (_hr : head10 rest = false) :
    (stuff ba (norm false (p.text ++ rest))).filter (fun c => !nb c) = ((if decide (p.d ≠ 0) && ba then [46] else []) ++ (List.replicate p.d 46 ++ p.st :: crlf (p.e - threesN p.h))) ++ (stuff (decide (p.h < 2 ^ (2 * p.e - 1))) (norm false rest)).filter (fun c => !nb c) := by
  obtain ⟨ps, q, e1, h1, e2, e3⟩ := text_flat B O
  rw [e1, List.append_assoc, norm_plain _ _ (fun c hc => by
    rcases List.mem_append.mp hc with hc | hc
    · rw [(List.mem_replicate.mp hc).2]; decide
    · rw [List.mem_singleton.mp hc]; exact ⟨O.st2.1, O.st2.2.1⟩), norm_flat B _ _ h1, List.append_assoc, List.singleton_append, stuff_dots _ _ _ O.st2.2.2 O.st2.2.1, stuff_nrm B _ _ _ _ h1, e3]
  have f1 : (List.replicate p.d 46).filter (fun c => !nb c) = List.replicate p.d 46 := by
    rw [List.filter_eq_self]; intro a ha; rw [(List.mem_replicate.mp ha).2, B.d]; rfl
  have f2 : (if (decide (p.d ≠ 0) && ba) = true then [46] else ([] : List Nat)).filter (fun c => !nb c) = if (decide (p.d ≠ 0) && ba) = true then [46] else [] := by
    split
    · simp [B.d]
    · rfl
  rw [List.filter_append, List.filter_append, f1, f2, List.filter_cons, O.st1, List.filter_append, filt_nrm B _ h1, e2]
  simp
end
section
variable {nb : Nat → Bool} (B : Nb nb)
include B
theorem roads_go : ∀ (ps : List Pc), (∀ p ∈ ps, p.Ok nb) → ∀ r : Rd,
    (∀ rest, head10 (rest.filter fun c => !nb c) = false → head10 rest = false → stuff true (norm false ((r.t ++ rest).filter fun c => !nb c)) = r.ea ++ stuff r.fr (norm false (rest.filter fun c => !nb c)) ∧
      (stuff true (norm false (r.t ++ rest))).filter (fun c => !nb c) = r.la ++ (stuff r.ba (norm false rest)).filter (fun c => !nb c)) →
    stuff true (norm false ((ps.foldl Rd.step r).t.filter fun c => !nb c)) = (ps.foldl Rd.step r).ea ∧ (stuff true (norm false (ps.foldl Rd.step r).t)).filter (fun c => !nb c) = (ps.foldl Rd.step r).la
  | [], _, r, h => by
    have := h [] rfl rfl
    rw [List.foldl_nil]
    simpa [stuff, norm] using this
  | p :: ps, hp, r, h => by
    rw [List.foldl_cons]
    refine roads_go ps (fun q hq => hp q (.tail _ hq)) _ fun rest hr1 hr2 => ?_
    have O := hp p (.head _)
    have hh := nf_head B O rest
    have := h (p.text ++ rest) hh.1 hh.2
    constructor
    · show stuff true (norm false ((r.t ++ p.text ++ rest).filter _)) = _
      rw [List.append_assoc, this.1, piece1 B O _ _ hr1]
      simp [Rd.step, List.append_assoc]
    · show (stuff true (norm false (r.t ++ p.text ++ rest))).filter _ = _
      rw [List.append_assoc, this.2, piece2 B O _ _ hr2]
      simp [Rd.step, List.append_assoc]
theorem roads_ok (ps : List Pc) (h : ∀ p ∈ ps, p.Ok nb) : stuff true (norm false ((ps.foldl Rd.step {}).t.filter fun c => !nb c)) = (ps.foldl Rd.step {}).ea ∧ (stuff true (norm false (ps.foldl Rd.step {}).t)).filter (fun c => !nb c) = (ps.foldl Rd.step {}).la :=
  roads_go B ps h {} fun rest _ _ => ⟨by simp, by simp⟩
end
end Mine
end
section
namespace Mine
noncomputable def prStep (h : Nat) (p : Nat × Nat) (k : Nat) : Nat × Nat := if bitN h k then (p.1, p.2 + 1) else (p.1 + p.2 / 2, 0)
noncomputable def prAt (h k : Nat) : Nat × Nat := (List.range k).foldl (prStep h) (0, 0)
noncomputable def thr (e h : Nat) : Nat := ((List.range e).map fun k => h / 4 ^ k % 4).countP (· == 3)
noncomputable def cIx (e h : Nat) : Nat := 4 * thr e h + (prAt h (2 * e + 1)).1
noncomputable def cStep (e : Nat) (c : List Nat) (h : Nat) : List Nat := c.set (cIx e h) (c.getD (cIx e h) 0 + 1)
noncomputable def cAt (e i : Nat) : List Nat := (List.range i).foldl (cStep e) (List.replicate 16 0)
theorem prAt_succ (h k : Nat) : prAt h (k + 1) = prStep h (prAt h k) k := by unfold prAt; rw [List.range_succ, List.foldl_append]; rfl
theorem cAt_succ (e i : Nat) : cAt e (i + 1) = cStep e (cAt e i) i := by unfold cAt; rw [List.range_succ, List.foldl_append]; rfl
theorem cAt_len (e : Nat) : ∀ i, (cAt e i).length = 16
  | 0 => rfl
  | i + 1 => by rw [cAt_succ, cStep, List.length_set, cAt_len e i]
theorem cIx_lt : ∀ e : Fin 4, ∀ h : Fin 64, h.val < 4 ^ e.val → cIx e.val h.val < 16 := by decide +kernel
theorem prAt_le (h : Nat) : ∀ k, (prAt h k).1 + (prAt h k).2 ≤ k
  | 0 => Nat.le_refl _
  | k + 1 => by
    have := prAt_le h k
    rw [prAt_succ, prStep]
    split
    · show (prAt h k).1 + ((prAt h k).2 + 1) ≤ _; omega
    · show (prAt h k).1 + (prAt h k).2 / 2 + 0 ≤ _; omega
/-- a list's value by its digits of 8 bits -/
noncomputable def v8 : List Nat → Nat
  | [] => 0
  | d :: r => d + 256 * v8 r
theorem cAt_val : (cAt 3 64, cAt 2 16, cAt 1 4, cAt 0 1) = ([21, 6, 0, 0, 0, 24, 3, 0, 0, 0, 9, 0, 0, 0, 0, 1], [8, 1, 0, 0, 0, 6, 0, 0, 0, 0, 1, 0, 0, 0, 0, 0], [3, 0, 0, 0, 0, 1, 0, 0, 0, 0, 0, 0, 0, 0, 0, 0], [1, 0, 0, 0, 0, 0, 0, 0, 0, 0, 0, 0, 0, 0, 0, 0]) := by decide +kernel
theorem cAt_v8 : (v8 (cAt 3 64), v8 (cAt 2 16), v8 (cAt 1 4), v8 (cAt 0 1)) = (1329227995795796205281209536061900309, 1208925819621226244473096, 1099511627779, 1) := by decide +kernel
end Mine
end
section
open PySem PySem.W PyProof.Rows
open Builtin.Int (intBits)
namespace Mine
local macro_rules | `(tactic| walk_at "binaryOp LShift int int") => `(tactic| (k_here; refine lshift_int ?k1 ?k2 ?_; (case k1 => first | assumption | omega); (case k2 => first | assumption | omega)))
local macro_rules | `(tactic| walk_at "binaryOp RShift int int") => `(tactic| (k_here; refine rshift_int ?k1 ?_; (case k1 => first | assumption | omega)))
local macro_rules | `(tactic| walk_at "binaryOp Mult int int") => `(tactic| (k_here; refine mul_int ?_ ?k1; (case k1 => assumption)))
local macro_rules | `(tactic| walk_at "inplaceOp LShift int int") => `(tactic| (k_here; refine ilshift_int ?k1 ?k2 ?_; (case k1 => first | assumption | omega); (case k2 => first | assumption | omega)))
local macro_rules | `(tactic| walk_at "inplaceOp RShift int int") => `(tactic| (k_here; refine irshift_int ?k1 ?_; (case k1 => first | assumption | omega)))
local macro_rules | `(tactic| walk_at "call builtin:divmod") => `(tactic| (k_here; refine' divmod_L ?k1 ?k2 ?k3 ?k4 ?_; (case k1 => k_asm); (case k2 => k_asm); (case k3 => first | assumption | omega); (case k4 => assumption); k_whole; intro D' t1' t2' h' tk' F' N' l1; (try k_lt l1)))
/-- the words that the walks below use -/
theorem words : True := by
  w_on
  have kf : (PySem.Challenge.rw_rs0075_01, KF) = (PySem.Challenge.rw_rs0075_01, KF) := by (k_fill; rfl)
  k_with "go" => repeat' (first | (k_unfold; (try dsimp only)) | ((fail_if_success (with_reducible show wpAny _ _ (exec (Stmt.While _ _ _ _) _) _ _ _)); (fail_if_success (with_reducible show wpAny _ _ (call (Value.ref _) _) _ _ _)); (fail_if_success (with_reducible show wpAny _ _ (pyIter (Value.ref _)) _ _ _)); walk1; (try dsimp only)) | fail "no step")
  k_with "goL" => repeat' (first | (k_unfold; (try dsimp only)) | ((fail_if_success (with_reducible show wpAny _ _ (exec (Stmt.While _ _ _ _) _) _ _ _)); (fail_if_success (with_reducible show wpAny _ _ (exec (Stmt.For _ _ _ _ _ _) _) _ _ _)); (fail_if_success (with_reducible show wpAny _ _ (eval (Expr.ListComp _ _ _ _) _) _ _ _)); (fail_if_success (with_reducible show LCt.CompSrcT _ _ _ _ _ _ _ _ _ _ _ _ _ _ _)); (fail_if_success (with_reducible show LCg.CompSrc _ _ _ _ _ _ _ _ _ _ _ _ _ _)); (fail_if_success (with_reducible show wpAny _ _ (call (Value.ref _) _) _ _ _)); (fail_if_success (with_reducible show wpAny _ _ (pyIter (Value.ref _)) _ _ _)); walk1; (try dsimp only)) | fail "no step")
  k_with "goK" => repeat' (first | (k_unfold; (try dsimp only)) | ((fail_if_success (with_reducible show wpAny _ _ (exec (Stmt.While _ _ _ _) _) _ _ _)); (fail_if_success (with_reducible show wpAny _ _ (exec (Stmt.For _ _ _ _ _ _) _) _ _ _)); (fail_if_success (with_reducible show wpAny _ _ (eval (Expr.ListComp _ _ _ _) _) _ _ _)); (fail_if_success (with_reducible show LCt.CompSrcT _ _ _ _ _ _ _ _ _ _ _ _ _ _ _)); (fail_if_success (with_reducible show LCg.CompSrc _ _ _ _ _ _ _ _ _ _ _ _ _ _)); (fail_if_success (with_reducible show wpAny _ _ (call (Value.ref _) _) _ _ _)); (fail_if_success (with_reducible show wpAny _ _ (pyIter (Value.ref _)) _ _ _)); (fail_if_success (with_reducible show wpAny _ _ (subscriptTail _ _ (Value.ref _) (Value.int _ _)) _ _ _)); (fail_if_success (with_reducible show wpAny _ _ (subscriptTail _ _ (Value.str (Str.ofString _) _) (Value.int _ _)) _ _ _)); (fail_if_success (with_reducible show wpAny _ _ (subscriptTail _ _ (Value.ref _) (Value.ref _)) _ _ _)); (fail_if_success (with_reducible show wpAny _ _ (setItem (Value.ref _) (Value.int _ _) _) _ _ _)); walk1; (try dsimp only)) | fail "no step")
  k_with "goT" => repeat' (first | (k_unfold; (try dsimp only)) | ((fail_if_success (with_reducible show wpAny _ _ (exec (Stmt.While _ _ _ _) _) _ _ _)); (fail_if_success (with_reducible show wpAny _ _ (exec (Stmt.For _ _ _ _ _ _) _) _ _ _)); (fail_if_success (with_reducible show wpAny _ _ (eval (Expr.ListComp _ _ _ _) _) _ _ _)); (fail_if_success (with_reducible show LCt.CompSrcT _ _ _ _ _ _ _ _ _ _ _ _ _ _ _)); (fail_if_success (with_reducible show LCg.CompSrc _ _ _ _ _ _ _ _ _ _ _ _ _ _)); (fail_if_success (with_reducible show wpAny _ _ (call (Value.ref _) _) _ _ _)); (fail_if_success (with_reducible show wpAny _ _ (pyIter (Value.ref _)) _ _ _)); (fail_if_success (with_reducible show wpAny _ _ (subscriptTail _ _ (Value.ref _) (Value.int _ _)) _ _ _)); (fail_if_success (with_reducible show wpAny _ _ (subscriptTail _ _ (Value.str (Str.ofString _) _) (Value.int _ _)) _ _ _)); (fail_if_success (with_reducible show wpAny _ _ (subscriptTail _ _ (Value.ref _) (Value.ref _)) _ _ _)); (fail_if_success (with_reducible show wpAny _ _ (setItem (Value.ref _) (Value.int _ _) _) _ _ _)); (fail_if_success (with_reducible show wpAny _ _ (execs (List.cons _ _) _) _ _ _)); walk1; (try dsimp only)) | fail "no step")
  k_with "st" => (walk1; (try dsimp only); (try ((with_reducible show wpAny _ _ (execs (List.cons _ _) _) _ _ _); walk1; (try dsimp only))); (k_extra "goT"))
  k_with "drop" => (intro p hp; rcases List.mem_cons.mp hp with rfl | hp; (exact List.Mem.head _); repeat (first | exact hp | apply List.Mem.tail))
  k_with "lt" => first | assumption | exact kst_ltOf (by assumption) | exact kst_ltOf (And.right (by assumption)) | exact kst_ltOf (And.right (And.right (by assumption))) | exact kst_ltOf (And.right (And.right (And.right (by assumption))))
  k_with "conds" => ((case k1 => k_asm); (case k2 => k_asm); (case k3 => k_asm); (case k4 => k_asm); (case k5 => k_asm); (case c1 => k_asm); (case c2 => k_asm); (case k6 => rfl); (case k7 => first | omega | (dsimp only [ktrTop]; omega)); (case k8 => first | omega | (dsimp only [ktrTop]; omega)))
  k_with "back2" => (intro D' t1' t2' c' h' tk' F' N' l1; (try k_lt l1); (try k_sweep); (try dsimp only); (k_extra "go"))
  k_with "ret2" => (refine hret _ _ _ _ _ _ (by k_asm) (cb_drop (by k_asm) (by k_extra "drop")) (by k_extra "lt"))
  k_with "enter" => (intro dp un gd cn cs ca ccd cl outer A₀ base h₀ L m news s Q E B F X N T C1 C2 hk hd hu hret; (refine wpAny_call ?_); (k_dflt ktr_enter); conv in (dB _) => whnf)
  k_with "enterC" => (intro dp un gd cn cs ca ccd cl outer A₀ base h₀ L m news s Q E B F X N T C1 C2 hk hd hu hret; (refine wpAny_call ?_); (k_dflt (refine' code_defC ?k1 ?k2 ?k3 ?k4 ?k5 ?kA ?kF ?kK ?k6 ?k7 ?k8 ?k9 ?kB ?kD ?_ ?c2 ?c3 ?c4; (case kA => exact rfl); (case kF => exact rfl); (case kK => assumption); (case k1 => k_asm); (case k2 => k_asm); (case k3 => k_asm); (case k4 => k_asm); (case k5 => k_asm); (case k6 => k_is); (case k7 => k_is); (case k8 => first | omega | (dsimp only [ktrTop]; omega)); (case k9 => exact BindsTo.of_eq rfl); (case kB => exact rfl); (case kD => decide +kernel); (case c2 => exact rfl); (case c3 => exact rfl); (case c4 => exact rfl); k_whole)); intro g' L' h' tk' cells' FG' F' N' Y' B' X' T' l1; (try k_lt l1); k_cells Y'; (try simp only [List.cons_append, List.nil_append] at N'); (try dsimp only); (try k_fold); conv in (dB _) => whnf)
  k_with "enterN" => (intro dp un gd cn cs ca ccd cl outer A₀ base h₀ L m s Q E B F X N T C1 C2 hk hd hu hret; (refine wpAny_call ?_); (k_dflt (refine' code_nest ?k1 ?k2 ?k3 ?k4 ?k5 ?kA ?kF ?kK ?k6 ?k7 ?k8 ?k9 ?kB ?_ ?c2 ?c3 ?c4 ?c5; (case kA => exact rfl); (case kF => exact rfl); (case kK => assumption); (case k1 => k_asm); (case k2 => k_asm); (case k3 => k_asm); (case k4 => k_asm); (case k5 => k_asm); (case k6 => assumption); (case k7 => exact codeRec_news (by k_asm) (by assumption) (by assumption) (by assumption)); (case k8 => first | omega | (dsimp only [ktrTop]; omega)); (case k9 => exact BindsTo.of_eq rfl); (case c5 => decide); (case kB => exact locs rfl); (case c2 => exact rfl); (case c3 => exact rfl); (case c4 => exact rfl); k_whole)); intro g' L' h' FG' F' N' B' X' T'; (try dsimp only); (try k_fold); conv in (sB _ _) => whnf)
  k_with "enterCN" => (intro dp un gd cn cs ca ccd cl outer A₀ base h₀ L m s Q E B F X N T C1 C2 hk hd hu hret; (refine wpAny_call ?_); (k_dflt (refine' code_defC ?k1 ?k2 ?k3 ?k4 ?k5 ?kA ?kF ?kK ?k6 ?k7 ?k8 ?k9 ?kB ?kD ?_ ?c2 ?c3 ?c4; (case kA => exact rfl); (case kF => exact rfl); (case kK => assumption); (case k1 => k_asm); (case k2 => k_asm); (case k3 => k_asm); (case k4 => k_asm); (case k5 => k_asm); (case k6 => k_is); (case k7 => k_is); (case k8 => first | omega | (dsimp only [ktrTop]; omega)); (case k9 => exact BindsTo.of_eq rfl); (case kB => exact rfl); (case kD => decide +kernel); (case c2 => exact rfl); (case c3 => exact rfl); (case c4 => exact rfl); k_whole)); intro g' L' h' tk' cells' FG' F' N' Y' B' X' T' l1; (try dsimp only); (try k_fold); conv in (dB _) => whnf)
  k_with "condsN" => ((case k1 => k_asm); (case k2 => k_asm); (case k3 => k_asm); (case k4 => k_asm); (case k5 => k_asm); (case c1 => k_asm); (case c2 => k_asm); (case k6 => rfl); (case k7 => first | omega | (dsimp only [ktrTop]; omega)); (case k8 => first | omega | (dsimp only [ktrTop]; omega)))
  k_with "enterP" => (intro dp un gd cn cs ca ccd cl outer A₀ base h₀ L m s Q E B F X N T C1 C2 hk hd hu hret; (refine wpAny_call ?_); (k_dflt (refine' code_def ?k1 ?k2 ?k3 ?k4 ?k5 ?kA ?kF ?kK ?k6 ?k7 ?k8 ?k9 ?kB ?_ ?c2 ?c3 ?c4 ?c5; (case kA => exact rfl); (case kF => exact rfl); (case kK => assumption); (case k1 => k_asm); (case k2 => k_asm); (case k3 => k_asm); (case k4 => k_asm); (case k5 => k_asm); (case k6 => k_is); (case k7 => k_is); (case k8 => first | omega | (dsimp only [ktrTop]; omega)); (case k9 => exact BindsTo.of_eq rfl); (case c5 => decide); (case kB => exact locs rfl); (case c2 => exact rfl); (case c3 => exact rfl); (case c4 => exact rfl); k_whole)); intro g' L' h' FG' F' N' B' X' T'; (try dsimp only); (try k_fold); conv in (dB _) => whnf)
  trivial
section
set_option maxHeartbeats 4000000 in
theorem c_div3 (w : World) (mean : ExcName → Option Value) (mg mb : Str → Option Value) (a12 a3 b b1 b2 n : Int) (t1 t2 t3 t4 t5 t6 : Tok) (d u : Nat) (A : Int)
    (h1 : 0 ≤ n) (h2 : n ≤ 100000) (hb : 0 < b)
    (hz0 : (intBits 1 : Int) + n ≤ 2 ^ 27)
    (hz1 : (intBits (a12 - b1 * 2 ^ n.toNat + b1) : Int) + n ≤ 2 ^ 27)
    (hz2 : (intBits (a12.fmod b1) : Int) + n ≤ 2 ^ 27)
    (hzb : (intBits b1 : Int) + n ≤ 2 ^ 27)
    (hm1 : IntMulOk (1 * 2 ^ n.toNat - 1) b2) (hm2 : IntMulOk (a12.fdiv b1) b2)
    (hv1 : a12.fdiv (2 ^ n.toNat) = b1 → (1 * 2 ^ n.toNat - 1) * b + (Builtin.bitOr ((a12 - b1 * 2 ^ n.toNat + b1) * 2 ^ n.toNat) a3 - (1 * 2 ^ n.toNat - 1) * b2) = A ∧ Builtin.bitOr ((a12 - b1 * 2 ^ n.toNat + b1) * 2 ^ n.toNat) a3 - (1 * 2 ^ n.toNat - 1) * b2 < b)
    (hv2 : a12.fdiv (2 ^ n.toNat) ≠ b1 → (a12.fdiv b1) * b + (Builtin.bitOr ((a12.fmod b1) * 2 ^ n.toNat) a3 - (a12.fdiv b1) * b2) = A ∧ Builtin.bitOr ((a12.fmod b1) * 2 ^ n.toNat) a3 - (a12.fdiv b1) * b2 < b)
    (hrec : a12.fdiv (2 ^ n.toNat) ≠ b1 → ∀ t1 t2 t3, Con w mean mg mb 56 [.int a12 t1, .int b1 t2, .int n t3] d u (Ret2 (a12.fdiv b1) (a12.fmod b1))) :
    Con w mean mg mb 63 [.int a12 t1, .int a3 t2, .int b t3, .int b1 t4, .int b2 t5, .int n t6] (d + 1) (u + 3) (Ret2 (A.fdiv b) (A.fmod b)) := by
  have hfin : ∀ q r : Int, q * b + r = A → 0 ≤ r → r < b → q = A.fdiv b ∧ r = A.fmod b := by
    intro q r e h0 h3
    subst e
    rw [Int.fdiv_eq_ediv_of_nonneg _ (Int.le_of_lt hb), Int.fmod_eq_emod_of_nonneg _ (Int.le_of_lt hb)]
    constructor
    · rw [Int.add_comm, Int.add_mul_ediv_right _ _ (Int.ne_of_gt hb), Int.ediv_eq_zero_of_lt h0 h3, Int.zero_add]
    · rw [Int.add_comm, Int.add_mul_emod_self_right, Int.emod_eq_of_lt h0 h3]
  k_extra "enter"
  k_extra "go"
  · rename Fr _ _ _ _ => F1
    rename News _ _ _ _ => N1
    refine wh2 (Str.ofString "q") (Str.ofString "r") (fun q r => q * b + r = A ∧ r < b) (fun _ r => (-r).toNat) F1 N1 rfl rfl (hv1 (by assumption)) ?_
    rintro q r tq tr h' tk' ⟨hP, hP2⟩ F' N'
    k_extra "go"
    · refine ⟨rfl, _, _, _, _, _, _, _, rfl, by k_asm, by k_asm, rfl, rfl, ?_, ⟨?_, ?_⟩, ?_⟩
      · intro z hz1 hz2; simp only [if_neg hz1, if_neg hz2]
      · rw [Int.sub_mul]; omega
      · omega
      · show (-(r + b)).toNat < (-r).toNat
        omega
    · obtain ⟨e1, e2⟩ := hfin q r hP (by omega) hP2
      subst e1 e2
      refine hret _ _ _ _ _ _ (by k_asm) (cb_drop (by k_asm) (by k_extra "drop")) (by k_extra "lt")
  · refine' Con.use (hrec (by assumption) _ _ _) ?k1 ?k2 ?k3 ?k4 ?k5 ?c1 ?c2 ?k6 ?k7 ?k8 ?_
    k_extra "conds"
    intro D' t1' t2' c' h' tk' F' N' l1
    (try k_lt l1)
    (try k_sweep)
    (try dsimp only)
    k_extra "go"
    rename Fr _ _ _ _ => F1
    rename News _ _ _ _ => N1
    refine wh2 (Str.ofString "q") (Str.ofString "r") (fun q r => q * b + r = A ∧ r < b) (fun _ r => (-r).toNat) F1 N1 rfl rfl (hv2 (by assumption)) ?_
    rintro q r tq tr h' tk' ⟨hP, hP2⟩ F' N'
    k_extra "go"
    · refine ⟨rfl, _, _, _, _, _, _, _, rfl, by k_asm, by k_asm, rfl, rfl, ?_, ⟨?_, ?_⟩, ?_⟩
      · intro z hz1 hz2; simp only [if_neg hz1, if_neg hz2]
      · rw [Int.sub_mul]; omega
      · omega
      · show (-(r + b)).toNat < (-r).toNat
        omega
    · obtain ⟨e1, e2⟩ := hfin q r hP (by omega) hP2
      subst e1 e2
      refine hret _ _ _ _ _ _ (by k_asm) (cb_drop (by k_asm) (by k_extra "drop")) (by k_extra "lt")

end
section
set_option maxHeartbeats 4000000 in
theorem c_div2 (w : World) (mean : ExcName → Option Value) (mg mb : Str → Option Value) (a b n : Int) (t1 t2 t3 : Tok) (d u : Nat) (hb : b ≠ 0)
    (h1 : 0 ≤ n)
    (hp : (intBits a : Int) - n ≤ 4000 → Builtin.divisionGoesByPylong a b = false)
    (hza : (intBits a : Int) + 1 ≤ 2 ^ 27) (hzb : (intBits b : Int) + 1 ≤ 2 ^ 27)
    (he : ¬ (intBits a : Int) - n ≤ 4000 → Builtin.bitAnd n 1 = 0 → ∃ q1 r1 q2 r2, Half w mean mg mb d u a b n (n.fdiv (2 ^ Int.toNat 1)) q1 r1 q2 r2 ∧ Builtin.bitOr (q1 * 2 ^ (n.fdiv (2 ^ Int.toNat 1)).toNat) q2 = a.fdiv b ∧ r2 = a.fmod b)
    (ho : ¬ (intBits a : Int) - n ≤ 4000 → Builtin.bitAnd n 1 ≠ 0 → ∃ q1' r1' q2' r2', Half w mean mg mb d u (a * 2 ^ Int.toNat 1) (b * 2 ^ Int.toNat 1) (n + 1) ((n + 1).fdiv (2 ^ Int.toNat 1)) q1' r1' q2' r2' ∧ Builtin.bitOr (q1' * 2 ^ ((n + 1).fdiv (2 ^ Int.toNat 1)).toNat) q2' = a.fdiv b ∧ r2'.fdiv (2 ^ Int.toNat 1) = a.fmod b) :
    Con w mean mg mb 56 [.int a t1, .int b t2, .int n t3] (d + 1) (u + 3) (Ret2 (a.fdiv b) (a.fmod b)) := by
  k_extra "enter"
  by_cases hc : (intBits a : Int) - n ≤ 4000
  · have hp' := hp hc
    k_extra "go"
    k_extra "ret2"
  · by_cases hc2 : Builtin.bitAnd n 1 = 0
    · obtain ⟨q1, r1, q2, r2, ⟨hh, hn, hz0, hz1, con1, con2⟩, er1, er2⟩ := he hc hc2
      k_extra "go"
      · exact absurd hc2 (by assumption)
      refine' Con.use (con1 _ _ _ _ _ _) ?k1 ?k2 ?k3 ?k4 ?k5 ?c1 ?c2 ?k6 ?k7 ?k8 ?_
      k_extra "conds"
      k_extra "back2"
      refine' Con.use (con2 _ _ _ _ _ _) ?k1 ?k2 ?k3 ?k4 ?k5 ?c1 ?c2 ?k6 ?k7 ?k8 ?_
      k_extra "conds"
      k_extra "back2"
      · exact absurd hc2 (by assumption)
      rw [← er1, ← er2] at hret
      k_extra "ret2"
    · obtain ⟨q1', r1', q2', r2', ⟨hh, hn, hz0, hz1, con1, con2⟩, er1, er2⟩ := ho hc hc2
      k_extra "go"
      rotate_left
      · exact absurd (by assumption) hc2
      refine' Con.use (con1 _ _ _ _ _ _) ?k1 ?k2 ?k3 ?k4 ?k5 ?c1 ?c2 ?k6 ?k7 ?k8 ?_
      k_extra "conds"
      k_extra "back2"
      refine' Con.use (con2 _ _ _ _ _ _) ?k1 ?k2 ?k3 ?k4 ?k5 ?c1 ?c2 ?k6 ?k7 ?k8 ?_
      k_extra "conds"
      k_extra "back2"
      rotate_left
      · exact absurd (by assumption) hc2
      rw [← er1, ← er2] at hret
      k_extra "ret2"

end
section
theorem bitOr_nat {x y : Int} (hx : 0 ≤ x) (hy : 0 ≤ y) : Builtin.bitOr x y = ((x.toNat ||| y.toNat : Nat) : Int) := by
  have h1 : ¬ (0 ≤ Builtin.bitNot x) := by show ¬ (0 ≤ -x - 1); omega
  have h2 : ¬ (0 ≤ Builtin.bitNot y) := by show ¬ (0 ≤ -y - 1); omega
  have e : ∀ z : Int, Builtin.bitNot (Builtin.bitNot z) = z := fun z => by show -(-z - 1) - 1 = z; omega
  unfold Builtin.bitOr Builtin.bitAnd
  simp only [decide_eq_false h1, decide_eq_false h2, e]
theorem bitOr_shift {x y : Int} {k : Nat} (hx : 0 ≤ x) (hy : 0 ≤ y) (hk : y < 2 ^ k) : Builtin.bitOr (x * 2 ^ k) y = x * 2 ^ k + y := by
  have hp : (0 : Int) ≤ 2 ^ k := Int.le_of_lt (kbt_pos k)
  rw [bitOr_nat (Int.mul_nonneg hx hp) hy]
  have e1 : (x * 2 ^ k).toNat = 2 ^ k * x.toNat := by
    have : x * 2 ^ k = ((2 ^ k * x.toNat : Nat) : Int) := by
      rw [Int.natCast_mul, kbt_cast, Int.toNat_of_nonneg hx, Int.mul_comm]
    rw [this]; exact Int.toNat_natCast _
  have hk' : y.toNat < 2 ^ k := by
    have : ((y.toNat : Nat) : Int) < ((2 ^ k : Nat) : Int) := by rw [kbt_cast, Int.toNat_of_nonneg hy]; exact hk
    omega
  rw [e1, ← Nat.two_pow_add_eq_or_of_lt hk', Int.natCast_add, Int.natCast_mul, kbt_cast, Int.toNat_of_nonneg hx, Int.toNat_of_nonneg hy, Int.mul_comm]
theorem fdiv_pos {a b : Int} (hb : 0 < b) : a.fdiv b = a / b := Int.fdiv_eq_ediv_of_nonneg _ (Int.le_of_lt hb)
theorem fmod_pos {a b : Int} (hb : 0 < b) : a.fmod b = a % b := Int.fmod_eq_emod_of_nonneg _ (Int.le_of_lt hb)
theorem fdiv_two {a : Int} {k : Nat} : a.fdiv (2 ^ k) = a / 2 ^ k := fdiv_pos (kbt_pos k)
theorem div_lt_of {a b c : Int} (hb : 0 < b) (h : a < c * b) : a / b < c := Int.ediv_lt_of_lt_mul hb h
/-- the conditions of _div3n2n, h an exponent -/
structure Pre3 (a12 a3 b b1 b2 : Int) (h : Nat) : Prop where
  h1 : 1 ≤ h
  h2 : h ≤ 10000
  a12n : 0 ≤ a12
  a12l : a12 < b
  a3n : 0 ≤ a3
  a3l : a3 < 2 ^ h
  be : b = b1 * 2 ^ h + b2
  b2n : 0 ≤ b2
  b2l : b2 < 2 ^ h
  b1n : 2 ^ (h - 1) ≤ b1
  b1l : b1 < 2 ^ h
theorem Pre3.facts {a12 a3 b b1 b2 : Int} {h : Nat} (p : Pre3 a12 a3 b b1 b2 h) :
    0 < b1 ∧ 0 < b ∧ b < 2 ^ (h + h) ∧
    (a12.fdiv (2 ^ h) = b1 → (1 * 2 ^ h - 1) * b + (Builtin.bitOr ((a12 - b1 * 2 ^ h + b1) * 2 ^ h) a3 - (1 * 2 ^ h - 1) * b2) = a12 * 2 ^ h + a3 ∧ Builtin.bitOr ((a12 - b1 * 2 ^ h + b1) * 2 ^ h) a3 - (1 * 2 ^ h - 1) * b2 < b) ∧
    ((a12.fdiv b1) * b + (Builtin.bitOr ((a12.fmod b1) * 2 ^ h) a3 - (a12.fdiv b1) * b2) = a12 * 2 ^ h + a3 ∧ Builtin.bitOr ((a12.fmod b1) * 2 ^ h) a3 - (a12.fdiv b1) * b2 < b) ∧
    (a12.fdiv (2 ^ h) ≠ b1 → a12 < b1 * 2 ^ h) ∧
    (0 ≤ a12 - b1 * 2 ^ h + b1 ∨ a12.fdiv (2 ^ h) ≠ b1) := by
  obtain ⟨h1, h2, a12n, a12l, a3n, a3l, be, b2n, b2l, b1n, b1l⟩ := p
  have hP := kbt_pos h
  have hP1 := kbt_pos (h - 1)
  have e2 : (2 : Int) ^ (h + h) = 2 ^ h * 2 ^ h := Int.pow_add 2 h h
  rw [e2]
  have hb1 : 0 < b1 := by omega
  rw [fdiv_two, fdiv_pos hb1, fmod_pos hb1]
  have hor : ∀ x : Int, 0 ≤ x → Builtin.bitOr (x * 2 ^ h) a3 = x * 2 ^ h + a3 := fun x hx => bitOr_shift hx a3n a3l
  generalize (2 : Int) ^ h = P at *
  have hm : 0 < b1 * P := Int.mul_pos hb1 hP
  have hb : 0 < b := by omega
  have hq := Int.mul_ediv_add_emod a12 b1
  have hr0 := Int.emod_nonneg a12 (Int.ne_of_gt hb1)
  have hr1 := Int.emod_lt_of_pos a12 hb1
  have hq0 : 0 ≤ a12 / b1 := Int.ediv_nonneg a12n (Int.le_of_lt hb1)
  refine ⟨hb1, hb, ?_, ?_, ?_, ?_, ?_⟩
  · have : (b1 + 1) * P ≤ P * P := Int.mul_le_mul_of_nonneg_right (by omega) (Int.le_of_lt hP)
    rw [Int.add_mul] at this
    omega
  · intro hd
    have h3 := Int.mul_ediv_add_emod a12 P
    have h4 := Int.emod_nonneg a12 (Int.ne_of_gt hP)
    rw [hd, Int.mul_comm] at h3
    rw [hor _ (by omega)]
    have hl : a12 * P + P ≤ b * P := by
      have : (a12 + 1) * P ≤ b * P := Int.mul_le_mul_of_nonneg_right (by omega) (Int.le_of_lt hP)
      rw [Int.add_mul] at this; omega
    have e : (1 * P - 1) * b + ((a12 - b1 * P + b1) * P + a3 - (1 * P - 1) * b2) = a12 * P + a3 := by
      subst be
      simp only [Int.add_mul, Int.sub_mul, Int.mul_add, Int.mul_sub, Int.one_mul]
      have : P * (b1 * P) = b1 * P * P := Int.mul_comm _ _
      omega
    refine ⟨e, ?_⟩
    have e3 : (1 * P - 1) * b = b * P - b := by rw [Int.sub_mul, Int.one_mul, Int.one_mul, Int.mul_comm]
    omega
  · rw [hor _ hr0]
    have e : a12 / b1 * b + (a12 % b1 * P + a3 - a12 / b1 * b2) = a12 * P + a3 := by
      have : a12 * P = b1 * (a12 / b1) * P + a12 % b1 * P := by rw [← Int.add_mul, hq]
      rw [this, be, Int.mul_add]
      have e4 : a12 / b1 * (b1 * P) = b1 * (a12 / b1) * P := by rw [← Int.mul_assoc, Int.mul_comm (a12 / b1)]
      omega
    refine ⟨e, ?_⟩
    have h6 : (a12 % b1 + 1) * P ≤ b1 * P := Int.mul_le_mul_of_nonneg_right (by omega) (Int.le_of_lt hP)
    rw [Int.add_mul] at h6
    have h7 : 0 ≤ a12 / b1 * b2 := Int.mul_nonneg hq0 b2n
    omega
  · intro hne
    have h3 := Int.mul_ediv_add_emod a12 P
    have h4 := Int.emod_nonneg a12 (Int.ne_of_gt hP)
    have h5 := Int.emod_lt_of_pos a12 hP
    have : a12 / P < b1 := by
      have : a12 / P < b1 + 1 := div_lt_of hP (by rw [Int.add_mul]; omega)
      omega
    have : (a12 / P + 1) * P ≤ b1 * P := Int.mul_le_mul_of_nonneg_right (by omega) (Int.le_of_lt hP)
    rw [Int.add_mul, Int.mul_comm (a12 / P)] at this
    omega
  · by_cases hd : a12 / P = b1
    · left
      have h3 := Int.mul_ediv_add_emod a12 P
      have h4 := Int.emod_nonneg a12 (Int.ne_of_gt hP)
      rw [hd, Int.mul_comm] at h3
      omega
    · right; exact hd

end
section
structure Pre2 (a b n : Int) : Prop where
  n1 : 1 ≤ n
  n2 : n ≤ 20000
  an : 0 ≤ a
  al : a < b * 2 ^ n.toNat
  bn : 2 ^ (n.toNat - 1) ≤ b
  bl : b < 2 ^ n.toNat
theorem natAbs_lt {a : Int} {k : Nat} (h0 : 0 ≤ a) : a < 2 ^ k ↔ a.natAbs < 2 ^ k := by
  rw [← kbt_cast]
  constructor <;> intro h <;> omega
theorem bits_eq {b : Int} {n : Nat} (h1 : 1 ≤ n) (hb : 2 ^ (n - 1) ≤ b) (hl : b < 2 ^ n) : intBits b = n := by
  have hp := kbt_pos (n - 1)
  have h0 : 0 ≤ b := by omega
  have u : intBits b ≤ n := intBits_le_iff.mpr ((natAbs_lt h0).mp hl)
  have l : ¬ intBits b ≤ n - 1 := fun h => by
    have := (natAbs_lt h0).mpr (intBits_le_iff.mp h)
    omega
  omega
theorem noPylong {a b : Int} (h : intBits a ≤ intBits b + 4000) : Builtin.divisionGoesByPylong a b = false := by
  unfold Builtin.divisionGoesByPylong
  unfold Builtin.Int.intBits at h
  simp only [Bool.and_eq_false_iff, decide_eq_false_iff_not, Nat.not_lt]
  by_cases ha : a = 0
  · simp [ha]
  · by_cases hb : b = 0
    · simp [hb]
    · have e1 : (a == 0) = false := by simpa using ha
      have e2 : (b == 0) = false := by simpa using hb
      simp only [e1, e2, Bool.false_eq_true, if_false] at h ⊢
      omega
theorem Pre2.pylong {a b n : Int} (p : Pre2 a b n) (h : (intBits a : Int) - n ≤ 4000) : Builtin.divisionGoesByPylong a b = false := by
  refine noPylong ?_
  have := bits_eq (b := b) (n := n.toNat) (by have := p.n1; omega) p.bn p.bl
  have := p.n1
  omega
theorem Pre2.bpos {a b n : Int} (p : Pre2 a b n) : 0 < b := by
  have := kbt_pos (n.toNat - 1); have := p.bn; omega
theorem Pre2.abits {a b n : Int} (p : Pre2 a b n) : (intBits a : Int) ≤ 2 * n := by
  have hP := kbt_pos n.toNat
  have h : a < 2 ^ (n.toNat + n.toNat) := by
    have := p.al
    have h2 : b * 2 ^ n.toNat ≤ 2 ^ n.toNat * 2 ^ n.toNat := Int.mul_le_mul_of_nonneg_right (Int.le_of_lt p.bl) (Int.le_of_lt hP)
    rw [Int.pow_add]; omega
  have := intBits_le_iff.mpr ((natAbs_lt p.an).mp h)
  have := p.n1
  omega
theorem Pre2.bbits {a b n : Int} (p : Pre2 a b n) : (intBits b : Int) ≤ n := by
  have := intBits_le_iff.mpr ((natAbs_lt (Int.le_of_lt p.bpos)).mp p.bl)
  have := p.n1
  omega
/-- the two halves of an even n -/
theorem Pre2.halves {a b n : Int} {h : Nat} (p : Pre2 a b n) (hn : n = 2 * (h : Int)) :
    Pre3 (a.fdiv (2 ^ n.toNat)) (Builtin.bitAnd (a.fdiv (2 ^ h)) (1 * 2 ^ h - 1)) b (b.fdiv (2 ^ h)) (Builtin.bitAnd b (1 * 2 ^ h - 1)) h ∧
    a.fdiv (2 ^ n.toNat) * 2 ^ h + Builtin.bitAnd (a.fdiv (2 ^ h)) (1 * 2 ^ h - 1) = a / 2 ^ h ∧
    Pre3 ((a / 2 ^ h) % b) (Builtin.bitAnd a (1 * 2 ^ h - 1)) b (b.fdiv (2 ^ h)) (Builtin.bitAnd b (1 * 2 ^ h - 1)) h ∧
    Builtin.bitOr ((a / 2 ^ h) / b * 2 ^ h) (((a / 2 ^ h) % b * 2 ^ h + Builtin.bitAnd a (1 * 2 ^ h - 1)) / b) = a / b ∧
    ((a / 2 ^ h) % b * 2 ^ h + Builtin.bitAnd a (1 * 2 ^ h - 1)) % b = a % b := by
  have hb := p.bpos
  obtain ⟨n1, n2, an, al, bn, bl⟩ := p
  have hN : n.toNat = h + h := by omega
  have hN1 : n.toNat - 1 = h + (h - 1) := by omega
  rw [hN] at al bl ⊢
  rw [hN1] at bn
  have hP := kbt_pos h
  have hP1 := kbt_pos (h - 1)
  have e2 : (2 : Int) ^ (h + h) = 2 ^ h * 2 ^ h := Int.pow_add 2 h h
  have e3 : (2 : Int) ^ (h + (h - 1)) = 2 ^ h * 2 ^ (h - 1) := Int.pow_add 2 h (h - 1)
  have em : (1 * 2 ^ h - 1 : Int) = 2 ^ h - 1 := by omega
  rw [em, kbt_mask, kbt_mask, kbt_mask, fdiv_two, fdiv_two, fdiv_two, e2]
  rw [e2] at al bl
  rw [e3] at bn
  have hor : ∀ x y : Int, 0 ≤ x → 0 ≤ y → y < 2 ^ h → Builtin.bitOr (x * 2 ^ h) y = x * 2 ^ h + y := fun x y h1 h2 h3 => bitOr_shift h1 h2 h3
  generalize hPe : (2 : Int) ^ h = P at *
  have hb2 := Int.mul_ediv_add_emod b P
  have hb3 := Int.emod_nonneg b (Int.ne_of_gt hP)
  have hb4 := Int.emod_lt_of_pos b hP
  have ha2 := Int.mul_ediv_add_emod a P
  have ha3 := Int.emod_nonneg a (Int.ne_of_gt hP)
  have ha4 := Int.emod_lt_of_pos a hP
  have hb1 : 2 ^ (h - 1) ≤ b / P := (Int.le_ediv_iff_mul_le hP).mpr (by rw [Int.mul_comm]; exact bn)
  have hb1l : b / P < P := div_lt_of hP bl
  have hap : 0 ≤ a / P := Int.ediv_nonneg an (Int.le_of_lt hP)
  have eA : a / (P * P) = a / P / P := (Int.ediv_ediv_of_nonneg (Int.le_of_lt hP)).symm
  have hA2 := Int.mul_ediv_add_emod (a / P) P
  have hA3 := Int.emod_nonneg (a / P) (Int.ne_of_gt hP)
  have hA4 := Int.emod_lt_of_pos (a / P) hP
  have hr0 := Int.emod_nonneg (a / P) (Int.ne_of_gt hb)
  have hr1 := Int.emod_lt_of_pos (a / P) hb
  have hr2 := Int.mul_ediv_add_emod (a / P) b
  have c1 : a / (P * P) < b := div_lt_of (Int.mul_pos hP hP) al
  have hq0 : 0 ≤ a / P / b := Int.ediv_nonneg hap (Int.le_of_lt hb)
  have pre : ∀ x y : Int, 0 ≤ x → x < b → 0 ≤ y → y < P → Pre3 x y b (b / P) (b % P) h := fun x y g1 g2 g3 g4 =>
    ⟨by omega, by omega, g1, g2, g3, by rw [hPe]; exact g4, by rw [hPe, Int.mul_comm]; omega, hb3, by rw [hPe]; exact hb4, hb1, by rw [hPe]; exact hb1l⟩
  refine ⟨pre _ _ (by rw [eA]; exact Int.ediv_nonneg hap (Int.le_of_lt hP)) c1 hA3 hA4, by rw [eA, Int.mul_comm]; omega, pre _ _ hr0 hr1 ha3 ha4, ?_⟩
  generalize a / P % b = r1 at *
  have hx : r1 * P + a % P < P * b := by
    have : (r1 + 1) * P ≤ b * P := Int.mul_le_mul_of_nonneg_right (by omega) (Int.le_of_lt hP)
    rw [Int.add_mul, Int.mul_comm b] at this
    omega
  have hx0 : 0 ≤ r1 * P + a % P := Int.add_nonneg (Int.mul_nonneg hr0 (Int.le_of_lt hP)) ha3
  have hy := Int.mul_ediv_add_emod (r1 * P + a % P) b
  have hy0 := Int.emod_nonneg (r1 * P + a % P) (Int.ne_of_gt hb)
  have hy1 := Int.emod_lt_of_pos (r1 * P + a % P) hb
  have hz0 : 0 ≤ (r1 * P + a % P) / b := Int.ediv_nonneg hx0 (Int.le_of_lt hb)
  have hz1 : (r1 * P + a % P) / b < P := div_lt_of hb hx
  rw [hor _ _ hq0 hz0 hz1]
  have key : (r1 * P + a % P) % b + b * (a / P / b * P + (r1 * P + a % P) / b) = a := by
    have : b * (a / P / b * P) = b * (a / P / b) * P := (Int.mul_assoc _ _ _).symm
    have h9 : P * (a / P) = b * (a / P / b) * P + r1 * P := by rw [← Int.add_mul, hr2, Int.mul_comm]
    rw [Int.mul_add, this]
    omega
  have := kbt_unique hb key hy0 hy1
  exact ⟨this.1.symm, this.2.symm⟩

end
section
variable (w : World) (mean : ExcName → Option Value) (mg mb : Str → Option Value)
/-- _div2n1n, of a level k -/
noncomputable abbrev C2 (k : Nat) : Prop := ∀ (a b n : Int) (t1 t2 t3 : Tok), Pre2 a b n → n ≤ 4000 * 2 ^ k → Con w mean mg mb 56 [.int a t1, .int b t2, .int n t3] (2 * k + 1) (6 * k + 3) (Ret2 (a.fdiv b) (a.fmod b))
theorem intBits_one : intBits 1 = 1 := by decide
theorem con3 {k : Nat} (hC : C2 w mean mg mb k) {a12 a3 b b1 b2 n : Int} {h : Nat} (hn : n = (h : Int)) (hk : n ≤ 4000 * 2 ^ k) (p : Pre3 a12 a3 b b1 b2 h) {A : Int} (hA : a12 * 2 ^ h + a3 = A) (t1 t2 t3 t4 t5 t6 : Tok) :
    Con w mean mg mb 63 [.int a12 t1, .int a3 t2, .int b t3, .int b1 t4, .int b2 t5, .int n t6] (2 * k + 2) (6 * k + 6) (Ret2 (A.fdiv b) (A.fmod b)) := by
  have hN : n.toNat = h := by omega
  obtain ⟨f1, f2, f3, f4, f5, f6, f7⟩ := p.facts
  have hb1 : intBits b1 ≤ h := intBits_le_iff.mpr ((natAbs_lt (Int.le_of_lt f1)).mp p.b1l)
  have hb : intBits b ≤ h + h := intBits_le_iff.mpr ((natAbs_lt (Int.le_of_lt f2)).mp f3)
  have hb2 : intBits b2 ≤ h := intBits_le_iff.mpr ((natAbs_lt p.b2n).mp p.b2l)
  have ha : intBits a12 ≤ h + h := intBits_le_of_natAbs (by have := p.a12n; have := p.a12l; omega) hb
  have hP : intBits ((2 : Int) ^ h) ≤ h + 1 := intBits_le_iff.mpr ((natAbs_lt (Int.le_of_lt (kbt_pos h))).mp (Int.pow_lt_pow_of_lt (by decide) (by omega)))
  have h2 := p.h2
  have h1 := p.h1
  have s1 : intBits (a12 - b1 * 2 ^ h + b1) ≤ 4 * h + 10 := Nat.le_trans (intBits_add_le (intBits_sub_le ha (intBits_mul_le hb1 hP)) hb1) (by omega)
  have s2 : intBits (1 * 2 ^ h - 1 : Int) ≤ h + 10 := Nat.le_trans (intBits_sub_le (by rw [Int.one_mul]; exact hP) (Nat.le_of_eq intBits_one)) (by omega)
  refine c_div3 w mean mg mb a12 a3 b b1 b2 n t1 t2 t3 t4 t5 t6 (2 * k + 1) (6 * k + 3) A (by omega) (by omega) f2 ?_ ?_ ?_ ?_ ?_ ?_ ?_ ?_ ?_
  · rw [intBits_one]; omega
  · rw [hN]; omega
  · have : intBits (a12.fmod b1) ≤ h := intBits_le_of_natAbs (natAbs_fmod_le a12 b1 (Int.ne_of_gt f1)) hb1
    omega
  · omega
  · rw [hN]; exact mulOk (by omega) (by omega)
  · exact mulOk (Nat.le_trans (intBits_fdiv_le ha) (by omega)) (by omega)
  · rw [hN, ← hA]; exact f4
  · rw [hN, ← hA]; exact fun _ => f5
  · rw [hN]
    intro hne t1 t2 t3
    exact hC a12 b1 n t1 t2 t3 ⟨by omega, by omega, p.a12n, by rw [hN]; exact f6 hne, by rw [hN]; exact p.b1n, by rw [hN]; exact p.b1l⟩ hk
theorem Pre2.half {k : Nat} (hC : C2 w mean mg mb k) {a b n m : Int} (p : Pre2 a b n) (hm : m = n / 2) (he : n % 2 = 0) (hk : m ≤ 4000 * 2 ^ k) :
    Half w mean mg mb (2 * k + 2) (6 * k + 6) a b n m ((a / 2 ^ m.toNat).fdiv b) ((a / 2 ^ m.toNat).fmod b) (((a / 2 ^ m.toNat) % b * 2 ^ m.toNat + Builtin.bitAnd a (1 * 2 ^ m.toNat - 1)).fdiv b) (((a / 2 ^ m.toNat) % b * 2 ^ m.toNat + Builtin.bitAnd a (1 * 2 ^ m.toNat - 1)).fmod b) ∧
      Builtin.bitOr ((a / 2 ^ m.toNat).fdiv b * 2 ^ m.toNat) (((a / 2 ^ m.toNat) % b * 2 ^ m.toNat + Builtin.bitAnd a (1 * 2 ^ m.toNat - 1)).fdiv b) = a / b ∧
      ((a / 2 ^ m.toNat) % b * 2 ^ m.toNat + Builtin.bitAnd a (1 * 2 ^ m.toNat - 1)).fmod b = a % b := by
  have n1 := p.n1
  have n2 := p.n2
  have hb := p.bpos
  obtain ⟨g1, g2, g3, g4, g5⟩ := p.halves (h := m.toNat) (by omega)
  have ea : (a / 2 ^ m.toNat).fmod b = (a / 2 ^ m.toNat) % b := fmod_pos hb
  refine ⟨⟨by omega, by omega, by rw [intBits_one]; omega, ?_, fun t1 t2 t3 t4 t5 t6 => con3 w mean mg mb hC (by omega) hk g1 g2 t1 t2 t3 t4 t5 t6, fun t1 t2 t3 t4 t5 t6 => ?_⟩, ?_, ?_⟩
  · have h1 := p.abits
    have h2 : intBits ((a / 2 ^ m.toNat).fdiv b) ≤ intBits a := intBits_fdiv_le (by rw [← fdiv_two]; exact intBits_fdiv_le (Nat.le_refl _))
    omega
  · rw [ea]
    exact con3 w mean mg mb hC (by omega) hk g3 rfl t1 t2 t3 t4 t5 t6
  · rw [fdiv_pos hb, fdiv_pos hb]; exact g4
  · rw [fmod_pos hb]; exact g5
theorem c2 : ∀ k, C2 w mean mg mb k
  | 0 => fun a b n t1 t2 t3 p hk => by
    have n1 := p.n1
    have n2 := p.n2
    have h1 := p.abits
    have h2 := p.bbits
    exact c_div2 w mean mg mb a b n t1 t2 t3 0 0 (Int.ne_of_gt p.bpos) (by omega) p.pylong (by omega) (by omega) (fun h => absurd (by omega) h) (fun h => absurd (by omega) h)
  | k + 1 => fun a b n t1 t2 t3 p hk => by
    have n1 := p.n1
    have n2 := p.n2
    have h1 := p.abits
    have h2 := p.bbits
    have hb := p.bpos
    have hk' : n ≤ 2 * (4000 * 2 ^ k) := by rw [Int.pow_succ] at hk; omega
    have e1 : ∀ x : Int, x.fdiv (2 ^ Int.toNat 1) = x / 2 := fun x => fdiv_two (k := 1)
    refine' c_div2 w mean mg mb a b n t1 t2 t3 (2 * k + 2) (6 * k + 6) (Int.ne_of_gt p.bpos) (by omega) p.pylong (by omega) (by omega) ?he ?ho
    case he =>
      intro hc he
      rw [bitAnd_m1] at he
      have H := p.half w mean mg mb (c2 k) (e1 n) he (by rw [e1]; omega)
      exact ⟨_, _, _, _, H.1, H.2.1.trans (fdiv_pos hb).symm, H.2.2.trans (fmod_pos hb).symm⟩
    case ho =>
      intro hc ho
      rw [bitAnd_m1] at ho
      have e2 : (2 : Int) ^ Int.toNat 1 = 2 := by decide
      have eN : (n + 1).toNat = n.toNat + 1 := by omega
      have eN1 : n.toNat = (n.toNat - 1) + 1 := by omega
      have p' : Pre2 (a * 2 ^ Int.toNat 1) (b * 2 ^ Int.toNat 1) (n + 1) := by
        rw [e2]
        refine ⟨by omega, ?_, by have := p.an; omega, ?_, ?_, ?_⟩
        · omega
        · rw [eN, Int.pow_succ]
          have := p.al
          have : b * 2 * (2 ^ n.toNat * 2) = 4 * (b * 2 ^ n.toNat) := by
            rw [Int.mul_comm b 2, Int.mul_assoc, ← Int.mul_assoc b, Int.mul_comm (b * _) 2]; omega
          have := p.an
          omega
        · rw [eN, Nat.add_sub_cancel, eN1, Int.pow_succ]
          have := p.bn
          omega
        · rw [eN, Int.pow_succ]; have := p.bl; omega
      have H := p'.half w mean mg mb (c2 k) (e1 (n + 1)) (by omega) (by rw [e1]; omega)
      have d1 : a * 2 ^ Int.toNat 1 / (b * 2 ^ Int.toNat 1) = a / b := by rw [e2]; exact Int.mul_ediv_mul_of_pos_left _ _ (by decide)
      have d2 : a * 2 ^ Int.toNat 1 % (b * 2 ^ Int.toNat 1) = a % b * 2 := by rw [e2, Int.mul_comm a, Int.mul_comm b, Int.mul_comm (a % b)]; exact Int.mul_emod_mul_of_pos (a := 2) a b (by decide)
      rw [d1, d2] at H
      refine ⟨_, _, _, _, H.1, H.2.1.trans (fdiv_pos hb).symm, ?_⟩
      have e5 : (a % b * 2).fdiv (2 ^ Int.toNat 1) = a % b := by rw [e1]; omega
      exact (congrArg (fun x : Int => x.fdiv (2 ^ Int.toNat 1)) H.2.2).trans (e5.trans (fmod_pos hb).symm)

end
section
/-- the state of a code table: no def made yet, or one -/
inductive TS where
  | no
  | yes (c : Addr) (oc : Obj)
noncomputable def tl (P line col : Nat) : TS → List (Addr × Obj)
  | .no => [(P, tabObj #[])]
  | .yes c oc => [(P, tabObj #[rawInt line, rawInt col, .ref c]), (c, oc)]
noncomputable def TS.ok (qual : Str) : TS → Prop
  | .no => True
  | .yes c oc => 72 < c ∧ ∃ vs t, oc.data = .fields vs ∧ vs[1]? = some (.str qual t)
noncomputable def qI : Str := Str.ofString "_int2digits.<locals>.inner"
noncomputable def qD : Str := Str.ofString "_digits2int.<locals>.inner"
noncomputable abbrev tI (t : TS) : List (Addr × Obj) := tl 65 37 4 t
noncomputable abbrev tD (t : TS) : List (Addr × Obj) := tl 72 52 4 t
/-- the ledger: the two tables, and what is the call's own -/
noncomputable abbrev led (tI' tD' : TS) (news : List (Addr × Obj)) : List (Addr × Obj) := tI tI' ++ (tD tD' ++ news)
noncomputable def subSt (i j : Nat) : Stmt := (dB i).getD j (.Pass ⟨0, 0, 0, 0⟩)
noncomputable def sP (i j : Nat) : Arguments := match subSt i j with | .FunctionDef _ a _ _ _ _ _ _ _ _ => a | _ => noArgs
noncomputable def sB (i j : Nat) : List Stmt := match subSt i j with | .FunctionDef _ _ b _ _ _ _ _ _ _ => b | _ => []
noncomputable def sS (i j : Nat) : Scope := match subSt i j with | .FunctionDef _ _ _ _ _ _ s _ _ _ => s | _ => pw.main.scope
theorem UpdF.app {d : Addr} {o : Obj} : ∀ {pre l : List (Addr × Obj)} {g : Obj → List (Addr × Obj)}, (∀ p ∈ pre, p.1 ≠ d) → UpdF d o l g → UpdF d o (pre ++ l) (fun o' => pre ++ g o')
  | [], _, _, _, h => h
  | p :: _, _, _, hp, h => .tail (hp p (.head _)) (UpdF.app (fun q hq => hp q (.tail _ hq)) h)
theorem tI_ne {t : TS} (h : t.ok qI) : ∀ p ∈ tI t, p.1 ≠ 72 := by
  intro p hp
  cases t with
  | no => rcases List.mem_cons.mp hp with rfl | hp; exact (by decide); cases hp
  | yes c oc =>
    obtain ⟨h1, _⟩ := h
    rcases List.mem_cons.mp hp with rfl | hp
    · show (65 : Nat) ≠ 72; decide
    · rcases List.mem_cons.mp hp with rfl | hp
      · exact Nat.ne_of_gt h1
      · cases hp
theorem tD_ne {t : TS} (h : t.ok qD) : ∀ p ∈ tD t, p.1 ≠ 65 := by
  intro p hp
  cases t with
  | no => rcases List.mem_cons.mp hp with rfl | hp; exact (by decide); cases hp
  | yes c oc =>
    obtain ⟨h1, _⟩ := h
    rcases List.mem_cons.mp hp with rfl | hp
    · show (72 : Nat) ≠ 65; decide
    · rcases List.mem_cons.mp hp with rfl | hp
      · exact Nat.ne_of_gt (Nat.lt_trans (by decide : 65 < 72) h1)
      · cases hp
theorem led_lt {a b : TS} {news : List (Addr × Obj)} {D : Addr} (h : ∀ p ∈ led a b news, p.1 < D) : 72 < D := by
  cases b with
  | no => exact h (72, tabObj #[]) (List.mem_append_right _ (List.mem_append_left _ (.head _)))
  | yes c oc => exact h (72, _) (List.mem_append_right _ (List.mem_append_left _ (.head _)))
/-- a call over a ledger that is given -/
noncomputable abbrev ConN (w : World) (mean : ExcName → Option Value) (mg mb : Str → Option Value) (news : List (Addr × Obj)) (f : Addr) (vs : List Value) (d u : Nat)
    (P : Heap → Addr → (Str → Option Value) → Shared → (Value → Shared → Prop) → Prop) : Prop :=
  ∀ (dp un : Nat) (gd : Option (List Code)) (cn : Str) (cs : Scope) (a : Addr) (ccd : Value) (cl : List (Str × Addr)) (outer : List Env) (A₀ : Around) (base h₀ : Heap) (L : Addr) (m : Str → Option Value) (s : Shared) (Q E : Value → Shared → Prop),
    Below A₀ base outer h₀ → Fr h₀ L s.heap m → (KF w.params).In h₀ → News h₀ L s.heap news → Top topProg looseT mean mg mb h₀ → CodeHd base 69 65 → CodeHd base 76 72 → cs.kind = .function →
    dp + d < recursionLimit → un + u < cLine → P h₀ L m s Q →
    wpAny (model pr w) (ktrTop dp un gd cn cs L a ccd cl outer) (call (.ref f) vs) Q E s
theorem ConN.use {w : World} {mean : ExcName → Option Value} {mg mb : Str → Option Value} {news : List (Addr × Obj)} {f : Addr} {vs : List Value} {d u : Nat} {P : Heap → Addr → (Str → Option Value) → Shared → (Value → Shared → Prop) → Prop} {dp un : Nat} {gd : Option (List Code)} {cn : Str} {cs : Scope} {a : Addr} {ccd : Value} {cl : List (Str × Addr)} {outer : List Env} {A₀ : Around} {base h₀ : Heap} {L : Addr} {m : Str → Option Value} {s : Shared} {Q E : Value → Shared → Prop}
    (C : ConN w mean mg mb news f vs d u P) (B : Below A₀ base outer h₀) (F : Fr h₀ L s.heap m) (X : (KF w.params).In h₀) (N : News h₀ L s.heap news) (T : Top topProg looseT mean mg mb h₀) (C1 : CodeHd base 69 65) (C2 : CodeHd base 76 72) (hk : cs.kind = .function)
    (hd : dp + d < recursionLimit) (hu : un + u < cLine) (hP : P h₀ L m s Q) : wpAny (model pr w) (ktrTop dp un gd cn cs L a ccd cl outer) (call (.ref f) vs) Q E s :=
  C _ _ _ _ _ _ _ _ _ _ _ _ _ _ _ _ _ B F X N T C1 C2 hk hd hu hP
/-- it gives back an int, the ledger as it was -/
noncomputable abbrev RetI (v : Int) (news : List (Addr × Obj)) (h₀ : Heap) (L : Addr) (m : Str → Option Value) (s : Shared) (Q : Value → Shared → Prop) : Prop :=
  ∀ (t : Tok) (h' : Heap) (tk' : Nat), Fr h₀ L h' m → News h₀ L h' news → Q (.int v t) { s with heap := h', toks := tk' }
/-- it gives back None, over another ledger -/
noncomputable abbrev RetN (news' : List (Addr × Obj)) (h₀ : Heap) (L : Addr) (m : Str → Option Value) (s : Shared) (Q : Value → Shared → Prop) : Prop :=
  ∀ (h' : Heap) (tk' : Nat), Fr h₀ L h' m → News h₀ L h' news' → Q .none { s with heap := h', toks := tk' }
section
variable {prog : Program} {w : World} {A : Around} {E : Value → Shared → Prop} {s : Shared} {h₀ : Heap} {L : Addr} {news : List (Addr × Obj)}
theorem intsGet {vs : List Value} {ns : List Int} (h : IntsAre vs ns) (i : Nat) (hi : i < ns.length) : ∃ t, vs[i]? = some (.int (ns.getD i 0) t) := by
  have hl : vs.length = ns.length := h.length
  have : vs[i]? = some vs[i] := List.getElem?_eq_getElem (by omega)
  obtain ⟨t, e⟩ := h.int_at i _ this
  exact ⟨t, by rw [this, e]⟩
theorem item_L {value slice : Expr} {l : Addr} {vs : List Value} {ns : List Int} {x : Int} {u : Tok} {ep : Nat} {Q : Value → Shared → Prop} (N : News h₀ L s.heap news) (hm : (l, listOf vs.toArray ep) ∈ news) (hi : IntsAre vs ns)
    (h0 : 0 ≤ x) (h1 : x < (ns.length : Int)) (h63 : ns.length < 2 ^ 63) (h : ∀ t, Q (.int (ns.getD x.toNat 0) t) s)
    (hs : subscripted slice false (.ref l) (.int x u) = operate [.ref l, .int x u] (getItem (.ref l) (.int x u)) := by with_unfolding_all rfl) :
    wpAny (model prog w) A (subscriptTail value slice (.ref l) (.int x u)) Q E s := by
  obtain ⟨t, e⟩ := intsGet hi x.toNat (by omega)
  have hL := N.isList hm
  exact tail_any hL.typeIs slot_list_getitem.lookup (wpAny_getItem_list hL h0 (by omega) (by simpa using e) (h t)) hs
end
/-- it gives back an int; the tables may have grown -/
noncomputable abbrev RetTI (v : Int) (rest : List (Addr × Obj)) (h₀ : Heap) (L : Addr) (m : Str → Option Value) (s : Shared) (Q : Value → Shared → Prop) : Prop :=
  ∀ (t : Tok) (a b : TS) (h' : Heap) (tk' : Nat), a.ok qI → b.ok qD → Fr h₀ L h' m → News h₀ L h' (led a b rest) → Q (.int v t) { s with heap := h', toks := tk' }
/-- no table's place -/
noncomputable def Hi (a : Addr) : Prop := a ≠ 65 ∧ a ≠ 72
theorem hi_of {a : Addr} (h : 72 < a) : Hi a := ⟨Nat.ne_of_gt (Nat.lt_trans (by decide : 65 < 72) h), Nat.ne_of_gt h⟩
noncomputable abbrev ConT (w : World) (mean : ExcName → Option Value) (mg mb : Str → Option Value) (rest : List (Addr × Obj)) (f : Addr) (vs : List Value) (d u : Nat)
    (P : List (Addr × Obj) → Heap → Addr → (Str → Option Value) → Shared → (Value → Shared → Prop) → Prop) : Prop :=
  ∀ a b : TS, a.ok qI → b.ok qD → (∀ p ∈ rest, Hi p.1) → ConN w mean mg mb (led a b rest) f vs d u (P rest)
theorem tl_mem {P line col : Nat} {c : Addr} {oc : Obj} : (P, tabObj #[rawInt line, rawInt col, .ref c]) ∈ tl P line col (.yes c oc) ∧ (c, oc) ∈ tl P line col (.yes c oc) := ⟨.head _, .tail _ (.head _)⟩
theorem led_ne {a : TS} {c' k L : Addr} {oc : Obj} {rest : List (Addr × Obj)} (h : ∀ p ∈ led a .no rest, p.1 < L) (hc : c' ≠ k) (hk : L ≤ k) : ∀ p ∈ led a (.yes c' oc) rest, p.1 ≠ k := by
  have h72 := led_lt h
  intro p hp
  rcases List.mem_append.mp hp with hp | hp
  · exact Nat.ne_of_lt (Nat.lt_of_lt_of_le (h p (List.mem_append_left _ hp)) hk)
  · rcases List.mem_append.mp hp with hp | hp
    · rcases List.mem_cons.mp hp with rfl | hp
      · exact Nat.ne_of_lt (Nat.lt_of_lt_of_le h72 hk)
      · rcases List.mem_cons.mp hp with rfl | hp
        · exact hc
        · cases hp
    · exact Nat.ne_of_lt (Nat.lt_of_lt_of_le (h p (List.mem_append_right _ (List.mem_append_right _ hp))) hk)
/-- the tables of the first def, grown by one -/
theorem led_sub {a : TS} {c' : Addr} {oc : Obj} {rest Y : List (Addr × Obj)} (h1 : (c', oc) ∈ Y) (h2 : (72, tabObj #[rawInt (52 : Nat), rawInt (4 : Nat), .ref c']) ∈ Y) (h3 : ∀ p ∈ tI a, p ∈ Y) (h4 : ∀ p ∈ rest, p ∈ Y) : ∀ p ∈ led a (.yes c' oc) rest, p ∈ Y := by
  intro p hp
  rcases List.mem_append.mp hp with hp | hp
  · exact h3 p hp
  · rcases List.mem_append.mp hp with hp | hp
    · rcases List.mem_cons.mp hp with rfl | hp
      · exact h2
      · rcases List.mem_cons.mp hp with rfl | hp
        · exact h1
        · cases hp
    · exact h4 p hp
section
variable {prog : Program} {w : World} {A : Around} {E : Value → Shared → Prop} {s : Shared} {h₀ : Heap} {L : Addr} {news : List (Addr × Obj)} {l : Addr} {vs : List Value} {ns : List Int} {ep : Nat}
theorem truthy_L {Q : Bool → Shared → Prop} (N : News h₀ L s.heap news) (hm : (l, listOf vs.toArray ep) ∈ news) (hi : IntsAre vs ns) (hl : ns.length ≤ 1000000) (h : ∀ tk, Q (decide (0 < ns.length)) { s with toks := tk }) : wpAny (model prog w) A (truthy (.ref l)) Q E s := by
  have hL := N.isList hm
  have e : vs.toArray.size = ns.length := by simp [hi.length]
  refine wpAny_truthy_list hL (by omega) ?_
  have e2 : (!vs.toArray.isEmpty) = decide (0 < ns.length) := by
    unfold Array.isEmpty
    rw [e]
    cases ns with
    | nil => rfl
    | cons a r => simp
  rw [e2]
  exact h _
theorem len_L {Q : Value → Shared → Prop} (N : News h₀ L s.heap news) (hm : (l, listOf vs.toArray ep) ∈ news) (hi : IntsAre vs ns) (hl : ns.length ≤ 1000000) (h : ∀ t tk, Q (.int (ns.length : Int) t) { s with toks := tk }) : wpAny (model prog w) A (call (.builtin "len") [.ref l]) Q E s := by
  have hL := N.isList hm
  have e : vs.toArray.size = ns.length := by simp [hi.length]
  refine len_list hL (by omega) ?_
  rw [e]
  exact h _ _
end

end
section
/-- it gives back None; the list of the ledger G holds the ints ns' -/
noncomputable abbrev RetL (ns' : List Int) (G : List Value → List (Addr × Obj)) (h₀ : Heap) (L : Addr) (m : Str → Option Value) (s : Shared) (Q : Value → Shared → Prop) : Prop :=
  ∀ (vs' : List Value) (h' : Heap) (tk' : Nat), IntsAre vs' ns' → Fr h₀ L h' m → News h₀ L h' (G vs') → Q .none { s with heap := h', toks := tk' }
noncomputable abbrev UpdAll (l : Addr) (ep : Nat) (G : List Value → List (Addr × Obj)) : Prop := ∀ vs vs' : List Value, Upd l (listOf vs.toArray ep) (listOf vs'.toArray ep) (G vs) (G vs')
/-- it gives back a new list of the ints ds; the tables may have grown -/
noncomputable abbrev RetTL (ds : List Int) (rest : List (Addr × Obj)) (h₀ : Heap) (L : Addr) (m : Str → Option Value) (s : Shared) (Q : Value → Shared → Prop) : Prop :=
  ∀ (D : Addr) (vs' : List Value) (ep : Nat) (a b : TS) (h' : Heap) (tk' : Nat), IntsAre vs' ds → a.ok qI → b.ok qD → 72 < D → (∀ p ∈ rest, p.1 < D) → Fr h₀ L h' m → News h₀ L h' ((D, listOf vs'.toArray ep) :: led a b rest) → Q (.ref D) { s with heap := h', toks := tk' }
theorem led_neI {b : TS} {c' k L : Addr} {oc : Obj} {rest : List (Addr × Obj)} (h : ∀ p ∈ led .no b rest, p.1 < L) (hc : c' ≠ k) (hk : L ≤ k) : ∀ p ∈ led (.yes c' oc) b rest, p.1 ≠ k := by
  have h65 : 65 < L := h (65, tabObj #[]) (.head _)
  intro p hp
  rcases List.mem_append.mp hp with hp | hp
  · rcases List.mem_cons.mp hp with rfl | hp
    · exact Nat.ne_of_lt (Nat.lt_of_lt_of_le h65 hk)
    · rcases List.mem_cons.mp hp with rfl | hp
      · exact hc
      · cases hp
  · exact Nat.ne_of_lt (Nat.lt_of_lt_of_le (h p (.tail _ hp)) hk)
theorem led_subI {b : TS} {c' : Addr} {oc : Obj} {rest Y : List (Addr × Obj)} (h1 : (c', oc) ∈ Y) (h2 : (65, tabObj #[rawInt (37 : Nat), rawInt (4 : Nat), .ref c']) ∈ Y) (h3 : ∀ p ∈ tD b ++ rest, p ∈ Y) : ∀ p ∈ led (.yes c' oc) b rest, p ∈ Y := by
  intro p hp
  rcases List.mem_append.mp hp with hp | hp
  · rcases List.mem_cons.mp hp with rfl | hp
    · exact h2
    · rcases List.mem_cons.mp hp with rfl | hp
      · exact h1
      · cases hp
  · exact h3 p hp
theorem tDr_ne {b : TS} {rest : List (Addr × Obj)} (h : b.ok qD) (hr : ∀ p ∈ rest, Hi p.1) : ∀ p ∈ tD b ++ rest, p.1 ≠ 65 := by
  intro p hp
  rcases List.mem_append.mp hp with hp | hp
  · exact tD_ne h p hp
  · exact (hr p hp).1
theorem ints_rep {t : Tok} : ∀ k : Nat, (List.replicate k [(0 : Int)]).flatten = List.replicate k 0
  | 0 => rfl
  | k + 1 => by rw [List.replicate_succ, List.flatten_cons, ints_rep (t := t) k]; rfl

end
local macro_rules | `(tactic| walk_at "truthy ref") => `(tactic| (k_here; k_dflt (refine' truthy_L ?k1 ?k2 ?k3 ?k4 ?_; (case k1 => k_asm); (case k2 => first | assumption | k_mem); (case k3 => assumption); (case k4 => first | assumption | omega); k_whole); intro tk'))
local macro_rules | `(tactic| walk_at "call builtin:len") => `(tactic| (k_here; (with_reducible show wpAny _ _ (call (Value.builtin "len") [Value.ref _]) _ _ _); k_dflt (refine' len_L ?k1 ?k2 ?k3 ?k4 ?_; (case k1 => k_asm); (case k2 => first | assumption | k_mem); (case k3 => assumption); (case k4 => first | assumption | omega); k_whole); intro t' tk'))
local macro_rules | `(tactic| walk_at "exec For Name BinOp cons nil") => `(tactic| (k_here; (rename Fr _ _ _ _ => lF'); (with_unfolding_all refine' For_invVF lF' ?k1 ?k2 ?_; (case k1 => exact rfl); (case k2 => exact rfl); k_whole)))
local macro_rules | `(tactic| walk_at "exec For Name Call cons nil") => `(tactic| (k_here; (rename Fr _ _ _ _ => lF'); (with_unfolding_all refine' For_invVF lF' ?k1 ?k2 ?_; (case k1 => exact rfl); (case k2 => exact rfl); k_whole)))
local macro_rules | `(tactic| walk_at "exec For Name Name cons nil") => `(tactic| (k_here; (rename Fr _ _ _ _ => lF'); (with_unfolding_all refine' For_invVF lF' ?k1 ?k2 ?_; (case k1 => exact rfl); (case k2 => exact rfl); k_whole)))
section

noncomputable def dval (n : Nat) : List Int → Int
  | [] => 0
  | d :: r => d + 2 ^ n * dval n r
set_option maxHeartbeats 4000000 in
theorem c_innerD (w : World) (mean : ExcName → Option Value) (mg mb : Str → Option Value) (led : List (Addr × Obj)) (f c' cD cN cI l : Addr) (doc pm ctv : Value) (oD oN oI oc : Obj) (vc : Array Value) (tq tn : Tok) (ep : Nat) (vs : List Value) (ns : List Int) (n : Int)
    (m1 : (f, fnMade (Str.ofString "inner") qD (sP 9 0) (sB 9 0) (sS 9 0) [(Str.ofString "n", cN), (Str.ofString "inner", cI), (Str.ofString "digits", cD)] doc pm c' ctv) ∈ led)
    (m2 : (c', oc) ∈ led) (e2 : oc.data = .fields vc) (e2' : vc[1]? = some (.str qD tq))
    (m3 : (cD, oD) ∈ led) (e3 : oD.data = .cell (some (.ref l))) (m4 : (cI, oI) ∈ led) (e4 : oI.data = .cell (some (.ref f))) (m5 : (cN, oN) ∈ led) (e5 : oN.data = .cell (some (.int n tn)))
    (m6 : (l, listOf vs.toArray ep) ∈ led) (e6 : IntsAre vs ns) (hn : 0 ≤ n) (hn2 : n ≤ 100000) (hl63 : ns.length < 2 ^ 63) (x y : Int) (t1 t2 : Tok) (hx : 0 ≤ x) (hxy : x < y) (hy : y ≤ ns.length) (d u : Nat) (v v1 v2 : Int)
    (hb : x + 1 = y → ns.getD x.toNat 0 = v)
    (hr1 : x + 1 ≠ y → ∀ t t', ConN w mean mg mb led f [.int ((x + y).fdiv (2 ^ Int.toNat 1)) t, .int y t'] d u (RetI v1 led))
    (hr2 : x + 1 ≠ y → ∀ t t', ConN w mean mg mb led f [.int x t, .int ((x + y).fdiv (2 ^ Int.toNat 1)) t'] d u (RetI v2 led))
    (hm : IntMulOk ((x + y).fdiv (2 ^ Int.toNat 1) - x) n) (hp : 0 ≤ ((x + y).fdiv (2 ^ Int.toNat 1) - x) * n)
    (hz : x + 1 ≠ y → (intBits v1 : Int) + ((x + y).fdiv (2 ^ Int.toNat 1) - x) * n ≤ 2 ^ 27)
    (hv : x + 1 ≠ y → v1 * 2 ^ (((x + y).fdiv (2 ^ Int.toNat 1) - x) * n).toNat + v2 = v) :
    ConN w mean mg mb led f [.int x t1, .int y t2] (d + 1) (u + 3) (RetI v led) := by
  k_extra "enterN"
  by_cases hc : x + 1 = y
  · k_extra "go"
    · rw [hb hc]
      exact hret _ _ _ (by k_asm) (by k_asm)
    · exact absurd hc (by assumption)
  · have hr1' := hr1 hc
    have hr2' := hr2 hc
    have hz' := hz hc
    have hv' := hv hc
    k_extra "go"
    · exact absurd (by assumption) hc
    refine' ConN.use (hr1' _ _) ?k1 ?k2 ?k3 ?k4 ?k5 ?c1 ?c2 ?k6 ?k7 ?k8 ?_
    k_extra "conds"
    intro t' h' tk' F' N'
    (try k_sweep)
    (try dsimp only)
    k_extra "go"
    refine' ConN.use (hr2' _ _) ?k1 ?k2 ?k3 ?k4 ?k5 ?c1 ?c2 ?k6 ?k7 ?k8 ?_
    k_extra "conds"
    intro t' h' tk' F' N'
    (try k_sweep)
    (try dsimp only)
    k_extra "go"
    rw [hv']
    exact hret _ _ _ (by k_asm) (by k_asm)

end
section
theorem dval_append (n : Nat) : ∀ a b : List Int, dval n (a ++ b) = dval n a + 2 ^ (n * a.length) * dval n b
  | [], b => by simp [dval]
  | d :: r, b => by
    rw [List.cons_append, dval, dval_append n r b, dval, List.length_cons, Nat.mul_succ, Nat.add_comm, Int.pow_add, Int.mul_add, Int.mul_assoc]
    omega
theorem dval_bits (n M : Nat) : ∀ l : List Int, (∀ v ∈ l, intBits v ≤ M) → intBits (dval n l) ≤ M + (n + 2) * l.length
  | [], _ => by simp [dval, Builtin.Int.intBits]
  | d :: r, h => by
    have h1 := dval_bits n M r fun v hv => h v (.tail _ hv)
    have hP : intBits ((2 : Int) ^ n) ≤ n + 1 := intBits_le_iff.mpr ((natAbs_lt (Int.le_of_lt (kbt_pos n))).mp (Int.pow_lt_pow_of_lt (by decide) (by omega)))
    have h2 := intBits_add_le (h d (.head _)) (intBits_mul_le hP h1)
    rw [dval, List.length_cons, Nat.mul_succ]
    refine Nat.le_trans h2 ?_
    omega
/-- the digits from x to y -/
noncomputable def seg (ns : List Int) (x y : Nat) : List Int := (ns.drop x).take (y - x)
theorem seg_len {ns : List Int} {x y : Nat} (h1 : x ≤ y) (h2 : y ≤ ns.length) : (seg ns x y).length = y - x := by
  unfold seg; rw [List.length_take, List.length_drop]; omega
theorem seg_split {ns : List Int} {x z y : Nat} (h1 : x ≤ z) (h2 : z ≤ y) : seg ns x y = seg ns x z ++ seg ns z y := by
  unfold seg
  have : y - x = (z - x) + (y - z) := by omega
  rw [this, List.take_add, List.drop_drop, show x + (z - x) = z by omega]
theorem seg_one {ns : List Int} {x : Nat} (h : x < ns.length) : seg ns x (x + 1) = [ns.getD x 0] := by
  unfold seg
  rw [show x + 1 - x = 1 by omega, List.getD_eq_getElem?_getD, List.getElem?_eq_getElem h, List.drop_eq_getElem_cons h]
  rfl
theorem seg_mem {ns : List Int} {x y : Nat} {v : Int} (h : v ∈ seg ns x y) : v ∈ ns := List.mem_of_mem_drop (List.mem_of_mem_take h)
section
variable (w : World) (mean : ExcName → Option Value) (mg mb : Str → Option Value) (led : List (Addr × Obj)) (f c' cD cN cI l : Addr) (doc pm ctv : Value) (oD oN oI oc : Obj) (vc : Array Value) (tq tn : Tok) (ep : Nat) (vs : List Value) (ns : List Int) (n : Int)
    (m1 : (f, fnMade (Str.ofString "inner") qD (sP 9 0) (sB 9 0) (sS 9 0) [(Str.ofString "n", cN), (Str.ofString "inner", cI), (Str.ofString "digits", cD)] doc pm c' ctv) ∈ led)
    (m2 : (c', oc) ∈ led) (e2 : oc.data = .fields vc) (e2' : vc[1]? = some (.str qD tq))
    (m3 : (cD, oD) ∈ led) (e3 : oD.data = .cell (some (.ref l))) (m4 : (cI, oI) ∈ led) (e4 : oI.data = .cell (some (.ref f))) (m5 : (cN, oN) ∈ led) (e5 : oN.data = .cell (some (.int n tn)))
    (m6 : (l, listOf vs.toArray ep) ∈ led) (e6 : IntsAre vs ns) (hn : 0 ≤ n) (hn2 : n ≤ 100000) (hl : ns.length ≤ 1000)
    (M : Nat) (hM : M ≤ 10000000) (hb : ∀ v ∈ ns, intBits v ≤ M) (hs : n * ns.length ≤ 10000000)
include m1 m2 e2 e2' m3 e3 m4 e4 m5 e5 m6 e6 hn hn2 hl hM hb hs
theorem c_innerD_all : ∀ (k : Nat) (x y : Nat) (t1 t2 : Tok), x < y → y ≤ ns.length → y - x ≤ 2 ^ k →
    ConN w mean mg mb led f [.int (x : Int) t1, .int (y : Int) t2] (k + 1) (3 * k + 3) (RetI (dval n.toNat (seg ns x y)) led) := by
  intro k
  have base : ∀ x y : Nat, x < y → y ≤ ns.length → (x : Int) + 1 = y → ns.getD (x : Int).toNat 0 = dval n.toNat (seg ns x y) := by
    intro x y h1 h2 h3
    have : y = x + 1 := by omega
    subst this
    rw [seg_one (by omega), Int.toNat_natCast]
    simp [dval]
  have mid : ∀ x y : Nat, ((x : Int) + y).fdiv (2 ^ Int.toNat 1) = (((x + y) / 2 : Nat) : Int) := by
    intro x y
    rw [show Int.toNat 1 = 1 from rfl, fdiv_two]
    omega
  have ok : ∀ x y : Nat, x < y → y ≤ ns.length → IntMulOk (((x : Int) + y).fdiv (2 ^ Int.toNat 1) - x) n ∧ 0 ≤ (((x : Int) + y).fdiv (2 ^ Int.toNat 1) - x) * n := by
    intro x y h1 h2
    rw [mid]
    have h3 : (0 : Int) ≤ (((x + y) / 2 : Nat) : Int) - x := by omega
    exact ⟨.of_left (intBits_le_64 (by omega) (by omega)), Int.mul_nonneg h3 hn⟩
  induction k with
  | zero =>
    intro x y t1 t2 hxy hy hk
    exact c_innerD w mean mg mb led f c' cD cN cI l doc pm ctv oD oN oI oc vc tq tn ep vs ns n m1 m2 e2 e2' m3 e3 m4 e4 m5 e5 m6 e6 hn hn2 (by omega) x y t1 t2 (by omega) (by omega) (by omega) 0 0 _ 0 0 (base x y hxy hy) (fun h => absurd (by omega) h) (fun h => absurd (by omega) h) (ok x y hxy hy).1 (ok x y hxy hy).2 (fun h => absurd (by omega) h) (fun h => absurd (by omega) h)
  | succ k ih =>
    intro x y t1 t2 hxy hy hk
    have hk' : y - x ≤ 2 * 2 ^ k := by rw [Nat.pow_succ] at hk; omega
    refine c_innerD w mean mg mb led f c' cD cN cI l doc pm ctv oD oN oI oc vc tq tn ep vs ns n m1 m2 e2 e2' m3 e3 m4 e4 m5 e5 m6 e6 hn hn2 (by omega) x y t1 t2 (by omega) (by omega) (by omega) (k + 1) (3 * k + 3) _ (dval n.toNat (seg ns ((x + y) / 2) y)) (dval n.toNat (seg ns x ((x + y) / 2))) (base x y hxy hy) (fun h t t' => ?_) (fun h t t' => ?_) (ok x y hxy hy).1 (ok x y hxy hy).2 (fun h => ?_) (fun h => ?_)
    · rw [mid]
      exact ih ((x + y) / 2) y t t' (by omega) hy (by omega)
    · rw [mid]
      exact ih x ((x + y) / 2) t t' (by omega) (by omega) (by omega)
    · rw [mid]
      have h1 := dval_bits n.toNat M (seg ns ((x + y) / 2) y) fun v hv => hb v (seg_mem hv)
      rw [seg_len (by omega) hy] at h1
      have e : (((x + y) / 2 : Nat) : Int) - x = (((x + y) / 2 - x : Nat) : Int) := by omega
      rw [e]
      have h2 : (n.toNat + 2) * (y - (x + y) / 2) ≤ n.toNat * ns.length + 2 * ns.length := by
        rw [Nat.add_mul]
        exact Nat.add_le_add (Nat.mul_le_mul_left _ (by omega)) (by omega)
      have h3 : ((n.toNat * ns.length : Nat) : Int) = n * ns.length := by rw [Int.natCast_mul, Int.toNat_of_nonneg hn]
      have h4 : (((x + y) / 2 - x : Nat) : Int) * n ≤ ns.length * n := Int.mul_le_mul_of_nonneg_right (by omega) hn
      rw [Int.mul_comm _ n] at h4
      rw [Int.mul_comm _ n]
      have h5 := Int.mul_comm (ns.length : Int) n
      omega
    · rw [mid]
      have e : (((x + y) / 2 : Nat) : Int) - x = (((x + y) / 2 - x : Nat) : Int) := by omega
      have e2 : ((((x + y) / 2 - x : Nat) : Int) * n).toNat = n.toNat * ((x + y) / 2 - x) := by
        have : (((x + y) / 2 - x : Nat) : Int) * n = ((n.toNat * ((x + y) / 2 - x) : Nat) : Int) := by
          rw [Int.natCast_mul, Int.toNat_of_nonneg hn, Int.mul_comm]
        rw [this, Int.toNat_natCast]
      rw [e, e2, seg_split (ns := ns) (x := x) (z := (x + y) / 2) (y := y) (by omega) (by omega), dval_append, seg_len (by omega) (by omega), Int.mul_comm]
      omega
end

end
section

local macro_rules | `(tactic| walk_at "setItem ref int") => `(tactic| (k_here; k_dflt (refine' ksa_set ?k1 ?k2 ((?k3 : UpdAll _ _ _) _ _) ?k4 ?k5 ?k6 ?k7 ?_; (case k3 => assumption); (case k1 => k_asm); (case k2 => k_asm); (case k4 => assumption); (case k5 => first | assumption | omega); (case k6 => first | assumption | omega); (case k7 => first | assumption | omega); k_whole); intro h' F' N'))
set_option maxHeartbeats 1000000 in
theorem c_innerI (w : World) (mean : ExcName → Option Value) (mg mb : Str → Option Value) (G : List Value → List (Addr × Obj)) (f c' cA cN cI l : Addr) (doc pm ctv : Value) (oA oN oI oc : Obj) (vc : Array Value) (tq tn : Tok) (ep : Nat) (vs : List Value) (ns : List Int) (n : Int)
    (M1 : ∀ vs, (f, fnMade (Str.ofString "inner") qI (sP 8 1) (sB 8 1) (sS 8 1) [(Str.ofString "n", cN), (Str.ofString "inner", cI), (Str.ofString "a_digits", cA)] doc pm c' ctv) ∈ G vs)
    (M2 : ∀ vs, (c', oc) ∈ G vs) (e2 : oc.data = .fields vc) (e2' : vc[1]? = some (.str qI tq))
    (M3 : ∀ vs, (cA, oA) ∈ G vs) (e3 : oA.data = .cell (some (.ref l))) (M4 : ∀ vs, (cI, oI) ∈ G vs) (e4 : oI.data = .cell (some (.ref f))) (M5 : ∀ vs, (cN, oN) ∈ G vs) (e5 : oN.data = .cell (some (.int n tn)))
    (hU : UpdAll l ep G) (e6 : IntsAre vs ns) (hn : 0 ≤ n) (hn2 : n ≤ 100000) (hl63 : ns.length < 2 ^ 62) (v x y : Int) (t0 t1 t2 : Tok) (hx : 0 ≤ x) (hxy : x < y) (hy : y ≤ ns.length) (d u : Nat) (ns1 ns2 : List Int)
    (hb : x + 1 = y → ns.set x.toNat v = ns2)
    (hr1 : x + 1 ≠ y → ∀ t t' t'', ConN w mean mg mb (G vs) f [.int (Builtin.bitXor v (v.fdiv (2 ^ (((x + y).fdiv (2 ^ Int.toNat 1) - x) * n).toNat) * 2 ^ (((x + y).fdiv (2 ^ Int.toNat 1) - x) * n).toNat)) t, .int x t', .int ((x + y).fdiv (2 ^ Int.toNat 1)) t''] d u (RetL ns1 G))
    (hr2 : x + 1 ≠ y → ∀ vs1, IntsAre vs1 ns1 → ∀ t t' t'', ConN w mean mg mb (G vs1) f [.int (v.fdiv (2 ^ (((x + y).fdiv (2 ^ Int.toNat 1) - x) * n).toNat)) t, .int ((x + y).fdiv (2 ^ Int.toNat 1)) t', .int y t''] d u (RetL ns2 G))
    (hm : IntMulOk ((x + y).fdiv (2 ^ Int.toNat 1) - x) n) (hp : 0 ≤ ((x + y).fdiv (2 ^ Int.toNat 1) - x) * n)
    (hz : (intBits (v.fdiv (2 ^ (((x + y).fdiv (2 ^ Int.toNat 1) - x) * n).toNat)) : Int) + ((x + y).fdiv (2 ^ Int.toNat 1) - x) * n ≤ 2 ^ 27) :
    ConN w mean mg mb (G vs) f [.int v t0, .int x t1, .int y t2] (d + 1) (u + 3) (RetL ns2 G) := by
  have m1 := M1 vs
  have m2 := M2 vs
  have m3 := M3 vs
  have m4 := M4 vs
  have m5 := M5 vs
  k_extra "enterN"
  by_cases hc : x + 1 = y
  · k_extra "go"
    · have hI := ints_set (x := v) (u := t0) e6 x.toNat
      rw [hb hc] at hI
      exact hret _ _ _ hI (by k_asm) (by k_asm)
    · exact absurd hc (by assumption)
  · have hr1' := hr1 hc
    have hr2' := hr2 hc
    k_extra "go"
    · exact absurd (by assumption) hc
    refine' ConN.use (hr1' _ _ _) ?k1 ?k2 ?k3 ?k4 ?k5 ?c1 ?c2 ?k6 ?k7 ?k8 ?_
    k_extra "conds"
    intro vs1 h' tk' hI F' N'
    (try k_sweep)
    have n1 := M1 vs1
    have n2 := M2 vs1
    have n3 := M3 vs1
    have n4 := M4 vs1
    have n5 := M5 vs1
    (try dsimp only)
    k_extra "go"
    refine' ConN.use (hr2' vs1 hI _ _ _) ?k1 ?k2 ?k3 ?k4 ?k5 ?c1 ?c2 ?k6 ?k7 ?k8 ?_
    k_extra "conds"
    intro vs2 h' tk' hI2 F' N'
    (try k_sweep)
    (try dsimp only)
    k_extra "go"
    exact hret _ _ _ hI2 (by k_asm) (by k_asm)

end
section
theorem bitAnd_nat {x y : Int} (hx : 0 ≤ x) (hy : 0 ≤ y) : Builtin.bitAnd x y = ((x.toNat &&& y.toNat : Nat) : Int) := by
  unfold Builtin.bitAnd
  simp only [decide_eq_true hx, decide_eq_true hy]
theorem nat_and_high (v k : Nat) : v &&& (v / 2 ^ k * 2 ^ k) = v / 2 ^ k * 2 ^ k := by
  apply Nat.eq_of_testBit_eq
  intro i
  rw [Nat.testBit_and, Nat.testBit_mul_two_pow]
  by_cases h : k ≤ i
  · simp only [h, decide_true, Bool.true_and, Nat.testBit_div_two_pow]
    rw [show i - k + k = i by omega]
    simp
  · simp [h]
theorem bitXor_low {v : Int} (hv : 0 ≤ v) (k : Nat) : Builtin.bitXor v (v / 2 ^ k * 2 ^ k) = v % 2 ^ k := by
  have hP := kbt_pos k
  have hq : 0 ≤ v / 2 ^ k := Int.ediv_nonneg hv (Int.le_of_lt hP)
  have hy : 0 ≤ v / 2 ^ k * 2 ^ k := Int.mul_nonneg hq (Int.le_of_lt hP)
  have e : (v / 2 ^ k * 2 ^ k).toNat = v.toNat / 2 ^ k * 2 ^ k := by
    have : v / 2 ^ k * 2 ^ k = ((v.toNat / 2 ^ k * 2 ^ k : Nat) : Int) := by
      rw [Int.natCast_mul, Int.natCast_ediv, kbt_cast, Int.toNat_of_nonneg hv]
    rw [this, Int.toNat_natCast]
  rw [bitXor_and, bitAnd_nat hv hy, e, nat_and_high, ← e, Int.toNat_of_nonneg hy]
  have := Int.mul_ediv_add_emod v (2 ^ k)
  rw [Int.mul_comm] at this
  omega
theorem emod_two {P Q : Int} (v : Int) (hP : 0 < P) (hQ : 0 < Q) : v % (P * Q) = P * (v / P % Q) + v % P := by
  have h1 := Int.mul_ediv_add_emod v P
  have h2 := Int.mul_ediv_add_emod (v / P) Q
  have r0 := Int.emod_nonneg v (Int.ne_of_gt hP)
  have r1 := Int.emod_lt_of_pos v hP
  have s0 := Int.emod_nonneg (v / P) (Int.ne_of_gt hQ)
  have s1 := Int.emod_lt_of_pos (v / P) hQ
  refine (kbt_unique (q := v / P / Q) (Int.mul_pos hP hQ) ?_ ?_ ?_).2
  · have : P * (v / P) = P * (Q * (v / P / Q)) + P * (v / P % Q) := by rw [← Int.mul_add, h2]
    rw [Int.mul_assoc]
    omega
  · exact Int.add_nonneg (Int.mul_nonneg (Int.le_of_lt hP) s0) r0
  · have : P * (v / P % Q + 1) ≤ P * Q := Int.mul_le_mul_of_nonneg_left (by omega) (Int.le_of_lt hP)
    rw [Int.mul_add] at this
    omega
/-- the digits of v, the lowest first -/
noncomputable def dg (N : Nat) (v : Int) : Nat → List Int
  | 0 => []
  | k + 1 => (v % 2 ^ N) :: dg N (v / 2 ^ N) k
theorem dg_len (N : Nat) : ∀ (k : Nat) (v : Int), (dg N v k).length = k
  | 0, _ => rfl
  | k + 1, v => by rw [dg, List.length_cons, dg_len N k]
theorem dg_mod (N : Nat) : ∀ (a : Nat) (v : Int) (b : Nat), a ≤ b → dg N (v % 2 ^ (N * b)) a = dg N v a
  | 0, _, _, _ => rfl
  | a + 1, v, b, h => by
    obtain ⟨c, rfl⟩ : ∃ c, b = c + 1 := ⟨b - 1, by omega⟩
    have hP := kbt_pos N
    have hQ := kbt_pos (N * c)
    have e : (2 : Int) ^ (N * (c + 1)) = 2 ^ N * 2 ^ (N * c) := by rw [Nat.mul_succ, Nat.add_comm, Int.pow_add]
    rw [dg, dg, e]
    have r0 := Int.emod_nonneg v (Int.ne_of_gt hP)
    have r1 := Int.emod_lt_of_pos v hP
    have u := kbt_unique (a := v % (2 ^ N * 2 ^ (N * c))) (q := v / 2 ^ N % 2 ^ (N * c)) (r := v % 2 ^ N) hP (by rw [emod_two v hP hQ]; omega) r0 r1
    rw [u.1, u.2, dg_mod N a _ c (by omega)]
theorem dg_split (N : Nat) : ∀ (a b : Nat) (v : Int), dg N v (a + b) = dg N v a ++ dg N (v / 2 ^ (N * a)) b
  | 0, b, v => by simp [dg]
  | a + 1, b, v => by
    have hP := kbt_pos N
    rw [show a + 1 + b = (a + b) + 1 by omega, dg, dg_split N a b, dg, List.cons_append]
    have e : (2 : Int) ^ (N * (a + 1)) = 2 ^ N * 2 ^ (N * a) := by rw [Nat.mul_succ, Nat.add_comm, Int.pow_add]
    rw [e, Int.ediv_ediv_of_nonneg (Int.le_of_lt hP)]
theorem dg_one {N : Nat} {v : Int} (h0 : 0 ≤ v) (h : v < 2 ^ N) : dg N v 1 = [v] := by
  rw [dg, dg, Int.emod_eq_of_lt h0 h]

end
section
open PySem PySem.W PySem.Calls PyProof.Rows PySem.Spec
/-- a frame's map, some names overlaid -/
noncomputable def ovO : List (Str × Option Value) → (Str → Option Value) → Str → Option Value
  | [], m => m
  | p :: r, m => fun z => if z = p.1 then p.2 else ovO r m z
theorem ovO_eq {m m' : Str → Option Value} : ∀ {l : List (Str × Option Value)}, (∀ p ∈ l, m' p.1 = p.2) → (∀ z, (∀ p ∈ l, z ≠ p.1) → m' z = m z) → m' = ovO l m
  | [], _, h => funext fun z => h z fun _ hp => nomatch hp
  | p :: r, h1, h2 => by
    have ih : ∀ z, z ≠ p.1 → m' z = ovO r m z := by
      intro z hz
      have aux : ∀ (l : List (Str × Option Value)), (∀ p ∈ l, m' p.1 = p.2) → ((∀ p ∈ l, z ≠ p.1) → m' z = m z) → m' z = ovO l m z := by
        intro l
        induction l with
        | nil => intro _ h; exact h fun _ hp => nomatch hp
        | cons q t ih =>
          intro g1 g2
          show m' z = if z = q.1 then q.2 else ovO t m z
          by_cases e : z = q.1
          · rw [if_pos e, e]; exact g1 q (.head _)
          · rw [if_neg e]
            exact ih (fun p hp => g1 p (.tail _ hp)) fun g => g2 fun p hp => (List.mem_cons.mp hp).elim (fun h => h ▸ e) (g p)
      exact aux r (fun q hq => h1 q (.tail _ hq)) fun g => h2 z fun q hq => (List.mem_cons.mp hq).elim (fun h => h ▸ hz) (g q)
    funext z
    show m' z = if z = p.1 then p.2 else ovO r m z
    by_cases e : z = p.1
    · rw [if_pos e, e]; exact h1 p (.head _)
    · rw [if_neg e]; exact ih z e
section
variable {prog : Program} {w : World} {A : Around} {E : Value → Shared → Prop} {s : Shared} {env : Env} {h₀ : Heap} {x : Str} {body : List Stmt} {Q : Flow → Shared → Prop}
theorem loopW {I : Addr} {fp wr : List Addr} {n : Nat} {P : Nat → Value → Prop} {St : Nat → Heap → Prop} {m₀ : Str → Option Value} {news : List (Addr × Obj)} (J : Nat → (Str → Option Value) → List (Addr × Obj) → Prop)
    (W : Walks prog w A I fp wr n P St) (hfp : env.locals ∉ fp) (hwr : ∀ b ∈ wr, h₀.get? b = none) (hnw : ∀ p ∈ news, p.1 ∉ wr) (hst : St 0 s.heap) (F : Fr h₀ env.locals s.heap m₀) (N : News h₀ env.locals s.heap news) (h0 : J 0 m₀ news)
    (turn : ∀ i v m₁ news₁ h tk own, i < n → P i v → J i m₁ news₁ → (∀ p ∈ news₁, p.1 ∉ wr) → (∀ p ∈ own, p.1 ∈ fp) → Fr h₀ env.locals h (fun y => if y = x then some v else m₁ y) → News h₀ env.locals h (own ++ news₁) →
      wpAny (model prog w) A (execs body env) (LoopStepU h₀ env.locals wr own (J (i + 1)) { s with heap := h, toks := tk }) E { s with heap := h, toks := tk })
    (done : ∀ h tk m₁ news₁, J n m₁ news₁ → Fr h₀ env.locals h m₁ → News h₀ env.locals h news₁ → Q .next { s with heap := h, toks := tk }) :
    LoopAtV prog w A h₀ env x body Q E (.ref I) s := by
  refine ⟨I, fp, wr, n, P, St, m₀, news, J, rfl, W, hfp, hwr, hnw, hst, F, N, h0, ?_, fun h' tk m' news' F' N' _ hJ => done h' tk m' news' hJ F' N'⟩
  rintro i v m₁ news₁ s₁ own ⟨h, tk, rfl⟩ hi hP hJ hoff hown _ _ _ F₁ N₁
  refine wpAny_mono (turn i v m₁ news₁ h tk own hi hP hJ hoff hown F₁ N₁) (fun f s₂ p => ?_) fun _ _ e => e
  obtain ⟨rfl, r⟩ := p
  exact ⟨rfl, r⟩
theorem loop_rev {I l : Addr} {vs : List Value} {ns : List Int} {ep : Nat} {m₀ : Str → Option Value} {news : List (Addr × Obj)} (J : (Str → Option Value) → Nat → (Str → Option Value) → List (Addr × Obj) → Prop)
    (hh : A.handled = none) (F : Fr h₀ env.locals s.heap m₀) (N : News h₀ env.locals s.heap ((I, revObj l ((vs.length : Int) - 1)) :: news)) (hI : ∀ p ∈ news, p.1 ≠ I) (hl : (l, listOf vs.toArray ep) ∈ news) (hi : IntsAre vs ns) (h0 : J m₀ 0 m₀ news)
    (turn : ∀ i t m₁ news₁ h tk own, i < ns.length → J m₀ i m₁ news₁ → (∀ p ∈ news₁, p.1 ≠ I) → (∀ p ∈ own, p.1 = I ∨ p.1 = l) → Fr h₀ env.locals h (fun y => if y = x then some (.int (ns.reverse.getD i 0) t) else m₁ y) → News h₀ env.locals h (own ++ news₁) →
      wpAny (model prog w) A (execs body env) (LoopStepU h₀ env.locals [I] own (J m₀ (i + 1)) { s with heap := h, toks := tk }) E { s with heap := h, toks := tk })
    (done : ∀ h tk m₁ news₁, J m₀ ns.length m₁ news₁ → Fr h₀ env.locals h m₁ → News h₀ env.locals h news₁ → Q .next { s with heap := h, toks := tk }) :
    wpAny (model prog w) A (pyIter (.ref I)) (fun it s₂ => LoopAtV prog w A h₀ env x body Q E it s₂) E s := by
  have nI := N _ (.head _)
  have nl := N _ (.tail _ hl)
  have hne : l ≠ I := hI _ hl
  have hit : s.heap.IsRevIter I l ((vs.length : Int) - 1) := ⟨_, nI.1, rfl, rfl⟩
  have hls : s.heap.IsList l vs.toArray := ⟨_, nl.1, rfl, ep, rfl⟩
  refine wpAny_pyIter_revIter hit ?_
  have W := Walks.listRev (prog := prog) (w := w) hh I l hne vs.toArray
  have hlen : vs.toArray.size = ns.length := by simp [hi.length]
  refine loopW (J m₀) W ?_ (fun b hb => ?_) (fun p hp hb => hI p hp (List.mem_singleton.mp hb)) ⟨Nat.zero_le _, ?_, hls⟩ F (fun p hp => N p (.tail _ hp)) h0 ?_ ?_
  · intro hm
    rcases List.mem_cons.mp hm with e | hm
    · exact nI.2.1 e.symm
    · exact nl.2.1 (List.mem_singleton.mp hm).symm
  · rw [List.mem_singleton.mp hb]; exact nI.2.2
  · have e : ((vs.toArray.size : Nat) : Int) - 1 - ((0 : Nat) : Int) = (vs.length : Int) - 1 := by simp
    rw [e]; exact hit
  · intro i v m₁ news₁ h tk own hin hP hJ hoff hown F₁ N₁
    rw [hlen] at hin
    have hx : vs[vs.length - 1 - i]? = some v := by simpa using hP
    obtain ⟨t, rfl⟩ := hi.int_at _ _ hx
    have e2 : ns.reverse.getD i 0 = ns.getD (vs.length - 1 - i) 0 := by
      rw [hi.length, List.getD_eq_getElem?_getD, List.getD_eq_getElem?_getD, List.getElem?_reverse (by omega)]
    rw [← e2] at F₁
    exact turn i t m₁ news₁ h tk own hin hJ (fun p hp e => hoff p hp (List.mem_singleton.mpr e)) (fun p hp => (List.mem_cons.mp (hown p hp)).imp id List.mem_singleton.mp) F₁ N₁
  · intro h tk m₁ news₁ hJ F₁ N₁
    rw [hlen] at hJ
    exact done h tk m₁ news₁ hJ F₁ N₁
end
/-- it gives back a new pair of ints; the tables may have grown -/
noncomputable abbrev RetT2 (q r : Int) (rest : List (Addr × Obj)) (h₀ : Heap) (L : Addr) (m : Str → Option Value) (s : Shared) (Q : Value → Shared → Prop) : Prop :=
  ∀ (D : Addr) (t1 t2 : Tok) (c : Nat) (a b : TS) (h' : Heap) (tk' : Nat), a.ok qI → b.ok qD → 72 < D → (∀ p ∈ rest, p.1 < D) → Fr h₀ L h' m → News h₀ L h' ((D, tup2 (.int q t1) (.int r t2) c) :: led a b rest) → Q (.ref D) { s with heap := h', toks := tk' }
noncomputable abbrev AppAll (D : Addr) (G : List Value → Nat → List (Addr × Obj)) : Prop := ∀ (vs : List Value) (ep : Nat) (vs' : List Value) (ep' : Nat), Upd D (listOf vs.toArray ep) (listOf vs'.toArray ep') (G vs ep) (G vs' ep')
section
variable {prog : Program} {w : World} {A : Around} {E : Value → Shared → Prop} {s : Shared} {h₀ : Heap} {L D : Addr} {m : Str → Option Value} {G : List Value → Nat → List (Addr × Obj)} {vs : List Value} {ep : Nat}
theorem append_L {x : Value} {Q : Value → Shared → Prop} (F : Fr h₀ L s.heap m) (N : News h₀ L s.heap (G vs ep)) (U : AppAll D G) (hsz : vs.length ≤ 1000000)
    (h : ∀ h', Fr h₀ L h' m → News h₀ L h' (G (vs ++ [x]) (ep + 1)) → Q .none { s with heap := h' }) : wpAny (model prog w) A (call (.builtin "list.append") [.ref D, x]) Q E s := by
  have e : vs.toArray.push x = (vs ++ [x]).toArray := by simp
  refine append_K F N (n := ep) (news' := G (vs ++ [x]) (ep + 1)) (by rw [e]; exact U _ _ _ _) h ?_
  rw [sizeLine_eq, List.size_toArray]
  omega
end
theorem ints_snoc {vs : List Value} {ns : List Int} (h : IntsAre vs ns) (n : Int) (t : Tok) : IntsAre (vs ++ [.int n t]) (ns ++ [n]) := h.append (.cons n t .nil)
theorem Upd.app {d : Addr} {o o' : Obj} : ∀ {pre l l' : List (Addr × Obj)}, (∀ p ∈ pre, p.1 ≠ d) → Upd d o o' l l' → Upd d o o' (pre ++ l) (pre ++ l')
  | [], _, _, _, h => h
  | p :: _, _, _, hp, h => .tail (hp p (.head _)) (Upd.app (fun q hq => hp q (.tail _ hq)) h)
/-- schoolbook: the digits from the highest on -/
noncomputable def dstep (N : Nat) (b : Int) (p : List Int × Int) (d : Int) : List Int × Int := (p.1 ++ [(p.2 * 2 ^ N + d).fdiv b], (p.2 * 2 ^ N + d).fmod b)
noncomputable def dstate (N : Nat) (b : Int) (ds : List Int) (i : Nat) : List Int × Int := (ds.take i).foldl (dstep N b) ([], 0)
theorem dstate_succ (N : Nat) (b : Int) (ds : List Int) (i : Nat) (h : i < ds.length) : dstate N b ds (i + 1) = dstep N b (dstate N b ds i) (ds.getD i 0) := by
  unfold dstate
  rw [List.take_add_one, List.getElem?_eq_getElem h, List.foldl_append, List.getD_eq_getElem?_getD, List.getElem?_eq_getElem h]
  rfl
theorem dstate_len (N : Nat) (b : Int) (ds : List Int) : ∀ i, i ≤ ds.length → (dstate N b ds i).1.length = i
  | 0, _ => by simp [dstate]
  | i + 1, h => by
    rw [dstate_succ N b ds i h, dstep]
    simp [dstate_len N b ds i (by omega)]
theorem dstate_rem (N : Nat) {b : Int} (hb : 0 < b) (ds : List Int) : ∀ i, i ≤ ds.length → 0 ≤ (dstate N b ds i).2 ∧ (dstate N b ds i).2 < b
  | 0, _ => by simp [dstate, hb]
  | i + 1, h => by
    rw [dstate_succ N b ds i h, dstep]
    rw [fmod_pos hb]
    exact ⟨Int.emod_nonneg _ (Int.ne_of_gt hb), Int.emod_lt_of_pos _ hb⟩
theorem dg_mem {N : Nat} : ∀ {k : Nat} {v x : Int}, x ∈ dg N v k → 0 ≤ x ∧ x < 2 ^ N
  | 0, _, _, h => nomatch h
  | k + 1, v, x, h => by
    rcases List.mem_cons.mp h with rfl | h
    · exact ⟨Int.emod_nonneg _ (Int.ne_of_gt (kbt_pos N)), Int.emod_lt_of_pos _ (kbt_pos N)⟩
    · exact dg_mem h
section
variable {prog : Program} {w : World} {A : Around} {E : Value → Shared → Prop} {s : Shared} {h₀ : Heap} {L D : Addr} {m : Str → Option Value} {G : List Value → Nat → List (Addr × Obj)} {vs : List Value} {ep : Nat}
theorem reverse_L {Q : Value → Shared → Prop} (F : Fr h₀ L s.heap m) (N : News h₀ L s.heap (G vs ep)) (U : AppAll D G) (hsz : vs.length ≤ 1000000)
    (h : ∀ h', Fr h₀ L h' m → News h₀ L h' (G vs.reverse ep) → Q .none { s with heap := h' }) : wpAny (model prog w) A (call (.builtin "list.reverse") [.ref D]) Q E s :=
  kl_reverse F N (its := vs.toArray) (l := vs.reverse) (by simp) (U _ _ _ _) (by rw [sizeLine_eq]; simp; omega) h
end
noncomputable def hval (N : Nat) (l : List Int) : Int := l.foldl (fun V d => V * 2 ^ N + d) 0
theorem hval_snoc (N : Nat) (l : List Int) (d : Int) : hval N (l ++ [d]) = hval N l * 2 ^ N + d := by unfold hval; rw [List.foldl_append]; rfl
theorem dval_reverse (N : Nat) : ∀ l : List Int, dval N l.reverse = hval N l := by
  have : ∀ l : List Int, hval N l.reverse = dval N l := by
    intro l
    induction l with
    | nil => rfl
    | cons d r ih => rw [List.reverse_cons, hval_snoc, ih, dval, Int.mul_comm]; omega
  intro l
  rw [← this, List.reverse_reverse]
theorem dval_dg (N : Nat) : ∀ (k : Nat) (v : Int), 0 ≤ v → v < 2 ^ (N * k) → dval N (dg N v k) = v
  | 0, v, h0, h => by simp at h; rw [dg, dval]; omega
  | k + 1, v, h0, h => by
    have hP := kbt_pos N
    have h1 : v / 2 ^ N < 2 ^ (N * k) := div_lt_of hP (by rw [← Int.pow_add]; exact (by rw [Nat.mul_succ] at h; exact h))
    rw [dg, dval, dval_dg N k _ (Int.ediv_nonneg h0 (Int.le_of_lt hP)) h1]
    have := Int.mul_ediv_add_emod v (2 ^ N)
    omega
theorem dstate_val (N : Nat) {b : Int} (hb : 0 < b) (hbl : b ≤ 2 ^ N) (ds : List Int) (hd : ∀ d ∈ ds, 0 ≤ d ∧ d < 2 ^ N) : ∀ i, i ≤ ds.length →
    hval N (ds.take i) = b * hval N (dstate N b ds i).1 + (dstate N b ds i).2 ∧ ∀ q ∈ (dstate N b ds i).1, 0 ≤ q ∧ q < 2 ^ N
  | 0, _ => by simp [dstate, hval]
  | i + 1, h => by
    have hP := kbt_pos N
    obtain ⟨ih1, ih2⟩ := dstate_val N hb hbl ds hd i (by omega)
    obtain ⟨r0, r1⟩ := dstate_rem N hb ds i (by omega)
    have hdi : 0 ≤ ds.getD i 0 ∧ ds.getD i 0 < 2 ^ N := by
      rw [List.getD_eq_getElem?_getD, List.getElem?_eq_getElem h]; exact hd _ (List.getElem_mem h)
    have et : ds.take (i + 1) = ds.take i ++ [ds.getD i 0] := by
      rw [List.take_add_one, List.getElem?_eq_getElem h, List.getD_eq_getElem?_getD, List.getElem?_eq_getElem h]; rfl
    rw [dstate_succ N b ds i h, dstep, et, hval_snoc, hval_snoc, ih1, fdiv_pos hb, fmod_pos hb]
    generalize ds.getD i 0 = d at *
    generalize (dstate N b ds i).2 = r at *
    generalize hval N (dstate N b ds i).1 = Q at *
    have hm := Int.mul_ediv_add_emod (r * 2 ^ N + d) b
    refine ⟨?_, ?_⟩
    · rw [Int.mul_add, Int.add_mul, ← Int.mul_assoc]
      omega
    · intro q hq
      rcases List.mem_append.mp hq with hq | hq
      · exact ih2 q hq
      · rw [List.mem_singleton.mp hq]
        have h0 : 0 ≤ r * 2 ^ N + d := Int.add_nonneg (Int.mul_nonneg r0 (Int.le_of_lt hP)) hdi.1
        refine ⟨Int.ediv_nonneg h0 (Int.le_of_lt hb), div_lt_of hb ?_⟩
        have : (r + 1) * 2 ^ N ≤ b * 2 ^ N := Int.mul_le_mul_of_nonneg_right (by omega) (Int.le_of_lt hP)
        rw [Int.add_mul] at this
        have := Int.mul_comm b (2 ^ N)
        omega
theorem pow2_le {k m : Nat} (h : k ≤ m) : (2 : Int) ^ k ≤ 2 ^ m := by
  rcases Nat.lt_or_ge k m with g | g
  · exact Int.le_of_lt (Int.pow_lt_pow_of_lt (by decide) g)
  · rw [Nat.le_antisymm h g]; exact Int.le_refl _
theorem led_mono {a b : TS} {r r' : List (Addr × Obj)} (h : ∀ p ∈ r, p ∈ r') : ∀ p ∈ led a b r, p ∈ led a b r' := fun p hp =>
  (List.mem_append.mp hp).elim (fun q => List.mem_append_left _ q) fun q => (List.mem_append.mp q).elim (fun q => List.mem_append_right _ (List.mem_append_left _ q)) fun q => List.mem_append_right _ (List.mem_append_right _ (h p q))

end
section
open PySem PySem.W PySem.Calls PyProof.Rows PySem.Spec
theorem led_in {a b : TS} {r Y : List (Addr × Obj)} (h1 : ∀ p ∈ led a b [], p ∈ Y) (h2 : ∀ p ∈ r, p ∈ Y) : ∀ p ∈ led a b r, p ∈ Y := fun p hp =>
  (List.mem_append.mp hp).elim (fun q => h1 p (List.mem_append_left _ q)) fun q => (List.mem_append.mp q).elim (fun q => h1 p (List.mem_append_right _ (List.mem_append_left _ q))) fun q => h2 p q
theorem led_nil {a b : TS} {r : List (Addr × Obj)} : ∀ p ∈ led a b [], p ∈ led a b r := led_mono fun _ h => nomatch h
theorem led_r {a b : TS} {r : List (Addr × Obj)} : ∀ p ∈ r, p ∈ led a b r := fun _ hp => List.mem_append_right _ (List.mem_append_right _ hp)
/-- the ledger in its form, from wherever its parts stand -/
theorem led_of {h₀ h : Heap} {L : Addr} {a b : TS} {r Y : List (Addr × Obj)} (N : News h₀ L h Y) (h1 : ∀ p ∈ led a b [], p ∈ Y) (h2 : ∀ p ∈ r, p ∈ Y) : News h₀ L h (led a b r) := kst_newsOf N (led_in h1 h2)
theorem ovO_nil3 {m0 : Str → Option Value} (x y z : Str) : m0 = ovO [(x, m0 x), (y, m0 y), (z, m0 z)] m0 :=
  ovO_eq (List.forall_mem_cons.mpr ⟨rfl, List.forall_mem_cons.mpr ⟨rfl, List.forall_mem_cons.mpr ⟨rfl, fun _ h => nomatch h⟩⟩⟩) (fun _ _ => rfl)
/-- an object that is no code of a table -/
noncomputable def NoCode (o : Obj) : Prop := ∀ vs, o.data = .fields vs → ∀ q t, vs[1]? ≠ some (.str q t)
/-- the loop's iterator stands apart from the ledger, whatever the tables hold -/
theorem led_off {h₀ h : Heap} {L I : Addr} {a b : TS} {own R : List (Addr × Obj)} (N : News h₀ L h (own ++ led a b R)) (hI : ∃ o, (I, o) ∈ own ∧ NoCode o) (oka : a.ok qI) (okb : b.ok qD) (h72 : 72 < I) (hR : ∀ p ∈ R, p.1 ≠ I) : ∀ p ∈ led a b R, p.1 ∉ [I] := by
  obtain ⟨oI, hmI, hn⟩ := hI
  have eI := (N _ (List.mem_append_left _ hmI)).1
  have key : ∀ c oc, (c, oc) ∈ led a b R → (∃ q vs t, oc.data = .fields vs ∧ vs[1]? = some (.str q t)) → c ≠ I := by
    rintro c oc hm ⟨q, vs, t, h1, h2⟩ rfl
    have ec := (N _ (List.mem_append_right _ hm)).1
    rw [eI] at ec
    have := Option.some.inj ec
    dsimp only at this
    subst this
    exact hn vs h1 q t h2
  intro p hp hpI
  have hpI := List.mem_singleton.mp hpI
  rcases List.mem_append.mp hp with q | q
  · cases a with
    | no => rw [List.mem_singleton.mp q] at hpI; exact absurd (show (65 : Nat) = I from hpI) (by have := ltN h72; omega)
    | yes c oc =>
      obtain ⟨h1, vs, t, h2, h3⟩ := oka
      rcases List.mem_cons.mp q with rfl | q
      · exact absurd (show (65 : Nat) = I from hpI) (by have := ltN h72; omega)
      · have e := List.mem_singleton.mp q
        subst e
        exact key c oc hp ⟨_, vs, t, h2, h3⟩ hpI
  · rcases List.mem_append.mp q with q | q
    · cases b with
      | no => rw [List.mem_singleton.mp q] at hpI; exact absurd (show (72 : Nat) = I from hpI) (by have := ltN h72; omega)
      | yes c oc =>
        obtain ⟨h1, vs, t, h2, h3⟩ := okb
        rcases List.mem_cons.mp q with rfl | q
        · exact absurd (show (72 : Nat) = I from hpI) (by have := ltN h72; omega)
        · have e := List.mem_singleton.mp q
          subst e
          exact key c oc hp ⟨_, vs, t, h2, h3⟩ hpI
    · exact hR p q hpI
section
variable {prog : Program} {w : World} {A : Around} {E : Value → Shared → Prop} {s : Shared} {env : Env} {h₀ : Heap} {x : Str} {body : List Stmt} {Q : Flow → Shared → Prop}
theorem loopW2 {I : Addr} {fp wr : List Addr} {n : Nat} {P : Nat → Value → Prop} {St : Nat → Heap → Prop} {m₀ : Str → Option Value} {news : List (Addr × Obj)} (J : Nat → (Str → Option Value) → List (Addr × Obj) → Prop)
    (W : Walks prog w A I fp wr n P St) (hfp : env.locals ∉ fp) (hwr : ∀ b ∈ wr, h₀.get? b = none) (hnw : ∀ p ∈ news, p.1 ∉ wr) (hst : St 0 s.heap) (F : Fr h₀ env.locals s.heap m₀) (N : News h₀ env.locals s.heap news) (h0 : J 0 m₀ news)
    (hC : ∀ i h, St i h → ∃ o, h.get? I = some o ∧ NoCode o) (hIf : I ∈ fp) (hI0 : h₀.get? I = none)
    (turn : ∀ i v m₁ news₁ h tk own, i < n → P i v → J i m₁ news₁ → (∀ p ∈ news₁, p.1 ∉ wr) → (∀ p ∈ own, p.1 ∈ fp) → (∃ o, (I, o) ∈ own ∧ NoCode o) → Fr h₀ env.locals h (fun y => if y = x then some v else m₁ y) → News h₀ env.locals h (own ++ news₁) →
      wpAny (model prog w) A (execs body env) (LoopStepU h₀ env.locals wr own (J (i + 1)) { s with heap := h, toks := tk }) E { s with heap := h, toks := tk })
    (done : ∀ h tk m₁ news₁, J n m₁ news₁ → Fr h₀ env.locals h m₁ → News h₀ env.locals h news₁ → Q .next { s with heap := h, toks := tk }) :
    LoopAtV prog w A h₀ env x body Q E (.ref I) s := by
  refine ⟨I, fp, wr, n, P, St, m₀, news, J, rfl, W, hfp, hwr, hnw, hst, F, N, h0, ?_, fun h' tk m' news' F' N' _ hJ => done h' tk m' news' hJ F' N'⟩
  rintro i v m₁ news₁ s₁ own ⟨h, tk, rfl⟩ hi hP hJ hoff hown _ hall st F₁ N₁
  obtain ⟨o, ho, hc⟩ := hC _ _ st
  refine wpAny_mono (turn i v m₁ news₁ h tk own hi hP hJ hoff hown ⟨o, hall I hIf hI0 o ho, hc⟩ F₁ N₁) (fun f s₂ p => ?_) fun _ _ e => e
  obtain ⟨rfl, r⟩ := p
  exact ⟨rfl, r⟩
theorem loop_list {l : Addr} {vs : List Value} {ns : List Int} {ep : Nat} {m₀ : Str → Option Value} {news : List (Addr × Obj)} (J : (Str → Option Value) → Nat → (Str → Option Value) → List (Addr × Obj) → Prop)
    (hh : A.handled = none) (F : Fr h₀ env.locals s.heap m₀) (N : News h₀ env.locals s.heap news) (hl : (l, listOf vs.toArray ep) ∈ news) (hi : IntsAre vs ns) (h0 : J m₀ 0 m₀ news)
    (turn : ∀ I i t m₁ news₁ h tk own, (∀ p ∈ news, p.1 < I) → (∃ o, (I, o) ∈ own ∧ NoCode o) → i < ns.length → J m₀ i m₁ news₁ → (∀ p ∈ news₁, p.1 ≠ I) → (∀ p ∈ own, p.1 = I ∨ p.1 = l) → Fr h₀ env.locals h (fun y => if y = x then some (.int (ns.getD i 0) t) else m₁ y) → News h₀ env.locals h (own ++ news₁) →
      wpAny (model prog w) A (execs body env) (LoopStepU h₀ env.locals [I] own (J m₀ (i + 1)) { s with heap := h, toks := tk }) E { s with heap := h, toks := tk })
    (done : ∀ h tk m₁ news₁, J m₀ ns.length m₁ news₁ → Fr h₀ env.locals h m₁ → News h₀ env.locals h news₁ → Q .next { s with heap := h, toks := tk }) :
    wpAny (model prog w) A (pyIter (.ref l)) (fun it s₂ => LoopAtV prog w A h₀ env x body Q E it s₂) E s := by
  have nl := N _ hl
  have hls : s.heap.IsList l vs.toArray := ⟨_, nl.1, rfl, ep, rfl⟩
  have hne : l ≠ s.heap.objs.size := Nat.ne_of_lt (Heap.lt_size nl.1)
  have hlt : ∀ p ∈ news, p.1 < s.heap.objs.size := fun p hp => Heap.lt_size (N p hp).1
  refine wpAny_pyIter_list hls ?_
  have W := Walks.list (prog := prog) (w := w) hh s.heap.objs.size l hne vs.toArray
  have hlen : vs.toArray.size = ns.length := by simp [hi.length]
  rw [hlen] at W
  refine loopW2 (J m₀) W ?_ (fun b hb => ?_) (fun p hp hb => Nat.ne_of_lt (hlt p hp) (List.mem_singleton.mp hb)) ⟨⟨_, Heap.get?_push_size _ rfl, rfl, rfl⟩, hls.at fun o e => Heap.get?_push_of_some _ e⟩ (F.push _) (fun p hp => ⟨Heap.get?_push_of_some _ (N p hp).1, (N p hp).2⟩) h0 ?_ (.head _) (next_is_new F) ?_ ?_
  · intro hm
    rcases List.mem_cons.mp hm with e | hm
    · exact absurd F.ns.lt (e ▸ Nat.lt_irrefl _)
    · exact nl.2.1 (List.mem_singleton.mp hm).symm
  · rw [List.mem_singleton.mp hb]; exact next_is_new F
  · rintro i h ⟨⟨o, ho, hc, hd⟩, _⟩
    refine ⟨o, ho, fun vs e q t => ?_⟩
    rw [hd] at e
    cases e
    simp
  · intro i v m₁ news₁ h tk own hin hP hJ hoff hown hC F₁ N₁
    have hx : vs[i]? = some v := by simpa using hP
    obtain ⟨t, rfl⟩ := hi.int_at _ _ hx
    exact turn _ i t m₁ news₁ h tk own hlt hC hin hJ (fun p hp e => hoff p hp (List.mem_singleton.mpr e)) (fun p hp => (List.mem_cons.mp (hown p hp)).imp id List.mem_singleton.mp) F₁ N₁
  · intro h tk m₁ news₁ hJ F₁ N₁
    exact done h tk m₁ news₁ hJ F₁ N₁
theorem loop_range {r : Addr} {b : Int} {n : Nat} {t u v : Tok} {m₀ : Str → Option Value} {news : List (Addr × Obj)} (J : (Str → Option Value) → Nat → (Str → Option Value) → List (Addr × Obj) → Prop)
    (hh : A.handled = none) (F : Fr h₀ env.locals s.heap m₀) (N : News h₀ env.locals s.heap news) (hr : IsRange s.heap r 0 b 1 t u v) (hb : b = n) (hn : n ≤ 100000) (h0 : J m₀ 0 m₀ news)
    (turn : ∀ I i t m₁ news₁ h tk own, (∀ p ∈ news, p.1 < I) → (∃ o, (I, o) ∈ own ∧ NoCode o) → i < n → J m₀ i m₁ news₁ → (∀ p ∈ news₁, p.1 ≠ I) → (∀ p ∈ own, p.1 = I) → Fr h₀ env.locals h (fun y => if y = x then some (.int (i : Int) t) else m₁ y) → News h₀ env.locals h (own ++ news₁) →
      wpAny (model prog w) A (execs body env) (LoopStepU h₀ env.locals [I] own (J m₀ (i + 1)) { s with heap := h, toks := tk }) E { s with heap := h, toks := tk })
    (done : ∀ h tk m₁ news₁, J m₀ n m₁ news₁ → Fr h₀ env.locals h m₁ → News h₀ env.locals h news₁ → Q .next { s with heap := h, toks := tk }) :
    wpAny (model prog w) A (pyIter (.ref r)) (fun it s₂ => LoopAtV prog w A h₀ env x body Q E it s₂) E s := by
  have hlt : ∀ p ∈ news, p.1 < s.heap.objs.size := fun p hp => Heap.lt_size (N p hp).1
  refine wpAny_pyIter_range hr (small_one (by omega) (by omega) (by omega) (by omega)) ?_
  have W := Walks.range (prog := prog) (w := w) hh s.heap.objs.size 0 1 n
  have hsz : Builtin.Range.rangeSize 0 b 1 = (n : Int) := by rw [rangeSize_nat]; omega
  refine loopW2 (J m₀) W ?_ (fun b hb => ?_) (fun p hp hb => Nat.ne_of_lt (hlt p hp) (List.mem_singleton.mp hb)) ?_ (F.push _) (fun p hp => ⟨Heap.get?_push_of_some _ (N p hp).1, (N p hp).2⟩) h0 ?_ (.head _) (next_is_new F) ?_ ?_
  · intro hm
    exact absurd F.ns.lt ((List.mem_singleton.mp hm) ▸ Nat.lt_irrefl _)
  · rw [List.mem_singleton.mp hb]; exact next_is_new F
  · show IsRangeIter _ _ _ _ _
    rw [hsz]
    simpa using Heap.get?_push_size _ rfl
  · intro i h hi
    refine ⟨_, hi, fun vs e q t => ?_⟩
    cases e
    simp [rawInt]
  · intro i v m₁ news₁ h tk own hin hP hJ hoff hown hC F₁ N₁
    obtain ⟨t, rfl⟩ := hP
    rw [show (0 : Int) + i * 1 = i by omega] at F₁
    exact turn _ i t m₁ news₁ h tk own hlt hC hin hJ (fun p hp e => hoff p hp (List.mem_singleton.mpr e)) (fun p hp => List.mem_singleton.mp (hown p hp)) F₁ N₁
  · intro h tk m₁ news₁ hJ F₁ N₁
    exact done h tk m₁ news₁ hJ F₁ N₁
end

end
section
section
variable (w : World) (mean : ExcName → Option Value) (mg mb : Str → Option Value) (G : List Value → List (Addr × Obj)) (f c' cA cN cI l : Addr) (doc pm ctv : Value) (oA oN oI oc : Obj) (vc : Array Value) (tq tn : Tok) (ep : Nat) (n : Int)
    (M1 : ∀ vs, (f, fnMade (Str.ofString "inner") qI (sP 8 1) (sB 8 1) (sS 8 1) [(Str.ofString "n", cN), (Str.ofString "inner", cI), (Str.ofString "a_digits", cA)] doc pm c' ctv) ∈ G vs)
    (M2 : ∀ vs, (c', oc) ∈ G vs) (e2 : oc.data = .fields vc) (e2' : vc[1]? = some (.str qI tq))
    (M3 : ∀ vs, (cA, oA) ∈ G vs) (e3 : oA.data = .cell (some (.ref l))) (M4 : ∀ vs, (cI, oI) ∈ G vs) (e4 : oI.data = .cell (some (.ref f))) (M5 : ∀ vs, (cN, oN) ∈ G vs) (e5 : oN.data = .cell (some (.int n tn)))
    (hU : UpdAll l ep G) (hn : 0 ≤ n) (hn2 : n ≤ 100000) (len : Nat) (hlen : len ≤ 1000) (hs : n * len ≤ 10000000)
include M1 M2 e2 e2' M3 e3 M4 e4 M5 e5 hU hn hn2 hlen hs
theorem c_innerI_all : ∀ (k : Nat) (vs : List Value) (ns : List Int) (v : Int) (x y : Nat) (t0 t1 t2 : Tok), IntsAre vs ns → ns.length = len → x < y → y ≤ len → y - x ≤ 2 ^ k → 0 ≤ v → v < 2 ^ (n.toNat * (y - x)) →
    ConN w mean mg mb (G vs) f [.int v t0, .int (x : Int) t1, .int (y : Int) t2] (k + 1) (3 * k + 3) (RetL (ns.take x ++ dg n.toNat v (y - x) ++ ns.drop y) G) := by
  intro k
  have base : ∀ (ns : List Int) (v : Int) (x y : Nat), ns.length = len → x < y → y ≤ len → 0 ≤ v → v < 2 ^ (n.toNat * (y - x)) → (x : Int) + 1 = y → ns.set (x : Int).toNat v = ns.take x ++ dg n.toNat v (y - x) ++ ns.drop y := by
    intro ns v x y h0 h1 h2 h3 h4 h5
    have : y = x + 1 := by omega
    subst this
    rw [show x + 1 - x = 1 by omega] at h4 ⊢
    rw [Nat.mul_one] at h4
    rw [dg_one h3 h4, Int.toNat_natCast, List.set_eq_take_append_cons_drop, if_pos (by omega), List.append_assoc]
    rfl
  have mid : ∀ x y : Nat, ((x : Int) + y).fdiv (2 ^ Int.toNat 1) = (((x + y) / 2 : Nat) : Int) := by
    intro x y
    rw [show Int.toNat 1 = 1 from rfl, fdiv_two]
    omega
  have midx : ∀ x y : Nat, x < y → ((x : Int) + y).fdiv (2 ^ Int.toNat 1) - x = (((x + y) / 2 - x : Nat) : Int) := by
    intro x y h; rw [mid]; omega
  have sh : ∀ x y : Nat, x < y → ((((x : Int) + y).fdiv (2 ^ Int.toNat 1) - x) * n).toNat = n.toNat * ((x + y) / 2 - x) := by
    intro x y h
    rw [midx x y h]
    have : (((x + y) / 2 - x : Nat) : Int) * n = ((n.toNat * ((x + y) / 2 - x) : Nat) : Int) := by
      rw [Int.natCast_mul, Int.toNat_of_nonneg hn, Int.mul_comm]
    rw [this, Int.toNat_natCast]
  have ok : ∀ x y : Nat, x < y → y ≤ len → IntMulOk (((x : Int) + y).fdiv (2 ^ Int.toNat 1) - x) n ∧ 0 ≤ (((x : Int) + y).fdiv (2 ^ Int.toNat 1) - x) * n ∧ (((x : Int) + y).fdiv (2 ^ Int.toNat 1) - x) * n ≤ 10000000 := by
    intro x y h1 h2
    rw [midx x y h1]
    refine ⟨.of_left (intBits_le_64 (by omega) (by omega)), Int.mul_nonneg (by omega) hn, ?_⟩
    have h4 : (((x + y) / 2 - x : Nat) : Int) * n ≤ len * n := Int.mul_le_mul_of_nonneg_right (by omega) hn
    rw [Int.mul_comm _ n, Int.mul_comm _ n] at h4
    rw [Int.mul_comm]
    omega
  have hzz : ∀ (v : Int) (x y : Nat), x < y → y ≤ len → 0 ≤ v → v < 2 ^ (n.toNat * (y - x)) → (intBits (v.fdiv (2 ^ ((((x : Int) + y).fdiv (2 ^ Int.toNat 1) - x) * n).toNat)) : Int) + (((x : Int) + y).fdiv (2 ^ Int.toNat 1) - x) * n ≤ 2 ^ 27 := by
    intro v x y h1 h2 h3 h4
    have h5 : intBits v ≤ n.toNat * (y - x) := intBits_le_iff.mpr ((natAbs_lt h3).mp h4)
    have h6 := intBits_fdiv_le (y := 2 ^ ((((x : Int) + y).fdiv (2 ^ Int.toNat 1) - x) * n).toNat) h5
    have h7 := (ok x y h1 h2).2.2
    have h8 : n.toNat * (y - x) ≤ n.toNat * len := Nat.mul_le_mul_left _ (by omega)
    have h9 : ((n.toNat * len : Nat) : Int) = n * len := by rw [Int.natCast_mul, Int.toNat_of_nonneg hn]
    omega
  induction k with
  | zero =>
    intro vs ns v x y t0 t1 t2 hI hl hxy hy hk hv hv2
    exact c_innerI w mean mg mb G f c' cA cN cI l doc pm ctv oA oN oI oc vc tq tn ep vs ns n M1 M2 e2 e2' M3 e3 M4 e4 M5 e5 hU hI hn hn2 (by omega) v x y t0 t1 t2 (by omega) (by omega) (by omega) 0 0 [] _ (base ns v x y hl hxy hy hv hv2) (fun h => absurd (by omega) h) (fun h => absurd (by omega) h) (ok x y hxy hy).1 (ok x y hxy hy).2.1 (hzz v x y hxy hy hv hv2)
  | succ k ih =>
    intro vs ns v x y t0 t1 t2 hI hl hxy hy hk hv hv2
    have hk' : y - x ≤ 2 * 2 ^ k := by rw [Nat.pow_succ] at hk; omega
    have hP := kbt_pos (n.toNat * ((x + y) / 2 - x))
    have exy : y - x = ((x + y) / 2 - x) + (y - (x + y) / 2) := by omega
    refine c_innerI w mean mg mb G f c' cA cN cI l doc pm ctv oA oN oI oc vc tq tn ep vs ns n M1 M2 e2 e2' M3 e3 M4 e4 M5 e5 hU hI hn hn2 (by omega) v x y t0 t1 t2 (by omega) (by omega) (by omega) (k + 1) (3 * k + 3) (ns.take x ++ dg n.toNat (v % 2 ^ (n.toNat * ((x + y) / 2 - x))) ((x + y) / 2 - x) ++ ns.drop ((x + y) / 2)) _ (base ns v x y hl hxy hy hv hv2) (fun h t t' t'' => ?_) (fun h vs1 hI1 t t' t'' => ?_) (ok x y hxy hy).1 (ok x y hxy hy).2.1 (hzz v x y hxy hy hv hv2)
    · rw [sh x y hxy, fdiv_two, bitXor_low hv, mid]
      exact ih vs ns _ x ((x + y) / 2) t t' t'' hI hl (by omega) (by omega) (by omega) (Int.emod_nonneg _ (Int.ne_of_gt hP)) (Int.emod_lt_of_pos _ hP)
    · rw [sh x y hxy, fdiv_two, mid]
      have L1 : (ns.take x ++ dg n.toNat (v % 2 ^ (n.toNat * ((x + y) / 2 - x))) ((x + y) / 2 - x)).length = (x + y) / 2 := by
        rw [List.length_append, List.length_take, dg_len]; omega
      have L2 : (ns.take x ++ dg n.toNat (v % 2 ^ (n.toNat * ((x + y) / 2 - x))) ((x + y) / 2 - x) ++ ns.drop ((x + y) / 2)).length = len := by
        rw [List.length_append, L1, List.length_drop]; omega
      have H := ih vs1 _ (v / 2 ^ (n.toNat * ((x + y) / 2 - x))) ((x + y) / 2) y t t' t'' hI1 L2 (by omega) hy (by omega) (Int.ediv_nonneg hv (Int.le_of_lt hP)) (by
        refine div_lt_of hP ?_
        rw [← Int.pow_add, ← Nat.mul_add, Nat.add_comm (y - (x + y) / 2), ← exy]
        exact hv2)
      have e : List.take ((x + y) / 2) (ns.take x ++ dg n.toNat (v % 2 ^ (n.toNat * ((x + y) / 2 - x))) ((x + y) / 2 - x) ++ ns.drop ((x + y) / 2)) ++ dg n.toNat (v / 2 ^ (n.toNat * ((x + y) / 2 - x))) (y - (x + y) / 2) ++ List.drop y (ns.take x ++ dg n.toNat (v % 2 ^ (n.toNat * ((x + y) / 2 - x))) ((x + y) / 2 - x) ++ ns.drop ((x + y) / 2)) = ns.take x ++ dg n.toNat v (y - x) ++ ns.drop y := by
        rw [List.take_append_of_le_length (by omega), List.take_of_length_le (by omega), List.drop_append, List.drop_eq_nil_of_le (by omega), List.nil_append, L1, List.drop_drop, show (x + y) / 2 + (y - (x + y) / 2) = y by omega]
        rw [exy, dg_split, dg_mod _ _ _ _ (Nat.le_refl _)]
        simp only [List.append_assoc]
      rw [e] at H
      exact H
end

end
section

set_option maxHeartbeats 4000000 in
theorem c_i2d (w : World) (mean : ExcName → Option Value) (mg mb : Str → Option Value) (rest : List (Addr × Obj)) (v n : Int) (t0 t1 : Tok) (k len : Nat)
    (hv : 0 ≤ v) (hn : 1 ≤ n) (hn2 : n ≤ 100000) (hlen : ((intBits v : Int) + n - 1).fdiv n = len) (hl : len ≤ 1000) (hk2 : len ≤ 2 ^ k) (hs : n * len ≤ 10000000) (hvl : v < 2 ^ (n.toNat * len)) (hv0 : v ≠ 0 → 0 < len) :
    ConT w mean mg mb rest 70 [.int v t0, .int n t1] (k + 2) (3 * k + 6) (RetTL (dg n.toNat v len)) := by
  intro st1 st2 ok1 ok2 hr
  k_extra "enterCN"
  obtain ⟨o1, o2, o3, hE, d1, d2, d3⟩ := CellsAre.three Y'
  subst hE
  clear Y'
  simp only [List.cons_append, List.nil_append] at N'
  have d1 : o1.data = .cell none := d1
  have d2 : o2.data = .cell none := d2
  have d3 : o3.data = .cell (some (.int n t1)) := d3
  have C1' := CodeHd.keeps C1 (Below.stays B')
  have lL := ltN (led_lt l1)
  k_extra "go"
  rename_i D hX F1 N1 I1 n1 s1 e1 e2 e3 lD
  clear n1 s1 e1 e2 e3
  obtain ⟨-, lD3, lD2, lD1, lD⟩ := lD
  have lD := kst_ltOf lD
  rw [hlen] at I1 N1
  rw [Int.toNat_natCast] at I1 N1
  generalize hvs : (List.replicate len [Value.int 0 tk']).flatten = vs0 at I1 N1
  rw [ints_rep (t := 0)] at I1
  have N2 := kst_newsOf (l' := (L' + 1 + 1, o2) :: (D, listOf vs0.toArray 0) :: (L' + 1 + 1 + 1, o1) :: (L' + 1, o3) :: led st1 st2 rest) N1 (List.forall_mem_cons.mpr ⟨.tail _ (.tail _ (.tail _ (.head _))), List.forall_mem_cons.mpr ⟨.head _, List.forall_mem_cons.mpr ⟨.tail _ (.tail _ (.head _)), List.forall_mem_cons.mpr ⟨.tail _ (.tail _ (.tail _ (.tail _ (.head _)))), fun p hp => .tail _ (.tail _ (.tail _ (.tail _ (.tail _ hp))))⟩⟩⟩⟩)
  have hne2 : ∀ p ∈ ((D, listOf vs0.toArray 0) :: (L' + 1 + 1 + 1, o1) :: (L' + 1, o3) :: led st1 st2 rest : List (Addr × Obj)), p.1 ≠ L' + 1 + 1 := List.forall_mem_cons.mpr ⟨Nat.ne_of_gt lD2, List.forall_mem_cons.mpr ⟨by k_ne, List.forall_mem_cons.mpr ⟨by k_ne, fun p hp => by have := ltN (l1 p hp); k_ne⟩⟩⟩
  refine' storeX_C F1 N2 rfl (UpdF.head hne2) d2 ?_
  intro h2 o2' F2 N3 d2'
  clear N1 N2 F1 hne2
  k_extra "go"
  refine nestDef_K rfl rfl rfl ?_
  have hlr : (List.replicate len (0 : Int)).length = len := List.length_replicate
  have hlr' : (List.replicate len (0 : Int)).length ≤ 1000000 := by omega
  k_with "tail" => ((refine' storeX_C ?F ?N rfl (UpdF.head (by assumption)) d1 ?_; (case F => assumption); (case N => assumption); k_whole); intro h3 o1' F4 N4 d1'; (have hneA : ∀ p ∈ ((f, fnMade (Str.ofString "inner") qI (sP 8 1) (sB 8 1) (sS 8 1) [(Str.ofString "n", L' + 1), (Str.ofString "inner", L' + 1 + 1 + 1), (Str.ofString "a_digits", L' + 1 + 1)] dc ((mg (Str.ofString "__name__")).getD Value.none) c' ct) :: (L' + 1 + 1 + 1, o1') :: (L' + 1 + 1, o2') :: (L' + 1, o3) :: led (.yes c' oc) st2 rest : List (Addr × Obj)), p.1 ≠ D := List.forall_mem_cons.mpr ⟨hf, List.forall_mem_cons.mpr ⟨Nat.ne_of_lt lD3, List.forall_mem_cons.mpr ⟨Nat.ne_of_lt lD2, List.forall_mem_cons.mpr ⟨Nat.ne_of_lt lD1, hneD⟩⟩⟩⟩); (obtain ⟨G, hG⟩ : ∃ G : List Value → List (Addr × Obj), G = fun vs => (D, listOf vs.toArray 0) :: (f, fnMade (Str.ofString "inner") qI (sP 8 1) (sB 8 1) (sS 8 1) [(Str.ofString "n", L' + 1), (Str.ofString "inner", L' + 1 + 1 + 1), (Str.ofString "a_digits", L' + 1 + 1)] dc ((mg (Str.ofString "__name__")).getD Value.none) c' ct) :: (L' + 1 + 1 + 1, o1') :: (L' + 1 + 1, o2') :: (L' + 1, o3) :: led (.yes c' oc) st2 rest := ⟨_, rfl⟩); (have hU : UpdAll D 0 G := fun vs vs' => hG ▸ Upd.head hneA); (have N7 : News g' L' h3 (G vs0) := by (rw [hG]; exact kst_newsOf N4 (List.forall_mem_cons.mpr ⟨.tail _ (.head _), List.forall_mem_cons.mpr ⟨.tail _ (.tail _ (.head _)), List.forall_mem_cons.mpr ⟨.head _, fun p hp => .tail _ (.tail _ (.tail _ hp))⟩⟩⟩))); (have M0 : ∀ vs, (D, listOf vs.toArray 0) ∈ G vs := fun vs => by (rw [hG]; exact .head _)); (have M1 : ∀ vs, (f, fnMade (Str.ofString "inner") qI (sP 8 1) (sB 8 1) (sS 8 1) [(Str.ofString "n", L' + 1), (Str.ofString "inner", L' + 1 + 1 + 1), (Str.ofString "a_digits", L' + 1 + 1)] dc ((mg (Str.ofString "__name__")).getD Value.none) c' ct) ∈ G vs := fun vs => by (rw [hG]; exact .tail _ (.head _))); (have M4 : ∀ vs, (L' + 1 + 1 + 1, o1') ∈ G vs := fun vs => by (rw [hG]; exact .tail _ (.tail _ (.head _)))); (have M3 : ∀ vs, (L' + 1 + 1, o2') ∈ G vs := fun vs => by (rw [hG]; exact .tail _ (.tail _ (.tail _ (.head _))))); (have M5 : ∀ vs, (L' + 1, o3) ∈ G vs := fun vs => by (rw [hG]; exact .tail _ (.tail _ (.tail _ (.tail _ (.head _)))))); (have M6 : ∀ vs, ∀ p ∈ led (.yes c' oc) st2 rest, p ∈ G vs := fun vs p hp => by (rw [hG]; exact .tail _ (.tail _ (.tail _ (.tail _ (.tail _ hp)))))); (have M2 : ∀ vs, (c', oc) ∈ G vs := fun vs => M6 vs _ (List.mem_append_left _ (tl_mem (P := 65) (line := 37) (col := 4) (c := c') (oc := oc)).2)); clear hG N4 hneA; (have m0 := M0 vs0); (have m1 := M1 vs0); (have m2 := M2 vs0); (have m3 := M3 vs0); (have m4 := M4 vs0); (have m5 := M5 vs0); dsimp only; (k_extra "go"))
  have eN : (List.replicate len (0 : Int)).take 0 ++ dg n.toNat v (len - 0) ++ (List.replicate len (0 : Int)).drop len = dg n.toNat v len := by
    rw [List.take_zero, List.nil_append, List.drop_of_length_le (by omega), List.append_nil, Nat.sub_zero]
  have lDr : 72 < D := Nat.lt_trans lL (Nat.lt_trans (Nat.lt_succ_self L') lD1)
  have lDrest : ∀ p ∈ rest, p.1 < D := fun p hp => lD p (List.mem_append_right _ (List.mem_append_right _ hp))
  k_with "fin" => (rw [hlr]; (refine' ConN.use (c_innerI_all w mean mg mb G f c' (L' + 1 + 1) (L' + 1) (L' + 1 + 1 + 1) D dc _ ct o2' o3 o1' oc vc tq t1 0 n M1 M2 e2 e2' M3 d2' M4 d1' M5 d3 hU (by omega) hn2 len hl hs k vs0 _ v 0 len _ _ _ I1 hlr (hv0 (by assumption)) (Nat.le_refl _) (by omega) hv hvl) ?k1 ?k2 ?k3 ?k4 ?k5 ?c1 ?c2 ?k6 ?k7 ?k8 ?_); (k_extra "conds"); intro vs' h' tk' hI' F' N'; rw [eN] at hI'; (have p3 := M3 vs'); (try k_sweep); (try dsimp only); (k_extra "go"); exact hret D vs' 0 (.yes c' oc) st2 _ _ hI' ok1 ok2 lDr lDrest (by k_asm) (kst_newsOf (by k_asm) (List.forall_mem_cons.mpr ⟨M0 vs', M6 vs'⟩)))
  k_with "fin0" => ((have e0 : v = 0 := by first | assumption | omega); (have el : len = 0 := by (rw [e0] at hlen; rw [show intBits 0 = 0 from rfl, fdiv_pos (by omega : (0 : Int) < n)] at hlen; (have := Int.ediv_eq_zero_of_lt (by omega : (0 : Int) ≤ ((0 : Nat) : Int) + n - 1) (by omega : ((0 : Nat) : Int) + n - 1 < n)); omega)); subst el; exact hret D vs0 0 (.yes c' oc) st2 _ _ I1 ok1 ok2 lDr lDrest (by k_asm) (kst_newsOf (by k_asm) (List.forall_mem_cons.mpr ⟨M0 vs0, M6 vs0⟩)))
  cases st1 with
  | no =>
    refine' nest_K (ps := #[]) F2 N3 ?T C1' rfl ?U True.intro rfl rfl ?_
    case T => k_asm
    case U => exact UpdF.tail (by k_ne) (UpdF.tail (by have := ltN lD1; k_ne) (UpdF.tail (by k_ne) (UpdF.tail (by k_ne) (UpdF.head (tDr_ne ok2 hr)))))
    intro f c' oc vc tq ct dc h1 tk1 F3 N5 e2 e2' l1' l2'
    have e2' : vc[1]? = some (.str qI tq) := e2'
    have lc : D < c' := l1' (D, listOf vs0.toArray 0) (.tail _ (.head _))
    have ok1 : (TS.yes c' oc).ok qI := ⟨Nat.lt_trans lL (Nat.lt_trans (Nat.lt_succ_self L') (Nat.lt_trans lD1 lc)), vc, tq, e2, e2'⟩
    have N6 : News g' L' h1 ((L' + 1 + 1 + 1, o1) :: (D, listOf vs0.toArray 0) :: (f, fnMade (Str.ofString "inner") qI (sP 8 1) (sB 8 1) (sS 8 1) [(Str.ofString "n", L' + 1), (Str.ofString "inner", L' + 1 + 1 + 1), (Str.ofString "a_digits", L' + 1 + 1)] dc ((mg (Str.ofString "__name__")).getD Value.none) c' ct) :: (L' + 1 + 1, o2') :: (L' + 1, o3) :: led (.yes c' oc) st2 rest) := by
      refine kst_newsOf N5 (List.forall_mem_cons.mpr ⟨.tail _ (.tail _ (.tail _ (.tail _ (.head _)))), List.forall_mem_cons.mpr ⟨.tail _ (.tail _ (.tail _ (.head _))), List.forall_mem_cons.mpr ⟨.head _, List.forall_mem_cons.mpr ⟨.tail _ (.tail _ (.head _)), List.forall_mem_cons.mpr ⟨.tail _ (.tail _ (.tail _ (.tail _ (.tail _ (.head _))))), ?_⟩⟩⟩⟩⟩)
      exact led_subI (.tail _ (.head _)) (.tail _ (.tail _ (.tail _ (.tail _ (.tail _ (.tail _ (.head _))))))) (fun p hp => .tail _ (.tail _ (.tail _ (.tail _ (.tail _ (.tail _ (.tail _ hp)))))))
    have lq1 := ltN lD1
    have lq2 := ltN lD2
    have lq3 := ltN lD3
    have lq4 := ltN lc
    have lq5 := ltN l2'
    have hne : ∀ p ∈ ((D, listOf vs0.toArray 0) :: (f, fnMade (Str.ofString "inner") qI (sP 8 1) (sB 8 1) (sS 8 1) [(Str.ofString "n", L' + 1), (Str.ofString "inner", L' + 1 + 1 + 1), (Str.ofString "a_digits", L' + 1 + 1)] dc ((mg (Str.ofString "__name__")).getD Value.none) c' ct) :: (L' + 1 + 1, o2') :: (L' + 1, o3) :: led (.yes c' oc) st2 rest), p.1 ≠ L' + 1 + 1 + 1 :=
      List.forall_mem_cons.mpr ⟨by k_ne, List.forall_mem_cons.mpr ⟨by k_ne, List.forall_mem_cons.mpr ⟨by k_ne, List.forall_mem_cons.mpr ⟨by k_ne, led_neI l1 (by k_ne) (Nat.le_succ_of_le (Nat.le_succ_of_le (Nat.le_succ _)))⟩⟩⟩⟩
    have hneD : ∀ p ∈ led (.yes c' oc) st2 rest, p.1 ≠ D := led_neI lD (by k_ne) (Nat.le_refl _)
    have hf : f ≠ D := by k_ne
    clear N5 N3 F2
    k_extra "tail"
    · k_extra "fin"
    · k_extra "fin0"
  | yes c' oc =>
    obtain ⟨hc72, vc, tq, e2, e2'⟩ := id ok1
    refine' nestHit_K (ps := #[rawInt (37 : Nat), rawInt (4 : Nat), .ref c']) (c' := c') F2 N3 ?T C1' rfl ?M ?t rfl rfl ?_
    case T => k_asm
    case M => exact .tail _ (.tail _ (.tail _ (.tail _ (List.mem_append_left _ tl_mem.1))))
    case t => simp [TriplesOk, rawInt]
    intro f ct dc h1 tk1 F3 N5 l1'
    have N6 : News g' L' h1 ((L' + 1 + 1 + 1, o1) :: (D, listOf vs0.toArray 0) :: (f, fnMade (Str.ofString "inner") qI (sP 8 1) (sB 8 1) (sS 8 1) [(Str.ofString "n", L' + 1), (Str.ofString "inner", L' + 1 + 1 + 1), (Str.ofString "a_digits", L' + 1 + 1)] dc ((mg (Str.ofString "__name__")).getD Value.none) c' ct) :: (L' + 1 + 1, o2') :: (L' + 1, o3) :: led (.yes c' oc) st2 rest) := by
      refine kst_newsOf N5 (List.forall_mem_cons.mpr ⟨.tail _ (.tail _ (.tail _ (.head _))), List.forall_mem_cons.mpr ⟨.tail _ (.tail _ (.head _)), List.forall_mem_cons.mpr ⟨.head _, List.forall_mem_cons.mpr ⟨.tail _ (.head _), List.forall_mem_cons.mpr ⟨.tail _ (.tail _ (.tail _ (.tail _ (.head _)))), ?_⟩⟩⟩⟩⟩)
      exact fun p hp => .tail _ (.tail _ (.tail _ (.tail _ (.tail _ hp))))
    have lq1 := ltN lD1
    have lq2 := ltN lD2
    have lq3 := ltN lD3
    have lq4 := ltN (l1' (D, listOf vs0.toArray 0) (.tail _ (.head _)))
    have hne : ∀ p ∈ ((D, listOf vs0.toArray 0) :: (f, fnMade (Str.ofString "inner") qI (sP 8 1) (sB 8 1) (sS 8 1) [(Str.ofString "n", L' + 1), (Str.ofString "inner", L' + 1 + 1 + 1), (Str.ofString "a_digits", L' + 1 + 1)] dc ((mg (Str.ofString "__name__")).getD Value.none) c' ct) :: (L' + 1 + 1, o2') :: (L' + 1, o3) :: led (.yes c' oc) st2 rest), p.1 ≠ L' + 1 + 1 + 1 :=
      List.forall_mem_cons.mpr ⟨by k_ne, List.forall_mem_cons.mpr ⟨by k_ne, List.forall_mem_cons.mpr ⟨by k_ne, List.forall_mem_cons.mpr ⟨by k_ne, fun p hp => by have := ltN (l1 p hp); k_ne⟩⟩⟩⟩
    have hneD : ∀ p ∈ led (.yes c' oc) st2 rest, p.1 ≠ D := fun p hp => by have := ltN (lD p hp); k_ne
    have hf : f ≠ D := by k_ne
    clear N5 N3 F2
    k_extra "tail"
    · k_extra "fin"
    · k_extra "fin0"

end
section
/-- it gives back an int; the second table holds its def, the one it held -/
noncomputable abbrev RetTD (v : Int) (st1 st2 : TS) (rest : List (Addr × Obj)) (h₀ : Heap) (L : Addr) (m : Str → Option Value) (s : Shared) (Q : Value → Shared → Prop) : Prop :=
  ∀ (t : Tok) (c : Addr) (oc : Obj) (h' : Heap) (tk' : Nat), (TS.yes c oc).ok qD → (∀ c0 o0, st2 = .yes c0 o0 → c0 = c ∧ o0 = oc) → (st2 = .no → ∀ p ∈ rest, p.1 < c) → Fr h₀ L h' m → News h₀ L h' (led st1 (.yes c oc) rest) → Q (.int v t) { s with heap := h', toks := tk' }
set_option maxHeartbeats 4000000 in
theorem c_d2iY (w : World) (mean : ExcName → Option Value) (mg mb : Str → Option Value) (rest : List (Addr × Obj)) (l : Addr) (vs : List Value) (ns : List Int) (n : Int) (t1 : Tok) (ep k M : Nat)
    (m6 : (l, listOf vs.toArray ep) ∈ rest) (e6 : IntsAre vs ns) (hn : 0 ≤ n) (hn2 : n ≤ 100000) (hl : ns.length ≤ 1000) (hk2 : ns.length ≤ 2 ^ k)
    (hM : M ≤ 10000000) (hb : ∀ v ∈ ns, intBits v ≤ M) (hs : n * ns.length ≤ 10000000) :
    ∀ st1 st2 : TS, st1.ok qI → st2.ok qD → (∀ p ∈ rest, Hi p.1) → ConN w mean mg mb (led st1 st2 rest) 77 [.ref l, .int n t1] (k + 2) (3 * k + 6) (RetTD (dval n.toNat ns) st1 st2 rest) := by
  intro st1 st2 ok1 ok2 hr
  k_extra "enterCN"
  obtain ⟨o1, o2, o3, hE, d1, d2, d3⟩ := CellsAre.three Y'
  subst hE
  clear Y'
  simp only [List.cons_append, List.nil_append] at N'
  have d2 : o2.data = .cell (some (.int n t1)) := d2
  have d3 : o3.data = .cell (some (.ref l)) := d3
  have d1 : o1.data = .cell none := d1
  have C2' := CodeHd.keeps C2 (Below.stays B')
  have lL := ltN (led_lt l1)
  k_with "tail" => (refine' storeX_C ?F ?N rfl (UpdF.head (by assumption)) d1 ?_; (case F => k_asm); (case N => assumption); k_whole; intro h2 o1' F2 N2 d1'; (obtain ⟨Led, hLed⟩ : ∃ Led, Led = ((L' + 1 + 1 + 1, o1') :: (f, fnMade (Str.ofString "inner") qD (sP 9 0) (sB 9 0) (sS 9 0) [(Str.ofString "n", L' + 1 + 1), (Str.ofString "inner", L' + 1 + 1 + 1), (Str.ofString "digits", L' + 1)] dc ((mg (Str.ofString "__name__")).getD Value.none) c' ct) :: (L' + 1 + 1, o2) :: (L' + 1, o3) :: led st1 (.yes c' oc) rest) := ⟨_, rfl⟩); (have N3 : News g' L' h2 Led := hLed ▸ N2); (have g1 : (L' + 1 + 1 + 1, o1') ∈ Led := hLed ▸ List.Mem.head _); (have g2 : (f, fnMade (Str.ofString "inner") qD (sP 9 0) (sB 9 0) (sS 9 0) [(Str.ofString "n", L' + 1 + 1), (Str.ofString "inner", L' + 1 + 1 + 1), (Str.ofString "digits", L' + 1)] dc ((mg (Str.ofString "__name__")).getD Value.none) c' ct) ∈ Led := hLed ▸ List.Mem.tail _ (List.Mem.head _)); (have g3 : (L' + 1 + 1, o2) ∈ Led := hLed ▸ List.Mem.tail _ (List.Mem.tail _ (List.Mem.head _))); (have g4 : (L' + 1, o3) ∈ Led := hLed ▸ List.Mem.tail _ (List.Mem.tail _ (List.Mem.tail _ (List.Mem.head _)))); (have g5 : ∀ p ∈ led st1 (.yes c' oc) rest, p ∈ Led := fun p hp => hLed ▸ List.Mem.tail _ (List.Mem.tail _ (List.Mem.tail _ (List.Mem.tail _ hp)))); (have g6 := g5 _ (List.mem_append_right _ (List.mem_append_left _ (tl_mem (P := 72) (line := 52) (col := 4) (c := c') (oc := oc)).2))); (have g7 := g5 _ (List.mem_append_right _ (List.mem_append_right _ m6))); clear N2 hLed)
  have hl' : ns.length ≤ 1000000 := by omega
  have sg : seg ns 0 ns.length = ns := by unfold seg; simp
  k_with "fin" => ((refine' ConN.use (c_innerD_all w mean mg mb Led f c' (L' + 1) (L' + 1 + 1) (L' + 1 + 1 + 1) l dc _ ct o3 o2 o1' oc vc tq t1 ep vs ns n g2 g6 e2 e2' g4 d3 g1 d1' g3 d2 g7 e6 hn hn2 hl M hM hb hs k 0 ns.length _ _ (by first | assumption | omega | exact of_decide_eq_true (by assumption)) (Nat.le_refl _) (by omega)) ?k1 ?k2 ?k3 ?k4 ?k5 ?c1 ?c2 ?k6 ?k7 ?k8 ?_); (k_extra "conds"); intro t' h' tk' F' N'; (try k_sweep); (try dsimp only); (k_extra "go"); rw [sg]; exact hret _ c' oc _ _ ok2 (by first | (intro c0 o0 h0; cases h0; done) | (intro c0 o0 h0; cases h0; exact ⟨rfl, rfl⟩)) (by first | (intro h0; cases h0; done) | exact fun _ => hfresh) (by k_asm) (kst_newsOf (by k_asm) g5))
  k_with "fin0" => ((have e0 : ns = [] := List.eq_nil_of_length_eq_zero (by first | omega | (have hf9 := of_decide_eq_false (by assumption); omega) | (have hf9 := decide_eq_false_iff_not.mp (by assumption); omega))); (have e1 : dval n.toNat ns = 0 := by (rw [e0]; rfl)); rw [e1] at hret; exact hret _ c' oc _ _ ok2 (by first | (intro c0 o0 h0; cases h0; done) | (intro c0 o0 h0; cases h0; exact ⟨rfl, rfl⟩)) (by first | (intro h0; cases h0; done) | exact fun _ => hfresh) (by k_asm) (kst_newsOf (by k_asm) g5))
  k_extra "go"
  refine nestDef_K rfl rfl rfl ?_
  cases st2 with
  | no =>
    refine' nest_K (ps := #[]) ?F ?N ?T C2' rfl ?U True.intro rfl rfl ?_
    case F => k_asm
    case N => k_asm
    case T => k_asm
    case U => exact UpdF.tail (by k_ne) (UpdF.tail (by k_ne) (UpdF.tail (by k_ne) (UpdF.app (tI_ne ok1) (UpdF.head (fun p hp => (hr p hp).2)))))
    intro f c' oc vc tq ct dc h1 tk1 F1 N1 e2 e2' l1' l2'
    have e2' : vc[1]? = some (.str qD tq) := e2'
    have ok2 : (TS.yes c' oc).ok qD := ⟨Nat.lt_trans lL (Nat.lt_trans (Nat.lt_succ_self L') (l1' (L' + 1, o3) (.tail _ (.tail _ (.head _))))), vc, tq, e2, e2'⟩
    have lc : L' + 1 + 1 + 1 < c' := l1' (L' + 1 + 1 + 1, o1) (.head _)
    have hfresh : ∀ p ∈ rest, p.1 < c' := fun p hp => Nat.lt_trans (l1 p (List.mem_append_right _ (List.mem_append_right _ hp))) (Nat.lt_trans (Nat.lt_succ_of_lt (Nat.lt_succ_of_lt (Nat.lt_succ_self L'))) lc)
    have N1' : News g' L' h1 ((L' + 1 + 1 + 1, o1) :: (f, fnMade (Str.ofString "inner") qD (sP 9 0) (sB 9 0) (sS 9 0) [(Str.ofString "n", L' + 1 + 1), (Str.ofString "inner", L' + 1 + 1 + 1), (Str.ofString "digits", L' + 1)] dc ((mg (Str.ofString "__name__")).getD Value.none) c' ct) :: (L' + 1 + 1, o2) :: (L' + 1, o3) :: led st1 (.yes c' oc) rest) := by
      refine kst_newsOf N1 (List.forall_mem_cons.mpr ⟨.tail _ (.tail _ (.head _)), List.forall_mem_cons.mpr ⟨.head _, List.forall_mem_cons.mpr ⟨.tail _ (.tail _ (.tail _ (.head _))), List.forall_mem_cons.mpr ⟨.tail _ (.tail _ (.tail _ (.tail _ (.head _)))), ?_⟩⟩⟩⟩)
      exact led_sub (.tail _ (.head _)) (.tail _ (.tail _ (.tail _ (.tail _ (.tail _ (List.mem_append_right _ (.head _))))))) (fun p hp => .tail _ (.tail _ (.tail _ (.tail _ (.tail _ (List.mem_append_left _ hp)))))) (fun p hp => .tail _ (.tail _ (.tail _ (.tail _ (.tail _ (List.mem_append_right _ (.tail _ hp)))))))
    have hne : ∀ p ∈ ((f, fnMade (Str.ofString "inner") qD (sP 9 0) (sB 9 0) (sS 9 0) [(Str.ofString "n", L' + 1 + 1), (Str.ofString "inner", L' + 1 + 1 + 1), (Str.ofString "digits", L' + 1)] dc ((mg (Str.ofString "__name__")).getD Value.none) c' ct) :: (L' + 1 + 1, o2) :: (L' + 1, o3) :: led st1 (.yes c' oc) rest), p.1 ≠ L' + 1 + 1 + 1 := by
      have l2' := ltN l2'
      have lc := ltN lc
      refine List.forall_mem_cons.mpr ⟨by k_ne, List.forall_mem_cons.mpr ⟨by k_ne, List.forall_mem_cons.mpr ⟨by k_ne, led_ne l1 (by k_ne) (Nat.le_succ_of_le (Nat.le_succ_of_le (Nat.le_succ _)))⟩⟩⟩
    clear N1
    k_extra "tail"
    k_extra "go"
    · k_extra "fin"
    · k_extra "fin0"
  | yes c' oc =>
    obtain ⟨hc72, vc, tq, e2, e2'⟩ := id ok2
    refine' nestHit_K (ps := #[rawInt (52 : Nat), rawInt (4 : Nat), .ref c']) (c' := c') ?F ?N ?T C2' rfl ?M ?t rfl rfl ?_
    case F => k_asm
    case N => k_asm
    case T => k_asm
    case M => exact List.Mem.tail _ (List.Mem.tail _ (List.Mem.tail _ (List.mem_append_right _ (List.mem_append_left _ tl_mem.1))))
    case t => simp [TriplesOk, rawInt]
    intro f ct dc h1 tk1 F1 N1 l1'
    have N1' : News g' L' h1 ((L' + 1 + 1 + 1, o1) :: (f, fnMade (Str.ofString "inner") qD (sP 9 0) (sB 9 0) (sS 9 0) [(Str.ofString "n", L' + 1 + 1), (Str.ofString "inner", L' + 1 + 1 + 1), (Str.ofString "digits", L' + 1)] dc ((mg (Str.ofString "__name__")).getD Value.none) c' ct) :: (L' + 1 + 1, o2) :: (L' + 1, o3) :: led st1 (.yes c' oc) rest) := by
      refine kst_newsOf N1 (List.forall_mem_cons.mpr ⟨.tail _ (.head _), List.forall_mem_cons.mpr ⟨.head _, List.forall_mem_cons.mpr ⟨.tail _ (.tail _ (.head _)), List.forall_mem_cons.mpr ⟨.tail _ (.tail _ (.tail _ (.head _))), ?_⟩⟩⟩⟩)
      exact fun p hp => .tail _ (.tail _ (.tail _ (.tail _ hp)))
    have lf := ltN (l1' (L' + 1 + 1 + 1, o1) (.head _))
    have hne : ∀ p ∈ ((f, fnMade (Str.ofString "inner") qD (sP 9 0) (sB 9 0) (sS 9 0) [(Str.ofString "n", L' + 1 + 1), (Str.ofString "inner", L' + 1 + 1 + 1), (Str.ofString "digits", L' + 1)] dc ((mg (Str.ofString "__name__")).getD Value.none) c' ct) :: (L' + 1 + 1, o2) :: (L' + 1, o3) :: led st1 (.yes c' oc) rest), p.1 ≠ L' + 1 + 1 + 1 := by
      refine List.forall_mem_cons.mpr ⟨by k_ne, List.forall_mem_cons.mpr ⟨by k_ne, List.forall_mem_cons.mpr ⟨by k_ne, fun p hp => ?_⟩⟩⟩
      have := ltN (l1 p hp)
      k_ne
    clear N1
    k_extra "tail"
    k_extra "go"
    · k_extra "fin"
    · k_extra "fin0"
theorem c_d2i (w : World) (mean : ExcName → Option Value) (mg mb : Str → Option Value) (rest : List (Addr × Obj)) (l : Addr) (vs : List Value) (ns : List Int) (n : Int) (t1 : Tok) (ep k M : Nat)
    (m6 : (l, listOf vs.toArray ep) ∈ rest) (e6 : IntsAre vs ns) (hn : 0 ≤ n) (hn2 : n ≤ 100000) (hl : ns.length ≤ 1000) (hk2 : ns.length ≤ 2 ^ k)
    (hM : M ≤ 10000000) (hb : ∀ v ∈ ns, intBits v ≤ M) (hs : n * ns.length ≤ 10000000) :
    ConT w mean mg mb rest 77 [.ref l, .int n t1] (k + 2) (3 * k + 6) (RetTI (dval n.toNat ns)) := by
  intro st1 st2 ok1 ok2 hr dp un gd cn cs a ccd cl outer A₀ base h₀ L m s Q E B F X N T C1 C2 hk hd hu hret
  exact c_d2iY w mean mg mb rest l vs ns n t1 ep k M m6 e6 hn hn2 hl hk2 hM hb hs st1 st2 ok1 ok2 hr dp un gd cn cs a ccd cl outer A₀ base h₀ L m s Q E B F X N T C1 C2 hk hd hu fun t c oc h' tk' o2 _ _ F' N' => hret t st1 (.yes c oc) h' tk' ok1 o2 F' N'

end
section
local macro_rules | `(tactic| walk_at "call builtin:list.append") => `(tactic| (k_here; k_dflt (refine' append_L ?k1 ?k2 ?k3 ?k4 ?_; (case k3 => assumption); (case k1 => k_asm); (case k2 => k_asm); (case k4 => first | assumption | omega); k_whole); intro h' F' N'))
local macro_rules | `(tactic| walk_at "call builtin:list.reverse") => `(tactic| (k_here; k_dflt (refine' reverse_L ?k1 ?k2 ?k3 ?k4 ?_; (case k3 => assumption); (case k1 => k_asm); (case k2 => k_asm); (case k4 => first | assumption | omega); k_whole); intro h' F' N'))
set_option maxHeartbeats 4000000 in
theorem c_dmp (w : World) (mean : ExcName → Option Value) (mg mb : Str → Option Value) (rest : List (Addr × Obj)) (a b : Int) (t0 t1 : Tok) (k len : Nat)
    (ha : 0 ≤ a) (hb : 0 < b) (hn : (intBits b : Int) ≤ 16000) (hlen : ((intBits a : Int) + intBits b - 1).fdiv (intBits b) = len) (hl : len ≤ 500) (hk2 : len ≤ 2 ^ k) (hs : (intBits b : Int) * len ≤ 5000000) :
    ConT w mean mg mb rest 84 [.int a t0, .int b t1] (k + 10) (3 * k + 60) (RetT2 (a.fdiv b) (a.fmod b)) := by
  intro st1 st2 ok1 ok2 hr
  k_extra "enterP"
  have hbb : 1 ≤ (intBits b : Int) := by
    have : ¬ intBits b ≤ 0 := fun h => by have := lt_bits h; simp at this; omega
    omega
  have hvl : a < 2 ^ ((intBits b : Int).toNat * len) := by
    refine Int.lt_of_lt_of_le (lt_bits (Nat.le_refl _)) ?_
    refine pow2_le ?_
    rw [fdiv_pos (by omega : (0 : Int) < intBits b)] at hlen
    have h1 := Int.mul_ediv_add_emod ((intBits a : Int) + intBits b - 1) (intBits b)
    have h2 := Int.emod_lt_of_pos ((intBits a : Int) + intBits b - 1) (by omega : (0 : Int) < intBits b)
    rw [hlen] at h1
    have h3 : ((intBits b * len : Nat) : Int) = (intBits b : Int) * len := Int.natCast_mul _ _
    rw [Int.toNat_natCast]
    omega
  have hv0 : a ≠ 0 → 0 < len := by
    intro h
    have h4 : ¬ intBits a ≤ 0 := fun h0 => by have := lt_bits h0; simp at this; omega
    rw [fdiv_pos (by omega : (0 : Int) < intBits b)] at hlen
    have : 1 ≤ ((intBits a : Int) + intBits b - 1) / intBits b := (Int.le_ediv_iff_mul_le (by omega)).mpr (by omega)
    omega
  k_extra "go"
  refine' ConN.use (c_i2d w mean mg mb rest a (intBits b) _ _ k len ha hbb (by omega) hlen (by omega) hk2 (by omega) hvl hv0 st1 st2 ok1 ok2 hr) ?k1 ?k2 ?k3 ?k4 ?k5 ?c1 ?c2 ?k6 ?k7 ?k8 ?_
  k_extra "conds"
  intro D vs ep st3 st4 h2 tk2 hI ok3 ok4 lD lDr F2 N2
  (try dsimp only)
  k_extra "go"
  rename_i Dq hA lq hB I h4 F4 N4 lI
  obtain ⟨lDq, lqr⟩ := lq
  obtain ⟨lI1, lI2, lIr⟩ := lI
  have lqr := kst_ltOf lqr
  have lIr := kst_ltOf lIr
  have lDq' := ltN lDq
  have lI1' := ltN lI1
  have lI2' := ltN lI2
  have c2w := c2 w mean mg mb 2
  have hN : (intBits b : Int).toNat = intBits b := Int.toNat_natCast _
  have hdl : (dg (intBits b) a len).length = len := dg_len _ _ _
  rw [hN] at hI hvl
  refine' loop_rev (J := fun m0 i m₁ news₁ => ∃ (vsq : List Value) (epq : Nat) (r : Int) (tr : Tok) (uq ua : Option Value), m₁ = ovO [(Str.ofString "r", some (.int r tr)), (Str.ofString "q_digit", uq), (Str.ofString "a_digit", ua)] m0 ∧ news₁ = (Dq, listOf vsq.toArray epq) :: (D, listOf vs.toArray ep) :: led st3 st4 rest ∧ IntsAre vsq (dstate (intBits b) b (dg (intBits b) a len).reverse i).1 ∧ r = (dstate (intBits b) b (dg (intBits b) a len).reverse i).2) rfl F4 N4 ?hI ?hl hI ?h0 ?turn ?done
  case hI => exact List.forall_mem_cons.mpr ⟨by k_ne, List.forall_mem_cons.mpr ⟨by k_ne, fun p hp => by have := ltN (lIr p hp); k_ne⟩⟩
  case hl => exact .tail _ (.head _)
  case h0 => exact ⟨[], 0, 0, _, _, _, ovO_eq (List.forall_mem_cons.mpr ⟨rfl, List.forall_mem_cons.mpr ⟨rfl, List.forall_mem_cons.mpr ⟨rfl, fun _ h => nomatch h⟩⟩⟩) (fun _ _ => rfl), rfl, .nil, rfl⟩
  case turn =>
    rintro i t m₁ news₁ h5 tk5 own hi ⟨vsq, epq, r, tr, uq, ua, rfl, rfl, hIq, hr2⟩ hoff hown F5 N5
    rw [hdl] at hi
    have hir : i < (dg (intBits b) a len).reverse.length := by rw [List.length_reverse, hdl]; exact hi
    obtain ⟨hr0, hr1⟩ := dstate_rem (intBits b) hb (dg (intBits b) a len).reverse i (Nat.le_of_lt hir)
    rw [← hr2] at hr0 hr1
    have hsucc := dstate_succ (intBits b) b (dg (intBits b) a len).reverse i hir
    obtain ⟨hd0, hd1⟩ : 0 ≤ (dg (intBits b) a len).reverse.getD i 0 ∧ (dg (intBits b) a len).reverse.getD i 0 < 2 ^ intBits b := by
      rw [List.getD_eq_getElem?_getD, List.getElem?_eq_getElem hir]
      exact dg_mem (List.mem_reverse.mp (List.getElem_mem hir))
    generalize (dg (intBits b) a len).reverse.getD i 0 = dd at *
    have hlq : vsq.length ≤ 1000000 := by
      rw [hIq.length, dstate_len _ _ _ _ (Nat.le_of_lt hir)]; omega
    obtain ⟨G, hG⟩ : ∃ G : List Value → Nat → List (Addr × Obj), G = fun v e => own ++ ((Dq, listOf v.toArray e) :: (D, listOf vs.toArray ep) :: led st3 st4 rest) := ⟨_, rfl⟩
    have hU : AppAll Dq G := fun v e v' e' => hG ▸ Upd.app (fun p hp => (hown p hp).elim (fun q => by rw [q]; k_ne) (fun q => by rw [q]; k_ne)) (Upd.head (List.forall_mem_cons.mpr ⟨by k_ne, fun p hp => by have := ltN (lqr p hp); k_ne⟩))
    have M0 : ∀ v e, (Dq, listOf v.toArray e) ∈ G v e := fun v e => by rw [hG]; exact List.mem_append_right _ (.head _)
    have N6 : News g' L' h5 (G vsq epq) := by rw [hG]; exact N5
    clear N5
    have hz : (intBits r : Int) + intBits b ≤ 2 ^ 27 := by
      have : intBits r ≤ intBits b := intBits_le_of_natAbs (by omega) (Nat.le_refl _)
      omega
    have m0 := M0 vsq epq
    have pre2 : Pre2 (r * 2 ^ (intBits b : Int).toNat + dd) b (intBits b) := by
      have hbn : 2 ^ (intBits b - 1) ≤ b := by
        refine Int.not_lt.mp fun h => ?_
        have := intBits_le_iff.mpr ((natAbs_lt (Int.le_of_lt hb)).mp h)
        omega
      have hbl : b < 2 ^ intBits b := lt_bits (Nat.le_refl _)
      have hP := kbt_pos (intBits b)
      refine ⟨hbb, by omega, ?_, ?_, by rw [hN]; exact hbn, by rw [hN]; exact hbl⟩
      · exact Int.add_nonneg (Int.mul_nonneg hr0 (Int.le_of_lt (by rw [hN]; exact hP))) hd0
      · rw [hN]
        have : (r + 1) * 2 ^ intBits b ≤ b * 2 ^ intBits b := Int.mul_le_mul_of_nonneg_right (by omega) (Int.le_of_lt hP)
        rw [Int.add_mul] at this
        omega
    k_extra "go"
    refine' Con.use (c2w _ _ _ _ _ _ pre2 (by omega)) ?k1 ?k2 ?k3 ?k4 ?k5 ?c1 ?c2 ?k6 ?k7 ?k8 ?_
    k_extra "conds"
    intro Dt t1' t2' c' h' tk' F' N' l1
    (try k_sweep)
    (try dsimp only)
    k_extra "go"
    rename News g' _ _ _ => NX
    have N8 := kst_newsOf (l' := G vsq epq) NX (fun p hp => .tail _ hp)
    clear NX
    k_extra "go"
    rename Fr g' _ _ _ => FX
    rename News g' _ _ _ => NX
    rw [hG] at NX
    refine LoopStepU.intro FX NX ?_ ⟨_, _, _, _, _, _, ovO_eq (List.forall_mem_cons.mpr ⟨rfl, List.forall_mem_cons.mpr ⟨rfl, List.forall_mem_cons.mpr ⟨rfl, fun _ h => nomatch h⟩⟩⟩) ?_, rfl, ?_, ?_⟩
    · exact List.forall_mem_cons.mpr ⟨fun h => absurd (List.mem_singleton.mp h) (by k_ne), List.forall_mem_cons.mpr ⟨fun h => absurd (List.mem_singleton.mp h) (by k_ne), fun p hp h => absurd (List.mem_singleton.mp h) (by have := ltN (lIr p hp); k_ne)⟩⟩
    · intro z hz
      have z1 := hz _ (.head _)
      have z2 := hz _ (.tail _ (.head _))
      have z3 := hz _ (.tail _ (.tail _ (.head _)))
      simp only [ovO, if_neg z1, if_neg z2, if_neg z3]
    · rw [hsucc, dstep, ← hr2, hN]
      exact ints_snoc hIq _ _
    · rw [hsucc, dstep, ← hr2, hN]
  case done =>
    rintro h5 tk5 m₁ news₁ ⟨vsq, epq, r, tr, uq, ua, rfl, rfl, hIq, hr2⟩ F5 N5
    have hdr : (dg (intBits b) a len).reverse.length = len := by rw [List.length_reverse, hdl]
    rw [hdl] at hIq hr2
    obtain ⟨hva, hqs⟩ := dstate_val (intBits b) hb (Int.le_of_lt (lt_bits (Nat.le_refl _))) (dg (intBits b) a len).reverse (fun d hd => dg_mem (List.mem_reverse.mp hd)) len (by omega)
    obtain ⟨hr0, hr1⟩ := dstate_rem (intBits b) hb (dg (intBits b) a len).reverse len (by omega)
    have hql := dstate_len (intBits b) b (dg (intBits b) a len).reverse len (by omega)
    rw [← dval_reverse, List.take_of_length_le (by omega), List.reverse_reverse, dval_dg _ _ _ ha hvl] at hva
    rw [← hr2] at hr0 hr1 hva
    generalize (dstate (intBits b) b (dg (intBits b) a len).reverse len).1 = qs at *
    have hlq : vsq.length ≤ 1000000 := by rw [hIq.length, hql]; omega
    have hfin := kbt_unique (a := a) (q := hval (intBits b) qs) (r := r) hb (by omega) hr0 hr1
    obtain ⟨G, hG⟩ : ∃ G : List Value → Nat → List (Addr × Obj), G = fun v e => ((Dq, listOf v.toArray e) :: (D, listOf vs.toArray ep) :: led st3 st4 rest) := ⟨_, rfl⟩
    have hU : AppAll Dq G := fun v e v' e' => hG ▸ Upd.head (List.forall_mem_cons.mpr ⟨by k_ne, fun p hp => by have := ltN (lqr p hp); k_ne⟩)
    have M0 : ∀ v e, (Dq, listOf v.toArray e) ∈ G v e := fun v e => by rw [hG]; exact .head _
    have N6 : News g' L' h5 (G vsq epq) := by rw [hG]; exact N5
    clear N5
    have m0 := M0 vsq epq
    have m0' := M0 vsq.reverse epq
    have hIr : IntsAre vsq.reverse qs.reverse := IntsAre.reverse hIq
    k_extra "go"
    rename News g' _ _ _ => NX
    rw [hG] at NX
    have N8 := kst_newsOf (l' := led st3 st4 ((Dq, listOf vsq.reverse.toArray epq) :: (D, listOf vs.toArray ep) :: rest)) NX (fun p hp => by
      rcases List.mem_append.mp hp with hp | hp
      · exact .tail _ (.tail _ (List.mem_append_left _ hp))
      · rcases List.mem_append.mp hp with hp | hp
        · exact .tail _ (.tail _ (List.mem_append_right _ (List.mem_append_left _ hp)))
        · rcases List.mem_cons.mp hp with rfl | hp
          · exact .head _
          · rcases List.mem_cons.mp hp with rfl | hp
            · exact .tail _ (.head _)
            · exact .tail _ (.tail _ (List.mem_append_right _ (List.mem_append_right _ hp))))
    clear NX
    refine' ConN.use (c_d2i w mean mg mb ((Dq, listOf vsq.reverse.toArray epq) :: (D, listOf vs.toArray ep) :: rest) Dq vsq.reverse qs.reverse (intBits b) _ epq k (intBits b) (.head _) hIr (by omega) (by omega) (by rw [List.length_reverse, hql]; omega) (by rw [List.length_reverse, hql]; omega) (by omega) (fun v hv => intBits_le_iff.mpr ((natAbs_lt (hqs v (List.mem_reverse.mp hv)).1).mp (hqs v (List.mem_reverse.mp hv)).2)) (by rw [List.length_reverse, hql]; omega) st3 st4 ok3 ok4 (List.forall_mem_cons.mpr ⟨hi_of (Nat.lt_trans lD lDq), List.forall_mem_cons.mpr ⟨hi_of lD, hr⟩⟩)) ?k1 ?k2 ?k3 ?k4 ?k5 ?c1 ?c2 ?k6 ?k7 ?k8 ?_
    k_extra "conds"
    intro t' st5 st6 h' tk' ok5 ok6 F' N'
    (try k_sweep)
    (try dsimp only)
    rw [dval_reverse, hN, ← hfin.1]
    rw [fdiv_pos hb, fmod_pos hb, hfin.2] at hret
    k_extra "go"
    rename News h₀ _ _ _ => NT
    rename_i lT kF Tc kX
    exact hret _ _ _ _ st5 st6 _ _ ok5 ok6 (led_lt lT) (fun p hp => lT p (List.mem_append_right _ (List.mem_append_right _ (.tail _ (.tail _ hp))))) (by k_asm) (kst_newsOf NT (List.forall_mem_cons.mpr ⟨.head _, fun p hp => .tail _ (led_mono (fun p hp => .tail _ (.tail _ hp)) p hp)⟩))

end
section

theorem idm_neg {a b : Int} (hb : 0 < b) : -(((-a - 1).fdiv b)) - 1 = a.fdiv b ∧ b + (-((-a - 1).fmod b) - 1) = a.fmod b := by
  have h1 := Int.mul_ediv_add_emod (-a - 1) b
  have h2 := Int.emod_nonneg (-a - 1) (by omega : b ≠ 0)
  have h3 := Int.emod_lt_of_pos (-a - 1) hb
  rw [fdiv_pos hb, fmod_pos hb, fdiv_pos hb, fmod_pos hb]
  have e : b * (-((-a - 1) / b) - 1) = -(b * ((-a - 1) / b)) - b := by rw [Int.mul_sub, Int.mul_neg, Int.mul_one]
  have := kbt_unique (a := a) (q := -((-a - 1) / b) - 1) (r := b + (-((-a - 1) % b) - 1)) hb (by omega) (by omega) (by omega)
  exact ⟨this.1.symm, this.2.symm⟩
theorem idm_flip (a b : Int) : (-a).fdiv (-b) = a.fdiv b ∧ -((-a).fmod (-b)) = a.fmod b := by
  refine ⟨Int.neg_fdiv_neg .., ?_⟩
  have h := Int.neg_fmod_neg a b
  rw [h, Int.neg_neg]
set_option maxHeartbeats 4000000 in
theorem c_idm_pos (w : World) (mean : ExcName → Option Value) (mg mb : Str → Option Value) (rest : List (Addr × Obj)) (a b : Int) (t0 t1 : Tok) (k len : Nat)
    (ha : 0 ≤ a) (hb : 0 < b) (hn : (intBits b : Int) ≤ 16000) (hlen : ((intBits a : Int) + intBits b - 1).fdiv (intBits b) = len) (hl : len ≤ 500) (hk2 : len ≤ 2 ^ k) (hs : (intBits b : Int) * len ≤ 5000000) :
    ConT w mean mg mb rest 91 [.int a t0, .int b t1] (k + 11) (3 * k + 70) (RetT2 (a.fdiv b) (a.fmod b)) := by
  intro st1 st2 ok1 ok2 hr
  k_extra "enterP"
  have hb0 : b ≠ 0 := by omega
  have hb1 : ¬ b < 0 := by omega
  have ha1 : ¬ a < 0 := by omega
  k_extra "go"
  · exfalso; omega
  refine' ConN.use (c_dmp w mean mg mb rest a b _ _ k len ha hb hn hlen hl hk2 hs st1 st2 ok1 ok2 hr) ?k1 ?k2 ?k3 ?k4 ?k5 ?c1 ?c2 ?k6 ?k7 ?k8 ?_
  k_extra "conds"
  intro D u1 u2 c st3 st4 h2 tk2 ok3 ok4 lD lDr F2 N2
  (try dsimp only)
  k_extra "go"
  exact hret _ _ _ _ st3 st4 _ _ ok3 ok4 lD lDr (by k_asm) (by k_asm)
set_option maxHeartbeats 4000000 in
/-- a below nought, over the call that it makes -/
theorem c_idm_neg (w : World) (mean : ExcName → Option Value) (mg mb : Str → Option Value) (rest : List (Addr × Obj)) (a b : Int) (t0 t1 : Tok) (d u : Nat)
    (ha : a < 0) (hb : 0 < b) (C : ∀ t t', ConT w mean mg mb rest 91 [.int (-a - 1) t, .int b t'] d u (RetT2 ((-a - 1).fdiv b) ((-a - 1).fmod b))) :
    ConT w mean mg mb rest 91 [.int a t0, .int b t1] (d + 1) (u + 10) (RetT2 (a.fdiv b) (a.fmod b)) := by
  intro st1 st2 ok1 ok2 hr
  k_extra "enterP"
  have hb0 : b ≠ 0 := by omega
  have hb1 : ¬ b < 0 := by omega
  k_extra "go"
  · exfalso; omega
  refine' ConN.use (C _ _ st1 st2 ok1 ok2 hr) ?k1 ?k2 ?k3 ?k4 ?k5 ?c1 ?c2 ?k6 ?k7 ?k8 ?_
  k_extra "conds"
  intro D u1 u2 c st3 st4 h2 tk2 ok3 ok4 lD lDr F2 N2
  (try dsimp only)
  k_extra "go"
  rename_i lT kF kN Tc kX
  obtain ⟨lT1, lT2⟩ := lT
  have lT2 := kst_ltOf lT2
  rw [← (idm_neg (a := a) hb).1, ← (idm_neg (a := a) hb).2] at hret
  exact hret _ _ _ _ st3 st4 _ _ ok3 ok4 (Nat.lt_trans lD lT1) (fun p hp => Nat.lt_trans (lDr p hp) lT1) kF (kst_newsOf kN (List.forall_mem_cons.mpr ⟨.head _, fun p hp => .tail _ (.tail _ hp)⟩))
set_option maxHeartbeats 4000000 in
/-- b below nought, over the call that it makes -/
theorem c_idm_b (w : World) (mean : ExcName → Option Value) (mg mb : Str → Option Value) (rest : List (Addr × Obj)) (a b : Int) (t0 t1 : Tok) (d u : Nat)
    (hb : b < 0) (C : ∀ t t', ConT w mean mg mb rest 91 [.int (-a) t, .int (-b) t'] d u (RetT2 ((-a).fdiv (-b)) ((-a).fmod (-b)))) :
    ConT w mean mg mb rest 91 [.int a t0, .int b t1] (d + 1) (u + 10) (RetT2 (a.fdiv b) (a.fmod b)) := by
  intro st1 st2 ok1 ok2 hr
  k_extra "enterP"
  have hb0 : b ≠ 0 := by omega
  k_extra "go"
  · exfalso; omega
  refine' ConN.use (C _ _ st1 st2 ok1 ok2 hr) ?k1 ?k2 ?k3 ?k4 ?k5 ?c1 ?c2 ?k6 ?k7 ?k8 ?_
  k_extra "conds"
  intro D u1 u2 c st3 st4 h2 tk2 ok3 ok4 lD lDr F2 N2
  (try dsimp only)
  k_extra "go"
  rename_i lT kF kN Tc kX
  obtain ⟨lT1, lT2⟩ := lT
  have lT2 := kst_ltOf lT2
  rw [← (idm_flip a b).1, ← (idm_flip a b).2] at hret
  exact hret _ _ _ _ st3 st4 _ _ ok3 ok4 (Nat.lt_trans lD lT1) (fun p hp => Nat.lt_trans (lDr p hp) lT1) kF (kst_newsOf kN (List.forall_mem_cons.mpr ⟨.head _, fun p hp => .tail _ (.tail _ hp)⟩))

end
section
theorem ConN.mono {w : World} {mean : ExcName → Option Value} {mg mb : Str → Option Value} {news : List (Addr × Obj)} {f : Addr} {vs : List Value} {d u d' u' : Nat} {P : Heap → Addr → (Str → Option Value) → Shared → (Value → Shared → Prop) → Prop}
    (C : ConN w mean mg mb news f vs d u P) (hd : d ≤ d') (hu : u ≤ u') : ConN w mean mg mb news f vs d' u' P := by
  intro dp un gd cn cs a ccd cl outer A₀ base h₀ L m s Q E B F X N T C1 C2 hk h1 h2 hP
  exact C _ _ _ _ _ _ _ _ _ _ _ _ _ _ _ _ _ B F X N T C1 C2 hk (by omega) (by omega) hP
theorem ConT.mono {w : World} {mean : ExcName → Option Value} {mg mb : Str → Option Value} {rest : List (Addr × Obj)} {f : Addr} {vs : List Value} {d u d' u' : Nat} {P : List (Addr × Obj) → Heap → Addr → (Str → Option Value) → Shared → (Value → Shared → Prop) → Prop}
    (C : ConT w mean mg mb rest f vs d u P) (hd : d ≤ d') (hu : u ≤ u') : ConT w mean mg mb rest f vs d' u' P := fun a b h1 h2 hr => ConN.mono (C a b h1 h2 hr) hd hu
theorem bits_neg (a : Int) : intBits (-a) = intBits a := by
  have : ∀ x : Int, intBits (-x) ≤ intBits x := fun x => intBits_le_of_natAbs (by omega) (Nat.le_refl _)
  exact Nat.le_antisymm (this a) (by have := this (-a); rwa [Int.neg_neg] at this)
theorem bits_pos {b : Int} (h : b ≠ 0) : 1 ≤ intBits b := by
  refine Nat.not_lt.mp fun g => ?_
  have h0 : intBits b ≤ 0 := by omega
  have := intBits_le_iff.mp h0
  simp at this; omega
theorem len_cast {x n : Nat} (hn : 1 ≤ n) : ((x : Int) + n - 1).fdiv n = (((x + n - 1) / n : Nat) : Int) := by
  rw [fdiv_pos (by omega), Int.natCast_ediv]
  congr 1
  omega
/-- int_divmod, by any divisor but nought -/
theorem c_idm_0 (w : World) (mean : ExcName → Option Value) (mg mb : Str → Option Value) (rest : List (Addr × Obj)) (a b : Int) (t0 t1 : Tok) (k : Nat)
    (ha : 0 ≤ a) (hb : 0 < b) (hn : intBits b ≤ 16000) (hA : intBits a ≤ 4000000) (hl : (intBits a + intBits b - 1) / intBits b ≤ 500) (hk : (intBits a + intBits b - 1) / intBits b ≤ 2 ^ k) :
    ConT w mean mg mb rest 91 [.int a t0, .int b t1] (k + 11) (3 * k + 70) (RetT2 (a.fdiv b) (a.fmod b)) := by
  have hb1 := bits_pos (Int.ne_of_gt hb)
  refine c_idm_pos w mean mg mb rest a b t0 t1 k ((intBits a + intBits b - 1) / intBits b) ha hb (by omega) (len_cast hb1) hl hk ?_
  have h2 := Nat.mul_div_le (intBits a + intBits b - 1) (intBits b)
  have h3 : ((intBits b * ((intBits a + intBits b - 1) / intBits b) : Nat) : Int) = (intBits b : Int) * (((intBits a + intBits b - 1) / intBits b : Nat) : Int) := Int.natCast_mul _ _
  omega
theorem c_idm_1 (w : World) (mean : ExcName → Option Value) (mg mb : Str → Option Value) (rest : List (Addr × Obj)) (a b : Int) (t0 t1 : Tok) (k : Nat)
    (hb : 0 < b) (hn : intBits b ≤ 16000) (hA : intBits a ≤ 4000000) (hl : (intBits a + intBits b - 1) / intBits b ≤ 500) (hk : (intBits a + intBits b - 1) / intBits b ≤ 2 ^ k) :
    ConT w mean mg mb rest 91 [.int a t0, .int b t1] (k + 12) (3 * k + 80) (RetT2 (a.fdiv b) (a.fmod b)) := by
  by_cases ha : 0 ≤ a
  · exact (c_idm_0 w mean mg mb rest a b t0 t1 k ha hb hn hA hl hk).mono (by omega) (by omega)
  · have hb1 := bits_pos (Int.ne_of_gt hb)
    have e : intBits (-a - 1) ≤ intBits a := intBits_le_of_natAbs (by omega) (Nat.le_refl _)
    have e2 : (intBits (-a - 1) + intBits b - 1) / intBits b ≤ (intBits a + intBits b - 1) / intBits b := Nat.div_le_div_right (by omega)
    exact c_idm_neg w mean mg mb rest a b t0 t1 (k + 11) (3 * k + 70) (by omega) hb fun t t' => c_idm_0 w mean mg mb rest (-a - 1) b t t' k (by omega) hb hn (by omega) (by omega) (by omega)
theorem c_idm (w : World) (mean : ExcName → Option Value) (mg mb : Str → Option Value) (rest : List (Addr × Obj)) (a b : Int) (t0 t1 : Tok) (k : Nat)
    (hb : b ≠ 0) (hn : intBits b ≤ 16000) (hA : intBits a ≤ 4000000) (hl : (intBits a + intBits b - 1) / intBits b ≤ 500) (hk : (intBits a + intBits b - 1) / intBits b ≤ 2 ^ k) :
    ConT w mean mg mb rest 91 [.int a t0, .int b t1] (k + 13) (3 * k + 90) (RetT2 (a.fdiv b) (a.fmod b)) := by
  by_cases h : 0 < b
  · exact (c_idm_1 w mean mg mb rest a b t0 t1 k h hn hA hl hk).mono (by omega) (by omega)
  · refine c_idm_b w mean mg mb rest a b t0 t1 (k + 12) (3 * k + 80) (by omega) fun t t' => ?_
    rw [← bits_neg a, ← bits_neg b] at hl hk
    rw [← bits_neg b] at hn
    rw [← bits_neg a] at hA
    exact c_idm_1 w mean mg mb rest (-a) (-b) t t' k (by omega) hn hA hl hk

end
section
theorem dg_bits0 : ∀ n : Fin 512, dg 1 (n.val : Int) (intBits (n.val : Int)) = (bitsL 9 n.val).map Int.ofNat := by decide +kernel
theorem dg_bits {n : Nat} (h : n < 512) : dg 1 (n : Int) (intBits (n : Int)) = (bitsL 9 n).map Int.ofNat := dg_bits0 ⟨n, h⟩
theorem dg_ones0 : ∀ n : Fin 512, (dg 1 (n.val : Int) (intBits (n.val : Int))).sum = (ones1 9 n.val : Int) := by decide +kernel
theorem dg_ones {n : Nat} (h : n < 512) : (dg 1 (n : Int) (intBits (n : Int))).sum = (ones1 9 n : Int) := dg_ones0 ⟨n, h⟩
theorem top_bit0 : ∀ n : Fin 512, ((bitsL 9 n.val).map Int.ofNat).drop (((bitsL 9 n.val).map Int.ofNat).length - 1) ≠ [0] := by decide +kernel
theorem top_bit {n : Nat} (h : n < 512) : ((bitsL 9 n).map Int.ofNat).drop (((bitsL 9 n).map Int.ofNat).length - 1) ≠ [0] := top_bit0 ⟨n, h⟩
theorem bits_len : ∀ (f n : Nat), (bitsL f n).length ≤ f
  | 0, _ => Nat.le_refl _
  | f + 1, n => by
    unfold bitsL
    split
    · exact Nat.zero_le _
    · have := bits_len f (n / 2)
      simp only [List.length_cons]; omega
noncomputable def thAt (l : List Nat) (i : Nat) : Nat × Nat := (l.take i).foldl thStep (0, 0)
theorem thAt_succ (l : List Nat) (i : Nat) (h : i < l.length) : thAt l (i + 1) = thStep (thAt l i) (l.getD i 0) := by
  unfold thAt
  rw [List.take_add_one, List.getElem?_eq_getElem h, List.foldl_append, List.getD_eq_getElem?_getD, List.getElem?_eq_getElem h]
  rfl
theorem thAt_lt (l : List Nat) : ∀ i, i ≤ l.length → (thAt l i).2 < 2 ^ i
  | 0, _ => by simp [thAt]
  | i + 1, h => by
    have ih := thAt_lt l i (by omega)
    rw [thAt_succ l i (by omega), thStep, Nat.pow_succ]
    split
    · show 2 * (thAt l i).2 + 1 < _; omega
    · split
      · show 0 < _; have := Nat.two_pow_pos i; omega
      · omega
theorem thAt_end (n : Nat) : (thAt (bitsL 9 n ++ [0]) (bitsL 9 n ++ [0]).length).1 = thirdsN n := by
  unfold thAt thirdsN
  rw [List.take_of_length_le (Nat.le_refl _)]

end
section

/-- it gives back a bool -/
noncomputable abbrev RetB (v : Bool) (h₀ : Heap) (L : Addr) (m : Str → Option Value) (news : List (Addr × Obj)) (s : Shared) (Q : Value → Shared → Prop) : Prop :=
  ∀ (h' : Heap) (tk' : Nat), Fr h₀ L h' m → News h₀ L h' news → Q (.bool v) { s with heap := h', toks := tk' }
noncomputable def es39 (P : Params) : List (Int × Value) := match (ob39 P).data with | .set es _ _ => es.toList | _ => []
noncomputable def b1N : List Int := [65024, 65025, 65026, 65027, 65028, 65029, 6150, 65030, 65031, 65032, 65033, 6155, 6156, 6157, 8203, 8204, 8205, 65034, 65035, 65036, 65037, 65038, 65039, 173, 847, 8288, 65279]
noncomputable def isB1 (k : Int) : Bool := decide (k ∈ b1N)
theorem es39_map (P : Params) : (es39 P).map (·.1) = b1N := rfl
theorem es39_int (P : Params) : ∀ e ∈ es39 P, (∃ t, e.2 = .int e.1 t) ∧ hashInt e.1 = e.1 := by
  have : (es39 P).all (fun e => (match e.2 with | .int v _ => v == e.1 | _ => false) && hashInt e.1 == e.1) = true := by with_unfolding_all rfl
  intro e he
  have := List.all_eq_true.mp this e he
  obtain ⟨a, b⟩ := e
  cases b <;> simp at this
  exact ⟨⟨_, by rw [this.1]⟩, this.2⟩
theorem set39 {w : World} {h : Heap} (X : (KF w.params).In h) : h.SetOf (intKind pr w) 39 isB1 27 := by
  refine ⟨ob39 w.params, (es39 w.params).toArray, _, _, X 39 _ rfl, ⟨rfl, rfl, rfl⟩, rfl, ?_, ?_, (by show (es39 w.params).length < 4096; exact (by decide : 27 < 4096)), rfl, rfl⟩
  · intro e he
    obtain ⟨⟨t, h1⟩, h2⟩ := es39_int w.params e he
    exact ⟨⟨e.1, by rw [h1]; simp [intKind, Value.isInt], h2.symm⟩, by rw [h1]; rfl⟩
  · intro k
    rw [isB1, decide_eq_true_eq, ← es39_map w.params, List.mem_map]
    constructor
    · rintro ⟨e, he, rfl⟩
      obtain ⟨⟨t, h1⟩, h2⟩ := es39_int w.params e he
      exact ⟨e, he, by rw [h1]; simp [intKind, Value.isInt]⟩
    · rintro ⟨e, he, h⟩
      obtain ⟨⟨t, h1⟩, h2⟩ := es39_int w.params e he
      rw [h1] at h
      exact ⟨e, he, by simpa [intKind, Value.isInt] using h⟩
theorem inSet39 {w : World} {A : Around} {E : Value → Shared → Prop} {s : Shared} {h₀ : Heap} {L : Addr} {m : Str → Option Value} {k : Int} {t : Tok} {Q : Value → Shared → Prop} (F : Fr h₀ L s.heap m) (X : (KF w.params).In h₀)
    (h : Q (.bool (isB1 k)) { s with toks := s.toks + 1 }) : wpAny (model pr w) A (compareOp .In (.int k t) (.ref 39)) Q E s :=
  wpAny_inSet_of (knd := intKind pr w) (by simp [intKind, Value.isInt]) rfl (set39 (X.keeps F.keep)) h
local macro_rules | `(tactic| walk_at "call builtin:ord") => `(tactic| refine P.ord_of_char ?_)
set_option maxHeartbeats 4000000 in
theorem c_b1 (w : World) (mean : ExcName → Option Value) (mg mb : Str → Option Value) (c : Nat) (t : Tok) :
    Con w mean mg mb 49 [.str ⟨#[c]⟩ t] 1 10 (RetB (isB1 c)) := by
  k_extra "enter"
  k_extra "go"
  refine inSet39 (by k_asm) (by k_asm) ?_
  k_extra "go"
  exact hret _ _ (by k_asm) (by k_asm)


end
section

/-- it gives back a str -/
noncomputable abbrev RetS (v : List Nat) (h₀ : Heap) (L : Addr) (m : Str → Option Value) (news : List (Addr × Obj)) (s : Shared) (Q : Value → Shared → Prop) : Prop :=
  ∀ (t : Tok) (h' : Heap) (tk' : Nat), Fr h₀ L h' m → News h₀ L h' news → Q (.str ⟨v.toArray⟩ t) { s with heap := h', toks := tk' }
theorem norm_len : ∀ (l : List Nat) (b : Bool), (norm b l).length ≤ 2 * l.length := by
  intro l
  induction l with
  | nil => intro b; exact Nat.le_refl _
  | cons c r ih =>
    intro b
    have h1 := ih false
    have h2 := ih true
    show (if _ then _ else _ : List Nat).length ≤ _
    simp only [List.length_cons]
    split
    · omega
    · split
      · simp only [List.length_cons]; omega
      · split
        · simp only [List.length_cons]; omega
        · simp only [List.length_cons]; omega
theorem plainAttrs_pat : PlainAttrs "re.Pattern" :=
  ⟨⟨"object.__getattribute__", by rw [typeLookup_type, builtinLookup_eq_fast]; kernel_rfl, by decide +kernel⟩, by rw [typeLookup_type, builtinLookup_eq_fast]; kernel_rfl⟩
theorem getSub {M : Model} {A : Around} {E : Value → Shared → Prop} {s : Shared} {P : Addr} {o : Obj} {pl : Sem Bool} {Q : Value × List Value → Shared → Prop} (ho : s.heap.get? P = some o) (hc : o.cls = .type "re.Pattern") (hd : o.dict = none)
    (h : Q (.builtin "re.Pattern.sub", [.ref P]) s) : wpAny M A (getMethod (.ref P) (Str.ofString "sub") pl) Q E s :=
  getMethod_builtin ⟨o, ho, hc⟩ plainAttrs_pat slot_sub type_sub (fun b e => by injection e with e; subst e; exact ⟨o, ho, hd⟩) h
theorem pat96 {P : Params} {h : Heap} (X : (KF P).In h) : PatAt h 96 95 Mine.c1 := ⟨_, _, _, _, _, X 96 _ rfl, rfl, rfl, rfl, rfl, X 95 _ rfl, rfl, by decide +kernel⟩
theorem pat101 {P : Params} {h : Heap} (X : (KF P).In h) : PatAt h 101 100 c2p := ⟨_, _, _, _, _, X 101 _ rfl, rfl, rfl, rfl, rfl, X 100 _ rfl, rfl, by decide +kernel⟩
set_option maxHeartbeats 4000000 in
theorem c_quote (w : World) (mean : ExcName → Option Value) (mg mb : Str → Option Value) (x : List Nat) (t : Tok) (hx : x.length ≤ 400) :
    Con w mean mg mb 108 [.str ⟨x.toArray⟩ t] 1 10 (RetS (stuff true (norm false x))) := by
  k_extra "enter"
  k_extra "go"
  rename Fr _ _ _ _ => F1
  rename Frag.In (KF w.params) _ => XX
  have X1 := XX.keeps F1.keep
  refine getSub (X1 96 _ rfl) rfl rfl ?_
  clear X1
  k_extra "go"
  rename Fr _ _ _ _ => F2
  have X1 := XX.keeps F2.keep
  refine getSub (X1 101 _ rfl) rfl rfl ?_
  clear X1
  k_extra "go"
  rename Fr _ _ _ _ => F3
  rename News _ _ _ _ => N3
  have X1 := XX.keeps F3.keep
  rw [show Str.ofString "\x0d\n" = ⟨#[13, 10]⟩ by decide +kernel]
  refine wp_sub2 (by simp; omega) (pat101 X1) (X1 101 _ rfl) rfl ?_
  intro t2 h2 tk2 hk2
  have F4 := F3.keeps hk2
  have N4 := N3.keeps hk2
  clear X1 F3 N3
  rw [List.toList_toArray]
  have hnl := norm_len x false
  obtain ⟨y, hy⟩ : ∃ y, norm false x = y := ⟨_, rfl⟩
  rw [hy] at hnl hret ⊢
  (try dsimp only)
  k_extra "go"
  rename Fr _ _ _ _ => F5
  rename News _ _ _ _ => N5
  have X1 := XX.keeps F5.keep
  rw [show Str.ofString ".." = ⟨#[46, 46]⟩ by decide +kernel]
  refine wp_sub1 (by simp; omega) (pat96 X1) (X1 96 _ rfl) rfl ?_
  intro t3 h3 tk3 hk3
  have F6 := F5.keeps hk3
  have N6 := N5.keeps hk3
  clear X1 F5 N5
  rw [List.toList_toArray]
  (try dsimp only)
  k_extra "go"
  exact hret _ _ _ (by k_asm) (by k_asm)


end
section
open PySem PySem.W PyProof.Rows PyProof.Rows.LCg
section
variable {prog : Program} {w : World} {A : Around} {E : Value → Shared → Prop} {s : Shared} {h₀ : Heap} {L : Addr} {m : Str → Option Value} {env : Env}
/-- what a str gives a comprehension -/
noncomputable def SrcS (prog : Program) (w : World) (A : Around) (h₀ : Heap) (L : Addr) (m : Str → Option Value) (env : Env) (elt : Expr) (x : Str) (scope : Scope) (cl : List (Str × Addr)) (Fin : Shared → List Value → List (Addr × Obj) → Prop) (xv : Value) (s₁ : Shared) : Prop :=
  ∃ xs t news, xv = .str xs t ∧ A.handled = none ∧ Fr h₀ L s₁.heap m ∧ News h₀ L s₁.heap news ∧ xs.cps.size ≤ sizeLine ∧
    ∀ s₂ : Shared, (∃ h, s₂ = { s₁ with heap := h }) → CompRest prog w A h₀ L m env elt x scope cl s₂ (fun _ => True) (SignAt xs) (Fin s₂) xs.cps.size 0 [] news
theorem ListComp_S {elt iter : Expr} {x : Str} {px : Pos} {scope : Scope} {cl : List (Str × Addr)} {pos : Pos} {Q : Value → Shared → Prop} (_F₀ : Fr h₀ L s.heap m)
    (hclos : closureFor scope env = pure cl) (hcell : ∀ y ∈ scope.names, y.2 ≠ .cell) (hkind : scope.kind = .function)
    (hnames : ∀ y ∈ scope.names, y.2 = .local → scope.names.lookup y.1 = some .local) (hx : scope.names.lookup x = some .local)
    (h : wpAny (model prog w) A (eval iter env) (SrcS prog w A h₀ L m env elt x scope cl (fun s₂ => FinE h₀ L m s₂ Q)) E s)
    (hs : ∀ x, foldedSetIterable iter env x = pure x := by intro _; rfl) :
    wpAny (model prog w) A (eval (.ListComp elt [⟨.Name x px, iter, [], 0⟩] scope pos) env) Q E s := by
  rw [eval_ListComp]
  refine wpAny_comprehension_free (use := none) rfl hs hclos hkind hnames (wpAny_mono h (fun xv s₁ h₁ => ?_) fun _ _ e => e)
  obtain ⟨xs, t, news, rfl, hh, F, N, hsz, R⟩ := h₁
  cases ha : xs.cps.all (· < 128)
  · refine wpAny_pyIter_wide ha ?_
    have up : ∀ o b o', s₁.heap.get? b = some o' → (s₁.heap.push o).get? b = some o' := fun o b o' e => Heap.get?_push_of_some _ e
    refine block_U (Walks.strWide hh _ xs t) hsz (fun i h st => by obtain ⟨o, e, _⟩ := st; exact ⟨o, e⟩) (fun i h h' o nw st e e' _ _ _ => by obtain ⟨o', q, r⟩ := st; rw [e] at q; cases q; exact ⟨o, e', r⟩) hcell hkind hx ⟨_, Heap.get?_push_size _ rfl, rfl, rfl⟩ (fun b hb => ?_)
      (F.keeps (up _)) (N.grown (up _)) (Nat.ne_of_lt F.ns.lt) (next_is_new F) (fun p hp => Nat.ne_of_lt (Heap.lt_size (N p hp).1)) trivial (R _ ⟨_, rfl⟩) ?_
    · rw [List.mem_singleton.mp hb]
      show s₁.heap.objs.size < (s₁.heap.push _).objs.size
      rw [Heap.size_push]; exact Nat.lt_succ_self _
    · intro D C h tk m' ys news' F' N' o1 hn hC₀ hD₀ hCL hDL hCD offC fin
      refine ⟨m', hn, fun h'' hs'' => fin D h'' tk (F'.change hs'' hCL hC₀) (fun p hp => ?_) o1⟩
      refine ⟨hs''.extBut _ _ ?_ (N' p hp).1, (N' p hp).2⟩
      rcases List.mem_cons.mp hp with rfl | hp
      · exact Ne.symm hCD
      · exact offC p hp
  · refine wpAny_pyIter_ascii ha ?_
    have up : ∀ o b o', s₁.heap.get? b = some o' → (s₁.heap.push o).get? b = some o' := fun o b o' e => Heap.get?_push_of_some _ e
    refine block_U (Walks.strAscii hh _ xs t) hsz (fun i h st => by obtain ⟨o, e, _⟩ := st; exact ⟨o, e⟩) (fun i h h' o nw st e e' _ _ _ => by obtain ⟨o', q, r⟩ := st; rw [e] at q; cases q; exact ⟨o, e', r⟩) hcell hkind hx ⟨_, Heap.get?_push_size _ rfl, rfl, rfl⟩ (fun b hb => ?_)
      (F.keeps (up _)) (N.grown (up _)) (Nat.ne_of_lt F.ns.lt) (next_is_new F) (fun p hp => Nat.ne_of_lt (Heap.lt_size (N p hp).1)) trivial (R _ ⟨_, rfl⟩) ?_
    · rw [List.mem_singleton.mp hb]
      show s₁.heap.objs.size < (s₁.heap.push _).objs.size
      rw [Heap.size_push]; exact Nat.lt_succ_self _
    · intro D C h tk m' ys news' F' N' o1 hn hC₀ hD₀ hCL hDL hCD offC fin
      refine ⟨m', hn, fun h'' hs'' => fin D h'' tk (F'.change hs'' hCL hC₀) (fun p hp => ?_) o1⟩
      refine ⟨hs''.extBut _ _ ?_ (N' p hp).1, (N' p hp).2⟩
      rcases List.mem_cons.mp hp with rfl | hp
      · exact Ne.symm hCD
      · exact offC p hp
theorem rest_inv {elt : Expr} {x : Str} {scope : Scope} {cl : List (Str × Addr)} {S : List (Addr × Obj) → Prop} {P : Nat → Value → Prop} {Fin : List Value → List (Addr × Obj) → Prop} {n : Nat} {news : List (Addr × Obj)} (J : Nat → List Value → List (Addr × Obj) → Prop)
    (h0 : J 0 [] news)
    (turn : ∀ i ys nw v I oI C oC D m₂ h tk (E' : Value → Shared → Prop), i < n → J i ys nw → P i v → NsObj oC m₂ → m₂ x = some v → Fr h₀ L h m → News h₀ L h ((I, oI) :: (C, oC) :: (D, lst ys) :: nw) → Off3 I C D nw → ((@Ne Nat I C) ∧ (@Ne Nat I D) ∧ (@Ne Nat C D)) →
      wpAny (model prog w) A (eval elt (compEnvC scope cl C env)) (CompEnd h₀ L m { s with heap := h, toks := tk } I oI C oC D (lst ys) S (fun y nw' => J (i + 1) (ys ++ [y]) nw')) E' { s with heap := h, toks := tk })
    (fin : ∀ ys nw, J n ys nw → Fin ys nw) : CompRest prog w A h₀ L m env elt x scope cl s S P Fin n 0 [] news := by
  have key : ∀ (j i : Nat) (ys : List Value) (nw : List (Addr × Obj)), i + j = n → J i ys nw → CompRest prog w A h₀ L m env elt x scope cl s S P Fin j i ys nw := by
    intro j
    induction j with
    | zero => intro i ys nw hi hJ; rw [show i = n by omega] at hJ; exact CompRest.zero (fin ys nw hJ)
    | succ j ih =>
      intro i ys nw hi hJ
      refine CompRest.succ ?_
      intro v I oI C oC D m₂ h tk E' hv hC hx F N off ne
      refine wpAny_mono (turn i ys nw v I oI C oC D m₂ h tk E' (by omega) hJ hv hC hx F N off ne) (fun y s₂ hq => ?_) fun _ _ e => e
      obtain ⟨h', tk', nw', e, F', N', off', hS, hJ'⟩ := hq
      exact ⟨h', tk', nw', e, F', N', off', hS, ih (i + 1) _ _ (by omega) hJ'⟩
  exact key n 0 [] news (by omega) h0
theorem restT_inv {ct elt : Expr} {x : Str} {scope : Scope} {cl : List (Str × Addr)} {S : List (Addr × Obj) → Prop} {P : Nat → Value → Prop} {Fin : List Value → List (Addr × Obj) → Prop} {n : Nat} {news : List (Addr × Obj)} (J : Nat → List Value → List (Addr × Obj) → Prop)
    (h0 : J 0 [] news)
    (turn : ∀ i ys nw v I oI C oC D m₂ h tk (E' : Value → Shared → Prop), i < n → J i ys nw → P i v → NsObj oC m₂ → m₂ x = some v → Fr h₀ L h m → News h₀ L h ((I, oI) :: (C, oC) :: (D, lst ys) :: nw) → Off3 I C D nw → ((@Ne Nat I C) ∧ (@Ne Nat I D) ∧ (@Ne Nat C D)) →
      wpAny (model prog w) A (isTrue ct (compEnvC scope cl C env) (eval ct (compEnvC scope cl C env))) (fun ok s' => if ok = true then
        wpAny (model prog w) A (eval elt (compEnvC scope cl C env)) (CompEnd h₀ L m { s with heap := h, toks := tk } I oI C oC D (lst ys) S (fun y nw' => J (i + 1) (ys ++ [y]) nw')) E' s'
        else CompEnd h₀ L m { s with heap := h, toks := tk } I oI C oC D (lst ys) S (fun _ nw' => J (i + 1) ys nw') Value.none s') E' { s with heap := h, toks := tk })
    (fin : ∀ ys nw, J n ys nw → Fin ys nw) : LCt.CompRestT prog w A h₀ L m env ct elt x scope cl s S P Fin n 0 [] news := by
  have key : ∀ (j i : Nat) (ys : List Value) (nw : List (Addr × Obj)), i + j = n → J i ys nw → LCt.CompRestT prog w A h₀ L m env ct elt x scope cl s S P Fin j i ys nw := by
    intro j
    induction j with
    | zero => intro i ys nw hi hJ; rw [show i = n by omega] at hJ; exact LCt.CompRestT.zero (fin ys nw hJ)
    | succ j ih =>
      intro i ys nw hi hJ
      refine LCt.CompRestT.succ ?_
      intro v I oI C oC D m₂ h tk E' hv hC hx F N off ne
      refine wpAny_mono (turn i ys nw v I oI C oC D m₂ h tk E' (by omega) hJ hv hC hx F N off ne) (fun ok s₂ hq => ?_) fun _ _ e => e
      cases ok with
      | true =>
        simp only [if_true] at hq ⊢
        refine wpAny_mono hq (fun y s₃ hq => ?_) fun _ _ e => e
        obtain ⟨h', tk', nw', e, F', N', off', hS, hJ'⟩ := hq
        exact ⟨h', tk', nw', e, F', N', off', hS, ih (i + 1) _ _ (by omega) hJ'⟩
      | false =>
        simp only [Bool.false_eq_true, if_false] at hq ⊢
        obtain ⟨h', tk', nw', e, F', N', off', hS, hJ'⟩ := hq
        exact ⟨h', tk', nw', e, F', N', off', hS, ih (i + 1) _ _ (by omega) hJ'⟩
  exact key n 0 [] news (by omega) h0
end

end
section

theorem kf_small {n : Nat} (h : n ≤ 400) : Builtin.Range.small 0 (n : Int) 1 = true := by
  exact small_one (by omega) (by omega) (by omega) (by omega)
theorem itemV {prog : Program} {w : World} {A : Around} {E : Value → Shared → Prop} {s : Shared} {h₀ : Heap} {L : Addr} {news : List (Addr × Obj)} {value slice : Expr} {l : Addr} {vs : List Value} {k : Int} {u : Tok} {v : Value} {ep : Nat} {Q : Value → Shared → Prop} (N : News h₀ L s.heap news) (hm : (l, listOf vs.toArray ep) ∈ news)
    (h0 : 0 ≤ k) (h1 : k < 2 ^ 63) (hx : vs[k.toNat]? = some v) (h : Q v s)
    (hs : subscripted slice false (.ref l) (.int k u) = operate [.ref l, .int k u] (getItem (.ref l) (.int k u)) := by with_unfolding_all rfl) :
    wpAny (model prog w) A (subscriptTail value slice (.ref l) (.int k u)) Q E s := by
  have hL := N.isList hm
  exact tail_any hL.typeIs slot_list_getitem.lookup (wpAny_getItem_list hL h0 h1 (by simpa using hx) h) hs
theorem item_one (x : List Nat) (i : Nat) (h : i < x.length) : Txt.item ⟨x.toArray⟩ (0 + (i : Int)) = ⟨#[x[i]]⟩ := by
  exact item_meets (by omega) (by simp [h])
theorem join_onesM (l : List Nat) : Txt.join (Str.ofString "") (l.map fun c => (⟨#[c]⟩ : Str)) = ⟨l.toArray⟩ := by
  rw [show Str.ofString "" = ⟨#[]⟩ by decide +kernel]
  exact (eq_of_beq (join_closes rfl)).trans (PyProof.Rows.join_ones l)
theorem sum_ones {α : Type} (l : List α) : (l.map fun _ => 1).sum = l.length := by
  induction l with
  | nil => rfl
  | cons a r ih => rw [List.map_cons, List.sum_cons, ih, List.length_cons]; omega
theorem apart_of {c : Addr} : ∀ {l : List (Addr × Obj)}, (∀ p ∈ l, p.1 ≠ c) → ApartOr c l
  | [], _ => trivial
  | _ :: _, h => ⟨.inl (h _ List.mem_cons_self), apart_of fun p hp => h p (List.mem_cons_of_mem _ hp)⟩
open PyProof.Rows.LCg in
set_option maxHeartbeats 4000000 in
theorem c_prep (w : World) (mean : ExcName → Option Value) (mg mb : Str → Option Value) (x : List Nat) (t : Tok) (hx : x.length ≤ 400) :
    Con w mean mg mb 113 [.str ⟨x.toArray⟩ t] 3 200 (RetS (x.filter fun c => !isB1 c)) := by
  k_extra "enterC"
  rename_i oT oX dT dX
  have dX2 : oX.data = .cell (some (.str ⟨x.toArray⟩ t)) := dX
  walk1
  walk1
  refine ListComp_S (by k_asm) (by with_unfolding_all rfl) (by decide) (by rfl) (by decide) (by rfl) ?_
  walk1
  refine ⟨_, _, _, rfl, rfl, by k_asm, by k_asm, (by show x.toArray.size ≤ sizeLine; rw [List.size_toArray]; exact Nat.le_trans hx (by decide)), ?_⟩
  rintro s₂ ⟨h₂, rfl⟩
  refine rest_inv (J := fun i ys nw => nw = _ ∧ ys = (x.take i).map fun c : Nat => Value.bool (isB1 c)) ⟨rfl, rfl⟩ ?turn ?fin
  case turn =>
    rintro i ys nw v I oI C oC D m₂ h3 tk3 E' hi ⟨rfl, rfl⟩ ⟨c, u, hcx, rfl⟩ hC hxs F3 N3 off ne
    k_extra "go"
    refine' Con.use (c_b1 w mean mg mb c _) ?k1 ?k2 ?k3 ?k4 ?k5 ?c1 ?c2 ?k6 ?k7 ?k8 ?_
    k_extra "conds"
    intro h4 tk4 F4 N4
    refine CompEnd.intro F4 N4 _ (fun p hp => hp) off trivial ⟨rfl, ?_⟩
    rw [List.getElem?_toArray] at hcx
    rw [List.take_add_one, hcx]
    simp
  case fin =>
    rintro ys nw ⟨rfl, rfl⟩
    rw [List.take_of_length_le (by simp)]
    unfold FinE
    intro D h5 tk5 F5 N5 o1
    (try dsimp only)
    refine stCNk (own := [_]) F5 N5 rfl dT ⟨.inr (fun _ hh => nomatch hh), trivial⟩ ⟨.inl (Nat.ne_of_lt (Nat.lt_succ_self _)), apart_of fun p hp => Nat.ne_of_lt (Nat.lt_of_lt_of_le (l1 p hp) (by omega))⟩ ?_
    intro h6 oT2 F6 N6 dT2
    clear F5 N5 dT
    (try dsimp only)
    walk1
    walk1
    walk1
    refine LCt.ListComp_T (F₀ := by k_asm) (by with_unfolding_all rfl) (by decide) (by rfl) (by decide) (by rfl) ?_
    walk1
    refine LCt.CompSrcT.ledger rfl (by k_asm) (by k_asm) (.head _) (by rw [List.size_toArray, List.length_map]; exact Nat.le_trans hx (by decide)) ?_
    intro g7
    refine restT_inv (J := fun i ys nw => nw = _ ∧ ys = []) ⟨rfl, rfl⟩ ?turn2 ?fin2
    case turn2 =>
      rintro i ys nw v I oI C oC D2 m₂ h8 tk8 E' hi ⟨rfl, rfl⟩ hv hC hxs F8 N8 off ne
      obtain ⟨bb, rfl⟩ : ∃ bb : Bool, v = .bool bb := by
        rw [List.getElem?_toArray, List.getElem?_map] at hv
        cases hq : x[i]? with
        | none => rw [hq] at hv; cases hv
        | some c => rw [hq] at hv; exact ⟨_, (Option.some.inj hv).symm⟩
      cases bb
      · k_extra "go"
        exact CompEnd.intro F8 N8 _ (fun p hp => hp) off (.inr ⟨_, .head _, rfl, _, rfl⟩) ⟨rfl, rfl⟩
      · k_extra "go"
        exact CompEnd.intro F8 N8 _ (fun p hp => hp) off (.inr ⟨_, .head _, rfl, _, rfl⟩) ⟨rfl, rfl⟩
    case fin2 =>
      rintro ys nw ⟨rfl, rfl⟩
      unfold FinE
      intro D3 h9 tk9 F9 N9 o3
      (try dsimp only)
      k_extra "goL"
      rename News g' _ _ _ => NX
      have N10 := kst_newsOf (l' := (D, lst (x.map fun c : Nat => Value.bool (isB1 c))) :: (L' + 1 + 1, oT2) :: (L' + 1, oX) :: news) NX (fun p hp => .tail _ (.tail _ hp))
      clear NX
      refine LCt.ListComp_T (F₀ := by k_asm) (by with_unfolding_all rfl) (by decide) (by rfl) (by decide) (by rfl) ?_
      k_extra "goL"
      have hxl : (Str.mk x.toArray).length = x.length := by show x.toArray.size = _; rw [List.size_toArray]
      refine len_str (by rw [hxl]; omega) ?_
      rw [hxl]
      (try dsimp only)
      k_extra "goL"
      refine LCt.CompSrcT.range (n := x.length) rfl (by k_asm) (by k_asm) (by assumption) (kf_small hx) (rangeSize_nat _ _) (Nat.le_trans hx (by decide)) ?_
      intro g10
      refine restT_inv (J := fun i ys nw => nw = _ ∧ StrsAre ys (((x.take i).filter fun c : Nat => !isB1 c).map fun c => (⟨#[c]⟩ : Str))) ⟨rfl, .nil⟩ ?turn3 ?fin3
      case turn3 =>
        rintro i ys nw v I oI C oC D4 m₂ h11 tk11 E' hi ⟨rfl, hys⟩ ⟨t9, rfl⟩ hC hxs F11 N11 off ne
        have hxi : x[i]? = some x[i] := List.getElem?_eq_getElem hi
        k_extra "go"
        refine itemV N11 (.tail _ (.tail _ (.tail _ (.head _)))) (by omega) (by omega) (v := .bool (isB1 x[i])) (by simp [hxi]) ?_
        have hnext : (x.take (i + 1)).filter (fun c : Nat => !isB1 c) = (x.take i).filter (fun c : Nat => !isB1 c) ++ if isB1 x[i] then [] else [x[i]] := by
          rw [List.take_add_one, hxi, List.filter_append]
          cases hb : isB1 x[i] <;> simp [hb]
        generalize isB1 x[i] = bi at *
        cases bi
        · k_extra "go"
          rw [item_one x i hi]
          refine CompEnd.intro F11 N11 _ (fun p hp => hp) off trivial ⟨rfl, ?_⟩
          rw [hnext]
          simpa using StrsAre.append' hys (.cons _ _ .nil)
        · k_extra "go"
          refine CompEnd.intro F11 N11 _ (fun p hp => hp) off trivial ⟨rfl, ?_⟩
          rw [hnext]
          simpa using hys
      case fin3 =>
        rintro ys nw ⟨rfl, hys⟩
        rw [List.take_of_length_le (Nat.le_refl _)] at hys
        unfold FinE
        intro D5 h12 tk12 F12 N12 o5
        (try dsimp only)
        k_extra "goL"
        have hlen : ((x.filter fun c : Nat => !isB1 c).map fun c => (⟨#[c]⟩ : Str)).length ≤ 400 := by rw [List.length_map]; exact Nat.le_trans (List.length_filter_le _ _) hx
        refine join_list (N12.isList (.head _)) (by simpa using hys) ?_ ?_
        · have e1 : (Str.ofString "").length = 0 := by decide +kernel
          have e2 : (((x.filter fun c : Nat => !isB1 c).map fun c => (⟨#[c]⟩ : Str)).map (·.length)).sum ≤ 400 := by
            rw [List.map_map]
            have : (Str.length ∘ fun c => (⟨#[c]⟩ : Str)) = fun _ => 1 := rfl
            rw [this, sum_ones]
            rw [List.length_map] at hlen
            exact hlen
          rw [e1]
          omega
        intro t13 tk13
        rw [join_onesM]
        (try dsimp only)
        k_extra "go"
        rename News h₀ _ _ _ => NT
        exact hret _ _ _ (by k_asm) (kst_newsOf NT (fun p hp => .tail _ (.tail _ (.tail _ (.tail _ hp)))))

end
section

set_option maxHeartbeats 4000000 in
theorem c_thirds (w : World) (mean : ExcName → Option Value) (mg mb : Str → Option Value) (rest : List (Addr × Obj)) (n : Nat) (t0 : Tok) (hn : n < 256) :
    ConT w mean mg mb rest 120 [.int (n : Int) t0] 30 200 (RetTI (thirdsN n : Int)) := by
  intro st1 st2 ok1 ok2 hr
  k_extra "enterP"
  have hbits : intBits (n : Int) ≤ 8 := bits_lt (by omega) (by omega)
  k_extra "goL"
  refine' ConN.use (c_i2d w mean mg mb rest (n : Int) 1 _ _ 8 (intBits (n : Int)) (by omega) (by omega) (by omega) (by rw [fdiv_pos (by omega)]; omega) (by omega) (by omega) (by omega) (by simpa using lt_bits (Nat.le_refl _)) (fun h => bits_pos h) st1 st2 ok1 ok2 hr) ?k1 ?k2 ?k3 ?k4 ?k5 ?c1 ?c2 ?k6 ?k7 ?k8 ?_
  k_extra "conds"
  intro D vs ep st3 st4 h2 tk2 hI ok3 ok4 lD lDr F2 N2
  (try dsimp only)
  rw [show Int.toNat 1 = 1 from rfl, dg_bits (by omega)] at hI
  have htop := top_bit (n := n) (by omega)
  have hlb := bits_len 9 n
  obtain ⟨ds, hds⟩ : ∃ ds, (bitsL 9 n).map Int.ofNat = ds := ⟨_, rfl⟩
  have hlen : ds.length ≤ 9 := by rw [← hds, List.length_map]; exact hlb
  rw [hds] at hI htop
  k_extra "goL"
  rename Fr g' _ _ _ => F3
  rename News g' _ _ _ => N3
  k_dflt (refine' kmk_slice_ints (s := ⟨_, _, _, _, _⟩) ?zF ?zN ?zl ?zp ?zq ?zi ?zm ?zc ?_ ?zs ?zt ?zz)
  case zF => exact F3
  case zN => exact N3
  case zl => exact N3.isList (.head _)
  case zp => exact IsPart.int _ _
  case zq => exact IsPart.none
  case zi => exact hI
  case zm => exact kmk_from_neg hI (by decide)
  case zc => exact rfl
  case zs => with_unfolding_all rfl
  case zt => intro _; with_unfolding_all rfl
  case zz => rw [List.size_toArray, hI.length]; exact Nat.le_trans hlen (by decide)
  intro D2 ws2 h3 F4 N4 l2 hI2 hC2 hL2
  rw [show (- (-1 : Int)).toNat = 1 from rfl] at hI2
  generalize ds.drop (ds.length - 1) = top at hI2 htop
  clear hC2 hL2
  clear F3 N3
  (try dsimp only)
  k_extra "goL"
  rename_i D6 us h6 F6 N6 hI6 l6
  obtain ⟨-, -, -, l6D, l6r⟩ := l6
  have l6r := kst_ltOf l6r
  have l6D := ltN l6D
  have N7 := led_of (a := st3) (b := st4) (r := (D6, listOf us.toArray 0) :: rest) N6 (fun p hp => .tail _ (.tail _ (.tail _ (.tail _ (.tail _ (led_nil p hp)))))) (List.forall_mem_cons.mpr ⟨.head _, fun p hp => .tail _ (.tail _ (.tail _ (.tail _ (.tail _ (led_r p hp)))))⟩)
  clear N6
  have hrest : ∀ p ∈ (D6, listOf us.toArray 0) :: rest, Hi p.1 := List.forall_mem_cons.mpr ⟨hi_of (led_lt l6r), hr⟩
  obtain ⟨dn, hdn⟩ : ∃ dn, bitsL 9 n ++ [0] = dn := ⟨_, rfl⟩
  have hdI : IntsAre us (dn.map Int.ofNat) := by rw [← hdn, List.map_append, hds]; exact hI6
  have hdl : dn.length ≤ 10 := by rw [← hdn, List.length_append]; exact Nat.add_le_add hlb (Nat.le_refl 1)
  have hend := thAt_end n
  rw [hdn] at hend
  refine' loop_list (J := fun m0 i m₁ news₁ => ∃ (s5 s6 : TS) (tr to : Tok) (ub : Option Value), s5.ok qI ∧ s6.ok qD ∧ m₁ = ovO [(Str.ofString "run", some (.int ((thAt dn i).2 : Int) tr)), (Str.ofString "ones", some (.int ((thAt dn i).1 : Int) to)), (Str.ofString "bit", ub)] m0 ∧ news₁ = led s5 s6 ((D6, listOf us.toArray 0) :: rest)) rfl F6 N7 ?hl hdI ?h0 ?turn ?done
  case hl => exact led_r _ (.head _)
  case h0 => exact ⟨st3, st4, _, _, _, ok3, ok4, ovO_nil3 _ _ _, rfl⟩
  case turn =>
    rintro I i t m₁ news₁ h8 tk8 own hI8 hIo hi ⟨s5, s6, tr, to, ub, ok5, ok6, rfl, rfl⟩ hoff hown F8 N8
    rw [List.length_map] at hi
    have hsucc := thAt_succ dn i hi
    have hlt := thAt_lt dn i (Nat.le_of_lt hi)
    have hr9 : (thAt dn i).2 < 512 := Nat.lt_of_lt_of_le hlt (Nat.pow_le_pow_right (by decide) (by omega : i ≤ 9))
    have hgd : (dn.map Int.ofNat).getD i 0 = ((dn.getD i 0 : Nat) : Int) := by
      rw [List.getD_eq_getElem?_getD, List.getElem?_map, List.getD_eq_getElem?_getD, List.getElem?_eq_getElem hi]; rfl
    rw [hgd] at F8
    generalize dn.getD i 0 = dd at *
    obtain ⟨⟨o, r⟩, hth⟩ : ∃ x, thAt dn i = x := ⟨_, rfl⟩
    rw [hth] at hsucc hr9 F8
    dsimp only at hr9 F8
    have I72 := led_lt hI8
    have hR0 : ∀ p ∈ (D6, listOf us.toArray 0) :: rest, p.1 ≠ I := fun p hp => hoff p (led_r p hp)
    have hown72 : ∀ p ∈ own ++ ((D6, listOf us.toArray 0) :: rest), Hi p.1 := fun p hp => (List.mem_append.mp hp).elim (fun q => (hown p q).elim (fun e => by rw [e]; exact hi_of I72) (fun e => by rw [e]; exact hrest _ (.head _))) (hrest p)
    have N9 := led_of (a := s5) (b := s6) (r := own ++ ((D6, listOf us.toArray 0) :: rest)) N8 (fun p hp => List.mem_append_right _ (led_nil p hp)) (fun p hp => (List.mem_append.mp hp).elim (fun q => List.mem_append_left _ q) fun q => List.mem_append_right _ (led_r p q))
    clear N8
    have hback : ∀ (s7 s8 : TS), ∀ p ∈ own ++ led s7 s8 ((D6, listOf us.toArray 0) :: rest), p ∈ led s7 s8 (own ++ ((D6, listOf us.toArray 0) :: rest)) := fun s7 s8 p hp => (List.mem_append.mp hp).elim (fun q => led_r p (List.mem_append_left _ q)) (led_in led_nil (fun p q => led_r p (List.mem_append_right _ q)) p)
    k_extra "go"
    · rename Fr g' _ _ _ => FX
      rename News g' _ _ _ => NX
      rename (dd : Int) = 1 => hc
      have N10 := kst_newsOf NX (hback s5 s6)
      have e1 : ((thAt dn (i + 1)).2 : Int) = 2 * (r : Int) + 1 := by rw [hsucc, thStep, if_pos (by omega)]; rfl
      have e2 : ((thAt dn (i + 1)).1 : Int) = o := by rw [hsucc, thStep, if_pos (by omega)]
      rw [e1, e2]
      refine LoopStepU.intro FX N10 (led_off N10 hIo ok5 ok6 I72 hR0) ⟨s5, s6, _, _, _, ok5, ok6, ovO_eq (List.forall_mem_cons.mpr ⟨rfl, List.forall_mem_cons.mpr ⟨rfl, List.forall_mem_cons.mpr ⟨rfl, fun _ h => nomatch h⟩⟩⟩) ?_, rfl⟩
      intro z hz
      have z1 := hz _ (.head _)
      have z2 := hz _ (.tail _ (.head _))
      have z3 := hz _ (.tail _ (.tail _ (.head _)))
      simp only [ovO, if_neg z1, if_neg z2, if_neg z3]
    · have hr0 : 0 < r := by omega
      have hbr : intBits (r : Int) ≤ 9 := bits_lt (by omega) (by omega)
      refine' ConN.use (c_idm w mean mg mb (own ++ ((D6, listOf us.toArray 0) :: rest)) (r : Int) 3 _ _ 4 (by decide) (by decide) (by omega) (Nat.le_trans (Nat.div_le_div_right (c := intBits 3) (by omega : intBits (r : Int) + intBits 3 - 1 ≤ 9 + intBits 3 - 1)) (by decide)) (Nat.le_trans (Nat.div_le_div_right (c := intBits 3) (by omega : intBits (r : Int) + intBits 3 - 1 ≤ 9 + intBits 3 - 1)) (by decide)) s5 s6 ok5 ok6 hown72) ?k1 ?k2 ?k3 ?k4 ?k5 ?c1 ?c2 ?k6 ?k7 ?k8 ?_
      k_extra "conds"
      intro D7 u1 u2 c7 s7 s8 h9 tk9 ok7 ok8 lD7 lDr7 F9 N10
      (try dsimp only)
      k_extra "go"
      rename Fr g' _ _ _ => F10
      rename News g' _ _ _ => N10
      have N11 := led_of (a := s7) (b := s8) (r := own ++ ((D6, listOf us.toArray 0) :: rest)) N10 (fun p hp => .tail _ (led_nil p hp)) (fun p hp => .tail _ (led_r p hp))
      clear N10
      have eq3 : (r : Int).fdiv 3 = ((r / 3 : Nat) : Int) := by rw [fdiv_pos (by decide)]; omega
      rw [eq3]
      have hbq : intBits ((r / 3 : Nat) : Int) ≤ 9 := bits_lt (by omega) (by omega)
      refine' ConN.use (c_i2d w mean mg mb (own ++ ((D6, listOf us.toArray 0) :: rest)) ((r / 3 : Nat) : Int) 1 _ _ 8 (intBits ((r / 3 : Nat) : Int)) (by omega) (by omega) (by omega) (by rw [fdiv_pos (by omega)]; omega) (by omega) (by omega) (by omega) (by simpa using lt_bits (Nat.le_refl _)) (fun h => bits_pos h) s7 s8 ok7 ok8 hown72) ?k1 ?k2 ?k3 ?k4 ?k5 ?c1 ?c2 ?k6 ?k7 ?k8 ?_
      k_extra "conds"
      intro D12 vs12 ep12 s9 s10 h12 tk12 hI12 ok9 ok10 lD12 lDr12 F12 N12
      (try dsimp only)
      have hs12 := dg_ones (n := r / 3) (by omega)
      have hl12 : (dg 1 ((r / 3 : Nat) : Int) (intBits ((r / 3 : Nat) : Int))).length ≤ 9 := by rw [dg_len]; exact hbq
      rw [show Int.toNat 1 = 1 from rfl] at hI12
      generalize dg 1 ((r / 3 : Nat) : Int) (intBits ((r / 3 : Nat) : Int)) = d12 at hI12 hs12 hl12
      k_extra "go"
      rename Fr g' _ _ _ => FX
      rename News g' _ _ _ => NX
      have N13 := kst_newsOf NX (fun p hp => .tail _ (hback s9 s10 p hp))
      have e1 : ((thAt dn (i + 1)).2 : Int) = 0 := by rw [hsucc, thStep, if_neg (by omega), if_pos (show 0 < (o, r).2 from hr0)]; rfl
      have e2 : ((thAt dn (i + 1)).1 : Int) = o + d12.sum := by rw [hsucc, thStep, if_neg (by omega), if_pos (show 0 < (o, r).2 from hr0), hs12]; exact Int.natCast_add _ _
      rw [e1, e2]
      refine LoopStepU.intro FX N13 (led_off N13 hIo ok9 ok10 I72 hR0) ⟨s9, s10, _, _, _, ok9, ok10, ovO_eq (List.forall_mem_cons.mpr ⟨rfl, List.forall_mem_cons.mpr ⟨rfl, List.forall_mem_cons.mpr ⟨rfl, fun _ h => nomatch h⟩⟩⟩) ?_, rfl⟩
      intro z hz
      have z1 := hz _ (.head _)
      have z2 := hz _ (.tail _ (.head _))
      have z3 := hz _ (.tail _ (.tail _ (.head _)))
      simp only [ovO, if_neg z1, if_neg z2, if_neg z3]
    · rename Fr g' _ _ _ => FX
      rename News g' _ _ _ => NX
      have N13 := kst_newsOf NX (hback s5 s6)
      have e1 : ((thAt dn (i + 1)).2 : Int) = r := by rw [hsucc, thStep, if_neg (by omega), if_neg (show ¬ 0 < (o, r).2 by show ¬ 0 < r; omega)]
      have e2 : ((thAt dn (i + 1)).1 : Int) = o := by rw [hsucc, thStep, if_neg (by omega), if_neg (show ¬ 0 < (o, r).2 by show ¬ 0 < r; omega)]
      rw [e1, e2]
      refine LoopStepU.intro FX N13 (led_off N13 hIo ok5 ok6 I72 hR0) ⟨s5, s6, _, _, _, ok5, ok6, ovO_eq (List.forall_mem_cons.mpr ⟨rfl, List.forall_mem_cons.mpr ⟨rfl, List.forall_mem_cons.mpr ⟨rfl, fun _ h => nomatch h⟩⟩⟩) ?_, rfl⟩
      intro z hz
      have z1 := hz _ (.head _)
      have z2 := hz _ (.tail _ (.head _))
      have z3 := hz _ (.tail _ (.tail _ (.head _)))
      simp only [ovO, if_neg z1, if_neg z2, if_neg z3]
  case done =>
    rintro h5 tk5 m₁ news₁ ⟨s5, s6, tr, to, ub, ok5, ok6, rfl, rfl⟩ F5 N5
    rw [List.length_map] at F5
    rw [hend] at F5
    (try dsimp only)
    k_extra "go"
    rename News h₀ _ _ _ => NT
    exact hret _ s5 s6 _ _ ok5 ok6 (by k_asm) (kst_newsOf NT (led_in led_nil fun p hp => led_r p (.tail _ hp)))

end
section
open PySem PySem.W PySem.Calls PyProof.Rows PySem.Spec
section
variable {prog : Program} {w : World} {A : Around} {s : Shared} {env : Env} {h₀ : Heap}
/-- a for whose turn does the store by itself (a cell's) -/
noncomputable def LoopAtC (prog : Program) (w : World) (A : Around) (h₀ : Heap) (env : Env) (x : Str) (px : Pos) (body : List Stmt) (Q : Flow → Shared → Prop) (E : Value → Shared → Prop) (it : Value) (s₂ : Shared) : Prop :=
  ∃ (I : Addr) (fp wr : List Addr) (n : Nat) (P : Nat → Value → Prop) (St : Nat → Heap → Prop) (m : Str → Option Value) (news : List (Addr × Obj)) (J : Nat → (Str → Option Value) → List (Addr × Obj) → Prop),
    it = .ref I ∧ Walks prog w A I fp wr n P St ∧ env.locals ∉ fp ∧ (∀ b ∈ wr, h₀.get? b = none) ∧ (∀ p ∈ news, p.1 ∉ wr) ∧ St 0 s₂.heap ∧ Fr h₀ env.locals s₂.heap m ∧ News h₀ env.locals s₂.heap news ∧ J 0 m news ∧
    (∀ i v m₁ news₁ s₁ own, (∃ h tk, s₁ = { s₂ with heap := h, toks := tk }) → i < n → P i v → J i m₁ news₁ → (∀ p ∈ news₁, p.1 ∉ wr) → (∀ p ∈ own, p.1 ∈ fp) → (∀ b ∈ fp, h₀.get? b = none → ∀ o, s₁.heap.get? b = some o → (b, o) ∈ own) → St (i + 1) s₁.heap →
      Fr h₀ env.locals s₁.heap m₁ → News h₀ env.locals s₁.heap (own ++ news₁) →
      wpAny (model prog w) A (assign (.Name x px) env v) (fun _ s' => wpAny (model prog w) A (execs body env) (LoopStepU h₀ env.locals wr own (J (i + 1)) s₁) E s') E s₁) ∧
    ∀ h' tk m' news', Fr h₀ env.locals h' m' → News h₀ env.locals h' news' → (∀ p ∈ news', p.1 ∉ wr) → J n m' news' → Q .next { s₂ with heap := h', toks := tk }
theorem For_C {E : Value → Shared → Prop} {Q : Flow → Shared → Prop} {x : Str} {px pos : Pos} {iter : Expr} {body : List Stmt} (h₀ : Heap)
    (h : wpAny (model prog w) A (eval iter env) (fun xv s₁ => wpAny (model prog w) A (pyIter xv) (fun it s₂ => LoopAtC prog w A h₀ env x px body Q E it s₂) E s₁) E s)
    (hs : ∀ x, foldedSetIterable iter env x = pure x := by intro _; rfl)
    (hE : PassesOwn (model prog w) A env E := by passes_own) :
    wpAny (model prog w) A (exec (.For (.Name x px) iter body [] pos) env) Q E s := by
  refine wpAny_For (wpAny_mono h (fun xv s₁ h₁ => wpAny_mono h₁ (fun it s₂ h₂ => ?_) fun _ _ e => e) fun _ _ e => e) hs
  obtain ⟨I, fp, wr, n, P, St, m, news, J, rfl, W, hLf, hwr, hnw, hst, F, N, h0, step, hQ⟩ := h₂
  have hLw : env.locals ∉ wr := fun h => hLf (W.sub _ h)
  have old : ∀ b o, h₀.get? b = some o → b ∉ wr := fun b o e hb => by rw [hwr b hb] at e; cases e
  refine codeAny_forLoop (R := fun r s' => match r with | .ok f => Q f s' | .error e => cameBackBy (model prog w) A env E e s')
    (fun k s' => ∃ h' tk m' news' i, s' = { s₂ with heap := h', toks := tk } ∧ St i h' ∧ Fr h₀ env.locals h' m' ∧ News h₀ env.locals h' news' ∧ (∀ p ∈ news', p.1 ∉ wr) ∧ J i m' news' ∧ i ≤ n ∧ k = n + 1 - i) ?_ (n + 1)
    ⟨s₂.heap, s₂.toks, m, news, 0, rfl, hst, F, N, hnw, h0, Nat.zero_le _, rfl⟩
  rintro k s' ⟨h', tk, m', news', i, rfl, hst', F', N', hnw', hJ, hi, rfl⟩
  have next : ∀ h₁ : Heap, (∀ b o, b ∉ wr → h'.get? b = some o → h₁.get? b = some o) → Fr h₀ env.locals h₁ m' ∧ News h₀ env.locals h₁ news' := fun h₁ hk₁ =>
    ⟨⟨F'.ns.at' fun o e => hk₁ _ o hLw e, fun b o e => hk₁ b o (old b o e) (F'.keep b o e), F'.above⟩, fun p hp => ⟨hk₁ _ _ (hnw' p hp) (N' p hp).1, (N' p hp).2⟩⟩
  by_cases hlt : i < n
  · refine W.item i _ _ _ hlt hst' fun v h₁ tk₁ hP hst₁ hk₁ => ?_
    obtain ⟨F₁, N₁⟩ := next h₁ hk₁
    have Nown : News h₀ env.locals h₁ (ownOf h₀ fp h₁) := news_ownOf hLf
    refine wpAny_passesOwn hE (wpAny_mono (step i v m' news' _ (ownOf h₀ fp h₁) ⟨_, _, rfl⟩ hlt hP hJ hnw' ownOf_sub (fun b hb hn o e => mem_ownOf hb hn e) hst₁ F₁ (Nown.append N₁)) (fun _ s₃ h₃ => ?_) fun _ _ e => e)
    refine wpAny_passesOwn hE (wpAny_mono h₃ (fun f s₄ h₄ => ?_) fun _ _ e => e)
    obtain ⟨rfl, h₃', tk₃, m₂, news₂, rfl, F₃, N₃, ha₃, hJ₃⟩ := h₄
    refine ⟨n + 1 - (i + 1), by omega, h₃', tk₃, m₂, news₂, i + 1, rfl, ?_, F₃, N₃.right, ha₃, hJ₃, hlt, rfl⟩
    refine W.frame _ _ _ hst₁ fun b hb o e => ?_
    cases hn : h₀.get? b with
    | some o₀ =>
      have : o₀ = o := by have := F₁.keep b o₀ hn; rw [e] at this; exact (Option.some.inj this).symm
      exact this ▸ F₃.keep b o₀ hn
    | none => exact (N₃ _ (List.mem_append_left _ (mem_ownOf hb hn e))).1
  · have hin : i = n := by omega
    subst hin
    refine W.done _ _ _ hst' fun h₁ tk₁ hk₁ => wpAny_execs_nil ?_
    obtain ⟨F₁, N₁⟩ := next h₁ hk₁
    exact hQ h₁ tk₁ m' news' F₁ N₁ hnw' hJ
theorem loop_rangeC {E : Value → Shared → Prop} {Q : Flow → Shared → Prop} {x : Str} {px : Pos} {body : List Stmt} {r : Addr} {b : Int} {n : Nat} {t u v : Tok} {m₀ : Str → Option Value} {news : List (Addr × Obj)} (J : (Str → Option Value) → Nat → (Str → Option Value) → List (Addr × Obj) → Prop)
    (hh : A.handled = none) (F : Fr h₀ env.locals s.heap m₀) (N : News h₀ env.locals s.heap news) (hr : IsRange s.heap r 0 b 1 t u v) (hb : b = n) (hn : n ≤ 100000) (h0 : J m₀ 0 m₀ news)
    (turn : ∀ I i t m₁ news₁ h tk own, (∀ p ∈ news, p.1 < I) → (∃ o, (I, o) ∈ own ∧ NoCode o) → i < n → J m₀ i m₁ news₁ → (∀ p ∈ news₁, p.1 ≠ I) → (∀ p ∈ own, p.1 = I) → Fr h₀ env.locals h m₁ → News h₀ env.locals h (own ++ news₁) →
      wpAny (model prog w) A (assign (.Name x px) env (.int (i : Int) t)) (fun _ s' => wpAny (model prog w) A (execs body env) (LoopStepU h₀ env.locals [I] own (J m₀ (i + 1)) { s with heap := h, toks := tk }) E s') E { s with heap := h, toks := tk })
    (done : ∀ h tk m₁ news₁, J m₀ n m₁ news₁ → Fr h₀ env.locals h m₁ → News h₀ env.locals h news₁ → Q .next { s with heap := h, toks := tk }) :
    wpAny (model prog w) A (pyIter (.ref r)) (fun it s₂ => LoopAtC prog w A h₀ env x px body Q E it s₂) E s := by
  have hlt : ∀ p ∈ news, p.1 < s.heap.objs.size := fun p hp => Heap.lt_size (N p hp).1
  refine wpAny_pyIter_range hr (small_one (by omega) (by omega) (by omega) (by omega)) ?_
  have W := Walks.range (prog := prog) (w := w) hh s.heap.objs.size 0 1 n
  have hsz : Builtin.Range.rangeSize 0 b 1 = (n : Int) := by rw [rangeSize_nat]; omega
  refine ⟨_, _, _, n, _, _, m₀, news, J m₀, rfl, W, ?_, (fun b hb => ?_), (fun p hp hb => Nat.ne_of_lt (hlt p hp) (List.mem_singleton.mp hb)), ?_, (F.push _), (fun p hp => ⟨Heap.get?_push_of_some _ (N p hp).1, (N p hp).2⟩), h0, ?_, fun h' tk m' news' F' N' _ hJ => done h' tk m' news' hJ F' N'⟩
  · intro hm
    exact absurd F.ns.lt ((List.mem_singleton.mp hm) ▸ Nat.lt_irrefl _)
  · rw [List.mem_singleton.mp hb]; exact next_is_new F
  · show IsRangeIter _ _ _ _ _
    rw [hsz]
    simpa using Heap.get?_push_size _ rfl
  · rintro i v m₁ news₁ s₁ own ⟨h, tk, rfl⟩ hin ⟨t, rfl⟩ hJ hoff hown hall st F₁ N₁
    rw [show (0 : Int) + i * 1 = i by omega]
    exact turn _ i t m₁ news₁ h tk own hlt ⟨_, hall _ (.head _) (next_is_new F) _ st, fun vs e q t => by cases e; simp [rawInt]⟩ hin hJ (fun p hp e => hoff p hp (List.mem_singleton.mpr e)) (fun p hp => List.mem_singleton.mp (hown p hp)) F₁ N₁
end

end
section

/-- it gives back a new list of ints -/
noncomputable abbrev RetNL (ds : List Int) (h₀ : Heap) (L : Addr) (m : Str → Option Value) (news : List (Addr × Obj)) (s : Shared) (Q : Value → Shared → Prop) : Prop :=
  ∀ (D : Addr) (vs' : List Value) (ep : Nat) (h' : Heap) (tk' : Nat), IntsAre vs' ds → (∀ p ∈ news, p.1 < D) → Fr h₀ L h' m → News h₀ L h' ((D, listOf vs'.toArray ep) :: news) → Q (.ref D) { s with heap := h', toks := tk' }
theorem pow4 {e : Nat} (h : e ≤ 3) : 4 ^ e ≤ 64 := by
  have := Nat.pow_le_pow_right (show 0 < 4 by decide) h
  exact this
theorem rep16 : (List.replicate (Int.toNat 16) [(0 : Int)]).flatten = (cAt 0 0).map Int.ofNat := by decide +kernel
theorem ediv_pow (i k : Nat) : (i : Int).fdiv (2 ^ k) = ((i / 2 ^ k : Nat) : Int) := by
  rw [fdiv_pos (kbt_pos k), Int.natCast_ediv, kbt_cast]
theorem bit1 (i k : Nat) : Builtin.bitAnd ((i : Int).fdiv (2 ^ (k : Int).toNat)) 1 = ((i / 2 ^ k % 2 : Nat) : Int) := by
  rw [Int.toNat_natCast, ediv_pow, bitAnd_nat (Int.natCast_nonneg _) (by decide), Int.toNat_natCast, show Int.toNat 1 = 1 from rfl, Nat.and_one_is_mod]
theorem bit1_iff {i k : Nat} : (Builtin.bitAnd ((i : Int).fdiv (2 ^ (k : Int).toNat)) 1 = 1) ↔ bitN i k = true := by
  rw [bit1, bitN, beq_iff_eq]; omega
theorem bit2 (i k : Nat) : Builtin.bitAnd ((i : Int).fdiv (2 ^ (2 * (k : Int)).toNat)) 3 = ((i / 4 ^ k % 4 : Nat) : Int) := by
  rw [show (2 * (k : Int)).toNat = 2 * k by omega, ediv_pow, bitAnd_nat (Int.natCast_nonneg _) (by decide), Int.toNat_natCast, show Int.toNat 3 = 2 ^ 2 - 1 from rfl, Nat.and_two_pow_sub_one_eq_mod, Nat.pow_mul]
theorem cMap (c : List Nat) (i : Nat) : (c.map Int.ofNat).set i ((c.map Int.ofNat).getD i 0 + 1) = (c.set i (c.getD i 0 + 1)).map Int.ofNat := by
  rw [List.map_set]
  congr 1
  rw [List.getD_eq_getElem?_getD, List.getElem?_map, List.getD_eq_getElem?_getD]
  cases c[i]? <;> rfl
set_option maxHeartbeats 4000000 in
theorem c_counts (w : World) (mean : ExcName → Option Value) (mg mb : Str → Option Value) (e : Nat) (t : Tok) (he : e ≤ 3) :
    Con w mean mg mb 132 [.int (e : Int) t] 3 200 (RetNL ((cAt e (4 ^ e)).map Int.ofNat)) := by
  k_extra "enterC"
  rename_i oH0 dH0
  have dH : oH0.data = .cell none := dH0
  clear dH0
  k_extra "goL"
  rename_i Dz hz1 lz Dc hz2 i1 n1 s1 e1 e2 e3 lc h5 F5 N5
  clear n1 s1 e1 e2 e3
  obtain ⟨lc1, lc2, lc3⟩ := lc
  have lc3 := kst_ltOf lc3
  rw [rep16] at i1
  generalize hvs : (List.replicate (Int.toNat 16) [Value.int 0 tk']).flatten = vs0 at i1 N5
  have N6 := kst_newsOf (l' := (Dc, listOf vs0.toArray 0) :: (L' + 1, oH0) :: news) N5 (List.forall_mem_cons.mpr ⟨.head _, fun p hp => .tail _ (.tail _ hp)⟩)
  clear N5
  refine For_C g' ?_
  k_extra "goL"
  rename IsRange _ _ _ _ _ _ _ _ => RR
  rename Fr g' _ _ _ => F7
  rename News g' _ _ _ => N7
  refine' loop_rangeC (n := 4 ^ e) (J := fun m0 i m₁ news₁ => ∃ (vs : List Value) (oH : Obj) (v0 : Option Value) (up ur uk ut : Option Value), m₁ = ovO [(Str.ofString "pairs", up), (Str.ofString "run", ur), (Str.ofString "k", uk), (Str.ofString "threes", ut)] m0 ∧ news₁ = (Dc, listOf vs.toArray 0) :: (L' + 1, oH) :: news ∧ IntsAre vs ((cAt e i).map Int.ofNat) ∧ oH.data = .cell v0) rfl F7 N7 RR ?hb ?hn ?h0 ?turn ?done
  case hb => rw [Int.toNat_natCast, Int.natCast_pow]; rfl
  case hn => exact Nat.le_trans (pow4 he) (by decide)
  case h0 => exact ⟨vs0, oH0, none, _, _, _, _, ovO_eq (List.forall_mem_cons.mpr ⟨rfl, List.forall_mem_cons.mpr ⟨rfl, List.forall_mem_cons.mpr ⟨rfl, List.forall_mem_cons.mpr ⟨rfl, fun _ h => nomatch h⟩⟩⟩⟩) (fun _ _ => rfl), rfl, i1, dH⟩
  case turn =>
    rintro I i ti m₁ news₁ h8 tk8 own hI8 hIo hi ⟨vs, oH, v0, up, ur, uk, ut, rfl, rfl, hIs, hdH⟩ hoff hown F8 N8
    have hIL : L' + 1 < I := hI8 _ (.tail _ (.head _))
    have hID : Dc < I := hI8 _ (.head _)
    refine wpAny_assign_Name ?_
    refine stCNk (own := own ++ [(Dc, listOf vs.toArray 0)]) F8 (by rw [List.append_assoc]; exact N8) rfl hdH ?_ ?_ ?_
    · refine apart_of fun p hp => ?_
      rcases List.mem_append.mp hp with q | q
      · rw [hown p q]; exact Nat.ne_of_gt hIL
      · rw [List.mem_singleton.mp q]; exact Nat.ne_of_gt lc2
    · exact apart_of fun p hp => by have := ltN (l1 p hp); k_ne
    intro h9 oH2 F9 N9 dH2
    clear F8 N8
    obtain ⟨G, hG⟩ : ∃ G : List Value → List (Addr × Obj), G = fun v => (L' + 1, oH2) :: (Dc, listOf v.toArray 0) :: (own ++ news) := ⟨_, rfl⟩
    have hU : UpdAll Dc 0 G := fun v v' => hG ▸ Upd.tail (by have := ltN lc2; k_ne) (Upd.head (fun p hp => (List.mem_append.mp hp).elim (fun q => by rw [hown p q]; exact Nat.ne_of_gt hID) (fun q => by have := ltN (lc3 p q); k_ne)))
    have M1 : ∀ v, (L' + 1, oH2) ∈ G v := fun v => by rw [hG]; exact .head _
    have M2 : ∀ v, (Dc, listOf v.toArray 0) ∈ G v := fun v => by rw [hG]; exact .tail _ (.head _)
    have N10 : News g' L' h9 (G vs) := by
      rw [hG]
      refine kst_newsOf N9 ?_
      refine List.forall_mem_cons.mpr ⟨List.mem_append_right _ (.head _), List.forall_mem_cons.mpr ⟨List.mem_append_left _ (List.mem_append_right _ (.head _)), fun p hp => (List.mem_append.mp hp).elim (fun q => List.mem_append_left _ (List.mem_append_left _ q)) fun q => List.mem_append_right _ (.tail _ q)⟩⟩
    clear N9
    (try dsimp only)
    have m1 := M1 vs
    have m2 := M2 vs
    k_extra "goL"
    rename IsRange _ _ _ _ _ _ _ _ => RI
    rename Fr g' _ _ _ => FI
    rename News g' _ _ _ => NI
    refine' loop_range (n := 2 * e + 1) (J := fun m0 k m₁ news₁ => ∃ (tp tr : Tok) (uk : Option Value), m₁ = ovO [(Str.ofString "pairs", some (.int ((prAt i k).1 : Int) tp)), (Str.ofString "run", some (.int ((prAt i k).2 : Int) tr)), (Str.ofString "k", uk)] m0 ∧ news₁ = G vs) rfl FI NI RI ?hbI ?hnI ?h0I ?turnI ?doneI
    case hbI => omega
    case hnI => omega
    case h0I => exact ⟨_, _, _, ovO_nil3 _ _ _, rfl⟩
    case turnI =>
      rintro I2 k tI m₂ news₂ hA tkA own2 hI2 hIo2 hk2 ⟨tp, tr, uk, rfl, rfl⟩ hoff2 hown2 FA NA
      have q1 : (L' + 1, oH2) ∈ own2 ++ G vs := List.mem_append_right _ m1
      have hsucc := prAt_succ i k
      have hle := prAt_le i k
      obtain ⟨⟨pa, ru⟩, hpr⟩ : ∃ x, prAt i k = x := ⟨_, rfl⟩
      rw [hpr] at hsucc hle FA
      dsimp only at hle FA
      k_extra "goL"
      · rename Fr g' _ _ _ => FX
        rename News g' _ _ _ => NX
        have hc := bit1_iff.mp (by assumption)
        have e1 : ((prAt i (k + 1)).1 : Int) = pa := by rw [hsucc, prStep, if_pos hc]
        have e2 : ((prAt i (k + 1)).2 : Int) = ru + 1 := by rw [hsucc, prStep, if_pos hc]; rfl
        rw [e1, e2]
        refine LoopStepU.intro FX NX (fun p hp h => hoff2 p hp (List.mem_singleton.mp h)) ⟨_, _, _, ovO_eq (List.forall_mem_cons.mpr ⟨rfl, List.forall_mem_cons.mpr ⟨rfl, List.forall_mem_cons.mpr ⟨rfl, fun _ h => nomatch h⟩⟩⟩) ?_, rfl⟩
        intro z hz
        have z1 := hz _ (.head _)
        have z2 := hz _ (.tail _ (.head _))
        have z3 := hz _ (.tail _ (.tail _ (.head _)))
        simp only [ovO, if_neg z1, if_neg z2, if_neg z3]
      · rename Fr g' _ _ _ => FX
        rename News g' _ _ _ => NX
        have hc : ¬ bitN i k = true := fun h => absurd (bit1_iff.mpr h) (by assumption)
        have e1 : ((prAt i (k + 1)).1 : Int) = pa + (ru : Int).fdiv 2 := by rw [hsucc, prStep, if_neg hc, fdiv_pos (by decide)]; show ((pa + ru / 2 : Nat) : Int) = _; omega
        have e2 : ((prAt i (k + 1)).2 : Int) = 0 := by rw [hsucc, prStep, if_neg hc]; rfl
        rw [e1, e2]
        refine LoopStepU.intro FX NX (fun p hp h => hoff2 p hp (List.mem_singleton.mp h)) ⟨_, _, _, ovO_eq (List.forall_mem_cons.mpr ⟨rfl, List.forall_mem_cons.mpr ⟨rfl, List.forall_mem_cons.mpr ⟨rfl, fun _ h => nomatch h⟩⟩⟩) ?_, rfl⟩
        intro z hz
        have z1 := hz _ (.head _)
        have z2 := hz _ (.tail _ (.head _))
        have z3 := hz _ (.tail _ (.tail _ (.head _)))
        simp only [ovO, if_neg z1, if_neg z2, if_neg z3]
    case doneI =>
      rintro hB tkB m₂ news₂ ⟨tp, tr, uk, rfl, rfl⟩ FB NB
      k_extra "goL"
      refine LCg.ListComp_U (F₀ := by k_asm) (by with_unfolding_all rfl) (by decide) (by rfl) (by decide) (by rfl) ?_
      k_extra "goL"
      rename IsRange _ _ _ _ _ _ _ _ => RC
      rename Fr g' _ _ _ => FC
      rename News g' _ _ _ => NC
      refine LCg.CompSrc.range (n := e) rfl FC NC RC (kf_small (by omega)) (rangeSize_nat _ _) (Nat.le_trans he (by decide)) ?_
      intro gC
      refine rest_inv (J := fun j ys nw => nw = G vs ∧ IntsAre ys ((List.range j).map fun k => ((i / 4 ^ k % 4 : Nat) : Int))) ⟨rfl, .nil⟩ ?turnC ?finC
      case turnC =>
        rintro j ys nw v Ic oI C oC D2 m₂ hD tkD E' hj ⟨rfl, hys⟩ ⟨tv, rfl⟩ hC hxs FD ND off ne
        rw [show (0 : Int) + (j : Int) = j by omega] at hxs
        have q1 : (L' + 1, oH2) ∈ (Ic, oI) :: (C, oC) :: (D2, LCg.lst ys) :: G vs := .tail _ (.tail _ (.tail _ m1))
        k_extra "goL"
        rw [bit2]
        refine LCg.CompEnd.intro FD ND _ (fun p hp => hp) off trivial ⟨rfl, ?_⟩
        rw [List.range_succ, List.map_append]
        exact ints_snoc hys _ _
      case finC =>
        rintro ys nw ⟨rfl, hys⟩
        unfold LCg.FinE
        intro D5 hE tkE FE NE oE
        (try dsimp only)
        have hcount : ((List.range e).map fun k => ((i / 4 ^ k % 4 : Nat) : Int)).count 3 = thr e i := by
          rw [thr, List.count, List.countP_map, List.countP_map]
          refine List.countP_congr fun x _ => ?_
          show ((((i / 4 ^ x % 4 : Nat) : Int) == 3) = true) ↔ (((i / 4 ^ x % 4 : Nat) == 3) = true)
          generalize i / 4 ^ x % 4 = y
          rw [beq_iff_eq, beq_iff_eq]
          omega
        generalize ((List.range e).map fun k => ((i / 4 ^ k % 4 : Nat) : Int)) = ths at hys hcount
        k_extra "goK"
        k_dflt (refine count_list_ints (NE.isList (.head _)) hys ?_)
        rw [hcount]
        have NF := kst_newsOf NE (fun p hp => .tail _ hp)
        clear NE
        (try dsimp only)
        have hix : cIx e i < 16 := cIx_lt ⟨e, by omega⟩ ⟨i, Nat.lt_of_lt_of_le hi (pow4 he)⟩ hi
        have hpe : (prAt i (2 * e + 1)).1 ≤ 7 := by have := prAt_le i (2 * e + 1); omega
        have hth : thr e i ≤ 3 := by unfold cIx at hix; omega
        obtain ⟨th, hthe⟩ : ∃ th, thr e i = th := ⟨_, rfl⟩
        obtain ⟨pa, hpae⟩ : ∃ pa, (prAt i (2 * e + 1)).1 = pa := ⟨_, rfl⟩
        have hixe : cIx e i = 4 * th + pa := by rw [← hthe, ← hpae]; rfl
        rw [hthe] at hth ⊢
        rw [hpae] at FE hpe
        rw [hixe] at hix
        have hcl : ((cAt e i).map Int.ofNat).length = 16 := by rw [List.length_map, cAt_len]
        k_extra "goK"
        rename News g' _ _ _ => NG
        refine item_L NG m2 hIs (by omega) (by rw [hcl]; omega) (by rw [hcl]; decide) ?_
        intro tG
        (try dsimp only)
        k_extra "goK"
        rename Fr g' _ _ _ => FH
        rename News g' _ _ _ => NH
        refine ksa_set FH NH (hU vs _) hIs (by omega) (by rw [hcl]; omega) (by omega) ?_
        intro hJ FJ NJ hIJ _ _
        clear FH NH
        rw [show (4 * (th : Int) + pa).toNat = 4 * th + pa by omega] at hIJ NJ
        have hnx : cAt e (i + 1) = (cAt e i).set (4 * th + pa) ((cAt e i).getD (4 * th + pa) 0 + 1) := by rw [cAt_succ, cStep, hixe]
        rw [cMap, ← hnx] at hIJ
        have ex2 : ∃ vs2, IntsAre vs2 ((cAt e (i + 1)).map Int.ofNat) ∧ News g' L' hJ (G vs2) := ⟨_, hIJ, NJ⟩
        clear hIJ NJ
        obtain ⟨vs2, hIJ, NJ⟩ := ex2
        (try dsimp only)
        k_extra "goL"
        rename Fr g' _ _ _ => FK
        rename News g' _ _ _ => NK
        rw [hG] at NK
        have NL := kst_newsOf (l' := own ++ ((Dc, listOf vs2.toArray 0) :: (L' + 1, oH2) :: news)) NK (fun p hp => (List.mem_append.mp hp).elim (fun q => .tail _ (.tail _ (List.mem_append_left _ q))) fun q => by
          rcases List.mem_cons.mp q with rfl | q
          · exact .tail _ (.head _)
          · rcases List.mem_cons.mp q with rfl | q
            · exact .head _
            · exact .tail _ (.tail _ (List.mem_append_right _ q)))
        refine LoopStepU.intro FK NL ?_ ⟨_, oH2, _, _, _, _, _, ovO_eq (List.forall_mem_cons.mpr ⟨rfl, List.forall_mem_cons.mpr ⟨rfl, List.forall_mem_cons.mpr ⟨rfl, List.forall_mem_cons.mpr ⟨rfl, fun _ h => nomatch h⟩⟩⟩⟩) ?_, rfl, hIJ, dH2⟩
        · exact List.forall_mem_cons.mpr ⟨fun h => absurd (List.mem_singleton.mp h) (Nat.ne_of_lt hID), List.forall_mem_cons.mpr ⟨fun h => absurd (List.mem_singleton.mp h) (Nat.ne_of_lt hIL), fun p hp h => absurd (List.mem_singleton.mp h) (Nat.ne_of_lt (hI8 p (.tail _ (.tail _ hp))))⟩⟩
        · intro z hz
          have z1 := hz _ (.head _)
          have z2 := hz _ (.tail _ (.head _))
          have z3 := hz _ (.tail _ (.tail _ (.head _)))
          have z4 := hz _ (.tail _ (.tail _ (.tail _ (.head _))))
          simp only [ovO, if_neg z1, if_neg z2, if_neg z3, if_neg z4]
  case done =>
    rintro hM tkM m₁ news₁ ⟨vs, oH, v0, up, ur, uk, ut, rfl, rfl, hIs, hdH⟩ FM NM
    k_extra "goL"
    rename News h₀ _ _ _ => NT
    exact hret _ _ _ _ _ hIs (fun p hp => lc3 p hp) (by k_asm) (kst_newsOf NT (List.forall_mem_cons.mpr ⟨.head _, fun p hp => .tail _ (.tail _ hp)⟩))

end
section
noncomputable def unseenT : List Nat := [173, 847, 6150, 6155, 6156, 6157, 8203, 8204, 8205, 8288, 65279] ++ (List.range 16).map (· + 65024)
noncomputable def staysT : List Nat := [172, 174, 846, 848, 6149, 6151, 6154, 6158, 8202, 8206, 8287, 8289, 65023, 65040, 65278, 65280, 11, 12, 28, 133, 6159, 8232, 8233, 8290]
/-- a heap's piece -/
noncomputable def pcOf (h : Int) : Pc where
  d := (h / 1024 % 4).toNat
  st := staysT.getD (h / 110592 % 24).toNat 0
  e := (1 + h % 4).toNat
  h := (h / 4 % 4 ^ (1 + h % 4).toNat).toNat
  un := fun k => unseenT.getD ((h / 4096 + k) % 27).toNat 0
noncomputable def nbT (c : Nat) : Bool := isB1 (c : Int)
theorem nbT_Nb : Nb nbT := ⟨by decide +kernel, by decide +kernel, by decide +kernel⟩
theorem un_ok : ∀ i : Fin 27, nbT (unseenT.getD i.val 0) = true := by decide +kernel
theorem st_ok : ∀ i : Fin 24, nbT (staysT.getD i.val 0) = false ∧ staysT.getD i.val 0 ≠ 13 ∧ staysT.getD i.val 0 ≠ 10 ∧ staysT.getD i.val 0 ≠ 46 := by decide +kernel
theorem pc_ok (h : Int) : (pcOf h).Ok nbT := by
  have h1 := Int.emod_nonneg (h / 110592) (show (24 : Int) ≠ 0 by decide)
  have h2 := Int.emod_lt_of_pos (h / 110592) (show (0 : Int) < 24 by decide)
  have h3 := Int.emod_nonneg h (show (4 : Int) ≠ 0 by decide)
  have h4 := Int.emod_lt_of_pos h (show (0 : Int) < 4 by decide)
  have s := st_ok ⟨(h / 110592 % 24).toNat, by omega⟩
  refine ⟨s.1, s.2, ⟨?_, ?_⟩, ?_, ?_⟩
  · show 1 ≤ (1 + h % 4).toNat; omega
  · show (1 + h % 4).toNat ≤ 4; omega
  · show (h / 4 % 4 ^ (1 + h % 4).toNat).toNat < 4 ^ (1 + h % 4).toNat
    have hp : (0 : Int) < 4 ^ (1 + h % 4).toNat := Int.pow_pos (by decide)
    have h5 := Int.emod_lt_of_pos (h / 4) hp
    have h6 := Int.emod_nonneg (h / 4) (Int.ne_of_gt hp)
    have h7 : ((4 ^ (1 + h % 4).toNat : Nat) : Int) = 4 ^ (1 + h % 4).toNat := by rw [Int.natCast_pow]; rfl
    omega
  · intro k
    have h5 := Int.emod_nonneg (h / 4096 + k) (show (27 : Int) ≠ 0 by decide)
    have h6 := Int.emod_lt_of_pos (h / 4096 + k) (show (0 : Int) < 27 by decide)
    exact un_ok ⟨((h / 4096 + k) % 27).toNat, by omega⟩
noncomputable def roads (hs : List Int) : Rd := (hs.map pcOf).foldl Rd.step {}
theorem roads_law (hs : List Int) : stuff true (norm false ((roads hs).t.filter fun c => !nbT c)) = (roads hs).ea ∧ (stuff true (norm false (roads hs).t)).filter (fun c => !nbT c) = (roads hs).la :=
  roads_ok nbT_Nb _ fun p hp => by obtain ⟨h, -, rfl⟩ := List.mem_map.mp hp; exact pc_ok h
noncomputable def rdAt (hs : List Int) (i : Nat) : Rd := roads (hs.take i)
theorem rdAt_succ (hs : List Int) (i : Nat) (h : i < hs.length) : rdAt hs (i + 1) = (rdAt hs i).step (pcOf (hs.getD i 0)) := by
  unfold rdAt roads
  rw [List.take_add_one, List.getElem?_eq_getElem h, List.map_append, List.foldl_append, List.getD_eq_getElem?_getD, List.getElem?_eq_getElem h]
  rfl
theorem crlf_len : ∀ n, (crlf n).length = 2 * n
  | 0 => rfl
  | n + 1 => by simp [crlf, crlf_len n]; omega
theorem pc_d (h : Int) : (pcOf h).d ≤ 3 := by
  have h5 := Int.emod_nonneg (h / 1024) (show (4 : Int) ≠ 0 by decide)
  have h6 := Int.emod_lt_of_pos (h / 1024) (show (0 : Int) < 4 by decide)
  show (h / 1024 % 4).toNat ≤ 3; omega
theorem step_len (r : Rd) (h : Int) : (r.step (pcOf h)).t.length ≤ r.t.length + 12 ∧ (r.step (pcOf h)).ea.length ≤ r.ea.length + 13 ∧ (r.step (pcOf h)).la.length ≤ r.la.length + 13 := by
  have hd := pc_d h
  have he := (pc_ok h).e1
  refine ⟨?_, ?_, ?_⟩
  · show (r.t ++ (pcOf h).text).length ≤ _
    unfold Pc.text
    simp
    omega
  · show (r.ea ++ ((if _ then [46] else []) ++ (List.replicate _ 46 ++ _ :: crlf (pcOf h).kept))).length ≤ _
    have : (pcOf h).kept ≤ (pcOf h).e := Nat.sub_le _ _
    simp only [List.length_append, List.length_cons, List.length_replicate, crlf_len]
    split <;> simp <;> omega
  · show (r.la ++ ((if _ then [46] else []) ++ (List.replicate _ 46 ++ _ :: crlf ((pcOf h).e - threesN (pcOf h).h)))).length ≤ _
    have : (pcOf h).e - threesN (pcOf h).h ≤ (pcOf h).e := Nat.sub_le _ _
    simp only [List.length_append, List.length_cons, List.length_replicate, crlf_len]
    split <;> simp <;> omega
theorem rdAt_len (hs : List Int) : ∀ i, i ≤ hs.length → (rdAt hs i).t.length ≤ 13 * i ∧ (rdAt hs i).ea.length ≤ 13 * i ∧ (rdAt hs i).la.length ≤ 13 * i
  | 0, _ => by simp [rdAt, roads]
  | i + 1, h => by
    have ih := rdAt_len hs i (by omega)
    have := step_len (rdAt hs i) (hs.getD i 0)
    rw [rdAt_succ hs i (by omega)]
    omega

end
section
noncomputable def mkS (l : List Nat) : Str := ⟨l.toArray⟩
theorem mkS_len (l : List Nat) : (mkS l).length = l.length := by show l.toArray.size = _; rw [List.size_toArray]
theorem mkS_app (a b : List Nat) : mkS a ++ mkS b = mkS (a ++ b) := by
  apply Str.ext'
  show a.toArray ++ b.toArray = (a ++ b).toArray
  simp
theorem lit_nil : Str.ofString "" = mkS [] := by decide +kernel
theorem lit_dot : Str.ofString "." = mkS [46] := by decide +kernel
theorem mkS_cps (l : List Nat) : (mkS l).cps.toList = l := by show l.toArray.toList = l; rw [List.toList_toArray]
section
variable {prog : Program} {w : World} {A : Around} {E : Value → Shared → Prop} {s : Shared} {Q : Value → Shared → Prop} {t u : Tok}
theorem addS {a b : List Nat} (hl : a.length + b.length ≤ 1000) (h : ∀ t' tk, Q (.str (mkS (a ++ b)) t') { s with toks := tk }) : wpAny (model prog w) A (binaryOp .Add (.str (mkS a) t) (.str (mkS b) u)) Q E s := by
  refine PyProof.Rows.add_str (fun t' tk => ?_) (by rw [mkS_len, mkS_len]; exact Nat.le_trans hl (by decide))
  rw [mkS_app]
  exact h t' tk
theorem addD {a : List Nat} (hl : a.length + 1 ≤ 1000) (h : ∀ t' tk, Q (.str (mkS (a ++ [46])) t') { s with toks := tk }) : wpAny (model prog w) A (binaryOp .Add (.str (mkS a) t) (.str (Str.ofString ".") u)) Q E s := by
  rw [lit_dot]
  exact addS hl h
theorem mulOk1 : ∀ n : Fin 4, MulOk (Str.ofString ".") (n.val : Int) := by
  intro n
  refine ⟨?_, ?_, ?_⟩
  · revert n; decide +kernel
  · revert n; decide +kernel
  · revert n; decide +kernel
theorem mulOk2 : ∀ n : Fin 5, MulOk (Str.ofString "\x0d\n") (n.val : Int) := by
  intro n
  refine ⟨?_, ?_, ?_⟩
  · revert n; decide +kernel
  · revert n; decide +kernel
  · revert n; decide +kernel
theorem mulV1 : ∀ n : Fin 4, Txt.mul (Str.ofString ".") (n.val : Int) = mkS (List.replicate n.val 46) := by decide +kernel
theorem mulV2 : ∀ n : Fin 5, Txt.mul (Str.ofString "\x0d\n") (n.val : Int) = mkS (crlf n.val) := by decide +kernel
theorem mulS1 {n : Nat} (hn : n ≤ 3) (h : ∀ t' tk, Q (.str (mkS (List.replicate n 46)) t') { s with toks := tk }) : wpAny (model prog w) A (binaryOp .Mult (.str (Str.ofString ".") t) (.int (n : Int) u)) Q E s := by
  refine SB.mul (mulOk1 ⟨n, by omega⟩) fun t' tk => ?_
  rw [mulV1 ⟨n, by omega⟩]
  exact h t' tk
theorem mulS2 {n : Nat} (hn : n ≤ 4) (h : ∀ t' tk, Q (.str (mkS (crlf n)) t') { s with toks := tk }) : wpAny (model prog w) A (binaryOp .Mult (.str (Str.ofString "\x0d\n") t) (.int (n : Int) u)) Q E s := by
  refine SB.mul (mulOk2 ⟨n, by omega⟩) fun t' tk => ?_
  rw [mulV2 ⟨n, by omega⟩]
  exact h t' tk
theorem itemV2 : ∀ n : Fin 2, Txt.item (Str.ofString "\x0d\n") (n.val : Int) = mkS [if n.val = 0 then 13 else 10] := by decide +kernel
theorem itemS2 {value slice : Expr} {n : Nat} (hn : n < 2) (h : ∀ t' tk, Q (.str (mkS [if n = 0 then 13 else 10]) t') { s with toks := tk })
    (hs : subscripted slice false (.str (Str.ofString "\x0d\n") t) (.int (n : Int) u) = operate [.str (Str.ofString "\x0d\n") t, .int (n : Int) u] (getItem (.str (Str.ofString "\x0d\n") t) (.int (n : Int) u)) := by with_unfolding_all rfl)
    (ht : ∀ r, letTemporaryGo value (.str (Str.ofString "\x0d\n") t) r = pure () := by intro _; with_unfolding_all rfl) :
    wpAny (model prog w) A (subscriptTail value slice (.str (Str.ofString "\x0d\n") t) (.int (n : Int) u)) Q E s := by
  have hl : (Str.ofString "\x0d\n").length = 2 := by decide +kernel
  refine item_str (fitsSsize_of (N := 9223372036854775808) (by omega) (by omega) (Int.le_refl _)) (by rw [hl]; omega) (by rw [hl]; omega) (fun _ => ?_) hs ht
  rw [itemV2 ⟨n, hn⟩]
  exact h _ _
end
theorem pc_e_eq (x : Int) : 1 + x.fmod 4 = ((pcOf x).e : Int) := by
  have h1 := Int.emod_nonneg x (show (4 : Int) ≠ 0 by decide)
  rw [fmod_pos (by decide)]
  show _ = (((1 + x % 4).toNat : Nat) : Int)
  omega
theorem pc_h_eq (x : Int) : (x.fdiv 4).fmod (4 ^ (pcOf x).e) = ((pcOf x).h : Int) := by
  have hp : (0 : Int) < 4 ^ (pcOf x).e := Int.pow_pos (by decide)
  rw [fdiv_pos (by decide), fmod_pos hp]
  have h6 := Int.emod_nonneg (x / 4) (Int.ne_of_gt hp)
  show _ = (((x / 4 % 4 ^ (pcOf x).e).toNat : Nat) : Int)
  omega
theorem pc_d_eq (x : Int) : (x.fdiv 1024).fmod 4 = ((pcOf x).d : Int) := by
  rw [fdiv_pos (by decide), fmod_pos (by decide)]
  have h6 := Int.emod_nonneg (x / 1024) (show (4 : Int) ≠ 0 by decide)
  show _ = (((x / 1024 % 4).toNat : Nat) : Int)
  omega
theorem getD_map (l : List Nat) (i : Nat) : (l.map Int.ofNat).getD i 0 = ((l.getD i 0 : Nat) : Int) := by
  rw [List.getD_eq_getElem?_getD, List.getElem?_map, List.getD_eq_getElem?_getD]
  cases l[i]? <;> rfl
theorem pc_st_eq (x : Int) : 0 ≤ (x.fdiv 110592).fmod 24 ∧ (x.fdiv 110592).fmod 24 < 24 ∧ (staysT.map Int.ofNat).getD ((x.fdiv 110592).fmod 24).toNat 0 = ((pcOf x).st : Int) ∧ (pcOf x).st ≤ 70000 := by
  have h6 := Int.emod_nonneg (x / 110592) (show (24 : Int) ≠ 0 by decide)
  have h7 := Int.emod_lt_of_pos (x / 110592) (show (0 : Int) < 24 by decide)
  rw [fdiv_pos (by decide), fmod_pos (by decide), getD_map]
  refine ⟨h6, h7, rfl, ?_⟩
  have : ∀ i : Fin 24, staysT.getD i.val 0 ≤ 70000 := by decide +kernel
  exact this ⟨(x / 110592 % 24).toNat, by omega⟩
theorem pc_un_eq (x : Int) (k : Nat) : 0 ≤ (x.fdiv 4096 + k).fmod 27 ∧ (x.fdiv 4096 + k).fmod 27 < 27 ∧ (unseenT.map Int.ofNat).getD ((x.fdiv 4096 + k).fmod 27).toNat 0 = ((pcOf x).un k : Int) ∧ (pcOf x).un k ≤ 70000 := by
  have h6 := Int.emod_nonneg (x / 4096 + k) (show (27 : Int) ≠ 0 by decide)
  have h7 := Int.emod_lt_of_pos (x / 4096 + k) (show (0 : Int) < 27 by decide)
  rw [fdiv_pos (by decide), fmod_pos (by decide), getD_map]
  refine ⟨h6, h7, rfl, ?_⟩
  have : ∀ i : Fin 27, unseenT.getD i.val 0 ≤ 70000 := by decide +kernel
  exact this ⟨((x / 4096 + k) % 27).toNat, by omega⟩
/-- the frame of _law_roads -/
noncomputable abbrev mapR (T Ea La : List Nat) (fr ba : Bool) (tt te tl : Tok) (ue uh ud us uk up ux : Option Value) (m0 : Str → Option Value) : Str → Option Value :=
  ovO [(Str.ofString "typed", some (.str (mkS T) tt)), (Str.ofString "early", some (.str (mkS Ea) te)), (Str.ofString "late", some (.str (mkS La) tl)), (Str.ofString "fresh", some (.bool fr)), (Str.ofString "bare", some (.bool ba)), (Str.ofString "ends", ue), (Str.ofString "hurt", uh), (Str.ofString "dots", ud), (Str.ofString "stay", us), (Str.ofString "k", uk), (Str.ofString "kept", up), (Str.ofString "heap", ux)] m0
theorem mapR_eq {m : Str → Option Value} {T Ea La : List Nat} {fr ba : Bool} {tt te tl : Tok} {ue uh ud us uk up ux : Option Value} {m0 : Str → Option Value}
    (h1 : m (Str.ofString "typed") = some (.str (mkS T) tt)) (h2 : m (Str.ofString "early") = some (.str (mkS Ea) te)) (h3 : m (Str.ofString "late") = some (.str (mkS La) tl)) (h4 : m (Str.ofString "fresh") = some (.bool fr)) (h5 : m (Str.ofString "bare") = some (.bool ba))
    (h6 : m (Str.ofString "ends") = ue) (h7 : m (Str.ofString "hurt") = uh) (h8 : m (Str.ofString "dots") = ud) (h9 : m (Str.ofString "stay") = us) (h10 : m (Str.ofString "k") = uk) (h11 : m (Str.ofString "kept") = up) (h12 : m (Str.ofString "heap") = ux)
    (hz : ∀ z, z ≠ Str.ofString "typed" → z ≠ Str.ofString "early" → z ≠ Str.ofString "late" → z ≠ Str.ofString "fresh" → z ≠ Str.ofString "bare" → z ≠ Str.ofString "ends" → z ≠ Str.ofString "hurt" → z ≠ Str.ofString "dots" → z ≠ Str.ofString "stay" → z ≠ Str.ofString "k" → z ≠ Str.ofString "kept" → z ≠ Str.ofString "heap" → m z = m0 z) :
    m = mapR T Ea La fr ba tt te tl ue uh ud us uk up ux m0 :=
  ovO_eq (List.forall_mem_cons.mpr ⟨h1, List.forall_mem_cons.mpr ⟨h2, List.forall_mem_cons.mpr ⟨h3, List.forall_mem_cons.mpr ⟨h4, List.forall_mem_cons.mpr ⟨h5, List.forall_mem_cons.mpr ⟨h6, List.forall_mem_cons.mpr ⟨h7, List.forall_mem_cons.mpr ⟨h8, List.forall_mem_cons.mpr ⟨h9, List.forall_mem_cons.mpr ⟨h10, List.forall_mem_cons.mpr ⟨h11, List.forall_mem_cons.mpr ⟨h12, fun _ h => nomatch h⟩⟩⟩⟩⟩⟩⟩⟩⟩⟩⟩⟩)
    fun z h => hz z (h _ (.head _)) (h _ (.tail _ (.head _))) (h _ (.tail _ (.tail _ (.head _)))) (h _ (.tail _ (.tail _ (.tail _ (.head _))))) (h _ (.tail _ (.tail _ (.tail _ (.tail _ (.head _)))))) (h _ (.tail _ (.tail _ (.tail _ (.tail _ (.tail _ (.head _))))))) (h _ (.tail _ (.tail _ (.tail _ (.tail _ (.tail _ (.tail _ (.head _)))))))) (h _ (.tail _ (.tail _ (.tail _ (.tail _ (.tail _ (.tail _ (.tail _ (.head _))))))))) (h _ (.tail _ (.tail _ (.tail _ (.tail _ (.tail _ (.tail _ (.tail _ (.tail _ (.head _)))))))))) (h _ (.tail _ (.tail _ (.tail _ (.tail _ (.tail _ (.tail _ (.tail _ (.tail _ (.tail _ (.head _))))))))))) (h _ (.tail _ (.tail _ (.tail _ (.tail _ (.tail _ (.tail _ (.tail _ (.tail _ (.tail _ (.tail _ (.head _)))))))))))) (h _ (.tail _ (.tail _ (.tail _ (.tail _ (.tail _ (.tail _ (.tail _ (.tail _ (.tail _ (.tail _ (.tail _ (.head _)))))))))))))
noncomputable abbrev map3 (Du Ds lh : Addr) (mm : Str → Option Value) : Str → Option Value := ovO [(Str.ofString "unseen", some (.ref Du)), (Str.ofString "stays", some (.ref Ds)), (Str.ofString "heaps", some (.ref lh))] mm
theorem fr_ex {g h : Heap} {L Du Ds lh : Addr} {M : Str → Option Value} {t1 t2 t3 : Tok} (F : Fr g L h M)
    (h1 : M (Str.ofString "typed") = some (.str (mkS []) t1)) (h2 : M (Str.ofString "early") = some (.str (mkS []) t2)) (h3 : M (Str.ofString "late") = some (.str (mkS []) t3)) (h4 : M (Str.ofString "fresh") = some (.bool true)) (h5 : M (Str.ofString "bare") = some (.bool true))
    (h6 : M (Str.ofString "ends") = none) (h7 : M (Str.ofString "hurt") = none) (h8 : M (Str.ofString "dots") = none) (h9 : M (Str.ofString "stay") = none) (h10 : M (Str.ofString "k") = none) (h11 : M (Str.ofString "kept") = none) (h12 : M (Str.ofString "heap") = none)
    (h13 : M (Str.ofString "unseen") = some (.ref Du)) (h14 : M (Str.ofString "stays") = some (.ref Ds)) (h15 : M (Str.ofString "heaps") = some (.ref lh)) :
    ∃ mm, Fr g L h (mapR [] [] [] true true t1 t2 t3 none none none none none none none (map3 Du Ds lh mm)) := by
  have e : M = ovO [(Str.ofString "unseen", some (.ref Du)), (Str.ofString "stays", some (.ref Ds)), (Str.ofString "heaps", some (.ref lh))] M :=
    ovO_eq (List.forall_mem_cons.mpr ⟨h13, List.forall_mem_cons.mpr ⟨h14, List.forall_mem_cons.mpr ⟨h15, fun _ h => nomatch h⟩⟩⟩) (fun _ _ => rfl)
  have e2 := mapR_eq (m0 := ovO [(Str.ofString "unseen", some (.ref Du)), (Str.ofString "stays", some (.ref Ds)), (Str.ofString "heaps", some (.ref lh))] M) h1 h2 h3 h4 h5 h6 h7 h8 h9 h10 h11 h12 (fun z _ _ _ _ _ _ _ _ _ _ _ _ => congrFun e z)
  exact ⟨M, e2 ▸ F⟩
theorem neS {prog : Program} {w : World} {A : Around} {E : Value → Shared → Prop} {s : Shared} {Q : Value → Shared → Prop} {t u : Tok} {d : Nat} {b : Bool} (hb : decide (d ≠ 0) = b) (h : Q (.bool b) s) : wpAny (model prog w) A (compareOp .NotEq (.str (mkS (List.replicate d 46)) t) (.str (Str.ofString "") u)) Q E s := by
  refine PyProof.Rows.ne_str ?_
  rw [lit_nil]
  have : (mkS (List.replicate d 46) != mkS []) = b := by
    rw [← hb]
    cases d with
    | zero => decide +kernel
    | succ d =>
      have : mkS (List.replicate (d + 1) 46) ≠ mkS [] := fun e => by
        have := congrArg Str.length e
        rw [mkS_len, mkS_len] at this
        simp at this
      simp [this]
  rw [this]; exact h
/-- the end of a block that is walked by itself -/
noncomputable def BlockEnd (g : Heap) (L : Addr) (s : Shared) (J : (Str → Option Value) → List (Addr × Obj) → Prop) (f : Flow) (s' : Shared) : Prop :=
  f = .next ∧ ∃ h tk m news, s' = { s with heap := h, toks := tk } ∧ Fr g L h m ∧ News g L h news ∧ J m news
theorem BlockEnd.intro {g : Heap} {L : Addr} {s : Shared} {J : (Str → Option Value) → List (Addr × Obj) → Prop} {h : Heap} {tk : Nat} {m : Str → Option Value} {news : List (Addr × Obj)} (F : Fr g L h m) (N : News g L h news) (hJ : J m news) :
    BlockEnd g L s J .next { s with heap := h, toks := tk } := ⟨rfl, h, tk, m, news, rfl, F, N, hJ⟩
theorem chrS {prog : Program} {w : World} {A : Around} {E : Value → Shared → Prop} {s : Shared} {Q : Value → Shared → Prop} {t : Tok} {n : Nat} (hn : n ≤ 70000) (h : Q (.str (mkS [n]) s.toks) { s with toks := s.toks + 1 }) : wpAny (model prog w) A (call (.builtin "chr") [.int (n : Int) t]) Q E s := by
  refine chr_of_range (by omega) (by omega) ?_
  rw [Int.toNat_natCast]
  exact h
theorem thirds_le0 : ∀ e : Fin 4, ∀ h : Fin 256, h.val < 4 ^ (e.val + 1) → thirdsN h.val ≤ e.val + 1 := by decide +kernel
theorem threes_le0 : ∀ e : Fin 4, ∀ h : Fin 256, h.val < 4 ^ (e.val + 1) → threesN h.val ≤ e.val + 1 := by decide +kernel
theorem th_le {e h : Nat} (h1 : 1 ≤ e) (h4 : e ≤ 4) (hh : h < 4 ^ e) : h < 256 ∧ thirdsN h ≤ e ∧ threesN h ≤ e := by
  have h256 : h < 256 := Nat.lt_of_lt_of_le hh (Nat.pow_le_pow_right (by decide) h4)
  obtain ⟨f, rfl⟩ : ∃ f, e = f + 1 := ⟨e - 1, by omega⟩
  exact ⟨h256, thirds_le0 ⟨f, by omega⟩ ⟨h, h256⟩ hh, threes_le0 ⟨f, by omega⟩ ⟨h, h256⟩ hh⟩
theorem dg2_count0 : ∀ h : Fin 256, (dg 2 (h.val : Int) ((intBits (h.val : Int) + 2 - 1) / 2)).count 3 = threesN h.val := by decide +kernel
theorem dg2_count {h : Nat} (hh : h < 256) : (dg 2 (h : Int) ((intBits (h : Int) + 2 - 1) / 2)).count 3 = threesN h := dg2_count0 ⟨h, hh⟩
theorem fmod2 (k : Nat) : (k : Int).fmod 2 = ((k % 2 : Nat) : Int) := by rw [fmod_pos (by decide)]; omega
theorem comm46 (d : Nat) (c : Bool) : (if c = true then [46] else ([] : List Nat)) ++ List.replicate d 46 = List.replicate d 46 ++ (if c = true then [46] else []) := by
  cases c
  · simp
  · show [46] ++ List.replicate d 46 = List.replicate d 46 ++ [46]
    rw [← List.replicate_succ', List.replicate_succ]; rfl
noncomputable abbrev tup3 (x y z : Value) (c : Nat) : Obj := { cls := .type "tuple", data := .seq #[x, y, z] c }
/-- it gives back three texts; the tables may have grown -/
noncomputable abbrev RetT3 (x y z : List Nat) (rest : List (Addr × Obj)) (h₀ : Heap) (L : Addr) (m : Str → Option Value) (s : Shared) (Q : Value → Shared → Prop) : Prop :=
  ∀ (D : Addr) (t1 t2 t3 : Tok) (c : Nat) (a b : TS) (h' : Heap) (tk' : Nat), a.ok qI → b.ok qD → 72 < D → (∀ p ∈ rest, p.1 < D) → Fr h₀ L h' m → News h₀ L h' ((D, tup3 (.str (mkS x) t1) (.str (mkS y) t2) (.str (mkS z) t3) c) :: led a b rest) → Q (.ref D) { s with heap := h', toks := tk' }
theorem rd_ea {r : Rd} {p : Pc} {Ex : List Nat} (h : r.ea ++ List.replicate p.d 46 ++ (if decide (p.d ≠ 0) && r.fr then [46] else []) = Ex) : (r.step p).ea = Ex ++ [p.st] ++ crlf p.kept := by
  show r.ea ++ ((if (decide (p.d ≠ 0) && r.fr) = true then [46] else []) ++ (List.replicate p.d 46 ++ p.st :: crlf p.kept)) = _
  have c := comm46 p.d (decide (p.d ≠ 0) && r.fr)
  rw [← h, ← List.append_assoc (if (decide (p.d ≠ 0) && r.fr) = true then [46] else []), c]
  simp only [List.append_assoc, List.singleton_append]
theorem rd_la {r : Rd} {p : Pc} {Lx : List Nat} (h : r.la ++ List.replicate p.d 46 ++ (if decide (p.d ≠ 0) && r.ba then [46] else []) = Lx) : (r.step p).la = Lx ++ [p.st] ++ crlf (p.e - threesN p.h) := by
  show r.la ++ ((if (decide (p.d ≠ 0) && r.ba) = true then [46] else []) ++ (List.replicate p.d 46 ++ p.st :: crlf (p.e - threesN p.h))) = _
  have c := comm46 p.d (decide (p.d ≠ 0) && r.ba)
  rw [← h, ← List.append_assoc (if (decide (p.d ≠ 0) && r.ba) = true then [46] else []), c]
  simp only [List.append_assoc, List.singleton_append]
theorem rd_fr {r : Rd} {p : Pc} : (r.step p).fr = decide (0 < (p.kept : Int)) := by
  show decide (0 < p.kept) = _
  exact decide_eq_decide.mpr (by omega)
theorem rd_ba {r : Rd} {p : Pc} (h : 1 ≤ p.e) : (r.step p).ba = decide ((p.h : Int) < 2 ^ (2 * (p.e : Int) - 1).toNat) := by
  show decide (p.h < 2 ^ (2 * p.e - 1)) = _
  rw [show (2 * (p.e : Int) - 1).toNat = 2 * p.e - 1 by omega]
  refine decide_eq_decide.mpr ?_
  rw [← kbt_cast]
  omega

end
section

local macro_rules | `(tactic| walk_at "binaryOp Add str str") => `(tactic| (k_here; (first | ((with_reducible show wpAny _ _ (binaryOp _ (Value.str (mkS _) _) (Value.str (mkS _) _)) _ _ _); k_dflt (refine' addS ?k1 ?_; (case k1 => ((simp only [List.length_append, List.length_replicate, List.length_cons, List.length_nil, crlf_len, List.length_map, List.length_range]); omega)); k_whole)) | ((with_reducible show wpAny _ _ (binaryOp _ (Value.str (mkS _) _) (Value.str (Str.ofString _) _)) _ _ _); k_dflt (refine' addD ?k1 ?_; (case k1 => ((simp only [List.length_append, List.length_replicate, List.length_cons, List.length_nil, crlf_len, List.length_map, List.length_range]); omega)); k_whole))); intro t' tk'))
local macro_rules | `(tactic| walk_at "compareOp NotEq str str") => `(tactic| (k_here; k_dflt (refine' neS ?k1 ?_; (case k1 => assumption); k_whole)))
local macro_rules | `(tactic| walk_at "call builtin:chr") => `(tactic| (k_here; k_dflt (refine' chrS ?k1 ?_; (case k1 => first | assumption | omega); k_whole)))
local macro_rules | `(tactic| walk_at "binaryOp Mult str int") => `(tactic| (k_here; (with_reducible refine mulS2 ?k1 ?_); (case k1 => first | assumption | omega); intro t' tk'))
theorem ints27 : [173, 847, 6150, 6155, 6156, 6157, 8203, 8204, 8205, 8288, 65279] ++ rangeInts 65024 1 (65040 - 65024 : Int).toNat = unseenT.map Int.ofNat := by decide +kernel
set_option maxHeartbeats 4000000 in
theorem c_roads (w : World) (mean : ExcName → Option Value) (mg mb : Str → Option Value) (rest : List (Addr × Obj)) (lh : Addr) (vh : List Value) (hs : List Int) (eph : Nat)
    (mh : (lh, listOf vh.toArray eph) ∈ rest) (hih : IntsAre vh hs) (hl5 : hs.length ≤ 5) :
    ConT w mean mg mb rest 127 [.ref lh] 40 400 (RetT3 (roads hs).t (roads hs).ea (roads hs).la) := by
  intro st1 st2 ok1 ok2 hr
  k_extra "enterP"
  k_extra "goL"
  rename CarriedAll _ _ => hca
  rename NewPlain _ _ _ _ => hnp
  rename MadeMark => hmk
  rename Heap.IsList _ _ _ => hil
  rename Fr g' _ _ _ => F1
  rename News g' _ _ _ => N1
  clear hnp hmk
  have hi1 := CarriedAll.intsOf (f := fun a => a) hca
  rw [List.map_id'] at hi1
  k_dflt (refine kmk_add_ints F1 N1 (N1.isList (.head _)) hil (vs := [_, _, _, _, _, _, _, _, _, _, _]) (.cons _ _ (.cons _ _ (.cons _ _ (.cons _ _ (.cons _ _ (.cons _ _ (.cons _ _ (.cons _ _ (.cons _ _ (.cons _ _ (.cons _ _ .nil))))))))))) hi1 ?_ (by decide +kernel))
  intro Du us h2 F2 N2 lu hiu
  rw [ints27] at hiu
  (try dsimp only)
  k_extra "goL"
  rename_i Ds hS lS hA tkA hB tkB hC tkC hD tkD hE tkE hF F5 N5
  obtain ⟨-, -, lS1, -, lS2⟩ := lS
  have lS2 := kst_ltOf lS2
  have h72u : 72 < Du := Nat.lt_trans (led_lt (fun p hp => lu p (.tail _ hp))) (Nat.lt_succ_self _) |> fun _ => led_lt (fun p hp => lu p (.tail _ hp))
  have h72s : 72 < Ds := led_lt lS2
  have exS : ∃ ss, IntsAre ss (staysT.map Int.ofNat) ∧ News g' L' hF (led st1 st2 ((Ds, listOf ss.toArray 0) :: (Du, listOf us.toArray 0) :: rest)) :=
    ⟨[_, _, _, _, _, _, _, _, _, _, _, _, _, _, _, _, _, _, _, _, _, _, _, _], .cons _ _ (.cons _ _ (.cons _ _ (.cons _ _ (.cons _ _ (.cons _ _ (.cons _ _ (.cons _ _ (.cons _ _ (.cons _ _ (.cons _ _ (.cons _ _ (.cons _ _ (.cons _ _ (.cons _ _ (.cons _ _ (.cons _ _ (.cons _ _ (.cons _ _ (.cons _ _ (.cons _ _ (.cons _ _ (.cons _ _ (.cons _ _ .nil))))))))))))))))))))))),
      led_of N5 (fun p hp => .tail _ (.tail _ (.tail _ (.tail _ (.tail _ (led_nil p hp)))))) (List.forall_mem_cons.mpr ⟨.head _, List.forall_mem_cons.mpr ⟨.tail _ (.tail _ (.tail _ (.head _))), fun p hp => .tail _ (.tail _ (.tail _ (.tail _ (.tail _ (led_r p hp)))))⟩⟩)⟩
  clear N5
  obtain ⟨ss, his, N5⟩ := exS
  have hR72 : ∀ p ∈ (Ds, listOf ss.toArray 0) :: (Du, listOf us.toArray 0) :: rest, Hi p.1 := List.forall_mem_cons.mpr ⟨hi_of h72s, List.forall_mem_cons.mpr ⟨hi_of h72u, hr⟩⟩
  obtain ⟨R, hR⟩ : ∃ R, R = (Ds, listOf ss.toArray 0) :: (Du, listOf us.toArray 0) :: rest := ⟨_, rfl⟩
  rw [← hR] at N5 hR72
  have mS : (Ds, listOf ss.toArray 0) ∈ R := hR ▸ .head _
  have mU : (Du, listOf us.toArray 0) ∈ R := hR ▸ .tail _ (.head _)
  have mH : (lh, listOf vh.toArray eph) ∈ R := hR ▸ .tail _ (.tail _ mh)
  have mR : ∀ p ∈ rest, p ∈ R := fun p hp => hR ▸ .tail _ (.tail _ hp)
  clear hR
  rw [lit_nil] at F5
  obtain ⟨mm, F5⟩ := fr_ex F5 rfl rfl rfl rfl rfl rfl rfl rfl rfl rfl rfl rfl rfl rfl rfl
  refine' loop_list (J := fun m0 i m₁ news₁ => ∃ (s5 s6 : TS) (tt te tl : Tok) (u1 u2 u3 u4 u5 u6 u7 : Option Value), s5.ok qI ∧ s6.ok qD ∧ m₁ = mapR (rdAt hs i).t (rdAt hs i).ea (rdAt hs i).la (rdAt hs i).fr (rdAt hs i).ba tt te tl u1 u2 u3 u4 u5 u6 u7 (map3 Du Ds lh mm) ∧ news₁ = led s5 s6 R) rfl F5 N5 ?hl hih ?h0 ?turn ?done
  case hl => exact led_r _ mH
  case h0 => exact ⟨st1, st2, _, _, _, _, _, _, _, _, _, _, ok1, ok2, rfl, rfl⟩
  case turn =>
    rintro I i tx m₁ news₁ h8 tk8 own hI8 hIo hi ⟨s5, s6, tt, te, tl, u1, u2, u3, u4, u5, u6, u7, ok5, ok6, rfl, rfl⟩ hoff hown F8 N8
    have hsucc := rdAt_succ hs i hi
    have hlen := rdAt_len hs i (Nat.le_of_lt hi)
    have hpk := (pc_ok (hs.getD i 0))
    have hpd := pc_d (hs.getD i 0)
    generalize hs.getD i 0 = x at *
    generalize rdAt hs i = r at *
    obtain ⟨lt, le, ll⟩ := hlen
    have ltt : r.t.length ≤ 65 := by omega
    have lee : r.ea.length ≤ 65 := by omega
    have lll : r.la.length ≤ 65 := by omega
    clear lt le ll
    have hdS : ∀ p ∈ own ++ R, Hi p.1 := fun p hp => (List.mem_append.mp hp).elim (fun q => (hown p q).elim (fun e => by rw [e]; exact hi_of (led_lt hI8)) (fun e => by rw [e]; exact hR72 _ mH)) (hR72 p)
    have N9 := led_of (a := s5) (b := s6) (r := own ++ R) N8 (fun p hp => List.mem_append_right _ (led_nil p hp)) (fun p hp => (List.mem_append.mp hp).elim (fun q => List.mem_append_left _ q) fun q => List.mem_append_right _ (led_r p q))
    clear N8
    obtain ⟨he1, he4⟩ := hpk.e1
    have hh1 := hpk.h1
    have q1 := pc_e_eq x
    have q2 := pc_h_eq x
    have q3 := pc_d_eq x
    obtain ⟨q4, q5, q6, q7⟩ := pc_st_eq x
    have qu := pc_un_eq x
    generalize pcOf x = p at *
    clear hpk
    have q2' : (x.fdiv 4).fmod (4 ^ ((p.e : Nat) : Int).toNat) = (p.h : Int) := by rw [Int.toNat_natCast]; exact q2
    have q3' : Txt.mul (Str.ofString ".") ((x.fdiv 1024).fmod 4) = mkS (List.replicate p.d 46) := by rw [q3]; exact mulV1 ⟨p.d, by omega⟩
    have F9 : Fr g' L' h8 (mapR r.t r.ea r.la r.fr r.ba tt te tl u1 u2 u3 u4 u5 u6 (some (.int x tx)) (map3 Du Ds lh mm)) := by
      refine (congrArg (Fr g' L' h8) ?_).mp F8
      refine mapR_eq rfl rfl rfl rfl rfl rfl rfl rfl rfl rfl rfl rfl fun z z1 z2 z3 z4 z5 z6 z7 z8 z9 z10 z11 z12 => ?_
      simp only [ovO, if_neg z1, if_neg z2, if_neg z3, if_neg z4, if_neg z5, if_neg z6, if_neg z7, if_neg z8, if_neg z9, if_neg z10, if_neg z11, if_neg z12]
    clear F8
    k_extra "st"
    rename Fr g' _ _ _ => F10
    rw [q1] at F10
    k_extra "st"
    rename Fr g' _ _ _ => F11
    rw [q2'] at F11
    k_extra "st"
    rename Fr g' _ _ _ => F12
    rw [q3'] at F12
    k_extra "st"
    k_extra "st"
    k_extra "st"
    obtain ⟨Ex, hEx⟩ : ∃ Ex, r.ea ++ List.replicate p.d 46 ++ (if decide (p.d ≠ 0) && r.fr then [46] else []) = Ex := ⟨_, rfl⟩
    obtain ⟨Lx, hLx⟩ : ∃ Lx, r.la ++ List.replicate p.d 46 ++ (if decide (p.d ≠ 0) && r.ba then [46] else []) = Lx := ⟨_, rfl⟩
    have lEx : Ex.length ≤ 69 := by rw [← hEx]; simp only [List.length_append, List.length_replicate]; split <;> simp <;> omega
    have lLx : Lx.length ≤ 69 := by rw [← hLx]; simp only [List.length_append, List.length_replicate]; split <;> simp <;> omega
    walk1
    (try dsimp only)
    refine wpAny_mono (Q := BlockEnd g' L' s (fun m nx => nx = led s5 s6 (own ++ R) ∧ ∃ tt te tl ue uh ud, m = mapR (r.t ++ List.replicate p.d 46) Ex (r.la ++ List.replicate p.d 46) r.fr r.ba tt te tl (some (.int (p.e : Int) ue)) (some (.int (p.h : Int) uh)) (some (.str (mkS (List.replicate p.d 46)) ud)) u4 u5 u6 (some (.int x tx)) (map3 Du Ds lh mm))) ?ifE ?afE (fun _ _ e => e)
    case ifE =>
      generalize hbd : decide (p.d ≠ 0) = bd at hEx
      generalize hfr : r.fr = bf at *
      clear hLx
      cases bd
      · rw [Bool.false_and, if_neg (by decide), List.append_nil] at hEx
        subst hEx
        k_extra "go"
        ((rename Fr g' _ _ _ => FX); (rename News g' _ _ _ => NX); (refine BlockEnd.intro FX NX ⟨rfl, _, _, _, _, _, _, mapR_eq rfl rfl rfl rfl rfl rfl rfl rfl rfl rfl rfl rfl ?_⟩); (intro z z1 z2 z3 z4 z5 z6 z7 z8 z9 z10 z11 z12); (simp only [ovO, if_neg z1, if_neg z2, if_neg z3, if_neg z4, if_neg z5, if_neg z6, if_neg z7, if_neg z8, if_neg z9, if_neg z10, if_neg z11, if_neg z12]))
      · cases bf
        · rw [Bool.and_false, if_neg (by decide), List.append_nil] at hEx
          subst hEx
          k_extra "go"
          ((rename Fr g' _ _ _ => FX); (rename News g' _ _ _ => NX); (refine BlockEnd.intro FX NX ⟨rfl, _, _, _, _, _, _, mapR_eq rfl rfl rfl rfl rfl rfl rfl rfl rfl rfl rfl rfl ?_⟩); (intro z z1 z2 z3 z4 z5 z6 z7 z8 z9 z10 z11 z12); (simp only [ovO, if_neg z1, if_neg z2, if_neg z3, if_neg z4, if_neg z5, if_neg z6, if_neg z7, if_neg z8, if_neg z9, if_neg z10, if_neg z11, if_neg z12]))
        · rw [Bool.and_true, if_pos rfl] at hEx
          subst hEx
          k_extra "go"
          ((rename Fr g' _ _ _ => FX); (rename News g' _ _ _ => NX); (refine BlockEnd.intro FX NX ⟨rfl, _, _, _, _, _, _, mapR_eq rfl rfl rfl rfl rfl rfl rfl rfl rfl rfl rfl rfl ?_⟩); (intro z z1 z2 z3 z4 z5 z6 z7 z8 z9 z10 z11 z12); (simp only [ovO, if_neg z1, if_neg z2, if_neg z3, if_neg z4, if_neg z5, if_neg z6, if_neg z7, if_neg z8, if_neg z9, if_neg z10, if_neg z11, if_neg z12]))
    case afE =>
      rintro f s' ⟨rfl, hX, tkX, _, _, rfl, FX, NX, rfl, tt2, te2, tl2, ue, uh, ud, rfl⟩
      (try dsimp only)
      walk1
      (try ((with_reducible show wpAny _ _ (execs (List.cons _ _) _) _ _ _); walk1))
      (try dsimp only)
      refine wpAny_mono (Q := BlockEnd g' L' s (fun m nx => nx = led s5 s6 (own ++ R) ∧ ∃ tt te tl ue uh ud, m = mapR (r.t ++ List.replicate p.d 46) Ex Lx r.fr r.ba tt te tl (some (.int (p.e : Int) ue)) (some (.int (p.h : Int) uh)) (some (.str (mkS (List.replicate p.d 46)) ud)) u4 u5 u6 (some (.int x tx)) (map3 Du Ds lh mm))) ?ifL ?afL (fun _ _ e => e)
      case ifL =>
        generalize hbd : decide (p.d ≠ 0) = bd at hLx
        generalize hfr : r.ba = bf at *
        clear hEx
        cases bd
        · rw [Bool.false_and, if_neg (by decide), List.append_nil] at hLx
          subst hLx
          k_extra "go"
          ((rename Fr g' _ _ _ => FX); (rename News g' _ _ _ => NX); (refine BlockEnd.intro FX NX ⟨rfl, _, _, _, _, _, _, mapR_eq rfl rfl rfl rfl rfl rfl rfl rfl rfl rfl rfl rfl ?_⟩); (intro z z1 z2 z3 z4 z5 z6 z7 z8 z9 z10 z11 z12); (simp only [ovO, if_neg z1, if_neg z2, if_neg z3, if_neg z4, if_neg z5, if_neg z6, if_neg z7, if_neg z8, if_neg z9, if_neg z10, if_neg z11, if_neg z12]))
        · cases bf
          · rw [Bool.and_false, if_neg (by decide), List.append_nil] at hLx
            subst hLx
            k_extra "go"
            ((rename Fr g' _ _ _ => FX); (rename News g' _ _ _ => NX); (refine BlockEnd.intro FX NX ⟨rfl, _, _, _, _, _, _, mapR_eq rfl rfl rfl rfl rfl rfl rfl rfl rfl rfl rfl rfl ?_⟩); (intro z z1 z2 z3 z4 z5 z6 z7 z8 z9 z10 z11 z12); (simp only [ovO, if_neg z1, if_neg z2, if_neg z3, if_neg z4, if_neg z5, if_neg z6, if_neg z7, if_neg z8, if_neg z9, if_neg z10, if_neg z11, if_neg z12]))
          · rw [Bool.and_true, if_pos rfl] at hLx
            subst hLx
            k_extra "go"
            ((rename Fr g' _ _ _ => FX); (rename News g' _ _ _ => NX); (refine BlockEnd.intro FX NX ⟨rfl, _, _, _, _, _, _, mapR_eq rfl rfl rfl rfl rfl rfl rfl rfl rfl rfl rfl rfl ?_⟩); (intro z z1 z2 z3 z4 z5 z6 z7 z8 z9 z10 z11 z12); (simp only [ovO, if_neg z1, if_neg z2, if_neg z3, if_neg z4, if_neg z5, if_neg z6, if_neg z7, if_neg z8, if_neg z9, if_neg z10, if_neg z11, if_neg z12]))
      case afL =>
        rintro f s' ⟨rfl, hY, tkY, _, _, rfl, FY, NY, rfl, tt3, te3, tl3, ue3, uh3, ud3, rfl⟩
        clear FX NX
        (try dsimp only)
        k_extra "st"
        rename Fr g' _ _ _ => FZ
        rename News g' _ _ _ => NZ
        refine item_L NZ (led_r _ (List.mem_append_right _ mS)) his q4 (by exact q5) (by decide) ?_
        intro tS
        rw [q6]
        (try dsimp only)
        k_extra "goT"
        k_extra "st"
        k_extra "st"
        rename IsRange _ _ _ _ _ _ _ _ => RI
        rename Fr g' _ _ _ => FW0
        rename News g' _ _ _ => NW
        have exW : ∃ tt te tl ue uh ud us, Fr g' L' _ (mapR (r.t ++ List.replicate p.d 46 ++ [p.st]) Ex Lx r.fr r.ba tt te tl (some (.int (p.e : Int) ue)) (some (.int (p.h : Int) uh)) (some (.str (mkS (List.replicate p.d 46)) ud)) (some (.str (mkS [p.st]) us)) u5 u6 (some (.int x tx)) (map3 Du Ds lh mm)) := ⟨_, _, _, _, _, _, _, (congrArg (Fr g' L' _) (mapR_eq rfl rfl rfl rfl rfl rfl rfl rfl rfl rfl rfl rfl (fun z z1 z2 z3 z4 z5 z6 z7 z8 z9 z10 z11 z12 => by simp only [ovO, if_neg z1, if_neg z2, if_neg z3, if_neg z4, if_neg z5, if_neg z6, if_neg z7, if_neg z8, if_neg z9, if_neg z10, if_neg z11, if_neg z12]))).mp FW0⟩
        clear FW0
        obtain ⟨tt4, te4, tl4, ue4, uh4, ud4, us4, FW⟩ := exW
        obtain ⟨T0, hT0⟩ : ∃ T0, r.t ++ List.replicate p.d 46 ++ [p.st] = T0 := ⟨_, rfl⟩
        have lT0 : T0.length ≤ 69 := by rw [← hT0]; simp only [List.length_append, List.length_replicate, List.length_singleton]; omega
        rw [hT0] at FW
        refine' loop_range (n := 2 * p.e) (J := fun m0 k m₁ news₁ => news₁ = led s5 s6 (own ++ R) ∧ ∃ (tt : Tok) (uk : Option Value), m₁ = mapR (T0 ++ (List.range k).map p.sgn) Ex Lx r.fr r.ba tt te4 tl4 (some (.int (p.e : Int) ue4)) (some (.int (p.h : Int) uh4)) (some (.str (mkS (List.replicate p.d 46)) ud4)) (some (.str (mkS [p.st]) us4)) uk u6 (some (.int x tx)) (map3 Du Ds lh mm)) rfl FW NW RI ?hbI ?hnI ?h0I ?turnI ?doneI
        case hbI => omega
        case hnI => omega
        case h0I => exact ⟨rfl, _, _, by rw [List.range_zero, List.map_nil, List.append_nil]⟩
        case turnI =>
          rintro I2 k tI m₂ news₂ hA tkA own2 hI2 hIo2 hk2 ⟨rfl, ttA, uk, rfl⟩ hoff2 hown2 FA NA
          have lTk : (T0 ++ (List.range k).map p.sgn).length ≤ 80 := by simp only [List.length_append, List.length_map, List.length_range]; omega
          have hTs : T0 ++ (List.range (k + 1)).map p.sgn = T0 ++ (List.range k).map p.sgn ++ [p.sgn k] := by rw [List.range_succ, List.map_append, List.append_assoc]; rfl
          rw [hTs]
          generalize T0 ++ (List.range k).map p.sgn = Tk at *
          obtain ⟨qa, qb, qc, qd⟩ := qu k
          k_extra "goK"
          · rename News g' _ _ _ => NX
            have hc := bit1_iff.mp (by assumption)
            refine item_L NX (List.mem_append_right _ (led_r _ (List.mem_append_right _ mU))) hiu qa (by exact qb) (by decide) ?_
            intro tU
            rw [qc]
            (try dsimp only)
            k_extra "goK"
            rename Fr g' _ _ _ => FX
            rename News g' _ _ _ => NX
            rw [show p.sgn k = p.un k by unfold Pc.sgn; rw [if_pos hc]]
            exact LoopStepU.intro FX NX (fun p hp h => hoff2 p hp (List.mem_singleton.mp h)) ⟨rfl, _, _, mapR_eq rfl rfl rfl rfl rfl rfl rfl rfl rfl rfl rfl rfl (fun z z1 z2 z3 z4 z5 z6 z7 z8 z9 z10 z11 z12 => by simp only [ovO, if_neg z1, if_neg z2, if_neg z3, if_neg z4, if_neg z5, if_neg z6, if_neg z7, if_neg z8, if_neg z9, if_neg z10, if_neg z11, if_neg z12])⟩
          · have hc : ¬ bitN p.h k = true := fun h => absurd (bit1_iff.mpr h) (by assumption)
            rw [fmod2]
            refine itemS2 (n := k % 2) (by omega) ?_
            intro tU tkU
            (try dsimp only)
            k_extra "goK"
            rename Fr g' _ _ _ => FX
            rename News g' _ _ _ => NX
            rw [show p.sgn k = if k % 2 = 0 then 13 else 10 by unfold Pc.sgn; rw [if_neg hc]]
            exact LoopStepU.intro FX NX (fun p hp h => hoff2 p hp (List.mem_singleton.mp h)) ⟨rfl, _, _, mapR_eq rfl rfl rfl rfl rfl rfl rfl rfl rfl rfl rfl rfl (fun z z1 z2 z3 z4 z5 z6 z7 z8 z9 z10 z11 z12 => by simp only [ovO, if_neg z1, if_neg z2, if_neg z3, if_neg z4, if_neg z5, if_neg z6, if_neg z7, if_neg z8, if_neg z9, if_neg z10, if_neg z11, if_neg z12])⟩
        case doneI =>
          rintro hB tkB m₂ news₂ ⟨rfl, ttB, uk, rfl⟩ FB NB
          have hT : T0 ++ (List.range (2 * p.e)).map p.sgn = r.t ++ p.text := by rw [← hT0, Pc.text]; simp
          rw [hT] at FB
          obtain ⟨h256, hth, hth3⟩ := th_le he1 he4 hh1
          k_extra "st"
          refine' ConN.use (c_thirds w mean mg mb (own ++ R) p.h _ h256 s5 s6 ok5 ok6 hdS) ?k1 ?k2 ?k3 ?k4 ?k5 ?c1 ?c2 ?k6 ?k7 ?k8 ?_
          k_extra "conds"
          intro tT s7 s8 hC tkC ok7 ok8 FC NC
          (try dsimp only)
          k_extra "goT"
          have hkp : (p.e : Int) - (thirdsN p.h : Int) = ((p.kept : Nat) : Int) := by show _ = ((p.e - thirdsN p.h : Nat) : Int); omega
          have lkp : p.kept ≤ 4 := by show p.e - thirdsN p.h ≤ 4; omega
          rename Fr g' _ _ _ => FD
          rw [hkp] at FD
          obtain ⟨kp, hkpe⟩ : ∃ kp, p.kept = kp := ⟨_, rfl⟩
          rw [hkpe] at FD lkp
          k_extra "st"
          k_extra "st"
          rename Fr g' _ _ _ => FE
          rename News g' _ _ _ => NE
          have hbh : intBits (p.h : Int) ≤ 8 := bits_lt (by omega) (by omega)
          refine' ConN.use (c_i2d w mean mg mb (own ++ R) (p.h : Int) 2 _ _ 8 ((intBits (p.h : Int) + 2 - 1) / 2) (by omega) (by omega) (by omega) (len_cast (n := 2) (by omega)) (by omega) (by omega) (by omega) (Int.lt_of_lt_of_le (lt_bits (Nat.le_refl _)) (pow2_le (by rw [show Int.toNat 2 = 2 from rfl]; omega))) (fun h => by have := bits_pos h; omega) s7 s8 ok7 ok8 hdS) ?k1 ?k2 ?k3 ?k4 ?k5 ?c1 ?c2 ?k6 ?k7 ?k8 ?_
          k_extra "conds"
          intro Dg vg epg s9 s10 hG tkG hIg ok9 ok10 lDg lDgr FG NG
          have hcg := dg2_count h256
          rw [show Int.toNat 2 = 2 from rfl] at hIg
          generalize dg 2 (p.h : Int) ((intBits (p.h : Int) + 2 - 1) / 2) = dgl at hIg hcg
          (try dsimp only)
          k_extra "goT"
          k_dflt (refine count_list_ints (NG.isList (.head _)) hIg ?_)
          rw [hcg]
          have NH := kst_newsOf NG (fun p hp => .tail _ hp)
          clear NG
          (try dsimp only)
          repeat ((fail_if_success (with_reducible show wpAny _ _ (binaryOp .Mult _ _) _ _ _)); walk1; (try dsimp only))
          have hk3 : (p.e : Int) - (threesN p.h : Int) = ((p.e - threesN p.h : Nat) : Int) := by omega
          rw [hk3]
          have lk3 : p.e - threesN p.h ≤ 4 := by omega
          obtain ⟨k3, hk3e⟩ : ∃ k3, p.e - threesN p.h = k3 := ⟨_, rfl⟩
          rw [hk3e] at lk3 ⊢
          k_extra "goT"
          k_extra "st"
          k_extra "st"
          rename Fr g' _ _ _ => FX
          rename News g' _ _ _ => NX
          have r1 : (rdAt hs (i + 1)).t = r.t ++ p.text := by rw [hsucc]; rfl
          have r2 : (rdAt hs (i + 1)).ea = Ex ++ [p.st] ++ crlf kp := by rw [hsucc, rd_ea hEx, hkpe]
          have r3 : (rdAt hs (i + 1)).la = Lx ++ [p.st] ++ crlf k3 := by rw [hsucc, rd_la hLx, hk3e]
          have r4 : (rdAt hs (i + 1)).fr = decide (0 < (kp : Int)) := by rw [hsucc, rd_fr, hkpe]
          have r5 : (rdAt hs (i + 1)).ba = decide ((p.h : Int) < 2 ^ (2 * (p.e : Int) - 1).toNat) := by rw [hsucc]; exact rd_ba he1
          have NY2 := kst_newsOf (l' := own ++ led s9 s10 R) NX (fun p hp => (List.mem_append.mp hp).elim (fun q => led_r p (List.mem_append_left _ q)) (led_in led_nil (fun p q => led_r p (List.mem_append_right _ q)) p))
          rw [r1, r2, r3, r4, r5]
          exact LoopStepU.intro FX NY2 (led_off NY2 hIo ok9 ok10 (led_lt hI8) (fun p hp => hoff p (led_r p hp))) ⟨s9, s10, _, _, _, _, _, _, _, _, _, _, ok9, ok10, mapR_eq rfl rfl rfl rfl rfl rfl rfl rfl rfl rfl rfl rfl (fun z z1 z2 z3 z4 z5 z6 z7 z8 z9 z10 z11 z12 => by simp only [ovO, if_neg z1, if_neg z2, if_neg z3, if_neg z4, if_neg z5, if_neg z6, if_neg z7, if_neg z8, if_neg z9, if_neg z10, if_neg z11, if_neg z12]), rfl⟩
  case done =>
    rintro hM tkM m₁ news₁ ⟨s5, s6, tt, te, tl, u1, u2, u3, u4, u5, u6, u7, ok5, ok6, rfl, rfl⟩ FM NM
    rw [show rdAt hs hs.length = roads hs by unfold rdAt; rw [List.take_of_length_le (Nat.le_refl _)]] at FM
    have ltM : ∀ p ∈ led s5 s6 R, p.1 < hM.objs.size := fun p hp => Heap.lt_size (NM p hp).1
    k_extra "goL"
    rename News h₀ _ _ _ => NT
    exact hret _ _ _ _ _ s5 s6 _ _ ok5 ok6 (led_lt ltM) (fun p hp => ltM p (led_r p (mR p hp))) (by k_asm) (kst_newsOf NT (List.forall_mem_cons.mpr ⟨.head _, fun p hp => .tail _ (led_mono mR p hp)⟩))

end
section
noncomputable abbrev kS : Int := 1208925819617927709589249
noncomputable abbrev kP : Int := 2199023255555
noncomputable abbrev kC1 : Int := 1099511627779
noncomputable abbrev kC2 : Int := 1208925819621226244473096
noncomputable abbrev kC3 : Int := 1329227995795796205281209536061900309
noncomputable abbrev kR1 : Int := 1461501637346853654155018761689405124750449121591
noncomputable abbrev kR0 : Int := 1606938044276528295190682611949231493287608449041700776177941
theorem k_ids : kS = 1 + 3 * 2 ^ 40 + 2 ^ 40 * 2 ^ 40 - 256 ∧ kP = 3 + 2 * 2 ^ 40 ∧ kC1 = kP - 2 ^ 40 ∧ kC2 = kP * kC1 - kS ∧ kC3 = kP * kC2 - kS * kC1 ∧ kR1 = kP * kC3 - kS * kC2 ∧ kR0 = kS * kC3 := by decide +kernel
/-- the divisor -/
noncomputable def dvs (X : Int) : Int := kS + X * (-kP + X * 1)
/-- the digits that count both roads -/
noncomputable def quo (X : Int) : Int := kC3 + X * (kC2 + X * (kC1 + X * 1))
noncomputable def dvd (X H : Int) : Int := X ^ 5 - 2 ^ 40 * X ^ 4 + H * dvs X
theorem big_sq {X : Int} (h : 2 ^ 400 ≤ X) : 2 ^ 400 * X ≤ X * X := Int.mul_le_mul_of_nonneg_right h (by omega)
theorem dvs_pos {X : Int} (h : 2 ^ 400 ≤ X) : 0 < kR1 * X - kR0 ∧ kR1 * X - kR0 < dvs X ∧ 0 < dvs X := by
  have := big_sq h
  unfold dvs
  simp only [kR1, kR0, kS, kP, Int.mul_one, Int.mul_add] at *
  generalize X * X = Y at *
  rw [show (2 : Int) ^ 400 = 2582249878086908589655919172003011874329705792829223512830659356540647622016841194629645353280137831435903171972747493376 by decide +kernel] at *
  omega
theorem dvd_eq (X H : Int) : dvd X H = dvs X * (H + quo X) + (kR1 * X - kR0) := by
  unfold dvd dvs quo
  simp only [kR1, kR0, kS, kP, kC1, kC2, kC3]
  grind

end
section
theorem stuff_len : ∀ (l : List Nat) (b : Bool), (stuff b l).length ≤ 2 * l.length
  | [], b => by cases b <;> exact Nat.le_refl _
  | c :: r, b => by
    have h1 := stuff_len r false
    have h2 := stuff_len r (c == 10)
    show (if _ then _ else _ : List Nat).length ≤ _
    simp only [List.length_cons]
    split <;> simp only [List.length_cons] <;> omega
theorem roads_len (hs : List Int) (h : hs.length ≤ 5) : (roads hs).t.length ≤ 65 ∧ (roads hs).ea.length ≤ 65 ∧ (roads hs).la.length ≤ 65 := by
  have := rdAt_len hs hs.length (Nat.le_refl _)
  have e : rdAt hs hs.length = roads hs := by unfold rdAt; rw [List.take_of_length_le (Nat.le_refl _)]
  rw [e] at this
  omega
theorem picks {vs : List Value} {ns : List Int} (hi : IntsAre vs ns) : ∀ idx : List Nat, ∃ ms, IntsAre (idx.filterMap fun i => vs.toArray[i]?) ms
  | [] => ⟨[], .nil⟩
  | i :: r => by
    obtain ⟨ms, hm⟩ := picks hi r
    cases h : vs.toArray[i]? with
    | none => exact ⟨ms, by rw [List.filterMap_cons_none h]; exact hm⟩
    | some v =>
      obtain ⟨t, rfl⟩ := hi.int_at i v (by simpa using h)
      exact ⟨_ :: ms, by rw [List.filterMap_cons_some h]; exact .cons _ _ hm⟩
theorem sum_abs (B : Nat) : ∀ ns : List Int, (∀ x ∈ ns, x.natAbs ≤ B) → ns.sum.natAbs ≤ ns.length * B
  | [], _ => by simp
  | a :: r, h => by
    have h1 := h a (.head _)
    have h2 := sum_abs B r fun x hx => h x (.tail _ hx)
    rw [List.sum_cons, List.length_cons, Nat.add_mul, Nat.one_mul]
    omega
theorem sum_bits {M : Nat} {ns : List Int} (h : ∀ x ∈ ns, intBits x ≤ M) (hl : ns.length ≤ 63) : intBits ns.sum ≤ M + 6 := by
  refine intBits_le_iff.mpr ?_
  have h1 := sum_abs (2 ^ M) ns fun x hx => Nat.le_of_lt (intBits_le_iff.mp (h x hx))
  have h2 : ns.length * 2 ^ M ≤ 63 * 2 ^ M := Nat.mul_le_mul_right _ hl
  have h3 := Nat.two_pow_pos M
  rw [Nat.pow_add]
  omega
theorem tot_bits {ns : List Int} (h : PyData.layable0 (.list (ns.map .int)) = true) (hl : ns.length ≤ 63) : intBits (ns.sum - 1) ≤ 1048583 := by
  have h1 := sum_bits (M := 1048576) (fun x hx => intBits_le_of_item hx h) hl
  have h2 := intBits_sub_le h1 (intBits_le_iff.mpr (by decide) : intBits 1 ≤ 1)
  omega
theorem p9_bits : intBits ((3 : Int) ^ 9000) ≤ 18001 := intBits_pow_le (m := 2) (intBits_le_iff.mpr (by decide)) 9000
theorem X_big {W : Nat} (h : 4001 ≤ W) : (2 : Int) ^ 400 ≤ 2 ^ W := pow2_le (by omega)
theorem dvs_lo {W : Nat} (h : 4001 ≤ W) : 8000 ≤ intBits (dvs (2 ^ W)) := by
  refine Nat.not_lt.mp fun g => ?_
  have h1 : intBits (dvs (2 ^ W)) ≤ 7999 := by omega
  have h2 := lt_bits h1
  have hX : (2 : Int) ^ 4001 ≤ 2 ^ W := pow2_le h
  have e1 : (2 : Int) ^ 4001 = 2 ^ 4000 * 2 := Int.pow_succ ..
  have e2 : (2 : Int) ^ 8000 = 2 ^ 4000 * 2 ^ 4000 := by rw [← Int.pow_add]
  have h4 : (2 : Int) ^ 400 ≤ 2 ^ 4000 := pow2_le (by decide)
  have h3 : (2 : Int) ^ 7999 ≤ 2 ^ 8000 := pow2_le (by decide)
  rw [e1] at hX
  rw [e2] at h3
  generalize (2 : Int) ^ 7999 = Z at *
  generalize (2 : Int) ^ 4000 = Y at *
  generalize (2 : Int) ^ W = X at *
  have hk : kP ≤ Y := Int.le_trans (by decide) h4
  have hy0 : 0 < Y := Int.lt_of_lt_of_le (by decide) h4
  have m1 : Y * Y ≤ X * (X - kP) := by
    have a1 : Y * Y ≤ X * Y := Int.mul_le_mul_of_nonneg_right (by omega) (by omega)
    have a2 : X * Y ≤ X * (X - kP) := Int.mul_le_mul_of_nonneg_left (by omega) (by omega)
    omega
  have e3 : dvs X = X * (X - kP) + kS := by unfold dvs; simp only [kP, kS]; grind
  have hks : (0 : Int) < kS := by decide
  rw [e3] at h2
  generalize X * (X - kP) = U at *
  generalize Y * Y = V at *
  omega
theorem kSbits : intBits kS ≤ 100 := intBits_le_iff.mpr (by decide)
theorem kPbits : intBits (-kP) ≤ 100 := intBits_le_iff.mpr (by decide)
theorem X_bits (W : Nat) : intBits ((2 : Int) ^ W) ≤ W + 1 := by
  refine intBits_le_iff.mpr ?_
  rw [Int.natAbs_pow, Nat.pow_succ]
  have := Nat.two_pow_pos W
  show 2 ^ W < _
  omega
theorem dvs_hi {W : Nat} (h : 4001 ≤ W) (h2 : W ≤ 4060) : intBits (dvs (2 ^ W)) ≤ 8300 := by
  unfold dvs
  have hx := X_bits W
  have a1 := intBits_mul_le hx (intBits_le_iff.mpr (by decide) : intBits 1 ≤ 1)
  have a2 := intBits_add_le kPbits a1
  have a3 := intBits_mul_le hx a2
  have a4 := intBits_add_le kSbits a3
  omega
theorem dvd_bits {W : Nat} {H : Int} (h : 4001 ≤ W) (h2 : W ≤ 4060) (hH : intBits H ≤ 1100000) : intBits (dvd (2 ^ W) H) ≤ 1200000 := by
  unfold dvd
  have hx := X_bits W
  have a1 := intBits_pow_le hx 5
  have a2 := intBits_pow_le hx 4
  have a3 := intBits_mul_le (intBits_le_iff.mpr (by decide) : intBits (2 ^ 40) ≤ 41) a2
  have a4 := intBits_mul_le hH (dvs_hi h h2)
  have a5 := intBits_add_le (intBits_sub_le a1 a3) a4
  omega
/-- what c_idm asks of the sizes -/
theorem sizes {A B : Nat} (hA : A ≤ 1200000) (hB : 8000 ≤ B) : (A + B - 1) / B ≤ 500 ∧ (A + B - 1) / B ≤ 2 ^ 8 := by
  have : (A + B - 1) / B < 152 := by
    rw [Nat.div_lt_iff_lt_mul (by omega)]
    omega
  exact ⟨by omega, by have : (2 : Nat) ^ 8 = 256 := rfl; omega⟩

end
section
section
variable {X H : Int} (h : 2 ^ 400 ≤ X)
include h
theorem dv_main : (dvd X H).fdiv (dvs X) = H + quo X ∧ (dvd X H).fmod (dvs X) = kR1 * X - kR0 := by
  obtain ⟨h1, h2, h3⟩ := dvs_pos h
  have u := kbt_unique (a := dvd X H) (q := H + quo X) (r := kR1 * X - kR0) h3 (by rw [dvd_eq X H, Int.add_comm]) (Int.le_of_lt h1) h2
  rw [fdiv_pos h3, fmod_pos h3]
  exact u
theorem dv_neg : (dvd X H).fdiv (-(dvs X)) = -(H + quo X) - 1 ∧ (dvd X H).fmod (-(dvs X)) = kR1 * X - kR0 - dvs X := by
  obtain ⟨h1, h2, h3⟩ := dvs_pos h
  obtain ⟨f1, f2⟩ := idm_flip (dvd X H) (-(dvs X))
  rw [Int.neg_neg] at f1 f2
  have u := kbt_unique (a := -(dvd X H)) (q := -(H + quo X) - 1) (r := dvs X - (kR1 * X - kR0)) h3 (by
    have e := dvd_eq X H
    rw [e, Int.mul_sub, Int.mul_neg, Int.mul_one]
    omega) (by omega) (by omega)
  rw [← f1, ← f2, fdiv_pos h3, fmod_pos h3, u.1, u.2]
  exact ⟨rfl, by omega⟩
theorem dv_base : (-X * dvs X).fdiv (dvs X) = -X ∧ (-X * dvs X).fmod (dvs X) = 0 := by
  obtain ⟨h1, h2, h3⟩ := dvs_pos h
  have u := kbt_unique (a := -X * dvs X) (q := -X) (r := 0) h3 (by rw [Int.mul_comm]; omega) (Int.le_refl _) h3
  rw [fdiv_pos h3, fmod_pos h3]
  exact u
omit h in
theorem dv_eq : (H + quo X) * dvs X + (kR1 * X - kR0) = dvd X H := by rw [dvd_eq X H, Int.mul_comm]
theorem quo_pos : 0 ≤ quo X ∧ 0 < X := by
  have hx : 0 < X := Int.lt_of_lt_of_le (Int.pow_pos (by decide)) h
  refine ⟨?_, hx⟩
  unfold quo
  have a1 : 0 ≤ X * (kC1 + X * 1) := Int.mul_nonneg (by omega) (by simp only [kC1]; omega)
  have a2 : 0 ≤ X * (kC2 + X * (kC1 + X * 1)) := Int.mul_nonneg (by omega) (by simp only [kC2] at *; omega)
  simp only [kC3] at *
  omega
end
theorem dg_step {N : Nat} {c q : Int} {k : Nat} (h0 : 0 ≤ c) (h1 : c < 2 ^ N) : dg N (c + 2 ^ N * q) (k + 1) = c :: dg N q k := by
  have hP := kbt_pos N
  have u := kbt_unique (a := c + 2 ^ N * q) (q := q) (r := c) hP (by omega) h0 h1
  rw [dg, u.1, u.2]
theorem quo_dg {W : Nat} (h : 4001 ≤ W) : dg W (quo (2 ^ W)) 4 = [kC3, kC2, kC1, 1] := by
  have hX := X_big h
  have hb : (2 : Int) ^ 200 ≤ 2 ^ W := pow2_le (by omega)
  have b : ∀ c : Int, c < 2 ^ 200 → c < 2 ^ W := fun c hc => Int.lt_of_lt_of_le hc hb
  unfold quo
  rw [dg_step (by decide) (b _ (by decide)), dg_step (by decide) (b _ (by decide)), dg_step (by decide) (b _ (by decide)), dg_one (by decide) (b _ (by decide))]
theorem quo_lo {W : Nat} (h : 4001 ≤ W) : (2 : Int) ^ (3 * W) ≤ quo (2 ^ W) ∧ quo (2 ^ W) < 2 ^ (3 * W + 1) := by
  have hX := X_big h
  have hb : (2 : Int) ^ 200 ≤ 2 ^ W := pow2_le (by omega)
  have hx0 : (0 : Int) < 2 ^ W := kbt_pos W
  have e3 : (2 : Int) ^ (3 * W) = 2 ^ W * (2 ^ W * 2 ^ W) := by rw [← Int.pow_add, ← Int.pow_add]; congr 1; omega
  rw [Int.pow_succ, e3]
  unfold quo
  have hc1 : kC1 < 2 ^ 200 := by decide
  have hc2 : kC2 < 2 ^ 200 := by decide
  have hc3 : kC3 < 2 ^ 200 := by decide
  have hp1 : (0 : Int) < kC1 := by decide
  have hp2 : (0 : Int) < kC2 := by decide
  have hp3 : (0 : Int) < kC3 := by decide
  have hK : (2 : Int) ^ 200 * 2 ^ 200 = 2 ^ 400 := by rw [← Int.pow_add]
  have hG : (4 : Int) < 2 ^ 200 := by decide
  generalize kC1 = c1 at *
  generalize kC2 = c2 at *
  generalize kC3 = c3 at *
  generalize (2 : Int) ^ 400 = K4 at *
  generalize (2 : Int) ^ 200 = K at *
  generalize (2 : Int) ^ W = X at *
  have s1 : K * X ≤ X * X := Int.mul_le_mul_of_nonneg_right hb (by omega)
  have s2 : K * (X * X) ≤ X * (X * X) := Int.mul_le_mul_of_nonneg_right hb (Int.mul_nonneg (by omega) (by omega))
  have s3 : c1 * (X * X) ≤ (K - 1) * (X * X) := Int.mul_le_mul_of_nonneg_right (by omega) (Int.mul_nonneg (by omega) (by omega))
  have s4 : c2 * X ≤ (K - 1) * X := Int.mul_le_mul_of_nonneg_right (by omega) (by omega)
  have p1 : 0 ≤ c1 * (X * X) := Int.mul_nonneg (by omega) (Int.mul_nonneg (by omega) (by omega))
  have p2 : 0 ≤ c2 * X := Int.mul_nonneg (by omega) (by omega)
  have e : c3 + X * (c2 + X * (c1 + X * 1)) = X * (X * X) + (c1 * (X * X) + (c2 * X + c3)) := by grind
  rw [e]
  rw [Int.sub_mul, Int.one_mul] at s3 s4
  generalize X * (X * X) = U at *
  generalize c1 * (X * X) = U1 at *
  generalize c2 * X = U2 at *
  generalize K * (X * X) = U3 at *
  generalize K * X = U4 at *
  generalize X * X = U5 at *
  refine ⟨by omega, by omega⟩
theorem quo_bits {W : Nat} (h : 4001 ≤ W) : intBits (quo (2 ^ W)) = 3 * W + 1 := by
  obtain ⟨h1, h2⟩ := quo_lo h
  have h0 := (quo_pos (X_big h)).1
  refine Nat.le_antisymm (bits_lt h0 h2) (Nat.not_lt.mp fun g => ?_)
  have := lt_bits (show intBits (quo (2 ^ W)) ≤ 3 * W by omega)
  omega
theorem quo_len {W : Nat} (h : 4001 ≤ W) : ((intBits (quo (2 ^ W)) : Int) + (W : Int) - 1).fdiv (W : Int) = ((4 : Nat) : Int) := by
  rw [quo_bits h, fdiv_pos (by omega)]
  have e : ((3 * W + 1 : Nat) : Int) + (W : Int) - 1 = (W : Int) * 4 := by omega
  rw [e, Int.mul_ediv_cancel_left _ (by omega)]
  rfl
theorem quo_lt {W : Nat} (h : 4001 ≤ W) : quo (2 ^ W) < 2 ^ (W * 4) := Int.lt_of_lt_of_le (quo_lo h).2 (pow2_le (by omega))
theorem dval_v8 : ∀ l : List Nat, dval 8 (l.map Int.ofNat) = (v8 l : Int)
  | [] => rfl
  | d :: r => by
    rw [List.map_cons, dval, dval_v8 r, v8]
    show (d : Int) + 2 ^ 8 * (v8 r : Int) = ((d + 256 * v8 r : Nat) : Int)
    rw [Int.natCast_add, Int.natCast_mul]
    rfl
theorem counts_val {e : Nat} (he : e ≤ 3) : (v8 (cAt e (4 ^ e)) : Int) = [1, kC1, kC2, kC3].getD e 0 := by
  have := cAt_v8
  simp only [Prod.mk.injEq] at this
  obtain ⟨h3, h2, h1, h0⟩ := this
  rcases e with _ | _ | _ | _ | e
  · exact congrArg Int.ofNat h0
  · exact congrArg Int.ofNat h1
  · exact congrArg Int.ofNat h2
  · exact congrArg Int.ofNat h3
  · omega
theorem counts_small {e : Nat} (he : e ≤ 3) : ∀ v ∈ (cAt e (4 ^ e)).map Int.ofNat, intBits v ≤ 10 := by
  have key : ∀ l : List Nat, (l.all fun c => decide (c ≤ 64)) = true → ∀ v ∈ l.map Int.ofNat, intBits v ≤ 10 := by
    intro l hl v hv
    obtain ⟨c, hc, rfl⟩ := List.mem_map.mp hv
    have := of_decide_eq_true (List.all_eq_true.mp hl c hc)
    exact bits_lt (Int.natCast_nonneg _) (by show (c : Int) < 2 ^ 10; omega)
  rcases e with _ | _ | _ | _ | e
  · exact key _ (by decide +kernel)
  · exact key _ (by decide +kernel)
  · exact key _ (by decide +kernel)
  · exact key _ (by decide +kernel)
  · omega
theorem dval3 (W : Nat) : dval W [kS, -kP, 1] = dvs (2 ^ W) := by
  show kS + 2 ^ W * (-kP + 2 ^ W * (1 + 2 ^ W * 0)) = _
  unfold dvs
  rw [Int.mul_zero, Int.add_zero]

end
section

theorem led_65 {a b : TS} {r : List (Addr × Obj)} : ∃ o, ((65 : Nat), o) ∈ led a b r := by
  cases a with
  | no => exact ⟨_, .head _⟩
  | yes c oc => exact ⟨_, .head _⟩
theorem led_72 {a b : TS} {r : List (Addr × Obj)} : ∃ o, ((72 : Nat), o) ∈ led a b r := by
  cases b with
  | no => exact ⟨_, List.mem_append_right _ (.head _)⟩
  | yes c oc => exact ⟨_, List.mem_append_right _ (.head _)⟩
theorem off_hi {I C D : Addr} {a b : TS} {r : List (Addr × Obj)} (h : LCg.Off3 I C D (led a b r)) : Hi I ∧ Hi C ∧ Hi D := by
  obtain ⟨o1, m1⟩ := led_65 (a := a) (b := b) (r := r)
  obtain ⟨o2, m2⟩ := led_72 (a := a) (b := b) (r := r)
  obtain ⟨x1, x2, x3⟩ := h.mem _ m1
  obtain ⟨y1, y2, y3⟩ := h.mem _ m2
  exact ⟨⟨fun e => x1 e.symm, fun e => y1 e.symm⟩, ⟨fun e => x2 e.symm, fun e => y2 e.symm⟩, ⟨fun e => x3 e.symm, fun e => y3 e.symm⟩⟩
theorem off_grow {I C D : Addr} {a b : TS} {r : List (Addr × Obj)} {c : Addr} {oc : Obj} (h : LCg.Off3 I C D (led a b r)) (h1 : ∀ c0 o0, b = .yes c0 o0 → c0 = c ∧ o0 = oc) (h2 : b = .no → I < c ∧ C < c ∧ D < c) : LCg.Off3 I C D (led a (.yes c oc) r) := by
  cases b with
  | yes c0 o0 =>
    obtain ⟨rfl, rfl⟩ := h1 c0 o0 rfl
    exact h
  | no =>
    obtain ⟨g1, g2, g3⟩ := h2 rfl
    refine LCg.Off3.of fun p hp => ?_
    have hm := h.mem
    obtain ⟨o2, m2⟩ := led_72 (a := a) (b := .no) (r := r)
    rcases List.mem_append.mp hp with q | q
    · exact hm p (List.mem_append_left _ q)
    · rcases List.mem_append.mp q with q | q
      · rcases List.mem_cons.mp q with rfl | q
        · exact (hm (72, o2) m2 : (72 : Nat) ≠ I ∧ (72 : Nat) ≠ C ∧ (72 : Nat) ≠ D)
        · rw [List.mem_singleton.mp q]
          exact ⟨Nat.ne_of_gt g1, Nat.ne_of_gt g2, Nat.ne_of_gt g3⟩
      · exact hm p (List.mem_append_right _ (List.mem_append_right _ q))
set_option maxHeartbeats 8000000 in
theorem law_tail (w : World) (mean : ExcName → Option Value) (mg mb : Str → Option Value) (base : Heap) (L fa : Addr) (cd : Value) (dp un : Nat) (gd : Option (List Code)) (mm : Str → Option Value) (R : List (Addr × Obj)) (s : Shared) (Q : Flow → Shared → Prop) (E : Value → Shared → Prop)
    (Xb H : Int) (W : Nat) (a b : TS) (t1 t2 t3 t4 t5 : Tok)
    (B : Below callerA base [] base) (F : Fr base L s.heap (ovO [(Str.ofString "dividend", some (.int (dvd Xb H) t1)), (Str.ofString "divisor", some (.int (dvs Xb) t2)), (Str.ofString "base", some (.int Xb t3)), (Str.ofString "high", some (.int H t4)), (Str.ofString "width", some (.int (W : Int) t5))] mm))
    (X : (KF w.params).In base) (N : News base L s.heap (led a b R)) (T : Top topProg looseT mean mg mb base) (C1 : CodeHd base 69 65) (C2 : CodeHd base 76 72) (oka : a.ok qI) (okb : b.ok qD) (hR72 : ∀ p ∈ R, Hi p.1)
    (hW1 : 4001 ≤ W) (hW2 : W ≤ 4060) (hXb : (2 : Int) ^ W = Xb) (hbX : intBits Xb ≤ 4061) (hXX : 2 ^ 400 ≤ Xb) (hds : intBits (dvs Xb) ≤ 8300) (hdl : 8000 ≤ intBits (dvs Xb)) (hdd : intBits (dvd Xb H) ≤ 1200000) (hHb : intBits H ≤ 1066584) (hd : dp + 200 < recursionLimit) (hu : un + 1000 < cLine)
    (hret : ∀ h' tk' m' a b r, Fr base L h' m' → a.ok qI → b.ok qD → News base L h' (led a b r) → Q (.ret (.bool true)) { s with heap := h', toks := tk' }) :
    wpAny (model pr w) { handled := none, depth := dp, frames := some (envOfC (Str.ofString "law") (dS 22) L fa cd :: []), guards := gd, units := un } (execs ((dB 22).drop 10) (envOfC (Str.ofString "law") (dS 22) L fa cd)) Q E s := by
  have kf : (PySem.Challenge.rw_rs0075_01, KF) = (PySem.Challenge.rw_rs0075_01, KF) := by (k_fill; rfl)
  conv in (dB _) => whnf
  simp only [List.drop]
  obtain ⟨dp1, dp2, dp3⟩ := dvs_pos hXX
  obtain ⟨dm1, dm2⟩ := dv_main (H := H) hXX
  obtain ⟨dn1, dn2⟩ := dv_neg (H := H) hXX
  obtain ⟨db1, db2⟩ := dv_base hXX
  have deq := dv_eq (X := Xb) (H := H)
  have hqb : intBits (quo Xb) ≤ 13000 := by rw [← hXb, quo_bits hW1]; omega
  have hqH : intBits (H + quo Xb) ≤ 1066585 := Nat.le_trans (intBits_add_le hHb hqb) (by omega)
  have hqe : H + quo Xb - H = quo Xb := by omega
  have hq0 := (quo_pos hXX).1
  have hql : ((intBits (quo Xb) : Int) + (W : Int) - 1).fdiv (W : Int) = ((4 : Nat) : Int) := hXb ▸ quo_len hW1
  have hqlt : quo Xb < 2 ^ (W * 4) := by rw [← hXb]; exact quo_lt hW1
  have hqd : dg W (quo Xb) 4 = [kC3, kC2, kC1, 1] := by rw [← hXb]; exact quo_dg hW1
  generalize quo Xb = qx at *
  obtain ⟨q, hq⟩ : ∃ q, H + qx = q := ⟨_, rfl⟩
  obtain ⟨rr, hrr⟩ : ∃ rr, kR1 * Xb - kR0 = rr := ⟨_, rfl⟩
  rw [hq] at hqH hqe dm1 dn1 deq
  rw [hrr] at dm2 dn2 deq dp1 dp2
  walk1
  k_extra "goT"
  refine' ConN.use (c_idm w mean mg mb R (dvd Xb H) (dvs Xb) _ _ 8 (Int.ne_of_gt dp3) (by omega) (by omega) (sizes hdd hdl).1 (sizes hdd hdl).2 a b oka okb hR72) ?k1 ?k2 ?k3 ?k4 ?k5 ?c1 ?c2 ?k6 ?k7 ?k8 ?_
  k_extra "conds"
  intro Dq u1 u2 cq a2 b2 hA tkA ok2 ok2' l72q lRq FA NA
  rw [dm1, dm2] at NA
  (try dsimp only)
  k_extra "goT"
  rename Fr base _ _ _ => FB
  rename News base _ _ _ => NB0
  have NB := led_of (a := a2) (b := b2) (r := R) NB0 (fun p hp => .tail _ (led_nil p hp)) (fun p hp => .tail _ (led_r p hp))
  clear NB0
  k_extra "st"
  rw [hqe]
  refine' ConN.use (c_i2d w mean mg mb R qx (W : Int) _ _ 2 4 hq0 (by omega) (by omega) hql (by decide) (by decide) (by omega) (by rw [Int.toNat_natCast]; exact hqlt) (fun _ => by decide) a2 b2 ok2 ok2' hR72) ?k1 ?k2 ?k3 ?k4 ?k5 ?c1 ?c2 ?k6 ?k7 ?k8 ?_
  k_extra "conds"
  intro Dg vg epg a3 b3 hC tkC hIg ok3 ok3' l72g lRg FC NC
  rw [Int.toNat_natCast, hqd] at hIg
  (try dsimp only)
  k_extra "goT"
  refine LCg.ListComp_U (F₀ := by k_asm) (by with_unfolding_all rfl) (by decide) (by rfl) (by decide) (by rfl) ?_
  k_extra "goL"
  rename_i Dl hl4 F4 N4 ll4
  obtain ⟨-, ll5⟩ := ll4
  have ll5 := kst_ltOf ll5
  have exS4 : ∃ v4, IntsAre v4 [3, 2, 1, 0] ∧ News base L hl4 (led a3 b3 ((Dl, listOf v4.toArray 0) :: (Dg, listOf vg.toArray epg) :: R)) :=
    ⟨[_, _, _, _], .cons _ _ (.cons _ _ (.cons _ _ (.cons _ _ .nil))), led_of N4 (fun p hp => .tail _ (.tail _ (led_nil p hp))) (List.forall_mem_cons.mpr ⟨.head _, List.forall_mem_cons.mpr ⟨.tail _ (.head _), fun p hp => .tail _ (.tail _ (led_r p hp))⟩⟩)⟩
  clear N4
  obtain ⟨v4, hi4, N4⟩ := exS4
  obtain ⟨R4, hR4⟩ : ∃ R4, R4 = (Dl, listOf v4.toArray 0) :: (Dg, listOf vg.toArray epg) :: R := ⟨_, rfl⟩
  rw [← hR4] at N4
  have mDl : (Dl, listOf v4.toArray 0) ∈ R4 := hR4 ▸ .head _
  have mDg : (Dg, listOf vg.toArray epg) ∈ R4 := hR4 ▸ .tail _ (.head _)
  have mRR : ∀ p ∈ R, p ∈ R4 := fun p hp => hR4 ▸ .tail _ (.tail _ hp)
  have hR4h : ∀ p ∈ R4, Hi p.1 := hR4 ▸ List.forall_mem_cons.mpr ⟨hi_of (led_lt ll5), List.forall_mem_cons.mpr ⟨hi_of l72g, hR72⟩⟩
  clear hR4
  have hs4 : v4.toArray.size = 4 := by rw [List.size_toArray, hi4.length]; rfl
  refine LCg.CompSrc.ledger (its := v4.toArray) (k := 0) rfl F4 N4 (led_r _ mDl) (by rw [hs4]; decide) ?_
  intro g4
  refine rest_inv (J := fun j ys nw => ∃ bb : TS, bb.ok qD ∧ nw = led a3 bb R4 ∧ IntsAre ys ([kC3, kC2, kC1, 1].take j)) ⟨b3, ok3', rfl, .nil⟩ ?turn4 ?fin4
  case turn4 =>
    rintro j ys nw v Ic oI C oC D2 m₂ hD tkD E' hj ⟨bb, okbb, rfl, hys⟩ hv hC hxs FD ND off ne
    rw [hs4] at hj
    obtain ⟨tv, rfl⟩ := hi4.int_at j v (by simpa using hv)
    obtain ⟨e, he, hje⟩ : ∃ e : Nat, e ≤ 3 ∧ j + e = 3 := ⟨3 - j, by omega, by omega⟩
    have hjv : ([3, 2, 1, 0] : List Int).getD j 0 = (e : Int) := by
      rcases j with _ | _ | _ | _ | j
      · show (3 : Int) = _; omega
      · show (2 : Int) = _; omega
      · show (1 : Int) = _; omega
      · show (0 : Int) = _; omega
      · omega
    rw [hjv] at hxs
    obtain ⟨hoI, hoC, hoD⟩ := off_hi off
    k_extra "goK"
    refine' Con.use (c_counts w mean mg mb e _ he) ?k1 ?k2 ?k3 ?k4 ?k5 ?c1 ?c2 ?k6 ?k7 ?k8 ?_
    k_extra "conds"
    intro Dn vn epn hE tkE hIn lDn FE NE0
    have NE := led_of (a := a3) (b := bb) (r := (Dn, listOf vn.toArray epn) :: (Ic, oI) :: (C, oC) :: (D2, LCg.lst ys) :: R4) NE0 (fun p hp => .tail _ (.tail _ (.tail _ (.tail _ (led_nil p hp))))) (List.forall_mem_cons.mpr ⟨.head _, List.forall_mem_cons.mpr ⟨.tail _ (.head _), List.forall_mem_cons.mpr ⟨.tail _ (.tail _ (.head _)), List.forall_mem_cons.mpr ⟨.tail _ (.tail _ (.tail _ (.head _))), fun p hp => .tail _ (.tail _ (.tail _ (.tail _ (led_r p hp))))⟩⟩⟩⟩)
    clear NE0
    (try dsimp only)
    k_extra "goK"
    have hcl : ((cAt e (4 ^ e)).map Int.ofNat).length = 16 := by rw [List.length_map, cAt_len]
    refine' ConN.use (c_d2iY w mean mg mb ((Dn, listOf vn.toArray epn) :: (Ic, oI) :: (C, oC) :: (D2, LCg.lst ys) :: R4) Dn vn ((cAt e (4 ^ e)).map Int.ofNat) 8 _ epn 4 10 (.head _) hIn (by decide) (by decide) (by rw [hcl]; decide) (by rw [hcl]; decide) (by decide) (counts_small he) (by rw [hcl]; decide) a3 bb ok3 okbb (List.forall_mem_cons.mpr ⟨hi_of (led_lt fun p hp => lDn p (.tail _ (.tail _ (.tail _ hp)))), List.forall_mem_cons.mpr ⟨hoI, List.forall_mem_cons.mpr ⟨hoC, List.forall_mem_cons.mpr ⟨hoD, hR4h⟩⟩⟩⟩)) ?k1 ?k2 ?k3 ?k4 ?k5 ?c1 ?c2 ?k6 ?k7 ?k8 ?_
    k_extra "conds"
    intro tV cV oV hF tkF okV hsame hfresh FF NF
    rw [show Int.toNat 8 = 8 from rfl, dval_v8, counts_val he]
    (try dsimp only)
    k_extra "goK"
    refine LCg.CompEnd.intro FF NF (led a3 (.yes cV oV) R4) (List.forall_mem_cons.mpr ⟨led_r _ (.tail _ (.head _)), List.forall_mem_cons.mpr ⟨led_r _ (.tail _ (.tail _ (.head _))), List.forall_mem_cons.mpr ⟨led_r _ (.tail _ (.tail _ (.tail _ (.head _)))), led_mono fun p q => .tail _ (.tail _ (.tail _ (.tail _ q)))⟩⟩⟩) (off_grow off hsame (fun h => ⟨hfresh h (Ic, oI) (.tail _ (.head _)), hfresh h (C, oC) (.tail _ (.tail _ (.head _))), hfresh h (D2, LCg.lst ys) (.tail _ (.tail _ (.tail _ (.head _))))⟩)) (.inr ⟨_, led_r _ mDl, rfl, _, rfl⟩) ⟨.yes cV oV, okV, rfl, ?_⟩
    rcases j with _ | _ | _ | _ | j
    · obtain rfl : e = 3 := by omega
      exact ints_snoc hys _ _
    · obtain rfl : e = 2 := by omega
      exact ints_snoc hys _ _
    · obtain rfl : e = 1 := by omega
      exact ints_snoc hys _ _
    · obtain rfl : e = 0 := by omega
      exact ints_snoc hys _ _
    · omega
  case fin4 =>
    rintro ys nw ⟨bb, okbb, rfl, hys⟩
    rw [hs4] at hys
    have hys : IntsAre ys [kC3, kC2, kC1, 1] := hys
    unfold LCg.FinE
    intro D5 hE tkE FE NE0 oE
    have NE := kst_newsOf (l' := (D5, LCg.lst ys) :: (Dg, listOf vg.toArray epg) :: led a3 bb R4) NE0 (List.forall_mem_cons.mpr ⟨.head _, List.forall_mem_cons.mpr ⟨.tail _ (led_r _ mDg), fun p hp => .tail _ hp⟩⟩)
    clear NE0
    obtain ⟨cl, hcl⟩ : ∃ cl : List Int, [kC3, kC2, kC1, 1] = cl := ⟨_, rfl⟩
    rw [hcl] at hys hIg
    clear hcl
    (try dsimp only)
    k_extra "goT"
    have NE2 := led_of (a := a3) (b := bb) (r := R) NE (fun p hp => .tail _ (.tail _ (led_nil p hp))) (fun p hp => .tail _ (.tail _ (led_r p (mRR p hp))))
    clear NE
    k_extra "st"
    have hnb : intBits (-(dvs Xb)) = intBits (dvs Xb) := bits_neg _
    refine' ConN.use (c_idm w mean mg mb R (dvd Xb H) (-(dvs Xb)) _ _ 8 (by omega) (by omega) (by omega) (by rw [hnb]; exact (sizes hdd hdl).1) (by rw [hnb]; exact (sizes hdd hdl).2) a3 bb ok3 okbb hR72) ?k1 ?k2 ?k3 ?k4 ?k5 ?c1 ?c2 ?k6 ?k7 ?k8 ?_
    k_extra "conds"
    intro Dp u3 u4 cp a4 b4 hF tkF ok4 ok4' l72p lRp FF NF
    rw [dn1, dn2] at NF
    obtain ⟨n1, hn1⟩ : ∃ n1, -q - 1 = n1 := ⟨_, rfl⟩
    obtain ⟨n2, hn2⟩ : ∃ n2, rr - dvs Xb = n2 := ⟨_, rfl⟩
    rw [hn1, hn2] at NF
    (try dsimp only)
    k_extra "goT"
    rotate_left
    · exfalso
      rename (_ && _) = false => hx
      rw [hn1, hn2] at hx
      simp at hx
    rename Fr base _ _ _ => FG
    rename News base _ _ _ => NG0
    have NG := led_of (a := a4) (b := b4) (r := R) NG0 (fun p hp => .tail _ (.tail _ (led_nil p hp))) (fun p hp => .tail _ (.tail _ (led_r p hp)))
    clear NG0
    have hmX : IntMulOk (-Xb) (dvs Xb) := mulOk (by rw [bits_neg]; omega) (by omega)
    have hmq : IntMulOk q (dvs Xb) := mulOk (by omega) (by omega)
    walk1
    k_extra "goT"
    have hbXD : intBits (-Xb * dvs Xb) ≤ 1200000 := Nat.le_trans (intBits_mul_le (m := 4061) (by rw [bits_neg]; exact hbX) hds) (by omega)
    refine' ConN.use (c_idm w mean mg mb R (-Xb * dvs Xb) (dvs Xb) _ _ 8 (Int.ne_of_gt dp3) (by omega) (by omega) (sizes hbXD hdl).1 (sizes hbXD hdl).2 a4 b4 ok4 ok4' hR72) ?k1 ?k2 ?k3 ?k4 ?k5 ?c1 ?c2 ?k6 ?k7 ?k8 ?_
    k_extra "conds"
    intro Dz u5 u6 cz a5 b5 hH tkH ok5 ok5' l72z lRz FH NH
    rw [db1, db2] at NH
    (try dsimp only)
    k_extra "goT"
    rw [deq, beq_self_eq_true]
    rename Fr base _ _ _ => FI
    rename News base _ _ _ => NI
    exact hret _ _ _ a5 b5 R FI ok5 ok5' (led_of NI (fun p hp => .tail _ (.tail _ (led_nil p hp))) (fun p hp => .tail _ (.tail _ (led_r p hp))))

end
section

noncomputable abbrev RetSm (v : List Nat) (h₀ : Heap) (L : Addr) (m : Str → Option Value) (news : List (Addr × Obj)) (s : Shared) (Q : Value → Shared → Prop) : Prop :=
  ∀ (t : Tok) (h' : Heap) (tk' : Nat), Fr h₀ L h' m → News h₀ L h' news → Q (.str (mkS v) t) { s with heap := h', toks := tk' }
theorem c_prepS (w : World) (mean : ExcName → Option Value) (mg mb : Str → Option Value) (x : List Nat) (t : Tok) (hx : x.length ≤ 400) :
    Con w mean mg mb 113 [.str (mkS x) t] 3 200 (RetSm (x.filter fun c => !nbT c)) := c_prep w mean mg mb x t hx
theorem c_quoteS (w : World) (mean : ExcName → Option Value) (mg mb : Str → Option Value) (x : List Nat) (t : Tok) (hx : x.length ≤ 400) :
    Con w mean mg mb 108 [.str (mkS x) t] 1 10 (RetSm (stuff true (norm false x))) := c_quote w mean mg mb x t hx
theorem neqS {prog : Program} {w : World} {A : Around} {E : Value → Shared → Prop} {s : Shared} {Q : Value → Shared → Prop} {t u : Tok} {a : List Nat} (h : Q (.bool false) s) : wpAny (model prog w) A (compareOp .NotEq (.str (mkS a) t) (.str (mkS a) u)) Q E s := by
  refine PyProof.Rows.ne_str ?_
  simpa using h
local macro_rules | `(tactic| walk_at "compareOp NotEq str str") => `(tactic| (k_here; k_dflt (refine neqS ?_)))
theorem pow9 {prog : Program} {w : World} {A : Around} {E : Value → Shared → Prop} {s : Shared} {Q : Value → Shared → Prop} {t u : Tok} (h : ∀ P, intBits P ≤ 18001 → Q (.int P s.toks) { s with toks := s.toks + 1 }) : wpAny (model prog w) A (binaryOp .Pow (.int 3 t) (.int 9000 u)) Q E s :=
  pow_int (by decide) (by decide +kernel) (h _ p9_bits)
local macro_rules | `(tactic| walk_at "binaryOp Pow int int") => `(tactic| (k_here; (first | ((with_reducible refine pow9 ?_); intro P9 hP9) | (refine' pow_int ?k1 ?k2 ?_; (case k1 => decide); (case k2 => omega)))))
theorem slice5 {prog : Program} {w : World} {A : Around} {E : Value → Shared → Prop} {s : Shared} {h₀ : Heap} {L l : Addr} {m : Str → Option Value} {news : List (Addr × Obj)} {value slice : PySem.Expr} {vs : List Value} {ns : List Int} {vl vu vk : Value} {lo hi st : Option Int} {Q : Value → Shared → Prop}
    (F : Fr h₀ L s.heap m) (N : News h₀ L s.heap news) (hl : s.heap.IsList l vs.toArray) (hi' : IntsAre vs ns) (pl : IsPart vl lo) (pu : IsPart vu hi) (pk : IsPart vk st) (h0 : st ≠ some 0)
    (h : ∀ D ws ms h', IntsAre ws ms → Fr h₀ L h' m → News h₀ L h' ((D, listOf (List.toArray ws) 0) :: news) → Q (.ref D) { s with heap := h' })
    (hs : ∃ ops, subscripted slice false (.ref l) (.ref s.heap.objs.size) = operate ops (getItem (.ref l) (.ref s.heap.objs.size))) (ht : ∀ r, letTemporaryGo value (.ref l) r = pure ()) (hsz : vs.toArray.size ≤ sizeLine) :
    wpAny (model prog w) A (subscriptTail value slice (.ref l) (.ref s.heap.objs.size)) Q E { s with heap := s.heap.push { cls := .type "slice", data := .fields #[vl, vu, vk] } } := by
  obtain ⟨ops, hs⟩ := hs
  obtain ⟨ms, hm⟩ := picks hi' (sliceRange (sliceBounds lo hi st vs.toArray.size).1 (sliceBounds lo hi st vs.toArray.size).2.1 (sliceBounds lo hi st vs.toArray.size).2.2)
  refine slice_list3 (hsz := hsz) F N hl pl pu pk h0 (fun h' F' N' => ?_) hs ht
  exact h _ _ _ h' hm F' N'
theorem fr_tail {g h : Heap} {L : Addr} {M : Str → Option Value} {dd dv xb hh ww : Int} {t1 t2 t3 t4 t5 : Tok} (F : Fr g L h M) (h1 : M (Str.ofString "dividend") = some (.int dd t1)) (h2 : M (Str.ofString "divisor") = some (.int dv t2)) (h3 : M (Str.ofString "base") = some (.int xb t3)) (h4 : M (Str.ofString "high") = some (.int hh t4)) (h5 : M (Str.ofString "width") = some (.int ww t5)) :
    ∃ t1 t2 t3 t4 t5 m0, Fr g L h (ovO [(Str.ofString "dividend", some (.int dd t1)), (Str.ofString "divisor", some (.int dv t2)), (Str.ofString "base", some (.int xb t3)), (Str.ofString "high", some (.int hh t4)), (Str.ofString "width", some (.int ww t5))] m0) := by
  have e : M = ovO [(Str.ofString "dividend", some (.int dd t1)), (Str.ofString "divisor", some (.int dv t2)), (Str.ofString "base", some (.int xb t3)), (Str.ofString "high", some (.int hh t4)), (Str.ofString "width", some (.int ww t5))] M :=
    ovO_eq (List.forall_mem_cons.mpr ⟨h1, List.forall_mem_cons.mpr ⟨h2, List.forall_mem_cons.mpr ⟨h3, List.forall_mem_cons.mpr ⟨h4, List.forall_mem_cons.mpr ⟨h5, fun _ h => nomatch h⟩⟩⟩⟩⟩) (fun _ _ => rfl)
  exact ⟨_, _, _, _, _, M, e ▸ F⟩
set_option maxHeartbeats 8000000 in
theorem law_body (w : World) (mean : ExcName → Option Value) (mg mb : Str → Option Value) (base : Heap) (L fa la : Addr) (cd : Value) (dp un : Nat) (gd : Option (List Code)) (mm : Str → Option Value) (oS oK : Obj) (vs : List Value) (ns : List Int) (s : Shared) (Q : Flow → Shared → Prop) (E : Value → Shared → Prop)
    (B : Below callerA base [] base) (F : Fr base L s.heap mm) (X : (KF w.params).In base) (N : News base L s.heap [(L + 1 + 1, oK), (L + 1, oS), (65, tabObj #[]), (72, tabObj #[])]) (T : Top topProg looseT mean mg mb base) (C1 : CodeHd base 69 65) (C2 : CodeHd base 76 72)
    (dS1 : oS.data = .cell (some (.ref la))) (dK : oK.data = .cell none) (hl : base.IsList la vs.toArray) (hi : IntsAre vs ns) (hn : ns.length ≤ 63) (hlay : PyData.layable0 (.list (ns.map .int)) = true) (l72 : 72 < L) (hd : dp + 200 < recursionLimit) (hu : un + 1000 < cLine)
    (hret : ∀ h' tk' m' a b r, Fr base L h' m' → a.ok qI → b.ok qD → News base L h' (led a b r) → Q (.ret (.bool true)) { s with heap := h', toks := tk' }) :
    wpAny (model pr w) { handled := none, depth := dp, frames := some (envOfC (Str.ofString "law") (dS 22) L fa cd :: []), guards := gd, units := un } (execs (dB 22) (envOfC (Str.ofString "law") (dS 22) L fa cd)) Q E s := by
  have kf : (PySem.Challenge.rw_rs0075_01, KF) = (PySem.Challenge.rw_rs0075_01, KF) := by (k_fill; rfl)
  conv in (dB _) => whnf
  walk1
  k_extra "goT"
  rename_i ls hx1 Fx1 Nx1 lls h1 oT F1 N1 dT
  clear Fx1 Nx1
  obtain ⟨lls1, lls2, -, lls3⟩ := lls
  have exR : ∃ sv, IntsAre sv [329753, 2122764, 375926, 1740833, 2323835] ∧ News base L h1 (led .no .no [(ls, listOf sv.toArray 0), (L + 1 + 1, oT), (L + 1, oS)]) :=
    ⟨[_, _, _, _, _], .cons _ _ (.cons _ _ (.cons _ _ (.cons _ _ (.cons _ _ .nil)))), kst_newsOf N1 (by
      refine List.forall_mem_cons.mpr ⟨.tail _ (.tail _ (.tail _ (.head _))), List.forall_mem_cons.mpr ⟨.tail _ (.tail _ (.tail _ (.tail _ (.head _)))), List.forall_mem_cons.mpr ⟨.head _, List.forall_mem_cons.mpr ⟨.tail _ (.head _), List.forall_mem_cons.mpr ⟨.tail _ (.tail _ (.head _)), fun _ h => nomatch h⟩⟩⟩⟩⟩)⟩
  obtain ⟨sv, hsv, N2⟩ := exR
  clear N1
  have dT : oT.data = .cell (some (.ref ls)) := dT
  obtain ⟨R, hR⟩ : ∃ R, R = [(ls, listOf sv.toArray 0), (L + 1 + 1, oT), (L + 1, oS)] := ⟨_, rfl⟩
  rw [← hR] at N2
  have mR1 : (ls, listOf sv.toArray 0) ∈ R := hR ▸ .head _
  have mR2 : (L + 1 + 1, oT) ∈ R := hR ▸ .tail _ (.head _)
  have mR3 : (L + 1, oS) ∈ R := hR ▸ .tail _ (.tail _ (.head _))
  have hR72 : ∀ p ∈ R, Hi p.1 := hR ▸ List.forall_mem_cons.mpr ⟨hi_of lls3, List.forall_mem_cons.mpr ⟨hi_of (Nat.lt_succ_of_lt (Nat.lt_succ_of_lt l72)), List.forall_mem_cons.mpr ⟨hi_of (Nat.lt_succ_of_lt l72), fun _ h => nomatch h⟩⟩⟩
  clear hR
  k_extra "st"
  refine LCg.ListComp_U (F₀ := by k_asm) (by with_unfolding_all rfl) (by decide) (by rfl) (by decide) (by rfl) ?_
  k_extra "goL"
  rename IsRange _ _ _ _ _ _ _ _ => RC
  rename Fr base _ _ _ => FC
  rename News base _ _ _ => NC
  refine LCg.CompSrc.range (n := 5) rfl FC NC RC (by decide) (rangeSize_nat _ _) (by decide) ?_
  intro gC
  refine rest_inv (J := fun j ys nw => nw = led .no .no R ∧ ∃ hs, hs.length = j ∧ IntsAre ys hs) ⟨rfl, [], rfl, .nil⟩ ?turnC ?finC
  case turnC =>
    rintro j ys nw v Ic oI C oC D2 m₂ hD tkD E' hj ⟨rfl, hs, hhs, hys⟩ ⟨tv, rfl⟩ hC hxs FD ND off ne
    rw [show (0 : Int) + (j : Int) = j by omega] at hxs
    have q2 : (L + 1 + 1, oT) ∈ (Ic, oI) :: (C, oC) :: (D2, LCg.lst ys) :: led .no .no R := .tail _ (.tail _ (.tail _ (led_r _ mR2)))
    have q3 : (L + 1, oS) ∈ (Ic, oI) :: (C, oC) :: (D2, LCg.lst ys) :: led .no .no R := .tail _ (.tail _ (.tail _ (led_r _ mR3)))
    k_extra "goK"
    rename News base _ _ _ => NK
    refine item_L NK (.tail _ (.tail _ (.tail _ (led_r _ mR1)))) hsv (by omega) (by show (j : Int) < 5; omega) (by decide) ?_
    intro tK
    (try dsimp only)
    k_extra "goK"
    k_dflt (refine' slice5 (s := ⟨_, _, _, _, _⟩) ?zF ?zN ?zl ?zi ?zp ?zq ?zk ?z0 ?_ ?zs ?zt ?zz)
    case zF => exact FD
    case zN => exact NK
    case zl => exact hl.at fun o e => FD.keep la o e
    case zi => exact hi
    case zp => exact IsPart.int _ _
    case zq => exact IsPart.none
    case zk => exact IsPart.int _ _
    case z0 => decide
    case zs => exact ⟨_, by with_unfolding_all rfl⟩
    case zt => intro _; with_unfolding_all rfl
    case zz => rw [List.size_toArray, hi.length]; exact Nat.le_trans hn (by decide)
    intro Dp ws ms hP hms FP NP
    (try dsimp only)
    k_extra "goK"
    rename Fr base _ _ _ => FX
    rename News base _ _ _ => NX
    exact LCg.CompEnd.intro FX NX _ (fun p hp => .tail _ hp) off trivial ⟨rfl, _, by rw [List.length_append, hhs]; rfl, ints_snoc hys _ _⟩
  case finC =>
    rintro ys nw ⟨rfl, hs, hhs, hys⟩
    unfold LCg.FinE
    intro D5 hE tkE FE NE oE
    (try dsimp only)
    have hD5 : Hi D5 := ⟨fun e => oE.1 e.symm, fun e => oE.2.1 e.symm⟩
    have NF := led_of (a := .no) (b := .no) (r := (D5, LCg.lst ys) :: R) NE (fun p hp => .tail _ (led_nil p hp)) (List.forall_mem_cons.mpr ⟨.head _, fun p hp => .tail _ (led_r p hp)⟩)
    clear NE
    k_extra "goT"
    refine' ConN.use (c_roads w mean mg mb ((D5, LCg.lst ys) :: R) D5 ys hs ys.length (.head _) hys (by omega) .no .no trivial trivial (List.forall_mem_cons.mpr ⟨hD5, hR72⟩)) ?k1 ?k2 ?k3 ?k4 ?k5 ?c1 ?c2 ?k6 ?k7 ?k8 ?_
    k_extra "conds"
    intro Dt t1 t2 t3 cT a b hG tkG oka okb l72t lRt FG NG
    obtain ⟨hlt, hle, hll⟩ := roads_len hs (by omega)
    obtain ⟨rl1, rl2⟩ := roads_law hs
    (try dsimp only)
    k_extra "goT"
    rename Fr base _ _ _ => FH0
    rename News base _ _ _ => NH0
    have NH := led_of (a := a) (b := b) (r := R) NH0 (fun p hp => .tail _ (led_nil p hp)) (fun p hp => .tail _ (led_r p (.tail _ hp)))
    clear NH0
    k_extra "st"
    refine' Con.use (c_prepS w mean mg mb (roads hs).t _ (by omega)) ?k1 ?k2 ?k3 ?k4 ?k5 ?c1 ?c2 ?k6 ?k7 ?k8 ?_
    k_extra "conds"
    intro tI hI1 tkI FI NI
    (try dsimp only)
    k_extra "goT"
    have lf : ((roads hs).t.filter fun c => !nbT c).length ≤ 65 := Nat.le_trans (List.length_filter_le _ _) hlt
    refine' Con.use (c_quoteS w mean mg mb ((roads hs).t.filter fun c => !nbT c) _ (by omega)) ?k1 ?k2 ?k3 ?k4 ?k5 ?c1 ?c2 ?k6 ?k7 ?k8 ?_
    k_extra "conds"
    intro tJ hJ tkJ FJ NJ
    rw [rl1]
    (try dsimp only)
    k_extra "goT"
    refine' Con.use (c_quoteS w mean mg mb (roads hs).t _ (by omega)) ?k1 ?k2 ?k3 ?k4 ?k5 ?c1 ?c2 ?k6 ?k7 ?k8 ?_
    k_extra "conds"
    intro tK hK tkK FK NK
    (try dsimp only)
    k_extra "goT"
    have ls : (stuff true (norm false (roads hs).t)).length ≤ 400 := by
      have h1 := stuff_len (norm false (roads hs).t) true
      have h2 := norm_len (roads hs).t false
      omega
    refine' Con.use (c_prepS w mean mg mb (stuff true (norm false (roads hs).t)) _ ls) ?k1 ?k2 ?k3 ?k4 ?k5 ?c1 ?c2 ?k6 ?k7 ?k8 ?_
    k_extra "conds"
    intro tL hL tkL FL NL
    rw [rl2]
    (try dsimp only)
    k_extra "goT"
    have m3 : (L + 1, oS) ∈ led a b R := led_r _ mR3
    walk1
    (try ((with_reducible show wpAny _ _ (execs (List.cons _ _) _) _ _ _); walk1))
    (try dsimp only)
    repeat ((fail_if_success (with_reducible show wpAny _ _ (call (Value.builtin "sum") _) _ _ _)); walk1; (try dsimp only))
    rename Fr base _ _ _ => FS
    rename News base _ _ _ => NS
    refine sumK rfl FS NS (hl.at fun o e => FS.keep la o e) hi ?_
    intro hS tkS tS FT NT
    clear FS NS
    (try dsimp only)
    k_extra "goT"
    have htb := tot_bits hlay hn
    rename Fr base _ _ _ => FM
    generalize ns.sum - 1 = tot at FM htb
    have h60 := Int.emod_nonneg tot (show (60 : Int) ≠ 0 by decide)
    have h61 := Int.emod_lt_of_pos tot (show (0 : Int) < 60 by decide)
    obtain ⟨W, hW⟩ : ∃ W : Nat, 4001 + tot.fmod 60 = (W : Int) := ⟨(4001 + tot.fmod 60).toNat, by rw [fmod_pos (by decide)]; omega⟩
    have hW1 : 4001 ≤ W := by rw [fmod_pos (by decide)] at hW; omega
    have hW2 : W ≤ 4060 := by rw [fmod_pos (by decide)] at hW; omega
    clear h60 h61
    k_extra "st"
    rename Fr base _ _ _ => FN
    rw [hW] at FN
    walk1
    (try ((with_reducible show wpAny _ _ (execs (List.cons _ _) _) _ _ _); walk1))
    (try dsimp only)
    repeat ((fail_if_success (with_reducible show wpAny _ _ (binaryOp .Mult _ _) _ _ _)); walk1; (try dsimp only))
    rename intBits _ ≤ 18001 => hP9
    rename_i P9
    have hmP : IntMulOk tot P9 := mulOk (by omega) (by omega)
    k_extra "goT"
    have hHb : intBits (tot * P9) ≤ 1066584 := intBits_mul_le htb hP9
    rename Fr base _ _ _ => FO
    generalize tot * P9 = H at FO hHb
    clear hmP hP9
    k_extra "st"
    rename Fr base _ _ _ => FP
    rw [Int.toNat_natCast, Int.one_mul] at FP
    obtain ⟨Xb, hXb⟩ : ∃ Xb : Int, (2 : Int) ^ W = Xb := ⟨_, rfl⟩
    have hbX : intBits Xb ≤ 4061 := hXb ▸ Nat.le_trans (X_bits W) (by omega)
    rw [hXb] at FP
    k_extra "st"
    rename Fr base _ _ _ => FQ
    obtain ⟨bB, hB⟩ : ∃ bB : Int, 1 * 2 ^ Int.toNat 40 = bB := ⟨_, rfl⟩
    rw [hB] at FQ
    have hbB : intBits bB ≤ 41 := hB ▸ (by decide +kernel)
    have hm3 : IntMulOk 3 bB := mulOk (by decide +kernel) (by omega)
    have hm2 : IntMulOk 2 bB := mulOk (by decide +kernel) (by omega)
    k_extra "st"
    rename_i ld hld FR NR lld
    have exD : ∃ vd, IntsAre vd [1 + 3 * bB + bB ^ Int.toNat 2 - 256, -3 - 2 * bB, 1] ∧ News base L hld (led a b ((ld, listOf vd.toArray 0) :: R)) :=
      ⟨[_, _, _], .cons _ _ (.cons _ _ (.cons _ _ .nil)), led_of NR (fun p hp => .tail _ (led_nil p hp)) (List.forall_mem_cons.mpr ⟨.head _, fun p hp => .tail _ (led_r p hp)⟩)⟩
    clear NR
    obtain ⟨vd, hvd, NR⟩ := exD
    rw [show 1 + 3 * bB + bB ^ Int.toNat 2 - 256 = kS by rw [← hB]; decide +kernel, show -3 - 2 * bB = -kP by rw [← hB]; decide +kernel] at hvd
    have hld72 := led_lt lld
    refine' ConN.use (c_d2iY w mean mg mb ((ld, listOf vd.toArray 0) :: R) ld vd [kS, -kP, 1] (W : Int) _ 0 2 100 (.head _) hvd (by omega) (by omega) (by decide) (by decide) (by decide) (List.forall_mem_cons.mpr ⟨kSbits, List.forall_mem_cons.mpr ⟨kPbits, List.forall_mem_cons.mpr ⟨by decide +kernel, fun _ h => nomatch h⟩⟩⟩) (by show (W : Int) * 3 ≤ _; omega) a b oka okb (List.forall_mem_cons.mpr ⟨hi_of hld72, hR72⟩)) ?k1 ?k2 ?k3 ?k4 ?k5 ?c1 ?c2 ?k6 ?k7 ?k8 ?_
    k_extra "conds"
    intro tY cY oY hY tkY okY _ _ FY NY0
    have NY := led_of (a := a) (b := .yes cY oY) (r := R) NY0 led_nil (fun p hp => led_r p (.tail _ hp))
    clear NY0
    have hXX : (2 : Int) ^ 400 ≤ Xb := hXb ▸ X_big hW1
    rw [Int.toNat_natCast, dval3, hXb]
    have hds : intBits (dvs Xb) ≤ 8300 := hXb ▸ dvs_hi hW1 hW2
    have hdl : 8000 ≤ intBits (dvs Xb) := hXb ▸ dvs_lo hW1
    have hdd : intBits (dvd Xb H) ≤ 1200000 := hXb ▸ dvd_bits hW1 hW2 (by omega)
    obtain ⟨dp1, dp2, dp3⟩ := dvs_pos hXX
    have hm4 : IntMulOk bB (Xb ^ Int.toNat 4) := mulOk (by omega) (Nat.le_trans (intBits_pow_le hbX 4) (by decide))
    have hmD : IntMulOk H (dvs Xb) := mulOk (by omega) (by omega)
    have eD : Xb ^ Int.toNat 5 - bB * Xb ^ Int.toNat 4 + H * dvs Xb = dvd Xb H := by unfold dvd; rw [← hB, Int.one_mul]; rfl
    (try dsimp only)
    k_extra "goT"
    k_extra "st"
    rename Fr base _ _ _ => FZ
    rename News base _ _ _ => NZ
    rw [eD] at FZ
    obtain ⟨t1z, t2z, t3z, t4z, t5z, m0z, FZ'⟩ : ∃ t1 t2 t3 t4 t5 m0, Fr base L _ (ovO [(Str.ofString "dividend", some (.int (dvd Xb H) t1)), (Str.ofString "divisor", some (.int (dvs Xb) t2)), (Str.ofString "base", some (.int Xb t3)), (Str.ofString "high", some (.int H t4)), (Str.ofString "width", some (.int (W : Int) t5))] m0) := fr_tail FZ rfl rfl rfl rfl rfl
    clear FZ
    exact law_tail w mean mg mb base L fa cd dp un gd m0z R _ Q E Xb H W a (.yes cY oY) t1z t2z t3z t4z t5z B FZ' X NZ T C1 C2 oka okY hR72 hW1 hW2 hXb hbX hXX hds hdl hdd hHb hd hu hret

end
section
theorem led_g65 {a b : TS} {r : List (Addr × Obj)} : ∃ ps, ((65 : Nat), tabObj ps) ∈ led a b r := by
  cases a with
  | no => exact ⟨_, .head _⟩
  | yes c oc => exact ⟨_, .head _⟩
theorem led_g72 {a b : TS} {r : List (Addr × Obj)} : ∃ ps, ((72 : Nat), tabObj ps) ∈ led a b r := by
  cases b with
  | no => exact ⟨_, List.mem_append_right _ (.head _)⟩
  | yes c oc => exact ⟨_, List.mem_append_right _ (.head _)⟩
set_option maxHeartbeats 8000000 in
theorem walk : ∀ d kwd, defOf qv ol.row.name = some (d, kwd) → WalkO qv looseF (XL qv []) (kHook KF adsF kads).says ol.row.toRowW d kwd fun f vs => PySem.call f vs := by
  rintro d kwd ⟨⟩
  w_on
  k_fill
  intro w s₀ s₁ mg mb G Y fa o pm cd doc dV kV ho hd hcd hD hmg hg args vals as hpre hlay hrd hwl hlo
  have KX := kIn_of Y
  kn_any hmg
  have X := (Ground.X G).1
  have V := (Ground.X G).2
  refine Ground.open G ?_
  intro T B D TE TW
  try (refine guard_noD D (by decide +kernel) ?_; clear D)
  kn_lay T hmg ho hd cd
  clear hmg
  wrow_args hpre hlay hrd hwl hlo
  all_goals (
    first | refine callC_kw (enter_call ?_) | refine enter_call ?_
    w_top on
    kn_posts
    w_call any ho hd hcd hD T F
    clear hd)
  kn_ghosts F T
  k_drop
  rename IntsAre _ _ => hI
  rename Fr _ _ _ _ => F0
  rename News _ _ _ _ => N0
  rename Below _ _ _ _ => K0
  rename Top topProg _ _ _ _ _ => T0
  rename Frag.In _ (ghostOf _ _) => X0
  rename Obj.data _ = Data.cell _ => dA
  revert dA
  rename Obj.data _ = Data.cell _ => dB'
  intro dA
  rename PyData.layable0 _ = true => hlay0
  rename ¬ (((_ : Nat) : Int) < _) => hn0
  rename (_ : Nat) < _ ∧ (_ : Nat) < _ => l0
  clear hcd hD
  k_dflt (refine law_body w (ExcName.means s₀.heap) mg mb _ _ fa _ cd _ _ _ _ _ _ _ _ _ _ _ K0 F0 X0 N0 T0 (by assumption) (by assumption) ?dS ?dK (by assumption) hI ?hn hlay0 l0.2 ?hd ?hu ?hret)
  case dS => first | exact dA | exact dB'
  case dK => first | exact dA | exact dB'
  case hn => omega
  case hd => decide +kernel
  case hu => decide +kernel
  case hret =>
    intro h' tk' m' a b r F' oka okb N'
    obtain ⟨p1, g1⟩ := led_g65 (a := a) (b := b) (r := r)
    obtain ⟨p2, g2⟩ := led_g72 (a := a) (b := b) (r := r)
    refine ⟨goodW_bool F' hg (fun _ => ?_) ?_, GrownAt.of N' g1, GrownAt.of N' g2, True.intro⟩
    · with_unfolding_all rfl
    · with_unfolding_all rfl

end
end Mine
end
open PySem PySem.W PyProof.Rows
set_option maxRecDepth 100000 in
set_option maxHeartbeats 8000000 in
theorem PySem.Challenge.cw_rs0075_01_holds : PySem.Challenge.rw_rs0075_01.Holds := by
  exact Mine.theHead Mine.walk
