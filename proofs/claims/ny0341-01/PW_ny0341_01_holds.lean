import PyProof.Rows.All
import Wide.All
import OpenK.AllK
import Wide.FinOn
import PySem.Challenge.RW_ny0341_01
open PySem PySem.W PyProof.Rows PySem.Calls
set_option Elab.async false
set_option maxRecDepth 100000
set_option maxHeartbeats 8000000
namespace Mine
abbrev pp : Program := PySem.Challenge.pw_ny0341_01
def nthS : List Stmt → Nat → Stmt
  | [], _ => .Pass ⟨0, 0, 0, 0⟩
  | s :: _, 0 => s
  | _ :: r, n + 1 => nthS r n
def bodyS : Stmt → List Stmt
  | .ClassDef _ _ _ body _ _ _ _ _ _ _ => body
  | _ => []
def st (i : Nat) : Stmt := nthS PySem.Challenge.pw_ny0341_01.main.body i
def sm (i j : Nat) : Stmt := nthS (bodyS (st i)) j
def fnO (c : Value) (s : Stmt) (nm qual : Str) (dV kV doc pm : Value) (an : Option Addr) (cdv ct : Value) : Obj := match s with
  | .FunctionDef _ args body _ _ _ scope _ _ _ => ⟨c, none, .func (fnOf nm qual args body scope dV kV doc pm an cdv ct), #[]⟩
  | _ => ⟨c, none, .plain, #[]⟩
def fnT (s : Stmt) (nm qual : Str) : Obj := match s with
  | .FunctionDef _ args body _ _ _ scope _ _ _ => ⟨.none, none, .func ⟨nm, qual, args, .stmts body, scope, 0, [], .none, .none, .none, .none, none, .none, .none, 0⟩, #[]⟩
  | _ => ⟨.none, none, .plain, #[]⟩

set_option linter.unusedVariables false
noncomputable def o0E (P : Params) : Obj := ⟨.type "dict", none, .dict #[⟨PyData.keyHash P (.ofString "__name__"), .str (.ofString "__name__") 1, .str (.ofString "builtins") 160⟩, ⟨PyData.keyHash P (.ofString "__doc__"), .str (.ofString "__doc__") 2, .builtin "builtins.__doc__:str#op\x61que"⟩, ⟨PyData.keyHash P (.ofString "__package__"), .str (.ofString "__package__") 3, .builtin "builtins.__package__:str#op\x61que"⟩, ⟨PyData.keyHash P (.ofString "__loader__"), .str (.ofString "__loader__") 4, .builtin "builtins.__loader__:shared#op\x61que"⟩, ⟨PyData.keyHash P (.ofString "__spec__"), .str (.ofString "__spec__") 5, .builtin "builtins.__spec__#op\x61que"⟩, ⟨PyData.keyHash P (.ofString "__build_class__"), .str (.ofString "__build_class__") 6, .builtin "__build_class__"⟩, ⟨PyData.keyHash P (.ofString "__imp\x6frt__"), .str (.ofString "__imp\x6frt__") 7, .builtin "__imp\x6frt__"⟩, ⟨PyData.keyHash P (.ofString "abs"), .str (.ofString "abs") 8, .builtin "abs"⟩, ⟨PyData.keyHash P (.ofString "all"), .str (.ofString "all") 9, .builtin "all"⟩, ⟨PyData.keyHash P (.ofString "any"), .str (.ofString "any") 10, .builtin "any"⟩, ⟨PyData.keyHash P (.ofString "ascii"), .str (.ofString "ascii") 11, .builtin "ascii"⟩, ⟨PyData.keyHash P (.ofString "bin"), .str (.ofString "bin") 12, .builtin "bin"⟩, ⟨PyData.keyHash P (.ofString "breakpoint"), .str (.ofString "breakpoint") 13, .builtin "breakpoint"⟩, ⟨PyData.keyHash P (.ofString "callable"), .str (.ofString "callable") 14, .builtin "callable"⟩, ⟨PyData.keyHash P (.ofString "chr"), .str (.ofString "chr") 15, .builtin "chr"⟩, ⟨PyData.keyHash P (.ofString "compile"), .str (.ofString "compile") 16, .builtin "compile"⟩, ⟨PyData.keyHash P (.ofString "delattr"), .str (.ofString "delattr") 17, .builtin "delattr"⟩, ⟨PyData.keyHash P (.ofString "dir"), .str (.ofString "dir") 18, .builtin "dir"⟩, ⟨PyData.keyHash P (.ofString "divmod"), .str (.ofString "divmod") 19, .builtin "divmod"⟩, ⟨PyData.keyHash P (.ofString "eval"), .str (.ofString "eval") 20, .builtin "eval"⟩, ⟨PyData.keyHash P (.ofString "exec"), .str (.ofString "exec") 21, .builtin "exec"⟩, ⟨PyData.keyHash P (.ofString "format"), .str (.ofString "format") 22, .builtin "format"⟩, ⟨PyData.keyHash P (.ofString "getattr"), .str (.ofString "getattr") 23, .builtin "getattr"⟩, ⟨PyData.keyHash P (.ofString "globals"), .str (.ofString "globals") 24, .builtin "globals"⟩, ⟨PyData.keyHash P (.ofString "hasattr"), .str (.ofString "hasattr") 25, .builtin "hasattr"⟩, ⟨PyData.keyHash P (.ofString "hash"), .str (.ofString "hash") 26, .builtin "hash"⟩, ⟨PyData.keyHash P (.ofString "hex"), .str (.ofString "hex") 27, .builtin "hex"⟩, ⟨PyData.keyHash P (.ofString "id"), .str (.ofString "id") 28, .builtin "id"⟩, ⟨PyData.keyHash P (.ofString "input"), .str (.ofString "input") 29, .builtin "input"⟩, ⟨PyData.keyHash P (.ofString "isinstance"), .str (.ofString "isinstance") 30, .builtin "isinstance"⟩, ⟨PyData.keyHash P (.ofString "issubclass"), .str (.ofString "issubclass") 31, .builtin "issubclass"⟩, ⟨PyData.keyHash P (.ofString "iter"), .str (.ofString "iter") 32, .builtin "iter"⟩, ⟨PyData.keyHash P (.ofString "aiter"), .str (.ofString "aiter") 33, .builtin "aiter"⟩, ⟨PyData.keyHash P (.ofString "len"), .str (.ofString "len") 34, .builtin "len"⟩, ⟨PyData.keyHash P (.ofString "locals"), .str (.ofString "locals") 35, .builtin "locals"⟩, ⟨PyData.keyHash P (.ofString "max"), .str (.ofString "max") 36, .builtin "max"⟩, ⟨PyData.keyHash P (.ofString "min"), .str (.ofString "min") 37, .builtin "min"⟩, ⟨PyData.keyHash P (.ofString "next"), .str (.ofString "next") 38, .builtin "next"⟩, ⟨PyData.keyHash P (.ofString "anext"), .str (.ofString "anext") 39, .builtin "anext"⟩, ⟨PyData.keyHash P (.ofString "oct"), .str (.ofString "oct") 40, .builtin "oct"⟩, ⟨PyData.keyHash P (.ofString "ord"), .str (.ofString "ord") 41, .builtin "ord"⟩, ⟨PyData.keyHash P (.ofString "pow"), .str (.ofString "pow") 42, .builtin "pow"⟩, ⟨PyData.keyHash P (.ofString "print"), .str (.ofString "print") 43, .builtin "print"⟩, ⟨PyData.keyHash P (.ofString "repr"), .str (.ofString "repr") 44, .builtin "repr"⟩, ⟨PyData.keyHash P (.ofString "round"), .str (.ofString "round") 45, .builtin "round"⟩, ⟨PyData.keyHash P (.ofString "setattr"), .str (.ofString "setattr") 46, .builtin "setattr"⟩, ⟨PyData.keyHash P (.ofString "sorted"), .str (.ofString "sorted") 47, .builtin "sorted"⟩, ⟨PyData.keyHash P (.ofString "sum"), .str (.ofString "sum") 48, .builtin "sum"⟩, ⟨PyData.keyHash P (.ofString "vars"), .str (.ofString "vars") 49, .builtin "vars"⟩, ⟨PyData.keyHash P (.ofString "None"), .str (.ofString "None") 50, .none⟩, ⟨PyData.keyHash P (.ofString "Ellipsis"), .str (.ofString "Ellipsis") 51, .ellipsis⟩, ⟨PyData.keyHash P (.ofString "NotImplemented"), .str (.ofString "NotImplemented") 52, .notImplemented⟩, ⟨PyData.keyHash P (.ofString "False"), .str (.ofString "False") 53, .bool false⟩, ⟨PyData.keyHash P (.ofString "True"), .str (.ofString "True") 54, .bool true⟩, ⟨PyData.keyHash P (.ofString "bool"), .str (.ofString "bool") 55, .type "bool"⟩, ⟨PyData.keyHash P (.ofString "memoryview"), .str (.ofString "memoryview") 56, .type "memoryview"⟩, ⟨PyData.keyHash P (.ofString "bytearray"), .str (.ofString "bytearray") 57, .type "bytearray"⟩, ⟨PyData.keyHash P (.ofString "bytes"), .str (.ofString "bytes") 58, .type "bytes"⟩, ⟨PyData.keyHash P (.ofString "classmethod"), .str (.ofString "classmethod") 59, .type "classmethod"⟩, ⟨PyData.keyHash P (.ofString "complex"), .str (.ofString "complex") 60, .type "complex"⟩, ⟨PyData.keyHash P (.ofString "dict"), .str (.ofString "dict") 61, .type "dict"⟩, ⟨PyData.keyHash P (.ofString "enumerate"), .str (.ofString "enumerate") 62, .type "enumerate"⟩, ⟨PyData.keyHash P (.ofString "filter"), .str (.ofString "filter") 63, .type "filter"⟩, ⟨PyData.keyHash P (.ofString "float"), .str (.ofString "float") 64, .type "float"⟩, ⟨PyData.keyHash P (.ofString "frozenset"), .str (.ofString "frozenset") 65, .type "frozenset"⟩, ⟨PyData.keyHash P (.ofString "property"), .str (.ofString "property") 66, .type "property"⟩, ⟨PyData.keyHash P (.ofString "int"), .str (.ofString "int") 67, .type "int"⟩, ⟨PyData.keyHash P (.ofString "list"), .str (.ofString "list") 68, .type "list"⟩, ⟨PyData.keyHash P (.ofString "map"), .str (.ofString "map") 69, .type "map"⟩, ⟨PyData.keyHash P (.ofString "object"), .str (.ofString "object") 70, .type "object"⟩, ⟨PyData.keyHash P (.ofString "range"), .str (.ofString "range") 71, .type "range"⟩, ⟨PyData.keyHash P (.ofString "reversed"), .str (.ofString "reversed") 72, .type "reversed"⟩, ⟨PyData.keyHash P (.ofString "set"), .str (.ofString "set") 73, .type "set"⟩, ⟨PyData.keyHash P (.ofString "slice"), .str (.ofString "slice") 74, .type "slice"⟩, ⟨PyData.keyHash P (.ofString "staticmethod"), .str (.ofString "staticmethod") 75, .type "staticmethod"⟩, ⟨PyData.keyHash P (.ofString "str"), .str (.ofString "str") 76, .type "str"⟩, ⟨PyData.keyHash P (.ofString "super"), .str (.ofString "super") 77, .type "super"⟩, ⟨PyData.keyHash P (.ofString "tuple"), .str (.ofString "tuple") 78, .type "tuple"⟩, ⟨PyData.keyHash P (.ofString "type"), .str (.ofString "type") 79, .type "type"⟩, ⟨PyData.keyHash P (.ofString "zip"), .str (.ofString "zip") 80, .type "zip"⟩, ⟨PyData.keyHash P (.ofString "__debug__"), .str (.ofString "__debug__") 81, .bool true⟩, ⟨PyData.keyHash P (.ofString "BaseException"), .str (.ofString "BaseException") 82, .type "BaseException"⟩, ⟨PyData.keyHash P (.ofString "BaseExceptionGroup"), .str (.ofString "BaseExceptionGroup") 83, .type "BaseExceptionGroup"⟩, ⟨PyData.keyHash P (.ofString "Exception"), .str (.ofString "Exception") 84, .type "Exception"⟩, ⟨PyData.keyHash P (.ofString "GeneratorExit"), .str (.ofString "GeneratorExit") 85, .type "GeneratorExit"⟩, ⟨PyData.keyHash P (.ofString "KeyboardInterrupt"), .str (.ofString "KeyboardInterrupt") 86, .type "KeyboardInterrupt"⟩, ⟨PyData.keyHash P (.ofString "SystemExit"), .str (.ofString "SystemExit") 87, .type "SystemExit"⟩, ⟨PyData.keyHash P (.ofString "ArithmeticError"), .str (.ofString "ArithmeticError") 88, .type "ArithmeticError"⟩, ⟨PyData.keyHash P (.ofString "AssertionError"), .str (.ofString "AssertionError") 89, .type "AssertionError"⟩, ⟨PyData.keyHash P (.ofString "AttributeError"), .str (.ofString "AttributeError") 90, .type "AttributeError"⟩, ⟨PyData.keyHash P (.ofString "BufferError"), .str (.ofString "BufferError") 91, .type "BufferError"⟩, ⟨PyData.keyHash P (.ofString "EOFError"), .str (.ofString "EOFError") 92, .type "EOFError"⟩, ⟨PyData.keyHash P (.ofString "ImportError"), .str (.ofString "ImportError") 93, .type "ImportError"⟩, ⟨PyData.keyHash P (.ofString "LookupError"), .str (.ofString "LookupError") 94, .type "LookupError"⟩, ⟨PyData.keyHash P (.ofString "MemoryError"), .str (.ofString "MemoryError") 95, .type "MemoryError"⟩, ⟨PyData.keyHash P (.ofString "NameError"), .str (.ofString "NameError") 96, .type "NameError"⟩, ⟨PyData.keyHash P (.ofString "OSError"), .str (.ofString "OSError") 97, .type "OSError"⟩, ⟨PyData.keyHash P (.ofString "ReferenceError"), .str (.ofString "ReferenceError") 98, .type "ReferenceError"⟩, ⟨PyData.keyHash P (.ofString "RuntimeError"), .str (.ofString "RuntimeError") 99, .type "RuntimeError"⟩, ⟨PyData.keyHash P (.ofString "StopAsyncIteration"), .str (.ofString "StopAsyncIteration") 100, .type "StopAsyncIteration"⟩, ⟨PyData.keyHash P (.ofString "StopIteration"), .str (.ofString "StopIteration") 101, .type "StopIteration"⟩, ⟨PyData.keyHash P (.ofString "SyntaxError"), .str (.ofString "SyntaxError") 102, .type "SyntaxError"⟩, ⟨PyData.keyHash P (.ofString "SystemError"), .str (.ofString "SystemError") 103, .type "SystemError"⟩, ⟨PyData.keyHash P (.ofString "TypeError"), .str (.ofString "TypeError") 104, .type "TypeError"⟩, ⟨PyData.keyHash P (.ofString "ValueError"), .str (.ofString "ValueError") 105, .type "ValueError"⟩, ⟨PyData.keyHash P (.ofString "Warning"), .str (.ofString "Warning") 106, .type "Warning"⟩, ⟨PyData.keyHash P (.ofString "FloatingPointError"), .str (.ofString "FloatingPointError") 107, .type "FloatingPointError"⟩, ⟨PyData.keyHash P (.ofString "OverflowError"), .str (.ofString "OverflowError") 108, .type "OverflowError"⟩, ⟨PyData.keyHash P (.ofString "ZeroDivisionError"), .str (.ofString "ZeroDivisionError") 109, .type "ZeroDivisionError"⟩, ⟨PyData.keyHash P (.ofString "BytesWarning"), .str (.ofString "BytesWarning") 110, .type "BytesWarning"⟩, ⟨PyData.keyHash P (.ofString "DeprecationWarning"), .str (.ofString "DeprecationWarning") 111, .type "DeprecationWarning"⟩, ⟨PyData.keyHash P (.ofString "EncodingWarning"), .str (.ofString "EncodingWarning") 112, .type "EncodingWarning"⟩, ⟨PyData.keyHash P (.ofString "FutureWarning"), .str (.ofString "FutureWarning") 113, .type "FutureWarning"⟩, ⟨PyData.keyHash P (.ofString "ImportWarning"), .str (.ofString "ImportWarning") 114, .type "ImportWarning"⟩, ⟨PyData.keyHash P (.ofString "PendingDeprecationWarning"), .str (.ofString "PendingDeprecationWarning") 115, .type "PendingDeprecationWarning"⟩, ⟨PyData.keyHash P (.ofString "ResourceWarning"), .str (.ofString "ResourceWarning") 116, .type "ResourceWarning"⟩, ⟨PyData.keyHash P (.ofString "RuntimeWarning"), .str (.ofString "RuntimeWarning") 117, .type "RuntimeWarning"⟩, ⟨PyData.keyHash P (.ofString "SyntaxWarning"), .str (.ofString "SyntaxWarning") 118, .type "SyntaxWarning"⟩, ⟨PyData.keyHash P (.ofString "UnicodeWarning"), .str (.ofString "UnicodeWarning") 119, .type "UnicodeWarning"⟩, ⟨PyData.keyHash P (.ofString "UserWarning"), .str (.ofString "UserWarning") 120, .type "UserWarning"⟩, ⟨PyData.keyHash P (.ofString "BlockingIOError"), .str (.ofString "BlockingIOError") 121, .type "BlockingIOError"⟩, ⟨PyData.keyHash P (.ofString "ChildProcessError"), .str (.ofString "ChildProcessError") 122, .type "ChildProcessError"⟩, ⟨PyData.keyHash P (.ofString "ConnectionError"), .str (.ofString "ConnectionError") 123, .type "ConnectionError"⟩, ⟨PyData.keyHash P (.ofString "FileExistsError"), .str (.ofString "FileExistsError") 124, .type "FileExistsError"⟩, ⟨PyData.keyHash P (.ofString "FileNotFoundError"), .str (.ofString "FileNotFoundError") 125, .type "FileNotFoundError"⟩, ⟨PyData.keyHash P (.ofString "InterruptedError"), .str (.ofString "InterruptedError") 126, .type "InterruptedError"⟩, ⟨PyData.keyHash P (.ofString "IsADirectoryError"), .str (.ofString "IsADirectoryError") 127, .type "IsADirectoryError"⟩, ⟨PyData.keyHash P (.ofString "NotADirectoryError"), .str (.ofString "NotADirectoryError") 128, .type "NotADirectoryError"⟩, ⟨PyData.keyHash P (.ofString "PermissionError"), .str (.ofString "PermissionError") 129, .type "PermissionError"⟩, ⟨PyData.keyHash P (.ofString "ProcessLookupError"), .str (.ofString "ProcessLookupError") 130, .type "ProcessLookupError"⟩, ⟨PyData.keyHash P (.ofString "TimeoutError"), .str (.ofString "TimeoutError") 131, .type "TimeoutError"⟩, ⟨PyData.keyHash P (.ofString "IndentationError"), .str (.ofString "IndentationError") 132, .type "IndentationError"⟩, ⟨PyData.keyHash P (.ofString "_IncompleteInputError"), .str (.ofString "_IncompleteInputError") 133, .type "_IncompleteInputError"⟩, ⟨PyData.keyHash P (.ofString "IndexError"), .str (.ofString "IndexError") 134, .type "IndexError"⟩, ⟨PyData.keyHash P (.ofString "KeyError"), .str (.ofString "KeyError") 135, .type "KeyError"⟩, ⟨PyData.keyHash P (.ofString "ModuleNotFoundError"), .str (.ofString "ModuleNotFoundError") 136, .type "ModuleNotFoundError"⟩, ⟨PyData.keyHash P (.ofString "NotImplementedError"), .str (.ofString "NotImplementedError") 137, .type "NotImplementedError"⟩, ⟨PyData.keyHash P (.ofString "PythonFinalizationError"), .str (.ofString "PythonFinalizationError") 138, .type "PythonFinalizationError"⟩, ⟨PyData.keyHash P (.ofString "RecursionError"), .str (.ofString "RecursionError") 139, .type "RecursionError"⟩, ⟨PyData.keyHash P (.ofString "UnboundLocalError"), .str (.ofString "UnboundLocalError") 140, .type "UnboundLocalError"⟩, ⟨PyData.keyHash P (.ofString "UnicodeError"), .str (.ofString "UnicodeError") 141, .type "UnicodeError"⟩, ⟨PyData.keyHash P (.ofString "BrokenPipeError"), .str (.ofString "BrokenPipeError") 142, .type "BrokenPipeError"⟩, ⟨PyData.keyHash P (.ofString "ConnectionAbortedError"), .str (.ofString "ConnectionAbortedError") 143, .type "ConnectionAbortedError"⟩, ⟨PyData.keyHash P (.ofString "ConnectionRefusedError"), .str (.ofString "ConnectionRefusedError") 144, .type "ConnectionRefusedError"⟩, ⟨PyData.keyHash P (.ofString "ConnectionResetError"), .str (.ofString "ConnectionResetError") 145, .type "ConnectionResetError"⟩, ⟨PyData.keyHash P (.ofString "TabError"), .str (.ofString "TabError") 146, .type "TabError"⟩, ⟨PyData.keyHash P (.ofString "UnicodeDecodeError"), .str (.ofString "UnicodeDecodeError") 147, .type "UnicodeDecodeError"⟩, ⟨PyData.keyHash P (.ofString "UnicodeEncodeError"), .str (.ofString "UnicodeEncodeError") 148, .type "UnicodeEncodeError"⟩, ⟨PyData.keyHash P (.ofString "UnicodeTranslateError"), .str (.ofString "UnicodeTranslateError") 149, .type "UnicodeTranslateError"⟩, ⟨PyData.keyHash P (.ofString "ExceptionGroup"), .str (.ofString "ExceptionGroup") 150, .type "ExceptionGroup"⟩, ⟨PyData.keyHash P (.ofString "EnvironmentError"), .str (.ofString "EnvironmentError") 151, .type "OSError"⟩, ⟨PyData.keyHash P (.ofString "IOError"), .str (.ofString "IOError") 152, .type "OSError"⟩, ⟨PyData.keyHash P (.ofString "open"), .str (.ofString "open") 153, .builtin "open"⟩, ⟨PyData.keyHash P (.ofString "quit"), .str (.ofString "quit") 154, .builtin "builtins.quit#op\x61que"⟩, ⟨PyData.keyHash P (.ofString "exit"), .str (.ofString "exit") 155, .builtin "builtins.exit#op\x61que"⟩, ⟨PyData.keyHash P (.ofString "copyright"), .str (.ofString "copyright") 156, .builtin "builtins.copyright#op\x61que"⟩, ⟨PyData.keyHash P (.ofString "credits"), .str (.ofString "credits") 157, .builtin "builtins.credits#op\x61que"⟩, ⟨PyData.keyHash P (.ofString "license"), .str (.ofString "license") 158, .builtin "builtins.license#op\x61que"⟩, ⟨PyData.keyHash P (.ofString "help"), .str (.ofString "help") 159, .builtin "builtins.help#op\x61que"⟩] 159, #[]⟩
noncomputable def o1E (P : Params) : Obj := ⟨.type "dict", none, .dict #[⟨PyData.keyHash P (.ofString "builtins"), .str (.ofString "builtins") 162, .ref 4⟩, ⟨PyData.keyHash P (.ofString "__main__"), .str (.ofString "__main__") 163, .ref 5⟩, ⟨PyData.keyHash P (.ofString "_sre"), .str (.ofString "_sre") 244, .ref 12⟩, ⟨PyData.keyHash P (.ofString "_collections"), .str (.ofString "_collections") 292, .ref 30⟩] 4, #[]⟩
noncomputable def o2E (P : Params) : Obj := ⟨.none, none, .dict #[⟨PyData.keyHash P (.ofString "imp\x6frt.loaded._sre"), .str (.ofString "imp\x6frt.loaded._sre") 183, .bool true⟩, ⟨PyData.keyHash P (.ofString "class._frozen_imp\x6frtlib.BuiltinImporter"), .str (.ofString "class._frozen_imp\x6frtlib.BuiltinImporter") 185, .ref 14⟩, ⟨PyData.keyHash P (.ofString "watched.imp\x6frt"), .str (.ofString "watched.imp\x6frt") 206, .ref 18⟩, ⟨PyData.keyHash P (.ofString "class._frozen_imp\x6frtlib.ModuleSpec"), .str (.ofString "class._frozen_imp\x6frtlib.ModuleSpec") 216, .ref 22⟩, ⟨PyData.keyHash P (.ofString "sys.modules.booked-epoch"), .str (.ofString "sys.modules.booked-epoch") 245, .int 4 0⟩, ⟨PyData.keyHash P (.ofString "imp\x6frt.later-laid._sre"), .str (.ofString "imp\x6frt.later-laid._sre") 270, .bool true⟩, ⟨PyData.keyHash P (.ofString "watched.library"), .str (.ofString "watched.library") 272, .ref 27⟩, ⟨PyData.keyHash P (.ofString "watched.library-objects"), .str (.ofString "watched.library-objects") 0, .str (.ofString "\x0c\x1e") 0⟩, ⟨PyData.keyHash P (.ofString "watched.library-deep._sre"), .str (.ofString "watched.library-deep._sre") 273, .str (.ofString "\x04\x00\x00\x0b\x04\x00\x00\x0b\x04\x00\x00\x03\x04\x00\x00\x0b\x08\x04dict\x02") 0⟩, ⟨PyData.keyHash P (.ofString "imp\x6frt.loaded._collections"), .str (.ofString "imp\x6frt.loaded._collections") 280, .bool true⟩, ⟨PyData.keyHash P (.ofString "sys.modules.landed._collections"), .str (.ofString "sys.modules.landed._collections") 294, .bool true⟩, ⟨PyData.keyHash P (.ofString "imp\x6frt.later-laid._collections"), .str (.ofString "imp\x6frt.later-laid._collections") 309, .bool true⟩, ⟨PyData.keyHash P (.ofString "watched.library-deep._collections"), .str (.ofString "watched.library-deep._collections") 311, .str (.ofString "\x04\x00\x00\x1d\x04\x00\x00\x1d\x04\x00\x00\x03\x04\x00\x00\x1d\x08\x04dict\x02") 0⟩] 13, #[]⟩
noncomputable def o3E (P : Params) : Obj := ⟨.type "dict", none, .dict #[⟨PyData.keyHash P (.ofString "__name__"), .str (.ofString "__name__") 165, .str (.ofString "__main__") 164⟩, ⟨PyData.keyHash P (.ofString "__doc__"), .str (.ofString "__doc__") 166, .none⟩, ⟨PyData.keyHash P (.ofString "__package__"), .str (.ofString "__package__") 167, .none⟩, ⟨PyData.keyHash P (.ofString "__loader__"), .str (.ofString "__loader__") 168, .builtin "__main__.__loader__#op\x61que"⟩, ⟨PyData.keyHash P (.ofString "__spec__"), .str (.ofString "__spec__") 169, .none⟩, ⟨PyData.keyHash P (.ofString "__annotations__"), .str (.ofString "__annotations__") 170, .ref 6⟩, ⟨PyData.keyHash P (.ofString "__builtins__"), .str (.ofString "__builtins__") 171, .ref 4⟩, ⟨PyData.keyHash P (.ofString "__file__"), .str (.ofString "__file__") 173, .str (.ofString "/claim/cut.py") 172⟩, ⟨PyData.keyHash P (.ofString "__cached__"), .str (.ofString "__cached__") 174, .none⟩, ⟨PyData.keyHash P (.ofString "_sre"), .str (.ofString "_sre") 275, .ref 12⟩, ⟨PyData.keyHash P (.ofString "deque"), .str (.ofString "deque") 317, .type "collections.deque"⟩] 11, #[]⟩
noncomputable def o4E (P : Params) : Obj := ⟨.type "module", (some 0), .plain, #[]⟩
noncomputable def o5E (P : Params) : Obj := ⟨.type "module", (some 3), .plain, #[]⟩
noncomputable def o6E (P : Params) : Obj := ⟨.type "dict", none, .dict #[] 0, #[]⟩
noncomputable def o7E (P : Params) : Obj := ⟨.type "tuple", none, .seq #[] 0, #[]⟩
noncomputable def o8E (P : Params) : Obj := ⟨.none, none, .fields #[], #[]⟩
noncomputable def o9E (P : Params) : Obj := ⟨.type "code", none, .fields #[.str (.ofString "<module>") 176, .str (.ofString "<module>") 177, .str (.ofString "/claim/cut.py") 178, .int 1 0, .int 0 0, .int 0 0, .int 0 0, .int 0 0, .ref 7, .bool false, .int 175 0, .ref 8, .none, .none, .none, .none, .int 179 0, .int 1 0, .str (.ofString "/claim/cut.py") 180], #[]⟩
noncomputable def o10E (P : Params) : Obj := ⟨.type "frame", none, .plain, #[some (.ref 9), some (.ref 3), some (.ref 3), none, some (.str (.ofString "__main__") 164), none, some (.ref 0)]⟩
noncomputable def o11E (P : Params) : Obj := ⟨.type "dict", none, .dict #[⟨PyData.keyHash P (.ofString "__name__"), .str (.ofString "__name__") 247, .str (.ofString "_sre") 246⟩, ⟨PyData.keyHash P (.ofString "__doc__"), .str (.ofString "__doc__") 248, .none⟩, ⟨PyData.keyHash P (.ofString "__package__"), .str (.ofString "__package__") 250, .str (.ofString "") 249⟩, ⟨PyData.keyHash P (.ofString "__loader__"), .str (.ofString "__loader__") 251, .ref 14⟩, ⟨PyData.keyHash P (.ofString "__spec__"), .str (.ofString "__spec__") 252, .ref 26⟩, ⟨PyData.keyHash P (.ofString "compile"), .str (.ofString "compile") 253, .builtin "_sre.compile"⟩, ⟨PyData.keyHash P (.ofString "template"), .str (.ofString "template") 254, .builtin "_sre.template"⟩, ⟨PyData.keyHash P (.ofString "getcodesize"), .str (.ofString "getcodesize") 255, .builtin "_sre.getcodesize"⟩, ⟨PyData.keyHash P (.ofString "ascii_iscased"), .str (.ofString "ascii_iscased") 256, .builtin "_sre.ascii_iscased"⟩, ⟨PyData.keyHash P (.ofString "unicode_iscased"), .str (.ofString "unicode_iscased") 257, .builtin "_sre.unicode_iscased"⟩, ⟨PyData.keyHash P (.ofString "ascii_tolower"), .str (.ofString "ascii_tolower") 258, .builtin "_sre.ascii_tolower"⟩, ⟨PyData.keyHash P (.ofString "unicode_tolower"), .str (.ofString "unicode_tolower") 259, .builtin "_sre.unicode_tolower"⟩, ⟨PyData.keyHash P (.ofString "MAGIC"), .str (.ofString "MAGIC") 261, .int 20230612 260⟩, ⟨PyData.keyHash P (.ofString "CODESIZE"), .str (.ofString "CODESIZE") 263, .int 4 262⟩, ⟨PyData.keyHash P (.ofString "MAXREPEAT"), .str (.ofString "MAXREPEAT") 265, .int 4294967295 264⟩, ⟨PyData.keyHash P (.ofString "MAXGROUPS"), .str (.ofString "MAXGROUPS") 267, .int 1073741823 266⟩, ⟨PyData.keyHash P (.ofString "copyright"), .str (.ofString "copyright") 269, .str ⟨#[32, 83, 82, 69, 32, 50, 46, 50, 46, 50, 32, 67, 111, 112, 121, 114, 105, 103, 104, 116, 32, 40, 99, 41, 32, 49, 57, 57, 55, 45, 50, 48, 48, 50, 32, 98, 121, 32, 83, 101, 99, 114, 101, 116, 32, 76, 97, 98, 115, 32, 65, 66, 32]⟩ 268⟩] 17, #[]⟩
noncomputable def o12E (P : Params) : Obj := ⟨.type "module", (some 11), .plain, #[]⟩
noncomputable def o13E (P : Params) : Obj := ⟨.type "dict", none, .dict #[⟨PyData.keyHash P (.ofString "__module__"), .str (.ofString "__module__") 189, .str (.ofString "_frozen_imp\x6frtlib") 186⟩, ⟨PyData.keyHash P (.ofString "__firstlineno__"), .str (.ofString "__firstlineno__") 190, .int 971 187⟩, ⟨PyData.keyHash P (.ofString "__doc__"), .str (.ofString "__doc__") 191, .builtin "_frozen_imp\x6frtlib.BuiltinImporter.__doc__:str#op\x61que"⟩, ⟨PyData.keyHash P (.ofString "_ORIGIN"), .str (.ofString "_ORIGIN") 192, .str (.ofString "built-in") 188⟩, ⟨PyData.keyHash P (.ofString "find_spec"), .str (.ofString "find_spec") 193, .builtin "_frozen_imp\x6frtlib.BuiltinImporter.find_spec#op\x61que"⟩, ⟨PyData.keyHash P (.ofString "create_module"), .str (.ofString "create_module") 194, .builtin "_frozen_imp\x6frtlib.BuiltinImporter.create_module#op\x61que"⟩, ⟨PyData.keyHash P (.ofString "exec_module"), .str (.ofString "exec_module") 195, .builtin "_frozen_imp\x6frtlib.BuiltinImporter.exec_module#op\x61que"⟩, ⟨PyData.keyHash P (.ofString "get_code"), .str (.ofString "get_code") 196, .builtin "_frozen_imp\x6frtlib.BuiltinImporter.get_code#op\x61que"⟩, ⟨PyData.keyHash P (.ofString "get_source"), .str (.ofString "get_source") 197, .builtin "_frozen_imp\x6frtlib.BuiltinImporter.get_source#op\x61que"⟩, ⟨PyData.keyHash P (.ofString "is_package"), .str (.ofString "is_package") 198, .builtin "_frozen_imp\x6frtlib.BuiltinImporter.is_package#op\x61que"⟩, ⟨PyData.keyHash P (.ofString "load_module"), .str (.ofString "load_module") 199, .builtin "_frozen_imp\x6frtlib.BuiltinImporter.load_module#op\x61que"⟩, ⟨PyData.keyHash P (.ofString "__static_attributes__"), .str (.ofString "__static_attributes__") 200, .ref 15⟩, ⟨PyData.keyHash P (.ofString "__dict__"), .str (.ofString "__dict__") 202, .ref 16⟩, ⟨PyData.keyHash P (.ofString "__weakref__"), .str (.ofString "__weakref__") 204, .ref 17⟩] 14, #[]⟩
noncomputable def o14E (P : Params) : Obj := ⟨.type "type", none, .cls ⟨(.ofString "BuiltinImporter"), [.type "object"], [.ref 14, .type "object"], 13, (.ofString "BuiltinImporter"), true, [], [], false, none, false⟩, #[]⟩
noncomputable def o16E (P : Params) : Obj := ⟨.type "getset_descriptor", none, .fields #[.str (.ofString "__dict__") 201, .ref 14, .builtin "function.__dict__", .builtin "function.__dict__#set"], #[]⟩
noncomputable def o17E (P : Params) : Obj := ⟨.type "getset_descriptor", none, .fields #[.str (.ofString "__weakref__") 203, .ref 14, .builtin "ExceptionGroup.__weakref__", .none], #[]⟩
noncomputable def o18E (P : Params) : Obj := ⟨.none, none, .seq #[.int 13 0, .str ⟨#[6, 189, 10, 95, 95, 109, 111, 100, 117, 108, 101, 95, 95, 6, 186, 17, 95, 102, 114, 111, 122, 101, 110, 95, 105, 109, 112, 111, 114, 116, 108, 105, 98, 6, 190, 15, 95, 95, 102, 105, 114, 115, 116, 108, 105, 110, 101, 110, 111, 95, 95, 4, 187, 0, 971, 6, 191, 7, 95, 95, 100, 111, 99, 95, 95, 9, 52, 95, 102, 114, 111, 122, 101, 110, 95, 105, 109, 112, 111, 114, 116, 108, 105, 98, 46, 66, 117, 105, 108, 116, 105, 110, 73, 109, 112, 111, 114, 116, 101, 114, 46, 95, 95, 100, 111, 99, 95, 95, 58, 115, 116, 114, 35, 111, 112, 97, 113, 117, 101, 6, 192, 7, 95, 79, 82, 73, 71, 73, 78, 6, 188, 8, 98, 117, 105, 108, 116, 45, 105, 110, 6, 193, 9, 102, 105, 110, 100, 95, 115, 112, 101, 99, 9, 50, 95, 102, 114, 111, 122, 101, 110, 95, 105, 109, 112, 111, 114, 116, 108, 105, 98, 46, 66, 117, 105, 108, 116, 105, 110, 73, 109, 112, 111, 114, 116, 101, 114, 46, 102, 105, 110, 100, 95, 115, 112, 101, 99, 35, 111, 112, 97, 113, 117, 101, 6, 194, 13, 99, 114, 101, 97, 116, 101, 95, 109, 111, 100, 117, 108, 101, 9, 54, 95, 102, 114, 111, 122, 101, 110, 95, 105, 109, 112, 111, 114, 116, 108, 105, 98, 46, 66, 117, 105, 108, 116, 105, 110, 73, 109, 112, 111, 114, 116, 101, 114, 46, 99, 114, 101, 97, 116, 101, 95, 109, 111, 100, 117, 108, 101, 35, 111, 112, 97, 113, 117, 101, 6, 195, 11, 101, 120, 101, 99, 95, 109, 111, 100, 117, 108, 101, 9, 52, 95, 102, 114, 111, 122, 101, 110, 95, 105, 109, 112, 111, 114, 116, 108, 105, 98, 46, 66, 117, 105, 108, 116, 105, 110, 73, 109, 112, 111, 114, 116, 101, 114, 46, 101, 120, 101, 99, 95, 109, 111, 100, 117, 108, 101, 35, 111, 112, 97, 113, 117, 101, 6, 196, 8, 103, 101, 116, 95, 99, 111, 100, 101, 9, 49, 95, 102, 114, 111, 122, 101, 110, 95, 105, 109, 112, 111, 114, 116, 108, 105, 98, 46, 66, 117, 105, 108, 116, 105, 110, 73, 109, 112, 111, 114, 116, 101, 114, 46, 103, 101, 116, 95, 99, 111, 100, 101, 35, 111, 112, 97, 113, 117, 101, 6, 197, 10, 103, 101, 116, 95, 115, 111, 117, 114, 99, 101, 9, 51, 95, 102, 114, 111, 122, 101, 110, 95, 105, 109, 112, 111, 114, 116, 108, 105, 98, 46, 66, 117, 105, 108, 116, 105, 110, 73, 109, 112, 111, 114, 116, 101, 114, 46, 103, 101, 116, 95, 115, 111, 117, 114, 99, 101, 35, 111, 112, 97, 113, 117, 101, 6, 198, 10, 105, 115, 95, 112, 97, 99, 107, 97, 103, 101, 9, 51, 95, 102, 114, 111, 122, 101, 110, 95, 105, 109, 112, 111, 114, 116, 108, 105, 98, 46, 66, 117, 105, 108, 116, 105, 110, 73, 109, 112, 111, 114, 116, 101, 114, 46, 105, 115, 95, 112, 97, 99, 107, 97, 103, 101, 35, 111, 112, 97, 113, 117, 101, 6, 199, 11, 108, 111, 97, 100, 95, 109, 111, 100, 117, 108, 101, 9, 52, 95, 102, 114, 111, 122, 101, 110, 95, 105, 109, 112, 111, 114, 116, 108, 105, 98, 46, 66, 117, 105, 108, 116, 105, 110, 73, 109, 112, 111, 114, 116, 101, 114, 46, 108, 111, 97, 100, 95, 109, 111, 100, 117, 108, 101, 35, 111, 112, 97, 113, 117, 101, 6, 200, 21, 95, 95, 115, 116, 97, 116, 105, 99, 95, 97, 116, 116, 114, 105, 98, 117, 116, 101, 115, 95, 95, 4, 0, 0, 15, 6, 202, 8, 95, 95, 100, 105, 99, 116, 95, 95, 4, 0, 0, 16, 6, 204, 11, 95, 95, 119, 101, 97, 107, 114, 101, 102, 95, 95, 4, 0, 0, 17]⟩ 0, .bool true, .bool true, .str (.ofString "") 205, .int 21 0, .str ⟨#[6, 227, 10, 95, 95, 109, 111, 100, 117, 108, 101, 95, 95, 6, 217, 17, 95, 102, 114, 111, 122, 101, 110, 95, 105, 109, 112, 111, 114, 116, 108, 105, 98, 6, 228, 15, 95, 95, 102, 105, 114, 115, 116, 108, 105, 110, 101, 110, 111, 95, 95, 4, 218, 0, 562, 6, 229, 7, 95, 95, 100, 111, 99, 95, 95, 9, 47, 95, 102, 114, 111, 122, 101, 110, 95, 105, 109, 112, 111, 114, 116, 108, 105, 98, 46, 77, 111, 100, 117, 108, 101, 83, 112, 101, 99, 46, 95, 95, 100, 111, 99, 95, 95, 58, 115, 116, 114, 35, 111, 112, 97, 113, 117, 101, 6, 230, 8, 95, 95, 105, 110, 105, 116, 95, 95, 9, 44, 95, 102, 114, 111, 122, 101, 110, 95, 105, 109, 112, 111, 114, 116, 108, 105, 98, 46, 77, 111, 100, 117, 108, 101, 83, 112, 101, 99, 46, 95, 95, 105, 110, 105, 116, 95, 95, 35, 111, 112, 97, 113, 117, 101, 6, 231, 8, 95, 95, 114, 101, 112, 114, 95, 95, 9, 44, 95, 102, 114, 111, 122, 101, 110, 95, 105, 109, 112, 111, 114, 116, 108, 105, 98, 46, 77, 111, 100, 117, 108, 101, 83, 112, 101, 99, 46, 95, 95, 114, 101, 112, 114, 95, 95, 35, 111, 112, 97, 113, 117, 101, 6, 232, 6, 95, 95, 101, 113, 95, 95, 9, 42, 95, 102, 114, 111, 122, 101, 110, 95, 105, 109, 112, 111, 114, 116, 108, 105, 98, 46, 77, 111, 100, 117, 108, 101, 83, 112, 101, 99, 46, 95, 95, 101, 113, 95, 95, 35, 111, 112, 97, 113, 117, 101, 6, 233, 6, 99, 97, 99, 104, 101, 100, 9, 42, 95, 102, 114, 111, 122, 101, 110, 95, 105, 109, 112, 111, 114, 116, 108, 105, 98, 46, 77, 111, 100, 117, 108, 101, 83, 112, 101, 99, 46, 99, 97, 99, 104, 101, 100, 35, 111, 112, 97, 113, 117, 101, 6, 234, 6, 112, 97, 114, 101, 110, 116, 9, 42, 95, 102, 114, 111, 122, 101, 110, 95, 105, 109, 112, 111, 114, 116, 108, 105, 98, 46, 77, 111, 100, 117, 108, 101, 83, 112, 101, 99, 46, 112, 97, 114, 101, 110, 116, 35, 111, 112, 97, 113, 117, 101, 6, 235, 12, 104, 97, 115, 95, 108, 111, 99, 97, 116, 105, 111, 110, 9, 48, 95, 102, 114, 111, 122, 101, 110, 95, 105, 109, 112, 111, 114, 116, 108, 105, 98, 46, 77, 111, 100, 117, 108, 101, 83, 112, 101, 99, 46, 104, 97, 115, 95, 108, 111, 99, 97, 116, 105, 111, 110, 35, 111, 112, 97, 113, 117, 101, 6, 236, 21, 95, 95, 115, 116, 97, 116, 105, 99, 95, 97, 116, 116, 114, 105, 98, 117, 116, 101, 115, 95, 95, 4, 0, 0, 23, 6, 238, 8, 95, 95, 100, 105, 99, 116, 95, 95, 4, 0, 0, 24, 6, 240, 11, 95, 95, 119, 101, 97, 107, 114, 101, 102, 95, 95, 4, 0, 0, 25, 6, 241, 8, 95, 95, 104, 97, 115, 104, 95, 95, 0]⟩ 0, .bool true, .bool true, .str (.ofString "") 242] 1, #[]⟩
noncomputable def o19E (P : Params) : Obj := ⟨.type "list", none, .seq #[] 0, #[]⟩
noncomputable def o20E (P : Params) : Obj := ⟨.type "dict", none, .dict #[⟨PyData.keyHash P (.ofString "name"), .str (.ofString "name") 208, .str (.ofString "_sre") 207⟩, ⟨PyData.keyHash P (.ofString "loader"), .str (.ofString "loader") 209, .ref 14⟩, ⟨PyData.keyHash P (.ofString "origin"), .str (.ofString "origin") 210, .str (.ofString "built-in") 184⟩, ⟨PyData.keyHash P (.ofString "loader_state"), .str (.ofString "loader_state") 211, .none⟩, ⟨PyData.keyHash P (.ofString "submodule_search_locations"), .str (.ofString "submodule_search_locations") 212, .none⟩, ⟨PyData.keyHash P (.ofString "_uninitialized_submodules"), .str (.ofString "_uninitialized_submodules") 213, .ref 19⟩, ⟨PyData.keyHash P (.ofString "_set_fileattr"), .str (.ofString "_set_fileattr") 214, .bool false⟩, ⟨PyData.keyHash P (.ofString "_cached"), .str (.ofString "_cached") 215, .none⟩, ⟨PyData.keyHash P (.ofString "_initializing"), .str (.ofString "_initializing") 243, .bool false⟩] 9, #[]⟩
noncomputable def o21E (P : Params) : Obj := ⟨.type "dict", none, .dict #[⟨PyData.keyHash P (.ofString "__module__"), .str (.ofString "__module__") 227, .str (.ofString "_frozen_imp\x6frtlib") 217⟩, ⟨PyData.keyHash P (.ofString "__firstlineno__"), .str (.ofString "__firstlineno__") 228, .int 562 218⟩, ⟨PyData.keyHash P (.ofString "__doc__"), .str (.ofString "__doc__") 229, .builtin "_frozen_imp\x6frtlib.ModuleSpec.__doc__:str#op\x61que"⟩, ⟨PyData.keyHash P (.ofString "__init__"), .str (.ofString "__init__") 230, .builtin "_frozen_imp\x6frtlib.ModuleSpec.__init__#op\x61que"⟩, ⟨PyData.keyHash P (.ofString "__repr__"), .str (.ofString "__repr__") 231, .builtin "_frozen_imp\x6frtlib.ModuleSpec.__repr__#op\x61que"⟩, ⟨PyData.keyHash P (.ofString "__eq__"), .str (.ofString "__eq__") 232, .builtin "_frozen_imp\x6frtlib.ModuleSpec.__eq__#op\x61que"⟩, ⟨PyData.keyHash P (.ofString "cached"), .str (.ofString "cached") 233, .builtin "_frozen_imp\x6frtlib.ModuleSpec.cached#op\x61que"⟩, ⟨PyData.keyHash P (.ofString "parent"), .str (.ofString "parent") 234, .builtin "_frozen_imp\x6frtlib.ModuleSpec.parent#op\x61que"⟩, ⟨PyData.keyHash P (.ofString "has_location"), .str (.ofString "has_location") 235, .builtin "_frozen_imp\x6frtlib.ModuleSpec.has_location#op\x61que"⟩, ⟨PyData.keyHash P (.ofString "__static_attributes__"), .str (.ofString "__static_attributes__") 236, .ref 23⟩, ⟨PyData.keyHash P (.ofString "__dict__"), .str (.ofString "__dict__") 238, .ref 24⟩, ⟨PyData.keyHash P (.ofString "__weakref__"), .str (.ofString "__weakref__") 240, .ref 25⟩, ⟨PyData.keyHash P (.ofString "__hash__"), .str (.ofString "__hash__") 241, .none⟩] 13, #[]⟩
noncomputable def o22E (P : Params) : Obj := ⟨.type "type", none, .cls ⟨(.ofString "ModuleSpec"), [.type "object"], [.ref 22, .type "object"], 21, (.ofString "ModuleSpec"), true, [], [], false, none, false⟩, #[]⟩
noncomputable def o23E (P : Params) : Obj := ⟨.type "tuple", none, .seq #[.str (.ofString "_cached") 219, .str (.ofString "_set_fileattr") 220, .str (.ofString "_uninitialized_submodules") 221, .str (.ofString "loader") 222, .str (.ofString "loader_state") 223, .str (.ofString "name") 224, .str (.ofString "origin") 225, .str (.ofString "submodule_search_locations") 226] 0, #[]⟩
noncomputable def o24E (P : Params) : Obj := ⟨.type "getset_descriptor", none, .fields #[.str (.ofString "__dict__") 237, .ref 22, .builtin "function.__dict__", .builtin "function.__dict__#set"], #[]⟩
noncomputable def o25E (P : Params) : Obj := ⟨.type "getset_descriptor", none, .fields #[.str (.ofString "__weakref__") 239, .ref 22, .builtin "ExceptionGroup.__weakref__", .none], #[]⟩
noncomputable def o26E (P : Params) : Obj := ⟨.ref 22, (some 20), .plain, #[]⟩
noncomputable def o27E (P : Params) : Obj := ⟨.none, none, .seq #[.int 11 0, .str ⟨#[6, 247, 8, 95, 95, 110, 97, 109, 101, 95, 95, 6, 246, 4, 95, 115, 114, 101, 6, 248, 7, 95, 95, 100, 111, 99, 95, 95, 0, 6, 250, 11, 95, 95, 112, 97, 99, 107, 97, 103, 101, 95, 95, 6, 249, 0, 6, 251, 10, 95, 95, 108, 111, 97, 100, 101, 114, 95, 95, 4, 0, 0, 14, 6, 252, 8, 95, 95, 115, 112, 101, 99, 95, 95, 4, 0, 0, 26, 6, 253, 7, 99, 111, 109, 112, 105, 108, 101, 9, 12, 95, 115, 114, 101, 46, 99, 111, 109, 112, 105, 108, 101, 6, 254, 8, 116, 101, 109, 112, 108, 97, 116, 101, 9, 13, 95, 115, 114, 101, 46, 116, 101, 109, 112, 108, 97, 116, 101, 6, 255, 11, 103, 101, 116, 99, 111, 100, 101, 115, 105, 122, 101, 9, 16, 95, 115, 114, 101, 46, 103, 101, 116, 99, 111, 100, 101, 115, 105, 122, 101, 6, 256, 13, 97, 115, 99, 105, 105, 95, 105, 115, 99, 97, 115, 101, 100, 9, 18, 95, 115, 114, 101, 46, 97, 115, 99, 105, 105, 95, 105, 115, 99, 97, 115, 101, 100, 6, 257, 15, 117, 110, 105, 99, 111, 100, 101, 95, 105, 115, 99, 97, 115, 101, 100, 9, 20, 95, 115, 114, 101, 46, 117, 110, 105, 99, 111, 100, 101, 95, 105, 115, 99, 97, 115, 101, 100, 6, 258, 13, 97, 115, 99, 105, 105, 95, 116, 111, 108, 111, 119, 101, 114, 9, 18, 95, 115, 114, 101, 46, 97, 115, 99, 105, 105, 95, 116, 111, 108, 111, 119, 101, 114, 6, 259, 15, 117, 110, 105, 99, 111, 100, 101, 95, 116, 111, 108, 111, 119, 101, 114, 9, 20, 95, 115, 114, 101, 46, 117, 110, 105, 99, 111, 100, 101, 95, 116, 111, 108, 111, 119, 101, 114, 6, 261, 5, 77, 65, 71, 73, 67, 4, 260, 0, 20230612, 6, 263, 8, 67, 79, 68, 69, 83, 73, 90, 69, 4, 262, 0, 4, 6, 265, 9, 77, 65, 88, 82, 69, 80, 69, 65, 84, 4, 264, 0, 4294967295, 6, 267, 9, 77, 65, 88, 71, 82, 79, 85, 80, 83, 4, 266, 0, 1073741823, 6, 269, 9, 99, 111, 112, 121, 114, 105, 103, 104, 116, 6, 268, 53, 32, 83, 82, 69, 32, 50, 46, 50, 46, 50, 32, 67, 111, 112, 121, 114, 105, 103, 104, 116, 32, 40, 99, 41, 32, 49, 57, 57, 55, 45, 50, 48, 48, 50, 32, 98, 121, 32, 83, 101, 99, 114, 101, 116, 32, 76, 97, 98, 115, 32, 65, 66, 32]⟩ 0, .bool true, .bool false, .str (.ofString "_sre") 271, .int 29 0, .str ⟨#[6, 296, 8, 95, 95, 110, 97, 109, 101, 95, 95, 6, 295, 12, 95, 99, 111, 108, 108, 101, 99, 116, 105, 111, 110, 115, 6, 297, 7, 95, 95, 100, 111, 99, 95, 95, 9, 31, 95, 99, 111, 108, 108, 101, 99, 116, 105, 111, 110, 115, 46, 95, 95, 100, 111, 99, 95, 95, 58, 115, 116, 114, 35, 111, 112, 97, 113, 117, 101, 6, 299, 11, 95, 95, 112, 97, 99, 107, 97, 103, 101, 95, 95, 6, 298, 0, 6, 300, 10, 95, 95, 108, 111, 97, 100, 101, 114, 95, 95, 4, 0, 0, 14, 6, 301, 8, 95, 95, 115, 112, 101, 99, 95, 95, 4, 0, 0, 33, 6, 302, 15, 95, 99, 111, 117, 110, 116, 95, 101, 108, 101, 109, 101, 110, 116, 115, 9, 28, 95, 99, 111, 108, 108, 101, 99, 116, 105, 111, 110, 115, 46, 95, 99, 111, 117, 110, 116, 95, 101, 108, 101, 109, 101, 110, 116, 115, 6, 303, 5, 100, 101, 113, 117, 101, 8, 17, 99, 111, 108, 108, 101, 99, 116, 105, 111, 110, 115, 46, 100, 101, 113, 117, 101, 6, 304, 11, 100, 101, 102, 97, 117, 108, 116, 100, 105, 99, 116, 8, 23, 99, 111, 108, 108, 101, 99, 116, 105, 111, 110, 115, 46, 100, 101, 102, 97, 117, 108, 116, 100, 105, 99, 116, 6, 305, 15, 95, 100, 101, 113, 117, 101, 95, 105, 116, 101, 114, 97, 116, 111, 114, 8, 27, 99, 111, 108, 108, 101, 99, 116, 105, 111, 110, 115, 46, 95, 100, 101, 113, 117, 101, 95, 105, 116, 101, 114, 97, 116, 111, 114, 6, 306, 23, 95, 100, 101, 113, 117, 101, 95, 114, 101, 118, 101, 114, 115, 101, 95, 105, 116, 101, 114, 97, 116, 111, 114, 8, 35, 99, 111, 108, 108, 101, 99, 116, 105, 111, 110, 115, 46, 95, 100, 101, 113, 117, 101, 95, 114, 101, 118, 101, 114, 115, 101, 95, 105, 116, 101, 114, 97, 116, 111, 114, 6, 307, 12, 95, 116, 117, 112, 108, 101, 103, 101, 116, 116, 101, 114, 8, 24, 99, 111, 108, 108, 101, 99, 116, 105, 111, 110, 115, 46, 95, 116, 117, 112, 108, 101, 103, 101, 116, 116, 101, 114, 6, 308, 11, 79, 114, 100, 101, 114, 101, 100, 68, 105, 99, 116, 8, 23, 99, 111, 108, 108, 101, 99, 116, 105, 111, 110, 115, 46, 79, 114, 100, 101, 114, 101, 100, 68, 105, 99, 116]⟩ 0, .bool true, .bool false, .str (.ofString "_collections") 310] 1, #[]⟩
noncomputable def o28E (P : Params) : Obj := ⟨.type "tuple", none, .seq #[.str (.ofString "deque") 277] 0, #[]⟩
noncomputable def o29E (P : Params) : Obj := ⟨.type "dict", none, .dict #[⟨PyData.keyHash P (.ofString "__name__"), .str (.ofString "__name__") 296, .str (.ofString "_collections") 295⟩, ⟨PyData.keyHash P (.ofString "__doc__"), .str (.ofString "__doc__") 297, .builtin "_collections.__doc__:str#op\x61que"⟩, ⟨PyData.keyHash P (.ofString "__package__"), .str (.ofString "__package__") 299, .str (.ofString "") 298⟩, ⟨PyData.keyHash P (.ofString "__loader__"), .str (.ofString "__loader__") 300, .ref 14⟩, ⟨PyData.keyHash P (.ofString "__spec__"), .str (.ofString "__spec__") 301, .ref 33⟩, ⟨PyData.keyHash P (.ofString "_count_elements"), .str (.ofString "_count_elements") 302, .builtin "_collections._count_elements"⟩, ⟨PyData.keyHash P (.ofString "deque"), .str (.ofString "deque") 303, .type "collections.deque"⟩, ⟨PyData.keyHash P (.ofString "defaultdict"), .str (.ofString "defaultdict") 304, .type "collections.defaultdict"⟩, ⟨PyData.keyHash P (.ofString "_deque_iterator"), .str (.ofString "_deque_iterator") 305, .type "collections._deque_iterator"⟩, ⟨PyData.keyHash P (.ofString "_deque_reverse_iterator"), .str (.ofString "_deque_reverse_iterator") 306, .type "collections._deque_reverse_iterator"⟩, ⟨PyData.keyHash P (.ofString "_tuplegetter"), .str (.ofString "_tuplegetter") 307, .type "collections._tuplegetter"⟩, ⟨PyData.keyHash P (.ofString "OrderedDict"), .str (.ofString "OrderedDict") 308, .type "collections.OrderedDict"⟩] 12, #[]⟩
noncomputable def o30E (P : Params) : Obj := ⟨.type "module", (some 29), .plain, #[]⟩
noncomputable def o32E (P : Params) : Obj := ⟨.type "dict", none, .dict #[⟨PyData.keyHash P (.ofString "name"), .str (.ofString "name") 283, .str (.ofString "_collections") 282⟩, ⟨PyData.keyHash P (.ofString "loader"), .str (.ofString "loader") 284, .ref 14⟩, ⟨PyData.keyHash P (.ofString "origin"), .str (.ofString "origin") 285, .str (.ofString "built-in") 281⟩, ⟨PyData.keyHash P (.ofString "loader_state"), .str (.ofString "loader_state") 286, .none⟩, ⟨PyData.keyHash P (.ofString "submodule_search_locations"), .str (.ofString "submodule_search_locations") 287, .none⟩, ⟨PyData.keyHash P (.ofString "_uninitialized_submodules"), .str (.ofString "_uninitialized_submodules") 288, .ref 31⟩, ⟨PyData.keyHash P (.ofString "_set_fileattr"), .str (.ofString "_set_fileattr") 289, .bool false⟩, ⟨PyData.keyHash P (.ofString "_cached"), .str (.ofString "_cached") 290, .none⟩, ⟨PyData.keyHash P (.ofString "_initializing"), .str (.ofString "_initializing") 291, .bool false⟩] 9, #[]⟩
noncomputable def o33E (P : Params) : Obj := ⟨.ref 22, (some 32), .plain, #[]⟩
noncomputable def o11Z (P : Params) : Obj := ⟨.type "dict", none, .dict #[⟨PyData.keyHash P (.ofString "__name__"), .str (.ofString "__name__") 247, .str (.ofString "_sre") 246⟩, ⟨PyData.keyHash P (.ofString "__doc__"), .str (.ofString "__doc__") 248, .none⟩, ⟨PyData.keyHash P (.ofString "__package__"), .str (.ofString "__package__") 250, .str (.ofString "") 249⟩, ⟨PyData.keyHash P (.ofString "__loader__"), .str (.ofString "__loader__") 251, .builtin "off-the-table:_sre.__loader__:shared#op\x61que"⟩, ⟨PyData.keyHash P (.ofString "__spec__"), .str (.ofString "__spec__") 252, .builtin "off-the-table:_sre.__spec__:shared#op\x61que"⟩, ⟨PyData.keyHash P (.ofString "compile"), .str (.ofString "compile") 253, .builtin "_sre.compile"⟩, ⟨PyData.keyHash P (.ofString "template"), .str (.ofString "template") 254, .builtin "off-the-table:_sre.template:shared#op\x61que"⟩, ⟨PyData.keyHash P (.ofString "getcodesize"), .str (.ofString "getcodesize") 255, .builtin "off-the-table:_sre.getcodesize:shared#op\x61que"⟩, ⟨PyData.keyHash P (.ofString "ascii_iscased"), .str (.ofString "ascii_iscased") 256, .builtin "off-the-table:_sre.ascii_iscased:shared#op\x61que"⟩, ⟨PyData.keyHash P (.ofString "unicode_iscased"), .str (.ofString "unicode_iscased") 257, .builtin "off-the-table:_sre.unicode_iscased:shared#op\x61que"⟩, ⟨PyData.keyHash P (.ofString "ascii_tolower"), .str (.ofString "ascii_tolower") 258, .builtin "off-the-table:_sre.ascii_tolower:shared#op\x61que"⟩, ⟨PyData.keyHash P (.ofString "unicode_tolower"), .str (.ofString "unicode_tolower") 259, .builtin "off-the-table:_sre.unicode_tolower:shared#op\x61que"⟩, ⟨PyData.keyHash P (.ofString "MAGIC"), .str (.ofString "MAGIC") 261, .int 20230612 260⟩, ⟨PyData.keyHash P (.ofString "CODESIZE"), .str (.ofString "CODESIZE") 263, .int 4 262⟩, ⟨PyData.keyHash P (.ofString "MAXREPEAT"), .str (.ofString "MAXREPEAT") 265, .int 4294967295 264⟩, ⟨PyData.keyHash P (.ofString "MAXGROUPS"), .str (.ofString "MAXGROUPS") 267, .int 1073741823 266⟩, ⟨PyData.keyHash P (.ofString "copyright"), .str (.ofString "copyright") 269, .str ⟨#[32, 83, 82, 69, 32, 50, 46, 50, 46, 50, 32, 67, 111, 112, 121, 114, 105, 103, 104, 116, 32, 40, 99, 41, 32, 49, 57, 57, 55, 45, 50, 48, 48, 50, 32, 98, 121, 32, 83, 101, 99, 114, 101, 116, 32, 76, 97, 98, 115, 32, 65, 66, 32]⟩ 268⟩] 17, #[]⟩
noncomputable def o29Z (P : Params) : Obj := ⟨.type "dict", none, .dict #[⟨PyData.keyHash P (.ofString "__name__"), .str (.ofString "__name__") 296, .str (.ofString "_collections") 295⟩, ⟨PyData.keyHash P (.ofString "__doc__"), .str (.ofString "__doc__") 297, .builtin "off-the-table:_collections.__doc__:shared#op\x61que"⟩, ⟨PyData.keyHash P (.ofString "__package__"), .str (.ofString "__package__") 299, .str (.ofString "") 298⟩, ⟨PyData.keyHash P (.ofString "__loader__"), .str (.ofString "__loader__") 300, .builtin "off-the-table:_collections.__loader__:shared#op\x61que"⟩, ⟨PyData.keyHash P (.ofString "__spec__"), .str (.ofString "__spec__") 301, .builtin "off-the-table:_collections.__spec__:shared#op\x61que"⟩, ⟨PyData.keyHash P (.ofString "_count_elements"), .str (.ofString "_count_elements") 302, .builtin "_collections._count_elements"⟩, ⟨PyData.keyHash P (.ofString "deque"), .str (.ofString "deque") 303, .type "collections.deque"⟩, ⟨PyData.keyHash P (.ofString "defaultdict"), .str (.ofString "defaultdict") 304, .type "collections.defaultdict"⟩, ⟨PyData.keyHash P (.ofString "_deque_iterator"), .str (.ofString "_deque_iterator") 305, .builtin "off-the-table:_collections._deque_iterator:shared#op\x61que"⟩, ⟨PyData.keyHash P (.ofString "_deque_reverse_iterator"), .str (.ofString "_deque_reverse_iterator") 306, .builtin "off-the-table:_collections._deque_reverse_iterator:shared#op\x61que"⟩, ⟨PyData.keyHash P (.ofString "_tuplegetter"), .str (.ofString "_tuplegetter") 307, .type "collections._tuplegetter"⟩, ⟨PyData.keyHash P (.ofString "OrderedDict"), .str (.ofString "OrderedDict") 308, .type "collections.OrderedDict"⟩] 12, #[]⟩
noncomputable def o36A (P : Params) : Obj := ⟨.type "code", none, .fields #[.str (.ofString "<module>") 319, .str (.ofString "<module>") 320, .str (.ofString "/claim/cut.py") 321, .int 1 0, .int 0 0, .int 0 0, .int 0 0, .int 0 0, .ref 34, .bool false, .int 318 0, .ref 35, .none, .none, .none, .none, .int 322 0, .int 1 0, .str (.ofString "/claim/cut.py") 323], #[]⟩
noncomputable def o37A (P : Params) : Obj := ⟨.type "frame", none, .plain, #[some (.ref 36), some (.ref 3), some (.ref 3), none, some (.str (.ofString "__main__") 164), none, some (.ref 0)]⟩
noncomputable def o2S1 (P : Params) : Obj := ⟨.none, none, .dict #[⟨PyData.keyHash P (.ofString "imp\x6frt.loaded._sre"), .str (.ofString "imp\x6frt.loaded._sre") 183, .bool true⟩, ⟨PyData.keyHash P (.ofString "class._frozen_imp\x6frtlib.BuiltinImporter"), .str (.ofString "class._frozen_imp\x6frtlib.BuiltinImporter") 185, .ref 14⟩, ⟨PyData.keyHash P (.ofString "watched.imp\x6frt"), .str (.ofString "watched.imp\x6frt") 206, .ref 18⟩, ⟨PyData.keyHash P (.ofString "class._frozen_imp\x6frtlib.ModuleSpec"), .str (.ofString "class._frozen_imp\x6frtlib.ModuleSpec") 216, .ref 22⟩, ⟨PyData.keyHash P (.ofString "sys.modules.booked-epoch"), .str (.ofString "sys.modules.booked-epoch") 245, .int 4 0⟩, ⟨PyData.keyHash P (.ofString "imp\x6frt.later-laid._sre"), .str (.ofString "imp\x6frt.later-laid._sre") 270, .bool true⟩, ⟨PyData.keyHash P (.ofString "watched.library"), .str (.ofString "watched.library") 272, .ref 27⟩, ⟨PyData.keyHash P (.ofString "watched.library-objects"), .str (.ofString "watched.library-objects") 0, .str (.ofString "\x0c\x1e") 0⟩, ⟨PyData.keyHash P (.ofString "watched.library-deep._sre"), .str (.ofString "watched.library-deep._sre") 273, .str (.ofString "\x04\x00\x00\x0b\x04\x00\x00\x0b\x04\x00\x00\x03\x04\x00\x00\x0b\x08\x04dict\x02") 0⟩, ⟨PyData.keyHash P (.ofString "imp\x6frt.loaded._collections"), .str (.ofString "imp\x6frt.loaded._collections") 280, .bool true⟩, ⟨PyData.keyHash P (.ofString "sys.modules.landed._collections"), .str (.ofString "sys.modules.landed._collections") 294, .bool true⟩, ⟨PyData.keyHash P (.ofString "imp\x6frt.later-laid._collections"), .str (.ofString "imp\x6frt.later-laid._collections") 309, .bool true⟩, ⟨PyData.keyHash P (.ofString "watched.library-deep._collections"), .str (.ofString "watched.library-deep._collections") 311, .str (.ofString "\x04\x00\x00\x1d\x04\x00\x00\x1d\x04\x00\x00\x03\x04\x00\x00\x1d\x08\x04dict\x02") 0⟩, ⟨PyData.keyHash P (.ofString "type.__subclasses__.OSError.0"), .str (.ofString "type.__subclasses__.OSError.0") 443, .int 100 0⟩, ⟨PyData.keyHash P (.ofString "type.__subclasses__.OSError.n"), .str (.ofString "type.__subclasses__.OSError.n") 444, .int 1 0⟩] 15, #[]⟩
noncomputable def o3S1 (P : Params) : Obj := ⟨.type "dict", none, .dict #[⟨PyData.keyHash P (.ofString "__name__"), .str (.ofString "__name__") 165, .str (.ofString "io") 407⟩, ⟨PyData.keyHash P (.ofString "__doc__"), .str (.ofString "__doc__") 166, .none⟩, ⟨PyData.keyHash P (.ofString "__package__"), .str (.ofString "__package__") 167, .none⟩, ⟨PyData.keyHash P (.ofString "__loader__"), .str (.ofString "__loader__") 168, .builtin "__main__.__loader__#op\x61que"⟩, ⟨PyData.keyHash P (.ofString "__spec__"), .str (.ofString "__spec__") 169, .none⟩, ⟨PyData.keyHash P (.ofString "__annotations__"), .str (.ofString "__annotations__") 170, .ref 6⟩, ⟨PyData.keyHash P (.ofString "__builtins__"), .str (.ofString "__builtins__") 171, .ref 4⟩, ⟨PyData.keyHash P (.ofString "__file__"), .str (.ofString "__file__") 173, .str (.ofString "/claim/cut.py") 172⟩, ⟨PyData.keyHash P (.ofString "__cached__"), .str (.ofString "__cached__") 174, .none⟩, ⟨PyData.keyHash P (.ofString "_sre"), .str (.ofString "_sre") 275, .ref 12⟩, ⟨PyData.keyHash P (.ofString "deque"), .str (.ofString "deque") 317, .type "collections.deque"⟩, ⟨PyData.keyHash P (.ofString "_wall"), .str (.ofString "_wall") 330, .ref 44⟩, ⟨PyData.keyHash P (.ofString "StatisticsError"), .str (.ofString "StatisticsError") 350, .ref 54⟩, ⟨PyData.keyHash P (.ofString "median_low"), .str (.ofString "median_low") 358, .ref 64⟩, ⟨PyData.keyHash P (.ofString "median_high"), .str (.ofString "median_high") 366, .ref 71⟩, ⟨PyData.keyHash P (.ofString "_twin_re_1"), .str (.ofString "_twin_re_1") 406, .ref 76⟩, ⟨PyData.keyHash P (.ofString "_whence"), .str (.ofString "_whence") 416, .ref 83⟩, ⟨PyData.keyHash P (.ofString "_index"), .str (.ofString "_index") 424, .ref 90⟩, ⟨PyData.keyHash P (.ofString "UnsupportedOperation"), .str (.ofString "UnsupportedOperation") 446, .ref 100⟩, ⟨PyData.keyHash P (.ofString "IOBase"), .str (.ofString "IOBase") 478, .ref 120⟩, ⟨PyData.keyHash P (.ofString "BufferedIOBase"), .str (.ofString "BufferedIOBase") 496, .ref 135⟩, ⟨PyData.keyHash P (.ofString "TextIOBase"), .str (.ofString "TextIOBase") 514, .ref 147⟩] 22, #[]⟩
noncomputable def o35S1 (P : Params) : Obj := ⟨.none, none, .fields #[.int 3 0, .int 0 0, .ref 43, .int 7 0, .int 0 0, .ref 50, .int 9 0, .int 0 0, .ref 63, .int 18 0, .int 0 0, .ref 70, .int 26 0, .int 0 0, .ref 82, .int 31 0, .int 0 0, .ref 89, .int 38 0, .int 0 0, .ref 96, .int 40 0, .int 0 0, .ref 109, .int 47 0, .int 0 0, .ref 131, .int 49 0, .int 0 0, .ref 143], #[]⟩
noncomputable def o40S1 (P : Params) : Obj := ⟨.type "tuple", none, .seq #[.str (.ofString "k") 327] 0, #[]⟩
noncomputable def o42S1 (P : Params) : Obj := fnT (st 2) (.ofString "_wall") (.ofString "_wall")
noncomputable def o43S1 (P : Params) : Obj := ⟨.type "code", none, .fields #[.str (.ofString "_wall") 324, .str (.ofString "_wall") 325, .str (.ofString "/claim/cut.py") 326, .int 3 0, .int 1 0, .int 0 0, .int 0 0, .int 3 0, .ref 38, .bool true, .int 318 0, .ref 39, .none, .ref 40, .ref 41, .ref 42, .int 328 0, .int 3 0, .str (.ofString "/claim/cut.py") 329], #[]⟩
noncomputable def o44S1 (P : Params) : Obj := fnO (.type "function") (st 2) (.ofString "_wall") (.ofString "_wall") .none .none .none (.str (.ofString "__main__") 164) none (.ref 43) .none
noncomputable def o45S1 (P : Params) : Obj := ⟨.type "tuple", none, .seq #[.type "ValueError"] 0, #[]⟩
noncomputable def o46S1 (P : Params) : Obj := ⟨.type "builtin_function_or_method", none, .fields #[.builtin "type.__prepare__", .type "type"], #[]⟩
noncomputable def o47S1 (P : Params) : Obj := ⟨.type "dict", none, .dict #[⟨PyData.keyHash P (.ofString "__module__"), .str (.ofString "__module__") 340, .str (.ofString "cpy313.statistics") 331⟩, ⟨PyData.keyHash P (.ofString "__qualname__"), .str (.ofString "__qualname__") 342, .str (.ofString "StatisticsError") 341⟩, ⟨PyData.keyHash P (.ofString "__firstlineno__"), .str (.ofString "__firstlineno__") 344, .int 7 343⟩, ⟨PyData.keyHash P (.ofString "__static_attributes__"), .str (.ofString "__static_attributes__") 345, .ref 52⟩] 4, #[]⟩
noncomputable def o50S1 (P : Params) : Obj := ⟨.type "code", none, .fields #[.str (.ofString "StatisticsError") 335, .str (.ofString "StatisticsError") 336, .str (.ofString "/claim/cut.py") 337, .int 7 0, .int 0 0, .int 0 0, .int 0 0, .int 0 0, .ref 48, .bool false, .int 318 0, .ref 49, .none, .none, .none, .none, .int 338 0, .int 7 0, .str (.ofString "/claim/cut.py") 339], #[]⟩
noncomputable def o51S1 (P : Params) : Obj := ⟨.type "frame", none, .plain, #[some (.ref 50), some (.ref 3), some (.ref 47), none, some (.str (.ofString "cpy313.statistics") 331), none, some (.ref 0)]⟩
noncomputable def o53S1 (P : Params) : Obj := ⟨.type "dict", none, .dict #[⟨PyData.keyHash P (.ofString "__module__"), .str (.ofString "__module__") 340, .str (.ofString "cpy313.statistics") 331⟩, ⟨PyData.keyHash P (.ofString "__firstlineno__"), .str (.ofString "__firstlineno__") 344, .int 7 343⟩, ⟨PyData.keyHash P (.ofString "__static_attributes__"), .str (.ofString "__static_attributes__") 345, .ref 52⟩, ⟨PyData.keyHash P (.ofString "__weakref__"), .str (.ofString "__weakref__") 347, .ref 55⟩, ⟨PyData.keyHash P (.ofString "__doc__"), .str (.ofString "__doc__") 348, .none⟩] 3, #[]⟩
noncomputable def o54S1 (P : Params) : Obj := ⟨.type "type", none, .cls ⟨(.ofString "StatisticsError"), [.type "ValueError"], [.ref 54, .type "ValueError", .type "Exception", .type "BaseException", .type "object"], 53, (.ofString "StatisticsError"), true, [], [], false, none, false⟩, #[some (.ref 45), none, some (.str (.ofString "StatisticsError") 333), some (.str (.ofString "StatisticsError") 341), some (.builtin "ValueError.__new__"), some (.bool true)]⟩
noncomputable def o55S1 (P : Params) : Obj := ⟨.type "getset_descriptor", none, .fields #[.str (.ofString "__weakref__") 346, .ref 54, .builtin "ExceptionGroup.__weakref__", .none], #[]⟩
noncomputable def o56S1 (P : Params) : Obj := ⟨.type "super", none, .fields #[.ref 54, .ref 54, .ref 54], #[]⟩
noncomputable def o57S1 (P : Params) : Obj := ⟨.type "builtin_function_or_method", none, .fields #[.builtin "object.__init_subclass__", .ref 54], #[]⟩
noncomputable def o60S1 (P : Params) : Obj := ⟨.type "tuple", none, .seq #[.str (.ofString "data") 354, .str (.ofString "n") 355] 0, #[]⟩
noncomputable def o62S1 (P : Params) : Obj := fnT (st 5) (.ofString "median_low") (.ofString "median_low")
noncomputable def o63S1 (P : Params) : Obj := ⟨.type "code", none, .fields #[.str (.ofString "median_low") 351, .str (.ofString "median_low") 352, .str (.ofString "/claim/cut.py") 353, .int 9 0, .int 1 0, .int 0 0, .int 0 0, .int 3 0, .ref 58, .bool true, .int 318 0, .ref 59, .none, .ref 60, .ref 61, .ref 62, .int 356 0, .int 9 0, .str (.ofString "/claim/cut.py") 357], #[]⟩
noncomputable def o64S1 (P : Params) : Obj := fnO (.type "function") (st 5) (.ofString "median_low") (.ofString "median_low") .none .none .none (.str (.ofString "cpy313.statistics") 331) none (.ref 63) .none
noncomputable def o67S1 (P : Params) : Obj := ⟨.type "tuple", none, .seq #[.str (.ofString "data") 362, .str (.ofString "n") 363] 0, #[]⟩
noncomputable def o69S1 (P : Params) : Obj := fnT (st 6) (.ofString "median_high") (.ofString "median_high")
noncomputable def o70S1 (P : Params) : Obj := ⟨.type "code", none, .fields #[.str (.ofString "median_high") 359, .str (.ofString "median_high") 360, .str (.ofString "/claim/cut.py") 361, .int 18 0, .int 1 0, .int 0 0, .int 0 0, .int 3 0, .ref 65, .bool true, .int 318 0, .ref 66, .none, .ref 67, .ref 68, .ref 69, .int 364 0, .int 18 0, .str (.ofString "/claim/cut.py") 365], #[]⟩
noncomputable def o71S1 (P : Params) : Obj := fnO (.type "function") (st 6) (.ofString "median_high") (.ofString "median_high") .none .none .none (.str (.ofString "cpy313.statistics") 331) none (.ref 70) .none
noncomputable def o72S1 (P : Params) : Obj := ⟨.type "list", none, .seq #[.int 14 370, .int 17 371, .int 4 372, .int 1 373, .int 1 374, .int 21 375, .int 9 376, .int 0 377, .int 604043296 378, .int 1 379, .int 0 380, .int 0 381, .int 0 382, .int 0 383, .int 0 384, .int 8 385, .int 4 386, .int 0 387, .int 13 388, .int 14 389, .int 21 390, .int 9 391, .int 0 392, .int 604043296 393, .int 1 394, .int 0 395, .int 0 396, .int 0 397, .int 0 398, .int 0 399, .int 8 400, .int 4 401, .int 0 402, .int 1 403] 0, #[]⟩
noncomputable def o74S1 (P : Params) : Obj := ⟨.type "tuple", none, .seq #[.none] 0, #[]⟩
noncomputable def o75S1 (P : Params) : Obj := ⟨.type "tuple", none, .seq #[.int 14 0, .int 17 0, .int 4 0, .int 1 0, .int 1 0, .int 21 0, .int 9 0, .int 0 0, .int 604043296 0, .int 1 0, .int 0 0, .int 0 0, .int 0 0, .int 0 0, .int 0 0, .int 8 0, .int 4 0, .int 0 0, .int 13 0, .int 14 0, .int 21 0, .int 9 0, .int 0 0, .int 604043296 0, .int 1 0, .int 0 0, .int 0 0, .int 0 0, .int 0 0, .int 0 0, .int 8 0, .int 4 0, .int 0 0, .int 1 0] 0, #[]⟩
noncomputable def o76S1 (P : Params) : Obj := ⟨.type "re.Pattern", none, .fields #[.str (.ofString "[^\\w@%+=:,./-]") 368, .int 256 405, .int 0 0, .none, .none, .ref 75, .int 0 0], #[]⟩
noncomputable def o79S1 (P : Params) : Obj := ⟨.type "tuple", none, .seq #[.str (.ofString "n") 412, .str (.ofString "what") 413] 0, #[]⟩
noncomputable def o81S1 (P : Params) : Obj := fnT (st 9) (.ofString "_whence") (.ofString "_whence")
noncomputable def o82S1 (P : Params) : Obj := ⟨.type "code", none, .fields #[.str (.ofString "_whence") 409, .str (.ofString "_whence") 410, .str (.ofString "/claim/cut.py") 411, .int 26 0, .int 2 0, .int 0 0, .int 0 0, .int 3 0, .ref 77, .bool true, .int 318 0, .ref 78, .none, .ref 79, .ref 80, .ref 81, .int 414 0, .int 26 0, .str (.ofString "/claim/cut.py") 415], #[]⟩
noncomputable def o83S1 (P : Params) : Obj := fnO (.type "function") (st 9) (.ofString "_whence") (.ofString "_whence") .none .none .none (.str (.ofString "io") 407) none (.ref 82) .none
noncomputable def o86S1 (P : Params) : Obj := ⟨.type "tuple", none, .seq #[.str (.ofString "n") 420, .str (.ofString "what") 421] 0, #[]⟩
noncomputable def o88S1 (P : Params) : Obj := fnT (st 10) (.ofString "_index") (.ofString "_index")
noncomputable def o89S1 (P : Params) : Obj := ⟨.type "code", none, .fields #[.str (.ofString "_index") 417, .str (.ofString "_index") 418, .str (.ofString "/claim/cut.py") 419, .int 31 0, .int 2 0, .int 0 0, .int 0 0, .int 3 0, .ref 84, .bool true, .int 318 0, .ref 85, .none, .ref 86, .ref 87, .ref 88, .int 422 0, .int 31 0, .str (.ofString "/claim/cut.py") 423], #[]⟩
noncomputable def o90S1 (P : Params) : Obj := fnO (.type "function") (st 10) (.ofString "_index") (.ofString "_index") .none .none .none (.str (.ofString "io") 407) none (.ref 89) .none
noncomputable def o91S1 (P : Params) : Obj := ⟨.type "tuple", none, .seq #[.type "OSError", .type "ValueError"] 0, #[]⟩
noncomputable def o93S1 (P : Params) : Obj := ⟨.type "dict", none, .dict #[⟨PyData.keyHash P (.ofString "__module__"), .str (.ofString "__module__") 432, .str (.ofString "io") 437⟩, ⟨PyData.keyHash P (.ofString "__qualname__"), .str (.ofString "__qualname__") 434, .str (.ofString "UnsupportedOperation") 433⟩, ⟨PyData.keyHash P (.ofString "__firstlineno__"), .str (.ofString "__firstlineno__") 436, .int 38 435⟩, ⟨PyData.keyHash P (.ofString "__static_attributes__"), .str (.ofString "__static_attributes__") 439, .ref 98⟩] 4, #[]⟩
noncomputable def o96S1 (P : Params) : Obj := ⟨.type "code", none, .fields #[.str (.ofString "UnsupportedOperation") 427, .str (.ofString "UnsupportedOperation") 428, .str (.ofString "/claim/cut.py") 429, .int 38 0, .int 0 0, .int 0 0, .int 0 0, .int 0 0, .ref 94, .bool false, .int 318 0, .ref 95, .none, .none, .none, .none, .int 430 0, .int 38 0, .str (.ofString "/claim/cut.py") 431], #[]⟩
noncomputable def o97S1 (P : Params) : Obj := ⟨.type "frame", none, .plain, #[some (.ref 96), some (.ref 3), some (.ref 93), none, some (.str (.ofString "io") 407), none, some (.ref 0)]⟩
noncomputable def o99S1 (P : Params) : Obj := ⟨.type "dict", none, .dict #[⟨PyData.keyHash P (.ofString "__module__"), .str (.ofString "__module__") 432, .str (.ofString "io") 437⟩, ⟨PyData.keyHash P (.ofString "__firstlineno__"), .str (.ofString "__firstlineno__") 436, .int 38 435⟩, ⟨PyData.keyHash P (.ofString "__static_attributes__"), .str (.ofString "__static_attributes__") 439, .ref 98⟩, ⟨PyData.keyHash P (.ofString "__weakref__"), .str (.ofString "__weakref__") 441, .ref 101⟩, ⟨PyData.keyHash P (.ofString "__doc__"), .str (.ofString "__doc__") 442, .none⟩] 3, #[]⟩
noncomputable def o100S1 (P : Params) : Obj := ⟨.type "type", none, .cls ⟨(.ofString "UnsupportedOperation"), [.type "OSError", .type "ValueError"], [.ref 100, .type "OSError", .type "ValueError", .type "Exception", .type "BaseException", .type "object"], 99, (.ofString "UnsupportedOperation"), true, [], [], false, none, false⟩, #[some (.ref 91), none, some (.str (.ofString "UnsupportedOperation") 425), some (.str (.ofString "UnsupportedOperation") 433), some (.builtin "OSError.__new__"), some (.bool true)]⟩
noncomputable def o101S1 (P : Params) : Obj := ⟨.type "getset_descriptor", none, .fields #[.str (.ofString "__weakref__") 440, .ref 100, .builtin "ExceptionGroup.__weakref__", .none], #[]⟩
noncomputable def o102S1 (P : Params) : Obj := ⟨.type "super", none, .fields #[.ref 100, .ref 100, .ref 100], #[]⟩
noncomputable def o103S1 (P : Params) : Obj := ⟨.type "builtin_function_or_method", none, .fields #[.builtin "object.__init_subclass__", .ref 100], #[]⟩
noncomputable def o106S1 (P : Params) : Obj := ⟨.type "dict", none, .dict #[⟨PyData.keyHash P (.ofString "__module__"), .str (.ofString "__module__") 454, .str (.ofString "io") 459⟩, ⟨PyData.keyHash P (.ofString "__qualname__"), .str (.ofString "__qualname__") 456, .str (.ofString "IOBase") 455⟩, ⟨PyData.keyHash P (.ofString "__firstlineno__"), .str (.ofString "__firstlineno__") 458, .int 40 457⟩, ⟨PyData.keyHash P (.ofString "__new__"), .str (.ofString "__new__") 469, .ref 117⟩, ⟨PyData.keyHash P (.ofString "__static_attributes__"), .str (.ofString "__static_attributes__") 470, .ref 118⟩] 5, #[]⟩
noncomputable def o108S1 (P : Params) : Obj := ⟨.none, none, .fields #[.int 43 0, .int 4 0, .ref 116], #[]⟩
noncomputable def o109S1 (P : Params) : Obj := ⟨.type "code", none, .fields #[.str (.ofString "IOBase") 449, .str (.ofString "IOBase") 450, .str (.ofString "/claim/cut.py") 451, .int 40 0, .int 0 0, .int 0 0, .int 0 0, .int 0 0, .ref 107, .bool false, .int 318 0, .ref 108, .none, .none, .none, .none, .int 452 0, .int 40 0, .str (.ofString "/claim/cut.py") 453], #[]⟩
noncomputable def o110S1 (P : Params) : Obj := ⟨.type "frame", none, .plain, #[some (.ref 109), some (.ref 3), some (.ref 106), none, some (.str (.ofString "io") 407), none, some (.ref 0)]⟩
noncomputable def o113S1 (P : Params) : Obj := ⟨.type "tuple", none, .seq #[.str (.ofString "cls") 464, .str (.ofString "args") 465, .str (.ofString "kwargs") 466] 0, #[]⟩
noncomputable def o115S1 (P : Params) : Obj := fnT (sm 12 1) (.ofString "__new__") (.ofString "IOBase.__new__")
noncomputable def o116S1 (P : Params) : Obj := ⟨.type "code", none, .fields #[.str (.ofString "__new__") 461, .str (.ofString "IOBase.__new__") 462, .str (.ofString "/claim/cut.py") 463, .int 43 0, .int 1 0, .int 1 0, .int 0 0, .int 15 0, .ref 111, .bool true, .int 318 0, .ref 112, .none, .ref 113, .ref 114, .ref 115, .int 467 0, .int 43 0, .str (.ofString "/claim/cut.py") 468], #[]⟩
noncomputable def o117S1 (P : Params) : Obj := fnO (.type "function") (sm 12 1) (.ofString "__new__") (.ofString "IOBase.__new__") .none .none .none (.str (.ofString "io") 407) none (.ref 116) .none
noncomputable def o119S1 (P : Params) : Obj := ⟨.type "dict", none, .dict #[⟨PyData.keyHash P (.ofString "__module__"), .str (.ofString "__module__") 454, .str (.ofString "io") 459⟩, ⟨PyData.keyHash P (.ofString "__firstlineno__"), .str (.ofString "__firstlineno__") 458, .int 40 457⟩, ⟨PyData.keyHash P (.ofString "__new__"), .str (.ofString "__new__") 469, .ref 121⟩, ⟨PyData.keyHash P (.ofString "__static_attributes__"), .str (.ofString "__static_attributes__") 470, .ref 118⟩, ⟨PyData.keyHash P (.ofString "__dict__"), .str (.ofString "__dict__") 473, .ref 122⟩, ⟨PyData.keyHash P (.ofString "__weakref__"), .str (.ofString "__weakref__") 475, .ref 123⟩, ⟨PyData.keyHash P (.ofString "__doc__"), .str (.ofString "__doc__") 476, .none⟩] 4, #[]⟩
noncomputable def o120S1 (P : Params) : Obj := ⟨.type "type", none, .cls ⟨(.ofString "IOBase"), [.type "object"], [.ref 120, .type "object"], 119, (.ofString "IOBase"), true, [], [.ref 135, .ref 147], false, none, false⟩, #[none, none, some (.str (.ofString "IOBase") 447), some (.str (.ofString "IOBase") 455), some .none, some (.bool true)]⟩
noncomputable def o121S1 (P : Params) : Obj := ⟨.type "staticmethod", none, .fields #[.ref 117], #[]⟩
noncomputable def o122S1 (P : Params) : Obj := ⟨.type "getset_descriptor", none, .fields #[.str (.ofString "__dict__") 472, .ref 120, .builtin "function.__dict__", .builtin "function.__dict__#set"], #[]⟩
noncomputable def o123S1 (P : Params) : Obj := ⟨.type "getset_descriptor", none, .fields #[.str (.ofString "__weakref__") 474, .ref 120, .builtin "ExceptionGroup.__weakref__", .none], #[]⟩
noncomputable def o124S1 (P : Params) : Obj := ⟨.type "super", none, .fields #[.ref 120, .ref 120, .ref 120], #[]⟩
noncomputable def o125S1 (P : Params) : Obj := ⟨.type "builtin_function_or_method", none, .fields #[.builtin "object.__init_subclass__", .ref 120], #[]⟩
noncomputable def o126S1 (P : Params) : Obj := ⟨.type "tuple", none, .seq #[.ref 120] 0, #[]⟩
noncomputable def o128S1 (P : Params) : Obj := ⟨.type "dict", none, .dict #[⟨PyData.keyHash P (.ofString "__module__"), .str (.ofString "__module__") 486, .str (.ofString "io") 491⟩, ⟨PyData.keyHash P (.ofString "__qualname__"), .str (.ofString "__qualname__") 488, .str (.ofString "BufferedIOBase") 487⟩, ⟨PyData.keyHash P (.ofString "__firstlineno__"), .str (.ofString "__firstlineno__") 490, .int 47 489⟩, ⟨PyData.keyHash P (.ofString "__static_attributes__"), .str (.ofString "__static_attributes__") 493, .ref 133⟩] 4, #[]⟩
noncomputable def o131S1 (P : Params) : Obj := ⟨.type "code", none, .fields #[.str (.ofString "BufferedIOBase") 481, .str (.ofString "BufferedIOBase") 482, .str (.ofString "/claim/cut.py") 483, .int 47 0, .int 0 0, .int 0 0, .int 0 0, .int 0 0, .ref 129, .bool false, .int 318 0, .ref 130, .none, .none, .none, .none, .int 484 0, .int 47 0, .str (.ofString "/claim/cut.py") 485], #[]⟩
noncomputable def o132S1 (P : Params) : Obj := ⟨.type "frame", none, .plain, #[some (.ref 131), some (.ref 3), some (.ref 128), none, some (.str (.ofString "io") 407), none, some (.ref 0)]⟩
noncomputable def o134S1 (P : Params) : Obj := ⟨.type "dict", none, .dict #[⟨PyData.keyHash P (.ofString "__module__"), .str (.ofString "__module__") 486, .str (.ofString "io") 491⟩, ⟨PyData.keyHash P (.ofString "__firstlineno__"), .str (.ofString "__firstlineno__") 490, .int 47 489⟩, ⟨PyData.keyHash P (.ofString "__static_attributes__"), .str (.ofString "__static_attributes__") 493, .ref 133⟩, ⟨PyData.keyHash P (.ofString "__doc__"), .str (.ofString "__doc__") 494, .none⟩] 2, #[]⟩
noncomputable def o135S1 (P : Params) : Obj := ⟨.type "type", none, .cls ⟨(.ofString "BufferedIOBase"), [.ref 120], [.ref 135, .ref 120, .type "object"], 134, (.ofString "BufferedIOBase"), true, [], [], false, none, false⟩, #[some (.ref 126), none, some (.str (.ofString "BufferedIOBase") 479), some (.str (.ofString "BufferedIOBase") 487), some .none, some (.bool true)]⟩
noncomputable def o136S1 (P : Params) : Obj := ⟨.type "super", none, .fields #[.ref 135, .ref 135, .ref 135], #[]⟩
noncomputable def o137S1 (P : Params) : Obj := ⟨.type "builtin_function_or_method", none, .fields #[.builtin "object.__init_subclass__", .ref 135], #[]⟩
noncomputable def o140S1 (P : Params) : Obj := ⟨.type "dict", none, .dict #[⟨PyData.keyHash P (.ofString "__module__"), .str (.ofString "__module__") 504, .str (.ofString "io") 509⟩, ⟨PyData.keyHash P (.ofString "__qualname__"), .str (.ofString "__qualname__") 506, .str (.ofString "TextIOBase") 505⟩, ⟨PyData.keyHash P (.ofString "__firstlineno__"), .str (.ofString "__firstlineno__") 508, .int 49 507⟩, ⟨PyData.keyHash P (.ofString "__static_attributes__"), .str (.ofString "__static_attributes__") 511, .ref 145⟩] 4, #[]⟩
noncomputable def o143S1 (P : Params) : Obj := ⟨.type "code", none, .fields #[.str (.ofString "TextIOBase") 499, .str (.ofString "TextIOBase") 500, .str (.ofString "/claim/cut.py") 501, .int 49 0, .int 0 0, .int 0 0, .int 0 0, .int 0 0, .ref 141, .bool false, .int 318 0, .ref 142, .none, .none, .none, .none, .int 502 0, .int 49 0, .str (.ofString "/claim/cut.py") 503], #[]⟩
noncomputable def o144S1 (P : Params) : Obj := ⟨.type "frame", none, .plain, #[some (.ref 143), some (.ref 3), some (.ref 140), none, some (.str (.ofString "io") 407), none, some (.ref 0)]⟩
noncomputable def o146S1 (P : Params) : Obj := ⟨.type "dict", none, .dict #[⟨PyData.keyHash P (.ofString "__module__"), .str (.ofString "__module__") 504, .str (.ofString "io") 509⟩, ⟨PyData.keyHash P (.ofString "__firstlineno__"), .str (.ofString "__firstlineno__") 508, .int 49 507⟩, ⟨PyData.keyHash P (.ofString "__static_attributes__"), .str (.ofString "__static_attributes__") 511, .ref 145⟩, ⟨PyData.keyHash P (.ofString "__doc__"), .str (.ofString "__doc__") 512, .none⟩] 2, #[]⟩
noncomputable def o147S1 (P : Params) : Obj := ⟨.type "type", none, .cls ⟨(.ofString "TextIOBase"), [.ref 120], [.ref 147, .ref 120, .type "object"], 146, (.ofString "TextIOBase"), true, [], [], false, none, false⟩, #[some (.ref 138), none, some (.str (.ofString "TextIOBase") 497), some (.str (.ofString "TextIOBase") 505), some .none, some (.bool true)]⟩
noncomputable def o148S1 (P : Params) : Obj := ⟨.type "super", none, .fields #[.ref 147, .ref 147, .ref 147], #[]⟩
noncomputable def o149S1 (P : Params) : Obj := ⟨.type "builtin_function_or_method", none, .fields #[.builtin "object.__init_subclass__", .ref 147], #[]⟩
noncomputable def o3S2 (P : Params) : Obj := ⟨.type "dict", none, .dict #[⟨PyData.keyHash P (.ofString "__name__"), .str (.ofString "__name__") 165, .str (.ofString "io") 407⟩, ⟨PyData.keyHash P (.ofString "__doc__"), .str (.ofString "__doc__") 166, .none⟩, ⟨PyData.keyHash P (.ofString "__package__"), .str (.ofString "__package__") 167, .none⟩, ⟨PyData.keyHash P (.ofString "__loader__"), .str (.ofString "__loader__") 168, .builtin "__main__.__loader__#op\x61que"⟩, ⟨PyData.keyHash P (.ofString "__spec__"), .str (.ofString "__spec__") 169, .none⟩, ⟨PyData.keyHash P (.ofString "__annotations__"), .str (.ofString "__annotations__") 170, .ref 6⟩, ⟨PyData.keyHash P (.ofString "__builtins__"), .str (.ofString "__builtins__") 171, .ref 4⟩, ⟨PyData.keyHash P (.ofString "__file__"), .str (.ofString "__file__") 173, .str (.ofString "/claim/cut.py") 172⟩, ⟨PyData.keyHash P (.ofString "__cached__"), .str (.ofString "__cached__") 174, .none⟩, ⟨PyData.keyHash P (.ofString "_sre"), .str (.ofString "_sre") 275, .ref 12⟩, ⟨PyData.keyHash P (.ofString "deque"), .str (.ofString "deque") 317, .type "collections.deque"⟩, ⟨PyData.keyHash P (.ofString "_wall"), .str (.ofString "_wall") 330, .ref 44⟩, ⟨PyData.keyHash P (.ofString "StatisticsError"), .str (.ofString "StatisticsError") 350, .ref 54⟩, ⟨PyData.keyHash P (.ofString "median_low"), .str (.ofString "median_low") 358, .ref 64⟩, ⟨PyData.keyHash P (.ofString "median_high"), .str (.ofString "median_high") 366, .ref 71⟩, ⟨PyData.keyHash P (.ofString "_twin_re_1"), .str (.ofString "_twin_re_1") 406, .ref 76⟩, ⟨PyData.keyHash P (.ofString "_whence"), .str (.ofString "_whence") 416, .ref 83⟩, ⟨PyData.keyHash P (.ofString "_index"), .str (.ofString "_index") 424, .ref 90⟩, ⟨PyData.keyHash P (.ofString "UnsupportedOperation"), .str (.ofString "UnsupportedOperation") 446, .ref 100⟩, ⟨PyData.keyHash P (.ofString "IOBase"), .str (.ofString "IOBase") 478, .ref 120⟩, ⟨PyData.keyHash P (.ofString "BufferedIOBase"), .str (.ofString "BufferedIOBase") 496, .ref 135⟩, ⟨PyData.keyHash P (.ofString "TextIOBase"), .str (.ofString "TextIOBase") 514, .ref 147⟩, ⟨PyData.keyHash P (.ofString "BytesIO"), .str (.ofString "BytesIO") 776, .ref 377⟩] 23, #[]⟩
noncomputable def o35S2 (P : Params) : Obj := ⟨.none, none, .fields #[.int 3 0, .int 0 0, .ref 43, .int 7 0, .int 0 0, .ref 50, .int 9 0, .int 0 0, .ref 63, .int 18 0, .int 0 0, .ref 70, .int 26 0, .int 0 0, .ref 82, .int 31 0, .int 0 0, .ref 89, .int 38 0, .int 0 0, .ref 96, .int 40 0, .int 0 0, .ref 109, .int 47 0, .int 0 0, .ref 131, .int 49 0, .int 0 0, .ref 143, .int 51 0, .int 0 0, .ref 155], #[]⟩
noncomputable def o135S2 (P : Params) : Obj := ⟨.type "type", none, .cls ⟨(.ofString "BufferedIOBase"), [.ref 120], [.ref 135, .ref 120, .type "object"], 134, (.ofString "BufferedIOBase"), true, [], [.ref 377], false, none, false⟩, #[some (.ref 126), none, some (.str (.ofString "BufferedIOBase") 479), some (.str (.ofString "BufferedIOBase") 487), some .none, some (.bool true)]⟩
noncomputable def o150S2 (P : Params) : Obj := ⟨.type "tuple", none, .seq #[.ref 135] 0, #[]⟩
noncomputable def o152S2 (P : Params) : Obj := ⟨.type "dict", none, .dict #[⟨PyData.keyHash P (.ofString "__module__"), .str (.ofString "__module__") 522, .str (.ofString "_io") 527⟩, ⟨PyData.keyHash P (.ofString "__qualname__"), .str (.ofString "__qualname__") 524, .str (.ofString "BytesIO") 523⟩, ⟨PyData.keyHash P (.ofString "__firstlineno__"), .str (.ofString "__firstlineno__") 526, .int 51 525⟩, ⟨PyData.keyHash P (.ofString "__init__"), .str (.ofString "__init__") 536, .ref 164⟩, ⟨PyData.keyHash P (.ofString "_BytesIO__check"), .str (.ofString "_BytesIO__check") 543, .ref 171⟩, ⟨PyData.keyHash P (.ofString "_BytesIO__line"), .str (.ofString "_BytesIO__line") 554, .ref 178⟩, ⟨PyData.keyHash P (.ofString "closed"), .str (.ofString "closed") 562, .ref 186⟩, ⟨PyData.keyHash P (.ofString "close"), .str (.ofString "close") 569, .ref 193⟩, ⟨PyData.keyHash P (.ofString "__enter__"), .str (.ofString "__enter__") 576, .ref 200⟩, ⟨PyData.keyHash P (.ofString "__exit__"), .str (.ofString "__exit__") 584, .ref 207⟩, ⟨PyData.keyHash P (.ofString "readable"), .str (.ofString "readable") 591, .ref 214⟩, ⟨PyData.keyHash P (.ofString "writable"), .str (.ofString "writable") 598, .ref 221⟩, ⟨PyData.keyHash P (.ofString "seekable"), .str (.ofString "seekable") 605, .ref 228⟩, ⟨PyData.keyHash P (.ofString "isatty"), .str (.ofString "isatty") 612, .ref 235⟩, ⟨PyData.keyHash P (.ofString "flush"), .str (.ofString "flush") 619, .ref 242⟩, ⟨PyData.keyHash P (.ofString "fileno"), .str (.ofString "fileno") 626, .ref 249⟩, ⟨PyData.keyHash P (.ofString "detach"), .str (.ofString "detach") 633, .ref 256⟩, ⟨PyData.keyHash P (.ofString "getvalue"), .str (.ofString "getvalue") 640, .ref 263⟩, ⟨PyData.keyHash P (.ofString "getbuffer"), .str (.ofString "getbuffer") 647, .ref 270⟩, ⟨PyData.keyHash P (.ofString "tell"), .str (.ofString "tell") 654, .ref 277⟩, ⟨PyData.keyHash P (.ofString "seek"), .str (.ofString "seek") 664, .ref 285⟩, ⟨PyData.keyHash P (.ofString "truncate"), .str (.ofString "truncate") 672, .ref 293⟩, ⟨PyData.keyHash P (.ofString "read"), .str (.ofString "read") 684, .ref 301⟩, ⟨PyData.keyHash P (.ofString "read1"), .str (.ofString "read1") 694, .ref 309⟩, ⟨PyData.keyHash P (.ofString "readinto"), .str (.ofString "readinto") 704, .ref 316⟩, ⟨PyData.keyHash P (.ofString "readinto1"), .str (.ofString "readinto1") 712, .ref 323⟩, ⟨PyData.keyHash P (.ofString "readline"), .str (.ofString "readline") 722, .ref 331⟩, ⟨PyData.keyHash P (.ofString "readlines"), .str (.ofString "readlines") 730, .ref 339⟩, ⟨PyData.keyHash P (.ofString "__iter__"), .str (.ofString "__iter__") 737, .ref 346⟩, ⟨PyData.keyHash P (.ofString "__next__"), .str (.ofString "__next__") 745, .ref 353⟩, ⟨PyData.keyHash P (.ofString "write"), .str (.ofString "write") 755, .ref 360⟩, ⟨PyData.keyHash P (.ofString "writelines"), .str (.ofString "writelines") 763, .ref 367⟩, ⟨PyData.keyHash P (.ofString "__repr__"), .str (.ofString "__repr__") 770, .ref 374⟩, ⟨PyData.keyHash P (.ofString "__static_attributes__"), .str (.ofString "__static_attributes__") 773, .ref 375⟩] 34, #[]⟩
noncomputable def o154S2 (P : Params) : Obj := ⟨.none, none, .fields #[.int 54 0, .int 4 0, .ref 163, .int 60 0, .int 4 0, .ref 170, .int 64 0, .int 4 0, .ref 177, .int 78 0, .int 4 0, .ref 184, .int 81 0, .int 4 0, .ref 192, .int 84 0, .int 4 0, .ref 199, .int 88 0, .int 4 0, .ref 206, .int 91 0, .int 4 0, .ref 213, .int 95 0, .int 4 0, .ref 220, .int 99 0, .int 4 0, .ref 227, .int 103 0, .int 4 0, .ref 234, .int 107 0, .int 4 0, .ref 241, .int 110 0, .int 4 0, .ref 248, .int 113 0, .int 4 0, .ref 255, .int 116 0, .int 4 0, .ref 262, .int 119 0, .int 4 0, .ref 269, .int 122 0, .int 4 0, .ref 276, .int 126 0, .int 4 0, .ref 284, .int 143 0, .int 4 0, .ref 292, .int 146 0, .int 4 0, .ref 300, .int 160 0, .int 4 0, .ref 308, .int 163 0, .int 4 0, .ref 315, .int 177 0, .int 4 0, .ref 322, .int 180 0, .int 4 0, .ref 330, .int 187 0, .int 4 0, .ref 338, .int 190 0, .int 4 0, .ref 345, .int 193 0, .int 4 0, .ref 352, .int 200 0, .int 4 0, .ref 359, .int 216 0, .int 4 0, .ref 366, .int 219 0, .int 4 0, .ref 373], #[]⟩
noncomputable def o155S2 (P : Params) : Obj := ⟨.type "code", none, .fields #[.str (.ofString "BytesIO") 517, .str (.ofString "BytesIO") 518, .str (.ofString "/claim/cut.py") 519, .int 51 0, .int 0 0, .int 0 0, .int 0 0, .int 0 0, .ref 153, .bool false, .int 318 0, .ref 154, .none, .none, .none, .none, .int 520 0, .int 51 0, .str (.ofString "/claim/cut.py") 521], #[]⟩
noncomputable def o156S2 (P : Params) : Obj := ⟨.type "frame", none, .plain, #[some (.ref 155), some (.ref 3), some (.ref 152), none, some (.str (.ofString "io") 407), none, some (.ref 0)]⟩
noncomputable def o160S2 (P : Params) : Obj := ⟨.type "tuple", none, .seq #[.str (.ofString "self") 532, .str (.ofString "initial_bytes") 533] 0, #[]⟩
noncomputable def o162S2 (P : Params) : Obj := fnT (sm 15 1) (.ofString "__init__") (.ofString "BytesIO.__init__")
noncomputable def o163S2 (P : Params) : Obj := ⟨.type "code", none, .fields #[.str (.ofString "__init__") 529, .str (.ofString "BytesIO.__init__") 530, .str (.ofString "/claim/cut.py") 531, .int 54 0, .int 2 0, .int 0 0, .int 0 0, .int 3 0, .ref 158, .bool true, .int 318 0, .ref 159, .none, .ref 160, .ref 161, .ref 162, .int 534 0, .int 54 0, .str (.ofString "/claim/cut.py") 535], #[]⟩
noncomputable def o164S2 (P : Params) : Obj := fnO (.type "function") (sm 15 1) (.ofString "__init__") (.ofString "BytesIO.__init__") (.ref 157) .none .none (.str (.ofString "io") 407) none (.ref 163) .none
noncomputable def o167S2 (P : Params) : Obj := ⟨.type "tuple", none, .seq #[.str (.ofString "self") 540] 0, #[]⟩
noncomputable def o169S2 (P : Params) : Obj := fnT (sm 15 2) (.ofString "__check") (.ofString "BytesIO.__check")
noncomputable def o170S2 (P : Params) : Obj := ⟨.type "code", none, .fields #[.str (.ofString "__check") 537, .str (.ofString "BytesIO.__check") 538, .str (.ofString "/claim/cut.py") 539, .int 60 0, .int 1 0, .int 0 0, .int 0 0, .int 3 0, .ref 165, .bool true, .int 318 0, .ref 166, .none, .ref 167, .ref 168, .ref 169, .int 541 0, .int 60 0, .str (.ofString "/claim/cut.py") 542], #[]⟩
noncomputable def o171S2 (P : Params) : Obj := fnO (.type "function") (sm 15 2) (.ofString "__check") (.ofString "BytesIO.__check") .none .none .none (.str (.ofString "io") 407) none (.ref 170) .none
noncomputable def o174S2 (P : Params) : Obj := ⟨.type "tuple", none, .seq #[.str (.ofString "self") 547, .str (.ofString "limit") 548, .str (.ofString "start") 549, .str (.ofString "stop") 550, .str (.ofString "i") 551] 0, #[]⟩
noncomputable def o176S2 (P : Params) : Obj := fnT (sm 15 3) (.ofString "__line") (.ofString "BytesIO.__line")
noncomputable def o177S2 (P : Params) : Obj := ⟨.type "code", none, .fields #[.str (.ofString "__line") 544, .str (.ofString "BytesIO.__line") 545, .str (.ofString "/claim/cut.py") 546, .int 64 0, .int 2 0, .int 0 0, .int 0 0, .int 3 0, .ref 172, .bool true, .int 318 0, .ref 173, .none, .ref 174, .ref 175, .ref 176, .int 552 0, .int 64 0, .str (.ofString "/claim/cut.py") 553], #[]⟩
noncomputable def o178S2 (P : Params) : Obj := fnO (.type "function") (sm 15 3) (.ofString "__line") (.ofString "BytesIO.__line") .none .none .none (.str (.ofString "io") 407) none (.ref 177) .none
noncomputable def o181S2 (P : Params) : Obj := ⟨.type "tuple", none, .seq #[.str (.ofString "self") 558] 0, #[]⟩
noncomputable def o183S2 (P : Params) : Obj := fnT (sm 15 4) (.ofString "closed") (.ofString "BytesIO.closed")
noncomputable def o184S2 (P : Params) : Obj := ⟨.type "code", none, .fields #[.str (.ofString "closed") 555, .str (.ofString "BytesIO.closed") 556, .str (.ofString "/claim/cut.py") 557, .int 77 0, .int 1 0, .int 0 0, .int 0 0, .int 3 0, .ref 179, .bool true, .int 318 0, .ref 180, .none, .ref 181, .ref 182, .ref 183, .int 559 0, .int 77 0, .str (.ofString "/claim/cut.py") 560], #[]⟩
noncomputable def o185S2 (P : Params) : Obj := fnO (.type "function") (sm 15 4) (.ofString "closed") (.ofString "BytesIO.closed") .none .none .none (.str (.ofString "io") 407) none (.ref 184) .none
noncomputable def o186S2 (P : Params) : Obj := ⟨.type "property", none, .fields #[.ref 185, .none, .none, .none, .str (.ofString "closed") 562, .bool false], #[]⟩
noncomputable def o189S2 (P : Params) : Obj := ⟨.type "tuple", none, .seq #[.str (.ofString "self") 566] 0, #[]⟩
noncomputable def o191S2 (P : Params) : Obj := fnT (sm 15 5) (.ofString "close") (.ofString "BytesIO.close")
noncomputable def o192S2 (P : Params) : Obj := ⟨.type "code", none, .fields #[.str (.ofString "close") 563, .str (.ofString "BytesIO.close") 564, .str (.ofString "/claim/cut.py") 565, .int 81 0, .int 1 0, .int 0 0, .int 0 0, .int 3 0, .ref 187, .bool true, .int 318 0, .ref 188, .none, .ref 189, .ref 190, .ref 191, .int 567 0, .int 81 0, .str (.ofString "/claim/cut.py") 568], #[]⟩
noncomputable def o193S2 (P : Params) : Obj := fnO (.type "function") (sm 15 5) (.ofString "close") (.ofString "BytesIO.close") .none .none .none (.str (.ofString "io") 407) none (.ref 192) .none
noncomputable def o196S2 (P : Params) : Obj := ⟨.type "tuple", none, .seq #[.str (.ofString "self") 573] 0, #[]⟩
noncomputable def o198S2 (P : Params) : Obj := fnT (sm 15 6) (.ofString "__enter__") (.ofString "BytesIO.__enter__")
noncomputable def o199S2 (P : Params) : Obj := ⟨.type "code", none, .fields #[.str (.ofString "__enter__") 570, .str (.ofString "BytesIO.__enter__") 571, .str (.ofString "/claim/cut.py") 572, .int 84 0, .int 1 0, .int 0 0, .int 0 0, .int 3 0, .ref 194, .bool true, .int 318 0, .ref 195, .none, .ref 196, .ref 197, .ref 198, .int 574 0, .int 84 0, .str (.ofString "/claim/cut.py") 575], #[]⟩
noncomputable def o200S2 (P : Params) : Obj := fnO (.type "function") (sm 15 6) (.ofString "__enter__") (.ofString "BytesIO.__enter__") .none .none .none (.str (.ofString "io") 407) none (.ref 199) .none
noncomputable def o203S2 (P : Params) : Obj := ⟨.type "tuple", none, .seq #[.str (.ofString "self") 580, .str (.ofString "args") 581] 0, #[]⟩
noncomputable def o205S2 (P : Params) : Obj := fnT (sm 15 7) (.ofString "__exit__") (.ofString "BytesIO.__exit__")
noncomputable def o206S2 (P : Params) : Obj := ⟨.type "code", none, .fields #[.str (.ofString "__exit__") 577, .str (.ofString "BytesIO.__exit__") 578, .str (.ofString "/claim/cut.py") 579, .int 88 0, .int 1 0, .int 0 0, .int 0 0, .int 7 0, .ref 201, .bool true, .int 318 0, .ref 202, .none, .ref 203, .ref 204, .ref 205, .int 582 0, .int 88 0, .str (.ofString "/claim/cut.py") 583], #[]⟩
noncomputable def o207S2 (P : Params) : Obj := fnO (.type "function") (sm 15 7) (.ofString "__exit__") (.ofString "BytesIO.__exit__") .none .none .none (.str (.ofString "io") 407) none (.ref 206) .none
noncomputable def o210S2 (P : Params) : Obj := ⟨.type "tuple", none, .seq #[.str (.ofString "self") 588] 0, #[]⟩
noncomputable def o212S2 (P : Params) : Obj := fnT (sm 15 8) (.ofString "readable") (.ofString "BytesIO.readable")
noncomputable def o213S2 (P : Params) : Obj := ⟨.type "code", none, .fields #[.str (.ofString "readable") 585, .str (.ofString "BytesIO.readable") 586, .str (.ofString "/claim/cut.py") 587, .int 91 0, .int 1 0, .int 0 0, .int 0 0, .int 3 0, .ref 208, .bool true, .int 318 0, .ref 209, .none, .ref 210, .ref 211, .ref 212, .int 589 0, .int 91 0, .str (.ofString "/claim/cut.py") 590], #[]⟩
noncomputable def o214S2 (P : Params) : Obj := fnO (.type "function") (sm 15 8) (.ofString "readable") (.ofString "BytesIO.readable") .none .none .none (.str (.ofString "io") 407) none (.ref 213) .none
noncomputable def o217S2 (P : Params) : Obj := ⟨.type "tuple", none, .seq #[.str (.ofString "self") 595] 0, #[]⟩
noncomputable def o219S2 (P : Params) : Obj := fnT (sm 15 9) (.ofString "writable") (.ofString "BytesIO.writable")
noncomputable def o220S2 (P : Params) : Obj := ⟨.type "code", none, .fields #[.str (.ofString "writable") 592, .str (.ofString "BytesIO.writable") 593, .str (.ofString "/claim/cut.py") 594, .int 95 0, .int 1 0, .int 0 0, .int 0 0, .int 3 0, .ref 215, .bool true, .int 318 0, .ref 216, .none, .ref 217, .ref 218, .ref 219, .int 596 0, .int 95 0, .str (.ofString "/claim/cut.py") 597], #[]⟩
noncomputable def o221S2 (P : Params) : Obj := fnO (.type "function") (sm 15 9) (.ofString "writable") (.ofString "BytesIO.writable") .none .none .none (.str (.ofString "io") 407) none (.ref 220) .none
noncomputable def o224S2 (P : Params) : Obj := ⟨.type "tuple", none, .seq #[.str (.ofString "self") 602] 0, #[]⟩
noncomputable def o226S2 (P : Params) : Obj := fnT (sm 15 10) (.ofString "seekable") (.ofString "BytesIO.seekable")
noncomputable def o227S2 (P : Params) : Obj := ⟨.type "code", none, .fields #[.str (.ofString "seekable") 599, .str (.ofString "BytesIO.seekable") 600, .str (.ofString "/claim/cut.py") 601, .int 99 0, .int 1 0, .int 0 0, .int 0 0, .int 3 0, .ref 222, .bool true, .int 318 0, .ref 223, .none, .ref 224, .ref 225, .ref 226, .int 603 0, .int 99 0, .str (.ofString "/claim/cut.py") 604], #[]⟩
noncomputable def o228S2 (P : Params) : Obj := fnO (.type "function") (sm 15 10) (.ofString "seekable") (.ofString "BytesIO.seekable") .none .none .none (.str (.ofString "io") 407) none (.ref 227) .none
noncomputable def o231S2 (P : Params) : Obj := ⟨.type "tuple", none, .seq #[.str (.ofString "self") 609] 0, #[]⟩
noncomputable def o233S2 (P : Params) : Obj := fnT (sm 15 11) (.ofString "isatty") (.ofString "BytesIO.isatty")
noncomputable def o234S2 (P : Params) : Obj := ⟨.type "code", none, .fields #[.str (.ofString "isatty") 606, .str (.ofString "BytesIO.isatty") 607, .str (.ofString "/claim/cut.py") 608, .int 103 0, .int 1 0, .int 0 0, .int 0 0, .int 3 0, .ref 229, .bool true, .int 318 0, .ref 230, .none, .ref 231, .ref 232, .ref 233, .int 610 0, .int 103 0, .str (.ofString "/claim/cut.py") 611], #[]⟩
noncomputable def o235S2 (P : Params) : Obj := fnO (.type "function") (sm 15 11) (.ofString "isatty") (.ofString "BytesIO.isatty") .none .none .none (.str (.ofString "io") 407) none (.ref 234) .none
noncomputable def o238S2 (P : Params) : Obj := ⟨.type "tuple", none, .seq #[.str (.ofString "self") 616] 0, #[]⟩
noncomputable def o240S2 (P : Params) : Obj := fnT (sm 15 12) (.ofString "flush") (.ofString "BytesIO.flush")
noncomputable def o241S2 (P : Params) : Obj := ⟨.type "code", none, .fields #[.str (.ofString "flush") 613, .str (.ofString "BytesIO.flush") 614, .str (.ofString "/claim/cut.py") 615, .int 107 0, .int 1 0, .int 0 0, .int 0 0, .int 3 0, .ref 236, .bool true, .int 318 0, .ref 237, .none, .ref 238, .ref 239, .ref 240, .int 617 0, .int 107 0, .str (.ofString "/claim/cut.py") 618], #[]⟩
noncomputable def o242S2 (P : Params) : Obj := fnO (.type "function") (sm 15 12) (.ofString "flush") (.ofString "BytesIO.flush") .none .none .none (.str (.ofString "io") 407) none (.ref 241) .none
noncomputable def o245S2 (P : Params) : Obj := ⟨.type "tuple", none, .seq #[.str (.ofString "self") 623] 0, #[]⟩
noncomputable def o247S2 (P : Params) : Obj := fnT (sm 15 13) (.ofString "fileno") (.ofString "BytesIO.fileno")
noncomputable def o248S2 (P : Params) : Obj := ⟨.type "code", none, .fields #[.str (.ofString "fileno") 620, .str (.ofString "BytesIO.fileno") 621, .str (.ofString "/claim/cut.py") 622, .int 110 0, .int 1 0, .int 0 0, .int 0 0, .int 3 0, .ref 243, .bool true, .int 318 0, .ref 244, .none, .ref 245, .ref 246, .ref 247, .int 624 0, .int 110 0, .str (.ofString "/claim/cut.py") 625], #[]⟩
noncomputable def o249S2 (P : Params) : Obj := fnO (.type "function") (sm 15 13) (.ofString "fileno") (.ofString "BytesIO.fileno") .none .none .none (.str (.ofString "io") 407) none (.ref 248) .none
noncomputable def o252S2 (P : Params) : Obj := ⟨.type "tuple", none, .seq #[.str (.ofString "self") 630] 0, #[]⟩
noncomputable def o254S2 (P : Params) : Obj := fnT (sm 15 14) (.ofString "detach") (.ofString "BytesIO.detach")
noncomputable def o255S2 (P : Params) : Obj := ⟨.type "code", none, .fields #[.str (.ofString "detach") 627, .str (.ofString "BytesIO.detach") 628, .str (.ofString "/claim/cut.py") 629, .int 113 0, .int 1 0, .int 0 0, .int 0 0, .int 3 0, .ref 250, .bool true, .int 318 0, .ref 251, .none, .ref 252, .ref 253, .ref 254, .int 631 0, .int 113 0, .str (.ofString "/claim/cut.py") 632], #[]⟩
noncomputable def o256S2 (P : Params) : Obj := fnO (.type "function") (sm 15 14) (.ofString "detach") (.ofString "BytesIO.detach") .none .none .none (.str (.ofString "io") 407) none (.ref 255) .none
noncomputable def o259S2 (P : Params) : Obj := ⟨.type "tuple", none, .seq #[.str (.ofString "self") 637] 0, #[]⟩
noncomputable def o261S2 (P : Params) : Obj := fnT (sm 15 15) (.ofString "getvalue") (.ofString "BytesIO.getvalue")
noncomputable def o262S2 (P : Params) : Obj := ⟨.type "code", none, .fields #[.str (.ofString "getvalue") 634, .str (.ofString "BytesIO.getvalue") 635, .str (.ofString "/claim/cut.py") 636, .int 116 0, .int 1 0, .int 0 0, .int 0 0, .int 3 0, .ref 257, .bool true, .int 318 0, .ref 258, .none, .ref 259, .ref 260, .ref 261, .int 638 0, .int 116 0, .str (.ofString "/claim/cut.py") 639], #[]⟩
noncomputable def o263S2 (P : Params) : Obj := fnO (.type "function") (sm 15 15) (.ofString "getvalue") (.ofString "BytesIO.getvalue") .none .none .none (.str (.ofString "io") 407) none (.ref 262) .none
noncomputable def o266S2 (P : Params) : Obj := ⟨.type "tuple", none, .seq #[.str (.ofString "self") 644] 0, #[]⟩
noncomputable def o268S2 (P : Params) : Obj := fnT (sm 15 16) (.ofString "getbuffer") (.ofString "BytesIO.getbuffer")
noncomputable def o269S2 (P : Params) : Obj := ⟨.type "code", none, .fields #[.str (.ofString "getbuffer") 641, .str (.ofString "BytesIO.getbuffer") 642, .str (.ofString "/claim/cut.py") 643, .int 119 0, .int 1 0, .int 0 0, .int 0 0, .int 3 0, .ref 264, .bool true, .int 318 0, .ref 265, .none, .ref 266, .ref 267, .ref 268, .int 645 0, .int 119 0, .str (.ofString "/claim/cut.py") 646], #[]⟩
noncomputable def o270S2 (P : Params) : Obj := fnO (.type "function") (sm 15 16) (.ofString "getbuffer") (.ofString "BytesIO.getbuffer") .none .none .none (.str (.ofString "io") 407) none (.ref 269) .none
noncomputable def o273S2 (P : Params) : Obj := ⟨.type "tuple", none, .seq #[.str (.ofString "self") 651] 0, #[]⟩
noncomputable def o275S2 (P : Params) : Obj := fnT (sm 15 17) (.ofString "tell") (.ofString "BytesIO.tell")
noncomputable def o276S2 (P : Params) : Obj := ⟨.type "code", none, .fields #[.str (.ofString "tell") 648, .str (.ofString "BytesIO.tell") 649, .str (.ofString "/claim/cut.py") 650, .int 122 0, .int 1 0, .int 0 0, .int 0 0, .int 3 0, .ref 271, .bool true, .int 318 0, .ref 272, .none, .ref 273, .ref 274, .ref 275, .int 652 0, .int 122 0, .str (.ofString "/claim/cut.py") 653], #[]⟩
noncomputable def o277S2 (P : Params) : Obj := fnO (.type "function") (sm 15 17) (.ofString "tell") (.ofString "BytesIO.tell") .none .none .none (.str (.ofString "io") 407) none (.ref 276) .none
noncomputable def o278S2 (P : Params) : Obj := ⟨.type "tuple", none, .seq #[.int 0 655] 0, #[]⟩
noncomputable def o281S2 (P : Params) : Obj := ⟨.type "tuple", none, .seq #[.str (.ofString "self") 659, .str (.ofString "pos") 660, .str (.ofString "whence") 661] 0, #[]⟩
noncomputable def o283S2 (P : Params) : Obj := fnT (sm 15 18) (.ofString "seek") (.ofString "BytesIO.seek")
noncomputable def o284S2 (P : Params) : Obj := ⟨.type "code", none, .fields #[.str (.ofString "seek") 656, .str (.ofString "BytesIO.seek") 657, .str (.ofString "/claim/cut.py") 658, .int 126 0, .int 3 0, .int 3 0, .int 0 0, .int 3 0, .ref 279, .bool true, .int 318 0, .ref 280, .none, .ref 281, .ref 282, .ref 283, .int 662 0, .int 126 0, .str (.ofString "/claim/cut.py") 663], #[]⟩
noncomputable def o285S2 (P : Params) : Obj := fnO (.type "function") (sm 15 18) (.ofString "seek") (.ofString "BytesIO.seek") (.ref 278) .none .none (.str (.ofString "io") 407) none (.ref 284) .none
noncomputable def o289S2 (P : Params) : Obj := ⟨.type "tuple", none, .seq #[.str (.ofString "self") 668, .str (.ofString "size") 669] 0, #[]⟩
noncomputable def o291S2 (P : Params) : Obj := fnT (sm 15 19) (.ofString "truncate") (.ofString "BytesIO.truncate")
noncomputable def o292S2 (P : Params) : Obj := ⟨.type "code", none, .fields #[.str (.ofString "truncate") 665, .str (.ofString "BytesIO.truncate") 666, .str (.ofString "/claim/cut.py") 667, .int 143 0, .int 2 0, .int 2 0, .int 0 0, .int 3 0, .ref 287, .bool true, .int 318 0, .ref 288, .none, .ref 289, .ref 290, .ref 291, .int 670 0, .int 143 0, .str (.ofString "/claim/cut.py") 671], #[]⟩
noncomputable def o293S2 (P : Params) : Obj := fnO (.type "function") (sm 15 19) (.ofString "truncate") (.ofString "BytesIO.truncate") (.ref 286) .none .none (.str (.ofString "io") 407) none (.ref 292) .none
noncomputable def o294S2 (P : Params) : Obj := ⟨.type "tuple", none, .seq #[.int (-1) 674] 0, #[]⟩
noncomputable def o297S2 (P : Params) : Obj := ⟨.type "tuple", none, .seq #[.str (.ofString "self") 678, .str (.ofString "size") 679, .str (.ofString "start") 680, .str (.ofString "stop") 681] 0, #[]⟩
noncomputable def o299S2 (P : Params) : Obj := fnT (sm 15 20) (.ofString "read") (.ofString "BytesIO.read")
noncomputable def o300S2 (P : Params) : Obj := ⟨.type "code", none, .fields #[.str (.ofString "read") 675, .str (.ofString "BytesIO.read") 676, .str (.ofString "/claim/cut.py") 677, .int 146 0, .int 2 0, .int 2 0, .int 0 0, .int 3 0, .ref 295, .bool true, .int 318 0, .ref 296, .none, .ref 297, .ref 298, .ref 299, .int 682 0, .int 146 0, .str (.ofString "/claim/cut.py") 683], #[]⟩
noncomputable def o301S2 (P : Params) : Obj := fnO (.type "function") (sm 15 20) (.ofString "read") (.ofString "BytesIO.read") (.ref 294) .none .none (.str (.ofString "io") 407) none (.ref 300) .none
noncomputable def o302S2 (P : Params) : Obj := ⟨.type "tuple", none, .seq #[.int (-1) 686] 0, #[]⟩
noncomputable def o305S2 (P : Params) : Obj := ⟨.type "tuple", none, .seq #[.str (.ofString "self") 690, .str (.ofString "size") 691] 0, #[]⟩
noncomputable def o307S2 (P : Params) : Obj := fnT (sm 15 21) (.ofString "read1") (.ofString "BytesIO.read1")
noncomputable def o308S2 (P : Params) : Obj := ⟨.type "code", none, .fields #[.str (.ofString "read1") 687, .str (.ofString "BytesIO.read1") 688, .str (.ofString "/claim/cut.py") 689, .int 160 0, .int 2 0, .int 2 0, .int 0 0, .int 3 0, .ref 303, .bool true, .int 318 0, .ref 304, .none, .ref 305, .ref 306, .ref 307, .int 692 0, .int 160 0, .str (.ofString "/claim/cut.py") 693], #[]⟩
noncomputable def o309S2 (P : Params) : Obj := fnO (.type "function") (sm 15 21) (.ofString "read1") (.ofString "BytesIO.read1") (.ref 302) .none .none (.str (.ofString "io") 407) none (.ref 308) .none
noncomputable def o312S2 (P : Params) : Obj := ⟨.type "tuple", none, .seq #[.str (.ofString "self") 698, .str (.ofString "buffer") 699, .str (.ofString "start") 700, .str (.ofString "n") 701] 0, #[]⟩
noncomputable def o314S2 (P : Params) : Obj := fnT (sm 15 22) (.ofString "readinto") (.ofString "BytesIO.readinto")
noncomputable def o315S2 (P : Params) : Obj := ⟨.type "code", none, .fields #[.str (.ofString "readinto") 695, .str (.ofString "BytesIO.readinto") 696, .str (.ofString "/claim/cut.py") 697, .int 163 0, .int 2 0, .int 2 0, .int 0 0, .int 3 0, .ref 310, .bool true, .int 318 0, .ref 311, .none, .ref 312, .ref 313, .ref 314, .int 702 0, .int 163 0, .str (.ofString "/claim/cut.py") 703], #[]⟩
noncomputable def o316S2 (P : Params) : Obj := fnO (.type "function") (sm 15 22) (.ofString "readinto") (.ofString "BytesIO.readinto") .none .none .none (.str (.ofString "io") 407) none (.ref 315) .none
noncomputable def o319S2 (P : Params) : Obj := ⟨.type "tuple", none, .seq #[.str (.ofString "self") 708, .str (.ofString "buffer") 709] 0, #[]⟩
noncomputable def o321S2 (P : Params) : Obj := fnT (sm 15 23) (.ofString "readinto1") (.ofString "BytesIO.readinto1")
noncomputable def o322S2 (P : Params) : Obj := ⟨.type "code", none, .fields #[.str (.ofString "readinto1") 705, .str (.ofString "BytesIO.readinto1") 706, .str (.ofString "/claim/cut.py") 707, .int 177 0, .int 2 0, .int 2 0, .int 0 0, .int 3 0, .ref 317, .bool true, .int 318 0, .ref 318, .none, .ref 319, .ref 320, .ref 321, .int 710 0, .int 177 0, .str (.ofString "/claim/cut.py") 711], #[]⟩
noncomputable def o323S2 (P : Params) : Obj := fnO (.type "function") (sm 15 23) (.ofString "readinto1") (.ofString "BytesIO.readinto1") .none .none .none (.str (.ofString "io") 407) none (.ref 322) .none
noncomputable def o324S2 (P : Params) : Obj := ⟨.type "tuple", none, .seq #[.int (-1) 714] 0, #[]⟩
noncomputable def o327S2 (P : Params) : Obj := ⟨.type "tuple", none, .seq #[.str (.ofString "self") 718, .str (.ofString "size") 719] 0, #[]⟩
noncomputable def o329S2 (P : Params) : Obj := fnT (sm 15 24) (.ofString "readline") (.ofString "BytesIO.readline")
noncomputable def o330S2 (P : Params) : Obj := ⟨.type "code", none, .fields #[.str (.ofString "readline") 715, .str (.ofString "BytesIO.readline") 716, .str (.ofString "/claim/cut.py") 717, .int 180 0, .int 2 0, .int 2 0, .int 0 0, .int 3 0, .ref 325, .bool true, .int 318 0, .ref 326, .none, .ref 327, .ref 328, .ref 329, .int 720 0, .int 180 0, .str (.ofString "/claim/cut.py") 721], #[]⟩
noncomputable def o331S2 (P : Params) : Obj := fnO (.type "function") (sm 15 24) (.ofString "readline") (.ofString "BytesIO.readline") (.ref 324) .none .none (.str (.ofString "io") 407) none (.ref 330) .none
noncomputable def o335S2 (P : Params) : Obj := ⟨.type "tuple", none, .seq #[.str (.ofString "self") 726, .str (.ofString "size") 727] 0, #[]⟩
noncomputable def o337S2 (P : Params) : Obj := fnT (sm 15 25) (.ofString "readlines") (.ofString "BytesIO.readlines")
noncomputable def o338S2 (P : Params) : Obj := ⟨.type "code", none, .fields #[.str (.ofString "readlines") 723, .str (.ofString "BytesIO.readlines") 724, .str (.ofString "/claim/cut.py") 725, .int 187 0, .int 2 0, .int 2 0, .int 0 0, .int 3 0, .ref 333, .bool true, .int 318 0, .ref 334, .none, .ref 335, .ref 336, .ref 337, .int 728 0, .int 187 0, .str (.ofString "/claim/cut.py") 729], #[]⟩
noncomputable def o339S2 (P : Params) : Obj := fnO (.type "function") (sm 15 25) (.ofString "readlines") (.ofString "BytesIO.readlines") (.ref 332) .none .none (.str (.ofString "io") 407) none (.ref 338) .none
noncomputable def o342S2 (P : Params) : Obj := ⟨.type "tuple", none, .seq #[.str (.ofString "self") 734] 0, #[]⟩
noncomputable def o344S2 (P : Params) : Obj := fnT (sm 15 26) (.ofString "__iter__") (.ofString "BytesIO.__iter__")
noncomputable def o345S2 (P : Params) : Obj := ⟨.type "code", none, .fields #[.str (.ofString "__iter__") 731, .str (.ofString "BytesIO.__iter__") 732, .str (.ofString "/claim/cut.py") 733, .int 190 0, .int 1 0, .int 0 0, .int 0 0, .int 3 0, .ref 340, .bool true, .int 318 0, .ref 341, .none, .ref 342, .ref 343, .ref 344, .int 735 0, .int 190 0, .str (.ofString "/claim/cut.py") 736], #[]⟩
noncomputable def o346S2 (P : Params) : Obj := fnO (.type "function") (sm 15 26) (.ofString "__iter__") (.ofString "BytesIO.__iter__") .none .none .none (.str (.ofString "io") 407) none (.ref 345) .none
noncomputable def o349S2 (P : Params) : Obj := ⟨.type "tuple", none, .seq #[.str (.ofString "self") 741, .str (.ofString "line") 742] 0, #[]⟩
noncomputable def o351S2 (P : Params) : Obj := fnT (sm 15 27) (.ofString "__next__") (.ofString "BytesIO.__next__")
noncomputable def o352S2 (P : Params) : Obj := ⟨.type "code", none, .fields #[.str (.ofString "__next__") 738, .str (.ofString "BytesIO.__next__") 739, .str (.ofString "/claim/cut.py") 740, .int 193 0, .int 1 0, .int 0 0, .int 0 0, .int 3 0, .ref 347, .bool true, .int 318 0, .ref 348, .none, .ref 349, .ref 350, .ref 351, .int 743 0, .int 193 0, .str (.ofString "/claim/cut.py") 744], #[]⟩
noncomputable def o353S2 (P : Params) : Obj := fnO (.type "function") (sm 15 27) (.ofString "__next__") (.ofString "BytesIO.__next__") .none .none .none (.str (.ofString "io") 407) none (.ref 352) .none
noncomputable def o356S2 (P : Params) : Obj := ⟨.type "tuple", none, .seq #[.str (.ofString "self") 749, .str (.ofString "b") 750, .str (.ofString "n") 751, .str (.ofString "start") 752] 0, #[]⟩
noncomputable def o358S2 (P : Params) : Obj := fnT (sm 15 28) (.ofString "write") (.ofString "BytesIO.write")
noncomputable def o359S2 (P : Params) : Obj := ⟨.type "code", none, .fields #[.str (.ofString "write") 746, .str (.ofString "BytesIO.write") 747, .str (.ofString "/claim/cut.py") 748, .int 200 0, .int 2 0, .int 2 0, .int 0 0, .int 3 0, .ref 354, .bool true, .int 318 0, .ref 355, .none, .ref 356, .ref 357, .ref 358, .int 753 0, .int 200 0, .str (.ofString "/claim/cut.py") 754], #[]⟩
noncomputable def o360S2 (P : Params) : Obj := fnO (.type "function") (sm 15 28) (.ofString "write") (.ofString "BytesIO.write") .none .none .none (.str (.ofString "io") 407) none (.ref 359) .none
noncomputable def o363S2 (P : Params) : Obj := ⟨.type "tuple", none, .seq #[.str (.ofString "self") 759, .str (.ofString "lines") 760] 0, #[]⟩
noncomputable def o365S2 (P : Params) : Obj := fnT (sm 15 29) (.ofString "writelines") (.ofString "BytesIO.writelines")
noncomputable def o366S2 (P : Params) : Obj := ⟨.type "code", none, .fields #[.str (.ofString "writelines") 756, .str (.ofString "BytesIO.writelines") 757, .str (.ofString "/claim/cut.py") 758, .int 216 0, .int 2 0, .int 2 0, .int 0 0, .int 3 0, .ref 361, .bool true, .int 318 0, .ref 362, .none, .ref 363, .ref 364, .ref 365, .int 761 0, .int 216 0, .str (.ofString "/claim/cut.py") 762], #[]⟩
noncomputable def o367S2 (P : Params) : Obj := fnO (.type "function") (sm 15 29) (.ofString "writelines") (.ofString "BytesIO.writelines") .none .none .none (.str (.ofString "io") 407) none (.ref 366) .none
noncomputable def o370S2 (P : Params) : Obj := ⟨.type "tuple", none, .seq #[.str (.ofString "self") 767] 0, #[]⟩
noncomputable def o372S2 (P : Params) : Obj := fnT (sm 15 30) (.ofString "__repr__") (.ofString "BytesIO.__repr__")
noncomputable def o373S2 (P : Params) : Obj := ⟨.type "code", none, .fields #[.str (.ofString "__repr__") 764, .str (.ofString "BytesIO.__repr__") 765, .str (.ofString "/claim/cut.py") 766, .int 219 0, .int 1 0, .int 0 0, .int 0 0, .int 3 0, .ref 368, .bool true, .int 318 0, .ref 369, .none, .ref 370, .ref 371, .ref 372, .int 768 0, .int 219 0, .str (.ofString "/claim/cut.py") 769], #[]⟩
noncomputable def o374S2 (P : Params) : Obj := fnO (.type "function") (sm 15 30) (.ofString "__repr__") (.ofString "BytesIO.__repr__") .none .none .none (.str (.ofString "io") 407) none (.ref 373) .none
noncomputable def o375S2 (P : Params) : Obj := ⟨.type "tuple", none, .seq #[.str (.ofString "__buf") 771, .str (.ofString "__pos") 772] 0, #[]⟩
noncomputable def o376S2 (P : Params) : Obj := ⟨.type "dict", none, .dict #[⟨PyData.keyHash P (.ofString "__module__"), .str (.ofString "__module__") 522, .str (.ofString "_io") 527⟩, ⟨PyData.keyHash P (.ofString "__firstlineno__"), .str (.ofString "__firstlineno__") 526, .int 51 525⟩, ⟨PyData.keyHash P (.ofString "__init__"), .str (.ofString "__init__") 536, .ref 164⟩, ⟨PyData.keyHash P (.ofString "_BytesIO__check"), .str (.ofString "_BytesIO__check") 543, .ref 171⟩, ⟨PyData.keyHash P (.ofString "_BytesIO__line"), .str (.ofString "_BytesIO__line") 554, .ref 178⟩, ⟨PyData.keyHash P (.ofString "closed"), .str (.ofString "closed") 562, .ref 186⟩, ⟨PyData.keyHash P (.ofString "close"), .str (.ofString "close") 569, .ref 193⟩, ⟨PyData.keyHash P (.ofString "__enter__"), .str (.ofString "__enter__") 576, .ref 200⟩, ⟨PyData.keyHash P (.ofString "__exit__"), .str (.ofString "__exit__") 584, .ref 207⟩, ⟨PyData.keyHash P (.ofString "readable"), .str (.ofString "readable") 591, .ref 214⟩, ⟨PyData.keyHash P (.ofString "writable"), .str (.ofString "writable") 598, .ref 221⟩, ⟨PyData.keyHash P (.ofString "seekable"), .str (.ofString "seekable") 605, .ref 228⟩, ⟨PyData.keyHash P (.ofString "isatty"), .str (.ofString "isatty") 612, .ref 235⟩, ⟨PyData.keyHash P (.ofString "flush"), .str (.ofString "flush") 619, .ref 242⟩, ⟨PyData.keyHash P (.ofString "fileno"), .str (.ofString "fileno") 626, .ref 249⟩, ⟨PyData.keyHash P (.ofString "detach"), .str (.ofString "detach") 633, .ref 256⟩, ⟨PyData.keyHash P (.ofString "getvalue"), .str (.ofString "getvalue") 640, .ref 263⟩, ⟨PyData.keyHash P (.ofString "getbuffer"), .str (.ofString "getbuffer") 647, .ref 270⟩, ⟨PyData.keyHash P (.ofString "tell"), .str (.ofString "tell") 654, .ref 277⟩, ⟨PyData.keyHash P (.ofString "seek"), .str (.ofString "seek") 664, .ref 285⟩, ⟨PyData.keyHash P (.ofString "truncate"), .str (.ofString "truncate") 672, .ref 293⟩, ⟨PyData.keyHash P (.ofString "read"), .str (.ofString "read") 684, .ref 301⟩, ⟨PyData.keyHash P (.ofString "read1"), .str (.ofString "read1") 694, .ref 309⟩, ⟨PyData.keyHash P (.ofString "readinto"), .str (.ofString "readinto") 704, .ref 316⟩, ⟨PyData.keyHash P (.ofString "readinto1"), .str (.ofString "readinto1") 712, .ref 323⟩, ⟨PyData.keyHash P (.ofString "readline"), .str (.ofString "readline") 722, .ref 331⟩, ⟨PyData.keyHash P (.ofString "readlines"), .str (.ofString "readlines") 730, .ref 339⟩, ⟨PyData.keyHash P (.ofString "__iter__"), .str (.ofString "__iter__") 737, .ref 346⟩, ⟨PyData.keyHash P (.ofString "__next__"), .str (.ofString "__next__") 745, .ref 353⟩, ⟨PyData.keyHash P (.ofString "write"), .str (.ofString "write") 755, .ref 360⟩, ⟨PyData.keyHash P (.ofString "writelines"), .str (.ofString "writelines") 763, .ref 367⟩, ⟨PyData.keyHash P (.ofString "__repr__"), .str (.ofString "__repr__") 770, .ref 374⟩, ⟨PyData.keyHash P (.ofString "__static_attributes__"), .str (.ofString "__static_attributes__") 773, .ref 375⟩, ⟨PyData.keyHash P (.ofString "__doc__"), .str (.ofString "__doc__") 774, .none⟩] 2, #[]⟩
noncomputable def o377S2 (P : Params) : Obj := ⟨.type "type", none, .cls ⟨(.ofString "BytesIO"), [.ref 135], [.ref 377, .ref 135, .ref 120, .type "object"], 376, (.ofString "BytesIO"), true, [], [], false, none, false⟩, #[some (.ref 150), none, some (.str (.ofString "BytesIO") 515), some (.str (.ofString "BytesIO") 523), some .none, some (.bool true)]⟩
noncomputable def o378S2 (P : Params) : Obj := ⟨.type "super", none, .fields #[.ref 377, .ref 377, .ref 377], #[]⟩
noncomputable def o379S2 (P : Params) : Obj := ⟨.type "builtin_function_or_method", none, .fields #[.builtin "object.__init_subclass__", .ref 377], #[]⟩
noncomputable def o3S3 (P : Params) : Obj := ⟨.type "dict", none, .dict #[⟨PyData.keyHash P (.ofString "__name__"), .str (.ofString "__name__") 165, .str (.ofString "io") 407⟩, ⟨PyData.keyHash P (.ofString "__doc__"), .str (.ofString "__doc__") 166, .none⟩, ⟨PyData.keyHash P (.ofString "__package__"), .str (.ofString "__package__") 167, .none⟩, ⟨PyData.keyHash P (.ofString "__loader__"), .str (.ofString "__loader__") 168, .builtin "__main__.__loader__#op\x61que"⟩, ⟨PyData.keyHash P (.ofString "__spec__"), .str (.ofString "__spec__") 169, .none⟩, ⟨PyData.keyHash P (.ofString "__annotations__"), .str (.ofString "__annotations__") 170, .ref 6⟩, ⟨PyData.keyHash P (.ofString "__builtins__"), .str (.ofString "__builtins__") 171, .ref 4⟩, ⟨PyData.keyHash P (.ofString "__file__"), .str (.ofString "__file__") 173, .str (.ofString "/claim/cut.py") 172⟩, ⟨PyData.keyHash P (.ofString "__cached__"), .str (.ofString "__cached__") 174, .none⟩, ⟨PyData.keyHash P (.ofString "_sre"), .str (.ofString "_sre") 275, .ref 12⟩, ⟨PyData.keyHash P (.ofString "deque"), .str (.ofString "deque") 317, .type "collections.deque"⟩, ⟨PyData.keyHash P (.ofString "_wall"), .str (.ofString "_wall") 330, .ref 44⟩, ⟨PyData.keyHash P (.ofString "StatisticsError"), .str (.ofString "StatisticsError") 350, .ref 54⟩, ⟨PyData.keyHash P (.ofString "median_low"), .str (.ofString "median_low") 358, .ref 64⟩, ⟨PyData.keyHash P (.ofString "median_high"), .str (.ofString "median_high") 366, .ref 71⟩, ⟨PyData.keyHash P (.ofString "_twin_re_1"), .str (.ofString "_twin_re_1") 406, .ref 76⟩, ⟨PyData.keyHash P (.ofString "_whence"), .str (.ofString "_whence") 416, .ref 83⟩, ⟨PyData.keyHash P (.ofString "_index"), .str (.ofString "_index") 424, .ref 90⟩, ⟨PyData.keyHash P (.ofString "UnsupportedOperation"), .str (.ofString "UnsupportedOperation") 446, .ref 100⟩, ⟨PyData.keyHash P (.ofString "IOBase"), .str (.ofString "IOBase") 478, .ref 120⟩, ⟨PyData.keyHash P (.ofString "BufferedIOBase"), .str (.ofString "BufferedIOBase") 496, .ref 135⟩, ⟨PyData.keyHash P (.ofString "TextIOBase"), .str (.ofString "TextIOBase") 514, .ref 147⟩, ⟨PyData.keyHash P (.ofString "BytesIO"), .str (.ofString "BytesIO") 776, .ref 377⟩, ⟨PyData.keyHash P (.ofString "StringIO"), .str (.ofString "StringIO") 1063, .ref 624⟩] 24, #[]⟩
noncomputable def o35S3 (P : Params) : Obj := ⟨.none, none, .fields #[.int 3 0, .int 0 0, .ref 43, .int 7 0, .int 0 0, .ref 50, .int 9 0, .int 0 0, .ref 63, .int 18 0, .int 0 0, .ref 70, .int 26 0, .int 0 0, .ref 82, .int 31 0, .int 0 0, .ref 89, .int 38 0, .int 0 0, .ref 96, .int 40 0, .int 0 0, .ref 109, .int 47 0, .int 0 0, .ref 131, .int 49 0, .int 0 0, .ref 143, .int 51 0, .int 0 0, .ref 155, .int 221 0, .int 0 0, .ref 385], #[]⟩
noncomputable def o147S3 (P : Params) : Obj := ⟨.type "type", none, .cls ⟨(.ofString "TextIOBase"), [.ref 120], [.ref 147, .ref 120, .type "object"], 146, (.ofString "TextIOBase"), true, [], [.ref 624], false, none, false⟩, #[some (.ref 138), none, some (.str (.ofString "TextIOBase") 497), some (.str (.ofString "TextIOBase") 505), some .none, some (.bool true)]⟩
noncomputable def o380S3 (P : Params) : Obj := ⟨.type "tuple", none, .seq #[.ref 147] 0, #[]⟩
noncomputable def o382S3 (P : Params) : Obj := ⟨.type "dict", none, .dict #[⟨PyData.keyHash P (.ofString "__module__"), .str (.ofString "__module__") 784, .str (.ofString "_io") 789⟩, ⟨PyData.keyHash P (.ofString "__qualname__"), .str (.ofString "__qualname__") 786, .str (.ofString "StringIO") 785⟩, ⟨PyData.keyHash P (.ofString "__firstlineno__"), .str (.ofString "__firstlineno__") 788, .int 221 787⟩, ⟨PyData.keyHash P (.ofString "__init__"), .str (.ofString "__init__") 801, .ref 394⟩, ⟨PyData.keyHash P (.ofString "_StringIO__translated"), .str (.ofString "_StringIO__translated") 810, .ref 401⟩, ⟨PyData.keyHash P (.ofString "_StringIO__check"), .str (.ofString "_StringIO__check") 817, .ref 408⟩, ⟨PyData.keyHash P (.ofString "_StringIO__check_dot"), .str (.ofString "_StringIO__check_dot") 824, .ref 415⟩, ⟨PyData.keyHash P (.ofString "_StringIO__line"), .str (.ofString "_StringIO__line") 839, .ref 422⟩, ⟨PyData.keyHash P (.ofString "closed"), .str (.ofString "closed") 847, .ref 430⟩, ⟨PyData.keyHash P (.ofString "line_buffering"), .str (.ofString "line_buffering") 855, .ref 438⟩, ⟨PyData.keyHash P (.ofString "newlines"), .str (.ofString "newlines") 863, .ref 446⟩, ⟨PyData.keyHash P (.ofString "encoding"), .str (.ofString "encoding") 871, .ref 454⟩, ⟨PyData.keyHash P (.ofString "errors"), .str (.ofString "errors") 879, .ref 462⟩, ⟨PyData.keyHash P (.ofString "close"), .str (.ofString "close") 886, .ref 469⟩, ⟨PyData.keyHash P (.ofString "__enter__"), .str (.ofString "__enter__") 893, .ref 476⟩, ⟨PyData.keyHash P (.ofString "__exit__"), .str (.ofString "__exit__") 901, .ref 483⟩, ⟨PyData.keyHash P (.ofString "readable"), .str (.ofString "readable") 908, .ref 490⟩, ⟨PyData.keyHash P (.ofString "writable"), .str (.ofString "writable") 915, .ref 497⟩, ⟨PyData.keyHash P (.ofString "seekable"), .str (.ofString "seekable") 922, .ref 504⟩, ⟨PyData.keyHash P (.ofString "isatty"), .str (.ofString "isatty") 929, .ref 511⟩, ⟨PyData.keyHash P (.ofString "flush"), .str (.ofString "flush") 936, .ref 518⟩, ⟨PyData.keyHash P (.ofString "fileno"), .str (.ofString "fileno") 943, .ref 525⟩, ⟨PyData.keyHash P (.ofString "detach"), .str (.ofString "detach") 950, .ref 532⟩, ⟨PyData.keyHash P (.ofString "getvalue"), .str (.ofString "getvalue") 957, .ref 539⟩, ⟨PyData.keyHash P (.ofString "tell"), .str (.ofString "tell") 964, .ref 546⟩, ⟨PyData.keyHash P (.ofString "seek"), .str (.ofString "seek") 974, .ref 554⟩, ⟨PyData.keyHash P (.ofString "truncate"), .str (.ofString "truncate") 982, .ref 562⟩, ⟨PyData.keyHash P (.ofString "read"), .str (.ofString "read") 994, .ref 570⟩, ⟨PyData.keyHash P (.ofString "readline"), .str (.ofString "readline") 1004, .ref 578⟩, ⟨PyData.keyHash P (.ofString "readlines"), .str (.ofString "readlines") 1014, .ref 586⟩, ⟨PyData.keyHash P (.ofString "__iter__"), .str (.ofString "__iter__") 1021, .ref 593⟩, ⟨PyData.keyHash P (.ofString "__next__"), .str (.ofString "__next__") 1029, .ref 600⟩, ⟨PyData.keyHash P (.ofString "write"), .str (.ofString "write") 1041, .ref 607⟩, ⟨PyData.keyHash P (.ofString "writelines"), .str (.ofString "writelines") 1049, .ref 614⟩, ⟨PyData.keyHash P (.ofString "__repr__"), .str (.ofString "__repr__") 1056, .ref 621⟩, ⟨PyData.keyHash P (.ofString "__static_attributes__"), .str (.ofString "__static_attributes__") 1060, .ref 622⟩] 36, #[]⟩
noncomputable def o384S3 (P : Params) : Obj := ⟨.none, none, .fields #[.int 224 0, .int 4 0, .ref 393, .int 237 0, .int 4 0, .ref 400, .int 245 0, .int 4 0, .ref 407, .int 249 0, .int 4 0, .ref 414, .int 253 0, .int 4 0, .ref 421, .int 286 0, .int 4 0, .ref 428, .int 290 0, .int 4 0, .ref 436, .int 294 0, .int 4 0, .ref 444, .int 298 0, .int 4 0, .ref 452, .int 302 0, .int 4 0, .ref 460, .int 305 0, .int 4 0, .ref 468, .int 308 0, .int 4 0, .ref 475, .int 312 0, .int 4 0, .ref 482, .int 315 0, .int 4 0, .ref 489, .int 319 0, .int 4 0, .ref 496, .int 323 0, .int 4 0, .ref 503, .int 327 0, .int 4 0, .ref 510, .int 331 0, .int 4 0, .ref 517, .int 334 0, .int 4 0, .ref 524, .int 337 0, .int 4 0, .ref 531, .int 340 0, .int 4 0, .ref 538, .int 343 0, .int 4 0, .ref 545, .int 347 0, .int 4 0, .ref 553, .int 364 0, .int 4 0, .ref 561, .int 367 0, .int 4 0, .ref 569, .int 381 0, .int 4 0, .ref 577, .int 388 0, .int 4 0, .ref 585, .int 391 0, .int 4 0, .ref 592, .int 395 0, .int 4 0, .ref 599, .int 402 0, .int 4 0, .ref 606, .int 421 0, .int 4 0, .ref 613, .int 424 0, .int 4 0, .ref 620], #[]⟩
noncomputable def o385S3 (P : Params) : Obj := ⟨.type "code", none, .fields #[.str (.ofString "StringIO") 779, .str (.ofString "StringIO") 780, .str (.ofString "/claim/cut.py") 781, .int 221 0, .int 0 0, .int 0 0, .int 0 0, .int 0 0, .ref 383, .bool false, .int 318 0, .ref 384, .none, .none, .none, .none, .int 782 0, .int 221 0, .str (.ofString "/claim/cut.py") 783], #[]⟩
noncomputable def o386S3 (P : Params) : Obj := ⟨.type "frame", none, .plain, #[some (.ref 385), some (.ref 3), some (.ref 382), none, some (.str (.ofString "io") 407), none, some (.ref 0)]⟩
noncomputable def o387S3 (P : Params) : Obj := ⟨.type "tuple", none, .seq #[.str (.ofString "") 791, .str (.ofString "\n") 792] 0, #[]⟩
noncomputable def o390S3 (P : Params) : Obj := ⟨.type "tuple", none, .seq #[.str (.ofString "self") 796, .str (.ofString "initial_value") 797, .str (.ofString "newline") 798] 0, #[]⟩
noncomputable def o392S3 (P : Params) : Obj := fnT (sm 16 1) (.ofString "__init__") (.ofString "StringIO.__init__")
noncomputable def o393S3 (P : Params) : Obj := ⟨.type "code", none, .fields #[.str (.ofString "__init__") 793, .str (.ofString "StringIO.__init__") 794, .str (.ofString "/claim/cut.py") 795, .int 224 0, .int 3 0, .int 0 0, .int 0 0, .int 3 0, .ref 388, .bool true, .int 318 0, .ref 389, .none, .ref 390, .ref 391, .ref 392, .int 799 0, .int 224 0, .str (.ofString "/claim/cut.py") 800], #[]⟩
noncomputable def o394S3 (P : Params) : Obj := fnO (.type "function") (sm 16 1) (.ofString "__init__") (.ofString "StringIO.__init__") (.ref 387) .none .none (.str (.ofString "io") 407) none (.ref 393) .none
noncomputable def o397S3 (P : Params) : Obj := ⟨.type "tuple", none, .seq #[.str (.ofString "self") 805, .str (.ofString "s") 806, .str (.ofString "newline") 807] 0, #[]⟩
noncomputable def o399S3 (P : Params) : Obj := fnT (sm 16 2) (.ofString "__translated") (.ofString "StringIO.__translated")
noncomputable def o400S3 (P : Params) : Obj := ⟨.type "code", none, .fields #[.str (.ofString "__translated") 802, .str (.ofString "StringIO.__translated") 803, .str (.ofString "/claim/cut.py") 804, .int 237 0, .int 2 0, .int 0 0, .int 0 0, .int 3 0, .ref 395, .bool true, .int 318 0, .ref 396, .none, .ref 397, .ref 398, .ref 399, .int 808 0, .int 237 0, .str (.ofString "/claim/cut.py") 809], #[]⟩
noncomputable def o401S3 (P : Params) : Obj := fnO (.type "function") (sm 16 2) (.ofString "__translated") (.ofString "StringIO.__translated") .none .none .none (.str (.ofString "io") 407) none (.ref 400) .none
noncomputable def o404S3 (P : Params) : Obj := ⟨.type "tuple", none, .seq #[.str (.ofString "self") 814] 0, #[]⟩
noncomputable def o406S3 (P : Params) : Obj := fnT (sm 16 3) (.ofString "__check") (.ofString "StringIO.__check")
noncomputable def o407S3 (P : Params) : Obj := ⟨.type "code", none, .fields #[.str (.ofString "__check") 811, .str (.ofString "StringIO.__check") 812, .str (.ofString "/claim/cut.py") 813, .int 245 0, .int 1 0, .int 0 0, .int 0 0, .int 3 0, .ref 402, .bool true, .int 318 0, .ref 403, .none, .ref 404, .ref 405, .ref 406, .int 815 0, .int 245 0, .str (.ofString "/claim/cut.py") 816], #[]⟩
noncomputable def o408S3 (P : Params) : Obj := fnO (.type "function") (sm 16 3) (.ofString "__check") (.ofString "StringIO.__check") .none .none .none (.str (.ofString "io") 407) none (.ref 407) .none
noncomputable def o411S3 (P : Params) : Obj := ⟨.type "tuple", none, .seq #[.str (.ofString "self") 821] 0, #[]⟩
noncomputable def o413S3 (P : Params) : Obj := fnT (sm 16 4) (.ofString "__check_dot") (.ofString "StringIO.__check_dot")
noncomputable def o414S3 (P : Params) : Obj := ⟨.type "code", none, .fields #[.str (.ofString "__check_dot") 818, .str (.ofString "StringIO.__check_dot") 819, .str (.ofString "/claim/cut.py") 820, .int 249 0, .int 1 0, .int 0 0, .int 0 0, .int 3 0, .ref 409, .bool true, .int 318 0, .ref 410, .none, .ref 411, .ref 412, .ref 413, .int 822 0, .int 249 0, .str (.ofString "/claim/cut.py") 823], #[]⟩
noncomputable def o415S3 (P : Params) : Obj := fnO (.type "function") (sm 16 4) (.ofString "__check_dot") (.ofString "StringIO.__check_dot") .none .none .none (.str (.ofString "io") 407) none (.ref 414) .none
noncomputable def o418S3 (P : Params) : Obj := ⟨.type "tuple", none, .seq #[.str (.ofString "self") 828, .str (.ofString "limit") 829, .str (.ofString "start") 830, .str (.ofString "stop") 831, .str (.ofString "cut") 832, .str (.ofString "newline") 833, .str (.ofString "i") 834, .str (.ofString "j") 835, .str (.ofString "end") 836] 0, #[]⟩
noncomputable def o420S3 (P : Params) : Obj := fnT (sm 16 5) (.ofString "__line") (.ofString "StringIO.__line")
noncomputable def o421S3 (P : Params) : Obj := ⟨.type "code", none, .fields #[.str (.ofString "__line") 825, .str (.ofString "StringIO.__line") 826, .str (.ofString "/claim/cut.py") 827, .int 253 0, .int 2 0, .int 0 0, .int 0 0, .int 3 0, .ref 416, .bool true, .int 318 0, .ref 417, .none, .ref 418, .ref 419, .ref 420, .int 837 0, .int 253 0, .str (.ofString "/claim/cut.py") 838], #[]⟩
noncomputable def o422S3 (P : Params) : Obj := fnO (.type "function") (sm 16 5) (.ofString "__line") (.ofString "StringIO.__line") .none .none .none (.str (.ofString "io") 407) none (.ref 421) .none
noncomputable def o425S3 (P : Params) : Obj := ⟨.type "tuple", none, .seq #[.str (.ofString "self") 843] 0, #[]⟩
noncomputable def o427S3 (P : Params) : Obj := fnT (sm 16 6) (.ofString "closed") (.ofString "StringIO.closed")
noncomputable def o428S3 (P : Params) : Obj := ⟨.type "code", none, .fields #[.str (.ofString "closed") 840, .str (.ofString "StringIO.closed") 841, .str (.ofString "/claim/cut.py") 842, .int 285 0, .int 1 0, .int 0 0, .int 0 0, .int 3 0, .ref 423, .bool true, .int 318 0, .ref 424, .none, .ref 425, .ref 426, .ref 427, .int 844 0, .int 285 0, .str (.ofString "/claim/cut.py") 845], #[]⟩
noncomputable def o429S3 (P : Params) : Obj := fnO (.type "function") (sm 16 6) (.ofString "closed") (.ofString "StringIO.closed") .none .none .none (.str (.ofString "io") 407) none (.ref 428) .none
noncomputable def o430S3 (P : Params) : Obj := ⟨.type "property", none, .fields #[.ref 429, .none, .none, .none, .str (.ofString "closed") 847, .bool false], #[]⟩
noncomputable def o433S3 (P : Params) : Obj := ⟨.type "tuple", none, .seq #[.str (.ofString "self") 851] 0, #[]⟩
noncomputable def o435S3 (P : Params) : Obj := fnT (sm 16 7) (.ofString "line_buffering") (.ofString "StringIO.line_buffering")
noncomputable def o436S3 (P : Params) : Obj := ⟨.type "code", none, .fields #[.str (.ofString "line_buffering") 848, .str (.ofString "StringIO.line_buffering") 849, .str (.ofString "/claim/cut.py") 850, .int 289 0, .int 1 0, .int 0 0, .int 0 0, .int 3 0, .ref 431, .bool true, .int 318 0, .ref 432, .none, .ref 433, .ref 434, .ref 435, .int 852 0, .int 289 0, .str (.ofString "/claim/cut.py") 853], #[]⟩
noncomputable def o437S3 (P : Params) : Obj := fnO (.type "function") (sm 16 7) (.ofString "line_buffering") (.ofString "StringIO.line_buffering") .none .none .none (.str (.ofString "io") 407) none (.ref 436) .none
noncomputable def o438S3 (P : Params) : Obj := ⟨.type "property", none, .fields #[.ref 437, .none, .none, .none, .str (.ofString "line_buffering") 855, .bool false], #[]⟩
noncomputable def o441S3 (P : Params) : Obj := ⟨.type "tuple", none, .seq #[.str (.ofString "self") 859] 0, #[]⟩
noncomputable def o443S3 (P : Params) : Obj := fnT (sm 16 8) (.ofString "newlines") (.ofString "StringIO.newlines")
noncomputable def o444S3 (P : Params) : Obj := ⟨.type "code", none, .fields #[.str (.ofString "newlines") 856, .str (.ofString "StringIO.newlines") 857, .str (.ofString "/claim/cut.py") 858, .int 293 0, .int 1 0, .int 0 0, .int 0 0, .int 3 0, .ref 439, .bool true, .int 318 0, .ref 440, .none, .ref 441, .ref 442, .ref 443, .int 860 0, .int 293 0, .str (.ofString "/claim/cut.py") 861], #[]⟩
noncomputable def o445S3 (P : Params) : Obj := fnO (.type "function") (sm 16 8) (.ofString "newlines") (.ofString "StringIO.newlines") .none .none .none (.str (.ofString "io") 407) none (.ref 444) .none
noncomputable def o446S3 (P : Params) : Obj := ⟨.type "property", none, .fields #[.ref 445, .none, .none, .none, .str (.ofString "newlines") 863, .bool false], #[]⟩
noncomputable def o449S3 (P : Params) : Obj := ⟨.type "tuple", none, .seq #[.str (.ofString "self") 867] 0, #[]⟩
noncomputable def o451S3 (P : Params) : Obj := fnT (sm 16 9) (.ofString "encoding") (.ofString "StringIO.encoding")
noncomputable def o452S3 (P : Params) : Obj := ⟨.type "code", none, .fields #[.str (.ofString "encoding") 864, .str (.ofString "StringIO.encoding") 865, .str (.ofString "/claim/cut.py") 866, .int 297 0, .int 1 0, .int 0 0, .int 0 0, .int 3 0, .ref 447, .bool true, .int 318 0, .ref 448, .none, .ref 449, .ref 450, .ref 451, .int 868 0, .int 297 0, .str (.ofString "/claim/cut.py") 869], #[]⟩
noncomputable def o453S3 (P : Params) : Obj := fnO (.type "function") (sm 16 9) (.ofString "encoding") (.ofString "StringIO.encoding") .none .none .none (.str (.ofString "io") 407) none (.ref 452) .none
noncomputable def o454S3 (P : Params) : Obj := ⟨.type "property", none, .fields #[.ref 453, .none, .none, .none, .str (.ofString "encoding") 871, .bool false], #[]⟩
noncomputable def o457S3 (P : Params) : Obj := ⟨.type "tuple", none, .seq #[.str (.ofString "self") 875] 0, #[]⟩
noncomputable def o459S3 (P : Params) : Obj := fnT (sm 16 10) (.ofString "errors") (.ofString "StringIO.errors")
noncomputable def o460S3 (P : Params) : Obj := ⟨.type "code", none, .fields #[.str (.ofString "errors") 872, .str (.ofString "StringIO.errors") 873, .str (.ofString "/claim/cut.py") 874, .int 301 0, .int 1 0, .int 0 0, .int 0 0, .int 3 0, .ref 455, .bool true, .int 318 0, .ref 456, .none, .ref 457, .ref 458, .ref 459, .int 876 0, .int 301 0, .str (.ofString "/claim/cut.py") 877], #[]⟩
noncomputable def o461S3 (P : Params) : Obj := fnO (.type "function") (sm 16 10) (.ofString "errors") (.ofString "StringIO.errors") .none .none .none (.str (.ofString "io") 407) none (.ref 460) .none
noncomputable def o462S3 (P : Params) : Obj := ⟨.type "property", none, .fields #[.ref 461, .none, .none, .none, .str (.ofString "errors") 879, .bool false], #[]⟩
noncomputable def o465S3 (P : Params) : Obj := ⟨.type "tuple", none, .seq #[.str (.ofString "self") 883] 0, #[]⟩
noncomputable def o467S3 (P : Params) : Obj := fnT (sm 16 11) (.ofString "close") (.ofString "StringIO.close")
noncomputable def o468S3 (P : Params) : Obj := ⟨.type "code", none, .fields #[.str (.ofString "close") 880, .str (.ofString "StringIO.close") 881, .str (.ofString "/claim/cut.py") 882, .int 305 0, .int 1 0, .int 0 0, .int 0 0, .int 3 0, .ref 463, .bool true, .int 318 0, .ref 464, .none, .ref 465, .ref 466, .ref 467, .int 884 0, .int 305 0, .str (.ofString "/claim/cut.py") 885], #[]⟩
noncomputable def o469S3 (P : Params) : Obj := fnO (.type "function") (sm 16 11) (.ofString "close") (.ofString "StringIO.close") .none .none .none (.str (.ofString "io") 407) none (.ref 468) .none
noncomputable def o472S3 (P : Params) : Obj := ⟨.type "tuple", none, .seq #[.str (.ofString "self") 890] 0, #[]⟩
noncomputable def o474S3 (P : Params) : Obj := fnT (sm 16 12) (.ofString "__enter__") (.ofString "StringIO.__enter__")
noncomputable def o475S3 (P : Params) : Obj := ⟨.type "code", none, .fields #[.str (.ofString "__enter__") 887, .str (.ofString "StringIO.__enter__") 888, .str (.ofString "/claim/cut.py") 889, .int 308 0, .int 1 0, .int 0 0, .int 0 0, .int 3 0, .ref 470, .bool true, .int 318 0, .ref 471, .none, .ref 472, .ref 473, .ref 474, .int 891 0, .int 308 0, .str (.ofString "/claim/cut.py") 892], #[]⟩
noncomputable def o476S3 (P : Params) : Obj := fnO (.type "function") (sm 16 12) (.ofString "__enter__") (.ofString "StringIO.__enter__") .none .none .none (.str (.ofString "io") 407) none (.ref 475) .none
noncomputable def o479S3 (P : Params) : Obj := ⟨.type "tuple", none, .seq #[.str (.ofString "self") 897, .str (.ofString "args") 898] 0, #[]⟩
noncomputable def o481S3 (P : Params) : Obj := fnT (sm 16 13) (.ofString "__exit__") (.ofString "StringIO.__exit__")
noncomputable def o482S3 (P : Params) : Obj := ⟨.type "code", none, .fields #[.str (.ofString "__exit__") 894, .str (.ofString "StringIO.__exit__") 895, .str (.ofString "/claim/cut.py") 896, .int 312 0, .int 1 0, .int 0 0, .int 0 0, .int 7 0, .ref 477, .bool true, .int 318 0, .ref 478, .none, .ref 479, .ref 480, .ref 481, .int 899 0, .int 312 0, .str (.ofString "/claim/cut.py") 900], #[]⟩
noncomputable def o483S3 (P : Params) : Obj := fnO (.type "function") (sm 16 13) (.ofString "__exit__") (.ofString "StringIO.__exit__") .none .none .none (.str (.ofString "io") 407) none (.ref 482) .none
noncomputable def o486S3 (P : Params) : Obj := ⟨.type "tuple", none, .seq #[.str (.ofString "self") 905] 0, #[]⟩
noncomputable def o488S3 (P : Params) : Obj := fnT (sm 16 14) (.ofString "readable") (.ofString "StringIO.readable")
noncomputable def o489S3 (P : Params) : Obj := ⟨.type "code", none, .fields #[.str (.ofString "readable") 902, .str (.ofString "StringIO.readable") 903, .str (.ofString "/claim/cut.py") 904, .int 315 0, .int 1 0, .int 0 0, .int 0 0, .int 3 0, .ref 484, .bool true, .int 318 0, .ref 485, .none, .ref 486, .ref 487, .ref 488, .int 906 0, .int 315 0, .str (.ofString "/claim/cut.py") 907], #[]⟩
noncomputable def o490S3 (P : Params) : Obj := fnO (.type "function") (sm 16 14) (.ofString "readable") (.ofString "StringIO.readable") .none .none .none (.str (.ofString "io") 407) none (.ref 489) .none
noncomputable def o493S3 (P : Params) : Obj := ⟨.type "tuple", none, .seq #[.str (.ofString "self") 912] 0, #[]⟩
noncomputable def o495S3 (P : Params) : Obj := fnT (sm 16 15) (.ofString "writable") (.ofString "StringIO.writable")
noncomputable def o496S3 (P : Params) : Obj := ⟨.type "code", none, .fields #[.str (.ofString "writable") 909, .str (.ofString "StringIO.writable") 910, .str (.ofString "/claim/cut.py") 911, .int 319 0, .int 1 0, .int 0 0, .int 0 0, .int 3 0, .ref 491, .bool true, .int 318 0, .ref 492, .none, .ref 493, .ref 494, .ref 495, .int 913 0, .int 319 0, .str (.ofString "/claim/cut.py") 914], #[]⟩
noncomputable def o497S3 (P : Params) : Obj := fnO (.type "function") (sm 16 15) (.ofString "writable") (.ofString "StringIO.writable") .none .none .none (.str (.ofString "io") 407) none (.ref 496) .none
noncomputable def o500S3 (P : Params) : Obj := ⟨.type "tuple", none, .seq #[.str (.ofString "self") 919] 0, #[]⟩
noncomputable def o502S3 (P : Params) : Obj := fnT (sm 16 16) (.ofString "seekable") (.ofString "StringIO.seekable")
noncomputable def o503S3 (P : Params) : Obj := ⟨.type "code", none, .fields #[.str (.ofString "seekable") 916, .str (.ofString "StringIO.seekable") 917, .str (.ofString "/claim/cut.py") 918, .int 323 0, .int 1 0, .int 0 0, .int 0 0, .int 3 0, .ref 498, .bool true, .int 318 0, .ref 499, .none, .ref 500, .ref 501, .ref 502, .int 920 0, .int 323 0, .str (.ofString "/claim/cut.py") 921], #[]⟩
noncomputable def o504S3 (P : Params) : Obj := fnO (.type "function") (sm 16 16) (.ofString "seekable") (.ofString "StringIO.seekable") .none .none .none (.str (.ofString "io") 407) none (.ref 503) .none
noncomputable def o507S3 (P : Params) : Obj := ⟨.type "tuple", none, .seq #[.str (.ofString "self") 926] 0, #[]⟩
noncomputable def o509S3 (P : Params) : Obj := fnT (sm 16 17) (.ofString "isatty") (.ofString "StringIO.isatty")
noncomputable def o510S3 (P : Params) : Obj := ⟨.type "code", none, .fields #[.str (.ofString "isatty") 923, .str (.ofString "StringIO.isatty") 924, .str (.ofString "/claim/cut.py") 925, .int 327 0, .int 1 0, .int 0 0, .int 0 0, .int 3 0, .ref 505, .bool true, .int 318 0, .ref 506, .none, .ref 507, .ref 508, .ref 509, .int 927 0, .int 327 0, .str (.ofString "/claim/cut.py") 928], #[]⟩
noncomputable def o511S3 (P : Params) : Obj := fnO (.type "function") (sm 16 17) (.ofString "isatty") (.ofString "StringIO.isatty") .none .none .none (.str (.ofString "io") 407) none (.ref 510) .none
noncomputable def o514S3 (P : Params) : Obj := ⟨.type "tuple", none, .seq #[.str (.ofString "self") 933] 0, #[]⟩
noncomputable def o516S3 (P : Params) : Obj := fnT (sm 16 18) (.ofString "flush") (.ofString "StringIO.flush")
noncomputable def o517S3 (P : Params) : Obj := ⟨.type "code", none, .fields #[.str (.ofString "flush") 930, .str (.ofString "StringIO.flush") 931, .str (.ofString "/claim/cut.py") 932, .int 331 0, .int 1 0, .int 0 0, .int 0 0, .int 3 0, .ref 512, .bool true, .int 318 0, .ref 513, .none, .ref 514, .ref 515, .ref 516, .int 934 0, .int 331 0, .str (.ofString "/claim/cut.py") 935], #[]⟩
noncomputable def o518S3 (P : Params) : Obj := fnO (.type "function") (sm 16 18) (.ofString "flush") (.ofString "StringIO.flush") .none .none .none (.str (.ofString "io") 407) none (.ref 517) .none
noncomputable def o521S3 (P : Params) : Obj := ⟨.type "tuple", none, .seq #[.str (.ofString "self") 940] 0, #[]⟩
noncomputable def o523S3 (P : Params) : Obj := fnT (sm 16 19) (.ofString "fileno") (.ofString "StringIO.fileno")
noncomputable def o524S3 (P : Params) : Obj := ⟨.type "code", none, .fields #[.str (.ofString "fileno") 937, .str (.ofString "StringIO.fileno") 938, .str (.ofString "/claim/cut.py") 939, .int 334 0, .int 1 0, .int 0 0, .int 0 0, .int 3 0, .ref 519, .bool true, .int 318 0, .ref 520, .none, .ref 521, .ref 522, .ref 523, .int 941 0, .int 334 0, .str (.ofString "/claim/cut.py") 942], #[]⟩
noncomputable def o525S3 (P : Params) : Obj := fnO (.type "function") (sm 16 19) (.ofString "fileno") (.ofString "StringIO.fileno") .none .none .none (.str (.ofString "io") 407) none (.ref 524) .none
noncomputable def o528S3 (P : Params) : Obj := ⟨.type "tuple", none, .seq #[.str (.ofString "self") 947] 0, #[]⟩
noncomputable def o530S3 (P : Params) : Obj := fnT (sm 16 20) (.ofString "detach") (.ofString "StringIO.detach")
noncomputable def o531S3 (P : Params) : Obj := ⟨.type "code", none, .fields #[.str (.ofString "detach") 944, .str (.ofString "StringIO.detach") 945, .str (.ofString "/claim/cut.py") 946, .int 337 0, .int 1 0, .int 0 0, .int 0 0, .int 3 0, .ref 526, .bool true, .int 318 0, .ref 527, .none, .ref 528, .ref 529, .ref 530, .int 948 0, .int 337 0, .str (.ofString "/claim/cut.py") 949], #[]⟩
noncomputable def o532S3 (P : Params) : Obj := fnO (.type "function") (sm 16 20) (.ofString "detach") (.ofString "StringIO.detach") .none .none .none (.str (.ofString "io") 407) none (.ref 531) .none
noncomputable def o535S3 (P : Params) : Obj := ⟨.type "tuple", none, .seq #[.str (.ofString "self") 954] 0, #[]⟩
noncomputable def o537S3 (P : Params) : Obj := fnT (sm 16 21) (.ofString "getvalue") (.ofString "StringIO.getvalue")
noncomputable def o538S3 (P : Params) : Obj := ⟨.type "code", none, .fields #[.str (.ofString "getvalue") 951, .str (.ofString "StringIO.getvalue") 952, .str (.ofString "/claim/cut.py") 953, .int 340 0, .int 1 0, .int 0 0, .int 0 0, .int 3 0, .ref 533, .bool true, .int 318 0, .ref 534, .none, .ref 535, .ref 536, .ref 537, .int 955 0, .int 340 0, .str (.ofString "/claim/cut.py") 956], #[]⟩
noncomputable def o539S3 (P : Params) : Obj := fnO (.type "function") (sm 16 21) (.ofString "getvalue") (.ofString "StringIO.getvalue") .none .none .none (.str (.ofString "io") 407) none (.ref 538) .none
noncomputable def o542S3 (P : Params) : Obj := ⟨.type "tuple", none, .seq #[.str (.ofString "self") 961] 0, #[]⟩
noncomputable def o544S3 (P : Params) : Obj := fnT (sm 16 22) (.ofString "tell") (.ofString "StringIO.tell")
noncomputable def o545S3 (P : Params) : Obj := ⟨.type "code", none, .fields #[.str (.ofString "tell") 958, .str (.ofString "StringIO.tell") 959, .str (.ofString "/claim/cut.py") 960, .int 343 0, .int 1 0, .int 0 0, .int 0 0, .int 3 0, .ref 540, .bool true, .int 318 0, .ref 541, .none, .ref 542, .ref 543, .ref 544, .int 962 0, .int 343 0, .str (.ofString "/claim/cut.py") 963], #[]⟩
noncomputable def o546S3 (P : Params) : Obj := fnO (.type "function") (sm 16 22) (.ofString "tell") (.ofString "StringIO.tell") .none .none .none (.str (.ofString "io") 407) none (.ref 545) .none
noncomputable def o547S3 (P : Params) : Obj := ⟨.type "tuple", none, .seq #[.int 0 965] 0, #[]⟩
noncomputable def o550S3 (P : Params) : Obj := ⟨.type "tuple", none, .seq #[.str (.ofString "self") 969, .str (.ofString "pos") 970, .str (.ofString "whence") 971] 0, #[]⟩
noncomputable def o552S3 (P : Params) : Obj := fnT (sm 16 23) (.ofString "seek") (.ofString "StringIO.seek")
noncomputable def o553S3 (P : Params) : Obj := ⟨.type "code", none, .fields #[.str (.ofString "seek") 966, .str (.ofString "StringIO.seek") 967, .str (.ofString "/claim/cut.py") 968, .int 347 0, .int 3 0, .int 3 0, .int 0 0, .int 3 0, .ref 548, .bool true, .int 318 0, .ref 549, .none, .ref 550, .ref 551, .ref 552, .int 972 0, .int 347 0, .str (.ofString "/claim/cut.py") 973], #[]⟩
noncomputable def o554S3 (P : Params) : Obj := fnO (.type "function") (sm 16 23) (.ofString "seek") (.ofString "StringIO.seek") (.ref 547) .none .none (.str (.ofString "io") 407) none (.ref 553) .none
noncomputable def o558S3 (P : Params) : Obj := ⟨.type "tuple", none, .seq #[.str (.ofString "self") 978, .str (.ofString "pos") 979] 0, #[]⟩
noncomputable def o560S3 (P : Params) : Obj := fnT (sm 16 24) (.ofString "truncate") (.ofString "StringIO.truncate")
noncomputable def o561S3 (P : Params) : Obj := ⟨.type "code", none, .fields #[.str (.ofString "truncate") 975, .str (.ofString "StringIO.truncate") 976, .str (.ofString "/claim/cut.py") 977, .int 364 0, .int 2 0, .int 2 0, .int 0 0, .int 3 0, .ref 556, .bool true, .int 318 0, .ref 557, .none, .ref 558, .ref 559, .ref 560, .int 980 0, .int 364 0, .str (.ofString "/claim/cut.py") 981], #[]⟩
noncomputable def o562S3 (P : Params) : Obj := fnO (.type "function") (sm 16 24) (.ofString "truncate") (.ofString "StringIO.truncate") (.ref 555) .none .none (.str (.ofString "io") 407) none (.ref 561) .none
noncomputable def o563S3 (P : Params) : Obj := ⟨.type "tuple", none, .seq #[.int (-1) 984] 0, #[]⟩
noncomputable def o566S3 (P : Params) : Obj := ⟨.type "tuple", none, .seq #[.str (.ofString "self") 988, .str (.ofString "size") 989, .str (.ofString "start") 990, .str (.ofString "stop") 991] 0, #[]⟩
noncomputable def o568S3 (P : Params) : Obj := fnT (sm 16 25) (.ofString "read") (.ofString "StringIO.read")
noncomputable def o569S3 (P : Params) : Obj := ⟨.type "code", none, .fields #[.str (.ofString "read") 985, .str (.ofString "StringIO.read") 986, .str (.ofString "/claim/cut.py") 987, .int 367 0, .int 2 0, .int 2 0, .int 0 0, .int 3 0, .ref 564, .bool true, .int 318 0, .ref 565, .none, .ref 566, .ref 567, .ref 568, .int 992 0, .int 367 0, .str (.ofString "/claim/cut.py") 993], #[]⟩
noncomputable def o570S3 (P : Params) : Obj := fnO (.type "function") (sm 16 25) (.ofString "read") (.ofString "StringIO.read") (.ref 563) .none .none (.str (.ofString "io") 407) none (.ref 569) .none
noncomputable def o571S3 (P : Params) : Obj := ⟨.type "tuple", none, .seq #[.int (-1) 996] 0, #[]⟩
noncomputable def o574S3 (P : Params) : Obj := ⟨.type "tuple", none, .seq #[.str (.ofString "self") 1000, .str (.ofString "size") 1001] 0, #[]⟩
noncomputable def o576S3 (P : Params) : Obj := fnT (sm 16 26) (.ofString "readline") (.ofString "StringIO.readline")
noncomputable def o577S3 (P : Params) : Obj := ⟨.type "code", none, .fields #[.str (.ofString "readline") 997, .str (.ofString "StringIO.readline") 998, .str (.ofString "/claim/cut.py") 999, .int 381 0, .int 2 0, .int 2 0, .int 0 0, .int 3 0, .ref 572, .bool true, .int 318 0, .ref 573, .none, .ref 574, .ref 575, .ref 576, .int 1002 0, .int 381 0, .str (.ofString "/claim/cut.py") 1003], #[]⟩
noncomputable def o578S3 (P : Params) : Obj := fnO (.type "function") (sm 16 26) (.ofString "readline") (.ofString "StringIO.readline") (.ref 571) .none .none (.str (.ofString "io") 407) none (.ref 577) .none
noncomputable def o579S3 (P : Params) : Obj := ⟨.type "tuple", none, .seq #[.int (-1) 1006] 0, #[]⟩
noncomputable def o582S3 (P : Params) : Obj := ⟨.type "tuple", none, .seq #[.str (.ofString "self") 1010, .str (.ofString "hint") 1011] 0, #[]⟩
noncomputable def o584S3 (P : Params) : Obj := fnT (sm 16 27) (.ofString "readlines") (.ofString "StringIO.readlines")
noncomputable def o585S3 (P : Params) : Obj := ⟨.type "code", none, .fields #[.str (.ofString "readlines") 1007, .str (.ofString "StringIO.readlines") 1008, .str (.ofString "/claim/cut.py") 1009, .int 388 0, .int 2 0, .int 2 0, .int 0 0, .int 3 0, .ref 580, .bool true, .int 318 0, .ref 581, .none, .ref 582, .ref 583, .ref 584, .int 1012 0, .int 388 0, .str (.ofString "/claim/cut.py") 1013], #[]⟩
noncomputable def o586S3 (P : Params) : Obj := fnO (.type "function") (sm 16 27) (.ofString "readlines") (.ofString "StringIO.readlines") (.ref 579) .none .none (.str (.ofString "io") 407) none (.ref 585) .none
noncomputable def o589S3 (P : Params) : Obj := ⟨.type "tuple", none, .seq #[.str (.ofString "self") 1018] 0, #[]⟩
noncomputable def o591S3 (P : Params) : Obj := fnT (sm 16 28) (.ofString "__iter__") (.ofString "StringIO.__iter__")
noncomputable def o592S3 (P : Params) : Obj := ⟨.type "code", none, .fields #[.str (.ofString "__iter__") 1015, .str (.ofString "StringIO.__iter__") 1016, .str (.ofString "/claim/cut.py") 1017, .int 391 0, .int 1 0, .int 0 0, .int 0 0, .int 3 0, .ref 587, .bool true, .int 318 0, .ref 588, .none, .ref 589, .ref 590, .ref 591, .int 1019 0, .int 391 0, .str (.ofString "/claim/cut.py") 1020], #[]⟩
noncomputable def o593S3 (P : Params) : Obj := fnO (.type "function") (sm 16 28) (.ofString "__iter__") (.ofString "StringIO.__iter__") .none .none .none (.str (.ofString "io") 407) none (.ref 592) .none
noncomputable def o596S3 (P : Params) : Obj := ⟨.type "tuple", none, .seq #[.str (.ofString "self") 1025, .str (.ofString "line") 1026] 0, #[]⟩
noncomputable def o598S3 (P : Params) : Obj := fnT (sm 16 29) (.ofString "__next__") (.ofString "StringIO.__next__")
noncomputable def o599S3 (P : Params) : Obj := ⟨.type "code", none, .fields #[.str (.ofString "__next__") 1022, .str (.ofString "StringIO.__next__") 1023, .str (.ofString "/claim/cut.py") 1024, .int 395 0, .int 1 0, .int 0 0, .int 0 0, .int 3 0, .ref 594, .bool true, .int 318 0, .ref 595, .none, .ref 596, .ref 597, .ref 598, .int 1027 0, .int 395 0, .str (.ofString "/claim/cut.py") 1028], #[]⟩
noncomputable def o600S3 (P : Params) : Obj := fnO (.type "function") (sm 16 29) (.ofString "__next__") (.ofString "StringIO.__next__") .none .none .none (.str (.ofString "io") 407) none (.ref 599) .none
noncomputable def o603S3 (P : Params) : Obj := ⟨.type "tuple", none, .seq #[.str (.ofString "self") 1033, .str (.ofString "s") 1034, .str (.ofString "n") 1035, .str (.ofString "m") 1036, .str (.ofString "start") 1037, .str (.ofString "buf") 1038] 0, #[]⟩
noncomputable def o605S3 (P : Params) : Obj := fnT (sm 16 30) (.ofString "write") (.ofString "StringIO.write")
noncomputable def o606S3 (P : Params) : Obj := ⟨.type "code", none, .fields #[.str (.ofString "write") 1030, .str (.ofString "StringIO.write") 1031, .str (.ofString "/claim/cut.py") 1032, .int 402 0, .int 2 0, .int 2 0, .int 0 0, .int 3 0, .ref 601, .bool true, .int 318 0, .ref 602, .none, .ref 603, .ref 604, .ref 605, .int 1039 0, .int 402 0, .str (.ofString "/claim/cut.py") 1040], #[]⟩
noncomputable def o607S3 (P : Params) : Obj := fnO (.type "function") (sm 16 30) (.ofString "write") (.ofString "StringIO.write") .none .none .none (.str (.ofString "io") 407) none (.ref 606) .none
noncomputable def o610S3 (P : Params) : Obj := ⟨.type "tuple", none, .seq #[.str (.ofString "self") 1045, .str (.ofString "lines") 1046] 0, #[]⟩
noncomputable def o612S3 (P : Params) : Obj := fnT (sm 16 31) (.ofString "writelines") (.ofString "StringIO.writelines")
noncomputable def o613S3 (P : Params) : Obj := ⟨.type "code", none, .fields #[.str (.ofString "writelines") 1042, .str (.ofString "StringIO.writelines") 1043, .str (.ofString "/claim/cut.py") 1044, .int 421 0, .int 2 0, .int 2 0, .int 0 0, .int 3 0, .ref 608, .bool true, .int 318 0, .ref 609, .none, .ref 610, .ref 611, .ref 612, .int 1047 0, .int 421 0, .str (.ofString "/claim/cut.py") 1048], #[]⟩
noncomputable def o614S3 (P : Params) : Obj := fnO (.type "function") (sm 16 31) (.ofString "writelines") (.ofString "StringIO.writelines") .none .none .none (.str (.ofString "io") 407) none (.ref 613) .none
noncomputable def o617S3 (P : Params) : Obj := ⟨.type "tuple", none, .seq #[.str (.ofString "self") 1053] 0, #[]⟩
noncomputable def o619S3 (P : Params) : Obj := fnT (sm 16 32) (.ofString "__repr__") (.ofString "StringIO.__repr__")
noncomputable def o620S3 (P : Params) : Obj := ⟨.type "code", none, .fields #[.str (.ofString "__repr__") 1050, .str (.ofString "StringIO.__repr__") 1051, .str (.ofString "/claim/cut.py") 1052, .int 424 0, .int 1 0, .int 0 0, .int 0 0, .int 3 0, .ref 615, .bool true, .int 318 0, .ref 616, .none, .ref 617, .ref 618, .ref 619, .int 1054 0, .int 424 0, .str (.ofString "/claim/cut.py") 1055], #[]⟩
noncomputable def o621S3 (P : Params) : Obj := fnO (.type "function") (sm 16 32) (.ofString "__repr__") (.ofString "StringIO.__repr__") .none .none .none (.str (.ofString "io") 407) none (.ref 620) .none
noncomputable def o622S3 (P : Params) : Obj := ⟨.type "tuple", none, .seq #[.str (.ofString "__buf") 1057, .str (.ofString "__newline") 1058, .str (.ofString "__pos") 1059] 0, #[]⟩
noncomputable def o623S3 (P : Params) : Obj := ⟨.type "dict", none, .dict #[⟨PyData.keyHash P (.ofString "__module__"), .str (.ofString "__module__") 784, .str (.ofString "_io") 789⟩, ⟨PyData.keyHash P (.ofString "__firstlineno__"), .str (.ofString "__firstlineno__") 788, .int 221 787⟩, ⟨PyData.keyHash P (.ofString "__init__"), .str (.ofString "__init__") 801, .ref 394⟩, ⟨PyData.keyHash P (.ofString "_StringIO__translated"), .str (.ofString "_StringIO__translated") 810, .ref 401⟩, ⟨PyData.keyHash P (.ofString "_StringIO__check"), .str (.ofString "_StringIO__check") 817, .ref 408⟩, ⟨PyData.keyHash P (.ofString "_StringIO__check_dot"), .str (.ofString "_StringIO__check_dot") 824, .ref 415⟩, ⟨PyData.keyHash P (.ofString "_StringIO__line"), .str (.ofString "_StringIO__line") 839, .ref 422⟩, ⟨PyData.keyHash P (.ofString "closed"), .str (.ofString "closed") 847, .ref 430⟩, ⟨PyData.keyHash P (.ofString "line_buffering"), .str (.ofString "line_buffering") 855, .ref 438⟩, ⟨PyData.keyHash P (.ofString "newlines"), .str (.ofString "newlines") 863, .ref 446⟩, ⟨PyData.keyHash P (.ofString "encoding"), .str (.ofString "encoding") 871, .ref 454⟩, ⟨PyData.keyHash P (.ofString "errors"), .str (.ofString "errors") 879, .ref 462⟩, ⟨PyData.keyHash P (.ofString "close"), .str (.ofString "close") 886, .ref 469⟩, ⟨PyData.keyHash P (.ofString "__enter__"), .str (.ofString "__enter__") 893, .ref 476⟩, ⟨PyData.keyHash P (.ofString "__exit__"), .str (.ofString "__exit__") 901, .ref 483⟩, ⟨PyData.keyHash P (.ofString "readable"), .str (.ofString "readable") 908, .ref 490⟩, ⟨PyData.keyHash P (.ofString "writable"), .str (.ofString "writable") 915, .ref 497⟩, ⟨PyData.keyHash P (.ofString "seekable"), .str (.ofString "seekable") 922, .ref 504⟩, ⟨PyData.keyHash P (.ofString "isatty"), .str (.ofString "isatty") 929, .ref 511⟩, ⟨PyData.keyHash P (.ofString "flush"), .str (.ofString "flush") 936, .ref 518⟩, ⟨PyData.keyHash P (.ofString "fileno"), .str (.ofString "fileno") 943, .ref 525⟩, ⟨PyData.keyHash P (.ofString "detach"), .str (.ofString "detach") 950, .ref 532⟩, ⟨PyData.keyHash P (.ofString "getvalue"), .str (.ofString "getvalue") 957, .ref 539⟩, ⟨PyData.keyHash P (.ofString "tell"), .str (.ofString "tell") 964, .ref 546⟩, ⟨PyData.keyHash P (.ofString "seek"), .str (.ofString "seek") 974, .ref 554⟩, ⟨PyData.keyHash P (.ofString "truncate"), .str (.ofString "truncate") 982, .ref 562⟩, ⟨PyData.keyHash P (.ofString "read"), .str (.ofString "read") 994, .ref 570⟩, ⟨PyData.keyHash P (.ofString "readline"), .str (.ofString "readline") 1004, .ref 578⟩, ⟨PyData.keyHash P (.ofString "readlines"), .str (.ofString "readlines") 1014, .ref 586⟩, ⟨PyData.keyHash P (.ofString "__iter__"), .str (.ofString "__iter__") 1021, .ref 593⟩, ⟨PyData.keyHash P (.ofString "__next__"), .str (.ofString "__next__") 1029, .ref 600⟩, ⟨PyData.keyHash P (.ofString "write"), .str (.ofString "write") 1041, .ref 607⟩, ⟨PyData.keyHash P (.ofString "writelines"), .str (.ofString "writelines") 1049, .ref 614⟩, ⟨PyData.keyHash P (.ofString "__repr__"), .str (.ofString "__repr__") 1056, .ref 621⟩, ⟨PyData.keyHash P (.ofString "__static_attributes__"), .str (.ofString "__static_attributes__") 1060, .ref 622⟩, ⟨PyData.keyHash P (.ofString "__doc__"), .str (.ofString "__doc__") 1061, .none⟩] 2, #[]⟩
noncomputable def o624S3 (P : Params) : Obj := ⟨.type "type", none, .cls ⟨(.ofString "StringIO"), [.ref 147], [.ref 624, .ref 147, .ref 120, .type "object"], 623, (.ofString "StringIO"), true, [], [], false, none, false⟩, #[some (.ref 380), none, some (.str (.ofString "StringIO") 777), some (.str (.ofString "StringIO") 785), some .none, some (.bool true)]⟩
noncomputable def o625S3 (P : Params) : Obj := ⟨.type "super", none, .fields #[.ref 624, .ref 624, .ref 624], #[]⟩
noncomputable def o626S3 (P : Params) : Obj := ⟨.type "builtin_function_or_method", none, .fields #[.builtin "object.__init_subclass__", .ref 624], #[]⟩
noncomputable def o3S4 (P : Params) : Obj := ⟨.type "dict", none, .dict #[⟨PyData.keyHash P (.ofString "__name__"), .str (.ofString "__name__") 165, .str (.ofString "law_ny0341_01") 1291⟩, ⟨PyData.keyHash P (.ofString "__doc__"), .str (.ofString "__doc__") 166, .none⟩, ⟨PyData.keyHash P (.ofString "__package__"), .str (.ofString "__package__") 167, .none⟩, ⟨PyData.keyHash P (.ofString "__loader__"), .str (.ofString "__loader__") 168, .builtin "__main__.__loader__#op\x61que"⟩, ⟨PyData.keyHash P (.ofString "__spec__"), .str (.ofString "__spec__") 169, .none⟩, ⟨PyData.keyHash P (.ofString "__annotations__"), .str (.ofString "__annotations__") 170, .ref 6⟩, ⟨PyData.keyHash P (.ofString "__builtins__"), .str (.ofString "__builtins__") 171, .ref 4⟩, ⟨PyData.keyHash P (.ofString "__file__"), .str (.ofString "__file__") 173, .str (.ofString "/claim/cut.py") 172⟩, ⟨PyData.keyHash P (.ofString "__cached__"), .str (.ofString "__cached__") 174, .none⟩, ⟨PyData.keyHash P (.ofString "_sre"), .str (.ofString "_sre") 275, .ref 12⟩, ⟨PyData.keyHash P (.ofString "deque"), .str (.ofString "deque") 317, .type "collections.deque"⟩, ⟨PyData.keyHash P (.ofString "_wall"), .str (.ofString "_wall") 330, .ref 44⟩, ⟨PyData.keyHash P (.ofString "StatisticsError"), .str (.ofString "StatisticsError") 350, .ref 54⟩, ⟨PyData.keyHash P (.ofString "median_low"), .str (.ofString "median_low") 358, .ref 64⟩, ⟨PyData.keyHash P (.ofString "median_high"), .str (.ofString "median_high") 366, .ref 71⟩, ⟨PyData.keyHash P (.ofString "_twin_re_1"), .str (.ofString "_twin_re_1") 406, .ref 76⟩, ⟨PyData.keyHash P (.ofString "_whence"), .str (.ofString "_whence") 416, .ref 83⟩, ⟨PyData.keyHash P (.ofString "_index"), .str (.ofString "_index") 424, .ref 90⟩, ⟨PyData.keyHash P (.ofString "UnsupportedOperation"), .str (.ofString "UnsupportedOperation") 446, .ref 100⟩, ⟨PyData.keyHash P (.ofString "IOBase"), .str (.ofString "IOBase") 478, .ref 120⟩, ⟨PyData.keyHash P (.ofString "BufferedIOBase"), .str (.ofString "BufferedIOBase") 496, .ref 135⟩, ⟨PyData.keyHash P (.ofString "TextIOBase"), .str (.ofString "TextIOBase") 514, .ref 147⟩, ⟨PyData.keyHash P (.ofString "BytesIO"), .str (.ofString "BytesIO") 776, .ref 377⟩, ⟨PyData.keyHash P (.ofString "StringIO"), .str (.ofString "StringIO") 1063, .ref 624⟩, ⟨PyData.keyHash P (.ofString "_kind"), .str (.ofString "_kind") 1074, .ref 633⟩, ⟨PyData.keyHash P (.ofString "_fspath"), .str (.ofString "_fspath") 1083, .ref 640⟩, ⟨PyData.keyHash P (.ofString "_check_arg_types"), .str (.ofString "_check_arg_types") 1093, .ref 647⟩, ⟨PyData.keyHash P (.ofString "isabs"), .str (.ofString "isabs") 1100, .ref 654⟩, ⟨PyData.keyHash P (.ofString "join"), .str (.ofString "join") 1111, .ref 778⟩, ⟨PyData.keyHash P (.ofString "join_path"), .str (.ofString "join_path") 1112, .ref 661⟩, ⟨PyData.keyHash P (.ofString "dirname"), .str (.ofString "dirname") 1122, .ref 668⟩, ⟨PyData.keyHash P (.ofString "shlex"), .str (.ofString "shlex") 1263, .ref 759⟩, ⟨PyData.keyHash P (.ofString "split"), .str (.ofString "split") 1273, .ref 771⟩, ⟨PyData.keyHash P (.ofString "join_shlex"), .str (.ofString "join_shlex") 1281, .ref 778⟩, ⟨PyData.keyHash P (.ofString "_find_unsafe"), .str (.ofString "_find_unsafe") 1283, .ref 779⟩, ⟨PyData.keyHash P (.ofString "quote"), .str (.ofString "quote") 1290, .ref 786⟩, ⟨PyData.keyHash P (.ofString "_law_word"), .str (.ofString "_law_word") 1300, .ref 793⟩, ⟨PyData.keyHash P (.ofString "_law_run"), .str (.ofString "_law_run") 1312, .ref 800⟩, ⟨PyData.keyHash P (.ofString "_law_holds"), .str (.ofString "_law_holds") 1318, .ref 805⟩, ⟨PyData.keyHash P (.ofString "_law_quoted"), .str (.ofString "_law_quoted") 1324, .ref 810⟩, ⟨PyData.keyHash P (.ofString "_law_checked"), .str (.ofString "_law_checked") 1330, .ref 815⟩, ⟨PyData.keyHash P (.ofString "law"), .str (.ofString "law") 1336, .ref 820⟩] 42, #[]⟩
noncomputable def o35S4 (P : Params) : Obj := ⟨.none, none, .fields #[.int 3 0, .int 0 0, .ref 43, .int 7 0, .int 0 0, .ref 50, .int 9 0, .int 0 0, .ref 63, .int 18 0, .int 0 0, .ref 70, .int 26 0, .int 0 0, .ref 82, .int 31 0, .int 0 0, .ref 89, .int 38 0, .int 0 0, .ref 96, .int 40 0, .int 0 0, .ref 109, .int 47 0, .int 0 0, .ref 131, .int 49 0, .int 0 0, .ref 143, .int 51 0, .int 0 0, .ref 155, .int 221 0, .int 0 0, .ref 385, .int 427 0, .int 0 0, .ref 632, .int 448 0, .int 0 0, .ref 639, .int 453 0, .int 0 0, .ref 646, .int 458 0, .int 0 0, .ref 653, .int 461 0, .int 0 0, .ref 660, .int 482 0, .int 0 0, .ref 667, .int 491 0, .int 0 0, .ref 674, .int 743 0, .int 0 0, .ref 770, .int 751 0, .int 0 0, .ref 777, .int 755 0, .int 0 0, .ref 785, .int 762 0, .int 0 0, .ref 792, .int 765 0, .int 0 0, .ref 799, .int 778 0, .int 0 0, .ref 804, .int 783 0, .int 0 0, .ref 809, .int 787 0, .int 0 0, .ref 814, .int 797 0, .int 0 0, .ref 819], #[]⟩
noncomputable def o629S4 (P : Params) : Obj := ⟨.type "tuple", none, .seq #[.str (.ofString "name") 1069, .str (.ofString "x") 1070, .str (.ofString "t") 1071] 0, #[]⟩
noncomputable def o631S4 (P : Params) : Obj := fnT (st 18) (.ofString "_kind") (.ofString "_kind")
noncomputable def o632S4 (P : Params) : Obj := ⟨.type "code", none, .fields #[.str (.ofString "_kind") 1066, .str (.ofString "_kind") 1067, .str (.ofString "/claim/cut.py") 1068, .int 427 0, .int 2 0, .int 0 0, .int 0 0, .int 3 0, .ref 627, .bool true, .int 318 0, .ref 628, .none, .ref 629, .ref 630, .ref 631, .int 1072 0, .int 427 0, .str (.ofString "/claim/cut.py") 1073], #[]⟩
noncomputable def o633S4 (P : Params) : Obj := fnO (.type "function") (st 18) (.ofString "_kind") (.ofString "_kind") .none .none .none (.str (.ofString "os.path") 1064) none (.ref 632) .none
noncomputable def o636S4 (P : Params) : Obj := ⟨.type "tuple", none, .seq #[.str (.ofString "name") 1078, .str (.ofString "x") 1079, .str (.ofString "k") 1080] 0, #[]⟩
noncomputable def o638S4 (P : Params) : Obj := fnT (st 19) (.ofString "_fspath") (.ofString "_fspath")
noncomputable def o639S4 (P : Params) : Obj := ⟨.type "code", none, .fields #[.str (.ofString "_fspath") 1075, .str (.ofString "_fspath") 1076, .str (.ofString "/claim/cut.py") 1077, .int 448 0, .int 2 0, .int 0 0, .int 0 0, .int 3 0, .ref 634, .bool true, .int 318 0, .ref 635, .none, .ref 636, .ref 637, .ref 638, .int 1081 0, .int 448 0, .str (.ofString "/claim/cut.py") 1082], #[]⟩
noncomputable def o640S4 (P : Params) : Obj := fnO (.type "function") (st 19) (.ofString "_fspath") (.ofString "_fspath") .none .none .none (.str (.ofString "os.path") 1064) none (.ref 639) .none
noncomputable def o643S4 (P : Params) : Obj := ⟨.type "tuple", none, .seq #[.str (.ofString "funcname") 1087, .str (.ofString "args") 1088, .str (.ofString "s") 1089, .str (.ofString "k") 1090] 0, #[]⟩
noncomputable def o645S4 (P : Params) : Obj := fnT (st 20) (.ofString "_check_arg_types") (.ofString "_check_arg_types")
noncomputable def o646S4 (P : Params) : Obj := ⟨.type "code", none, .fields #[.str (.ofString "_check_arg_types") 1084, .str (.ofString "_check_arg_types") 1085, .str (.ofString "/claim/cut.py") 1086, .int 453 0, .int 1 0, .int 0 0, .int 0 0, .int 7 0, .ref 641, .bool true, .int 318 0, .ref 642, .none, .ref 643, .ref 644, .ref 645, .int 1091 0, .int 453 0, .str (.ofString "/claim/cut.py") 1092], #[]⟩
noncomputable def o647S4 (P : Params) : Obj := fnO (.type "function") (st 20) (.ofString "_check_arg_types") (.ofString "_check_arg_types") .none .none .none (.str (.ofString "os.path") 1064) none (.ref 646) .none
noncomputable def o650S4 (P : Params) : Obj := ⟨.type "tuple", none, .seq #[.str (.ofString "s") 1097] 0, #[]⟩
noncomputable def o652S4 (P : Params) : Obj := fnT (st 21) (.ofString "isabs") (.ofString "isabs")
noncomputable def o653S4 (P : Params) : Obj := ⟨.type "code", none, .fields #[.str (.ofString "isabs") 1094, .str (.ofString "isabs") 1095, .str (.ofString "/claim/cut.py") 1096, .int 458 0, .int 1 0, .int 0 0, .int 0 0, .int 3 0, .ref 648, .bool true, .int 318 0, .ref 649, .none, .ref 650, .ref 651, .ref 652, .int 1098 0, .int 458 0, .str (.ofString "/claim/cut.py") 1099], #[]⟩
noncomputable def o654S4 (P : Params) : Obj := fnO (.type "function") (st 21) (.ofString "isabs") (.ofString "isabs") .none .none .none (.str (.ofString "os.path") 1064) none (.ref 653) .none
noncomputable def o657S4 (P : Params) : Obj := ⟨.type "tuple", none, .seq #[.str (.ofString "a") 1104, .str (.ofString "p") 1105, .str (.ofString "b") 1106, .str (.ofString "sep") 1107, .str (.ofString "path") 1108] 0, #[]⟩
noncomputable def o659S4 (P : Params) : Obj := fnT (st 22) (.ofString "join") (.ofString "join")
noncomputable def o660S4 (P : Params) : Obj := ⟨.type "code", none, .fields #[.str (.ofString "join") 1101, .str (.ofString "join") 1102, .str (.ofString "/claim/cut.py") 1103, .int 461 0, .int 1 0, .int 0 0, .int 0 0, .int 7 0, .ref 655, .bool true, .int 318 0, .ref 656, .none, .ref 657, .ref 658, .ref 659, .int 1109 0, .int 461 0, .str (.ofString "/claim/cut.py") 1110], #[]⟩
noncomputable def o661S4 (P : Params) : Obj := fnO (.type "function") (st 22) (.ofString "join") (.ofString "join") .none .none .none (.str (.ofString "os.path") 1064) none (.ref 660) .none
noncomputable def o664S4 (P : Params) : Obj := ⟨.type "tuple", none, .seq #[.str (.ofString "p") 1116, .str (.ofString "sep") 1117, .str (.ofString "i") 1118, .str (.ofString "head") 1119] 0, #[]⟩
noncomputable def o666S4 (P : Params) : Obj := fnT (st 24) (.ofString "dirname") (.ofString "dirname")
noncomputable def o667S4 (P : Params) : Obj := ⟨.type "code", none, .fields #[.str (.ofString "dirname") 1113, .str (.ofString "dirname") 1114, .str (.ofString "/claim/cut.py") 1115, .int 482 0, .int 1 0, .int 0 0, .int 0 0, .int 3 0, .ref 662, .bool true, .int 318 0, .ref 663, .none, .ref 664, .ref 665, .ref 666, .int 1120 0, .int 482 0, .str (.ofString "/claim/cut.py") 1121], #[]⟩
noncomputable def o668S4 (P : Params) : Obj := fnO (.type "function") (st 24) (.ofString "dirname") (.ofString "dirname") .none .none .none (.str (.ofString "os.path") 1064) none (.ref 667) .none
noncomputable def o671S4 (P : Params) : Obj := ⟨.type "dict", none, .dict #[⟨PyData.keyHash P (.ofString "__module__"), .str (.ofString "__module__") 1132, .str (.ofString "cpy313.shlex") 1123⟩, ⟨PyData.keyHash P (.ofString "__qualname__"), .str (.ofString "__qualname__") 1134, .str (.ofString "shlex") 1133⟩, ⟨PyData.keyHash P (.ofString "__firstlineno__"), .str (.ofString "__firstlineno__") 1136, .int 491 1135⟩, ⟨PyData.keyHash P (.ofString "__init__"), .str (.ofString "__init__") 1148, .ref 683⟩, ⟨PyData.keyHash P (.ofString "punctuation_chars"), .str (.ofString "punctuation_chars") 1156, .ref 691⟩, ⟨PyData.keyHash P (.ofString "push_token"), .str (.ofString "push_token") 1164, .ref 698⟩, ⟨PyData.keyHash P (.ofString "push_source"), .str (.ofString "push_source") 1173, .ref 706⟩, ⟨PyData.keyHash P (.ofString "pop_source"), .str (.ofString "pop_source") 1180, .ref 713⟩, ⟨PyData.keyHash P (.ofString "get_token"), .str (.ofString "get_token") 1192, .ref 720⟩, ⟨PyData.keyHash P (.ofString "read_token"), .str (.ofString "read_token") 1203, .ref 727⟩, ⟨PyData.keyHash P (.ofString "sourcehook"), .str (.ofString "sourcehook") 1211, .ref 734⟩, ⟨PyData.keyHash P (.ofString "error_leader"), .str (.ofString "error_leader") 1220, .ref 742⟩, ⟨PyData.keyHash P (.ofString "__iter__"), .str (.ofString "__iter__") 1227, .ref 749⟩, ⟨PyData.keyHash P (.ofString "__next__"), .str (.ofString "__next__") 1235, .ref 756⟩, ⟨PyData.keyHash P (.ofString "__static_attributes__"), .str (.ofString "__static_attributes__") 1256, .ref 757⟩] 15, #[]⟩
noncomputable def o673S4 (P : Params) : Obj := ⟨.none, none, .fields #[.int 493 0, .int 4 0, .ref 682, .int 535 0, .int 4 0, .ref 689, .int 538 0, .int 4 0, .ref 697, .int 541 0, .int 4 0, .ref 705, .int 554 0, .int 4 0, .ref 712, .int 561 0, .int 4 0, .ref 719, .int 588 0, .int 4 0, .ref 726, .int 725 0, .int 4 0, .ref 733, .int 732 0, .int 4 0, .ref 741, .int 735 0, .int 4 0, .ref 748, .int 738 0, .int 4 0, .ref 755], #[]⟩
noncomputable def o674S4 (P : Params) : Obj := ⟨.type "code", none, .fields #[.str (.ofString "shlex") 1127, .str (.ofString "shlex") 1128, .str (.ofString "/claim/cut.py") 1129, .int 491 0, .int 0 0, .int 0 0, .int 0 0, .int 0 0, .ref 672, .bool false, .int 318 0, .ref 673, .none, .none, .none, .none, .int 1130 0, .int 491 0, .str (.ofString "/claim/cut.py") 1131], #[]⟩
noncomputable def o675S4 (P : Params) : Obj := ⟨.type "frame", none, .plain, #[some (.ref 674), some (.ref 3), some (.ref 671), none, some (.str (.ofString "cpy313.shlex") 1123), none, some (.ref 0)]⟩
noncomputable def o676S4 (P : Params) : Obj := ⟨.type "tuple", none, .seq #[.none, .none, .bool false, .bool false] 0, #[]⟩
noncomputable def o679S4 (P : Params) : Obj := ⟨.type "tuple", none, .seq #[.str (.ofString "self") 1140, .str (.ofString "instream") 1141, .str (.ofString "infile") 1142, .str (.ofString "posix") 1143, .str (.ofString "punctuation_chars") 1144, .str (.ofString "t") 1145] 0, #[]⟩
noncomputable def o681S4 (P : Params) : Obj := fnT (sm 26 0) (.ofString "__init__") (.ofString "shlex.__init__")
noncomputable def o682S4 (P : Params) : Obj := ⟨.type "code", none, .fields #[.str (.ofString "__init__") 1137, .str (.ofString "shlex.__init__") 1138, .str (.ofString "/claim/cut.py") 1139, .int 493 0, .int 5 0, .int 0 0, .int 0 0, .int 3 0, .ref 677, .bool true, .int 318 0, .ref 678, .none, .ref 679, .ref 680, .ref 681, .int 1146 0, .int 493 0, .str (.ofString "/claim/cut.py") 1147], #[]⟩
noncomputable def o683S4 (P : Params) : Obj := fnO (.type "function") (sm 26 0) (.ofString "__init__") (.ofString "shlex.__init__") (.ref 676) .none .none (.str (.ofString "cpy313.shlex") 1123) none (.ref 682) .none
noncomputable def o686S4 (P : Params) : Obj := ⟨.type "tuple", none, .seq #[.str (.ofString "self") 1152] 0, #[]⟩
noncomputable def o688S4 (P : Params) : Obj := fnT (sm 26 1) (.ofString "punctuation_chars") (.ofString "shlex.punctuation_chars")
noncomputable def o689S4 (P : Params) : Obj := ⟨.type "code", none, .fields #[.str (.ofString "punctuation_chars") 1149, .str (.ofString "shlex.punctuation_chars") 1150, .str (.ofString "/claim/cut.py") 1151, .int 534 0, .int 1 0, .int 0 0, .int 0 0, .int 3 0, .ref 684, .bool true, .int 318 0, .ref 685, .none, .ref 686, .ref 687, .ref 688, .int 1153 0, .int 534 0, .str (.ofString "/claim/cut.py") 1154], #[]⟩
noncomputable def o690S4 (P : Params) : Obj := fnO (.type "function") (sm 26 1) (.ofString "punctuation_chars") (.ofString "shlex.punctuation_chars") .none .none .none (.str (.ofString "cpy313.shlex") 1123) none (.ref 689) .none
noncomputable def o691S4 (P : Params) : Obj := ⟨.type "property", none, .fields #[.ref 690, .none, .none, .none, .str (.ofString "punctuation_chars") 1156, .bool false], #[]⟩
noncomputable def o694S4 (P : Params) : Obj := ⟨.type "tuple", none, .seq #[.str (.ofString "self") 1160, .str (.ofString "tok") 1161] 0, #[]⟩
noncomputable def o696S4 (P : Params) : Obj := fnT (sm 26 2) (.ofString "push_token") (.ofString "shlex.push_token")
noncomputable def o697S4 (P : Params) : Obj := ⟨.type "code", none, .fields #[.str (.ofString "push_token") 1157, .str (.ofString "shlex.push_token") 1158, .str (.ofString "/claim/cut.py") 1159, .int 538 0, .int 2 0, .int 0 0, .int 0 0, .int 3 0, .ref 692, .bool true, .int 318 0, .ref 693, .none, .ref 694, .ref 695, .ref 696, .int 1162 0, .int 538 0, .str (.ofString "/claim/cut.py") 1163], #[]⟩
noncomputable def o698S4 (P : Params) : Obj := fnO (.type "function") (sm 26 2) (.ofString "push_token") (.ofString "shlex.push_token") .none .none .none (.str (.ofString "cpy313.shlex") 1123) none (.ref 697) .none
noncomputable def o702S4 (P : Params) : Obj := ⟨.type "tuple", none, .seq #[.str (.ofString "self") 1168, .str (.ofString "newstream") 1169, .str (.ofString "newfile") 1170] 0, #[]⟩
noncomputable def o704S4 (P : Params) : Obj := fnT (sm 26 3) (.ofString "push_source") (.ofString "shlex.push_source")
noncomputable def o705S4 (P : Params) : Obj := ⟨.type "code", none, .fields #[.str (.ofString "push_source") 1165, .str (.ofString "shlex.push_source") 1166, .str (.ofString "/claim/cut.py") 1167, .int 541 0, .int 3 0, .int 0 0, .int 0 0, .int 3 0, .ref 700, .bool true, .int 318 0, .ref 701, .none, .ref 702, .ref 703, .ref 704, .int 1171 0, .int 541 0, .str (.ofString "/claim/cut.py") 1172], #[]⟩
noncomputable def o706S4 (P : Params) : Obj := fnO (.type "function") (sm 26 3) (.ofString "push_source") (.ofString "shlex.push_source") (.ref 699) .none .none (.str (.ofString "cpy313.shlex") 1123) none (.ref 705) .none
noncomputable def o709S4 (P : Params) : Obj := ⟨.type "tuple", none, .seq #[.str (.ofString "self") 1177] 0, #[]⟩
noncomputable def o711S4 (P : Params) : Obj := fnT (sm 26 4) (.ofString "pop_source") (.ofString "shlex.pop_source")
noncomputable def o712S4 (P : Params) : Obj := ⟨.type "code", none, .fields #[.str (.ofString "pop_source") 1174, .str (.ofString "shlex.pop_source") 1175, .str (.ofString "/claim/cut.py") 1176, .int 554 0, .int 1 0, .int 0 0, .int 0 0, .int 3 0, .ref 707, .bool true, .int 318 0, .ref 708, .none, .ref 709, .ref 710, .ref 711, .int 1178 0, .int 554 0, .str (.ofString "/claim/cut.py") 1179], #[]⟩
noncomputable def o713S4 (P : Params) : Obj := fnO (.type "function") (sm 26 4) (.ofString "pop_source") (.ofString "shlex.pop_source") .none .none .none (.str (.ofString "cpy313.shlex") 1123) none (.ref 712) .none
noncomputable def o716S4 (P : Params) : Obj := ⟨.type "tuple", none, .seq #[.str (.ofString "self") 1184, .str (.ofString "tok") 1185, .str (.ofString "raw") 1186, .str (.ofString "spec") 1187, .str (.ofString "newfile") 1188, .str (.ofString "newstream") 1189] 0, #[]⟩
noncomputable def o718S4 (P : Params) : Obj := fnT (sm 26 5) (.ofString "get_token") (.ofString "shlex.get_token")
noncomputable def o719S4 (P : Params) : Obj := ⟨.type "code", none, .fields #[.str (.ofString "get_token") 1181, .str (.ofString "shlex.get_token") 1182, .str (.ofString "/claim/cut.py") 1183, .int 561 0, .int 1 0, .int 0 0, .int 0 0, .int 3 0, .ref 714, .bool true, .int 318 0, .ref 715, .none, .ref 716, .ref 717, .ref 718, .int 1190 0, .int 561 0, .str (.ofString "/claim/cut.py") 1191], #[]⟩
noncomputable def o720S4 (P : Params) : Obj := fnO (.type "function") (sm 26 5) (.ofString "get_token") (.ofString "shlex.get_token") .none .none .none (.str (.ofString "cpy313.shlex") 1123) none (.ref 719) .none
noncomputable def o723S4 (P : Params) : Obj := ⟨.type "tuple", none, .seq #[.str (.ofString "self") 1196, .str (.ofString "quoted") 1197, .str (.ofString "escapedstate") 1198, .str (.ofString "nextchar") 1199, .str (.ofString "result") 1200] 0, #[]⟩
noncomputable def o725S4 (P : Params) : Obj := fnT (sm 26 6) (.ofString "read_token") (.ofString "shlex.read_token")
noncomputable def o726S4 (P : Params) : Obj := ⟨.type "code", none, .fields #[.str (.ofString "read_token") 1193, .str (.ofString "shlex.read_token") 1194, .str (.ofString "/claim/cut.py") 1195, .int 588 0, .int 1 0, .int 0 0, .int 0 0, .int 3 0, .ref 721, .bool true, .int 318 0, .ref 722, .none, .ref 723, .ref 724, .ref 725, .int 1201 0, .int 588 0, .str (.ofString "/claim/cut.py") 1202], #[]⟩
noncomputable def o727S4 (P : Params) : Obj := fnO (.type "function") (sm 26 6) (.ofString "read_token") (.ofString "shlex.read_token") .none .none .none (.str (.ofString "cpy313.shlex") 1123) none (.ref 726) .none
noncomputable def o730S4 (P : Params) : Obj := ⟨.type "tuple", none, .seq #[.str (.ofString "self") 1207, .str (.ofString "newfile") 1208] 0, #[]⟩
noncomputable def o732S4 (P : Params) : Obj := fnT (sm 26 7) (.ofString "sourcehook") (.ofString "shlex.sourcehook")
noncomputable def o733S4 (P : Params) : Obj := ⟨.type "code", none, .fields #[.str (.ofString "sourcehook") 1204, .str (.ofString "shlex.sourcehook") 1205, .str (.ofString "/claim/cut.py") 1206, .int 725 0, .int 2 0, .int 0 0, .int 0 0, .int 3 0, .ref 728, .bool true, .int 318 0, .ref 729, .none, .ref 730, .ref 731, .ref 732, .int 1209 0, .int 725 0, .str (.ofString "/claim/cut.py") 1210], #[]⟩
noncomputable def o734S4 (P : Params) : Obj := fnO (.type "function") (sm 26 7) (.ofString "sourcehook") (.ofString "shlex.sourcehook") .none .none .none (.str (.ofString "cpy313.shlex") 1123) none (.ref 733) .none
noncomputable def o735S4 (P : Params) : Obj := ⟨.type "tuple", none, .seq #[.none, .none] 0, #[]⟩
noncomputable def o738S4 (P : Params) : Obj := ⟨.type "tuple", none, .seq #[.str (.ofString "self") 1215, .str (.ofString "infile") 1216, .str (.ofString "lineno") 1217] 0, #[]⟩
noncomputable def o740S4 (P : Params) : Obj := fnT (sm 26 8) (.ofString "error_leader") (.ofString "shlex.error_leader")
noncomputable def o741S4 (P : Params) : Obj := ⟨.type "code", none, .fields #[.str (.ofString "error_leader") 1212, .str (.ofString "shlex.error_leader") 1213, .str (.ofString "/claim/cut.py") 1214, .int 732 0, .int 3 0, .int 0 0, .int 0 0, .int 3 0, .ref 736, .bool true, .int 318 0, .ref 737, .none, .ref 738, .ref 739, .ref 740, .int 1218 0, .int 732 0, .str (.ofString "/claim/cut.py") 1219], #[]⟩
noncomputable def o742S4 (P : Params) : Obj := fnO (.type "function") (sm 26 8) (.ofString "error_leader") (.ofString "shlex.error_leader") (.ref 735) .none .none (.str (.ofString "cpy313.shlex") 1123) none (.ref 741) .none
noncomputable def o745S4 (P : Params) : Obj := ⟨.type "tuple", none, .seq #[.str (.ofString "self") 1224] 0, #[]⟩
noncomputable def o747S4 (P : Params) : Obj := fnT (sm 26 9) (.ofString "__iter__") (.ofString "shlex.__iter__")
noncomputable def o748S4 (P : Params) : Obj := ⟨.type "code", none, .fields #[.str (.ofString "__iter__") 1221, .str (.ofString "shlex.__iter__") 1222, .str (.ofString "/claim/cut.py") 1223, .int 735 0, .int 1 0, .int 0 0, .int 0 0, .int 3 0, .ref 743, .bool true, .int 318 0, .ref 744, .none, .ref 745, .ref 746, .ref 747, .int 1225 0, .int 735 0, .str (.ofString "/claim/cut.py") 1226], #[]⟩
noncomputable def o749S4 (P : Params) : Obj := fnO (.type "function") (sm 26 9) (.ofString "__iter__") (.ofString "shlex.__iter__") .none .none .none (.str (.ofString "cpy313.shlex") 1123) none (.ref 748) .none
noncomputable def o752S4 (P : Params) : Obj := ⟨.type "tuple", none, .seq #[.str (.ofString "self") 1231, .str (.ofString "token") 1232] 0, #[]⟩
noncomputable def o754S4 (P : Params) : Obj := fnT (sm 26 10) (.ofString "__next__") (.ofString "shlex.__next__")
noncomputable def o755S4 (P : Params) : Obj := ⟨.type "code", none, .fields #[.str (.ofString "__next__") 1228, .str (.ofString "shlex.__next__") 1229, .str (.ofString "/claim/cut.py") 1230, .int 738 0, .int 1 0, .int 0 0, .int 0 0, .int 3 0, .ref 750, .bool true, .int 318 0, .ref 751, .none, .ref 752, .ref 753, .ref 754, .int 1233 0, .int 738 0, .str (.ofString "/claim/cut.py") 1234], #[]⟩
noncomputable def o756S4 (P : Params) : Obj := fnO (.type "function") (sm 26 10) (.ofString "__next__") (.ofString "shlex.__next__") .none .none .none (.str (.ofString "cpy313.shlex") 1123) none (.ref 755) .none
noncomputable def o757S4 (P : Params) : Obj := ⟨.type "tuple", none, .seq #[.str (.ofString "_punctuation_chars") 1236, .str (.ofString "_pushback_chars") 1237, .str (.ofString "commenters") 1238, .str (.ofString "debug") 1239, .str (.ofString "eof") 1240, .str (.ofString "escape") 1241, .str (.ofString "escapedquotes") 1242, .str (.ofString "filestack") 1243, .str (.ofString "infile") 1244, .str (.ofString "instream") 1245, .str (.ofString "lineno") 1246, .str (.ofString "posix") 1247, .str (.ofString "pushback") 1248, .str (.ofString "quotes") 1249, .str (.ofString "source") 1250, .str (.ofString "state") 1251, .str (.ofString "token") 1252, .str (.ofString "whitespace") 1253, .str (.ofString "whitespace_split") 1254, .str (.ofString "wordchars") 1255] 0, #[]⟩
noncomputable def o758S4 (P : Params) : Obj := ⟨.type "dict", none, .dict #[⟨PyData.keyHash P (.ofString "__module__"), .str (.ofString "__module__") 1132, .str (.ofString "cpy313.shlex") 1123⟩, ⟨PyData.keyHash P (.ofString "__firstlineno__"), .str (.ofString "__firstlineno__") 1136, .int 491 1135⟩, ⟨PyData.keyHash P (.ofString "__init__"), .str (.ofString "__init__") 1148, .ref 683⟩, ⟨PyData.keyHash P (.ofString "punctuation_chars"), .str (.ofString "punctuation_chars") 1156, .ref 691⟩, ⟨PyData.keyHash P (.ofString "push_token"), .str (.ofString "push_token") 1164, .ref 698⟩, ⟨PyData.keyHash P (.ofString "push_source"), .str (.ofString "push_source") 1173, .ref 706⟩, ⟨PyData.keyHash P (.ofString "pop_source"), .str (.ofString "pop_source") 1180, .ref 713⟩, ⟨PyData.keyHash P (.ofString "get_token"), .str (.ofString "get_token") 1192, .ref 720⟩, ⟨PyData.keyHash P (.ofString "read_token"), .str (.ofString "read_token") 1203, .ref 727⟩, ⟨PyData.keyHash P (.ofString "sourcehook"), .str (.ofString "sourcehook") 1211, .ref 734⟩, ⟨PyData.keyHash P (.ofString "error_leader"), .str (.ofString "error_leader") 1220, .ref 742⟩, ⟨PyData.keyHash P (.ofString "__iter__"), .str (.ofString "__iter__") 1227, .ref 749⟩, ⟨PyData.keyHash P (.ofString "__next__"), .str (.ofString "__next__") 1235, .ref 756⟩, ⟨PyData.keyHash P (.ofString "__static_attributes__"), .str (.ofString "__static_attributes__") 1256, .ref 757⟩, ⟨PyData.keyHash P (.ofString "__dict__"), .str (.ofString "__dict__") 1258, .ref 760⟩, ⟨PyData.keyHash P (.ofString "__weakref__"), .str (.ofString "__weakref__") 1260, .ref 761⟩, ⟨PyData.keyHash P (.ofString "__doc__"), .str (.ofString "__doc__") 1261, .none⟩] 4, #[]⟩
noncomputable def o759S4 (P : Params) : Obj := ⟨.type "type", none, .cls ⟨(.ofString "shlex"), [.type "object"], [.ref 759, .type "object"], 758, (.ofString "shlex"), true, [], [], false, none, false⟩, #[none, none, some (.str (.ofString "shlex") 1125), some (.str (.ofString "shlex") 1133), some (.builtin "object.__new__"), some (.bool true)]⟩
noncomputable def o760S4 (P : Params) : Obj := ⟨.type "getset_descriptor", none, .fields #[.str (.ofString "__dict__") 1257, .ref 759, .builtin "function.__dict__", .builtin "function.__dict__#set"], #[]⟩
noncomputable def o761S4 (P : Params) : Obj := ⟨.type "getset_descriptor", none, .fields #[.str (.ofString "__weakref__") 1259, .ref 759, .builtin "ExceptionGroup.__weakref__", .none], #[]⟩
noncomputable def o762S4 (P : Params) : Obj := ⟨.type "super", none, .fields #[.ref 759, .ref 759, .ref 759], #[]⟩
noncomputable def o763S4 (P : Params) : Obj := ⟨.type "builtin_function_or_method", none, .fields #[.builtin "object.__init_subclass__", .ref 759], #[]⟩
noncomputable def o764S4 (P : Params) : Obj := ⟨.type "tuple", none, .seq #[.bool false, .bool true] 0, #[]⟩
noncomputable def o767S4 (P : Params) : Obj := ⟨.type "tuple", none, .seq #[.str (.ofString "s") 1267, .str (.ofString "comments") 1268, .str (.ofString "posix") 1269, .str (.ofString "lex") 1270] 0, #[]⟩
noncomputable def o769S4 (P : Params) : Obj := fnT (st 27) (.ofString "split") (.ofString "split")
noncomputable def o770S4 (P : Params) : Obj := ⟨.type "code", none, .fields #[.str (.ofString "split") 1264, .str (.ofString "split") 1265, .str (.ofString "/claim/cut.py") 1266, .int 743 0, .int 3 0, .int 0 0, .int 0 0, .int 3 0, .ref 765, .bool true, .int 318 0, .ref 766, .none, .ref 767, .ref 768, .ref 769, .int 1271 0, .int 743 0, .str (.ofString "/claim/cut.py") 1272], #[]⟩
noncomputable def o771S4 (P : Params) : Obj := fnO (.type "function") (st 27) (.ofString "split") (.ofString "split") (.ref 764) .none .none (.str (.ofString "cpy313.shlex") 1123) none (.ref 770) .none
noncomputable def o774S4 (P : Params) : Obj := ⟨.type "tuple", none, .seq #[.str (.ofString "split_command") 1277] 0, #[]⟩
noncomputable def o776S4 (P : Params) : Obj := fnT (st 28) (.ofString "join") (.ofString "join")
noncomputable def o777S4 (P : Params) : Obj := ⟨.type "code", none, .fields #[.str (.ofString "join") 1274, .str (.ofString "join") 1275, .str (.ofString "/claim/cut.py") 1276, .int 751 0, .int 1 0, .int 0 0, .int 0 0, .int 3 0, .ref 772, .bool true, .int 318 0, .ref 773, .none, .ref 774, .ref 775, .ref 776, .int 1278 0, .int 751 0, .str (.ofString "/claim/cut.py") 1279], #[]⟩
noncomputable def o778S4 (P : Params) : Obj := fnO (.type "function") (st 28) (.ofString "join") (.ofString "join") .none .none .none (.str (.ofString "cpy313.shlex") 1123) none (.ref 777) .none
noncomputable def o779S4 (P : Params) : Obj := ⟨.type "builtin_function_or_method", none, .fields #[.builtin "re.Pattern.search", .ref 76], #[]⟩
noncomputable def o782S4 (P : Params) : Obj := ⟨.type "tuple", none, .seq #[.str (.ofString "s") 1287] 0, #[]⟩
noncomputable def o784S4 (P : Params) : Obj := fnT (st 31) (.ofString "quote") (.ofString "quote")
noncomputable def o785S4 (P : Params) : Obj := ⟨.type "code", none, .fields #[.str (.ofString "quote") 1284, .str (.ofString "quote") 1285, .str (.ofString "/claim/cut.py") 1286, .int 755 0, .int 1 0, .int 0 0, .int 0 0, .int 3 0, .ref 780, .bool true, .int 318 0, .ref 781, .none, .ref 782, .ref 783, .ref 784, .int 1288 0, .int 755 0, .str (.ofString "/claim/cut.py") 1289], #[]⟩
noncomputable def o786S4 (P : Params) : Obj := fnO (.type "function") (st 31) (.ofString "quote") (.ofString "quote") .none .none .none (.str (.ofString "cpy313.shlex") 1123) none (.ref 785) .none
noncomputable def o789S4 (P : Params) : Obj := ⟨.type "tuple", none, .seq #[.str (.ofString "x") 1296, .str (.ofString "pieces") 1297] 0, #[]⟩
noncomputable def o791S4 (P : Params) : Obj := fnT (st 33) (.ofString "_law_word") (.ofString "_law_word")
noncomputable def o792S4 (P : Params) : Obj := ⟨.type "code", none, .fields #[.str (.ofString "_law_word") 1293, .str (.ofString "_law_word") 1294, .str (.ofString "/claim/cut.py") 1295, .int 762 0, .int 1 0, .int 0 0, .int 0 0, .int 3 0, .ref 787, .bool true, .int 318 0, .ref 788, .none, .ref 789, .ref 790, .ref 791, .int 1298 0, .int 762 0, .str (.ofString "/claim/cut.py") 1299], #[]⟩
noncomputable def o793S4 (P : Params) : Obj := fnO (.type "function") (st 33) (.ofString "_law_word") (.ofString "_law_word") .none .none .none (.str (.ofString "law_ny0341_01") 1291) none (.ref 792) .none
noncomputable def o796S4 (P : Params) : Obj := ⟨.type "tuple", none, .seq #[.str (.ofString "words") 1304, .str (.ofString "coin") 1305, .str (.ofString "line") 1306, .str (.ofString "log") 1307, .str (.ofString "word") 1308, .str (.ofString "error") 1309] 0, #[]⟩
noncomputable def o798S4 (P : Params) : Obj := fnT (st 34) (.ofString "_law_run") (.ofString "_law_run")
noncomputable def o799S4 (P : Params) : Obj := ⟨.type "code", none, .fields #[.str (.ofString "_law_run") 1301, .str (.ofString "_law_run") 1302, .str (.ofString "/claim/cut.py") 1303, .int 765 0, .int 2 0, .int 0 0, .int 0 0, .int 3 0, .ref 794, .bool true, .int 318 0, .ref 795, .none, .ref 796, .ref 797, .ref 798, .int 1310 0, .int 765 0, .str (.ofString "/claim/cut.py") 1311], #[]⟩
noncomputable def o800S4 (P : Params) : Obj := fnO (.type "function") (st 34) (.ofString "_law_run") (.ofString "_law_run") .none .none .none (.str (.ofString "law_ny0341_01") 1291) none (.ref 799) .none
noncomputable def o803S4 (P : Params) : Obj := fnT (st 35) (.ofString "_law_holds") (.ofString "_law_holds")
noncomputable def o804S4 (P : Params) : Obj := ⟨.type "code", none, .fields #[.str (.ofString "_law_holds") 1313, .str (.ofString "_law_holds") 1314, .str (.ofString "/claim/cut.py") 1315, .int 778 0, .int 3 0, .int 0 0, .int 0 0, .int 3 0, .ref 801, .bool true, .int 318 0, .ref 802, .none, .none, .none, .ref 803, .int 1316 0, .int 778 0, .str (.ofString "/claim/cut.py") 1317], #[]⟩
noncomputable def o805S4 (P : Params) : Obj := fnO (.type "function") (st 35) (.ofString "_law_holds") (.ofString "_law_holds") .none .none .none (.str (.ofString "law_ny0341_01") 1291) none (.ref 804) .none
noncomputable def o808S4 (P : Params) : Obj := fnT (st 36) (.ofString "_law_quoted") (.ofString "_law_quoted")
noncomputable def o809S4 (P : Params) : Obj := ⟨.type "code", none, .fields #[.str (.ofString "_law_quoted") 1319, .str (.ofString "_law_quoted") 1320, .str (.ofString "/claim/cut.py") 1321, .int 783 0, .int 1 0, .int 0 0, .int 0 0, .int 3 0, .ref 806, .bool true, .int 318 0, .ref 807, .none, .none, .none, .ref 808, .int 1322 0, .int 783 0, .str (.ofString "/claim/cut.py") 1323], #[]⟩
noncomputable def o810S4 (P : Params) : Obj := fnO (.type "function") (st 36) (.ofString "_law_quoted") (.ofString "_law_quoted") .none .none .none (.str (.ofString "law_ny0341_01") 1291) none (.ref 809) .none
noncomputable def o813S4 (P : Params) : Obj := fnT (st 37) (.ofString "_law_checked") (.ofString "_law_checked")
noncomputable def o814S4 (P : Params) : Obj := ⟨.type "code", none, .fields #[.str (.ofString "_law_checked") 1325, .str (.ofString "_law_checked") 1326, .str (.ofString "/claim/cut.py") 1327, .int 787 0, .int 3 0, .int 0 0, .int 0 0, .int 3 0, .ref 811, .bool true, .int 318 0, .ref 812, .none, .none, .none, .ref 813, .int 1328 0, .int 787 0, .str (.ofString "/claim/cut.py") 1329], #[]⟩
noncomputable def o815S4 (P : Params) : Obj := fnO (.type "function") (st 37) (.ofString "_law_checked") (.ofString "_law_checked") .none .none .none (.str (.ofString "law_ny0341_01") 1291) none (.ref 814) .none
noncomputable def o818S4 (P : Params) : Obj := fnT (st 38) (.ofString "law") (.ofString "law")
noncomputable def o819S4 (P : Params) : Obj := ⟨.type "code", none, .fields #[.str (.ofString "law") 1331, .str (.ofString "law") 1332, .str (.ofString "/claim/cut.py") 1333, .int 797 0, .int 1 0, .int 0 0, .int 0 0, .int 3 0, .ref 816, .bool true, .int 318 0, .ref 817, .none, .none, .none, .ref 818, .int 1334 0, .int 797 0, .str (.ofString "/claim/cut.py") 1335], #[]⟩
noncomputable def o820S4 (P : Params) : Obj := fnO (.type "function") (st 38) (.ofString "law") (.ofString "law") .none .none .none (.str (.ofString "law_ny0341_01") 1291) none (.ref 819) .none
noncomputable def KK : Params → Frag := fun P => (nat_lit 2, o2S1 P) :: (nat_lit 3, o3S4 P) :: (nat_lit 4, o4E P) :: (nat_lit 38, o7E P) :: (nat_lit 40, o40S1 P) :: (nat_lit 41, o7E P) :: (nat_lit 43, o43S1 P) :: (nat_lit 44, o44S1 P) :: (nat_lit 45, o45S1 P) :: (nat_lit 52, o7E P) :: (nat_lit 53, o53S1 P) :: (nat_lit 54, o54S1 P) :: (nat_lit 55, o55S1 P) :: (nat_lit 58, o7E P) :: (nat_lit 60, o60S1 P) :: (nat_lit 61, o7E P) :: (nat_lit 63, o63S1 P) :: (nat_lit 64, o64S1 P) :: (nat_lit 65, o7E P) :: (nat_lit 67, o67S1 P) :: (nat_lit 68, o7E P) :: (nat_lit 70, o70S1 P) :: (nat_lit 71, o71S1 P) :: (nat_lit 75, o75S1 P) :: (nat_lit 76, o76S1 P) :: (nat_lit 77, o7E P) :: (nat_lit 79, o79S1 P) :: (nat_lit 80, o7E P) :: (nat_lit 82, o82S1 P) :: (nat_lit 83, o83S1 P) :: (nat_lit 84, o7E P) :: (nat_lit 86, o86S1 P) :: (nat_lit 87, o7E P) :: (nat_lit 89, o89S1 P) :: (nat_lit 90, o90S1 P) :: (nat_lit 91, o91S1 P) :: (nat_lit 98, o7E P) :: (nat_lit 99, o99S1 P) :: (nat_lit 100, o100S1 P) :: (nat_lit 101, o101S1 P) :: (nat_lit 111, o7E P) :: (nat_lit 113, o113S1 P) :: (nat_lit 114, o7E P) :: (nat_lit 116, o116S1 P) :: (nat_lit 117, o117S1 P) :: (nat_lit 118, o7E P) :: (nat_lit 119, o119S1 P) :: (nat_lit 120, o120S1 P) :: (nat_lit 121, o121S1 P) :: (nat_lit 122, o122S1 P) :: (nat_lit 123, o123S1 P) :: (nat_lit 126, o126S1 P) :: (nat_lit 133, o7E P) :: (nat_lit 134, o134S1 P) :: (nat_lit 135, o135S2 P) :: (nat_lit 138, o126S1 P) :: (nat_lit 145, o7E P) :: (nat_lit 146, o146S1 P) :: (nat_lit 147, o147S3 P) :: (nat_lit 150, o150S2 P) :: (nat_lit 157, o74S1 P) :: (nat_lit 158, o7E P) :: (nat_lit 160, o160S2 P) :: (nat_lit 161, o7E P) :: (nat_lit 163, o163S2 P) :: (nat_lit 164, o164S2 P) :: (nat_lit 165, o7E P) :: (nat_lit 167, o167S2 P) :: (nat_lit 168, o7E P) :: (nat_lit 170, o170S2 P) :: (nat_lit 171, o171S2 P) :: (nat_lit 172, o7E P) :: (nat_lit 174, o174S2 P) :: (nat_lit 175, o7E P) :: (nat_lit 177, o177S2 P) :: (nat_lit 178, o178S2 P) :: (nat_lit 179, o7E P) :: (nat_lit 181, o181S2 P) :: (nat_lit 182, o7E P) :: (nat_lit 184, o184S2 P) :: (nat_lit 185, o185S2 P) :: (nat_lit 186, o186S2 P) :: (nat_lit 187, o7E P) :: (nat_lit 189, o189S2 P) :: (nat_lit 190, o7E P) :: (nat_lit 192, o192S2 P) :: (nat_lit 193, o193S2 P) :: (nat_lit 194, o7E P) :: (nat_lit 196, o196S2 P) :: (nat_lit 197, o7E P) :: (nat_lit 199, o199S2 P) :: (nat_lit 200, o200S2 P) :: (nat_lit 201, o7E P) :: (nat_lit 203, o203S2 P) :: (nat_lit 204, o7E P) :: (nat_lit 206, o206S2 P) :: (nat_lit 207, o207S2 P) :: (nat_lit 208, o7E P) :: (nat_lit 210, o210S2 P) :: (nat_lit 211, o7E P) :: (nat_lit 213, o213S2 P) :: (nat_lit 214, o214S2 P) :: (nat_lit 215, o7E P) :: (nat_lit 217, o217S2 P) :: (nat_lit 218, o7E P) :: (nat_lit 220, o220S2 P) :: (nat_lit 221, o221S2 P) :: (nat_lit 222, o7E P) :: (nat_lit 224, o224S2 P) :: (nat_lit 225, o7E P) :: (nat_lit 227, o227S2 P) :: (nat_lit 228, o228S2 P) :: (nat_lit 229, o7E P) :: (nat_lit 231, o231S2 P) :: (nat_lit 232, o7E P) :: (nat_lit 234, o234S2 P) :: (nat_lit 235, o235S2 P) :: (nat_lit 236, o7E P) :: (nat_lit 238, o238S2 P) :: (nat_lit 239, o7E P) :: (nat_lit 241, o241S2 P) :: (nat_lit 242, o242S2 P) :: (nat_lit 243, o7E P) :: (nat_lit 245, o245S2 P) :: (nat_lit 246, o7E P) :: (nat_lit 248, o248S2 P) :: (nat_lit 249, o249S2 P) :: (nat_lit 250, o7E P) :: (nat_lit 252, o252S2 P) :: (nat_lit 253, o7E P) :: (nat_lit 255, o255S2 P) :: (nat_lit 256, o256S2 P) :: (nat_lit 257, o7E P) :: (nat_lit 259, o259S2 P) :: (nat_lit 260, o7E P) :: (nat_lit 262, o262S2 P) :: (nat_lit 263, o263S2 P) :: (nat_lit 264, o7E P) :: (nat_lit 266, o266S2 P) :: (nat_lit 267, o7E P) :: (nat_lit 269, o269S2 P) :: (nat_lit 270, o270S2 P) :: (nat_lit 271, o7E P) :: (nat_lit 273, o273S2 P) :: (nat_lit 274, o7E P) :: (nat_lit 276, o276S2 P) :: (nat_lit 277, o277S2 P) :: (nat_lit 278, o278S2 P) :: (nat_lit 279, o7E P) :: (nat_lit 281, o281S2 P) :: (nat_lit 282, o7E P) :: (nat_lit 284, o284S2 P) :: (nat_lit 285, o285S2 P) :: (nat_lit 286, o74S1 P) :: (nat_lit 287, o7E P) :: (nat_lit 289, o289S2 P) :: (nat_lit 290, o7E P) :: (nat_lit 292, o292S2 P) :: (nat_lit 293, o293S2 P) :: (nat_lit 294, o294S2 P) :: (nat_lit 295, o7E P) :: (nat_lit 297, o297S2 P) :: (nat_lit 298, o7E P) :: (nat_lit 300, o300S2 P) :: (nat_lit 301, o301S2 P) :: (nat_lit 302, o302S2 P) :: (nat_lit 303, o7E P) :: (nat_lit 305, o305S2 P) :: (nat_lit 306, o7E P) :: (nat_lit 308, o308S2 P) :: (nat_lit 309, o309S2 P) :: (nat_lit 310, o7E P) :: (nat_lit 312, o312S2 P) :: (nat_lit 313, o7E P) :: (nat_lit 315, o315S2 P) :: (nat_lit 316, o316S2 P) :: (nat_lit 317, o7E P) :: (nat_lit 319, o319S2 P) :: (nat_lit 320, o7E P) :: (nat_lit 322, o322S2 P) :: (nat_lit 323, o323S2 P) :: (nat_lit 324, o324S2 P) :: (nat_lit 325, o7E P) :: (nat_lit 327, o327S2 P) :: (nat_lit 328, o7E P) :: (nat_lit 330, o330S2 P) :: (nat_lit 331, o331S2 P) :: (nat_lit 332, o74S1 P) :: (nat_lit 333, o7E P) :: (nat_lit 335, o335S2 P) :: (nat_lit 336, o7E P) :: (nat_lit 338, o338S2 P) :: (nat_lit 339, o339S2 P) :: (nat_lit 340, o7E P) :: (nat_lit 342, o342S2 P) :: (nat_lit 343, o7E P) :: (nat_lit 345, o345S2 P) :: (nat_lit 346, o346S2 P) :: (nat_lit 347, o7E P) :: (nat_lit 349, o349S2 P) :: (nat_lit 350, o7E P) :: (nat_lit 352, o352S2 P) :: (nat_lit 353, o353S2 P) :: (nat_lit 354, o7E P) :: (nat_lit 356, o356S2 P) :: (nat_lit 357, o7E P) :: (nat_lit 359, o359S2 P) :: (nat_lit 360, o360S2 P) :: (nat_lit 361, o7E P) :: (nat_lit 363, o363S2 P) :: (nat_lit 364, o7E P) :: (nat_lit 366, o366S2 P) :: (nat_lit 367, o367S2 P) :: (nat_lit 368, o7E P) :: (nat_lit 370, o370S2 P) :: (nat_lit 371, o7E P) :: (nat_lit 373, o373S2 P) :: (nat_lit 374, o374S2 P) :: (nat_lit 375, o375S2 P) :: (nat_lit 376, o376S2 P) :: (nat_lit 377, o377S2 P) :: (nat_lit 380, o380S3 P) :: (nat_lit 387, o387S3 P) :: (nat_lit 388, o7E P) :: (nat_lit 390, o390S3 P) :: (nat_lit 391, o7E P) :: (nat_lit 393, o393S3 P) :: (nat_lit 394, o394S3 P) :: (nat_lit 395, o7E P) :: (nat_lit 397, o397S3 P) :: (nat_lit 398, o7E P) :: (nat_lit 400, o400S3 P) :: (nat_lit 401, o401S3 P) :: (nat_lit 402, o7E P) :: (nat_lit 404, o404S3 P) :: (nat_lit 405, o7E P) :: (nat_lit 407, o407S3 P) :: (nat_lit 408, o408S3 P) :: (nat_lit 409, o7E P) :: (nat_lit 411, o411S3 P) :: (nat_lit 412, o7E P) :: (nat_lit 414, o414S3 P) :: (nat_lit 415, o415S3 P) :: (nat_lit 416, o7E P) :: (nat_lit 418, o418S3 P) :: (nat_lit 419, o7E P) :: (nat_lit 421, o421S3 P) :: (nat_lit 422, o422S3 P) :: (nat_lit 423, o7E P) :: (nat_lit 425, o425S3 P) :: (nat_lit 426, o7E P) :: (nat_lit 428, o428S3 P) :: (nat_lit 429, o429S3 P) :: (nat_lit 430, o430S3 P) :: (nat_lit 431, o7E P) :: (nat_lit 433, o433S3 P) :: (nat_lit 434, o7E P) :: (nat_lit 436, o436S3 P) :: (nat_lit 437, o437S3 P) :: (nat_lit 438, o438S3 P) :: (nat_lit 439, o7E P) :: (nat_lit 441, o441S3 P) :: (nat_lit 442, o7E P) :: (nat_lit 444, o444S3 P) :: (nat_lit 445, o445S3 P) :: (nat_lit 446, o446S3 P) :: (nat_lit 447, o7E P) :: (nat_lit 449, o449S3 P) :: (nat_lit 450, o7E P) :: (nat_lit 452, o452S3 P) :: (nat_lit 453, o453S3 P) :: (nat_lit 454, o454S3 P) :: (nat_lit 455, o7E P) :: (nat_lit 457, o457S3 P) :: (nat_lit 458, o7E P) :: (nat_lit 460, o460S3 P) :: (nat_lit 461, o461S3 P) :: (nat_lit 462, o462S3 P) :: (nat_lit 463, o7E P) :: (nat_lit 465, o465S3 P) :: (nat_lit 466, o7E P) :: (nat_lit 468, o468S3 P) :: (nat_lit 469, o469S3 P) :: (nat_lit 470, o7E P) :: (nat_lit 472, o472S3 P) :: (nat_lit 473, o7E P) :: (nat_lit 475, o475S3 P) :: (nat_lit 476, o476S3 P) :: (nat_lit 477, o7E P) :: (nat_lit 479, o479S3 P) :: (nat_lit 480, o7E P) :: (nat_lit 482, o482S3 P) :: (nat_lit 483, o483S3 P) :: (nat_lit 484, o7E P) :: (nat_lit 486, o486S3 P) :: (nat_lit 487, o7E P) :: (nat_lit 489, o489S3 P) :: (nat_lit 490, o490S3 P) :: (nat_lit 491, o7E P) :: (nat_lit 493, o493S3 P) :: (nat_lit 494, o7E P) :: (nat_lit 496, o496S3 P) :: (nat_lit 497, o497S3 P) :: (nat_lit 498, o7E P) :: (nat_lit 500, o500S3 P) :: (nat_lit 501, o7E P) :: (nat_lit 503, o503S3 P) :: (nat_lit 504, o504S3 P) :: (nat_lit 505, o7E P) :: (nat_lit 507, o507S3 P) :: (nat_lit 508, o7E P) :: (nat_lit 510, o510S3 P) :: (nat_lit 511, o511S3 P) :: (nat_lit 512, o7E P) :: (nat_lit 514, o514S3 P) :: (nat_lit 515, o7E P) :: (nat_lit 517, o517S3 P) :: (nat_lit 518, o518S3 P) :: (nat_lit 519, o7E P) :: (nat_lit 521, o521S3 P) :: (nat_lit 522, o7E P) :: (nat_lit 524, o524S3 P) :: (nat_lit 525, o525S3 P) :: (nat_lit 526, o7E P) :: (nat_lit 528, o528S3 P) :: (nat_lit 529, o7E P) :: (nat_lit 531, o531S3 P) :: (nat_lit 532, o532S3 P) :: (nat_lit 533, o7E P) :: (nat_lit 535, o535S3 P) :: (nat_lit 536, o7E P) :: (nat_lit 538, o538S3 P) :: (nat_lit 539, o539S3 P) :: (nat_lit 540, o7E P) :: (nat_lit 542, o542S3 P) :: (nat_lit 543, o7E P) :: (nat_lit 545, o545S3 P) :: (nat_lit 546, o546S3 P) :: (nat_lit 547, o547S3 P) :: (nat_lit 548, o7E P) :: (nat_lit 550, o550S3 P) :: (nat_lit 551, o7E P) :: (nat_lit 553, o553S3 P) :: (nat_lit 554, o554S3 P) :: (nat_lit 555, o74S1 P) :: (nat_lit 556, o7E P) :: (nat_lit 558, o558S3 P) :: (nat_lit 559, o7E P) :: (nat_lit 561, o561S3 P) :: (nat_lit 562, o562S3 P) :: (nat_lit 563, o563S3 P) :: (nat_lit 564, o7E P) :: (nat_lit 566, o566S3 P) :: (nat_lit 567, o7E P) :: (nat_lit 569, o569S3 P) :: (nat_lit 570, o570S3 P) :: (nat_lit 571, o571S3 P) :: (nat_lit 572, o7E P) :: (nat_lit 574, o574S3 P) :: (nat_lit 575, o7E P) :: (nat_lit 577, o577S3 P) :: (nat_lit 578, o578S3 P) :: (nat_lit 579, o579S3 P) :: (nat_lit 580, o7E P) :: (nat_lit 582, o582S3 P) :: (nat_lit 583, o7E P) :: (nat_lit 585, o585S3 P) :: (nat_lit 586, o586S3 P) :: (nat_lit 587, o7E P) :: (nat_lit 589, o589S3 P) :: (nat_lit 590, o7E P) :: (nat_lit 592, o592S3 P) :: (nat_lit 593, o593S3 P) :: (nat_lit 594, o7E P) :: (nat_lit 596, o596S3 P) :: (nat_lit 597, o7E P) :: (nat_lit 599, o599S3 P) :: (nat_lit 600, o600S3 P) :: (nat_lit 601, o7E P) :: (nat_lit 603, o603S3 P) :: (nat_lit 604, o7E P) :: (nat_lit 606, o606S3 P) :: (nat_lit 607, o607S3 P) :: (nat_lit 608, o7E P) :: (nat_lit 610, o610S3 P) :: (nat_lit 611, o7E P) :: (nat_lit 613, o613S3 P) :: (nat_lit 614, o614S3 P) :: (nat_lit 615, o7E P) :: (nat_lit 617, o617S3 P) :: (nat_lit 618, o7E P) :: (nat_lit 620, o620S3 P) :: (nat_lit 621, o621S3 P) :: (nat_lit 622, o622S3 P) :: (nat_lit 623, o623S3 P) :: (nat_lit 624, o624S3 P) :: (nat_lit 627, o7E P) :: (nat_lit 629, o629S4 P) :: (nat_lit 630, o7E P) :: (nat_lit 632, o632S4 P) :: (nat_lit 633, o633S4 P) :: (nat_lit 634, o7E P) :: (nat_lit 636, o636S4 P) :: (nat_lit 637, o7E P) :: (nat_lit 639, o639S4 P) :: (nat_lit 640, o640S4 P) :: (nat_lit 641, o7E P) :: (nat_lit 643, o643S4 P) :: (nat_lit 644, o7E P) :: (nat_lit 646, o646S4 P) :: (nat_lit 647, o647S4 P) :: (nat_lit 648, o7E P) :: (nat_lit 650, o650S4 P) :: (nat_lit 651, o7E P) :: (nat_lit 653, o653S4 P) :: (nat_lit 654, o654S4 P) :: (nat_lit 655, o7E P) :: (nat_lit 657, o657S4 P) :: (nat_lit 658, o7E P) :: (nat_lit 660, o660S4 P) :: (nat_lit 661, o661S4 P) :: (nat_lit 662, o7E P) :: (nat_lit 664, o664S4 P) :: (nat_lit 665, o7E P) :: (nat_lit 667, o667S4 P) :: (nat_lit 668, o668S4 P) :: (nat_lit 676, o676S4 P) :: (nat_lit 677, o7E P) :: (nat_lit 679, o679S4 P) :: (nat_lit 680, o7E P) :: (nat_lit 682, o682S4 P) :: (nat_lit 683, o683S4 P) :: (nat_lit 684, o7E P) :: (nat_lit 686, o686S4 P) :: (nat_lit 687, o7E P) :: (nat_lit 689, o689S4 P) :: (nat_lit 690, o690S4 P) :: (nat_lit 691, o691S4 P) :: (nat_lit 692, o7E P) :: (nat_lit 694, o694S4 P) :: (nat_lit 695, o7E P) :: (nat_lit 697, o697S4 P) :: (nat_lit 698, o698S4 P) :: (nat_lit 699, o74S1 P) :: (nat_lit 700, o7E P) :: (nat_lit 702, o702S4 P) :: (nat_lit 703, o7E P) :: (nat_lit 705, o705S4 P) :: (nat_lit 706, o706S4 P) :: (nat_lit 707, o7E P) :: (nat_lit 709, o709S4 P) :: (nat_lit 710, o7E P) :: (nat_lit 712, o712S4 P) :: (nat_lit 713, o713S4 P) :: (nat_lit 714, o7E P) :: (nat_lit 716, o716S4 P) :: (nat_lit 717, o7E P) :: (nat_lit 719, o719S4 P) :: (nat_lit 720, o720S4 P) :: (nat_lit 721, o7E P) :: (nat_lit 723, o723S4 P) :: (nat_lit 724, o7E P) :: (nat_lit 726, o726S4 P) :: (nat_lit 727, o727S4 P) :: (nat_lit 728, o7E P) :: (nat_lit 730, o730S4 P) :: (nat_lit 731, o7E P) :: (nat_lit 733, o733S4 P) :: (nat_lit 734, o734S4 P) :: (nat_lit 735, o735S4 P) :: (nat_lit 736, o7E P) :: (nat_lit 738, o738S4 P) :: (nat_lit 739, o7E P) :: (nat_lit 741, o741S4 P) :: (nat_lit 742, o742S4 P) :: (nat_lit 743, o7E P) :: (nat_lit 745, o745S4 P) :: (nat_lit 746, o7E P) :: (nat_lit 748, o748S4 P) :: (nat_lit 749, o749S4 P) :: (nat_lit 750, o7E P) :: (nat_lit 752, o752S4 P) :: (nat_lit 753, o7E P) :: (nat_lit 755, o755S4 P) :: (nat_lit 756, o756S4 P) :: (nat_lit 757, o757S4 P) :: (nat_lit 758, o758S4 P) :: (nat_lit 759, o759S4 P) :: (nat_lit 760, o760S4 P) :: (nat_lit 761, o761S4 P) :: (nat_lit 764, o764S4 P) :: (nat_lit 765, o7E P) :: (nat_lit 767, o767S4 P) :: (nat_lit 768, o7E P) :: (nat_lit 770, o770S4 P) :: (nat_lit 771, o771S4 P) :: (nat_lit 772, o7E P) :: (nat_lit 774, o774S4 P) :: (nat_lit 775, o7E P) :: (nat_lit 777, o777S4 P) :: (nat_lit 778, o778S4 P) :: (nat_lit 779, o779S4 P) :: (nat_lit 780, o7E P) :: (nat_lit 782, o782S4 P) :: (nat_lit 783, o7E P) :: (nat_lit 785, o785S4 P) :: (nat_lit 786, o786S4 P) :: (nat_lit 787, o7E P) :: (nat_lit 789, o789S4 P) :: (nat_lit 790, o7E P) :: (nat_lit 792, o792S4 P) :: (nat_lit 793, o793S4 P) :: (nat_lit 794, o7E P) :: (nat_lit 796, o796S4 P) :: (nat_lit 797, o7E P) :: (nat_lit 799, o799S4 P) :: (nat_lit 800, o800S4 P) :: (nat_lit 801, o7E P) :: (nat_lit 804, o804S4 P) :: (nat_lit 805, o805S4 P) :: (nat_lit 806, o7E P) :: (nat_lit 809, o809S4 P) :: (nat_lit 810, o810S4 P) :: (nat_lit 811, o7E P) :: (nat_lit 814, o814S4 P) :: (nat_lit 815, o815S4 P) :: (nat_lit 816, o7E P) :: (nat_lit 819, o819S4 P) :: (nat_lit 820, o820S4 P) :: []
noncomputable def KA : List Addr := nat_lit 2 :: nat_lit 3 :: nat_lit 4 :: nat_lit 38 :: nat_lit 40 :: nat_lit 41 :: nat_lit 43 :: nat_lit 44 :: nat_lit 45 :: nat_lit 52 :: nat_lit 53 :: nat_lit 54 :: nat_lit 55 :: nat_lit 58 :: nat_lit 60 :: nat_lit 61 :: nat_lit 63 :: nat_lit 64 :: nat_lit 65 :: nat_lit 67 :: nat_lit 68 :: nat_lit 70 :: nat_lit 71 :: nat_lit 75 :: nat_lit 76 :: nat_lit 77 :: nat_lit 79 :: nat_lit 80 :: nat_lit 82 :: nat_lit 83 :: nat_lit 84 :: nat_lit 86 :: nat_lit 87 :: nat_lit 89 :: nat_lit 90 :: nat_lit 91 :: nat_lit 98 :: nat_lit 99 :: nat_lit 100 :: nat_lit 101 :: nat_lit 111 :: nat_lit 113 :: nat_lit 114 :: nat_lit 116 :: nat_lit 117 :: nat_lit 118 :: nat_lit 119 :: nat_lit 120 :: nat_lit 121 :: nat_lit 122 :: nat_lit 123 :: nat_lit 126 :: nat_lit 133 :: nat_lit 134 :: nat_lit 135 :: nat_lit 138 :: nat_lit 145 :: nat_lit 146 :: nat_lit 147 :: nat_lit 150 :: nat_lit 157 :: nat_lit 158 :: nat_lit 160 :: nat_lit 161 :: nat_lit 163 :: nat_lit 164 :: nat_lit 165 :: nat_lit 167 :: nat_lit 168 :: nat_lit 170 :: nat_lit 171 :: nat_lit 172 :: nat_lit 174 :: nat_lit 175 :: nat_lit 177 :: nat_lit 178 :: nat_lit 179 :: nat_lit 181 :: nat_lit 182 :: nat_lit 184 :: nat_lit 185 :: nat_lit 186 :: nat_lit 187 :: nat_lit 189 :: nat_lit 190 :: nat_lit 192 :: nat_lit 193 :: nat_lit 194 :: nat_lit 196 :: nat_lit 197 :: nat_lit 199 :: nat_lit 200 :: nat_lit 201 :: nat_lit 203 :: nat_lit 204 :: nat_lit 206 :: nat_lit 207 :: nat_lit 208 :: nat_lit 210 :: nat_lit 211 :: nat_lit 213 :: nat_lit 214 :: nat_lit 215 :: nat_lit 217 :: nat_lit 218 :: nat_lit 220 :: nat_lit 221 :: nat_lit 222 :: nat_lit 224 :: nat_lit 225 :: nat_lit 227 :: nat_lit 228 :: nat_lit 229 :: nat_lit 231 :: nat_lit 232 :: nat_lit 234 :: nat_lit 235 :: nat_lit 236 :: nat_lit 238 :: nat_lit 239 :: nat_lit 241 :: nat_lit 242 :: nat_lit 243 :: nat_lit 245 :: nat_lit 246 :: nat_lit 248 :: nat_lit 249 :: nat_lit 250 :: nat_lit 252 :: nat_lit 253 :: nat_lit 255 :: nat_lit 256 :: nat_lit 257 :: nat_lit 259 :: nat_lit 260 :: nat_lit 262 :: nat_lit 263 :: nat_lit 264 :: nat_lit 266 :: nat_lit 267 :: nat_lit 269 :: nat_lit 270 :: nat_lit 271 :: nat_lit 273 :: nat_lit 274 :: nat_lit 276 :: nat_lit 277 :: nat_lit 278 :: nat_lit 279 :: nat_lit 281 :: nat_lit 282 :: nat_lit 284 :: nat_lit 285 :: nat_lit 286 :: nat_lit 287 :: nat_lit 289 :: nat_lit 290 :: nat_lit 292 :: nat_lit 293 :: nat_lit 294 :: nat_lit 295 :: nat_lit 297 :: nat_lit 298 :: nat_lit 300 :: nat_lit 301 :: nat_lit 302 :: nat_lit 303 :: nat_lit 305 :: nat_lit 306 :: nat_lit 308 :: nat_lit 309 :: nat_lit 310 :: nat_lit 312 :: nat_lit 313 :: nat_lit 315 :: nat_lit 316 :: nat_lit 317 :: nat_lit 319 :: nat_lit 320 :: nat_lit 322 :: nat_lit 323 :: nat_lit 324 :: nat_lit 325 :: nat_lit 327 :: nat_lit 328 :: nat_lit 330 :: nat_lit 331 :: nat_lit 332 :: nat_lit 333 :: nat_lit 335 :: nat_lit 336 :: nat_lit 338 :: nat_lit 339 :: nat_lit 340 :: nat_lit 342 :: nat_lit 343 :: nat_lit 345 :: nat_lit 346 :: nat_lit 347 :: nat_lit 349 :: nat_lit 350 :: nat_lit 352 :: nat_lit 353 :: nat_lit 354 :: nat_lit 356 :: nat_lit 357 :: nat_lit 359 :: nat_lit 360 :: nat_lit 361 :: nat_lit 363 :: nat_lit 364 :: nat_lit 366 :: nat_lit 367 :: nat_lit 368 :: nat_lit 370 :: nat_lit 371 :: nat_lit 373 :: nat_lit 374 :: nat_lit 375 :: nat_lit 376 :: nat_lit 377 :: nat_lit 380 :: nat_lit 387 :: nat_lit 388 :: nat_lit 390 :: nat_lit 391 :: nat_lit 393 :: nat_lit 394 :: nat_lit 395 :: nat_lit 397 :: nat_lit 398 :: nat_lit 400 :: nat_lit 401 :: nat_lit 402 :: nat_lit 404 :: nat_lit 405 :: nat_lit 407 :: nat_lit 408 :: nat_lit 409 :: nat_lit 411 :: nat_lit 412 :: nat_lit 414 :: nat_lit 415 :: nat_lit 416 :: nat_lit 418 :: nat_lit 419 :: nat_lit 421 :: nat_lit 422 :: nat_lit 423 :: nat_lit 425 :: nat_lit 426 :: nat_lit 428 :: nat_lit 429 :: nat_lit 430 :: nat_lit 431 :: nat_lit 433 :: nat_lit 434 :: nat_lit 436 :: nat_lit 437 :: nat_lit 438 :: nat_lit 439 :: nat_lit 441 :: nat_lit 442 :: nat_lit 444 :: nat_lit 445 :: nat_lit 446 :: nat_lit 447 :: nat_lit 449 :: nat_lit 450 :: nat_lit 452 :: nat_lit 453 :: nat_lit 454 :: nat_lit 455 :: nat_lit 457 :: nat_lit 458 :: nat_lit 460 :: nat_lit 461 :: nat_lit 462 :: nat_lit 463 :: nat_lit 465 :: nat_lit 466 :: nat_lit 468 :: nat_lit 469 :: nat_lit 470 :: nat_lit 472 :: nat_lit 473 :: nat_lit 475 :: nat_lit 476 :: nat_lit 477 :: nat_lit 479 :: nat_lit 480 :: nat_lit 482 :: nat_lit 483 :: nat_lit 484 :: nat_lit 486 :: nat_lit 487 :: nat_lit 489 :: nat_lit 490 :: nat_lit 491 :: nat_lit 493 :: nat_lit 494 :: nat_lit 496 :: nat_lit 497 :: nat_lit 498 :: nat_lit 500 :: nat_lit 501 :: nat_lit 503 :: nat_lit 504 :: nat_lit 505 :: nat_lit 507 :: nat_lit 508 :: nat_lit 510 :: nat_lit 511 :: nat_lit 512 :: nat_lit 514 :: nat_lit 515 :: nat_lit 517 :: nat_lit 518 :: nat_lit 519 :: nat_lit 521 :: nat_lit 522 :: nat_lit 524 :: nat_lit 525 :: nat_lit 526 :: nat_lit 528 :: nat_lit 529 :: nat_lit 531 :: nat_lit 532 :: nat_lit 533 :: nat_lit 535 :: nat_lit 536 :: nat_lit 538 :: nat_lit 539 :: nat_lit 540 :: nat_lit 542 :: nat_lit 543 :: nat_lit 545 :: nat_lit 546 :: nat_lit 547 :: nat_lit 548 :: nat_lit 550 :: nat_lit 551 :: nat_lit 553 :: nat_lit 554 :: nat_lit 555 :: nat_lit 556 :: nat_lit 558 :: nat_lit 559 :: nat_lit 561 :: nat_lit 562 :: nat_lit 563 :: nat_lit 564 :: nat_lit 566 :: nat_lit 567 :: nat_lit 569 :: nat_lit 570 :: nat_lit 571 :: nat_lit 572 :: nat_lit 574 :: nat_lit 575 :: nat_lit 577 :: nat_lit 578 :: nat_lit 579 :: nat_lit 580 :: nat_lit 582 :: nat_lit 583 :: nat_lit 585 :: nat_lit 586 :: nat_lit 587 :: nat_lit 589 :: nat_lit 590 :: nat_lit 592 :: nat_lit 593 :: nat_lit 594 :: nat_lit 596 :: nat_lit 597 :: nat_lit 599 :: nat_lit 600 :: nat_lit 601 :: nat_lit 603 :: nat_lit 604 :: nat_lit 606 :: nat_lit 607 :: nat_lit 608 :: nat_lit 610 :: nat_lit 611 :: nat_lit 613 :: nat_lit 614 :: nat_lit 615 :: nat_lit 617 :: nat_lit 618 :: nat_lit 620 :: nat_lit 621 :: nat_lit 622 :: nat_lit 623 :: nat_lit 624 :: nat_lit 627 :: nat_lit 629 :: nat_lit 630 :: nat_lit 632 :: nat_lit 633 :: nat_lit 634 :: nat_lit 636 :: nat_lit 637 :: nat_lit 639 :: nat_lit 640 :: nat_lit 641 :: nat_lit 643 :: nat_lit 644 :: nat_lit 646 :: nat_lit 647 :: nat_lit 648 :: nat_lit 650 :: nat_lit 651 :: nat_lit 653 :: nat_lit 654 :: nat_lit 655 :: nat_lit 657 :: nat_lit 658 :: nat_lit 660 :: nat_lit 661 :: nat_lit 662 :: nat_lit 664 :: nat_lit 665 :: nat_lit 667 :: nat_lit 668 :: nat_lit 676 :: nat_lit 677 :: nat_lit 679 :: nat_lit 680 :: nat_lit 682 :: nat_lit 683 :: nat_lit 684 :: nat_lit 686 :: nat_lit 687 :: nat_lit 689 :: nat_lit 690 :: nat_lit 691 :: nat_lit 692 :: nat_lit 694 :: nat_lit 695 :: nat_lit 697 :: nat_lit 698 :: nat_lit 699 :: nat_lit 700 :: nat_lit 702 :: nat_lit 703 :: nat_lit 705 :: nat_lit 706 :: nat_lit 707 :: nat_lit 709 :: nat_lit 710 :: nat_lit 712 :: nat_lit 713 :: nat_lit 714 :: nat_lit 716 :: nat_lit 717 :: nat_lit 719 :: nat_lit 720 :: nat_lit 721 :: nat_lit 723 :: nat_lit 724 :: nat_lit 726 :: nat_lit 727 :: nat_lit 728 :: nat_lit 730 :: nat_lit 731 :: nat_lit 733 :: nat_lit 734 :: nat_lit 735 :: nat_lit 736 :: nat_lit 738 :: nat_lit 739 :: nat_lit 741 :: nat_lit 742 :: nat_lit 743 :: nat_lit 745 :: nat_lit 746 :: nat_lit 748 :: nat_lit 749 :: nat_lit 750 :: nat_lit 752 :: nat_lit 753 :: nat_lit 755 :: nat_lit 756 :: nat_lit 757 :: nat_lit 758 :: nat_lit 759 :: nat_lit 760 :: nat_lit 761 :: nat_lit 764 :: nat_lit 765 :: nat_lit 767 :: nat_lit 768 :: nat_lit 770 :: nat_lit 771 :: nat_lit 772 :: nat_lit 774 :: nat_lit 775 :: nat_lit 777 :: nat_lit 778 :: nat_lit 779 :: nat_lit 780 :: nat_lit 782 :: nat_lit 783 :: nat_lit 785 :: nat_lit 786 :: nat_lit 787 :: nat_lit 789 :: nat_lit 790 :: nat_lit 792 :: nat_lit 793 :: nat_lit 794 :: nat_lit 796 :: nat_lit 797 :: nat_lit 799 :: nat_lit 800 :: nat_lit 801 :: nat_lit 804 :: nat_lit 805 :: nat_lit 806 :: nat_lit 809 :: nat_lit 810 :: nat_lit 811 :: nat_lit 814 :: nat_lit 815 :: nat_lit 816 :: nat_lit 819 :: nat_lit 820 :: []
noncomputable def HE (P : Params) : Heap := ⟨⟨o0E P :: o1E P :: o2E P :: o3E P :: o4E P :: o5E P :: o6E P :: o7E P :: o8E P :: o9E P :: o10E P :: o11E P :: o12E P :: o13E P :: o14E P :: o7E P :: o16E P :: o17E P :: o18E P :: o19E P :: o20E P :: o21E P :: o22E P :: o23E P :: o24E P :: o25E P :: o26E P :: o27E P :: o28E P :: o29E P :: o30E P :: o19E P :: o32E P :: o33E P :: []⟩, {}⟩
noncomputable def HZ (P : Params) : Heap := ⟨⟨o0E P :: o1E P :: o2E P :: o3E P :: o4E P :: o5E P :: o6E P :: o7E P :: o8E P :: o9E P :: o10E P :: o11Z P :: o12E P :: o13E P :: o14E P :: o7E P :: o16E P :: o17E P :: o18E P :: o19E P :: o20E P :: o21E P :: o22E P :: o23E P :: o24E P :: o25E P :: o26E P :: o27E P :: o28E P :: o29Z P :: o30E P :: o19E P :: o32E P :: o33E P :: []⟩, {}⟩
noncomputable def HA (P : Params) : Heap := ⟨⟨o0E P :: o1E P :: o2E P :: o3E P :: o4E P :: o5E P :: o6E P :: o7E P :: o8E P :: o9E P :: o10E P :: o11Z P :: o12E P :: o13E P :: o14E P :: o7E P :: o16E P :: o17E P :: o18E P :: o19E P :: o20E P :: o21E P :: o22E P :: o23E P :: o24E P :: o25E P :: o26E P :: o27E P :: o28E P :: o29Z P :: o30E P :: o19E P :: o32E P :: o33E P :: o7E P :: o8E P :: o36A P :: o37A P :: []⟩, {}⟩
noncomputable def HF (P : Params) : Heap := ⟨⟨o0E P :: o1E P :: o2S1 P :: o3S4 P :: o4E P :: o5E P :: o6E P :: o7E P :: o8E P :: o9E P :: o10E P :: o11Z P :: o12E P :: o13E P :: o14E P :: o7E P :: o16E P :: o17E P :: o18E P :: o19E P :: o20E P :: o21E P :: o22E P :: o23E P :: o24E P :: o25E P :: o26E P :: o27E P :: o28E P :: o29Z P :: o30E P :: o19E P :: o32E P :: o33E P :: o7E P :: o35S4 P :: o36A P :: o37A P :: o7E P :: o8E P :: o40S1 P :: o7E P :: o42S1 P :: o43S1 P :: o44S1 P :: o45S1 P :: o46S1 P :: o47S1 P :: o7E P :: o8E P :: o50S1 P :: o51S1 P :: o7E P :: o53S1 P :: o54S1 P :: o55S1 P :: o56S1 P :: o57S1 P :: o7E P :: o8E P :: o60S1 P :: o7E P :: o62S1 P :: o63S1 P :: o64S1 P :: o7E P :: o8E P :: o67S1 P :: o7E P :: o69S1 P :: o70S1 P :: o71S1 P :: o72S1 P :: o6E P :: o74S1 P :: o75S1 P :: o76S1 P :: o7E P :: o8E P :: o79S1 P :: o7E P :: o81S1 P :: o82S1 P :: o83S1 P :: o7E P :: o8E P :: o86S1 P :: o7E P :: o88S1 P :: o89S1 P :: o90S1 P :: o91S1 P :: o46S1 P :: o93S1 P :: o7E P :: o8E P :: o96S1 P :: o97S1 P :: o7E P :: o99S1 P :: o100S1 P :: o101S1 P :: o102S1 P :: o103S1 P :: o7E P :: o46S1 P :: o106S1 P :: o7E P :: o108S1 P :: o109S1 P :: o110S1 P :: o7E P :: o8E P :: o113S1 P :: o7E P :: o115S1 P :: o116S1 P :: o117S1 P :: o7E P :: o119S1 P :: o120S1 P :: o121S1 P :: o122S1 P :: o123S1 P :: o124S1 P :: o125S1 P :: o126S1 P :: o46S1 P :: o128S1 P :: o7E P :: o8E P :: o131S1 P :: o132S1 P :: o7E P :: o134S1 P :: o135S2 P :: o136S1 P :: o137S1 P :: o126S1 P :: o46S1 P :: o140S1 P :: o7E P :: o8E P :: o143S1 P :: o144S1 P :: o7E P :: o146S1 P :: o147S3 P :: o148S1 P :: o149S1 P :: o150S2 P :: o46S1 P :: o152S2 P :: o7E P :: o154S2 P :: o155S2 P :: o156S2 P :: o74S1 P :: o7E P :: o8E P :: o160S2 P :: o7E P :: o162S2 P :: o163S2 P :: o164S2 P :: o7E P :: o8E P :: o167S2 P :: o7E P :: o169S2 P :: o170S2 P :: o171S2 P :: o7E P :: o8E P :: o174S2 P :: o7E P :: o176S2 P :: o177S2 P :: o178S2 P :: o7E P :: o8E P :: o181S2 P :: o7E P :: o183S2 P :: o184S2 P :: o185S2 P :: o186S2 P :: o7E P :: o8E P :: o189S2 P :: o7E P :: o191S2 P :: o192S2 P :: o193S2 P :: o7E P :: o8E P :: o196S2 P :: o7E P :: o198S2 P :: o199S2 P :: o200S2 P :: o7E P :: o8E P :: o203S2 P :: o7E P :: o205S2 P :: o206S2 P :: o207S2 P :: o7E P :: o8E P :: o210S2 P :: o7E P :: o212S2 P :: o213S2 P :: o214S2 P :: o7E P :: o8E P :: o217S2 P :: o7E P :: o219S2 P :: o220S2 P :: o221S2 P :: o7E P :: o8E P :: o224S2 P :: o7E P :: o226S2 P :: o227S2 P :: o228S2 P :: o7E P :: o8E P :: o231S2 P :: o7E P :: o233S2 P :: o234S2 P :: o235S2 P :: o7E P :: o8E P :: o238S2 P :: o7E P :: o240S2 P :: o241S2 P :: o242S2 P :: o7E P :: o8E P :: o245S2 P :: o7E P :: o247S2 P :: o248S2 P :: o249S2 P :: o7E P :: o8E P :: o252S2 P :: o7E P :: o254S2 P :: o255S2 P :: o256S2 P :: o7E P :: o8E P :: o259S2 P :: o7E P :: o261S2 P :: o262S2 P :: o263S2 P :: o7E P :: o8E P :: o266S2 P :: o7E P :: o268S2 P :: o269S2 P :: o270S2 P :: o7E P :: o8E P :: o273S2 P :: o7E P :: o275S2 P :: o276S2 P :: o277S2 P :: o278S2 P :: o7E P :: o8E P :: o281S2 P :: o7E P :: o283S2 P :: o284S2 P :: o285S2 P :: o74S1 P :: o7E P :: o8E P :: o289S2 P :: o7E P :: o291S2 P :: o292S2 P :: o293S2 P :: o294S2 P :: o7E P :: o8E P :: o297S2 P :: o7E P :: o299S2 P :: o300S2 P :: o301S2 P :: o302S2 P :: o7E P :: o8E P :: o305S2 P :: o7E P :: o307S2 P :: o308S2 P :: o309S2 P :: o7E P :: o8E P :: o312S2 P :: o7E P :: o314S2 P :: o315S2 P :: o316S2 P :: o7E P :: o8E P :: o319S2 P :: o7E P :: o321S2 P :: o322S2 P :: o323S2 P :: o324S2 P :: o7E P :: o8E P :: o327S2 P :: o7E P :: o329S2 P :: o330S2 P :: o331S2 P :: o74S1 P :: o7E P :: o8E P :: o335S2 P :: o7E P :: o337S2 P :: o338S2 P :: o339S2 P :: o7E P :: o8E P :: o342S2 P :: o7E P :: o344S2 P :: o345S2 P :: o346S2 P :: o7E P :: o8E P :: o349S2 P :: o7E P :: o351S2 P :: o352S2 P :: o353S2 P :: o7E P :: o8E P :: o356S2 P :: o7E P :: o358S2 P :: o359S2 P :: o360S2 P :: o7E P :: o8E P :: o363S2 P :: o7E P :: o365S2 P :: o366S2 P :: o367S2 P :: o7E P :: o8E P :: o370S2 P :: o7E P :: o372S2 P :: o373S2 P :: o374S2 P :: o375S2 P :: o376S2 P :: o377S2 P :: o378S2 P :: o379S2 P :: o380S3 P :: o46S1 P :: o382S3 P :: o7E P :: o384S3 P :: o385S3 P :: o386S3 P :: o387S3 P :: o7E P :: o8E P :: o390S3 P :: o7E P :: o392S3 P :: o393S3 P :: o394S3 P :: o7E P :: o8E P :: o397S3 P :: o7E P :: o399S3 P :: o400S3 P :: o401S3 P :: o7E P :: o8E P :: o404S3 P :: o7E P :: o406S3 P :: o407S3 P :: o408S3 P :: o7E P :: o8E P :: o411S3 P :: o7E P :: o413S3 P :: o414S3 P :: o415S3 P :: o7E P :: o8E P :: o418S3 P :: o7E P :: o420S3 P :: o421S3 P :: o422S3 P :: o7E P :: o8E P :: o425S3 P :: o7E P :: o427S3 P :: o428S3 P :: o429S3 P :: o430S3 P :: o7E P :: o8E P :: o433S3 P :: o7E P :: o435S3 P :: o436S3 P :: o437S3 P :: o438S3 P :: o7E P :: o8E P :: o441S3 P :: o7E P :: o443S3 P :: o444S3 P :: o445S3 P :: o446S3 P :: o7E P :: o8E P :: o449S3 P :: o7E P :: o451S3 P :: o452S3 P :: o453S3 P :: o454S3 P :: o7E P :: o8E P :: o457S3 P :: o7E P :: o459S3 P :: o460S3 P :: o461S3 P :: o462S3 P :: o7E P :: o8E P :: o465S3 P :: o7E P :: o467S3 P :: o468S3 P :: o469S3 P :: o7E P :: o8E P :: o472S3 P :: o7E P :: o474S3 P :: o475S3 P :: o476S3 P :: o7E P :: o8E P :: o479S3 P :: o7E P :: o481S3 P :: o482S3 P :: o483S3 P :: o7E P :: o8E P :: o486S3 P :: o7E P :: o488S3 P :: o489S3 P :: o490S3 P :: o7E P :: o8E P :: o493S3 P :: o7E P :: o495S3 P :: o496S3 P :: o497S3 P :: o7E P :: o8E P :: o500S3 P :: o7E P :: o502S3 P :: o503S3 P :: o504S3 P :: o7E P :: o8E P :: o507S3 P :: o7E P :: o509S3 P :: o510S3 P :: o511S3 P :: o7E P :: o8E P :: o514S3 P :: o7E P :: o516S3 P :: o517S3 P :: o518S3 P :: o7E P :: o8E P :: o521S3 P :: o7E P :: o523S3 P :: o524S3 P :: o525S3 P :: o7E P :: o8E P :: o528S3 P :: o7E P :: o530S3 P :: o531S3 P :: o532S3 P :: o7E P :: o8E P :: o535S3 P :: o7E P :: o537S3 P :: o538S3 P :: o539S3 P :: o7E P :: o8E P :: o542S3 P :: o7E P :: o544S3 P :: o545S3 P :: o546S3 P :: o547S3 P :: o7E P :: o8E P :: o550S3 P :: o7E P :: o552S3 P :: o553S3 P :: o554S3 P :: o74S1 P :: o7E P :: o8E P :: o558S3 P :: o7E P :: o560S3 P :: o561S3 P :: o562S3 P :: o563S3 P :: o7E P :: o8E P :: o566S3 P :: o7E P :: o568S3 P :: o569S3 P :: o570S3 P :: o571S3 P :: o7E P :: o8E P :: o574S3 P :: o7E P :: o576S3 P :: o577S3 P :: o578S3 P :: o579S3 P :: o7E P :: o8E P :: o582S3 P :: o7E P :: o584S3 P :: o585S3 P :: o586S3 P :: o7E P :: o8E P :: o589S3 P :: o7E P :: o591S3 P :: o592S3 P :: o593S3 P :: o7E P :: o8E P :: o596S3 P :: o7E P :: o598S3 P :: o599S3 P :: o600S3 P :: o7E P :: o8E P :: o603S3 P :: o7E P :: o605S3 P :: o606S3 P :: o607S3 P :: o7E P :: o8E P :: o610S3 P :: o7E P :: o612S3 P :: o613S3 P :: o614S3 P :: o7E P :: o8E P :: o617S3 P :: o7E P :: o619S3 P :: o620S3 P :: o621S3 P :: o622S3 P :: o623S3 P :: o624S3 P :: o625S3 P :: o626S3 P :: o7E P :: o8E P :: o629S4 P :: o7E P :: o631S4 P :: o632S4 P :: o633S4 P :: o7E P :: o8E P :: o636S4 P :: o7E P :: o638S4 P :: o639S4 P :: o640S4 P :: o7E P :: o8E P :: o643S4 P :: o7E P :: o645S4 P :: o646S4 P :: o647S4 P :: o7E P :: o8E P :: o650S4 P :: o7E P :: o652S4 P :: o653S4 P :: o654S4 P :: o7E P :: o8E P :: o657S4 P :: o7E P :: o659S4 P :: o660S4 P :: o661S4 P :: o7E P :: o8E P :: o664S4 P :: o7E P :: o666S4 P :: o667S4 P :: o668S4 P :: o7E P :: o46S1 P :: o671S4 P :: o7E P :: o673S4 P :: o674S4 P :: o675S4 P :: o676S4 P :: o7E P :: o8E P :: o679S4 P :: o7E P :: o681S4 P :: o682S4 P :: o683S4 P :: o7E P :: o8E P :: o686S4 P :: o7E P :: o688S4 P :: o689S4 P :: o690S4 P :: o691S4 P :: o7E P :: o8E P :: o694S4 P :: o7E P :: o696S4 P :: o697S4 P :: o698S4 P :: o74S1 P :: o7E P :: o8E P :: o702S4 P :: o7E P :: o704S4 P :: o705S4 P :: o706S4 P :: o7E P :: o8E P :: o709S4 P :: o7E P :: o711S4 P :: o712S4 P :: o713S4 P :: o7E P :: o8E P :: o716S4 P :: o7E P :: o718S4 P :: o719S4 P :: o720S4 P :: o7E P :: o8E P :: o723S4 P :: o7E P :: o725S4 P :: o726S4 P :: o727S4 P :: o7E P :: o8E P :: o730S4 P :: o7E P :: o732S4 P :: o733S4 P :: o734S4 P :: o735S4 P :: o7E P :: o8E P :: o738S4 P :: o7E P :: o740S4 P :: o741S4 P :: o742S4 P :: o7E P :: o8E P :: o745S4 P :: o7E P :: o747S4 P :: o748S4 P :: o749S4 P :: o7E P :: o8E P :: o752S4 P :: o7E P :: o754S4 P :: o755S4 P :: o756S4 P :: o757S4 P :: o758S4 P :: o759S4 P :: o760S4 P :: o761S4 P :: o762S4 P :: o763S4 P :: o764S4 P :: o7E P :: o8E P :: o767S4 P :: o7E P :: o769S4 P :: o770S4 P :: o771S4 P :: o7E P :: o8E P :: o774S4 P :: o7E P :: o776S4 P :: o777S4 P :: o778S4 P :: o779S4 P :: o7E P :: o8E P :: o782S4 P :: o7E P :: o784S4 P :: o785S4 P :: o786S4 P :: o7E P :: o8E P :: o789S4 P :: o7E P :: o791S4 P :: o792S4 P :: o793S4 P :: o7E P :: o8E P :: o796S4 P :: o7E P :: o798S4 P :: o799S4 P :: o800S4 P :: o7E P :: o8E P :: o803S4 P :: o804S4 P :: o805S4 P :: o7E P :: o8E P :: o808S4 P :: o809S4 P :: o810S4 P :: o7E P :: o8E P :: o813S4 P :: o814S4 P :: o815S4 P :: o7E P :: o8E P :: o818S4 P :: o819S4 P :: o820S4 P :: []⟩, {}⟩
noncomputable def TB (P : Params) : BT := (.node (o0E P) (.node (o1E P) (.node (o3E P) (.node (o7E P) (.node (o7E P) (.node (o19E P) .nil .nil) .nil) (.node (o23E P) .nil .nil)) (.node (o11Z P) (.node (o19E P) (.node (o8E P) .nil .nil) .nil) (.node (o27E P) .nil .nil))) (.node (o5E P) (.node (o9E P) (.node (o17E P) (.node (o33E P) .nil .nil) .nil) (.node (o25E P) .nil .nil)) (.node (o13E P) (.node (o21E P) (.node (o37A P) .nil .nil) .nil) (.node (o29Z P) .nil .nil)))) (.node (o2E P) (.node (o4E P) (.node (o8E P) (.node (o16E P) (.node (o32E P) .nil .nil) .nil) (.node (o24E P) .nil .nil)) (.node (o12E P) (.node (o20E P) (.node (o36A P) .nil .nil) .nil) (.node (o28E P) .nil .nil))) (.node (o6E P) (.node (o10E P) (.node (o18E P) (.node (o7E P) .nil .nil) .nil) (.node (o26E P) .nil .nil)) (.node (o14E P) (.node (o22E P) .nil .nil) (.node (o30E P) .nil .nil)))))
noncomputable def T1 (P : Params) : BT := (.node (o0E P) (.node (o1E P) (.node (o3S1 P) (.node (o7E P) (.node (o7E P) (.node (o19E P) (.node (o63S1 P) (.node (o46S1 P) .nil .nil) .nil) (.node (o8E P) .nil .nil)) (.node (o47S1 P) (.node (o79S1 P) (.node (o143S1 P) .nil .nil) .nil) (.node (o7E P) .nil .nil))) (.node (o23E P) (.node (o8E P) (.node (o71S1 P) (.node (o135S1 P) .nil .nil) .nil) (.node (o103S1 P) .nil .nil)) (.node (o55S1 P) (.node (o7E P) .nil .nil) (.node (o119S1 P) .nil .nil)))) (.node (o11Z P) (.node (o19E P) (.node (o35S1 P) (.node (o67S1 P) (.node (o131S1 P) .nil .nil) .nil) (.node (o99S1 P) .nil .nil)) (.node (o51S1 P) (.node (o83S1 P) (.node (o147S1 P) .nil .nil) .nil) (.node (o115S1 P) .nil .nil))) (.node (o27E P) (.node (o43S1 P) (.node (o75S1 P) (.node (o46S1 P) .nil .nil) .nil) (.node (o7E P) .nil .nil)) (.node (o8E P) (.node (o91S1 P) .nil .nil) (.node (o123S1 P) .nil .nil))))) (.node (o5E P) (.node (o9E P) (.node (o17E P) (.node (o33E P) (.node (o7E P) (.node (o7E P) .nil .nil) .nil) (.node (o97S1 P) .nil .nil)) (.node (o8E P) (.node (o81S1 P) (.node (o7E P) .nil .nil) .nil) (.node (o113S1 P) .nil .nil))) (.node (o25E P) (.node (o7E P) (.node (o6E P) (.node (o137S1 P) .nil .nil) .nil) (.node (o46S1 P) .nil .nil)) (.node (o57S1 P) (.node (o89S1 P) .nil .nil) (.node (o121S1 P) .nil .nil)))) (.node (o13E P) (.node (o21E P) (.node (o37A P) (.node (o69S1 P) (.node (o7E P) .nil .nil) .nil) (.node (o101S1 P) .nil .nil)) (.node (o53S1 P) (.node (o8E P) (.node (o149S1 P) .nil .nil) .nil) (.node (o117S1 P) .nil .nil))) (.node (o29Z P) (.node (o45S1 P) (.node (o7E P) (.node (o7E P) .nil .nil) .nil) (.node (o109S1 P) .nil .nil)) (.node (o7E P) (.node (o93S1 P) .nil .nil) (.node (o125S1 P) .nil .nil)))))) (.node (o2S1 P) (.node (o4E P) (.node (o8E P) (.node (o16E P) (.node (o32E P) (.node (o64S1 P) (.node (o128S1 P) .nil .nil) .nil) (.node (o96S1 P) .nil .nil)) (.node (o7E P) (.node (o7E P) (.node (o144S1 P) .nil .nil) .nil) (.node (o8E P) .nil .nil))) (.node (o24E P) (.node (o40S1 P) (.node (o72S1 P) (.node (o136S1 P) .nil .nil) .nil) (.node (o7E P) .nil .nil)) (.node (o56S1 P) (.node (o88S1 P) .nil .nil) (.node (o120S1 P) .nil .nil)))) (.node (o12E P) (.node (o20E P) (.node (o36A P) (.node (o7E P) (.node (o132S1 P) .nil .nil) .nil) (.node (o100S1 P) .nil .nil)) (.node (o7E P) (.node (o7E P) (.node (o148S1 P) .nil .nil) .nil) (.node (o116S1 P) .nil .nil))) (.node (o28E P) (.node (o44S1 P) (.node (o76S1 P) (.node (o140S1 P) .nil .nil) .nil) (.node (o108S1 P) .nil .nil)) (.node (o60S1 P) (.node (o46S1 P) .nil .nil) (.node (o124S1 P) .nil .nil))))) (.node (o6E P) (.node (o10E P) (.node (o18E P) (.node (o7E P) (.node (o8E P) (.node (o8E P) .nil .nil) .nil) (.node (o7E P) .nil .nil)) (.node (o50S1 P) (.node (o82S1 P) (.node (o146S1 P) .nil .nil) .nil) (.node (o7E P) .nil .nil))) (.node (o26E P) (.node (o42S1 P) (.node (o74S1 P) (.node (o126S1 P) .nil .nil) .nil) (.node (o106S1 P) .nil .nil)) (.node (o7E P) (.node (o90S1 P) .nil .nil) (.node (o122S1 P) .nil .nil)))) (.node (o14E P) (.node (o22E P) (.node (o7E P) (.node (o70S1 P) (.node (o134S1 P) .nil .nil) .nil) (.node (o102S1 P) .nil .nil)) (.node (o54S1 P) (.node (o86S1 P) .nil .nil) (.node (o7E P) .nil .nil))) (.node (o30E P) (.node (o46S1 P) (.node (o8E P) (.node (o8E P) .nil .nil) .nil) (.node (o110S1 P) .nil .nil)) (.node (o62S1 P) (.node (o7E P) .nil .nil) (.node (o126S1 P) .nil .nil)))))))
noncomputable def T2 (P : Params) : BT := (.node (o0E P) (.node (o1E P) (.node (o3S2 P) (.node (o7E P) (.node (o7E P) (.node (o19E P) (.node (o63S1 P) (.node (o46S1 P) (.node (o255S2 P) .nil .nil) .nil) (.node (o191S2 P) (.node (o319S2 P) .nil .nil) .nil)) (.node (o8E P) (.node (o8E P) (.node (o7E P) .nil .nil) .nil) (.node (o8E P) (.node (o351S2 P) .nil .nil) .nil))) (.node (o47S1 P) (.node (o79S1 P) (.node (o143S1 P) (.node (o7E P) .nil .nil) .nil) (.node (o207S2 P) (.node (o335S2 P) .nil .nil) .nil)) (.node (o7E P) (.node (o7E P) (.node (o7E P) .nil .nil) .nil) (.node (o7E P) (.node (o367S2 P) .nil .nil) .nil)))) (.node (o23E P) (.node (o8E P) (.node (o71S1 P) (.node (o135S2 P) (.node (o263S2 P) .nil .nil) .nil) (.node (o199S2 P) (.node (o327S2 P) .nil .nil) .nil)) (.node (o103S1 P) (.node (o167S2 P) (.node (o7E P) .nil .nil) .nil) (.node (o231S2 P) (.node (o359S2 P) .nil .nil) .nil))) (.node (o55S1 P) (.node (o7E P) (.node (o46S1 P) (.node (o7E P) .nil .nil) .nil) (.node (o7E P) (.node (o7E P) .nil .nil) .nil)) (.node (o119S1 P) (.node (o183S2 P) (.node (o8E P) .nil .nil) .nil) (.node (o247S2 P) (.node (o375S2 P) .nil .nil) .nil))))) (.node (o11Z P) (.node (o19E P) (.node (o35S2 P) (.node (o67S1 P) (.node (o131S1 P) (.node (o259S2 P) .nil .nil) .nil) (.node (o8E P) (.node (o323S2 P) .nil .nil) .nil)) (.node (o99S1 P) (.node (o163S2 P) (.node (o291S2 P) .nil .nil) .nil) (.node (o227S2 P) (.node (o8E P) .nil .nil) .nil))) (.node (o51S1 P) (.node (o83S1 P) (.node (o147S1 P) (.node (o275S2 P) .nil .nil) .nil) (.node (o7E P) (.node (o339S2 P) .nil .nil) .nil)) (.node (o115S1 P) (.node (o7E P) (.node (o307S2 P) .nil .nil) .nil) (.node (o7E P) (.node (o7E P) .nil .nil) .nil)))) (.node (o27E P) (.node (o43S1 P) (.node (o75S1 P) (.node (o46S1 P) (.node (o7E P) .nil .nil) .nil) (.node (o203S2 P) (.node (o331S2 P) .nil .nil) .nil)) (.node (o7E P) (.node (o171S2 P) (.node (o299S2 P) .nil .nil) .nil) (.node (o235S2 P) (.node (o363S2 P) .nil .nil) .nil))) (.node (o8E P) (.node (o91S1 P) (.node (o155S2 P) (.node (o283S2 P) .nil .nil) .nil) (.node (o219S2 P) (.node (o7E P) .nil .nil) .nil)) (.node (o123S1 P) (.node (o7E P) (.node (o315S2 P) .nil .nil) .nil) (.node (o8E P) (.node (o379S2 P) .nil .nil) .nil)))))) (.node (o5E P) (.node (o9E P) (.node (o17E P) (.node (o33E P) (.node (o7E P) (.node (o7E P) (.node (o7E P) .nil .nil) .nil) (.node (o193S2 P) (.node (o321S2 P) .nil .nil) .nil)) (.node (o97S1 P) (.node (o7E P) (.node (o289S2 P) .nil .nil) .nil) (.node (o7E P) (.node (o353S2 P) .nil .nil) .nil))) (.node (o8E P) (.node (o81S1 P) (.node (o7E P) (.node (o273S2 P) .nil .nil) .nil) (.node (o8E P) (.node (o337S2 P) .nil .nil) .nil)) (.node (o113S1 P) (.node (o177S2 P) (.node (o305S2 P) .nil .nil) .nil) (.node (o241S2 P) (.node (o8E P) .nil .nil) .nil)))) (.node (o25E P) (.node (o7E P) (.node (o6E P) (.node (o137S1 P) (.node (o8E P) .nil .nil) .nil) (.node (o7E P) (.node (o329S2 P) .nil .nil) .nil)) (.node (o46S1 P) (.node (o169S2 P) (.node (o297S2 P) .nil .nil) .nil) (.node (o233S2 P) (.node (o7E P) .nil .nil) .nil))) (.node (o57S1 P) (.node (o89S1 P) (.node (o7E P) (.node (o281S2 P) .nil .nil) .nil) (.node (o217S2 P) (.node (o345S2 P) .nil .nil) .nil)) (.node (o121S1 P) (.node (o185S2 P) (.node (o7E P) .nil .nil) .nil) (.node (o249S2 P) (.node (o377S2 P) .nil .nil) .nil))))) (.node (o13E P) (.node (o21E P) (.node (o37A P) (.node (o69S1 P) (.node (o7E P) (.node (o261S2 P) .nil .nil) .nil) (.node (o7E P) (.node (o7E P) .nil .nil) .nil)) (.node (o101S1 P) (.node (o7E P) (.node (o293S2 P) .nil .nil) .nil) (.node (o7E P) (.node (o7E P) .nil .nil) .nil))) (.node (o53S1 P) (.node (o8E P) (.node (o149S1 P) (.node (o277S2 P) .nil .nil) .nil) (.node (o213S2 P) (.node (o8E P) .nil .nil) .nil)) (.node (o117S1 P) (.node (o181S2 P) (.node (o309S2 P) .nil .nil) .nil) (.node (o245S2 P) (.node (o373S2 P) .nil .nil) .nil)))) (.node (o29Z P) (.node (o45S1 P) (.node (o7E P) (.node (o7E P) (.node (o269S2 P) .nil .nil) .nil) (.node (o205S2 P) (.node (o7E P) .nil .nil) .nil)) (.node (o109S1 P) (.node (o8E P) (.node (o301S2 P) .nil .nil) .nil) (.node (o8E P) (.node (o365S2 P) .nil .nil) .nil))) (.node (o7E P) (.node (o93S1 P) (.node (o74S1 P) (.node (o285S2 P) .nil .nil) .nil) (.node (o221S2 P) (.node (o349S2 P) .nil .nil) .nil)) (.node (o125S1 P) (.node (o189S2 P) (.node (o7E P) .nil .nil) .nil) (.node (o7E P) .nil .nil))))))) (.node (o2S1 P) (.node (o4E P) (.node (o8E P) (.node (o16E P) (.node (o32E P) (.node (o64S1 P) (.node (o128S1 P) (.node (o256S2 P) .nil .nil) .nil) (.node (o192S2 P) (.node (o7E P) .nil .nil) .nil)) (.node (o96S1 P) (.node (o160S2 P) (.node (o8E P) .nil .nil) .nil) (.node (o224S2 P) (.node (o352S2 P) .nil .nil) .nil))) (.node (o7E P) (.node (o7E P) (.node (o144S1 P) (.node (o8E P) .nil .nil) .nil) (.node (o7E P) (.node (o7E P) .nil .nil) .nil)) (.node (o8E P) (.node (o176S2 P) (.node (o8E P) .nil .nil) .nil) (.node (o240S2 P) (.node (o7E P) .nil .nil) .nil)))) (.node (o24E P) (.node (o40S1 P) (.node (o72S1 P) (.node (o136S1 P) (.node (o7E P) .nil .nil) .nil) (.node (o200S2 P) (.node (o7E P) .nil .nil) .nil)) (.node (o7E P) (.node (o7E P) (.node (o8E P) .nil .nil) .nil) (.node (o7E P) (.node (o360S2 P) .nil .nil) .nil))) (.node (o56S1 P) (.node (o88S1 P) (.node (o152S2 P) (.node (o8E P) .nil .nil) .nil) (.node (o8E P) (.node (o344S2 P) .nil .nil) .nil)) (.node (o120S1 P) (.node (o184S2 P) (.node (o312S2 P) .nil .nil) .nil) (.node (o248S2 P) (.node (o376S2 P) .nil .nil) .nil))))) (.node (o12E P) (.node (o20E P) (.node (o36A P) (.node (o7E P) (.node (o132S1 P) (.node (o7E P) .nil .nil) .nil) (.node (o196S2 P) (.node (o324S2 P) .nil .nil) .nil)) (.node (o100S1 P) (.node (o164S2 P) (.node (o292S2 P) .nil .nil) .nil) (.node (o228S2 P) (.node (o356S2 P) .nil .nil) .nil))) (.node (o7E P) (.node (o7E P) (.node (o148S1 P) (.node (o276S2 P) .nil .nil) .nil) (.node (o212S2 P) (.node (o7E P) .nil .nil) .nil)) (.node (o116S1 P) (.node (o8E P) (.node (o308S2 P) .nil .nil) .nil) (.node (o8E P) (.node (o372S2 P) .nil .nil) .nil)))) (.node (o28E P) (.node (o44S1 P) (.node (o76S1 P) (.node (o140S1 P) (.node (o268S2 P) .nil .nil) .nil) (.node (o7E P) (.node (o74S1 P) .nil .nil) .nil)) (.node (o108S1 P) (.node (o7E P) (.node (o300S2 P) .nil .nil) .nil) (.node (o7E P) (.node (o7E P) .nil .nil) .nil))) (.node (o60S1 P) (.node (o46S1 P) (.node (o156S2 P) (.node (o284S2 P) .nil .nil) .nil) (.node (o220S2 P) (.node (o8E P) .nil .nil) .nil)) (.node (o124S1 P) (.node (o8E P) (.node (o316S2 P) .nil .nil) .nil) (.node (o252S2 P) .nil .nil)))))) (.node (o6E P) (.node (o10E P) (.node (o18E P) (.node (o7E P) (.node (o8E P) (.node (o8E P) (.node (o8E P) .nil .nil) .nil) (.node (o7E P) (.node (o322S2 P) .nil .nil) .nil)) (.node (o7E P) (.node (o162S2 P) (.node (o7E P) .nil .nil) .nil) (.node (o226S2 P) (.node (o7E P) .nil .nil) .nil))) (.node (o50S1 P) (.node (o82S1 P) (.node (o146S1 P) (.node (o7E P) .nil .nil) .nil) (.node (o210S2 P) (.node (o338S2 P) .nil .nil) .nil)) (.node (o7E P) (.node (o178S2 P) (.node (o7E P) .nil .nil) .nil) (.node (o242S2 P) (.node (o370S2 P) .nil .nil) .nil)))) (.node (o26E P) (.node (o42S1 P) (.node (o74S1 P) (.node (o126S1 P) (.node (o266S2 P) .nil .nil) .nil) (.node (o8E P) (.node (o330S2 P) .nil .nil) .nil)) (.node (o106S1 P) (.node (o170S2 P) (.node (o7E P) .nil .nil) .nil) (.node (o234S2 P) (.node (o8E P) .nil .nil) .nil))) (.node (o7E P) (.node (o90S1 P) (.node (o154S2 P) (.node (o7E P) .nil .nil) .nil) (.node (o7E P) (.node (o346S2 P) .nil .nil) .nil)) (.node (o122S1 P) (.node (o186S2 P) (.node (o314S2 P) .nil .nil) .nil) (.node (o7E P) (.node (o378S2 P) .nil .nil) .nil))))) (.node (o14E P) (.node (o22E P) (.node (o7E P) (.node (o70S1 P) (.node (o134S1 P) (.node (o262S2 P) .nil .nil) .nil) (.node (o198S2 P) (.node (o8E P) .nil .nil) .nil)) (.node (o102S1 P) (.node (o8E P) (.node (o294S2 P) .nil .nil) .nil) (.node (o8E P) (.node (o358S2 P) .nil .nil) .nil))) (.node (o54S1 P) (.node (o86S1 P) (.node (o150S2 P) (.node (o278S2 P) .nil .nil) .nil) (.node (o214S2 P) (.node (o342S2 P) .nil .nil) .nil)) (.node (o7E P) (.node (o7E P) (.node (o7E P) .nil .nil) .nil) (.node (o7E P) (.node (o374S2 P) .nil .nil) .nil)))) (.node (o30E P) (.node (o46S1 P) (.node (o8E P) (.node (o8E P) (.node (o270S2 P) .nil .nil) .nil) (.node (o206S2 P) (.node (o8E P) .nil .nil) .nil)) (.node (o110S1 P) (.node (o174S2 P) (.node (o302S2 P) .nil .nil) .nil) (.node (o238S2 P) (.node (o366S2 P) .nil .nil) .nil))) (.node (o62S1 P) (.node (o7E P) (.node (o7E P) (.node (o74S1 P) .nil .nil) .nil) (.node (o7E P) (.node (o7E P) .nil .nil) .nil)) (.node (o126S1 P) (.node (o7E P) (.node (o8E P) .nil .nil) .nil) (.node (o254S2 P) .nil .nil))))))))
noncomputable def T3 (P : Params) : BT := (.node (o0E P) (.node (o1E P) (.node (o3S3 P) (.node (o7E P) (.node (o7E P) (.node (o19E P) (.node (o63S1 P) (.node (o46S1 P) (.node (o255S2 P) (.node (o511S3 P) .nil .nil) .nil) (.node (o7E P) .nil .nil)) (.node (o191S2 P) (.node (o319S2 P) (.node (o7E P) .nil .nil) .nil) (.node (o7E P) .nil .nil))) (.node (o8E P) (.node (o8E P) (.node (o7E P) (.node (o7E P) .nil .nil) .nil) (.node (o415S3 P) .nil .nil)) (.node (o8E P) (.node (o351S2 P) (.node (o607S3 P) .nil .nil) .nil) (.node (o479S3 P) .nil .nil)))) (.node (o47S1 P) (.node (o79S1 P) (.node (o143S1 P) (.node (o7E P) (.node (o8E P) .nil .nil) .nil) (.node (o399S3 P) .nil .nil)) (.node (o207S2 P) (.node (o335S2 P) (.node (o591S3 P) .nil .nil) .nil) (.node (o7E P) .nil .nil))) (.node (o7E P) (.node (o7E P) (.node (o7E P) (.node (o7E P) .nil .nil) .nil) (.node (o7E P) .nil .nil)) (.node (o7E P) (.node (o367S2 P) (.node (o623S3 P) .nil .nil) .nil) (.node (o495S3 P) .nil .nil))))) (.node (o23E P) (.node (o8E P) (.node (o71S1 P) (.node (o135S2 P) (.node (o263S2 P) (.node (o7E P) .nil .nil) .nil) (.node (o7E P) .nil .nil)) (.node (o199S2 P) (.node (o327S2 P) (.node (o7E P) .nil .nil) .nil) (.node (o7E P) .nil .nil))) (.node (o103S1 P) (.node (o167S2 P) (.node (o7E P) (.node (o7E P) .nil .nil) .nil) (.node (o7E P) .nil .nil)) (.node (o231S2 P) (.node (o359S2 P) (.node (o7E P) .nil .nil) .nil) (.node (o7E P) .nil .nil)))) (.node (o55S1 P) (.node (o7E P) (.node (o46S1 P) (.node (o7E P) (.node (o535S3 P) .nil .nil) .nil) (.node (o407S3 P) .nil .nil)) (.node (o7E P) (.node (o7E P) (.node (o599S3 P) .nil .nil) .nil) (.node (o8E P) .nil .nil))) (.node (o119S1 P) (.node (o183S2 P) (.node (o8E P) (.node (o7E P) .nil .nil) .nil) (.node (o7E P) .nil .nil)) (.node (o247S2 P) (.node (o375S2 P) .nil .nil) (.node (o503S3 P) .nil .nil)))))) (.node (o11Z P) (.node (o19E P) (.node (o35S3 P) (.node (o67S1 P) (.node (o131S1 P) (.node (o259S2 P) (.node (o7E P) .nil .nil) .nil) (.node (o387S3 P) .nil .nil)) (.node (o8E P) (.node (o323S2 P) (.node (o579S3 P) .nil .nil) .nil) (.node (o451S3 P) .nil .nil))) (.node (o99S1 P) (.node (o163S2 P) (.node (o291S2 P) (.node (o547S3 P) .nil .nil) .nil) (.node (o7E P) .nil .nil)) (.node (o227S2 P) (.node (o8E P) (.node (o7E P) .nil .nil) .nil) (.node (o483S3 P) .nil .nil)))) (.node (o51S1 P) (.node (o83S1 P) (.node (o147S3 P) (.node (o275S2 P) (.node (o531S3 P) .nil .nil) .nil) (.node (o8E P) .nil .nil)) (.node (o7E P) (.node (o339S2 P) (.node (o8E P) .nil .nil) .nil) (.node (o467S3 P) .nil .nil))) (.node (o115S1 P) (.node (o7E P) (.node (o307S2 P) (.node (o563S3 P) .nil .nil) .nil) (.node (o435S3 P) .nil .nil)) (.node (o7E P) (.node (o7E P) .nil .nil) (.node (o8E P) .nil .nil))))) (.node (o27E P) (.node (o43S1 P) (.node (o75S1 P) (.node (o46S1 P) (.node (o7E P) (.node (o523S3 P) .nil .nil) .nil) (.node (o7E P) .nil .nil)) (.node (o203S2 P) (.node (o331S2 P) (.node (o7E P) .nil .nil) .nil) (.node (o459S3 P) .nil .nil))) (.node (o7E P) (.node (o171S2 P) (.node (o299S2 P) (.node (o74S1 P) .nil .nil) .nil) (.node (o427S3 P) .nil .nil)) (.node (o235S2 P) (.node (o363S2 P) (.node (o619S3 P) .nil .nil) .nil) (.node (o7E P) .nil .nil)))) (.node (o8E P) (.node (o91S1 P) (.node (o155S2 P) (.node (o283S2 P) (.node (o539S3 P) .nil .nil) .nil) (.node (o411S3 P) .nil .nil)) (.node (o219S2 P) (.node (o7E P) (.node (o603S3 P) .nil .nil) .nil) (.node (o475S3 P) .nil .nil))) (.node (o123S1 P) (.node (o7E P) (.node (o315S2 P) (.node (o571S3 P) .nil .nil) .nil) (.node (o443S3 P) .nil .nil)) (.node (o8E P) (.node (o379S2 P) .nil .nil) (.node (o507S3 P) .nil .nil))))))) (.node (o5E P) (.node (o9E P) (.node (o17E P) (.node (o33E P) (.node (o7E P) (.node (o7E P) (.node (o7E P) (.node (o8E P) .nil .nil) .nil) (.node (o385S3 P) .nil .nil)) (.node (o193S2 P) (.node (o321S2 P) (.node (o577S3 P) .nil .nil) .nil) (.node (o449S3 P) .nil .nil))) (.node (o97S1 P) (.node (o7E P) (.node (o289S2 P) (.node (o545S3 P) .nil .nil) .nil) (.node (o8E P) .nil .nil)) (.node (o7E P) (.node (o353S2 P) (.node (o8E P) .nil .nil) .nil) (.node (o481S3 P) .nil .nil)))) (.node (o8E P) (.node (o81S1 P) (.node (o7E P) (.node (o273S2 P) (.node (o7E P) .nil .nil) .nil) (.node (o401S3 P) .nil .nil)) (.node (o8E P) (.node (o337S2 P) (.node (o593S3 P) .nil .nil) .nil) (.node (o465S3 P) .nil .nil))) (.node (o113S1 P) (.node (o177S2 P) (.node (o305S2 P) (.node (o561S3 P) .nil .nil) .nil) (.node (o433S3 P) .nil .nil)) (.node (o241S2 P) (.node (o8E P) (.node (o625S3 P) .nil .nil) .nil) (.node (o497S3 P) .nil .nil))))) (.node (o25E P) (.node (o7E P) (.node (o6E P) (.node (o137S1 P) (.node (o8E P) (.node (o521S3 P) .nil .nil) .nil) (.node (o393S3 P) .nil .nil)) (.node (o7E P) (.node (o329S2 P) (.node (o585S3 P) .nil .nil) .nil) (.node (o457S3 P) .nil .nil))) (.node (o46S1 P) (.node (o169S2 P) (.node (o297S2 P) (.node (o553S3 P) .nil .nil) .nil) (.node (o425S3 P) .nil .nil)) (.node (o233S2 P) (.node (o7E P) (.node (o617S3 P) .nil .nil) .nil) (.node (o489S3 P) .nil .nil)))) (.node (o57S1 P) (.node (o89S1 P) (.node (o7E P) (.node (o281S2 P) (.node (o537S3 P) .nil .nil) .nil) (.node (o7E P) .nil .nil)) (.node (o217S2 P) (.node (o345S2 P) (.node (o7E P) .nil .nil) .nil) (.node (o7E P) .nil .nil))) (.node (o121S1 P) (.node (o185S2 P) (.node (o7E P) (.node (o569S3 P) .nil .nil) .nil) (.node (o441S3 P) .nil .nil)) (.node (o249S2 P) (.node (o377S2 P) .nil .nil) (.node (o7E P) .nil .nil)))))) (.node (o13E P) (.node (o21E P) (.node (o37A P) (.node (o69S1 P) (.node (o7E P) (.node (o261S2 P) (.node (o517S3 P) .nil .nil) .nil) (.node (o8E P) .nil .nil)) (.node (o7E P) (.node (o7E P) (.node (o8E P) .nil .nil) .nil) (.node (o453S3 P) .nil .nil))) (.node (o101S1 P) (.node (o7E P) (.node (o293S2 P) (.node (o8E P) .nil .nil) .nil) (.node (o421S3 P) .nil .nil)) (.node (o7E P) (.node (o7E P) (.node (o613S3 P) .nil .nil) .nil) (.node (o8E P) .nil .nil)))) (.node (o53S1 P) (.node (o8E P) (.node (o149S1 P) (.node (o277S2 P) (.node (o7E P) .nil .nil) .nil) (.node (o7E P) .nil .nil)) (.node (o213S2 P) (.node (o8E P) (.node (o7E P) .nil .nil) .nil) (.node (o469S3 P) .nil .nil))) (.node (o117S1 P) (.node (o181S2 P) (.node (o309S2 P) (.node (o8E P) .nil .nil) .nil) (.node (o437S3 P) .nil .nil)) (.node (o245S2 P) (.node (o373S2 P) .nil .nil) (.node (o7E P) .nil .nil))))) (.node (o29Z P) (.node (o45S1 P) (.node (o7E P) (.node (o7E P) (.node (o269S2 P) (.node (o525S3 P) .nil .nil) .nil) (.node (o397S3 P) .nil .nil)) (.node (o205S2 P) (.node (o7E P) (.node (o589S3 P) .nil .nil) .nil) (.node (o461S3 P) .nil .nil))) (.node (o109S1 P) (.node (o8E P) (.node (o301S2 P) (.node (o8E P) .nil .nil) .nil) (.node (o429S3 P) .nil .nil)) (.node (o8E P) (.node (o365S2 P) (.node (o621S3 P) .nil .nil) .nil) (.node (o493S3 P) .nil .nil)))) (.node (o7E P) (.node (o93S1 P) (.node (o74S1 P) (.node (o285S2 P) (.node (o8E P) .nil .nil) .nil) (.node (o413S3 P) .nil .nil)) (.node (o221S2 P) (.node (o349S2 P) (.node (o605S3 P) .nil .nil) .nil) (.node (o7E P) .nil .nil))) (.node (o125S1 P) (.node (o189S2 P) (.node (o7E P) (.node (o8E P) .nil .nil) .nil) (.node (o445S3 P) .nil .nil)) (.node (o7E P) (.node (o46S1 P) .nil .nil) (.node (o509S3 P) .nil .nil)))))))) (.node (o2S1 P) (.node (o4E P) (.node (o8E P) (.node (o16E P) (.node (o32E P) (.node (o64S1 P) (.node (o128S1 P) (.node (o256S2 P) (.node (o7E P) .nil .nil) .nil) (.node (o384S3 P) .nil .nil)) (.node (o192S2 P) (.node (o7E P) (.node (o576S3 P) .nil .nil) .nil) (.node (o8E P) .nil .nil))) (.node (o96S1 P) (.node (o160S2 P) (.node (o8E P) (.node (o544S3 P) .nil .nil) .nil) (.node (o7E P) .nil .nil)) (.node (o224S2 P) (.node (o352S2 P) (.node (o7E P) .nil .nil) .nil) (.node (o7E P) .nil .nil)))) (.node (o7E P) (.node (o7E P) (.node (o144S1 P) (.node (o8E P) (.node (o528S3 P) .nil .nil) .nil) (.node (o400S3 P) .nil .nil)) (.node (o7E P) (.node (o7E P) (.node (o592S3 P) .nil .nil) .nil) (.node (o8E P) .nil .nil))) (.node (o8E P) (.node (o176S2 P) (.node (o8E P) (.node (o560S3 P) .nil .nil) .nil) (.node (o8E P) .nil .nil)) (.node (o240S2 P) (.node (o7E P) (.node (o624S3 P) .nil .nil) .nil) (.node (o496S3 P) .nil .nil))))) (.node (o24E P) (.node (o40S1 P) (.node (o72S1 P) (.node (o136S1 P) (.node (o7E P) (.node (o8E P) .nil .nil) .nil) (.node (o392S3 P) .nil .nil)) (.node (o200S2 P) (.node (o7E P) (.node (o584S3 P) .nil .nil) .nil) (.node (o8E P) .nil .nil))) (.node (o7E P) (.node (o7E P) (.node (o8E P) (.node (o552S3 P) .nil .nil) .nil) (.node (o8E P) .nil .nil)) (.node (o7E P) (.node (o360S2 P) (.node (o8E P) .nil .nil) .nil) (.node (o488S3 P) .nil .nil)))) (.node (o56S1 P) (.node (o88S1 P) (.node (o152S2 P) (.node (o8E P) (.node (o7E P) .nil .nil) .nil) (.node (o408S3 P) .nil .nil)) (.node (o8E P) (.node (o344S2 P) (.node (o600S3 P) .nil .nil) .nil) (.node (o472S3 P) .nil .nil))) (.node (o120S1 P) (.node (o184S2 P) (.node (o312S2 P) (.node (o568S3 P) .nil .nil) .nil) (.node (o8E P) .nil .nil)) (.node (o248S2 P) (.node (o376S2 P) .nil .nil) (.node (o504S3 P) .nil .nil)))))) (.node (o12E P) (.node (o20E P) (.node (o36A P) (.node (o7E P) (.node (o132S1 P) (.node (o7E P) (.node (o516S3 P) .nil .nil) .nil) (.node (o7E P) .nil .nil)) (.node (o196S2 P) (.node (o324S2 P) (.node (o7E P) .nil .nil) .nil) (.node (o452S3 P) .nil .nil))) (.node (o100S1 P) (.node (o164S2 P) (.node (o292S2 P) (.node (o7E P) .nil .nil) .nil) (.node (o420S3 P) .nil .nil)) (.node (o228S2 P) (.node (o356S2 P) (.node (o612S3 P) .nil .nil) .nil) (.node (o7E P) .nil .nil)))) (.node (o7E P) (.node (o7E P) (.node (o148S1 P) (.node (o276S2 P) (.node (o532S3 P) .nil .nil) .nil) (.node (o404S3 P) .nil .nil)) (.node (o212S2 P) (.node (o7E P) (.node (o596S3 P) .nil .nil) .nil) (.node (o468S3 P) .nil .nil))) (.node (o116S1 P) (.node (o8E P) (.node (o308S2 P) (.node (o7E P) .nil .nil) .nil) (.node (o436S3 P) .nil .nil)) (.node (o8E P) (.node (o372S2 P) .nil .nil) (.node (o500S3 P) .nil .nil))))) (.node (o28E P) (.node (o44S1 P) (.node (o76S1 P) (.node (o140S1 P) (.node (o268S2 P) (.node (o524S3 P) .nil .nil) .nil) (.node (o8E P) .nil .nil)) (.node (o7E P) (.node (o74S1 P) (.node (o8E P) .nil .nil) .nil) (.node (o460S3 P) .nil .nil))) (.node (o108S1 P) (.node (o7E P) (.node (o300S2 P) (.node (o7E P) .nil .nil) .nil) (.node (o428S3 P) .nil .nil)) (.node (o7E P) (.node (o7E P) (.node (o620S3 P) .nil .nil) .nil) (.node (o8E P) .nil .nil)))) (.node (o60S1 P) (.node (o46S1 P) (.node (o156S2 P) (.node (o284S2 P) (.node (o7E P) .nil .nil) .nil) (.node (o7E P) .nil .nil)) (.node (o220S2 P) (.node (o8E P) (.node (o7E P) .nil .nil) .nil) (.node (o476S3 P) .nil .nil))) (.node (o124S1 P) (.node (o8E P) (.node (o316S2 P) (.node (o7E P) .nil .nil) .nil) (.node (o444S3 P) .nil .nil)) (.node (o252S2 P) (.node (o380S3 P) .nil .nil) (.node (o7E P) .nil .nil))))))) (.node (o6E P) (.node (o10E P) (.node (o18E P) (.node (o7E P) (.node (o8E P) (.node (o8E P) (.node (o8E P) (.node (o514S3 P) .nil .nil) .nil) (.node (o386S3 P) .nil .nil)) (.node (o7E P) (.node (o322S2 P) (.node (o578S3 P) .nil .nil) .nil) (.node (o7E P) .nil .nil))) (.node (o7E P) (.node (o162S2 P) (.node (o7E P) (.node (o546S3 P) .nil .nil) .nil) (.node (o418S3 P) .nil .nil)) (.node (o226S2 P) (.node (o7E P) (.node (o610S3 P) .nil .nil) .nil) (.node (o482S3 P) .nil .nil)))) (.node (o50S1 P) (.node (o82S1 P) (.node (o146S1 P) (.node (o7E P) (.node (o530S3 P) .nil .nil) .nil) (.node (o7E P) .nil .nil)) (.node (o210S2 P) (.node (o338S2 P) (.node (o7E P) .nil .nil) .nil) (.node (o7E P) .nil .nil))) (.node (o7E P) (.node (o178S2 P) (.node (o7E P) (.node (o562S3 P) .nil .nil) .nil) (.node (o7E P) .nil .nil)) (.node (o242S2 P) (.node (o370S2 P) (.node (o626S3 P) .nil .nil) .nil) (.node (o7E P) .nil .nil))))) (.node (o26E P) (.node (o42S1 P) (.node (o74S1 P) (.node (o126S1 P) (.node (o266S2 P) (.node (o7E P) .nil .nil) .nil) (.node (o394S3 P) .nil .nil)) (.node (o8E P) (.node (o330S2 P) (.node (o586S3 P) .nil .nil) .nil) (.node (o7E P) .nil .nil))) (.node (o106S1 P) (.node (o170S2 P) (.node (o7E P) (.node (o554S3 P) .nil .nil) .nil) (.node (o7E P) .nil .nil)) (.node (o234S2 P) (.node (o8E P) (.node (o7E P) .nil .nil) .nil) (.node (o490S3 P) .nil .nil)))) (.node (o7E P) (.node (o90S1 P) (.node (o154S2 P) (.node (o7E P) (.node (o538S3 P) .nil .nil) .nil) (.node (o8E P) .nil .nil)) (.node (o7E P) (.node (o346S2 P) (.node (o8E P) .nil .nil) .nil) (.node (o474S3 P) .nil .nil))) (.node (o122S1 P) (.node (o186S2 P) (.node (o314S2 P) (.node (o570S3 P) .nil .nil) .nil) (.node (o7E P) .nil .nil)) (.node (o7E P) (.node (o378S2 P) .nil .nil) (.node (o8E P) .nil .nil)))))) (.node (o14E P) (.node (o22E P) (.node (o7E P) (.node (o70S1 P) (.node (o134S1 P) (.node (o262S2 P) (.node (o518S3 P) .nil .nil) .nil) (.node (o390S3 P) .nil .nil)) (.node (o198S2 P) (.node (o8E P) (.node (o582S3 P) .nil .nil) .nil) (.node (o454S3 P) .nil .nil))) (.node (o102S1 P) (.node (o8E P) (.node (o294S2 P) (.node (o550S3 P) .nil .nil) .nil) (.node (o422S3 P) .nil .nil)) (.node (o8E P) (.node (o358S2 P) (.node (o614S3 P) .nil .nil) .nil) (.node (o486S3 P) .nil .nil)))) (.node (o54S1 P) (.node (o86S1 P) (.node (o150S2 P) (.node (o278S2 P) (.node (o8E P) .nil .nil) .nil) (.node (o406S3 P) .nil .nil)) (.node (o214S2 P) (.node (o342S2 P) (.node (o598S3 P) .nil .nil) .nil) (.node (o7E P) .nil .nil))) (.node (o7E P) (.node (o7E P) (.node (o7E P) (.node (o566S3 P) .nil .nil) .nil) (.node (o438S3 P) .nil .nil)) (.node (o7E P) (.node (o374S2 P) .nil .nil) (.node (o502S3 P) .nil .nil))))) (.node (o30E P) (.node (o46S1 P) (.node (o8E P) (.node (o8E P) (.node (o270S2 P) (.node (o7E P) .nil .nil) .nil) (.node (o7E P) .nil .nil)) (.node (o206S2 P) (.node (o8E P) (.node (o7E P) .nil .nil) .nil) (.node (o462S3 P) .nil .nil))) (.node (o110S1 P) (.node (o174S2 P) (.node (o302S2 P) (.node (o558S3 P) .nil .nil) .nil) (.node (o430S3 P) .nil .nil)) (.node (o238S2 P) (.node (o366S2 P) (.node (o622S3 P) .nil .nil) .nil) (.node (o7E P) .nil .nil)))) (.node (o62S1 P) (.node (o7E P) (.node (o7E P) (.node (o74S1 P) (.node (o542S3 P) .nil .nil) .nil) (.node (o414S3 P) .nil .nil)) (.node (o7E P) (.node (o7E P) (.node (o606S3 P) .nil .nil) .nil) (.node (o8E P) .nil .nil))) (.node (o126S1 P) (.node (o7E P) (.node (o8E P) (.node (o574S3 P) .nil .nil) .nil) (.node (o446S3 P) .nil .nil)) (.node (o254S2 P) (.node (o382S3 P) .nil .nil) (.node (o510S3 P) .nil .nil)))))))))
noncomputable def T4 (P : Params) : BT := (.node (o0E P) (.node (o1E P) (.node (o3S4 P) (.node (o7E P) (.node (o7E P) (.node (o19E P) (.node (o63S1 P) (.node (o46S1 P) (.node (o255S2 P) (.node (o511S3 P) .nil .nil) (.node (o767S4 P) .nil .nil)) (.node (o7E P) (.node (o639S4 P) .nil .nil) .nil)) (.node (o191S2 P) (.node (o319S2 P) (.node (o7E P) .nil .nil) .nil) (.node (o7E P) (.node (o7E P) .nil .nil) .nil))) (.node (o8E P) (.node (o8E P) (.node (o7E P) (.node (o7E P) .nil .nil) (.node (o799S4 P) .nil .nil)) (.node (o415S3 P) (.node (o671S4 P) .nil .nil) .nil)) (.node (o8E P) (.node (o351S2 P) (.node (o607S3 P) .nil .nil) .nil) (.node (o479S3 P) (.node (o735S4 P) .nil .nil) .nil)))) (.node (o47S1 P) (.node (o79S1 P) (.node (o143S1 P) (.node (o7E P) (.node (o8E P) .nil .nil) (.node (o7E P) .nil .nil)) (.node (o399S3 P) (.node (o7E P) .nil .nil) .nil)) (.node (o207S2 P) (.node (o335S2 P) (.node (o591S3 P) .nil .nil) .nil) (.node (o7E P) (.node (o719S4 P) .nil .nil) .nil))) (.node (o7E P) (.node (o7E P) (.node (o7E P) (.node (o7E P) .nil .nil) (.node (o815S4 P) .nil .nil)) (.node (o7E P) (.node (o7E P) .nil .nil) .nil)) (.node (o7E P) (.node (o367S2 P) (.node (o623S3 P) .nil .nil) .nil) (.node (o495S3 P) (.node (o8E P) .nil .nil) .nil))))) (.node (o23E P) (.node (o8E P) (.node (o71S1 P) (.node (o135S2 P) (.node (o263S2 P) (.node (o7E P) .nil .nil) (.node (o7E P) .nil .nil)) (.node (o7E P) (.node (o647S4 P) .nil .nil) .nil)) (.node (o199S2 P) (.node (o327S2 P) (.node (o7E P) .nil .nil) .nil) (.node (o7E P) (.node (o711S4 P) .nil .nil) .nil))) (.node (o103S1 P) (.node (o167S2 P) (.node (o7E P) (.node (o7E P) .nil .nil) (.node (o8E P) .nil .nil)) (.node (o7E P) (.node (o679S4 P) .nil .nil) .nil)) (.node (o231S2 P) (.node (o359S2 P) (.node (o7E P) .nil .nil) .nil) (.node (o7E P) (.node (o7E P) .nil .nil) .nil)))) (.node (o55S1 P) (.node (o7E P) (.node (o46S1 P) (.node (o7E P) (.node (o535S3 P) .nil .nil) (.node (o791S4 P) .nil .nil)) (.node (o407S3 P) (.node (o8E P) .nil .nil) .nil)) (.node (o7E P) (.node (o7E P) (.node (o599S3 P) .nil .nil) .nil) (.node (o8E P) (.node (o727S4 P) .nil .nil) .nil))) (.node (o119S1 P) (.node (o183S2 P) (.node (o8E P) (.node (o7E P) .nil .nil) .nil) (.node (o7E P) (.node (o7E P) .nil .nil) .nil)) (.node (o247S2 P) (.node (o375S2 P) (.node (o631S4 P) .nil .nil) .nil) (.node (o503S3 P) (.node (o759S4 P) .nil .nil) .nil)))))) (.node (o11Z P) (.node (o19E P) (.node (o35S4 P) (.node (o67S1 P) (.node (o131S1 P) (.node (o259S2 P) (.node (o7E P) .nil .nil) (.node (o771S4 P) .nil .nil)) (.node (o387S3 P) (.node (o643S4 P) .nil .nil) .nil)) (.node (o8E P) (.node (o323S2 P) (.node (o579S3 P) .nil .nil) .nil) (.node (o451S3 P) (.node (o7E P) .nil .nil) .nil))) (.node (o99S1 P) (.node (o163S2 P) (.node (o291S2 P) (.node (o547S3 P) .nil .nil) (.node (o803S4 P) .nil .nil)) (.node (o7E P) (.node (o675S4 P) .nil .nil) .nil)) (.node (o227S2 P) (.node (o8E P) (.node (o7E P) .nil .nil) .nil) (.node (o483S3 P) (.node (o7E P) .nil .nil) .nil)))) (.node (o51S1 P) (.node (o83S1 P) (.node (o147S3 P) (.node (o275S2 P) (.node (o531S3 P) .nil .nil) (.node (o7E P) .nil .nil)) (.node (o8E P) (.node (o659S4 P) .nil .nil) .nil)) (.node (o7E P) (.node (o339S2 P) (.node (o8E P) .nil .nil) .nil) (.node (o467S3 P) (.node (o723S4 P) .nil .nil) .nil))) (.node (o115S1 P) (.node (o7E P) (.node (o307S2 P) (.node (o563S3 P) .nil .nil) (.node (o819S4 P) .nil .nil)) (.node (o435S3 P) (.node (o691S4 P) .nil .nil) .nil)) (.node (o7E P) (.node (o7E P) (.node (o7E P) .nil .nil) .nil) (.node (o8E P) (.node (o755S4 P) .nil .nil) .nil))))) (.node (o27E P) (.node (o43S1 P) (.node (o75S1 P) (.node (o46S1 P) (.node (o7E P) (.node (o523S3 P) .nil .nil) (.node (o779S4 P) .nil .nil)) (.node (o7E P) (.node (o7E P) .nil .nil) .nil)) (.node (o203S2 P) (.node (o331S2 P) (.node (o7E P) .nil .nil) .nil) (.node (o459S3 P) (.node (o8E P) .nil .nil) .nil))) (.node (o7E P) (.node (o171S2 P) (.node (o299S2 P) (.node (o74S1 P) .nil .nil) (.node (o7E P) .nil .nil)) (.node (o427S3 P) (.node (o683S4 P) .nil .nil) .nil)) (.node (o235S2 P) (.node (o363S2 P) (.node (o619S3 P) .nil .nil) .nil) (.node (o7E P) (.node (o747S4 P) .nil .nil) .nil)))) (.node (o8E P) (.node (o91S1 P) (.node (o155S2 P) (.node (o283S2 P) (.node (o539S3 P) .nil .nil) (.node (o8E P) .nil .nil)) (.node (o411S3 P) (.node (o667S4 P) .nil .nil) .nil)) (.node (o219S2 P) (.node (o7E P) (.node (o603S3 P) .nil .nil) .nil) (.node (o475S3 P) (.node (o7E P) .nil .nil) .nil))) (.node (o123S1 P) (.node (o7E P) (.node (o315S2 P) (.node (o571S3 P) .nil .nil) .nil) (.node (o443S3 P) (.node (o74S1 P) .nil .nil) .nil)) (.node (o8E P) (.node (o379S2 P) (.node (o8E P) .nil .nil) .nil) (.node (o507S3 P) (.node (o763S4 P) .nil .nil) .nil))))))) (.node (o5E P) (.node (o9E P) (.node (o17E P) (.node (o33E P) (.node (o7E P) (.node (o7E P) (.node (o7E P) (.node (o8E P) .nil .nil) (.node (o769S4 P) .nil .nil)) (.node (o385S3 P) (.node (o7E P) .nil .nil) .nil)) (.node (o193S2 P) (.node (o321S2 P) (.node (o577S3 P) .nil .nil) .nil) (.node (o449S3 P) (.node (o705S4 P) .nil .nil) .nil))) (.node (o97S1 P) (.node (o7E P) (.node (o289S2 P) (.node (o545S3 P) .nil .nil) (.node (o7E P) .nil .nil)) (.node (o8E P) (.node (o673S4 P) .nil .nil) .nil)) (.node (o7E P) (.node (o353S2 P) (.node (o8E P) .nil .nil) .nil) (.node (o481S3 P) (.node (o8E P) .nil .nil) .nil)))) (.node (o8E P) (.node (o81S1 P) (.node (o7E P) (.node (o273S2 P) (.node (o7E P) .nil .nil) (.node (o785S4 P) .nil .nil)) (.node (o401S3 P) (.node (o657S4 P) .nil .nil) .nil)) (.node (o8E P) (.node (o337S2 P) (.node (o593S3 P) .nil .nil) .nil) (.node (o465S3 P) (.node (o7E P) .nil .nil) .nil))) (.node (o113S1 P) (.node (o177S2 P) (.node (o305S2 P) (.node (o561S3 P) .nil .nil) (.node (o8E P) .nil .nil)) (.node (o433S3 P) (.node (o689S4 P) .nil .nil) .nil)) (.node (o241S2 P) (.node (o8E P) (.node (o625S3 P) .nil .nil) .nil) (.node (o497S3 P) (.node (o7E P) .nil .nil) .nil))))) (.node (o25E P) (.node (o7E P) (.node (o6E P) (.node (o137S1 P) (.node (o8E P) (.node (o521S3 P) .nil .nil) (.node (o777S4 P) .nil .nil)) (.node (o393S3 P) (.node (o8E P) .nil .nil) .nil)) (.node (o7E P) (.node (o329S2 P) (.node (o585S3 P) .nil .nil) .nil) (.node (o457S3 P) (.node (o713S4 P) .nil .nil) .nil))) (.node (o46S1 P) (.node (o169S2 P) (.node (o297S2 P) (.node (o553S3 P) .nil .nil) (.node (o809S4 P) .nil .nil)) (.node (o425S3 P) (.node (o681S4 P) .nil .nil) .nil)) (.node (o233S2 P) (.node (o7E P) (.node (o617S3 P) .nil .nil) .nil) (.node (o489S3 P) (.node (o745S4 P) .nil .nil) .nil)))) (.node (o57S1 P) (.node (o89S1 P) (.node (o7E P) (.node (o281S2 P) (.node (o537S3 P) .nil .nil) (.node (o793S4 P) .nil .nil)) (.node (o7E P) (.node (o7E P) .nil .nil) .nil)) (.node (o217S2 P) (.node (o345S2 P) (.node (o7E P) .nil .nil) .nil) (.node (o7E P) (.node (o8E P) .nil .nil) .nil))) (.node (o121S1 P) (.node (o185S2 P) (.node (o7E P) (.node (o569S3 P) .nil .nil) .nil) (.node (o441S3 P) (.node (o697S4 P) .nil .nil) .nil)) (.node (o249S2 P) (.node (o377S2 P) (.node (o633S4 P) .nil .nil) .nil) (.node (o7E P) (.node (o761S4 P) .nil .nil) .nil)))))) (.node (o13E P) (.node (o21E P) (.node (o37A P) (.node (o69S1 P) (.node (o7E P) (.node (o261S2 P) (.node (o517S3 P) .nil .nil) (.node (o8E P) .nil .nil)) (.node (o8E P) (.node (o645S4 P) .nil .nil) .nil)) (.node (o7E P) (.node (o7E P) (.node (o8E P) .nil .nil) .nil) (.node (o453S3 P) (.node (o709S4 P) .nil .nil) .nil))) (.node (o101S1 P) (.node (o7E P) (.node (o293S2 P) (.node (o8E P) .nil .nil) (.node (o805S4 P) .nil .nil)) (.node (o421S3 P) (.node (o7E P) .nil .nil) .nil)) (.node (o7E P) (.node (o7E P) (.node (o613S3 P) .nil .nil) .nil) (.node (o8E P) (.node (o741S4 P) .nil .nil) .nil)))) (.node (o53S1 P) (.node (o8E P) (.node (o149S1 P) (.node (o277S2 P) (.node (o7E P) .nil .nil) (.node (o789S4 P) .nil .nil)) (.node (o7E P) (.node (o661S4 P) .nil .nil) .nil)) (.node (o213S2 P) (.node (o8E P) (.node (o7E P) .nil .nil) .nil) (.node (o469S3 P) (.node (o725S4 P) .nil .nil) .nil))) (.node (o117S1 P) (.node (o181S2 P) (.node (o309S2 P) (.node (o8E P) .nil .nil) .nil) (.node (o437S3 P) (.node (o8E P) .nil .nil) .nil)) (.node (o245S2 P) (.node (o373S2 P) (.node (o629S4 P) .nil .nil) .nil) (.node (o7E P) (.node (o757S4 P) .nil .nil) .nil))))) (.node (o29Z P) (.node (o45S1 P) (.node (o7E P) (.node (o7E P) (.node (o269S2 P) (.node (o525S3 P) .nil .nil) (.node (o8E P) .nil .nil)) (.node (o397S3 P) (.node (o653S4 P) .nil .nil) .nil)) (.node (o205S2 P) (.node (o7E P) (.node (o589S3 P) .nil .nil) .nil) (.node (o461S3 P) (.node (o7E P) .nil .nil) .nil))) (.node (o109S1 P) (.node (o8E P) (.node (o301S2 P) (.node (o8E P) .nil .nil) (.node (o813S4 P) .nil .nil)) (.node (o429S3 P) (.node (o8E P) .nil .nil) .nil)) (.node (o8E P) (.node (o365S2 P) (.node (o621S3 P) .nil .nil) .nil) (.node (o493S3 P) (.node (o749S4 P) .nil .nil) .nil)))) (.node (o7E P) (.node (o93S1 P) (.node (o74S1 P) (.node (o285S2 P) (.node (o8E P) .nil .nil) (.node (o7E P) .nil .nil)) (.node (o413S3 P) (.node (o7E P) .nil .nil) .nil)) (.node (o221S2 P) (.node (o349S2 P) (.node (o605S3 P) .nil .nil) .nil) (.node (o7E P) (.node (o733S4 P) .nil .nil) .nil))) (.node (o125S1 P) (.node (o189S2 P) (.node (o7E P) (.node (o8E P) .nil .nil) .nil) (.node (o445S3 P) (.node (o8E P) .nil .nil) .nil)) (.node (o7E P) (.node (o46S1 P) (.node (o7E P) .nil .nil) .nil) (.node (o509S3 P) (.node (o7E P) .nil .nil) .nil)))))))) (.node (o2S1 P) (.node (o4E P) (.node (o8E P) (.node (o16E P) (.node (o32E P) (.node (o64S1 P) (.node (o128S1 P) (.node (o256S2 P) (.node (o7E P) .nil .nil) (.node (o7E P) .nil .nil)) (.node (o384S3 P) (.node (o640S4 P) .nil .nil) .nil)) (.node (o192S2 P) (.node (o7E P) (.node (o576S3 P) .nil .nil) .nil) (.node (o8E P) (.node (o704S4 P) .nil .nil) .nil))) (.node (o96S1 P) (.node (o160S2 P) (.node (o8E P) (.node (o544S3 P) .nil .nil) (.node (o800S4 P) .nil .nil)) (.node (o7E P) (.node (o7E P) .nil .nil) .nil)) (.node (o224S2 P) (.node (o352S2 P) (.node (o7E P) .nil .nil) .nil) (.node (o7E P) (.node (o7E P) .nil .nil) .nil)))) (.node (o7E P) (.node (o7E P) (.node (o144S1 P) (.node (o8E P) (.node (o528S3 P) .nil .nil) (.node (o784S4 P) .nil .nil)) (.node (o400S3 P) (.node (o8E P) .nil .nil) .nil)) (.node (o7E P) (.node (o7E P) (.node (o592S3 P) .nil .nil) .nil) (.node (o8E P) (.node (o720S4 P) .nil .nil) .nil))) (.node (o8E P) (.node (o176S2 P) (.node (o8E P) (.node (o560S3 P) .nil .nil) (.node (o7E P) .nil .nil)) (.node (o8E P) (.node (o688S4 P) .nil .nil) .nil)) (.node (o240S2 P) (.node (o7E P) (.node (o624S3 P) .nil .nil) .nil) (.node (o496S3 P) (.node (o752S4 P) .nil .nil) .nil))))) (.node (o24E P) (.node (o40S1 P) (.node (o72S1 P) (.node (o136S1 P) (.node (o7E P) (.node (o8E P) .nil .nil) (.node (o776S4 P) .nil .nil)) (.node (o392S3 P) (.node (o7E P) .nil .nil) .nil)) (.node (o200S2 P) (.node (o7E P) (.node (o584S3 P) .nil .nil) .nil) (.node (o8E P) (.node (o712S4 P) .nil .nil) .nil))) (.node (o7E P) (.node (o7E P) (.node (o8E P) (.node (o552S3 P) .nil .nil) (.node (o808S4 P) .nil .nil)) (.node (o8E P) (.node (o7E P) .nil .nil) .nil)) (.node (o7E P) (.node (o360S2 P) (.node (o8E P) .nil .nil) .nil) (.node (o488S3 P) (.node (o8E P) .nil .nil) .nil)))) (.node (o56S1 P) (.node (o88S1 P) (.node (o152S2 P) (.node (o8E P) (.node (o7E P) .nil .nil) (.node (o792S4 P) .nil .nil)) (.node (o408S3 P) (.node (o664S4 P) .nil .nil) .nil)) (.node (o8E P) (.node (o344S2 P) (.node (o600S3 P) .nil .nil) .nil) (.node (o472S3 P) (.node (o7E P) .nil .nil) .nil))) (.node (o120S1 P) (.node (o184S2 P) (.node (o312S2 P) (.node (o568S3 P) .nil .nil) .nil) (.node (o8E P) (.node (o696S4 P) .nil .nil) .nil)) (.node (o248S2 P) (.node (o376S2 P) (.node (o632S4 P) .nil .nil) .nil) (.node (o504S3 P) (.node (o760S4 P) .nil .nil) .nil)))))) (.node (o12E P) (.node (o20E P) (.node (o36A P) (.node (o7E P) (.node (o132S1 P) (.node (o7E P) (.node (o516S3 P) .nil .nil) (.node (o7E P) .nil .nil)) (.node (o7E P) (.node (o7E P) .nil .nil) .nil)) (.node (o196S2 P) (.node (o324S2 P) (.node (o7E P) .nil .nil) .nil) (.node (o452S3 P) (.node (o8E P) .nil .nil) .nil))) (.node (o100S1 P) (.node (o164S2 P) (.node (o292S2 P) (.node (o7E P) .nil .nil) (.node (o804S4 P) .nil .nil)) (.node (o420S3 P) (.node (o676S4 P) .nil .nil) .nil)) (.node (o228S2 P) (.node (o356S2 P) (.node (o612S3 P) .nil .nil) .nil) (.node (o7E P) (.node (o740S4 P) .nil .nil) .nil)))) (.node (o7E P) (.node (o7E P) (.node (o148S1 P) (.node (o276S2 P) (.node (o532S3 P) .nil .nil) (.node (o8E P) .nil .nil)) (.node (o404S3 P) (.node (o660S4 P) .nil .nil) .nil)) (.node (o212S2 P) (.node (o7E P) (.node (o596S3 P) .nil .nil) .nil) (.node (o468S3 P) (.node (o7E P) .nil .nil) .nil))) (.node (o116S1 P) (.node (o8E P) (.node (o308S2 P) (.node (o7E P) .nil .nil) (.node (o820S4 P) .nil .nil)) (.node (o436S3 P) (.node (o7E P) .nil .nil) .nil)) (.node (o8E P) (.node (o372S2 P) (.node (o8E P) .nil .nil) .nil) (.node (o500S3 P) (.node (o756S4 P) .nil .nil) .nil))))) (.node (o28E P) (.node (o44S1 P) (.node (o76S1 P) (.node (o140S1 P) (.node (o268S2 P) (.node (o524S3 P) .nil .nil) (.node (o7E P) .nil .nil)) (.node (o8E P) (.node (o652S4 P) .nil .nil) .nil)) (.node (o7E P) (.node (o74S1 P) (.node (o8E P) .nil .nil) .nil) (.node (o460S3 P) (.node (o716S4 P) .nil .nil) .nil))) (.node (o108S1 P) (.node (o7E P) (.node (o300S2 P) (.node (o7E P) .nil .nil) (.node (o8E P) .nil .nil)) (.node (o428S3 P) (.node (o7E P) .nil .nil) .nil)) (.node (o7E P) (.node (o7E P) (.node (o620S3 P) .nil .nil) .nil) (.node (o8E P) (.node (o748S4 P) .nil .nil) .nil)))) (.node (o60S1 P) (.node (o46S1 P) (.node (o156S2 P) (.node (o284S2 P) (.node (o7E P) .nil .nil) (.node (o796S4 P) .nil .nil)) (.node (o7E P) (.node (o668S4 P) .nil .nil) .nil)) (.node (o220S2 P) (.node (o8E P) (.node (o7E P) .nil .nil) .nil) (.node (o476S3 P) (.node (o732S4 P) .nil .nil) .nil))) (.node (o124S1 P) (.node (o8E P) (.node (o316S2 P) (.node (o7E P) .nil .nil) .nil) (.node (o444S3 P) (.node (o7E P) .nil .nil) .nil)) (.node (o252S2 P) (.node (o380S3 P) (.node (o636S4 P) .nil .nil) .nil) (.node (o7E P) (.node (o764S4 P) .nil .nil) .nil))))))) (.node (o6E P) (.node (o10E P) (.node (o18E P) (.node (o7E P) (.node (o8E P) (.node (o8E P) (.node (o8E P) (.node (o514S3 P) .nil .nil) (.node (o770S4 P) .nil .nil)) (.node (o386S3 P) (.node (o8E P) .nil .nil) .nil)) (.node (o7E P) (.node (o322S2 P) (.node (o578S3 P) .nil .nil) .nil) (.node (o7E P) (.node (o706S4 P) .nil .nil) .nil))) (.node (o7E P) (.node (o162S2 P) (.node (o7E P) (.node (o546S3 P) .nil .nil) (.node (o8E P) .nil .nil)) (.node (o418S3 P) (.node (o674S4 P) .nil .nil) .nil)) (.node (o226S2 P) (.node (o7E P) (.node (o610S3 P) .nil .nil) .nil) (.node (o482S3 P) (.node (o738S4 P) .nil .nil) .nil)))) (.node (o50S1 P) (.node (o82S1 P) (.node (o146S1 P) (.node (o7E P) (.node (o530S3 P) .nil .nil) (.node (o786S4 P) .nil .nil)) (.node (o7E P) (.node (o7E P) .nil .nil) .nil)) (.node (o210S2 P) (.node (o338S2 P) (.node (o7E P) .nil .nil) .nil) (.node (o7E P) (.node (o8E P) .nil .nil) .nil))) (.node (o7E P) (.node (o178S2 P) (.node (o7E P) (.node (o562S3 P) .nil .nil) (.node (o818S4 P) .nil .nil)) (.node (o7E P) (.node (o690S4 P) .nil .nil) .nil)) (.node (o242S2 P) (.node (o370S2 P) (.node (o626S3 P) .nil .nil) .nil) (.node (o7E P) (.node (o754S4 P) .nil .nil) .nil))))) (.node (o26E P) (.node (o42S1 P) (.node (o74S1 P) (.node (o126S1 P) (.node (o266S2 P) (.node (o7E P) .nil .nil) (.node (o778S4 P) .nil .nil)) (.node (o394S3 P) (.node (o650S4 P) .nil .nil) .nil)) (.node (o8E P) (.node (o330S2 P) (.node (o586S3 P) .nil .nil) .nil) (.node (o7E P) (.node (o7E P) .nil .nil) .nil))) (.node (o106S1 P) (.node (o170S2 P) (.node (o7E P) (.node (o554S3 P) .nil .nil) (.node (o810S4 P) .nil .nil)) (.node (o7E P) (.node (o682S4 P) .nil .nil) .nil)) (.node (o234S2 P) (.node (o8E P) (.node (o7E P) .nil .nil) .nil) (.node (o490S3 P) (.node (o7E P) .nil .nil) .nil)))) (.node (o7E P) (.node (o90S1 P) (.node (o154S2 P) (.node (o7E P) (.node (o538S3 P) .nil .nil) (.node (o7E P) .nil .nil)) (.node (o8E P) (.node (o666S4 P) .nil .nil) .nil)) (.node (o7E P) (.node (o346S2 P) (.node (o8E P) .nil .nil) .nil) (.node (o474S3 P) (.node (o730S4 P) .nil .nil) .nil))) (.node (o122S1 P) (.node (o186S2 P) (.node (o314S2 P) (.node (o570S3 P) .nil .nil) .nil) (.node (o7E P) (.node (o698S4 P) .nil .nil) .nil)) (.node (o7E P) (.node (o378S2 P) (.node (o7E P) .nil .nil) .nil) (.node (o8E P) (.node (o762S4 P) .nil .nil) .nil)))))) (.node (o14E P) (.node (o22E P) (.node (o7E P) (.node (o70S1 P) (.node (o134S1 P) (.node (o262S2 P) (.node (o518S3 P) .nil .nil) (.node (o774S4 P) .nil .nil)) (.node (o390S3 P) (.node (o646S4 P) .nil .nil) .nil)) (.node (o198S2 P) (.node (o8E P) (.node (o582S3 P) .nil .nil) .nil) (.node (o454S3 P) (.node (o7E P) .nil .nil) .nil))) (.node (o102S1 P) (.node (o8E P) (.node (o294S2 P) (.node (o550S3 P) .nil .nil) (.node (o7E P) .nil .nil)) (.node (o422S3 P) (.node (o8E P) .nil .nil) .nil)) (.node (o8E P) (.node (o358S2 P) (.node (o614S3 P) .nil .nil) .nil) (.node (o486S3 P) (.node (o742S4 P) .nil .nil) .nil)))) (.node (o54S1 P) (.node (o86S1 P) (.node (o150S2 P) (.node (o278S2 P) (.node (o8E P) .nil .nil) (.node (o7E P) .nil .nil)) (.node (o406S3 P) (.node (o7E P) .nil .nil) .nil)) (.node (o214S2 P) (.node (o342S2 P) (.node (o598S3 P) .nil .nil) .nil) (.node (o7E P) (.node (o726S4 P) .nil .nil) .nil))) (.node (o7E P) (.node (o7E P) (.node (o7E P) (.node (o566S3 P) .nil .nil) .nil) (.node (o438S3 P) (.node (o694S4 P) .nil .nil) .nil)) (.node (o7E P) (.node (o374S2 P) (.node (o7E P) .nil .nil) .nil) (.node (o502S3 P) (.node (o758S4 P) .nil .nil) .nil))))) (.node (o30E P) (.node (o46S1 P) (.node (o8E P) (.node (o8E P) (.node (o270S2 P) (.node (o7E P) .nil .nil) (.node (o782S4 P) .nil .nil)) (.node (o7E P) (.node (o654S4 P) .nil .nil) .nil)) (.node (o206S2 P) (.node (o8E P) (.node (o7E P) .nil .nil) .nil) (.node (o462S3 P) (.node (o718S4 P) .nil .nil) .nil))) (.node (o110S1 P) (.node (o174S2 P) (.node (o302S2 P) (.node (o558S3 P) .nil .nil) (.node (o814S4 P) .nil .nil)) (.node (o430S3 P) (.node (o686S4 P) .nil .nil) .nil)) (.node (o238S2 P) (.node (o366S2 P) (.node (o622S3 P) .nil .nil) .nil) (.node (o7E P) (.node (o7E P) .nil .nil) .nil)))) (.node (o62S1 P) (.node (o7E P) (.node (o7E P) (.node (o74S1 P) (.node (o542S3 P) .nil .nil) (.node (o798S4 P) .nil .nil)) (.node (o414S3 P) (.node (o46S1 P) .nil .nil) .nil)) (.node (o7E P) (.node (o7E P) (.node (o606S3 P) .nil .nil) .nil) (.node (o8E P) (.node (o734S4 P) .nil .nil) .nil))) (.node (o126S1 P) (.node (o7E P) (.node (o8E P) (.node (o574S3 P) .nil .nil) .nil) (.node (o446S3 P) (.node (o702S4 P) .nil .nil) .nil)) (.node (o254S2 P) (.node (o382S3 P) (.node (o638S4 P) .nil .nil) .nil) (.node (o510S3 P) (.node (o8E P) .nil .nil) .nil)))))))))
noncomputable abbrev UB (w : World) (os : OsState) : SharedT := ⟨TB w.params, 38, {}, #[], {}, 324, os⟩
noncomputable abbrev U1 (w : World) (os : OsState) : SharedT := ⟨T1 w.params, 150, {}, #[], {}, 515, os⟩
noncomputable abbrev U2 (w : World) (os : OsState) : SharedT := ⟨T2 w.params, 380, {}, #[], {}, 777, os⟩
noncomputable abbrev U3 (w : World) (os : OsState) : SharedT := ⟨T3 w.params, 627, {}, #[], {}, 1064, os⟩
noncomputable abbrev U4 (w : World) (os : OsState) : SharedT := ⟨T4 w.params, 821, {}, #[], {}, 1337, os⟩

noncomputable abbrev bE : List Stmt := behindTheImports pp
noncomputable abbrev l1 : List Stmt := bE.take 13
noncomputable abbrev l2 : List Stmt := (bE.drop 13).take 1
noncomputable abbrev l3 : List Stmt := (bE.drop 14).take 1
noncomputable abbrev l4 : List Stmt := bE.drop 15
noncomputable abbrev eE : Env := { scope := pp.main.scope, locals := mainNs, globals := mainNs, cells := [], code := .ref 36, frame := some 37 }
noncomputable abbrev cE : Code := .body bE eE
abbrev p0 : Pos := ⟨0, 0, 0, 0⟩
abbrev B0 : List Frame := [topFrame p0]
abbrev aE : Option Value := some (.ref 6)
theorem cut_all : l1 ++ (l2 ++ (l3 ++ (l4 ++ []))) = bE := by kernel_rfl
theorem r1 : ∀ w, (fun os => segRunT treeTable pp w 34 aE 1 1330 (UB w os) (piecesOf l1 eE cE p0 B0)) = fun os => some (Flow.next, U1 w os, cE, ⟨49, 0, 50, 21⟩) := by
  ((try rewrite [PySem.W.R.allR_eq]); (try rewrite [PySem.W.R.anyR_eq]); (try rewrite [PySem.W.Fast.te3471404346716756564]); (try rewrite [PySem.W.Fast.te7723801398212525404]); (try rewrite [PySem.W.R.filterR_eq]); (try rewrite [PySem.W.Fast.te17095254045102204799]); (try rewrite [PySem.W.Fast.te4579403493507170074]); (try rewrite [PySem.W.R.mapR_eq]); (try rewrite [PySem.W.Fast.te13664370479719496447]); (try rewrite [PySem.W.Fast.te3247288618530077131]); (try rewrite [PySem.W.Fast.te7409074990110511671]); (try rewrite [PySem.W.Fast.te5991557255702980513]); (try rewrite [PySem.W.Fast.te11698064438423848299]); (try rewrite [PySem.W.Fast.te2386780881361962483]); (try rewrite [PySem.W.Fast.te3399658132070893891]); (try rewrite [PySem.W.Fast.te5160383126252970620]); (try rewrite [PySem.W.Fast.te10994771534591457954]); (try rewrite [PySem.W.Fast.te479339242167458305]); (try rewrite [PySem.W.Fast.te14722251495701143533]); (try rewrite [PySem.W.Fast.te10880121769531294198]); (try rewrite [PySem.W.Fast.te8920871248978507458]); (try rewrite [PySem.W.Fast.te18344453789297297638]); (try rewrite [PySem.W.Fast.te4857012375875476094]); (try rewrite [PySem.W.Fast.te797321630700447069]); (try rewrite [PySem.W.Fast.te9572597257264208301]); (try rewrite [PySem.W.Fast.te16286561074155671207]); (try rewrite [PySem.W.Fast.te10792542408131684335]); (try rewrite [PySem.W.Fast.te6984425678791042302]); (try rewrite [PySem.W.Fast.te2368527892694137696]); (try rewrite [PySem.W.Fast.te13582783067957832011]); (try rewrite [PySem.W.Fast.te4274047373036748609]); (try rewrite [PySem.W.Fast.te5318747976498570220]); (try rewrite [PySem.W.Fast.te17868728402115742887]); (try rewrite [PySem.W.Fast.named_eq]); (try rewrite [PySem.W.Fast.te17691160309236699985]); (try rewrite [PySem.W.Fast.te7369524293546568484]); (try rewrite [PySem.W.Fast.te9558739934217749035]); (try rewrite [PySem.W.Fast.te10501279942588096481]); (try rewrite [PySem.W.Fast.te14789777615569096658]); (try rewrite [PySem.W.Fast.te821141287760084731]); (try rewrite [PySem.W.Fast.te17119622794617984870]); (try rewrite [PySem.W.Fast.te8377067652309620493]); (try rewrite [PySem.W.Fast.te8179353310426384613]); (try rewrite [PySem.W.Fast.te8326940854005059898]); (try rewrite [PySem.W.Fast.te2357444279172408678]); (try rewrite [PySem.W.Fast.te13343964577679436407]); (try rewrite [PySem.W.Fast.te10295753902157049106]); (try rewrite [PySem.W.Fast.te14374325043358763698]); (try rewrite [PySem.W.Fast.te10110043849684766642]); (try rewrite [PySem.W.Fast.te11788848310118352699]); (try rewrite [PySem.W.Fast.te15667345088766844465]); (try rewrite [PySem.W.Fast.te14082659384304107361]); (try rewrite [PySem.W.Fast.te7317090234206586261]); (try rewrite [PySem.W.Fast.te14412699480532031325]); (try rewrite [PySem.W.Fast.te11892475500146522536]); (try rewrite [PySem.W.Fast.te482687673346738481]); (try rewrite [PySem.W.Fast.te14289696077712309145]); (try rewrite [PySem.W.Fast.te10274390034422433532]); (try rewrite [PySem.W.Fast.te5923862056798008813]); (try rewrite [PySem.W.Fast.te12879404354523853263]); (try rewrite [PySem.W.Fast.te9706382859710513879]); (try rewrite [PySem.W.Fast.sDec_eq]); (try rewrite [PySem.W.Fast.te12862048085361865435]); (try rewrite [PySem.W.Fast.te9807087744658564304]); (try rewrite [PySem.W.Fast.te16090120013241838585]); (try rewrite [PySem.W.Fast.te1435165496053646825]); (try rewrite [PySem.W.Fast.te12749700546528644094]); (try rewrite [PySem.W.Fast.te14364793385576792824]); (try rewrite [PySem.W.S.strDecS_eq]))
  intro w; kernel_rfl
theorem r2 : ∀ w, (fun os => segRunT treeTable pp w 34 aE 1 1278 (U1 w os) (piecesOf l2 eE cE ⟨49, 0, 50, 21⟩ B0)) = fun os => some (Flow.next, U2 w os, cE, ⟨51, 0, 220, 17⟩) := by
  ((try rewrite [PySem.W.R.allR_eq]); (try rewrite [PySem.W.R.anyR_eq]); (try rewrite [PySem.W.Fast.te3471404346716756564]); (try rewrite [PySem.W.Fast.te7723801398212525404]); (try rewrite [PySem.W.R.filterR_eq]); (try rewrite [PySem.W.Fast.te17095254045102204799]); (try rewrite [PySem.W.Fast.te4579403493507170074]); (try rewrite [PySem.W.R.mapR_eq]); (try rewrite [PySem.W.Fast.te13664370479719496447]); (try rewrite [PySem.W.Fast.te3247288618530077131]); (try rewrite [PySem.W.Fast.te7409074990110511671]); (try rewrite [PySem.W.Fast.te5991557255702980513]); (try rewrite [PySem.W.Fast.te11698064438423848299]); (try rewrite [PySem.W.Fast.te2386780881361962483]); (try rewrite [PySem.W.Fast.te3399658132070893891]); (try rewrite [PySem.W.Fast.te5160383126252970620]); (try rewrite [PySem.W.Fast.te10994771534591457954]); (try rewrite [PySem.W.Fast.te479339242167458305]); (try rewrite [PySem.W.Fast.te14722251495701143533]); (try rewrite [PySem.W.Fast.te10880121769531294198]); (try rewrite [PySem.W.Fast.te8920871248978507458]); (try rewrite [PySem.W.Fast.te18344453789297297638]); (try rewrite [PySem.W.Fast.te4857012375875476094]); (try rewrite [PySem.W.Fast.te797321630700447069]); (try rewrite [PySem.W.Fast.te9572597257264208301]); (try rewrite [PySem.W.Fast.te16286561074155671207]); (try rewrite [PySem.W.Fast.te10792542408131684335]); (try rewrite [PySem.W.Fast.te6984425678791042302]); (try rewrite [PySem.W.Fast.te2368527892694137696]); (try rewrite [PySem.W.Fast.te13582783067957832011]); (try rewrite [PySem.W.Fast.te4274047373036748609]); (try rewrite [PySem.W.Fast.te5318747976498570220]); (try rewrite [PySem.W.Fast.te17868728402115742887]); (try rewrite [PySem.W.Fast.named_eq]); (try rewrite [PySem.W.Fast.te17691160309236699985]); (try rewrite [PySem.W.Fast.te7369524293546568484]); (try rewrite [PySem.W.Fast.te9558739934217749035]); (try rewrite [PySem.W.Fast.te10501279942588096481]); (try rewrite [PySem.W.Fast.te14789777615569096658]); (try rewrite [PySem.W.Fast.te821141287760084731]); (try rewrite [PySem.W.Fast.te17119622794617984870]); (try rewrite [PySem.W.Fast.te8377067652309620493]); (try rewrite [PySem.W.Fast.te8179353310426384613]); (try rewrite [PySem.W.Fast.te8326940854005059898]); (try rewrite [PySem.W.Fast.te2357444279172408678]); (try rewrite [PySem.W.Fast.te13343964577679436407]); (try rewrite [PySem.W.Fast.te10295753902157049106]); (try rewrite [PySem.W.Fast.te14374325043358763698]); (try rewrite [PySem.W.Fast.te10110043849684766642]); (try rewrite [PySem.W.Fast.te11788848310118352699]); (try rewrite [PySem.W.Fast.te15667345088766844465]); (try rewrite [PySem.W.Fast.te14082659384304107361]); (try rewrite [PySem.W.Fast.te7317090234206586261]); (try rewrite [PySem.W.Fast.te14412699480532031325]); (try rewrite [PySem.W.Fast.te11892475500146522536]); (try rewrite [PySem.W.Fast.te482687673346738481]); (try rewrite [PySem.W.Fast.te14289696077712309145]); (try rewrite [PySem.W.Fast.te10274390034422433532]); (try rewrite [PySem.W.Fast.te5923862056798008813]); (try rewrite [PySem.W.Fast.te12879404354523853263]); (try rewrite [PySem.W.Fast.te9706382859710513879]); (try rewrite [PySem.W.Fast.sDec_eq]); (try rewrite [PySem.W.Fast.te12862048085361865435]); (try rewrite [PySem.W.Fast.te9807087744658564304]); (try rewrite [PySem.W.Fast.te16090120013241838585]); (try rewrite [PySem.W.Fast.te1435165496053646825]); (try rewrite [PySem.W.Fast.te12749700546528644094]); (try rewrite [PySem.W.Fast.te14364793385576792824]); (try rewrite [PySem.W.S.strDecS_eq]))
  intro w; kernel_rfl
theorem r3 : ∀ w, (fun os => segRunT treeTable pp w 34 aE 1 1578 (U2 w os) (piecesOf l3 eE cE ⟨51, 0, 220, 17⟩ B0)) = fun os => some (Flow.next, U3 w os, cE, ⟨221, 0, 425, 17⟩) := by
  ((try rewrite [PySem.W.R.allR_eq]); (try rewrite [PySem.W.R.anyR_eq]); (try rewrite [PySem.W.Fast.te3471404346716756564]); (try rewrite [PySem.W.Fast.te7723801398212525404]); (try rewrite [PySem.W.R.filterR_eq]); (try rewrite [PySem.W.Fast.te17095254045102204799]); (try rewrite [PySem.W.Fast.te4579403493507170074]); (try rewrite [PySem.W.R.mapR_eq]); (try rewrite [PySem.W.Fast.te13664370479719496447]); (try rewrite [PySem.W.Fast.te3247288618530077131]); (try rewrite [PySem.W.Fast.te7409074990110511671]); (try rewrite [PySem.W.Fast.te5991557255702980513]); (try rewrite [PySem.W.Fast.te11698064438423848299]); (try rewrite [PySem.W.Fast.te2386780881361962483]); (try rewrite [PySem.W.Fast.te3399658132070893891]); (try rewrite [PySem.W.Fast.te5160383126252970620]); (try rewrite [PySem.W.Fast.te10994771534591457954]); (try rewrite [PySem.W.Fast.te479339242167458305]); (try rewrite [PySem.W.Fast.te14722251495701143533]); (try rewrite [PySem.W.Fast.te10880121769531294198]); (try rewrite [PySem.W.Fast.te8920871248978507458]); (try rewrite [PySem.W.Fast.te18344453789297297638]); (try rewrite [PySem.W.Fast.te4857012375875476094]); (try rewrite [PySem.W.Fast.te797321630700447069]); (try rewrite [PySem.W.Fast.te9572597257264208301]); (try rewrite [PySem.W.Fast.te16286561074155671207]); (try rewrite [PySem.W.Fast.te10792542408131684335]); (try rewrite [PySem.W.Fast.te6984425678791042302]); (try rewrite [PySem.W.Fast.te2368527892694137696]); (try rewrite [PySem.W.Fast.te13582783067957832011]); (try rewrite [PySem.W.Fast.te4274047373036748609]); (try rewrite [PySem.W.Fast.te5318747976498570220]); (try rewrite [PySem.W.Fast.te17868728402115742887]); (try rewrite [PySem.W.Fast.named_eq]); (try rewrite [PySem.W.Fast.te17691160309236699985]); (try rewrite [PySem.W.Fast.te7369524293546568484]); (try rewrite [PySem.W.Fast.te9558739934217749035]); (try rewrite [PySem.W.Fast.te10501279942588096481]); (try rewrite [PySem.W.Fast.te14789777615569096658]); (try rewrite [PySem.W.Fast.te821141287760084731]); (try rewrite [PySem.W.Fast.te17119622794617984870]); (try rewrite [PySem.W.Fast.te8377067652309620493]); (try rewrite [PySem.W.Fast.te8179353310426384613]); (try rewrite [PySem.W.Fast.te8326940854005059898]); (try rewrite [PySem.W.Fast.te2357444279172408678]); (try rewrite [PySem.W.Fast.te13343964577679436407]); (try rewrite [PySem.W.Fast.te10295753902157049106]); (try rewrite [PySem.W.Fast.te14374325043358763698]); (try rewrite [PySem.W.Fast.te10110043849684766642]); (try rewrite [PySem.W.Fast.te11788848310118352699]); (try rewrite [PySem.W.Fast.te15667345088766844465]); (try rewrite [PySem.W.Fast.te14082659384304107361]); (try rewrite [PySem.W.Fast.te7317090234206586261]); (try rewrite [PySem.W.Fast.te14412699480532031325]); (try rewrite [PySem.W.Fast.te11892475500146522536]); (try rewrite [PySem.W.Fast.te482687673346738481]); (try rewrite [PySem.W.Fast.te14289696077712309145]); (try rewrite [PySem.W.Fast.te10274390034422433532]); (try rewrite [PySem.W.Fast.te5923862056798008813]); (try rewrite [PySem.W.Fast.te12879404354523853263]); (try rewrite [PySem.W.Fast.te9706382859710513879]); (try rewrite [PySem.W.Fast.sDec_eq]); (try rewrite [PySem.W.Fast.te12862048085361865435]); (try rewrite [PySem.W.Fast.te9807087744658564304]); (try rewrite [PySem.W.Fast.te16090120013241838585]); (try rewrite [PySem.W.Fast.te1435165496053646825]); (try rewrite [PySem.W.Fast.te12749700546528644094]); (try rewrite [PySem.W.Fast.te14364793385576792824]); (try rewrite [PySem.W.S.strDecS_eq]))
  intro w; kernel_rfl
theorem r4 : ∀ w, (fun os => segRunT treeTable pp w 34 aE 1 1154 (U3 w os) (piecesOf l4 eE cE ⟨221, 0, 425, 17⟩ B0)) = fun os => some (Flow.next, U4 w os, cE, ⟨797, 0, 801, 41⟩) := by
  ((try rewrite [PySem.W.R.allR_eq]); (try rewrite [PySem.W.R.anyR_eq]); (try rewrite [PySem.W.Fast.te3471404346716756564]); (try rewrite [PySem.W.Fast.te7723801398212525404]); (try rewrite [PySem.W.R.filterR_eq]); (try rewrite [PySem.W.Fast.te17095254045102204799]); (try rewrite [PySem.W.Fast.te4579403493507170074]); (try rewrite [PySem.W.R.mapR_eq]); (try rewrite [PySem.W.Fast.te13664370479719496447]); (try rewrite [PySem.W.Fast.te3247288618530077131]); (try rewrite [PySem.W.Fast.te7409074990110511671]); (try rewrite [PySem.W.Fast.te5991557255702980513]); (try rewrite [PySem.W.Fast.te11698064438423848299]); (try rewrite [PySem.W.Fast.te2386780881361962483]); (try rewrite [PySem.W.Fast.te3399658132070893891]); (try rewrite [PySem.W.Fast.te5160383126252970620]); (try rewrite [PySem.W.Fast.te10994771534591457954]); (try rewrite [PySem.W.Fast.te479339242167458305]); (try rewrite [PySem.W.Fast.te14722251495701143533]); (try rewrite [PySem.W.Fast.te10880121769531294198]); (try rewrite [PySem.W.Fast.te8920871248978507458]); (try rewrite [PySem.W.Fast.te18344453789297297638]); (try rewrite [PySem.W.Fast.te4857012375875476094]); (try rewrite [PySem.W.Fast.te797321630700447069]); (try rewrite [PySem.W.Fast.te9572597257264208301]); (try rewrite [PySem.W.Fast.te16286561074155671207]); (try rewrite [PySem.W.Fast.te10792542408131684335]); (try rewrite [PySem.W.Fast.te6984425678791042302]); (try rewrite [PySem.W.Fast.te2368527892694137696]); (try rewrite [PySem.W.Fast.te13582783067957832011]); (try rewrite [PySem.W.Fast.te4274047373036748609]); (try rewrite [PySem.W.Fast.te5318747976498570220]); (try rewrite [PySem.W.Fast.te17868728402115742887]); (try rewrite [PySem.W.Fast.named_eq]); (try rewrite [PySem.W.Fast.te17691160309236699985]); (try rewrite [PySem.W.Fast.te7369524293546568484]); (try rewrite [PySem.W.Fast.te9558739934217749035]); (try rewrite [PySem.W.Fast.te10501279942588096481]); (try rewrite [PySem.W.Fast.te14789777615569096658]); (try rewrite [PySem.W.Fast.te821141287760084731]); (try rewrite [PySem.W.Fast.te17119622794617984870]); (try rewrite [PySem.W.Fast.te8377067652309620493]); (try rewrite [PySem.W.Fast.te8179353310426384613]); (try rewrite [PySem.W.Fast.te8326940854005059898]); (try rewrite [PySem.W.Fast.te2357444279172408678]); (try rewrite [PySem.W.Fast.te13343964577679436407]); (try rewrite [PySem.W.Fast.te10295753902157049106]); (try rewrite [PySem.W.Fast.te14374325043358763698]); (try rewrite [PySem.W.Fast.te10110043849684766642]); (try rewrite [PySem.W.Fast.te11788848310118352699]); (try rewrite [PySem.W.Fast.te15667345088766844465]); (try rewrite [PySem.W.Fast.te14082659384304107361]); (try rewrite [PySem.W.Fast.te7317090234206586261]); (try rewrite [PySem.W.Fast.te14412699480532031325]); (try rewrite [PySem.W.Fast.te11892475500146522536]); (try rewrite [PySem.W.Fast.te482687673346738481]); (try rewrite [PySem.W.Fast.te14289696077712309145]); (try rewrite [PySem.W.Fast.te10274390034422433532]); (try rewrite [PySem.W.Fast.te5923862056798008813]); (try rewrite [PySem.W.Fast.te12879404354523853263]); (try rewrite [PySem.W.Fast.te9706382859710513879]); (try rewrite [PySem.W.Fast.sDec_eq]); (try rewrite [PySem.W.Fast.te12862048085361865435]); (try rewrite [PySem.W.Fast.te9807087744658564304]); (try rewrite [PySem.W.Fast.te16090120013241838585]); (try rewrite [PySem.W.Fast.te1435165496053646825]); (try rewrite [PySem.W.Fast.te12749700546528644094]); (try rewrite [PySem.W.Fast.te14364793385576792824]); (try rewrite [PySem.W.S.strDecS_eq]))
  intro w; kernel_rfl
theorem rpre : ∀ w, (fun os => topGo treeTable pp w 34 aE 12 ⟨HZ w.params, #[], {}, 318, os⟩ (topStub pp)) = fun os => some (⟨HA w.params, #[], {}, 324, os⟩, ⟨denote treeTable cE, cE, p0, B0⟩) := by
  ((try rewrite [PySem.W.R.allR_eq]); (try rewrite [PySem.W.R.anyR_eq]); (try rewrite [PySem.W.Fast.te3471404346716756564]); (try rewrite [PySem.W.Fast.te7723801398212525404]); (try rewrite [PySem.W.R.filterR_eq]); (try rewrite [PySem.W.Fast.te17095254045102204799]); (try rewrite [PySem.W.Fast.te4579403493507170074]); (try rewrite [PySem.W.R.mapR_eq]); (try rewrite [PySem.W.Fast.te13664370479719496447]); (try rewrite [PySem.W.Fast.te3247288618530077131]); (try rewrite [PySem.W.Fast.te7409074990110511671]); (try rewrite [PySem.W.Fast.te5991557255702980513]); (try rewrite [PySem.W.Fast.te11698064438423848299]); (try rewrite [PySem.W.Fast.te2386780881361962483]); (try rewrite [PySem.W.Fast.te3399658132070893891]); (try rewrite [PySem.W.Fast.te5160383126252970620]); (try rewrite [PySem.W.Fast.te10994771534591457954]); (try rewrite [PySem.W.Fast.te479339242167458305]); (try rewrite [PySem.W.Fast.te14722251495701143533]); (try rewrite [PySem.W.Fast.te10880121769531294198]); (try rewrite [PySem.W.Fast.te8920871248978507458]); (try rewrite [PySem.W.Fast.te18344453789297297638]); (try rewrite [PySem.W.Fast.te4857012375875476094]); (try rewrite [PySem.W.Fast.te797321630700447069]); (try rewrite [PySem.W.Fast.te9572597257264208301]); (try rewrite [PySem.W.Fast.te16286561074155671207]); (try rewrite [PySem.W.Fast.te10792542408131684335]); (try rewrite [PySem.W.Fast.te6984425678791042302]); (try rewrite [PySem.W.Fast.te2368527892694137696]); (try rewrite [PySem.W.Fast.te13582783067957832011]); (try rewrite [PySem.W.Fast.te4274047373036748609]); (try rewrite [PySem.W.Fast.te5318747976498570220]); (try rewrite [PySem.W.Fast.te17868728402115742887]); (try rewrite [PySem.W.Fast.named_eq]); (try rewrite [PySem.W.Fast.te17691160309236699985]); (try rewrite [PySem.W.Fast.te7369524293546568484]); (try rewrite [PySem.W.Fast.te9558739934217749035]); (try rewrite [PySem.W.Fast.te10501279942588096481]); (try rewrite [PySem.W.Fast.te14789777615569096658]); (try rewrite [PySem.W.Fast.te821141287760084731]); (try rewrite [PySem.W.Fast.te17119622794617984870]); (try rewrite [PySem.W.Fast.te8377067652309620493]); (try rewrite [PySem.W.Fast.te8179353310426384613]); (try rewrite [PySem.W.Fast.te8326940854005059898]); (try rewrite [PySem.W.Fast.te2357444279172408678]); (try rewrite [PySem.W.Fast.te13343964577679436407]); (try rewrite [PySem.W.Fast.te10295753902157049106]); (try rewrite [PySem.W.Fast.te14374325043358763698]); (try rewrite [PySem.W.Fast.te10110043849684766642]); (try rewrite [PySem.W.Fast.te11788848310118352699]); (try rewrite [PySem.W.Fast.te15667345088766844465]); (try rewrite [PySem.W.Fast.te14082659384304107361]); (try rewrite [PySem.W.Fast.te7317090234206586261]); (try rewrite [PySem.W.Fast.te14412699480532031325]); (try rewrite [PySem.W.Fast.te11892475500146522536]); (try rewrite [PySem.W.Fast.te482687673346738481]); (try rewrite [PySem.W.Fast.te14289696077712309145]); (try rewrite [PySem.W.Fast.te10274390034422433532]); (try rewrite [PySem.W.Fast.te5923862056798008813]); (try rewrite [PySem.W.Fast.te12879404354523853263]); (try rewrite [PySem.W.Fast.te9706382859710513879]); (try rewrite [PySem.W.Fast.sDec_eq]); (try rewrite [PySem.W.Fast.te12862048085361865435]); (try rewrite [PySem.W.Fast.te9807087744658564304]); (try rewrite [PySem.W.Fast.te16090120013241838585]); (try rewrite [PySem.W.Fast.te1435165496053646825]); (try rewrite [PySem.W.Fast.te12749700546528644094]); (try rewrite [PySem.W.Fast.te14364793385576792824]); (try rewrite [PySem.W.S.strDecS_eq]))
  intro w; kernel_rfl
theorem rblock : ∀ w, (fun os => segRun treeTable pp w 34 aE 1 1 ⟨HA w.params, #[], {}, 324, os⟩ (blockOf bE eE cE p0 B0)) = fun os => some (Flow.next, (UB w os).abs, cE, p0) := by
  ((try rewrite [PySem.W.R.allR_eq]); (try rewrite [PySem.W.R.anyR_eq]); (try rewrite [PySem.W.Fast.te3471404346716756564]); (try rewrite [PySem.W.Fast.te7723801398212525404]); (try rewrite [PySem.W.R.filterR_eq]); (try rewrite [PySem.W.Fast.te17095254045102204799]); (try rewrite [PySem.W.Fast.te4579403493507170074]); (try rewrite [PySem.W.R.mapR_eq]); (try rewrite [PySem.W.Fast.te13664370479719496447]); (try rewrite [PySem.W.Fast.te3247288618530077131]); (try rewrite [PySem.W.Fast.te7409074990110511671]); (try rewrite [PySem.W.Fast.te5991557255702980513]); (try rewrite [PySem.W.Fast.te11698064438423848299]); (try rewrite [PySem.W.Fast.te2386780881361962483]); (try rewrite [PySem.W.Fast.te3399658132070893891]); (try rewrite [PySem.W.Fast.te5160383126252970620]); (try rewrite [PySem.W.Fast.te10994771534591457954]); (try rewrite [PySem.W.Fast.te479339242167458305]); (try rewrite [PySem.W.Fast.te14722251495701143533]); (try rewrite [PySem.W.Fast.te10880121769531294198]); (try rewrite [PySem.W.Fast.te8920871248978507458]); (try rewrite [PySem.W.Fast.te18344453789297297638]); (try rewrite [PySem.W.Fast.te4857012375875476094]); (try rewrite [PySem.W.Fast.te797321630700447069]); (try rewrite [PySem.W.Fast.te9572597257264208301]); (try rewrite [PySem.W.Fast.te16286561074155671207]); (try rewrite [PySem.W.Fast.te10792542408131684335]); (try rewrite [PySem.W.Fast.te6984425678791042302]); (try rewrite [PySem.W.Fast.te2368527892694137696]); (try rewrite [PySem.W.Fast.te13582783067957832011]); (try rewrite [PySem.W.Fast.te4274047373036748609]); (try rewrite [PySem.W.Fast.te5318747976498570220]); (try rewrite [PySem.W.Fast.te17868728402115742887]); (try rewrite [PySem.W.Fast.named_eq]); (try rewrite [PySem.W.Fast.te17691160309236699985]); (try rewrite [PySem.W.Fast.te7369524293546568484]); (try rewrite [PySem.W.Fast.te9558739934217749035]); (try rewrite [PySem.W.Fast.te10501279942588096481]); (try rewrite [PySem.W.Fast.te14789777615569096658]); (try rewrite [PySem.W.Fast.te821141287760084731]); (try rewrite [PySem.W.Fast.te17119622794617984870]); (try rewrite [PySem.W.Fast.te8377067652309620493]); (try rewrite [PySem.W.Fast.te8179353310426384613]); (try rewrite [PySem.W.Fast.te8326940854005059898]); (try rewrite [PySem.W.Fast.te2357444279172408678]); (try rewrite [PySem.W.Fast.te13343964577679436407]); (try rewrite [PySem.W.Fast.te10295753902157049106]); (try rewrite [PySem.W.Fast.te14374325043358763698]); (try rewrite [PySem.W.Fast.te10110043849684766642]); (try rewrite [PySem.W.Fast.te11788848310118352699]); (try rewrite [PySem.W.Fast.te15667345088766844465]); (try rewrite [PySem.W.Fast.te14082659384304107361]); (try rewrite [PySem.W.Fast.te7317090234206586261]); (try rewrite [PySem.W.Fast.te14412699480532031325]); (try rewrite [PySem.W.Fast.te11892475500146522536]); (try rewrite [PySem.W.Fast.te482687673346738481]); (try rewrite [PySem.W.Fast.te14289696077712309145]); (try rewrite [PySem.W.Fast.te10274390034422433532]); (try rewrite [PySem.W.Fast.te5923862056798008813]); (try rewrite [PySem.W.Fast.te12879404354523853263]); (try rewrite [PySem.W.Fast.te9706382859710513879]); (try rewrite [PySem.W.Fast.sDec_eq]); (try rewrite [PySem.W.Fast.te12862048085361865435]); (try rewrite [PySem.W.Fast.te9807087744658564304]); (try rewrite [PySem.W.Fast.te16090120013241838585]); (try rewrite [PySem.W.Fast.te1435165496053646825]); (try rewrite [PySem.W.Fast.te12749700546528644094]); (try rewrite [PySem.W.Fast.te14364793385576792824]); (try rewrite [PySem.W.S.strDecS_eq]))
  intro w; kernel_rfl
theorem rfin : ∀ w, (fun os => topRun treeTable pp w 34 aE 2 (U4 w os).abs ⟨doneF .next, cE, ⟨797, 0, 801, 41⟩, B0⟩) = fun os => some ⟨HF w.params, #[], {}, 1337, os⟩ := by
  ((try rewrite [PySem.W.R.allR_eq]); (try rewrite [PySem.W.R.anyR_eq]); (try rewrite [PySem.W.Fast.te3471404346716756564]); (try rewrite [PySem.W.Fast.te7723801398212525404]); (try rewrite [PySem.W.R.filterR_eq]); (try rewrite [PySem.W.Fast.te17095254045102204799]); (try rewrite [PySem.W.Fast.te4579403493507170074]); (try rewrite [PySem.W.R.mapR_eq]); (try rewrite [PySem.W.Fast.te13664370479719496447]); (try rewrite [PySem.W.Fast.te3247288618530077131]); (try rewrite [PySem.W.Fast.te7409074990110511671]); (try rewrite [PySem.W.Fast.te5991557255702980513]); (try rewrite [PySem.W.Fast.te11698064438423848299]); (try rewrite [PySem.W.Fast.te2386780881361962483]); (try rewrite [PySem.W.Fast.te3399658132070893891]); (try rewrite [PySem.W.Fast.te5160383126252970620]); (try rewrite [PySem.W.Fast.te10994771534591457954]); (try rewrite [PySem.W.Fast.te479339242167458305]); (try rewrite [PySem.W.Fast.te14722251495701143533]); (try rewrite [PySem.W.Fast.te10880121769531294198]); (try rewrite [PySem.W.Fast.te8920871248978507458]); (try rewrite [PySem.W.Fast.te18344453789297297638]); (try rewrite [PySem.W.Fast.te4857012375875476094]); (try rewrite [PySem.W.Fast.te797321630700447069]); (try rewrite [PySem.W.Fast.te9572597257264208301]); (try rewrite [PySem.W.Fast.te16286561074155671207]); (try rewrite [PySem.W.Fast.te10792542408131684335]); (try rewrite [PySem.W.Fast.te6984425678791042302]); (try rewrite [PySem.W.Fast.te2368527892694137696]); (try rewrite [PySem.W.Fast.te13582783067957832011]); (try rewrite [PySem.W.Fast.te4274047373036748609]); (try rewrite [PySem.W.Fast.te5318747976498570220]); (try rewrite [PySem.W.Fast.te17868728402115742887]); (try rewrite [PySem.W.Fast.named_eq]); (try rewrite [PySem.W.Fast.te17691160309236699985]); (try rewrite [PySem.W.Fast.te7369524293546568484]); (try rewrite [PySem.W.Fast.te9558739934217749035]); (try rewrite [PySem.W.Fast.te10501279942588096481]); (try rewrite [PySem.W.Fast.te14789777615569096658]); (try rewrite [PySem.W.Fast.te821141287760084731]); (try rewrite [PySem.W.Fast.te17119622794617984870]); (try rewrite [PySem.W.Fast.te8377067652309620493]); (try rewrite [PySem.W.Fast.te8179353310426384613]); (try rewrite [PySem.W.Fast.te8326940854005059898]); (try rewrite [PySem.W.Fast.te2357444279172408678]); (try rewrite [PySem.W.Fast.te13343964577679436407]); (try rewrite [PySem.W.Fast.te10295753902157049106]); (try rewrite [PySem.W.Fast.te14374325043358763698]); (try rewrite [PySem.W.Fast.te10110043849684766642]); (try rewrite [PySem.W.Fast.te11788848310118352699]); (try rewrite [PySem.W.Fast.te15667345088766844465]); (try rewrite [PySem.W.Fast.te14082659384304107361]); (try rewrite [PySem.W.Fast.te7317090234206586261]); (try rewrite [PySem.W.Fast.te14412699480532031325]); (try rewrite [PySem.W.Fast.te11892475500146522536]); (try rewrite [PySem.W.Fast.te482687673346738481]); (try rewrite [PySem.W.Fast.te14289696077712309145]); (try rewrite [PySem.W.Fast.te10274390034422433532]); (try rewrite [PySem.W.Fast.te5923862056798008813]); (try rewrite [PySem.W.Fast.te12879404354523853263]); (try rewrite [PySem.W.Fast.te9706382859710513879]); (try rewrite [PySem.W.Fast.sDec_eq]); (try rewrite [PySem.W.Fast.te12862048085361865435]); (try rewrite [PySem.W.Fast.te9807087744658564304]); (try rewrite [PySem.W.Fast.te16090120013241838585]); (try rewrite [PySem.W.Fast.te1435165496053646825]); (try rewrite [PySem.W.Fast.te12749700546528644094]); (try rewrite [PySem.W.Fast.te14364793385576792824]); (try rewrite [PySem.W.S.strDecS_eq]))
  intro w; kernel_rfl
theorem run_all (w : World) (os : OsState) : topRun treeTable pp w 34 aE (12 + (1 + (1330 + (1278 + (1578 + (1154 + 2)))))) ⟨HZ w.params, #[], {}, 318, os⟩ (topStub pp) = some ⟨HF w.params, #[], {}, 1337, os⟩ := by
  have k4 := piece_app (l := l4) (rest := []) (segRun_of (congrFun (r4 w) os)) (congrFun (rfin w) os)
  have k3 := piece_app (l := l3) (segRun_of (congrFun (r3 w) os)) k4
  have k2 := piece_app (l := l2) (segRun_of (congrFun (r2 w) os)) k3
  have k1 := piece_app (l := l1) (segRun_of (congrFun (r1 w) os)) k2
  rw [cut_all] at k1
  exact go_top (congrFun (rpre w) os) (piece_block (congrFun (rblock w) os) k1)
theorem imp_end : ∀ w : World, importEnds treeTable (opening pp) w 1086 (start (opening pp)).1 (start (opening pp)).2 = some ⟨HE w.params, #[], {}, 318, (start (opening pp)).1.os⟩ := by
  ((try rewrite [PySem.W.R.allR_eq]); (try rewrite [PySem.W.R.anyR_eq]); (try rewrite [PySem.W.Fast.te3471404346716756564]); (try rewrite [PySem.W.Fast.te7723801398212525404]); (try rewrite [PySem.W.R.filterR_eq]); (try rewrite [PySem.W.Fast.te17095254045102204799]); (try rewrite [PySem.W.Fast.te4579403493507170074]); (try rewrite [PySem.W.R.mapR_eq]); (try rewrite [PySem.W.Fast.te13664370479719496447]); (try rewrite [PySem.W.Fast.te3247288618530077131]); (try rewrite [PySem.W.Fast.te7409074990110511671]); (try rewrite [PySem.W.Fast.te5991557255702980513]); (try rewrite [PySem.W.Fast.te11698064438423848299]); (try rewrite [PySem.W.Fast.te2386780881361962483]); (try rewrite [PySem.W.Fast.te3399658132070893891]); (try rewrite [PySem.W.Fast.te5160383126252970620]); (try rewrite [PySem.W.Fast.te10994771534591457954]); (try rewrite [PySem.W.Fast.te479339242167458305]); (try rewrite [PySem.W.Fast.te14722251495701143533]); (try rewrite [PySem.W.Fast.te10880121769531294198]); (try rewrite [PySem.W.Fast.te8920871248978507458]); (try rewrite [PySem.W.Fast.te18344453789297297638]); (try rewrite [PySem.W.Fast.te4857012375875476094]); (try rewrite [PySem.W.Fast.te797321630700447069]); (try rewrite [PySem.W.Fast.te9572597257264208301]); (try rewrite [PySem.W.Fast.te16286561074155671207]); (try rewrite [PySem.W.Fast.te10792542408131684335]); (try rewrite [PySem.W.Fast.te6984425678791042302]); (try rewrite [PySem.W.Fast.te2368527892694137696]); (try rewrite [PySem.W.Fast.te13582783067957832011]); (try rewrite [PySem.W.Fast.te4274047373036748609]); (try rewrite [PySem.W.Fast.te5318747976498570220]); (try rewrite [PySem.W.Fast.te17868728402115742887]); (try rewrite [PySem.W.Fast.named_eq]); (try rewrite [PySem.W.Fast.te17691160309236699985]); (try rewrite [PySem.W.Fast.te7369524293546568484]); (try rewrite [PySem.W.Fast.te9558739934217749035]); (try rewrite [PySem.W.Fast.te10501279942588096481]); (try rewrite [PySem.W.Fast.te14789777615569096658]); (try rewrite [PySem.W.Fast.te821141287760084731]); (try rewrite [PySem.W.Fast.te17119622794617984870]); (try rewrite [PySem.W.Fast.te8377067652309620493]); (try rewrite [PySem.W.Fast.te8179353310426384613]); (try rewrite [PySem.W.Fast.te8326940854005059898]); (try rewrite [PySem.W.Fast.te2357444279172408678]); (try rewrite [PySem.W.Fast.te13343964577679436407]); (try rewrite [PySem.W.Fast.te10295753902157049106]); (try rewrite [PySem.W.Fast.te14374325043358763698]); (try rewrite [PySem.W.Fast.te10110043849684766642]); (try rewrite [PySem.W.Fast.te11788848310118352699]); (try rewrite [PySem.W.Fast.te15667345088766844465]); (try rewrite [PySem.W.Fast.te14082659384304107361]); (try rewrite [PySem.W.Fast.te7317090234206586261]); (try rewrite [PySem.W.Fast.te14412699480532031325]); (try rewrite [PySem.W.Fast.te11892475500146522536]); (try rewrite [PySem.W.Fast.te482687673346738481]); (try rewrite [PySem.W.Fast.te14289696077712309145]); (try rewrite [PySem.W.Fast.te10274390034422433532]); (try rewrite [PySem.W.Fast.te5923862056798008813]); (try rewrite [PySem.W.Fast.te12879404354523853263]); (try rewrite [PySem.W.Fast.te9706382859710513879]); (try rewrite [PySem.W.Fast.sDec_eq]); (try rewrite [PySem.W.Fast.te12862048085361865435]); (try rewrite [PySem.W.Fast.te9807087744658564304]); (try rewrite [PySem.W.Fast.te16090120013241838585]); (try rewrite [PySem.W.Fast.te1435165496053646825]); (try rewrite [PySem.W.Fast.te12749700546528644094]); (try rewrite [PySem.W.Fast.te14364793385576792824]); (try rewrite [PySem.W.S.strDecS_eq]))
  intro w; kernel_rfl
theorem fence : ∀ w : World, (fun os => (fenceModules? pp ⟨HE w.params, #[], {}, 318, os⟩).map (fun s => (s.heap, s.gens, s.drawn, s.toks))) = fun _ => some (HZ w.params, #[], {}, 318) := by
  ((try rewrite [PySem.W.R.allR_eq]); (try rewrite [PySem.W.R.anyR_eq]); (try rewrite [PySem.W.Fast.te3471404346716756564]); (try rewrite [PySem.W.Fast.te7723801398212525404]); (try rewrite [PySem.W.R.filterR_eq]); (try rewrite [PySem.W.Fast.te17095254045102204799]); (try rewrite [PySem.W.Fast.te4579403493507170074]); (try rewrite [PySem.W.R.mapR_eq]); (try rewrite [PySem.W.Fast.te13664370479719496447]); (try rewrite [PySem.W.Fast.te3247288618530077131]); (try rewrite [PySem.W.Fast.te7409074990110511671]); (try rewrite [PySem.W.Fast.te5991557255702980513]); (try rewrite [PySem.W.Fast.te11698064438423848299]); (try rewrite [PySem.W.Fast.te2386780881361962483]); (try rewrite [PySem.W.Fast.te3399658132070893891]); (try rewrite [PySem.W.Fast.te5160383126252970620]); (try rewrite [PySem.W.Fast.te10994771534591457954]); (try rewrite [PySem.W.Fast.te479339242167458305]); (try rewrite [PySem.W.Fast.te14722251495701143533]); (try rewrite [PySem.W.Fast.te10880121769531294198]); (try rewrite [PySem.W.Fast.te8920871248978507458]); (try rewrite [PySem.W.Fast.te18344453789297297638]); (try rewrite [PySem.W.Fast.te4857012375875476094]); (try rewrite [PySem.W.Fast.te797321630700447069]); (try rewrite [PySem.W.Fast.te9572597257264208301]); (try rewrite [PySem.W.Fast.te16286561074155671207]); (try rewrite [PySem.W.Fast.te10792542408131684335]); (try rewrite [PySem.W.Fast.te6984425678791042302]); (try rewrite [PySem.W.Fast.te2368527892694137696]); (try rewrite [PySem.W.Fast.te13582783067957832011]); (try rewrite [PySem.W.Fast.te4274047373036748609]); (try rewrite [PySem.W.Fast.te5318747976498570220]); (try rewrite [PySem.W.Fast.te17868728402115742887]); (try rewrite [PySem.W.Fast.named_eq]); (try rewrite [PySem.W.Fast.te17691160309236699985]); (try rewrite [PySem.W.Fast.te7369524293546568484]); (try rewrite [PySem.W.Fast.te9558739934217749035]); (try rewrite [PySem.W.Fast.te10501279942588096481]); (try rewrite [PySem.W.Fast.te14789777615569096658]); (try rewrite [PySem.W.Fast.te821141287760084731]); (try rewrite [PySem.W.Fast.te17119622794617984870]); (try rewrite [PySem.W.Fast.te8377067652309620493]); (try rewrite [PySem.W.Fast.te8179353310426384613]); (try rewrite [PySem.W.Fast.te8326940854005059898]); (try rewrite [PySem.W.Fast.te2357444279172408678]); (try rewrite [PySem.W.Fast.te13343964577679436407]); (try rewrite [PySem.W.Fast.te10295753902157049106]); (try rewrite [PySem.W.Fast.te14374325043358763698]); (try rewrite [PySem.W.Fast.te10110043849684766642]); (try rewrite [PySem.W.Fast.te11788848310118352699]); (try rewrite [PySem.W.Fast.te15667345088766844465]); (try rewrite [PySem.W.Fast.te14082659384304107361]); (try rewrite [PySem.W.Fast.te7317090234206586261]); (try rewrite [PySem.W.Fast.te14412699480532031325]); (try rewrite [PySem.W.Fast.te11892475500146522536]); (try rewrite [PySem.W.Fast.te482687673346738481]); (try rewrite [PySem.W.Fast.te14289696077712309145]); (try rewrite [PySem.W.Fast.te10274390034422433532]); (try rewrite [PySem.W.Fast.te5923862056798008813]); (try rewrite [PySem.W.Fast.te12879404354523853263]); (try rewrite [PySem.W.Fast.te9706382859710513879]); (try rewrite [PySem.W.Fast.sDec_eq]); (try rewrite [PySem.W.Fast.te12862048085361865435]); (try rewrite [PySem.W.Fast.te9807087744658564304]); (try rewrite [PySem.W.Fast.te16090120013241838585]); (try rewrite [PySem.W.Fast.te1435165496053646825]); (try rewrite [PySem.W.Fast.te12749700546528644094]); (try rewrite [PySem.W.Fast.te14364793385576792824]); (try rewrite [PySem.W.S.strDecS_eq]))
  intro w; kernel_rfl
theorem opened : ∀ w : World, (fencedOpening treeTable pp w 10798).map (fun s => (s.heap, s.gens, s.drawn, s.toks)) = some (HZ w.params, #[], {}, 318) := open_cut imp_end (by decide +kernel) fence
theorem sized : ∀ w : World, ((HZ w.params).isNs mainGlobals && (#[] : Array GenState).size == 0, (HZ w.params).objs.size, (HZ w.params).nsMap mainGlobals "__annotations__") = (true, 34, aE) := by
  ((try rewrite [PySem.W.R.allR_eq]); (try rewrite [PySem.W.R.anyR_eq]); (try rewrite [PySem.W.Fast.te3471404346716756564]); (try rewrite [PySem.W.Fast.te7723801398212525404]); (try rewrite [PySem.W.R.filterR_eq]); (try rewrite [PySem.W.Fast.te17095254045102204799]); (try rewrite [PySem.W.Fast.te4579403493507170074]); (try rewrite [PySem.W.R.mapR_eq]); (try rewrite [PySem.W.Fast.te13664370479719496447]); (try rewrite [PySem.W.Fast.te3247288618530077131]); (try rewrite [PySem.W.Fast.te7409074990110511671]); (try rewrite [PySem.W.Fast.te5991557255702980513]); (try rewrite [PySem.W.Fast.te11698064438423848299]); (try rewrite [PySem.W.Fast.te2386780881361962483]); (try rewrite [PySem.W.Fast.te3399658132070893891]); (try rewrite [PySem.W.Fast.te5160383126252970620]); (try rewrite [PySem.W.Fast.te10994771534591457954]); (try rewrite [PySem.W.Fast.te479339242167458305]); (try rewrite [PySem.W.Fast.te14722251495701143533]); (try rewrite [PySem.W.Fast.te10880121769531294198]); (try rewrite [PySem.W.Fast.te8920871248978507458]); (try rewrite [PySem.W.Fast.te18344453789297297638]); (try rewrite [PySem.W.Fast.te4857012375875476094]); (try rewrite [PySem.W.Fast.te797321630700447069]); (try rewrite [PySem.W.Fast.te9572597257264208301]); (try rewrite [PySem.W.Fast.te16286561074155671207]); (try rewrite [PySem.W.Fast.te10792542408131684335]); (try rewrite [PySem.W.Fast.te6984425678791042302]); (try rewrite [PySem.W.Fast.te2368527892694137696]); (try rewrite [PySem.W.Fast.te13582783067957832011]); (try rewrite [PySem.W.Fast.te4274047373036748609]); (try rewrite [PySem.W.Fast.te5318747976498570220]); (try rewrite [PySem.W.Fast.te17868728402115742887]); (try rewrite [PySem.W.Fast.named_eq]); (try rewrite [PySem.W.Fast.te17691160309236699985]); (try rewrite [PySem.W.Fast.te7369524293546568484]); (try rewrite [PySem.W.Fast.te9558739934217749035]); (try rewrite [PySem.W.Fast.te10501279942588096481]); (try rewrite [PySem.W.Fast.te14789777615569096658]); (try rewrite [PySem.W.Fast.te821141287760084731]); (try rewrite [PySem.W.Fast.te17119622794617984870]); (try rewrite [PySem.W.Fast.te8377067652309620493]); (try rewrite [PySem.W.Fast.te8179353310426384613]); (try rewrite [PySem.W.Fast.te8326940854005059898]); (try rewrite [PySem.W.Fast.te2357444279172408678]); (try rewrite [PySem.W.Fast.te13343964577679436407]); (try rewrite [PySem.W.Fast.te10295753902157049106]); (try rewrite [PySem.W.Fast.te14374325043358763698]); (try rewrite [PySem.W.Fast.te10110043849684766642]); (try rewrite [PySem.W.Fast.te11788848310118352699]); (try rewrite [PySem.W.Fast.te15667345088766844465]); (try rewrite [PySem.W.Fast.te14082659384304107361]); (try rewrite [PySem.W.Fast.te7317090234206586261]); (try rewrite [PySem.W.Fast.te14412699480532031325]); (try rewrite [PySem.W.Fast.te11892475500146522536]); (try rewrite [PySem.W.Fast.te482687673346738481]); (try rewrite [PySem.W.Fast.te14289696077712309145]); (try rewrite [PySem.W.Fast.te10274390034422433532]); (try rewrite [PySem.W.Fast.te5923862056798008813]); (try rewrite [PySem.W.Fast.te12879404354523853263]); (try rewrite [PySem.W.Fast.te9706382859710513879]); (try rewrite [PySem.W.Fast.sDec_eq]); (try rewrite [PySem.W.Fast.te12862048085361865435]); (try rewrite [PySem.W.Fast.te9807087744658564304]); (try rewrite [PySem.W.Fast.te16090120013241838585]); (try rewrite [PySem.W.Fast.te1435165496053646825]); (try rewrite [PySem.W.Fast.te12749700546528644094]); (try rewrite [PySem.W.Fast.te14364793385576792824]); (try rewrite [PySem.W.S.strDecS_eq]))
  intro w; kernel_rfl
theorem and_tt {a b : Bool} (x : a = true) (y : b = true) : (a && b) = true := by rw [x, y]; rfl
theorem ws : OpenLaw.wellSaid PySem.Challenge.rw_ny0341_01 = true := by
  delta OpenLaw.wellSaid OpenRow.wellSaid OpenRow.partSaid looksOpen
  repeat' with_reducible refine and_tt ?_ ?_
  all_goals ((try rewrite [PySem.W.R.allR_eq]); (try rewrite [PySem.W.R.anyR_eq]); (try rewrite [PySem.W.Fast.te3471404346716756564]); (try rewrite [PySem.W.Fast.te7723801398212525404]); (try rewrite [PySem.W.R.filterR_eq]); (try rewrite [PySem.W.Fast.te17095254045102204799]); (try rewrite [PySem.W.Fast.te4579403493507170074]); (try rewrite [PySem.W.R.mapR_eq]); (try rewrite [PySem.W.Fast.te13664370479719496447]); (try rewrite [PySem.W.Fast.te3247288618530077131]); (try rewrite [PySem.W.Fast.te7409074990110511671]); (try rewrite [PySem.W.Fast.te5991557255702980513]); (try rewrite [PySem.W.Fast.te11698064438423848299]); (try rewrite [PySem.W.Fast.te2386780881361962483]); (try rewrite [PySem.W.Fast.te3399658132070893891]); (try rewrite [PySem.W.Fast.te5160383126252970620]); (try rewrite [PySem.W.Fast.te10994771534591457954]); (try rewrite [PySem.W.Fast.te479339242167458305]); (try rewrite [PySem.W.Fast.te14722251495701143533]); (try rewrite [PySem.W.Fast.te10880121769531294198]); (try rewrite [PySem.W.Fast.te8920871248978507458]); (try rewrite [PySem.W.Fast.te18344453789297297638]); (try rewrite [PySem.W.Fast.te4857012375875476094]); (try rewrite [PySem.W.Fast.te797321630700447069]); (try rewrite [PySem.W.Fast.te9572597257264208301]); (try rewrite [PySem.W.Fast.te16286561074155671207]); (try rewrite [PySem.W.Fast.te10792542408131684335]); (try rewrite [PySem.W.Fast.te6984425678791042302]); (try rewrite [PySem.W.Fast.te2368527892694137696]); (try rewrite [PySem.W.Fast.te13582783067957832011]); (try rewrite [PySem.W.Fast.te4274047373036748609]); (try rewrite [PySem.W.Fast.te5318747976498570220]); (try rewrite [PySem.W.Fast.te17868728402115742887]); (try rewrite [PySem.W.Fast.named_eq]); (try rewrite [PySem.W.Fast.te17691160309236699985]); (try rewrite [PySem.W.Fast.te7369524293546568484]); (try rewrite [PySem.W.Fast.te9558739934217749035]); (try rewrite [PySem.W.Fast.te10501279942588096481]); (try rewrite [PySem.W.Fast.te14789777615569096658]); (try rewrite [PySem.W.Fast.te821141287760084731]); (try rewrite [PySem.W.Fast.te17119622794617984870]); (try rewrite [PySem.W.Fast.te8377067652309620493]); (try rewrite [PySem.W.Fast.te8179353310426384613]); (try rewrite [PySem.W.Fast.te8326940854005059898]); (try rewrite [PySem.W.Fast.te2357444279172408678]); (try rewrite [PySem.W.Fast.te13343964577679436407]); (try rewrite [PySem.W.Fast.te10295753902157049106]); (try rewrite [PySem.W.Fast.te14374325043358763698]); (try rewrite [PySem.W.Fast.te10110043849684766642]); (try rewrite [PySem.W.Fast.te11788848310118352699]); (try rewrite [PySem.W.Fast.te15667345088766844465]); (try rewrite [PySem.W.Fast.te14082659384304107361]); (try rewrite [PySem.W.Fast.te7317090234206586261]); (try rewrite [PySem.W.Fast.te14412699480532031325]); (try rewrite [PySem.W.Fast.te11892475500146522536]); (try rewrite [PySem.W.Fast.te482687673346738481]); (try rewrite [PySem.W.Fast.te14289696077712309145]); (try rewrite [PySem.W.Fast.te10274390034422433532]); (try rewrite [PySem.W.Fast.te5923862056798008813]); (try rewrite [PySem.W.Fast.te12879404354523853263]); (try rewrite [PySem.W.Fast.te9706382859710513879]); (try rewrite [PySem.W.Fast.sDec_eq]); (try rewrite [PySem.W.Fast.te12862048085361865435]); (try rewrite [PySem.W.Fast.te9807087744658564304]); (try rewrite [PySem.W.Fast.te16090120013241838585]); (try rewrite [PySem.W.Fast.te1435165496053646825]); (try rewrite [PySem.W.Fast.te12749700546528644094]); (try rewrite [PySem.W.Fast.te14364793385576792824]); (try rewrite [PySem.W.S.strDecS_eq]))
  all_goals decide +kernel
noncomputable abbrev qq : Program := { pp with main := { pp.main with body := [st 38] } }
def lo : List Str := ["_sre", "deque", "_wall", "StatisticsError", "median_low", "median_high", "_twin_re_1", "_whence", "_index", "UnsupportedOperation", "IOBase", "BufferedIOBase", "TextIOBase", "BytesIO", "StringIO", "_kind", "_fspath", "_check_arg_types", "isabs", "join", "join_path", "dirname", "shlex", "split", "join_shlex", "_find_unsafe", "quote", "_law_word", "_law_run", "_law_holds", "_law_quoted", "_law_checked"]
noncomputable def KK2 : Params → Frag := fun P => (nat_lit 773, o8E P) :: KK P
noncomputable def KA2 : List Addr := nat_lit 773 :: KA
theorem ka_eq : ∀ P, KA2 = (KK2 P).map (·.1) := fun P => by kernel_rfl
noncomputable abbrev hk : Hook := kHook KK2 KA2 ka_eq
noncomputable abbrev xt : Shared → Bool := fun s => xlAt qq [] s && recOk [] s
noncomputable abbrev sF (w : World) (os : OsState) : Shared := ⟨HF w.params, #[], {}, 1337, os⟩
theorem lk1 : ∀ w, (fun os => (staticsOk (importedModules pp.main.body) (HZ w.params) (HF w.params) && namesBound pp (HF w.params) && gensDone (sF w os) && laidKept (HZ w.params) (HF w.params))) = fun _ => true := by
  ((try rewrite [PySem.W.R.allR_eq]); (try rewrite [PySem.W.R.anyR_eq]); (try rewrite [PySem.W.Fast.te3471404346716756564]); (try rewrite [PySem.W.Fast.te7723801398212525404]); (try rewrite [PySem.W.R.filterR_eq]); (try rewrite [PySem.W.Fast.te17095254045102204799]); (try rewrite [PySem.W.Fast.te4579403493507170074]); (try rewrite [PySem.W.R.mapR_eq]); (try rewrite [PySem.W.Fast.te13664370479719496447]); (try rewrite [PySem.W.Fast.te3247288618530077131]); (try rewrite [PySem.W.Fast.te7409074990110511671]); (try rewrite [PySem.W.Fast.te5991557255702980513]); (try rewrite [PySem.W.Fast.te11698064438423848299]); (try rewrite [PySem.W.Fast.te2386780881361962483]); (try rewrite [PySem.W.Fast.te3399658132070893891]); (try rewrite [PySem.W.Fast.te5160383126252970620]); (try rewrite [PySem.W.Fast.te10994771534591457954]); (try rewrite [PySem.W.Fast.te479339242167458305]); (try rewrite [PySem.W.Fast.te14722251495701143533]); (try rewrite [PySem.W.Fast.te10880121769531294198]); (try rewrite [PySem.W.Fast.te8920871248978507458]); (try rewrite [PySem.W.Fast.te18344453789297297638]); (try rewrite [PySem.W.Fast.te4857012375875476094]); (try rewrite [PySem.W.Fast.te797321630700447069]); (try rewrite [PySem.W.Fast.te9572597257264208301]); (try rewrite [PySem.W.Fast.te16286561074155671207]); (try rewrite [PySem.W.Fast.te10792542408131684335]); (try rewrite [PySem.W.Fast.te6984425678791042302]); (try rewrite [PySem.W.Fast.te2368527892694137696]); (try rewrite [PySem.W.Fast.te13582783067957832011]); (try rewrite [PySem.W.Fast.te4274047373036748609]); (try rewrite [PySem.W.Fast.te5318747976498570220]); (try rewrite [PySem.W.Fast.te17868728402115742887]); (try rewrite [PySem.W.Fast.named_eq]); (try rewrite [PySem.W.Fast.te17691160309236699985]); (try rewrite [PySem.W.Fast.te7369524293546568484]); (try rewrite [PySem.W.Fast.te9558739934217749035]); (try rewrite [PySem.W.Fast.te10501279942588096481]); (try rewrite [PySem.W.Fast.te14789777615569096658]); (try rewrite [PySem.W.Fast.te821141287760084731]); (try rewrite [PySem.W.Fast.te17119622794617984870]); (try rewrite [PySem.W.Fast.te8377067652309620493]); (try rewrite [PySem.W.Fast.te8179353310426384613]); (try rewrite [PySem.W.Fast.te8326940854005059898]); (try rewrite [PySem.W.Fast.te2357444279172408678]); (try rewrite [PySem.W.Fast.te13343964577679436407]); (try rewrite [PySem.W.Fast.te10295753902157049106]); (try rewrite [PySem.W.Fast.te14374325043358763698]); (try rewrite [PySem.W.Fast.te10110043849684766642]); (try rewrite [PySem.W.Fast.te11788848310118352699]); (try rewrite [PySem.W.Fast.te15667345088766844465]); (try rewrite [PySem.W.Fast.te14082659384304107361]); (try rewrite [PySem.W.Fast.te7317090234206586261]); (try rewrite [PySem.W.Fast.te14412699480532031325]); (try rewrite [PySem.W.Fast.te11892475500146522536]); (try rewrite [PySem.W.Fast.te482687673346738481]); (try rewrite [PySem.W.Fast.te14289696077712309145]); (try rewrite [PySem.W.Fast.te10274390034422433532]); (try rewrite [PySem.W.Fast.te5923862056798008813]); (try rewrite [PySem.W.Fast.te12879404354523853263]); (try rewrite [PySem.W.Fast.te9706382859710513879]); (try rewrite [PySem.W.Fast.sDec_eq]); (try rewrite [PySem.W.Fast.te12862048085361865435]); (try rewrite [PySem.W.Fast.te9807087744658564304]); (try rewrite [PySem.W.Fast.te16090120013241838585]); (try rewrite [PySem.W.Fast.te1435165496053646825]); (try rewrite [PySem.W.Fast.te12749700546528644094]); (try rewrite [PySem.W.Fast.te14364793385576792824]); (try rewrite [PySem.W.S.strDecS_eq]))
  intro w; kernel_rfl
theorem lk2 : ∀ w, (fun os => openSeen qq lo (importedModules pp.main.body) xt true (sF w os)) = fun _ => openGood qq lo := by
  delta openSeen openGood
  ((try rewrite [PySem.W.R.allR_eq]); (try rewrite [PySem.W.R.anyR_eq]); (try rewrite [PySem.W.Fast.te3471404346716756564]); (try rewrite [PySem.W.Fast.te7723801398212525404]); (try rewrite [PySem.W.R.filterR_eq]); (try rewrite [PySem.W.Fast.te17095254045102204799]); (try rewrite [PySem.W.Fast.te4579403493507170074]); (try rewrite [PySem.W.R.mapR_eq]); (try rewrite [PySem.W.Fast.te13664370479719496447]); (try rewrite [PySem.W.Fast.te3247288618530077131]); (try rewrite [PySem.W.Fast.te7409074990110511671]); (try rewrite [PySem.W.Fast.te5991557255702980513]); (try rewrite [PySem.W.Fast.te11698064438423848299]); (try rewrite [PySem.W.Fast.te2386780881361962483]); (try rewrite [PySem.W.Fast.te3399658132070893891]); (try rewrite [PySem.W.Fast.te5160383126252970620]); (try rewrite [PySem.W.Fast.te10994771534591457954]); (try rewrite [PySem.W.Fast.te479339242167458305]); (try rewrite [PySem.W.Fast.te14722251495701143533]); (try rewrite [PySem.W.Fast.te10880121769531294198]); (try rewrite [PySem.W.Fast.te8920871248978507458]); (try rewrite [PySem.W.Fast.te18344453789297297638]); (try rewrite [PySem.W.Fast.te4857012375875476094]); (try rewrite [PySem.W.Fast.te797321630700447069]); (try rewrite [PySem.W.Fast.te9572597257264208301]); (try rewrite [PySem.W.Fast.te16286561074155671207]); (try rewrite [PySem.W.Fast.te10792542408131684335]); (try rewrite [PySem.W.Fast.te6984425678791042302]); (try rewrite [PySem.W.Fast.te2368527892694137696]); (try rewrite [PySem.W.Fast.te13582783067957832011]); (try rewrite [PySem.W.Fast.te4274047373036748609]); (try rewrite [PySem.W.Fast.te5318747976498570220]); (try rewrite [PySem.W.Fast.te17868728402115742887]); (try rewrite [PySem.W.Fast.named_eq]); (try rewrite [PySem.W.Fast.te17691160309236699985]); (try rewrite [PySem.W.Fast.te7369524293546568484]); (try rewrite [PySem.W.Fast.te9558739934217749035]); (try rewrite [PySem.W.Fast.te10501279942588096481]); (try rewrite [PySem.W.Fast.te14789777615569096658]); (try rewrite [PySem.W.Fast.te821141287760084731]); (try rewrite [PySem.W.Fast.te17119622794617984870]); (try rewrite [PySem.W.Fast.te8377067652309620493]); (try rewrite [PySem.W.Fast.te8179353310426384613]); (try rewrite [PySem.W.Fast.te8326940854005059898]); (try rewrite [PySem.W.Fast.te2357444279172408678]); (try rewrite [PySem.W.Fast.te13343964577679436407]); (try rewrite [PySem.W.Fast.te10295753902157049106]); (try rewrite [PySem.W.Fast.te14374325043358763698]); (try rewrite [PySem.W.Fast.te10110043849684766642]); (try rewrite [PySem.W.Fast.te11788848310118352699]); (try rewrite [PySem.W.Fast.te15667345088766844465]); (try rewrite [PySem.W.Fast.te14082659384304107361]); (try rewrite [PySem.W.Fast.te7317090234206586261]); (try rewrite [PySem.W.Fast.te14412699480532031325]); (try rewrite [PySem.W.Fast.te11892475500146522536]); (try rewrite [PySem.W.Fast.te482687673346738481]); (try rewrite [PySem.W.Fast.te14289696077712309145]); (try rewrite [PySem.W.Fast.te10274390034422433532]); (try rewrite [PySem.W.Fast.te5923862056798008813]); (try rewrite [PySem.W.Fast.te12879404354523853263]); (try rewrite [PySem.W.Fast.te9706382859710513879]); (try rewrite [PySem.W.Fast.sDec_eq]); (try rewrite [PySem.W.Fast.te12862048085361865435]); (try rewrite [PySem.W.Fast.te9807087744658564304]); (try rewrite [PySem.W.Fast.te16090120013241838585]); (try rewrite [PySem.W.Fast.te1435165496053646825]); (try rewrite [PySem.W.Fast.te12749700546528644094]); (try rewrite [PySem.W.Fast.te14364793385576792824]); (try rewrite [PySem.W.S.strDecS_eq]))
  intro w; kernel_rfl
theorem hf_eq : ∀ P, HF P = absHeap (T4 P) 821 {} := fun P => by kernel_rfl
noncomputable def pick (t : BT) (a : Nat) : Option Obj := bif Nat.blt a 821 then (t.get a).bind alive else none
noncomputable def held (t : BT) (a : Nat) : Bool := bif Nat.blt a 821 then (t.get a).isSome else false
theorem pick_eq {t : BT} {l : Life} {a : Nat} (h : held t a = true) : (absHeap t 821 l).get? a = pick t a := by
  unfold held at h
  unfold pick
  cases q : Nat.blt a 821 with
  | false => rw [q] at h; cases h
  | true =>
    rw [q] at h
    have lt : a < 821 := Nat.le_of_ble_eq_true q
    cases g : t.get a with
    | none => rw [g] at h; cases h
    | some o => rw [abs_get lt g]; rfl
theorem held_all : ∀ P, (KA2.all (held (T4 P))) = true := fun P => by kernel_rfl
theorem pick_all : ∀ P, KA2.map (pick (T4 P)) = (KK2 P).map fun p => some p.2 := fun P => by kernel_rfl
theorem lk3 : ∀ w, (fun os => Hook.obs hk (sF w os)) = fun _ => Hook.val hk w := fun w => by
  funext os
  show KA2.map (HF w.params).get? = (KK2 w.params).map fun p => some p.2
  rw [← pick_all, hf_eq]
  exact List.map_congr_left fun a ha => pick_eq (List.all_eq_true.mp (held_all w.params) a ha)
theorem left : LeftO pp qq lo xt (Hook.obs hk) (Hook.val hk) 10798 :=
  LeftO.of_pieces opened sized run_all (by decide +kernel) fun w => by
    funext os
    rw [show (staticsOk (importedModules pp.main.body) (HZ w.params) (HF w.params) && namesBound pp (HF w.params) && gensDone (sF w os) && laidKept (HZ w.params) (HF w.params)) = true from congrFun (lk1 w) os,
      show openSeen qq lo (importedModules pp.main.body) xt true (sF w os) = openGood qq lo from congrFun (lk2 w) os, show Hook.obs hk (sF w os) = Hook.val hk w from congrFun (lk3 w) os]
end Mine
namespace Mine

abbrev pw : Program := PySem.Challenge.rw_ny0341_01.prog

/-- all but the ledger stays -/
def KB (h h' : Heap) (news : List (Addr × Obj)) : Prop := ∀ b o, h.get? b = some o → b ∉ news.map (·.1) → h'.get? b = some o

abbrev Ar (dp un : Nat) (gd : Option (List Code)) (env : Env) (outer : List Env) : Around := { handled := none, depth := dp, frames := some (env :: outer), guards := gd, units := un }

/-- what stands around a call -/
structure Cx (K : Frag) (p : Program) (loose : List Str) (mean : ExcName → Option Value) (mg mb : Str → Option Value) (A₀ : Around) (env : Env) (outer : List Env) (base h₀ : Heap) (L : Addr) (m : Str → Option Value) (h : Heap) : Prop where
  B : Below A₀ base outer h₀
  F : Fr h₀ L h m
  X : K.In h₀
  T : Top p loose mean mg mb h₀
  hf : env.frame = some L
  hke : env.scope.kind = .function

section
variable {prog : Program} {w : World} {A A₀ : Around} {E : Value → Shared → Prop} {s : Shared} {K : Frag} {L : Addr} {h₀ base : Heap} {m mg mb : Str → Option Value} {news : List (Addr × Obj)} {p : Program} {loose : List Str} {mean : ExcName → Option Value} {env : Env} {outer : List Env}

theorem code_kb {R : Result → Shared → Prop} {name qual : Str} {params : Arguments} {body : List Stmt} {scope : Scope} {dV kV doc pm cdv ct oc : Value} {an od : Option Addr} {osl : Array (Option Value)} {f : Addr} {args : Args} {binds : List (Str × Value)}
    (B : Below A₀ base outer h₀) (F : Fr h₀ L s.heap m) (X₀ : K.In h₀) (N : News h₀ L s.heap news) (T : Top p loose mean mg mb h₀) (hA : A.frames = some (env :: outer)) (hf : env.frame = some L) (hke : env.scope.kind = .function)
    (ho : K.lookup f = some ⟨oc, od, .func (fnOf name qual params body scope dV kV doc pm an cdv ct), osl⟩) (hcd : codeIn K cdv qual = true) (hroom : A.depth < recursionLimit)
    (hbind : BindsTo s (fnOf name qual params body scope dV kV doc pm an cdv ct) args binds) (hloc : ∀ y ∈ binds, scope.names.lookup y.1 = some .local)
    (h : ∀ g L' h₁, Fr h₀ L g m → Fr g L' h₁ (fun y => binds.reverse.lookup y) → News g L' h₁ news → Below A base (env :: outer) g → K.In g → Top p loose mean mg mb g → KB s.heap g news →
      wpAny (model prog w) (A.deeper (envOf qual scope L' f cdv)) (execs body (envOf qual scope L' f cdv))
        (fun fl s' => LeaveK h₀ L m g R (match fl with | .ret v => v | _ => .none) s')
        (fun e s' => wpAny (model prog w) (A.deeper (envOf qual scope L' f cdv)) (leaving (envOf qual scope L' f cdv) e) (fun _ s'' => R (.error e) s'') (fun e' s'' => R (.error e') s'') s')
        { s with heap := h₁, toks := s.toks + binds.length })
    (hco : scope.isCoroutine = false) (hgen : scope.isGenerator = false) (hk : scope.kind = .function)
    (hcell : ∀ x ∈ scope.names, x.2 ≠ .cell) : codeAny (model prog w) A (.call (.ref f) args) R s := by
  obtain ⟨FG, BG, st, lv⟩ := groundX (R := R) B F N hA hf hke
  refine codeAny_call_def (fd := fnOf name qual params body scope dV kV doc pm an cdv ct) (body := body) (binds := binds) hroom ((X₀.keeps F.keep) _ _ ho) rfl (T.nolimit.keeps F.keep) (codeRec_of (X₀.keeps F.keep) hcd) rfl hbind hcell hloc (fun h₁ hns hk₁ => ?_) hco hgen hk
  exact wpAny_mono (h _ s.heap.objs.size h₁ FG ⟨hns, fun b o e => hk₁ b o (of_hideAll _ e), Nat.le_of_eq (hideAll_size _ _)⟩
    (fun p hp => ⟨hk₁ _ _ (N p hp).1, Nat.ne_of_lt (Heap.lt_size (N p hp).1), hideAll_none _ (List.mem_map_of_mem hp)⟩) BG (X₀.keeps st) (T.keeps st) (fun b o e n => hideAll_get _ e n)) (fun fl s' hl => lv _ _ hl) fun _ _ y => y

theorem news_kb {h h' : Heap} {mine mine' rest : List (Addr × Obj)} (N : News h₀ L h (mine ++ rest)) (k : KB h h' mine) (hd : ∀ p ∈ rest, p.1 ∉ mine.map (·.1)) (N' : News h₀ L h' mine') : News h₀ L h' (mine' ++ rest) := fun p hp => by
  rcases List.mem_append.mp hp with q | q
  · exact N' p q
  · have := N p (List.mem_append_right _ q)
    exact ⟨k _ _ this.1 (hd p q), this.2⟩
theorem KB.refl {h : Heap} {news : List (Addr × Obj)} : KB h h news := fun _ _ e _ => e
theorem KB.trans {h h' h'' : Heap} {n n' : List (Addr × Obj)} (a : KB h h' n) (b : KB h' h'' n') (hs : ∀ x ∈ n'.map (·.1), x ∉ n.map (·.1) → h.get? x = none) : KB h h'' n := fun x o e q => by
  refine b x o (a x o e q) fun hx => ?_
  rw [hs x hx q] at e; cases e
theorem news_sub {h : Heap} {n n' : List (Addr × Obj)} (N : News h₀ L h n) (hs : ∀ p ∈ n', p ∈ n) : News h₀ L h n' := fun p hp => N p (hs p hp)
end
end Mine
namespace Mine
theorem clear1 : True := by first | (walk1; fail) | exact trivial
theorem dummyR : PySem.Challenge.rw_ny0341_01 = PySem.Challenge.rw_ny0341_01 ∧ Mine.KK = Mine.KK := by
    k_fill
    exact ⟨rfl, rfl⟩
abbrev sioD (P : Params) (k t : Nat → Tok) (buf : Str) (pos : Int) (tp : Tok) : List DictEntry := [⟨PyData.keyHash P (Str.ofString "_StringIO__newline"), .str (Str.ofString "_StringIO__newline") (k 20), .str (Str.ofString "\n") (t 20)⟩, ⟨PyData.keyHash P (Str.ofString "_StringIO__buf"), .str (Str.ofString "_StringIO__buf") (k 21), .str buf (t 21)⟩, ⟨PyData.keyHash P (Str.ofString "_StringIO__pos"), .str (Str.ofString "_StringIO__pos") (k 22), .int pos tp⟩]
theorem rem_some {x : Str} {i : Int} (h0 : 0 ≤ i) (h : i < (x.length : Int)) : ∃ c rest, x.cps.toList.drop i.toNat = c :: rest := by
  have hl : i.toNat < x.cps.toList.length := by
    have e : x.length = x.cps.size := rfl
    rw [Array.length_toList]; omega
  exact ⟨_, _, List.drop_eq_getElem_cons hl⟩
theorem sr_one (a : Int) : sliceRange a (a + 1) 1 = [a.toNat] := by
  unfold sliceRange
  have e : (if (1 : Int) > 0 then (if a < a + 1 then (a + 1 - a + 1 - 1) / 1 else 0) else (if a > a + 1 then (a - (a + 1) - 1 - 1) / (-1) else 0)) = (1 : Int) := by
    rw [if_pos (by decide), if_pos (by omega)]; omega
  simp only [e]
  simp
theorem slice_one {x : PySem.Str} {i : Int} {c : Nat} {rest : List Nat} (h0 : 0 ≤ i) (hr : x.cps.toList.drop i.toNat = c :: rest) : Txt.slice x (some i) (some (i + 1)) = ⟨#[c]⟩ := by
  have hlen : i.toNat < x.cps.size := by
    have := congrArg List.length hr
    simp at this
    omega
  have hat : x.cps[i.toNat]? = some c := by
    have := congrArg (fun l => l[0]?) hr
    simpa using this
  have hidx : Builtin.Str.strSliceIndices (some i) (some (i + 1)) 1 x.length = [i.toNat] := by
    have hl : x.length = x.cps.size := rfl
    have e1 : (if (1 : Int) > 0 then max 0 (min (if i < 0 then i + (x.cps.size : Int) else i) (x.cps.size : Int)) else max (-1) (min (if i < 0 then i + (x.cps.size : Int) else i) ((x.cps.size : Int) - 1))) = i := by
      rw [if_pos (by decide), if_neg (by omega)]; omega
    have e2 : (if (1 : Int) > 0 then max 0 (min (if i + 1 < 0 then i + 1 + (x.cps.size : Int) else i + 1) (x.cps.size : Int)) else max (-1) (min (if i + 1 < 0 then i + 1 + (x.cps.size : Int) else i + 1) ((x.cps.size : Int) - 1))) = i + 1 := by
      rw [if_pos (by decide), if_neg (by omega)]; omega
    show sliceRange (if (1 : Int) > 0 then max 0 (min (if i < 0 then i + (x.cps.size : Int) else i) (x.cps.size : Int)) else max (-1) (min (if i < 0 then i + (x.cps.size : Int) else i) ((x.cps.size : Int) - 1)))
      (if (1 : Int) > 0 then max 0 (min (if i + 1 < 0 then i + 1 + (x.cps.size : Int) else i + 1) (x.cps.size : Int)) else max (-1) (min (if i + 1 < 0 then i + 1 + (x.cps.size : Int) else i + 1) ((x.cps.size : Int) - 1))) 1 = _
    rw [e1, e2, sr_one]
  unfold Txt.slice
  rw [hidx]
  split
  · rename_i h
    have h1 : 1 = x.length := by
      have := (Bool.and_eq_true_iff.mp h).2
      simpa only [beq_iff_eq, List.length_cons, List.length_nil, Nat.zero_add] using this
    have h2 : x.cps.size = 1 := h1.symm
    have h3 : i.toNat = 0 := by omega
    rw [h3, List.drop_zero] at hr
    obtain ⟨⟨l⟩⟩ := x
    have hr' : l = c :: rest := hr
    subst hr'
    have h4 : rest.length + 1 = 1 := h2
    have : rest = [] := List.eq_nil_of_length_eq_zero (by omega)
    subst this
    rfl
  · simp [hat]
local macro_rules | `(tactic| k_room) => `(tactic| ktr_room)
local macro_rules | `(tactic| walk_at "my kb") => `(tactic| (rename KB _ _ _ => kb9; intro b9 o9 e9 n9; exact Fr.keep (by assumption) b9 o9 (kb9 b9 o9 e9 n9)))
set_option maxHeartbeats 8000000 in
theorem read_spec {w : World} {p : Program} {loose : List Str} {mean : ExcName → Option Value} {mg mb : Str → Option Value} {dp un : Nat} {gd : Option (List Code)} {env : Env} {outer : List Env} {A₀ : Around} {base h₀ : Heap} {L : Addr} {m : Str → Option Value} {s : Shared} {R : Result → Shared → Prop}
    {sio ds : Addr} {k t : Nat → Tok} {buf : Str} {pos : Int} {tp ty : Tok} (hpos : 0 ≤ pos) (hbl : buf.length < 100000) (hpl : pos < 1000000)
    (hne : @Ne Nat sio ds) (cx : Cx (Mine.KK w.params) p loose mean mg mb A₀ env outer base h₀ L m s.heap)
    (N : News h₀ L s.heap [(sio, instObj 624 ds), (ds, dictOf (sioD w.params k t buf pos tp) 3)])
    (hd : dp + 10 < recursionLimit) (hu : un + 100 < cLine)
    (hend : (buf.length : Int) ≤ pos → ∀ h' tk' t', Fr h₀ L h' m → News h₀ L h' [(sio, instObj 624 ds), (ds, dictOf (sioD w.params k t buf pos tp) 3)] → KB s.heap h' [(sio, instObj 624 ds), (ds, dictOf (sioD w.params k t buf pos tp) 3)] → R (.ok (.ret (.str (Str.ofString "") t'))) { s with heap := h', toks := tk' })
    (hret : ∀ c rest, buf.cps.toList.drop pos.toNat = c :: rest → ∀ h' tk' t' tp', Fr h₀ L h' m → News h₀ L h' [(sio, instObj 624 ds), (ds, dictOf (sioD w.params k t buf (pos + 1) tp') 3)] → KB s.heap h' [(sio, instObj 624 ds), (ds, dictOf (sioD w.params k t buf pos tp) 3)] → R (.ok (.ret (.str ⟨#[c]⟩ t'))) { s with heap := h', toks := tk' }) :
    codeAny (model pw w) (Ar dp un gd env outer) (.call (.ref 570) ⟨[.ref sio, .int 1 ty], []⟩) R s := by
  obtain ⟨B, F, X, T, hf, hke⟩ := cx
  (k_dflt (refine' code_kb ?k1 ?k2 ?k3 ?k4 ?k5 ?kA ?kF ?kK ?k6 ?k7 ?k8 ?k9 ?kB ?_ ?c2 ?c3 ?c4 ?c5; (case kA => exact rfl); (case kF => assumption); (case kK => assumption); (case k1 => k_asm); (case k2 => k_asm); (case k3 => k_asm); (case k4 => k_asm); (case k5 => k_asm); (case k6 => k_is); (case k7 => k_is); (case k8 => ktr_room); (case k9 => first | exact BindsTo.of_eq rfl | exact binds_K (by k_in) rfl (by k_is) rfl rfl rfl); (case c5 => decide); (case kB => exact locs rfl); (case c2 => exact rfl); (case c3 => exact rfl); (case c4 => exact rfl); k_whole; intro g' L' h' FG' F' N' B' X' T' KG'; (try dsimp only); (try k_lift B'); (try k_fold)))
  k_steps
  · exact hend (by omega) _ _ _ (by assumption) (by assumption) (by walk_at "my kb")
  · obtain ⟨c, rest, hrem⟩ := rem_some (x := buf) hpos (by omega)
    rw [slice_one hpos hrem]
    exact hret _ _ hrem _ _ _ _ (by assumption) (by assumption) (by walk_at "my kb")
  · obtain ⟨c, rest, hrem⟩ := rem_some (x := buf) hpos (by omega)
    have hen : (buf.length : Int) = pos + 1 := by omega
    rename News _ _ _ _ => n9
    rw [hen] at n9
    rw [hen, slice_one hpos hrem]
    exact hret _ _ hrem _ _ _ _ (by assumption) n9 (by walk_at "my kb")
end Mine
namespace Mine
abbrev lexD (P : Params) (k t : Nat → Tok) (sio dq1 dq2 : Addr) (st : Value) (tok : Str) (tT : Tok) : List DictEntry := [⟨PyData.keyHash P (Str.ofString "instream"), .str (Str.ofString "instream") (k 0), .ref sio⟩,
    ⟨PyData.keyHash P (Str.ofString "infile"), .str (Str.ofString "infile") (k 1), .none⟩,
    ⟨PyData.keyHash P (Str.ofString "posix"), .str (Str.ofString "posix") (k 2), .bool true⟩,
    ⟨PyData.keyHash P (Str.ofString "eof"), .str (Str.ofString "eof") (k 3), .none⟩,
    ⟨PyData.keyHash P (Str.ofString "commenters"), .str (Str.ofString "commenters") (k 4), .str (Str.ofString "") (t 0)⟩,
    ⟨PyData.keyHash P (Str.ofString "wordchars"), .str (Str.ofString "wordchars") (k 5), .str (Str.ofString "abcdfeghijklmnopqrstuvwxyzABCDEFGHIJKLMNOPQRSTUVWXYZ0123456789_ßàáâãäåæçèéêëìíîïðñòóôõöøùúûüýþÿÀÁÂÃÄÅÆÇÈÉÊËÌÍÎÏÐÑÒÓÔÕÖØÙÚÛÜÝÞ") (t 1)⟩,
    ⟨PyData.keyHash P (Str.ofString "whitespace"), .str (Str.ofString "whitespace") (k 6), .str (Str.ofString " \t\r\n") (t 2)⟩,
    ⟨PyData.keyHash P (Str.ofString "whitespace_split"), .str (Str.ofString "whitespace_split") (k 7), .bool true⟩,
    ⟨PyData.keyHash P (Str.ofString "quotes"), .str (Str.ofString "quotes") (k 8), .str (Str.ofString "'\"") (t 3)⟩,
    ⟨PyData.keyHash P (Str.ofString "escape"), .str (Str.ofString "escape") (k 9), .str (Str.ofString "\\") (t 4)⟩,
    ⟨PyData.keyHash P (Str.ofString "escapedquotes"), .str (Str.ofString "escapedquotes") (k 10), .str (Str.ofString "\"") (t 5)⟩,
    ⟨PyData.keyHash P (Str.ofString "state"), .str (Str.ofString "state") (k 11), st⟩,
    ⟨PyData.keyHash P (Str.ofString "pushback"), .str (Str.ofString "pushback") (k 12), .ref dq1⟩,
    ⟨PyData.keyHash P (Str.ofString "lineno"), .str (Str.ofString "lineno") (k 13), .int 1 (t 6)⟩,
    ⟨PyData.keyHash P (Str.ofString "debug"), .str (Str.ofString "debug") (k 14), .int 0 (t 7)⟩,
    ⟨PyData.keyHash P (Str.ofString "token"), .str (Str.ofString "token") (k 15), .str tok tT⟩,
    ⟨PyData.keyHash P (Str.ofString "filestack"), .str (Str.ofString "filestack") (k 16), .ref dq2⟩,
    ⟨PyData.keyHash P (Str.ofString "source"), .str (Str.ofString "source") (k 17), .none⟩,
    ⟨PyData.keyHash P (Str.ofString "_punctuation_chars"), .str (Str.ofString "_punctuation_chars") (k 18), .str (Str.ofString "") (t 9)⟩]

/-- what a turn of read_token's loop does to what is left, the state, the token and 'quoted'; the end: token, quoted, what is left, whether the text is at its end -/
inductive Tk : List Nat → Str → Str → Bool → Str → Bool → List Nat → Bool → Prop where
  | letter0 {c rem tok q t' q' r' e} : c = 97 ∨ c = 98 ∨ c = 90 → Tk rem (Str.ofString "a") ⟨#[c]⟩ q t' q' r' e → Tk (c :: rem) (Str.ofString " ") tok q t' q' r' e
  | quote0 {rem tok q t' q' r' e} : Tk rem ⟨#[39]⟩ tok q t' q' r' e → Tk (39 :: rem) (Str.ofString " ") tok q t' q' r' e
  | end0 {tok q} : Tk [] (Str.ofString " ") tok q tok q [] true
  | sqEnd {rem tok q t' q' r' e} : Tk rem (Str.ofString "a") tok true t' q' r' e → Tk (39 :: rem) ⟨#[39]⟩ tok q t' q' r' e
  | sqChar {c rem tok q t' q' r' e} : c = 97 ∨ c = 98 ∨ c = 90 ∨ c = 34 ∨ c = 32 ∨ c = 35 → Tk rem ⟨#[39]⟩ (tok ++ ⟨#[c]⟩) true t' q' r' e → Tk (c :: rem) ⟨#[39]⟩ tok q t' q' r' e
  | dqApo {rem tok q t' q' r' e} : Tk rem ⟨#[34]⟩ (tok ++ ⟨#[39]⟩) true t' q' r' e → Tk (39 :: rem) ⟨#[34]⟩ tok q t' q' r' e
  | dqEnd {rem tok q t' q' r' e} : Tk rem (Str.ofString "a") tok true t' q' r' e → Tk (34 :: rem) ⟨#[34]⟩ tok q t' q' r' e
  | alLetter {c rem tok q t' q' r' e} : c = 97 ∨ c = 98 ∨ c = 90 → Tk rem (Str.ofString "a") (tok ++ ⟨#[c]⟩) q t' q' r' e → Tk (c :: rem) (Str.ofString "a") tok q t' q' r' e
  | alQuote {rem tok q t' q' r' e} : Tk rem ⟨#[39]⟩ tok q t' q' r' e → Tk (39 :: rem) (Str.ofString "a") tok q t' q' r' e
  | alDq {rem tok q t' q' r' e} : Tk rem ⟨#[34]⟩ tok q t' q' r' e → Tk (34 :: rem) (Str.ofString "a") tok q t' q' r' e
  | alSpace {rem tok q} : tok ≠ Str.ofString "" ∨ q = true → Tk (32 :: rem) (Str.ofString "a") tok q tok q rem false
  | alEnd {tok q} : Tk [] (Str.ofString "a") tok q tok q [] true

structure Cfg where
  rem : List Nat
  st : Str
  tok : Str
  q : Bool
  pos : Int
  tS : Tok
  tT : Tok
  tp : Tok

def RtLoop (P : Prop) : Prop := P
theorem to_rt {P : Prop} (h : RtLoop P) : P := h
theorem fr_pick {h₀ h : Heap} {L : Addr} {m : Str → Option Value} (F : Fr h₀ L h m) {v1 v2 : Value} {x : Str} {te : Tok} (h1 : m (Str.ofString "self") = some v1) (h2 : m (Str.ofString "quoted") = some v2) (h3 : m (Str.ofString "escapedstate") = some (.str x te)) :
    ∃ m₀ te, Fr h₀ L h m₀ ∧ m₀ (Str.ofString "self") = some v1 ∧ m₀ (Str.ofString "quoted") = some v2 ∧ m₀ (Str.ofString "escapedstate") = some (.str x te) := ⟨m, te, F, h1, h2, h3⟩
section
variable {w : World} {p : Program} {loose : List Str} {mean : ExcName → Option Value} {mg mb : Str → Option Value} {dp un : Nat} {gd : Option (List Code)} {env : Env} {outer : List Env} {A₀ : Around} {base h₀ : Heap} {L : Addr} {m : Str → Option Value} {s : Shared} {Q E : Value → Shared → Prop}
    {lex dl sio ds : Addr} {o1 o2 : Obj} {k t : Nat → Tok} {buf : Str} {pos : Int} {tp ty : Tok}
theorem drop_next {l : List Nat} {i : Int} {c : Nat} {rest : List Nat} (h0 : 0 ≤ i) (h : l.drop i.toNat = c :: rest) : l.drop (i + 1).toNat = rest := by
  have e : (i + 1).toNat = i.toNat + 1 := by omega
  rw [e, ← List.drop_drop, h]; rfl
theorem lt_of_rem {x : Str} {i : Int} {l : List Nat} (h0 : 0 ≤ i) (hb : x.length < 1000) (h : x.cps.toList.drop i.toNat = l) : i < 1000000 ∨ l = [] := by
  by_cases q : i < 1000000
  · exact .inl q
  · right
    rw [← h]
    have e : x.length = x.cps.size := rfl
    exact List.drop_eq_nil_of_le (by rw [Array.length_toList]; omega)
theorem mem_swap {α : Type} {a b : List α} : ∀ p ∈ a ++ b, p ∈ b ++ a := fun _ hp => (List.mem_append.mp hp).elim (fun q => List.mem_append_right _ q) (fun q => List.mem_append_left _ q)
theorem read_cons {c : Nat} {rest : List Nat} (hne : (@Ne Nat lex dl) ∧ (@Ne Nat lex sio) ∧ (@Ne Nat lex ds) ∧ (@Ne Nat dl sio) ∧ (@Ne Nat dl ds) ∧ (@Ne Nat sio ds)) (hpos : 0 ≤ pos) (hbl : buf.length < 1000) (hdr : buf.cps.toList.drop pos.toNat = c :: rest)
    (cx : Cx (Mine.KK w.params) p loose mean mg mb A₀ env outer base h₀ L m s.heap) (N : News h₀ L s.heap [(lex, o1), (dl, o2), (sio, instObj 624 ds), (ds, dictOf (sioD w.params k t buf pos tp) 3)])
    (hd : dp + 10 < recursionLimit) (hu : un + 100 < cLine)
    (h : ∀ h' tk' t' tp', Fr h₀ L h' m → News h₀ L h' [(lex, o1), (dl, o2), (sio, instObj 624 ds), (ds, dictOf (sioD w.params k t buf (pos + 1) tp') 3)] → buf.cps.toList.drop (pos + 1).toNat = rest → 0 ≤ pos + 1 → Q (.str ⟨#[c]⟩ t') { s with heap := h', toks := tk' }) :
    wpAny (model pw w) (Ar dp un gd env outer) (call (.ref 570) [.ref sio, .int 1 ty]) Q E s := by
  obtain ⟨n1, n2, n3, n4, n5, n6⟩ := hne
  have hlt : pos < 1000000 := by
    rcases lt_of_rem hpos hbl hdr with q | q
    · exact q
    · cases q
  refine wpAny_call (read_spec (buf := buf) hpos (by omega) hlt n6 cx (news_sub N (fun _ hp => .tail _ (.tail _ hp))) hd hu (fun hl => ?_) fun c' rest' hr h' tk' t' tp' F' N' kb => ?_)
  · exfalso
    have e : buf.length = buf.cps.size := rfl
    rw [List.drop_eq_nil_of_le (by rw [Array.length_toList]; omega)] at hdr
    cases hdr
  · rw [hdr] at hr
    obtain ⟨rfl, rfl⟩ := List.cons.inj hr
    refine h h' tk' t' tp' F' ?_ (drop_next hpos hdr) (by omega)
    have := news_kb (mine := [(sio, instObj 624 ds), (ds, dictOf (sioD w.params k t buf pos tp) 3)]) (rest := [(lex, o1), (dl, o2)]) (news_sub N (mem_swap (a := [(sio, instObj 624 ds), (ds, dictOf (sioD w.params k t buf pos tp) 3)]) (b := [(lex, o1), (dl, o2)]))) kb
      (fun p hp => by simp only [List.mem_cons, List.not_mem_nil, or_false] at hp; rcases hp with rfl | rfl <;> simp [n2, n3, n4, n5]) N'
    exact news_sub this (mem_swap (a := [(lex, o1), (dl, o2)]))
theorem read_nil (hne : (@Ne Nat lex dl) ∧ (@Ne Nat lex sio) ∧ (@Ne Nat lex ds) ∧ (@Ne Nat dl sio) ∧ (@Ne Nat dl ds) ∧ (@Ne Nat sio ds)) (hpos : 0 ≤ pos) (hpl : pos < 1000000) (hbl : buf.length < 1000) (hdr : buf.cps.toList.drop pos.toNat = [])
    (cx : Cx (Mine.KK w.params) p loose mean mg mb A₀ env outer base h₀ L m s.heap) (N : News h₀ L s.heap [(lex, o1), (dl, o2), (sio, instObj 624 ds), (ds, dictOf (sioD w.params k t buf pos tp) 3)])
    (hd : dp + 10 < recursionLimit) (hu : un + 100 < cLine)
    (h : ∀ h' tk' t', Fr h₀ L h' m → News h₀ L h' [(lex, o1), (dl, o2), (sio, instObj 624 ds), (ds, dictOf (sioD w.params k t buf pos tp) 3)] → Q (.str (Str.ofString "") t') { s with heap := h', toks := tk' }) :
    wpAny (model pw w) (Ar dp un gd env outer) (call (.ref 570) [.ref sio, .int 1 ty]) Q E s := by
  obtain ⟨n1, n2, n3, n4, n5, n6⟩ := hne
  refine wpAny_call (read_spec (buf := buf) hpos (by omega) hpl n6 cx (news_sub N (fun _ hp => .tail _ (.tail _ hp))) hd hu (fun hl h' tk' t' F' N' kb => ?_) fun c' rest' hr => ?_)
  · refine h h' tk' t' F' ?_
    have := news_kb (mine := [(sio, instObj 624 ds), (ds, dictOf (sioD w.params k t buf pos tp) 3)]) (rest := [(lex, o1), (dl, o2)]) (news_sub N (mem_swap (a := [(sio, instObj 624 ds), (ds, dictOf (sioD w.params k t buf pos tp) 3)]) (b := [(lex, o1), (dl, o2)]))) kb
      (fun p hp => by simp only [List.mem_cons, List.not_mem_nil, or_false] at hp; rcases hp with rfl | rfl <;> simp [n2, n3, n4, n5]) N'
    exact news_sub this (mem_swap (a := [(lex, o1), (dl, o2)]))
  · rw [hdr] at hr; cases hr
end
end Mine
namespace Mine
theorem clear2 : True := by first | (walk1; fail) | exact trivial
local macro_rules | `(tactic| k_room) => `(tactic| (refine Nat.lt_of_le_of_lt ?_ (show (_ : Nat) + 20 < recursionLimit by assumption); (try simp only [depth_under_make, depth_under_kw, depth_in1, depth_deeper, depth_caller]); (try dsimp only [Ar]); omega))
local macro_rules | `(tactic| walk_at "my units") => `(tactic| (refine Nat.lt_of_le_of_lt ?_ (show (_ : Nat) + 200 < cLine by assumption); (try simp only [units_in1, units_deeper, Around.mark_units, units_caller]); (try dsimp only [Ar]); omega))
local macro_rules | `(tactic| walk_at "ite") => `(tactic| (k_closed; k_dflt (first | refine ite_pos (by decide +kernel) ?_ | refine ite_neg (by decide +kernel) ?_)))
local macro_rules | `(tactic| walk_at "my kb") => `(tactic| (rename KB _ _ _ => kb9; intro b9 o9 e9 n9; exact Fr.keep (by assumption) b9 o9 (kb9 b9 o9 e9 n9)))
local macro_rules | `(tactic| walk_at "my same") => `(tactic| (intro z h2 h3; simp only [List.forall_mem_cons, List.not_mem_nil, false_implies, implies_true, and_true, ne_eq] at h2; simp only [List.contains_cons, List.contains_nil, Bool.or_false, beq_eq_false_iff_ne, ne_eq] at h3; obtain ⟨n1, n2, n3⟩ := h2; simp [kstB, n1, n2, n3, h3]))
local macro_rules | `(tactic| walk_at "call ref") => `(tactic| (k_here; (with_reducible show wpAny _ _ (call (Value.ref 570) [Value.ref _, Value.int _ _]) _ _ _); k_dflt (first
  | (refine' read_cons ?hne ?h0 ?hb ?hdr ?cx ?N ?hd ?hu ?_; (case hne => assumption); (case h0 => assumption); (case hb => assumption); (case hdr => assumption); (case cx => exact ⟨by k_asm, by k_asm, by k_asm, by k_asm, rfl, rfl⟩); (case N => k_asm); (case hd => k_room); (case hu => walk_at "my units"); k_whole; intro h9 tk9 t9 tp9 F9 N9 dr9 p9; (try dsimp only); (try k_fold))
  | (refine' read_nil ?hne ?h0 ?hl ?hb ?hdr ?cx ?N ?hd ?hu ?_; (case N => k_asm); (case hne => assumption); (case h0 => assumption); (case hl => omega); (case hb => assumption); (case hdr => assumption); (case cx => exact ⟨by k_asm, by k_asm, by k_asm, by k_asm, rfl, rfl⟩); (case hd => k_room); (case hu => walk_at "my units"); k_whole; intro h9 tk9 t9 F9 N9; (try dsimp only); (try k_fold)))))
set_option maxHeartbeats 16000000 in
theorem rn_spec {w : World} {p : Program} {loose : List Str} {mean : ExcName → Option Value} {mg mb : Str → Option Value} {dp un : Nat} {gd : Option (List Code)} {env : Env} {outer : List Env} {A₀ : Around} {base h₀ : Heap} {L : Addr} {m : Str → Option Value} {s : Shared} {R : Result → Shared → Prop}
    {lex dl sio ds dq1 dq2 : Addr} {k t : Nat → Tok} {buf : Str} {pos : Int} {tT tp : Tok} (hpos : 0 ≤ pos) (hpl : pos ≤ (buf.length : Int)) (hbl : buf.length < 1000) (hdr : buf.cps.toList.drop pos.toNat = [])
    (hne : (@Ne Nat lex dl) ∧ (@Ne Nat lex sio) ∧ (@Ne Nat lex ds) ∧ (@Ne Nat dl sio) ∧ (@Ne Nat dl ds) ∧ (@Ne Nat sio ds)) (cx : Cx (Mine.KK w.params) p loose mean mg mb A₀ env outer base h₀ L m s.heap)
    (N : News h₀ L s.heap [(lex, instObj 759 dl), (dl, dictOf (lexD w.params k t sio dq1 dq2 .none (Str.ofString "") tT) 19), (sio, instObj 624 ds), (ds, dictOf (sioD w.params k t buf pos tp) 3)])
    (hd : dp + 20 < recursionLimit) (hu : un + 200 < cLine)
    (hret : ∀ h' tk' tT', Fr h₀ L h' m → News h₀ L h' [(lex, instObj 759 dl), (dl, dictOf (lexD w.params k t sio dq1 dq2 .none (Str.ofString "") tT') 19), (sio, instObj 624 ds), (ds, dictOf (sioD w.params k t buf pos tp) 3)] → KB s.heap h' [(lex, instObj 759 dl), (dl, dictOf (lexD w.params k t sio dq1 dq2 .none (Str.ofString "") tT) 19), (sio, instObj 624 ds), (ds, dictOf (sioD w.params k t buf pos tp) 3)] → R (.ok (.ret .none)) { s with heap := h', toks := tk' }) :
    codeAny (model pw w) (Ar dp un gd env outer) (.call (.ref 727) ⟨[.ref lex], []⟩) R s := by
  obtain ⟨B, F, X, T, hf, hke⟩ := cx
  k_dflt (refine' code_kb ?k1 ?k2 ?k3 ?k4 ?k5 ?kA ?kF ?kK ?k6 ?k7 ?k8 ?k9 ?kB ?_ ?c2 ?c3 ?c4 ?c5; (case kA => exact rfl); (case kF => assumption); (case kK => assumption); (case k1 => k_asm); (case k2 => k_asm); (case k3 => k_asm); (case k4 => k_asm); (case k5 => k_asm); (case k6 => k_is); (case k7 => k_is); (case k8 => exact Nat.lt_of_le_of_lt (Nat.le_add_right _ _) hd); (case k9 => first | exact BindsTo.of_eq rfl | exact binds_K (by k_in) rfl (by k_is) rfl rfl rfl); (case c5 => decide); (case kB => exact locs rfl); (case c2 => exact rfl); (case c3 => exact rfl); (case c4 => exact rfl); k_whole; intro g L1 h1 FG F1 N1 B1 X1 T1 KG; (try dsimp only); (try k_lift B1); (try k_fold))
  k_steps
  all_goals (rename News h₀ L _ _ => N9; rename Fr h₀ L _ _ => F9; exact hret _ _ _ F9 N9 (by walk_at "my kb"))
theorem pos_lt {x : Str} {i : Int} {c : Nat} {l : List Nat} (h0 : 0 ≤ i) (h : x.cps.toList.drop i.toNat = c :: l) : i + 1 ≤ (x.length : Int) := by
  have := congrArg List.length h
  have e : x.length = x.cps.size := rfl
  simp at this
  omega
theorem len_one (c : Nat) : (⟨#[c]⟩ : Str).length = 1 := rfl
theorem str_nil {x : Str} (h : (x.length : Int) = 0) : x = Str.ofString "" := by
  obtain ⟨⟨l⟩⟩ := x
  have : l.length = 0 := by
    have e : (Str.mk ⟨l⟩).length = l.length := rfl
    omega
  rw [List.eq_nil_of_length_eq_zero this]
  decide +kernel
theorem rt_abs {M : Model} {A : Around} {T : Sem Bool} {C : Sem Flow} {Q1 Q2 : Flow → Shared → Prop} {E : Value → Shared → Prop} {s : Shared} (h : ∀ Q3 Q4 : Flow → Shared → Prop, (∀ f s', Q1 f s' → Q3 f s') → wpAny M A T (fun b s₂ => if b = true then wpAny M A C Q3 E s₂ else Q4 Flow.next s₂) E s) : wpAny M A T (fun b s₂ => if b = true then wpAny M A C Q1 E s₂ else Q2 Flow.next s₂) E s := h Q1 Q2 fun _ _ x => x
theorem tk_nl {c : Nat} {rem : List Nat} {st tok : Str} {q : Bool} {t' : Str} {q' : Bool} {r' : List Nat} {e' : Bool} (h : Tk (c :: rem) st tok q t' q' r' e') : ¬ (({ cps := #[c] } : Str) == Str.ofString "\n") = true := by
  have n : c ≠ 10 := by cases h <;> omega
  intro e
  have e := beq_iff_eq.mp e
  rw [show Str.ofString "\n" = ⟨#[10]⟩ by decide +kernel] at e
  injection e with e
  injection e with e
  injection e with e
  exact n e
/-- behind the loop -/
def RtDone (P : Params) (k t : Nat → Tok) (lex dl sio ds dq1 dq2 : Addr) (buf : Str) (g : Heap) (L1 : Addr) (m₀ : Str → Option Value) (te : Tok) (s : Shared) (t' : Str) (q' : Bool) (r' : List Nat) (e' : Bool) (fl : Flow) (s' : Shared) : Prop :=
  fl = .next ∧ ∃ (pos2 : Int) (stv : Value) (tT tp : Tok) (h2 : Heap) (tk2 : Nat) (u : Str → Option Value), s' = { s with heap := h2, toks := tk2 } ∧ (if e' = true then stv = .none else ∃ tS, stv = .str (Str.ofString " ") tS) ∧ buf.cps.toList.drop pos2.toNat = r' ∧ 0 ≤ pos2 ∧ pos2 ≤ (buf.length : Int) ∧ Fr g L1 h2 (kstB (fun z => if [Str.ofString "nextchar"].contains z then u z else m₀ z) [(Str.ofString "quoted", .bool q'), (Str.ofString "self", .ref lex), (Str.ofString "escapedstate", .str (Str.ofString " ") te)]) ∧
    News g L1 h2 [(lex, instObj 759 dl), (dl, dictOf (lexD P k t sio dq1 dq2 stv t' tT) 19), (sio, instObj 624 ds), (ds, dictOf (sioD P k t buf pos2 tp) 3)]
inductive RtMark : Prop where
  | mk : RtMark
theorem rt_mark : RtMark := .mk
local macro_rules | `(tactic| walk_at "exec While") => `(tactic| (refine to_rt ?_))
local macro_rules | `(tactic| walk_at "exec If") => `(tactic| (have m9 : RtMark := (by assumption); clear m9; (with_reducible show wpAny _ _ (exec (Stmt.If _ _ _ ⟨600, _, _, _⟩) _) _ _ _); refine to_rt ?_))
set_option maxHeartbeats 16000000 in
theorem rt_spec {w : World} {p : Program} {loose : List Str} {mean : ExcName → Option Value} {mg mb : Str → Option Value} {dp un : Nat} {gd : Option (List Code)} {env : Env} {outer : List Env} {A₀ : Around} {base h₀ : Heap} {L : Addr} {m : Str → Option Value} {s : Shared} {R : Result → Shared → Prop}
    {lex dl sio ds dq1 dq2 : Addr} {k t : Nat → Tok} {buf : Str} (c₀ : Cfg) {t' : Str} {q' : Bool} {r' : List Nat} {e' : Bool} (hq : c₀.q = false) (hpos : 0 ≤ c₀.pos) (hpl : c₀.pos ≤ (buf.length : Int)) (hbl : buf.length < 1000) (hrem : buf.cps.toList.drop c₀.pos.toNat = c₀.rem) (hsz : c₀.tok.length + c₀.rem.length < 1000) (hT : Tk c₀.rem c₀.st c₀.tok c₀.q t' q' r' e')
    (hne : (@Ne Nat lex dl) ∧ (@Ne Nat lex sio) ∧ (@Ne Nat lex ds) ∧ (@Ne Nat dl sio) ∧ (@Ne Nat dl ds) ∧ (@Ne Nat sio ds)) (cx : Cx (Mine.KK w.params) p loose mean mg mb A₀ env outer base h₀ L m s.heap)
    (N : News h₀ L s.heap [(lex, instObj 759 dl), (dl, dictOf (lexD w.params k t sio dq1 dq2 (.str c₀.st c₀.tS) c₀.tok c₀.tT) 19), (sio, instObj 624 ds), (ds, dictOf (sioD w.params k t buf c₀.pos c₀.tp) 3)])
    (hd : dp + 20 < recursionLimit) (hu : un + 200 < cLine)
    (hret : ∀ h' tk' v tv pos2 stv tp', Fr h₀ L h' m → News h₀ L h' [(lex, instObj 759 dl), (dl, dictOf (lexD w.params k t sio dq1 dq2 stv (Str.ofString "") tv) 19), (sio, instObj 624 ds), (ds, dictOf (sioD w.params k t buf pos2 tp') 3)] → KB s.heap h' [(lex, instObj 759 dl), (dl, dictOf (lexD w.params k t sio dq1 dq2 (.str c₀.st c₀.tS) c₀.tok c₀.tT) 19), (sio, instObj 624 ds), (ds, dictOf (sioD w.params k t buf c₀.pos c₀.tp) 3)] →
      (if e' = true then stv = .none else ∃ tS, stv = .str (Str.ofString " ") tS) → buf.cps.toList.drop pos2.toNat = r' → 0 ≤ pos2 → pos2 ≤ (buf.length : Int) → ((q' = false ∧ t' = Str.ofString "" ∧ v = .none) ∨ ((q' = true ∨ t' ≠ Str.ofString "") ∧ ∃ tt, v = .str t' tt)) → R (.ok (.ret v)) { s with heap := h', toks := tk' }) :
    codeAny (model pw w) (Ar dp un gd env outer) (.call (.ref 727) ⟨[.ref lex], []⟩) R s := by
  obtain ⟨B, F, X, T, hf, hke⟩ := cx
  k_dflt (refine' code_kb ?k1 ?k2 ?k3 ?k4 ?k5 ?kA ?kF ?kK ?k6 ?k7 ?k8 ?k9 ?kB ?_ ?c2 ?c3 ?c4 ?c5; (case kA => exact rfl); (case kF => assumption); (case kK => assumption); (case k1 => k_asm); (case k2 => k_asm); (case k3 => k_asm); (case k4 => k_asm); (case k5 => k_asm); (case k6 => k_is); (case k7 => k_is); (case k8 => exact Nat.lt_of_le_of_lt (Nat.le_add_right _ _) hd); (case k9 => first | exact BindsTo.of_eq rfl | exact binds_K (by k_in) rfl (by k_is) rfl rfl rfl); (case c5 => decide); (case kB => exact locs rfl); (case c2 => exact rfl); (case c3 => exact rfl); (case c4 => exact rfl); k_whole; intro g L1 h1 FG F1 N1 B1 X1 T1 KG; (try dsimp only); (try k_lift B1); (try k_fold))
  k_steps
  obtain ⟨m₀, te, F₀, e1, e2, e3⟩ := fr_pick (by assumption) rfl rfl rfl
  refine wpAny_mono (Q := RtDone w.params k t lex dl sio ds dq1 dq2 buf g L1 m₀ te s t' q' r' e') (E := fun _ _ => False) ?loop ?tail (fun _ _ h => h.elim)
  case loop =>
    refine ksw_while (σ := Cfg) (fun c => [(lex, instObj 759 dl), (dl, dictOf (lexD w.params k t sio dq1 dq2 (.str c.st c.tS) c.tok c.tT) 19), (sio, instObj 624 ds), (ds, dictOf (sioD w.params k t buf c.pos c.tp) 3)])
      (fun c => [(Str.ofString "quoted", .bool c.q), (Str.ofString "self", .ref lex), (Str.ofString "escapedstate", .str (Str.ofString " ") te)]) (fun _ => True) [Str.ofString "nextchar"]
      (fun c => 0 ≤ c.pos ∧ c.pos ≤ (buf.length : Int) ∧ buf.cps.toList.drop c.pos.toNat = c.rem ∧ c.tok.length + c.rem.length < 1000 ∧ Tk c.rem c.st c.tok c.q t' q' r' e') (fun c => c.rem.length) c₀ F₀ (by assumption) trivial (by rw [hq]; simp only [List.forall_mem_cons, List.not_mem_nil, false_implies, implies_true, and_true]; exact ⟨e2, e1, e3⟩) ⟨hpos, hpl, hrem, hsz, hT⟩ ?_ (fun _ _ h => h.elim)
    intro c u h2 tk2 _ hP F2 N2
    clear F₀ e1 e2 e3 hq hpos hpl hrem hsz hT hret
    obtain ⟨rem, st, tok, q, pos, tS, tT, tp⟩ := c
    dsimp only at hP F2 N2 ⊢
    (try k_sweep)
    obtain ⟨hpos, hpl, hdr, hsz, hT⟩ := hP
    refine rt_abs fun Q9 Q8 hQ9 => ?_
    have mark := rt_mark
    cases rem with
    | nil =>
      k_steps
      all_goals first | (exfalso; omega) | skip
      clear mark
      unfold RtLoop
      cases hT
      case end0 =>
        k_steps
        (rename News g L1 _ _ => N9; rename Fr g L1 _ _ => F9; refine hQ9 _ _ ?_; exact ⟨rfl, _, _, _, _, _, _, _, rfl, rfl, by assumption, by assumption, by omega, ksw_fr (by kst_all) (by walk_at "my same") F9, news_sub N9 (fun _ h => h)⟩)
      case alEnd =>
        k_steps
        (rename News g L1 _ _ => N9; rename Fr g L1 _ _ => F9; refine hQ9 _ _ ?_; exact ⟨rfl, _, _, _, _, _, _, _, rfl, rfl, by assumption, by assumption, by omega, ksw_fr (by kst_all) (by walk_at "my same") F9, news_sub N9 (fun _ h => .tail _ h)⟩)
    | cons c rem =>
      have hlt := pos_lt hpos hdr
      have hsz' := hsz; simp only [List.length_cons] at hsz'
      have q9 := tk_nl hT
      k_steps
      all_goals first | (exfalso; omega) | skip
      clear mark q9
      unfold RtLoop
      cases hT
      case letter0 =>
        have hc : c = 97 ∨ c = 98 ∨ c = 90 := by assumption
        have q0 : ¬ (({ cps := #[c] } : Str) == Str.ofString "\n") = true := by (rcases hc with rfl | rfl | rfl); (iterate 3 decide +kernel)
        have q1 : ((({ cps := #[c] } : Str).length : Nat) : Int) ≠ 0 := by (rcases hc with rfl | rfl | rfl); (iterate 3 decide +kernel)
        have q2 : (Builtin.Str.occurrences (Str.ofString " \t\r\n") ({ cps := #[c] } : Str) 0 (Str.ofString " \t\r\n").length 1).isEmpty = true := by (rcases hc with rfl | rfl | rfl); (iterate 3 decide +kernel)
        have q3 : (Builtin.Str.occurrences (Str.ofString "") ({ cps := #[c] } : Str) 0 (Str.ofString "").length 1).isEmpty = true := by (rcases hc with rfl | rfl | rfl); (iterate 3 decide +kernel)
        have q4 : (Builtin.Str.occurrences (Str.ofString "\\") ({ cps := #[c] } : Str) 0 (Str.ofString "\\").length 1).isEmpty = true := by (rcases hc with rfl | rfl | rfl); (iterate 3 decide +kernel)
        have q5 : (Builtin.Str.occurrences (Str.ofString "abcdfeghijklmnopqrstuvwxyzABCDEFGHIJKLMNOPQRSTUVWXYZ0123456789_ßàáâãäåæçèéêëìíîïðñòóôõöøùúûüýþÿÀÁÂÃÄÅÆÇÈÉÊËÌÍÎÏÐÑÒÓÔÕÖØÙÚÛÜÝÞ") ({ cps := #[c] } : Str) 0 (Str.ofString "abcdfeghijklmnopqrstuvwxyzABCDEFGHIJKLMNOPQRSTUVWXYZ0123456789_ßàáâãäåæçèéêëìíîïðñòóôõöøùúûüýþÿÀÁÂÃÄÅÆÇÈÉÊËÌÍÎÏÐÑÒÓÔÕÖØÙÚÛÜÝÞ").length 1).isEmpty = false := by (rcases hc with rfl | rfl | rfl); (iterate 3 decide +kernel)
        k_steps
        all_goals first | (exfalso; omega) | skip
        (rename News g L1 _ _ => N9; rename Fr g L1 _ _ => F9; refine hQ9 _ _ ?_; dsimp only [KswPost]; exact ksw_end ⟨rem, Str.ofString "a", ⟨#[c]⟩, q, pos + 1, _, _, _⟩ F9 N9 (fun _ h => h) trivial (by kst_all) (by walk_at "my same") ⟨by assumption, by omega, by assumption, by dsimp only; rw [len_one]; omega, by assumption⟩ (by simp))
      case quote0 =>
        k_steps
        all_goals first | (exfalso; omega) | skip
        (rename News g L1 _ _ => N9; rename Fr g L1 _ _ => F9; refine hQ9 _ _ ?_; dsimp only [KswPost]; exact ksw_end ⟨rem, ⟨#[39]⟩, tok, q, pos + 1, _, _, _⟩ F9 N9 (fun _ h => h) trivial (by kst_all) (by walk_at "my same") ⟨by assumption, by omega, by assumption, by dsimp only; omega, by assumption⟩ (by simp))
      case sqEnd =>
        k_steps
        all_goals first | (exfalso; omega) | skip
        (rename News g L1 _ _ => N9; rename Fr g L1 _ _ => F9; refine hQ9 _ _ ?_; dsimp only [KswPost]; exact ksw_end ⟨rem, Str.ofString "a", tok, true, pos + 1, _, _, _⟩ F9 N9 (fun _ h => h) trivial (by kst_all) (by walk_at "my same") ⟨by assumption, by omega, by assumption, by dsimp only; omega, by assumption⟩ (by simp))
      case sqChar =>
        have hc : c = 97 ∨ c = 98 ∨ c = 90 ∨ c = 34 ∨ c = 32 ∨ c = 35 := by assumption
        have q0 : ¬ (({ cps := #[c] } : Str) == Str.ofString "\n") = true := by (rcases hc with rfl | rfl | rfl | rfl | rfl | rfl); (iterate 6 decide +kernel)
        have q1 : ¬ (({ cps := #[c] } : Str) == ({ cps := #[39] } : Str)) = true := by (rcases hc with rfl | rfl | rfl | rfl | rfl | rfl); (iterate 6 decide +kernel)
        have q2 : (Builtin.Str.occurrences (Str.ofString "\\") ({ cps := #[c] } : Str) 0 (Str.ofString "\\").length 1).isEmpty = true := by (rcases hc with rfl | rfl | rfl | rfl | rfl | rfl); (iterate 6 decide +kernel)
        k_steps
        all_goals first | (exfalso; omega) | skip
        (rename News g L1 _ _ => N9; rename Fr g L1 _ _ => F9; refine hQ9 _ _ ?_; dsimp only [KswPost]; exact ksw_end ⟨rem, ⟨#[39]⟩, tok ++ ⟨#[c]⟩, true, pos + 1, _, _, _⟩ F9 N9 (fun _ h => h) trivial (by kst_all) (by walk_at "my same") ⟨by assumption, by omega, by assumption, by dsimp only; rw [Str.length_append, len_one]; omega, by assumption⟩ (by simp))
      case dqApo =>
        k_steps
        all_goals first | (exfalso; omega) | skip
        (rename News g L1 _ _ => N9; rename Fr g L1 _ _ => F9; refine hQ9 _ _ ?_; dsimp only [KswPost]; exact ksw_end ⟨rem, ⟨#[34]⟩, tok ++ ⟨#[39]⟩, true, pos + 1, _, _, _⟩ F9 N9 (fun _ h => h) trivial (by kst_all) (by walk_at "my same") ⟨by assumption, by omega, by assumption, by dsimp only; rw [Str.length_append, len_one]; omega, by assumption⟩ (by simp))
      case dqEnd =>
        k_steps
        all_goals first | (exfalso; omega) | skip
        (rename News g L1 _ _ => N9; rename Fr g L1 _ _ => F9; refine hQ9 _ _ ?_; dsimp only [KswPost]; exact ksw_end ⟨rem, Str.ofString "a", tok, true, pos + 1, _, _, _⟩ F9 N9 (fun _ h => h) trivial (by kst_all) (by walk_at "my same") ⟨by assumption, by omega, by assumption, by dsimp only; omega, by assumption⟩ (by simp))
      case alLetter =>
        have hc : c = 97 ∨ c = 98 ∨ c = 90 := by assumption
        have q0 : ¬ (({ cps := #[c] } : Str) == Str.ofString "\n") = true := by (rcases hc with rfl | rfl | rfl); (iterate 3 decide +kernel)
        have q1 : ((({ cps := #[c] } : Str).length : Nat) : Int) ≠ 0 := by (rcases hc with rfl | rfl | rfl); (iterate 3 decide +kernel)
        have q2 : (Builtin.Str.occurrences (Str.ofString " \t\r\n") ({ cps := #[c] } : Str) 0 (Str.ofString " \t\r\n").length 1).isEmpty = true := by (rcases hc with rfl | rfl | rfl); (iterate 3 decide +kernel)
        have q3 : (Builtin.Str.occurrences (Str.ofString "") ({ cps := #[c] } : Str) 0 (Str.ofString "").length 1).isEmpty = true := by (rcases hc with rfl | rfl | rfl); (iterate 3 decide +kernel)
        have q4 : (Builtin.Str.occurrences (Str.ofString "'\"") ({ cps := #[c] } : Str) 0 (Str.ofString "'\"").length 1).isEmpty = true := by (rcases hc with rfl | rfl | rfl); (iterate 3 decide +kernel)
        have q5 : (Builtin.Str.occurrences (Str.ofString "\\") ({ cps := #[c] } : Str) 0 (Str.ofString "\\").length 1).isEmpty = true := by (rcases hc with rfl | rfl | rfl); (iterate 3 decide +kernel)
        have q6 : (Builtin.Str.occurrences (Str.ofString "abcdfeghijklmnopqrstuvwxyzABCDEFGHIJKLMNOPQRSTUVWXYZ0123456789_ßàáâãäåæçèéêëìíîïðñòóôõöøùúûüýþÿÀÁÂÃÄÅÆÇÈÉÊËÌÍÎÏÐÑÒÓÔÕÖØÙÚÛÜÝÞ") ({ cps := #[c] } : Str) 0 (Str.ofString "abcdfeghijklmnopqrstuvwxyzABCDEFGHIJKLMNOPQRSTUVWXYZ0123456789_ßàáâãäåæçèéêëìíîïðñòóôõöøùúûüýþÿÀÁÂÃÄÅÆÇÈÉÊËÌÍÎÏÐÑÒÓÔÕÖØÙÚÛÜÝÞ").length 1).isEmpty = false := by (rcases hc with rfl | rfl | rfl); (iterate 3 decide +kernel)
        k_steps
        all_goals first | (exfalso; omega) | skip
        (rename News g L1 _ _ => N9; rename Fr g L1 _ _ => F9; refine hQ9 _ _ ?_; dsimp only [KswPost]; exact ksw_end ⟨rem, Str.ofString "a", tok ++ ⟨#[c]⟩, q, pos + 1, _, _, _⟩ F9 N9 (fun _ h => .tail _ h) trivial (by kst_all) (by walk_at "my same") ⟨by assumption, by omega, by assumption, by dsimp only; rw [Str.length_append, len_one]; omega, by assumption⟩ (by simp))
      case alQuote =>
        k_steps
        all_goals first | (exfalso; omega) | skip
        (rename News g L1 _ _ => N9; rename Fr g L1 _ _ => F9; refine hQ9 _ _ ?_; dsimp only [KswPost]; exact ksw_end ⟨rem, ⟨#[39]⟩, tok, q, pos + 1, _, _, _⟩ F9 N9 (fun _ h => .tail _ h) trivial (by kst_all) (by walk_at "my same") ⟨by assumption, by omega, by assumption, by dsimp only; omega, by assumption⟩ (by simp))
      case alDq =>
        k_steps
        all_goals first | (exfalso; omega) | skip
        (rename News g L1 _ _ => N9; rename Fr g L1 _ _ => F9; refine hQ9 _ _ ?_; dsimp only [KswPost]; exact ksw_end ⟨rem, ⟨#[34]⟩, tok, q, pos + 1, _, _, _⟩ F9 N9 (fun _ h => .tail _ h) trivial (by kst_all) (by walk_at "my same") ⟨by assumption, by omega, by assumption, by dsimp only; omega, by assumption⟩ (by simp))
      case alSpace =>
        rename _ ≠ Str.ofString "" ∨ _ = true => hc
        k_steps
        · (rename News g L1 _ _ => N9; rename Fr g L1 _ _ => F9; refine hQ9 _ _ ?_; exact ⟨rfl, _, _, _, _, _, _, _, rfl, ⟨_, rfl⟩, by assumption, by assumption, by omega, ksw_fr (by kst_all) (by walk_at "my same") F9, news_sub N9 (fun _ h => .tail _ h)⟩)
        · (rename News g L1 _ _ => N9; rename Fr g L1 _ _ => F9; refine hQ9 _ _ ?_; exact ⟨rfl, _, _, _, _, _, _, _, rfl, ⟨_, rfl⟩, by assumption, by assumption, by omega, ksw_fr (by kst_all) (by walk_at "my same") F9, news_sub N9 (fun _ h => .tail _ h)⟩)
        · exfalso
          rcases hc with hc | hc
          · exact hc (str_nil (by assumption))
          · subst hc; simp_all
  case tail =>
    clear F₀ e1 e2 e3 hq hpos hpl hrem hsz hT
    rintro fl s2 ⟨rfl, pos2, stv, tT, tp, h2, tk2, u, rfl, hstv, hdr2, hp0, hpl2, F2, N2⟩
    (try k_sweep)
    (try dsimp only)
    k_steps
    · (rename News h₀ L _ _ => N9; rename Fr h₀ L _ _ => F9; exact hret _ _ _ _ _ _ _ F9 N9 (by walk_at "my kb") hstv hdr2 hp0 hpl2 (.inr ⟨.inl (by assumption), _, rfl⟩))
    · (rename News h₀ L _ _ => N9; rename Fr h₀ L _ _ => F9; exact hret _ _ _ _ _ _ _ F9 N9 (by walk_at "my kb") hstv hdr2 hp0 hpl2 (.inl ⟨by assumption, beq_iff_eq.mp (by assumption), rfl⟩))
    · (rename News h₀ L _ _ => N9; rename Fr h₀ L _ _ => F9; exact hret _ _ _ _ _ _ _ F9 N9 (by walk_at "my kb") hstv hdr2 hp0 hpl2 (.inr ⟨.inr (beq_eq_false_iff_ne.mp (by assumption)), _, rfl⟩))
end Mine
namespace Mine
/-- an empty deque -/
abbrev dqObj : Obj := { cls := .type "collections.deque", data := .fields #[.none, rawInt 0] }
theorem noBool_dq : typeLookup (.type "collections.deque") "__bool__" = pure none := by rw [typeLookup_type, builtinLookup_eq_fast]; kernel_rfl
theorem slot_dq_len : Slot "collections.deque" "__len__" "collections.deque.__len__" :=
  .of (owner := "collections.deque") (n := "__len__") (by rw [typeLookup_type, builtinLookup_eq_fast]; kernel_rfl) (by decide +kernel) (by decide +kernel) (by decide +kernel)
    (by first | exact .inl (by decide +kernel) | exact .inr (by decide +kernel)) (by rw [isSubtype_type]; kernel_rfl)
theorem entry_dq_len : entryFor table "collections.deque.__len__" = some Builtin.«collections.deque.__len__» := entryFor_of_fast (by kernel_rfl)
theorem args_dq_len (a : Value) : argsOk "collections.deque.__len__" ⟨[a], []⟩ := by unfold argsOk; kernel_rfl
section
variable {prog : Program} {w : World} {A : Around} {E : Value → Shared → Prop} {s : Shared}
theorem len_body_dq {l : Addr} {Q : Value → Shared → Prop} (hl : s.heap.get? l = some dqObj)
    (h : Q (.int 0 (s.toks + 1)) { s with toks := s.toks + 1 + 1 }) : wpAny (model prog w) A (Builtin.«len» ⟨[.ref l], []⟩) (fun fin s' => ∃ r, fin = .done (.ret r) ∧ Q r s') E s := by
  have hT : s.TypeIs (.ref l) "collections.deque" := ⟨_, hl, rfl⟩
  unfold Builtin.«len»
  refine wpAny_bind (m := oneArg "len" _) (wpAny_pure ?_)
  refine wpAny_bind (m := callSpecial? (.ref l) (Str.ofString "__len__")) (wpAny_callSpecial?_slot (name := Str.ofString "__len__") hT slot_dq_len
    (wpAny_call_entry slot_dq_len hT entry_dq_len ?_ (args_dq_len _)))
  · show wpAny _ _ (do retInt (← Builtin.Deque.size (.ref l))) _ _ s
    unfold Builtin.Deque.size fieldsOf
    refine wpAny_bind (wpAny_bind (wpAny_bind (wpAny_load hl ?_)))
    refine wpAny_pure (wpAny_pure (wpAny_bind (wpAny_mkInt (wpAny_pure ⟨_, rfl, ?_⟩))))
    refine wpAny_bind (wpAny_holding (wpAny_pure ?_))
    refine wpAny_bind (wpAny_letGo ?_)
    exact wpAny_bind (wpAny_mkInt (wpAny_pure ⟨_, rfl, h⟩))
theorem truthy_dq {l : Addr} {Q : Bool → Shared → Prop} (hl : s.heap.get? l = some dqObj)
    (h : Q false { s with toks := s.toks + 1 + 1 }) : wpAny (model prog w) A (truthy (.ref l)) Q E s := by
  have hT : s.TypeIs (.ref l) "collections.deque" := ⟨_, hl, rfl⟩
  have key : wpAny (model prog w) A (runValue (.builtin "len" ⟨[.ref l], []⟩)) (fun r s' => r = .int 0 (s.toks + 1) ∧ Q false s') E s := by
    refine wpAny_runValue (codeAny_builtin entry_len ?_)
    rw [Around.under_plainId plain_len _]
    exact wpAny_mono (len_body_dq (Q := fun r s' => r = .int 0 (s.toks + 1) ∧ Q false s') hl ⟨rfl, h⟩)
      (fun fin s' h' => by obtain ⟨r, rfl, hq⟩ := h'; exact hq) fun _ _ e => e
  unfold truthy
  first
    | refine wpAny_bind (wpAny_callSpecial?_none (name := Str.ofString "__bool__") hT noBool_dq ?_)
    | refine wpAny_bind (wpAny_pure (wpAny_bind (wpAny_callSpecial?_none (name := Str.ofString "__bool__") hT noBool_dq ?_)))
  first
    | refine wpAny_bind (wpAny_specialOf (name := Str.ofString "__len__") hT slot_dq_len.lookup ?_)
    | refine wpAny_bind (wpAny_pure (wpAny_bind (wpAny_specialOf (name := Str.ofString "__len__") hT slot_dq_len.lookup ?_)))
  first
    | exact wpAny_bind (wpAny_mono key (fun r s' h' => by obtain ⟨rfl, hq⟩ := h'; exact wpAny_pure hq) fun _ _ e => e)
    | exact wpAny_bind (wpAny_pure (wpAny_bind (wpAny_mono key (fun r s' h' => by obtain ⟨rfl, hq⟩ := h'; exact wpAny_pure hq) fun _ _ e => e)))
end
theorem mro_dq : mroOf (.type "collections.deque") = pure [.type "collections.deque", .type "object"] := by rw [mroOf_type]; kernel_rfl
theorem lookup_dq_new : typeLookup (.type "collections.deque") "__new__" = pure (some (.builtin "collections.deque.__new__")) := by rw [typeLookup_type, builtinLookup_eq_fast]; kernel_rfl
theorem slot_dq_init : Slot "collections.deque" "__init__" "collections.deque.__init__" :=
  .of (owner := "collections.deque") (n := "__init__") (by rw [typeLookup_type, builtinLookup_eq_fast]; kernel_rfl) (by decide +kernel) (by decide +kernel) (by decide +kernel)
    (by first | exact .inl (by decide +kernel) | exact .inr (by decide +kernel)) (by rw [isSubtype_type]; kernel_rfl)
theorem sub_dq : isSubtype (.type "collections.deque") (.type "collections.deque") = pure true := by rw [isSubtype_type]; kernel_rfl
theorem called_dq : TypeCalled "collections.deque" "collections.deque.__new__" "collections.deque.__init__" :=
  ⟨by decide +kernel, by decide +kernel, ⟨_, _, mro_dq⟩, madeBy_type mro_dq lookup_dq_new (by decide +kernel), by decide +kernel, sub_dq, slot_dq_init⟩
theorem typeCall_dq : checkTypeCall "collections.deque" ⟨[], []⟩ = pure () := by kernel_rfl
theorem newCall_dq : checkBuiltinCall "collections.deque.__new__" ⟨[.type "collections.deque"], []⟩ = pure () := by kernel_rfl
theorem entry_dq_new : entryFor table "collections.deque.__new__" = some Builtin.«collections.deque.__new__» := entryFor_of_tree (by kernel_rfl)
theorem entry_dq_init : entryFor table "collections.deque.__init__" = some Builtin.«collections.deque.__init__» := entryFor_of_tree (by kernel_rfl)
theorem args_dq_init (a : Value) : argsOk "collections.deque.__init__" ⟨[a], []⟩ := by unfold argsOk; kernel_rfl
theorem dq_new_meets : Meets (Builtin.«collections.deque.__new__» ⟨[.type "collections.deque"], []⟩) (fun _ R s => R (.ok (.ret (.ref s.heap.objs.size))) { s with heap := s.heap.push dqObj }) := by
  refine Meets.of_wp fun prog w A R s hs => ?_
  obtain ⟨hp, g, d, tk, os⟩ := s
  unfold Builtin.«collections.deque.__new__» Builtin.Deque.newArgs Builtin.Deque.new
  wp_walk
  refine wpAny_of_eq sub_dq (wpAny_pure ?_)
  have ht : typeHasDict (.type "collections.deque") = false := by decide +kernel
  dsimp only
  rw [ht]
  refine wpAny_bind ?_
  simp only [newObj]
  refine wpAny_bind (wpAny_pure ?_)
  exact wpAny_bind (wpAny_alloc (wpAny_pure (wpAny_pure ⟨_, rfl, hs⟩)))
theorem dq_init_meets (a : Addr) : Meets (Builtin.«collections.deque.__init__» ⟨[.ref a], []⟩) (fun _ R s => s.heap.get? a = some dqObj ∧ R (.ok (.ret .none)) s) := by
  refine Meets.of_wp fun prog w A R s hs => ?_
  obtain ⟨ho, hq⟩ := hs
  unfold Builtin.«collections.deque.__init__»
  obtain ⟨hp, g, d, tk, os⟩ := s
  wp_walk
  have e := Heap.update_setField_same hp a dqObj _ 0 Value.none ho rfl rfl
  refine ⟨_, rfl, ?_⟩
  rw [e]
  exact hq
theorem call_dq {prog : Program} {w : World} {A : Around} {E : Value → Shared → Prop} {s : Shared} {h₀ : Heap} {L : Addr} {m : Str → Option Value} {news : List (Addr × Obj)} {Q : Value → Shared → Prop} (F : Fr h₀ L s.heap m) (N : News h₀ L s.heap news)
    (h : ∀ D h', Fr h₀ L h' m → News h₀ L h' ((D, dqObj) :: news) → (∀ p ∈ news, p.1 < D) → Q (.ref D) { s with heap := h' }) :
    wpAny (model prog w) A (call (.type "collections.deque") []) Q E s :=
  callType_meets (Q₁ := fun v s₁ => v = .ref s.heap.objs.size ∧ s₁ = { s with heap := s.heap.push dqObj }) called_dq typeCall_dq newCall_dq entry_dq_new entry_dq_init dq_new_meets ⟨rfl, rfl⟩ (fun obj s₁ e => by
    obtain ⟨rfl, rfl⟩ := e
    have ho := Heap.get?_push_size s.heap (o := dqObj) rfl
    exact ⟨⟨_, ho, rfl⟩, args_dq_init _, _, dq_init_meets _, ho, rfl, h _ _ (F.push _) (N.push F _) (fun p hp => Heap.lt_size (N p hp).1)⟩)
end Mine
namespace Mine
section
variable {prog : Program} {w : World} {A : Around} {R : Result → Shared → Prop} {h : Heap} {g : Array GenState} {d : Drawn} {t : Nat} {os : OsState}
theorem here_sio (X : (Mine.KK w.params).In h) : Looks (model prog w) h (Bind.madeHere "object.__new__" (.ref 624)) () := Looks.of_peek X (by kernel_rfl)
theorem made_sio (X : (Mine.KK w.params).In h) : Looks (model prog w) h (Bind.madeBy (.ref 624)) none := Looks.of_peek X (by kernel_rfl)
theorem isType_sio (X : (Mine.KK w.params).In h) : Looks (model prog w) h (isType (.ref 624)) true := Looks.of_peek X (by kernel_rfl)
theorem isInst_sio (X : (Mine.KK w.params).In h) : Looks (model prog w) h (isInstance (.ref 624) (.type "type")) true := Looks.of_peek X (by kernel_rfl)
theorem sub_sio (X : (Mine.KK w.params).In h) : Looks (model prog w) h (isSubtype (.ref 624) (.ref 624)) true := Looks.of_peek X (by kernel_rfl)
theorem top_sio (X : (Mine.KK w.params).In h) : Looks (model prog w) h (isSubtype (.ref 624) (.type "object")) true := Looks.of_peek X (by kernel_rfl)
theorem call_sio (X : (Mine.KK w.params).In h) : Looks (model prog w) h (specialOf (.ref 624) "__call__") (some (.builtin "type.__call__")) := Looks.of_peek X (by kernel_rfl)
theorem mro_sio (X : (Mine.KK w.params).In h) : Looks (model prog w) h (mroOf (.ref 624)) [.ref 624, .ref 147, .ref 120, .type "object"] := Looks.of_peek X (by kernel_rfl)
theorem init_sio (X : (Mine.KK w.params).In h) : Looks (model prog w) h (typeLookup (.ref 624) "__init__") (some (.ref 394)) := Looks.of_peek X (by kernel_rfl)
theorem binit_sio (X : (Mine.KK w.params).In h) (self : Value) : Looks (model prog w) h (bindSpecial (.ref 394) self) (.ref 394, [self]) := bind_fn X self (by kernel_rfl)
theorem obj_sio (X : (Mine.KK w.params).In h) : ∃ oc od cd sl, h.get? 624 = some ⟨oc, od, .cls cd, sl⟩ ∧ cd.abstract = false ∧ cd.hasDel = false := by
  have : ((Mine.KK w.params).lookup 624).elim False (fun o => match o with | ⟨_, _, .cls cd, _⟩ => cd.abstract = false ∧ cd.hasDel = false | _ => False) := by
    exact ⟨by kernel_rfl, by kernel_rfl⟩
  revert this
  cases e : (Mine.KK w.params).lookup 624 with
  | none => exact fun z => z.elim
  | some o =>
    obtain ⟨oc, od, dt, sl⟩ := o
    cases dt <;> (intro z; first | exact z.elim | exact ⟨oc, od, _, sl, X _ _ e, z⟩)
theorem check_sio (X : (Mine.KK w.params).In h) : Looks (model prog w) h (checkBuiltinCall "object.__new__" ⟨[.ref 624], []⟩) () := Looks.of_peek X (by kernel_rfl)
theorem new_sio (X : (Mine.KK w.params).In h)
    (hq : R (.ok (.ret (.ref (h.objs.size + 1)))) ⟨(h.push emptyDict).push (instObj 624 h.objs.size), g, d, t, os⟩) :
    codeAny (model prog w) A (.call (.builtin "object.__new__") ⟨[.ref 624], []⟩) R ⟨h, g, d, t, os⟩ := by
  obtain ⟨oc, od, cd, sl, hC, e1, e2⟩ := obj_sio X
  have here := here_sio (prog := prog) X
  have typ := isType_sio (prog := prog) X
  have top := top_sio (prog := prog) X
  have inst := isInst_sio (prog := prog) X
  have F := PySem.F.objNew
  refine codeAny_call_builtin_code (Code.quiet_builtin _ F.quiet) ?_
  refine (check_sio (prog := prog) X).at ?_
  refine codeAny_builtin F.entry ?_
  unfold Builtin.«object.__new__»
  have fin : ∀ A', wpAny (model prog w) A' (do
      let d ← if typeHasDict (.ref 624) then some <$> alloc { cls := .type "dict", data := .dict #[] } else pure none
      ret (← newObj (.ref 624) .plain d)) (fun fin s' => match fin with | .done f => R (.ok f) s' | .again c' => c'.quiet = true ∧ codeAny (model prog w) A c' R s') (fun e s' => R (.error e) s') ⟨h, g, d, t, os⟩ := by
    intro A'
    show wpAny _ _ ((alloc emptyDict >>= fun x => pure (some x)) >>= _) _ _ _
    refine wpAny_bind (wpAny_bind (wpAny_alloc (wpAny_pure (wpAny_bind ?_))))
    show wpAny _ _ (newObjAsIs _ _ _) _ _ _
    unfold newObjAsIs classHasDel
    refine wpAny_bind (wpAny_alloc (wpAny_bind (wpAny_bind (wpAny_load (Heap.get?_push_of_some _ (Heap.get?_push_of_some _ hC)) (wpAny_pure ?_)))))
    rw [e2]
    refine wpAny_pure (wpAny_pure ?_)
    show R _ _
    rw [Heap.size_push]
    exact hq
  repeat (first | simp only [e1, Bool.false_eq_true, if_false] | exact fin _ | lk)
/-- StringIO(text), up to its own __new__ and __init__ -/
theorem make_sio {L : Addr} {h₀ : Heap} {m : Str → Option Value} {rest : List Value} (F : Fr h₀ L h m) (X₀ : (Mine.KK w.params).In h₀)
    (hq : codeAny (model prog w) (A.under (.builtin "type.__call__" ⟨.ref 624 :: rest, []⟩)) (.call (.ref 117) ⟨.ref 624 :: rest, []⟩) (fun r s' => match r with
      | .ok (.ret v) => ∃ x dx, v = .ref x ∧ s'.heap.get? x = some (instObj 624 dx) ∧ (Mine.KK w.params).In s'.heap ∧ codeAny (model prog w) (A.under (.builtin "type.__call__" ⟨.ref 624 :: rest, []⟩)) (.call (.ref 394) ⟨.ref x :: rest, []⟩) (InitBack x R) s'
      | .ok _ => False
      | .error e => R (.error e) s') ⟨h, g, d, t + 1, os⟩) :
    codeAny (model prog w) A (.call (.ref 624) ⟨rest, []⟩) R ⟨h, g, d, t, os⟩ := by
  have X := X₀.keeps F.keep
  obtain ⟨oc, od, cd, sl, hC, e1, e2⟩ := obj_sio X
  have call := call_sio (prog := prog) X
  have typ := isInst_sio (prog := prog) X
  have made := made_sio (prog := prog) X
  have hm := mro_sio (prog := prog) X
  refine codeAny_of_tree ?_
  show wpAny _ _ (callAny (.ref 624) _) _ _ _
  refine nd_load hC ?_
  show wpAny _ _ (callAny.viaDunder (.ref 624) _) _ _ _
  unfold callAny.viaDunder
  refine wpAny_bind (call.at ?_)
  dsimp only
  rw [tc_bind]
  refine wpAny_bind (wpAny_pure (wpAny_bind (wpAny_pure ?_)))
  refine wpAny_pure (a := Fin.again (.call (.builtin "type.__call__") ⟨.ref 624 :: rest, []⟩)) (And.intro rfl ?_)
  refine codeAny_call_builtin_at (Code.quiet_builtin _ (by decide +kernel)) entry_typeCall (check_slot tc_kind tc_split typ (tc_args _ _ _) ?_)
  unfold Builtin.«type.__call__»
  repeat (first
    | (with_reducible refine cls_sm (s := ⟨h, g, d, t, os⟩) (K := Mine.KK w.params) (p := 121) (f := .ref 117) (rest := []) (mc := .type "type") F X₀ (by kernel_rfl) (by kernel_rfl) (by kernel_rfl) (by kernel_rfl) (by kernel_rfl) ?_)
    | simp only [List.isEmpty_cons, Bool.false_eq_true, if_false] | with_reducible refine wpAny_call ?_ | lk)
  refine codeAny_mono hq fun r s' z => ?_
  rcases r with e | (v | _ | _ | _) <;> first | exact z | exact z.elim | skip
  obtain ⟨x, dx, rfl, hx, X', z⟩ := z
  have t1 : Looks (model prog w) s'.heap (typeOf (.ref x)) (.ref 624) := (Looks.ld hx).andThen .now
  have s1 := sub_sio (prog := prog) X'
  have i1 := init_sio (prog := prog) X'
  have b1 := binit_sio (prog := prog) X' (.ref x)
  obtain ⟨hp', g', d', t', os'⟩ := s'
  unfold isInstance callSpecial? specialOf
  repeat (first | with_reducible refine wpAny_call ?_ | lk)
  refine codeAny_mono z fun r s' z => ?_
  rcases r with e | (v | _ | _ | _) <;> first | exact z | exact z.elim | skip
  obtain ⟨rfl, z⟩ := z
  exact wpAny_pure (wpAny_pure z)
end
end Mine
namespace Mine
section
variable {prog : Program} {w : World} {A : Around} {E : Value → Shared → Prop} {s : Shared} {R : Result → Shared → Prop} {h₀ : Heap} {L : Addr} {m : Str → Option Value} {news : List (Addr × Obj)}
theorem new_sio_K {Q : Value → Shared → Prop} (F : Fr h₀ L s.heap m) (X₀ : (Mine.KK w.params).In h₀) (N : News h₀ L s.heap news)
    (h : ∀ x dx h', Fr h₀ L h' m → News h₀ L h' ((x, instObj 624 dx) :: (dx, emptyDict) :: news) → (∀ p ∈ news, p.1 < dx) → dx < x → Q (.ref x) { s with heap := h' }) :
    wpAny (model prog w) A (call (.builtin "object.__new__") [.ref 624]) Q E s := by
  obtain ⟨hh, g, d, t, os⟩ := s
  refine wpAny_call (new_sio (X₀.keeps F.keep) (h _ hh.objs.size _ ((F.push _).push _) ?_ (fun p hp => Heap.lt_size (N p hp).1) (Nat.lt_succ_self _)))
  have := (N.push F emptyDict).push (F.push _) (instObj 624 hh.objs.size)
  rwa [Heap.size_push] at this
def SioBack (K : Frag) (prog : Program) (w : World) (A : Around) (rest : List Value) (R : Result → Shared → Prop) (r : Result) (s' : Shared) : Prop := match r with
  | .ok (.ret v) => ∃ x dx, v = .ref x ∧ s'.heap.get? x = some (instObj 624 dx) ∧ K.In s'.heap ∧ codeAny (model prog w) (A.under (.builtin "type.__call__" ⟨.ref 624 :: rest, []⟩)) (.call (.ref 394) ⟨.ref x :: rest, []⟩) (InitBack x R) s'
  | .ok _ => False
  | .error e => R (.error e) s'
theorem sio_back {K : Frag} {rest : List Value} {x dx : Addr} (F : Fr h₀ L s.heap m) (X₀ : K.In h₀) (N : News h₀ L s.heap news) (hx : (x, instObj 624 dx) ∈ news)
    (h : codeAny (model prog w) (A.under (.builtin "type.__call__" ⟨.ref 624 :: rest, []⟩)) (.call (.ref 394) ⟨.ref x :: rest, []⟩) (InitBack x R) s) : SioBack K prog w A rest R (.ok (.ret (.ref x))) s :=
  ⟨x, dx, rfl, (N _ hx).1, X₀.keeps F.keep, h⟩
theorem make_sio_K {Q : Value → Shared → Prop} {rest : List Value} (F : Fr h₀ L s.heap m) (X₀ : (Mine.KK w.params).In h₀)
    (h : codeAny (model prog w) (A.under (.builtin "type.__call__" ⟨.ref 624 :: rest, []⟩)) (.call (.ref 117) ⟨.ref 624 :: rest, []⟩) (SioBack (Mine.KK w.params) prog w A rest (wants Q E)) { s with toks := s.toks + 1 }) :
    wpAny (model prog w) A (call (.ref 624) rest) Q E s := by
  obtain ⟨hh, g, d, t, os⟩ := s
  refine wpAny_call (codeAny_mono (R := wants Q E) (make_sio F X₀ ?_) fun r s' z => ?_)
  · exact codeAny_mono h fun r s' z => by
      rcases r with e | (_ | _ | _ | v) <;> exact z
  · rcases r with e | (_ | _ | _ | v) <;> exact z
end
end Mine
namespace Mine
theorem clear3 : True := by first | (walk1; fail) | exact trivial
local macro_rules | `(tactic| k_room) => `(tactic| (refine Nat.lt_of_le_of_lt ?_ (show (_ : Nat) + 20 < recursionLimit by assumption); (try simp only [depth_under_make, depth_under_kw, depth_in1, depth_deeper, depth_caller]); (try dsimp only [Ar]); omega))
local macro_rules | `(tactic| walk_at "call builtin:object.__new__") => `(tactic| (k_here; k_dflt (refine' new_sio_K ?F ?X ?N ?_; (case F => k_asm); (case X => k_asm); (case N => k_asm); k_whole); intro x' dx' h' F' N' l1 l2; (try k_lt l1); (try k_lt2 l2)))
local macro_rules | `(tactic| walk_at "SioBack") => `(tactic| (k_dflt (refine' sio_back ?F ?X ?N ?hx ?_; (case F => k_asm); (case X => k_asm); (case N => k_asm); (case hx => k_mem); k_whole)))
theorem tail_ne {d : Addr} {l : List (Addr × Obj)} (h : AllLt d l) : ∀ p ∈ l, p.1 ≠ d := fun p hp => Nat.ne_of_lt (ktn_ltOf h p hp)
local macro_rules | `(tactic| k_all) => `(tactic| first
  | exact tail_ne (by assumption) | exact tail_ne (And.right (by assumption)) | exact tail_ne (And.right (And.right (by assumption))) | exact tail_ne (And.right (And.right (And.right (by assumption)))))
local macro_rules | `(tactic| k_enter) => `(tactic| (refine' code_def ?k1 ?k2 ?k3 ?k4 ?k5 ?kA ?kF ?kK ?k6 ?k7 ?k8 ?k9 ?kB ?_ ?c2 ?c3 ?c4 ?c5; (case kA => exact rfl); (case kF => assumption); (case kK => assumption); (case k1 => k_asm); (case k2 => k_asm); (case k3 => k_asm); (case k4 => k_asm); (case k5 => k_asm); (case k6 => k_is); (case k7 => k_is); (case k8 => k_room); (case k9 => first | exact BindsTo.of_eq rfl | exact binds_K (by k_in) rfl (by k_is) rfl rfl rfl); (case c5 => decide); (case kB => exact locs rfl); (case c2 => exact rfl); (case c3 => exact rfl); (case c4 => exact rfl); k_whole; intro g' L' h' FG' F' N' B' X' T'; (try dsimp only); (try k_lift B'); (try k_fold)))
theorem sub_two {α : Type} {a b c d : α} {l : List α} : ∀ p ∈ a :: b :: l, p ∈ a :: b :: c :: d :: l := fun p hp => by
  rcases List.mem_cons.mp hp with rfl | hp
  · exact .head _
  rcases List.mem_cons.mp hp with rfl | hp
  · exact .tail _ (.head _)
  exact .tail _ (.tail _ (.tail _ (.tail _ hp)))
set_option maxHeartbeats 8000000 in
theorem sio_spec {w : World} {p : Program} {loose : List Str} {mean : ExcName → Option Value} {mg mb : Str → Option Value} {dp un : Nat} {gd : Option (List Code)} {env : Env} {outer : List Env} {A₀ : Around} {base h₀ : Heap} {L : Addr} {m : Str → Option Value} {s : Shared} {Q E : Value → Shared → Prop}
    {line : Str} {tl : Tok} {news : List (Addr × Obj)} (hll : line.length < 1000) (cx : Cx (Mine.KK w.params) p loose mean mg mb A₀ env outer base h₀ L m s.heap)
    (N : News h₀ L s.heap news)
    (hd : dp + 20 < recursionLimit)
    (h : ∀ x dx h' tk' k t tp, Fr h₀ L h' m → News h₀ L h' ((x, instObj 624 dx) :: (dx, dictOf (sioD w.params k t line 0 tp) 3) :: news) → (∀ p ∈ news, p.1 < dx) → dx < x → Q (.ref x) { s with heap := h', toks := tk' }) :
    wpAny (model pw w) (Ar dp un gd env outer) (call (.ref 624) [.str line tl]) Q E s := by
  obtain ⟨B, F, X, T, hf, hke⟩ := cx
  refine make_sio_K F X ?_
  (refine' kp_both ?k1 ?k2 ?k3 ?k4 ?k5 ?kA ?kF ?kK ?k6 ?k7 ?k8 ?kV ?kX ?kQ ?kM ?kN ?kD ?kR ?kP ?kS ?kT ?kB ?_ ?c2 ?c3 ?c4 ?c5)
  (case kA => exact rfl)
  (case kF => assumption)
  (case kK => assumption)
  (case k1 => k_asm)
  (case k2 => k_asm)
  (case k3 => k_asm)
  (case k4 => k_asm)
  (case k5 => k_asm)
  (case k6 => k_is)
  (case k7 => k_is)
  (case k8 => k_room)
  (case kV => kp_lit)
  (case kX => kp_lit)
  (case kQ => exact rfl)
  (case kM => exact rfl)
  (case kN => exact rfl)
  (case kD => kp_flats)
  (case kR => exact rfl)
  (case kP => exact rfl)
  (case kS => exact fun _ => rfl)
  (case kT => exact fun _ _ => rfl)
  (case kB => exact fun _ _ => locs rfl)
  (case c5 => decide)
  (case c2 => exact rfl)
  (case c3 => exact rfl)
  (case c4 => exact rfl)
  k_whole
  intro C' D' o' g' L' h' tk' l1 l2 lo' hs' fs' FG' F' N' B' X' T'
  (try k_lt l1)
  (try k_lt2 l2)
  (try dsimp only)
  (try k_lift B')
  (try k_fold)
  k_steps
  (refine' code_def ?k1 ?k2 ?k3 ?k4 ?k5 ?kA ?kF ?kK ?k6 ?k7 ?k8 ?k9 ?kB ?_ ?c2 ?c3 ?c4 ?c5)
  (case kA => exact rfl)
  (case kF => assumption)
  (case kK => assumption)
  (case k1 => k_asm)
  (case k2 => k_asm)
  (case k3 => k_asm)
  (case k4 => k_asm)
  (case k5 => k_asm)
  (case k6 => k_is)
  (case k7 => k_is)
  (case k8 => k_room)
  (case k9 => first | exact BindsTo.of_eq rfl | exact binds_K (by k_in) rfl (by k_is) rfl rfl rfl)
  (case c5 => decide)
  (case kB => exact locs rfl)
  (case c2 => exact rfl)
  (case c3 => exact rfl)
  (case c4 => exact rfl)
  k_whole
  intro g2 L2 h2 FG2 F2 N2 B2 X2 T2
  (try dsimp only)
  (try k_lift B2)
  (try k_fold)
  k_steps
  rename News h₀ L _ _ => N9
  rename Fr h₀ L _ _ => F9
  rename _ ∧ _ ∧ AllLt _ news => a9
  exact h _ _ _ _ (fun n => if n = 20 then _ else if n = 21 then _ else _) (fun n => if n = 20 then _ else _) _ F9 (news_sub N9 (sub_two)) (ktn_ltOf a9.2.2) (by assumption)
end Mine
namespace Mine
theorem clear4 : True := by first | (walk1; fail) | exact trivial
local macro_rules | `(tactic| k_room) => `(tactic| (refine Nat.lt_of_le_of_lt ?_ (show (_ : Nat) + 40 < recursionLimit by assumption); (try simp only [depth_under_make, depth_under_kw, depth_in1, depth_deeper, depth_caller]); (try dsimp only [Ar]); omega))
local macro_rules | `(tactic| k_all) => `(tactic| first
  | exact tail_ne (by assumption) | exact tail_ne (And.right (by assumption)) | exact tail_ne (And.right (And.right (by assumption))) | exact tail_ne (And.right (And.right (And.right (by assumption)))))
local macro_rules | `(tactic| walk_at "call type:collections.deque nil nil") => `(tactic| (k_here; k_dflt (refine call_dq (by k_asm) (by k_asm) ?_); intro d' h' F' N' l1; (try k_lt l1)))
local macro_rules | `(tactic| walk_at "call ref") => `(tactic| (k_here; (with_reducible show wpAny _ _ (call (Value.ref 624) [Value.str _ _]) _ _ _); k_dflt (refine' sio_spec ?hll ?cx ?N ?hd ?_; (case N => k_asm); (case hll => assumption); (case cx => exact ⟨by k_asm, by k_asm, by k_asm, by k_asm, rfl, rfl⟩); (case hd => k_room); k_whole; intro x9 d9 h9 tk9 k9 t9 tp9 F9 N9 l1 l2; (try k_lt l1); (try k_lt2 l2); (try dsimp only); (try k_fold))))
abbrev lexI (P : Params) (k t : Nat → Tok) (sio dq1 dq2 : Addr) (st : Value) (tok : Str) (tT : Tok) (com : Str) (ws : Bool) : List DictEntry := [⟨PyData.keyHash P (Str.ofString "instream"), .str (Str.ofString "instream") (k 0), .ref sio⟩,
    ⟨PyData.keyHash P (Str.ofString "infile"), .str (Str.ofString "infile") (k 1), .none⟩,
    ⟨PyData.keyHash P (Str.ofString "posix"), .str (Str.ofString "posix") (k 2), .bool true⟩,
    ⟨PyData.keyHash P (Str.ofString "eof"), .str (Str.ofString "eof") (k 3), .none⟩,
    ⟨PyData.keyHash P (Str.ofString "commenters"), .str (Str.ofString "commenters") (k 4), .str com (t 0)⟩,
    ⟨PyData.keyHash P (Str.ofString "wordchars"), .str (Str.ofString "wordchars") (k 5), .str (Str.ofString "abcdfeghijklmnopqrstuvwxyzABCDEFGHIJKLMNOPQRSTUVWXYZ0123456789_ßàáâãäåæçèéêëìíîïðñòóôõöøùúûüýþÿÀÁÂÃÄÅÆÇÈÉÊËÌÍÎÏÐÑÒÓÔÕÖØÙÚÛÜÝÞ") (t 1)⟩,
    ⟨PyData.keyHash P (Str.ofString "whitespace"), .str (Str.ofString "whitespace") (k 6), .str (Str.ofString " \t\r\n") (t 2)⟩,
    ⟨PyData.keyHash P (Str.ofString "whitespace_split"), .str (Str.ofString "whitespace_split") (k 7), .bool ws⟩,
    ⟨PyData.keyHash P (Str.ofString "quotes"), .str (Str.ofString "quotes") (k 8), .str (Str.ofString "'\"") (t 3)⟩,
    ⟨PyData.keyHash P (Str.ofString "escape"), .str (Str.ofString "escape") (k 9), .str (Str.ofString "\\") (t 4)⟩,
    ⟨PyData.keyHash P (Str.ofString "escapedquotes"), .str (Str.ofString "escapedquotes") (k 10), .str (Str.ofString "\"") (t 5)⟩,
    ⟨PyData.keyHash P (Str.ofString "state"), .str (Str.ofString "state") (k 11), st⟩,
    ⟨PyData.keyHash P (Str.ofString "pushback"), .str (Str.ofString "pushback") (k 12), .ref dq1⟩,
    ⟨PyData.keyHash P (Str.ofString "lineno"), .str (Str.ofString "lineno") (k 13), .int 1 (t 6)⟩,
    ⟨PyData.keyHash P (Str.ofString "debug"), .str (Str.ofString "debug") (k 14), .int 0 (t 7)⟩,
    ⟨PyData.keyHash P (Str.ofString "token"), .str (Str.ofString "token") (k 15), .str tok tT⟩,
    ⟨PyData.keyHash P (Str.ofString "filestack"), .str (Str.ofString "filestack") (k 16), .ref dq2⟩,
    ⟨PyData.keyHash P (Str.ofString "source"), .str (Str.ofString "source") (k 17), .none⟩,
    ⟨PyData.keyHash P (Str.ofString "_punctuation_chars"), .str (Str.ofString "_punctuation_chars") (k 18), .str (Str.ofString "") (t 9)⟩]
set_option maxHeartbeats 8000000 in
theorem lex_spec {w : World} {p : Program} {loose : List Str} {mean : ExcName → Option Value} {mg mb : Str → Option Value} {dp un : Nat} {gd : Option (List Code)} {env : Env} {outer : List Env} {A₀ : Around} {base h₀ : Heap} {L : Addr} {m : Str → Option Value} {s : Shared} {Q E : Value → Shared → Prop}
    {line : Str} {tl : Tok} (hll : line.length < 1000) (cx : Cx (Mine.KK w.params) p loose mean mg mb A₀ env outer base h₀ L m s.heap)
    {news : List (Addr × Obj)} (N : News h₀ L s.heap news)
    (hd : dp + 40 < recursionLimit)
    (h : ∀ lex dl sio ds dq1 dq2 h' tk' k t tp tS tT, Fr h₀ L h' m → News h₀ L h' ((dq2, dqObj) :: (dq1, dqObj) :: (sio, instObj 624 ds) :: (ds, dictOf (sioD w.params k t line 0 tp) 3) :: (lex, instObj 759 dl) :: (dl, dictOf (lexI w.params k t sio dq1 dq2 (.str (Str.ofString " ") tS) (Str.ofString "") tT (Str.ofString "#") false) 19) :: news) →
      (∀ p ∈ news, p.1 < dl) → @LT.lt Nat _ dl lex → @LT.lt Nat _ lex ds → @LT.lt Nat _ ds sio → @LT.lt Nat _ sio dq1 → @LT.lt Nat _ dq1 dq2 → Q (.ref lex) { s with heap := h', toks := tk' }) :
    wpAny (model pw w) (Ar dp un gd env outer) (call (.ref 759) [.str line tl] [(Str.ofString "posix", .bool true)]) Q E s := by
  obtain ⟨B, F, X, T, hf, hke⟩ := cx
  (refine' wpAny_call (make_K F N (X.keeps F.keep) ?hm ?hi ?hf ?_))
  (case hm => k_is)
  (case hi => k_is)
  (case hf => k_is)
  intro x dx hx F1 N1 l1 l2
  replace l1 := allLt_of l1
  k_lt2 l2
  (refine' code_def ?k1 ?k2 ?k3 ?k4 ?k5 ?kA ?kF ?kK ?k6 ?k7 ?k8 ?k9 ?kB ?_ ?c2 ?c3 ?c4 ?c5)
  (case kA => exact rfl)
  (case kF => assumption)
  (case kK => assumption)
  (case k1 => k_asm)
  (case k2 => k_asm)
  (case k3 => k_asm)
  (case k4 => k_asm)
  (case k5 => k_asm)
  (case k6 => k_is)
  (case k7 => k_is)
  (case k8 => k_room)
  (case k9 => first | exact BindsTo.of_eq rfl | exact binds_K (by k_in) rfl (by k_is) rfl rfl rfl)
  (case c5 => decide)
  (case kB => exact locs rfl)
  (case c2 => exact rfl)
  (case c3 => exact rfl)
  (case c4 => exact rfl)
  k_whole
  intro g2 L2 h2 FG2 F2 N2 B2 X2 T2
  (try dsimp only)
  (try k_lift B2)
  (try k_fold)
  k_steps
  rename News h₀ L _ _ => N9
  rename Fr h₀ L _ _ => F9
  (refine h _ _ _ _ _ _ _ _ (fun n => if n = 0 then _ else if n = 1 then _ else if n = 2 then _ else if n = 3 then _ else if n = 4 then _ else if n = 5 then _ else if n = 6 then _ else if n = 7 then _ else if n = 8 then _ else if n = 9 then _ else if n = 10 then _ else if n = 11 then _ else if n = 12 then _ else if n = 13 then _ else if n = 14 then _ else if n = 15 then _ else if n = 16 then _ else if n = 17 then _ else if n = 18 then _ else if n = 20 then _ else if n = 21 then _ else _) (fun n => if n = 0 then _ else if n = 1 then _ else if n = 2 then _ else if n = 3 then _ else if n = 4 then _ else if n = 5 then _ else if n = 6 then _ else if n = 7 then _ else if n = 9 then _ else if n = 20 then _ else _) _ _ _ F9 N9 (ktn_ltOf l1) (by omega) (by omega) (by omega) (by omega) (by omega))
end Mine
namespace Mine
/-- what one call of read_token gives: whether the state is None, what is left; the token; the same behind it -/
def Nx (b : Bool) (rem : List Nat) (out : Option Str) (b' : Bool) (rem' : List Nat) : Prop :=
  (b = true ∧ rem = [] ∧ out = none ∧ b' = true ∧ rem' = []) ∨
  (b = false ∧ ∃ t' q', Tk rem (Str.ofString " ") (Str.ofString "") false t' q' rem' b' ∧ ((q' = false ∧ t' = Str.ofString "" ∧ out = none) ∨ ((q' = true ∨ t' ≠ Str.ofString "") ∧ out = some t')))
def StV (b : Bool) (v : Value) : Prop := (b = true ∧ v = .none) ∨ (b = false ∧ ∃ tS, v = .str (Str.ofString " ") tS)
def OutV : Option Str → Value → Prop
  | none, v => v = .none
  | some t, v => ∃ tt, v = .str t tt
section
variable {w : World} {p : Program} {loose : List Str} {mean : ExcName → Option Value} {mg mb : Str → Option Value} {dp un : Nat} {gd : Option (List Code)} {env : Env} {outer : List Env} {A₀ : Around} {base h₀ : Heap} {L : Addr} {m : Str → Option Value} {s : Shared} {Q E : Value → Shared → Prop}
    {lex dl sio ds dq1 dq2 : Addr} {k t : Nat → Tok} {buf : Str} {pos : Int} {tT tp : Tok} {rest : List (Addr × Obj)} {stv : Value} {b b' : Bool} {rem rem' : List Nat} {out : Option Str}
abbrev Ne4 (lex dl sio ds : Addr) : Prop := (@Ne Nat lex dl) ∧ (@Ne Nat lex sio) ∧ (@Ne Nat lex ds) ∧ (@Ne Nat dl sio) ∧ (@Ne Nat dl ds) ∧ (@Ne Nat sio ds)
abbrev Off4 (lex dl sio ds : Addr) (rest : List (Addr × Obj)) : Prop := ∀ p ∈ rest, p.1 ≠ lex ∧ p.1 ≠ dl ∧ p.1 ≠ sio ∧ p.1 ≠ ds
abbrev four (P : Params) (k t : Nat → Tok) (lex dl sio ds dq1 dq2 : Addr) (buf : Str) (stv : Value) (tT : Tok) (pos : Int) (tp : Tok) : List (Addr × Obj) :=
  [(lex, instObj 759 dl), (dl, dictOf (lexD P k t sio dq1 dq2 stv (Str.ofString "") tT) 19), (sio, instObj 624 ds), (ds, dictOf (sioD P k t buf pos tp) 3)]
theorem rt_call (hn : Nx b rem out b' rem') (hst : StV b stv) (hne : Ne4 lex dl sio ds) (hoff : Off4 lex dl sio ds rest) (hpos : 0 ≤ pos) (hpl : pos ≤ (buf.length : Int)) (hbl : buf.length < 500) (hdr : buf.cps.toList.drop pos.toNat = rem)
    (cx : Cx (Mine.KK w.params) p loose mean mg mb A₀ env outer base h₀ L m s.heap)
    (N : News h₀ L s.heap ((lex, instObj 759 dl) :: (dl, dictOf (lexD w.params k t sio dq1 dq2 stv (Str.ofString "") tT) 19) :: (sio, instObj 624 ds) :: (ds, dictOf (sioD w.params k t buf pos tp) 3) :: rest))
    (hd : dp + 20 < recursionLimit) (hu : un + 200 < cLine)
    (h : ∀ h' tk' v stv' pos' tT' tp', OutV out v → StV b' stv' → Fr h₀ L h' m →
      News h₀ L h' ((lex, instObj 759 dl) :: (dl, dictOf (lexD w.params k t sio dq1 dq2 stv' (Str.ofString "") tT') 19) :: (sio, instObj 624 ds) :: (ds, dictOf (sioD w.params k t buf pos' tp') 3) :: rest) →
      buf.cps.toList.drop pos'.toNat = rem' → 0 ≤ pos' → pos' ≤ (buf.length : Int) → Q v { s with heap := h', toks := tk' }) :
    wpAny (model pw w) (Ar dp un gd env outer) (call (.ref 727) [.ref lex]) Q E s := by
  have N4 : News h₀ L s.heap (four w.params k t lex dl sio ds dq1 dq2 buf stv tT pos tp) := news_sub N (fun p hp => List.mem_append_left rest hp)
  have back : ∀ {h' stv' tT' pos' tp'}, News h₀ L h' (four w.params k t lex dl sio ds dq1 dq2 buf stv' tT' pos' tp') → KB s.heap h' (four w.params k t lex dl sio ds dq1 dq2 buf stv tT pos tp) →
      News h₀ L h' ((lex, instObj 759 dl) :: (dl, dictOf (lexD w.params k t sio dq1 dq2 stv' (Str.ofString "") tT') 19) :: (sio, instObj 624 ds) :: (ds, dictOf (sioD w.params k t buf pos' tp') 3) :: rest) := by
    intro h' stv' tT' pos' tp' N' kb
    refine news_kb (mine := four w.params k t lex dl sio ds dq1 dq2 buf stv tT pos tp) (mine' := four w.params k t lex dl sio ds dq1 dq2 buf stv' tT' pos' tp') (rest := rest) N kb (fun q hq => ?_) N'
    obtain ⟨a1, a2, a3, a4⟩ := hoff q hq
    intro hm
    simp only [four, List.map_cons, List.map_nil, List.mem_cons, List.not_mem_nil, or_false] at hm
    rcases hm with hm | hm | hm | hm
    · exact a1 hm
    · exact a2 hm
    · exact a3 hm
    · exact a4 hm
  rcases hn with ⟨rfl, hr, rfl, rfl, rfl⟩ | ⟨rfl, t', q', hT, ho⟩
  · rcases hst with ⟨_, rfl⟩ | ⟨z, _⟩
    · subst hr
      exact wpAny_call (rn_spec hpos hpl (by omega) hdr hne cx N4 hd hu fun h' tk' tT' F' N' kb => h _ _ _ _ _ _ _ rfl (.inl ⟨rfl, rfl⟩) F' (back N' kb) hdr hpos hpl)
    · cases z
  · rcases hst with ⟨z, _⟩ | ⟨_, tS, rfl⟩
    · cases z
    · have hl : rem.length ≤ buf.length := by
        rw [← hdr, List.length_drop]
        have e : buf.length = buf.cps.size := rfl
        rw [Array.length_toList]; omega
      refine wpAny_call (rt_spec (c₀ := ⟨rem, Str.ofString " ", Str.ofString "", false, pos, tS, tT, tp⟩) rfl hpos hpl (by omega) hdr (show (Str.ofString "").length + rem.length < 1000 by
        have : (Str.ofString "").length = 0 := by decide +kernel
        omega) hT hne cx N4 hd hu fun h' tk' v tv pos2 stv' tp' F' N' kb hs hdr' hp0 hpl' hv => ?_)
      refine h _ _ v _ _ _ _ ?_ ?_ F' (back N' kb) hdr' hp0 hpl'
      · rcases hv with ⟨q1, q2, rfl⟩ | ⟨q1, tt, rfl⟩
        · rcases ho with ⟨r1, r2, rfl⟩ | ⟨r1, rfl⟩
          · exact rfl
          · rcases r1 with r1 | r1
            · rw [q1] at r1; cases r1
            · exact (r1 q2).elim
        · rcases ho with ⟨r1, r2, rfl⟩ | ⟨r1, rfl⟩
          · rcases q1 with q1 | q1
            · rw [r1] at q1; cases q1
            · exact (q1 r2).elim
          · exact ⟨tt, rfl⟩
      · cases b' with
        | true => exact .inl ⟨rfl, hs⟩
        | false => exact .inr ⟨rfl, hs⟩
end
end Mine
namespace Mine
theorem clear5 : True := by first | (walk1; fail) | exact trivial
theorem truthy_dq_K {prog : Program} {w : World} {A : Around} {E : Value → Shared → Prop} {s : Shared} {h₀ : Heap} {L l : Addr} {news : List (Addr × Obj)} {Q : Bool → Shared → Prop} (N : News h₀ L s.heap news) (hm : (l, dqObj) ∈ news)
    (h : Q false { s with toks := s.toks + 1 + 1 }) : wpAny (model prog w) A (truthy (.ref l)) Q E s := truthy_dq (N _ hm).1 h
section
variable {w : World} {p : Program} {loose : List Str} {mean : ExcName → Option Value} {mg mb : Str → Option Value} {dp un : Nat} {gd : Option (List Code)} {env : Env} {outer : List Env} {A₀ : Around} {base h₀ : Heap} {L : Addr} {m : Str → Option Value} {s : Shared} {Q E : Value → Shared → Prop}
    {lex dl sio ds dq1 dq2 : Addr} {k t : Nat → Tok} {buf : Str} {pos : Int} {tT tp : Tok} {rest : List (Addr × Obj)} {stv : Value} {b b' : Bool} {rem rem' : List Nat} {tk : Str}
theorem rt_some (hn : Nx b rem (some tk) b' rem') (hst : StV b stv) (hne : Ne4 lex dl sio ds) (hoff : Off4 lex dl sio ds rest) (hpos : 0 ≤ pos) (hpl : pos ≤ (buf.length : Int)) (hbl : buf.length < 500) (hdr : buf.cps.toList.drop pos.toNat = rem)
    (cx : Cx (Mine.KK w.params) p loose mean mg mb A₀ env outer base h₀ L m s.heap)
    (N : News h₀ L s.heap ((lex, instObj 759 dl) :: (dl, dictOf (lexD w.params k t sio dq1 dq2 stv (Str.ofString "") tT) 19) :: (sio, instObj 624 ds) :: (ds, dictOf (sioD w.params k t buf pos tp) 3) :: rest))
    (hd : dp + 20 < recursionLimit) (hu : un + 200 < cLine)
    (h : ∀ h' tk' tt stv' pos' tT' tp', StV b' stv' → Fr h₀ L h' m →
      News h₀ L h' ((lex, instObj 759 dl) :: (dl, dictOf (lexD w.params k t sio dq1 dq2 stv' (Str.ofString "") tT') 19) :: (sio, instObj 624 ds) :: (ds, dictOf (sioD w.params k t buf pos' tp') 3) :: rest) →
      buf.cps.toList.drop pos'.toNat = rem' → 0 ≤ pos' → pos' ≤ (buf.length : Int) → Q (.str tk tt) { s with heap := h', toks := tk' }) :
    wpAny (model pw w) (Ar dp un gd env outer) (call (.ref 727) [.ref lex]) Q E s :=
  rt_call hn hst hne hoff hpos hpl hbl hdr cx N hd hu fun h' tk' v stv' pos' tT' tp' ov st F' N' d p l => by
    obtain ⟨tt, rfl⟩ := ov
    exact h _ _ _ _ _ _ _ st F' N' d p l
theorem rt_nothing (hn : Nx b rem none b' rem') (hst : StV b stv) (hne : Ne4 lex dl sio ds) (hoff : Off4 lex dl sio ds rest) (hpos : 0 ≤ pos) (hpl : pos ≤ (buf.length : Int)) (hbl : buf.length < 500) (hdr : buf.cps.toList.drop pos.toNat = rem)
    (cx : Cx (Mine.KK w.params) p loose mean mg mb A₀ env outer base h₀ L m s.heap)
    (N : News h₀ L s.heap ((lex, instObj 759 dl) :: (dl, dictOf (lexD w.params k t sio dq1 dq2 stv (Str.ofString "") tT) 19) :: (sio, instObj 624 ds) :: (ds, dictOf (sioD w.params k t buf pos tp) 3) :: rest))
    (hd : dp + 20 < recursionLimit) (hu : un + 200 < cLine)
    (h : ∀ h' tk' stv' pos' tT' tp', StV b' stv' → Fr h₀ L h' m →
      News h₀ L h' ((lex, instObj 759 dl) :: (dl, dictOf (lexD w.params k t sio dq1 dq2 stv' (Str.ofString "") tT') 19) :: (sio, instObj 624 ds) :: (ds, dictOf (sioD w.params k t buf pos' tp') 3) :: rest) →
      buf.cps.toList.drop pos'.toNat = rem' → 0 ≤ pos' → pos' ≤ (buf.length : Int) → Q .none { s with heap := h', toks := tk' }) :
    wpAny (model pw w) (Ar dp un gd env outer) (call (.ref 727) [.ref lex]) Q E s :=
  rt_call hn hst hne hoff hpos hpl hbl hdr cx N hd hu fun h' tk' v stv' pos' tT' tp' ov st F' N' d p l => by
    obtain rfl : v = .none := ov
    exact h _ _ _ _ _ _ st F' N' d p l
end
/-- what stands around a call in whose run an exception may be caught -/
structure CxS (K : Frag) (p : Program) (loose : List Str) (mean : ExcName → Option Value) (mg mb : Str → Option Value) (A₀ : Around) (outer : List Env) (base h₀ : Heap) (L : Addr) (m : Str → Option Value) (h : Heap) : Prop where
  B : Below A₀ base outer h₀
  F : Fr h₀ L h m
  X : K.In h₀
  T : Top p loose mean mg mb h₀
  XB : K.In base
  TB : Top p loose mean mg mb base
  D : KtsDicts (outer.filterMap (·.frame)) h₀
theorem stopS {M : Model} {A A₀ : Around} {E : Value → Shared → Prop} {s : Shared} {K : Frag} {p : Program} {loose : List Str} {mean : ExcName → Option Value} {mg mb : Str → Option Value} {outer : List Env} {base h₀ G : Heap} {L a e t : Addr} {m : Str → Option Value} {nm : Str} {sc : Scope} {cd : Value} {vs : List Value} {news : List (Addr × Obj)} {X : String} {Q : Option Value → Shared → Prop}
    (R : RaisedS base G (envOf nm sc L a cd :: outer) e (.type X) t vs news s.heap) (hsm : G.UpToSlots s.heap) (F : Fr h₀ L G m) (B : Below A₀ base outer h₀) (XB : K.In base) (TB : Top p loose mean mg mb base) (D : KtsDicts (outer.filterMap (·.frame)) h₀)
    (hsub : isSubtype (.type X) (.type "StopIteration") = pure true)
    (k : ∀ h₀', KtsTurn (outer.filterMap (·.frame)) h₀ h₀' → CxS K p loose mean mg mb A₀ outer base h₀' L m s.heap → News h₀' L s.heap news → Q none s) : OwitStop M A Q E (.ref e) s := by
  obtain ⟨⟨Bh, hB, hBG, hl, hfl, _⟩, _⟩ := R
  have hL : Bh.get? L = none := by
    obtain ⟨_, ⟨L', _, hf, hn', _⟩, _⟩ := hfl.2.2.1
    obtain rfl : L = L' := Option.some.inj hf
    exact hn'
  obtain ⟨g', T', F', K'⟩ := kts_ground B F hBG hfl.1 hsm
  obtain ⟨ob, hob, hobc⟩ := (flyingW_base hB hfl).there
  have hT : s.TypeIs (.ref e) X := (show ∃ o, s.heap.get? e = some o ∧ o.cls = .type X from ⟨ob, hob, hobc⟩)
  unfold OwitStop
  refine wpAny_isInstance hT hsub ?_
  show (if true = true then Q none s else E (.ref e) s)
  rw [if_pos rfl]
  exact k g' T' ⟨K', F', XB.keeps K'.stays, TB.keeps K'.stays, XB, TB, D.turn T'⟩ fun q hq => ⟨hfl.1 _ _ (hl q hq).1, (fun z => by have := (hl q hq).1; rw [z, hL] at this; cases this), T'.none_ _ (kts_none F.keep (hl q hq).2.1)⟩
theorem sub_stop : isSubtype (.type "StopIteration") (.type "StopIteration") = pure true := by rw [isSubtype_type]; kernel_rfl
local macro_rules | `(tactic| k_room) => `(tactic| (refine Nat.lt_of_le_of_lt ?_ (show (_ : Nat) + 40 < recursionLimit by assumption); (try simp only [depth_under_make, depth_under_kw, depth_in1, depth_deeper, depth_caller]); (try dsimp only [Ar]); omega))
local macro_rules | `(tactic| walk_at "my units") => `(tactic| (refine Nat.lt_of_le_of_lt ?_ (show (_ : Nat) + 400 < cLine by assumption); (try simp only [units_in1, units_deeper, Around.mark_units, units_caller]); (try dsimp only [Ar]); omega))
local macro_rules | `(tactic| walk_at "truthy ref") => `(tactic| (k_here; k_dflt (refine' truthy_dq_K ?N ?m ?_; (case N => k_asm); (case m => k_mem); k_whole)))
local macro_rules | `(tactic| walk_at "ite") => `(tactic| (k_closed; k_dflt (first | refine ite_pos (by decide +kernel) ?_ | refine ite_neg (by decide +kernel) ?_)))
local macro_rules | `(tactic| walk_at "call ref") => `(tactic| (k_here; (with_reducible show wpAny _ _ (call (Value.ref 727) _ _) _ _ _); k_dflt (first
  | (refine' rt_some ?hn ?hst ?hne ?hoff ?h0 ?hl ?hb ?hdr ?cx ?N ?hd ?hu ?_; (case N => k_asm); (case hn => assumption); (case hst => assumption); (case hne => assumption); (case hoff => assumption); (case h0 => assumption); (case hl => assumption); (case hb => assumption); (case hdr => assumption); (case cx => exact ⟨by k_asm, by k_asm, by k_asm, by k_asm, rfl, rfl⟩); (case hd => k_room); (case hu => walk_at "my units"); k_whole; intro h9 tk9 tt9 stv9 pos9 tT9 tp9 st9 F9 N9 dr9 p9 pl9; (try dsimp only); (try k_fold))
  | (refine' rt_nothing ?hn ?hst ?hne ?hoff ?h0 ?hl ?hb ?hdr ?cx ?N ?hd ?hu ?_; (case N => k_asm); (case hn => assumption); (case hst => assumption); (case hne => assumption); (case hoff => assumption); (case h0 => assumption); (case hl => assumption); (case hb => assumption); (case hdr => assumption); (case cx => exact ⟨by k_asm, by k_asm, by k_asm, by k_asm, rfl, rfl⟩); (case hd => k_room); (case hu => walk_at "my units"); k_whole; intro h9 tk9 stv9 pos9 tT9 tp9 st9 F9 N9 dr9 p9 pl9; (try dsimp only); (try k_fold)))))
section
variable {w : World} {p : Program} {loose : List Str} {mean : ExcName → Option Value} {mg mb : Str → Option Value} {dp un : Nat} {gd : Option (List Code)} {nm : Str} {sc : Scope} {fa : Addr} {cdv : Value} {outer : List Env} {A₀ : Around} {base h₀ : Heap} {L : Addr} {m : Str → Option Value} {s : Shared} {Q : Option Value → Shared → Prop} {E : Value → Shared → Prop}
    {lex dl sio ds dq1 dq2 : Addr} {k t : Nat → Tok} {buf : Str} {pos : Int} {tT tp : Tok} {rest : List (Addr × Obj)} {stv : Value} {b b' : Bool} {rem rem' : List Nat} {tk : Str}
set_option maxHeartbeats 16000000 in
theorem next_some (hn : Nx b rem (some tk) b' rem') (hst : StV b stv) (hne : Ne4 lex dl sio ds) (hoff : Off4 lex dl sio ds ((dq1, dqObj) :: (dq2, dqObj) :: rest)) (hpos : 0 ≤ pos) (hpl : pos ≤ (buf.length : Int)) (hbl : buf.length < 500) (hdr : buf.cps.toList.drop pos.toNat = rem)
    (cx : Cx (Mine.KK w.params) p loose mean mg mb A₀ (envOf nm sc L fa cdv) outer base h₀ L m s.heap)
    (N : News h₀ L s.heap ((lex, instObj 759 dl) :: (dl, dictOf (lexD w.params k t sio dq1 dq2 stv (Str.ofString "") tT) 19) :: (sio, instObj 624 ds) :: (ds, dictOf (sioD w.params k t buf pos tp) 3) :: (dq1, dqObj) :: (dq2, dqObj) :: rest))
    (hd : dp + 40 < recursionLimit) (hu : un + 400 < cLine)
    (h : ∀ h' tk' tt stv' pos' tT' tp', StV b' stv' → Fr h₀ L h' m →
      News h₀ L h' ((lex, instObj 759 dl) :: (dl, dictOf (lexD w.params k t sio dq1 dq2 stv' (Str.ofString "") tT') 19) :: (sio, instObj 624 ds) :: (ds, dictOf (sioD w.params k t buf pos' tp') 3) :: (dq1, dqObj) :: (dq2, dqObj) :: rest) →
      buf.cps.toList.drop pos'.toNat = rem' → 0 ≤ pos' → pos' ≤ (buf.length : Int) → Q (some (.str tk tt)) { s with heap := h', toks := tk' }) :
    wpAny (model pw w) (Ar dp un gd (envOf nm sc L fa cdv) outer) (call (.ref 756) [.ref lex]) (fun v s' => Q (some v) s') (OwitStop (model pw w) (Ar dp un gd (envOf nm sc L fa cdv) outer) Q E) s := by
  obtain ⟨B, F, X, T, hf, hke⟩ := cx
  refine wpAny_call ?_
  k_dflt (refine' code_def ?k1 ?k2 ?k3 ?k4 ?k5 ?kA ?kF ?kK ?k6 ?k7 ?k8 ?k9 ?kB ?_ ?c2 ?c3 ?c4 ?c5; (case kA => exact rfl); (case kF => assumption); (case kK => assumption); (case k1 => k_asm); (case k2 => k_asm); (case k3 => k_asm); (case k4 => k_asm); (case k5 => k_asm); (case k6 => k_is); (case k7 => k_is); (case k8 => k_room); (case k9 => first | exact BindsTo.of_eq rfl | exact binds_K (by k_in) rfl (by k_is) rfl rfl rfl); (case c5 => decide); (case kB => exact locs rfl); (case c2 => exact rfl); (case c3 => exact rfl); (case c4 => exact rfl); k_whole; intro g L1 h1 FG F1 N1 B1 X1 T1; (try dsimp only); (try k_lift B1); (try k_fold))
  k_steps
  (rename News h₀ L _ _ => N9; rename Fr h₀ L _ _ => F9; exact h _ _ _ _ _ _ _ (by assumption) F9 N9 (by assumption) (by assumption) (by assumption))
set_option maxHeartbeats 16000000 in
theorem next_none (hn : Nx b rem none b' rem') (hst : StV b stv) (hne : Ne4 lex dl sio ds) (hoff : Off4 lex dl sio ds ((dq1, dqObj) :: (dq2, dqObj) :: rest)) (hpos : 0 ≤ pos) (hpl : pos ≤ (buf.length : Int)) (hbl : buf.length < 500) (hdr : buf.cps.toList.drop pos.toNat = rem)
    (cx : CxS (Mine.KK w.params) p loose mean mg mb A₀ outer base h₀ L m s.heap) (hke : sc.kind = .function)
    (N : News h₀ L s.heap ((lex, instObj 759 dl) :: (dl, dictOf (lexD w.params k t sio dq1 dq2 stv (Str.ofString "") tT) 19) :: (sio, instObj 624 ds) :: (ds, dictOf (sioD w.params k t buf pos tp) 3) :: (dq1, dqObj) :: (dq2, dqObj) :: rest))
    (hd : dp + 40 < recursionLimit) (hu : un + 400 < cLine)
    (h : ∀ h₀' h' tk' stv' pos' tT' tp', KtsTurn (outer.filterMap (·.frame)) h₀ h₀' → CxS (Mine.KK w.params) p loose mean mg mb A₀ outer base h₀' L m h' →
      News h₀' L h' ((lex, instObj 759 dl) :: (dl, dictOf (lexD w.params k t sio dq1 dq2 stv' (Str.ofString "") tT') 19) :: (sio, instObj 624 ds) :: (ds, dictOf (sioD w.params k t buf pos' tp') 3) :: (dq1, dqObj) :: (dq2, dqObj) :: rest) →
      Q none { s with heap := h', toks := tk' }) :
    wpAny (model pw w) (Ar dp un gd (envOf nm sc L fa cdv) outer) (call (.ref 756) [.ref lex]) (fun v s' => Q (some v) s') (OwitStop (model pw w) (Ar dp un gd (envOf nm sc L fa cdv) outer) Q E) s := by
  obtain ⟨B, F, X, T, XB, TB, D⟩ := cx
  refine wpAny_call ?_
  k_dflt (refine' code_def ?k1 ?k2 ?k3 ?k4 ?k5 ?kA ?kF ?kK ?k6 ?k7 ?k8 ?k9 ?kB ?_ ?c2 ?c3 ?c4 ?c5; (case kA => exact rfl); (case kF => exact rfl); (case kK => assumption); (case k1 => k_asm); (case k2 => k_asm); (case k3 => k_asm); (case k4 => k_asm); (case k5 => k_asm); (case k6 => k_is); (case k7 => k_is); (case k8 => k_room); (case k9 => first | exact BindsTo.of_eq rfl | exact binds_K (by k_in) rfl (by k_is) rfl rfl rfl); (case c5 => decide); (case kB => exact locs rfl); (case c2 => exact rfl); (case c3 => exact rfl); (case c4 => exact rfl); k_whole; intro g L1 h1 FG F1 N1 B1 X1 T1; (try dsimp only); (try k_lift B1); (try k_fold))
  k_steps
  (rename RaisedS _ _ _ _ _ _ _ _ _ => R9; refine stopS R9 (by assumption) FG B XB TB (by assumption) sub_stop fun h₀' T' c' n' => h _ _ _ _ _ _ _ T' c' n')
end
end Mine
namespace Mine
/-- the tokens that read_token gives, one by one, till None -/
inductive Steps : Bool → List Nat → List Str → Prop where
  | stop {b rem b' rem'} : Nx b rem none b' rem' → Steps b rem []
  | more {b rem t b' rem' ts} : Nx b rem (some t) b' rem' → Steps b' rem' ts → Steps b rem (t :: ts)
abbrev lstO (acc : Array Value) (c : Nat) : Obj := { cls := .type "list", dict := none, data := .seq acc c, slots := #[] }
theorem upd_head {h₀ h : Heap} {L S : Addr} {m : Str → Option Value} {o : Obj} {tl : List (Addr × Obj)} {f : Obj → Obj} (F : Fr h₀ L h m) (N : News h₀ L h ((S, o) :: tl)) (hoff : ∀ p ∈ tl, p.1 ≠ S) (hf : (f o).isFreed = false) :
    Fr h₀ L (h.update S f) m ∧ News h₀ L (h.update S f) ((S, f o) :: tl) := by
  have hs := Heap.SameBut.update h S f
  have hS := (N _ (.head _)).1
  refine ⟨F.update N (.head _) hs, fun p hp => ?_⟩
  rcases List.mem_cons.mp hp with rfl | hp
  · exact ⟨Heap.get?_update_self f hS hf, (N _ (.head _)).2⟩
  · exact ⟨(hs.2 _ (hoff p hp)).trans (N p (.tail _ hp)).1, (N p (.tail _ hp)).2⟩
section
variable {w : World} {p : Program} {loose : List Str} {mean : ExcName → Option Value} {mg mb : Str → Option Value} {dp un : Nat} {gd : Option (List Code)} {nm : Str} {sc : Scope} {fa : Addr} {cdv : Value} {outer : List Env} {A₀ : Around} {base h₀ : Heap} {L : Addr} {m : Str → Option Value} {s : Shared} {Q E : Value → Shared → Prop} {R : Result → Shared → Prop}
    {lex dl sio ds dq1 dq2 : Addr} {k t : Nat → Tok} {buf : Str} {rest : List (Addr × Obj)}
abbrev six (P : Params) (k t : Nat → Tok) (lex dl sio ds dq1 dq2 : Addr) (buf : Str) (rest : List (Addr × Obj)) (stv : Value) (tT : Tok) (pos : Int) (tp : Tok) : List (Addr × Obj) :=
  (lex, instObj 759 dl) :: (dl, dictOf (lexD P k t sio dq1 dq2 stv (Str.ofString "") tT) 19) :: (sio, instObj 624 ds) :: (ds, dictOf (sioD P k t buf pos tp) 3) :: (dq1, dqObj) :: (dq2, dqObj) :: rest
abbrev lexLook (K : Frag) : Prop := findIn K (.ref 759) "__next__" = some (some (.ref 756)) ∧ isFn K (.ref 756) = true ∧ findIn K (.ref 759) "__iter__" = some (some (.ref 749)) ∧ isFn K (.ref 749) = true
theorem lex_look : lexLook (Mine.KK w.params) := ⟨by kernel_rfl, by kernel_rfl, by kernel_rfl, by kernel_rfl⟩
theorem inst_lex {h : Heap} {news : List (Addr × Obj)} {od : Obj} (N : News h₀ L h news) (h1 : (lex, instObj 759 dl) ∈ news) (h2 : (dl, od) ∈ news) : InstAt h lex (instObj 759 dl) 759 (some od) :=
  ⟨(N _ h1).1, rfl, rfl, (N _ h2).1⟩
end
section
variable {w : World} {p : Program} {loose : List Str} {mean : ExcName → Option Value} {mg mb : Str → Option Value} {dp un : Nat} {gd : Option (List Code)} {nm : Str} {sc : Scope} {fa : Addr} {cdv : Value} {outer : List Env} {A₀ : Around} {base h₀ : Heap} {L : Addr} {m : Str → Option Value} {s : Shared} {Q : Option Value → Shared → Prop} {E : Value → Shared → Prop}
    {lex dl sio ds dq1 dq2 : Addr} {k t : Nat → Tok} {buf : Str} {pos : Int} {tT tp : Tok} {rest : List (Addr × Obj)} {stv : Value} {b b' : Bool} {rem rem' : List Nat} {tk : Str}
theorem pyNext_some (hn : Nx b rem (some tk) b' rem') (hst : StV b stv) (hne : Ne4 lex dl sio ds) (hoff : Off4 lex dl sio ds ((dq1, dqObj) :: (dq2, dqObj) :: rest)) (hpos : 0 ≤ pos) (hpl : pos ≤ (buf.length : Int)) (hbl : buf.length < 500) (hdr : buf.cps.toList.drop pos.toNat = rem)
    (cx : Cx (Mine.KK w.params) p loose mean mg mb A₀ (envOf nm sc L fa cdv) outer base h₀ L m s.heap)
    (N : News h₀ L s.heap ((lex, instObj 759 dl) :: (dl, dictOf (lexD w.params k t sio dq1 dq2 stv (Str.ofString "") tT) 19) :: (sio, instObj 624 ds) :: (ds, dictOf (sioD w.params k t buf pos tp) 3) :: (dq1, dqObj) :: (dq2, dqObj) :: rest))
    (hd : dp + 40 < recursionLimit) (hu : un + 400 < cLine)
    (h : ∀ h' tk' tt stv' pos' tT' tp', StV b' stv' → Fr h₀ L h' m →
      News h₀ L h' ((lex, instObj 759 dl) :: (dl, dictOf (lexD w.params k t sio dq1 dq2 stv' (Str.ofString "") tT') 19) :: (sio, instObj 624 ds) :: (ds, dictOf (sioD w.params k t buf pos' tp') 3) :: (dq1, dqObj) :: (dq2, dqObj) :: rest) →
      buf.cps.toList.drop pos'.toNat = rem' → 0 ≤ pos' → pos' ≤ (buf.length : Int) → Q (some (.str tk tt)) { s with heap := h', toks := tk' }) :
    wpAny (model pw w) (Ar dp un gd (envOf nm sc L fa cdv) outer) (pyNext (.ref lex)) Q E s :=
  owit_next cx.F cx.X (inst_lex N (.head _) (.tail _ (.head _))) lex_look.1 lex_look.2.1 (next_some hn hst hne hoff hpos hpl hbl hdr cx N hd hu h)
theorem pyNext_none (hn : Nx b rem none b' rem') (hst : StV b stv) (hne : Ne4 lex dl sio ds) (hoff : Off4 lex dl sio ds ((dq1, dqObj) :: (dq2, dqObj) :: rest)) (hpos : 0 ≤ pos) (hpl : pos ≤ (buf.length : Int)) (hbl : buf.length < 500) (hdr : buf.cps.toList.drop pos.toNat = rem)
    (cx : CxS (Mine.KK w.params) p loose mean mg mb A₀ outer base h₀ L m s.heap) (hke : sc.kind = .function)
    (N : News h₀ L s.heap ((lex, instObj 759 dl) :: (dl, dictOf (lexD w.params k t sio dq1 dq2 stv (Str.ofString "") tT) 19) :: (sio, instObj 624 ds) :: (ds, dictOf (sioD w.params k t buf pos tp) 3) :: (dq1, dqObj) :: (dq2, dqObj) :: rest))
    (hd : dp + 40 < recursionLimit) (hu : un + 400 < cLine)
    (h : ∀ h₀' h' tk' stv' pos' tT' tp', KtsTurn (outer.filterMap (·.frame)) h₀ h₀' → CxS (Mine.KK w.params) p loose mean mg mb A₀ outer base h₀' L m h' →
      News h₀' L h' ((lex, instObj 759 dl) :: (dl, dictOf (lexD w.params k t sio dq1 dq2 stv' (Str.ofString "") tT') 19) :: (sio, instObj 624 ds) :: (ds, dictOf (sioD w.params k t buf pos' tp') 3) :: (dq1, dqObj) :: (dq2, dqObj) :: rest) →
      Q none { s with heap := h', toks := tk' }) :
    wpAny (model pw w) (Ar dp un gd (envOf nm sc L fa cdv) outer) (pyNext (.ref lex)) Q E s :=
  owit_next cx.F cx.X (inst_lex N (.head _) (.tail _ (.head _))) lex_look.1 lex_look.2.1 (next_none hn hst hne hoff hpos hpl hbl hdr cx hke N hd hu h)
end
section
variable {w : World} {p : Program} {loose : List Str} {mean : ExcName → Option Value} {mg mb : Str → Option Value} {dp un : Nat} {gd : Option (List Code)} {nm : Str} {sc : Scope} {fa : Addr} {cdv : Value} {outer : List Env} {A₀ : Around} {base h₀ : Heap} {L : Addr} {m : Str → Option Value} {s : Shared} {Q E : Value → Shared → Prop} {R : Result → Shared → Prop}
    {lex dl sio ds dq1 dq2 : Addr} {k t : Nat → Tok} {buf : Str} {rest : List (Addr × Obj)}
theorem loop_lex (hne : Ne4 lex dl sio ds) (S : Addr) (res : Value) (hbl : buf.length < 500) (hke : sc.kind = .function) (hd : dp + 40 < recursionLimit) (hu : un + 1 + 400 < cLine) :
    ∀ (outs : List Str) {b rem}, Steps b rem outs → ∀ {s : Shared} {acc : Array Value} {c : Nat} {stv : Value} {pos : Int} {tT tp : Tok}, acc.size + outs.length < 1000 → StV b stv → 0 ≤ pos → pos ≤ (buf.length : Int) → buf.cps.toList.drop pos.toNat = rem →
      (∀ p ∈ (six w.params k t lex dl sio ds dq1 dq2 buf rest stv tT pos tp), p.1 ≠ S) → Off4 lex dl sio ds ((dq1, dqObj) :: (dq2, dqObj) :: rest) →
      CxS (Mine.KK w.params) p loose mean mg mb A₀ outer base h₀ L m s.heap → News h₀ L s.heap ((S, lstO acc c) :: six w.params k t lex dl sio ds dq1 dq2 buf rest stv tT pos tp) →
      (∀ h₀' h' tk' vs c' stv' pos' tT' tp', KtsTurn (outer.filterMap (·.frame)) h₀ h₀' → CxS (Mine.KK w.params) p loose mean mg mb A₀ outer base h₀' L m h' → News h₀' L h' ((S, lstO (acc ++ vs.toArray) c') :: six w.params k t lex dl sio ds dq1 dq2 buf rest stv' tT' pos' tp') → StrsAre vs outs → R (.ok (.ret res)) { s with heap := h', toks := tk' }) →
      codeAny (model pw w) (Ar dp un gd (envOf nm sc L fa cdv) outer) (.builtin "list.extend.loop" ⟨[.ref S, .ref lex, res], []⟩) R s := by
  intro outs b rem st
  obtain ⟨n1, n2, n3, n4, n5, n6⟩ := hne
  induction st with
  | stop hn =>
    intro s acc c stv pos tT tp hsz hst h0 hl hdr hS hoff cx N hk
    refine codeAny_builtin F.entry_extend_loop ?_
    rw [Around.under_plainId F.plain_extend_loop _]
    show wpAny _ (Ar dp (un + 1) gd (envOf nm sc L fa cdv) outer) (pyNext (.ref lex) >>= _) _ _ s
    have N1 : News h₀ L s.heap (six w.params k t lex dl sio ds dq1 dq2 buf ((S, lstO acc c) :: rest) stv tT pos tp) := news_sub N (fun q hq => by simp only [six, List.mem_cons] at hq ⊢; rcases hq with h | h | h | h | h | h | h | h <;> simp [h])
    refine wpAny_bind (pyNext_none hn hst ⟨n1, n2, n3, n4, n5, n6⟩ ?_ h0 hl hbl hdr cx hke N1 hd hu fun h₀' h' tk' stv' pos' tT' tp' T' cx' N' => ?_)
    · intro q hq
      simp only [List.mem_cons] at hq
      rcases hq with rfl | rfl | rfl | hq
      · exact hoff _ (.head _)
      · exact hoff _ (.tail _ (.head _))
      · exact ⟨fun z => hS (lex, instObj 759 dl) (.head _) z.symm, fun z => hS _ (.tail _ (.head _)) z.symm, fun z => hS _ (.tail _ (.tail _ (.head _))) z.symm, fun z => hS _ (.tail _ (.tail _ (.tail _ (.head _)))) z.symm⟩
      · exact hoff _ (.tail _ (.tail _ hq))
    · refine wpAny_pure (hk _ _ _ [] c stv' pos' tT' tp' T' cx' ?_ .nil)
      rw [show acc ++ ([] : List Value).toArray = acc by simp]
      exact news_sub N' (fun q hq => by simp only [six, List.mem_cons] at hq ⊢; rcases hq with h | h | h | h | h | h | h | h <;> simp [h])
  | more hn st ih =>
    rename_i tk b' rem' ts
    intro s acc c stv pos tT tp hsz hst h0 hl hdr hS hoff cx N hk
    simp only [List.length_cons] at hsz
    refine codeAny_builtin F.entry_extend_loop ?_
    rw [Around.under_plainId F.plain_extend_loop _]
    show wpAny _ (Ar dp (un + 1) gd (envOf nm sc L fa cdv) outer) (pyNext (.ref lex) >>= _) _ _ s
    have N1 : News h₀ L s.heap (six w.params k t lex dl sio ds dq1 dq2 buf ((S, lstO acc c) :: rest) stv tT pos tp) := news_sub N (fun q hq => by simp only [six, List.mem_cons] at hq ⊢; rcases hq with h | h | h | h | h | h | h | h <;> simp [h])
    refine wpAny_bind (pyNext_some hn hst ⟨n1, n2, n3, n4, n5, n6⟩ ?_ h0 hl hbl hdr ⟨cx.B, cx.F, cx.X, cx.T, rfl, hke⟩ N1 hd hu fun h' tk' tt stv' pos' tT' tp' st' F' N' dr' p0' pl' => ?_)
    · intro q hq
      simp only [List.mem_cons] at hq
      rcases hq with rfl | rfl | rfl | hq
      · exact hoff _ (.head _)
      · exact hoff _ (.tail _ (.head _))
      · exact ⟨fun z => hS (lex, instObj 759 dl) (.head _) z.symm, fun z => hS _ (.tail _ (.head _)) z.symm, fun z => hS _ (.tail _ (.tail _ (.head _))) z.symm, fun z => hS _ (.tail _ (.tail _ (.tail _ (.head _)))) z.symm⟩
      · exact hoff _ (.tail _ (.tail _ hq))
    · have N2 : News h₀ L h' ((S, lstO acc c) :: six w.params k t lex dl sio ds dq1 dq2 buf rest stv' tT' pos' tp') := news_sub N' (fun q hq => by simp only [six, List.mem_cons] at hq ⊢; rcases hq with h | h | h | h | h | h | h | h <;> simp [h])
      have hS' : ∀ p ∈ (six w.params k t lex dl sio ds dq1 dq2 buf rest stv' tT' pos' tp'), p.1 ≠ S := fun q hq => by
        simp only [six, List.mem_cons] at hq
        rcases hq with rfl | rfl | rfl | rfl | rfl | rfl | hq
        · exact hS _ (.head _)
        · exact hS (dl, dictOf (lexD w.params k t sio dq1 dq2 stv (Str.ofString "") tT) 19) (.tail _ (.head _))
        · exact hS _ (.tail _ (.tail _ (.head _)))
        · exact hS (ds, dictOf (sioD w.params k t buf pos tp) 3) (.tail _ (.tail _ (.tail _ (.head _))))
        · exact hS _ (.tail _ (.tail _ (.tail _ (.tail _ (.head _)))))
        · exact hS _ (.tail _ (.tail _ (.tail _ (.tail _ (.tail _ (.head _))))))
        · exact hS _ (.tail _ (.tail _ (.tail _ (.tail _ (.tail _ (.tail _ hq))))))
      have hS0 := (N2 _ (.head _)).1
      show wpAny _ _ (updateSeq S (·.push (.str tk tt)) >>= _) _ _ _
      have hz : 1000 ≤ sizeLine := by decide +kernel
      have hz1 : acc.size ≤ sizeLine := by omega
      have hz2 : (acc.push (Value.str tk tt)).size ≤ sizeLine + 1 := by rw [Array.size_push]; omega
      refine wpAny_bind (wpAny_updateSeq hS0 rfl (wpAny_pure ⟨plainId_quiet F.plain_extend_loop _, ?_⟩) hz1 hz2)
      obtain ⟨F3, N3⟩ := upd_head (f := Obj.mapSeq (·.push (.str tk tt))) F' N2 hS' rfl
      refine ih (acc := acc.push (.str tk tt)) (by rw [Array.size_push]; omega) st' p0' pl' dr' hS' hoff ⟨cx.B, F3, cx.X, cx.T, cx.XB, cx.TB, cx.D⟩ N3 fun h₀'' h'' tk'' vs c'' stv'' pos'' tT'' tp'' T'' cx'' N'' hv => ?_
      refine hk _ _ _ (.str tk tt :: vs) c'' stv'' pos'' tT'' tp'' T'' cx'' ?_ (.cons _ _ hv)
      rw [show acc ++ (Value.str tk tt :: vs).toArray = acc.push (.str tk tt) ++ vs.toArray by simp]
      exact N''
end
theorem no_len {h : Heap} {prog : Program} {w : World} (X : (Mine.KK w.params).In h) : Looks (model prog w) h (typeLookup (.ref 759) "__len__") none := Looks.of_peek X (by kernel_rfl)
theorem no_hint {h : Heap} {prog : Program} {w : World} (X : (Mine.KK w.params).In h) : Looks (model prog w) h (typeLookup (.ref 759) "__length_hint__") none := Looks.of_peek X (by kernel_rfl)
local macro_rules | `(tactic| k_room) => `(tactic| (refine Nat.lt_of_le_of_lt ?_ (show (_ : Nat) + 40 < recursionLimit by assumption); (try simp only [depth_under_make, depth_under_kw, depth_in1, depth_deeper, depth_caller]); (try dsimp only [Ar]); omega))
section
variable {w : World} {p : Program} {loose : List Str} {mean : ExcName → Option Value} {mg mb : Str → Option Value} {dp un : Nat} {gd : Option (List Code)} {nm : Str} {sc : Scope} {fa : Addr} {cdv : Value} {outer : List Env} {A₀ : Around} {base h₀ : Heap} {L : Addr} {m : Str → Option Value} {s : Shared} {Q E : Value → Shared → Prop} {R : Result → Shared → Prop}
    {lex dl sio ds dq1 dq2 : Addr} {k t : Nat → Tok} {buf : Str} {rest news : List (Addr × Obj)} {stv : Value} {tT tp : Tok} {pos : Int} {b : Bool} {rem : List Nat} {outs : List Str} {od : Obj}
set_option maxHeartbeats 4000000 in
theorem iter_lex (cx : Cx (Mine.KK w.params) p loose mean mg mb A₀ (envOf nm sc L fa cdv) outer base h₀ L m s.heap) (N : News h₀ L s.heap ((lex, instObj 759 dl) :: (dl, od) :: news)) (hd : dp + 40 < recursionLimit)
    (h : ∀ h' tk', Fr h₀ L h' m → News h₀ L h' ((lex, instObj 759 dl) :: (dl, od) :: news) → Q (.ref lex) { s with heap := h', toks := tk' }) :
    wpAny (model pw w) (Ar dp un gd (envOf nm sc L fa cdv) outer) (pyIter (.ref lex)) Q E s := by
  refine owit_iter cx.F cx.X (inst_lex N (.head _) (.tail _ (.head _))) lex_look.2.2.1 lex_look.2.2.2 ?_
  obtain ⟨B, F, X, T, hf, hke⟩ := cx
  refine wpAny_call ?_
  k_dflt (refine' code_def ?k1 ?k2 ?k3 ?k4 ?k5 ?kA ?kF ?kK ?k6 ?k7 ?k8 ?k9 ?kB ?_ ?c2 ?c3 ?c4 ?c5; (case kA => exact rfl); (case kF => assumption); (case kK => assumption); (case k1 => k_asm); (case k2 => k_asm); (case k3 => k_asm); (case k4 => k_asm); (case k5 => k_asm); (case k6 => k_is); (case k7 => k_is); (case k8 => k_room); (case k9 => first | exact BindsTo.of_eq rfl | exact binds_K (by k_in) rfl (by k_is) rfl rfl rfl); (case c5 => decide); (case kB => exact locs rfl); (case c2 => exact rfl); (case c3 => exact rfl); (case c4 => exact rfl); k_whole; intro g L1 h1 FG F1 N1 B1 X1 T1; (try dsimp only); (try k_lift B1); (try k_fold))
  iterate 5 walk1
  (rename News h₀ L _ _ => N9; rename Fr h₀ L _ _ => F9; exact owit_it F9 X (inst_lex N9 (.head _) (.tail _ (.head _))) lex_look.1 (h _ _ F9 N9))
theorem list_lex (st : Steps b rem outs) (hst : StV b stv) (hne : Ne4 lex dl sio ds) (hoff : Off4 lex dl sio ds ((dq1, dqObj) :: (dq2, dqObj) :: rest)) (h0 : 0 ≤ pos) (hl : pos ≤ (buf.length : Int)) (hbl : buf.length < 500) (hdr : buf.cps.toList.drop pos.toNat = rem) (ho : outs.length < 900)
    (cx : CxS (Mine.KK w.params) p loose mean mg mb A₀ outer base h₀ L m s.heap) (hke : sc.kind = .function) (N : News h₀ L s.heap (six w.params k t lex dl sio ds dq1 dq2 buf rest stv tT pos tp))
    (hd : dp + 40 < recursionLimit) (hu : un + 410 < cLine)
    (h : ∀ S h₀' h' tk' vs c' stv' pos' tT' tp', KtsTurn (outer.filterMap (·.frame)) h₀ h₀' → CxS (Mine.KK w.params) p loose mean mg mb A₀ outer base h₀' L m h' → News h₀' L h' ((S, lstO vs.toArray c') :: six w.params k t lex dl sio ds dq1 dq2 buf rest stv' tT' pos' tp') → StrsAre vs outs → (∀ q ∈ six w.params k t lex dl sio ds dq1 dq2 buf rest stv tT pos tp, q.1 < S) → Q (.ref S) { s with heap := h', toks := tk' }) :
    wpAny (model pw w) (Ar dp un gd (envOf nm sc L fa cdv) outer) (call (.type "list") [.ref lex]) Q E s := by
  refine callType_codes (Q₁ := fun obj s₁ => obj = .ref s.heap.objs.size ∧ s₁ = { s with heap := s.heap.push (lstO #[] 0) }) F.called_list (F.typeCall_list_1 _) F.entry_list_init (code_list_new _ ⟨rfl, rfl⟩) fun obj s₁ h₁ => ?_
  obtain ⟨rfl, rfl⟩ := h₁
  have F1 := cx.F.push (lstO #[] 0)
  have N1 := N.push cx.F (lstO #[] 0)
  have hlt : ∀ q ∈ six w.params k t lex dl sio ds dq1 dq2 buf rest stv tT pos tp, q.1 < s.heap.objs.size := fun q hq => Heap.lt_size (N q hq).1
  generalize hSe : s.heap.objs.size = S at F1 N1 hlt ⊢
  have hS : ∀ q ∈ six w.params k t lex dl sio ds dq1 dq2 buf rest stv tT pos tp, q.1 ≠ S := fun q hq => Nat.ne_of_lt (hlt q hq)
  have hS1 := (N1 _ (.head _)).1
  refine ⟨⟨_, hS1, rfl⟩, F.args_list_init_2 _ _, ?_⟩
  show wpAny _ (Ar dp (un + 1 + 1) gd (envOf nm sc L fa cdv) outer) (do let old ← Builtin.List.listItems (.ref S); Builtin.List.listUpdate (.ref S) (fun _ => #[]); letGo old.toList.reverse; Builtin.List.listExtendWith (.ref S) (.ref lex) .none) _ _ _
  refine wpAny_bind ?_
  unfold Builtin.List.listItems
  refine wpAny_bind (wpAny_seqItems hS1 rfl (wpAny_pure ?_))
  show wpAny _ _ (updateSeq S (fun _ => #[]) >>= fun _ => letGo (#[] : Array Value).toList.reverse >>= fun _ => Builtin.List.listExtendWith (.ref S) (.ref lex) .none) _ _ _
  refine wpAny_bind (wpAny_updateSeq hS1 rfl ?_)
  obtain ⟨F2, N2⟩ := upd_head (f := Obj.mapSeq (fun _ => (#[] : Array Value))) F1 N1 hS rfl
  refine wpAny_bind (wpAny_letGo ?_)
  unfold Builtin.List.listExtendWith
  have I2 := inst_lex N2 (.tail _ (.head _)) (.tail _ (.tail _ (.head _)))
  refine wpAny_bind (I2.type.here ?_)
  have e1 : Builtin.List.listSameRef (.ref S) (.ref lex) = false := by
    have : S ≠ lex := fun z => hS _ (.head _) z.symm
    simp [Builtin.List.listSameRef, this]
  have e2 : (Value.ref 759 == Value.type "list") = false := by decide
  have e3 : (Value.ref 759 == Value.type "tuple") = false := by decide
  simp only [e1, e2, e3, Bool.or_false, Bool.false_eq_true, if_false]
  have sw : ∀ {o : Obj} {q : Addr × Obj}, q ∈ (lex, instObj 759 dl) :: (dl, dictOf (lexD w.params k t sio dq1 dq2 stv (Str.ofString "") tT) 19) :: (S, o) :: (sio, instObj 624 ds) :: (ds, dictOf (sioD w.params k t buf pos tp) 3) :: (dq1, dqObj) :: (dq2, dqObj) :: rest ↔ q ∈ (S, o) :: six w.params k t lex dl sio ds dq1 dq2 buf rest stv tT pos tp := by
    intro o q
    simp only [six, List.mem_cons]
    constructor
    · rintro (h | h | h | h) <;> simp [h]
    · rintro (h | h | h | h) <;> simp [h]
  refine wpAny_bind (iter_lex ⟨cx.B, F2, cx.X, cx.T, rfl, hke⟩ (news_sub N2 fun q hq => sw.mp hq) hd fun h3 tk3 F3 N3 => ?_)
  have N3' := news_sub N3 (fun q hq => sw.mpr hq)
  have I3 := inst_lex N3 (.head _) (.tail _ (.head _))
  refine wpAny_bind (wpAny_holding ?_)
  unfold Builtin.List.listLengthHint specialOf
  refine wpAny_bind (wpAny_bind (I3.type.here ((no_len (cx.X.keeps F3.keep)).here ?_)))
  show wpAny _ _ ((do let t ← typeOf (Value.ref lex); typeLookup t (Str.ofString "__length_hint__")) >>= _) _ _ _
  refine wpAny_bind (wpAny_bind (I3.type.here ((no_hint (cx.X.keeps F3.keep)).here ?_)))
  refine wpAny_pure ?_
  show wpAny _ _ (rule "list.extend.makes-room" >>= fun _ => Builtin.List.listTouch (.ref S) >>= fun _ => again (.builtin "list.extend.loop" ⟨[.ref S, .ref lex, .none], []⟩)) _ _ _
  refine wpAny_bind (wpAny_rule ?_)
  refine wpAny_bind ?_
  show wpAny _ _ (updateSeq S (·.push .none) >>= fun _ => updateSeq S (·.pop)) _ _ _
  refine wpAny_bind (wpAny_updateSeq (N3' _ (.head _)).1 rfl ?_)
  obtain ⟨F4, N4⟩ := upd_head (f := Obj.mapSeq (·.push Value.none)) F3 N3' hS rfl
  refine wpAny_updateSeq (hz := by seq_fits) (N4 _ (.head _)).1 rfl ?_
  obtain ⟨F5, N5⟩ := upd_head (f := Obj.mapSeq (·.pop)) F4 N4 hS rfl
  refine wpAny_pure ⟨plainId_quiet F.plain_extend_loop _, ?_⟩
  refine loop_lex (un := un + 1) hne S .none hbl hke hd (by omega) outs st (acc := #[]) (by simp; omega) hst h0 hl hdr hS hoff ⟨cx.B, F5, cx.X, cx.T, cx.XB, cx.TB, cx.D⟩ N5 fun h₀' h' tk' vs c' stv' pos' tT' tp' T' cx' N' hv => ?_
  refine ⟨rfl, h _ _ _ _ vs c' stv' pos' tT' tp' T' cx' ?_ hv hlt⟩
  rw [show (#[] : Array Value) ++ vs.toArray = vs.toArray by simp] at N'
  exact N'
end
end Mine
namespace Mine
theorem clear6 : True := by first | (walk1; fail) | exact trivial
def SpDone (P : Prop) : Prop := P
theorem to_sp {P : Prop} (h : SpDone P) : P := h
local macro_rules | `(tactic| k_room) => `(tactic| (refine Nat.lt_of_le_of_lt ?_ (show (_ : Nat) + 60 < recursionLimit by assumption); (try simp only [depth_under_make, depth_under_kw, depth_in1, depth_deeper, depth_caller]); (try dsimp only [Ar]); omega))
local macro_rules | `(tactic| k_all) => `(tactic| first
  | assumption | exact tail_ne (by assumption) | exact tail_ne (And.right (by assumption)) | exact tail_ne (And.right (And.right (by assumption))) | exact tail_ne (And.right (And.right (And.right (by assumption)))))
set_option hygiene false in
local macro_rules | `(tactic| walk_at "call ref") => `(tactic| (k_here; (with_reducible show wpAny _ _ (call (Value.ref 759) _ _) _ _ _); k_dflt (refine' lex_spec ?hll ?cx ?N ?hd ?_; (case N => k_asm); (case hll => omega); (case cx => exact ⟨by k_asm, by k_asm, by k_asm, by k_asm, rfl, rfl⟩); (case hd => k_room); k_whole; intro lex dl sio ds dq1 dq2 h9 tk9 k9 t9 tp9 tS9 tT9 F9 N9 l1 l2 l3 l4 l5 l6; (try k_lt l1); (try dsimp only); (try k_fold))))
local macro_rules | `(tactic| walk_at "call type:list") => `(tactic| (k_here; refine to_sp ?_))
section
variable {w : World} {p : Program} {loose : List Str} {mean : ExcName → Option Value} {mg mb : Str → Option Value} {dp un : Nat} {gd : Option (List Code)} {cn : Str} {cs : Scope} {a : Addr} {ccd : Value} {outer : List Env} {A₀ : Around} {base g₀ h₀ : Heap} {L : Addr} {m : Str → Option Value} {s : Shared} {R : Result → Shared → Prop}
  {line : Str} {tl : Tok} {outs : List Str} {news : List (Addr × Obj)}
set_option maxHeartbeats 16000000 in
theorem split_spec (st : Steps false line.cps.toList outs) (hll : line.length < 500) (ho : outs.length < 900) (cx : CxS (Mine.KK w.params) p loose mean mg mb A₀ outer base h₀ L m s.heap) (hck : cs.kind = .function) (T0 : KtsTurn (outer.filterMap (·.frame)) g₀ h₀)
    (N : News h₀ L s.heap news) (hd : dp + 60 < recursionLimit) (hu : un + 500 < cLine)
    (h : ∀ S h₀' h' tk' vs c', KtsTurn (outer.filterMap (·.frame)) g₀ h₀' → CxS (Mine.KK w.params) p loose mean mg mb A₀ outer base h₀' L m h' → News h₀' L h' ((S, lstO vs.toArray c') :: news) → StrsAre vs outs → (∀ q ∈ news, q.1 < S) → R (.ok (.ret (.ref S))) { s with heap := h', toks := tk' }) :
    codeAny (model pw w) (Ar dp un gd (envOf cn cs L a ccd) outer) (.call (.ref 771) ⟨[.str line tl], []⟩) R s := by
  obtain ⟨B, F, X, T, XB, TB, D⟩ := cx
  k_dflt (refine' code_defS ?k1 ?k2 ?k3 ?k4 ?k5 ?XB ?TB ?D ?T0 ?kA ?k6 ?k7 ?k8 ?k9 ?kB ?_ ?cK ?c2 ?c3 ?c4 ?c5; (case kA => exact rfl); (case k2 => k_asm); (case k1 => k_asm); (case XB => assumption); (case TB => assumption); (case D => assumption); (case T0 => assumption); (case k3 => k_asm); (case k4 => k_asm); (case k5 => k_asm); (case k6 => k_is); (case k7 => k_is); (case k8 => k_room); (case k9 => exact binds_K (X.keeps F.keep) rfl (by k_is) rfl rfl rfl); (case cK => assumption); (case c5 => decide); (case kB => exact locs rfl); (case c2 => exact rfl); (case c3 => exact rfl); (case c4 => exact rfl); k_whole; intro g L1 h1 FG F1 N1 B1 X1 T1 D1; (try dsimp only); (try k_lift B1); (try k_fold))
  k_steps
  unfold SpDone
  rename News g L1 _ _ => N9
  rename Fr g L1 _ _ => F9
  have hne : Ne4 lex dl sio ds := by refine ⟨?_, ?_, ?_, ?_, ?_, ?_⟩ <;> (apply neN; omega)
  have hoff : Off4 lex dl sio ds ((dq1, dqObj) :: (dq2, dqObj) :: news) := by
    intro q hq
    simp only [List.mem_cons] at hq
    rcases hq with rfl | rfl | hq
    · refine ⟨?_, ?_, ?_, ?_⟩ <;> (apply neN; dsimp only; omega)
    · refine ⟨?_, ?_, ?_, ?_⟩ <;> (apply neN; dsimp only; omega)
    · have z : @LT.lt Nat _ q.1 dl := l1 q hq
      refine ⟨?_, ?_, ?_, ?_⟩ <;> (apply neN; omega)
  refine list_lex (k := k9) (t := fun n => if n = 0 then tk else t9 n) (tp := tp9) (tT := tT9) (stv := .str (Str.ofString " ") tS9) (buf := line) (rest := news) (pos := 0) st (.inr ⟨rfl, tS9, rfl⟩) hne hoff (by omega) (by omega) hll rfl ho ⟨B1, F9, X1, T1, XB, TB, D1⟩ rfl
    (news_sub N9 ?sub) (by show dp + 1 + 40 < _; omega) (by show un + _ + 410 < _; omega) ?_
  case sub =>
    intro q hq
    simp only [six, List.mem_cons] at hq
    rcases hq with h | h | h | h | h | h | h
    · subst h; exact .tail _ (.tail _ (.tail _ (.tail _ (.head _))))
    · subst h; exact .tail _ (.tail _ (.tail _ (.tail _ (.tail _ (.head _)))))
    · subst h; exact .tail _ (.tail _ (.head _))
    · subst h; exact .tail _ (.tail _ (.tail _ (.head _)))
    · subst h; exact .tail _ (.head _)
    · subst h; exact .head _
    · exact .tail _ (.tail _ (.tail _ (.tail _ (.tail _ (.tail _ h)))))
  intro S g' h' tk' vs c' stv' pos' tT' tp' Tg cx' N' hv hlt
  exact leaveS_r cx'.F N' Tg fun h₀'' Tt Fh Nh Bh Xh Th Dh => h S h₀'' _ _ vs c' Tt ⟨Bh, Fh, Xh, Th, XB, TB, Dh⟩
    (news_sub Nh fun q hq => (List.mem_cons.mp hq).elim (fun e => e ▸ .head _) fun e => .tail _ (.tail _ (.tail _ (.tail _ (.tail _ (.tail _ (.tail _ e)))))))
    hv fun q hq => hlt q (.tail _ (.tail _ (.tail _ (.tail _ (.tail _ (.tail _ hq))))))
end
end Mine
namespace Mine
theorem clear7 : True := by first | (walk1; fail) | exact trivial
def LoneBack (R : Result → Shared → Prop) (v : Value) (s' : Shared) : Prop := R (.ok (.ret v)) s'
/-- a def called from anywhere: the whole heap is its ground, and stays -/
theorem code_lone {prog : Program} {w : World} {A : Around} {s : Shared} {K : Frag} {mg mb : Str → Option Value} {p : Program} {loose : List Str} {mean : ExcName → Option Value} {R : Result → Shared → Prop} {name qual : Str} {params : Arguments} {body : List Stmt} {scope : Scope} {dV kV doc pm cdv ct oc : Value} {an od : Option Addr} {osl : Array (Option Value)} {f : Addr} {args : Args} {binds : List (Str × Value)}
    (X : K.In s.heap) (T : Top p loose mean mg mb s.heap)
    (ho : K.lookup f = some ⟨oc, od, .func (fnOf name qual params body scope dV kV doc pm an cdv ct), osl⟩) (hcd : codeIn K cdv qual = true) (hroom : A.depth < recursionLimit)
    (hbind : BindsTo s (fnOf name qual params body scope dV kV doc pm an cdv ct) args binds) (hloc : ∀ y ∈ binds, scope.names.lookup y.1 = some .local)
    (h : ∀ h₁, Fr s.heap s.heap.objs.size h₁ (fun y => binds.reverse.lookup y) → News s.heap s.heap.objs.size h₁ [] →
      wpAny (model prog w) (A.deeper (envOf qual scope s.heap.objs.size f cdv)) (execs body (envOf qual scope s.heap.objs.size f cdv))
        (fun fl s' => LoneBack R (match fl with | .ret v => v | _ => .none) s')
        (fun e s' => wpAny (model prog w) (A.deeper (envOf qual scope s.heap.objs.size f cdv)) (leaving (envOf qual scope s.heap.objs.size f cdv) e) (fun _ s'' => R (.error e) s'') (fun e' s'' => R (.error e') s'') s')
        { s with heap := h₁, toks := s.toks + binds.length })
    (hco : scope.isCoroutine = false) (hgen : scope.isGenerator = false) (hk : scope.kind = .function)
    (hcell : ∀ x ∈ scope.names, x.2 ≠ .cell) : codeAny (model prog w) A (.call (.ref f) args) R s :=
  codeAny_call_def (fd := fnOf name qual params body scope dV kV doc pm an cdv ct) (body := body) (binds := binds) hroom (X _ _ ho) rfl T.nolimit (codeRec_of X hcd) rfl hbind hcell hloc (fun h₁ hns hk₁ =>
    h h₁ ⟨hns, hk₁, Nat.le_refl _⟩ (fun p hp => nomatch hp)) hco hgen hk
abbrev pieces : List Str := [Str.ofString "", Str.ofString "a", Str.ofString "'", Str.ofString "b", Str.ofString "\"", Str.ofString " ", Str.ofString "#", Str.ofString "Z"]
abbrev wordList : List Str := [⟨#[]⟩, ⟨#[97]⟩, ⟨#[39]⟩, ⟨#[98]⟩, ⟨#[34]⟩, ⟨#[32]⟩, ⟨#[35]⟩, ⟨#[90]⟩] ++ ([97, 39, 98, 34, 32, 35, 90].flatMap fun a => [97, 39, 98, 34, 32, 35, 90].map fun b => ⟨#[a, b]⟩)
def safe (x : Str) : Bool := x.cps.toList.all fun c => [97, 98, 90].contains c
def isNo : Option Fin → Bool
  | some (.done (.ret .none)) => true
  | _ => false
def isRef : Option Fin → Bool
  | some (.done (.ret (.ref _))) => true
  | _ => false
theorem isNo_eq {o : Option Fin} (h : isNo o = true) : o = some (.done (.ret .none)) := by
  unfold isNo at h; split at h
  · rfl
  · cases h
theorem isRef_eq {o : Option Fin} (h : isRef o = true) : ∃ r, o = some (.done (.ret (.ref r))) := by
  unfold isRef at h; split at h
  · exact ⟨_, rfl⟩
  · cases h
def sawTwo (K : Frag) (S : Setting) (a b : Addr) (t : Sem Fin) : Bool := match peekA K S t with
  | some (o, g) => !o.isFreed && (match peekA K S (g a) with
    | some (o2, g2) => !o2.isFreed && isRef (peek K S (g2 b))
    | none => false)
  | none => false
theorem search_all (prog : Program) (w : World) (t : Tok) (a b : Addr) : (wordList.all fun x => bif safe x then isNo (peek (Mine.KK w.params) ⟨prog, w.params⟩ (Builtin.«re.Pattern.search» ⟨[.ref 76, .str x t], []⟩)) else sawTwo (Mine.KK w.params) ⟨prog, w.params⟩ a b (Builtin.«re.Pattern.search» ⟨[.ref 76, .str x t], []⟩)) = true := by kernel_rfl
theorem search_call (prog : Program) (w : World) (x : Str) (t : Tok) : peek (Mine.KK w.params) ⟨prog, w.params⟩ (callAny (.ref 779) ⟨[.str x t], []⟩) = some (.again (.builtin "re.Pattern.search" ⟨[.ref 76, .str x t], []⟩)) := by kernel_rfl
theorem search_keep (prog : Program) (w : World) : peek (Mine.KK w.params) ⟨prog, w.params⟩ (keeperOf (.ref 779)) = some .machine := by kernel_rfl
theorem entry_search : entryFor table "re.Pattern.search" = some Builtin.«re.Pattern.search» := entryFor_of_tree (by kernel_rfl)
theorem plain_search : plainId "re.Pattern.search" = true := by decide +kernel
section
variable {prog : Program} {w : World} {A : Around} {E : Value → Shared → Prop} {s : Shared} {h₀ : Heap} {L : Addr} {m : Str → Option Value} {news : List (Addr × Obj)} {Q : Value → Shared → Prop} {x : Str} {t : Tok}
theorem search_no (F : Fr h₀ L s.heap m) (X₀ : (Mine.KK w.params).In h₀) (hx : x ∈ wordList) (hs : safe x = true) (h : Q .none s) : wpAny (model prog w) A (call (.ref 779) [.str x t]) Q E s := by
  have X := X₀.keeps F.keep
  have e := List.all_eq_true.mp (search_all prog w t 0 0) x hx
  rw [hs] at e
  refine wpAny_call (codeAny_of_tree ?_)
  show wpAny _ _ (callAny (.ref 779) _) _ _ _
  refine (Looks.of_peek X (search_call (model prog w).prog w x t)).at (And.intro (plainId_quiet plain_search _) (codeAny_builtin entry_search ?_))
  rw [Around.under_plainId plain_search _]
  exact (Looks.of_peek (M := model prog w) X (isNo_eq e)).at h
theorem search_yes (F : Fr h₀ L s.heap m) (X₀ : (Mine.KK w.params).In h₀) (N : News h₀ L s.heap news) (hx : x ∈ wordList) (hs : safe x = false)
    (h : ∀ r h', Fr h₀ L h' m → News h₀ L h' news → Q (.ref r) { s with heap := h' }) : wpAny (model prog w) A (call (.ref 779) [.str x t]) Q E s := by
  have X := X₀.keeps F.keep
  refine wpAny_call (codeAny_of_tree ?_)
  show wpAny _ _ (callAny (.ref 779) _) _ _ _
  refine (Looks.of_peek X (search_call (model prog w).prog w x t)).at (And.intro (plainId_quiet plain_search _) (codeAny_builtin entry_search ?_))
  rw [Around.under_plainId plain_search _]
  have key : ∀ a b, sawTwo (Mine.KK w.params) ⟨prog, w.params⟩ a b (Builtin.«re.Pattern.search» ⟨[.ref 76, .str x t], []⟩) = true := fun a b => by
    have e := List.all_eq_true.mp (search_all prog w t a b) x hx
    rw [hs] at e
    exact e
  cases e1 : peekA (Mine.KK w.params) ⟨prog, w.params⟩ (Builtin.«re.Pattern.search» ⟨[.ref 76, .str x t], []⟩) with
  | none => have := key 0 0; unfold sawTwo at this; rw [e1] at this; cases this
  | some og =>
    obtain ⟨o, g⟩ := og
    have f1 : o.isFreed = false := by
      have := key 0 0; unfold sawTwo at this; rw [e1] at this
      simp only [Bool.and_eq_true, Bool.not_eq_true'] at this
      exact this.1
    refine wp_of_peekA (M := model prog w) F N X f1 _ g e1 fun h1 F1 N1 _ => ?_
    cases e2 : peekA (Mine.KK w.params) ⟨prog, w.params⟩ (g s.heap.objs.size) with
    | none =>
      have := key s.heap.objs.size 0; unfold sawTwo at this; rw [e1] at this
      simp only [e2, Bool.and_false] at this
      cases this
    | some og2 =>
      obtain ⟨o2, g2⟩ := og2
      have hb : ∀ b, o2.isFreed = false ∧ isRef (peek (Mine.KK w.params) ⟨prog, w.params⟩ (g2 b)) = true := fun b => by
        have := key s.heap.objs.size b; unfold sawTwo at this; rw [e1] at this
        simp only [e2, Bool.and_eq_true, Bool.not_eq_true'] at this
        exact this.2
      refine wp_of_peekA (M := model prog w) (s := { s with heap := h1 }) F1 N1 (X₀.keeps F1.keep) (hb 0).1 _ g2 e2 fun h2 F2 N2 _ => ?_
      obtain ⟨r, e3⟩ := isRef_eq (hb h1.objs.size).2
      exact (Looks.of_peek (M := model prog w) (X₀.keeps F2.keep) e3).at (h r h2 F2 (news_sub N2 fun q hq => .tail _ (.tail _ hq)))
end
local macro_rules | `(tactic| k_room) => `(tactic| (refine Nat.lt_of_le_of_lt ?_ (show (_ : Nat) + 10 < recursionLimit by assumption); (try simp only [depth_under_make, depth_under_kw, depth_in1, depth_deeper, depth_caller]); omega))
theorem callWith_779 {prog : Program} {w : World} {A : Around} {E : Value → Shared → Prop} {s : Shared} {env : Env} {pos : Pos} {first : List Value} {Q : Value → Shared → Prop} {h₀ : Heap} {e : Expr} {rest : List Expr} (_X : (Mine.KK w.params).In h₀)
    (h : wpAny (model prog w) A (spliced (backTo pos (starEach (e :: rest) env))) (fun vs s₁ => (Mine.KK w.params).In s₁.heap ∧ wpAny (model prog w) A (call (.ref 779) (first ++ vs)) Q E s₁) E s)
    (he : starEach (e :: rest) env = (false, eval e env) :: starEach rest env := by rfl) (hplain : (backTo pos (starEach rest env)).any (·.1) = false := by rfl) :
    wpAny (model prog w) A (callWith pos (.ref 779) first (backTo pos (starEach (e :: rest) env)) []) Q E s := by
  rw [he] at h ⊢
  exact callWith_of (by show ((false || (backTo pos (starEach rest env)).any (·.1)) || false) = false; rw [hplain]; rfl) (fun h X => ⟨.machine, .inr (.inl rfl), Looks.of_peek X (search_keep _ w)⟩) (evalArgs_plain h)
local macro_rules | `(tactic| walk_at "callWith ref") => `(tactic| (k_here; (with_reducible show wpAny _ _ (callWith _ (Value.ref 779) _ _ _) _ _ _); k_dflt (refine' callWith_779 ?X ?_; (case X => k_asm); k_whole)))
local macro_rules | `(tactic| walk_at "call ref") => `(tactic| (k_here; (with_reducible show wpAny _ _ (call (Value.ref 779) _ _) _ _ _); k_dflt (first
  | (refine' search_no ?F ?X ?hx ?hs ?_; (case F => k_asm); (case X => k_asm); (case hx => assumption); (case hs => assumption); k_whole)
  | (refine' search_yes ?F ?X ?N ?hx ?hs ?_; (case F => k_asm); (case X => k_asm); (case N => k_asm); (case hx => assumption); (case hs => assumption); k_whole; intro r' h' F' N'; (try dsimp only); (try k_fold)))))
section
variable {w : World} {p : Program} {loose : List Str} {mean : ExcName → Option Value} {mg mb : Str → Option Value} {A : Around} {s : Shared} {R : Result → Shared → Prop} {x : Str} {t : Tok}
def quoted (x : Str) : Str := if (x.length : Int) = 0 then Str.ofString "''" else if safe x = true then x else (Str.ofString "'" ++ Txt.replace x (Str.ofString "'") (Str.ofString "'\"'\"'")) ++ Str.ofString "'"
theorem rep_len : (wordList.all fun x => decide ((Txt.replace x (Str.ofString "'") (Str.ofString "'\"'\"'")).length ≤ 20)) = true := by decide +kernel
theorem lone_q {R : Result → Shared → Prop} {x y : Str} {t' : Tok} {s' : Shared} (e : quoted x = y) (z : R (.ok (.ret (.str (quoted x) t'))) s') : LoneBack R (.str y t') s' := by
  unfold LoneBack; rw [← e]; exact z
set_option maxHeartbeats 8000000 in
theorem quote_spec (hd : A.depth + 10 < recursionLimit) (X : (Mine.KK w.params).In s.heap) (T : Top p loose mean mg mb s.heap) (hx : x ∈ wordList) (hl : x.length < 100)
    (h : ∀ h' tk' t', (∀ b o, s.heap.get? b = some o → h'.get? b = some o) → R (.ok (.ret (.str (quoted x) t'))) { s with heap := h', toks := tk' }) :
    codeAny (model pw w) A (.call (.ref 786) ⟨[.str x t], []⟩) R s := by
  k_dflt (refine' code_lone ?k3 ?k5 ?k6 ?k7 ?k8 ?k9 ?kB ?_ ?c2 ?c3 ?c4 ?c5; (case k3 => assumption); (case k5 => assumption); (case k6 => k_is); (case k7 => k_is); (case k8 => omega); (case k9 => exact BindsTo.of_eq rfl); (case c5 => decide); (case kB => exact locs rfl); (case c2 => exact rfl); (case c3 => exact rfl); (case c4 => exact rfl); k_whole; intro h1 F1 N1; (try dsimp only); (try k_fold))
  have hrl : (Txt.replace x (Str.ofString "'") (Str.ofString "'\"'\"'")).length ≤ 20 := of_decide_eq_true (List.all_eq_true.mp rep_len x hx)
  have q1 : (x.length : Int) = 0 → quoted x = Str.ofString "''" := fun e => if_pos e
  have q2 : (x.length : Int) ≠ 0 → safe x = true → quoted x = x := fun e f => (if_neg e).trans (if_pos f)
  have q3 : (x.length : Int) ≠ 0 → safe x = false → quoted x = (Str.ofString "'" ++ Txt.replace x (Str.ofString "'") (Str.ofString "'\"'\"'")) ++ Str.ofString "'" := fun e f => (if_neg e).trans (if_neg (by rw [f]; decide))
  cases hs : safe x
  all_goals k_steps
  all_goals show LoneBack R _ _
  all_goals (rename Fr s.heap s.heap.objs.size _ _ => F9; first
    | exact lone_q (q1 (by assumption)) (h _ _ _ F9.keep) | exact lone_q (q2 (by assumption) (by assumption)) (h _ _ _ F9.keep) | exact lone_q (q3 (by assumption) (by assumption)) (h _ _ _ F9.keep))
end
end Mine
namespace Mine
abbrev tabO (ps : Array Value) : Obj := { cls := .none, data := .fields ps }
/-- the code table of join: empty, or with the generator expression's code -/
def TabOk (pos : Pos) (ps : Array Value) : Prop := ps = #[] ∨ ∃ c' : Addr, ps = #[rawInt pos.line, rawInt pos.col, .ref c']
theorem isCode_join {h : Heap} {w : World} {ps : Array Value} (X : (Mine.KK w.params).In h) (hP : h.get? 773 = some (tabO ps)) (hps : TriplesOk ps.toList) : h.IsCode 777 773 ps ∧ h.TableAt 777 773 ps := by
  have e : ((Mine.KK w.params).lookup 777).elim False (fun o => match o with | ⟨oc, _, .fields vs, _⟩ => oc = .type "code" ∧ vs[11]? = some (.ref 773) ∧ vs.getD 11 .none = .ref 773 ∧ (∃ a b, vs.getD 18 .none = .str a b) ∧ (∃ a b, vs.getD 7 .none = .int a b) ∧ (∃ a, vs.getD 9 .none = .bool a) ∧ (∃ a b, vs.getD 10 .none = .int a b) | _ => False) := by
    exact ⟨by kernel_rfl, by kernel_rfl, by kernel_rfl, ⟨_, _, by rfl⟩, ⟨_, _, by rfl⟩, ⟨_, by rfl⟩, ⟨_, _, by rfl⟩⟩
  revert e
  cases q : (Mine.KK w.params).lookup 777 with
  | none => exact fun z => z.elim
  | some o =>
    obtain ⟨oc, od, dt, sl⟩ := o
    cases dt with
    | fields vs =>
      rintro ⟨rfl, e1, e2, ⟨a1, b1, e3⟩, ⟨a2, b2, e4⟩, ⟨a3, e5⟩, ⟨a4, b4, e6⟩⟩
      exact ⟨⟨_, vs, a1, b1, a2, b2, a3, a4, b4, _, X _ _ q, rfl, e2, e3, e4, e5, e6, hP, rfl, hps, by decide⟩, ⟨_, vs, X _ _ q, rfl, rfl, e1⟩, hP⟩
    | _ => exact fun z => z.elim
section
variable {prog : Program} {w : World} {A : Around} {E : Value → Shared → Prop} {s : Shared} {h₀ : Heap} {L : Addr} {m : Str → Option Value} {news : List (Addr × Obj)} {ps : Array Value}
theorem fr_but {P : Addr} {h h' : Heap} {o : Obj} {tl : List (Addr × Obj)} (F : Fr h₀ L h m) (N : News h₀ L h ((P, o) :: tl)) (hx : ∀ b x, b ≠ P → h.get? b = some x → h'.get? b = some x) : Fr h₀ L h' m := by
  have hP := (N _ (.head _)).2
  obtain ⟨oL, es, ep, ho, hd, r⟩ := F.ns
  exact ⟨⟨oL, es, ep, hx _ _ (fun e => hP.1 e.symm) ho, hd, r⟩, fun b x e => hx b x (fun z => by rw [z] at e; rw [hP.2] at e; cases e) (F.keep b x e), F.above⟩
theorem genCode {env : Env} {pos : Pos} {qual : Str} {scope : Scope} {Q : Value → Shared → Prop} (hc : env.code = .ref 777) (F : Fr h₀ L s.heap m) (X₀ : (Mine.KK w.params).In h₀) (N : News h₀ L s.heap ((773, tabO ps) :: news)) (hoff : ∀ p ∈ news, p.1 ≠ 773) (hps : TabOk pos ps)
    (hQ : ∀ (c' : Addr) h' tk', Fr h₀ L h' m → News h₀ L h' ((773, tabO #[rawInt pos.line, rawInt pos.col, .ref c']) :: news) → s.heap.objs.size ≤ h'.objs.size → (∀ b o, b ≠ 773 → s.heap.get? b = some o → h'.get? b = some o) → Q (.ref c') { s with heap := h', toks := tk' }) :
    wpAny (model prog w) A (genexprCode env pos qual scope) Q E s := by
  have X := X₀.keeps F.keep
  have hP := (N _ (.head _)).1
  rcases hps with rfl | ⟨c', rfl⟩
  · obtain ⟨i1, i2⟩ := isCode_join (ps := #[]) X hP trivial
    refine wpAny_genexprCodeX hc i1 i2 rfl fun c' h' tk hx hge hlt _ _ ht _ => ?_
    refine hQ c' h' tk (fr_but F N hx) (fun q hq => ?_) (Nat.le_trans hge (Nat.le_of_lt hlt)) hx
    rcases List.mem_cons.mp hq with rfl | hq
    · exact ⟨ht.2, (N _ (.head _)).2⟩
    · exact ⟨hx _ _ (hoff q hq) (N q (.tail _ hq)).1, (N q (.tail _ hq)).2⟩
  · obtain ⟨⟨o, vs, file, tf, flags, tg, inF, text, tt, op, ho, hd, h11, h2, h7, h9, h10, hop, hpd, htr, hne⟩, _⟩ := isCode_join (ps := #[rawInt pos.line, rawInt pos.col, .ref c']) X hP (by trivial)
    unfold genexprCode codeAt
    rw [hc, if_neg (show ¬ ((Value.ref 777 == Value.none) = true) from Bool.false_ne_true)]
    refine wpAny_bind (wpAny_fieldsOf ho hd ?_)
    rw [h11]
    refine wpAny_bind (wpAny_fieldsOf hop hpd ?_)
    have e : codeAmong pos (#[rawInt pos.line, rawInt pos.col, Value.ref c'] : Array Value).toList = some (.ref c') := by
      simp [codeAmong, rawInt]
    rw [e]
    exact wpAny_pure (hQ c' s.heap s.toks F N (Nat.le_refl _) fun _ _ _ e => e)
def HasB (h : Heap) : Prop := ∃ ob, h.get? 4 = some ob ∧ ob.cls = .type "module" ∧ ob.dict = some 0 ∧ ob.data = .plain
theorem HasB.keeps {h h' : Heap} (x : HasB h) (k : ∀ b o, h.get? b = some o → h'.get? b = some o) : HasB h' := let ⟨ob, a, r⟩ := x; ⟨ob, k _ _ a, r⟩
theorem nb_join (w : World) (prog : Program) {h : Heap} (X : (Mine.KK w.params).In h) : Looks (model prog w) h (nsGet 3 (Str.ofString "__builtins__")) (some (.ref 4)) := Looks.of_peek X (by kernel_rfl)
theorem bi_join (w : World) (prog : Program) {h : Heap} (X : (Mine.KK w.params).In h) (hb : HasB h) : Looks (model prog w) h (builtinsFor 3 0) 0 := by
  obtain ⟨ob, h4, hc, hd, hp⟩ := hb
  intro A Q E s k q
  unfold builtinsFor
  refine wpAny_bind ((nb_join w prog X) A _ E s k ?_)
  show wpAny _ _ (if ((4 : Addr) == builtinsNs) = true then pure 4 else _) _ _ _
  rw [if_neg (by decide)]
  refine wpAny_bind (wpAny_load (k _ _ h4) ?_)
  rw [hp, hd, hc]
  exact wpAny_pure q
variable {p : Program} {loose : List Str} {mean : ExcName → Option Value} {mg mb : Str → Option Value}
theorem gen_list {env : Env} {elt : Expr} {x y : Str} {px py : Pos} {scope : Scope} {pos : Pos} {Q : Value → Shared → Prop} {l : Addr} {vs : List Value} {c : Nat} {Fv : Nat → Value → Prop}
    (hh : A.handled = none) (hco : scope.isCoroutine = false) (hclos : closureFor scope env = pure []) (hcell : ∀ y ∈ scope.names, y.2 ≠ .cell) (h0 : scope.names.lookup (".0" : Str) = some NameKind.local)
    (hx : scope.names.lookup x = some .local) (hkind : scope.kind = .function) (hroom : A.depth < recursionLimit)
    (hc : env.code = .ref 777) (hgl : env.globals = 3) (hbu : env.builtins = 0)
    (F : Fr h₀ L s.heap m) (X₀ : (Mine.KK w.params).In h₀) (H4 : HasB h₀) (T₀ : Top p loose mean mg mb h₀) (N : News h₀ L s.heap ((773, tabO ps) :: (l, lstO vs.toArray c) :: news)) (hoff : ∀ p ∈ news, p.1 ≠ 773) (hl7 : l ≠ 773) (hps : TabOk pos ps)
    (hy : ∀ Q' : Value → Shared → Prop, Q' (.ref l) s → wpAny (model prog w) A (eval (.Name y py) env) Q' E s)
    (helt : ∀ (c' C : Addr) (A' : Around) E' (i : Nat) (v : Value) (t : Shared) m₂, A'.handled = none → A'.depth ≤ A.depth + 1 → A'.units ≤ A.units + 8 → vs[i]? = some v → Fr h₀ C t.heap m₂ → m₂ x = some v →
      wpAny (model prog w) A' (eval elt (genEnv scope [] C (.ref c') 0 env)) (fun y s₃ => Fv i y ∧ Keeps t s₃) E' t)
    (hQ : ∀ (c' a : Addr) (s₅ : Shared), Fr h₀ L s₅.heap m → News h₀ L s₅.heap ((773, tabO #[rawInt pos.line, rawInt pos.col, .ref c']) :: (l, lstO vs.toArray c) :: news) → (AllBare s.gens → AllBare s₅.gens) → s₅.os = s.os → s₅.drawn = s.drawn → s.heap.objs.size ≤ s₅.heap.objs.size →
      Gen prog w A (s.heap.objs.size - 1) a (passing (fun _ => true) vs.toArray.size 0).length (fun j y => ∃ i, (passing (fun _ => true) vs.toArray.size 0)[j]? = some i ∧ Fv i y) s₅ → Q (.ref a) s₅) :
    wpAny (model prog w) A (eval (.GeneratorExp elt [⟨.Name x px, .Name y py, [], 0⟩] scope pos) env) Q E s := by
  have hli : s.heap.IsList l vs.toArray := ⟨_, (N _ (.tail _ (.head _))).1, rfl, _, rfl⟩
  have hlt : l < s.heap.objs.size := Heap.lt_size (N _ (.tail _ (.head _))).1
  have hLlt : L < s.heap.objs.size := F.ns.lt
  have hlim := T₀.nolimit.keeps F.keep
  refine wpAny_GeneratorExp_walksQD hh hco hclos hcell h0 hx hkind hroom (hy _ (wpAny_pyIter_list hli ⟨hlim.push _, ?_⟩)) (fun _ => rfl)
  generalize hI : s.heap.objs.size = I
  have F1 := F.push { cls := .type "list_iterator", data := .fields #[.ref l, .int 0 0] }
  have N1 : News h₀ L (s.heap.push { cls := .type "list_iterator", data := .fields #[.ref l, .int 0 0] }) ((773, tabO ps) :: (I, { cls := .type "list_iterator", data := .fields #[.ref l, .int 0 0] }) :: (l, lstO vs.toArray c) :: news) := by
    have := N.push F { cls := .type "list_iterator", data := .fields #[.ref l, .int 0 0] }
    rw [hI] at this
    exact news_sub this fun q hq => by
      simp only [List.mem_cons] at hq ⊢
      rcases hq with h | h | h | h <;> simp [h]
  have hI7 : I ≠ 773 := fun e => by
    have := Heap.lt_size (N _ (.head _)).1
    rw [hI, e] at this
    exact Nat.lt_irrefl _ this
  refine genCode hc F1 X₀ N1 (fun q hq => by
    simp only [List.mem_cons] at hq
    rcases hq with rfl | rfl | hq
    · exact hI7
    · exact hl7
    · exact hoff q hq) hps fun c' h3 tk3 F3 N3 hsz3 hx3 => ?_
  dsimp only at hsz3 hx3
  rw [hgl, hbu]
  refine (bi_join w prog (X₀.keeps F3.keep) (H4.keeps F3.keep)).here ?_
  have hI3 := (N3 _ (.tail _ (.head _))).1
  have hl3 := (N3 _ (.tail _ (.tail _ (.head _)))).1
  have hIs : I < h3.objs.size := Heap.lt_size hI3
  have hlI : l ≠ I := by rw [← hI]; exact Nat.ne_of_lt hlt
  have hgI : ∀ b o, h₀.get? b = some o → b ≠ I := fun b o e z => by
    have := Heap.lt_size e
    rw [z, ← hI] at this
    exact Nat.lt_irrefl _ (Nat.lt_of_lt_of_le this (Nat.le_trans F.above (Nat.le_of_lt hLlt)))
  refine ⟨I, [I, l], [I], vs.toArray.size, _, _, (fun _ => true), Fv, rfl, (fun A' hA => Walks.list hA _ _ hlI vs.toArray), ⟨⟨_, hI3, rfl, rfl⟩, ⟨_, hl3, rfl, _, rfl⟩⟩, ?_, T₀.nolimit.keeps F3.keep, ?_, ?_, ?_⟩
  · intro b hb
    simp only [List.mem_cons, List.not_mem_nil, or_false] at hb
    rcases hb with rfl | rfl
    · exact hIs
    · exact Heap.lt_size hl3
  · intro hb
    simp only [List.mem_cons, List.not_mem_nil, or_false] at hb
    obtain ⟨_, hns, _⟩ := T₀.nolimit
    exact hgI _ _ (hns.choose_spec.choose_spec.choose_spec.1) hb
  · intro href hhref
    have keep : ∀ (t : Shared), (∀ b ∈ List.range h3.objs.size, b ∉ [I] → ∀ o, href.get? b = some o → t.heap.get? b = some o) → ∀ b o, h₀.get? b = some o → t.heap.get? b = some o := fun t hk b o e =>
      hk b (List.mem_range.mpr (Heap.lt_size (F3.keep b o e))) (by simp only [List.mem_cons, List.not_mem_nil, or_false]; exact hgI b o e) o (hhref b o (F3.keep b o e))
    refine ⟨fun A' E' i v t m₂ _ _ _ _ _ _ _ => wpAny_pure ⟨rfl, t.heap, t.toks, rfl, fun _ _ e => e⟩, fun A' E' i v t m₂ hA hD hU hP _ hns hm hk => ?_⟩
    exact helt c' _ A' E' i v t m₂ hA hD hU (by simpa using hP) ⟨hns, keep t hk, Nat.le_trans F3.above (Nat.le_of_lt F3.ns.lt)⟩ hm
  · intro a h5 tk gs hgb hag hsz5 hk5 W hat
    refine hQ c' a _ (F3.keeps hk5) (fun q hq => ?_) (fun G => G.push hgb) rfl rfl ?_ ?_
    · have hq' : q ∈ (773, tabO #[rawInt pos.line, rawInt pos.col, .ref c']) :: (I, { cls := .type "list_iterator", data := .fields #[.ref l, .int 0 0] }) :: (l, lstO vs.toArray c) :: news := by
        simp only [List.mem_cons] at hq ⊢
        rcases hq with h | h | h <;> simp [h]
      exact ⟨hk5 _ _ (N3 q hq').1, (N3 q hq').2⟩
    · show s.heap.objs.size ≤ h5.objs.size
      rw [hI, hsz5]
      have : h3.objs.size < a := hag
      omega
    · refine ⟨_, _, _, _, W, hat, (fun i s' st => st.1.typeIs), List.mem_cons_self, ?_, ?_⟩
      · intro b hb
        show b < h5.objs.size
        rw [hsz5]
        have hag' : h3.objs.size < a := hag
        simp only [List.mem_cons] at hb
        rcases hb with rfl | rfl | hb
        · exact Nat.lt_succ_self _
        · exact Nat.lt_succ_of_lt hag'
        · exact Nat.lt_succ_of_lt (Nat.lt_trans (List.mem_range.mp hb) hag')
      · intro b hb
        simp only [List.mem_cons, List.not_mem_nil, or_false] at hb
        have z0 : 0 < s.heap.objs.size := Nat.lt_of_le_of_lt (Nat.zero_le _) hLlt
        have z : s.heap.objs.size - 1 < I := by omega
        rcases hb with rfl | rfl
        · exact Nat.lt_trans z hIs
        · exact z
end
end Mine
namespace Mine
theorem peek_quote (w : World) (S : Setting) : peek (Mine.KK w.params) S (nsGet 3 (Str.ofString "quote")) = some (some (.ref 786)) := by kernel_rfl
theorem keep_quote (w : World) : keepIn (Mine.KK w.params) (.ref 786) = true := by kernel_rfl
section
variable {w : World} {p : Program} {loose : List Str} {mean : ExcName → Option Value} {mg mb : Str → Option Value} {A : Around} {E : Value → Shared → Prop} {s : Shared} {h₀ : Heap} {L : Addr} {m : Str → Option Value}
theorem ld_any {env : Env} {x : Str} {pos : Pos} {v : Value} {M : Model} {Q : Value → Shared → Prop} (F : Fr h₀ L s.heap m) (hv : m x = some v) (h : Q v s)
    (hk : env.scope.kind = .function) (hl : env.kindOf x = some .local) (hL : env.locals = L) (hd : (x == ("__debug__" : Str)) = false) :
    wpAny M A (eval (.Name x pos) env) Q E s := by
  subst hL
  exact wpAny_Name (wpAny_loadName_local hk hl F.ns hv h) hd
theorem quote_elt {env : Env} {x : Str} {p1 p2 p3 : Pos} {a : Str} {u : Tok} {Q : Value → Shared → Prop} (hk : env.scope.kind = .function) (h1 : env.kindOf (Str.ofString "quote") = some .globalImplicit) (h2 : env.kindOf x = some .local) (hL : env.locals = L) (hg : env.globals = 3) (hx : (x == ("__debug__" : Str)) = false)
    (F : Fr h₀ L s.heap m) (X₀ : (Mine.KK w.params).In h₀) (T₀ : Top p loose mean mg mb h₀) (hm : m x = some (.str a u)) (ha : a ∈ wordList) (hl : a.length < 100) (hd : A.depth + 10 < recursionLimit)
    (h : ∀ h' tk' u', (∀ b o, s.heap.get? b = some o → h'.get? b = some o) → Q (.str (quoted a) u') { s with heap := h', toks := tk' }) :
    wpAny (model pw w) A (eval (.Call (.Name (Str.ofString "quote") p1) [.Name x p2] [] p3) env) Q E s := by
  have X := X₀.keeps F.keep
  have hb : mg (Str.ofString "quote") = some (.ref 786) := mg_of X₀ T₀.g (by kernel_rfl)
  have hG : s.heap.Ns env.globals mg := by rw [hg]; exact T₀.g.keeps F.keep
  refine Call_ (Calls.Name_function_global hk h1 (Calls.loadGlobal_global (env := env) hG hb ?_) (by decide))
  refine callWith_K (K := Mine.KK w.params) (h₀ := h₀) X₀ (keep_quote w) ?_
  refine spliced_more (ld_any F hm (spliced_none ?_) hk h2 hL hx)
  refine ⟨X, wpAny_call (quote_spec hd X (T₀.keeps F.keep) ha hl fun h' tk' u' k => ?_)⟩
  exact h h' tk' u' k
end
end Mine
namespace Mine
theorem clear8 : True := by first | (walk1; fail) | exact trivial
local macro_rules | `(tactic| k_room) => `(tactic| (refine Nat.lt_of_le_of_lt ?_ (show (_ : Nat) + 40 < recursionLimit by assumption); (try simp only [depth_under_make, depth_under_kw, depth_in1, depth_deeper, depth_caller]); (try dsimp only [Ar]); omega))
local macro_rules | `(tactic| walk_at "eval GeneratorExp") => `(tactic| (k_here; refine to_sp ?_))
section
variable {w : World} {p : Program} {loose : List Str} {mean : ExcName → Option Value} {mg mb : Str → Option Value} {dp un : Nat} {gd : Option (List Code)} {env : Env} {outer : List Env} {A₀ : Around} {base h₀ : Heap} {L : Addr} {m : Str → Option Value} {s : Shared} {R : Result → Shared → Prop}
  {l : Addr} {vs : List Value} {c : Nat} {xs : List Str} {news : List (Addr × Obj)} {ps : Array Value}
theorem strs_at : ∀ {vs : List Value} {ys : List Str}, StrsAre vs ys → ∀ {i : Nat} {v : Value}, vs[i]? = some v → ∃ x u, ys[i]? = some x ∧ v = .str x u
  | _, _, .nil, i, v, h => by simp at h
  | _, _, .cons y t hs, 0, v, h => by
    simp only [List.getElem?_cons_zero, Option.some.injEq] at h
    exact ⟨y, t, by simp, h.symm⟩
  | _, _, .cons y t hs, i + 1, v, h => by
    simp only [List.getElem?_cons_succ] at h ⊢
    exact strs_at hs h
theorem len_all : (wordList.all fun x => decide (x.length < 100)) = true := by decide +kernel
theorem word_len (x : Str) (hx : x ∈ wordList) : x.length < 100 := of_decide_eq_true (List.all_eq_true.mp len_all x hx)
theorem quoted_len_all : (wordList.all fun x => decide ((quoted x).length ≤ 30)) = true := by decide +kernel
theorem sum_le : ∀ (l : List Str), (∀ x ∈ l, x.length ≤ 30) → (l.map (·.length)).sum ≤ 30 * l.length
  | [], _ => by simp
  | y :: r, h => by
    have h1 := h y (.head _)
    have h2 := sum_le r fun x hx => h x (.tail _ hx)
    simp only [List.map_cons, List.sum_cons, List.length_cons]
    omega
def qAt (xs : List Str) (j : Nat) : Str := match xs[j]? with | some x => quoted x | none => Str.ofString ""
theorem map_qAt (xs : List Str) : (List.range xs.length).map (qAt xs) = xs.map quoted := by
  apply List.ext_getElem?
  intro i
  by_cases hi : i < xs.length
  · simp [hi, qAt]
  · simp [Nat.le_of_not_lt hi, hi]
theorem passing_all (n : Nat) : passing (fun _ => true) n 0 = List.range n := by
  unfold passing
  rw [List.drop_zero]
  exact List.filter_eq_self.mpr fun _ _ => rfl
set_option maxHeartbeats 1000000 in
theorem join_spec (hv : StrsAre vs xs) (hx : ∀ x ∈ xs, x ∈ wordList) (hn : xs.length < 20) (cx : Cx (Mine.KK w.params) p loose mean mg mb A₀ env outer base h₀ L m s.heap) (H4 : HasB h₀) (G : AllBare s.gens) (hps : ∀ pos, pos.line = 752 → pos.col = 20 → TabOk pos ps) (hl7 : l ≠ 773) (hoff : ∀ p ∈ news, p.1 ≠ 773)
    (N : News h₀ L s.heap ((773, tabO ps) :: (l, lstO vs.toArray c) :: news)) (hd : dp + 40 < recursionLimit)
    (h : ∀ ps' s' t', (∀ pos : Pos, pos.line = 752 → pos.col = 20 → TabOk pos ps') → Fr h₀ L s'.heap m → News h₀ L s'.heap ((773, tabO ps') :: (l, lstO vs.toArray c) :: news) → AllBare s'.gens → s'.os = s.os → R (.ok (.ret (.str (Txt.join (Str.ofString " ") (xs.map quoted)) t'))) s') :
    codeAny (model pw w) (Ar dp un gd env outer) (.call (.ref 778) ⟨[.ref l], []⟩) R s := by
  obtain ⟨B, F, X, T, hf, hke⟩ := cx
  k_dflt (refine' code_def ?k1 ?k2 ?k3 ?k4 ?k5 ?kA ?kF ?kK ?k6 ?k7 ?k8 ?k9 ?kB ?_ ?c2 ?c3 ?c4 ?c5; (case kA => exact rfl); (case kF => assumption); (case kK => assumption); (case k1 => k_asm); (case k2 => k_asm); (case k3 => k_asm); (case k4 => k_asm); (case k5 => k_asm); (case k6 => k_is); (case k7 => k_is); (case k8 => k_room); (case k9 => first | exact BindsTo.of_eq rfl | exact binds_K (by k_in) rfl (by k_is) rfl rfl rfl); (case c5 => decide); (case kB => exact locs rfl); (case c2 => exact rfl); (case c3 => exact rfl); (case c4 => exact rfl); k_whole; intro g L1 h1 FG F1 N1 B1 X1 T1; (try dsimp only); (try k_lift B1); (try k_fold))
  k_steps
  unfold SpDone
  rename News g L1 _ _ => N9
  rename Fr g L1 _ _ => F9
  refine gen_list (Fv := fun i y => ∃ x u, xs[i]? = some x ∧ y = .str (quoted x) u) rfl rfl rfl (by decide) rfl rfl rfl ?room rfl rfl rfl F9 X1 (H4.keeps FG.keep) T1 N9 hoff hl7 (hps _ rfl rfl) ?y ?elt ?Q
  case room => k_room
  case y => exact fun Q' hq => ld F9 rfl hq
  case elt =>
    intro c' C A' E' i v t m₂ hA hD hU hi Fg hm
    obtain ⟨x, u, hxi, rfl⟩ : ∃ x u, xs[i]? = some x ∧ v = .str x u := strs_at hv hi
    have hxm : x ∈ xs := List.mem_of_getElem? hxi
    refine quote_elt rfl rfl rfl rfl rfl rfl Fg X1 T1 hm (hx x hxm) (word_len x (hx x hxm)) ?_ fun h' tk' u' k => ⟨⟨x, u', hxi, rfl⟩, h', tk', rfl, k⟩
    refine Nat.lt_of_le_of_lt (Nat.add_le_add_right hD _) ?_
    show dp + 1 + 1 + 10 < recursionLimit
    omega
  case Q =>
    intro c' a s5 F5 N5 G5 o5 d5 z5 X5
    refine spliced_none ?_
    rw [passing_all] at X5
    have en : (List.range vs.toArray.size).length = xs.length := by rw [List.length_range, List.size_toArray]; exact hv.length
    have hle : ∀ q ∈ (773, tabO ps) :: (l, lstO vs.toArray c) :: news, q.1 ≤ h1.objs.size - 1 := fun q hq => Nat.le_sub_one_of_lt (Heap.lt_size (N9 q hq).1)
    refine join_rowsK F5 (G5 G) X5 (Nat.le_sub_one_of_lt F9.ns.lt) (qAt xs) ?htx ?hok ?hQ ?hsz
    case htx =>
      rintro j v ⟨i, hji, x, u, hxi, rfl⟩
      obtain ⟨hj1, hj2⟩ := List.getElem?_eq_some_iff.mp hji
      rw [List.getElem_range] at hj2
      subst hj2
      exact ⟨u, by simp [qAt, hxi]⟩
    case hok =>
      rw [en, map_qAt]
      refine joinOk_of_weight ?_ (by decide +kernel)
      have := sum_le (xs.map quoted) fun x hx' => by
        obtain ⟨y, hy, rfl⟩ := List.mem_map.mp hx'
        exact of_decide_eq_true (List.all_eq_true.mp quoted_len_all y (hx y hy))
      rw [List.length_map] at this ⊢
      omega
    case hsz => rw [en]; have : 1000 ≤ sizeLine := by decide +kernel
                omega
    case hQ =>
      intro s' t' F' G' o' k'
      rw [en, map_qAt]
      refine leaveK_ F' (news' := (773, tabO #[rawInt 752, rawInt 20, .ref c']) :: (l, lstO vs.toArray c) :: news) (fun q hq => ?_) fun Fh Nh => h _ s' t' (fun pos h1 h2 => .inr ⟨c', by rw [h1, h2]; rfl⟩) Fh Nh G' (o'.trans o5)
      refine ⟨k' _ _ ?_ (N5 q hq).1, (N5 q hq).2⟩
      rcases List.mem_cons.mp hq with rfl | hq
      · exact hle (773, tabO ps) (.head _)
      · exact hle q (.tail _ hq)
end
end Mine
namespace Mine
theorem sort_K {prog : Program} {w : World} {A : Around} {E : Value → Shared → Prop} {s : Shared} {h₀ : Heap} {L : Addr} {m : Str → Option Value} {news : List (Addr × Obj)} {l : Addr} {vs : List Value} {c : Nat} {ss : List Str} {Q : Value → Shared → Prop}
    (F : Fr h₀ L s.heap m) (N : News h₀ L s.heap news) (hm : (l, lstO vs.toArray c) ∈ news) (hS : StrsAre vs ss) (h64 : ss.length < 20)
    (h : ∀ D h' vs' ss' e, Fr h₀ L h' m → News h₀ L h' ((D, lstO vs'.toArray e) :: news) → (∀ q ∈ news, q.1 < D) → StrsAre vs' ss' → ss'.Perm ss → sortedS ss' = true → Q (.ref D) { s with heap := h' }) :
    wpAny (model prog w) A (call (.builtin "sorted") [.ref l]) Q E s :=
  sorted_N_str F N ⟨_, (N _ hm).1, rfl, _, rfl⟩ hS (by have := hS.length; omega) fun h' vs' ss' e F' N' hS' hp' hs' => h _ h' vs' ss' e F' N' (fun p hp => Nat.lt_succ_of_lt (Heap.lt_size (N p hp).1)) hS' hp' hs'
theorem len_S {prog : Program} {w : World} {A : Around} {E : Value → Shared → Prop} {s : Shared} {h₀ : Heap} {L : Addr} {news : List (Addr × Obj)} {l : Addr} {vs : List Value} {c : Nat} {ss xs : List Str} {Q : Value → Shared → Prop}
    (N : News h₀ L s.heap news) (hm : (l, lstO vs.toArray c) ∈ news) (hS : StrsAre vs ss) (hp : ss.Perm xs) (h64 : xs.length < 20)
    (h : Q (.int (xs.length : Nat) (s.toks + 1)) { s with toks := s.toks + 1 + 1 }) : wpAny (model prog w) A (call (.builtin "len") [.ref l]) Q E s := by
  have e : vs.toArray.size = xs.length := by rw [List.size_toArray, hS.length, hp.length_eq]
  refine len_list ⟨_, (N _ hm).1, rfl, _, rfl⟩ (by rw [e]; omega) ?_
  rw [e]; exact h
theorem fdiv_two (n : Nat) : Int.fdiv (n : Int) 2 = ((n / 2 : Nat) : Int) := by
  rw [Int.fdiv_eq_ediv_of_nonneg _ (by decide)]; rfl
theorem item_S {prog : Program} {w : World} {A : Around} {E : Value → Shared → Prop} {s : Shared} {h₀ : Heap} {L : Addr} {news : List (Addr × Obj)} {l : Addr} {vs : List Value} {c : Nat} {ss : List Str} {Q : Value → Shared → Prop} {value slice : Expr} {k : Int} {u : Tok}
    (N : News h₀ L s.heap news) (hm : (l, lstO vs.toArray c) ∈ news) (hS : StrsAre vs ss) (hk : 0 ≤ k ∧ k < (ss.length : Int)) (h64 : ss.length < 20)
    (h : ∀ t, Q (.str (ss.getD k.toNat (Str.ofString "")) t) s)
    (hs : subscripted slice false (.ref l) (.int k u) = operate [.ref l, .int k u] (getItem (.ref l) (.int k u)) := by with_unfolding_all rfl) (hg : ∀ r, letTemporaryGo value (.ref l) r = pure () := by intro _; with_unfolding_all rfl) :
    wpAny (model prog w) A (subscriptTail value slice (.ref l) (.int k u)) Q E s := by
  have hj : k.toNat < ss.length := by omega
  obtain ⟨t, ht⟩ := hS.at (j := k.toNat) (y := ss.getD k.toNat (Str.ofString "")) (by simp [hj])
  exact item_list ⟨_, (N _ hm).1, rfl, _, rfl⟩ hk.1 (by omega) (by simpa using ht) (h t) hs hg
end Mine
namespace Mine
def isLet (c : Nat) : Bool := c == 97 || c == 98 || c == 90
def isSq (c : Nat) : Bool := c == 97 || c == 98 || c == 90 || c == 34 || c == 32 || c == 35
theorem isLet_or {c : Nat} (h : isLet c = true) : c = 97 ∨ c = 98 ∨ c = 90 := by
  unfold isLet at h; simp only [Bool.or_eq_true, beq_iff_eq] at h; omega
theorem isSq_or {c : Nat} (h : isSq c = true) : c = 97 ∨ c = 98 ∨ c = 90 ∨ c = 34 ∨ c = 32 ∨ c = 35 := by
  unfold isSq at h; simp only [Bool.or_eq_true, beq_iff_eq] at h; omega
/-- the states of the reader: 0 blank, 1 apostrophe, 2 double quote, 3 word -/
def stOf : Nat → Str
  | 0 => Str.ofString " "
  | 1 => ⟨#[39]⟩
  | 2 => ⟨#[34]⟩
  | _ => Str.ofString "a"
def tkRun : List Nat → Nat → Str → Bool → Option (Str × Bool × List Nat × Bool)
  | [], 0, tok, q => some (tok, q, [], true)
  | [], 3, tok, q => some (tok, q, [], true)
  | c :: rem, 0, tok, q => bif isLet c then tkRun rem 3 ⟨#[c]⟩ q else bif c == 39 then tkRun rem 1 tok q else none
  | c :: rem, 1, tok, _ => bif c == 39 then tkRun rem 3 tok true else bif isSq c then tkRun rem 1 (tok ++ ⟨#[c]⟩) true else none
  | c :: rem, 2, tok, _ => bif c == 39 then tkRun rem 2 (tok ++ ⟨#[39]⟩) true else bif c == 34 then tkRun rem 3 tok true else none
  | c :: rem, 3, tok, q => bif isLet c then tkRun rem 3 (tok ++ ⟨#[c]⟩) q else bif c == 39 then tkRun rem 1 tok q else bif c == 34 then tkRun rem 2 tok q else bif c == 32 then (bif q || tok.length != 0 then some (tok, q, rem, false) else none) else none
  | _, _, _, _ => none
theorem tkRun_sound : ∀ (rem : List Nat) (st : Nat) (tok : Str) (q : Bool) {t' : Str} {q' : Bool} {r' : List Nat} {e' : Bool}, tkRun rem st tok q = some (t', q', r', e') → Tk rem (stOf st) tok q t' q' r' e' := by
  intro rem
  induction rem with
  | nil =>
    intro st tok q t' q' r' e' h
    match st, h with
    | 0, h => simp only [tkRun, Option.some.injEq, Prod.mk.injEq] at h; obtain ⟨rfl, rfl, rfl, rfl⟩ := h; exact .end0
    | 3, h => simp only [tkRun, Option.some.injEq, Prod.mk.injEq] at h; obtain ⟨rfl, rfl, rfl, rfl⟩ := h; exact .alEnd
    | 1, h => simp [tkRun] at h
    | 2, h => simp [tkRun] at h
    | n + 4, h => simp [tkRun] at h
  | cons c rem ih =>
    intro st tok q t' q' r' e' h
    match st, h with
    | 0, h =>
      simp only [tkRun] at h
      cases h1 : isLet c with
      | true => rw [h1] at h; exact .letter0 (isLet_or h1) (ih 3 _ _ h)
      | false =>
        rw [h1] at h
        cases h2 : c == 39 with
        | true => rw [h2] at h; have z := ih 1 _ _ h; obtain rfl := beq_iff_eq.mp h2; exact .quote0 z
        | false => rw [h2] at h; simp at h
    | 1, h =>
      simp only [tkRun] at h
      cases h2 : c == 39 with
      | true => rw [h2] at h; have z := ih 3 _ _ h; obtain rfl := beq_iff_eq.mp h2; exact .sqEnd z
      | false =>
        rw [h2] at h
        cases h1 : isSq c with
        | true => rw [h1] at h; exact .sqChar (isSq_or h1) (ih 1 _ _ h)
        | false => rw [h1] at h; simp at h
    | 2, h =>
      simp only [tkRun] at h
      cases h2 : c == 39 with
      | true => rw [h2] at h; have z := ih 2 _ _ h; obtain rfl := beq_iff_eq.mp h2; exact .dqApo z
      | false =>
        rw [h2] at h
        cases h1 : c == 34 with
        | true => rw [h1] at h; have z := ih 3 _ _ h; obtain rfl := beq_iff_eq.mp h1; exact .dqEnd z
        | false => rw [h1] at h; simp at h
    | 3, h =>
      simp only [tkRun] at h
      cases h1 : isLet c with
      | true => rw [h1] at h; exact .alLetter (isLet_or h1) (ih 3 _ _ h)
      | false =>
        rw [h1] at h
        cases h2 : c == 39 with
        | true => rw [h2] at h; have z := ih 1 _ _ h; obtain rfl := beq_iff_eq.mp h2; exact .alQuote z
        | false =>
          rw [h2] at h
          cases h3 : c == 34 with
          | true => rw [h3] at h; have z := ih 2 _ _ h; obtain rfl := beq_iff_eq.mp h3; exact .alDq z
          | false =>
            rw [h3] at h
            cases h4 : c == 32 with
            | false => rw [h4] at h; simp at h
            | true =>
              rw [h4] at h
              cases h5 : (q || tok.length != 0) with
              | false => rw [h5] at h; simp at h
              | true =>
                rw [h5] at h
                simp only [cond_true, Option.some.injEq, Prod.mk.injEq] at h
                obtain ⟨rfl, rfl, rfl, rfl⟩ := h
                obtain rfl := beq_iff_eq.mp h4
                refine .alSpace ?_
                cases q with
                | true => exact .inr rfl
                | false =>
                  refine .inl fun e => ?_
                  rw [e] at h5
                  exact absurd h5 (by decide +kernel)
    | n + 4, h => simp [tkRun] at h
def qOf (x : Str) : Bool := x.length == 0 || !safe x
theorem run_sp (r : List Nat) : wordList.map (fun x => tkRun ((quoted x).cps.toList ++ 32 :: r) 0 (Str.ofString "") false) = wordList.map (fun x => some (x, qOf x, r, false)) := by kernel_rfl
theorem run_end : wordList.map (fun x => tkRun (quoted x).cps.toList 0 (Str.ofString "") false) = wordList.map (fun x => some (x, qOf x, [], true)) := by kernel_rfl
theorem qOf_or (x : Str) : qOf x = true ∨ x ≠ Str.ofString "" := by
  by_cases h : x = Str.ofString ""
  · subst h; left; decide +kernel
  · exact .inr h
theorem word_sp (x : Str) (hx : x ∈ wordList) (r : List Nat) : Nx false ((quoted x).cps.toList ++ 32 :: r) (some x) false r := by
  have e := List.map_inj_left.mp (run_sp r) x hx
  exact .inr ⟨rfl, x, _, tkRun_sound _ 0 _ _ e, .inr ⟨qOf_or x, rfl⟩⟩
theorem word_end (x : Str) (hx : x ∈ wordList) : Nx false (quoted x).cps.toList (some x) true [] := by
  have e := List.map_inj_left.mp run_end x hx
  exact .inr ⟨rfl, x, _, tkRun_sound _ 0 _ _ e, .inr ⟨qOf_or x, rfl⟩⟩
theorem nothing_left : Nx true [] none true [] := .inl ⟨rfl, rfl, rfl, rfl, rfl⟩
theorem nothing_at_all : Nx false [] none true [] := .inr ⟨rfl, Str.ofString "", false, tkRun_sound [] 0 _ _ rfl, .inl ⟨rfl, rfl, rfl⟩⟩
theorem steps_join : ∀ (xs : List Str), (∀ x ∈ xs, x ∈ wordList) → Steps false (Str.join (Str.ofString " ") (xs.map quoted)).cps.toList xs
  | [], _ => .stop nothing_at_all
  | [x], h => .more (word_end x (h x (.head _))) (.stop nothing_left)
  | x :: y :: r, h => by
    have ih := steps_join (y :: r) fun z hz => h z (.tail _ hz)
    have e : (Str.join (Str.ofString " ") ((x :: y :: r).map quoted)).cps.toList = (quoted x).cps.toList ++ 32 :: (Str.join (Str.ofString " ") ((y :: r).map quoted)).cps.toList := by
      show (quoted x ++ Str.ofString " " ++ Str.join (Str.ofString " ") ((y :: r).map quoted)).cps.toList = _
      simp only [Str.cps_append, Array.toList_append]
      rw [List.append_assoc]
      rfl
    rw [e]
    exact .more (word_sp x (h x (.head _)) _) ih
theorem txt_join (sep : Str) (l : List Str) : Txt.join sep l = Str.join sep l := StrLaws.glued_eq_join sep l
theorem line_len (xs : List Str) (hx : ∀ x ∈ xs, x ∈ wordList) (hn : xs.length < 10) : (Txt.join (Str.ofString " ") (xs.map quoted)).length < 500 := by
  rw [txt_join]
  have h1 := StrLaws.join_length_le (Str.ofString " ") (xs.map quoted)
  have h2 := sum_le (xs.map quoted) fun x hx' => by
    obtain ⟨y, hy, rfl⟩ := List.mem_map.mp hx'
    exact of_decide_eq_true (List.all_eq_true.mp quoted_len_all y (hx y hy))
  have h3 : (Str.ofString " ").length = 1 := by decide +kernel
  rw [List.length_map] at h1 h2
  rw [h3] at h1
  omega
theorem steps_line (xs : List Str) (hx : ∀ x ∈ xs, x ∈ wordList) : Steps false (Txt.join (Str.ofString " ") (xs.map quoted)).cps.toList xs := by
  rw [txt_join]; exact steps_join xs hx
end Mine
namespace Mine
theorem clear9 : True := by first | (walk1; fail) | exact trivial
local macro_rules | `(tactic| k_room) => `(tactic| (refine Nat.lt_of_le_of_lt ?_ (show (_ : Nat) + 10 < recursionLimit by assumption); (try simp only [depth_under_make, depth_under_kw, depth_in1, depth_deeper, depth_caller]); omega))
theorem fmod_eight (n : Int) : 0 ≤ Int.fmod n 8 ∧ Int.fmod n 8 < (pieces.length : Int) := by
  rw [Int.fmod_eq_emod_of_nonneg _ (by decide)]
  have : (pieces.length : Int) = 8 := rfl
  omega
theorem strs8 {a b c d e f g h : Tok} : StrsAre [.str (Str.ofString "") a, .str (Str.ofString "a") b, .str (Str.ofString "'") c, .str (Str.ofString "b") d, .str (Str.ofString "\"") e, .str (Str.ofString " ") f, .str (Str.ofString "#") g, .str (Str.ofString "Z") h] pieces :=
  .cons _ _ (.cons _ _ (.cons _ _ (.cons _ _ (.cons _ _ (.cons _ _ (.cons _ _ (.cons _ _ .nil)))))))
def wordOf (n : Int) : Str := pieces.getD (Int.fmod n 8).toNat (Str.ofString "") ++ pieces.getD (Int.fmod (Int.fdiv n 8) 8).toNat (Str.ofString "")
theorem words_in : ((List.range 8).all fun i => (List.range 8).all fun j => decide (pieces.getD i (Str.ofString "") ++ pieces.getD j (Str.ofString "") ∈ wordList)) = true := by decide +kernel
theorem wordOf_in (n : Int) : wordOf n ∈ wordList := by
  have a := fmod_eight n
  have b := fmod_eight (Int.fdiv n 8)
  have l : (pieces.length : Int) = 8 := rfl
  have h := List.all_eq_true.mp words_in (Int.fmod n 8).toNat (List.mem_range.mpr (by omega))
  exact of_decide_eq_true (List.all_eq_true.mp h (Int.fmod (Int.fdiv n 8) 8).toNat (List.mem_range.mpr (by omega)))
theorem piece_len (i : Nat) : (pieces.getD i (Str.ofString "")).length ≤ 1 := by
  by_cases h : i < 8
  · have e : ((List.range 8).all fun i => decide ((pieces.getD i (Str.ofString "")).length ≤ 1)) = true := by decide +kernel
    exact of_decide_eq_true (List.all_eq_true.mp e i (List.mem_range.mpr h))
  · have l : pieces.length = 8 := rfl
    rw [List.getD_eq_getElem?_getD, List.getElem?_eq_none (by omega)]
    decide +kernel
local macro_rules | `(tactic| walk_at "subscriptTail") => `(tactic| (k_here; (with_reducible show wpAny _ _ (subscriptTail _ _ (Value.ref _) (Value.int _ _)) _ _ _); k_dflt (refine' item_S (ss := pieces) ?N ?m ?S ?k ?l ?_ ?hs ?hg; (case N => k_asm); (case m => k_mem); (case S => exact strs8); (case k => exact fmod_eight _); (case l => decide); (case hs => with_unfolding_all rfl); (case hg => (intro _; with_unfolding_all rfl)); k_whole; intro t9)))
section
variable {w : World} {p : Program} {loose : List Str} {mean : ExcName → Option Value} {mg mb : Str → Option Value} {A : Around} {s : Shared} {R : Result → Shared → Prop} {n : Int} {t : Tok}
set_option maxHeartbeats 2000000 in
theorem word_spec (hd : A.depth + 10 < recursionLimit) (X : (Mine.KK w.params).In s.heap) (T : Top p loose mean mg mb s.heap)
    (h : ∀ h' tk' t', (∀ b o, s.heap.get? b = some o → h'.get? b = some o) → R (.ok (.ret (.str (wordOf n) t'))) { s with heap := h', toks := tk' }) :
    codeAny (model pw w) A (.call (.ref 793) ⟨[.int n t], []⟩) R s := by
  k_dflt (refine' code_lone ?k3 ?k5 ?k6 ?k7 ?k8 ?k9 ?kB ?_ ?c2 ?c3 ?c4 ?c5; (case k3 => assumption); (case k5 => assumption); (case k6 => k_is); (case k7 => k_is); (case k8 => omega); (case k9 => exact BindsTo.of_eq rfl); (case c5 => decide); (case kB => exact locs rfl); (case c2 => exact rfl); (case c3 => exact rfl); (case c4 => exact rfl); k_whole; intro h1 F1 N1; (try dsimp only); (try k_fold))
  have q1 := piece_len (Int.fmod n 8).toNat
  have q2 := piece_len (Int.fmod (Int.fdiv n 8) 8).toNat
  k_steps
  (rename Fr s.heap s.heap.objs.size _ _ => F9; exact h _ _ _ F9.keep)
end
end Mine
namespace Mine
theorem strs_snoc {y : Str} {t : Tok} : ∀ {vs : List Value} {ys : List Str}, StrsAre vs ys → StrsAre (vs ++ [.str y t]) (ys ++ [y])
  | _, _, .nil => .cons y t .nil
  | _, _, .cons z u h => .cons z u (strs_snoc h)
/-- a def with cells called from anywhere -/
theorem code_loneC {prog : Program} {w : World} {A : Around} {s : Shared} {K : Frag} {mg mb : Str → Option Value} {p : Program} {loose : List Str} {mean : ExcName → Option Value} {R : Result → Shared → Prop} {name qual : Str} {params : Arguments} {body : List Stmt} {scope : Scope} {dV kV doc pm cdv ct oc : Value} {an od : Option Addr} {osl : Array (Option Value)} {f : Addr} {args : Args} {binds : List (Str × Value)}
    (X : K.In s.heap) (T : Top p loose mean mg mb s.heap)
    (ho : K.lookup f = some ⟨oc, od, .func (fnOf name qual params body scope dV kV doc pm an cdv ct), osl⟩) (hcd : codeIn K cdv qual = true) (hroom : A.depth < recursionLimit)
    (hbind : BindsTo s (fnOf name qual params body scope dV kV doc pm an cdv ct) args binds) (hkind : (binds.all fun y => scope.names.lookup y.1 == some .local || scope.names.lookup y.1 == some .cell) = true)
    (hnd : ((cellsFrom 0 scope.names []).map (·.1)).Nodup)
    (h : ∀ h₁ tk cells, Fr s.heap s.heap.objs.size h₁ (bindL (envOfC qual scope s.heap.objs.size f cdv).kindOf binds fun _ => none) → News s.heap s.heap.objs.size h₁ cells →
      CellsAre (bindC (envOfC qual scope s.heap.objs.size f cdv).kindOf binds fun _ => none) (cellsFrom (s.heap.objs.size + 1) scope.names []) cells →
      wpAny (model prog w) (A.deeper (envOfC qual scope s.heap.objs.size f cdv)) (execs body (envOfC qual scope s.heap.objs.size f cdv))
        (fun fl s' => LoneBack R (match fl with | .ret v => v | _ => .none) s')
        (fun e s' => wpAny (model prog w) (A.deeper (envOfC qual scope s.heap.objs.size f cdv)) (leaving (envOfC qual scope s.heap.objs.size f cdv) e) (fun _ s'' => R (.error e) s'') (fun e' s'' => R (.error e') s'') s')
        { s with heap := h₁, toks := tk })
    (hco : scope.isCoroutine = false) (hgen : scope.isGenerator = false) (hk : scope.kind = .function) : codeAny (model prog w) A (.call (.ref f) args) R s := by
  refine codeAny_call_function hroom (X _ _ ho) rfl hco hgen rfl (codeRec_of X hcd) (hbind _ _ _ _ ?_)
  refine wpAny_newFunctionEnv_cells hk (kindsX hkind _) fun env' he s' x => ?_
  subst he
  refine ⟨T.nolimit.keeps x.toInCall.keep, codeAny_func ?_⟩
  obtain ⟨h₁, tk, rfl, _⟩ := x.done
  have hk₁ := x.toInCall.keep
  obtain ⟨cells, NC, Y⟩ := Cl.news (h₀ := s.heap) (Nat.le_refl _) fun n c hm => ⟨x.cell n c (lookup_of_mem_nodup (cellsFrom_names scope.names 0 (s.heap.objs.size + 1) [] [] rfl ▸ hnd) hm), x.above n c hm⟩
  exact h h₁ tk cells ⟨x.toInCall.ns, hk₁, Nat.le_refl _⟩ NC Y
section
variable {prog : Program} {w : World} {A : Around} {E : Value → Shared → Prop} {s : Shared} {h₀ : Heap} {L : Addr} {m : Str → Option Value} {env : Env} {news : List (Addr × Obj)}
open LCg LCt
theorem name_comp {scope : Scope} {cl : List (Str × Addr)} {C : Addr} {nm : Str} {px : Pos} {m₂ : Str → Option Value} {v : Value} {Q : Value → Shared → Prop} (hns : s.heap.Ns C m₂) (hm : m₂ nm = some v) (h : Q v s)
    (hk : (compEnvC scope cl C env).scope.kind = .function) (hl : (compEnvC scope cl C env).kindOf nm = some .local) (hd : (nm == ("__debug__" : Str)) = false) : wpAny (model prog w) A (eval (.Name nm px) (compEnvC scope cl C env)) Q E s :=
  wpAny_Name (wpAny_loadName_local hk hl hns hm h) hd
theorem rest_filt {ct : Expr} {nm : Str} {px : Pos} {scope : Scope} {cl : List (Str × Addr)} {S : List (Addr × Obj) → Prop} {P : Nat → Value → Prop} {Fin : List Value → List (Addr × Obj) → Prop} {xs : List Str} (f : Str → Bool) (hS : S news)
    (hk : ∀ C, (compEnvC scope cl C env).scope.kind = .function) (hl : ∀ C, (compEnvC scope cl C env).kindOf nm = some .local) (hd : (nm == ("__debug__" : Str)) = false)
    (hP : ∀ i v, P i v → i < xs.length → ∃ x u, xs[i]? = some x ∧ v = .str x u)
    (hct : ∀ C m₂ h tk (E' : Value → Shared → Prop) x u nx, h.Ns C m₂ → m₂ nm = some (.str x u) → Fr h₀ L h m → News h₀ L h nx → (∀ q ∈ news, q ∈ nx) → x ∈ xs →
      wpAny (model prog w) A (isTrue ct (compEnvC scope cl C env) (eval ct (compEnvC scope cl C env))) (fun ok s' => ok = f x ∧ ∃ tk', s' = { s with heap := h, toks := tk' }) E' { s with heap := h, toks := tk })
    (hfin : ∀ ys, StrsAre ys (xs.filter f) → Fin ys news) :
    ∀ (k i : Nat) (ys : List Value), i + k = xs.length → StrsAre ys ((xs.take i).filter f) → CompRestT prog w A h₀ L m env ct (.Name nm px) nm scope cl s S P Fin k i ys news
  | 0, i, ys, e, h => CompRestT.zero (hfin ys (by rw [List.take_of_length_le (by omega)] at h; exact h))
  | k + 1, i, ys, e, h => by
    refine CompRestT.succ fun v I oI C oC D m₂ h' tk E' hPi hns hm F N off ne => ?_
    have hi : i < xs.length := by omega
    obtain ⟨x, u, hx, rfl⟩ := hP i v hPi hi
    have hxm : x ∈ xs := List.mem_of_getElem? hx
    have e1 : xs.take (i + 1) = xs.take i ++ [x] := by rw [List.take_add_one, hx]; rfl
    have hC := hns.ns (N _ (.tail _ (.head _))).1
    refine wpAny_mono (hct C m₂ h' tk E' x u _ hC hm F N (fun q hq => .tail _ (.tail _ (.tail _ hq))) hxm) (fun ok s' hok => ?_) fun _ _ z => z
    obtain ⟨rfl, tk', rfl⟩ := hok
    cases hf : f x with
    | true =>
      simp only [if_true]
      refine name_comp hC hm ?_ (hk C) (hl C) hd
      refine CompEnd.intro (s₁ := { s with heap := h', toks := tk }) F N news (fun q hq => hq) off hS (rest_filt f hS hk hl hd hP hct hfin k (i + 1) _ (by omega) ?_)
      rw [e1, List.filter_append, List.filter_cons, hf]
      exact strs_snoc h
    | false =>
      simp only [Bool.false_eq_true, if_false]
      refine CompEnd.intro (s₁ := { s with heap := h', toks := tk }) F N news (fun q hq => hq) off hS (rest_filt f hS hk hl hd hP hct hfin k (i + 1) _ (by omega) ?_)
      rw [e1, List.filter_append, List.filter_cons, hf]
      simpa using h
theorem src_filt {ct : Expr} {nm : Str} {px : Pos} {scope : Scope} {cl : List (Str × Addr)} {vs : List Value} {xs : List Str} {ax : Addr} {Q : Value → Shared → Prop} (f : Str → Bool) (hh : A.handled = none) (F : Fr h₀ L s.heap m) (N : News h₀ L s.heap news) (hl : h₀.IsList ax vs.toArray) (hv : StrsAre vs xs) (hn : xs.length < 20)
    (hk : ∀ C, (compEnvC scope cl C env).scope.kind = .function) (hloc : ∀ C, (compEnvC scope cl C env).kindOf nm = some .local) (hd : (nm == ("__debug__" : Str)) = false)
    (hct : ∀ C m₂ h tk (E' : Value → Shared → Prop) x u nx, h.Ns C m₂ → m₂ nm = some (.str x u) → Fr h₀ L h m → News h₀ L h nx → (∀ q ∈ news, q ∈ nx) → x ∈ xs →
      wpAny (model prog w) A (isTrue ct (compEnvC scope cl C env) (eval ct (compEnvC scope cl C env))) (fun ok s' => ok = f x ∧ ∃ tk', s' = { s with heap := h, toks := tk' }) E' { s with heap := h, toks := tk })
    (hfin : ∀ ys D h tk, StrsAre ys (xs.filter f) → Fr h₀ L h m → News h₀ L h ((D, lstO ys.toArray ys.length) :: news) → (∀ q ∈ news, q.1 ≠ D) → Q (.ref D) { s with heap := h, toks := tk }) :
    CompSrcT prog w A h₀ L m env ct (.Name nm px) nm scope cl (fun s₂ => FinE h₀ L m s₂ Q) (.ref ax) s := by
  have hz : 1000 ≤ sizeLine := by decide +kernel
  have e : vs.toArray.size = xs.length := by rw [List.size_toArray]; exact hv.length
  refine CompSrcT.base hh F N hl (by omega) fun g => ?_
  refine rest_filt (xs := xs) (s := { s with heap := g }) (S := SrcAt h₀ ax vs.toArray) (P := fun i v => vs.toArray[i]? = some v) (Fin := FinE h₀ L m { s with heap := g } Q) f (Or.inl hl) hk hloc hd (fun i v hi _ => ?_) (fun C m₂ h tk E' x u nx a b c d => hct C m₂ h tk E' x u nx a b c d) (fun ys hys D h tk F' N' off => ?_) vs.toArray.size 0 [] (by omega) .nil
  · exact strs_at hv (by simpa using hi)
  · refine hfin ys D h tk hys F' N' fun q hq => ?_
    have : ∀ {l : List (Addr × Obj)}, Off1 D l → ∀ q ∈ l, q.1 ≠ D := fun {l} => by
      induction l with
      | nil => intro _ q hq; cases hq
      | cons p r ih =>
        intro z q hq
        rcases List.mem_cons.mp hq with rfl | hq
        · exact z.1
        · exact ih z.2 q hq
    exact this off q hq
end
end Mine
namespace Mine
def lessN (xs : List Str) (w : Str) : Nat := (xs.filter fun x => decide (x.cps.toList < w.cps.toList)).length
def mostN (xs : List Str) (w : Str) : Nat := (xs.filter fun x => !decide (w.cps.toList < x.cps.toList)).length
abbrev notLt (a b : Str) : Prop := ¬ b.cps.toList < a.cps.toList
theorem lt_trans' {a b c : List Nat} (h : a < b) (k : b < c) : a < c := List.lt_trans h k
theorem notLt_trans {a b c : Str} (h : notLt a b) (k : notLt b c) : notLt a c := by
  have h' : a.cps.toList ≤ b.cps.toList := List.not_lt.mp h
  have k' : b.cps.toList ≤ c.cps.toList := List.not_lt.mp k
  exact List.not_lt.mpr (List.le_trans h' k')
theorem ltCps_iff : ∀ (a b : List Nat), Spec.ltCps a b = true ↔ a < b
  | [], [] => by simp [Spec.ltCps]
  | [], _ :: _ => by simp [Spec.ltCps]
  | _ :: _, [] => by simp [Spec.ltCps]
  | x :: a, y :: b => by
    have ih := ltCps_iff a b
    by_cases h1 : x < y
    · simp [Spec.ltCps, h1, List.cons_lt_cons_iff]
    · by_cases h2 : x = y
      · subst h2; simp [Spec.ltCps, List.cons_lt_cons_iff, ih]
      · simp [Spec.ltCps, h1, h2, List.cons_lt_cons_iff]
theorem rising_all : ∀ (r : List Str) (p : Str), risingS p r = true → (∀ x ∈ r, notLt p x) ∧ r.Pairwise notLt
  | [], _, _ => ⟨(fun _ h => nomatch h), .nil⟩
  | x :: r, p, h => by
    unfold risingS at h
    simp only [Bool.and_eq_true, Bool.not_eq_true'] at h
    obtain ⟨h1, h2⟩ := h
    obtain ⟨a, b⟩ := rising_all r x h2
    have px : notLt p x := fun q => by rw [(ltCps_iff _ _).mpr q] at h1; cases h1
    refine ⟨fun y hy => ?_, .cons a b⟩
    rcases List.mem_cons.mp hy with rfl | hy
    · exact px
    · exact notLt_trans px (a y hy)
theorem sorted_pair {ss : List Str} (h : sortedS ss = true) : ss.Pairwise notLt := by
  cases ss with
  | nil => exact .nil
  | cons x r => obtain ⟨a, b⟩ := rising_all r x h; exact .cons a b
theorem median_counts {xs ss : List Str} (hp : ss.Perm xs) (hs : sortedS ss = true) {k : Nat} (hk : k < ss.length) {d : Str} : ss.getD k d ∈ xs ∧ lessN xs (ss.getD k d) ≤ k ∧ k < mostN xs (ss.getD k d) := by
  have e : ss.getD k d = ss[k] := by simp [hk]
  rw [e]
  have hsp : ss = ss.take k ++ ss[k] :: ss.drop (k + 1) := by simp
  have pw := sorted_pair hs
  generalize hw : ss[k] = w at hsp ⊢
  have hm : w ∈ ss := hw ▸ List.getElem_mem hk
  have hl : (ss.take k).length = k := by simp; omega
  rw [hsp] at pw
  obtain ⟨_, p2, p3⟩ := List.pairwise_append.mp pw
  refine ⟨hp.mem_iff.mp hm, ?_, ?_⟩
  · unfold lessN
    rw [← (hp.filter _).length_eq, hsp, List.filter_append, List.length_append]
    have z : ((w :: ss.drop (k + 1)).filter fun x => decide (x.cps.toList < w.cps.toList)) = [] := by
      rw [List.filter_eq_nil_iff]
      intro x hx
      rcases List.mem_cons.mp hx with rfl | hx
      · simp [List.lt_irrefl]
      · have := (List.pairwise_cons.mp p2).1 x hx
        simpa using this
    rw [z]
    have := List.length_filter_le (fun x => decide (x.cps.toList < w.cps.toList)) (ss.take k)
    simp only [List.length_nil, Nat.add_zero]
    omega
  · unfold mostN
    rw [← (hp.filter _).length_eq, hsp, List.filter_append, List.length_append]
    have z : ((ss.take k).filter fun x => !decide (w.cps.toList < x.cps.toList)) = ss.take k := by
      rw [List.filter_eq_self]
      intro x hx
      have := p3 x hx w (.head _)
      simpa using this
    rw [z, hl, List.filter_cons]
    have : (!decide (w.cps.toList < w.cps.toList)) = true := by simp [List.lt_irrefl]
    rw [if_pos this, List.length_cons]
    omega
end Mine
namespace Mine
theorem clear10 : True := by first | (walk1; fail) | exact trivial
local macro_rules | `(tactic| k_room) => `(tactic| (refine Nat.lt_of_le_of_lt ?_ (show (_ : Nat) + 10 < recursionLimit by assumption); (try simp only [depth_under_make, depth_under_kw, depth_in1, depth_deeper, depth_caller]); omega))
open LCg LCt in
theorem ct_cmp {prog : Program} {w : World} {A : Around} {E : Value → Shared → Prop} {s : Shared} {h₀ : Heap} {L C c : Addr} {env : Env} {news : List (Addr × Obj)} {op : CmpOp} {f : Str → Bool} {nm wd : Str} {p1 p2 p3 : Pos} {scope : Scope} {cl : List (Str × Addr)} {m₂ : Str → Option Value} {x y : Str} {u t : Tok} {o : Obj} {whole : Sem Value} {Q : Bool → Shared → Prop}
    (hop : (op = .Lt ∧ f = fun a => decide (a.cps.toList < y.cps.toList)) ∨ (op = .LtE ∧ f = fun a => !decide (y.cps.toList < a.cps.toList)))
    (N : News h₀ L s.heap news) (hc : cl.lookup wd = some c) (hm : (c, o) ∈ news) (hd : o.data = .cell (some (.str y t))) (hns : s.heap.Ns C m₂) (hx : m₂ nm = some (.str x u))
    (hk : (compEnvC scope cl C env).scope.kind = .function) (hl : (compEnvC scope cl C env).kindOf nm = some .local) (hf : (compEnvC scope cl C env).kindOf wd = some .cell) (h1 : (nm == ("__debug__" : Str)) = false) (h2 : (wd == ("__debug__" : Str)) = false)
    (h : Q (f x) s) : wpAny (model prog w) A (isTrue (.Compare (.Name nm p1) [op] [.Name wd p2] p3) (compEnvC scope cl C env) whole) Q E s := by
  rcases hop with ⟨rfl, rfl⟩ | ⟨rfl, rfl⟩
  · exact wpAny_isTrue_Compare1 (name_comp hns hx (lcf_cell N hc hm hd (PyProof.Rows.lt_str (wpAny_truthy_bool h)) hk hf h2) hk hl h1)
  · exact wpAny_isTrue_Compare1 (name_comp hns hx (lcf_cell N hc hm hd (PySem.P.le_str (wpAny_truthy_bool h)) hk hf h2) hk hl h1)
theorem len_F {prog : Program} {w : World} {A : Around} {E : Value → Shared → Prop} {s : Shared} {h₀ : Heap} {L : Addr} {news : List (Addr × Obj)} {l : Addr} {vs : List Value} {c : Nat} {xs : List Str} {f : Str → Bool} {Q : Value → Shared → Prop}
    (N : News h₀ L s.heap news) (hm : (l, lstO vs.toArray c) ∈ news) (hS : StrsAre vs (xs.filter f)) (hn : xs.length < 20)
    (h : Q (.int ((xs.filter f).length : Nat) (s.toks + 1)) { s with toks := s.toks + 1 + 1 }) : wpAny (model prog w) A (call (.builtin "len") [.ref l]) Q E s := by
  have e : vs.toArray.size = (xs.filter f).length := by rw [List.size_toArray, hS.length]
  have := List.length_filter_le f xs
  refine len_list ⟨_, (N _ hm).1, rfl, _, rfl⟩ (by rw [e]; omega) ?_
  rw [e]; exact h
theorem len_B {prog : Program} {w : World} {A : Around} {E : Value → Shared → Prop} {s : Shared} {h₀ : Heap} {L : Addr} {m : Str → Option Value} {l : Addr} {vs : List Value} {xs : List Str} {Q : Value → Shared → Prop}
    (F : Fr h₀ L s.heap m) (hl : h₀.IsList l vs.toArray) (hS : StrsAre vs xs) (hn : xs.length < 20)
    (h : Q (.int (xs.length : Nat) (s.toks + 1)) { s with toks := s.toks + 1 + 1 }) : wpAny (model prog w) A (call (.builtin "len") [.ref l]) Q E s := by
  have e : vs.toArray.size = xs.length := by rw [List.size_toArray, hS.length]
  obtain ⟨o, a, r⟩ := hl
  refine len_list ⟨o, F.keep _ _ a, r⟩ (by rw [e]; omega) ?_
  rw [e]; exact h
local macro_rules | `(tactic| walk_at "call builtin:len") => `(tactic| (k_here; (with_reducible show wpAny _ _ (call (Value.builtin "len") [Value.ref _]) _ _ _); k_dflt (first
  | (refine' len_F ?N ?m ?S ?l ?_; (case N => k_asm); (case m => k_mem); (case S => assumption); (case l => assumption); k_whole)
  | (refine' len_B ?F ?hl ?S ?l ?_; (case F => k_asm); (case hl => assumption); (case S => assumption); (case l => assumption); k_whole))))
set_option hygiene false in
local macro_rules | `(tactic| walk_at "CompSrcT") => `(tactic| (k_here; k_dflt (first
  | (refine' src_filt (fun a => decide (a.cps.toList < x.cps.toList)) ?hh ?F ?N ?hl ?hv ?hn ?hk ?hloc ?hd ?hct ?_; (case hh => exact hA); (case F => k_asm); (case N => k_asm); (case hl => assumption); (case hv => assumption); (case hn => assumption); (case hk => exact fun _ => rfl); (case hloc => exact fun _ => rfl); (case hd => decide); (case hct => exact fun C m₂ h tk E' x' u nx a b c d e _ => ct_cmp (.inl ⟨rfl, rfl⟩) d rfl (e _ (by k_mem)) (by assumption) a b rfl rfl rfl (by decide) (by decide) ⟨rfl, _, rfl⟩); k_whole; intro ys9 D9 h9 tk9 hS9 F9 N9 o9)
  | (refine' src_filt (fun a => !decide (x.cps.toList < a.cps.toList)) ?hh ?F ?N ?hl ?hv ?hn ?hk ?hloc ?hd ?hct ?_; (case hh => exact hA); (case F => k_asm); (case N => k_asm); (case hl => assumption); (case hv => assumption); (case hn => assumption); (case hk => exact fun _ => rfl); (case hloc => exact fun _ => rfl); (case hd => decide); (case hct => exact fun C m₂ h tk E' x' u nx a b c d e _ => ct_cmp (.inr ⟨rfl, rfl⟩) d rfl (e _ (by k_mem)) (by assumption) a b rfl rfl rfl (by decide) (by decide) ⟨rfl, _, rfl⟩); k_whole; intro ys9 D9 h9 tk9 hS9 F9 N9 o9))))
local macro_rules | `(tactic| walk_at "eval ListComp") => `(tactic| (k_here; k_dflt (refine LCt.ListComp_T (F₀ := by k_asm) (by with_unfolding_all rfl) (by decide) (by rfl) (by decide) (by rfl) ?_)))
section
variable {w : World} {p : Program} {loose : List Str} {mean : ExcName → Option Value} {mg mb : Str → Option Value} {A : Around} {s : Shared} {R : Result → Shared → Prop} {l : Addr} {vs : List Value} {xs : List Str} {x : Str} {t : Tok} {b : Bool}
theorem fdiv_pred {n : Nat} (h : 0 < n) : Int.fdiv ((n : Int) - 1) 2 = (((n - 1) / 2 : Nat) : Int) := by
  rw [Int.fdiv_eq_ediv_of_nonneg _ (by decide)]; omega
theorem lone_tt {v : Bool} {s' : Shared} (e : v = true) (z : R (.ok (.ret (.bool true))) s') : LoneBack R (.bool v) s' := by
  subst e; exact z
set_option maxHeartbeats 4000000 in
theorem holds_spec {k : Nat} (hd : A.depth + 10 < recursionLimit) (hA : A.handled = none) (X : (Mine.KK w.params).In s.heap) (T : Top p loose mean mg mb s.heap) (hl : s.heap.IsList l vs.toArray) (hv : StrsAre vs xs) (hn : xs.length < 20)
    (hx : x ∈ xs) (hle : lessN xs x ≤ k) (hlt : k < mostN xs x) (hk : k = if b = true then xs.length / 2 else (xs.length - 1) / 2)
    (h : ∀ h' tk', (∀ b o, s.heap.get? b = some o → h'.get? b = some o) → R (.ok (.ret (.bool true))) { s with heap := h', toks := tk' }) :
    codeAny (model pw w) A (.call (.ref 805) ⟨[.ref l, .str x t, .bool b], []⟩) R s := by
  have hpos : 0 < xs.length := List.length_pos_of_mem hx
  k_dflt (refine' code_loneC ?k3 ?k5 ?k6 ?k7 ?k8 ?k9 ?kB ?kD ?_ ?c2 ?c3 ?c4; (case k3 => assumption); (case k5 => assumption); (case k6 => k_is); (case k7 => k_is); (case k8 => omega); (case k9 => exact BindsTo.of_eq rfl); (case kB => exact rfl); (case kD => decide +kernel); (case c2 => exact rfl); (case c3 => exact rfl); (case c4 => exact rfl); k_whole; intro h1 tk1 cells1 F1 N1 Y1; k_cells Y1; (try dsimp only); (try k_fold))
  have q1 : (xs.any fun y => y == x) = true := List.any_eq_true.mpr ⟨x, hx, by simp⟩
  cases b
  case true =>
    have q2 : (((xs.filter fun a => decide (a.cps.toList < x.cps.toList)).length : Nat) : Int) ≤ Int.fdiv (xs.length : Int) 2 := by
      rw [fdiv_two]; have := hle; unfold lessN at this; simp only [if_true] at hk; omega
    have q3 : Int.fdiv (xs.length : Int) 2 < (((xs.filter fun a => !decide (x.cps.toList < a.cps.toList)).length : Nat) : Int) := by
      rw [fdiv_two]; have := hlt; unfold mostN at this; simp only [if_true] at hk; omega
    clear hle hlt hk
    k_steps
    (rename Fr s.heap s.heap.objs.size _ _ => F9; exact lone_tt (decide_eq_true q3) (h _ _ F9.keep))
  case false =>
    have q2 : (((xs.filter fun a => decide (a.cps.toList < x.cps.toList)).length : Nat) : Int) ≤ Int.fdiv ((xs.length : Int) - 1) 2 := by
      rw [fdiv_pred hpos]; have := hle; unfold lessN at this; simp only [Bool.false_eq_true, if_false] at hk; omega
    have q3 : Int.fdiv ((xs.length : Int) - 1) 2 < (((xs.filter fun a => !decide (x.cps.toList < a.cps.toList)).length : Nat) : Int) := by
      rw [fdiv_pred hpos]; have := hlt; unfold mostN at this; simp only [Bool.false_eq_true, if_false] at hk; omega
    clear hle hlt hk
    k_steps
    (rename Fr s.heap s.heap.objs.size _ _ => F9; exact lone_tt (decide_eq_true q3) (h _ _ F9.keep))
end
end Mine
namespace Mine
def sgn (x : Str) : List Str := x.cps.toList.map fun c => ⟨#[c]⟩
theorem sgn_at {x : Str} {i : Nat} {v : Value} (h : SignAt x i v) : ∃ y u, (sgn x)[i]? = some y ∧ v = .str y u := by
  obtain ⟨c, u, hc, rfl⟩ := h
  refine ⟨_, u, ?_, rfl⟩
  unfold sgn
  rw [List.getElem?_map, Array.getElem?_toList, hc]; rfl
theorem sgn_len (x : Str) : (sgn x).length = x.cps.size := by unfold sgn; simp
open LCg LCt
theorem off1_ne {D : Addr} : ∀ {l : List (Addr × Obj)}, Off1 D l → ∀ q ∈ l, q.1 ≠ D
  | [], _, q, hq => nomatch hq
  | _ :: _, z, q, hq => by
    rcases List.mem_cons.mp hq with rfl | hq
    · exact z.1
    · exact off1_ne z.2 q hq
section
variable {prog : Program} {w : World} {A : Around} {E : Value → Shared → Prop} {s : Shared} {h₀ : Heap} {L : Addr} {m : Str → Option Value} {env : Env} {news : List (Addr × Obj)}
/-- each item's text: what the element gives, the heap only grown -/
theorem rest_map {elt : Expr} {nm : Str} {scope : Scope} {cl : List (Str × Addr)} {S : List (Addr × Obj) → Prop} {P : Nat → Value → Prop} {Fin : List Value → List (Addr × Obj) → Prop} {n : Nat} (G : Nat → Str) (hS : S news)
    (helt : ∀ i v C m₂ h tk (E' : Value → Shared → Prop), i < n → P i v → h.Ns C m₂ → m₂ nm = some v → Fr h₀ L h m → News h₀ L h news →
      wpAny (model prog w) A (eval elt (compEnvC scope cl C env)) (fun y s' => (∃ u, y = .str (G i) u) ∧ ∃ h' tk', s' = { s with heap := h', toks := tk' } ∧ ∀ b o, h.get? b = some o → h'.get? b = some o) E' { s with heap := h, toks := tk })
    (hfin : ∀ ys, StrsAre ys ((List.range n).map G) → Fin ys news) :
    ∀ (k i : Nat) (ys : List Value), i + k = n → StrsAre ys ((List.range i).map G) → CompRest prog w A h₀ L m env elt nm scope cl s S P Fin k i ys news
  | 0, i, ys, e, h => CompRest.zero (hfin ys (by rw [← e]; exact h))
  | k + 1, i, ys, e, h => by
    refine CompRest.succ fun v I oI C oC D m₂ h' tk E' hPi hns hm F N off ne => ?_
    have hC := hns.ns (N _ (.tail _ (.head _))).1
    refine wpAny_mono (helt i v C m₂ h' tk E' (by omega) hPi hC hm F (news_sub N fun q hq => .tail _ (.tail _ (.tail _ hq)))) (fun y s' hy => ?_) fun _ _ z => z
    obtain ⟨⟨u, rfl⟩, h2, tk2, rfl, kp⟩ := hy
    refine CompEnd.intro (s₁ := { s with heap := h', toks := tk }) (F.keeps kp) (N.grown kp) news (fun q hq => hq) off hS (rest_map G hS helt hfin k (i + 1) _ (by omega) ?_)
    rw [List.range_succ, List.map_append]
    exact strs_snoc h
theorem src_map {elt : Expr} {nm : Str} {scope : Scope} {cl : List (Str × Addr)} {vs : Array Value} {ax : Addr} {Q : Value → Shared → Prop} {n : Nat} (G : Nat → Str) (hh : A.handled = none) (F : Fr h₀ L s.heap m) (N : News h₀ L s.heap news) (hsrc : SrcAt h₀ ax vs news) (hn : vs.size = n) (hlt : n < 1000)
    (helt : ∀ i v C m₂ h tk (E' : Value → Shared → Prop), i < n → vs[i]? = some v → h.Ns C m₂ → m₂ nm = some v → Fr h₀ L h m → News h₀ L h news →
      wpAny (model prog w) A (eval elt (compEnvC scope cl C env)) (fun y s' => (∃ u, y = .str (G i) u) ∧ ∃ h' tk', s' = { s with heap := h', toks := tk' } ∧ ∀ b o, h.get? b = some o → h'.get? b = some o) E' { s with heap := h, toks := tk })
    (hfin : ∀ ys D h tk, StrsAre ys ((List.range n).map G) → Fr h₀ L h m → News h₀ L h ((D, lstO ys.toArray ys.length) :: news) → (∀ q ∈ news, q.1 ≠ D) → Q (.ref D) { s with heap := h, toks := tk }) :
    CompSrc prog w A h₀ L m env elt nm scope cl (fun s₂ => FinE h₀ L m s₂ Q) (.ref ax) s := by
  have hz : 1000 ≤ sizeLine := by decide +kernel
  refine .inl ⟨ax, vs, news, rfl, hh, F, N, hsrc, by omega, fun s₂ ⟨g, e⟩ => ?_⟩
  subst e
  exact rest_map (s := { s with heap := g }) (P := fun i v => vs[i]? = some v) (S := SrcAt h₀ ax vs) (Fin := FinE h₀ L m { s with heap := g } Q) G hsrc (fun i v C m₂ h tk E' a b c d e f => helt i v C m₂ h tk E' a b c d e f)
    (fun ys hys D h tk F' N' off => hfin ys D h tk hys F' N' (off1_ne off)) vs.size 0 [] (by omega) .nil
theorem striter_st {I : Addr} {ty : String} {x : Str} {t : Tok} {S : List (Addr × Obj) → Prop} : ∀ i (h h' : Heap) (o : Obj) (nw : List (Addr × Obj)), h.IsStrIter I ty x t i → h.get? I = some o → h'.get? I = some o → (∀ b o, h₀.get? b = some o → h'.get? b = some o) → News h₀ L h' nw → S nw → h'.IsStrIter I ty x t i := by
  intro i h h' o nw ⟨o', e, r⟩ e1 e2 _ _ _
  rw [e] at e1
  cases e1
  exact ⟨_, e2, r⟩
theorem comp_str_T {ct : Expr} {nm : Str} {px px' : Pos} {iter : Expr} {scope : Scope} {cl : List (Str × Addr)} {pos : Pos} {Q : Value → Shared → Prop} {x : Str} {t : Tok} (f : Str → Bool) (hh : A.handled = none) (F : Fr h₀ L s.heap m) (N : News h₀ L s.heap news) (ha : x.cps.all (· < 128) = true) (hlen : x.length < 100)
    (hy : ∀ Q' : Value → Shared → Prop, Q' (.str x t) s → wpAny (model prog w) A (eval iter env) Q' E s)
    (hclos : closureFor scope env = pure cl) (hcell : ∀ y ∈ scope.names, y.2 ≠ .cell) (hkind : scope.kind = .function)
    (hnames : ∀ y ∈ scope.names, y.2 = .local → scope.names.lookup y.1 = some .local) (hx : scope.names.lookup nm = some .local)
    (hk : ∀ C, (compEnvC scope cl C env).scope.kind = .function) (hloc : ∀ C, (compEnvC scope cl C env).kindOf nm = some .local) (hd : (nm == ("__debug__" : Str)) = false)
    (hct : ∀ C m₂ h tk (E' : Value → Shared → Prop) y u nx, h.Ns C m₂ → m₂ nm = some (.str y u) → Fr h₀ L h m → News h₀ L h nx → (∀ q ∈ news, q ∈ nx) → y ∈ sgn x →
      wpAny (model prog w) A (isTrue ct (compEnvC scope cl C env) (eval ct (compEnvC scope cl C env))) (fun ok s' => ok = f y ∧ ∃ tk', s' = { s with heap := h, toks := tk' }) E' { s with heap := h, toks := tk })
    (hfin : ∀ ys D h tk, StrsAre ys ((sgn x).filter f) → Fr h₀ L h m → News h₀ L h ((D, lstO ys.toArray ys.length) :: news) → (∀ q ∈ news, q.1 ≠ D) → Q (.ref D) { s with heap := h, toks := tk })
    (hs : ∀ x, foldedSetIterable iter env x = pure x) :
    wpAny (model prog w) A (eval (.ListComp (.Name nm px') [⟨.Name nm px, iter, [ct], 0⟩] scope pos) env) Q E s := by
  rw [eval_ListComp]
  refine wpAny_comprehension_free (use := none) rfl hs hclos hkind hnames (hy _ ?_)
  refine wpAny_pyIter_ascii ha ?_
  have up : ∀ b o, s.heap.get? b = some o → (s.heap.push { cls := .type "str_ascii_iterator", data := .fields #[.str x t, .int 0 0] }).get? b = some o := fun b o e => Heap.get?_push_of_some _ e
  have hz : 1000 ≤ sizeLine := by decide +kernel
  have hxl : x.length = x.cps.size := rfl
  refine block_T (S := fun _ => True) (P := SignAt x) (Fin := fun ys nw => nw = news ∧ StrsAre ys ((sgn x).filter f)) (Walks.strAscii hh s.heap.objs.size x t) (by omega) (fun i h st => by obtain ⟨o, e, _⟩ := st; exact ⟨o, e⟩) (striter_st (S := fun _ => True)) hcell hkind hx ⟨_, Heap.get?_push_size _ rfl, rfl, rfl⟩ (fun b hb => ?_)
    (F.keeps up) (N.grown up) (Nat.ne_of_lt F.ns.lt) (next_is_new F) (fun p hp => Nat.ne_of_lt (Heap.lt_size (N p hp).1)) trivial ?_ ?_
  · show b < (s.heap.push _).objs.size
    rw [Heap.size_push, List.mem_singleton.mp hb]; exact Nat.lt_succ_self _
  · refine rest_filt (s := { s with heap := s.heap.push { cls := .type "str_ascii_iterator", data := .fields #[.str x t, .int 0 0] } }) (xs := sgn x) (S := fun _ => True) (P := SignAt x) (Fin := fun ys nw => nw = news ∧ StrsAre ys ((sgn x).filter f)) f trivial hk hloc hd (fun i v hi _ => sgn_at hi) (fun C m₂ h tk E' y u nx a b c d e g => hct C m₂ h tk E' y u nx a b c d e g) (fun ys hys => ⟨rfl, hys⟩) x.cps.size 0 [] (by rw [sgn_len]; omega) .nil
  · intro D C h tk m' ys news' F' N' o1 hn hC₀ hD₀ hCL hDL hCD offC fin
    obtain ⟨rfl, hys⟩ := fin
    refine ⟨m', hn, fun h'' hs'' => hfin ys D h'' tk hys (F'.change hs'' hCL hC₀) (fun p hp => ?_) (off1_ne o1)⟩
    refine ⟨hs''.extBut _ _ ?_ (N' p hp).1, (N' p hp).2⟩
    rcases List.mem_cons.mp hp with rfl | hp
    · exact Ne.symm hCD
    · exact offC p hp
theorem comp_str_U {elt : Expr} {nm : Str} {px : Pos} {iter : Expr} {scope : Scope} {cl : List (Str × Addr)} {pos : Pos} {Q : Value → Shared → Prop} {x : Str} {t : Tok} (g : Str → Str) (hh : A.handled = none) (F : Fr h₀ L s.heap m) (N : News h₀ L s.heap news) (ha : x.cps.all (· < 128) = true) (hlen : x.length < 100)
    (hy : ∀ Q' : Value → Shared → Prop, Q' (.str x t) s → wpAny (model prog w) A (eval iter env) Q' E s)
    (hclos : closureFor scope env = pure cl) (hcell : ∀ y ∈ scope.names, y.2 ≠ .cell) (hkind : scope.kind = .function)
    (hnames : ∀ y ∈ scope.names, y.2 = .local → scope.names.lookup y.1 = some .local) (hx : scope.names.lookup nm = some .local)
    (helt : ∀ C m₂ h tk (E' : Value → Shared → Prop) y u, h.Ns C m₂ → m₂ nm = some (.str y u) → y ∈ sgn x →
      wpAny (model prog w) A (eval elt (compEnvC scope cl C env)) (fun v s' => (∃ u, v = .str (g y) u) ∧ ∃ tk', s' = { s with heap := h, toks := tk' }) E' { s with heap := h, toks := tk })
    (hfin : ∀ ys D h tk, StrsAre ys ((sgn x).map g) → Fr h₀ L h m → News h₀ L h ((D, lstO ys.toArray ys.length) :: news) → (∀ q ∈ news, q.1 ≠ D) → Q (.ref D) { s with heap := h, toks := tk })
    (hs : ∀ x, foldedSetIterable iter env x = pure x) :
    wpAny (model prog w) A (eval (.ListComp elt [⟨.Name nm px, iter, [], 0⟩] scope pos) env) Q E s := by
  rw [eval_ListComp]
  refine wpAny_comprehension_free (use := none) rfl hs hclos hkind hnames (hy _ ?_)
  refine wpAny_pyIter_ascii ha ?_
  have up : ∀ b o, s.heap.get? b = some o → (s.heap.push { cls := .type "str_ascii_iterator", data := .fields #[.str x t, .int 0 0] }).get? b = some o := fun b o e => Heap.get?_push_of_some _ e
  have hz : 1000 ≤ sizeLine := by decide +kernel
  have hxl : x.length = x.cps.size := rfl
  have eG : (List.range x.cps.size).map (fun i => match (sgn x)[i]? with | some y => g y | none => Str.ofString "") = (sgn x).map g := by
    apply List.ext_getElem?
    intro i
    by_cases hi : i < x.cps.size
    · have hi' : i < (sgn x).length := by rw [sgn_len]; exact hi
      simp [hi, hi']
    · have hi' : (sgn x).length ≤ i := by rw [sgn_len]; omega
      simp [hi', Nat.le_of_not_lt hi]
  refine block_U (S := fun _ => True) (P := SignAt x) (Fin := fun ys nw => nw = news ∧ StrsAre ys ((sgn x).map g)) (Walks.strAscii hh s.heap.objs.size x t) (by omega) (fun i h st => by obtain ⟨o, e, _⟩ := st; exact ⟨o, e⟩) (striter_st (S := fun _ => True)) hcell hkind hx ⟨_, Heap.get?_push_size _ rfl, rfl, rfl⟩ (fun b hb => ?_)
    (F.keeps up) (N.grown up) (Nat.ne_of_lt F.ns.lt) (next_is_new F) (fun p hp => Nat.ne_of_lt (Heap.lt_size (N p hp).1)) trivial ?_ ?_
  · show b < (s.heap.push _).objs.size
    rw [Heap.size_push, List.mem_singleton.mp hb]; exact Nat.lt_succ_self _
  · refine rest_map (s := { s with heap := s.heap.push { cls := .type "str_ascii_iterator", data := .fields #[.str x t, .int 0 0] } }) (S := fun _ => True) (P := SignAt x) (Fin := fun ys nw => nw = news ∧ StrsAre ys ((sgn x).map g)) (n := x.cps.size) (fun i => match (sgn x)[i]? with | some y => g y | none => Str.ofString "") trivial (fun i v C m₂ h tk E' hi hP hns hm _ _ => ?_) (fun ys hys => ⟨rfl, eG ▸ hys⟩) x.cps.size 0 [] (by omega) .nil
    obtain ⟨y, u, hyi, rfl⟩ := sgn_at hP
    refine wpAny_mono (helt C m₂ h tk E' y u hns hm (List.mem_of_getElem? hyi)) (fun v s' hv => ?_) fun _ _ z => z
    obtain ⟨⟨u', rfl⟩, tk', rfl⟩ := hv
    refine ⟨⟨u', by rw [hyi]⟩, h, tk', rfl, fun _ _ e => e⟩
  · intro D C h tk m' ys news' F' N' o1 hn hC₀ hD₀ hCL hDL hCD offC fin
    obtain ⟨rfl, hys⟩ := fin
    refine ⟨m', hn, fun h'' hs'' => hfin ys D h'' tk hys (F'.change hs'' hCL hC₀) (fun p hp => ?_) (off1_ne o1)⟩
    refine ⟨hs''.extBut _ _ ?_ (N' p hp).1, (N' p hp).2⟩
    rcases List.mem_cons.mp hp with rfl | hp
    · exact Ne.symm hCD
    · exact offC p hp
end
end Mine
namespace Mine
open PySem.SeqAt
theorem readsAll_strs {h : Heap} : ∀ {vs : List Value} {xs : List Str}, StrsAre vs xs → ReadsAll h vs (xs.map .str) []
  | _, _, .nil => .nil
  | _, _, .cons x t hs => .cons (as := []) (bs := []) (.str x t) (readsAll_strs hs)
theorem reads_strs {h : Heap} {a : Addr} {vs : List Value} {xs : List Str} (hl : h.IsList a vs.toArray) (hi : StrsAre vs xs) : Reads h (.ref a) (.list (xs.map .str)) [a] := by
  obtain ⟨o, ho, hc, n, hd⟩ := hl
  exact Reads.list ho hc hd (by simpa using readsAll_strs hi)
theorem canLay_strs : ∀ ns : List Str, (∀ x ∈ ns, PyData.strOk x = true) → PyData.canLayAll0 (ns.map PyData.str) = true
  | [], _ => by simp [PyData.canLayAll0]
  | n :: r, h => by simp [PyData.canLayAll0, PyData.canLay0, canLay_strs r fun x hx => h x (.tail _ hx), h n (.head _)]
theorem depth_strs : ∀ ns : List Str, PyData.depthAll (ns.map PyData.str) ≤ 1
  | [] => by simp [PyData.depthAll]
  | n :: r => by
    have := depth_strs r
    simp only [List.map_cons, PyData.depthAll, PyData.depth]
    omega
theorem shaped_strs (ns : List Str) (hok : ∀ x ∈ ns, PyData.strOk x = true) : shaped (.list (ns.map PyData.str)) = true := by
  have h1 := depth_strs ns
  have h2 : PyData.depth (.list (ns.map PyData.str)) ≤ 64 := by simp only [PyData.depth]; omega
  show (PyData.canLay0 (.list (ns.map PyData.str)) && decide (PyData.depth (.list (ns.map PyData.str)) ≤ 64)) = true
  rw [Bool.and_eq_true]
  exact ⟨by simp only [PyData.canLay0]; exact canLay_strs ns hok, decide_eq_true h2⟩
theorem noMix_strs : ∀ ns ms : List Str, noMixAll (ns.map PyData.str) (ms.map PyData.str) = true
  | [], [] => by simp [noMixAll]
  | [], _ :: _ => by simp [noMixAll]
  | _ :: _, [] => by simp [noMixAll]
  | _ :: r, _ :: q => by simp [noMixAll, noMix, noMix_strs r q]
theorem same_strs : ∀ ns ms : List Str, PySem.Spec.sameAll (ns.map PyData.str) (ms.map PyData.str) = decide (ns = ms)
  | [], [] => by simp [PySem.Spec.sameAll]
  | [], _ :: _ => by simp [PySem.Spec.sameAll]
  | _ :: _, [] => by simp [PySem.Spec.sameAll]
  | n :: r, k :: q => by
    simp only [List.map_cons, PySem.Spec.sameAll, PySem.Spec.same, same_strs r q]
    by_cases h : n = k <;> simp [h]
section
variable {prog : Program} {w : World} {A : Around} {E : Value → Shared → Prop} {s : Shared}
theorem eq_strsK {a b : Addr} {vs us : List Value} {ns ms : List Str} {Q : Value → Shared → Prop} (hl : s.heap.IsList a vs.toArray) (hi : StrsAre vs ns) (hl' : s.heap.IsList b us.toArray) (hi' : StrsAre us ms) (o1 : ∀ x ∈ ns, PyData.strOk x = true) (o2 : ∀ x ∈ ms, PyData.strOk x = true) (hu : A.units + 64 < cLine)
    (h : Q (.bool (decide (ns = ms))) s) : wpAny (model prog w) A (compareOp .Eq (.ref a) (.ref b)) Q E s :=
  eq_dataH_same (reads_strs hl hi) (reads_strs hl' hi') (shaped_strs ns o1) (shaped_strs ms o2) hu (by simp only [noMix]; exact noMix_strs ns ms) (by simp only [PySem.Spec.same]; rw [same_strs]; exact h)
theorem ne_strsK {a b : Addr} {vs us : List Value} {ns ms : List Str} {Q : Value → Shared → Prop} (hl : s.heap.IsList a vs.toArray) (hi : StrsAre vs ns) (hl' : s.heap.IsList b us.toArray) (hi' : StrsAre us ms) (o1 : ∀ x ∈ ns, PyData.strOk x = true) (o2 : ∀ x ∈ ms, PyData.strOk x = true) (hu : A.units + 64 < cLine)
    (h : Q (.bool (!decide (ns = ms))) s) : wpAny (model prog w) A (compareOp .NotEq (.ref a) (.ref b)) Q E s :=
  ne_dataH_same (reads_strs hl hi) (reads_strs hl' hi') (shaped_strs ns o1) (shaped_strs ms o2) hu (by simp only [noMix]; exact noMix_strs ns ms) (by simp only [PySem.Spec.same]; rw [same_strs]; exact h)
theorem join_S {h₀ : Heap} {L : Addr} {news : List (Addr × Obj)} {D : Addr} {vs : List Value} {c : Nat} {ys : List Str} {x : Str} {t : Tok} {Q : Value → Shared → Prop} (N : News h₀ L s.heap news) (hm : (D, lstO vs.toArray c) ∈ news) (hS : StrsAre vs ys) (hw : (ys.map (·.length)).sum + ys.length ≤ 10000) (hsep : x.length ≤ 16)
    (h : ∀ t' k, Q (.str (Txt.join x ys) t') { s with toks := k }) : wpAny (model prog w) A (call (.builtin "str.join") [.str x t, .ref D]) Q E s :=
  join_listW ⟨_, (N _ hm).1, rfl, _, rfl⟩ (by simpa using hS) hsep (by omega) h
end
end Mine
namespace Mine
theorem clear11 : True := by first | (walk1; fail) | exact trivial
local macro_rules | `(tactic| k_room) => `(tactic| (refine Nat.lt_of_le_of_lt ?_ (show (_ : Nat) + 10 < recursionLimit by assumption); (try simp only [depth_under_make, depth_under_kw, depth_in1, depth_deeper, depth_caller]); omega))
def odd (y : Str) : Bool := !Txt.contains (Str.ofString "aZb") y
def apo (y : Str) : Str := if (y == Str.ofString "'") = true then Str.ofString "'\"'\"'" else y
theorem sok_all : (wordList.all fun x => (sgn x).all PyData.strOk) = true := by decide +kernel
theorem ascii_all : (wordList.all fun x => x.cps.all (· < 128)) = true := by decide +kernel
section
variable {prog : Program} {w : World} {A : Around} {E : Value → Shared → Prop} {s : Shared} {env : Env} {scope : Scope} {cl : List (Str × Addr)} {C : Addr} {nm : Str} {m₂ : Str → Option Value} {y : Str} {u : Tok} {h : Heap}
theorem ct_odd {p1 p2 p3 : Pos} {k : Nat} {whole : Sem Value} {Q : Bool → Shared → Prop} (hns : s.heap.Ns C m₂) (hm : m₂ nm = some (.str y u)) (hk : (compEnvC scope cl C env).scope.kind = .function) (hl : (compEnvC scope cl C env).kindOf nm = some .local) (hd : (nm == ("__debug__" : Str)) = false)
    (h : Q (odd y) { s with toks := s.toks + 1 }) : wpAny (model prog w) A (isTrue (.Compare (.Name nm p1) [.NotIn] [.Constant (.str (Str.ofString "aZb")) k p2] p3) (compEnvC scope cl C env) whole) Q E s :=
  wpAny_isTrue_Compare1 (name_comp hns hm (wpAny_Constant_str (PySem.P.notIn_str (wpAny_truthy_bool h))) hk hl hd)
theorem elt_apo {p1 p2 p3 p4 p5 p6 : Pos} {k k' : Nat} {Q : Value → Shared → Prop} (hns : s.heap.Ns C m₂) (hm : m₂ nm = some (.str y u)) (hk : (compEnvC scope cl C env).scope.kind = .function) (hl : (compEnvC scope cl C env).kindOf nm = some .local) (hd : (nm == ("__debug__" : Str)) = false)
    (h : ∀ tk' u', Q (.str (apo y) u') { s with toks := tk' }) : wpAny (model prog w) A (eval (.IfExp (.Compare (.Name nm p1) [.Eq] [.Constant (.str (Str.ofString "'")) k p2] p3) (.Constant (.str (Str.ofString "'\"'\"'")) k' p4) (.Name nm p5) p6) (compEnvC scope cl C env)) Q E s := by
  refine wpAny_IfExp (wpAny_isTrue_Compare1 (name_comp hns hm (wpAny_Constant_str (PyProof.Rows.eq_str (wpAny_truthy_bool ?_))) hk hl hd))
  unfold apo at h
  cases e : y == Str.ofString "'" with
  | true =>
    simp only [e, if_true] at h ⊢
    exact wpAny_Constant_str (h _ _)
  | false =>
    simp only [e, Bool.false_eq_true, if_false] at h ⊢
    exact name_comp hns hm (h _ _) hk hl hd
end
set_option hygiene false in
local macro_rules | `(tactic| walk_at "eval ListComp") => `(tactic| (k_here; k_dflt (first
  | ((with_reducible show wpAny _ _ (eval (Expr.ListComp _ [⟨_, _, [_], _⟩] _ _) _) _ _ _); refine' comp_str_T odd ?hh ?F ?N ?ha ?hlen ?hy ?a1 ?a2 ?a3 ?a4 ?a5 ?hk ?hloc ?hd ?hct ?_ ?hs; (case hh => exact hA); (case F => k_asm); (case N => k_asm); (case ha => exact hasc); (case hlen => exact hxl); (case hy => exact fun Q' hq => ld (by k_asm) rfl hq); (case a1 => with_unfolding_all rfl); (case a2 => decide); (case a3 => rfl); (case a4 => decide); (case a5 => rfl); (case hk => exact fun _ => rfl); (case hloc => exact fun _ => rfl); (case hd => decide); (case hct => exact fun C m₂ h tk E' y u nx a b c d e _ => ct_odd a b rfl rfl (by decide) ⟨rfl, _, rfl⟩); (case hs => exact fun _ => rfl); k_whole; intro ys9 D9 h9 tk9 hS9 F9 N9 o9)
  | ((with_reducible show wpAny _ _ (eval (Expr.ListComp _ [⟨_, _, [], _⟩] _ _) _) _ _ _); refine' comp_str_U apo ?hh ?F ?N ?ha ?hlen ?hy ?a1 ?a2 ?a3 ?a4 ?a5 ?hct ?_ ?hs; (case hh => exact hA); (case F => k_asm); (case N => k_asm); (case ha => exact hasc); (case hlen => exact hxl); (case hy => exact fun Q' hq => ld (by k_asm) rfl hq); (case a1 => with_unfolding_all rfl); (case a2 => decide); (case a3 => rfl); (case a4 => decide); (case a5 => rfl); (case hct => exact fun C m₂ h tk E' y u a b _ => elt_apo a b rfl rfl (by decide) fun tk' u' => ⟨⟨u', rfl⟩, tk', rfl⟩); (case hs => exact fun _ => rfl); k_whole; intro ys9 D9 h9 tk9 hS9 F9 N9 o9))))
theorem eq_nil {prog : Program} {w : World} {A : Around} {E : Value → Shared → Prop} {s : Shared} {h₀ : Heap} {L : Addr} {news : List (Addr × Obj)} {a b : Addr} {vs us : List Value} {c d : Nat} {ns : List Str} {Q : Value → Shared → Prop}
    (N : News h₀ L s.heap news) (h1 : (a, lstO vs.toArray c) ∈ news) (h2 : (b, lstO us.toArray d) ∈ news) (hu : us = []) (hv : StrsAre vs ns) (hok : ∀ x ∈ ns, PyData.strOk x = true) (hun : A.units + 64 < cLine)
    (h : Q (.bool (decide (ns = []))) s) : wpAny (model prog w) A (compareOp .Eq (.ref a) (.ref b)) Q E s := by
  subst hu
  exact eq_strsK ⟨_, (N _ h1).1, rfl, _, rfl⟩ hv ⟨_, (N _ h2).1, rfl, _, rfl⟩ .nil hok (fun _ z => nomatch z) hun h
set_option hygiene false in
local macro_rules | `(tactic| walk_at "compareOp Eq ref") => `(tactic| (k_here; (with_reducible show wpAny _ _ (compareOp CmpOp.Eq (Value.ref _) (Value.ref _)) _ _ _); k_dflt (refine' eq_nil ?N ?a ?b ?u ?v ?o ?n ?_; (case N => k_asm); (case a => k_mem); (case b => k_mem); (case u => rfl); (case v => assumption); (case o => exact hsok); (case n => walk_at "my units"); k_whole)))
local macro_rules | `(tactic| walk_at "my units") => `(tactic| (refine Nat.lt_of_le_of_lt ?_ (show (_ : Nat) + 100 < cLine by assumption); (try simp only [units_in1, units_deeper, Around.mark_units, units_caller]); omega))
set_option hygiene false in
local macro_rules | `(tactic| walk_at "call builtin:str.join") => `(tactic| (k_here; (with_reducible show wpAny _ _ (call (Value.builtin "str.join") [Value.str _ _, Value.ref _]) _ _ _); k_dflt (refine' join_S ?N ?m ?S ?w ?l ?_; (case N => k_asm); (case m => k_mem); (case S => assumption); (case w => exact hjw); (case l => decide +kernel); k_whole; intro t9 k9)))
theorem jw_all : (wordList.all fun x => decide ((((sgn x).map apo).map (·.length)).sum + ((sgn x).map apo).length ≤ 10000)) = true := by decide +kernel
theorem jl_all : (wordList.all fun x => decide ((Txt.join (Str.ofString "") ((sgn x).map apo)).length ≤ 100)) = true := by decide +kernel
section
variable {w : World} {p : Program} {loose : List Str} {mean : ExcName → Option Value} {mg mb : Str → Option Value} {A : Around} {s : Shared} {R : Result → Shared → Prop} {x : Str} {t : Tok}
set_option maxHeartbeats 2000000 in
theorem qtd_a (hd : A.depth + 10 < recursionLimit) (hu : A.units + 100 < cLine) (hA : A.handled = none) (X : (Mine.KK w.params).In s.heap) (T : Top p loose mean mg mb s.heap) (hx : x ∈ wordList) (q1 : (x != Str.ofString "") = true) (q2 : (sgn x).filter odd = [])
    (h : ∀ h' tk' t', (∀ b o, s.heap.get? b = some o → h'.get? b = some o) → R (.ok (.ret (.str x t'))) { s with heap := h', toks := tk' }) :
    codeAny (model pw w) A (.call (.ref 810) ⟨[.str x t], []⟩) R s := by
  have hasc : x.cps.all (· < 128) = true := List.all_eq_true.mp ascii_all x hx
  have hxl := word_len x hx
  have hsok : ∀ y ∈ (sgn x).filter odd, PyData.strOk y = true := fun y hy => List.all_eq_true.mp (List.all_eq_true.mp sok_all x hx) y (List.mem_filter.mp hy).1
  k_dflt (refine' code_lone ?k3 ?k5 ?k6 ?k7 ?k8 ?k9 ?kB ?_ ?c2 ?c3 ?c4 ?c5; (case k3 => assumption); (case k5 => assumption); (case k6 => k_is); (case k7 => k_is); (case k8 => omega); (case k9 => exact BindsTo.of_eq rfl); (case c5 => decide); (case kB => exact locs rfl); (case c2 => exact rfl); (case c3 => exact rfl); (case c4 => exact rfl); k_whole; intro h1 F1 N1; (try dsimp only); (try k_fold))
  k_steps
  (rename Fr s.heap s.heap.objs.size _ _ => F9; exact h _ _ _ F9.keep)
set_option maxHeartbeats 2000000 in
theorem qtd_b (hd : A.depth + 10 < recursionLimit) (hu : A.units + 100 < cLine) (hA : A.handled = none) (X : (Mine.KK w.params).In s.heap) (T : Top p loose mean mg mb s.heap) (hx : x ∈ wordList) (qq : ((x != Str.ofString "") = true ∧ ¬ (sgn x).filter odd = []) ∨ (x != Str.ofString "") = false)
    (h : ∀ h' tk' t', (∀ b o, s.heap.get? b = some o → h'.get? b = some o) → R (.ok (.ret (.str (Str.ofString "'" ++ Txt.join (Str.ofString "") ((sgn x).map apo) ++ Str.ofString "'") t'))) { s with heap := h', toks := tk' }) :
    codeAny (model pw w) A (.call (.ref 810) ⟨[.str x t], []⟩) R s := by
  have hasc : x.cps.all (· < 128) = true := List.all_eq_true.mp ascii_all x hx
  have hxl := word_len x hx
  have hsok : ∀ y ∈ (sgn x).filter odd, PyData.strOk y = true := fun y hy => List.all_eq_true.mp (List.all_eq_true.mp sok_all x hx) y (List.mem_filter.mp hy).1
  k_dflt (refine' code_lone ?k3 ?k5 ?k6 ?k7 ?k8 ?k9 ?kB ?_ ?c2 ?c3 ?c4 ?c5; (case k3 => assumption); (case k5 => assumption); (case k6 => k_is); (case k7 => k_is); (case k8 => omega); (case k9 => exact BindsTo.of_eq rfl); (case c5 => decide); (case kB => exact locs rfl); (case c2 => exact rfl); (case c3 => exact rfl); (case c4 => exact rfl); k_whole; intro h1 F1 N1; (try dsimp only); (try k_fold))
  have hjw := of_decide_eq_true (List.all_eq_true.mp jw_all x hx)
  have hjl := of_decide_eq_true (List.all_eq_true.mp jl_all x hx)
  rcases qq with ⟨q1, q2⟩ | q1
  · k_steps
    (rename Fr s.heap s.heap.objs.size _ _ => F9; exact h _ _ _ F9.keep)
  · k_steps
    (rename Fr s.heap s.heap.objs.size _ _ => F9; exact h _ _ _ F9.keep)
def lawQ (x : Str) : Str := bif (x != Str.ofString "") && decide ((sgn x).filter odd = []) then x else Str.ofString "'" ++ Txt.join (Str.ofString "") ((sgn x).map apo) ++ Str.ofString "'"
theorem lawQ_all : (wordList.all fun x => decide (lawQ x = quoted x)) = true := by decide +kernel
theorem qtd_spec (hd : A.depth + 10 < recursionLimit) (hu : A.units + 100 < cLine) (hA : A.handled = none) (X : (Mine.KK w.params).In s.heap) (T : Top p loose mean mg mb s.heap) (hx : x ∈ wordList)
    (h : ∀ h' tk' t', (∀ b o, s.heap.get? b = some o → h'.get? b = some o) → R (.ok (.ret (.str (quoted x) t'))) { s with heap := h', toks := tk' }) :
    codeAny (model pw w) A (.call (.ref 810) ⟨[.str x t], []⟩) R s := by
  have e : lawQ x = quoted x := of_decide_eq_true (List.all_eq_true.mp lawQ_all x hx)
  rw [← e] at h
  unfold lawQ at h
  cases q1 : (x != Str.ofString "") with
  | false =>
    rw [q1] at h
    exact qtd_b hd hu hA X T hx (.inr q1) h
  | true =>
    by_cases q2 : (sgn x).filter odd = []
    · rw [q1, decide_eq_true q2] at h
      exact qtd_a hd hu hA X T hx q1 q2 h
    · rw [q1, decide_eq_false q2] at h
      exact qtd_b hd hu hA X T hx (.inl ⟨q1, q2⟩) h
end
end Mine
namespace Mine
theorem clear12 : True := by first | (walk1; fail) | exact trivial
local macro_rules | `(tactic| k_room) => `(tactic| (refine Nat.lt_of_le_of_lt ?_ (show (_ : Nat) + 40 < recursionLimit by assumption); (try simp only [depth_under_make, depth_under_kw, depth_in1, depth_deeper, depth_caller]); (try dsimp only [Ar]); omega))
local macro_rules | `(tactic| walk_at "call builtin:len") => `(tactic| (k_here; (with_reducible show wpAny _ _ (call (Value.builtin "len") [Value.ref _]) _ _ _); k_dflt (refine' len_S ?N ?m ?S ?p ?l ?_; (case N => k_asm); (case m => k_mem); (case S => assumption); (case p => assumption); (case l => assumption); k_whole)))
set_option hygiene false in
local macro_rules | `(tactic| walk_at "subscriptTail") => `(tactic| (k_here; (with_reducible show wpAny _ _ (subscriptTail _ _ (Value.ref _) (Value.int _ _)) _ _ _); k_dflt (refine' item_S ?N ?m ?S ?k ?l ?_ ?hs ?hg; (case N => k_asm); (case m => k_mem); (case S => assumption); (case k => (rw [hp9.length_eq]; have z9 := fdiv_two xs.length; omega)); (case l => (rw [hp9.length_eq]; assumption)); (case hs => with_unfolding_all rfl); (case hg => (intro _; with_unfolding_all rfl)); k_whole; intro t9)))
set_option hygiene false in
local macro_rules | `(tactic| walk_at "call builtin:sorted") => `(tactic| (k_here; (with_reducible show wpAny _ _ (call (Value.builtin "sorted") [Value.ref _]) _ _ _); k_dflt (refine' sort_K ?F ?N ?m ?S ?l ?_; (case F => k_asm); (case N => k_asm); (case m => k_mem); (case S => assumption); (case l => assumption); k_whole); intro D9 h9 vs9 ss9 e9 F9 N9 l9 hS9 hp9 hs9; (try k_lt l9)))
section
variable {w : World} {p : Program} {loose : List Str} {mean : ExcName → Option Value} {mg mb : Str → Option Value} {dp un : Nat} {gd : Option (List Code)} {env : Env} {outer : List Env} {A₀ : Around} {base h₀ : Heap} {L : Addr} {m : Str → Option Value} {s : Shared} {R : Result → Shared → Prop}
  {l : Addr} {vs : List Value} {c : Nat} {xs : List Str} {news : List (Addr × Obj)}
set_option maxHeartbeats 2000000 in
theorem high_spec (hv : StrsAre vs xs) (hn : xs.length < 20) (hpos : 0 < xs.length) (cx : Cx (Mine.KK w.params) p loose mean mg mb A₀ env outer base h₀ L m s.heap)
    (N : News h₀ L s.heap ((l, lstO vs.toArray c) :: news)) (hd : dp + 40 < recursionLimit)
    (h : ∀ h' tk' t' ss, ss.Perm xs → sortedS ss = true → Fr h₀ L h' m → News h₀ L h' ((l, lstO vs.toArray c) :: news) → R (.ok (.ret (.str (ss.getD (xs.length / 2) (Str.ofString "")) t'))) { s with heap := h', toks := tk' }) :
    codeAny (model pw w) (Ar dp un gd env outer) (.call (.ref 71) ⟨[.ref l], []⟩) R s := by
  obtain ⟨B, F, X, T, hf, hke⟩ := cx
  k_dflt (refine' code_def ?k1 ?k2 ?k3 ?k4 ?k5 ?kA ?kF ?kK ?k6 ?k7 ?k8 ?k9 ?kB ?_ ?c2 ?c3 ?c4 ?c5; (case kA => exact rfl); (case kF => assumption); (case kK => assumption); (case k1 => k_asm); (case k2 => k_asm); (case k3 => k_asm); (case k4 => k_asm); (case k5 => k_asm); (case k6 => k_is); (case k7 => k_is); (case k8 => k_room); (case k9 => first | exact BindsTo.of_eq rfl | exact binds_K (by k_in) rfl (by k_is) rfl rfl rfl); (case c5 => decide); (case kB => exact locs rfl); (case c2 => exact rfl); (case c3 => exact rfl); (case c4 => exact rfl); k_whole; intro g L1 h1 FG F1 N1 B1 X1 T1; (try dsimp only); (try k_lift B1); (try k_fold))
  have q2 : ¬ (xs.length : Int) = 0 := by omega
  have q1 : ((xs.length : Int) == 0) = false := beq_eq_false_iff_ne.mpr q2
  have z8 := fdiv_two xs.length
  have e8 : (Int.fdiv (xs.length : Int) 2).toNat = xs.length / 2 := by rw [z8]; rfl
  k_steps
  (rename News h₀ L _ _ => n9; rename Fr h₀ L _ _ => f9; rw [e8]; exact h _ _ _ _ hp9 hs9 f9 (news_sub n9 fun q hq => .tail _ hq))
set_option maxHeartbeats 2000000 in
theorem low_spec (hv : StrsAre vs xs) (hn : xs.length < 20) (hpos : 0 < xs.length) (cx : Cx (Mine.KK w.params) p loose mean mg mb A₀ env outer base h₀ L m s.heap)
    (N : News h₀ L s.heap ((l, lstO vs.toArray c) :: news)) (hd : dp + 40 < recursionLimit)
    (h : ∀ h' tk' t' ss, ss.Perm xs → sortedS ss = true → Fr h₀ L h' m → News h₀ L h' ((l, lstO vs.toArray c) :: news) → R (.ok (.ret (.str (ss.getD ((xs.length - 1) / 2) (Str.ofString "")) t'))) { s with heap := h', toks := tk' }) :
    codeAny (model pw w) (Ar dp un gd env outer) (.call (.ref 64) ⟨[.ref l], []⟩) R s := by
  obtain ⟨B, F, X, T, hf, hke⟩ := cx
  k_dflt (refine' code_def ?k1 ?k2 ?k3 ?k4 ?k5 ?kA ?kF ?kK ?k6 ?k7 ?k8 ?k9 ?kB ?_ ?c2 ?c3 ?c4 ?c5; (case kA => exact rfl); (case kF => assumption); (case kK => assumption); (case k1 => k_asm); (case k2 => k_asm); (case k3 => k_asm); (case k4 => k_asm); (case k5 => k_asm); (case k6 => k_is); (case k7 => k_is); (case k8 => k_room); (case k9 => first | exact BindsTo.of_eq rfl | exact binds_K (by k_in) rfl (by k_is) rfl rfl rfl); (case c5 => decide); (case kB => exact locs rfl); (case c2 => exact rfl); (case c3 => exact rfl); (case c4 => exact rfl); k_whole; intro g L1 h1 FG F1 N1 B1 X1 T1; (try dsimp only); (try k_lift B1); (try k_fold))
  have q2 : ¬ (xs.length : Int) = 0 := by omega
  have q1 : ((xs.length : Int) == 0) = false := beq_eq_false_iff_ne.mpr q2
  have z8 := fdiv_two xs.length
  have z7 : Int.fmod (xs.length : Int) 2 = ((xs.length % 2 : Nat) : Int) := by rw [Int.fmod_eq_emod_of_nonneg _ (by decide)]; rfl
  rcases Nat.mod_two_eq_zero_or_one xs.length with hm2 | hm2
  · have q3 : (Int.fmod (xs.length : Int) 2 == 1) = false := by rw [z7, hm2]; rfl
    have e8 : (Int.fdiv (xs.length : Int) 2 - 1).toNat = (xs.length - 1) / 2 := by rw [z8]; omega
    clear z7
    k_steps
    (rename News h₀ L _ _ => n9; rename Fr h₀ L _ _ => f9; rw [e8]; exact h _ _ _ _ hp9 hs9 f9 (news_sub n9 fun q hq => .tail _ hq))
  · have q3 : (Int.fmod (xs.length : Int) 2 == 1) = true := by rw [z7, hm2]; rfl
    have e8 : (Int.fdiv (xs.length : Int) 2).toNat = (xs.length - 1) / 2 := by rw [z8]; omega
    clear z7
    k_steps
    (rename News h₀ L _ _ => n9; rename Fr h₀ L _ _ => f9; rw [e8]; exact h _ _ _ _ hp9 hs9 f9 (news_sub n9 fun q hq => .tail _ hq))
end
end Mine
namespace Mine
abbrev J (xs : List Str) : Str := Txt.join (Str.ofString " ") (xs.map quoted)
abbrev PsOk (ps : Array Value) : Prop := ∀ pos : Pos, pos.line = 752 → pos.col = 20 → TabOk pos ps
abbrev tupO (vs : Array Value) (c : Nat) : Obj := { cls := .type "tuple", dict := none, data := .seq vs c, slots := #[] }
theorem mem_swap2 {α : Type} {a b : α} {l : List α} : ∀ q ∈ a :: b :: l, q ∈ b :: a :: l := fun q hq => by
  rcases List.mem_cons.mp hq with rfl | hq
  · exact .tail _ (.head _)
  · rcases List.mem_cons.mp hq with rfl | hq
    · exact .head _
    · exact .tail _ (.tail _ hq)
theorem hasB {w : World} {h : Heap} (X : (Mine.KK w.params).In h) : HasB h := ⟨_, X 4 _ (by kernel_rfl : (Mine.KK w.params).lookup 4 = some (o4E w.params)), by kernel_rfl, by kernel_rfl, by kernel_rfl⟩
/-- one row of the log: the word, the line's words behind it -/
def EntAt (nx : List (Addr × Obj)) (v : Value) (d : Str × List Str) : Prop :=
  ∃ ta t1 t2 lb us k k', v = .ref ta ∧ (ta, tupO #[.str d.1 t1, .str (J d.2) t2, .ref lb] k) ∈ nx ∧ (lb, lstO us.toArray k') ∈ nx ∧ StrsAre us d.2
inductive LogAre (nx : List (Addr × Obj)) : List Value → List (Str × List Str) → Prop where
  | nil : LogAre nx [] []
  | cons {v d vs ds} : EntAt nx v d → LogAre nx vs ds → LogAre nx (v :: vs) (d :: ds)
theorem EntAt.mono {nx nx' : List (Addr × Obj)} {v : Value} {d : Str × List Str} (h : EntAt nx v d) (s : ∀ q ∈ nx, q ∈ nx') : EntAt nx' v d := by
  obtain ⟨ta, t1, t2, lb, us, k, k', e, a, b, c⟩ := h
  exact ⟨ta, t1, t2, lb, us, k, k', e, s _ a, s _ b, c⟩
theorem LogAre.mono {nx nx' : List (Addr × Obj)} (s : ∀ q ∈ nx, q ∈ nx') : ∀ {vs : List Value} {ds : List (Str × List Str)}, LogAre nx vs ds → LogAre nx' vs ds
  | _, _, .nil => .nil
  | _, _, .cons a b => .cons (a.mono s) (LogAre.mono s b)
theorem LogAre.snoc {nx : List (Addr × Obj)} {v : Value} {d : Str × List Str} (a : EntAt nx v d) : ∀ {vs : List Value} {ds : List (Str × List Str)}, LogAre nx vs ds → LogAre nx (vs ++ [v]) (ds ++ [d])
  | _, _, .nil => .cons a .nil
  | _, _, .cons b c => .cons b (LogAre.snoc a c)
theorem LogAre.length {nx : List (Addr × Obj)} : ∀ {vs : List Value} {ds : List (Str × List Str)}, LogAre nx vs ds → vs.length = ds.length
  | _, _, .nil => rfl
  | _, _, .cons _ b => congrArg (· + 1) b.length
/-- the middle place that the coin asks for -/
def midOf (c : Int) (n : Nat) : Nat := if Int.fmod c 2 = 0 then (n - 1) / 2 else n / 2
inductive RunLog : Int → List Str → List (Str × List Str) → Prop where
  | nil {c} : RunLog c [] []
  | step {c xs ss ds} : xs ≠ [] → ss.Perm xs → sortedS ss = true → RunLog (Int.fdiv c 2) (xs.erase (ss.getD (midOf c xs.length) (Str.ofString ""))) ds →
      RunLog c xs ((ss.getD (midOf c xs.length) (Str.ofString ""), xs.erase (ss.getD (midOf c xs.length) (Str.ofString ""))) :: ds)
theorem strs_erase {x : Str} : ∀ {vs : List Value} {xs : List Str}, StrsAre vs xs → x ∈ xs → ∃ j, j < vs.length ∧ (∃ t, vs[j]? = some (.str x t)) ∧ (∀ i y t, i < j → vs[i]? = some (.str y t) → (y == x) = false) ∧ StrsAre (vs.eraseIdx j) (xs.erase x)
  | _, _, .nil, h => nomatch h
  | _, _, .cons (vs := vs) (ys := ys) y t hs, h => by
    by_cases e : (y == x) = true
    · obtain rfl := beq_iff_eq.mp e
      refine ⟨0, by simp, ⟨t, by simp⟩, fun i y t hi => absurd hi (by omega), ?_⟩
      simpa using hs
    · have hx : x ∈ ys := (List.mem_cons.mp h).resolve_left fun q => e (by simp [q])
      obtain ⟨j, h1, ⟨u, h2⟩, h3, h4⟩ := strs_erase hs hx
      refine ⟨j + 1, by simp; omega, ⟨u, by simpa using h2⟩, fun i y' t' hi hy' => ?_, ?_⟩
      · cases i with
        | zero =>
          simp only [List.getElem?_cons_zero, Option.some.injEq, Value.str.injEq] at hy'
          rw [← hy'.1]; simpa using e
        | succ i => exact h3 i y' t' (by omega) (by simpa using hy')
      · rw [List.eraseIdx_cons_succ, List.erase_cons_tail (by simpa using e)]
        exact .cons y t h4
section
variable {prog : Program} {w : World} {A : Around} {E : Value → Shared → Prop} {s : Shared} {h₀ : Heap} {L : Addr} {m : Str → Option Value} {news : List (Addr × Obj)} {l : Addr} {vs : List Value} {c : Nat} {xs : List Str} {x : Str} {t : Tok} {Q : Value → Shared → Prop}
theorem remove_S (F : Fr h₀ L s.heap m) (N : News h₀ L s.heap ((l, lstO vs.toArray c) :: news)) (hoff : ∀ p ∈ news, p.1 ≠ l) (hv : StrsAre vs xs) (hx : x ∈ xs) (hn : xs.length < 20)
    (h : ∀ h' us c', Fr h₀ L h' m → News h₀ L h' ((l, lstO us.toArray c') :: news) → StrsAre us (xs.erase x) → Q .none { s with heap := h' }) :
    wpAny (model prog w) A (call (.builtin "list.remove") [.ref l, .str x t]) Q E s := by
  obtain ⟨j, h1, ⟨u, h2⟩, h3, h4⟩ := strs_erase hv hx
  have hz : 1000 ≤ sizeLine := by decide +kernel
  have hsz : vs.toArray.size = xs.length := by rw [List.size_toArray]; exact hv.length
  have hj : j < vs.toArray.size := by simpa using h1
  have hl := (N _ (.head _)).1
  refine call_meets PySem.F.slot_list_remove ⟨_, hl, rfl⟩ PySem.F.entry_list_remove (PySem.F.args_list_remove_2 _ _) (MeetsSeq.list_remove l vs.toArray c (.str x t) (isStrOf x) (fun y hy => eq_isStrOf x t hv y (by simpa using hy)) j hj ?_ (fun i hi hij => ?_) (by omega)) ⟨hl, ?_⟩
  · have e : vs.toArray[j] = .str x u := by
      have := List.getElem?_eq_some_iff.mp h2
      simpa using this.2
    rw [e]; simp [isStrOf]
  · have hi' : i < vs.length := by simpa using hi
    obtain ⟨y, v, _, e⟩ := strs_at hv (i := i) (v := vs[i]) (by simp)
    have e2 : vs.toArray[i] = .str y v := by simpa using e
    rw [e2]
    have := h3 i y v hij (by rw [← e]; simp)
    simpa [isStrOf] using this
  · obtain ⟨F', N'⟩ := upd_head (f := Obj.mapSeq fun xs => xs.eraseIdxIfInBounds j) F N hoff rfl
    have e : vs.toArray.eraseIdxIfInBounds j = (vs.eraseIdx j).toArray := by simp
    refine h _ (vs.eraseIdx j) (if ((vs.eraseIdx j).toArray).size == vs.toArray.size then c else c + 1) F' ?_ h4
    have e3 : Obj.mapSeq (fun xs => xs.eraseIdxIfInBounds j) (lstO vs.toArray c) = lstO (vs.eraseIdx j).toArray (if ((vs.eraseIdx j).toArray).size == vs.toArray.size then c else c + 1) := by
      show ({ cls := .type "list", dict := none, data := .seq (vs.toArray.eraseIdxIfInBounds j) (if (vs.toArray.eraseIdxIfInBounds j).size == vs.toArray.size then c else c + 1), slots := #[] } : Obj) = _
      rw [e]
    rw [e3] at N'
    exact N'
end
end Mine
namespace Mine
open Builtin Builtin.BaseException
/-- an exception of the class 54 with one text -/
def ExcOwn (h : Heap) (e : Addr) (x : Str) (tk : Tok) : Prop := ∃ o ws t0 ot nt, h.get? e = some o ∧ o.cls = .ref 54 ∧ o.data = .fields ws ∧ ws[0]? = some (.ref t0) ∧ h.get? t0 = some ot ∧ ot.cls = .type "tuple" ∧ ot.data = .seq #[.str x tk] nt
theorem ExcOwn.of_got {h₀ h : Heap} {L e t : Addr} {news : List (Addr × Obj)} {x : Str} {tk : Tok} (N : News h₀ L h news) (g : Got news e t (.ref 54) [.str x tk]) : ExcOwn h e x tk := by
  obtain ⟨oe, ot, ws, nt, h1, h2, a, b, c, d, f⟩ := g
  exact ⟨oe, ws, t, ot, nt, (N _ h1).1, a, b, c, (N _ h2).1, d, f⟩
theorem type_at {M : Model} {h : Heap} {e : Addr} {o : Obj} (ho : h.get? e = some o) : Looks M h (typeOf (.ref e)) o.cls := by
  intro A Q E s k q
  show wpAny M A (do let o ← load e; pure o.cls) Q E s
  exact wpAny_bind (wpAny_load (k _ _ ho) (wpAny_pure q))
theorem sub54 {M : Model} {w : World} {h : Heap} (X : (Mine.KK w.params).In h) : Looks M h (isSubtype (.ref 54) (.type "BaseException")) true := looks_subIn X (by kernel_rfl)
theorem look54 {prog : Program} {w : World} {h : Heap} (X : (Mine.KK w.params).In h) : Looks (model prog w) h (typeLookup (.ref 54) (Str.ofString "__str__")) (some (.builtin "BaseException.__str__")) := Looks.of_peek X (by kernel_rfl)
theorem bs_plain : plainId "BaseException.__str__" = true := by decide +kernel
theorem bs_kind : builtinKind "BaseException.__str__" = some .slot := by decide +kernel
theorem bs_split : splitId "BaseException.__str__" = some ("BaseException", "__str__") := by decide +kernel
section
variable {prog : Program} {w : World} {A : Around} {E : Value → Shared → Prop} {s : Shared} {e : Addr} {x : Str} {tk : Tok}
theorem bexc_own {Q : Value × List Value → Shared → Prop} (g : ExcOwn s.heap e x tk) (hq : ∀ t0, Q (.ref t0, [.str x tk]) s) : wpAny (model prog w) A (bexcArgs (.ref e)) Q E s := by
  obtain ⟨o, ws, t0, ot, nt, ho, _, hd, h0, hto, _, htd⟩ := g
  unfold bexcArgs
  exact wpAny_bind (wpAny_field ho hd h0 (wpAny_bind (wpAny_seqItems hto htd (wpAny_pure (hq t0)))))
theorem bs_run {Q : Fin → Shared → Prop} (g : ExcOwn s.heap e x tk) (hq : Q (.done (.ret (.str x tk))) s) : wpAny (model prog w) A (Builtin.«BaseException.__str__» ⟨[.ref e], []⟩) Q E s := by
  unfold Builtin.«BaseException.__str__»
  repeat (first | (with_reducible refine bexc_own g fun t0 => ?_) | wp_step)
  exact hq
theorem call_bs {Q : Value → Shared → Prop} (X : (Mine.KK w.params).In s.heap) (g : ExcOwn s.heap e x tk) (hq : Q (.str x tk) s) : wpAny (model prog w) A (call (.builtin "BaseException.__str__") [.ref e]) Q E s := by
  have ti : Looks (model prog w) s.heap (isInstance (.ref e) (.type "BaseException")) true := by
    obtain ⟨o, ws, t0, ot, nt, ho, hc, _⟩ := g
    have t1 := type_at (M := model prog w) ho
    rw [hc] at t1
    exact t1.andThen (sub54 X)
  refine wpAny_call (codeAny_call_builtin bs_plain F.entry_bexc_str (@check_slot (model prog w) _ _ _ "BaseException.__str__" "BaseException" "__str__" (.ref e) [] [] _ bs_kind bs_split ti (F.args_bexc_str _) ?_))
  exact bs_run g hq
theorem strOf_own {Q : Value → Shared → Prop} (hu : A.units < cLine) (X : (Mine.KK w.params).In s.heap) (g : ExcOwn s.heap e x tk) (hq : Q (.str x tk) s) : wpAny (model prog w) A (Builtin.Str.strOf (.ref e)) Q E s := by
  have sp : ∀ {Q' : Option Value → Shared → Prop}, Q' (some (.str x tk)) s → wpAny (model prog w) A (callSpecial? (.ref e) (Str.ofString "__str__") []) Q' E s := fun {Q'} hq' => by
    have g' := g
    obtain ⟨o, ws, t0, ot, nt, ho, hc, _⟩ := g'
    have t1 := type_at (M := model prog w) ho
    rw [hc] at t1
    refine wpAny_bind (wpAny_bind (t1.here ((look54 X).here (wpAny_holding (wpAny_bind ?_)))))
    show wpAny _ _ (pure (Value.builtin "BaseException.__str__", [Value.ref e])) _ _ _
    exact wpAny_pure (wpAny_bind (call_bs X g (wpAny_pure hq')))
  unfold Builtin.Str.strOf
  repeat (first | with_reducible refine wpAny_cRoomFor hu ?_ | with_reducible refine sp ?_ | wp_step)
  exact hq
theorem str_own {Q : Value → Shared → Prop} (hu : A.units + 2 < cLine) (X : (Mine.KK w.params).In s.heap) (g : ExcOwn s.heap e x tk) (h : Q (.str x tk) s) : wpAny (model prog w) A (call (.type "str") [.ref e]) Q E s :=
  callType_newIn F.called_str (by decide) (F.typeCall_str_1 _) (F.newCall_str_1 _) (fun obj => F.args_object_init_2 obj _) F.entry_str_new
    (S := fun A' R s' => A'.units + 1 < cLine ∧ (Mine.KK w.params).In s'.heap ∧ ExcOwn s'.heap e x tk ∧ R (.ok (.ret (.str x tk))) s')
    (.of_wp fun A' R s' h' => by
      rw [str_new_tree]
      refine wpAny_bind (wpAny_pure ?_)
      refine wpAny_bind (wpAny_of_eq isSubtype_str_str ?_)
      exact wpAny_bind (strOf_own (A := A'.in1) h'.1 h'.2.1 h'.2.2.1 (wpAny_pure ⟨_, rfl, h'.2.2.2⟩)))
    ⟨(show A.units + 1 + 1 < cLine from hu), X, g, typeIs_str _ _ _, h⟩
end
end Mine
namespace Mine
theorem clear13 : True := by first | (walk1; fail) | exact trivial
local macro_rules | `(tactic| k_room) => `(tactic| (refine Nat.lt_of_le_of_lt ?_ (show (_ : Nat) + 100 < recursionLimit by assumption); (try simp only [depth_under_make, depth_under_kw, depth_in1, depth_deeper, depth_caller]); (try dsimp only [Ar]); omega))
local macro_rules | `(tactic| walk_at "my units") => `(tactic| (refine Nat.lt_of_le_of_lt ?_ (show (_ : Nat) + 1000 < cLine by assumption); (try simp only [units_in1, units_deeper, Around.mark_units, units_caller]); (try dsimp only [Ar]); omega))
local macro_rules | `(tactic| walk_at "exec While") => `(tactic| (refine to_sp ?_))
local macro_rules | `(tactic| k_all) => `(tactic| first
  | assumption | exact tail_ne (by assumption) | exact tail_ne (And.right (by assumption)) | exact tail_ne (And.right (And.right (by assumption))) | exact tail_ne (And.right (And.right (And.right (by assumption)))))
section
variable {w : World} {p : Program} {loose : List Str} {mean : ExcName → Option Value} {mg mb : Str → Option Value} {dp un : Nat} {gd : Option (List Code)} {env : Env} {outer : List Env} {A₀ : Around} {base g₀ h₀ : Heap} {L : Addr} {m : Str → Option Value} {s : Shared} {Q E : Value → Shared → Prop}
  {l : Addr} {vs : List Value} {c : Nat} {xs : List Str} {news : List (Addr × Obj)} {ps : Array Value} {cn : Str} {cs : Scope} {a : Addr} {ccd : Value} {tl : Tok}
theorem join_call (hv : StrsAre vs xs) (hx : ∀ x ∈ xs, x ∈ wordList) (hn : xs.length < 10) (cx : Cx (Mine.KK w.params) p loose mean mg mb A₀ env outer base h₀ L m s.heap) (G : AllBare s.gens) (hps : PsOk ps) (hl7 : l ≠ 773) (hoff : ∀ p ∈ news, p.1 ≠ 773)
    (N : News h₀ L s.heap ((l, lstO vs.toArray c) :: (773, tabO ps) :: news)) (hd : dp + 40 < recursionLimit)
    (h : ∀ ps' s' t', PsOk ps' → Fr h₀ L s'.heap m → News h₀ L s'.heap ((l, lstO vs.toArray c) :: (773, tabO ps') :: news) → AllBare s'.gens → s'.os = s.os → Q (.str (J xs) t') s') :
    wpAny (model pw w) (Ar dp un gd env outer) (call (.ref 778) [.ref l]) Q E s :=
  wpAny_call (join_spec (c := c) hv hx (by omega) cx (hasB cx.X) G hps hl7 hoff (news_sub N mem_swap2) hd fun ps' s' t' a b c d e => h ps' s' t' a b (news_sub c mem_swap2) d e)
theorem split_call (hx : ∀ x ∈ xs, x ∈ wordList) (hn : xs.length < 10) (cx : CxS (Mine.KK w.params) p loose mean mg mb A₀ outer base h₀ L m s.heap) (hck : cs.kind = .function) (T0 : KtsTurn (outer.filterMap (·.frame)) g₀ h₀)
    (N : News h₀ L s.heap news) (hd : dp + 60 < recursionLimit) (hu : un + 500 < cLine)
    (h : ∀ S h₀' h' tk' vs c', KtsTurn (outer.filterMap (·.frame)) g₀ h₀' → CxS (Mine.KK w.params) p loose mean mg mb A₀ outer base h₀' L m h' → News h₀' L h' ((S, lstO vs.toArray c') :: news) → StrsAre vs xs → (∀ q ∈ news, q.1 < S) → Q (.ref S) { s with heap := h', toks := tk' }) :
    wpAny (model pw w) (Ar dp un gd (envOf cn cs L a ccd) outer) (call (.ref 771) [.str (J xs) tl]) Q E s :=
  wpAny_call (split_spec (steps_line xs hx) (line_len xs hx hn) (by omega) cx hck T0 N hd hu h)
theorem high_call (hv : StrsAre vs xs) (hn : xs.length < 10) (hpos : 0 < xs.length) (cx : Cx (Mine.KK w.params) p loose mean mg mb A₀ env outer base h₀ L m s.heap)
    (N : News h₀ L s.heap ((l, lstO vs.toArray c) :: news)) (hd : dp + 40 < recursionLimit) {cc : Int} (hc : ¬ Int.fmod cc 2 = 0)
    (h : ∀ h' tk' t' ss, ss.Perm xs → sortedS ss = true → ss.getD (midOf cc xs.length) (Str.ofString "") ∈ xs → Fr h₀ L h' m → News h₀ L h' ((l, lstO vs.toArray c) :: news) → Q (.str (ss.getD (midOf cc xs.length) (Str.ofString "")) t') { s with heap := h', toks := tk' }) :
    wpAny (model pw w) (Ar dp un gd env outer) (call (.ref 71) [.ref l]) Q E s := by
  have e : midOf cc xs.length = xs.length / 2 := if_neg hc
  rw [e] at h
  exact wpAny_call (high_spec hv (by omega) hpos cx N hd fun h' tk' t' ss a b => h h' tk' t' ss a b (median_counts a b (by rw [a.length_eq]; omega)).1)
theorem low_call (hv : StrsAre vs xs) (hn : xs.length < 10) (hpos : 0 < xs.length) (cx : Cx (Mine.KK w.params) p loose mean mg mb A₀ env outer base h₀ L m s.heap)
    (N : News h₀ L s.heap ((l, lstO vs.toArray c) :: news)) (hd : dp + 40 < recursionLimit) {cc : Int} (hc : Int.fmod cc 2 = 0)
    (h : ∀ h' tk' t' ss, ss.Perm xs → sortedS ss = true → ss.getD (midOf cc xs.length) (Str.ofString "") ∈ xs → Fr h₀ L h' m → News h₀ L h' ((l, lstO vs.toArray c) :: news) → Q (.str (ss.getD (midOf cc xs.length) (Str.ofString "")) t') { s with heap := h', toks := tk' }) :
    wpAny (model pw w) (Ar dp un gd env outer) (call (.ref 64) [.ref l]) Q E s := by
  have e : midOf cc xs.length = (xs.length - 1) / 2 := if_pos hc
  rw [e] at h
  exact wpAny_call (low_spec hv (by omega) hpos cx N hd fun h' tk' t' ss a b => h h' tk' t' ss a b (median_counts a b (by rw [a.length_eq]; omega)).1)
end
theorem erase_ok {ys : List Str} {x : Str} (hm : x ∈ ys) (h : ∀ y ∈ ys, y ∈ wordList) : (∀ y ∈ ys.erase x, y ∈ wordList) ∧ (ys.erase x).length + 1 = ys.length :=
  ⟨fun y hy => h y (List.mem_of_mem_erase hy), by rw [List.length_erase_of_mem hm]; have := List.length_pos_of_mem hm; omega⟩
set_option hygiene false in
local macro_rules | `(tactic| walk_at "call ref") => `(tactic| (k_here; (with_reducible show wpAny _ _ (call (Value.ref 778) _ _) _ _ _); k_dflt (refine' join_call ?hv ?hx ?hn ?cx ?G ?hps ?hl7 ?hoff ?N ?hd ?_; (case N => k_asm); (case hv => assumption); (case hx => assumption); (case hn => omega); (case cx => exact ⟨by k_asm, by k_asm, by k_asm, by k_asm, rfl, rfl⟩); (case G => assumption); (case hps => assumption); (case hl7 => first | assumption | (apply neN; omega)); (case hoff => first | assumption | k_all); (case hd => k_room); k_whole; intro ps9 s9 t9 hps9 F9 N9 G9 os9; (try dsimp only); (try k_fold))))
set_option hygiene false in
local macro_rules | `(tactic| walk_at "call ref") => `(tactic| (k_here; (with_reducible show wpAny _ _ (call (Value.ref 771) _ _) _ _ _); k_dflt (refine' split_call ?hx ?hn ?cx ?hck ?T0 ?N ?hd ?hu ?_; (case N => k_asm); (case hx => assumption); (case hn => omega); (case cx => exact ⟨by k_asm, by k_asm, by k_asm, by k_asm, by assumption, by assumption, by k_asm⟩); (case hck => exact rfl); (case T0 => assumption); (case hd => k_room); (case hu => walk_at "my units"); k_whole; intro S9 g9 h9 tk9 vs9 c9 T9 cx9 N9 hv9 l9; obtain ⟨B9, F9, X9, Tp9, XB9, TB9, D9⟩ := cx9; (try k_lt l9); (try dsimp only); (try k_fold))))
set_option hygiene false in
local macro_rules | `(tactic| walk_at "call ref") => `(tactic| (k_here; (with_reducible show wpAny _ _ (call (Value.ref 71) _ _) _ _ _); k_dflt (refine' high_call (cc := cc) ?hv ?hn ?hp ?cx ?N ?hd ?hc ?_; (case N => k_asm); (case hv => assumption); (case hn => omega); (case hp => assumption); (case cx => exact ⟨by k_asm, by k_asm, by k_asm, by k_asm, rfl, rfl⟩); (case hd => k_room); (case hc => assumption); k_whole; intro h8 tk8 t8 ss8 hp8 hs8 hm8 F8 N8; (try dsimp only); (try k_fold))))
set_option hygiene false in
local macro_rules | `(tactic| walk_at "call ref") => `(tactic| (k_here; (with_reducible show wpAny _ _ (call (Value.ref 64) _ _) _ _ _); k_dflt (refine' low_call (cc := cc) ?hv ?hn ?hp ?cx ?N ?hd ?hc ?_; (case N => k_asm); (case hv => assumption); (case hn => omega); (case hp => assumption); (case cx => exact ⟨by k_asm, by k_asm, by k_asm, by k_asm, rfl, rfl⟩); (case hd => k_room); (case hc => assumption); k_whole; intro h8 tk8 t8 ss8 hp8 hs8 hm8 F8 N8; (try dsimp only); (try k_fold))))
set_option hygiene false in
local macro_rules | `(tactic| walk_at "call builtin:list.remove") => `(tactic| (k_here; (with_reducible show wpAny _ _ (call (Value.builtin _) [Value.ref _, Value.str _ _]) _ _ _); k_dflt (refine' remove_S ?F ?N ?o ?v ?x ?n ?_; (case F => k_asm); (case N => k_asm); (case o => k_all); (case v => assumption); (case x => assumption); (case n => omega); k_whole; intro h7 us7 c7 F7 N7 hv7; obtain ⟨hx7, hn7⟩ := erase_ok hm8 hys; (try dsimp only); (try k_fold))))
local macro_rules | `(tactic| walk_at "call builtin:len") => `(tactic| (k_here; (with_reducible show wpAny _ _ (call (Value.builtin "len") [Value.ref _]) _ _ _); k_dflt (refine' len_S ?N ?m ?S ?p ?l ?_; (case N => k_asm); (case m => k_mem); (case S => assumption); (case p => assumption); (case l => first | assumption | decide); k_whole)))
set_option hygiene false in
local macro_rules | `(tactic| walk_at "call builtin:sorted") => `(tactic| (k_here; (with_reducible show wpAny _ _ (call (Value.builtin "sorted") [Value.ref _]) _ _ _); k_dflt (refine' sort_K ?F ?N ?m ?S ?l ?_; (case F => k_asm); (case N => k_asm); (case m => k_mem); (case S => assumption); (case l => decide); k_whole); intro Dq hq vsq ssq eq Fq Nq lq hSq hpq hsq; (try k_lt lq)))
theorem str_err {w : World} {A : Around} {E : Value → Shared → Prop} {s : Shared} {h₀ : Heap} {L e t : Addr} {m : Str → Option Value} {news : List (Addr × Obj)} {x : Str} {tk : Tok} {Q : Value → Shared → Prop} (F : Fr h₀ L s.heap m) (X₀ : (Mine.KK w.params).In h₀) (N : News h₀ L s.heap news) (g : Got news e t (.ref 54) [.str x tk]) (hu : A.units + 2 < cLine) (h : Q (.str x tk) s) :
    wpAny (model pw w) A (call (.type "str") [.ref e]) Q E s := str_own hu (X₀.keeps F.keep) (ExcOwn.of_got N g) h
local macro_rules | `(tactic| walk_at "call type:str") => `(tactic| (k_here; (with_reducible show wpAny _ _ (call (Value.type "str") [Value.ref _]) _ _ _); k_dflt (refine' str_err ?F ?X ?N ?g ?u ?_; (case F => k_asm); (case g => assumption); (case N => assumption); (case X => k_asm); (case u => walk_at "my units"); k_whole)))
/-- what holds between the turns of the loop -/
def RunInv (w : World) (p : Program) (loose : List Str) (mean : ExcName → Option Value) (mg mb : Str → Option Value) (A₁ : Around) (outer' : List Env) (base g : Heap) (L1 : Addr) (coin : Int) (xs₀ : List Str) (os₀ : OsState) (keep : List (Addr × Obj)) (n : Nat) (s' : Shared) : Prop :=
  ∃ (h₀' : Heap) (m' : Str → Option Value) (xs : List Str) (cc : Int) (tn tl : Tok) (lg : Addr) (ents : List Value) (k : Nat) (ds : List (Str × List Str)) (ps' : Array Value) (rest : List (Addr × Obj)),
    n = xs.length ∧ KtsTurn (outer'.filterMap (·.frame)) g h₀' ∧ CxS (Mine.KK w.params) p loose mean mg mb A₁ outer' base h₀' L1 m' s'.heap ∧
    m' (Str.ofString "coin") = some (.int cc tn) ∧ m' (Str.ofString "line") = some (.str (J xs) tl) ∧ m' (Str.ofString "log") = some (.ref lg) ∧ AllBare s'.gens ∧ s'.os = os₀ ∧ PsOk ps' ∧ (∀ x ∈ xs, x ∈ wordList) ∧ xs.length + ents.length < 10 ∧
    News h₀' L1 s'.heap ((773, tabO ps') :: (lg, lstO ents.toArray k) :: rest) ∧ lg ≠ 773 ∧ (∀ q ∈ rest, q.1 ≠ 773) ∧ (∀ q ∈ rest, q.1 ≠ lg) ∧ LogAre rest ents ds ∧ (∀ q ∈ keep, q ∈ rest) ∧ (∀ es, RunLog cc xs es → RunLog coin xs₀ (ds ++ es))
theorem fr_kst {h₀ h : Heap} {L : Addr} {m' : Str → Option Value} (F : Fr h₀ L h m') {v1 v2 v3 : Value} (h1 : m' (Str.ofString "coin") = some v1) (h2 : m' (Str.ofString "line") = some v2) (h3 : m' (Str.ofString "log") = some v3) :
    Fr h₀ L h (kstB m' [(Str.ofString "coin", v1), (Str.ofString "line", v2), (Str.ofString "log", v3)]) := by
  have e : kstB m' [(Str.ofString "coin", v1), (Str.ofString "line", v2), (Str.ofString "log", v3)] = m' := by
    funext z
    exact kstB_eq (by simp only [List.forall_mem_cons, List.not_mem_nil, false_implies, implies_true, and_true]; exact ⟨h1, h2, h3⟩) fun _ => rfl
  rw [e]; exact F
local macro_rules | `(tactic| walk_at "Exists") => `(tactic| ((with_reducible show ∃ n : Nat, n < _ ∧ RunInv _ _ _ _ _ _ _ _ _ _ _ _ _ _ _ n _); refine to_sp ?_))
theorem run_next {w : World} {p : Program} {loose : List Str} {mean : ExcName → Option Value} {mg mb : Str → Option Value} {A₁ : Around} {outer' : List Env} {base g g9 : Heap} {L1 : Addr} {coin : Int} {xs₀ : List Str} {os₀ : OsState} {keep rest : List (Addr × Obj)} {s3 : Shared} {mm : Str → Option Value}
    {cc : Int} {ys ss : List Str} {lg D S W : Addr} {ents vs9 : List Value} {k c9 k0 : Nat} {ds : List (Str × List Str)} {ps9 : Array Value} {oW : Obj} {tn t8 t9 t9' : Tok}
    (hne : ¬ ys = []) (hp8 : ss.Perm ys) (hs8 : sortedS ss = true) (T9 : KtsTurn (outer'.filterMap (·.frame)) g g9) (cx : CxS (Mine.KK w.params) p loose mean mg mb A₁ outer' base g9 L1 mm s3.heap)
    (e1 : mm (Str.ofString "coin") = some (.int (Int.fdiv cc 2) tn)) (e2 : mm (Str.ofString "line") = some (.str (J (ys.erase (ss.getD (midOf cc ys.length) (Str.ofString "")))) t9)) (e3 : mm (Str.ofString "log") = some (.ref lg))
    (G : AllBare s3.gens) (os : s3.os = os₀) (hps9 : PsOk ps9) (hx7 : ∀ y ∈ ys.erase (ss.getD (midOf cc ys.length) (Str.ofString "")), y ∈ wordList) (hn7 : (ys.erase (ss.getD (midOf cc ys.length) (Str.ofString ""))).length + 1 = ys.length) (hlen : ys.length + ents.length < 10)
    (N : News g9 L1 s3.heap ((D, tupO #[.str (ss.getD (midOf cc ys.length) (Str.ofString "")) t8, .str (J (ys.erase (ss.getD (midOf cc ys.length) (Str.ofString "")))) t9', .ref S] k0) :: (S, lstO vs9.toArray c9) :: (W, oW) :: (773, tabO ps9) :: (lg, lstO (ents.toArray.push (.ref D)) (k + 1)) :: rest))
    (hv9 : StrsAre vs9 (ys.erase (ss.getD (midOf cc ys.length) (Str.ofString "")))) (o1 : @LT.lt Nat _ 773 S) (o2 : @LT.lt Nat _ lg S) (o3 : @LT.lt Nat _ 773 D) (o4 : @LT.lt Nat _ lg D)
    (n7 : lg ≠ 773) (off7 : ∀ q ∈ rest, q.1 ≠ 773) (offg : ∀ q ∈ rest, q.1 ≠ lg) (hlog : LogAre rest ents ds) (hkeep : ∀ q ∈ keep, q ∈ rest) (hrun : ∀ es, RunLog cc ys es → RunLog coin xs₀ (ds ++ es)) :
    ∃ n, n < ys.length ∧ RunInv w p loose mean mg mb A₁ outer' base g L1 coin xs₀ os₀ keep n s3 := by
  generalize hw : ss.getD (midOf cc ys.length) (Str.ofString "") = x at *
  refine ⟨(ys.erase x).length, by omega, g9, mm, ys.erase x, Int.fdiv cc 2, tn, t9, lg, ents ++ [.ref D], k + 1, ds ++ [(x, ys.erase x)], ps9, (D, tupO #[.str x t8, .str (J (ys.erase x)) t9', .ref S] k0) :: (S, lstO vs9.toArray c9) :: rest, rfl, T9, cx, e1, e2, e3, G, os, hps9, hx7, ?_, ?_, n7, ?_, ?_, ?_, ?_, ?_⟩
  · simp only [List.length_append, List.length_cons, List.length_nil]; omega
  · refine news_sub N fun q hq => ?_
    have e : (ents ++ [Value.ref D]).toArray = ents.toArray.push (.ref D) := by simp
    rw [e] at hq
    simp only [List.mem_cons] at hq ⊢
    rcases hq with h | h | h | h | h
    · exact .inr (.inr (.inr (.inl h)))
    · exact .inr (.inr (.inr (.inr (.inl h))))
    · exact .inl h
    · exact .inr (.inl h)
    · exact .inr (.inr (.inr (.inr (.inr h))))
  · intro q hq
    rcases List.mem_cons.mp hq with rfl | hq
    · exact Nat.ne_of_gt o3
    · rcases List.mem_cons.mp hq with rfl | hq
      · exact Nat.ne_of_gt o1
      · exact off7 q hq
  · intro q hq
    rcases List.mem_cons.mp hq with rfl | hq
    · exact Nat.ne_of_gt o4
    · rcases List.mem_cons.mp hq with rfl | hq
      · exact Nat.ne_of_gt o2
      · exact offg q hq
  · exact LogAre.snoc (d := (x, ys.erase x)) ⟨D, t8, t9', S, vs9, k0, c9, rfl, .head _, .tail _ (.head _), hv9⟩ (hlog.mono fun q hq => .tail _ (.tail _ hq))
  · exact fun q hq => .tail _ (.tail _ (hkeep q hq))
  · intro es he
    rw [List.append_assoc]
    refine hrun _ ?_
    have z := RunLog.step (c := cc) (xs := ys) (ss := ss) (ds := es) hne hp8 hs8
    rw [hw] at z
    exact z he
section
variable {w : World} {p : Program} {loose : List Str} {mean : ExcName → Option Value} {mg mb : Str → Option Value} {dp un : Nat} {gd : Option (List Code)} {cn : Str} {cs : Scope} {a : Addr} {ccd : Value} {outer : List Env} {A₀ : Around} {base g₀ h₀ : Heap} {L : Addr} {m : Str → Option Value} {s : Shared} {R : Result → Shared → Prop}
  {l : Addr} {vs : List Value} {c : Nat} {xs : List Str} {news : List (Addr × Obj)} {ps : Array Value} {coin : Int} {tc : Tok}
set_option maxHeartbeats 4000000 in
theorem run_spec (hv : StrsAre vs xs) (hx : ∀ x ∈ xs, x ∈ wordList) (hn : xs.length < 10) (cx : CxS (Mine.KK w.params) p loose mean mg mb A₀ outer base h₀ L m s.heap) (hck : cs.kind = .function) (T0 : KtsTurn (outer.filterMap (·.frame)) g₀ h₀) (G : AllBare s.gens) (hps : PsOk ps) (hl7 : l ≠ 773) (hoff : ∀ p ∈ news, p.1 ≠ 773)
    (N : News h₀ L s.heap ((l, lstO vs.toArray c) :: (773, tabO ps) :: news)) (hd : dp + 100 < recursionLimit) (hu : un + 1000 < cLine)
    (h : ∀ S h₀' s' tF ents kk ds rest, KtsTurn (outer.filterMap (·.frame)) g₀ h₀' → CxS (Mine.KK w.params) p loose mean mg mb A₀ outer base h₀' L m s'.heap → News h₀' L s'.heap ((S, lstO (ents ++ [.str (Str.ofString "no median for empty data") tF]).toArray kk) :: rest) →
      LogAre rest ents ds → RunLog coin xs ds → ents.length < 10 → (∀ q ∈ (l, lstO vs.toArray c) :: news, q ∈ rest) → (∃ ps', PsOk ps' ∧ (773, tabO ps') ∈ rest) → AllBare s'.gens → s'.os = s.os → R (.ok (.ret (.ref S))) s') :
    codeAny (model pw w) (Ar dp un gd (envOf cn cs L a ccd) outer) (.call (.ref 800) ⟨[.ref l, .int coin tc], []⟩) R s := by
  obtain ⟨B, F, X, T, XB, TB, D⟩ := cx
  k_dflt (refine' code_defS ?k1 ?k2 ?k3 ?k4 ?k5 ?XB ?TB ?D ?T0 ?kA ?k6 ?k7 ?k8 ?k9 ?kB ?_ ?cK ?c2 ?c3 ?c4 ?c5; (case kA => exact rfl); (case k2 => k_asm); (case k1 => k_asm); (case XB => assumption); (case TB => assumption); (case D => assumption); (case T0 => assumption); (case k3 => k_asm); (case k4 => k_asm); (case k5 => k_asm); (case k6 => k_is); (case k7 => k_is); (case k8 => k_room); (case k9 => first | exact BindsTo.of_eq rfl | exact binds_K (X.keeps F.keep) rfl (by k_is) rfl rfl rfl); (case cK => assumption); (case c5 => decide); (case kB => exact locs rfl); (case c2 => exact rfl); (case c3 => exact rfl); (case c4 => exact rfl); k_whole; intro g L1 h1 FG F1 N1 B1 X1 T1 D1; (try dsimp only); (try k_lift B1); (try k_fold))
  k_steps
  unfold SpDone
  rename News g L1 _ _ => N8
  rename Fr g L1 _ _ => F8
  refine wpAny_mono (E := fun _ _ => False) ?_ (fun _ _ h => h) (fun _ _ h => h.elim)
  refine wpAny_While (codeAny_whileLoop (RunInv w p loose mean mg mb (Ar dp un gd (envOf cn cs L a ccd) outer) (envOf cn cs L a ccd :: outer) base g L1 coin xs s.os ((l, lstO vs.toArray c) :: news)) ?turn xs.length ?start)
  case start =>
    rename (_ < _ ∧ _ < _ ∧ AllLt _ news) => o9
    refine ⟨g, _, xs, coin, _, _, _, [], 0, [], ps9, (l, lstO vs.toArray c) :: news, rfl, .refl, ⟨B1, F8, X1, T1, XB, TB, D1⟩, rfl, rfl, rfl, G9, os9, hps9, hx, by simpa using hn, news_sub N8 ?_, ?_, ?_, ?_, .nil, fun _ h => h, fun _ h => h⟩
    · intro q hq
      rcases List.mem_cons.mp hq with rfl | hq
      · exact .tail _ (.tail _ (.head _))
      · rcases List.mem_cons.mp hq with rfl | hq
        · exact .head _
        · rcases List.mem_cons.mp hq with rfl | hq
          · exact .tail _ (.head _)
          · exact .tail _ (.tail _ (.tail _ hq))
    · exact Nat.ne_of_gt o9.2.1
    · exact List.forall_mem_cons.mpr ⟨hl7, hoff⟩
    · exact List.forall_mem_cons.mpr ⟨Nat.ne_of_lt o9.1, tail_ne o9.2.2⟩
  case turn =>
    clear F8 N8 
    rintro n s' ⟨h₀', m', ys, cc, tn, tl, lg, ents, k, ds, ps', rest, rfl, KT, cx', e1, e2, e3, G', os', hps', hys, hlen, N', n7, off7, offg, hlog, hkeep, hrun⟩
    obtain ⟨B2, F2, X2, T2, XB2, TB2, D2⟩ := cx'
    have F3 := fr_kst F2 e1 e2 e3
    clear F2 e1 e2 e3
    have n7' : @Ne Nat lg 773 := n7
    refine wpAny_mono (E := fun _ _ => False) ?_ (fun _ _ h => h) (fun _ _ h => h.elim)
    by_cases hne : ys = []
    · subst hne
      k_steps
      · rename News _ L _ _ => kN
        rename Fr _ L _ _ => kF
        rename KtsTurn (List.filterMap _ outer) g₀ _ => kT
        exact h _ _ _ _ ents _ ds _ kT ⟨by assumption, kF, by assumption, by assumption, XB, TB, by assumption⟩ kN (hlog.mono fun q hq => .tail _ (.tail _ (.tail _ (.tail _ (.tail _ hq))))) (by have z := hrun [] .nil; rwa [List.append_nil] at z) (by simp at hlen; omega) (fun q hq => .tail _ (.tail _ (.tail _ (.tail _ (.tail _ (hkeep q hq)))))) ⟨ps', hps', .tail _ (.tail _ (.tail _ (.head _)))⟩ G' os'
      · rename News _ L _ _ => kN
        rename Fr _ L _ _ => kF
        rename KtsTurn (List.filterMap _ outer) g₀ _ => kT
        exact h _ _ _ _ ents _ ds _ kT ⟨by assumption, kF, by assumption, by assumption, XB, TB, by assumption⟩ kN (hlog.mono fun q hq => .tail _ (.tail _ (.tail _ (.tail _ (.tail _ hq))))) (by have z := hrun [] .nil; rwa [List.append_nil] at z) (by simp at hlen; omega) (fun q hq => .tail _ (.tail _ (.tail _ (.tail _ (.tail _ (hkeep q hq)))))) ⟨ps', hps', .tail _ (.tail _ (.tail _ (.head _)))⟩ G' os'
    have hpos : 0 < ys.length := List.length_pos_iff.mpr hne
    k_steps
    · exact run_next hne hp8 hs8 T9 ⟨B9, by assumption, X9, Tp9, XB9, TB9, D9⟩ rfl rfl rfl G9 (os9.trans os') hps9 hx7 hn7 hlen (by assumption) hv9 l9.2.1 l9.2.2.1 (by omega) (by omega) n7 off7 offg hlog hkeep hrun
    · exact run_next hne hp8 hs8 T9 ⟨B9, by assumption, X9, Tp9, XB9, TB9, D9⟩ rfl rfl rfl G9 (os9.trans os') hps9 hx7 hn7 hlen (by assumption) hv9 l9.2.1 l9.2.2.1 (by omega) (by omega) n7 off7 offg hlog hkeep hrun
end
end Mine
namespace Mine
abbrev itO (l : Addr) (i : Nat) : Obj := { cls := .type "list_iterator", dict := none, data := .fields #[.ref l, .int i 0], slots := #[] }
abbrev up3 (a b c : Str) (v1 v2 v3 : Value) (m : Str → Option Value) : Str → Option Value := fun y => if y = c then some v3 else if y = b then some v2 else if y = a then some v1 else m y
section
variable {prog : Program} {w : World} {A : Around} {E : Value → Shared → Prop} {s : Shared} {h₀ : Heap} {env : Env} {Q : Flow → Shared → Prop}
theorem for3 {a b c : Str} {pa pb pc tp pos : Pos} {kk : Nat} {iter : Expr} {body : List Stmt} {items : Array Value}
    (J : Addr → Nat → Nat → (Str → Option Value) → List (Addr × Obj) → Prop) (hh : A.handled = none)
    (ha : env.kindOf a = some .local) (hb : env.kindOf b = some .local) (hc : env.kindOf c = some .local) (hp : (env.scope.kind == .class || (env.scope.kind == .module && env.locals != env.globals)) = false)
    (hs : ∀ x, foldedSetIterable iter env x = pure x)
    (hev : wpAny (model prog w) A (eval iter env) (fun xv s₁ => ∃ l' k m news h tk, xv = .ref l' ∧ s₁ = { s with heap := h, toks := tk } ∧ Fr h₀ env.locals h m ∧ News h₀ env.locals h news ∧ J l' k 0 m news) (fun _ _ => False) s)
    (hin : ∀ l' k i m' nx, J l' k i m' nx → (l', lstO items k) ∈ nx)
    (tup : ∀ i v, items[i]? = some v → ∃ ta v1 v2 v3, v = .ref ta ∧ h₀.IsTuple ta #[v1, v2, v3] ∧
      ∀ l' k m' nx It oI h tk, J l' k i m' nx → Fr h₀ env.locals h (up3 a b c v1 v2 v3 m') → News h₀ env.locals h ((It, oI) :: nx) → (∀ q ∈ nx, q.1 ≠ It) →
        wpAny (model prog w) A (execs body env) (fun f s₃ => match f with
          | .next | .cont => ∃ h₃ tk₃ m₃ nx₃, s₃ = { s with heap := h₃, toks := tk₃ } ∧ Fr h₀ env.locals h₃ m₃ ∧ News h₀ env.locals h₃ ((It, oI) :: nx₃) ∧ (∀ q ∈ nx₃, q.1 ≠ It) ∧ J l' k (i + 1) m₃ nx₃
          | .brk => False
          | .ret v => Q (.ret v) s₃) (fun _ _ => False) { s with heap := h, toks := tk })
    (done : ∀ l' k m' nx h tk, J l' k items.size m' nx → Fr h₀ env.locals h m' → News h₀ env.locals h nx → Q .next { s with heap := h, toks := tk }) :
    wpAny (model prog w) A (exec (.For (.Tuple [.Name a pa, .Name b pb, .Name c pc] kk tp) iter body [] pos) env) Q (fun _ _ => False) s := by
  refine wpAny_For (wpAny_mono hev (fun xv s₁ hv => ?_) fun _ _ z => z) hs
  obtain ⟨l', k, m, news, h1, tk1, rfl, rfl, F1, N1, hJ⟩ := hv
  have hl1 : h1.IsList l' items := ⟨_, (N1 _ (hin _ _ _ _ _ hJ)).1, rfl, _, rfl⟩
  refine wpAny_pyIter_list (s := { s with heap := h1, toks := tk1 }) hl1 ?_
  generalize hIt : h1.objs.size = It
  have hLlt : env.locals < h1.objs.size := F1.ns.lt
  have hIL : env.locals ≠ It := by rw [← hIt]; exact Nat.ne_of_lt hLlt
  have hI₀ : h₀.get? It = none := by
    cases e : h₀.get? It with
    | none => rfl
    | some o => exact absurd (Heap.lt_size (F1.keep _ _ e)) (by rw [hIt]; exact Nat.lt_irrefl _)
  refine codeAny_forLoop_any (fun n s' => ∃ i h tk m' nx, s' = { s with heap := h, toks := tk } ∧ n = items.size + 1 - i ∧ i ≤ items.size ∧ J l' k i m' nx ∧ Fr h₀ env.locals h m' ∧ (∃ oI, oI.cls = .type "list_iterator" ∧ oI.data = .fields #[.ref l', .int i 0] ∧ News h₀ env.locals h ((It, oI) :: nx)) ∧ ∀ q ∈ nx, q.1 ≠ It) ?_ (items.size + 1) ?_
  · rintro n s' ⟨i, h, tk, m', nx, rfl, rfl, hi, hj, F, ⟨oJ, hcJ, hdJ, N⟩, off⟩
    have hit : h.IsListIter It l' i := ⟨_, (N _ (.head _)).1, hcJ, hdJ⟩
    have hl : h.IsList l' items := ⟨_, (N _ (.tail _ (hin _ _ _ _ _ hj))).1, rfl, _, rfl⟩
    cases hv : items[i]? with
    | none =>
      have hsz : i = items.size := Nat.le_antisymm hi (by simpa using hv)
      refine wpAny_pyNext_list_end (s := { s with heap := h, toks := tk }) hh hit hl hv fun h' he => wpAny_execs_nil ?_
      refine done l' k m' nx h' tk (hsz ▸ hj) (LCg.fr_but F (fun b o hb e => he b o (by simpa using hb) e) hIL hI₀) (fun q hq => ⟨he _ _ (off q hq) (N q (.tail _ hq)).1, (N q (.tail _ hq)).2⟩)
    | some v =>
      obtain ⟨ta, v1, v2, v3, rfl, ht, turn⟩ := tup i v hv
      have hlt : i < items.size := (Array.getElem?_eq_some_iff.mp hv).1
      refine wpAny_pyNext_list_item (s := { s with heap := h, toks := tk }) hit hl hv fun h2 hit2 hs2 => ?_
      have F2 : Fr h₀ env.locals h2 m' := LCg.fr_but F (fun b o hb e => hs2.extBut b o (by simpa using hb) e) hIL hI₀
      obtain ⟨oI, hoI, hcI, hdI⟩ := hit2
      have N2 : News h₀ env.locals h2 ((It, oI) :: nx) := fun q hq => by
        rcases List.mem_cons.mp hq with rfl | hq
        · exact ⟨hoI, hIL.symm, hI₀⟩
        · exact ⟨hs2.extBut _ _ (off q hq) (N q (.tail _ hq)).1, (N q (.tail _ hq)).2⟩
      refine wpAny_mono (Q := fun _ s₁' => s₁' = { s with heap := h2, toks := tk }) (E := fun _ _ => False) ?_ (fun _ s₁' e => ?_) (fun _ _ z => z.elim)
      · show wpAny _ _ (do let o ← load It; match o.cls, o.data with
          | .type n, .fields vs => if (["enumerate", "zip", "dict_itemiterator", "dict_reverseitemiterator", "odict_iterator", "itertools.zip_longest", "itertools.pairwise"].contains n && vs[0]? == some (rawInt ta)) = true then (do rule "for.unpacks-the-owned-tuple"; updateField It 0 .none) else pure ()
          | _, _ => pure ()) _ _ _
        refine wpAny_bind (wpAny_load hoI ?_)
        rw [hcI, hdI]
        exact wpAny_pure rfl
      subst e
      obtain ⟨ot, hot, rt⟩ := ht
      have hta : h2.IsTuple ta #[v1, v2, v3] := ⟨ot, F2.keep _ _ hot, rt⟩
      refine wpAny_assign_Tuple (s := { s with heap := h2, toks := tk }) hh hta rfl rfl fun h3 hx3 => ?_
      replace hx3 : Heap.ExtBut h2.objs.size h2 h3 := hx3
      have old : ∀ b o, h2.get? b = some o → h3.get? b = some o := fun b o e => hx3 b o (Nat.ne_of_lt (Heap.lt_size e)) e
      have F3 := F2.keeps old
      have N3 := N2.grown old
      show wpAny _ A (do holding [v2, v3] (assign (.Name a pa) env v1); do holding [v3] (assign (.Name b pb) env v2); do holding [] (assign (.Name c pc) env v3); pure ()) _ _ _
      refine wpAny_bind (wpAny_holding (wpAny_assign_Name (wpAny_storeName_local ha F3.ns (fun h4 hn4 hs4 => ?_) hp)))
      refine wpAny_bind (wpAny_holding (wpAny_assign_Name (wpAny_storeName_local hb hn4 (fun h5 hn5 hs5 => ?_) hp)))
      refine wpAny_bind (wpAny_holding (wpAny_assign_Name (wpAny_storeName_local hc hn5 (fun h6 hn6 hs6 => wpAny_pure ?_) hp)))
      have hL₀ : h₀.get? env.locals = none := Heap.get?_none_of_le F3.above
      have ex : ∀ b o, b ≠ env.locals → h3.get? b = some o → h6.get? b = some o := fun b o hb e => hs6.extBut b o hb (hs5.extBut b o hb (hs4.extBut b o hb e))
      have F6 : Fr h₀ env.locals h6 (up3 a b c v1 v2 v3 m') := ⟨hn6, fun b o e => ex b o (fun q => by rw [q, hL₀] at e; cases e) (F3.keep b o e), F3.above⟩
      have N6 : News h₀ env.locals h6 ((It, oI) :: nx) := fun q hq => ⟨ex _ _ (N3 q hq).2.1 (N3 q hq).1, (N3 q hq).2⟩
      refine wpAny_mono (turn l' k m' nx It oI h6 _ hj F6 N6 off) (fun f s₃ hf => ?_) (fun _ _ z => z.elim)
      cases f with
      | brk => exact hf.elim
      | ret v => exact hf
      | next =>
        obtain ⟨h₃, tk₃, m₃, nx₃, rfl, F₃, N₃, o₃, j₃⟩ := hf
        exact ⟨items.size + 1 - (i + 1), by omega, i + 1, h₃, tk₃, m₃, nx₃, rfl, rfl, hlt, j₃, F₃, ⟨oI, hcI, hdI, N₃⟩, o₃⟩
      | cont =>
        obtain ⟨h₃, tk₃, m₃, nx₃, rfl, F₃, N₃, o₃, j₃⟩ := hf
        exact ⟨items.size + 1 - (i + 1), by omega, i + 1, h₃, tk₃, m₃, nx₃, rfl, rfl, hlt, j₃, F₃, ⟨oI, hcI, hdI, N₃⟩, o₃⟩
  · refine ⟨0, _, _, m, news, rfl, rfl, Nat.zero_le _, hJ, F1.push _, ⟨itO l' 0, rfl, rfl, fun q hq => ?_⟩, fun q hq => ?_⟩
    · rcases List.mem_cons.mp hq with rfl | hq
      · exact ⟨hIt ▸ Heap.get?_push_size _ rfl, hIL.symm, hI₀⟩
      · exact ⟨Heap.get?_push_of_some _ (N1 q hq).1, (N1 q hq).2⟩
    · exact fun e => absurd (Heap.lt_size (N1 q hq).1) (by rw [e, hIt]; exact Nat.lt_irrefl _)
end
end Mine
namespace Mine
def EntIn (h : Heap) (v : Value) (d : Str × List Str) : Prop :=
  ∃ ta t1 t2 lb us, v = .ref ta ∧ h.IsTuple ta #[.str d.1 t1, .str (J d.2) t2, .ref lb] ∧ h.IsList lb us.toArray ∧ StrsAre us d.2
abbrev noMed : Str := Str.ofString "no median for empty data"
theorem mid_eq (cc : Int) (n : Nat) : midOf cc n = if (Int.fmod cc 2 == 1) = true then n / 2 else (n - 1) / 2 := by
  have h : Int.fmod cc 2 = 0 ∨ Int.fmod cc 2 = 1 := by rw [Int.fmod_eq_emod_of_nonneg _ (by decide)]; omega
  unfold midOf
  rcases h with h | h <;> rw [h] <;> rfl
theorem ok_words : (wordList.all PyData.strOk) = true := by decide +kernel
section
variable {w : World} {p : Program} {loose : List Str} {mean : ExcName → Option Value} {mg mb : Str → Option Value} {A : Around} {E : Value → Shared → Prop} {s : Shared} {h₀ : Heap} {L : Addr} {m : Str → Option Value} {news : List (Addr × Obj)} {Q : Value → Shared → Prop} {row : Addr} {us : List Value} {c : Nat} {ys ss : List Str} {t : Tok} {cc : Int}
theorem holds_call (F : Fr h₀ L s.heap m) (N : News h₀ L s.heap news) (X₀ : (Mine.KK w.params).In h₀) (T₀ : Top p loose mean mg mb h₀) (hm : (row, lstO us.toArray c) ∈ news) (hv : StrsAre us ys) (hn : ys.length < 10) (hd : A.depth + 10 < recursionLimit) (hA : A.handled = none)
    (hp : ss.Perm ys) (hs : sortedS ss = true) (hne : ys ≠ []) (h : ∀ h' tk', Fr h₀ L h' m → News h₀ L h' news → Q (.bool true) { s with heap := h', toks := tk' }) :
    wpAny (model pw w) A (call (.ref 805) [.ref row, .str (ss.getD (midOf cc ys.length) (Str.ofString "")) t, .bool (Int.fmod cc 2 == 1)]) Q E s := by
  have hpos : 0 < ys.length := List.length_pos_iff.mpr hne
  have hk : midOf cc ys.length < ss.length := by rw [hp.length_eq]; unfold midOf; split <;> omega
  obtain ⟨a, b, d⟩ := median_counts hp hs hk (d := Str.ofString "")
  exact wpAny_call (holds_spec (k := midOf cc ys.length) hd hA (X₀.keeps F.keep) (T₀.keeps F.keep) ⟨_, (N _ hm).1, rfl, _, rfl⟩ hv (by omega) a b d (mid_eq cc _) fun h' tk' kp => h h' tk' (F.keeps kp) (N.grown kp))
theorem remove_2 {o : Addr × Obj} {x : Str} (F : Fr h₀ L s.heap m) (N : News h₀ L s.heap (o :: (row, lstO us.toArray c) :: news)) (hoff : ∀ p ∈ o :: news, p.1 ≠ row) (hv : StrsAre us ys) (hx : x ∈ ys) (hn : ys.length < 10)
    (h : ∀ h' us' c', Fr h₀ L h' m → News h₀ L h' (o :: (row, lstO us'.toArray c') :: news) → StrsAre us' (ys.erase x) → Q .none { s with heap := h' }) :
    wpAny (model pw w) A (call (.builtin "list.remove") [.ref row, .str x t]) Q E s :=
  remove_S F (news_sub N mem_swap2) hoff hv hx (by omega) fun h' us' c' F' N' hv' => h h' us' c' F' (news_sub N' mem_swap2) hv'
theorem peek_qtd (w : World) (S : Setting) : peek (Mine.KK w.params) S (nsGet 3 (Str.ofString "_law_quoted")) = some (some (.ref 810)) := by kernel_rfl
theorem keep_qtd (w : World) : keepIn (Mine.KK w.params) (.ref 810) = true := by kernel_rfl
theorem qtd_elt {env : Env} {C : Addr} {m₂ : Str → Option Value} {x : Str} {p1 p2 p3 : Pos} {a : Str} {u : Tok} (hk : env.scope.kind = .function) (h1 : env.kindOf (Str.ofString "_law_quoted") = some .globalImplicit) (h2 : env.kindOf x = some .local) (hL : env.locals = C) (hg : env.globals = 3) (hx : (x == ("__debug__" : Str)) = false)
    (F : Fr h₀ L s.heap m) (hns : s.heap.Ns C m₂) (X₀ : (Mine.KK w.params).In h₀) (T₀ : Top p loose mean mg mb h₀) (hm : m₂ x = some (.str a u)) (ha : a ∈ wordList) (hd : A.depth + 10 < recursionLimit) (hu : A.units + 100 < cLine) (hA : A.handled = none)
    (h : ∀ h' tk' u', (∀ b o, s.heap.get? b = some o → h'.get? b = some o) → Q (.str (quoted a) u') { s with heap := h', toks := tk' }) :
    wpAny (model pw w) A (eval (.Call (.Name (Str.ofString "_law_quoted") p1) [.Name x p2] [] p3) env) Q E s := by
  have X := X₀.keeps F.keep
  have hb : mg (Str.ofString "_law_quoted") = some (.ref 810) := mg_of X₀ T₀.g (by kernel_rfl)
  have hG : s.heap.Ns env.globals mg := by rw [hg]; exact T₀.g.keeps F.keep
  refine Call_ (Calls.Name_function_global hk h1 (Calls.loadGlobal_global (env := env) hG hb ?_) (by decide))
  refine callWith_K (K := Mine.KK w.params) (h₀ := h₀) X₀ (keep_qtd w) ?_
  refine spliced_more (wpAny_Name (wpAny_loadName_local hk h2 (hL ▸ hns) hm (spliced_none ?_)) hx)
  refine ⟨X, wpAny_call (qtd_spec hd hu hA X (T₀.keeps F.keep) ha fun h' tk' u' k => ?_)⟩
  exact h h' tk' u' k
end
end Mine
namespace Mine
theorem clear14 : True := by first | (walk1; fail) | exact trivial
local macro_rules | `(tactic| k_room) => `(tactic| (refine Nat.lt_of_le_of_lt ?_ (show (_ : Nat) + 20 < recursionLimit by assumption); (try simp only [depth_under_make, depth_under_kw, depth_in1, depth_deeper, depth_caller]); omega))
local macro_rules | `(tactic| walk_at "my units") => `(tactic| (refine Nat.lt_of_le_of_lt ?_ (show (_ : Nat) + 200 < cLine by assumption); (try simp only [units_in1, units_deeper, Around.mark_units, units_caller]); omega))
local macro_rules | `(tactic| walk_at "exec For") => `(tactic| (refine to_sp ?_))
local macro_rules | `(tactic| walk_at "Exists") => `(tactic| (refine to_sp ?_))
set_option hygiene false in
local macro_rules | `(tactic| walk_at "call ref") => `(tactic| (k_here; (with_reducible show wpAny _ _ (call (Value.ref 805) _ _) _ _ _); k_dflt (refine' holds_call (cc := cc) ?hF ?hN ?hX ?hT ?hm ?hv ?hnn ?hdd ?hAA ?hpp ?hss ?hee ?_; (case hF => k_asm); (case hN => k_asm); (case hm => k_mem); (case hX => k_asm); (case hT => k_asm); (case hv => assumption); (case hnn => assumption); (case hdd => k_room); (case hAA => exact hA); (case hpp => assumption); (case hss => assumption); (case hee => assumption); k_whole; intro h9 tk9 F9 N9; (try dsimp only); (try k_fold))))
set_option hygiene false in
local macro_rules | `(tactic| walk_at "call builtin:list.remove") => `(tactic| (k_here; (with_reducible show wpAny _ _ (call (Value.builtin _) [Value.ref _, Value.str _ _]) _ _ _); k_dflt (refine' remove_2 ?F ?N ?o ?v ?x ?n ?_; (case F => k_asm); (case N => k_asm); (case o => exact hoff9); (case v => assumption); (case x => assumption); (case n => assumption); k_whole; intro h7 us7 c7 F7 N7 hv7; rw [hzs] at hv7; (try dsimp only); (try k_fold))))
theorem map_zs (zs : List Str) : (List.range zs.length).map (fun i => match zs[i]? with | some y => quoted y | none => Str.ofString "") = zs.map quoted := map_qAt zs
set_option hygiene false in
local macro_rules | `(tactic| walk_at "CompSrc") => `(tactic| (k_here; k_dflt (refine' src_map (n := zs.length) (fun i => match zs[i]? with | some y => quoted y | none => Str.ofString "") ?hh ?F ?N ?hs ?hn ?hl ?he ?_; (case hh => exact hA); (case F => k_asm); (case N => k_asm); (case hs => exact .inr ⟨_, by k_mem, rfl, _, rfl⟩); (case hn => exact (List.size_toArray).trans hv7.length); (case hl => omega); (case he => (intro i9 v9 C9 m9 h9 tk9 E9 hi9 hP9 hns9 hm9 Fm9 Nm9; obtain ⟨x9, u9, hxi9, rfl⟩ := strs_at hv7 (show us7[i9]? = some v9 by simpa using hP9); refine qtd_elt rfl rfl rfl rfl rfl (by decide) Fm9 hns9 X T hm9 (hzs9 x9 (List.mem_of_getElem? hxi9)) ?_ ?_ hA fun h' tk' u' kp => ⟨⟨u', by rw [hxi9]⟩, h', tk', rfl, kp⟩; k_room; walk_at "my units")); k_whole; intro ys8 D8 h8 tk8 hS8 F8 N8 o8; rw [map_zs] at hS8)))
set_option hygiene false in
local macro_rules | `(tactic| walk_at "eval ListComp") => `(tactic| (k_here; k_dflt (refine LCg.ListComp_U (F₀ := by k_asm) (by with_unfolding_all rfl) (by decide) (by rfl) (by decide) (by rfl) ?_)))
set_option hygiene false in
local macro_rules | `(tactic| walk_at "call builtin:str.join") => `(tactic| (k_here; (with_reducible show wpAny _ _ (call (Value.builtin "str.join") [Value.str _ _, Value.ref _]) _ _ _); k_dflt (refine' join_S ?N ?m ?S ?w ?l ?_; (case N => k_asm); (case m => k_mem); (case S => assumption); (case w => exact hjw9); (case l => decide +kernel); k_whole; intro t9 k9)))
theorem ne_row {w : World} {A : Around} {E : Value → Shared → Prop} {s : Shared} {h₀ : Heap} {L : Addr} {m : Str → Option Value} {news : List (Addr × Obj)} {Q : Value → Shared → Prop} {row lb : Addr} {us us2 : List Value} {c : Nat} {zs : List Str} (F : Fr h₀ L s.heap m) (N : News h₀ L s.heap news) (hl : h₀.IsList lb us2.toArray) (h2 : StrsAre us2 zs) (hm : (row, lstO us.toArray c) ∈ news) (hv : StrsAre us zs) (hz : ∀ x ∈ zs, x ∈ wordList) (hu : A.units + 64 < cLine)
    (h : Q (.bool false) s) : wpAny (model pw w) A (compareOp .NotEq (.ref lb) (.ref row)) Q E s := by
  have ok : ∀ x ∈ zs, PyData.strOk x = true := fun x hx => List.all_eq_true.mp ok_words x (hz x hx)
  obtain ⟨o, ho, r⟩ := hl
  refine ne_strsK ⟨o, F.keep _ _ ho, r⟩ h2 ⟨_, (N _ hm).1, rfl, _, rfl⟩ hv ok ok hu ?_
  rw [decide_eq_true rfl]; exact h
local macro_rules | `(tactic| walk_at "compareOp NotEq ref") => `(tactic| (k_here; (with_reducible show wpAny _ _ (compareOp CmpOp.NotEq (Value.ref _) (Value.ref _)) _ _ _); k_dflt (refine' ne_row ?F ?N ?l ?s2 ?m ?v ?z ?u ?_; (case F => k_asm); (case N => k_asm); (case l => assumption); (case s2 => assumption); (case m => k_mem); (case v => assumption); (case z => assumption); (case u => walk_at "my units"); k_whole)))
theorem eq_nil2 {prog : Program} {w : World} {A : Around} {E : Value → Shared → Prop} {s : Shared} {h₀ : Heap} {L : Addr} {news : List (Addr × Obj)} {a b : Addr} {c d : Nat} {Q : Value → Shared → Prop}
    (N : News h₀ L s.heap news) (h1 : (a, lstO ([] : List Value).toArray c) ∈ news) (h2 : (b, lstO ([] : List Value).toArray d) ∈ news) (hun : A.units + 64 < cLine)
    (h : Q (.bool true) s) : wpAny (model prog w) A (compareOp .Eq (.ref a) (.ref b)) Q E s :=
  eq_strsK ⟨_, (N _ h1).1, rfl, _, rfl⟩ .nil ⟨_, (N _ h2).1, rfl, _, rfl⟩ .nil (fun _ z => nomatch z) (fun _ z => nomatch z) hun (by simpa using h)
local macro_rules | `(tactic| walk_at "compareOp Eq ref") => `(tactic| (k_here; (with_reducible show wpAny _ _ (compareOp CmpOp.Eq (Value.ref _) (Value.ref _)) _ _ _); k_dflt (refine' eq_nil2 ?hN ?ha ?hb ?hn9 ?_; (case hN => k_asm); (case ha => k_mem); (case hb => k_mem); (case hn9 => walk_at "my units"); k_whole)))
theorem item_last {prog : Program} {w : World} {A : Around} {E : Value → Shared → Prop} {s : Shared} {h₀ : Heap} {L S : Addr} {m : Str → Option Value} {ents : List Value} {v : Value} {value slice : Expr} {u : Tok} {Q : Value → Shared → Prop} (F : Fr h₀ L s.heap m) (hS : h₀.IsList S (ents ++ [v]).toArray) (hle : ents.length < 10) (h : Q v s)
    (hs : subscripted slice false (.ref S) (.int (-1) u) = operate [.ref S, .int (-1) u] (getItem (.ref S) (.int (-1) u))) (hg : ∀ r, letTemporaryGo value (.ref S) r = pure ()) :
    wpAny (model prog w) A (subscriptTail value slice (.ref S) (.int (-1) u)) Q E s := by
  obtain ⟨o, ho, r⟩ := hS
  have hl : s.heap.IsList S (ents ++ [v]).toArray := ⟨o, F.keep _ _ ho, r⟩
  have hz : (ents ++ [v]).toArray.size = ents.length + 1 := by simp
  have e : ((-1 : Int) + ((ents ++ [v]).toArray.size : Nat)).toNat = ents.length := by rw [hz]; omega
  refine subscriptTail_ops (Heap.IsList.typeIs hl) list_getitem_lookup (wpAny_getItem_list_neg hl (by decide) (by rw [hz]; omega) (by decide) ?_ h) hs hg
  rw [e]; simp
set_option hygiene false in
local macro_rules | `(tactic| walk_at "subscriptTail") => `(tactic| (k_here; (with_reducible show wpAny _ _ (subscriptTail _ _ (Value.ref _) (Value.int _ _)) _ _ _); k_dflt (refine' item_last ?hF ?hS ?hle ?_ ?hs9 ?hg9; (case hF => k_asm); (case hS => exact hS); (case hle => exact hle); (case hs9 => with_unfolding_all rfl); (case hg9 => (intro _; with_unfolding_all rfl)); k_whole)))
abbrev noMedT : Str := Str.ofString "no median for empty data"
def ChkJ (S : Addr) (ents : List Value) (ds : List (Str × List Str)) (l' : Addr) (k i : Nat) (m' : Str → Option Value) (nx : List (Addr × Obj)) : Prop :=
  ∃ row us c' ys cc tn m0, nx = [(row, lstO us.toArray c'), (l', lstO ents.toArray k)] ∧ m' = kstB m0 [(Str.ofString "coin", .int cc tn), (Str.ofString "row", .ref row), (Str.ofString "log", .ref S)] ∧ StrsAre us ys ∧ (∀ x ∈ ys, x ∈ wordList) ∧ ys.length < 10 ∧ RunLog cc ys (ds.drop i) ∧ @Ne Nat row l'
theorem kst3 {m : Str → Option Value} {v1 v2 v3 : Value} (h1 : m (Str.ofString "coin") = some v1) (h2 : m (Str.ofString "row") = some v2) (h3 : m (Str.ofString "log") = some v3) :
    m = kstB m [(Str.ofString "coin", v1), (Str.ofString "row", v2), (Str.ofString "log", v3)] := by
  funext z
  exact (kstB_eq (by simp only [List.forall_mem_cons, List.not_mem_nil, false_implies, implies_true, and_true]; exact ⟨h1, h2, h3⟩) fun _ => rfl).symm
theorem ev_close {h₀ h : Heap} {L S l' row : Addr} {m : Str → Option Value} {vs ents : List Value} {v : Value} {c k9 : Nat} {xs : List Str} {ds : List (Str × List Str)} {coin : Int} {tc : Tok} {s : Shared} {tk : Nat} (F : Fr h₀ L h m)
    (N : News h₀ L h [(l', { cls := .type "list", data := .seq (slicePick (ents ++ [v]).toArray none (some (-1)) none) k9 }), (row, lstO vs.toArray c)]) (hne : row ≠ l')
    (e1 : m (Str.ofString "coin") = some (.int coin tc)) (e2 : m (Str.ofString "row") = some (.ref row)) (e3 : m (Str.ofString "log") = some (.ref S)) (hv : StrsAre vs xs) (hx : ∀ x ∈ xs, x ∈ wordList) (hn : xs.length < 10) (hr : RunLog coin xs ds) :
    ∃ l'' k m' news h' tk', Value.ref l' = .ref l'' ∧ ({ s with heap := h, toks := tk } : Shared) = { s with heap := h', toks := tk' } ∧ Fr h₀ L h' m' ∧ News h₀ L h' news ∧ ChkJ S ents ds l'' k 0 m' news := by
  have e : slicePick (ents ++ [v]).toArray none (some (-1)) none = ents.toArray := by
    have z := slicePick_butLast (ents ++ [v]).toArray 1 (by decide)
    rw [show (-((1 : Nat) : Int)) = -1 from rfl] at z
    rw [z]
    simp
  rw [e] at N
  exact ⟨l', k9, m, [(row, lstO vs.toArray c), (l', lstO ents.toArray k9)], h, tk, rfl, rfl, F, news_sub N mem_swap2, row, vs, c, xs, coin, tc, m, rfl, kst3 e1 e2 e3, hv, hx, hn, hr, hne⟩
section
variable {w : World} {p : Program} {loose : List Str} {mean : ExcName → Option Value} {mg mb : Str → Option Value} {A : Around} {s : Shared} {R : Result → Shared → Prop} {l S : Addr} {vs ents : List Value} {xs : List Str} {ds : List (Str × List Str)} {coin : Int} {tc tF : Tok}
set_option maxHeartbeats 4000000 in
theorem chk_spec (hd : A.depth + 20 < recursionLimit) (hu : A.units + 200 < cLine) (hA : A.handled = none) (X : (Mine.KK w.params).In s.heap) (T : Top p loose mean mg mb s.heap) (hl : s.heap.IsList l vs.toArray) (hv : StrsAre vs xs) (hx : ∀ x ∈ xs, x ∈ wordList) (hn : xs.length < 10)
    (hS : s.heap.IsList S (ents ++ [Value.str noMedT tF]).toArray) (hle : ents.length < 10) (hent : ∀ (i : Nat) (v : Value), ents[i]? = some v → ∃ d : Str × List Str, ds[i]? = some d ∧ EntIn s.heap v d) (hlen : ents.length = ds.length) (hrun : RunLog coin xs ds)
    (h9 : ∀ h' tk', (∀ b o, s.heap.get? b = some o → h'.get? b = some o) → R (.ok (.ret (.bool true))) { s with heap := h', toks := tk' }) :
    codeAny (model pw w) A (.call (.ref 815) ⟨[.ref l, .int coin tc, .ref S], []⟩) R s := by
  k_dflt (refine' code_lone ?k3 ?k5 ?k6 ?k7 ?k8 ?k9 ?kB ?_ ?c2 ?c3 ?c4 ?c5; (case k3 => assumption); (case k5 => assumption); (case k6 => k_is); (case k7 => k_is); (case k8 => omega); (case k9 => exact BindsTo.of_eq rfl); (case c5 => decide); (case kB => exact locs rfl); (case c2 => exact rfl); (case c3 => exact rfl); (case c4 => exact rfl); k_whole; intro h1 F1 N1; (try dsimp only); (try k_fold))
  k_steps
  unfold SpDone
  rename News s.heap _ _ _ => N8
  rename Fr s.heap _ _ _ => F8
  refine wpAny_mono (E := fun _ _ => False) ?_ (fun _ _ h => h) (fun _ _ h => h.elim)
  refine for3 (h₀ := s.heap) (items := ents.toArray) (ChkJ S ents ds) hA rfl rfl rfl rfl (fun _ => rfl) ?ev ?hin ?tup ?done
  case hin =>
    rintro l' k i m' nx ⟨row, us, c', ys, cc, tn, m0, rfl, _⟩
    exact .tail _ (.head _)
  case ev =>
    have hrow := Heap.lt_size (N8 _ (.head _)).1
    k_steps
    rename News s.heap _ _ _ => N9
    rename Fr s.heap _ _ _ => F9
    exact ev_close F9 N9 (Nat.ne_of_lt (Nat.lt_succ_of_lt hrow)) rfl rfl rfl hv hx hn hrun
  case done =>
    clear F8 N8
    rintro l' k m' nx h tk ⟨row, us, c', ys, cc, tn, m0, rfl, rfl, hus, hys, hyl, hrl, hne7⟩ F N
    have hnil : ds.drop ents.toArray.size = [] := List.drop_eq_nil_of_le (by rw [List.size_toArray]; omega)
    rw [hnil] at hrl
    cases hrl
    cases hus
    k_steps
    rename Fr s.heap _ _ _ => F9
    exact lone_tt (by decide +kernel) (h9 _ _ F9.keep)
  case tup =>
    clear F8 N8
    intro i v hv0
    obtain ⟨d, hdi, ta, t1, t2, lb, us2, rfl, htup, hlb, hs2⟩ := hent i v (by simpa using hv0)
    refine ⟨ta, _, _, _, rfl, htup, ?_⟩
    rintro l' k m' nx It oI h tk ⟨row, us, c', ys, cc, tn, m0, rfl, rfl, hus, hys, hyl, hrl, hne7⟩ F N off
    have hdrop : ds.drop i = d :: ds.drop (i + 1) := by
      obtain ⟨h1, h2⟩ := List.getElem?_eq_some_iff.mp hdi
      rw [List.drop_eq_getElem_cons h1, h2]
    rw [hdrop] at hrl
    cases hrl with
    | step hne hp9 hs9 hrl' =>
      rename_i ss
      dsimp only at htup hlb hs2 F
      have hxm : ss.getD (midOf cc ys.length) (Str.ofString "") ∈ ys := (median_counts hp9 hs9 (by rw [hp9.length_eq]; have := List.length_pos_iff.mpr hne; unfold midOf; split <;> omega)).1
      obtain ⟨hzs9, hzl9⟩ := erase_ok hxm hys
      have hoff9 : ∀ q ∈ [(It, oI), (l', lstO ents.toArray k)], q.1 ≠ row := by
        simp only [List.forall_mem_cons, List.not_mem_nil, false_implies, implies_true, and_true]
        exact ⟨fun e => off _ (.head _) e.symm, fun e => hne7 e.symm⟩
      generalize hzs : ys.erase (ss.getD (midOf cc ys.length) (Str.ofString "")) = zs at hzs9 hzl9 hrl' hs2 F
      have hjw9 : (((zs.map quoted).map (·.length)).sum + (zs.map quoted).length) ≤ 10000 := by
        have := sum_le (zs.map quoted) fun x hx' => by
          obtain ⟨y, hy, rfl⟩ := List.mem_map.mp hx'
          exact of_decide_eq_true (List.all_eq_true.mp quoted_len_all y (hzs9 y hy))
        rw [List.length_map] at this ⊢
        omega
      have q4 : (J zs != J zs) = false := bne_self_eq_false _
      k_steps
      rename News s.heap _ _ _ => N9
      rename Fr s.heap _ _ _ => F9
      exact ⟨_, _, _, [(row, lstO us7.toArray c7), (l', lstO ents.toArray k)], rfl, F9, news_sub N9 (fun q hq => .tail _ hq), List.forall_mem_cons.mpr ⟨off (row, lstO us.toArray c') (.head _), List.forall_mem_cons.mpr ⟨off _ (.tail _ (.head _)), fun _ h => nomatch h⟩⟩, row, us7, c7, zs, Int.fdiv cc 2, _, _, rfl, kst3 rfl rfl rfl, hv7, hzs9, by omega, hrl', hne7⟩
end
end Mine
namespace Mine
theorem peek_word (w : World) (S : Setting) : peek (Mine.KK w.params) S (nsGet 3 (Str.ofString "_law_word")) = some (some (.ref 793)) := by kernel_rfl
theorem keep_word (w : World) : keepIn (Mine.KK w.params) (.ref 793) = true := by kernel_rfl
section
variable {w : World} {p : Program} {loose : List Str} {mean : ExcName → Option Value} {mg mb : Str → Option Value} {A : Around} {E : Value → Shared → Prop} {s : Shared} {h₀ : Heap} {L : Addr} {m : Str → Option Value} {Q : Value → Shared → Prop}
theorem word_elt {env : Env} {C : Addr} {m₂ : Str → Option Value} {x : Str} {p1 p2 p3 : Pos} {n : Int} {u : Tok} (hk : env.scope.kind = .function) (h1 : env.kindOf (Str.ofString "_law_word") = some .globalImplicit) (h2 : env.kindOf x = some .local) (hL : env.locals = C) (hg : env.globals = 3) (hx : (x == ("__debug__" : Str)) = false)
    (F : Fr h₀ L s.heap m) (hns : s.heap.Ns C m₂) (X₀ : (Mine.KK w.params).In h₀) (T₀ : Top p loose mean mg mb h₀) (hm : m₂ x = some (.int n u)) (hd : A.depth + 10 < recursionLimit)
    (h : ∀ h' tk' u', (∀ b o, s.heap.get? b = some o → h'.get? b = some o) → Q (.str (wordOf n) u') { s with heap := h', toks := tk' }) :
    wpAny (model pw w) A (eval (.Call (.Name (Str.ofString "_law_word") p1) [.Name x p2] [] p3) env) Q E s := by
  have X := X₀.keeps F.keep
  have hb : mg (Str.ofString "_law_word") = some (.ref 793) := mg_of X₀ T₀.g (by kernel_rfl)
  have hG : s.heap.Ns env.globals mg := by rw [hg]; exact T₀.g.keeps F.keep
  refine Call_ (Calls.Name_function_global hk h1 (Calls.loadGlobal_global (env := env) hG hb ?_) (by decide))
  refine callWith_K (K := Mine.KK w.params) (h₀ := h₀) X₀ (keep_word w) ?_
  refine spliced_more (wpAny_Name (wpAny_loadName_local hk h2 (hL ▸ hns) hm (spliced_none ?_)) hx)
  refine ⟨X, wpAny_call (word_spec hd X (T₀.keeps F.keep) fun h' tk' u' k => ?_)⟩
  exact h h' tk' u' k
end
theorem ents_in {h₀ h : Heap} {L : Addr} {rest : List (Addr × Obj)} {ents : List Value} {ds : List (Str × List Str)} (N : News h₀ L h rest) (hl : LogAre rest ents ds) : ∀ (i : Nat) (v : Value), ents[i]? = some v → ∃ d : Str × List Str, ds[i]? = some d ∧ EntIn h v d := by
  induction hl with
  | nil => intro i v h; simp at h
  | cons a b ih =>
    intro i v hv
    cases i with
    | zero =>
      simp only [List.getElem?_cons_zero, Option.some.injEq] at hv ⊢
      subst hv
      refine ⟨_, rfl, ?_⟩
      obtain ⟨ta, t1, t2, lb, us, k, k', e, m1, m2, m3⟩ := a
      exact ⟨ta, t1, t2, lb, us, e, ⟨_, (N _ m1).1, rfl, _, rfl⟩, ⟨_, (N _ m2).1, rfl, _, rfl⟩, m3⟩
    | succ i => simpa using ih i v (by simpa using hv)
end Mine
namespace Mine
noncomputable abbrev gH (h : Heap) : Heap := hideAll h [773]
theorem hid_get {h : Heap} {b : Addr} {o : Obj} (e : h.get? b = some o) (n : b ≠ 773) : (gH h).get? b = some o := hideAll_get _ e (by simpa using n)
theorem kk_773 (w : World) : (KK w.params).lookup 773 = none := by kernel_rfl
theorem k2_773 (w : World) : (KK2 w.params).lookup 773 = some (tabO #[]) := by kernel_rfl
theorem k2_in {w : World} {h : Heap} (X : (KK2 w.params).In h) : (KK w.params).In (gH h) ∧ h.get? 773 = some (tabO #[]) := by
  refine ⟨fun a o e => ?_, X _ _ (k2_773 w)⟩
  have n : a ≠ 773 := fun q => by rw [q, kk_773] at e; cases e
  refine hid_get (X a o ?_) n
  have n' : (a == 773) = false := beq_eq_false_iff_ne.mpr n
  show (List.lookup a ((773, o8E w.params) :: KK w.params)) = some o
  rw [List.lookup_cons, n']
  exact e
theorem ns_hide {h : Heap} {a : Addr} {m : Str → Option Value} (x : h.Ns a m) (n : a ≠ 773) : (gH h).Ns a m := by
  obtain ⟨o, es, ep, e, r⟩ := x
  exact ⟨o, es, ep, hid_get e n, r⟩
noncomputable abbrev p1 : Program := { pp with main := { pp.main with body := [.Import [{ name := Str.ofString "sys", asname := none, pos := p0 }] p0] } }
theorem p1_recs : recsOf p1 = [] := by kernel_rfl
theorem p1_owns : ownsOf p1 = [] := by kernel_rfl
theorem p1_lits : litsOf p1 = [] := by kernel_rfl
theorem p1_imp : importsNone p1 = false := by kernel_rfl
theorem p1_val (x : Str) : valOf p1 x = none := by kernel_rfl
theorem top_hide {q : Program} {loose : List Str} {mean : ExcName → Option Value} {mg mb : Str → Option Value} {h : Heap} (T : Top q loose mean mg mb h) (h7 : h.get? 773 = some (tabO #[])) :
    Top p1 (loose ++ ((recsOf q).map (·.name) ++ ((litsOf q).map (·.1) ++ (clssOf q loose).map (·.name)))) mean mg mb (gH h) where
  g := ns_hide T.g (by decide)
  b := ns_hide T.b (by decide)
  nolimit := let ⟨mc, a, b⟩ := T.nolimit; ⟨mc, ns_hide a (by decide), b⟩
  nodigits := let ⟨mc, a, b⟩ := T.nodigits; ⟨mc, ns_hide a (by decide), b⟩
  fn := fun d hd => by rw [p1_recs] at hd; cases hd
  own := fun o ho => by rw [p1_owns] at ho; cases ho
  const := fun x d e => by rw [p1_val] at e; cases e
  free := fun x a b _ _ _ => by
    simp only [List.mem_append, not_or] at b
    exact T.free x a b.1 b.2.1 b.2.2.1 b.2.2.2
  builtins := T.builtins
  tab := fun d hd => by rw [p1_recs] at hd; cases hd
  bmain := by
    obtain ⟨bm, ob, a, b, c, d, e⟩ := T.bmain
    refine ⟨bm, ob, a, b, hid_get c fun q => ?_, d, e⟩
    rw [q, h7] at c
    cases c
    cases d
  seer := fun hi => by rw [p1_imp] at hi; cases hi
theorem fr_hide {h h' : Heap} {L : Addr} {m : Str → Option Value} (F : Fr h L h' m) : Fr (gH h) L h' m := ⟨F.ns, fun b o e => F.keep b o (of_hideAll _ e), by rw [hideAll_size]; exact F.above⟩
theorem news_hide {h h' : Heap} {L : Addr} {m : Str → Option Value} (F : Fr h L h' m) (h7 : h.get? 773 = some (tabO #[])) : News (gH h) L h' [(773, tabO #[])] := fun q hq => by
  rw [List.mem_singleton.mp hq]
  refine ⟨F.keep _ _ h7, fun e => ?_, hideAll_none _ (.head _)⟩
  have := Nat.lt_of_lt_of_le (Heap.lt_size h7) F.above
  exact absurd this (by rw [← e]; exact Nat.lt_irrefl _)
theorem list_hide {h : Heap} {a : Addr} {its : Array Value} (x : h.IsList a its) (h7 : h.get? 773 = some (tabO #[])) : (gH h).IsList a its := by
  obtain ⟨o, e, c, r⟩ := x
  refine ⟨o, hid_get e fun q => ?_, c, r⟩
  rw [q, h7] at e
  cases e
  cases c
end Mine
namespace Mine
theorem ints_at : ∀ {vs : List Value} {ns : List Int}, IntsAre vs ns → ∀ {i : Nat} {v : Value}, vs[i]? = some v → ∃ k u, ns[i]? = some k ∧ v = .int k u
  | _, _, .nil, i, v, h => by simp at h
  | _, _, .cons k t hs, 0, v, h => by
    simp only [List.getElem?_cons_zero, Option.some.injEq] at h
    exact ⟨k, t, by simp, h.symm⟩
  | _, _, .cons k t hs, i + 1, v, h => by
    simp only [List.getElem?_cons_succ] at h ⊢
    exact ints_at hs h
theorem map_ms (ms : List Int) : (List.range ms.length).map (fun i => match ms[i]? with | some k => wordOf k | none => Str.ofString "") = ms.map wordOf := by
  apply List.ext_getElem?
  intro i
  by_cases hi : i < ms.length
  · simp [hi]
  · simp [Nat.le_of_not_lt hi, hi]
section
variable {w : World} {p : Program} {loose : List Str} {mean : ExcName → Option Value} {mg mb : Str → Option Value} {A : Around} {E : Value → Shared → Prop} {s : Shared} {h₀ : Heap} {L : Addr} {m : Str → Option Value} {news : List (Addr × Obj)} {env : Env}
open LCg
theorem src_words {nm y : Str} {scope : Scope} {cl : List (Str × Addr)} {p1 p2 p3 : Pos} {us : List Value} {c : Nat} {ms : List Int} {ax : Addr} {Q : Flow → Shared → Prop} (hh : A.handled = none) (F : Fr h₀ L s.heap m) (N : News h₀ L s.heap news) (hm : (ax, lstO us.toArray c) ∈ news) (hI : IntsAre us ms) (hlt : ms.length < 1000) (X₀ : (KK w.params).In h₀) (T₀ : Top p loose mean mg mb h₀) (hd : A.depth + 10 < recursionLimit)
    (k1 : ∀ C, (compEnvC scope cl C env).scope.kind = .function) (k2 : ∀ C, (compEnvC scope cl C env).kindOf (Str.ofString "_law_word") = some .globalImplicit) (k3 : ∀ C, (compEnvC scope cl C env).kindOf nm = some .local) (k4 : ∀ C, (compEnvC scope cl C env).locals = C) (k5 : ∀ C, (compEnvC scope cl C env).globals = 3) (k6 : (nm == ("__debug__" : Str)) = false)
    (hfin : ∀ ys D h tk, StrsAre ys (ms.map wordOf) → Fr h₀ L h (fun z => if z = y then some (.ref D) else m z) → News h₀ L h ((D, lstO ys.toArray ys.length) :: news) → (∀ q ∈ news, q.1 ≠ D) → Q .next { s with heap := h, toks := tk }) :
    CompSrc pw w A h₀ L m env (.Call (.Name (Str.ofString "_law_word") p1) [.Name nm p2] [] p3) nm scope cl (fun s₂ => FinA h₀ L m s₂ y Q) (.ref ax) s := by
  have hz : 1000 ≤ sizeLine := by decide +kernel
  have hsz : us.toArray.size = ms.length := by rw [List.size_toArray]; exact hI.length
  have hsrc : SrcAt h₀ ax us.toArray news := .inr ⟨_, hm, rfl, _, rfl⟩
  refine .inl ⟨ax, us.toArray, news, rfl, hh, F, N, hsrc, by omega, fun s₂ ⟨g, e⟩ => ?_⟩
  subst e
  refine rest_map (s := { s with heap := g }) (P := fun i v => us.toArray[i]? = some v) (S := SrcAt h₀ ax us.toArray) (Fin := FinA h₀ L m { s with heap := g } y Q) (n := ms.length) (fun i => match ms[i]? with | some k => wordOf k | none => Str.ofString "") hsrc (fun i v C m₂ h tk E' hi hP hns hmm Fm _ => ?_)
    (fun ys hys D h tk F' N' off => hfin ys D h tk (by rw [map_ms] at hys; exact hys) F' N' (off1_ne off)) us.toArray.size 0 [] (by omega) .nil
  obtain ⟨k, u, hk, rfl⟩ := ints_at hI (show us[i]? = some v by simpa using hP)
  exact word_elt (k1 C) (k2 C) (k3 C) (k4 C) (k5 C) k6 Fm hns X₀ T₀ hmm hd fun h' tk' u' kp => ⟨⟨u', by rw [hk]⟩, h', tk', rfl, kp⟩
end
section
variable {w : World} {p : Program} {loose : List Str} {mean : ExcName → Option Value} {mg mb : Str → Option Value} {dp un : Nat} {gd : Option (List Code)} {cn : Str} {cs : Scope} {a : Addr} {ccd : Value} {A₀ : Around} {h₀ : Heap} {L : Addr} {m : Str → Option Value} {s : Shared} {Q E : Value → Shared → Prop}
  {l : Addr} {vs : List Value} {c : Nat} {xs : List Str} {news : List (Addr × Obj)} {ps : Array Value} {coin : Int} {tc : Tok}
theorem run_call (hv : StrsAre vs xs) (hx : ∀ x ∈ xs, x ∈ wordList) (hn : xs.length < 10) (B : Below A₀ h₀ [] h₀) (F : Fr h₀ L s.heap m) (X : (KK w.params).In h₀) (T : Top p loose mean mg mb h₀) (hck : cs.kind = .function) (G : AllBare s.gens) (hps : PsOk ps) (hl7 : l ≠ 773)
    (N : News h₀ L s.heap news) (m1 : (l, lstO vs.toArray c) ∈ news) (m2 : (773, tabO ps) ∈ news) (hd : dp + 100 < recursionLimit) (hu : un + 1000 < cLine)
    (h : ∀ S h₀' s' tF ents kk ds rest, (∀ b o, h₀.get? b = some o → h₀'.get? b = some o) → Below A₀ h₀ [] h₀' → Fr h₀' L s'.heap m → (KK w.params).In h₀' → Top p loose mean mg mb h₀' → News h₀' L s'.heap ((S, lstO (ents ++ [.str (Str.ofString "no median for empty data") tF]).toArray kk) :: rest) →
      LogAre rest ents ds → RunLog coin xs ds → ents.length < 10 → (l, lstO vs.toArray c) ∈ rest → (∃ ps', PsOk ps' ∧ (773, tabO ps') ∈ rest) → AllBare s'.gens → s'.os = s.os → Q (.ref S) s') :
    wpAny (model pw w) (Ar dp un gd (envOf cn cs L a ccd) []) (call (.ref 800) [.ref l, .int coin tc]) Q E s := by
  refine wpAny_call (run_spec (news := []) (g₀ := h₀) (c := c) hv hx hn ⟨B, F, X, T, X, T, fun b hb => nomatch hb⟩ hck .refl G hps hl7 (fun _ hp => nomatch hp) (news_sub N ?_) hd hu ?_)
  · intro q hq
    rcases List.mem_cons.mp hq with rfl | hq
    · exact m1
    · rcases List.mem_cons.mp hq with rfl | hq
      · exact m2
      · cases hq
  · intro S h₀' s' tF ents kk ds rest kT cx N' lg rl le kp p7 G' os'
    exact h S h₀' s' tF ents kk ds rest (fun b o e => kT.other b o e (fun z => nomatch z)) cx.B cx.F cx.X cx.T N' lg rl le (kp _ (.head _)) p7 G' os'
theorem chk_call {A : Around} {h₀' : Heap} {S : Addr} {ents : List Value} {tF : Tok} {kk : Nat} {ds : List (Str × List Str)} {rest : List (Addr × Obj)} (hd : A.depth + 20 < recursionLimit) (hu : A.units + 200 < cLine) (hA : A.handled = none) (F : Fr h₀' L s.heap m) (X : (KK w.params).In h₀') (T : Top p loose mean mg mb h₀')
    (N : News h₀' L s.heap ((S, lstO (ents ++ [Value.str noMedT tF]).toArray kk) :: rest)) (hm : (l, lstO vs.toArray c) ∈ rest) (hv : StrsAre vs xs) (hx : ∀ x ∈ xs, x ∈ wordList) (hn : xs.length < 10) (hlog : LogAre rest ents ds) (hr : RunLog coin xs ds) (hle : ents.length < 10)
    (h : ∀ h' tk', (∀ b o, s.heap.get? b = some o → h'.get? b = some o) → Q (.bool true) { s with heap := h', toks := tk' }) :
    wpAny (model pw w) A (call (.ref 815) [.ref l, .int coin tc, .ref S]) Q E s :=
  wpAny_call (chk_spec hd hu hA (X.keeps F.keep) (T.keeps F.keep) ⟨_, (N _ (.tail _ hm)).1, rfl, _, rfl⟩ hv hx hn ⟨_, (N _ (.head _)).1, rfl, _, rfl⟩ hle (ents_in (news_sub N fun q hq => .tail _ hq) hlog) hlog.length hr h)
end
end Mine
namespace Mine
theorem words_ok (ms : List Int) : ∀ x ∈ ms.map wordOf, x ∈ wordList := fun x hx => by
  obtain ⟨n, _, rfl⟩ := List.mem_map.mp hx
  exact wordOf_in n
theorem psok0 : PsOk #[] := fun _ _ _ => .inl rfl
/-- the old heap's join has an empty code table -/
def Old7 (h : Heap) : Prop := h.get? 773 = some (tabO #[])
theorem old_end {w : World} {h g h' h'' : Heap} {L S : Addr} {m : Str → Option Value} {oS : Obj} {rest : List (Addr × Obj)} (X7 : (KK w.params).In (gH h)) (h7 : Old7 h) (sub : ∀ b o, (gH h).get? b = some o → g.get? b = some o) (F : Fr g L h' m) (N : News g L h' ((S, oS) :: rest)) (p7 : ∃ ps', PsOk ps' ∧ (773, tabO ps') ∈ rest)
    (kp : ∀ b o, h'.get? b = some o → h''.get? b = some o) : OldK h h'' := by
  obtain ⟨ps', _, hm⟩ := p7
  have e7 : h''.get? 773 = some (tabO ps') := kp _ _ (N _ (.tail _ hm)).1
  have hX : (KK w.params).In h := fun a o e => of_hideAll _ (X7 a o e)
  have h7 : h.get? 773 = some (tabO #[]) := h7
  refine ⟨fun b o e => ?_, fun b o e => ?_⟩
  · by_cases hb : b = 773
    · subst hb
      have eo : o = tabO #[] := Option.some.inj (e.symm.trans h7)
      subst eo
      refine .inr (.inl ⟨(isCode_join (ps := #[]) hX h7 trivial).2.isCodeTable, rfl, #[], ps', rfl, ?_⟩)
      rw [Array.empty_append]; exact e7
    · exact .inl (kp _ _ (F.keep _ _ (sub _ _ (hid_get e hb))))
  · by_cases hb : b = 773
    · subst hb; exact ⟨_, e7⟩
    · exact ⟨o, kp _ _ (F.keep _ _ (sub _ _ (hid_get e hb)))⟩
theorem law_end {c : ClaimW} {cl : Str → Option Addr} {mean : ExcName → Option Value} {args : List WData} {s₁ s' : Shared} (K : OldK s₁.heap s'.heap) (hos : s'.os = s₁.os) (hg : AllBare s'.gens) (hn : ∀ cls, c.raises args cls = false) (hp : c.post args (.bool true) args = true) :
    GoodWG c cl mean args s₁ (.ok (.ret (.bool true))) s' :=
  ⟨.inl ⟨_, _, [], rfl, hn, .bool true, hp, fun _ => ⟨.nil, fun _ ha => nomatch ha⟩⟩, K, hos, hg⟩
end Mine
open Mine
theorem Mine.clear15 : True := by first | (walk1; fail) | exact trivial
set_option hygiene false in
local macro_rules | `(tactic| walk_at "CompSrc") => `(tactic| (k_here; k_dflt (refine' src_words ?hh ?hF ?hN ?hm ?hI ?hlt ?hX ?hT ?hd ?a1 ?a2 ?a3 ?a4 ?a5 ?a6 ?_; (case hh => exact rfl); (case hF => k_asm); (case hN => k_asm); (case hm => k_mem); (case hI => assumption); (case hlt => (simp only [List.length_append, List.length_cons, List.length_nil, List.length_take]; omega)); (case hX => k_asm); (case hT => k_asm); (case hd => (first | decide +kernel | (show _ < _; unfold recursionLimit; dsimp only; omega) | exact Nat.lt_of_lt_of_le (Nat.lt_of_sub_pos (by exact Nat.zero_lt_succ _)) (Nat.le_refl _))); (case a1 => exact fun _ => rfl); (case a2 => exact fun _ => rfl); (case a3 => exact fun _ => rfl); (case a4 => exact fun _ => rfl); (case a5 => exact fun _ => rfl); (case a6 => decide); k_whole; intro ys9 D9 h9 tk9 hS9 F9 N9 o9; have hl79 : D9 ≠ 773 := fun e => o9 (773, tabO #[]) (by k_mem) e.symm; (try dsimp only))))
set_option hygiene false in
local macro_rules | `(tactic| walk_at "call ref") => `(tactic| (k_here; (with_reducible show wpAny _ _ (call (Value.ref 800) _ _) _ _ _); k_dflt (refine' run_call ?hv ?hx ?hn ?hB ?hF ?hX ?hT ?hck ?hG ?hps ?hl7 ?hN ?m1 ?m2 ?hd ?hu ?_; (case hN => k_asm); (case hF => k_asm); (case hv => assumption); (case hx => exact words_ok _); (case hn => (simp only [List.length_map, List.length_append, List.length_cons, List.length_nil, List.length_take]; omega)); (case hX => k_asm); (case hT => k_asm); (case hB => k_asm); (case hck => exact rfl); (case hG => exact AllBare.of_eq hos); (case hps => exact psok0); (case hl7 => exact hl79); (case m1 => k_mem); (case m2 => k_mem); (case hd => (first | decide +kernel | (show _ < _; unfold recursionLimit; dsimp only; omega) | exact Nat.lt_of_lt_of_le (Nat.lt_of_sub_pos (by exact Nat.zero_lt_succ _)) (Nat.le_refl _))); (case hu => (first | decide +kernel | (show _ < _; unfold recursionLimit; dsimp only; omega) | exact Nat.lt_of_lt_of_le (Nat.lt_of_sub_pos (by exact Nat.zero_lt_succ _)) (Nat.le_refl _))); k_whole; intro S9 g9 s9 tF9 en9 kk9 ds9 rest9 sub9 B9 Fr9 X9 T9 N8 lg9 rl9 le9 kp9 p79 G9 os9; (try dsimp only); (try k_fold))))
set_option hygiene false in
local macro_rules | `(tactic| walk_at "call ref") => `(tactic| (k_here; (with_reducible show wpAny _ _ (call (Value.ref 815) _ _) _ _ _); k_dflt (refine' chk_call ?hd ?hu ?hA ?hF ?hX ?hT ?hN ?hm ?hv ?hx ?hn ?hl ?hr ?hle ?_; (case hN => k_asm); (case hF => k_asm); (case hm => assumption); (case hv => assumption); (case hx => exact words_ok _); (case hn => (simp only [List.length_map, List.length_append, List.length_cons, List.length_nil, List.length_take]; omega)); (case hX => k_asm); (case hT => k_asm); (case hl => assumption); (case hr => assumption); (case hle => assumption); (case hA => exact rfl); (case hd => (first | decide +kernel | (show _ < _; unfold recursionLimit; dsimp only; omega) | exact Nat.lt_of_lt_of_le (Nat.lt_of_sub_pos (by exact Nat.zero_lt_succ _)) (Nat.le_refl _))); (case hu => (first | decide +kernel | (show _ < _; unfold recursionLimit; dsimp only; omega) | exact Nat.lt_of_lt_of_le (Nat.lt_of_sub_pos (by exact Nat.zero_lt_succ _)) (Nat.le_refl _))); k_whole; intro h6 tk6 kp6; refine to_sp ?_)))
set_option maxRecDepth 100000 in
set_option maxHeartbeats 8000000 in
theorem PySem.Challenge.cw_ny0341_01_holds : PySem.Challenge.rw_ny0341_01.Holds := by
  w_on
  refine holds_law ws fun said => ?_
  refine holds_open (q := qq) (loose := lo) (Xt := xt) (XP := XL qq []) (Yf := Hook.obs hk) (Ya := Hook.val hk) (YP := Hook.says hk) (N := 10798) left (Hook.of hk) (Hook.keeps hk) (fun s e => xl_of s (Bool.and_eq_true_iff.mp e).1) XL.keeps (by rfl) (by rfl) (by rfl) (fun s e => recFacts_of (Bool.and_eq_true_iff.mp e).2) (by rfl) said (by decide +kernel) ⟨rfl, rfl, rfl, rfl, rfl, by decide +kernel⟩ ?hw ?hc
  case hw => w_witness2
  intro w s₀ s₁ mg mb G Y fa o pm cd doc dV kV ho hd hcd hD hmg hg args vals as hpre hlay hrd hwl hlo
  have KX := kIn_of Y
  refine Ground.open G ?_
  intro T B D TE TW
  try (refine guard_noD D (by decide +kernel) ?_; clear D)
  try (obtain ⟨_, _, he, B0⟩ := based_of_top T rfl hmg ho hd; have he' : cd = _ := he; subst he'; clear he)
  clear hmg
  wrow_args hpre hlay hrd hwl hlo
  first | refine callC_kw (enter_call ?_) | refine enter_call ?_ | refine callC_kw (enter_callW ?_) | refine enter_callW ?_ | w_how
  w_top on
  w_call any ho hd hcd hD T F
  obtain ⟨X7, h7⟩ := k2_in KX
  have T7 := top_hide T h7
  have B7 := below_caller (gH s₁.heap)
  rename IntsAre _ _ => hI
  rename News s₁.heap _ _ _ => N0
  rename Fr s₁.heap _ _ _ => F0
  rename Heap.IsList s₁.heap _ _ => hL
  have F7 := fr_hide F0
  have N7 := news_hide F0 h7
  have hL7 := list_hide hL h7
  have hos : s₁.gens = #[] := hg
  have h7o : Old7 s₁.heap := h7
  clear F0 N0 T KX B TE TW hL Y h7 said
  k_steps
  unfold SpDone
  refine' law_end (old_end X7 h7o sub9 ?gF ?gN p79 kp6) ?gO ?gG ?gR ?gP
  case gF => assumption
  case gN => assumption
  case gO => exact os9
  case gG => exact G9
  case gR => exact fun _ => rfl
  case gP => wrow_post
