import PyProof.Rows.All
import Wide.All
import OpenK.AllK
import Wide.FinOn
import Lean
import PySem.Challenge.RW_sh0067_01
set_option Elab.async false
set_option maxRecDepth 1000000
set_option linter.all false
set_option compiler.extract_closed false
namespace Mine
noncomputable section
section
section
-- Ob1
open PySem PySem.W PyProof.Rows
abbrev pw := PySem.Challenge.pw_sh0067_01
abbrev S := Str.ofString
def goto : List Nat → List Stmt → Option Stmt
  | [], _ => none
  | i :: r, l => match l[i]? with
    | none => none
    | some s => match r with
      | [] => some s
      | _ :: _ => match s with
        | .ClassDef _ _ _ body .. => goto r body
        | .FunctionDef _ _ body .. => goto r body
        | _ => none
def dP (path : List Nat) : Arguments := match goto path pw.main.body with
  | some (.FunctionDef _ a ..) => a
  | _ => default
def dB (path : List Nat) : List Stmt := match goto path pw.main.body with
  | some (.FunctionDef _ _ b ..) => b
  | _ => []
def dS (path : List Nat) : Scope := match goto path pw.main.body with
  | some (.FunctionDef _ _ _ _ _ _ s ..) => s
  | _ => default
noncomputable def o1I_0 (P : Params) : Obj := ⟨.type "dict", none, .dict (List.toArray [⟨PyData.keyHash P (S "__name__"), .str (S "__name__") 1, .str (S "builtins") 160⟩, ⟨PyData.keyHash P (S "__doc__"), .str (S "__doc__") 2, .builtin "builtins.__doc__:str#opaque"⟩, ⟨PyData.keyHash P (S "__package__"), .str (S "__package__") 3, .builtin "builtins.__package__:str#opaque"⟩, ⟨PyData.keyHash P (S "__loader__"), .str (S "__loader__") 4, .builtin "builtins.__loader__:shared#opaque"⟩, ⟨PyData.keyHash P (S "__spec__"), .str (S "__spec__") 5, .builtin "builtins.__spec__#opaque"⟩, ⟨PyData.keyHash P (S "__build_class__"), .str (S "__build_class__") 6, .builtin "__build_class__"⟩, ⟨PyData.keyHash P (S "__im\x70ort__"), .str (S "__im\x70ort__") 7, .builtin "__im\x70ort__"⟩, ⟨PyData.keyHash P (S "abs"), .str (S "abs") 8, .builtin "abs"⟩, ⟨PyData.keyHash P (S "all"), .str (S "all") 9, .builtin "all"⟩, ⟨PyData.keyHash P (S "any"), .str (S "any") 10, .builtin "any"⟩, ⟨PyData.keyHash P (S "ascii"), .str (S "ascii") 11, .builtin "ascii"⟩, ⟨PyData.keyHash P (S "bin"), .str (S "bin") 12, .builtin "bin"⟩, ⟨PyData.keyHash P (S "breakpoint"), .str (S "breakpoint") 13, .builtin "breakpoint"⟩, ⟨PyData.keyHash P (S "callable"), .str (S "callable") 14, .builtin "callable"⟩, ⟨PyData.keyHash P (S "chr"), .str (S "chr") 15, .builtin "chr"⟩, ⟨PyData.keyHash P (S "compile"), .str (S "compile") 16, .builtin "compile"⟩, ⟨PyData.keyHash P (S "delattr"), .str (S "delattr") 17, .builtin "delattr"⟩, ⟨PyData.keyHash P (S "dir"), .str (S "dir") 18, .builtin "dir"⟩, ⟨PyData.keyHash P (S "divmod"), .str (S "divmod") 19, .builtin "divmod"⟩, ⟨PyData.keyHash P (S "eval"), .str (S "eval") 20, .builtin "eval"⟩, ⟨PyData.keyHash P (S "exec"), .str (S "exec") 21, .builtin "exec"⟩, ⟨PyData.keyHash P (S "format"), .str (S "format") 22, .builtin "format"⟩, ⟨PyData.keyHash P (S "getattr"), .str (S "getattr") 23, .builtin "getattr"⟩, ⟨PyData.keyHash P (S "globals"), .str (S "globals") 24, .builtin "globals"⟩, ⟨PyData.keyHash P (S "hasattr"), .str (S "hasattr") 25, .builtin "hasattr"⟩, ⟨PyData.keyHash P (S "hash"), .str (S "hash") 26, .builtin "hash"⟩, ⟨PyData.keyHash P (S "hex"), .str (S "hex") 27, .builtin "hex"⟩, ⟨PyData.keyHash P (S "id"), .str (S "id") 28, .builtin "id"⟩, ⟨PyData.keyHash P (S "input"), .str (S "input") 29, .builtin "input"⟩, ⟨PyData.keyHash P (S "isinst\x61nce"), .str (S "isinst\x61nce") 30, .builtin "isinst\x61nce"⟩, ⟨PyData.keyHash P (S "issubclass"), .str (S "issubclass") 31, .builtin "issubclass"⟩, ⟨PyData.keyHash P (S "iter"), .str (S "iter") 32, .builtin "iter"⟩, ⟨PyData.keyHash P (S "aiter"), .str (S "aiter") 33, .builtin "aiter"⟩, ⟨PyData.keyHash P (S "len"), .str (S "len") 34, .builtin "len"⟩, ⟨PyData.keyHash P (S "locals"), .str (S "locals") 35, .builtin "locals"⟩, ⟨PyData.keyHash P (S "max"), .str (S "max") 36, .builtin "max"⟩, ⟨PyData.keyHash P (S "min"), .str (S "min") 37, .builtin "min"⟩, ⟨PyData.keyHash P (S "next"), .str (S "next") 38, .builtin "next"⟩, ⟨PyData.keyHash P (S "anext"), .str (S "anext") 39, .builtin "anext"⟩, ⟨PyData.keyHash P (S "oct"), .str (S "oct") 40, .builtin "oct"⟩, ⟨PyData.keyHash P (S "ord"), .str (S "ord") 41, .builtin "ord"⟩, ⟨PyData.keyHash P (S "pow"), .str (S "pow") 42, .builtin "pow"⟩, ⟨PyData.keyHash P (S "print"), .str (S "print") 43, .builtin "print"⟩, ⟨PyData.keyHash P (S "repr"), .str (S "repr") 44, .builtin "repr"⟩, ⟨PyData.keyHash P (S "round"), .str (S "round") 45, .builtin "round"⟩, ⟨PyData.keyHash P (S "setattr"), .str (S "setattr") 46, .builtin "setattr"⟩, ⟨PyData.keyHash P (S "sorted"), .str (S "sorted") 47, .builtin "sorted"⟩, ⟨PyData.keyHash P (S "sum"), .str (S "sum") 48, .builtin "sum"⟩, ⟨PyData.keyHash P (S "vars"), .str (S "vars") 49, .builtin "vars"⟩, ⟨PyData.keyHash P (S "None"), .str (S "None") 50, .none⟩, ⟨PyData.keyHash P (S "Ellipsis"), .str (S "Ellipsis") 51, .ellipsis⟩, ⟨PyData.keyHash P (S "NotImplemented"), .str (S "NotImplemented") 52, .notImplemented⟩, ⟨PyData.keyHash P (S "False"), .str (S "False") 53, .bool false⟩, ⟨PyData.keyHash P (S "True"), .str (S "True") 54, .bool true⟩, ⟨PyData.keyHash P (S "bool"), .str (S "bool") 55, .type "bool"⟩, ⟨PyData.keyHash P (S "memoryview"), .str (S "memoryview") 56, .type "memoryview"⟩, ⟨PyData.keyHash P (S "bytearray"), .str (S "bytearray") 57, .type "bytearray"⟩, ⟨PyData.keyHash P (S "bytes"), .str (S "bytes") 58, .type "bytes"⟩, ⟨PyData.keyHash P (S "classmethod"), .str (S "classmethod") 59, .type "classmethod"⟩, ⟨PyData.keyHash P (S "complex"), .str (S "complex") 60, .type "complex"⟩, ⟨PyData.keyHash P (S "dict"), .str (S "dict") 61, .type "dict"⟩, ⟨PyData.keyHash P (S "enumerate"), .str (S "enumerate") 62, .type "enumerate"⟩, ⟨PyData.keyHash P (S "filter"), .str (S "filter") 63, .type "filter"⟩, ⟨PyData.keyHash P (S "float"), .str (S "float") 64, .type "float"⟩, ⟨PyData.keyHash P (S "frozenset"), .str (S "frozenset") 65, .type "frozenset"⟩, ⟨PyData.keyHash P (S "property"), .str (S "property") 66, .type "property"⟩, ⟨PyData.keyHash P (S "int"), .str (S "int") 67, .type "int"⟩, ⟨PyData.keyHash P (S "list"), .str (S "list") 68, .type "list"⟩, ⟨PyData.keyHash P (S "map"), .str (S "map") 69, .type "map"⟩, ⟨PyData.keyHash P (S "object"), .str (S "object") 70, .type "object"⟩, ⟨PyData.keyHash P (S "range"), .str (S "range") 71, .type "range"⟩, ⟨PyData.keyHash P (S "reversed"), .str (S "reversed") 72, .type "reversed"⟩, ⟨PyData.keyHash P (S "set"), .str (S "set") 73, .type "set"⟩, ⟨PyData.keyHash P (S "slice"), .str (S "slice") 74, .type "slice"⟩, ⟨PyData.keyHash P (S "staticmethod"), .str (S "staticmethod") 75, .type "staticmethod"⟩, ⟨PyData.keyHash P (S "str"), .str (S "str") 76, .type "str"⟩, ⟨PyData.keyHash P (S "super"), .str (S "super") 77, .type "super"⟩, ⟨PyData.keyHash P (S "tuple"), .str (S "tuple") 78, .type "tuple"⟩, ⟨PyData.keyHash P (S "type"), .str (S "type") 79, .type "type"⟩, ⟨PyData.keyHash P (S "zip"), .str (S "zip") 80, .type "zip"⟩, ⟨PyData.keyHash P (S "__debug__"), .str (S "__debug__") 81, .bool true⟩, ⟨PyData.keyHash P (S "BaseException"), .str (S "BaseException") 82, .type "BaseException"⟩, ⟨PyData.keyHash P (S "BaseExceptionGroup"), .str (S "BaseExceptionGroup") 83, .type "BaseExceptionGroup"⟩, ⟨PyData.keyHash P (S "Exception"), .str (S "Exception") 84, .type "Exception"⟩, ⟨PyData.keyHash P (S "GeneratorExit"), .str (S "GeneratorExit") 85, .type "GeneratorExit"⟩, ⟨PyData.keyHash P (S "KeyboardInterrupt"), .str (S "KeyboardInterrupt") 86, .type "KeyboardInterrupt"⟩, ⟨PyData.keyHash P (S "SystemExit"), .str (S "SystemExit") 87, .type "SystemExit"⟩, ⟨PyData.keyHash P (S "ArithmeticError"), .str (S "ArithmeticError") 88, .type "ArithmeticError"⟩, ⟨PyData.keyHash P (S "AssertionError"), .str (S "AssertionError") 89, .type "AssertionError"⟩, ⟨PyData.keyHash P (S "AttributeError"), .str (S "AttributeError") 90, .type "AttributeError"⟩, ⟨PyData.keyHash P (S "BufferError"), .str (S "BufferError") 91, .type "BufferError"⟩, ⟨PyData.keyHash P (S "EOFError"), .str (S "EOFError") 92, .type "EOFError"⟩, ⟨PyData.keyHash P (S "ImportError"), .str (S "ImportError") 93, .type "ImportError"⟩, ⟨PyData.keyHash P (S "LookupError"), .str (S "LookupError") 94, .type "LookupError"⟩, ⟨PyData.keyHash P (S "MemoryError"), .str (S "MemoryError") 95, .type "MemoryError"⟩, ⟨PyData.keyHash P (S "NameError"), .str (S "NameError") 96, .type "NameError"⟩, ⟨PyData.keyHash P (S "OSError"), .str (S "OSError") 97, .type "OSError"⟩, ⟨PyData.keyHash P (S "ReferenceError"), .str (S "ReferenceError") 98, .type "ReferenceError"⟩, ⟨PyData.keyHash P (S "RuntimeError"), .str (S "RuntimeError") 99, .type "RuntimeError"⟩, ⟨PyData.keyHash P (S "StopAsyncIteration"), .str (S "StopAsyncIteration") 100, .type "StopAsyncIteration"⟩, ⟨PyData.keyHash P (S "StopIteration"), .str (S "StopIteration") 101, .type "StopIteration"⟩, ⟨PyData.keyHash P (S "SyntaxError"), .str (S "SyntaxError") 102, .type "SyntaxError"⟩, ⟨PyData.keyHash P (S "SystemError"), .str (S "SystemError") 103, .type "SystemError"⟩, ⟨PyData.keyHash P (S "TypeError"), .str (S "TypeError") 104, .type "TypeError"⟩, ⟨PyData.keyHash P (S "ValueError"), .str (S "ValueError") 105, .type "ValueError"⟩, ⟨PyData.keyHash P (S "Warning"), .str (S "Warning") 106, .type "Warning"⟩, ⟨PyData.keyHash P (S "FloatingPointError"), .str (S "FloatingPointError") 107, .type "FloatingPointError"⟩, ⟨PyData.keyHash P (S "OverflowError"), .str (S "OverflowError") 108, .type "OverflowError"⟩, ⟨PyData.keyHash P (S "ZeroDivisionError"), .str (S "ZeroDivisionError") 109, .type "ZeroDivisionError"⟩, ⟨PyData.keyHash P (S "BytesWarning"), .str (S "BytesWarning") 110, .type "BytesWarning"⟩, ⟨PyData.keyHash P (S "DeprecationWarning"), .str (S "DeprecationWarning") 111, .type "DeprecationWarning"⟩, ⟨PyData.keyHash P (S "EncodingWarning"), .str (S "EncodingWarning") 112, .type "EncodingWarning"⟩, ⟨PyData.keyHash P (S "FutureWarning"), .str (S "FutureWarning") 113, .type "FutureWarning"⟩, ⟨PyData.keyHash P (S "ImportWarning"), .str (S "ImportWarning") 114, .type "ImportWarning"⟩, ⟨PyData.keyHash P (S "PendingDeprecationWarning"), .str (S "PendingDeprecationWarning") 115, .type "PendingDeprecationWarning"⟩, ⟨PyData.keyHash P (S "ResourceWarning"), .str (S "ResourceWarning") 116, .type "ResourceWarning"⟩, ⟨PyData.keyHash P (S "RuntimeWarning"), .str (S "RuntimeWarning") 117, .type "RuntimeWarning"⟩, ⟨PyData.keyHash P (S "SyntaxWarning"), .str (S "SyntaxWarning") 118, .type "SyntaxWarning"⟩, ⟨PyData.keyHash P (S "UnicodeWarning"), .str (S "UnicodeWarning") 119, .type "UnicodeWarning"⟩, ⟨PyData.keyHash P (S "UserWarning"), .str (S "UserWarning") 120, .type "UserWarning"⟩, ⟨PyData.keyHash P (S "BlockingIOError"), .str (S "BlockingIOError") 121, .type "BlockingIOError"⟩, ⟨PyData.keyHash P (S "ChildProcessError"), .str (S "ChildProcessError") 122, .type "ChildProcessError"⟩, ⟨PyData.keyHash P (S "ConnectionError"), .str (S "ConnectionError") 123, .type "ConnectionError"⟩, ⟨PyData.keyHash P (S "FileExistsError"), .str (S "FileExistsError") 124, .type "FileExistsError"⟩, ⟨PyData.keyHash P (S "FileNotFoundError"), .str (S "FileNotFoundError") 125, .type "FileNotFoundError"⟩, ⟨PyData.keyHash P (S "InterruptedError"), .str (S "InterruptedError") 126, .type "InterruptedError"⟩, ⟨PyData.keyHash P (S "IsADirectoryError"), .str (S "IsADirectoryError") 127, .type "IsADirectoryError"⟩, ⟨PyData.keyHash P (S "NotADirectoryError"), .str (S "NotADirectoryError") 128, .type "NotADirectoryError"⟩, ⟨PyData.keyHash P (S "PermissionError"), .str (S "PermissionError") 129, .type "PermissionError"⟩, ⟨PyData.keyHash P (S "ProcessLookupError"), .str (S "ProcessLookupError") 130, .type "ProcessLookupError"⟩, ⟨PyData.keyHash P (S "TimeoutError"), .str (S "TimeoutError") 131, .type "TimeoutError"⟩, ⟨PyData.keyHash P (S "IndentationError"), .str (S "IndentationError") 132, .type "IndentationError"⟩, ⟨PyData.keyHash P (S "_IncompleteInputError"), .str (S "_IncompleteInputError") 133, .type "_IncompleteInputError"⟩, ⟨PyData.keyHash P (S "IndexError"), .str (S "IndexError") 134, .type "IndexError"⟩, ⟨PyData.keyHash P (S "KeyError"), .str (S "KeyError") 135, .type "KeyError"⟩, ⟨PyData.keyHash P (S "ModuleNotFoundError"), .str (S "ModuleNotFoundError") 136, .type "ModuleNotFoundError"⟩, ⟨PyData.keyHash P (S "NotImplementedError"), .str (S "NotImplementedError") 137, .type "NotImplementedError"⟩, ⟨PyData.keyHash P (S "PythonFinalizationError"), .str (S "PythonFinalizationError") 138, .type "PythonFinalizationError"⟩, ⟨PyData.keyHash P (S "RecursionError"), .str (S "RecursionError") 139, .type "RecursionError"⟩, ⟨PyData.keyHash P (S "UnboundLocalError"), .str (S "UnboundLocalError") 140, .type "UnboundLocalError"⟩, ⟨PyData.keyHash P (S "UnicodeError"), .str (S "UnicodeError") 141, .type "UnicodeError"⟩, ⟨PyData.keyHash P (S "BrokenPipeError"), .str (S "BrokenPipeError") 142, .type "BrokenPipeError"⟩, ⟨PyData.keyHash P (S "ConnectionAbortedError"), .str (S "ConnectionAbortedError") 143, .type "ConnectionAbortedError"⟩, ⟨PyData.keyHash P (S "ConnectionRefusedError"), .str (S "ConnectionRefusedError") 144, .type "ConnectionRefusedError"⟩, ⟨PyData.keyHash P (S "ConnectionResetError"), .str (S "ConnectionResetError") 145, .type "ConnectionResetError"⟩, ⟨PyData.keyHash P (S "TabError"), .str (S "TabError") 146, .type "TabError"⟩, ⟨PyData.keyHash P (S "UnicodeDecodeError"), .str (S "UnicodeDecodeError") 147, .type "UnicodeDecodeError"⟩, ⟨PyData.keyHash P (S "UnicodeEncodeError"), .str (S "UnicodeEncodeError") 148, .type "UnicodeEncodeError"⟩, ⟨PyData.keyHash P (S "UnicodeTranslateError"), .str (S "UnicodeTranslateError") 149, .type "UnicodeTranslateError"⟩, ⟨PyData.keyHash P (S "ExceptionGroup"), .str (S "ExceptionGroup") 150, .type "ExceptionGroup"⟩, ⟨PyData.keyHash P (S "EnvironmentError"), .str (S "EnvironmentError") 151, .type "OSError"⟩, ⟨PyData.keyHash P (S "IOError"), .str (S "IOError") 152, .type "OSError"⟩, ⟨PyData.keyHash P (S "open"), .str (S "open") 153, .builtin "open"⟩, ⟨PyData.keyHash P (S "quit"), .str (S "quit") 154, .builtin "builtins.quit#opaque"⟩, ⟨PyData.keyHash P (S "exit"), .str (S "exit") 155, .builtin "builtins.exit#opaque"⟩, ⟨PyData.keyHash P (S "copyright"), .str (S "copyright") 156, .builtin "builtins.copyright#opaque"⟩, ⟨PyData.keyHash P (S "credits"), .str (S "credits") 157, .builtin "builtins.credits#opaque"⟩, ⟨PyData.keyHash P (S "license"), .str (S "license") 158, .builtin "builtins.license#opaque"⟩, ⟨PyData.keyHash P (S "help"), .str (S "help") 159, .builtin "builtins.help#opaque"⟩]) 159, #[]⟩
noncomputable def o1I_1 (P : Params) : Obj := ⟨.type "dict", none, .dict (List.toArray [⟨PyData.keyHash P (S "builtins"), .str (S "builtins") 162, .ref 4⟩, ⟨PyData.keyHash P (S "__main__"), .str (S "__main__") 163, .ref 5⟩, ⟨PyData.keyHash P (S "_sre"), .str (S "_sre") 244, .ref 12⟩]) 3, #[]⟩
noncomputable def o1I_2 (P : Params) : Obj := ⟨.none, none, .dict (List.toArray [⟨PyData.keyHash P (S "im\x70ort.loaded._sre"), .str (S "im\x70ort.loaded._sre") 183, .bool true⟩, ⟨PyData.keyHash P (S "class._frozen_im\x70ortlib.BuiltinImporter"), .str (S "class._frozen_im\x70ortlib.BuiltinImporter") 185, .ref 14⟩, ⟨PyData.keyHash P (S "watched.im\x70ort"), .str (S "watched.im\x70ort") 206, .ref 18⟩, ⟨PyData.keyHash P (S "class._frozen_im\x70ortlib.ModuleSpec"), .str (S "class._frozen_im\x70ortlib.ModuleSpec") 216, .ref 22⟩, ⟨PyData.keyHash P (S "sys.modules.booked-epoch"), .str (S "sys.modules.booked-epoch") 245, .int 3 0⟩, ⟨PyData.keyHash P (S "im\x70ort.later-laid._sre"), .str (S "im\x70ort.later-laid._sre") 270, .bool true⟩, ⟨PyData.keyHash P (S "watched.library"), .str (S "watched.library") 272, .ref 27⟩, ⟨PyData.keyHash P (S "watched.library-objects"), .str (S "watched.library-objects") 0, .str (Str.mk #[12]) 0⟩, ⟨PyData.keyHash P (S "watched.library-deep._sre"), .str (S "watched.library-deep._sre") 273, .str (Str.mk #[4, 0, 0, 11, 4, 0, 0, 11, 4, 0, 0, 3, 4, 0, 0, 11, 8, 4, 100, 105, 99, 116, 2]) 0⟩]) 9, #[]⟩
noncomputable def o1I_3 (P : Params) : Obj := ⟨.type "dict", none, .dict (List.toArray [⟨PyData.keyHash P (S "__name__"), .str (S "__name__") 165, .str (S "__main__") 164⟩, ⟨PyData.keyHash P (S "__doc__"), .str (S "__doc__") 166, .none⟩, ⟨PyData.keyHash P (S "__package__"), .str (S "__package__") 167, .none⟩, ⟨PyData.keyHash P (S "__loader__"), .str (S "__loader__") 168, .builtin "__main__.__loader__#opaque"⟩, ⟨PyData.keyHash P (S "__spec__"), .str (S "__spec__") 169, .none⟩, ⟨PyData.keyHash P (S "__annotations__"), .str (S "__annotations__") 170, .ref 6⟩, ⟨PyData.keyHash P (S "__builtins__"), .str (S "__builtins__") 171, .ref 4⟩, ⟨PyData.keyHash P (S "__file__"), .str (S "__file__") 173, .str (S "/claim/cut.py") 172⟩, ⟨PyData.keyHash P (S "__cached__"), .str (S "__cached__") 174, .none⟩, ⟨PyData.keyHash P (S "_sre"), .str (S "_sre") 275, .ref 12⟩]) 10, #[]⟩
noncomputable def o1I_4 (P : Params) : Obj := ⟨.type "module", (some (0)), .plain, #[]⟩
noncomputable def o1I_5 (P : Params) : Obj := ⟨.type "module", (some (3)), .plain, #[]⟩
noncomputable def o1I_6 (P : Params) : Obj := ⟨.type "dict", none, .dict (List.toArray []) 0, #[]⟩
noncomputable def o1I_7 (P : Params) : Obj := ⟨.type "tuple", none, .seq #[] 0, #[]⟩
noncomputable def o1I_8 (P : Params) : Obj := ⟨.none, none, .fields #[], #[]⟩
noncomputable def o1I_9 (P : Params) : Obj := ⟨.type "code", none, .fields #[.str (S "<module>") 176, .str (S "<module>") 177, .str (S "/claim/cut.py") 178, .int 1 0, .int 0 0, .int 0 0, .int 0 0, .int 0 0, .ref 7, .bool false, .int 175 0, .ref 8, .none, .none, .none, .none, .int 179 0, .int 1 0, .str (S "/claim/cut.py") 180], #[]⟩
noncomputable def o1I_10 (P : Params) : Obj := ⟨.type "frame", none, .plain, #[(some (.ref 9)), (some (.ref 3)), (some (.ref 3)), none, (some (.str (S "__main__") 164)), none, (some (.ref 0))]⟩
noncomputable def o1I_11 (P : Params) : Obj := ⟨.type "dict", none, .dict (List.toArray [⟨PyData.keyHash P (S "__name__"), .str (S "__name__") 247, .str (S "_sre") 246⟩, ⟨PyData.keyHash P (S "__doc__"), .str (S "__doc__") 248, .none⟩, ⟨PyData.keyHash P (S "__package__"), .str (S "__package__") 250, .str (S "") 249⟩, ⟨PyData.keyHash P (S "__loader__"), .str (S "__loader__") 251, .ref 14⟩, ⟨PyData.keyHash P (S "__spec__"), .str (S "__spec__") 252, .ref 26⟩, ⟨PyData.keyHash P (S "compile"), .str (S "compile") 253, .builtin "_sre.compile"⟩, ⟨PyData.keyHash P (S "template"), .str (S "template") 254, .builtin "_sre.template"⟩, ⟨PyData.keyHash P (S "getcodesize"), .str (S "getcodesize") 255, .builtin "_sre.getcodesize"⟩, ⟨PyData.keyHash P (S "ascii_iscased"), .str (S "ascii_iscased") 256, .builtin "_sre.ascii_iscased"⟩, ⟨PyData.keyHash P (S "unicode_iscased"), .str (S "unicode_iscased") 257, .builtin "_sre.unicode_iscased"⟩, ⟨PyData.keyHash P (S "ascii_tolower"), .str (S "ascii_tolower") 258, .builtin "_sre.ascii_tolower"⟩, ⟨PyData.keyHash P (S "unicode_tolower"), .str (S "unicode_tolower") 259, .builtin "_sre.unicode_tolower"⟩, ⟨PyData.keyHash P (S "MAGIC"), .str (S "MAGIC") 261, .int 20230612 260⟩, ⟨PyData.keyHash P (S "CODESIZE"), .str (S "CODESIZE") 263, .int 4 262⟩, ⟨PyData.keyHash P (S "MAXREPEAT"), .str (S "MAXREPEAT") 265, .int 4294967295 264⟩, ⟨PyData.keyHash P (S "MAXGROUPS"), .str (S "MAXGROUPS") 267, .int 1073741823 266⟩, ⟨PyData.keyHash P (S "copyright"), .str (S "copyright") 269, .str (S " SRE 2.2.2 Copyright (c) 1997-2002 by Secret Labs AB ") 268⟩]) 17, #[]⟩
noncomputable def o1I_12 (P : Params) : Obj := ⟨.type "module", (some (11)), .plain, #[]⟩
noncomputable def o1I_13 (P : Params) : Obj := ⟨.type "dict", none, .dict (List.toArray [⟨PyData.keyHash P (S "__module__"), .str (S "__module__") 189, .str (S "_frozen_im\x70ortlib") 186⟩, ⟨PyData.keyHash P (S "__firstlineno__"), .str (S "__firstlineno__") 190, .int 971 187⟩, ⟨PyData.keyHash P (S "__doc__"), .str (S "__doc__") 191, .builtin "_frozen_im\x70ortlib.BuiltinImporter.__doc__:str#opaque"⟩, ⟨PyData.keyHash P (S "_ORIGIN"), .str (S "_ORIGIN") 192, .str (S "built-in") 188⟩, ⟨PyData.keyHash P (S "find_spec"), .str (S "find_spec") 193, .builtin "_frozen_im\x70ortlib.BuiltinImporter.find_spec#opaque"⟩, ⟨PyData.keyHash P (S "create_module"), .str (S "create_module") 194, .builtin "_frozen_im\x70ortlib.BuiltinImporter.create_module#opaque"⟩, ⟨PyData.keyHash P (S "exec_module"), .str (S "exec_module") 195, .builtin "_frozen_im\x70ortlib.BuiltinImporter.exec_module#opaque"⟩, ⟨PyData.keyHash P (S "get_code"), .str (S "get_code") 196, .builtin "_frozen_im\x70ortlib.BuiltinImporter.get_code#opaque"⟩, ⟨PyData.keyHash P (S "get_source"), .str (S "get_source") 197, .builtin "_frozen_im\x70ortlib.BuiltinImporter.get_source#opaque"⟩, ⟨PyData.keyHash P (S "is_package"), .str (S "is_package") 198, .builtin "_frozen_im\x70ortlib.BuiltinImporter.is_package#opaque"⟩, ⟨PyData.keyHash P (S "load_module"), .str (S "load_module") 199, .builtin "_frozen_im\x70ortlib.BuiltinImporter.load_module#opaque"⟩, ⟨PyData.keyHash P (S "__static_attributes__"), .str (S "__static_attributes__") 200, .ref 15⟩, ⟨PyData.keyHash P (S "__dict__"), .str (S "__dict__") 202, .ref 16⟩, ⟨PyData.keyHash P (S "__weakref__"), .str (S "__weakref__") 204, .ref 17⟩]) 14, #[]⟩
noncomputable def o1I_14 (P : Params) : Obj := ⟨.type "type", none, .cls { name := (S "BuiltinImporter"), bases := [.type "object"], mro := [.ref 14, .type "object"], ns := 13, qualname := (S "BuiltinImporter"), hasDict := true, slotNames := [], subclasses := [], abstract := false, collection := none, hasDel := false : ClassData }, #[]⟩
noncomputable def o1I_15 (P : Params) : Obj := ⟨.type "tuple", none, .seq #[] 0, #[]⟩
noncomputable def o1I_16 (P : Params) : Obj := ⟨.type "getset_descriptor", none, .fields #[.str (S "__dict__") 201, .ref 14, .builtin "function.__dict__", .builtin "function.__dict__#set"], #[]⟩
noncomputable def o1I_17 (P : Params) : Obj := ⟨.type "getset_descriptor", none, .fields #[.str (S "__weakref__") 203, .ref 14, .builtin "ExceptionGroup.__weakref__", .none], #[]⟩
noncomputable def o1I_18 (P : Params) : Obj := ⟨.none, none, .seq #[.int 13 0, .str (Str.mk #[6, 189, 10, 95, 95, 109, 111, 100, 117, 108, 101, 95, 95, 6, 186, 17, 95, 102, 114, 111, 122, 101, 110, 95, 105, 109, 112, 111, 114, 116, 108, 105, 98, 6, 190, 15, 95, 95, 102, 105, 114, 115, 116, 108, 105, 110, 101, 110, 111, 95, 95, 4, 187, 0, 971, 6, 191, 7, 95, 95, 100, 111, 99, 95, 95, 9, 52, 95, 102, 114, 111, 122, 101, 110, 95, 105, 109, 112, 111, 114, 116, 108, 105, 98, 46, 66, 117, 105, 108, 116, 105, 110, 73, 109, 112, 111, 114, 116, 101, 114, 46, 95, 95, 100, 111, 99, 95, 95, 58, 115, 116, 114, 35, 111, 112, 97, 113, 117, 101, 6, 192, 7, 95, 79, 82, 73, 71, 73, 78, 6, 188, 8, 98, 117, 105, 108, 116, 45, 105, 110, 6, 193, 9, 102, 105, 110, 100, 95, 115, 112, 101, 99, 9, 50, 95, 102, 114, 111, 122, 101, 110, 95, 105, 109, 112, 111, 114, 116, 108, 105, 98, 46, 66, 117, 105, 108, 116, 105, 110, 73, 109, 112, 111, 114, 116, 101, 114, 46, 102, 105, 110, 100, 95, 115, 112, 101, 99, 35, 111, 112, 97, 113, 117, 101, 6, 194, 13, 99, 114, 101, 97, 116, 101, 95, 109, 111, 100, 117, 108, 101, 9, 54, 95, 102, 114, 111, 122, 101, 110, 95, 105, 109, 112, 111, 114, 116, 108, 105, 98, 46, 66, 117, 105, 108, 116, 105, 110, 73, 109, 112, 111, 114, 116, 101, 114, 46, 99, 114, 101, 97, 116, 101, 95, 109, 111, 100, 117, 108, 101, 35, 111, 112, 97, 113, 117, 101, 6, 195, 11, 101, 120, 101, 99, 95, 109, 111, 100, 117, 108, 101, 9, 52, 95, 102, 114, 111, 122, 101, 110, 95, 105, 109, 112, 111, 114, 116, 108, 105, 98, 46, 66, 117, 105, 108, 116, 105, 110, 73, 109, 112, 111, 114, 116, 101, 114, 46, 101, 120, 101, 99, 95, 109, 111, 100, 117, 108, 101, 35, 111, 112, 97, 113, 117, 101, 6, 196, 8, 103, 101, 116, 95, 99, 111, 100, 101, 9, 49, 95, 102, 114, 111, 122, 101, 110, 95, 105, 109, 112, 111, 114, 116, 108, 105, 98, 46, 66, 117, 105, 108, 116, 105, 110, 73, 109, 112, 111, 114, 116, 101, 114, 46, 103, 101, 116, 95, 99, 111, 100, 101, 35, 111, 112, 97, 113, 117, 101, 6, 197, 10, 103, 101, 116, 95, 115, 111, 117, 114, 99, 101, 9, 51, 95, 102, 114, 111, 122, 101, 110, 95, 105, 109, 112, 111, 114, 116, 108, 105, 98, 46, 66, 117, 105, 108, 116, 105, 110, 73, 109, 112, 111, 114, 116, 101, 114, 46, 103, 101, 116, 95, 115, 111, 117, 114, 99, 101, 35, 111, 112, 97, 113, 117, 101, 6, 198, 10, 105, 115, 95, 112, 97, 99, 107, 97, 103, 101, 9, 51, 95, 102, 114, 111, 122, 101, 110, 95, 105, 109, 112, 111, 114, 116, 108, 105, 98, 46, 66, 117, 105, 108, 116, 105, 110, 73, 109, 112, 111, 114, 116, 101, 114, 46, 105, 115, 95, 112, 97, 99, 107, 97, 103, 101, 35, 111, 112, 97, 113, 117, 101, 6, 199, 11, 108, 111, 97, 100, 95, 109, 111, 100, 117, 108, 101, 9, 52, 95, 102, 114, 111, 122, 101, 110, 95, 105, 109, 112, 111, 114, 116, 108, 105, 98, 46, 66, 117, 105, 108, 116, 105, 110, 73, 109, 112, 111, 114, 116, 101, 114, 46, 108, 111, 97, 100, 95, 109, 111, 100, 117, 108, 101, 35, 111, 112, 97, 113, 117, 101, 6, 200, 21, 95, 95, 115, 116, 97, 116, 105, 99, 95, 97, 116, 116, 114, 105, 98, 117, 116, 101, 115, 95, 95, 4, 0, 0, 15, 6, 202, 8, 95, 95, 100, 105, 99, 116, 95, 95, 4, 0, 0, 16, 6, 204, 11, 95, 95, 119, 101, 97, 107, 114, 101, 102, 95, 95, 4, 0, 0, 17]) 0, .bool true, .bool true, .str (S "") 205, .int 21 0, .str (Str.mk #[6, 227, 10, 95, 95, 109, 111, 100, 117, 108, 101, 95, 95, 6, 217, 17, 95, 102, 114, 111, 122, 101, 110, 95, 105, 109, 112, 111, 114, 116, 108, 105, 98, 6, 228, 15, 95, 95, 102, 105, 114, 115, 116, 108, 105, 110, 101, 110, 111, 95, 95, 4, 218, 0, 562, 6, 229, 7, 95, 95, 100, 111, 99, 95, 95, 9, 47, 95, 102, 114, 111, 122, 101, 110, 95, 105, 109, 112, 111, 114, 116, 108, 105, 98, 46, 77, 111, 100, 117, 108, 101, 83, 112, 101, 99, 46, 95, 95, 100, 111, 99, 95, 95, 58, 115, 116, 114, 35, 111, 112, 97, 113, 117, 101, 6, 230, 8, 95, 95, 105, 110, 105, 116, 95, 95, 9, 44, 95, 102, 114, 111, 122, 101, 110, 95, 105, 109, 112, 111, 114, 116, 108, 105, 98, 46, 77, 111, 100, 117, 108, 101, 83, 112, 101, 99, 46, 95, 95, 105, 110, 105, 116, 95, 95, 35, 111, 112, 97, 113, 117, 101, 6, 231, 8, 95, 95, 114, 101, 112, 114, 95, 95, 9, 44, 95, 102, 114, 111, 122, 101, 110, 95, 105, 109, 112, 111, 114, 116, 108, 105, 98, 46, 77, 111, 100, 117, 108, 101, 83, 112, 101, 99, 46, 95, 95, 114, 101, 112, 114, 95, 95, 35, 111, 112, 97, 113, 117, 101, 6, 232, 6, 95, 95, 101, 113, 95, 95, 9, 42, 95, 102, 114, 111, 122, 101, 110, 95, 105, 109, 112, 111, 114, 116, 108, 105, 98, 46, 77, 111, 100, 117, 108, 101, 83, 112, 101, 99, 46, 95, 95, 101, 113, 95, 95, 35, 111, 112, 97, 113, 117, 101, 6, 233, 6, 99, 97, 99, 104, 101, 100, 9, 42, 95, 102, 114, 111, 122, 101, 110, 95, 105, 109, 112, 111, 114, 116, 108, 105, 98, 46, 77, 111, 100, 117, 108, 101, 83, 112, 101, 99, 46, 99, 97, 99, 104, 101, 100, 35, 111, 112, 97, 113, 117, 101, 6, 234, 6, 112, 97, 114, 101, 110, 116, 9, 42, 95, 102, 114, 111, 122, 101, 110, 95, 105, 109, 112, 111, 114, 116, 108, 105, 98, 46, 77, 111, 100, 117, 108, 101, 83, 112, 101, 99, 46, 112, 97, 114, 101, 110, 116, 35, 111, 112, 97, 113, 117, 101, 6, 235, 12, 104, 97, 115, 95, 108, 111, 99, 97, 116, 105, 111, 110, 9, 48, 95, 102, 114, 111, 122, 101, 110, 95, 105, 109, 112, 111, 114, 116, 108, 105, 98, 46, 77, 111, 100, 117, 108, 101, 83, 112, 101, 99, 46, 104, 97, 115, 95, 108, 111, 99, 97, 116, 105, 111, 110, 35, 111, 112, 97, 113, 117, 101, 6, 236, 21, 95, 95, 115, 116, 97, 116, 105, 99, 95, 97, 116, 116, 114, 105, 98, 117, 116, 101, 115, 95, 95, 4, 0, 0, 23, 6, 238, 8, 95, 95, 100, 105, 99, 116, 95, 95, 4, 0, 0, 24, 6, 240, 11, 95, 95, 119, 101, 97, 107, 114, 101, 102, 95, 95, 4, 0, 0, 25, 6, 241, 8, 95, 95, 104, 97, 115, 104, 95, 95, 0]) 0, .bool true, .bool true, .str (S "") 242] 1, #[]⟩
noncomputable def o1I_19 (P : Params) : Obj := ⟨.type "list", none, .seq #[] 0, #[]⟩
noncomputable def o1I_20 (P : Params) : Obj := ⟨.type "dict", none, .dict (List.toArray [⟨PyData.keyHash P (S "name"), .str (S "name") 208, .str (S "_sre") 207⟩, ⟨PyData.keyHash P (S "loader"), .str (S "loader") 209, .ref 14⟩, ⟨PyData.keyHash P (S "origin"), .str (S "origin") 210, .str (S "built-in") 184⟩, ⟨PyData.keyHash P (S "loader_state"), .str (S "loader_state") 211, .none⟩, ⟨PyData.keyHash P (S "submodule_search_locations"), .str (S "submodule_search_locations") 212, .none⟩, ⟨PyData.keyHash P (S "_uninitialized_submodules"), .str (S "_uninitialized_submodules") 213, .ref 19⟩, ⟨PyData.keyHash P (S "_set_fileattr"), .str (S "_set_fileattr") 214, .bool false⟩, ⟨PyData.keyHash P (S "_cached"), .str (S "_cached") 215, .none⟩, ⟨PyData.keyHash P (S "_initializing"), .str (S "_initializing") 243, .bool false⟩]) 9, #[]⟩
noncomputable def o1I_21 (P : Params) : Obj := ⟨.type "dict", none, .dict (List.toArray [⟨PyData.keyHash P (S "__module__"), .str (S "__module__") 227, .str (S "_frozen_im\x70ortlib") 217⟩, ⟨PyData.keyHash P (S "__firstlineno__"), .str (S "__firstlineno__") 228, .int 562 218⟩, ⟨PyData.keyHash P (S "__doc__"), .str (S "__doc__") 229, .builtin "_frozen_im\x70ortlib.ModuleSpec.__doc__:str#opaque"⟩, ⟨PyData.keyHash P (S "__init__"), .str (S "__init__") 230, .builtin "_frozen_im\x70ortlib.ModuleSpec.__init__#opaque"⟩, ⟨PyData.keyHash P (S "__repr__"), .str (S "__repr__") 231, .builtin "_frozen_im\x70ortlib.ModuleSpec.__repr__#opaque"⟩, ⟨PyData.keyHash P (S "__eq__"), .str (S "__eq__") 232, .builtin "_frozen_im\x70ortlib.ModuleSpec.__eq__#opaque"⟩, ⟨PyData.keyHash P (S "cached"), .str (S "cached") 233, .builtin "_frozen_im\x70ortlib.ModuleSpec.cached#opaque"⟩, ⟨PyData.keyHash P (S "parent"), .str (S "parent") 234, .builtin "_frozen_im\x70ortlib.ModuleSpec.parent#opaque"⟩, ⟨PyData.keyHash P (S "has_location"), .str (S "has_location") 235, .builtin "_frozen_im\x70ortlib.ModuleSpec.has_location#opaque"⟩, ⟨PyData.keyHash P (S "__static_attributes__"), .str (S "__static_attributes__") 236, .ref 23⟩, ⟨PyData.keyHash P (S "__dict__"), .str (S "__dict__") 238, .ref 24⟩, ⟨PyData.keyHash P (S "__weakref__"), .str (S "__weakref__") 240, .ref 25⟩, ⟨PyData.keyHash P (S "__hash__"), .str (S "__hash__") 241, .none⟩]) 13, #[]⟩
noncomputable def o1I_22 (P : Params) : Obj := ⟨.type "type", none, .cls { name := (S "ModuleSpec"), bases := [.type "object"], mro := [.ref 22, .type "object"], ns := 21, qualname := (S "ModuleSpec"), hasDict := true, slotNames := [], subclasses := [], abstract := false, collection := none, hasDel := false : ClassData }, #[]⟩
noncomputable def o1I_23 (P : Params) : Obj := ⟨.type "tuple", none, .seq #[.str (S "_cached") 219, .str (S "_set_fileattr") 220, .str (S "_uninitialized_submodules") 221, .str (S "loader") 222, .str (S "loader_state") 223, .str (S "name") 224, .str (S "origin") 225, .str (S "submodule_search_locations") 226] 0, #[]⟩
noncomputable def o1I_24 (P : Params) : Obj := ⟨.type "getset_descriptor", none, .fields #[.str (S "__dict__") 237, .ref 22, .builtin "function.__dict__", .builtin "function.__dict__#set"], #[]⟩
noncomputable def o1I_25 (P : Params) : Obj := ⟨.type "getset_descriptor", none, .fields #[.str (S "__weakref__") 239, .ref 22, .builtin "ExceptionGroup.__weakref__", .none], #[]⟩
noncomputable def o1I_26 (P : Params) : Obj := ⟨.ref 22, (some (20)), .plain, #[]⟩
noncomputable def o1I_27 (P : Params) : Obj := ⟨.none, none, .seq #[.int 11 0, .str (Str.mk #[6, 247, 8, 95, 95, 110, 97, 109, 101, 95, 95, 6, 246, 4, 95, 115, 114, 101, 6, 248, 7, 95, 95, 100, 111, 99, 95, 95, 0, 6, 250, 11, 95, 95, 112, 97, 99, 107, 97, 103, 101, 95, 95, 6, 249, 0, 6, 251, 10, 95, 95, 108, 111, 97, 100, 101, 114, 95, 95, 4, 0, 0, 14, 6, 252, 8, 95, 95, 115, 112, 101, 99, 95, 95, 4, 0, 0, 26, 6, 253, 7, 99, 111, 109, 112, 105, 108, 101, 9, 12, 95, 115, 114, 101, 46, 99, 111, 109, 112, 105, 108, 101, 6, 254, 8, 116, 101, 109, 112, 108, 97, 116, 101, 9, 13, 95, 115, 114, 101, 46, 116, 101, 109, 112, 108, 97, 116, 101, 6, 255, 11, 103, 101, 116, 99, 111, 100, 101, 115, 105, 122, 101, 9, 16, 95, 115, 114, 101, 46, 103, 101, 116, 99, 111, 100, 101, 115, 105, 122, 101, 6, 256, 13, 97, 115, 99, 105, 105, 95, 105, 115, 99, 97, 115, 101, 100, 9, 18, 95, 115, 114, 101, 46, 97, 115, 99, 105, 105, 95, 105, 115, 99, 97, 115, 101, 100, 6, 257, 15, 117, 110, 105, 99, 111, 100, 101, 95, 105, 115, 99, 97, 115, 101, 100, 9, 20, 95, 115, 114, 101, 46, 117, 110, 105, 99, 111, 100, 101, 95, 105, 115, 99, 97, 115, 101, 100, 6, 258, 13, 97, 115, 99, 105, 105, 95, 116, 111, 108, 111, 119, 101, 114, 9, 18, 95, 115, 114, 101, 46, 97, 115, 99, 105, 105, 95, 116, 111, 108, 111, 119, 101, 114, 6, 259, 15, 117, 110, 105, 99, 111, 100, 101, 95, 116, 111, 108, 111, 119, 101, 114, 9, 20, 95, 115, 114, 101, 46, 117, 110, 105, 99, 111, 100, 101, 95, 116, 111, 108, 111, 119, 101, 114, 6, 261, 5, 77, 65, 71, 73, 67, 4, 260, 0, 20230612, 6, 263, 8, 67, 79, 68, 69, 83, 73, 90, 69, 4, 262, 0, 4, 6, 265, 9, 77, 65, 88, 82, 69, 80, 69, 65, 84, 4, 264, 0, 4294967295, 6, 267, 9, 77, 65, 88, 71, 82, 79, 85, 80, 83, 4, 266, 0, 1073741823, 6, 269, 9, 99, 111, 112, 121, 114, 105, 103, 104, 116, 6, 268, 53, 32, 83, 82, 69, 32, 50, 46, 50, 46, 50, 32, 67, 111, 112, 121, 114, 105, 103, 104, 116, 32, 40, 99, 41, 32, 49, 57, 57, 55, 45, 50, 48, 48, 50, 32, 98, 121, 32, 83, 101, 99, 114, 101, 116, 32, 76, 97, 98, 115, 32, 65, 66, 32]) 0, .bool true, .bool false, .str (S "_sre") 271] 0, #[]⟩
noncomputable def tr1I (P : Params) : BT := (.node (o1I_0 P) (.node (o1I_1 P) (.node (o1I_3 P) (.node (o1I_7 P) (.node (o1I_15 P) .nil .nil) (.node (o1I_23 P) .nil .nil)) (.node (o1I_11 P) (.node (o1I_19 P) .nil .nil) (.node (o1I_27 P) .nil .nil))) (.node (o1I_5 P) (.node (o1I_9 P) (.node (o1I_17 P) .nil .nil) (.node (o1I_25 P) .nil .nil)) (.node (o1I_13 P) (.node (o1I_21 P) .nil .nil) .nil))) (.node (o1I_2 P) (.node (o1I_4 P) (.node (o1I_8 P) (.node (o1I_16 P) .nil .nil) (.node (o1I_24 P) .nil .nil)) (.node (o1I_12 P) (.node (o1I_20 P) .nil .nil) .nil)) (.node (o1I_6 P) (.node (o1I_10 P) (.node (o1I_18 P) .nil .nil) (.node (o1I_26 P) .nil .nil)) (.node (o1I_14 P) (.node (o1I_22 P) .nil .nil) .nil))))
abbrev n1I : Nat := 28
abbrev t1I : Nat := 276
noncomputable def o10_11 (P : Params) : Obj := ⟨.type "dict", none, .dict (List.toArray [⟨PyData.keyHash P (S "__name__"), .str (S "__name__") 247, .str (S "_sre") 246⟩, ⟨PyData.keyHash P (S "__doc__"), .str (S "__doc__") 248, .none⟩, ⟨PyData.keyHash P (S "__package__"), .str (S "__package__") 250, .str (S "") 249⟩, ⟨PyData.keyHash P (S "__loader__"), .str (S "__loader__") 251, .builtin "off-the-table:_sre.__loader__:shared#opaque"⟩, ⟨PyData.keyHash P (S "__spec__"), .str (S "__spec__") 252, .builtin "off-the-table:_sre.__spec__:shared#opaque"⟩, ⟨PyData.keyHash P (S "compile"), .str (S "compile") 253, .builtin "_sre.compile"⟩, ⟨PyData.keyHash P (S "template"), .str (S "template") 254, .builtin "off-the-table:_sre.template:shared#opaque"⟩, ⟨PyData.keyHash P (S "getcodesize"), .str (S "getcodesize") 255, .builtin "off-the-table:_sre.getcodesize:shared#opaque"⟩, ⟨PyData.keyHash P (S "ascii_iscased"), .str (S "ascii_iscased") 256, .builtin "off-the-table:_sre.ascii_iscased:shared#opaque"⟩, ⟨PyData.keyHash P (S "unicode_iscased"), .str (S "unicode_iscased") 257, .builtin "off-the-table:_sre.unicode_iscased:shared#opaque"⟩, ⟨PyData.keyHash P (S "ascii_tolower"), .str (S "ascii_tolower") 258, .builtin "off-the-table:_sre.ascii_tolower:shared#opaque"⟩, ⟨PyData.keyHash P (S "unicode_tolower"), .str (S "unicode_tolower") 259, .builtin "off-the-table:_sre.unicode_tolower:shared#opaque"⟩, ⟨PyData.keyHash P (S "MAGIC"), .str (S "MAGIC") 261, .int 20230612 260⟩, ⟨PyData.keyHash P (S "CODESIZE"), .str (S "CODESIZE") 263, .int 4 262⟩, ⟨PyData.keyHash P (S "MAXREPEAT"), .str (S "MAXREPEAT") 265, .int 4294967295 264⟩, ⟨PyData.keyHash P (S "MAXGROUPS"), .str (S "MAXGROUPS") 267, .int 1073741823 266⟩, ⟨PyData.keyHash P (S "copyright"), .str (S "copyright") 269, .str (S " SRE 2.2.2 Copyright (c) 1997-2002 by Secret Labs AB ") 268⟩]) 17, #[]⟩
noncomputable def tr10 (P : Params) : BT := (.node (o1I_0 P) (.node (o1I_1 P) (.node (o1I_3 P) (.node (o1I_7 P) (.node (o1I_15 P) .nil .nil) (.node (o1I_23 P) .nil .nil)) (.node (o10_11 P) (.node (o1I_19 P) .nil .nil) (.node (o1I_27 P) .nil .nil))) (.node (o1I_5 P) (.node (o1I_9 P) (.node (o1I_17 P) .nil .nil) (.node (o1I_25 P) .nil .nil)) (.node (o1I_13 P) (.node (o1I_21 P) .nil .nil) .nil))) (.node (o1I_2 P) (.node (o1I_4 P) (.node (o1I_8 P) (.node (o1I_16 P) .nil .nil) (.node (o1I_24 P) .nil .nil)) (.node (o1I_12 P) (.node (o1I_20 P) .nil .nil) .nil)) (.node (o1I_6 P) (.node (o1I_10 P) (.node (o1I_18 P) .nil .nil) (.node (o1I_26 P) .nil .nil)) (.node (o1I_14 P) (.node (o1I_22 P) .nil .nil) .nil))))
abbrev n10 : Nat := 28
abbrev t10 : Nat := 276
noncomputable def o11_28 (P : Params) : Obj := ⟨.type "tuple", none, .seq #[] 0, #[]⟩
noncomputable def o11_29 (P : Params) : Obj := ⟨.none, none, .fields #[], #[]⟩
noncomputable def o11_30 (P : Params) : Obj := ⟨.type "code", none, .fields #[.str (S "<module>") 277, .str (S "<module>") 278, .str (S "/claim/cut.py") 279, .int 1 0, .int 0 0, .int 0 0, .int 0 0, .int 0 0, .ref 28, .bool false, .int 276 0, .ref 29, .none, .none, .none, .none, .int 280 0, .int 1 0, .str (S "/claim/cut.py") 281], #[]⟩
noncomputable def o11_31 (P : Params) : Obj := ⟨.type "frame", none, .plain, #[(some (.ref 30)), (some (.ref 3)), (some (.ref 3)), none, (some (.str (S "__main__") 164)), none, (some (.ref 0))]⟩
noncomputable def tr11 (P : Params) : BT := (.node (o1I_0 P) (.node (o1I_1 P) (.node (o1I_3 P) (.node (o1I_7 P) (.node (o1I_15 P) (.node (o11_31 P) .nil .nil) .nil) (.node (o1I_23 P) .nil .nil)) (.node (o10_11 P) (.node (o1I_19 P) .nil .nil) (.node (o1I_27 P) .nil .nil))) (.node (o1I_5 P) (.node (o1I_9 P) (.node (o1I_17 P) .nil .nil) (.node (o1I_25 P) .nil .nil)) (.node (o1I_13 P) (.node (o1I_21 P) .nil .nil) (.node (o11_29 P) .nil .nil)))) (.node (o1I_2 P) (.node (o1I_4 P) (.node (o1I_8 P) (.node (o1I_16 P) .nil .nil) (.node (o1I_24 P) .nil .nil)) (.node (o1I_12 P) (.node (o1I_20 P) .nil .nil) (.node (o11_28 P) .nil .nil))) (.node (o1I_6 P) (.node (o1I_10 P) (.node (o1I_18 P) .nil .nil) (.node (o1I_26 P) .nil .nil)) (.node (o1I_14 P) (.node (o1I_22 P) .nil .nil) (.node (o11_30 P) .nil .nil)))))
abbrev n11 : Nat := 32
abbrev t11 : Nat := 282
noncomputable def o1K_3 (P : Params) : Obj := ⟨.type "dict", none, .dict (List.toArray [⟨PyData.keyHash P (S "__name__"), .str (S "__name__") 165, .str (S "cpy313.stringprep") 612⟩, ⟨PyData.keyHash P (S "__doc__"), .str (S "__doc__") 166, .none⟩, ⟨PyData.keyHash P (S "__package__"), .str (S "__package__") 167, .none⟩, ⟨PyData.keyHash P (S "__loader__"), .str (S "__loader__") 168, .builtin "__main__.__loader__#opaque"⟩, ⟨PyData.keyHash P (S "__spec__"), .str (S "__spec__") 169, .none⟩, ⟨PyData.keyHash P (S "__annotations__"), .str (S "__annotations__") 170, .ref 6⟩, ⟨PyData.keyHash P (S "__builtins__"), .str (S "__builtins__") 171, .ref 4⟩, ⟨PyData.keyHash P (S "__file__"), .str (S "__file__") 173, .str (S "/claim/cut.py") 172⟩, ⟨PyData.keyHash P (S "__cached__"), .str (S "__cached__") 174, .none⟩, ⟨PyData.keyHash P (S "_sre"), .str (S "_sre") 275, .ref 12⟩, ⟨PyData.keyHash P (S "_wall"), .str (S "_wall") 288, .ref 38⟩, ⟨PyData.keyHash P (S "tspecials"), .str (S "tspecials") 324, .ref 43⟩, ⟨PyData.keyHash P (S "_name_disallowed_re"), .str (S "_name_disallowed_re") 350, .ref 48⟩, ⟨PyData.keyHash P (S "_value_disallowed_re"), .str (S "_value_disallowed_re") 384, .ref 53⟩, ⟨PyData.keyHash P (S "_formatparam"), .str (S "_formatparam") 394, .ref 61⟩, ⟨PyData.keyHash P (S "Headers"), .str (S "Headers") 551, .ref 182⟩, ⟨PyData.keyHash P (S "_netrclex"), .str (S "_netrclex") 611, .ref 224⟩]) 17, #[]⟩
noncomputable def o1K_29 (P : Params) : Obj := ⟨.none, none, .fields #[.int 2 0, .int 0 0, .ref 37, .int 9 0, .int 0 0, .ref 60, .int 18 0, .int 0 0, .ref 67, .int 101 0, .int 0 0, .ref 192], #[]⟩
noncomputable def o1K_32 (P : Params) : Obj := ⟨.type "tuple", none, .seq #[] 0, #[]⟩
noncomputable def o1K_33 (P : Params) : Obj := ⟨.none, none, .fields #[], #[]⟩
noncomputable def o1K_34 (P : Params) : Obj := ⟨.type "tuple", none, .seq #[.str (S "k") 285] 0, #[]⟩
noncomputable def o1K_35 (P : Params) : Obj := ⟨.type "tuple", none, .seq #[] 0, #[]⟩
noncomputable def o1K_36 (P : Params) : Obj := ⟨.none, none, .func { name := (S "_wall"), qualname := (S "_wall"), params := (dP [1]), body := .stmts (dB [1]), scope := (dS [1]), globals := 0, closure := [], defaults := .none, kwdefaults := .none, doc := .none, pyModule := .none, annotations := none, code := .none, closureTuple := .none, builtins := 0 : FuncData }, #[]⟩
noncomputable def o1K_37 (P : Params) : Obj := ⟨.type "code", none, .fields #[.str (S "_wall") 282, .str (S "_wall") 283, .str (S "/claim/cut.py") 284, .int 2 0, .int 1 0, .int 0 0, .int 0 0, .int 3 0, .ref 32, .bool true, .int 276 0, .ref 33, .none, .ref 34, .ref 35, .ref 36, .int 286 0, .int 2 0, .str (S "/claim/cut.py") 287], #[]⟩
noncomputable def o1K_38 (P : Params) : Obj := ⟨.type "function", none, .func { name := (S "_wall"), qualname := (S "_wall"), params := (dP [1]), body := .stmts (dB [1]), scope := (dS [1]), globals := 3, closure := [], defaults := .none, kwdefaults := .none, doc := .none, pyModule := .str (S "__main__") 164, annotations := none, code := .ref 37, closureTuple := .none, builtins := 0 : FuncData }, #[]⟩
noncomputable def o1K_39 (P : Params) : Obj := ⟨.type "list", none, .seq #[.int 14 294, .int 14 295, .int 4 296, .int 1 297, .int 1 298, .int 9 299, .int 0 300, .int 4227896069 301, .int 939524097 302, .int 0 303, .int 0 304, .int 0 305, .int 0 306, .int 0 307, .int 0 308, .int 13 309, .int 11 310, .int 9 311, .int 0 312, .int 4227896069 313, .int 939524097 314, .int 0 315, .int 0 316, .int 0 317, .int 0 318, .int 0 319, .int 0 320, .int 1 321] 0, #[]⟩
noncomputable def o1K_40 (P : Params) : Obj := ⟨.type "dict", none, .dict (List.toArray []) 0, #[]⟩
noncomputable def o1K_41 (P : Params) : Obj := ⟨.type "tuple", none, .seq #[.none] 0, #[]⟩
noncomputable def o1K_42 (P : Params) : Obj := ⟨.type "tuple", none, .seq #[.int 14 0, .int 14 0, .int 4 0, .int 1 0, .int 1 0, .int 9 0, .int 0 0, .int 4227896069 0, .int 939524097 0, .int 0 0, .int 0 0, .int 0 0, .int 0 0, .int 0 0, .int 0 0, .int 13 0, .int 11 0, .int 9 0, .int 0 0, .int 4227896069 0, .int 939524097 0, .int 0 0, .int 0 0, .int 0 0, .int 0 0, .int 0 0, .int 0 0, .int 1 0] 0, #[]⟩
noncomputable def o1K_43 (P : Params) : Obj := ⟨.type "re.Pattern", none, .fields #[.str (S "[ \\(\\)<>@,;:\\\\\"/\\[\\]\\?=]") 292, .int 32 323, .int 0 0, .none, .none, .ref 42, .int 0 0], #[]⟩
noncomputable def o1K_44 (P : Params) : Obj := ⟨.type "list", none, .seq #[.int 14 328, .int 10 329, .int 4 330, .int 1 331, .int 1 332, .int 22 333, .int 0 334, .int 31 335, .int 16 336, .int 127 337, .int 0 338, .int 13 339, .int 7 340, .int 22 341, .int 0 342, .int 31 343, .int 16 344, .int 127 345, .int 0 346, .int 1 347] 0, #[]⟩
noncomputable def o1K_45 (P : Params) : Obj := ⟨.type "dict", none, .dict (List.toArray []) 0, #[]⟩
noncomputable def o1K_46 (P : Params) : Obj := ⟨.type "tuple", none, .seq #[.none] 0, #[]⟩
noncomputable def o1K_47 (P : Params) : Obj := ⟨.type "tuple", none, .seq #[.int 14 0, .int 10 0, .int 4 0, .int 1 0, .int 1 0, .int 22 0, .int 0 0, .int 31 0, .int 16 0, .int 127 0, .int 0 0, .int 13 0, .int 7 0, .int 22 0, .int 0 0, .int 31 0, .int 16 0, .int 127 0, .int 0 0, .int 1 0] 0, #[]⟩
noncomputable def o1K_48 (P : Params) : Obj := ⟨.type "re.Pattern", none, .fields #[.str (S "[\\x00-\\x1F\\x7F]") 326, .int 32 349, .int 0 0, .none, .none, .ref 47, .int 0 0], #[]⟩
noncomputable def o1K_49 (P : Params) : Obj := ⟨.type "list", none, .seq #[.int 14 354, .int 14 355, .int 4 356, .int 1 357, .int 1 358, .int 9 359, .int 4294966783 360, .int 0 361, .int 0 362, .int 2147483648 363, .int 0 364, .int 0 365, .int 0 366, .int 0 367, .int 0 368, .int 13 369, .int 11 370, .int 9 371, .int 4294966783 372, .int 0 373, .int 0 374, .int 2147483648 375, .int 0 376, .int 0 377, .int 0 378, .int 0 379, .int 0 380, .int 1 381] 0, #[]⟩
noncomputable def o1K_50 (P : Params) : Obj := ⟨.type "dict", none, .dict (List.toArray []) 0, #[]⟩
noncomputable def o1K_51 (P : Params) : Obj := ⟨.type "tuple", none, .seq #[.none] 0, #[]⟩
noncomputable def o1K_52 (P : Params) : Obj := ⟨.type "tuple", none, .seq #[.int 14 0, .int 14 0, .int 4 0, .int 1 0, .int 1 0, .int 9 0, .int 4294966783 0, .int 0 0, .int 0 0, .int 2147483648 0, .int 0 0, .int 0 0, .int 0 0, .int 0 0, .int 0 0, .int 13 0, .int 11 0, .int 9 0, .int 4294966783 0, .int 0 0, .int 0 0, .int 2147483648 0, .int 0 0, .int 0 0, .int 0 0, .int 0 0, .int 0 0, .int 1 0] 0, #[]⟩
noncomputable def o1K_53 (P : Params) : Obj := ⟨.type "re.Pattern", none, .fields #[.str (S "[\\x00-\\x08\\x0A-\\x1F\\x7F]") 352, .int 32 383, .int 0 0, .none, .none, .ref 52, .int 0 0], #[]⟩
noncomputable def o1K_54 (P : Params) : Obj := ⟨.type "tuple", none, .seq #[.none, .int 1 385] 0, #[]⟩
noncomputable def o1K_55 (P : Params) : Obj := ⟨.type "tuple", none, .seq #[] 0, #[]⟩
noncomputable def o1K_56 (P : Params) : Obj := ⟨.none, none, .fields #[], #[]⟩
noncomputable def o1K_57 (P : Params) : Obj := ⟨.type "tuple", none, .seq #[.str (S "param") 389, .str (S "value") 390, .str (S "quote") 391] 0, #[]⟩
noncomputable def o1K_58 (P : Params) : Obj := ⟨.type "tuple", none, .seq #[] 0, #[]⟩
noncomputable def o1K_59 (P : Params) : Obj := ⟨.none, none, .func { name := (S "_formatparam"), qualname := (S "_formatparam"), params := (dP [6]), body := .stmts (dB [6]), scope := (dS [6]), globals := 0, closure := [], defaults := .none, kwdefaults := .none, doc := .none, pyModule := .none, annotations := none, code := .none, closureTuple := .none, builtins := 0 : FuncData }, #[]⟩
noncomputable def o1K_60 (P : Params) : Obj := ⟨.type "code", none, .fields #[.str (S "_formatparam") 386, .str (S "_formatparam") 387, .str (S "/claim/cut.py") 388, .int 9 0, .int 3 0, .int 0 0, .int 0 0, .int 3 0, .ref 55, .bool true, .int 276 0, .ref 56, .none, .ref 57, .ref 58, .ref 59, .int 392 0, .int 9 0, .str (S "/claim/cut.py") 393], #[]⟩
noncomputable def o1K_61 (P : Params) : Obj := ⟨.type "function", none, .func { name := (S "_formatparam"), qualname := (S "_formatparam"), params := (dP [6]), body := .stmts (dB [6]), scope := (dS [6]), globals := 3, closure := [], defaults := .ref 54, kwdefaults := .none, doc := .none, pyModule := .str (S "cpy313.wsgiref.headers") 289, annotations := none, code := .ref 60, closureTuple := .none, builtins := 0 : FuncData }, #[]⟩
noncomputable def o1K_62 (P : Params) : Obj := ⟨.type "tuple", none, .seq #[] 0, #[]⟩
noncomputable def o1K_63 (P : Params) : Obj := ⟨.type "builtin_function_or_method", none, .fields #[.builtin "type.__prepare__", .type "type"], #[]⟩
noncomputable def o1K_64 (P : Params) : Obj := ⟨.type "dict", none, .dict (List.toArray [⟨PyData.keyHash P (S "__module__"), .str (S "__module__") 402, .str (S "cpy313.wsgiref.headers") 289⟩, ⟨PyData.keyHash P (S "__qualname__"), .str (S "__qualname__") 404, .str (S "Headers") 403⟩, ⟨PyData.keyHash P (S "__firstlineno__"), .str (S "__firstlineno__") 406, .int 18 405⟩, ⟨PyData.keyHash P (S "__init__"), .str (S "__init__") 416, .ref 76⟩, ⟨PyData.keyHash P (S "_convert_string_type"), .str (S "_convert_string_type") 426, .ref 83⟩, ⟨PyData.keyHash P (S "__len__"), .str (S "__len__") 433, .ref 90⟩, ⟨PyData.keyHash P (S "__setitem__"), .str (S "__setitem__") 442, .ref 97⟩, ⟨PyData.keyHash P (S "__delitem__"), .str (S "__delitem__") 448, .ref 102⟩, ⟨PyData.keyHash P (S "__getitem__"), .str (S "__getitem__") 456, .ref 109⟩, ⟨PyData.keyHash P (S "__contains__"), .str (S "__contains__") 464, .ref 116⟩, ⟨PyData.keyHash P (S "get_all"), .str (S "get_all") 470, .ref 121⟩, ⟨PyData.keyHash P (S "get"), .str (S "get") 481, .ref 129⟩, ⟨PyData.keyHash P (S "keys"), .str (S "keys") 487, .ref 134⟩, ⟨PyData.keyHash P (S "values"), .str (S "values") 493, .ref 139⟩, ⟨PyData.keyHash P (S "items"), .str (S "items") 500, .ref 146⟩, ⟨PyData.keyHash P (S "__repr__"), .str (S "__repr__") 507, .ref 153⟩, ⟨PyData.keyHash P (S "__str__"), .str (S "__str__") 513, .ref 158⟩, ⟨PyData.keyHash P (S "__bytes__"), .str (S "__bytes__") 520, .ref 165⟩, ⟨PyData.keyHash P (S "setdefault"), .str (S "setdefault") 529, .ref 172⟩, ⟨PyData.keyHash P (S "add_header"), .str (S "add_header") 542, .ref 179⟩, ⟨PyData.keyHash P (S "__static_attributes__"), .str (S "__static_attributes__") 544, .ref 180⟩]) 21, #[]⟩
noncomputable def o1K_65 (P : Params) : Obj := ⟨.type "tuple", none, .seq #[] 0, #[]⟩
noncomputable def o1K_66 (P : Params) : Obj := ⟨.none, none, .fields #[.int 20 0, .int 4 0, .ref 75, .int 30 0, .int 4 0, .ref 82, .int 38 0, .int 4 0, .ref 89, .int 41 0, .int 4 0, .ref 96, .int 45 0, .int 4 0, .ref 101, .int 49 0, .int 4 0, .ref 108, .int 52 0, .int 4 0, .ref 115, .int 55 0, .int 4 0, .ref 120, .int 59 0, .int 4 0, .ref 128, .int 66 0, .int 4 0, .ref 133, .int 69 0, .int 4 0, .ref 138, .int 72 0, .int 4 0, .ref 145, .int 75 0, .int 4 0, .ref 152, .int 78 0, .int 4 0, .ref 157, .int 81 0, .int 4 0, .ref 164, .int 84 0, .int 4 0, .ref 171, .int 87 0, .int 4 0, .ref 178], #[]⟩
noncomputable def o1K_67 (P : Params) : Obj := ⟨.type "code", none, .fields #[.str (S "Headers") 397, .str (S "Headers") 398, .str (S "/claim/cut.py") 399, .int 18 0, .int 0 0, .int 0 0, .int 0 0, .int 0 0, .ref 65, .bool false, .int 276 0, .ref 66, .none, .none, .none, .none, .int 400 0, .int 18 0, .str (S "/claim/cut.py") 401], #[]⟩
noncomputable def o1K_68 (P : Params) : Obj := ⟨.type "frame", none, .plain, #[(some (.ref 67)), (some (.ref 3)), (some (.ref 64)), none, (some (.str (S "cpy313.wsgiref.headers") 289)), none, (some (.ref 0))]⟩
noncomputable def o1K_69 (P : Params) : Obj := ⟨.type "tuple", none, .seq #[.none] 0, #[]⟩
noncomputable def o1K_70 (P : Params) : Obj := ⟨.type "tuple", none, .seq #[] 0, #[]⟩
noncomputable def o1K_71 (P : Params) : Obj := ⟨.none, none, .fields #[], #[]⟩
noncomputable def o1K_72 (P : Params) : Obj := ⟨.type "tuple", none, .seq #[.str (S "self") 410, .str (S "headers") 411, .str (S "k") 412, .str (S "v") 413] 0, #[]⟩
noncomputable def o1K_73 (P : Params) : Obj := ⟨.type "tuple", none, .seq #[] 0, #[]⟩
noncomputable def o1K_74 (P : Params) : Obj := ⟨.none, none, .func { name := (S "__init__"), qualname := (S "Headers.__init__"), params := (dP [7, 0]), body := .stmts (dB [7, 0]), scope := (dS [7, 0]), globals := 0, closure := [], defaults := .none, kwdefaults := .none, doc := .none, pyModule := .none, annotations := none, code := .none, closureTuple := .none, builtins := 0 : FuncData }, #[]⟩
noncomputable def o1K_75 (P : Params) : Obj := ⟨.type "code", none, .fields #[.str (S "__init__") 407, .str (S "Headers.__init__") 408, .str (S "/claim/cut.py") 409, .int 20 0, .int 2 0, .int 0 0, .int 0 0, .int 3 0, .ref 70, .bool true, .int 276 0, .ref 71, .none, .ref 72, .ref 73, .ref 74, .int 414 0, .int 20 0, .str (S "/claim/cut.py") 415], #[]⟩
noncomputable def o1K_76 (P : Params) : Obj := ⟨.type "function", none, .func { name := (S "__init__"), qualname := (S "Headers.__init__"), params := (dP [7, 0]), body := .stmts (dB [7, 0]), scope := (dS [7, 0]), globals := 3, closure := [], defaults := .ref 69, kwdefaults := .none, doc := .none, pyModule := .str (S "cpy313.wsgiref.headers") 289, annotations := none, code := .ref 75, closureTuple := .none, builtins := 0 : FuncData }, #[]⟩
noncomputable def o1K_77 (P : Params) : Obj := ⟨.type "tuple", none, .seq #[] 0, #[]⟩
noncomputable def o1K_78 (P : Params) : Obj := ⟨.none, none, .fields #[], #[]⟩
noncomputable def o1K_79 (P : Params) : Obj := ⟨.type "tuple", none, .seq #[.str (S "self") 420, .str (S "value") 421, .str (S "name") 422, .str (S "regex") 423] 0, #[]⟩
noncomputable def o1K_80 (P : Params) : Obj := ⟨.type "tuple", none, .seq #[] 0, #[]⟩
noncomputable def o1K_81 (P : Params) : Obj := ⟨.none, none, .func { name := (S "_convert_string_type"), qualname := (S "Headers._convert_string_type"), params := (dP [7, 1]), body := .stmts (dB [7, 1]), scope := (dS [7, 1]), globals := 0, closure := [], defaults := .none, kwdefaults := .none, doc := .none, pyModule := .none, annotations := none, code := .none, closureTuple := .none, builtins := 0 : FuncData }, #[]⟩
noncomputable def o1K_82 (P : Params) : Obj := ⟨.type "code", none, .fields #[.str (S "_convert_string_type") 417, .str (S "Headers._convert_string_type") 418, .str (S "/claim/cut.py") 419, .int 30 0, .int 2 0, .int 0 0, .int 1 0, .int 3 0, .ref 77, .bool true, .int 276 0, .ref 78, .none, .ref 79, .ref 80, .ref 81, .int 424 0, .int 30 0, .str (S "/claim/cut.py") 425], #[]⟩
noncomputable def o1K_83 (P : Params) : Obj := ⟨.type "function", none, .func { name := (S "_convert_string_type"), qualname := (S "Headers._convert_string_type"), params := (dP [7, 1]), body := .stmts (dB [7, 1]), scope := (dS [7, 1]), globals := 3, closure := [], defaults := .none, kwdefaults := .none, doc := .none, pyModule := .str (S "cpy313.wsgiref.headers") 289, annotations := none, code := .ref 82, closureTuple := .none, builtins := 0 : FuncData }, #[]⟩
noncomputable def o1K_84 (P : Params) : Obj := ⟨.type "tuple", none, .seq #[] 0, #[]⟩
noncomputable def o1K_85 (P : Params) : Obj := ⟨.none, none, .fields #[], #[]⟩
noncomputable def o1K_86 (P : Params) : Obj := ⟨.type "tuple", none, .seq #[.str (S "self") 430] 0, #[]⟩
noncomputable def o1K_87 (P : Params) : Obj := ⟨.type "tuple", none, .seq #[] 0, #[]⟩
noncomputable def o1K_88 (P : Params) : Obj := ⟨.none, none, .func { name := (S "__len__"), qualname := (S "Headers.__len__"), params := (dP [7, 2]), body := .stmts (dB [7, 2]), scope := (dS [7, 2]), globals := 0, closure := [], defaults := .none, kwdefaults := .none, doc := .none, pyModule := .none, annotations := none, code := .none, closureTuple := .none, builtins := 0 : FuncData }, #[]⟩
noncomputable def o1K_89 (P : Params) : Obj := ⟨.type "code", none, .fields #[.str (S "__len__") 427, .str (S "Headers.__len__") 428, .str (S "/claim/cut.py") 429, .int 38 0, .int 1 0, .int 0 0, .int 0 0, .int 3 0, .ref 84, .bool true, .int 276 0, .ref 85, .none, .ref 86, .ref 87, .ref 88, .int 431 0, .int 38 0, .str (S "/claim/cut.py") 432], #[]⟩
noncomputable def o1K_90 (P : Params) : Obj := ⟨.type "function", none, .func { name := (S "__len__"), qualname := (S "Headers.__len__"), params := (dP [7, 2]), body := .stmts (dB [7, 2]), scope := (dS [7, 2]), globals := 3, closure := [], defaults := .none, kwdefaults := .none, doc := .none, pyModule := .str (S "cpy313.wsgiref.headers") 289, annotations := none, code := .ref 89, closureTuple := .none, builtins := 0 : FuncData }, #[]⟩
noncomputable def o1K_91 (P : Params) : Obj := ⟨.type "tuple", none, .seq #[] 0, #[]⟩
noncomputable def o1K_92 (P : Params) : Obj := ⟨.none, none, .fields #[], #[]⟩
noncomputable def o1K_93 (P : Params) : Obj := ⟨.type "tuple", none, .seq #[.str (S "self") 437, .str (S "name") 438, .str (S "val") 439] 0, #[]⟩
noncomputable def o1K_94 (P : Params) : Obj := ⟨.type "tuple", none, .seq #[] 0, #[]⟩
noncomputable def o1K_95 (P : Params) : Obj := ⟨.none, none, .func { name := (S "__setitem__"), qualname := (S "Headers.__setitem__"), params := (dP [7, 3]), body := .stmts (dB [7, 3]), scope := (dS [7, 3]), globals := 0, closure := [], defaults := .none, kwdefaults := .none, doc := .none, pyModule := .none, annotations := none, code := .none, closureTuple := .none, builtins := 0 : FuncData }, #[]⟩
noncomputable def o1K_96 (P : Params) : Obj := ⟨.type "code", none, .fields #[.str (S "__setitem__") 434, .str (S "Headers.__setitem__") 435, .str (S "/claim/cut.py") 436, .int 41 0, .int 3 0, .int 0 0, .int 0 0, .int 3 0, .ref 91, .bool true, .int 276 0, .ref 92, .none, .ref 93, .ref 94, .ref 95, .int 440 0, .int 41 0, .str (S "/claim/cut.py") 441], #[]⟩
noncomputable def o1K_97 (P : Params) : Obj := ⟨.type "function", none, .func { name := (S "__setitem__"), qualname := (S "Headers.__setitem__"), params := (dP [7, 3]), body := .stmts (dB [7, 3]), scope := (dS [7, 3]), globals := 3, closure := [], defaults := .none, kwdefaults := .none, doc := .none, pyModule := .str (S "cpy313.wsgiref.headers") 289, annotations := none, code := .ref 96, closureTuple := .none, builtins := 0 : FuncData }, #[]⟩
noncomputable def o1K_98 (P : Params) : Obj := ⟨.type "tuple", none, .seq #[] 0, #[]⟩
noncomputable def o1K_99 (P : Params) : Obj := ⟨.none, none, .fields #[], #[]⟩
noncomputable def o1K_100 (P : Params) : Obj := ⟨.none, none, .func { name := (S "__delitem__"), qualname := (S "Headers.__delitem__"), params := (dP [7, 4]), body := .stmts (dB [7, 4]), scope := (dS [7, 4]), globals := 0, closure := [], defaults := .none, kwdefaults := .none, doc := .none, pyModule := .none, annotations := none, code := .none, closureTuple := .none, builtins := 0 : FuncData }, #[]⟩
noncomputable def o1K_101 (P : Params) : Obj := ⟨.type "code", none, .fields #[.str (S "__delitem__") 443, .str (S "Headers.__delitem__") 444, .str (S "/claim/cut.py") 445, .int 45 0, .int 2 0, .int 0 0, .int 0 0, .int 3 0, .ref 98, .bool true, .int 276 0, .ref 99, .none, .none, .none, .ref 100, .int 446 0, .int 45 0, .str (S "/claim/cut.py") 447], #[]⟩
noncomputable def o1K_102 (P : Params) : Obj := ⟨.type "function", none, .func { name := (S "__delitem__"), qualname := (S "Headers.__delitem__"), params := (dP [7, 4]), body := .stmts (dB [7, 4]), scope := (dS [7, 4]), globals := 3, closure := [], defaults := .none, kwdefaults := .none, doc := .none, pyModule := .str (S "cpy313.wsgiref.headers") 289, annotations := none, code := .ref 101, closureTuple := .none, builtins := 0 : FuncData }, #[]⟩
noncomputable def o1K_103 (P : Params) : Obj := ⟨.type "tuple", none, .seq #[] 0, #[]⟩
noncomputable def o1K_104 (P : Params) : Obj := ⟨.none, none, .fields #[], #[]⟩
noncomputable def o1K_105 (P : Params) : Obj := ⟨.type "tuple", none, .seq #[.str (S "self") 452, .str (S "name") 453] 0, #[]⟩
noncomputable def o1K_106 (P : Params) : Obj := ⟨.type "tuple", none, .seq #[] 0, #[]⟩
noncomputable def o1K_107 (P : Params) : Obj := ⟨.none, none, .func { name := (S "__getitem__"), qualname := (S "Headers.__getitem__"), params := (dP [7, 5]), body := .stmts (dB [7, 5]), scope := (dS [7, 5]), globals := 0, closure := [], defaults := .none, kwdefaults := .none, doc := .none, pyModule := .none, annotations := none, code := .none, closureTuple := .none, builtins := 0 : FuncData }, #[]⟩
noncomputable def o1K_108 (P : Params) : Obj := ⟨.type "code", none, .fields #[.str (S "__getitem__") 449, .str (S "Headers.__getitem__") 450, .str (S "/claim/cut.py") 451, .int 49 0, .int 2 0, .int 0 0, .int 0 0, .int 3 0, .ref 103, .bool true, .int 276 0, .ref 104, .none, .ref 105, .ref 106, .ref 107, .int 454 0, .int 49 0, .str (S "/claim/cut.py") 455], #[]⟩
noncomputable def o1K_109 (P : Params) : Obj := ⟨.type "function", none, .func { name := (S "__getitem__"), qualname := (S "Headers.__getitem__"), params := (dP [7, 5]), body := .stmts (dB [7, 5]), scope := (dS [7, 5]), globals := 3, closure := [], defaults := .none, kwdefaults := .none, doc := .none, pyModule := .str (S "cpy313.wsgiref.headers") 289, annotations := none, code := .ref 108, closureTuple := .none, builtins := 0 : FuncData }, #[]⟩
noncomputable def o1K_110 (P : Params) : Obj := ⟨.type "tuple", none, .seq #[] 0, #[]⟩
noncomputable def o1K_111 (P : Params) : Obj := ⟨.none, none, .fields #[], #[]⟩
noncomputable def o1K_112 (P : Params) : Obj := ⟨.type "tuple", none, .seq #[.str (S "self") 460, .str (S "name") 461] 0, #[]⟩
noncomputable def o1K_113 (P : Params) : Obj := ⟨.type "tuple", none, .seq #[] 0, #[]⟩
noncomputable def o1K_114 (P : Params) : Obj := ⟨.none, none, .func { name := (S "__contains__"), qualname := (S "Headers.__contains__"), params := (dP [7, 6]), body := .stmts (dB [7, 6]), scope := (dS [7, 6]), globals := 0, closure := [], defaults := .none, kwdefaults := .none, doc := .none, pyModule := .none, annotations := none, code := .none, closureTuple := .none, builtins := 0 : FuncData }, #[]⟩
noncomputable def o1K_115 (P : Params) : Obj := ⟨.type "code", none, .fields #[.str (S "__contains__") 457, .str (S "Headers.__contains__") 458, .str (S "/claim/cut.py") 459, .int 52 0, .int 2 0, .int 0 0, .int 0 0, .int 3 0, .ref 110, .bool true, .int 276 0, .ref 111, .none, .ref 112, .ref 113, .ref 114, .int 462 0, .int 52 0, .str (S "/claim/cut.py") 463], #[]⟩
noncomputable def o1K_116 (P : Params) : Obj := ⟨.type "function", none, .func { name := (S "__contains__"), qualname := (S "Headers.__contains__"), params := (dP [7, 6]), body := .stmts (dB [7, 6]), scope := (dS [7, 6]), globals := 3, closure := [], defaults := .none, kwdefaults := .none, doc := .none, pyModule := .str (S "cpy313.wsgiref.headers") 289, annotations := none, code := .ref 115, closureTuple := .none, builtins := 0 : FuncData }, #[]⟩
noncomputable def o1K_117 (P : Params) : Obj := ⟨.type "tuple", none, .seq #[] 0, #[]⟩
noncomputable def o1K_118 (P : Params) : Obj := ⟨.none, none, .fields #[], #[]⟩
noncomputable def o1K_119 (P : Params) : Obj := ⟨.none, none, .func { name := (S "get_all"), qualname := (S "Headers.get_all"), params := (dP [7, 7]), body := .stmts (dB [7, 7]), scope := (dS [7, 7]), globals := 0, closure := [], defaults := .none, kwdefaults := .none, doc := .none, pyModule := .none, annotations := none, code := .none, closureTuple := .none, builtins := 0 : FuncData }, #[]⟩
noncomputable def o1K_120 (P : Params) : Obj := ⟨.type "code", none, .fields #[.str (S "get_all") 465, .str (S "Headers.get_all") 466, .str (S "/claim/cut.py") 467, .int 55 0, .int 2 0, .int 0 0, .int 0 0, .int 3 0, .ref 117, .bool true, .int 276 0, .ref 118, .none, .none, .none, .ref 119, .int 468 0, .int 55 0, .str (S "/claim/cut.py") 469], #[]⟩
noncomputable def o1K_121 (P : Params) : Obj := ⟨.type "function", none, .func { name := (S "get_all"), qualname := (S "Headers.get_all"), params := (dP [7, 7]), body := .stmts (dB [7, 7]), scope := (dS [7, 7]), globals := 3, closure := [], defaults := .none, kwdefaults := .none, doc := .none, pyModule := .str (S "cpy313.wsgiref.headers") 289, annotations := none, code := .ref 120, closureTuple := .none, builtins := 0 : FuncData }, #[]⟩
noncomputable def o1K_122 (P : Params) : Obj := ⟨.type "tuple", none, .seq #[.none] 0, #[]⟩
noncomputable def o1K_123 (P : Params) : Obj := ⟨.type "tuple", none, .seq #[] 0, #[]⟩
noncomputable def o1K_124 (P : Params) : Obj := ⟨.none, none, .fields #[], #[]⟩
noncomputable def o1K_125 (P : Params) : Obj := ⟨.type "tuple", none, .seq #[.str (S "self") 474, .str (S "name") 475, .str (S "default") 476, .str (S "k") 477, .str (S "v") 478] 0, #[]⟩
noncomputable def o1K_126 (P : Params) : Obj := ⟨.type "tuple", none, .seq #[] 0, #[]⟩
noncomputable def o1K_127 (P : Params) : Obj := ⟨.none, none, .func { name := (S "get"), qualname := (S "Headers.get"), params := (dP [7, 8]), body := .stmts (dB [7, 8]), scope := (dS [7, 8]), globals := 0, closure := [], defaults := .none, kwdefaults := .none, doc := .none, pyModule := .none, annotations := none, code := .none, closureTuple := .none, builtins := 0 : FuncData }, #[]⟩
noncomputable def o1K_128 (P : Params) : Obj := ⟨.type "code", none, .fields #[.str (S "get") 471, .str (S "Headers.get") 472, .str (S "/claim/cut.py") 473, .int 59 0, .int 3 0, .int 0 0, .int 0 0, .int 3 0, .ref 123, .bool true, .int 276 0, .ref 124, .none, .ref 125, .ref 126, .ref 127, .int 479 0, .int 59 0, .str (S "/claim/cut.py") 480], #[]⟩
noncomputable def o1K_129 (P : Params) : Obj := ⟨.type "function", none, .func { name := (S "get"), qualname := (S "Headers.get"), params := (dP [7, 8]), body := .stmts (dB [7, 8]), scope := (dS [7, 8]), globals := 3, closure := [], defaults := .ref 122, kwdefaults := .none, doc := .none, pyModule := .str (S "cpy313.wsgiref.headers") 289, annotations := none, code := .ref 128, closureTuple := .none, builtins := 0 : FuncData }, #[]⟩
noncomputable def o1K_130 (P : Params) : Obj := ⟨.type "tuple", none, .seq #[] 0, #[]⟩
noncomputable def o1K_131 (P : Params) : Obj := ⟨.none, none, .fields #[], #[]⟩
noncomputable def o1K_132 (P : Params) : Obj := ⟨.none, none, .func { name := (S "keys"), qualname := (S "Headers.keys"), params := (dP [7, 9]), body := .stmts (dB [7, 9]), scope := (dS [7, 9]), globals := 0, closure := [], defaults := .none, kwdefaults := .none, doc := .none, pyModule := .none, annotations := none, code := .none, closureTuple := .none, builtins := 0 : FuncData }, #[]⟩
noncomputable def o1K_133 (P : Params) : Obj := ⟨.type "code", none, .fields #[.str (S "keys") 482, .str (S "Headers.keys") 483, .str (S "/claim/cut.py") 484, .int 66 0, .int 1 0, .int 0 0, .int 0 0, .int 3 0, .ref 130, .bool true, .int 276 0, .ref 131, .none, .none, .none, .ref 132, .int 485 0, .int 66 0, .str (S "/claim/cut.py") 486], #[]⟩
noncomputable def o1K_134 (P : Params) : Obj := ⟨.type "function", none, .func { name := (S "keys"), qualname := (S "Headers.keys"), params := (dP [7, 9]), body := .stmts (dB [7, 9]), scope := (dS [7, 9]), globals := 3, closure := [], defaults := .none, kwdefaults := .none, doc := .none, pyModule := .str (S "cpy313.wsgiref.headers") 289, annotations := none, code := .ref 133, closureTuple := .none, builtins := 0 : FuncData }, #[]⟩
noncomputable def o1K_135 (P : Params) : Obj := ⟨.type "tuple", none, .seq #[] 0, #[]⟩
noncomputable def o1K_136 (P : Params) : Obj := ⟨.none, none, .fields #[], #[]⟩
noncomputable def o1K_137 (P : Params) : Obj := ⟨.none, none, .func { name := (S "values"), qualname := (S "Headers.values"), params := (dP [7, 10]), body := .stmts (dB [7, 10]), scope := (dS [7, 10]), globals := 0, closure := [], defaults := .none, kwdefaults := .none, doc := .none, pyModule := .none, annotations := none, code := .none, closureTuple := .none, builtins := 0 : FuncData }, #[]⟩
noncomputable def o1K_138 (P : Params) : Obj := ⟨.type "code", none, .fields #[.str (S "values") 488, .str (S "Headers.values") 489, .str (S "/claim/cut.py") 490, .int 69 0, .int 1 0, .int 0 0, .int 0 0, .int 3 0, .ref 135, .bool true, .int 276 0, .ref 136, .none, .none, .none, .ref 137, .int 491 0, .int 69 0, .str (S "/claim/cut.py") 492], #[]⟩
noncomputable def o1K_139 (P : Params) : Obj := ⟨.type "function", none, .func { name := (S "values"), qualname := (S "Headers.values"), params := (dP [7, 10]), body := .stmts (dB [7, 10]), scope := (dS [7, 10]), globals := 3, closure := [], defaults := .none, kwdefaults := .none, doc := .none, pyModule := .str (S "cpy313.wsgiref.headers") 289, annotations := none, code := .ref 138, closureTuple := .none, builtins := 0 : FuncData }, #[]⟩
noncomputable def o1K_140 (P : Params) : Obj := ⟨.type "tuple", none, .seq #[] 0, #[]⟩
noncomputable def o1K_141 (P : Params) : Obj := ⟨.none, none, .fields #[], #[]⟩
noncomputable def o1K_142 (P : Params) : Obj := ⟨.type "tuple", none, .seq #[.str (S "self") 497] 0, #[]⟩
noncomputable def o1K_143 (P : Params) : Obj := ⟨.type "tuple", none, .seq #[] 0, #[]⟩
noncomputable def o1K_144 (P : Params) : Obj := ⟨.none, none, .func { name := (S "items"), qualname := (S "Headers.items"), params := (dP [7, 11]), body := .stmts (dB [7, 11]), scope := (dS [7, 11]), globals := 0, closure := [], defaults := .none, kwdefaults := .none, doc := .none, pyModule := .none, annotations := none, code := .none, closureTuple := .none, builtins := 0 : FuncData }, #[]⟩
noncomputable def o1K_145 (P : Params) : Obj := ⟨.type "code", none, .fields #[.str (S "items") 494, .str (S "Headers.items") 495, .str (S "/claim/cut.py") 496, .int 72 0, .int 1 0, .int 0 0, .int 0 0, .int 3 0, .ref 140, .bool true, .int 276 0, .ref 141, .none, .ref 142, .ref 143, .ref 144, .int 498 0, .int 72 0, .str (S "/claim/cut.py") 499], #[]⟩
noncomputable def o1K_146 (P : Params) : Obj := ⟨.type "function", none, .func { name := (S "items"), qualname := (S "Headers.items"), params := (dP [7, 11]), body := .stmts (dB [7, 11]), scope := (dS [7, 11]), globals := 3, closure := [], defaults := .none, kwdefaults := .none, doc := .none, pyModule := .str (S "cpy313.wsgiref.headers") 289, annotations := none, code := .ref 145, closureTuple := .none, builtins := 0 : FuncData }, #[]⟩
noncomputable def o1K_147 (P : Params) : Obj := ⟨.type "tuple", none, .seq #[] 0, #[]⟩
noncomputable def o1K_148 (P : Params) : Obj := ⟨.none, none, .fields #[], #[]⟩
noncomputable def o1K_149 (P : Params) : Obj := ⟨.type "tuple", none, .seq #[.str (S "self") 504] 0, #[]⟩
noncomputable def o1K_150 (P : Params) : Obj := ⟨.type "tuple", none, .seq #[] 0, #[]⟩
noncomputable def o1K_151 (P : Params) : Obj := ⟨.none, none, .func { name := (S "__repr__"), qualname := (S "Headers.__repr__"), params := (dP [7, 12]), body := .stmts (dB [7, 12]), scope := (dS [7, 12]), globals := 0, closure := [], defaults := .none, kwdefaults := .none, doc := .none, pyModule := .none, annotations := none, code := .none, closureTuple := .none, builtins := 0 : FuncData }, #[]⟩
noncomputable def o1K_152 (P : Params) : Obj := ⟨.type "code", none, .fields #[.str (S "__repr__") 501, .str (S "Headers.__repr__") 502, .str (S "/claim/cut.py") 503, .int 75 0, .int 1 0, .int 0 0, .int 0 0, .int 3 0, .ref 147, .bool true, .int 276 0, .ref 148, .none, .ref 149, .ref 150, .ref 151, .int 505 0, .int 75 0, .str (S "/claim/cut.py") 506], #[]⟩
noncomputable def o1K_153 (P : Params) : Obj := ⟨.type "function", none, .func { name := (S "__repr__"), qualname := (S "Headers.__repr__"), params := (dP [7, 12]), body := .stmts (dB [7, 12]), scope := (dS [7, 12]), globals := 3, closure := [], defaults := .none, kwdefaults := .none, doc := .none, pyModule := .str (S "cpy313.wsgiref.headers") 289, annotations := none, code := .ref 152, closureTuple := .none, builtins := 0 : FuncData }, #[]⟩
noncomputable def o1K_154 (P : Params) : Obj := ⟨.type "tuple", none, .seq #[] 0, #[]⟩
noncomputable def o1K_155 (P : Params) : Obj := ⟨.none, none, .fields #[], #[]⟩
noncomputable def o1K_156 (P : Params) : Obj := ⟨.none, none, .func { name := (S "__str__"), qualname := (S "Headers.__str__"), params := (dP [7, 13]), body := .stmts (dB [7, 13]), scope := (dS [7, 13]), globals := 0, closure := [], defaults := .none, kwdefaults := .none, doc := .none, pyModule := .none, annotations := none, code := .none, closureTuple := .none, builtins := 0 : FuncData }, #[]⟩
noncomputable def o1K_157 (P : Params) : Obj := ⟨.type "code", none, .fields #[.str (S "__str__") 508, .str (S "Headers.__str__") 509, .str (S "/claim/cut.py") 510, .int 78 0, .int 1 0, .int 0 0, .int 0 0, .int 3 0, .ref 154, .bool true, .int 276 0, .ref 155, .none, .none, .none, .ref 156, .int 511 0, .int 78 0, .str (S "/claim/cut.py") 512], #[]⟩
noncomputable def o1K_158 (P : Params) : Obj := ⟨.type "function", none, .func { name := (S "__str__"), qualname := (S "Headers.__str__"), params := (dP [7, 13]), body := .stmts (dB [7, 13]), scope := (dS [7, 13]), globals := 3, closure := [], defaults := .none, kwdefaults := .none, doc := .none, pyModule := .str (S "cpy313.wsgiref.headers") 289, annotations := none, code := .ref 157, closureTuple := .none, builtins := 0 : FuncData }, #[]⟩
noncomputable def o1K_159 (P : Params) : Obj := ⟨.type "tuple", none, .seq #[] 0, #[]⟩
noncomputable def o1K_160 (P : Params) : Obj := ⟨.none, none, .fields #[], #[]⟩
noncomputable def o1K_161 (P : Params) : Obj := ⟨.type "tuple", none, .seq #[.str (S "self") 517] 0, #[]⟩
noncomputable def o1K_162 (P : Params) : Obj := ⟨.type "tuple", none, .seq #[] 0, #[]⟩
noncomputable def o1K_163 (P : Params) : Obj := ⟨.none, none, .func { name := (S "__bytes__"), qualname := (S "Headers.__bytes__"), params := (dP [7, 14]), body := .stmts (dB [7, 14]), scope := (dS [7, 14]), globals := 0, closure := [], defaults := .none, kwdefaults := .none, doc := .none, pyModule := .none, annotations := none, code := .none, closureTuple := .none, builtins := 0 : FuncData }, #[]⟩
noncomputable def o1K_164 (P : Params) : Obj := ⟨.type "code", none, .fields #[.str (S "__bytes__") 514, .str (S "Headers.__bytes__") 515, .str (S "/claim/cut.py") 516, .int 81 0, .int 1 0, .int 0 0, .int 0 0, .int 3 0, .ref 159, .bool true, .int 276 0, .ref 160, .none, .ref 161, .ref 162, .ref 163, .int 518 0, .int 81 0, .str (S "/claim/cut.py") 519], #[]⟩
noncomputable def o1K_165 (P : Params) : Obj := ⟨.type "function", none, .func { name := (S "__bytes__"), qualname := (S "Headers.__bytes__"), params := (dP [7, 14]), body := .stmts (dB [7, 14]), scope := (dS [7, 14]), globals := 3, closure := [], defaults := .none, kwdefaults := .none, doc := .none, pyModule := .str (S "cpy313.wsgiref.headers") 289, annotations := none, code := .ref 164, closureTuple := .none, builtins := 0 : FuncData }, #[]⟩
noncomputable def o1K_166 (P : Params) : Obj := ⟨.type "tuple", none, .seq #[] 0, #[]⟩
noncomputable def o1K_167 (P : Params) : Obj := ⟨.none, none, .fields #[], #[]⟩
noncomputable def o1K_168 (P : Params) : Obj := ⟨.type "tuple", none, .seq #[.str (S "self") 524, .str (S "name") 525, .str (S "value") 526] 0, #[]⟩
noncomputable def o1K_169 (P : Params) : Obj := ⟨.type "tuple", none, .seq #[] 0, #[]⟩
noncomputable def o1K_170 (P : Params) : Obj := ⟨.none, none, .func { name := (S "setdefault"), qualname := (S "Headers.setdefault"), params := (dP [7, 15]), body := .stmts (dB [7, 15]), scope := (dS [7, 15]), globals := 0, closure := [], defaults := .none, kwdefaults := .none, doc := .none, pyModule := .none, annotations := none, code := .none, closureTuple := .none, builtins := 0 : FuncData }, #[]⟩
noncomputable def o1K_171 (P : Params) : Obj := ⟨.type "code", none, .fields #[.str (S "setdefault") 521, .str (S "Headers.setdefault") 522, .str (S "/claim/cut.py") 523, .int 84 0, .int 3 0, .int 0 0, .int 0 0, .int 3 0, .ref 166, .bool true, .int 276 0, .ref 167, .none, .ref 168, .ref 169, .ref 170, .int 527 0, .int 84 0, .str (S "/claim/cut.py") 528], #[]⟩
noncomputable def o1K_172 (P : Params) : Obj := ⟨.type "function", none, .func { name := (S "setdefault"), qualname := (S "Headers.setdefault"), params := (dP [7, 15]), body := .stmts (dB [7, 15]), scope := (dS [7, 15]), globals := 3, closure := [], defaults := .none, kwdefaults := .none, doc := .none, pyModule := .str (S "cpy313.wsgiref.headers") 289, annotations := none, code := .ref 171, closureTuple := .none, builtins := 0 : FuncData }, #[]⟩
noncomputable def o1K_173 (P : Params) : Obj := ⟨.type "tuple", none, .seq #[] 0, #[]⟩
noncomputable def o1K_174 (P : Params) : Obj := ⟨.none, none, .fields #[], #[]⟩
noncomputable def o1K_175 (P : Params) : Obj := ⟨.type "tuple", none, .seq #[.str (S "self") 533, .str (S "_name") 534, .str (S "_value") 535, .str (S "_params") 536, .str (S "parts") 537, .str (S "k") 538, .str (S "v") 539] 0, #[]⟩
noncomputable def o1K_176 (P : Params) : Obj := ⟨.type "tuple", none, .seq #[] 0, #[]⟩
noncomputable def o1K_177 (P : Params) : Obj := ⟨.none, none, .func { name := (S "add_header"), qualname := (S "Headers.add_header"), params := (dP [7, 16]), body := .stmts (dB [7, 16]), scope := (dS [7, 16]), globals := 0, closure := [], defaults := .none, kwdefaults := .none, doc := .none, pyModule := .none, annotations := none, code := .none, closureTuple := .none, builtins := 0 : FuncData }, #[]⟩
noncomputable def o1K_178 (P : Params) : Obj := ⟨.type "code", none, .fields #[.str (S "add_header") 530, .str (S "Headers.add_header") 531, .str (S "/claim/cut.py") 532, .int 87 0, .int 3 0, .int 0 0, .int 0 0, .int 11 0, .ref 173, .bool true, .int 276 0, .ref 174, .none, .ref 175, .ref 176, .ref 177, .int 540 0, .int 87 0, .str (S "/claim/cut.py") 541], #[]⟩
noncomputable def o1K_179 (P : Params) : Obj := ⟨.type "function", none, .func { name := (S "add_header"), qualname := (S "Headers.add_header"), params := (dP [7, 16]), body := .stmts (dB [7, 16]), scope := (dS [7, 16]), globals := 3, closure := [], defaults := .none, kwdefaults := .none, doc := .none, pyModule := .str (S "cpy313.wsgiref.headers") 289, annotations := none, code := .ref 178, closureTuple := .none, builtins := 0 : FuncData }, #[]⟩
noncomputable def o1K_180 (P : Params) : Obj := ⟨.type "tuple", none, .seq #[.str (S "_headers") 543] 0, #[]⟩
noncomputable def o1K_181 (P : Params) : Obj := ⟨.type "dict", none, .dict (List.toArray [⟨PyData.keyHash P (S "__module__"), .str (S "__module__") 402, .str (S "cpy313.wsgiref.headers") 289⟩, ⟨PyData.keyHash P (S "__firstlineno__"), .str (S "__firstlineno__") 406, .int 18 405⟩, ⟨PyData.keyHash P (S "__init__"), .str (S "__init__") 416, .ref 76⟩, ⟨PyData.keyHash P (S "_convert_string_type"), .str (S "_convert_string_type") 426, .ref 83⟩, ⟨PyData.keyHash P (S "__len__"), .str (S "__len__") 433, .ref 90⟩, ⟨PyData.keyHash P (S "__setitem__"), .str (S "__setitem__") 442, .ref 97⟩, ⟨PyData.keyHash P (S "__delitem__"), .str (S "__delitem__") 448, .ref 102⟩, ⟨PyData.keyHash P (S "__getitem__"), .str (S "__getitem__") 456, .ref 109⟩, ⟨PyData.keyHash P (S "__contains__"), .str (S "__contains__") 464, .ref 116⟩, ⟨PyData.keyHash P (S "get_all"), .str (S "get_all") 470, .ref 121⟩, ⟨PyData.keyHash P (S "get"), .str (S "get") 481, .ref 129⟩, ⟨PyData.keyHash P (S "keys"), .str (S "keys") 487, .ref 134⟩, ⟨PyData.keyHash P (S "values"), .str (S "values") 493, .ref 139⟩, ⟨PyData.keyHash P (S "items"), .str (S "items") 500, .ref 146⟩, ⟨PyData.keyHash P (S "__repr__"), .str (S "__repr__") 507, .ref 153⟩, ⟨PyData.keyHash P (S "__str__"), .str (S "__str__") 513, .ref 158⟩, ⟨PyData.keyHash P (S "__bytes__"), .str (S "__bytes__") 520, .ref 165⟩, ⟨PyData.keyHash P (S "setdefault"), .str (S "setdefault") 529, .ref 172⟩, ⟨PyData.keyHash P (S "add_header"), .str (S "add_header") 542, .ref 179⟩, ⟨PyData.keyHash P (S "__static_attributes__"), .str (S "__static_attributes__") 544, .ref 180⟩, ⟨PyData.keyHash P (S "__dict__"), .str (S "__dict__") 546, .ref 183⟩, ⟨PyData.keyHash P (S "__weakref__"), .str (S "__weakref__") 548, .ref 184⟩, ⟨PyData.keyHash P (S "__doc__"), .str (S "__doc__") 549, .none⟩]) 4, #[]⟩
noncomputable def o1K_182 (P : Params) : Obj := ⟨.type "type", none, .cls { name := (S "Headers"), bases := [.type "object"], mro := [.ref 182, .type "object"], ns := 181, qualname := (S "Headers"), hasDict := true, slotNames := [], subclasses := [], abstract := false, collection := none, hasDel := false : ClassData }, #[none, none, (some (.str (S "Headers") 395)), (some (.str (S "Headers") 403)), (some (.builtin "object.__new__")), (some (.bool true))]⟩
noncomputable def o1K_183 (P : Params) : Obj := ⟨.type "getset_descriptor", none, .fields #[.str (S "__dict__") 545, .ref 182, .builtin "function.__dict__", .builtin "function.__dict__#set"], #[]⟩
noncomputable def o1K_184 (P : Params) : Obj := ⟨.type "getset_descriptor", none, .fields #[.str (S "__weakref__") 547, .ref 182, .builtin "ExceptionGroup.__weakref__", .none], #[]⟩
noncomputable def o1K_185 (P : Params) : Obj := ⟨.type "super", none, .fields #[.ref 182, .ref 182, .ref 182], #[]⟩
noncomputable def o1K_186 (P : Params) : Obj := ⟨.type "builtin_function_or_method", none, .fields #[.builtin "object.__init_subclass__", .ref 182], #[]⟩
noncomputable def o1K_187 (P : Params) : Obj := ⟨.type "tuple", none, .seq #[] 0, #[]⟩
noncomputable def o1K_188 (P : Params) : Obj := ⟨.type "builtin_function_or_method", none, .fields #[.builtin "type.__prepare__", .type "type"], #[]⟩
noncomputable def o1K_189 (P : Params) : Obj := ⟨.type "dict", none, .dict (List.toArray [⟨PyData.keyHash P (S "__module__"), .str (S "__module__") 561, .str (S "cpy313.netrc") 552⟩, ⟨PyData.keyHash P (S "__qualname__"), .str (S "__qualname__") 563, .str (S "_netrclex") 562⟩, ⟨PyData.keyHash P (S "__firstlineno__"), .str (S "__firstlineno__") 565, .int 101 564⟩, ⟨PyData.keyHash P (S "__init__"), .str (S "__init__") 573, .ref 200⟩, ⟨PyData.keyHash P (S "_read_char"), .str (S "_read_char") 581, .ref 207⟩, ⟨PyData.keyHash P (S "get_token"), .str (S "get_token") 591, .ref 214⟩, ⟨PyData.keyHash P (S "push_token"), .str (S "push_token") 599, .ref 221⟩, ⟨PyData.keyHash P (S "__static_attributes__"), .str (S "__static_attributes__") 604, .ref 222⟩]) 8, #[]⟩
noncomputable def o1K_190 (P : Params) : Obj := ⟨.type "tuple", none, .seq #[] 0, #[]⟩
noncomputable def o1K_191 (P : Params) : Obj := ⟨.none, none, .fields #[.int 103 0, .int 4 0, .ref 199, .int 109 0, .int 4 0, .ref 206, .int 115 0, .int 4 0, .ref 213, .int 142 0, .int 4 0, .ref 220], #[]⟩
noncomputable def o1K_192 (P : Params) : Obj := ⟨.type "code", none, .fields #[.str (S "_netrclex") 556, .str (S "_netrclex") 557, .str (S "/claim/cut.py") 558, .int 101 0, .int 0 0, .int 0 0, .int 0 0, .int 0 0, .ref 190, .bool false, .int 276 0, .ref 191, .none, .none, .none, .none, .int 559 0, .int 101 0, .str (S "/claim/cut.py") 560], #[]⟩
noncomputable def o1K_193 (P : Params) : Obj := ⟨.type "frame", none, .plain, #[(some (.ref 192)), (some (.ref 3)), (some (.ref 189)), none, (some (.str (S "cpy313.netrc") 552)), none, (some (.ref 0))]⟩
noncomputable def o1K_194 (P : Params) : Obj := ⟨.type "tuple", none, .seq #[] 0, #[]⟩
noncomputable def o1K_195 (P : Params) : Obj := ⟨.none, none, .fields #[], #[]⟩
noncomputable def o1K_196 (P : Params) : Obj := ⟨.type "tuple", none, .seq #[.str (S "self") 569, .str (S "fp") 570] 0, #[]⟩
noncomputable def o1K_197 (P : Params) : Obj := ⟨.type "tuple", none, .seq #[] 0, #[]⟩
noncomputable def o1K_198 (P : Params) : Obj := ⟨.none, none, .func { name := (S "__init__"), qualname := (S "_netrclex.__init__"), params := (dP [9, 0]), body := .stmts (dB [9, 0]), scope := (dS [9, 0]), globals := 0, closure := [], defaults := .none, kwdefaults := .none, doc := .none, pyModule := .none, annotations := none, code := .none, closureTuple := .none, builtins := 0 : FuncData }, #[]⟩
noncomputable def o1K_199 (P : Params) : Obj := ⟨.type "code", none, .fields #[.str (S "__init__") 566, .str (S "_netrclex.__init__") 567, .str (S "/claim/cut.py") 568, .int 103 0, .int 2 0, .int 0 0, .int 0 0, .int 3 0, .ref 194, .bool true, .int 276 0, .ref 195, .none, .ref 196, .ref 197, .ref 198, .int 571 0, .int 103 0, .str (S "/claim/cut.py") 572], #[]⟩
noncomputable def o1K_200 (P : Params) : Obj := ⟨.type "function", none, .func { name := (S "__init__"), qualname := (S "_netrclex.__init__"), params := (dP [9, 0]), body := .stmts (dB [9, 0]), scope := (dS [9, 0]), globals := 3, closure := [], defaults := .none, kwdefaults := .none, doc := .none, pyModule := .str (S "cpy313.netrc") 552, annotations := none, code := .ref 199, closureTuple := .none, builtins := 0 : FuncData }, #[]⟩
noncomputable def o1K_201 (P : Params) : Obj := ⟨.type "tuple", none, .seq #[] 0, #[]⟩
noncomputable def o1K_202 (P : Params) : Obj := ⟨.none, none, .fields #[], #[]⟩
noncomputable def o1K_203 (P : Params) : Obj := ⟨.type "tuple", none, .seq #[.str (S "self") 577, .str (S "ch") 578] 0, #[]⟩
noncomputable def o1K_204 (P : Params) : Obj := ⟨.type "tuple", none, .seq #[] 0, #[]⟩
noncomputable def o1K_205 (P : Params) : Obj := ⟨.none, none, .func { name := (S "_read_char"), qualname := (S "_netrclex._read_char"), params := (dP [9, 1]), body := .stmts (dB [9, 1]), scope := (dS [9, 1]), globals := 0, closure := [], defaults := .none, kwdefaults := .none, doc := .none, pyModule := .none, annotations := none, code := .none, closureTuple := .none, builtins := 0 : FuncData }, #[]⟩
noncomputable def o1K_206 (P : Params) : Obj := ⟨.type "code", none, .fields #[.str (S "_read_char") 574, .str (S "_netrclex._read_char") 575, .str (S "/claim/cut.py") 576, .int 109 0, .int 1 0, .int 0 0, .int 0 0, .int 3 0, .ref 201, .bool true, .int 276 0, .ref 202, .none, .ref 203, .ref 204, .ref 205, .int 579 0, .int 109 0, .str (S "/claim/cut.py") 580], #[]⟩
noncomputable def o1K_207 (P : Params) : Obj := ⟨.type "function", none, .func { name := (S "_read_char"), qualname := (S "_netrclex._read_char"), params := (dP [9, 1]), body := .stmts (dB [9, 1]), scope := (dS [9, 1]), globals := 3, closure := [], defaults := .none, kwdefaults := .none, doc := .none, pyModule := .str (S "cpy313.netrc") 552, annotations := none, code := .ref 206, closureTuple := .none, builtins := 0 : FuncData }, #[]⟩
noncomputable def o1K_208 (P : Params) : Obj := ⟨.type "tuple", none, .seq #[] 0, #[]⟩
noncomputable def o1K_209 (P : Params) : Obj := ⟨.none, none, .fields #[], #[]⟩
noncomputable def o1K_210 (P : Params) : Obj := ⟨.type "tuple", none, .seq #[.str (S "self") 585, .str (S "token") 586, .str (S "fiter") 587, .str (S "ch") 588] 0, #[]⟩
noncomputable def o1K_211 (P : Params) : Obj := ⟨.type "tuple", none, .seq #[] 0, #[]⟩
noncomputable def o1K_212 (P : Params) : Obj := ⟨.none, none, .func { name := (S "get_token"), qualname := (S "_netrclex.get_token"), params := (dP [9, 2]), body := .stmts (dB [9, 2]), scope := (dS [9, 2]), globals := 0, closure := [], defaults := .none, kwdefaults := .none, doc := .none, pyModule := .none, annotations := none, code := .none, closureTuple := .none, builtins := 0 : FuncData }, #[]⟩
noncomputable def o1K_213 (P : Params) : Obj := ⟨.type "code", none, .fields #[.str (S "get_token") 582, .str (S "_netrclex.get_token") 583, .str (S "/claim/cut.py") 584, .int 115 0, .int 1 0, .int 0 0, .int 0 0, .int 3 0, .ref 208, .bool true, .int 276 0, .ref 209, .none, .ref 210, .ref 211, .ref 212, .int 589 0, .int 115 0, .str (S "/claim/cut.py") 590], #[]⟩
noncomputable def o1K_214 (P : Params) : Obj := ⟨.type "function", none, .func { name := (S "get_token"), qualname := (S "_netrclex.get_token"), params := (dP [9, 2]), body := .stmts (dB [9, 2]), scope := (dS [9, 2]), globals := 3, closure := [], defaults := .none, kwdefaults := .none, doc := .none, pyModule := .str (S "cpy313.netrc") 552, annotations := none, code := .ref 213, closureTuple := .none, builtins := 0 : FuncData }, #[]⟩
noncomputable def o1K_215 (P : Params) : Obj := ⟨.type "tuple", none, .seq #[] 0, #[]⟩
noncomputable def o1K_216 (P : Params) : Obj := ⟨.none, none, .fields #[], #[]⟩
noncomputable def o1K_217 (P : Params) : Obj := ⟨.type "tuple", none, .seq #[.str (S "self") 595, .str (S "token") 596] 0, #[]⟩
noncomputable def o1K_218 (P : Params) : Obj := ⟨.type "tuple", none, .seq #[] 0, #[]⟩
noncomputable def o1K_219 (P : Params) : Obj := ⟨.none, none, .func { name := (S "push_token"), qualname := (S "_netrclex.push_token"), params := (dP [9, 3]), body := .stmts (dB [9, 3]), scope := (dS [9, 3]), globals := 0, closure := [], defaults := .none, kwdefaults := .none, doc := .none, pyModule := .none, annotations := none, code := .none, closureTuple := .none, builtins := 0 : FuncData }, #[]⟩
noncomputable def o1K_220 (P : Params) : Obj := ⟨.type "code", none, .fields #[.str (S "push_token") 592, .str (S "_netrclex.push_token") 593, .str (S "/claim/cut.py") 594, .int 142 0, .int 2 0, .int 0 0, .int 0 0, .int 3 0, .ref 215, .bool true, .int 276 0, .ref 216, .none, .ref 217, .ref 218, .ref 219, .int 597 0, .int 142 0, .str (S "/claim/cut.py") 598], #[]⟩
noncomputable def o1K_221 (P : Params) : Obj := ⟨.type "function", none, .func { name := (S "push_token"), qualname := (S "_netrclex.push_token"), params := (dP [9, 3]), body := .stmts (dB [9, 3]), scope := (dS [9, 3]), globals := 3, closure := [], defaults := .none, kwdefaults := .none, doc := .none, pyModule := .str (S "cpy313.netrc") 552, annotations := none, code := .ref 220, closureTuple := .none, builtins := 0 : FuncData }, #[]⟩
noncomputable def o1K_222 (P : Params) : Obj := ⟨.type "tuple", none, .seq #[.str (S "instream") 600, .str (S "lineno") 601, .str (S "pushback") 602, .str (S "whitespace") 603] 0, #[]⟩
noncomputable def o1K_223 (P : Params) : Obj := ⟨.type "dict", none, .dict (List.toArray [⟨PyData.keyHash P (S "__module__"), .str (S "__module__") 561, .str (S "cpy313.netrc") 552⟩, ⟨PyData.keyHash P (S "__firstlineno__"), .str (S "__firstlineno__") 565, .int 101 564⟩, ⟨PyData.keyHash P (S "__init__"), .str (S "__init__") 573, .ref 200⟩, ⟨PyData.keyHash P (S "_read_char"), .str (S "_read_char") 581, .ref 207⟩, ⟨PyData.keyHash P (S "get_token"), .str (S "get_token") 591, .ref 214⟩, ⟨PyData.keyHash P (S "push_token"), .str (S "push_token") 599, .ref 221⟩, ⟨PyData.keyHash P (S "__static_attributes__"), .str (S "__static_attributes__") 604, .ref 222⟩, ⟨PyData.keyHash P (S "__dict__"), .str (S "__dict__") 606, .ref 225⟩, ⟨PyData.keyHash P (S "__weakref__"), .str (S "__weakref__") 608, .ref 226⟩, ⟨PyData.keyHash P (S "__doc__"), .str (S "__doc__") 609, .none⟩]) 4, #[]⟩
noncomputable def o1K_224 (P : Params) : Obj := ⟨.type "type", none, .cls { name := (S "_netrclex"), bases := [.type "object"], mro := [.ref 224, .type "object"], ns := 223, qualname := (S "_netrclex"), hasDict := true, slotNames := [], subclasses := [], abstract := false, collection := none, hasDel := false : ClassData }, #[none, none, (some (.str (S "_netrclex") 554)), (some (.str (S "_netrclex") 562)), (some (.builtin "object.__new__")), (some (.bool true))]⟩
noncomputable def o1K_225 (P : Params) : Obj := ⟨.type "getset_descriptor", none, .fields #[.str (S "__dict__") 605, .ref 224, .builtin "function.__dict__", .builtin "function.__dict__#set"], #[]⟩
noncomputable def o1K_226 (P : Params) : Obj := ⟨.type "getset_descriptor", none, .fields #[.str (S "__weakref__") 607, .ref 224, .builtin "ExceptionGroup.__weakref__", .none], #[]⟩
noncomputable def o1K_227 (P : Params) : Obj := ⟨.type "super", none, .fields #[.ref 224, .ref 224, .ref 224], #[]⟩
noncomputable def o1K_228 (P : Params) : Obj := ⟨.type "builtin_function_or_method", none, .fields #[.builtin "object.__init_subclass__", .ref 224], #[]⟩
noncomputable def tr1K (P : Params) : BT := (.node (o1I_0 P) (.node (o1I_1 P) (.node (o1K_3 P) (.node (o1I_7 P) (.node (o1I_15 P) (.node (o11_31 P) (.node (o1K_63 P) (.node (o1K_127 P) .nil .nil) (.node (o1K_191 P) .nil .nil)) (.node (o1K_95 P) (.node (o1K_159 P) .nil .nil) (.node (o1K_223 P) .nil .nil))) (.node (o1K_47 P) (.node (o1K_79 P) (.node (o1K_143 P) .nil .nil) (.node (o1K_207 P) .nil .nil)) (.node (o1K_111 P) (.node (o1K_175 P) .nil .nil) .nil))) (.node (o1I_23 P) (.node (o1K_39 P) (.node (o1K_71 P) (.node (o1K_135 P) .nil .nil) (.node (o1K_199 P) .nil .nil)) (.node (o1K_103 P) (.node (o1K_167 P) .nil .nil) .nil)) (.node (o1K_55 P) (.node (o1K_87 P) (.node (o1K_151 P) .nil .nil) (.node (o1K_215 P) .nil .nil)) (.node (o1K_119 P) (.node (o1K_183 P) .nil .nil) .nil)))) (.node (o10_11 P) (.node (o1I_19 P) (.node (o1K_35 P) (.node (o1K_67 P) (.node (o1K_131 P) .nil .nil) (.node (o1K_195 P) .nil .nil)) (.node (o1K_99 P) (.node (o1K_163 P) .nil .nil) (.node (o1K_227 P) .nil .nil))) (.node (o1K_51 P) (.node (o1K_83 P) (.node (o1K_147 P) .nil .nil) (.node (o1K_211 P) .nil .nil)) (.node (o1K_115 P) (.node (o1K_179 P) .nil .nil) .nil))) (.node (o1I_27 P) (.node (o1K_43 P) (.node (o1K_75 P) (.node (o1K_139 P) .nil .nil) (.node (o1K_203 P) .nil .nil)) (.node (o1K_107 P) (.node (o1K_171 P) .nil .nil) .nil)) (.node (o1K_59 P) (.node (o1K_91 P) (.node (o1K_155 P) .nil .nil) (.node (o1K_219 P) .nil .nil)) (.node (o1K_123 P) (.node (o1K_187 P) .nil .nil) .nil))))) (.node (o1I_5 P) (.node (o1I_9 P) (.node (o1I_17 P) (.node (o1K_33 P) (.node (o1K_65 P) (.node (o1K_129 P) .nil .nil) (.node (o1K_193 P) .nil .nil)) (.node (o1K_97 P) (.node (o1K_161 P) .nil .nil) (.node (o1K_225 P) .nil .nil))) (.node (o1K_49 P) (.node (o1K_81 P) (.node (o1K_145 P) .nil .nil) (.node (o1K_209 P) .nil .nil)) (.node (o1K_113 P) (.node (o1K_177 P) .nil .nil) .nil))) (.node (o1I_25 P) (.node (o1K_41 P) (.node (o1K_73 P) (.node (o1K_137 P) .nil .nil) (.node (o1K_201 P) .nil .nil)) (.node (o1K_105 P) (.node (o1K_169 P) .nil .nil) .nil)) (.node (o1K_57 P) (.node (o1K_89 P) (.node (o1K_153 P) .nil .nil) (.node (o1K_217 P) .nil .nil)) (.node (o1K_121 P) (.node (o1K_185 P) .nil .nil) .nil)))) (.node (o1I_13 P) (.node (o1I_21 P) (.node (o1K_37 P) (.node (o1K_69 P) (.node (o1K_133 P) .nil .nil) (.node (o1K_197 P) .nil .nil)) (.node (o1K_101 P) (.node (o1K_165 P) .nil .nil) .nil)) (.node (o1K_53 P) (.node (o1K_85 P) (.node (o1K_149 P) .nil .nil) (.node (o1K_213 P) .nil .nil)) (.node (o1K_117 P) (.node (o1K_181 P) .nil .nil) .nil))) (.node (o1K_29 P) (.node (o1K_45 P) (.node (o1K_77 P) (.node (o1K_141 P) .nil .nil) (.node (o1K_205 P) .nil .nil)) (.node (o1K_109 P) (.node (o1K_173 P) .nil .nil) .nil)) (.node (o1K_61 P) (.node (o1K_93 P) (.node (o1K_157 P) .nil .nil) (.node (o1K_221 P) .nil .nil)) (.node (o1K_125 P) (.node (o1K_189 P) .nil .nil) .nil)))))) (.node (o1I_2 P) (.node (o1I_4 P) (.node (o1I_8 P) (.node (o1I_16 P) (.node (o1K_32 P) (.node (o1K_64 P) (.node (o1K_128 P) .nil .nil) (.node (o1K_192 P) .nil .nil)) (.node (o1K_96 P) (.node (o1K_160 P) .nil .nil) (.node (o1K_224 P) .nil .nil))) (.node (o1K_48 P) (.node (o1K_80 P) (.node (o1K_144 P) .nil .nil) (.node (o1K_208 P) .nil .nil)) (.node (o1K_112 P) (.node (o1K_176 P) .nil .nil) .nil))) (.node (o1I_24 P) (.node (o1K_40 P) (.node (o1K_72 P) (.node (o1K_136 P) .nil .nil) (.node (o1K_200 P) .nil .nil)) (.node (o1K_104 P) (.node (o1K_168 P) .nil .nil) .nil)) (.node (o1K_56 P) (.node (o1K_88 P) (.node (o1K_152 P) .nil .nil) (.node (o1K_216 P) .nil .nil)) (.node (o1K_120 P) (.node (o1K_184 P) .nil .nil) .nil)))) (.node (o1I_12 P) (.node (o1I_20 P) (.node (o1K_36 P) (.node (o1K_68 P) (.node (o1K_132 P) .nil .nil) (.node (o1K_196 P) .nil .nil)) (.node (o1K_100 P) (.node (o1K_164 P) .nil .nil) (.node (o1K_228 P) .nil .nil))) (.node (o1K_52 P) (.node (o1K_84 P) (.node (o1K_148 P) .nil .nil) (.node (o1K_212 P) .nil .nil)) (.node (o1K_116 P) (.node (o1K_180 P) .nil .nil) .nil))) (.node (o11_28 P) (.node (o1K_44 P) (.node (o1K_76 P) (.node (o1K_140 P) .nil .nil) (.node (o1K_204 P) .nil .nil)) (.node (o1K_108 P) (.node (o1K_172 P) .nil .nil) .nil)) (.node (o1K_60 P) (.node (o1K_92 P) (.node (o1K_156 P) .nil .nil) (.node (o1K_220 P) .nil .nil)) (.node (o1K_124 P) (.node (o1K_188 P) .nil .nil) .nil))))) (.node (o1I_6 P) (.node (o1I_10 P) (.node (o1I_18 P) (.node (o1K_34 P) (.node (o1K_66 P) (.node (o1K_130 P) .nil .nil) (.node (o1K_194 P) .nil .nil)) (.node (o1K_98 P) (.node (o1K_162 P) .nil .nil) (.node (o1K_226 P) .nil .nil))) (.node (o1K_50 P) (.node (o1K_82 P) (.node (o1K_146 P) .nil .nil) (.node (o1K_210 P) .nil .nil)) (.node (o1K_114 P) (.node (o1K_178 P) .nil .nil) .nil))) (.node (o1I_26 P) (.node (o1K_42 P) (.node (o1K_74 P) (.node (o1K_138 P) .nil .nil) (.node (o1K_202 P) .nil .nil)) (.node (o1K_106 P) (.node (o1K_170 P) .nil .nil) .nil)) (.node (o1K_58 P) (.node (o1K_90 P) (.node (o1K_154 P) .nil .nil) (.node (o1K_218 P) .nil .nil)) (.node (o1K_122 P) (.node (o1K_186 P) .nil .nil) .nil)))) (.node (o1I_14 P) (.node (o1I_22 P) (.node (o1K_38 P) (.node (o1K_70 P) (.node (o1K_134 P) .nil .nil) (.node (o1K_198 P) .nil .nil)) (.node (o1K_102 P) (.node (o1K_166 P) .nil .nil) .nil)) (.node (o1K_54 P) (.node (o1K_86 P) (.node (o1K_150 P) .nil .nil) (.node (o1K_214 P) .nil .nil)) (.node (o1K_118 P) (.node (o1K_182 P) .nil .nil) .nil))) (.node (o11_30 P) (.node (o1K_46 P) (.node (o1K_78 P) (.node (o1K_142 P) .nil .nil) (.node (o1K_206 P) .nil .nil)) (.node (o1K_110 P) (.node (o1K_174 P) .nil .nil) .nil)) (.node (o1K_62 P) (.node (o1K_94 P) (.node (o1K_158 P) .nil .nil) (.node (o1K_222 P) .nil .nil)) (.node (o1K_126 P) (.node (o1K_190 P) .nil .nil) .nil)))))))
abbrev n1K : Nat := 229
abbrev t1K : Nat := 614
noncomputable def o1A_3 (P : Params) : Obj := ⟨.type "dict", none, .dict (List.toArray [⟨PyData.keyHash P (S "__name__"), .str (S "__name__") 165, .str (S "cpy313.stringprep") 612⟩, ⟨PyData.keyHash P (S "__doc__"), .str (S "__doc__") 166, .none⟩, ⟨PyData.keyHash P (S "__package__"), .str (S "__package__") 167, .none⟩, ⟨PyData.keyHash P (S "__loader__"), .str (S "__loader__") 168, .builtin "__main__.__loader__#opaque"⟩, ⟨PyData.keyHash P (S "__spec__"), .str (S "__spec__") 169, .none⟩, ⟨PyData.keyHash P (S "__annotations__"), .str (S "__annotations__") 170, .ref 6⟩, ⟨PyData.keyHash P (S "__builtins__"), .str (S "__builtins__") 171, .ref 4⟩, ⟨PyData.keyHash P (S "__file__"), .str (S "__file__") 173, .str (S "/claim/cut.py") 172⟩, ⟨PyData.keyHash P (S "__cached__"), .str (S "__cached__") 174, .none⟩, ⟨PyData.keyHash P (S "_sre"), .str (S "_sre") 275, .ref 12⟩, ⟨PyData.keyHash P (S "_wall"), .str (S "_wall") 288, .ref 38⟩, ⟨PyData.keyHash P (S "tspecials"), .str (S "tspecials") 324, .ref 43⟩, ⟨PyData.keyHash P (S "_name_disallowed_re"), .str (S "_name_disallowed_re") 350, .ref 48⟩, ⟨PyData.keyHash P (S "_value_disallowed_re"), .str (S "_value_disallowed_re") 384, .ref 53⟩, ⟨PyData.keyHash P (S "_formatparam"), .str (S "_formatparam") 394, .ref 61⟩, ⟨PyData.keyHash P (S "Headers"), .str (S "Headers") 551, .ref 182⟩, ⟨PyData.keyHash P (S "_netrclex"), .str (S "_netrclex") 611, .ref 224⟩, ⟨PyData.keyHash P (S "b1_set"), .str (S "b1_set") 673, .ref 236⟩, ⟨PyData.keyHash P (S "in_table_b1"), .str (S "in_table_b1") 680, .ref 246⟩]) 19, #[]⟩
noncomputable def o1A_29 (P : Params) : Obj := ⟨.none, none, .fields #[.int 2 0, .int 0 0, .ref 37, .int 9 0, .int 0 0, .ref 60, .int 18 0, .int 0 0, .ref 67, .int 101 0, .int 0 0, .ref 192, .int 146 0, .int 0 0, .ref 245], #[]⟩
noncomputable def o1A_229 (P : Params) : Obj := ⟨.type "list", none, .seq #[.int 173 614, .int 847 615, .int 6150 616, .int 6155 617, .int 6156 618, .int 6157 619, .int 8203 620, .int 8204 621, .int 8205 622, .int 8288 623, .int 65279 624] 0, #[]⟩
noncomputable def o1A_230 (P : Params) : Obj := ⟨.type "range", none, .fields #[.int 65024 625, .int 65040 626, .int 1 627], #[]⟩
noncomputable def o1A_231 (P : Params) : Obj := ⟨.type "list", none, .seq #[.int 65024 630, .int 65025 631, .int 65026 632, .int 65027 633, .int 65028 634, .int 65029 635, .int 65030 636, .int 65031 637, .int 65032 638, .int 65033 639, .int 65034 640, .int 65035 641, .int 65036 642, .int 65037 643, .int 65038 644, .int 65039 645] 18, #[]⟩
noncomputable def o1A_232 (P : Params) : Obj := ⟨.type "range_iterator", none, .fields #[.int 65040 0, .int 0 0, .int 1 0], #[]⟩
noncomputable def o1A_233 (P : Params) : Obj := ⟨.type "tuple", none, .seq #[] 0, #[]⟩
noncomputable def o1A_234 (P : Params) : Obj := ⟨.type "StopIteration", none, .fields #[.ref 233, .none, .none, .none, .bool false, .none], #[]⟩
noncomputable def o1A_235 (P : Params) : Obj := ⟨.type "list", none, .seq #[.int 173 614, .int 847 615, .int 6150 616, .int 6155 617, .int 6156 618, .int 6157 619, .int 8203 620, .int 8204 621, .int 8205 622, .int 8288 623, .int 65279 624, .int 65024 630, .int 65025 631, .int 65026 632, .int 65027 633, .int 65028 634, .int 65029 635, .int 65030 636, .int 65031 637, .int 65032 638, .int 65033 639, .int 65034 640, .int 65035 641, .int 65036 642, .int 65037 643, .int 65038 644, .int 65039 645] 0, #[]⟩
noncomputable def o1A_236 (P : Params) : Obj := ⟨.type "set", none, .set #[(65024, .int 65024 630), (65025, .int 65025 631), (65026, .int 65026 632), (65027, .int 65027 633), (65028, .int 65028 634), (65029, .int 65029 635), (6150, .int 6150 616), (65030, .int 65030 636), (65031, .int 65031 637), (65032, .int 65032 638), (65033, .int 65033 639), (6155, .int 6155 617), (6156, .int 6156 618), (6157, .int 6157 619), (8203, .int 8203 620), (8204, .int 8204 621), (8205, .int 8205 622), (65034, .int 65034 640), (65035, .int 65035 641), (65036, .int 65036 642), (65037, .int 65037 643), (65038, .int 65038 644), (65039, .int 65039 645), (173, .int 173 614), (847, .int 847 615), (8288, .int 8288 623), (65279, .int 65279 624)] 29 { mask := 127, place := #[0, 1, 2, 3, 4, 5, 6, 7, 8, 9, 10, 11, 12, 13, 14, 15, 16, 17, 18, 19, 20, 21, 22, 45, 79, 96, 127], dummies := #[], finger := 0, led := (!P.followText "set-order"), moves := 2, plain := true : SetTable }, #[]⟩
noncomputable def o1A_237 (P : Params) : Obj := ⟨.type "list_iterator", none, .fields #[.none, .int 27 0], #[]⟩
noncomputable def o1A_238 (P : Params) : Obj := ⟨.type "tuple", none, .seq #[] 0, #[]⟩
noncomputable def o1A_239 (P : Params) : Obj := ⟨.type "StopIteration", none, .fields #[.ref 238, .none, .none, .none, .bool false, .none], #[]⟩
noncomputable def o1A_240 (P : Params) : Obj := ⟨.type "tuple", none, .seq #[] 0, #[]⟩
noncomputable def o1A_241 (P : Params) : Obj := ⟨.none, none, .fields #[], #[]⟩
noncomputable def o1A_242 (P : Params) : Obj := ⟨.type "tuple", none, .seq #[.str (S "code") 677] 0, #[]⟩
noncomputable def o1A_243 (P : Params) : Obj := ⟨.type "tuple", none, .seq #[] 0, #[]⟩
noncomputable def o1A_244 (P : Params) : Obj := ⟨.none, none, .func { name := (S "in_table_b1"), qualname := (S "in_table_b1"), params := (dP [12]), body := .stmts (dB [12]), scope := (dS [12]), globals := 0, closure := [], defaults := .none, kwdefaults := .none, doc := .none, pyModule := .none, annotations := none, code := .none, closureTuple := .none, builtins := 0 : FuncData }, #[]⟩
noncomputable def o1A_245 (P : Params) : Obj := ⟨.type "code", none, .fields #[.str (S "in_table_b1") 674, .str (S "in_table_b1") 675, .str (S "/claim/cut.py") 676, .int 146 0, .int 1 0, .int 0 0, .int 0 0, .int 3 0, .ref 240, .bool true, .int 276 0, .ref 241, .none, .ref 242, .ref 243, .ref 244, .int 678 0, .int 146 0, .str (S "/claim/cut.py") 679], #[]⟩
noncomputable def o1A_246 (P : Params) : Obj := ⟨.type "function", none, .func { name := (S "in_table_b1"), qualname := (S "in_table_b1"), params := (dP [12]), body := .stmts (dB [12]), scope := (dS [12]), globals := 3, closure := [], defaults := .none, kwdefaults := .none, doc := .none, pyModule := .str (S "cpy313.stringprep") 612, annotations := none, code := .ref 245, closureTuple := .none, builtins := 0 : FuncData }, #[]⟩
noncomputable def tr1A (P : Params) : BT := (.node (o1I_0 P) (.node (o1I_1 P) (.node (o1A_3 P) (.node (o1I_7 P) (.node (o1I_15 P) (.node (o11_31 P) (.node (o1K_63 P) (.node (o1K_127 P) .nil .nil) (.node (o1K_191 P) .nil .nil)) (.node (o1K_95 P) (.node (o1K_159 P) .nil .nil) (.node (o1K_223 P) .nil .nil))) (.node (o1K_47 P) (.node (o1K_79 P) (.node (o1K_143 P) .nil .nil) (.node (o1K_207 P) .nil .nil)) (.node (o1K_111 P) (.node (o1K_175 P) .nil .nil) (.node (o1A_239 P) .nil .nil)))) (.node (o1I_23 P) (.node (o1K_39 P) (.node (o1K_71 P) (.node (o1K_135 P) .nil .nil) (.node (o1K_199 P) .nil .nil)) (.node (o1K_103 P) (.node (o1K_167 P) .nil .nil) (.node (o1A_231 P) .nil .nil))) (.node (o1K_55 P) (.node (o1K_87 P) (.node (o1K_151 P) .nil .nil) (.node (o1K_215 P) .nil .nil)) (.node (o1K_119 P) (.node (o1K_183 P) .nil .nil) .nil)))) (.node (o10_11 P) (.node (o1I_19 P) (.node (o1K_35 P) (.node (o1K_67 P) (.node (o1K_131 P) .nil .nil) (.node (o1K_195 P) .nil .nil)) (.node (o1K_99 P) (.node (o1K_163 P) .nil .nil) (.node (o1K_227 P) .nil .nil))) (.node (o1K_51 P) (.node (o1K_83 P) (.node (o1K_147 P) .nil .nil) (.node (o1K_211 P) .nil .nil)) (.node (o1K_115 P) (.node (o1K_179 P) .nil .nil) (.node (o1A_243 P) .nil .nil)))) (.node (o1I_27 P) (.node (o1K_43 P) (.node (o1K_75 P) (.node (o1K_139 P) .nil .nil) (.node (o1K_203 P) .nil .nil)) (.node (o1K_107 P) (.node (o1K_171 P) .nil .nil) (.node (o1A_235 P) .nil .nil))) (.node (o1K_59 P) (.node (o1K_91 P) (.node (o1K_155 P) .nil .nil) (.node (o1K_219 P) .nil .nil)) (.node (o1K_123 P) (.node (o1K_187 P) .nil .nil) .nil))))) (.node (o1I_5 P) (.node (o1I_9 P) (.node (o1I_17 P) (.node (o1K_33 P) (.node (o1K_65 P) (.node (o1K_129 P) .nil .nil) (.node (o1K_193 P) .nil .nil)) (.node (o1K_97 P) (.node (o1K_161 P) .nil .nil) (.node (o1K_225 P) .nil .nil))) (.node (o1K_49 P) (.node (o1K_81 P) (.node (o1K_145 P) .nil .nil) (.node (o1K_209 P) .nil .nil)) (.node (o1K_113 P) (.node (o1K_177 P) .nil .nil) (.node (o1A_241 P) .nil .nil)))) (.node (o1I_25 P) (.node (o1K_41 P) (.node (o1K_73 P) (.node (o1K_137 P) .nil .nil) (.node (o1K_201 P) .nil .nil)) (.node (o1K_105 P) (.node (o1K_169 P) .nil .nil) (.node (o1A_233 P) .nil .nil))) (.node (o1K_57 P) (.node (o1K_89 P) (.node (o1K_153 P) .nil .nil) (.node (o1K_217 P) .nil .nil)) (.node (o1K_121 P) (.node (o1K_185 P) .nil .nil) .nil)))) (.node (o1I_13 P) (.node (o1I_21 P) (.node (o1K_37 P) (.node (o1K_69 P) (.node (o1K_133 P) .nil .nil) (.node (o1K_197 P) .nil .nil)) (.node (o1K_101 P) (.node (o1K_165 P) .nil .nil) (.node (o1A_229 P) .nil .nil))) (.node (o1K_53 P) (.node (o1K_85 P) (.node (o1K_149 P) .nil .nil) (.node (o1K_213 P) .nil .nil)) (.node (o1K_117 P) (.node (o1K_181 P) .nil .nil) (.node (o1A_245 P) .nil .nil)))) (.node (o1A_29 P) (.node (o1K_45 P) (.node (o1K_77 P) (.node (o1K_141 P) .nil .nil) (.node (o1K_205 P) .nil .nil)) (.node (o1K_109 P) (.node (o1K_173 P) .nil .nil) (.node (o1A_237 P) .nil .nil))) (.node (o1K_61 P) (.node (o1K_93 P) (.node (o1K_157 P) .nil .nil) (.node (o1K_221 P) .nil .nil)) (.node (o1K_125 P) (.node (o1K_189 P) .nil .nil) .nil)))))) (.node (o1I_2 P) (.node (o1I_4 P) (.node (o1I_8 P) (.node (o1I_16 P) (.node (o1K_32 P) (.node (o1K_64 P) (.node (o1K_128 P) .nil .nil) (.node (o1K_192 P) .nil .nil)) (.node (o1K_96 P) (.node (o1K_160 P) .nil .nil) (.node (o1K_224 P) .nil .nil))) (.node (o1K_48 P) (.node (o1K_80 P) (.node (o1K_144 P) .nil .nil) (.node (o1K_208 P) .nil .nil)) (.node (o1K_112 P) (.node (o1K_176 P) .nil .nil) (.node (o1A_240 P) .nil .nil)))) (.node (o1I_24 P) (.node (o1K_40 P) (.node (o1K_72 P) (.node (o1K_136 P) .nil .nil) (.node (o1K_200 P) .nil .nil)) (.node (o1K_104 P) (.node (o1K_168 P) .nil .nil) (.node (o1A_232 P) .nil .nil))) (.node (o1K_56 P) (.node (o1K_88 P) (.node (o1K_152 P) .nil .nil) (.node (o1K_216 P) .nil .nil)) (.node (o1K_120 P) (.node (o1K_184 P) .nil .nil) .nil)))) (.node (o1I_12 P) (.node (o1I_20 P) (.node (o1K_36 P) (.node (o1K_68 P) (.node (o1K_132 P) .nil .nil) (.node (o1K_196 P) .nil .nil)) (.node (o1K_100 P) (.node (o1K_164 P) .nil .nil) (.node (o1K_228 P) .nil .nil))) (.node (o1K_52 P) (.node (o1K_84 P) (.node (o1K_148 P) .nil .nil) (.node (o1K_212 P) .nil .nil)) (.node (o1K_116 P) (.node (o1K_180 P) .nil .nil) (.node (o1A_244 P) .nil .nil)))) (.node (o11_28 P) (.node (o1K_44 P) (.node (o1K_76 P) (.node (o1K_140 P) .nil .nil) (.node (o1K_204 P) .nil .nil)) (.node (o1K_108 P) (.node (o1K_172 P) .nil .nil) (.node (o1A_236 P) .nil .nil))) (.node (o1K_60 P) (.node (o1K_92 P) (.node (o1K_156 P) .nil .nil) (.node (o1K_220 P) .nil .nil)) (.node (o1K_124 P) (.node (o1K_188 P) .nil .nil) .nil))))) (.node (o1I_6 P) (.node (o1I_10 P) (.node (o1I_18 P) (.node (o1K_34 P) (.node (o1K_66 P) (.node (o1K_130 P) .nil .nil) (.node (o1K_194 P) .nil .nil)) (.node (o1K_98 P) (.node (o1K_162 P) .nil .nil) (.node (o1K_226 P) .nil .nil))) (.node (o1K_50 P) (.node (o1K_82 P) (.node (o1K_146 P) .nil .nil) (.node (o1K_210 P) .nil .nil)) (.node (o1K_114 P) (.node (o1K_178 P) .nil .nil) (.node (o1A_242 P) .nil .nil)))) (.node (o1I_26 P) (.node (o1K_42 P) (.node (o1K_74 P) (.node (o1K_138 P) .nil .nil) (.node (o1K_202 P) .nil .nil)) (.node (o1K_106 P) (.node (o1K_170 P) .nil .nil) (.node (o1A_234 P) .nil .nil))) (.node (o1K_58 P) (.node (o1K_90 P) (.node (o1K_154 P) .nil .nil) (.node (o1K_218 P) .nil .nil)) (.node (o1K_122 P) (.node (o1K_186 P) .nil .nil) .nil)))) (.node (o1I_14 P) (.node (o1I_22 P) (.node (o1K_38 P) (.node (o1K_70 P) (.node (o1K_134 P) .nil .nil) (.node (o1K_198 P) .nil .nil)) (.node (o1K_102 P) (.node (o1K_166 P) .nil .nil) (.node (o1A_230 P) .nil .nil))) (.node (o1K_54 P) (.node (o1K_86 P) (.node (o1K_150 P) .nil .nil) (.node (o1K_214 P) .nil .nil)) (.node (o1K_118 P) (.node (o1K_182 P) .nil .nil) (.node (o1A_246 P) .nil .nil)))) (.node (o11_30 P) (.node (o1K_46 P) (.node (o1K_78 P) (.node (o1K_142 P) .nil .nil) (.node (o1K_206 P) .nil .nil)) (.node (o1K_110 P) (.node (o1K_174 P) .nil .nil) (.node (o1A_238 P) .nil .nil))) (.node (o1K_62 P) (.node (o1K_94 P) (.node (o1K_158 P) .nil .nil) (.node (o1K_222 P) .nil .nil)) (.node (o1K_126 P) (.node (o1K_190 P) .nil .nil) .nil)))))))
abbrev n1A : Nat := 247
abbrev t1A : Nat := 681
noncomputable def tr1D (P : Params) (G : Nat → Obj) : BT := (.node (o1I_0 P) (.node (o1I_1 P) (.node (o1A_3 P) (.node (o1I_7 P) (.node (o1I_15 P) (.node (o11_31 P) (.node (o1K_63 P) (.node (o1K_127 P) (.node (G 255) .nil .nil) .nil) (.node (o1K_191 P) .nil .nil)) (.node (o1K_95 P) (.node (o1K_159 P) .nil .nil) (.node (o1K_223 P) .nil .nil))) (.node (o1K_47 P) (.node (o1K_79 P) (.node (o1K_143 P) (.node (G 271) .nil .nil) .nil) (.node (o1K_207 P) .nil .nil)) (.node (o1K_111 P) (.node (o1K_175 P) .nil .nil) (.node (o1A_239 P) .nil .nil)))) (.node (o1I_23 P) (.node (o1K_39 P) (.node (o1K_71 P) (.node (o1K_135 P) (.node (G 263) .nil .nil) .nil) (.node (o1K_199 P) .nil .nil)) (.node (o1K_103 P) (.node (o1K_167 P) .nil .nil) (.node (o1A_231 P) .nil .nil))) (.node (o1K_55 P) (.node (o1K_87 P) (.node (o1K_151 P) (.node (G 279) .nil .nil) .nil) (.node (o1K_215 P) .nil .nil)) (.node (o1K_119 P) (.node (o1K_183 P) .nil .nil) (.node (G 247) .nil .nil))))) (.node (o10_11 P) (.node (o1I_19 P) (.node (o1K_35 P) (.node (o1K_67 P) (.node (o1K_131 P) (.node (G 259) .nil .nil) .nil) (.node (o1K_195 P) .nil .nil)) (.node (o1K_99 P) (.node (o1K_163 P) .nil .nil) (.node (o1K_227 P) .nil .nil))) (.node (o1K_51 P) (.node (o1K_83 P) (.node (o1K_147 P) (.node (G 275) .nil .nil) .nil) (.node (o1K_211 P) .nil .nil)) (.node (o1K_115 P) (.node (o1K_179 P) .nil .nil) (.node (o1A_243 P) .nil .nil)))) (.node (o1I_27 P) (.node (o1K_43 P) (.node (o1K_75 P) (.node (o1K_139 P) (.node (G 267) .nil .nil) .nil) (.node (o1K_203 P) .nil .nil)) (.node (o1K_107 P) (.node (o1K_171 P) .nil .nil) (.node (o1A_235 P) .nil .nil))) (.node (o1K_59 P) (.node (o1K_91 P) (.node (o1K_155 P) (.node (G 283) .nil .nil) .nil) (.node (o1K_219 P) .nil .nil)) (.node (o1K_123 P) (.node (o1K_187 P) .nil .nil) (.node (G 251) .nil .nil)))))) (.node (o1I_5 P) (.node (o1I_9 P) (.node (o1I_17 P) (.node (o1K_33 P) (.node (o1K_65 P) (.node (o1K_129 P) (.node (G 257) .nil .nil) .nil) (.node (o1K_193 P) .nil .nil)) (.node (o1K_97 P) (.node (o1K_161 P) .nil .nil) (.node (o1K_225 P) .nil .nil))) (.node (o1K_49 P) (.node (o1K_81 P) (.node (o1K_145 P) (.node (G 273) .nil .nil) .nil) (.node (o1K_209 P) .nil .nil)) (.node (o1K_113 P) (.node (o1K_177 P) .nil .nil) (.node (o1A_241 P) .nil .nil)))) (.node (o1I_25 P) (.node (o1K_41 P) (.node (o1K_73 P) (.node (o1K_137 P) (.node (G 265) .nil .nil) .nil) (.node (o1K_201 P) .nil .nil)) (.node (o1K_105 P) (.node (o1K_169 P) .nil .nil) (.node (o1A_233 P) .nil .nil))) (.node (o1K_57 P) (.node (o1K_89 P) (.node (o1K_153 P) (.node (G 281) .nil .nil) .nil) (.node (o1K_217 P) .nil .nil)) (.node (o1K_121 P) (.node (o1K_185 P) .nil .nil) (.node (G 249) .nil .nil))))) (.node (o1I_13 P) (.node (o1I_21 P) (.node (o1K_37 P) (.node (o1K_69 P) (.node (o1K_133 P) (.node (G 261) .nil .nil) .nil) (.node (o1K_197 P) .nil .nil)) (.node (o1K_101 P) (.node (o1K_165 P) .nil .nil) (.node (o1A_229 P) .nil .nil))) (.node (o1K_53 P) (.node (o1K_85 P) (.node (o1K_149 P) (.node (G 277) .nil .nil) .nil) (.node (o1K_213 P) .nil .nil)) (.node (o1K_117 P) (.node (o1K_181 P) .nil .nil) (.node (o1A_245 P) .nil .nil)))) (.node (o1A_29 P) (.node (o1K_45 P) (.node (o1K_77 P) (.node (o1K_141 P) (.node (G 269) .nil .nil) .nil) (.node (o1K_205 P) .nil .nil)) (.node (o1K_109 P) (.node (o1K_173 P) .nil .nil) (.node (o1A_237 P) .nil .nil))) (.node (o1K_61 P) (.node (o1K_93 P) (.node (o1K_157 P) (.node (G 285) .nil .nil) .nil) (.node (o1K_221 P) .nil .nil)) (.node (o1K_125 P) (.node (o1K_189 P) .nil .nil) (.node (G 253) .nil .nil))))))) (.node (o1I_2 P) (.node (o1I_4 P) (.node (o1I_8 P) (.node (o1I_16 P) (.node (o1K_32 P) (.node (o1K_64 P) (.node (o1K_128 P) (.node (G 256) .nil .nil) .nil) (.node (o1K_192 P) .nil .nil)) (.node (o1K_96 P) (.node (o1K_160 P) .nil .nil) (.node (o1K_224 P) .nil .nil))) (.node (o1K_48 P) (.node (o1K_80 P) (.node (o1K_144 P) (.node (G 272) .nil .nil) .nil) (.node (o1K_208 P) .nil .nil)) (.node (o1K_112 P) (.node (o1K_176 P) .nil .nil) (.node (o1A_240 P) .nil .nil)))) (.node (o1I_24 P) (.node (o1K_40 P) (.node (o1K_72 P) (.node (o1K_136 P) (.node (G 264) .nil .nil) .nil) (.node (o1K_200 P) .nil .nil)) (.node (o1K_104 P) (.node (o1K_168 P) .nil .nil) (.node (o1A_232 P) .nil .nil))) (.node (o1K_56 P) (.node (o1K_88 P) (.node (o1K_152 P) (.node (G 280) .nil .nil) .nil) (.node (o1K_216 P) .nil .nil)) (.node (o1K_120 P) (.node (o1K_184 P) .nil .nil) (.node (G 248) .nil .nil))))) (.node (o1I_12 P) (.node (o1I_20 P) (.node (o1K_36 P) (.node (o1K_68 P) (.node (o1K_132 P) (.node (G 260) .nil .nil) .nil) (.node (o1K_196 P) .nil .nil)) (.node (o1K_100 P) (.node (o1K_164 P) .nil .nil) (.node (o1K_228 P) .nil .nil))) (.node (o1K_52 P) (.node (o1K_84 P) (.node (o1K_148 P) (.node (G 276) .nil .nil) .nil) (.node (o1K_212 P) .nil .nil)) (.node (o1K_116 P) (.node (o1K_180 P) .nil .nil) (.node (o1A_244 P) .nil .nil)))) (.node (o11_28 P) (.node (o1K_44 P) (.node (o1K_76 P) (.node (o1K_140 P) (.node (G 268) .nil .nil) .nil) (.node (o1K_204 P) .nil .nil)) (.node (o1K_108 P) (.node (o1K_172 P) .nil .nil) (.node (o1A_236 P) .nil .nil))) (.node (o1K_60 P) (.node (o1K_92 P) (.node (o1K_156 P) (.node (G 284) .nil .nil) .nil) (.node (o1K_220 P) .nil .nil)) (.node (o1K_124 P) (.node (o1K_188 P) .nil .nil) (.node (G 252) .nil .nil)))))) (.node (o1I_6 P) (.node (o1I_10 P) (.node (o1I_18 P) (.node (o1K_34 P) (.node (o1K_66 P) (.node (o1K_130 P) (.node (G 258) .nil .nil) .nil) (.node (o1K_194 P) .nil .nil)) (.node (o1K_98 P) (.node (o1K_162 P) .nil .nil) (.node (o1K_226 P) .nil .nil))) (.node (o1K_50 P) (.node (o1K_82 P) (.node (o1K_146 P) (.node (G 274) .nil .nil) .nil) (.node (o1K_210 P) .nil .nil)) (.node (o1K_114 P) (.node (o1K_178 P) .nil .nil) (.node (o1A_242 P) .nil .nil)))) (.node (o1I_26 P) (.node (o1K_42 P) (.node (o1K_74 P) (.node (o1K_138 P) (.node (G 266) .nil .nil) .nil) (.node (o1K_202 P) .nil .nil)) (.node (o1K_106 P) (.node (o1K_170 P) .nil .nil) (.node (o1A_234 P) .nil .nil))) (.node (o1K_58 P) (.node (o1K_90 P) (.node (o1K_154 P) (.node (G 282) .nil .nil) .nil) (.node (o1K_218 P) .nil .nil)) (.node (o1K_122 P) (.node (o1K_186 P) .nil .nil) (.node (G 250) .nil .nil))))) (.node (o1I_14 P) (.node (o1I_22 P) (.node (o1K_38 P) (.node (o1K_70 P) (.node (o1K_134 P) (.node (G 262) .nil .nil) .nil) (.node (o1K_198 P) .nil .nil)) (.node (o1K_102 P) (.node (o1K_166 P) .nil .nil) (.node (o1A_230 P) .nil .nil))) (.node (o1K_54 P) (.node (o1K_86 P) (.node (o1K_150 P) (.node (G 278) .nil .nil) .nil) (.node (o1K_214 P) .nil .nil)) (.node (o1K_118 P) (.node (o1K_182 P) .nil .nil) (.node (o1A_246 P) .nil .nil)))) (.node (o11_30 P) (.node (o1K_46 P) (.node (o1K_78 P) (.node (o1K_142 P) (.node (G 270) .nil .nil) .nil) (.node (o1K_206 P) .nil .nil)) (.node (o1K_110 P) (.node (o1K_174 P) .nil .nil) (.node (o1A_238 P) .nil .nil))) (.node (o1K_62 P) (.node (o1K_94 P) (.node (o1K_158 P) .nil .nil) (.node (o1K_222 P) .nil .nil)) (.node (o1K_126 P) (.node (o1K_190 P) .nil .nil) (.node (G 254) .nil .nil))))))))
noncomputable def o1B_3 (P : Params) : Obj := ⟨.type "dict", none, .dict (List.toArray [⟨PyData.keyHash P (S "__name__"), .str (S "__name__") 165, .str (S "cpy313.stringprep") 612⟩, ⟨PyData.keyHash P (S "__doc__"), .str (S "__doc__") 166, .none⟩, ⟨PyData.keyHash P (S "__package__"), .str (S "__package__") 167, .none⟩, ⟨PyData.keyHash P (S "__loader__"), .str (S "__loader__") 168, .builtin "__main__.__loader__#opaque"⟩, ⟨PyData.keyHash P (S "__spec__"), .str (S "__spec__") 169, .none⟩, ⟨PyData.keyHash P (S "__annotations__"), .str (S "__annotations__") 170, .ref 6⟩, ⟨PyData.keyHash P (S "__builtins__"), .str (S "__builtins__") 171, .ref 4⟩, ⟨PyData.keyHash P (S "__file__"), .str (S "__file__") 173, .str (S "/claim/cut.py") 172⟩, ⟨PyData.keyHash P (S "__cached__"), .str (S "__cached__") 174, .none⟩, ⟨PyData.keyHash P (S "_sre"), .str (S "_sre") 275, .ref 12⟩, ⟨PyData.keyHash P (S "_wall"), .str (S "_wall") 288, .ref 38⟩, ⟨PyData.keyHash P (S "tspecials"), .str (S "tspecials") 324, .ref 43⟩, ⟨PyData.keyHash P (S "_name_disallowed_re"), .str (S "_name_disallowed_re") 350, .ref 48⟩, ⟨PyData.keyHash P (S "_value_disallowed_re"), .str (S "_value_disallowed_re") 384, .ref 53⟩, ⟨PyData.keyHash P (S "_formatparam"), .str (S "_formatparam") 394, .ref 61⟩, ⟨PyData.keyHash P (S "Headers"), .str (S "Headers") 551, .ref 182⟩, ⟨PyData.keyHash P (S "_netrclex"), .str (S "_netrclex") 611, .ref 224⟩, ⟨PyData.keyHash P (S "b1_set"), .str (S "b1_set") 673, .ref 236⟩, ⟨PyData.keyHash P (S "in_table_b1"), .str (S "in_table_b1") 680, .ref 246⟩, ⟨PyData.keyHash P (S "b3_exceptions"), .str (S "b3_exceptions") 2631, .ref 247⟩]) 20, #[]⟩
noncomputable def tr1B (P : Params) (G : Nat → Obj) : BT := (.node (o1I_0 P) (.node (o1I_1 P) (.node (o1B_3 P) (.node (o1I_7 P) (.node (o1I_15 P) (.node (o11_31 P) (.node (o1K_63 P) (.node (o1K_127 P) (.node (G 255) .nil .nil) .nil) (.node (o1K_191 P) .nil .nil)) (.node (o1K_95 P) (.node (o1K_159 P) .nil .nil) (.node (o1K_223 P) .nil .nil))) (.node (o1K_47 P) (.node (o1K_79 P) (.node (o1K_143 P) (.node (G 271) .nil .nil) .nil) (.node (o1K_207 P) .nil .nil)) (.node (o1K_111 P) (.node (o1K_175 P) .nil .nil) (.node (o1A_239 P) .nil .nil)))) (.node (o1I_23 P) (.node (o1K_39 P) (.node (o1K_71 P) (.node (o1K_135 P) (.node (G 263) .nil .nil) .nil) (.node (o1K_199 P) .nil .nil)) (.node (o1K_103 P) (.node (o1K_167 P) .nil .nil) (.node (o1A_231 P) .nil .nil))) (.node (o1K_55 P) (.node (o1K_87 P) (.node (o1K_151 P) (.node (G 279) .nil .nil) .nil) (.node (o1K_215 P) .nil .nil)) (.node (o1K_119 P) (.node (o1K_183 P) .nil .nil) (.node (G 247) .nil .nil))))) (.node (o10_11 P) (.node (o1I_19 P) (.node (o1K_35 P) (.node (o1K_67 P) (.node (o1K_131 P) (.node (G 259) .nil .nil) .nil) (.node (o1K_195 P) .nil .nil)) (.node (o1K_99 P) (.node (o1K_163 P) .nil .nil) (.node (o1K_227 P) .nil .nil))) (.node (o1K_51 P) (.node (o1K_83 P) (.node (o1K_147 P) (.node (G 275) .nil .nil) .nil) (.node (o1K_211 P) .nil .nil)) (.node (o1K_115 P) (.node (o1K_179 P) .nil .nil) (.node (o1A_243 P) .nil .nil)))) (.node (o1I_27 P) (.node (o1K_43 P) (.node (o1K_75 P) (.node (o1K_139 P) (.node (G 267) .nil .nil) .nil) (.node (o1K_203 P) .nil .nil)) (.node (o1K_107 P) (.node (o1K_171 P) .nil .nil) (.node (o1A_235 P) .nil .nil))) (.node (o1K_59 P) (.node (o1K_91 P) (.node (o1K_155 P) (.node (G 283) .nil .nil) .nil) (.node (o1K_219 P) .nil .nil)) (.node (o1K_123 P) (.node (o1K_187 P) .nil .nil) (.node (G 251) .nil .nil)))))) (.node (o1I_5 P) (.node (o1I_9 P) (.node (o1I_17 P) (.node (o1K_33 P) (.node (o1K_65 P) (.node (o1K_129 P) (.node (G 257) .nil .nil) .nil) (.node (o1K_193 P) .nil .nil)) (.node (o1K_97 P) (.node (o1K_161 P) .nil .nil) (.node (o1K_225 P) .nil .nil))) (.node (o1K_49 P) (.node (o1K_81 P) (.node (o1K_145 P) (.node (G 273) .nil .nil) .nil) (.node (o1K_209 P) .nil .nil)) (.node (o1K_113 P) (.node (o1K_177 P) .nil .nil) (.node (o1A_241 P) .nil .nil)))) (.node (o1I_25 P) (.node (o1K_41 P) (.node (o1K_73 P) (.node (o1K_137 P) (.node (G 265) .nil .nil) .nil) (.node (o1K_201 P) .nil .nil)) (.node (o1K_105 P) (.node (o1K_169 P) .nil .nil) (.node (o1A_233 P) .nil .nil))) (.node (o1K_57 P) (.node (o1K_89 P) (.node (o1K_153 P) (.node (G 281) .nil .nil) .nil) (.node (o1K_217 P) .nil .nil)) (.node (o1K_121 P) (.node (o1K_185 P) .nil .nil) (.node (G 249) .nil .nil))))) (.node (o1I_13 P) (.node (o1I_21 P) (.node (o1K_37 P) (.node (o1K_69 P) (.node (o1K_133 P) (.node (G 261) .nil .nil) .nil) (.node (o1K_197 P) .nil .nil)) (.node (o1K_101 P) (.node (o1K_165 P) .nil .nil) (.node (o1A_229 P) .nil .nil))) (.node (o1K_53 P) (.node (o1K_85 P) (.node (o1K_149 P) (.node (G 277) .nil .nil) .nil) (.node (o1K_213 P) .nil .nil)) (.node (o1K_117 P) (.node (o1K_181 P) .nil .nil) (.node (o1A_245 P) .nil .nil)))) (.node (o1A_29 P) (.node (o1K_45 P) (.node (o1K_77 P) (.node (o1K_141 P) (.node (G 269) .nil .nil) .nil) (.node (o1K_205 P) .nil .nil)) (.node (o1K_109 P) (.node (o1K_173 P) .nil .nil) (.node (o1A_237 P) .nil .nil))) (.node (o1K_61 P) (.node (o1K_93 P) (.node (o1K_157 P) (.node (G 285) .nil .nil) .nil) (.node (o1K_221 P) .nil .nil)) (.node (o1K_125 P) (.node (o1K_189 P) .nil .nil) (.node (G 253) .nil .nil))))))) (.node (o1I_2 P) (.node (o1I_4 P) (.node (o1I_8 P) (.node (o1I_16 P) (.node (o1K_32 P) (.node (o1K_64 P) (.node (o1K_128 P) (.node (G 256) .nil .nil) .nil) (.node (o1K_192 P) .nil .nil)) (.node (o1K_96 P) (.node (o1K_160 P) .nil .nil) (.node (o1K_224 P) .nil .nil))) (.node (o1K_48 P) (.node (o1K_80 P) (.node (o1K_144 P) (.node (G 272) .nil .nil) .nil) (.node (o1K_208 P) .nil .nil)) (.node (o1K_112 P) (.node (o1K_176 P) .nil .nil) (.node (o1A_240 P) .nil .nil)))) (.node (o1I_24 P) (.node (o1K_40 P) (.node (o1K_72 P) (.node (o1K_136 P) (.node (G 264) .nil .nil) .nil) (.node (o1K_200 P) .nil .nil)) (.node (o1K_104 P) (.node (o1K_168 P) .nil .nil) (.node (o1A_232 P) .nil .nil))) (.node (o1K_56 P) (.node (o1K_88 P) (.node (o1K_152 P) (.node (G 280) .nil .nil) .nil) (.node (o1K_216 P) .nil .nil)) (.node (o1K_120 P) (.node (o1K_184 P) .nil .nil) (.node (G 248) .nil .nil))))) (.node (o1I_12 P) (.node (o1I_20 P) (.node (o1K_36 P) (.node (o1K_68 P) (.node (o1K_132 P) (.node (G 260) .nil .nil) .nil) (.node (o1K_196 P) .nil .nil)) (.node (o1K_100 P) (.node (o1K_164 P) .nil .nil) (.node (o1K_228 P) .nil .nil))) (.node (o1K_52 P) (.node (o1K_84 P) (.node (o1K_148 P) (.node (G 276) .nil .nil) .nil) (.node (o1K_212 P) .nil .nil)) (.node (o1K_116 P) (.node (o1K_180 P) .nil .nil) (.node (o1A_244 P) .nil .nil)))) (.node (o11_28 P) (.node (o1K_44 P) (.node (o1K_76 P) (.node (o1K_140 P) (.node (G 268) .nil .nil) .nil) (.node (o1K_204 P) .nil .nil)) (.node (o1K_108 P) (.node (o1K_172 P) .nil .nil) (.node (o1A_236 P) .nil .nil))) (.node (o1K_60 P) (.node (o1K_92 P) (.node (o1K_156 P) (.node (G 284) .nil .nil) .nil) (.node (o1K_220 P) .nil .nil)) (.node (o1K_124 P) (.node (o1K_188 P) .nil .nil) (.node (G 252) .nil .nil)))))) (.node (o1I_6 P) (.node (o1I_10 P) (.node (o1I_18 P) (.node (o1K_34 P) (.node (o1K_66 P) (.node (o1K_130 P) (.node (G 258) .nil .nil) .nil) (.node (o1K_194 P) .nil .nil)) (.node (o1K_98 P) (.node (o1K_162 P) .nil .nil) (.node (o1K_226 P) .nil .nil))) (.node (o1K_50 P) (.node (o1K_82 P) (.node (o1K_146 P) (.node (G 274) .nil .nil) .nil) (.node (o1K_210 P) .nil .nil)) (.node (o1K_114 P) (.node (o1K_178 P) .nil .nil) (.node (o1A_242 P) .nil .nil)))) (.node (o1I_26 P) (.node (o1K_42 P) (.node (o1K_74 P) (.node (o1K_138 P) (.node (G 266) .nil .nil) .nil) (.node (o1K_202 P) .nil .nil)) (.node (o1K_106 P) (.node (o1K_170 P) .nil .nil) (.node (o1A_234 P) .nil .nil))) (.node (o1K_58 P) (.node (o1K_90 P) (.node (o1K_154 P) (.node (G 282) .nil .nil) .nil) (.node (o1K_218 P) .nil .nil)) (.node (o1K_122 P) (.node (o1K_186 P) .nil .nil) (.node (G 250) .nil .nil))))) (.node (o1I_14 P) (.node (o1I_22 P) (.node (o1K_38 P) (.node (o1K_70 P) (.node (o1K_134 P) (.node (G 262) .nil .nil) .nil) (.node (o1K_198 P) .nil .nil)) (.node (o1K_102 P) (.node (o1K_166 P) .nil .nil) (.node (o1A_230 P) .nil .nil))) (.node (o1K_54 P) (.node (o1K_86 P) (.node (o1K_150 P) (.node (G 278) .nil .nil) .nil) (.node (o1K_214 P) .nil .nil)) (.node (o1K_118 P) (.node (o1K_182 P) .nil .nil) (.node (o1A_246 P) .nil .nil)))) (.node (o11_30 P) (.node (o1K_46 P) (.node (o1K_78 P) (.node (o1K_142 P) (.node (G 270) .nil .nil) .nil) (.node (o1K_206 P) .nil .nil)) (.node (o1K_110 P) (.node (o1K_174 P) .nil .nil) (.node (o1A_238 P) .nil .nil))) (.node (o1K_62 P) (.node (o1K_94 P) (.node (o1K_158 P) .nil .nil) (.node (o1K_222 P) .nil .nil)) (.node (o1K_126 P) (.node (o1K_190 P) .nil .nil) (.node (G 254) .nil .nil))))))))
abbrev n1B : Nat := 286
abbrev t1B : Nat := 2632
noncomputable def o1C_3 (P : Params) : Obj := ⟨.type "dict", none, .dict (List.toArray [⟨PyData.keyHash P (S "__name__"), .str (S "__name__") 165, .str (S "law_sh0067_01") 2640⟩, ⟨PyData.keyHash P (S "__doc__"), .str (S "__doc__") 166, .none⟩, ⟨PyData.keyHash P (S "__package__"), .str (S "__package__") 167, .none⟩, ⟨PyData.keyHash P (S "__loader__"), .str (S "__loader__") 168, .builtin "__main__.__loader__#opaque"⟩, ⟨PyData.keyHash P (S "__spec__"), .str (S "__spec__") 169, .none⟩, ⟨PyData.keyHash P (S "__annotations__"), .str (S "__annotations__") 170, .ref 6⟩, ⟨PyData.keyHash P (S "__builtins__"), .str (S "__builtins__") 171, .ref 4⟩, ⟨PyData.keyHash P (S "__file__"), .str (S "__file__") 173, .str (S "/claim/cut.py") 172⟩, ⟨PyData.keyHash P (S "__cached__"), .str (S "__cached__") 174, .none⟩, ⟨PyData.keyHash P (S "_sre"), .str (S "_sre") 275, .ref 12⟩, ⟨PyData.keyHash P (S "_wall"), .str (S "_wall") 288, .ref 38⟩, ⟨PyData.keyHash P (S "tspecials"), .str (S "tspecials") 324, .ref 43⟩, ⟨PyData.keyHash P (S "_name_disallowed_re"), .str (S "_name_disallowed_re") 350, .ref 48⟩, ⟨PyData.keyHash P (S "_value_disallowed_re"), .str (S "_value_disallowed_re") 384, .ref 53⟩, ⟨PyData.keyHash P (S "_formatparam"), .str (S "_formatparam") 394, .ref 61⟩, ⟨PyData.keyHash P (S "Headers"), .str (S "Headers") 551, .ref 182⟩, ⟨PyData.keyHash P (S "_netrclex"), .str (S "_netrclex") 611, .ref 224⟩, ⟨PyData.keyHash P (S "b1_set"), .str (S "b1_set") 673, .ref 236⟩, ⟨PyData.keyHash P (S "in_table_b1"), .str (S "in_table_b1") 680, .ref 246⟩, ⟨PyData.keyHash P (S "b3_exceptions"), .str (S "b3_exceptions") 2631, .ref 247⟩, ⟨PyData.keyHash P (S "map_table_b3"), .str (S "map_table_b3") 2639, .ref 292⟩, ⟨PyData.keyHash P (S "_law_lexer"), .str (S "_law_lexer") 2651, .ref 299⟩, ⟨PyData.keyHash P (S "_law_nothing"), .str (S "_law_nothing") 2659, .ref 306⟩, ⟨PyData.keyHash P (S "_law_prepared"), .str (S "_law_prepared") 2665, .ref 311⟩, ⟨PyData.keyHash P (S "law"), .str (S "law") 2671, .ref 316⟩]) 25, #[]⟩
noncomputable def o1C_29 (P : Params) : Obj := ⟨.none, none, .fields #[.int 2 0, .int 0 0, .ref 37, .int 9 0, .int 0 0, .ref 60, .int 18 0, .int 0 0, .ref 67, .int 101 0, .int 0 0, .ref 192, .int 146 0, .int 0 0, .ref 245, .int 149 0, .int 0 0, .ref 291, .int 155 0, .int 0 0, .ref 298, .int 163 0, .int 0 0, .ref 305, .int 166 0, .int 0 0, .ref 310, .int 168 0, .int 0 0, .ref 315], #[]⟩
noncomputable def o1C_286 (P : Params) : Obj := ⟨.type "tuple", none, .seq #[] 0, #[]⟩
noncomputable def o1C_287 (P : Params) : Obj := ⟨.none, none, .fields #[], #[]⟩
noncomputable def o1C_288 (P : Params) : Obj := ⟨.type "tuple", none, .seq #[.str (S "code") 2635, .str (S "r") 2636] 0, #[]⟩
noncomputable def o1C_289 (P : Params) : Obj := ⟨.type "tuple", none, .seq #[] 0, #[]⟩
noncomputable def o1C_290 (P : Params) : Obj := ⟨.none, none, .func { name := (S "map_table_b3"), qualname := (S "map_table_b3"), params := (dP [14]), body := .stmts (dB [14]), scope := (dS [14]), globals := 0, closure := [], defaults := .none, kwdefaults := .none, doc := .none, pyModule := .none, annotations := none, code := .none, closureTuple := .none, builtins := 0 : FuncData }, #[]⟩
noncomputable def o1C_291 (P : Params) : Obj := ⟨.type "code", none, .fields #[.str (S "map_table_b3") 2632, .str (S "map_table_b3") 2633, .str (S "/claim/cut.py") 2634, .int 149 0, .int 1 0, .int 0 0, .int 0 0, .int 3 0, .ref 286, .bool true, .int 276 0, .ref 287, .none, .ref 288, .ref 289, .ref 290, .int 2637 0, .int 149 0, .str (S "/claim/cut.py") 2638], #[]⟩
noncomputable def o1C_292 (P : Params) : Obj := ⟨.type "function", none, .func { name := (S "map_table_b3"), qualname := (S "map_table_b3"), params := (dP [14]), body := .stmts (dB [14]), scope := (dS [14]), globals := 3, closure := [], defaults := .none, kwdefaults := .none, doc := .none, pyModule := .str (S "cpy313.stringprep") 612, annotations := none, code := .ref 291, closureTuple := .none, builtins := 0 : FuncData }, #[]⟩
noncomputable def o1C_293 (P : Params) : Obj := ⟨.type "tuple", none, .seq #[] 0, #[]⟩
noncomputable def o1C_294 (P : Params) : Obj := ⟨.none, none, .fields #[], #[]⟩
noncomputable def o1C_295 (P : Params) : Obj := ⟨.type "tuple", none, .seq #[.str (S "text") 2645, .str (S "read") 2646, .str (S "tape") 2647] 0, #[]⟩
noncomputable def o1C_296 (P : Params) : Obj := ⟨.type "tuple", none, .seq #[.str (S "left") 2648] 0, #[]⟩
noncomputable def o1C_297 (P : Params) : Obj := ⟨.none, none, .func { name := (S "_law_lexer"), qualname := (S "_law_lexer"), params := (dP [16]), body := .stmts (dB [16]), scope := (dS [16]), globals := 0, closure := [], defaults := .none, kwdefaults := .none, doc := .none, pyModule := .none, annotations := none, code := .none, closureTuple := .none, builtins := 0 : FuncData }, #[]⟩
noncomputable def o1C_298 (P : Params) : Obj := ⟨.type "code", none, .fields #[.str (S "_law_lexer") 2642, .str (S "_law_lexer") 2643, .str (S "/claim/cut.py") 2644, .int 155 0, .int 1 0, .int 0 0, .int 0 0, .int 3 0, .ref 293, .bool true, .int 276 0, .ref 294, .none, .ref 295, .ref 296, .ref 297, .int 2649 0, .int 155 0, .str (S "/claim/cut.py") 2650], #[]⟩
noncomputable def o1C_299 (P : Params) : Obj := ⟨.type "function", none, .func { name := (S "_law_lexer"), qualname := (S "_law_lexer"), params := (dP [16]), body := .stmts (dB [16]), scope := (dS [16]), globals := 3, closure := [], defaults := .none, kwdefaults := .none, doc := .none, pyModule := .str (S "law_sh0067_01") 2640, annotations := none, code := .ref 298, closureTuple := .none, builtins := 0 : FuncData }, #[]⟩
noncomputable def o1C_300 (P : Params) : Obj := ⟨.type "tuple", none, .seq #[] 0, #[]⟩
noncomputable def o1C_301 (P : Params) : Obj := ⟨.none, none, .fields #[], #[]⟩
noncomputable def o1C_302 (P : Params) : Obj := ⟨.type "tuple", none, .seq #[.str (S "place") 2655, .str (S "codes") 2656] 0, #[]⟩
noncomputable def o1C_303 (P : Params) : Obj := ⟨.type "tuple", none, .seq #[] 0, #[]⟩
noncomputable def o1C_304 (P : Params) : Obj := ⟨.none, none, .func { name := (S "_law_nothing"), qualname := (S "_law_nothing"), params := (dP [17]), body := .stmts (dB [17]), scope := (dS [17]), globals := 0, closure := [], defaults := .none, kwdefaults := .none, doc := .none, pyModule := .none, annotations := none, code := .none, closureTuple := .none, builtins := 0 : FuncData }, #[]⟩
noncomputable def o1C_305 (P : Params) : Obj := ⟨.type "code", none, .fields #[.str (S "_law_nothing") 2652, .str (S "_law_nothing") 2653, .str (S "/claim/cut.py") 2654, .int 163 0, .int 1 0, .int 0 0, .int 0 0, .int 3 0, .ref 300, .bool true, .int 276 0, .ref 301, .none, .ref 302, .ref 303, .ref 304, .int 2657 0, .int 163 0, .str (S "/claim/cut.py") 2658], #[]⟩
noncomputable def o1C_306 (P : Params) : Obj := ⟨.type "function", none, .func { name := (S "_law_nothing"), qualname := (S "_law_nothing"), params := (dP [17]), body := .stmts (dB [17]), scope := (dS [17]), globals := 3, closure := [], defaults := .none, kwdefaults := .none, doc := .none, pyModule := .str (S "law_sh0067_01") 2640, annotations := none, code := .ref 305, closureTuple := .none, builtins := 0 : FuncData }, #[]⟩
noncomputable def o1C_307 (P : Params) : Obj := ⟨.type "tuple", none, .seq #[] 0, #[]⟩
noncomputable def o1C_308 (P : Params) : Obj := ⟨.none, none, .fields #[], #[]⟩
noncomputable def o1C_309 (P : Params) : Obj := ⟨.none, none, .func { name := (S "_law_prepared"), qualname := (S "_law_prepared"), params := (dP [18]), body := .stmts (dB [18]), scope := (dS [18]), globals := 0, closure := [], defaults := .none, kwdefaults := .none, doc := .none, pyModule := .none, annotations := none, code := .none, closureTuple := .none, builtins := 0 : FuncData }, #[]⟩
noncomputable def o1C_310 (P : Params) : Obj := ⟨.type "code", none, .fields #[.str (S "_law_prepared") 2660, .str (S "_law_prepared") 2661, .str (S "/claim/cut.py") 2662, .int 166 0, .int 1 0, .int 0 0, .int 0 0, .int 3 0, .ref 307, .bool true, .int 276 0, .ref 308, .none, .none, .none, .ref 309, .int 2663 0, .int 166 0, .str (S "/claim/cut.py") 2664], #[]⟩
noncomputable def o1C_311 (P : Params) : Obj := ⟨.type "function", none, .func { name := (S "_law_prepared"), qualname := (S "_law_prepared"), params := (dP [18]), body := .stmts (dB [18]), scope := (dS [18]), globals := 3, closure := [], defaults := .none, kwdefaults := .none, doc := .none, pyModule := .str (S "law_sh0067_01") 2640, annotations := none, code := .ref 310, closureTuple := .none, builtins := 0 : FuncData }, #[]⟩
noncomputable def o1C_312 (P : Params) : Obj := ⟨.type "tuple", none, .seq #[] 0, #[]⟩
noncomputable def o1C_313 (P : Params) : Obj := ⟨.none, none, .fields #[], #[]⟩
noncomputable def o1C_314 (P : Params) : Obj := ⟨.none, none, .func { name := (S "law"), qualname := (S "law"), params := (dP [19]), body := .stmts (dB [19]), scope := (dS [19]), globals := 0, closure := [], defaults := .none, kwdefaults := .none, doc := .none, pyModule := .none, annotations := none, code := .none, closureTuple := .none, builtins := 0 : FuncData }, #[]⟩
noncomputable def o1C_315 (P : Params) : Obj := ⟨.type "code", none, .fields #[.str (S "law") 2666, .str (S "law") 2667, .str (S "/claim/cut.py") 2668, .int 168 0, .int 1 0, .int 0 0, .int 0 0, .int 3 0, .ref 312, .bool true, .int 276 0, .ref 313, .none, .none, .none, .ref 314, .int 2669 0, .int 168 0, .str (S "/claim/cut.py") 2670], #[]⟩
noncomputable def o1C_316 (P : Params) : Obj := ⟨.type "function", none, .func { name := (S "law"), qualname := (S "law"), params := (dP [19]), body := .stmts (dB [19]), scope := (dS [19]), globals := 3, closure := [], defaults := .none, kwdefaults := .none, doc := .none, pyModule := .str (S "law_sh0067_01") 2640, annotations := none, code := .ref 315, closureTuple := .none, builtins := 0 : FuncData }, #[]⟩
noncomputable def tr1C (P : Params) (G : Nat → Obj) : BT := (.node (o1I_0 P) (.node (o1I_1 P) (.node (o1C_3 P) (.node (o1I_7 P) (.node (o1I_15 P) (.node (o11_31 P) (.node (o1K_63 P) (.node (o1K_127 P) (.node (G 255) .nil .nil) .nil) (.node (o1K_191 P) .nil .nil)) (.node (o1K_95 P) (.node (o1K_159 P) (.node (o1C_287 P) .nil .nil) .nil) (.node (o1K_223 P) .nil .nil))) (.node (o1K_47 P) (.node (o1K_79 P) (.node (o1K_143 P) (.node (G 271) .nil .nil) .nil) (.node (o1K_207 P) .nil .nil)) (.node (o1K_111 P) (.node (o1K_175 P) (.node (o1C_303 P) .nil .nil) .nil) (.node (o1A_239 P) .nil .nil)))) (.node (o1I_23 P) (.node (o1K_39 P) (.node (o1K_71 P) (.node (o1K_135 P) (.node (G 263) .nil .nil) .nil) (.node (o1K_199 P) .nil .nil)) (.node (o1K_103 P) (.node (o1K_167 P) (.node (o1C_295 P) .nil .nil) .nil) (.node (o1A_231 P) .nil .nil))) (.node (o1K_55 P) (.node (o1K_87 P) (.node (o1K_151 P) (.node (G 279) .nil .nil) .nil) (.node (o1K_215 P) .nil .nil)) (.node (o1K_119 P) (.node (o1K_183 P) (.node (o1C_311 P) .nil .nil) .nil) (.node (G 247) .nil .nil))))) (.node (o10_11 P) (.node (o1I_19 P) (.node (o1K_35 P) (.node (o1K_67 P) (.node (o1K_131 P) (.node (G 259) .nil .nil) .nil) (.node (o1K_195 P) .nil .nil)) (.node (o1K_99 P) (.node (o1K_163 P) (.node (o1C_291 P) .nil .nil) .nil) (.node (o1K_227 P) .nil .nil))) (.node (o1K_51 P) (.node (o1K_83 P) (.node (o1K_147 P) (.node (G 275) .nil .nil) .nil) (.node (o1K_211 P) .nil .nil)) (.node (o1K_115 P) (.node (o1K_179 P) (.node (o1C_307 P) .nil .nil) .nil) (.node (o1A_243 P) .nil .nil)))) (.node (o1I_27 P) (.node (o1K_43 P) (.node (o1K_75 P) (.node (o1K_139 P) (.node (G 267) .nil .nil) .nil) (.node (o1K_203 P) .nil .nil)) (.node (o1K_107 P) (.node (o1K_171 P) (.node (o1C_299 P) .nil .nil) .nil) (.node (o1A_235 P) .nil .nil))) (.node (o1K_59 P) (.node (o1K_91 P) (.node (o1K_155 P) (.node (G 283) .nil .nil) .nil) (.node (o1K_219 P) .nil .nil)) (.node (o1K_123 P) (.node (o1K_187 P) (.node (o1C_315 P) .nil .nil) .nil) (.node (G 251) .nil .nil)))))) (.node (o1I_5 P) (.node (o1I_9 P) (.node (o1I_17 P) (.node (o1K_33 P) (.node (o1K_65 P) (.node (o1K_129 P) (.node (G 257) .nil .nil) .nil) (.node (o1K_193 P) .nil .nil)) (.node (o1K_97 P) (.node (o1K_161 P) (.node (o1C_289 P) .nil .nil) .nil) (.node (o1K_225 P) .nil .nil))) (.node (o1K_49 P) (.node (o1K_81 P) (.node (o1K_145 P) (.node (G 273) .nil .nil) .nil) (.node (o1K_209 P) .nil .nil)) (.node (o1K_113 P) (.node (o1K_177 P) (.node (o1C_305 P) .nil .nil) .nil) (.node (o1A_241 P) .nil .nil)))) (.node (o1I_25 P) (.node (o1K_41 P) (.node (o1K_73 P) (.node (o1K_137 P) (.node (G 265) .nil .nil) .nil) (.node (o1K_201 P) .nil .nil)) (.node (o1K_105 P) (.node (o1K_169 P) (.node (o1C_297 P) .nil .nil) .nil) (.node (o1A_233 P) .nil .nil))) (.node (o1K_57 P) (.node (o1K_89 P) (.node (o1K_153 P) (.node (G 281) .nil .nil) .nil) (.node (o1K_217 P) .nil .nil)) (.node (o1K_121 P) (.node (o1K_185 P) (.node (o1C_313 P) .nil .nil) .nil) (.node (G 249) .nil .nil))))) (.node (o1I_13 P) (.node (o1I_21 P) (.node (o1K_37 P) (.node (o1K_69 P) (.node (o1K_133 P) (.node (G 261) .nil .nil) .nil) (.node (o1K_197 P) .nil .nil)) (.node (o1K_101 P) (.node (o1K_165 P) (.node (o1C_293 P) .nil .nil) .nil) (.node (o1A_229 P) .nil .nil))) (.node (o1K_53 P) (.node (o1K_85 P) (.node (o1K_149 P) (.node (G 277) .nil .nil) .nil) (.node (o1K_213 P) .nil .nil)) (.node (o1K_117 P) (.node (o1K_181 P) (.node (o1C_309 P) .nil .nil) .nil) (.node (o1A_245 P) .nil .nil)))) (.node (o1C_29 P) (.node (o1K_45 P) (.node (o1K_77 P) (.node (o1K_141 P) (.node (G 269) .nil .nil) .nil) (.node (o1K_205 P) .nil .nil)) (.node (o1K_109 P) (.node (o1K_173 P) (.node (o1C_301 P) .nil .nil) .nil) (.node (o1A_237 P) .nil .nil))) (.node (o1K_61 P) (.node (o1K_93 P) (.node (o1K_157 P) (.node (G 285) .nil .nil) .nil) (.node (o1K_221 P) .nil .nil)) (.node (o1K_125 P) (.node (o1K_189 P) .nil .nil) (.node (G 253) .nil .nil))))))) (.node (o1I_2 P) (.node (o1I_4 P) (.node (o1I_8 P) (.node (o1I_16 P) (.node (o1K_32 P) (.node (o1K_64 P) (.node (o1K_128 P) (.node (G 256) .nil .nil) .nil) (.node (o1K_192 P) .nil .nil)) (.node (o1K_96 P) (.node (o1K_160 P) (.node (o1C_288 P) .nil .nil) .nil) (.node (o1K_224 P) .nil .nil))) (.node (o1K_48 P) (.node (o1K_80 P) (.node (o1K_144 P) (.node (G 272) .nil .nil) .nil) (.node (o1K_208 P) .nil .nil)) (.node (o1K_112 P) (.node (o1K_176 P) (.node (o1C_304 P) .nil .nil) .nil) (.node (o1A_240 P) .nil .nil)))) (.node (o1I_24 P) (.node (o1K_40 P) (.node (o1K_72 P) (.node (o1K_136 P) (.node (G 264) .nil .nil) .nil) (.node (o1K_200 P) .nil .nil)) (.node (o1K_104 P) (.node (o1K_168 P) (.node (o1C_296 P) .nil .nil) .nil) (.node (o1A_232 P) .nil .nil))) (.node (o1K_56 P) (.node (o1K_88 P) (.node (o1K_152 P) (.node (G 280) .nil .nil) .nil) (.node (o1K_216 P) .nil .nil)) (.node (o1K_120 P) (.node (o1K_184 P) (.node (o1C_312 P) .nil .nil) .nil) (.node (G 248) .nil .nil))))) (.node (o1I_12 P) (.node (o1I_20 P) (.node (o1K_36 P) (.node (o1K_68 P) (.node (o1K_132 P) (.node (G 260) .nil .nil) .nil) (.node (o1K_196 P) .nil .nil)) (.node (o1K_100 P) (.node (o1K_164 P) (.node (o1C_292 P) .nil .nil) .nil) (.node (o1K_228 P) .nil .nil))) (.node (o1K_52 P) (.node (o1K_84 P) (.node (o1K_148 P) (.node (G 276) .nil .nil) .nil) (.node (o1K_212 P) .nil .nil)) (.node (o1K_116 P) (.node (o1K_180 P) (.node (o1C_308 P) .nil .nil) .nil) (.node (o1A_244 P) .nil .nil)))) (.node (o11_28 P) (.node (o1K_44 P) (.node (o1K_76 P) (.node (o1K_140 P) (.node (G 268) .nil .nil) .nil) (.node (o1K_204 P) .nil .nil)) (.node (o1K_108 P) (.node (o1K_172 P) (.node (o1C_300 P) .nil .nil) .nil) (.node (o1A_236 P) .nil .nil))) (.node (o1K_60 P) (.node (o1K_92 P) (.node (o1K_156 P) (.node (G 284) .nil .nil) .nil) (.node (o1K_220 P) .nil .nil)) (.node (o1K_124 P) (.node (o1K_188 P) (.node (o1C_316 P) .nil .nil) .nil) (.node (G 252) .nil .nil)))))) (.node (o1I_6 P) (.node (o1I_10 P) (.node (o1I_18 P) (.node (o1K_34 P) (.node (o1K_66 P) (.node (o1K_130 P) (.node (G 258) .nil .nil) .nil) (.node (o1K_194 P) .nil .nil)) (.node (o1K_98 P) (.node (o1K_162 P) (.node (o1C_290 P) .nil .nil) .nil) (.node (o1K_226 P) .nil .nil))) (.node (o1K_50 P) (.node (o1K_82 P) (.node (o1K_146 P) (.node (G 274) .nil .nil) .nil) (.node (o1K_210 P) .nil .nil)) (.node (o1K_114 P) (.node (o1K_178 P) (.node (o1C_306 P) .nil .nil) .nil) (.node (o1A_242 P) .nil .nil)))) (.node (o1I_26 P) (.node (o1K_42 P) (.node (o1K_74 P) (.node (o1K_138 P) (.node (G 266) .nil .nil) .nil) (.node (o1K_202 P) .nil .nil)) (.node (o1K_106 P) (.node (o1K_170 P) (.node (o1C_298 P) .nil .nil) .nil) (.node (o1A_234 P) .nil .nil))) (.node (o1K_58 P) (.node (o1K_90 P) (.node (o1K_154 P) (.node (G 282) .nil .nil) .nil) (.node (o1K_218 P) .nil .nil)) (.node (o1K_122 P) (.node (o1K_186 P) (.node (o1C_314 P) .nil .nil) .nil) (.node (G 250) .nil .nil))))) (.node (o1I_14 P) (.node (o1I_22 P) (.node (o1K_38 P) (.node (o1K_70 P) (.node (o1K_134 P) (.node (G 262) .nil .nil) .nil) (.node (o1K_198 P) .nil .nil)) (.node (o1K_102 P) (.node (o1K_166 P) (.node (o1C_294 P) .nil .nil) .nil) (.node (o1A_230 P) .nil .nil))) (.node (o1K_54 P) (.node (o1K_86 P) (.node (o1K_150 P) (.node (G 278) .nil .nil) .nil) (.node (o1K_214 P) .nil .nil)) (.node (o1K_118 P) (.node (o1K_182 P) (.node (o1C_310 P) .nil .nil) .nil) (.node (o1A_246 P) .nil .nil)))) (.node (o11_30 P) (.node (o1K_46 P) (.node (o1K_78 P) (.node (o1K_142 P) (.node (G 270) .nil .nil) .nil) (.node (o1K_206 P) .nil .nil)) (.node (o1K_110 P) (.node (o1K_174 P) (.node (o1C_302 P) .nil .nil) .nil) (.node (o1A_238 P) .nil .nil))) (.node (o1K_62 P) (.node (o1K_94 P) (.node (o1K_158 P) (.node (o1C_286 P) .nil .nil) .nil) (.node (o1K_222 P) .nil .nil)) (.node (o1K_126 P) (.node (o1K_190 P) .nil .nil) (.node (G 254) .nil .nil))))))))
abbrev n1C : Nat := 317
abbrev t1C : Nat := 2672
noncomputable def K1 (P : Params) : Frag := [(2, o1I_2 P), (3, o1C_3 P), (32, o1K_32 P), (34, o1K_34 P), (35, o1K_35 P), (37, o1K_37 P), (38, o1K_38 P), (42, o1K_42 P), (43, o1K_43 P), (47, o1K_47 P), (48, o1K_48 P), (52, o1K_52 P), (53, o1K_53 P), (54, o1K_54 P), (55, o1K_55 P), (57, o1K_57 P), (58, o1K_58 P), (60, o1K_60 P), (61, o1K_61 P), (69, o1K_69 P), (70, o1K_70 P), (72, o1K_72 P), (73, o1K_73 P), (75, o1K_75 P), (76, o1K_76 P), (77, o1K_77 P), (79, o1K_79 P), (80, o1K_80 P), (82, o1K_82 P), (83, o1K_83 P), (84, o1K_84 P), (86, o1K_86 P), (87, o1K_87 P), (89, o1K_89 P), (90, o1K_90 P), (91, o1K_91 P), (93, o1K_93 P), (94, o1K_94 P), (96, o1K_96 P), (97, o1K_97 P), (98, o1K_98 P), (101, o1K_101 P), (102, o1K_102 P), (103, o1K_103 P), (105, o1K_105 P), (106, o1K_106 P), (108, o1K_108 P), (109, o1K_109 P), (110, o1K_110 P), (112, o1K_112 P), (113, o1K_113 P), (115, o1K_115 P), (116, o1K_116 P), (117, o1K_117 P), (120, o1K_120 P), (121, o1K_121 P), (122, o1K_122 P), (123, o1K_123 P), (125, o1K_125 P), (126, o1K_126 P), (128, o1K_128 P), (129, o1K_129 P), (130, o1K_130 P), (133, o1K_133 P), (134, o1K_134 P), (135, o1K_135 P), (138, o1K_138 P), (139, o1K_139 P), (140, o1K_140 P), (142, o1K_142 P), (143, o1K_143 P), (145, o1K_145 P), (146, o1K_146 P), (147, o1K_147 P), (149, o1K_149 P), (150, o1K_150 P), (152, o1K_152 P), (153, o1K_153 P), (154, o1K_154 P), (157, o1K_157 P), (158, o1K_158 P), (159, o1K_159 P), (161, o1K_161 P), (162, o1K_162 P), (164, o1K_164 P), (165, o1K_165 P), (166, o1K_166 P), (168, o1K_168 P), (169, o1K_169 P), (171, o1K_171 P), (172, o1K_172 P), (173, o1K_173 P), (175, o1K_175 P), (176, o1K_176 P), (178, o1K_178 P), (179, o1K_179 P), (180, o1K_180 P), (181, o1K_181 P), (182, o1K_182 P), (183, o1K_183 P), (184, o1K_184 P), (194, o1K_194 P), (196, o1K_196 P), (197, o1K_197 P), (199, o1K_199 P), (200, o1K_200 P), (201, o1K_201 P), (203, o1K_203 P), (204, o1K_204 P), (206, o1K_206 P), (207, o1K_207 P), (208, o1K_208 P), (210, o1K_210 P), (211, o1K_211 P), (213, o1K_213 P), (214, o1K_214 P), (215, o1K_215 P), (217, o1K_217 P), (218, o1K_218 P), (220, o1K_220 P), (221, o1K_221 P), (222, o1K_222 P), (223, o1K_223 P), (224, o1K_224 P), (225, o1K_225 P), (226, o1K_226 P), (240, o1A_240 P), (242, o1A_242 P), (243, o1A_243 P), (245, o1A_245 P), (246, o1A_246 P), (286, o1C_286 P), (288, o1C_288 P), (289, o1C_289 P), (291, o1C_291 P), (292, o1C_292 P), (293, o1C_293 P), (295, o1C_295 P), (296, o1C_296 P), (298, o1C_298 P), (299, o1C_299 P), (300, o1C_300 P), (302, o1C_302 P), (303, o1C_303 P), (305, o1C_305 P), (306, o1C_306 P), (307, o1C_307 P), (310, o1C_310 P), (311, o1C_311 P), (312, o1C_312 P), (315, o1C_315 P), (316, o1C_316 P), (236, o1A_236 P)]
-- makers [(298, 294)]
abbrev fr1 : Addr := 31
abbrev cd1 : Value := .ref 30
end
end
section
section
-- Evs
open PySem PySem.W PyProof.Rows
/-- an evaluator of my own: runs a tree over a known heap, calls within; what it finds is what wp says -/
structure EvS where
  T : BT
  n : Nat
  k : Nat
noncomputable def EvS.look (s : EvS) (a : Addr) : Option Obj := match Nat.blt a s.n with
  | true => (match s.T.get a with
    | some o => alive o
    | none => none)
  | false => none
mutual
noncomputable def evs (den : Code → Sem Fin) (P : Program) (w : World) (g : Array GenState) (d : Drawn) : Nat → {α : Type} → Ctx → Sem α → Pos → EvS → Option (Except Value α × Pos × EvS)
  | 0, _, _, _, _, _ => none
  | n + 1, _, Γ, t, p, s => match t with
    | .pure a => some (.ok a, p, s)
    | .raise e => some (.error e, p, s)
    | .rule _ k => evs den P w g d n Γ (k ()) p s
    | .at q k => evs den P w g d n Γ (k ()) q s
    | .point _ k => evs den P w g d n Γ (k ()) p s
    | .ask k => evs den P w g d n Γ (k ⟨P, w.params⟩) p s
    | .fresh k => match s with
      | ⟨T, m, j⟩ => evs den P w g d n Γ (k j) p ⟨T, m, j + 1⟩
    | .load a _ k => match s.look a with
      | some o => evs den P w g d n Γ (k o) p s
      | none => none
    | .loadIfAlive a k => match s.look a with
      | some o => evs den P w g d n Γ (k (some o)) p s
      | none => none
    | .update a _ f k => match s.look a with
      | some _ => (match s with
        | ⟨T, m, j⟩ => evs den P w g d n Γ (k ()) p ⟨T.set a f, m, j⟩)
      | none => none
    | .alloc o k => match s with
      | ⟨T, m, j⟩ => (match ((T.ins m o).get m).isSome with
        | true => evs den P w g d n Γ (k m) p ⟨T.ins m o, m + 1, j⟩
        | false => none)
    | .handled own k => evs den P w g d n Γ (k (match own with | true => Γ.own | false => Γ.handled)) p s
    | .stack k => evs den P w g d n Γ (k ((Γ.code, p) :: Γ.below)) p s
    | .call c h _ _ k => match evc den P w g d n (Γ.enter c h p) p s with
      | some (r, s') => evs den P w g d n Γ (k r) p s'
      | none => none
    | _ => none
noncomputable def evc (den : Code → Sem Fin) (P : Program) (w : World) (g : Array GenState) (d : Drawn) : Nat → Ctx → Pos → EvS → Option (Result × EvS)
  | 0, _, _, _ => none
  | n + 1, Γ, p, s => match evs den P w g d n Γ (den Γ.code) p s with
    | some (.ok (.done f), _, s') => some (.ok f, s')
    | some (.ok (.again c'), p', s') => (match c'.quiet with
      | true => evc den P w g d n (Γ.goto c') p' s'
      | false => none)
    | some (.error e, _, s') => some (.error e, s')
    | none => none
end
noncomputable def EvS.abs (s : EvS) (g : Array GenState) (d : Drawn) (os : OsState) : Shared := ⟨absHeap s.T s.n {}, g, d, s.k, os⟩
theorem EvS.look_abs {s : EvS} {a : Addr} {o : Obj} (h : s.look a = some o) : (absHeap s.T s.n {}).get? a = some o ∧ ∃ o', s.T.get a = some o' := by
  unfold EvS.look at h
  split at h
  · rename_i hb
    split at h
    · rename_i o' ho
      exact ⟨(abs_get (Nat.le_of_ble_eq_true hb) ho).trans h, o', ho⟩
    · cases h
  · cases h
theorem evs_sound {P : Program} {w : World} {g : Array GenState} {d : Drawn} {os : OsState} : ∀ n : Nat,
    (∀ {α : Type} (Γ : Ctx) (t : Sem α) (p : Pos) (s : EvS) (r : Except Value α) (p' : Pos) (s' : EvS), evs (denote table) P w g d n Γ t p s = some (r, p', s') →
      ∀ (Q : α → Pos → Shared → Prop) (E : Value → Pos → Shared → Prop), (match r with | .ok a => Q a p' (s'.abs g d os) | .error e => E e p' (s'.abs g d os)) → Sem.wp (model P w) Γ t Q E p (s.abs g d os)) ∧
    (∀ (Γ : Ctx) (p : Pos) (s : EvS) (r : Result) (s' : EvS), evc (denote table) P w g d n Γ p s = some (r, s') →
      ∀ R : Result → Shared → Prop, R r (s'.abs g d os) → wpCode (model P w) Γ R p (s.abs g d os)) := by
  intro n
  induction n with
  | zero => exact ⟨fun _ _ _ _ _ _ _ h => (nomatch (show (none : Option (Except Value _ × Pos × EvS)) = some _ from h)), fun _ _ _ _ _ h => nomatch (show (none : Option (Result × EvS)) = some _ from h)⟩
  | succ n ih =>
    obtain ⟨ih1, ih2⟩ := ih
    constructor
    · intro α Γ t p s r p' s' h Q E hq
      cases t with
      | pure a => cases (show some ((Except.ok a : Except Value _), p, s) = some (r, p', s') from h); exact hq
      | raise e => cases (show some ((Except.error e : Except Value _), p, s) = some (r, p', s') from h); exact hq
      | rule _ k => exact ih1 _ _ _ _ _ _ _ h Q E hq
      | «at» q k => exact ih1 _ _ _ _ _ _ _ h Q E hq
      | point _ k => exact ih1 _ _ _ _ _ _ _ h Q E hq
      | ask k => exact ih1 _ _ _ _ _ _ _ h Q E hq
      | fresh k => exact ih1 _ _ _ _ _ _ _ h Q E hq
      | load a q k =>
        replace h : (match s.look a with | some o => evs (denote table) P w g d n Γ (k o) p s | none => none) = some (r, p', s') := h
        split at h
        · rename_i o ho; exact ⟨o, (EvS.look_abs ho).1, ih1 _ _ _ _ _ _ _ h Q E hq⟩
        · cases h
      | loadIfAlive a k =>
        replace h : (match s.look a with | some o => evs (denote table) P w g d n Γ (k (some o)) p s | none => none) = some (r, p', s') := h
        split at h
        · rename_i o ho
          show Sem.wp _ Γ (k ((absHeap s.T s.n {}).get? a)) Q E p _
          rw [(EvS.look_abs ho).1]
          exact ih1 _ _ _ _ _ _ _ h Q E hq
        · cases h
      | update a q f k =>
        replace h : (match s.look a with | some _ => evs (denote table) P w g d n Γ (k ()) p ⟨s.T.set a f, s.n, s.k⟩ | none => none) = some (r, p', s') := h
        split at h
        · rename_i o ho
          obtain ⟨h1, o', h2⟩ := EvS.look_abs ho
          refine ⟨by show ((absHeap s.T s.n {}).get? a).isSome = true; rw [h1]; rfl, ?_⟩
          have := ih1 _ _ _ _ _ _ _ h Q E hq
          unfold EvS.abs at this ⊢
          rw [absHeap_set h2] at this
          exact this
        · cases h
      | alloc o k =>
        replace h : (match ((s.T.ins s.n o).get s.n).isSome with | true => evs (denote table) P w g d n Γ (k s.n) p ⟨s.T.ins s.n o, s.n + 1, s.k⟩ | false => none) = some (r, p', s') := h
        split at h
        · rename_i hg
          have := ih1 _ _ _ _ _ _ _ h Q E hq
          unfold EvS.abs at this
          rw [absHeap_ins hg] at this
          show Sem.wp _ Γ (k (absHeap s.T s.n {}).objs.size) Q E p _
          rw [absHeap_size]
          exact this
        · cases h
      | handled own k => cases own <;> exact ih1 _ _ _ _ _ _ _ h Q E hq
      | stack k => exact ih1 _ _ _ _ _ _ _ h Q E hq
      | call c hd _ _ k =>
        replace h : (match evc (denote table) P w g d n (Γ.enter c hd p) p s with | some (r, s') => evs (denote table) P w g d n Γ (k r) p s' | none => none) = some (r, p', s') := h
        split at h
        · rename_i r₁ s₁ h₁
          exact ih2 _ _ _ _ _ h₁ _ (ih1 _ _ _ _ _ _ _ h Q E hq)
        · cases h
      | _ => exact nomatch (show (none : Option (Except Value _ × Pos × EvS)) = some _ from h)
    · intro Γ p s r s' h R hr
      rw [wpCode_iff_wp]
      replace h : (match evs (denote table) P w g d n Γ (denote table Γ.code) p s with | some (.ok (.done f), _, s') => some (.ok f, s') | some (.ok (.again c'), p', s') => (match c'.quiet with | true => evc (denote table) P w g d n (Γ.goto c') p' s' | false => none) | some (.error e, _, s') => some (.error e, s') | none => none) = some (r, s') := h
      split at h
      · rename_i f p₁ s₁ h₁
        cases h
        exact ih1 _ _ _ _ _ _ _ h₁ _ _ hr
      · rename_i c' p₁ s₁ h₁
        split at h
        · rename_i hq
          exact ih1 _ _ _ _ _ _ _ h₁ _ _ ⟨hq, ih2 _ _ _ _ _ h R hr⟩
        · cases h
      · rename_i e p₁ s₁ h₁
        cases h
        exact ih1 _ _ _ _ _ _ _ h₁ _ _ hr
      · cases h
end
end
section
section
-- DictBig5
open PySem PySem.W PyProof.Rows
section
variable {prog : Program} {w : World} {A : Around} {E : Value → Shared → Prop} {s : Shared}
/-- the heap but for one place, its life too -/
structure Sm (a : Addr) (h h' : Heap) : Prop where
  sb : Heap.SameBut a h h'
  life : h'.life = h.life
theorem Sm.refl (a : Addr) (h : Heap) : Sm a h h := ⟨Heap.SameBut.refl a h, rfl⟩
theorem Sm.trans {a : Addr} {h₁ h₂ h₃ : Heap} (x : Sm a h₁ h₂) (y : Sm a h₂ h₃) : Sm a h₁ h₃ := ⟨x.sb.trans y.sb, y.life.trans x.life⟩
theorem Sm.update (h : Heap) (a : Addr) (f : Obj → Obj) : Sm a h (h.update a f) := ⟨Heap.SameBut.update .., rfl⟩
noncomputable def dO (es : List DictEntry) (n : Nat) : Obj := { cls := .type "dict", data := .dict es.toArray n }
/-- int keys, each with its own hash, none of them k -/
noncomputable def Keys (ks : List Int) (es : List DictEntry) : Prop := es.map (fun e => (e.hash, match e.key with | .int k _ => some k | _ => none)) = ks.map fun k => (hashInt k, some k)
theorem Keys.int {ks : List Int} {es : List DictEntry} (h : Keys ks es) : IntKeys es.toArray := by
  intro e he
  have he' : e ∈ es := by simpa using he
  have : (e.hash, match e.key with | .int k _ => some k | _ => none) ∈ ks.map fun k => (hashInt k, some k) := by
    unfold Keys at h; rw [← h]; exact List.mem_map_of_mem (f := fun e : DictEntry => (e.hash, match e.key with | .int k _ => some k | _ => none)) he'
  obtain ⟨k, _, hk⟩ := List.mem_map.mp this
  obtain ⟨h1, h2⟩ := Prod.mk.inj hk
  split at h2
  · rename_i k' t' hkey
    cases h2
    exact ⟨k, t', hkey, h1.symm⟩
  · cases h2
theorem Keys.absent {ks : List Int} {es : List DictEntry} (h : Keys ks es) {k : Int} (hk : k ∉ ks) : es.toArray.findIdx? (fun e => Value.isInt k e.key) = none := by
  rw [List.findIdx?_toArray, List.findIdx?_eq_none_iff]
  intro e he
  have : (e.hash, match e.key with | .int k _ => some k | _ => none) ∈ ks.map fun k => (hashInt k, some k) := by
    unfold Keys at h; rw [← h]; exact List.mem_map_of_mem (f := fun e : DictEntry => (e.hash, match e.key with | .int k _ => some k | _ => none)) he
  obtain ⟨k', hk', e2⟩ := List.mem_map.mp this
  obtain ⟨_, h2⟩ := Prod.mk.inj e2
  split at h2
  · rename_i k'' t' hkey
    cases h2
    rw [hkey]
    show (k' == k) = false
    rw [beq_eq_false_iff_ne]
    rintro rfl
    exact hk hk'
  · cases h2
theorem Keys.snoc {ks : List Int} {es : List DictEntry} (h : Keys ks es) (k : Int) (t : Tok) (v : Value) : Keys (ks ++ [k]) (es ++ [⟨hashInt k, .int k t, v⟩]) := by
  unfold Keys at h ⊢; rw [List.map_append, List.map_append, h]; rfl
theorem Keys.app {ks ks' : List Int} {es es' : List DictEntry} (h : Keys ks es) (h' : Keys ks' es') : Keys (ks ++ ks') (es ++ es') := by
  unfold Keys at h h' ⊢; rw [List.map_append, List.map_append, h, h']
theorem Keys.length {ks : List Int} {es : List DictEntry} (h : Keys ks es) : es.length = ks.length := by
  have := congrArg List.length h; simpa using this

theorem pushed {h : Heap} {d : Addr} {es : List DictEntry} {n : Nat} (ho : h.get? d = some (dO es n)) (e : DictEntry) :
    (h.update d (Obj.mapDictKeys (·.push e))).get? d = some (dO (es ++ [e]) (n + 1)) := by
  have : Obj.mapDictKeys (·.push e) (dO es n) = dO (es ++ [e]) (n + 1) := by
    unfold dO Obj.mapDictKeys; simp
  have := Heap.get?_update_self (Obj.mapDictKeys (·.push e)) ho (by rw [this]; rfl)
  rw [this]; simp [dO, Obj.mapDictKeys]

theorem dictSet_new {d : Addr} {k : Int} {t : Tok} {v : Value} {ks : List Int} {es : List DictEntry} {n : Nat} {Q : Unit → Shared → Prop} (ho : s.heap.get? d = some (dO es n)) (hks : Keys ks es) (hk : k ∉ ks) (hz : ks.length ≤ 100000)
    (h : ∀ h', h'.get? d = some (dO (es ++ [⟨hashInt k, .int k t, v⟩]) (n + 1)) → Sm d s.heap h' → Q () { s with heap := h', toks := s.toks + 1 }) :
    wpAny (model prog w) A (dictSet d (.int k t) v) Q E s := by
  unfold dictSet
  refine wpAny_holding (wpAny_bind (wpAny_pyHash_int ?_))
  unfold dictSetHashed
  refine wpAny_holding (wpAny_bind (wpAny_dictFind_int (s := { s with toks := s.toks + 1 }) ho rfl hks.int ?_))
  rw [hks.absent hk]
  refine wpAny_bind (wpAny_rule (wpAny_updateDictKeys (es := es.toArray) (ep := n) (hz := by rw [List.size_toArray, hks.length, sizeLine_eq]; omega) ho rfl ?_ (hf := by simp)))
  exact h _ (pushed ho _) (Sm.update ..)

theorem dictPut_new {d : Addr} {k : Int} {t : Tok} {v : Value} {ks : List Int} {es : List DictEntry} {n : Nat} {Q : Unit → Shared → Prop} (ho : s.heap.get? d = some (dO es n)) (hks : Keys ks es) (hk : k ∉ ks) (hz : ks.length ≤ 100000)
    (h : ∀ h', h'.get? d = some (dO (es ++ [⟨hashInt k, .int k t, v⟩]) (n + 1)) → Sm d s.heap h' → Q () { s with heap := h' }) :
    wpAny (model prog w) A (dictPut d (hashInt k) (.int k t) v) Q E s := by
  unfold dictPut
  refine wpAny_bind (wpAny_dictFind_int ho rfl hks.int ?_)
  rw [hks.absent hk]
  refine wpAny_updateDictKeys (es := es.toArray) (ep := n) (hz := by rw [List.size_toArray, hks.length, sizeLine_eq]; omega) ho rfl ?_ (hf := by simp)
  exact h _ (pushed ho _) (Sm.update ..)

abbrev KV := List (Int × Str)
noncomputable def prs (pos : Pos) (l : KV) : List (Sem Value × Sem Value) := l.map fun x => (mkInt x.1, do let y ← mkText x.2; standAt pos; pure y)
noncomputable def entsL : Nat → KV → List DictEntry
  | _, [] => []
  | t, (k, v) :: r => ⟨hashInt k, .int k t, .str v (t + 1)⟩ :: entsL (t + 3) r
noncomputable def entsS : Nat → KV → List DictEntry
  | _, [] => []
  | t, (k, v) :: r => ⟨hashInt k, .int k t, .str v (t + 1)⟩ :: entsS (t + 2) r
theorem entsL_keys : ∀ (l : KV) (t : Nat), Keys (l.map (·.1)) (entsL t l)
  | [], _ => rfl
  | (k, v) :: r, t => by have := entsL_keys r (t + 3); unfold Keys at this ⊢; simp [entsL, this]
theorem entsS_keys : ∀ (l : KV) (t : Nat), Keys (l.map (·.1)) (entsS t l)
  | [], _ => rfl
  | (k, v) :: r, t => by have := entsS_keys r (t + 2); unfold Keys at this ⊢; simp [entsS, this]

theorem storeLong {pos : Pos} {d : Addr} : ∀ (l : KV) (ks : List Int) (es : List DictEntry) (n : Nat) (s : Shared) (Q : PUnit → Shared → Prop), s.heap.get? d = some (dO es n) → Keys ks es → (ks ++ l.map (·.1)).Nodup → (ks ++ l.map (·.1)).length ≤ 100000 →
    (∀ h', h'.get? d = some (dO (es ++ entsL s.toks l) (n + l.length)) → Sm d s.heap h' → Q PUnit.unit { s with heap := h', toks := s.toks + 3 * l.length }) →
    wpAny (model prog w) A (forIn (prs pos l) PUnit.unit fun (x : Sem Value × Sem Value) (_ : PUnit) => (do
      let kv ← x.1
      let vv ← holding [kv] x.2
      holding [kv, vv] (dictSet d kv vv)
      pure (ForInStep.yield PUnit.unit) : Sem (ForInStep PUnit))) Q E s
  | [], ks, es, n, s, Q, ho, _, _, _, h => by
    refine wpAny_pure ?_
    simpa [entsL] using h s.heap (by simpa [entsL] using ho) (Sm.refl _ _)
  | (k, v) :: r, ks, es, n, s, Q, ho, hks, hnd, hlen, h => by
    have hk : k ∉ ks := by
      intro hm
      rw [List.nodup_append] at hnd
      exact hnd.2.2 k hm k (by simp) rfl
    show wpAny _ _ (forIn ((mkInt k, _) :: prs pos r) _ _) _ _ _
    rw [List.forIn_cons]
    refine wpAny_bind (wpAny_bind (wpAny_mkInt (wpAny_bind (wpAny_holding (wpAny_bind (wpAny_mkText (wpAny_bind (wpAny_standAt (wpAny_pure ?_)))))))))
    refine wpAny_bind (wpAny_holding (dictSet_new (s := { s with toks := s.toks + 1 + 1 }) ho hks hk (by rw [List.length_append] at hlen; omega) fun h' ho' hs' => wpAny_pure ?_))
    dsimp only
    refine storeLong r (ks ++ [k]) _ _ _ _ ho' (hks.snoc k _ _) (by simpa using hnd) (by simpa using hlen) fun h'' ho'' hs'' => ?_
    have := h h'' (by simpa [entsL, Nat.add_assoc, Nat.add_comm 1] using ho'') (hs'.trans hs'')
    simpa [Nat.mul_add, Nat.add_assoc, Nat.add_comm, Nat.add_left_comm] using this

theorem evalShort {pos : Pos} : ∀ (l : KV) (s : Shared) (Q : List (Value × Value) → Shared → Prop),
    Q ((entsS s.toks l).map fun e => (e.key, e.val)) { s with toks := s.toks + 2 * l.length } → wpAny (model prog w) A (evalPairs (prs pos l)) Q E s
  | [], s, Q, h => wpAny_pure (by simpa [entsS] using h)
  | (k, v) :: r, s, Q, h => by
    show wpAny _ _ (evalPairs ((mkInt k, _) :: prs pos r)) _ _ _
    unfold evalPairs
    refine wpAny_bind (wpAny_mkInt (wpAny_bind (wpAny_holding (wpAny_bind (wpAny_mkText (wpAny_bind (wpAny_standAt (wpAny_pure ?_))))))))
    refine wpAny_bind (wpAny_holding (evalShort r _ _ (wpAny_pure ?_)))
    simpa [entsS, Nat.mul_add, Nat.add_assoc, Nat.add_comm, Nat.add_left_comm] using h

theorem storeShort {d : Addr} : ∀ (l : KV) (t : Nat) (ks : List Int) (es : List DictEntry) (n : Nat) (s : Shared) (Q : PUnit → Shared → Prop), s.heap.get? d = some (dO es n) → Keys ks es → (ks ++ l.map (·.1)).Nodup → (ks ++ l.map (·.1)).length ≤ 100000 →
    (∀ h', h'.get? d = some (dO (es ++ entsS t l) (n + l.length)) → Sm d s.heap h' → Q PUnit.unit { s with heap := h', toks := s.toks + l.length }) →
    wpAny (model prog w) A (forIn ((entsS t l).map fun e => (e.key, e.val)) PUnit.unit fun (x : Value × Value) (_ : PUnit) => (do dictSet d x.1 x.2; pure (ForInStep.yield PUnit.unit) : Sem (ForInStep PUnit))) Q E s
  | [], _, ks, es, n, s, Q, ho, _, _, _, h => wpAny_pure (by simpa [entsS] using h s.heap (by simpa [entsS] using ho) (Sm.refl _ _))
  | (k, v) :: r, t, ks, es, n, s, Q, ho, hks, hnd, hlen, h => by
    have hk : k ∉ ks := by
      intro hm
      rw [List.nodup_append] at hnd
      exact hnd.2.2 k hm k (by simp) rfl
    unfold entsS
    rw [List.map_cons, List.forIn_cons]
    refine wpAny_bind (wpAny_bind (dictSet_new ho hks hk (by rw [List.length_append] at hlen; omega) fun h' ho' hs' => wpAny_pure ?_))
    dsimp only
    refine storeShort r (t + 2) (ks ++ [k]) _ _ _ _ ho' (hks.snoc k _ _) (by simpa using hnd) (by simpa using hlen) fun h'' ho'' hs'' => ?_
    have := h h'' (by simpa [entsS, Nat.add_assoc, Nat.add_comm 1] using ho'') (hs'.trans hs'')
    simpa [Nat.add_assoc, Nat.add_comm, Nat.add_left_comm] using this

theorem freshDict (h : Heap) : (h.push { cls := .type "dict", data := .dict #[] }).get? h.objs.size = some (dO [] 0) := Heap.get?_push_size _ rfl

theorem sub_long {pos : Pos} {l : KV} {Q : Addr → Shared → Prop} (h15 : 15 < l.length) (hnd : (l.map (·.1)).Nodup) (hlen : l.length ≤ 100000)
    (h : ∀ h', h'.get? s.heap.objs.size = some (dO (entsL s.toks l) l.length) → Sm s.heap.objs.size (s.heap.push { cls := .type "dict", data := .dict #[] }) h' → Q s.heap.objs.size { s with heap := h', toks := s.toks + 3 * l.length }) :
    wpAny (model prog w) A (subDict (prs pos l)) Q E s := by
  unfold subDict
  refine wpAny_bind (wpAny_alloc (wpAny_bind (wpAny_holding ?_)))
  rw [if_neg (by show ¬ (prs pos l).length ≤ 15; unfold prs; rw [List.length_map]; omega)]
  refine wpAny_bind (wpAny_rule (wpAny_bind (storeLong l [] [] 0 { s with heap := s.heap.push { cls := .type "dict", data := .dict #[] } } _ (freshDict _) rfl (by simpa using hnd) (by simpa using hlen) fun h' ho' hs' => wpAny_pure (wpAny_pure ?_))))
  exact h h' (by simpa using ho') hs'
theorem sub_short {pos : Pos} {l : KV} {Q : Addr → Shared → Prop} (h15 : l.length ≤ 15) (hnd : (l.map (·.1)).Nodup)
    (h : ∀ h', h'.get? s.heap.objs.size = some (dO (entsS s.toks l) l.length) → Sm s.heap.objs.size (s.heap.push { cls := .type "dict", data := .dict #[] }) h' → Q s.heap.objs.size { s with heap := h', toks := s.toks + 3 * l.length }) :
    wpAny (model prog w) A (subDict (prs pos l)) Q E s := by
  unfold subDict
  refine wpAny_bind (wpAny_alloc (wpAny_bind (wpAny_holding ?_)))
  rw [if_pos (by show (prs pos l).length ≤ 15; unfold prs; rw [List.length_map]; omega)]
  refine wpAny_bind (evalShort l _ _ (wpAny_holding (wpAny_bind (storeShort l _ [] [] 0 _ _ (freshDict _) rfl (by simpa using hnd) (by simp; omega) fun h' ho' hs' => wpAny_pure (wpAny_pure ?_)))))
  have := h h' (by simpa using ho') hs'
  simpa [Nat.add_assoc, show 2 * l.length + l.length = 3 * l.length by omega] using this

theorem mergeLoop {d a : Addr} (hda : d ≠ a) {src : List DictEntry} {na : Nat} : ∀ (m : Nat) (i : Nat) (ks : List Int) (es : List DictEntry) (n : Nat) (s : Shared) (ksrc : List Int) (Q : PUnit → Shared → Prop), i + m = src.length →
    s.heap.get? d = some (dO es n) → s.heap.get? a = some (dO src na) → Keys ks es → Keys ksrc (src.drop i) → (∀ e ∈ src.drop i, ∃ k t, e.key = .int k t) → (ks ++ ksrc).Nodup → (ks ++ ksrc).length ≤ 100000 →
    (∀ h', h'.get? d = some (dO (es ++ src.drop i) (n + m)) → Sm d s.heap h' → Q PUnit.unit { s with heap := h' }) →
    wpAny (model prog w) A (forIn (List.range' i m) PUnit.unit fun (i : Nat) (_ : PUnit) => (do
      let x ← dictEntries a
      match x[i]? with
      | some e => do
        holding [e.key, e.val] (dictPut d e.hash e.key e.val)
        let y ← dictEpoch a
        if (y != na) = true then do
          unsupported "dict.changed-during-merge"
          pure (ForInStep.yield PUnit.unit)
        else pure (ForInStep.yield PUnit.unit)
      | _ => do
        unsupported "dict.changed-during-merge"
        pure (ForInStep.yield PUnit.unit) : Sem (ForInStep PUnit))) Q E s
  | 0, i, ks, es, n, s, ksrc, Q, him, hd, ha, _, _, _, _, _, h => by
    have : src.drop i = [] := List.drop_eq_nil_of_le (by omega)
    exact wpAny_pure (by simpa [this] using h s.heap (by simpa [this] using hd) (Sm.refl _ _))
  | m + 1, i, ks, es, n, s, ksrc, Q, him, hd, ha, hks, hsrc, hint, hnd, hlen, h => by
    have hi : i < src.length := by omega
    obtain ⟨k, t, hkey⟩ := hint src[i] (by rw [List.mem_drop_iff_getElem]; exact ⟨0, by omega, by simp⟩)
    have hcons : src.drop i = src[i] :: src.drop (i + 1) := List.drop_eq_getElem_cons hi
    rw [hcons] at hsrc
    obtain ⟨k0, kr, rfl⟩ : ∃ k0 kr, ksrc = k0 :: kr := by
      cases ksrc with
      | nil => exfalso; simp [Keys] at hsrc; omega
      | cons a b => exact ⟨a, b, rfl⟩
    have hsrc' := hsrc
    unfold Keys at hsrc'
    rw [List.map_cons, List.map_cons, hkey] at hsrc'
    obtain ⟨h1, h2⟩ := List.cons.inj hsrc'
    obtain ⟨h1a, h1b⟩ := Prod.mk.inj h1
    cases h1b
    have hk : k ∉ ks := by
      intro hm
      rw [List.nodup_append] at hnd
      exact hnd.2.2 k hm k (by simp) rfl
    rw [List.range'_succ, List.forIn_cons]
    refine wpAny_bind (wpAny_bind (wpAny_dictEntries ha rfl ?_))
    have hget : (src.toArray)[i]? = some src[i] := by simp [hi]
    rw [hget]
    dsimp only
    refine wpAny_bind (wpAny_holding ?_)
    rw [hkey, h1a]
    refine dictPut_new hd hks hk (by rw [List.length_append] at hlen; omega) fun h' ho' hs' => ?_
    refine wpAny_bind (wpAny_dictEpoch (s := { s with heap := h' }) ((hs'.sb.2 a (Ne.symm hda)).trans ha) rfl ?_)
    rw [if_neg (by simp)]
    refine wpAny_bind (wpAny_pure (wpAny_pure ?_))
    dsimp only
    have he : src[i] = ⟨hashInt k, .int k t, src[i].val⟩ := by
      cases hsi : src[i] with
      | mk a b c => rw [hsi] at hkey h1a; simp only at hkey h1a; rw [hkey, h1a]
    refine mergeLoop hda m (i + 1) (ks ++ [k]) _ _ _ kr Q (by omega) ho' ((hs'.sb.2 a (Ne.symm hda)).trans ha) (hks.snoc k _ _) h2 (fun e he => hint e (by rw [hcons]; exact .tail _ he)) (by simpa using hnd) (by simpa using hlen) fun h'' ho'' hs'' => ?_
    refine h h'' ?_ (hs'.trans hs'')
    rw [ho'', hcons, ← he]
    simp [Nat.add_assoc, Nat.add_comm 1]

theorem typeIs_dO {d : Addr} {es : List DictEntry} {n : Nat} (ho : s.heap.get? d = some (dO es n)) : s.TypeIs (.ref d) "dict" := ⟨_, ho, rfl⟩
theorem merge_new {d a : Addr} {src es : List DictEntry} {na n : Nat} {ks ksrc : List Int} {Q : Unit → Shared → Prop} (hda : d ≠ a) (hsys : (a == sysModules) = false) (hd : s.heap.get? d = some (dO es n)) (ha : s.heap.get? a = some (dO src na)) (hne : es ≠ [])
    (hks : Keys ks es) (hsrc : Keys ksrc src) (hint : ∀ e ∈ src, ∃ k t, e.key = .int k t) (hnd : (ks ++ ksrc).Nodup) (hlen : (ks ++ ksrc).length ≤ 100000)
    (h : ∀ h', h'.get? d = some (dO (es ++ src) (n + src.length)) → Sm d s.heap h' → Q () { s with heap := h' }) :
    wpAny (model prog w) A (mergeMapping d (.ref a) false) Q E s := by
  unfold mergeMapping
  refine wpAny_bind (wpAny_isInstance (typeIs_dO ha) isSubtype_dict_dict ?_)
  dsimp only
  rw [if_pos rfl]
  refine wpAny_bind (wpAny_specialOf (typeIs_dO ha) F.slot_dict_iter.lookup (wpAny_bind (wpAny_pure ?_)))
  simp only [beq_self_eq_true]
  rw [hsys]
  simp only [Bool.false_eq_true, if_false]
  refine wpAny_bind (wpAny_dictEntries hd rfl ?_)
  have he : (es.toArray).isEmpty = false := by
    cases es with
    | nil => exact absurd rfl hne
    | cons x r => rfl
  rw [he]
  simp only [Bool.false_eq_true, if_false]
  refine wpAny_bind (wpAny_dictEntries ha rfl (wpAny_bind (wpAny_dictEpoch ha rfl (wpAny_bind ?_))))
  rw [show (List.range src.toArray.size) = List.range' 0 src.length by rw [List.size_toArray, List.range_eq_range']]
  refine mergeLoop hda src.length 0 ks es n s ksrc _ (by omega) hd ha hks (by simpa using hsrc) (by simpa using hint) hnd hlen fun h' h1 h2 => wpAny_pure ?_
  exact h h' (by simpa using h1) h2

noncomputable def flushD (run : List (Sem Value × Sem Value)) (main : Option Addr) : Sem (Option Addr) := do
    if run.isEmpty then return main
    match main with
    | none => return some (← subDict run)
    | some d =>
      let sub ← holding [.ref d] (subDict run)
      (holding [.ref d, .ref sub] (mergeMapping d (.ref sub) false)).onRaise fun x => do let _ ← holding [.ref d, x] (runValue (.builtin "proto.let_go" {}))
      return some d
abbrev It := Option (Sem Value) × Sem Value
abbrev DSt := Option Addr × List (Sem Value × Sem Value)
abbrev itm (p : Sem Value × Sem Value) : It := (some p.1, p.2)
theorem gatherN (f : It → DSt → Sem (ForInStep DSt)) (hf : ∀ (p : Sem Value × Sem Value) (run : List (Sem Value × Sem Value)) (main : Option Addr), run.length + 1 < 17 → f (itm p) (main, run) = pure (.yield (main, run ++ [p]))) :
    ∀ (items run : List (Sem Value × Sem Value)) (main : Option Addr), run.length + items.length < 17 → forIn (items.map itm) (main, run) f = pure (main, run ++ items)
  | [], run, main, _ => by simp
  | p :: rest, run, main, h => by
    rw [List.map_cons, List.forIn_cons, hf p run main (by simp at h; omega), pure_bind]
    have := gatherN f hf rest (run ++ [p]) main (by simp at h ⊢; omega)
    simpa using this
theorem chunk17 (f : It → DSt → Sem (ForInStep DSt)) (hf : ∀ (p : Sem Value × Sem Value) (run : List (Sem Value × Sem Value)) (main : Option Addr), run.length + 1 < 17 → f (itm p) (main, run) = pure (.yield (main, run ++ [p])))
    (hg : ∀ (p : Sem Value × Sem Value) (run : List (Sem Value × Sem Value)) (main : Option Addr), run.length + 1 = 17 → f (itm p) (main, run) = flushD (run ++ [p]) main >>= fun m => pure (.yield (m, []))) :
    ∀ (items rest run : List (Sem Value × Sem Value)) (main : Option Addr), run.length + items.length = 17 → items ≠ [] → forIn ((items ++ rest).map itm) (main, run) f = flushD (run ++ items) main >>= fun m => forIn (rest.map itm) (m, []) f
  | [], _, _, _, _, h => absurd rfl h
  | [p], rest, run, main, h, _ => by
    rw [List.cons_append, List.map_cons, List.forIn_cons, hg p run main (by simpa using h)]
    simp only [bind_assoc, pure_bind, List.nil_append]
  | p :: q :: items, rest, run, main, h, _ => by
    rw [List.cons_append, List.map_cons, List.forIn_cons, hf p run main (by simp at h; omega), pure_bind]
    have := chunk17 f hf hg (q :: items) rest (run ++ [p]) main (by simp at h ⊢; omega) (by simp)
    simpa using this
theorem display_chunks (items : List (Sem Value × Sem Value)) : ∃ f : It → DSt → Sem (ForInStep DSt),
    (∀ (p : Sem Value × Sem Value) (run : List (Sem Value × Sem Value)) (main : Option Addr), run.length + 1 < 17 → f (itm p) (main, run) = pure (.yield (main, run ++ [p]))) ∧
    (∀ (p : Sem Value × Sem Value) (run : List (Sem Value × Sem Value)) (main : Option Addr), run.length + 1 = 17 → f (itm p) (main, run) = flushD (run ++ [p]) main >>= fun m => pure (.yield (m, []))) ∧
    dictDisplay (items.map itm) = (do
      let st ← forIn (items.map itm) ((none, []) : DSt) f
      match ← flushD st.2 st.1 with
      | some d => pure (.ref d)
      | none => newDict) := by
  unfold dictDisplay
  dsimp only
  exact ⟨_, by
    intro p run main h
    have hne : ((run ++ [(p.1, p.2)]).length == 17) = false := by simp; omega
    simp only [hne, Bool.false_eq_true, if_false], by
    intro p run main h
    have hne : ((run ++ [(p.1, p.2)]).length == 17) = true := by simp; omega
    simp only [hne, if_true]
    rfl, rfl⟩

/-- the entries of a dict of ints, whatever their tokens -/
noncomputable def Ents : KV → List DictEntry → Prop
  | [], es => es = []
  | (k, v) :: r, es => ∃ t u es', es = ⟨hashInt k, .int k t, .str v u⟩ :: es' ∧ Ents r es'
theorem Ents.keys : ∀ {l : KV} {es : List DictEntry}, Ents l es → Keys (l.map (·.1)) es
  | [], _, h => by cases h; rfl
  | (k, v) :: r, _, ⟨t, u, es', e, h⟩ => by subst e; have := h.keys; unfold Keys at this ⊢; simp [this]
theorem Ents.int : ∀ {l : KV} {es : List DictEntry}, Ents l es → ∀ e ∈ es, ∃ k t, e.key = .int k t
  | [], _, h => by cases h; intro e he; cases he
  | (k, v) :: r, _, ⟨t, u, es', e, h⟩ => by
    subst e
    intro e he
    rcases List.mem_cons.mp he with rfl | he
    · exact ⟨k, t, rfl⟩
    · exact h.int e he
theorem Ents.app : ∀ {l l' : KV} {es es' : List DictEntry}, Ents l es → Ents l' es' → Ents (l ++ l') (es ++ es')
  | [], _, _, _, h, h' => by cases h; exact h'
  | (k, v) :: r, _, _, _, ⟨t, u, es₁, e, h⟩, h' => by subst e; exact ⟨t, u, _, rfl, h.app h'⟩
theorem Ents.length : ∀ {l : KV} {es : List DictEntry}, Ents l es → es.length = l.length
  | [], _, h => by cases h; rfl
  | (k, v) :: r, _, ⟨t, u, es', e, h⟩ => by subst e; simp [h.length]
theorem entsL_is : ∀ (l : KV) (t : Nat), Ents l (entsL t l)
  | [], _ => rfl
  | (k, v) :: r, t => ⟨_, _, _, rfl, entsL_is r _⟩
theorem entsS_is : ∀ (l : KV) (t : Nat), Ents l (entsS t l)
  | [], _ => rfl
  | (k, v) :: r, t => ⟨_, _, _, rfl, entsS_is r _⟩

/-- all that stood stands, but d; so many objects more -/
structure Gr (d : Addr) (m : Nat) (h h' : Heap) : Prop where
  old : ∀ b o, b ≠ d → h.get? b = some o → h'.get? b = some o
  size : h'.objs.size = h.objs.size + m
  life : h'.life = h.life
theorem Sm.gr {d : Addr} {h h' : Heap} (x : Sm d h h') : Gr d 0 h h' := ⟨fun b o hb e => (x.sb.2 b hb).trans e, x.sb.1, x.life⟩
theorem Gr.trans {d : Addr} {m n : Nat} {h₁ h₂ h₃ : Heap} (x : Gr d m h₁ h₂) (y : Gr d n h₂ h₃) : Gr d (m + n) h₁ h₃ :=
  ⟨fun b o hb e => y.old b o hb (x.old b o hb e), by rw [y.size, x.size, Nat.add_assoc], y.life.trans x.life⟩
theorem sub_any {pos : Pos} {l : KV} {d : Addr} {Q : Addr → Shared → Prop} (hnd : (l.map (·.1)).Nodup) (hlen : l.length ≤ 100000)
    (h : ∀ h' es, h'.get? s.heap.objs.size = some (dO es l.length) → Ents l es → (∀ b o, s.heap.get? b = some o → h'.get? b = some o) → h'.objs.size = s.heap.objs.size + 1 → h'.life = s.heap.life → Q s.heap.objs.size { s with heap := h', toks := s.toks + 3 * l.length }) :
    wpAny (model prog w) A (subDict (prs pos l)) Q E s := by
  have key : ∀ (h' : Heap), Sm s.heap.objs.size (s.heap.push { cls := .type "dict", data := .dict #[] }) h' → (∀ b o, s.heap.get? b = some o → h'.get? b = some o) ∧ h'.objs.size = s.heap.objs.size + 1 ∧ h'.life = s.heap.life := fun h' hs =>
    ⟨fun b o e => (hs.sb.2 b (Nat.ne_of_lt (Heap.lt_size e))).trans (Heap.get?_push_of_some _ e), by rw [hs.sb.1, Heap.size_push], hs.life⟩
  by_cases h15 : l.length ≤ 15
  · exact sub_short h15 hnd fun h' ho hs => h h' _ ho (entsS_is _ _) (key h' hs).1 (key h' hs).2.1 (key h' hs).2.2
  · exact sub_long (by omega) hnd hlen fun h' ho hs => h h' _ ho (entsL_is _ _) (key h' hs).1 (key h' hs).2.1 (key h' hs).2.2
theorem flush_some {pos : Pos} {l dn : KV} {d : Addr} {es : List DictEntry} {n : Nat} {Q : Option Addr → Shared → Prop} (hl : l ≠ []) (hd : s.heap.get? d = some (dO es n)) (he : Ents dn es) (hdn : dn ≠ []) (hsys : sysModules < s.heap.objs.size)
    (hnd : ((dn ++ l).map (·.1)).Nodup) (hlen : (dn ++ l).length ≤ 100000)
    (h : ∀ h' es', h'.get? d = some (dO es' (n + l.length)) → Ents (dn ++ l) es' → Gr d 1 s.heap h' → Q (some d) { s with heap := h', toks := s.toks + 3 * l.length }) :
    wpAny (model prog w) A (flushD (prs pos l) (some d)) Q E s := by
  unfold flushD
  rw [if_neg (by cases l with | nil => exact absurd rfl hl | cons a b => simp [prs])]
  dsimp only
  rw [List.map_append] at hnd
  rw [List.length_append] at hlen
  refine wpAny_bind (wpAny_holding (sub_any (d := d) (List.nodup_append.mp hnd).2.1 (by omega) fun h₁ es₁ ho₁ he₁ hold₁ hsz₁ hl₁ => ?_))
  have hda : d ≠ s.heap.objs.size := Nat.ne_of_lt (Heap.lt_size hd)
  have hne : es ≠ [] := by
    intro q; subst q
    have := he.length
    cases dn with
    | nil => exact hdn rfl
    | cons a b => simp at this
  refine wpAny_bind (wpAny_onRaise (wpAny_holding (merge_new (s := { s with heap := h₁, toks := s.toks + 3 * l.length }) hda (by rw [beq_eq_false_iff_ne]; exact Nat.ne_of_gt hsys) (hold₁ _ _ hd) ho₁ hne he.keys he₁.keys he₁.int hnd (by simpa using hlen) fun h₂ ho₂ hs₂ => wpAny_pure ?_)))
  rw [he₁.length] at ho₂
  have g : Gr d 1 s.heap h₂ := ⟨fun b o hb e => (hs₂.sb.2 b hb).trans (hold₁ b o e), by rw [hs₂.sb.1, hsz₁], hs₂.life.trans hl₁⟩
  exact h h₂ _ ho₂ (he.app he₁) g
noncomputable def chunks (n : Nat) : Nat := (n + 16) / 17
theorem dispLoop {pos : Pos} {d : Addr} (f : It → DSt → Sem (ForInStep DSt)) (hf : ∀ (p : Sem Value × Sem Value) (run : List (Sem Value × Sem Value)) (main : Option Addr), run.length + 1 < 17 → f (itm p) (main, run) = pure (.yield (main, run ++ [p])))
    (hg : ∀ (p : Sem Value × Sem Value) (run : List (Sem Value × Sem Value)) (main : Option Addr), run.length + 1 = 17 → f (itm p) (main, run) = flushD (run ++ [p]) main >>= fun m => pure (.yield (m, []))) :
    ∀ (N : Nat) (l dn : KV) (es : List DictEntry) (n : Nat) (s : Shared) (Q : Value → Shared → Prop), l.length ≤ N → s.heap.get? d = some (dO es n) → Ents dn es → dn ≠ [] → sysModules < s.heap.objs.size → ((dn ++ l).map (·.1)).Nodup → (dn ++ l).length ≤ 100000 →
    (∀ h' es', h'.get? d = some (dO es' (n + l.length)) → Ents (dn ++ l) es' → Gr d (chunks l.length) s.heap h' → Q (.ref d) { s with heap := h', toks := s.toks + 3 * l.length }) →
    wpAny (model prog w) A (do
      let st ← forIn ((prs pos l).map itm) ((some d, []) : DSt) f
      match ← flushD st.2 st.1 with
      | some d => pure (.ref d)
      | none => newDict) Q E s
  | 0, l, dn, es, n, s, Q, hN, hd, he, hdn, hsys, hnd, hlen, h => by
    have hl : l = [] := List.length_eq_zero_iff.mp (by omega)
    subst hl
    show wpAny _ _ ((forIn ([] : List It) _ f) >>= _) _ _ _
    rw [List.forIn_nil]
    refine wpAny_bind (wpAny_pure (wpAny_bind ?_))
    show wpAny _ _ (flushD [] (some d)) _ _ _
    refine wpAny_pure (wpAny_pure ?_)
    have := h s.heap es (by simpa using hd) (by simpa using he) ⟨fun _ _ _ e => e, by simp [chunks], rfl⟩
    simpa using this
  | N + 1, l, dn, es, n, s, Q, hN, hd, he, hdn, hsys, hnd, hlen, h => by
    by_cases h17 : l.length < 17
    · by_cases hl : l = []
      · subst hl
        exact dispLoop f hf hg N [] dn es n s Q (by simp) hd he hdn hsys hnd hlen h
      · rw [gatherN f hf (prs pos l) [] (some d) (by simpa [prs] using h17)]
        refine wpAny_bind (wpAny_pure (wpAny_bind ?_))
        rw [List.nil_append]
        refine flush_some hl hd he hdn hsys hnd hlen fun h' es' ho' he' g => wpAny_pure ?_
        have hc : chunks l.length = 1 := by
          have : 0 < l.length := List.length_pos_iff.mpr hl
          unfold chunks; omega
        exact h h' es' ho' he' (hc ▸ g)
    · have hsplit : prs pos l = prs pos (l.take 17) ++ prs pos (l.drop 17) := by unfold prs; rw [← List.map_append, List.take_append_drop]
      have ht : (l.take 17).length = 17 := by rw [List.length_take]; omega
      have hl : l.take 17 ++ l.drop 17 = l := List.take_append_drop ..
      have hp : (prs pos (l.take 17)).length = 17 := by unfold prs; rw [List.length_map, ht]
      have hlen' : dn.length + l.length ≤ 100000 := by rw [← List.length_append]; exact hlen
      rw [hsplit, chunk17 f hf hg (prs pos (l.take 17)) (prs pos (l.drop 17)) [] (some d) (by rw [hp]; rfl) (by intro q; rw [q] at hp; cases hp)]
      rw [List.nil_append, bind_assoc]
      have hnd' : (((dn ++ l.take 17) ++ l.drop 17).map (·.1)).Nodup := by rw [List.append_assoc, hl]; exact hnd
      refine wpAny_bind (flush_some (l := l.take 17) (by intro q; rw [q] at ht; simp at ht) hd he hdn hsys (by rw [List.map_append] at hnd'; exact (List.nodup_append.mp hnd').1) (by rw [List.length_append, ht]; omega) fun h₁ es₁ ho₁ he₁ g₁ => ?_)
      refine dispLoop f hf hg N (l.drop 17) (dn ++ l.take 17) es₁ _ _ Q (by rw [List.length_drop]; omega) ho₁ he₁ (by intro q; exact hdn (List.append_eq_nil_iff.mp q).1) (Nat.lt_of_lt_of_le hsys (by rw [g₁.size]; exact Nat.le_add_right ..)) hnd' (by rw [List.append_assoc, hl]; exact hlen) fun h₂ es₂ ho₂ he₂ g₂ => ?_
      have e1 : n + (l.take 17).length + (l.drop 17).length = n + l.length := by rw [ht, List.length_drop]; omega
      have e2 : 1 + chunks (l.drop 17).length = chunks l.length := by unfold chunks; rw [List.length_drop]; omega
      have e3 : s.toks + 3 * (l.take 17).length + 3 * (l.drop 17).length = s.toks + 3 * l.length := by rw [ht, List.length_drop]; omega
      have := h h₂ es₂ (e1 ▸ ho₂) (by rw [List.append_assoc, hl] at he₂; exact he₂) (e2 ▸ g₁.trans g₂)
      rw [← e3] at this
      exact this
theorem display_wp {pos : Pos} {l : KV} {Q : Value → Shared → Prop} (h17 : 17 ≤ l.length) (hsys : sysModules < s.heap.objs.size) (hnd : (l.map (·.1)).Nodup) (hlen : l.length ≤ 100000)
    (h : ∀ h' es', h'.get? s.heap.objs.size = some (dO es' l.length) → Ents l es' → Gr s.heap.objs.size (chunks l.length) s.heap h' → Q (.ref s.heap.objs.size) { s with heap := h', toks := s.toks + 3 * l.length }) :
    wpAny (model prog w) A (dictDisplay ((prs pos l).map itm)) Q E s := by
  obtain ⟨f, hf, hg, e⟩ := display_chunks (prs pos l)
  rw [e]
  have hsplit : prs pos l = prs pos (l.take 17) ++ prs pos (l.drop 17) := by unfold prs; rw [← List.map_append, List.take_append_drop]
  have ht : (l.take 17).length = 17 := by rw [List.length_take]; omega
  have hl : l.take 17 ++ l.drop 17 = l := List.take_append_drop ..
  have hp : (prs pos (l.take 17)).length = 17 := by unfold prs; rw [List.length_map, ht]
  rw [hsplit, chunk17 f hf hg (prs pos (l.take 17)) (prs pos (l.drop 17)) [] none (by rw [hp]; rfl) (by intro q; rw [q] at hp; cases hp)]
  rw [List.nil_append, bind_assoc]
  have hnd' : ((l.take 17 ++ l.drop 17).map (·.1)).Nodup := by rw [hl]; exact hnd
  refine wpAny_bind ?_
  show wpAny _ _ (if (prs pos (l.take 17)).isEmpty then pure none else (do return some (← subDict (prs pos (l.take 17))))) _ _ _
  rw [if_neg (by intro q; rw [List.isEmpty_iff.mp q] at hp; cases hp)]
  refine wpAny_bind (sub_any (d := 0) (by rw [List.map_append] at hnd'; exact (List.nodup_append.mp hnd').1) (by omega) fun h₁ es₁ ho₁ he₁ hold₁ hsz₁ hl₁ => wpAny_pure ?_)
  refine dispLoop f hf hg _ (l.drop 17) (l.take 17) es₁ _ _ Q (Nat.le_refl _) ho₁ he₁ (by intro q; rw [q] at ht; simp at ht) (Nat.lt_of_lt_of_le hsys (by rw [hsz₁]; exact Nat.le_add_right ..)) hnd' (by rw [hl]; exact hlen) fun h₂ es₂ ho₂ he₂ g₂ => ?_
  have e1 : (l.take 17).length + (l.drop 17).length = l.length := by rw [ht, List.length_drop]; omega
  have e2 : 1 + chunks (l.drop 17).length = chunks l.length := by unfold chunks; rw [List.length_drop]; omega
  have e3 : s.toks + 3 * (l.take 17).length + 3 * (l.drop 17).length = s.toks + 3 * l.length := by rw [ht, List.length_drop]; omega
  have g₁ : Gr s.heap.objs.size 1 s.heap h₁ := ⟨fun b o _ e => hold₁ b o e, hsz₁, hl₁⟩
  have := h h₂ es₂ (e1 ▸ ho₂) (by rw [hl] at he₂; exact he₂) (e2 ▸ g₁.trans g₂)
  rw [← e3] at this
  exact this
end
end
end
section
section
-- TopGen
open PySem PySem.W PyProof.Rows
section
variable {p : Program} {w : World}
noncomputable def Halt (s : Shared) (t : Thread) : Step → Prop
  | .halt (.done _) s' => s' = s ∧ through t = true
  | _ => True
theorem halt_finish (o : Outcome) (s : Shared) (t : Thread) (h : ∀ f, o = .done f → through t = true) : Halt s t (finish o s) := by
  unfold finish
  split
  · trivial
  · cases o with
    | done f => exact ⟨rfl, h f rfl⟩
    | _ => trivial
theorem halt_step {den : Code → Sem Fin} : ∀ (s : Shared) (t : Thread), Halt s t (step den p w s t)
  | ⟨heap, gens, drawn, toks, os⟩, ⟨cur, code, pos, stack⟩ => by
    cases cur with
    | pure fin =>
      cases fin with
      | again c => trivial
      | done f =>
        cases stack with
        | nil => exact halt_finish _ _ _ fun _ _ => rfl
        | cons fr r => cases fr <;> trivial
    | raise e =>
      cases stack with
      | nil => exact halt_finish _ _ _ fun _ h => by cases h
      | cons fr r => cases fr <;> trivial
    | finish e => show Halt _ _ (ite _ _ _); split <;> trivial
    | load a b k => cases h : heap.get? a <;> (show Halt _ _ (match heap.get? a with | some o => _ | none => _); rw [h]; trivial)
    | update a b f k => show Halt _ _ (ite _ _ _); split <;> trivial
    | choose a n k => show Halt _ _ (ite _ _ _); split <;> trivial
    | genState g k => cases h : gens[g]? <;> (show Halt _ _ (match gens[g]? with | none => _ | some st => _); rw [h]; trivial)
    | resume g r l k =>
      have key : ∀ o : Option GenState, gens[g]? = o → Halt ⟨heap, gens, drawn, toks, os⟩ ⟨.resume g r l k, code, pos, stack⟩ (step den p w ⟨heap, gens, drawn, toks, os⟩ ⟨.resume g r l k, code, pos, stack⟩) := by
        intro o h
        cases o with
        | none => unfold step; simp only [h]; trivial
        | some st =>
          cases st with
          | fresh c =>
            cases r with
            | send v => unfold step; simp only [h]; cases v <;> trivial
            | throw e => unfold step; simp only [h]; trivial
          | _ => unfold step; simp only [h]; trivial
      exact key _ rfl
    | «yield» v g0 l kk =>
      have key : ∀ o, splitAtGen stack = o → Halt ⟨heap, gens, drawn, toks, os⟩ ⟨.yield v g0 l kk, code, pos, stack⟩ (step den p w ⟨heap, gens, drawn, toks, os⟩ ⟨.yield v g0 l kk, code, pos, stack⟩) := by
        intro o h
        rcases o with _ | ⟨a, ⟨b, c, d, e⟩, f⟩ <;> (unfold step; simp only [h]; trivial)
      exact key _ rfl
    | _ => trivial
theorem runN_before {den : Code → Sem Fin} (n : Nat) : ∀ (s : Shared) (t : Thread) (f : Flow) (s' : Shared), runN den p w n s t = .halted (.done f) s' → ∃ m t', runN den p w m s t = .running s' t' ∧ through t' = true ∧ m < n := by
  induction n with
  | zero => intro _ _ _ _ h; cases h
  | succ n ih =>
    intro s t f s' h
    have hk := halt_step (p := p) (w := w) (den := den) s t
    rw [runN] at h
    cases hs : step den p w s t with
    | go s₁ t₁ =>
      rw [hs] at h
      obtain ⟨m, t', h1, h2, h3⟩ := ih s₁ t₁ f s' h
      exact ⟨m + 1, t', by rw [runN, hs]; exact h1, h2, Nat.succ_lt_succ h3⟩
    | halt o s₁ =>
      rw [hs] at h hk
      cases h
      obtain ⟨e, ht⟩ : s' = s ∧ through t = true := hk
      exact ⟨0, t, by rw [e]; rfl, ht, Nat.succ_pos n⟩
theorem runN_goes {den : Code → Sem Fin} : ∀ (k m : Nat) (s : Shared) (t : Thread) (s₁ s₂ : Shared) (t₁ t₂ : Thread), k < m → runN den p w k s t = .running s₁ t₁ → runN den p w m s t = .running s₂ t₂ → ∃ s₃ t₃, step den p w s₁ t₁ = .go s₃ t₃
  | k, 0, _, _, _, _, _, _, h, _, _ => absurd h (Nat.not_lt_zero _)
  | 0, m + 1, s, t, s₁, s₂, t₁, t₂, _, h1, h2 => by
    cases h1
    simp only [runN] at h2
    split at h2
    · rename_i a b hs; exact ⟨a, b, hs⟩
    · cases h2
  | k + 1, m + 1, s, t, s₁, s₂, t₁, t₂, h, h1, h2 => by
    simp only [runN] at h1 h2
    split at h1
    · rename_i a b hs
      rw [hs] at h2
      exact runN_goes k m a b s₁ s₂ t₁ t₂ (by omega) h1 h2
    · cases h1
theorem top_ran_of_wp {t : Sem Fin} {s : Shared} {R : Shared → Prop} (hz : s.asleep) (hR : ∀ s', R s' → s'.gens = #[])
    (h : Sem.wp (model p w) ⟨.builtin "claim.caller" {}, none, none, [], none⟩ t (fun fin _ s₁ => fin = .done (.ret .none) ∧ R s₁) (fun _ _ _ => False) default s) :
    ∃ s', R s' ∧ ∃ n t', schedN (denote table) p w n (.single s ⟨t, .builtin "claim.caller" {}, default, []⟩) = .running (.single s' t') ∧ through t' = true := by
  have h' : Sem.wp (model p w) ⟨.builtin "claim.caller" {}, none, none, [], none⟩ t (Sem.finPost (model p w) ⟨.builtin "claim.caller" {}, none, none, [], none⟩ fun r s₁ => (r = .ok (.ret .none) ∧ R s₁) ∧ leftWithCleanup s₁.gens = false)
      (fun e _ s₁ => ((Except.error e : Result) = .ok (.ret .none) ∧ R s₁) ∧ leftWithCleanup s₁.gens = false) default s :=
    Sem.wp_mono _ _ t (fun fin p₁ s₁ ⟨e1, e2⟩ => by subst e1; exact ⟨⟨rfl, e2⟩, by rw [hR _ e2]; simp [leftWithCleanup]⟩) (fun _ _ _ hf => hf.elim) default s h
  obtain ⟨n, r, s₁, hn, ⟨hr, hs⟩⟩ := (wp_iff_halts (M := model p w) (R := fun r s₁ => r = .ok (.ret .none) ∧ R s₁) t default s).mp h'
  subst hr
  obtain ⟨s₂, hr, hf, hc⟩ := runNI_real _ _ _ hn (outcomeOf_ends (.ok (.ret .none)))
  obtain rfl : s₂ = s₁ := Shared.eq_of_forget_eq hf (hR _ hs)
  obtain ⟨m, t', h1, h2, hmn⟩ := runN_before n _ _ _ _ hr
  refine ⟨s₂, hs, m, t', ?_, h2⟩
  have h1' : runN (denote table) p w m s ⟨t, .builtin "claim.caller" {}, default, []⟩ = .running s₂ t' := h1
  have e := schedN_prefix (den := denote table) (prog := p) (w := w) m s ⟨t, .builtin "claim.caller" {}, default, []⟩ hz fun k s₁ t₁ hk q => ⟨hc k s₁ t₁ q, fun z => ?_⟩
  · rw [e, h1']; rfl
  · obtain ⟨a, b, hgo⟩ := runN_goes k m _ _ _ _ _ _ hk q h1'
    rw [hgo] at z; cases z
end
end
end
section
section
-- Hd1b
open PySem PySem.W PyProof.Rows
abbrev env1 : Env := { scope := pw.main.scope, locals := mainNs, globals := mainNs, cells := [], code := cd1, frame := some fr1 }
abbrev Γ0 : Ctx := ⟨.builtin "claim.caller" {}, none, none, [], none⟩
abbrev stmts : List Stmt := behindTheImports pw
abbrev Γ1 (p : Pos) : Ctx := Γ0.enter (.body stmts env1) none p
abbrev denQ := PySem.W.Fast.tw11892475500146522536 PySem.W.Fast.tw14364793385576792824
theorem denQ_eq : denote table = denQ := by
  rw [table_eq_tree, PySem.W.Fast.te11892475500146522536, PySem.W.Fast.te14364793385576792824]
abbrev execsQ := PySem.W.Fast.tw12563942051412417395
-- the opening
noncomputable def impT (st : SharedT → Thread → Option (SharedT × Thread)) : Nat → SharedT → Thread → Option SharedT
  | 0, _, _ => none
  | n + 1, s, t => match t.atExitBegin with
    | some [] => some s
    | some (_ :: _) => none
    | none => match st s t with
      | some (s', t') => impT st n s' t'
      | none => none
theorem impT_of {P : Program} {w : World} : ∀ (n : Nat) (s : SharedT) (t : Thread) (s' : SharedT), impT (stepT (denote treeTable) P w) n s t = some s' → importEnds treeTable P w n s.abs t = some s'.abs
  | 0, _, _, _, h => by cases h
  | n + 1, s, t, s', h => by
    unfold impT at h
    unfold importEnds
    cases ht : t.atExitBegin with
    | some l =>
      rw [ht] at h
      cases l with
      | nil => cases h; rfl
      | cons a b => cases h
    | none =>
      rw [ht] at h
      dsimp only at h ⊢
      split at h
      · rename_i s₁ t₁ hs
        rw [stepT_spec hs]
        exact impT_of n s₁ t₁ s' h
      · cases h
open PySem.W.Fast in
theorem eI : ∀ w : World, impT (tw10156331382660048174 denQ (opening pw) w) 1000 ⟨.nil, 0, {}, #[], {}, 1, (start (opening pw)).1.os⟩ (tw1435165496053646825 (opening pw)).2 = some ⟨tr1I w.params, n1I, {}, #[], {}, t1I, (start (opening pw)).1.os⟩ := by
  intro w
  kernel_rfl
open PySem.W.Fast in
theorem eF : ∀ (w : World) (os : OsState), tw14289696077712309145 pw ⟨absHeap (tr1I w.params) n1I {}, #[], {}, t1I, os⟩ = some ⟨absHeap (tr10 w.params) n10 {}, #[], {}, t10, os⟩ := by
  intro w os
  kernel_rfl
open PySem.W.Fast in
theorem e1 : ∀ (w : World) (p : Pos), evs denQ pw w #[] {} 200 Γ0 (tw17154629097778926822 pw.main pw.main.file none >>= fun c => tw12822647523644345616 c mainNs mainNs builtinsNs >>= fun f => (pure (c, f) : Sem (Value × Addr))) p ⟨tr10 w.params, n10, t10⟩ = some (.ok (cd1, fr1), p, ⟨tr11 w.params, n11, t11⟩) := by
  intro w p
  kernel_rfl

open PySem.W.Fast in
theorem eS : ∀ (w : World) (p p0 : Pos), evs denQ pw w #[] {} 50 (Γ1 p0) (tw1066825118222455980 stmts env1) p ⟨tr11 w.params, n11, t11⟩ = some (.ok (), p, ⟨tr11 w.params, n11, t11⟩) := by
  intro w p p0
  kernel_rfl
theorem eK : ∀ (w : World) (p p0 : Pos), evs denQ pw w #[] {} 3000 (Γ1 p0) (execsQ (stmts.take 10) env1) p ⟨tr11 w.params, n11, t11⟩ = some (.ok .next, ⟨144, 0, 144, 8⟩, ⟨tr1K w.params, n1K, t1K⟩) := by
  intro w p p0
  kernel_rfl
theorem eA0 : ∀ (w : World), (fun (p p0 : Pos) => evs denQ pw ((w.withFollow "set-order" false).withFollow "special-get-raises" false) #[] {} 3000 (Γ1 p0) (execsQ ((stmts.drop 10).take 2) env1) p ⟨tr1K ((w.withFollow "set-order" false).withFollow "special-get-raises" false).params, n1K, t1K⟩) = fun _ _ => some (.ok .next, ⟨146, 0, 147, 30⟩, ⟨tr1A ((w.withFollow "set-order" false).withFollow "special-get-raises" false).params, n1A, t1A⟩) := by
  intro w
  kernel_rfl
theorem eA1 : ∀ (w : World), (fun (p p0 : Pos) => evs denQ pw ((w.withFollow "set-order" false).withFollow "special-get-raises" true) #[] {} 3000 (Γ1 p0) (execsQ ((stmts.drop 10).take 2) env1) p ⟨tr1K ((w.withFollow "set-order" false).withFollow "special-get-raises" true).params, n1K, t1K⟩) = fun _ _ => some (.ok .next, ⟨146, 0, 147, 30⟩, ⟨tr1A ((w.withFollow "set-order" false).withFollow "special-get-raises" true).params, n1A, t1A⟩) := by
  intro w
  kernel_rfl
theorem eA2 : ∀ (w : World), (fun (p p0 : Pos) => evs denQ pw ((w.withFollow "set-order" true).withFollow "special-get-raises" false) #[] {} 3000 (Γ1 p0) (execsQ ((stmts.drop 10).take 2) env1) p ⟨tr1K ((w.withFollow "set-order" true).withFollow "special-get-raises" false).params, n1K, t1K⟩) = fun _ _ => some (.ok .next, ⟨146, 0, 147, 30⟩, ⟨tr1A ((w.withFollow "set-order" true).withFollow "special-get-raises" false).params, n1A, t1A⟩) := by
  intro w
  kernel_rfl
theorem eA3 : ∀ (w : World), (fun (p p0 : Pos) => evs denQ pw ((w.withFollow "set-order" true).withFollow "special-get-raises" true) #[] {} 3000 (Γ1 p0) (execsQ ((stmts.drop 10).take 2) env1) p ⟨tr1K ((w.withFollow "set-order" true).withFollow "special-get-raises" true).params, n1K, t1K⟩) = fun _ _ => some (.ok .next, ⟨146, 0, 147, 30⟩, ⟨tr1A ((w.withFollow "set-order" true).withFollow "special-get-raises" true).params, n1A, t1A⟩) := by
  intro w
  kernel_rfl
theorem eA (w : World) (p p0 : Pos) : evs denQ pw w #[] {} 3000 (Γ1 p0) (execsQ ((stmts.drop 10).take 2) env1) p ⟨tr1K w.params, n1K, t1K⟩ = some (.ok .next, ⟨146, 0, 147, 30⟩, ⟨tr1A w.params, n1A, t1A⟩) := by
  have h : ∀ w : World, (fun (p p0 : Pos) => evs denQ pw w #[] {} 3000 (Γ1 p0) (execsQ ((stmts.drop 10).take 2) env1) p ⟨tr1K w.params, n1K, t1K⟩) = fun _ _ => some (.ok .next, ⟨146, 0, 147, 30⟩, ⟨tr1A w.params, n1A, t1A⟩) :=
    byRow2 "special-get-raises" (P := fun w => (fun (p p0 : Pos) => evs denQ pw w #[] {} 3000 (Γ1 p0) (execsQ ((stmts.drop 10).take 2) env1) p ⟨tr1K w.params, n1K, t1K⟩) = fun _ _ => some (.ok .next, ⟨146, 0, 147, 30⟩, ⟨tr1A w.params, n1A, t1A⟩))
      (byRow2 "set-order" (P := fun w => (fun (p p0 : Pos) => evs denQ pw (w.withFollow "special-get-raises" false) #[] {} 3000 (Γ1 p0) (execsQ ((stmts.drop 10).take 2) env1) p ⟨tr1K (w.withFollow "special-get-raises" false).params, n1K, t1K⟩) = fun _ _ => some (.ok .next, ⟨146, 0, 147, 30⟩, ⟨tr1A (w.withFollow "special-get-raises" false).params, n1A, t1A⟩)) eA0 eA2)
      (byRow2 "set-order" (P := fun w => (fun (p p0 : Pos) => evs denQ pw (w.withFollow "special-get-raises" true) #[] {} 3000 (Γ1 p0) (execsQ ((stmts.drop 10).take 2) env1) p ⟨tr1K (w.withFollow "special-get-raises" true).params, n1K, t1K⟩) = fun _ _ => some (.ok .next, ⟨146, 0, 147, 30⟩, ⟨tr1A (w.withFollow "special-get-raises" true).params, n1A, t1A⟩)) eA1 eA3)
  exact congrFun (congrFun (h w) p) p0
-- the table
@[irreducible] noncomputable def b3ks : List (Option PySem.Expr) := match (stmts[12]? : Option Stmt) with
  | some (PySem.Stmt.Assign _ (PySem.Expr.Dict ks _ _) _) => ks
  | _ => []
@[irreducible] noncomputable def b3vs : List PySem.Expr := match (stmts[12]? : Option Stmt) with
  | some (PySem.Stmt.Assign _ (PySem.Expr.Dict _ vs _) _) => vs
  | _ => []
@[irreducible] noncomputable def b3p : Pos := match (stmts[12]? : Option Stmt) with
  | some (PySem.Stmt.Assign _ (PySem.Expr.Dict _ _ p) _) => p
  | _ => default
@[irreducible] noncomputable def b3q : Pos := match (stmts[12]? : Option Stmt) with
  | some (PySem.Stmt.Assign _ _ p) => p
  | _ => default
theorem b3st : stmts.drop 12 = .Assign [.Name (S "b3_exceptions") ⟨148, 0, 148, 13⟩] (.Dict b3ks b3vs b3p) b3q :: stmts.drop 13 := by kernel_rfl
open PySem.W.Fast in
theorem eB : ∀ (w : World) (G : Nat → Obj) (p p0 : Pos), evs denQ pw w #[] {} 200 (Γ1 p0) (standAt ⟨148, 0, 148, 13⟩ >>= fun _ => tw7536695828754713326 env1 (S "b3_exceptions") (.ref 247) >>= fun _ => (pure Flow.next : Sem Flow)) p ⟨tr1D w.params G, n1B, 2631⟩ = some (.ok .next, ⟨148, 0, 148, 13⟩, ⟨tr1B w.params G, n1B, t1B⟩) := by
  intro w G p p0
  kernel_rfl
theorem eC : ∀ (w : World) (G : Nat → Obj) (p p0 : Pos), evs denQ pw w #[] {} 3000 (Γ1 p0) (execsQ (stmts.drop 13) env1) p ⟨tr1B w.params G, n1B, t1B⟩ = some (.ok .next, ⟨168, 0, 210, 59⟩, ⟨tr1C w.params G, n1C, t1C⟩) := by
  intro w G p p0
  kernel_rfl
end
end
section
section
-- Hd1c
open PySem PySem.W PyProof.Rows
theorem wp_execs_app {M : Model} {Γ : Ctx} {env : Env} {r : List Stmt} {E : Value → Pos → Shared → Prop} : ∀ (l : List Stmt) (Q : Flow → Pos → Shared → Prop) (p : Pos) (s : Shared),
    Sem.wp M Γ (execs l env) (fun f p s => match f with | .next => Sem.wp M Γ (execs r env) Q E p s | f => Q f p s) E p s → Sem.wp M Γ (execs (l ++ r) env) Q E p s
  | [], Q, p, s, h => h
  | st :: l, Q, p, s, h => by
    rw [List.cons_append, execs_cons, Sem.wp_bind']
    rw [execs_cons, Sem.wp_bind'] at h
    refine Sem.wp_mono _ _ _ (fun f p' s' hf => ?_) (fun _ _ _ hf => hf) p s h
    cases f with
    | next => exact wp_execs_app l Q p' s' hf
    | _ => exact hf
noncomputable def kvOf : List (Option PySem.Expr) → List PySem.Expr → Option KV
  | [], [] => some []
  | some (.Constant (.int i) _ _) :: ks, .Constant (.str s) _ _ :: vs => (kvOf ks vs).map ((i, s) :: ·)
  | _, _ => none
theorem items_of {env : Env} {pos : Pos} : ∀ (ks : List (Option PySem.Expr)) (vs : List PySem.Expr) (kv : KV), kvOf ks vs = some kv → (evalEachOpt ks env).zip ((evalEach vs env).map fun v => do let x ← v; standAt pos; pure x) = (prs pos kv).map itm := by
  intro ks
  induction ks with
  | nil =>
    intro vs kv h
    cases vs with
    | nil => cases h; rfl
    | cons a b => exact nomatch (show (none : Option KV) = some kv from h)
  | cons k ks ih =>
    intro vs kv h
    have no : ∀ {P : Prop}, (none : Option KV) = some kv → P := fun q => nomatch q
    cases k with
    | none => cases vs <;> exact no h
    | some e =>
      cases e with
      | Constant c p1 p2 =>
        cases c with
        | int i =>
          cases vs with
          | nil => exact no h
          | cons v vs =>
            cases v with
            | Constant c p3 p4 =>
              cases c with
              | str x =>
                obtain ⟨kv', h', rfl⟩ := Option.map_eq_some_iff.mp (show (kvOf ks vs).map ((i, x) :: ·) = some kv from h)
                show (_ :: _) = (_ :: _)
                exact congrArg (List.cons _) (ih vs kv' h')
              | _ => exact no h
            | _ => exact no h
        | _ => cases vs <;> exact no h
      | _ => cases vs <;> exact no h
noncomputable def asc : List Int → Bool
  | a :: b :: r => (decide (a < b)) && asc (b :: r)
  | _ => true
theorem asc_lt : ∀ (l : List Int) (a : Int), asc (a :: l) = true → ∀ b ∈ l, a < b
  | [], _, _, _, h => (nomatch h)
  | c :: l, a, h, b, hb => by
    simp only [asc, Bool.and_eq_true, decide_eq_true_eq] at h
    rcases List.mem_cons.mp hb with rfl | hb
    · exact h.1
    · exact Int.lt_trans h.1 (asc_lt l c h.2 b hb)
theorem asc_tail : ∀ (l : List Int) (a : Int), asc (a :: l) = true → asc l = true
  | [], _, _ => rfl
  | c :: l, a, h => by simp only [asc, Bool.and_eq_true] at h; exact h.2
theorem asc_nodup : ∀ (l : List Int), asc l = true → l.Nodup
  | [], _ => List.nodup_nil
  | a :: l, h => List.nodup_cons.mpr ⟨fun hm => Int.lt_irrefl _ (asc_lt l a h a hm), asc_nodup l (asc_tail l a h)⟩
@[irreducible] noncomputable def b3kv : KV := (kvOf b3ks b3vs).getD []
theorem b3kv_is : kvOf b3ks b3vs = some b3kv := by
  have h : (kvOf b3ks b3vs).isSome = true := by kernel_rfl
  obtain ⟨x, hx⟩ := Option.isSome_iff_exists.mp h
  rw [show b3kv = (kvOf b3ks b3vs).getD [] from by kernel_rfl, hx]; rfl
theorem b3kv_len : b3kv.length = 650 := by kernel_rfl
theorem b3kv_asc : asc (b3kv.map (·.1)) = true := by kernel_rfl
theorem trD_get : ∀ (P : Params) (G : Nat → Obj), (List.range 286).map (tr1D P G).get = (List.range 247).map (tr1A P).get ++ (List.range' 247 39).map (fun i => some (G i)) := by
  intro P G; kernel_rfl
theorem trA_full : ∀ (P : Params), ((List.range 247).all fun a => match (tr1A P).get a with | some o => !o.isFreed | none => false) = true := by
  intro P; kernel_rfl

theorem trD_old {P : Params} {G : Nat → Obj} {a : Nat} (h : a < 247) : (tr1D P G).get a = (tr1A P).get a := by
  have e := congrArg (fun l : List (Option Obj) => l[a]?) (trD_get P G)
  simp only [List.getElem?_append, List.getElem?_map, List.length_map, List.length_range, List.getElem?_range (show a < 286 by omega), List.getElem?_range h, if_pos h, Option.map_some, Option.some.injEq] at e
  exact e
theorem trD_new {P : Params} {G : Nat → Obj} {a : Nat} (h1 : 247 ≤ a) (h2 : a < 286) : (tr1D P G).get a = some (G a) := by
  have e := congrArg (fun l : List (Option Obj) => l[a]?) (trD_get P G)
  have h3 : (List.range' 247 39)[a - 247]? = some a := by rw [List.getElem?_range' (by omega)]; congr 1; omega
  simp only [List.getElem?_append, List.getElem?_map, List.length_map, List.length_range, List.getElem?_range h2, if_neg (Nat.not_lt.mpr h1), h3, Option.map_some, Option.some.injEq] at e
  exact e
theorem trA_at (P : Params) {a : Nat} (h : a < 247) : ∃ o, (tr1A P).get a = some o ∧ o.isFreed = false := by
  have := List.all_eq_true.mp (trA_full P) a (List.mem_range.mpr h)
  split at this
  · rename_i o ho; exact ⟨o, ho, by simpa using this⟩
  · cases this
theorem heap_is {P : Params} {h' : Heap} (hl : h'.life = {}) (hs : h'.objs.size = 286) (hold : ∀ b o, b ≠ 247 → (absHeap (tr1A P) 247 {}).get? b = some o → h'.get? b = some o) :
    h' = absHeap (tr1D P fun a => h'.objs[a]?.getD default) 286 {} := by
  obtain ⟨objs, life⟩ := h'
  dsimp only at hl hs hold ⊢
  subst hl
  have : objs = (absHeap (tr1D P fun a => objs[a]?.getD default) 286 {}).objs := by
    apply Array.ext_getElem?
    intro a
    rw [absHeap_at]
    by_cases h : a < 286
    · rw [if_pos h]
      by_cases h1 : a < 247
      · obtain ⟨o, ho, hf⟩ := trA_at P h1
        rw [trD_old h1, ho]
        have : (absHeap (tr1A P) 247 {}).get? a = some o := by
          refine Heap.get?_some_iff.mpr ⟨?_, hf⟩
          rw [absHeap_at, if_pos h1, ho]; rfl
        exact (Heap.get?_some_iff.mp (hold a o (Nat.ne_of_lt h1) this)).1
      · rw [trD_new (by omega) h]
        show objs[a]? = some (objs[a]?.getD default)
        rw [Array.getElem?_eq_getElem (by omega)]; rfl
    · rw [if_neg h, Array.getElem?_eq_none (by omega)]
  rw [this]; rfl
/-- the table in the heap -/
noncomputable def b3Good (G : Nat → Obj) : Prop := ∃ es, G 247 = dO es 650 ∧ Ents b3kv es
theorem b3_wp (w : World) (os : OsState) (p p0 : Pos) (Q : Flow → Pos → Shared → Prop) (E : Value → Pos → Shared → Prop)
    (h : ∀ G, b3Good G → Q .next ⟨148, 0, 148, 13⟩ ((⟨tr1B w.params G, n1B, t1B⟩ : EvS).abs #[] {} os)) :
    Sem.wp (model pw w) (Γ1 p0) (exec (.Assign [.Name (S "b3_exceptions") ⟨148, 0, 148, 13⟩] (.Dict b3ks b3vs b3p) b3q) env1) Q E p ((⟨tr1A w.params, n1A, t1A⟩ : EvS).abs #[] {} os) := by
  rw [exec_Assign_Name (hs := rfl), arm_eval_Dict, items_of b3ks b3vs b3kv b3kv_is]
  have hin : (Γ1 p0).In (((callerA.mark none).under (.body stmts env1))) := (caller_in.enter (.body stmts env1) none p0 (by intro x; cases x)).in
  have hsz : ((⟨tr1A w.params, n1A, t1A⟩ : EvS).abs #[] {} os).heap.objs.size = 247 := absHeap_size ..
  have hlen := b3kv_len
  have key : wpAny (model pw w) ((callerA.mark none).under (.body stmts env1)) (dictDisplay ((prs b3p b3kv).map itm)) (fun v s' => v = .ref 247 ∧ ∃ G, b3Good G ∧ s' = (⟨tr1D w.params G, n1B, 2631⟩ : EvS).abs #[] {} os) (fun _ _ => False) ((⟨tr1A w.params, n1A, t1A⟩ : EvS).abs #[] {} os) := by
    refine display_wp (by rw [hlen]; decide) (by rw [hsz]; decide) (asc_nodup _ b3kv_asc) (by rw [hlen]; decide) fun h' es' ho he g => ?_
    rw [hsz] at ho g ⊢
    refine ⟨rfl, fun a => h'.objs[a]?.getD default, ⟨es', ?_, he⟩, ?_⟩
    · show h'.objs[247]?.getD default = _
      rw [(Heap.get?_some_iff.mp ho).1, hlen]; rfl
    · have hs : h'.objs.size = 286 := by rw [g.size, hsz, hlen]; rfl
      have hh := heap_is (P := w.params) (h' := h') g.life hs fun b o hb e => g.old b o hb e
      show (⟨h', _, _, _, _⟩ : Shared) = ⟨_, _, _, _, _⟩
      rw [← hh, hlen]
      rfl
  rw [Sem.wp_bind']
  show Sem.wp _ _ ((standAt b3p >>= fun _ => dictDisplay ((prs b3p b3kv).map itm)) >>= fun v => (standAt ⟨148, 0, 148, 13⟩ >>= fun _ => bindName env1 (S "b3_exceptions") v >>= fun _ => (pure Flow.next : Sem Flow))) Q E b3q _
  rw [Sem.wp_bind', Sem.wp_bind']
  show Sem.wp _ _ (dictDisplay ((prs b3p b3kv).map itm)) _ E b3p _
  refine Sem.wp_mono _ _ _ (fun v p' s' hv => ?_) (fun _ _ _ hf => hf.elim) _ _ (key (Γ1 p0) b3p hin)
  obtain ⟨rfl, G, hG, rfl⟩ := hv
  have e := eB w G p' p0
  rw [← denQ_eq, ← PySem.W.Fast.te7536695828754713326] at e
  exact (evs_sound (os := os) 200).1 _ _ _ _ _ _ _ e Q E (h G hG)

abbrev os0 : OsState := (start (opening pw)).1.os
theorem stmts_is : stmts = stmts.take 10 ++ ((stmts.drop 10).take 2 ++ (.Assign [.Name (S "b3_exceptions") ⟨148, 0, 148, 13⟩] (.Dict b3ks b3vs b3p) b3q :: stmts.drop 13)) := by
  rw [← b3st]
  have h : stmts.drop 12 = (stmts.drop 10).drop 2 := by rw [List.drop_drop]
  rw [h, List.take_append_drop, List.take_append_drop]
theorem top_wp (w : World) (os : OsState) (R : Shared → Prop) (h : ∀ G, b3Good G → R ((⟨tr1C w.params G, n1C, t1C⟩ : EvS).abs #[] {} os)) :
    Sem.wp (model pw w) Γ0 (topStub pw).cur (fun fin _ s₁ => fin = .done (.ret .none) ∧ R s₁) (fun _ _ _ => False) default ((⟨tr10 w.params, n10, t10⟩ : EvS).abs #[] {} os) := by
  have ex : execsQ = execs := PySem.W.Fast.te12563942051412417395.symm
  show Sem.wp (model pw w) Γ0 (moduleCode pw.main >>= fun code => newBodyFrame code mainNs mainNs >>= fun frame =>
    run (.body stmts { scope := pw.main.scope, locals := mainNs, globals := mainNs, cells := [], code, frame := some frame }) >>= fun _ => (ret .none : Sem PySem.Fin)) _ _ _ _
  have h1 := e1 w default
  rw [← denQ_eq, ← PySem.W.Fast.te17154629097778926822, ← PySem.W.Fast.te12822647523644345616] at h1
  have g1 := (evs_sound (os := os) 200).1 _ _ _ _ _ _ _ h1 (fun (cf : Value × Addr) p₁ s₁ => Sem.wp (model pw w) Γ0 (run (.body stmts { scope := pw.main.scope, locals := mainNs, globals := mainNs, cells := [], code := cf.1, frame := some cf.2 }) >>= fun _ => (ret .none : Sem PySem.Fin)) (fun fin _ s₁ => fin = .done (.ret .none) ∧ R s₁) (fun _ _ _ => False) p₁ s₁) (fun _ _ _ => False)
  rw [Sem.wp_bind'] at g1 ⊢
  refine Sem.wp_mono _ _ _ (fun code p₁ s₁ hc => ?_) (fun _ _ _ hf => hf) _ _ (g1 ?_)
  · rw [Sem.wp_bind'] at hc ⊢
    exact Sem.wp_mono _ _ _ (fun frame p₂ s₂ hf => hf) (fun _ _ _ hf => hf) _ _ hc
  · show Sem.wp (model pw w) Γ0 (run (.body stmts env1) >>= fun _ => (ret .none : Sem PySem.Fin)) _ _ default _
    rw [Sem.wp_bind', Sem.wp_run, wpCode_iff_wp]
    show Sem.wp (model pw w) (Γ1 default) (blockStart stmts env1 >>= fun _ => (execs stmts env1).onRaise (leaving env1) >>= fun f => (pure (PySem.Fin.done f) : Sem PySem.Fin)) _ _ default _
    rw [Sem.wp_bind']
    have h2 := eS w default default
    rw [← denQ_eq, ← PySem.W.Fast.te1066825118222455980] at h2
    refine (evs_sound (os := os) 50).1 _ _ _ _ _ _ _ h2 _ _ ?_
    show Sem.wp (model pw w) (Γ1 default) ((execs stmts env1).onRaise (leaving env1) >>= fun f => (pure (PySem.Fin.done f) : Sem PySem.Fin)) _ _ default _
    rw [Sem.wp_bind', Sem.wp_onRaise, stmts_is]
    refine wp_execs_app _ _ _ _ ?_
    have h3 := eK w default default
    rw [← denQ_eq, ex] at h3
    refine (evs_sound (os := os) 3000).1 _ _ _ _ _ _ _ h3 _ _ ?_
    show Sem.wp (model pw w) (Γ1 default) (execs ((stmts.drop 10).take 2 ++ _) env1) _ _ _ _
    refine wp_execs_app _ _ _ _ ?_
    have h4 := eA w ⟨144, 0, 144, 8⟩ default
    rw [← denQ_eq, ex] at h4
    refine (evs_sound (os := os) 3000).1 _ _ _ _ _ _ _ h4 _ _ ?_
    show Sem.wp (model pw w) (Γ1 default) (execs (_ :: stmts.drop 13) env1) _ _ _ _
    rw [execs_cons, Sem.wp_bind']
    refine b3_wp w os _ _ _ _ fun G hG => ?_
    have h5 := eC w G ⟨148, 0, 148, 13⟩ default
    rw [← denQ_eq, ex] at h5
    refine (evs_sound (os := os) 3000).1 _ _ _ _ _ _ _ h5 _ _ ?_
    exact ⟨rfl, h G hG⟩
end
end
section
section
-- Hd1d
open PySem PySem.W PyProof.Rows
def q1 : Program := { pw with main := { pw.main with body := pw.main.body.drop 19 } }
def loose1 : List Str := [S "_sre", S "_wall", S "tspecials", S "_name_disallowed_re", S "_value_disallowed_re", S "_formatparam", S "Headers", S "_netrclex", S "b1_set", S "in_table_b1", S "b3_exceptions", S "map_table_b3", S "_law_lexer", S "_law_nothing", S "_law_prepared"]
abbrev sC (w : World) (G : Nat → Obj) (os : OsState) : Shared := (⟨tr1C w.params G, n1C, t1C⟩ : EvS).abs #[] {} os
abbrev s0 (w : World) (os : OsState) : Shared := (⟨tr10 w.params, n10, t10⟩ : EvS).abs #[] {} os
open PySem.W.Fast in
theorem lk1 : ∀ (w : World) (G : Nat → Obj) (os : OsState), (tw4187177175401517315 q1 loose1 (importedModules pw.main.body) (fun _ => true) true (sC w G os) = openGood q1 loose1) := by
  intro w G os
  kernel_rfl

theorem lk2 : ∀ (w : World) (G : Nat → Obj), (staticsOk (importedModules pw.main.body) (s0 w os0).heap (sC w G os0).heap && namesBound pw (sC w G os0).heap && laidKept (s0 w os0).heap (sC w G os0).heap, (sC w G os0).heap.isNs mainGlobals, (sC w G os0).heap.nsMap mainGlobals (S "law")) = (true, true, some (.ref 316)) := by
  intro w G
  kernel_rfl
theorem lk3 : ∀ (P : Params) (G : Nat → Obj), ((List.range 28).map fun b => if b = 3 then none else (tr1C P G).get b) = (List.range 28).map fun b => if b = 3 then none else (tr10 P).get b := by
  intro P G
  kernel_rfl
theorem lk4 : ∀ (P : Params) (G : Nat → Obj), (K1 P).map (fun x => (tr1C P G).get x.1) = (K1 P).map fun x => some x.2 := by
  intro P G
  kernel_rfl
theorem lk5 : ∀ (P : Params), ((K1 P).all fun x => Nat.blt x.1 317 && !x.2.isFreed) = true := by
  intro P
  kernel_rfl
theorem lk6 : ∀ (P : Params) (G : Nat → Obj), ((tr1C P G).get 294, (tr1C P G).get 247) = (some (tabObj #[]), some (G 247)) := by
  intro P G
  kernel_rfl
/-- what the law's call finds -/
structure Found (w : World) (s : Shared) : Prop where
  K : (K1 w.params).In s.heap
  tab : s.heap.get? 294 = some (tabObj #[])
  b3 : ∃ es, s.heap.get? 247 = some (dO es 650) ∧ Ents b3kv es
  size : s.heap.objs.size = 317
  toks : s.toks = 2672
theorem sC_get {w : World} {G : Nat → Obj} {os : OsState} {a : Nat} {o : Obj} (h : (tr1C w.params G).get a = some o) (ha : a < 317) (hf : o.isFreed = false) : (sC w G os).heap.get? a = some o := by
  refine Heap.get?_some_iff.mpr ⟨?_, hf⟩
  show (absHeap (tr1C w.params G) 317 {}).objs[a]? = some o
  rw [absHeap_at, if_pos ha, h]; rfl
theorem found_sC {w : World} {G : Nat → Obj} (hG : b3Good G) (os : OsState) : Found w (sC w G os) := by
  obtain ⟨es, hg, he⟩ := hG
  have h6 := lk6 w.params G
  refine ⟨?_, sC_get (congrArg Prod.fst h6) (by decide) rfl, ⟨es, sC_get ((congrArg Prod.snd h6).trans (by rw [hg])) (by decide) rfl, he⟩, absHeap_size .., rfl⟩
  intro a o e
  have h4 := List.map_inj_left.mp (lk4 w.params G) 
  have hm : (a, o) ∈ K1 w.params := by
    clear h4
    generalize K1 w.params = K at e
    induction K with
    | nil => cases e
    | cons x r ih =>
      obtain ⟨b, y⟩ := x
      rw [List.lookup_cons] at e
      split at e
      · rename_i q; cases e; rw [beq_iff_eq.mp q]; exact .head _
      · exact .tail _ (ih e)
  have h5 := List.all_eq_true.mp (lk5 w.params) _ hm
  simp only [Bool.and_eq_true, Bool.not_eq_true'] at h5
  exact sC_get (h4 _ hm) (Nat.le_of_ble_eq_true h5.1) h5.2
theorem sI_is : (⟨.nil, 0, {}, #[], {}, 1, os0⟩ : SharedT).abs = (start (opening pw)).1 := rfl
abbrev sI (w : World) : Shared := (⟨tr1I w.params, n1I, {}, #[], {}, t1I, os0⟩ : SharedT).abs
theorem opened (w : World) : importEnds table (opening pw) w 1000 (start (opening pw)).1 (start (opening pw)).2 = some (sI w) := by
  have e : stepT (denote treeTable) (opening pw) w = PySem.W.Fast.tw10156331382660048174 denQ (opening pw) w := by
    rw [PySem.W.Fast.te10156331382660048174, ← table_eq_tree, denQ_eq]
  have h := eI w
  rw [← e, ← PySem.W.Fast.te1435165496053646825] at h
  have h' := impT_of _ _ _ _ h
  rw [← table_eq_tree] at h'
  exact h'
theorem fenced (w : World) : fenceModules? pw (sI w) = some (s0 w os0) := by
  have h := eF w os0
  rw [← PySem.W.Fast.te14289696077712309145] at h
  exact h
theorem asleep_abs (T : BT) (n k : Nat) (os : OsState) : ((⟨T, n, k⟩ : EvS).abs #[] {} os).asleep := ⟨rfl, rfl⟩
theorem old_kept (w : World) (G : Nat → Obj) (b : Addr) (o : Obj) (h : (s0 w os0).heap.get? b = some o) (hb : b ≠ 3) : (sC w G os0).heap.get? b = some o := by
  have hlt : b < 28 := by
    have := Heap.lt_size h
    rwa [show (s0 w os0).heap.objs.size = 28 from absHeap_size ..] at this
  have e := congrArg (fun l : List (Option Obj) => l[b]?) (lk3 w.params G)
  simp only [List.getElem?_map, List.getElem?_range hlt, Option.map_some, if_neg hb, Option.some.injEq] at e
  obtain ⟨h1, h2⟩ := Heap.get?_some_iff.mp h
  refine Heap.get?_some_iff.mpr ⟨?_, h2⟩
  show (absHeap (tr1C w.params G) 317 {}).objs[b]? = some o
  have h1' : (absHeap (tr10 w.params) 28 {}).objs[b]? = some o := h1
  rw [absHeap_at, if_pos hlt] at h1'
  rw [absHeap_at, if_pos (Nat.lt_trans hlt (by decide)), e]
  exact h1'
end
end
section
section
-- LawWalk
open PySem PySem.W PyProof.Rows
/-- what the top leaves behind -/
noncomputable def BehindX (p q : Program) (loose : List Str) (XP : (Str → Option Value) → Heap → Prop) (Φ : World → Heap → Prop) (name : Str) (fa : Addr) (w : World) : Prop :=
  (∃ s, AfterRun (opening p) w s) ∧ ∀ s, AfterRun (opening p) w s → ∃ s₀, fenceModules? p s = some s₀ ∧ s₀.gens = #[] ∧ ∃ s₁, TopRan p w s₀ s₁ ∧ s₁.asleep ∧ s₁.gens = #[] ∧ s₁.heap.isNs mainGlobals = true ∧
    Ground q loose [] XP w s₁ (s₁.heap.nsMap mainGlobals) (s₁.heap.nsMap builtinsNs) s₁.heap ∧ s₁.heap.nsMap mainGlobals name = some (.ref fa) ∧ Φ w s₁.heap

theorem law_walk {l : OpenLaw} {q : Program} {loose : List Str} {XP : (Str → Option Value) → Heap → Prop} {Φ : World → Heap → Prop} {fa : Addr} {d : DefRec} {kwd : List (Str × PySem.Expr)}
    (said : l.row.wellSaid = true) (hbe : ∀ w, BehindX l.prog q loose XP Φ l.name fa w)
    (hXk : ∀ mg h h', XP mg h → (∀ b o, h.get? b = some o → h'.get? b = some o) → XP mg h') (hΦk : ∀ w h h', Φ w h → (∀ b o, h.get? b = some o → h'.get? b = some o) → Φ w h')
    (hdef : defOf q l.row.name = some (d, kwd)) (hp : l.row.prog.theDef l.row.name = some (d.params, d.body, d.scope)) (hk : kwWritten? d.params.kwonlyargs d.params.kw_defaults = some kwd)
    (hwr : l.row.writes = false) (o1 : opensWell l.row.prog = true) (fr : (frees l.row.toRowW && l.row.toRowW.within.isEmpty) = true) (hb : l.row.prog.bare) (hw : l.row.toRowW.promised) (hrec : l.row.toRowW.records = [])
    (call : WalkO q loose XP Φ l.row.toRowW d kwd fun f vs => PySem.call f vs) : l.row.Holds := by
  refine ⟨said, hw, ?_⟩
  have hrecord : l.row.toRowW.claim.records = [] := hrec
  obtain ⟨k5, k6⟩ := Bool.and_eq_true_iff.mp fr
  obtain ⟨hsame, hu, ha, hap, hm⟩ := frees_parts k5
  refine ⟨⟨hb, o1, (have h : ∀ r : RowW, r.makers = [] → r.claim.makers = [] := (fun r h => by unfold RowW.claim; simp [h]); h _ hm)⟩, hw.witness, fun w => ⟨(hbe w).1, fun s' hs' => ?_⟩⟩
  obtain ⟨s₀, hf, hg0, s, hT, hz, hgens, hg, G, hmg, hΦ⟩ := (hbe w).2 s' hs'
  refine ⟨s₀, hf, hg0, s, hT, ?_, ?_, ?_, ?_⟩
  · intro n hn
    obtain rfl : n = l.row.name := by split at hn <;> simp_all
    exact pinned_of_view hg G hdef hp hk
  · intro x hx; rw [hrecord] at hx; cases hx
  · intro x hx; rw [hrecord] at hx; cases hx
  · have G' : Ground q loose l.row.toRowW.records XP w s (s.heap.nsMap mainGlobals) (s.heap.nsMap builtinsNs) s.heap := by rw [hrec]; exact G
    refine ClaimW.callFrom_of_specG (c := l.row.toRowW.claim) hz hgens fun args hpre hlay ord hord => ?_
    obtain ⟨⟨vs, s₁⟩, hlaid⟩ := Option.isSome_iff_exists.mp (layAllW_isSome (P := w.params) (ord := ord) G'.has args l.row.toRowW.args s (pre_splitW hpre).1)
    have keeps := layAllW_keeps _ _ _ hlaid
    have hal := layAllW_rest _ _ _ hlaid
    obtain ⟨as, hrd, hin, hold⟩ := reads_layAllW hord _ _ _ hlaid hlay s₁.heap (fun _ _ e => e)
    have L : Laid l.row.toRowW.records w s s₁ args vs as := ⟨⟨ord, hord, hlaid⟩, hrd, hin, hold, keeps, hal.1.trans hgens, hal.2.2.1⟩
    have G₁ := G'.keeps hXk keeps
    obtain ⟨a, o, pm, cd, doc, dV, kV, h1, h2, h3, h4, h5⟩ := G₁.fn hdef
    have hn : l.row.name = d.name := (defOf_name hdef).symm
    have hfa : a = fa := by
      have : some (Value.ref a) = some (Value.ref fa) := h1.symm.trans hmg
      cases this; rfl
    subst hfa
    have h := call w s s₁ _ _ G₁ (hΦk _ _ _ hΦ keeps) a o pm cd doc dV kV h2 h3 h4 h5 (hn ▸ h1) L.gens args vs as hpre hlay L.reads L.well (L.low G'.low)
    have hi := ident_freeW hu ha hap
    have hwi : l.row.toRowW.claim.within = [] := List.isEmpty_iff.mp k6
    refine ⟨vs, s₁, hlaid, ?_⟩
    refine wpAny_bind (wpAny_nsGet G₁.T.g ?_)
    rw [show s.heap.nsMap mainGlobals l.row.name = some (.ref a) from hmg]
    refine wpAny_bind (wpAny_mono h (fun v s' g => wpAny_pure ⟨_, rfl, ?_⟩) fun e s' g => ?_)
    · have z := g.laid (c := l.row.toRowW.claim) hsame hwi hi L
      exact ⟨z.1, z.2.1, z.2.2, fun q => by rw [hwr] at q; cases q⟩
    · have z := g.laid (c := l.row.toRowW.claim) hsame hwi hi L
      exact ⟨z.1, z.2.1, z.2.2, fun q => by rw [hwr] at q; cases q⟩
end
end
section
section
-- Hd1f
open PySem PySem.W PyProof.Rows
abbrev rw1 := PySem.Challenge.rw_sh0067_01
noncomputable def K1r (P : Params) : Frag :=  (nat_lit 2, o1I_2 P) :: (nat_lit 3, o1C_3 P) :: (nat_lit 32, o1K_32 P) :: (nat_lit 34, o1K_34 P) :: (nat_lit 35, o1K_35 P) :: (nat_lit 37, o1K_37 P) :: (nat_lit 38, o1K_38 P) :: (nat_lit 42, o1K_42 P) :: (nat_lit 43, o1K_43 P) :: (nat_lit 47, o1K_47 P) :: (nat_lit 48, o1K_48 P) :: (nat_lit 52, o1K_52 P) :: (nat_lit 53, o1K_53 P) :: (nat_lit 54, o1K_54 P) :: (nat_lit 55, o1K_55 P) :: (nat_lit 57, o1K_57 P) :: (nat_lit 58, o1K_58 P) :: (nat_lit 60, o1K_60 P) :: (nat_lit 61, o1K_61 P) :: (nat_lit 69, o1K_69 P) :: (nat_lit 70, o1K_70 P) :: (nat_lit 72, o1K_72 P) :: (nat_lit 73, o1K_73 P) :: (nat_lit 75, o1K_75 P) :: (nat_lit 76, o1K_76 P) :: (nat_lit 77, o1K_77 P) :: (nat_lit 79, o1K_79 P) :: (nat_lit 80, o1K_80 P) :: (nat_lit 82, o1K_82 P) :: (nat_lit 83, o1K_83 P) :: (nat_lit 84, o1K_84 P) :: (nat_lit 86, o1K_86 P) :: (nat_lit 87, o1K_87 P) :: (nat_lit 89, o1K_89 P) :: (nat_lit 90, o1K_90 P) :: (nat_lit 91, o1K_91 P) :: (nat_lit 93, o1K_93 P) :: (nat_lit 94, o1K_94 P) :: (nat_lit 96, o1K_96 P) :: (nat_lit 97, o1K_97 P) :: (nat_lit 98, o1K_98 P) :: (nat_lit 101, o1K_101 P) :: (nat_lit 102, o1K_102 P) :: (nat_lit 103, o1K_103 P) :: (nat_lit 105, o1K_105 P) :: (nat_lit 106, o1K_106 P) :: (nat_lit 108, o1K_108 P) :: (nat_lit 109, o1K_109 P) :: (nat_lit 110, o1K_110 P) :: (nat_lit 112, o1K_112 P) :: (nat_lit 113, o1K_113 P) :: (nat_lit 115, o1K_115 P) :: (nat_lit 116, o1K_116 P) :: (nat_lit 117, o1K_117 P) :: (nat_lit 120, o1K_120 P) :: (nat_lit 121, o1K_121 P) :: (nat_lit 122, o1K_122 P) :: (nat_lit 123, o1K_123 P) :: (nat_lit 125, o1K_125 P) :: (nat_lit 126, o1K_126 P) :: (nat_lit 128, o1K_128 P) :: (nat_lit 129, o1K_129 P) :: (nat_lit 130, o1K_130 P) :: (nat_lit 133, o1K_133 P) :: (nat_lit 134, o1K_134 P) :: (nat_lit 135, o1K_135 P) :: (nat_lit 138, o1K_138 P) :: (nat_lit 139, o1K_139 P) :: (nat_lit 140, o1K_140 P) :: (nat_lit 142, o1K_142 P) :: (nat_lit 143, o1K_143 P) :: (nat_lit 145, o1K_145 P) :: (nat_lit 146, o1K_146 P) :: (nat_lit 147, o1K_147 P) :: (nat_lit 149, o1K_149 P) :: (nat_lit 150, o1K_150 P) :: (nat_lit 152, o1K_152 P) :: (nat_lit 153, o1K_153 P) :: (nat_lit 154, o1K_154 P) :: (nat_lit 157, o1K_157 P) :: (nat_lit 158, o1K_158 P) :: (nat_lit 159, o1K_159 P) :: (nat_lit 161, o1K_161 P) :: (nat_lit 162, o1K_162 P) :: (nat_lit 164, o1K_164 P) :: (nat_lit 165, o1K_165 P) :: (nat_lit 166, o1K_166 P) :: (nat_lit 168, o1K_168 P) :: (nat_lit 169, o1K_169 P) :: (nat_lit 171, o1K_171 P) :: (nat_lit 172, o1K_172 P) :: (nat_lit 173, o1K_173 P) :: (nat_lit 175, o1K_175 P) :: (nat_lit 176, o1K_176 P) :: (nat_lit 178, o1K_178 P) :: (nat_lit 179, o1K_179 P) :: (nat_lit 180, o1K_180 P) :: (nat_lit 181, o1K_181 P) :: (nat_lit 182, o1K_182 P) :: (nat_lit 183, o1K_183 P) :: (nat_lit 184, o1K_184 P) :: (nat_lit 194, o1K_194 P) :: (nat_lit 196, o1K_196 P) :: (nat_lit 197, o1K_197 P) :: (nat_lit 199, o1K_199 P) :: (nat_lit 200, o1K_200 P) :: (nat_lit 201, o1K_201 P) :: (nat_lit 203, o1K_203 P) :: (nat_lit 204, o1K_204 P) :: (nat_lit 206, o1K_206 P) :: (nat_lit 207, o1K_207 P) :: (nat_lit 208, o1K_208 P) :: (nat_lit 210, o1K_210 P) :: (nat_lit 211, o1K_211 P) :: (nat_lit 213, o1K_213 P) :: (nat_lit 214, o1K_214 P) :: (nat_lit 215, o1K_215 P) :: (nat_lit 217, o1K_217 P) :: (nat_lit 218, o1K_218 P) :: (nat_lit 220, o1K_220 P) :: (nat_lit 221, o1K_221 P) :: (nat_lit 222, o1K_222 P) :: (nat_lit 223, o1K_223 P) :: (nat_lit 224, o1K_224 P) :: (nat_lit 225, o1K_225 P) :: (nat_lit 226, o1K_226 P) :: (nat_lit 240, o1A_240 P) :: (nat_lit 242, o1A_242 P) :: (nat_lit 243, o1A_243 P) :: (nat_lit 245, o1A_245 P) :: (nat_lit 246, o1A_246 P) :: (nat_lit 286, o1C_286 P) :: (nat_lit 288, o1C_288 P) :: (nat_lit 289, o1C_289 P) :: (nat_lit 291, o1C_291 P) :: (nat_lit 292, o1C_292 P) :: (nat_lit 293, o1C_293 P) :: (nat_lit 295, o1C_295 P) :: (nat_lit 296, o1C_296 P) :: (nat_lit 298, o1C_298 P) :: (nat_lit 299, o1C_299 P) :: (nat_lit 300, o1C_300 P) :: (nat_lit 302, o1C_302 P) :: (nat_lit 303, o1C_303 P) :: (nat_lit 305, o1C_305 P) :: (nat_lit 306, o1C_306 P) :: (nat_lit 307, o1C_307 P) :: (nat_lit 310, o1C_310 P) :: (nat_lit 311, o1C_311 P) :: (nat_lit 312, o1C_312 P) :: (nat_lit 315, o1C_315 P) :: (nat_lit 316, o1C_316 P) :: (nat_lit 236, o1A_236 P) :: []
noncomputable def K1a : List Addr := nat_lit 2 :: nat_lit 3 :: nat_lit 32 :: nat_lit 34 :: nat_lit 35 :: nat_lit 37 :: nat_lit 38 :: nat_lit 42 :: nat_lit 43 :: nat_lit 47 :: nat_lit 48 :: nat_lit 52 :: nat_lit 53 :: nat_lit 54 :: nat_lit 55 :: nat_lit 57 :: nat_lit 58 :: nat_lit 60 :: nat_lit 61 :: nat_lit 69 :: nat_lit 70 :: nat_lit 72 :: nat_lit 73 :: nat_lit 75 :: nat_lit 76 :: nat_lit 77 :: nat_lit 79 :: nat_lit 80 :: nat_lit 82 :: nat_lit 83 :: nat_lit 84 :: nat_lit 86 :: nat_lit 87 :: nat_lit 89 :: nat_lit 90 :: nat_lit 91 :: nat_lit 93 :: nat_lit 94 :: nat_lit 96 :: nat_lit 97 :: nat_lit 98 :: nat_lit 101 :: nat_lit 102 :: nat_lit 103 :: nat_lit 105 :: nat_lit 106 :: nat_lit 108 :: nat_lit 109 :: nat_lit 110 :: nat_lit 112 :: nat_lit 113 :: nat_lit 115 :: nat_lit 116 :: nat_lit 117 :: nat_lit 120 :: nat_lit 121 :: nat_lit 122 :: nat_lit 123 :: nat_lit 125 :: nat_lit 126 :: nat_lit 128 :: nat_lit 129 :: nat_lit 130 :: nat_lit 133 :: nat_lit 134 :: nat_lit 135 :: nat_lit 138 :: nat_lit 139 :: nat_lit 140 :: nat_lit 142 :: nat_lit 143 :: nat_lit 145 :: nat_lit 146 :: nat_lit 147 :: nat_lit 149 :: nat_lit 150 :: nat_lit 152 :: nat_lit 153 :: nat_lit 154 :: nat_lit 157 :: nat_lit 158 :: nat_lit 159 :: nat_lit 161 :: nat_lit 162 :: nat_lit 164 :: nat_lit 165 :: nat_lit 166 :: nat_lit 168 :: nat_lit 169 :: nat_lit 171 :: nat_lit 172 :: nat_lit 173 :: nat_lit 175 :: nat_lit 176 :: nat_lit 178 :: nat_lit 179 :: nat_lit 180 :: nat_lit 181 :: nat_lit 182 :: nat_lit 183 :: nat_lit 184 :: nat_lit 194 :: nat_lit 196 :: nat_lit 197 :: nat_lit 199 :: nat_lit 200 :: nat_lit 201 :: nat_lit 203 :: nat_lit 204 :: nat_lit 206 :: nat_lit 207 :: nat_lit 208 :: nat_lit 210 :: nat_lit 211 :: nat_lit 213 :: nat_lit 214 :: nat_lit 215 :: nat_lit 217 :: nat_lit 218 :: nat_lit 220 :: nat_lit 221 :: nat_lit 222 :: nat_lit 223 :: nat_lit 224 :: nat_lit 225 :: nat_lit 226 :: nat_lit 240 :: nat_lit 242 :: nat_lit 243 :: nat_lit 245 :: nat_lit 246 :: nat_lit 286 :: nat_lit 288 :: nat_lit 289 :: nat_lit 291 :: nat_lit 292 :: nat_lit 293 :: nat_lit 295 :: nat_lit 296 :: nat_lit 298 :: nat_lit 299 :: nat_lit 300 :: nat_lit 302 :: nat_lit 303 :: nat_lit 305 :: nat_lit 306 :: nat_lit 307 :: nat_lit 310 :: nat_lit 311 :: nat_lit 312 :: nat_lit 315 :: nat_lit 316 :: nat_lit 236 :: []
theorem K1_as (P : Params) : K1a = (K1r P).map (·.1) := by kernel_rfl
theorem K1_eq (P : Params) : K1r P = K1 P := by kernel_rfl
noncomputable def Y1 (w : World) (h : Heap) : Prop := (kmHook K1r _ K1_as [294]).says w h ∧ ∃ es, h.get? 247 = some (dO es 650) ∧ Ents b3kv es
theorem y1_of {w : World} {s : Shared} (f : Found w s) : Y1 w s.heap := by
  refine ⟨⟨?_, ?_⟩, f.b3⟩
  · show (K1r w.params).In s.heap
    rw [K1_eq]; exact f.K
  · intro P hP
    obtain rfl : P = 294 := by simpa using hP
    exact f.tab
theorem y1_keeps (w : World) (h h' : Heap) (y : Y1 w h) (k : ∀ b o, h.get? b = some o → h'.get? b = some o) : Y1 w h' :=
  ⟨(kmHook K1r _ K1_as [294]).keeps _ _ _ y.1 k, let ⟨es, a, b⟩ := y.2; ⟨es, k _ _ a, b⟩⟩
open PySem.W.Fast in
theorem lk1X : ∀ (w : World) (G : Nat → Obj) (os : OsState), (tw4187177175401517315 q1 loose1 (importedModules pw.main.body) (xlAt q1 []) true (sC w G os) = openGood q1 loose1) := by
  intro w G os
  kernel_rfl
theorem behindX1 (w : World) : BehindX pw q1 loose1 (XL q1 []) Y1 (S "law") 316 w := by
  have A : AfterImport (opening pw) w (sI w) := AfterImport.of_importEnds (opened w)
  refine ⟨⟨_, A⟩, fun s hs => ?_⟩
  obtain rfl : s = sI w := AfterImport.unique hs A
  refine ⟨s0 w os0, fenced w, rfl, ?_⟩
  obtain ⟨_, ⟨G, hG, rfl⟩, n, t, hrun, ht⟩ := top_ran_of_wp (R := fun s₁ => ∃ G, b3Good G ∧ s₁ = sC w G os0) (asleep_abs (tr10 w.params) n10 t10 os0) (fun s' ⟨G, _, e⟩ => by subst e; rfl) (top_wp w os0 _ fun G hG => ⟨G, hG, rfl⟩)
  have h2 := lk2 w G
  obtain ⟨h2a, h2b⟩ := Prod.mk.inj h2
  obtain ⟨h2b, h2c⟩ := Prod.mk.inj h2b
  obtain ⟨h2a, h2e⟩ := Bool.and_eq_true_iff.mp h2a
  obtain ⟨h2a, h2d⟩ := Bool.and_eq_true_iff.mp h2a
  have e := lk1X w G os0
  rw [← PySem.W.Fast.te4187177175401517315] at e
  obtain ⟨G0, g0, g1, g2, g3, g4, g5⟩ := ground_of_open (w := w) (XP := XL q1 []) (fun s hs => xl_of s hs) (by kernel_rfl) e
  exact ⟨sC w G os0, ⟨⟨n, t, hrun, ht⟩, rfl, rfl, fun b o hb hn => old_kept w G b o hb fun q => hn (.inl q), g2, statics_of_ok h2a, g3, g4, g5, (fun g hg => by simp [EvS.abs] at hg), names_of_bound h2d, laid_of_kept h2e⟩,
    asleep_abs .., rfl, h2b, G0, h2c, y1_of (found_sC hG os0)⟩
def d1 : DefRec := ⟨S "law", dP [19], dB [19], dS [19], match goto [19] pw.main.body with | some (.FunctionDef _ _ _ _ _ _ _ _ _ p) => p | _ => default⟩
theorem said1 : rw1.wellSaid = true := by kernel_rfl
theorem holdsW1 (call : WalkO q1 loose1 (XL q1 []) Y1 rw1.row.toRowW d1 [] fun f vs => PySem.call f vs) : rw1.Holds :=
  ⟨said1, law_walk (q := q1) (loose := loose1) (Φ := Y1) (fa := 316) (d := d1) (kwd := []) (row_said said1) behindX1 XL.keeps y1_keeps (by kernel_rfl) (by kernel_rfl) (by kernel_rfl) rfl (by decide +kernel) (by decide +kernel) ⟨rfl, rfl, rfl, rfl, rfl, by decide +kernel⟩ (by w_witness2) rfl call⟩
end
end
section
section
-- Rul
open PySem PySem.W PyProof.Rows
theorem ne_of_allLt {d : Addr} {l : List (Addr × Obj)} (h : AllLt d l) : ∀ p ∈ l, p.1 ≠ d := by
  induction l with
  | nil => exact List.forall_mem_nil _
  | cons p r ih =>
    intro q hq
    rcases List.mem_cons.mp hq with e | e
    · rw [e]; exact Nat.ne_of_lt h.1
    · exact ih h.2 q e
/-- past all addresses of a ledger -/
noncomputable def topA : List (Addr × Obj) → Nat
  | [] => 0
  | p :: r => Nat.max (p.1 + 1) (topA r)
theorem allLt_top {d : Addr} {l : List (Addr × Obj)} : AllLt d l = (topA l ≤ d) := by
  induction l with
  | nil => simp [AllLt, topA]
  | cons p r ih =>
    show (@LT.lt Nat _ p.1 d ∧ AllLt d r) = _
    rw [ih]
    apply propext
    show _ ↔ Nat.max (p.1 + 1) (topA r) ≤ d
    exact (Nat.max_le (a := p.1 + 1) (b := topA r)).symm
theorem ne_of_top {d : Nat} {l : List (Addr × Obj)} (h : topA l ≤ d) : ∀ p ∈ l, p.1 ≠ d := ne_of_allLt (allLt_top ▸ h)
/-- values that are the signs of a text, one by one -/
noncomputable def ChL : List Value → List Nat → Prop
  | [], [] => True
  | v :: vs, c :: cs => (∃ t, v = Value.str ⟨#[c]⟩ t) ∧ ChL vs cs
  | _, _ => False
theorem ChL.length : ∀ {vs : List Value} {cs : List Nat}, ChL vs cs → vs.length = cs.length
  | [], [], _ => rfl
  | _ :: _, _ :: _, h => congrArg (· + 1) (ChL.length h.2)
theorem chL_of_get : ∀ {vs : List Value} {cs : List Nat}, vs.length = cs.length → (∀ (j : Nat) (v : Value), vs[j]? = some v → ∃ (c : Nat) (u : Tok), cs[j]? = some c ∧ v = Value.str ⟨#[c]⟩ u) → ChL vs cs
  | [], [], _, _ => trivial
  | [], _ :: _, h, _ => by cases h
  | _ :: _, [], h, _ => by cases h
  | v :: vs, c :: cs, h, k => by
    refine ⟨?_, chL_of_get (by simpa using h) fun j x hx => by simpa using k (j + 1) x (by simpa using hx)⟩
    obtain ⟨c', u, e, q⟩ := k 0 v rfl
    obtain rfl : c = c' := by simpa using e
    exact ⟨u, q⟩
section
variable {prog : Program} {w : World} {A : Around} {E : Value → Shared → Prop} {s : Shared} {h₀ : Heap} {L : Addr} {m : Str → Option Value} {Q : Value → Shared → Prop} {news : List (Addr × Obj)}
theorem list_strK {x : Str} {t : Tok} (F : Fr h₀ L s.heap m) (N : News h₀ L s.heap news)
    (h : ∀ D (ys : List Value) c h' tk, Fr h₀ L h' m → News h₀ L h' ((D, listOf ys.toArray c) :: news) → (∀ q ∈ news, q.1 < D) → ChL ys x.cps.toList → Q (.ref D) { s with heap := h', toks := tk })
    (hh : A.handled = none) (hsz : x.cps.size ≤ sizeLine) : wpAny (model prog w) A (call (.type "list") [.str x t]) Q E s := by
  refine call_list_str hh x t (hn := hsz) fun h' tk acc' c' hk hD hacc => h _ acc'.toList c' h' tk (F.keeps hk) (news_pushed F N hk (by simpa using hD) rfl) (fun q hq => Heap.lt_size (N q hq).1)
    (chL_of_get (by simpa using hacc.1) fun j v hv => ?_)
  obtain ⟨c, u, hc, q⟩ := hacc.2 j v (by simpa using hv)
  exact ⟨c, u, by simpa using hc, q⟩
theorem truthy_nil {l : Addr} {k : Nat} {Q : Bool → Shared → Prop} (N : News h₀ L s.heap news) (hm : (l, listOf ([] : List Value).toArray k) ∈ news) (h : Q false { s with toks := s.toks + 1 + 1 }) : wpAny (model prog w) A (truthy (.ref l)) Q E s :=
  wpAny_truthy_list (items := #[]) ⟨_, (N _ hm).1, rfl, _, rfl⟩ (by decide) h
theorem truthy_cons {l : Addr} {k : Nat} {v : Value} {ys : List Value} {Q : Bool → Shared → Prop} (N : News h₀ L s.heap news) (hm : (l, listOf (v :: ys).toArray k) ∈ news) (hz : (v :: ys).length ≤ sizeLine) (h : Q true { s with toks := s.toks + 1 + 1 }) : wpAny (model prog w) A (truthy (.ref l)) Q E s :=
  wpAny_truthy_list (items := (v :: ys).toArray) ⟨_, (N _ hm).1, rfl, _, rfl⟩ (Int.lt_of_le_of_lt (Int.ofNat_le.mpr (by simpa using hz)) (by decide)) (by simpa using h)
theorem pop0_cons {D : Addr} {n : Nat} {u : Tok} {v : Value} {ys : List Value} {news' : List (Addr × Obj)} {Q : Value → Shared → Prop} (F : Fr h₀ L s.heap m) (N : News h₀ L s.heap news) (U : Upd D (listOf (v :: ys).toArray n) (listOf ys.toArray (n + 1)) news news')
    (hz : (v :: ys).length ≤ sizeLine) (h : ∀ h', Fr h₀ L h' m → News h₀ L h' news' → Q v { s with heap := h' }) : wpAny (model prog w) A (call (.builtin "list.pop") [.ref D, .int 0 u]) Q E s :=
  kl_popAt (p := []) (q := ys) (k := 0) F N rfl (by simp [seqIndex?]) rfl U (by simpa using hz) h
end
end
end
section
section
-- CI
open PySem PySem.W PyProof.Rows PySem.Calls
theorem owner_ci : Manifest.owners.lookup (String.ofList ['r', 'o', 't', 'a', 'r', 'e', 't', 'i', '_', 'e', 'l', 'b', 'a', 'l', 'l', 'a', 'c'].reverse) = some Manifest.sig_callable_iterator := by kernel_rfl
theorem slot_ci_next : Slot "callable_iterator" "__next__" "callable_iterator.__next__" :=
  .of (owner := "callable_iterator") (n := "__next__") (by rw [typeLookup_type, builtinLookup_eq_fast]; kernel_rfl) (by decide +kernel) (by decide +kernel) (by decide +kernel)
    (by first | exact .inl (by decide +kernel) | exact .inr (by decide +kernel)) (by rw [isSubtype_type]; kernel_rfl)
theorem entry_ci_next : entryFor table "callable_iterator.__next__" = some Builtin.«callable_iterator.__next__» := entryFor_of_tree (by kernel_rfl)
theorem args_ci_next (a : Value) : argsOk "callable_iterator.__next__" ⟨[a], []⟩ := by
  unfold argsOk; rw [signature?_of (id := "callable_iterator.__next__") (n := ['_', '_', 't', 'x', 'e', 'n', '_', '_']) (o := ['r', 'o', 't', 'a', 'r', 'e', 't', 'i', '_', 'e', 'l', 'b', 'a', 'l', 'l', 'a', 'c']) (by kernel_rfl) owner_ci]; kernel_rfl
theorem slot_ci_iter : Slot "callable_iterator" "__iter__" "callable_iterator.__iter__" :=
  .of (owner := "callable_iterator") (n := "__iter__") (by rw [typeLookup_type, builtinLookup_eq_fast]; kernel_rfl) (by decide +kernel) (by decide +kernel) (by decide +kernel)
    (by first | exact .inl (by decide +kernel) | exact .inr (by decide +kernel)) (by rw [isSubtype_type]; kernel_rfl)
theorem entry_ci_iter : entryFor table "callable_iterator.__iter__" = some Builtin.«dict_keyiterator.__iter__» := entryFor_alias (id' := "dict_keyiterator.__iter__") (by kernel_rfl) rfl (by decide +kernel) (by kernel_rfl)
theorem args_ci_iter (a : Value) : argsOk "callable_iterator.__iter__" ⟨[a], []⟩ := by
  unfold argsOk; rw [signature?_of (id := "callable_iterator.__iter__") (n := ['_', '_', 'r', 'e', 't', 'i', '_', '_']) (o := ['r', 'o', 't', 'a', 'r', 'e', 't', 'i', '_', 'e', 'l', 'b', 'a', 'l', 'l', 'a', 'c']) (by kernel_rfl) owner_ci]; kernel_rfl
theorem args_iter2 (a b : Value) : argsOk "iter" ⟨[a, b], []⟩ := by unfold argsOk; kernel_rfl
theorem method_call_lookup : typeLookup (.type "method") (Str.ofString "__call__") = pure (some (.builtin "method.__call__")) := by rw [typeLookup_type, builtinLookup_eq_fast]; kernel_rfl
abbrev ciObj (q : Addr) (sen : Value) (b : Bool) : Obj := { cls := .type "callable_iterator", data := .fields #[.ref q, sen, .bool b] }
section
variable {prog : Program} {w : World} {A : Around} {E : Value → Shared → Prop} {s : Shared} {h₀ : Heap} {L q f I : Addr} {m : Str → Option Value} {news : List (Addr × Obj)} {self sen : Value}
theorem iter2_K {Q : Value → Shared → Prop} (F : Fr h₀ L s.heap m) (N : News h₀ L s.heap news) (hq : (q, methodObj (.ref f) self) ∈ news)
    (h : ∀ (I : Addr) h', Fr h₀ L h' m → News h₀ L h' ((I, ciObj q sen false) :: news) → (∀ p ∈ news, p.1 < I) → Q (.ref I) { s with heap := h' }) :
    wpAny (model prog w) A (call (.builtin "iter") [.ref q, sen]) Q E s := by
  refine call_function_entry (by decide +kernel) (by decide +kernel) kdk_entry_iter (args_iter2 _ _) ?_
  unfold Builtin.«iter»
  refine wpAny_bind (m := someArgs "iter" 1 2 _) (wpAny_of_eq (a := [Value.ref q, sen]) (by first | rfl | kernel_rfl!) ?_)
  dsimp only
  refine wpAny_bind (wpAny_specialOf (T := "method") (name := Str.ofString "__call__") ⟨_, (N _ hq).1, rfl⟩ method_call_lookup ?_)
  refine wpAny_ite_split (fun hab => absurd hab (by decide)) (fun _ => ?_)
  refine wpAny_bind (wpAny_rule ?_)
  refine wpAny_bind (wpAny_newObj_type (wpAny_pure ⟨_, rfl, ?_⟩))
  exact h _ _ (F.push _) (News.push F N _ rfl) fun p hp => Heap.lt_size (N p hp).1
theorem pyIter_ci {Q : Value → Shared → Prop} {b : Bool} (hI : s.heap.get? I = some (ciObj q sen b)) (h : Q (.ref I) s) : wpAny (model prog w) A (pyIter (.ref I)) Q E s := by
  have hT : s.TypeIs (.ref I) "callable_iterator" := ⟨_, hI, rfl⟩
  refine wpAny_pyIter_slot hT slot_ci_iter (wpAny_call_entry slot_ci_iter hT entry_ci_iter ?_ (args_ci_iter _))
  show wpAny _ _ (ret (.ref I)) _ _ s
  exact wpAny_pure ⟨_, rfl, "callable_iterator", _, hT, slot_ci_next.lookup, h⟩
abbrev ciEnd : Obj := { cls := .type "callable_iterator", data := .fields #[.none, .none, .bool true] }
theorem stop_raises {α : Type} {M : Model} {Q : α → Shared → Prop} (hh : A.handled = none)
    (h : ∀ h' e, (∀ b o, s.heap.get? b = some o → h'.get? b = some o) → (∃ o, h'.get? e = some o ∧ o.cls = .type "StopIteration") → E (.ref e) { s with heap := h' }) :
    wpAny M A (Builtin.SmallTypes.stopIteration : Sem α) Q E s := by
  show wpAny _ _ (newExc (.type "StopIteration") [] >>= _) _ _ _
  refine wpAny_bind ?_
  simp only [newExc, newTuple]
  refine wpAny_bind (wpAny_newObj_type ?_ (by size_fits))
  refine wpAny_bind (m := firstArgMember _ _) (wpAny_of_eq (a := Value.none) (by first | rfl | (simp only [firstArgMember]; rfl)) ?_)
  refine wpAny_newObj_type ?_ (by size_fits)
  simp only [raiseNew]
  refine wpAny_bind (wpAny_handled ?_)
  rw [hh]
  refine wpAny_bind (wpAny_pure (wpAny_throw ?_))
  exact h _ _ (fun b o e => Heap.get?_push_of_some _ (Heap.get?_push_of_some _ e)) ⟨_, Heap.get?_push_size _ rfl, rfl⟩
theorem borrows_method {M : Model} {Q : Bool → Shared → Prop} {of : Obj} {fd : FuncData} (hq : s.heap.get? q = some (methodObj (.ref f) self)) (hf : s.heap.get? f = some of) (hd : of.data = .func fd) (h : Q true s) :
    wpAny M A (borrowsExactly (.ref q)) Q E s := by
  show wpAny _ _ (load q >>= _) _ _ _
  refine wpAny_bind (wpAny_load hq ?_)
  show wpAny _ _ (load f >>= _) _ _ _
  refine wpAny_bind (wpAny_load hf ?_)
  rw [hd]
  exact wpAny_pure h
theorem ci_ended {Q : Option Value → Shared → Prop} (hh : A.handled = none) (hI : s.heap.get? I = some ciEnd)
    (h : ∀ h', (∀ b o, s.heap.get? b = some o → h'.get? b = some o) → Q none { s with heap := h' }) : wpAny (model prog w) A (pyNext (.ref I)) Q E s := by
  have hT : s.TypeIs (.ref I) "callable_iterator" := ⟨_, hI, rfl⟩
  unfold pyNext
  refine wpAny_bind (wpAny_attempt (wpAny_callSpecial?_slot (name := Str.ofString "__next__") hT slot_ci_next
    (wpAny_call_entry slot_ci_next hT entry_ci_next ?_ (args_ci_next _))))
  unfold Builtin.«callable_iterator.__next__»
  show wpAny _ _ (field (.ref I) 2 >>= _) _ _ s
  refine wpAny_bind (wpAny_field hI rfl (x := .bool true) rfl ?_)
  refine wpAny_ite_split (fun _ => ?_) (fun hab => absurd rfl hab)
  refine wpAny_bind (wpAny_rule ?_)
  refine wpAny_bind (m := Builtin.SmallTypes.stopIteration) ?_
  refine stop_raises (A := A.in1) hh fun h' e hk ⟨o, ho, hc⟩ => ?_
  exact wpAny_bind (wpAny_isInstance (T := "StopIteration") (b := true) ⟨o, ho, hc⟩ isSubtype_stop (wpAny_pure (h h' hk)))
theorem wpAny_callBorrowed {M : Model} {f : Value} {pos : List Value} {Q : Value → Shared → Prop}
    (hc : codeAny M A (.call f ⟨pos, []⟩) (fun r s' => match r with | .ok (.ret v) => Q v s' | .ok _ => False | .error e => E e s') s) :
    wpAny M A (callBorrowed f pos) Q E s := fun Γ p hΓ => by
  unfold callBorrowed
  rw [Sem.wp_call]
  have h := hc _ p rfl (hΓ.enter (.call f ⟨pos, []⟩) none p (by intro x; cases x))
  refine cast (congrArg (fun R => wpCode M (Γ.enter (.call f ⟨pos, []⟩) none p) R p s) ?_) h
  funext r s'
  cases r with
  | error e => rfl
  | ok fl => cases fl <;> rfl
theorem ci_next {Q : Option Value → Shared → Prop} {sx : Str} {st : Tok} {of : Obj} {fd : FuncData} (hh : A.handled = none) (hI : s.heap.get? I = some (ciObj q (.str sx st) false)) (hq : s.heap.get? q = some (methodObj (.ref f) self))
    (hf : s.heap.get? f = some of) (hd : of.data = .func fd)
    (hc : codeAny (model prog w) A.in1 (.call (.ref f) ⟨[self], []⟩) (fun r s₁ => match r with
      | .ok (.ret v) => ∃ y u, v = .str y u ∧ s₁.heap.get? I = some (ciObj q (.str sx st) false) ∧ s₁.heap.get? q = some (methodObj (.ref f) self) ∧ s₁.heap.get? f = some of ∧
        (y ≠ sx → Q (some v) s₁) ∧ (y = sx → ∀ h', Heap.ExtBut I s₁.heap h' → h'.get? I = some ciEnd → Q none { s₁ with heap := h' })
      | _ => False) s) :
    wpAny (model prog w) A (pyNext (.ref I)) Q E s := by
  have hT : s.TypeIs (.ref I) "callable_iterator" := ⟨_, hI, rfl⟩
  unfold pyNext
  refine wpAny_bind (wpAny_attempt (wpAny_callSpecial?_slot (name := Str.ofString "__next__") hT slot_ci_next
    (wpAny_call_entry slot_ci_next hT entry_ci_next ?_ (args_ci_next _))))
  unfold Builtin.«callable_iterator.__next__»
  show wpAny _ _ (field (.ref I) 2 >>= _) _ _ s
  refine wpAny_bind (wpAny_field hI rfl (x := .bool false) rfl ?_)
  refine wpAny_ite_split (fun hab => absurd hab (by decide)) (fun _ => ?_)
  refine wpAny_bind (wpAny_field hI rfl (x := .ref q) rfl ?_)
  refine wpAny_bind (wpAny_attempt ?_)
  show wpAny _ _ (borrowsExactly (.ref q) >>= _) _ _ _
  refine wpAny_bind (borrows_method hq hf hd ?_)
  refine wpAny_ite_split (fun _ => ?_) (fun hab => absurd rfl hab)
  refine wpAny_callBorrowed ?_
  refine method_call hq (codeAny_mono hc (fun r s₁ hr => ?_))
  cases r with
  | error e => exact hr.elim
  | ok fl =>
    cases fl with
    | ret v =>
      obtain ⟨y, u, rfl, hI₁, hq₁, hf₁, h1, h2⟩ := hr
      show wpAny _ _ (field (.ref I) 2 >>= _) _ _ s₁
      refine wpAny_bind (wpAny_field hI₁ rfl (x := .bool false) rfl ?_)
      refine wpAny_ite_split (fun hab => absurd hab (by decide)) (fun _ => ?_)
      refine wpAny_bind (wpAny_field hI₁ rfl (x := .str sx st) rfl ?_)
      refine wpAny_bind (wpAny_holding (wpAny_eqBool_str ?_))
      by_cases hy : sx = y
      · subst hy
        refine wpAny_ite_split (fun hab => absurd hab (by simp)) (fun _ => ?_)
        refine wpAny_bind (wpAny_rule ?_)
        refine wpAny_bind ?_
        refine wpAny_bind (m := field (.ref I) 0) (wpAny_field hI₁ rfl (x := .ref q) rfl ?_)
        refine wpAny_bind ?_
        show wpAny _ _ (borrowsExactly (.ref q) >>= _) _ _ _
        refine wpAny_bind (borrows_method hq₁ hf₁ hd ?_)
        refine wpAny_ite_split (fun _ => ?_) (fun hab => absurd rfl hab)
        refine wpAny_pure ?_
        refine wpAny_bind (wpAny_setField hI₁ rfl (by simp) ?_)
        have hI₂ : (s₁.heap.update I (Obj.mapFields (·.setIfInBounds 0 .none))).get? I = some { cls := .type "callable_iterator", data := .fields #[.none, .str sx st, .bool false] } := Heap.get?_update_self _ hI₁ rfl
        refine wpAny_bind (wpAny_setField hI₂ rfl (by simp) ?_)
        have hI₃ : ((s₁.heap.update I (Obj.mapFields (·.setIfInBounds 0 .none))).update I (Obj.mapFields (·.setIfInBounds 1 .none))).get? I = some { cls := .type "callable_iterator", data := .fields #[.none, .none, .bool false] } := Heap.get?_update_self _ hI₂ rfl
        refine wpAny_setField hI₃ rfl (by simp) ?_
        have hI₄ : (((s₁.heap.update I (Obj.mapFields (·.setIfInBounds 0 .none))).update I (Obj.mapFields (·.setIfInBounds 1 .none))).update I (Obj.mapFields (·.setIfInBounds 2 (.bool true)))).get? I = some ciEnd := Heap.get?_update_self _ hI₃ rfl
        refine stop_raises (A := A.in1) hh fun h' e hk ⟨o, ho, hc⟩ => ?_
        refine wpAny_bind (wpAny_isInstance (T := "StopIteration") (b := true) ⟨o, ho, hc⟩ isSubtype_stop (wpAny_pure (h2 rfl h' (fun b ob hb e => hk _ _ ?_) (hk _ _ hI₄))))
        exact (Heap.get?_update_other _ _ (Ne.symm hb)).trans ((Heap.get?_update_other _ _ (Ne.symm hb)).trans ((Heap.get?_update_other _ _ (Ne.symm hb)).trans e))
      · refine wpAny_ite_split (fun _ => ?_) (fun hab => absurd (by simp [hy]) hab)
        refine wpAny_bind (wpAny_pure ?_)
        exact wpAny_pure ⟨_, rfl, wpAny_pure (h1 (fun q => hy q.symm))⟩
    | _ => exact hr.elim
end
end
end
open PySem PySem.W PyProof.Rows
local macro_rules | `(tactic| walk_at "%d") => `(tactic| (try dsimp only [List.nil_append, List.cons_append]))
local macro_rules | `(tactic| walk_at "%s") => `(tactic| (with_reducible show wpAny _ _ (subscriptTail _ _ (Value.str _ _) (Value.ref _)) _ _ _))
local macro_rules | `(tactic| walk_at "%l") => `(tactic| (with_reducible show wpAny _ _ (call (Value.builtin "len") [Value.str _ _]) _ _ _))
local macro_rules | `(tactic| walk_at "%i") => `(tactic| (with_reducible show wpAny _ _ (subscriptTail _ _ (Value.ref _) (Value.int _ _)) _ _ _))
local macro_rules | `(tactic| walk_at "%o") => `(tactic| (first | assumption | exact Nat.le_add_left 1 _ | omega))
local macro_rules | `(tactic| walk_at "%p") => `(tactic| first | (with_reducible assumption) | exact And.left (by with_reducible assumption) | exact And.left (And.right (by with_reducible assumption)) | exact And.left (And.right (And.right (by with_reducible assumption))) | exact And.left (And.right (And.right (And.right (by with_reducible assumption)))) | exact And.left (And.right (And.right (And.right (And.right (by with_reducible assumption))))) | exact And.left (And.right (And.right (And.right (And.right (And.right (by with_reducible assumption)))))) | exact And.left (And.right (And.right (And.right (And.right (And.right (And.right (by with_reducible assumption))))))) | exact And.left (And.right (And.right (And.right (And.right (And.right (And.right (And.right (by with_reducible assumption)))))))) | exact And.left (And.right (And.right (And.right (And.right (And.right (And.right (And.right (And.right (by with_reducible assumption))))))))) | exact And.left (And.right (And.right (And.right (And.right (And.right (And.right (And.right (And.right (And.right (by with_reducible assumption)))))))))) | exact And.right (by with_reducible assumption) | exact And.right (And.right (by with_reducible assumption)) | exact And.right (And.right (And.right (by with_reducible assumption))) | exact And.right (And.right (And.right (And.right (by with_reducible assumption)))) | exact And.right (And.right (And.right (And.right (And.right (by with_reducible assumption))))) | exact And.right (And.right (And.right (And.right (And.right (And.right (by with_reducible assumption)))))) | exact And.right (And.right (And.right (And.right (And.right (And.right (And.right (by with_reducible assumption))))))) | exact And.right (And.right (And.right (And.right (And.right (And.right (And.right (And.right (by with_reducible assumption)))))))) | exact And.right (And.right (And.right (And.right (And.right (And.right (And.right (And.right (And.right (by with_reducible assumption))))))))) | exact And.right (And.right (And.right (And.right (And.right (And.right (And.right (And.right (And.right (And.right (by with_reducible assumption)))))))))))
local macro_rules | `(tactic| k_ne) => `(tactic| (refine neN ?_; (try dsimp only); first | walk_at "%p" | exact Ne.symm (by walk_at "%p") | exact Nat.ne_of_lt (by walk_at "%p") | exact Nat.ne_of_gt (by walk_at "%p") | omega))
local macro_rules | `(tactic| k_lt $h:ident) => `(tactic| (replace $h := allLt_of $h; (try simp only [AllLt, and_true] at $h:ident); (try simp only [allLt_top] at $h:ident)))
local macro_rules | `(tactic| k_all) => `(tactic| first | assumption | exact ne_of_top (by first | walk_at "%p" | omega))
section
open PySem PySem.W PyProof.Rows
local macro_rules | `(tactic| walk_at "truthy ref") => `(tactic| (k_here; (with_reducible show wpAny _ _ (truthy (Value.ref _)) _ _ _); first
  | (refine' truthy_nil ?_ ?_ ?_; rotate_right 3; k_asm; k_mem)
  | (refine' truthy_cons ?_ ?_ ?_ ?_; rotate_right 4; k_asm; k_mem; k_asm)))
local macro_rules | `(tactic| walk_at "call builtin:list.pop") => `(tactic| (k_here; walk_at "%d"; (with_reducible show wpAny _ _ (call (Value.builtin _) [Value.ref _, Value.int _ _]) _ _ _); k_dflt (refine' pop0_cons ?_ ?_ ?_ ?_ ?_; rotate_right 5; k_asm; k_asm; k_upd; k_asm); kl_rest))
section
-- RC
open PySem PySem.W PyProof.Rows
abbrev lawE (L fa : Addr) (cd : Value) : Env := envOfC (S "law") (dS [19]) L fa cd
abbrev getE (L : Addr) : Env := envOf (S "_netrclex.get_token") (dS [9, 2]) L 214 (.ref 213)
abbrev lexA (L fa : Addr) (cd : Value) (L' : Addr) : Around := (callerA.deeper (lawE L fa cd)).deeper (getE L')
abbrev KH (w : World) (x : String) : Int := PyData.keyHash w.params (Str.ofString x)
abbrev lexD (w : World) (ln : Int) (fp : Value) (pb : Addr) (t1 t2 t3 t4 t5 t6 : Tok) : Obj :=
  dictOf [⟨KH w "lineno", .str (Str.ofString "lineno") t1, .int ln t2⟩, ⟨KH w "instream", .str (Str.ofString "instream") t3, fp⟩, ⟨KH w "whitespace", .str (Str.ofString "whitespace") t4, .str (Str.ofString "\n\t\r ") t5⟩, ⟨KH w "pushback", .str (Str.ofString "pushback") t6, .ref pb⟩] 4
abbrev tapeD (w : World) (fp : Value) (pb f : Addr) (t1 t2 t3 t4 t5 t6 t7 : Tok) : Obj :=
  dictOf [⟨KH w "lineno", .str (Str.ofString "lineno") t1, .int 1 t2⟩, ⟨KH w "instream", .str (Str.ofString "instream") t3, fp⟩, ⟨KH w "whitespace", .str (Str.ofString "whitespace") t4, .str (Str.ofString "\n\t\r ") t5⟩, ⟨KH w "pushback", .str (Str.ofString "pushback") t6, .ref pb⟩, ⟨KH w "read", .str (Str.ofString "read") t7, .ref f⟩] 5
abbrev readQ (LL : Addr) : Str := qualnameIn (envOfC (S "_law_lexer") (dS [16]) LL 299 (Value.ref 298)) (Str.ofString "read") (Str.ofString "read")
abbrev readO (LL cell : Addr) (doc pm ct : Value) (c' : Addr) : Obj := fnMade (Str.ofString "read") (readQ LL) (dP [16, 1]) (dB [16, 1]) (dS [16, 1]) [(Str.ofString "left", cell)] doc pm c' ct
theorem nl_eq (c : Nat) : (({ cps := #[c] } : Str) == Str.ofString "\n") = decide (c = 10) := by
  by_cases h : c = 10
  · subst h; decide
  · rw [decide_eq_false h]
    apply beq_eq_false_iff_ne.mpr
    intro e
    have e1 := congrArg (fun z : Str => z.cps[0]?) e
    exact h (Option.some.inj e1)
theorem nl_of_true {c : Nat} (e : (({ cps := #[c] } : Str) == Str.ofString "\n") = true) : c = 10 := of_decide_eq_true (nl_eq c ▸ e)
theorem nl_of_false {c : Nat} (e : (({ cps := #[c] } : Str) == Str.ofString "\n") = false) : c ≠ 10 := of_decide_eq_false (nl_eq c ▸ e)
/-- one read: the sign and what is left -/
noncomputable def rd : List Nat → Str × List Nat
  | [] => (Str.ofString "", [])
  | c :: r => (⟨#[c]⟩, r)
/-- how many line feeds -/
noncomputable def nlc : List Nat → Int
  | [] => 0
  | c :: r => (if c = 10 then 1 else 0) + nlc r
theorem nlc_cons (c : Nat) (r : List Nat) : nlc (c :: r) = (if c = 10 then 1 else 0) + nlc r := rfl
/-- the lexer's own addresses are not those that a read changes -/
structure Apart (x d tx td f c' cell left : Nat) : Prop where
  hd : x ≠ d ∧ tx ≠ d ∧ td ≠ d ∧ f ≠ d ∧ c' ≠ d ∧ cell ≠ d ∧ left ≠ d
  hl : x ≠ left ∧ d ≠ left ∧ tx ≠ left ∧ td ≠ left ∧ f ≠ left ∧ c' ≠ left ∧ cell ≠ left
section
variable {w : World} {h₀ base : Heap} {L L' fa x d tx td pb pb2 f c' cell left LL : Addr} {cd doc pm ct fp2 : Value} {m mg mb : Str → Option Value} {s : Shared} {rest : List (Addr × Obj)} {mean : ExcName → Option Value} {p : Program} {loose : List Str}
  {ln : Int} {t1 t2 t3 t4 t5 t6 u1 u2 u3 u4 u5 u6 u7 ut tq : Tok} {k : Nat} {oc oce : Obj} {vs : Array Value} {ys : List Value} {c : Nat}
set_option maxHeartbeats 8000000 in
theorem rc_cons {R : Result → Shared → Prop} (dummy : PySem.Challenge.rw_sh0067_01 = PySem.Challenge.rw_sh0067_01 ∧ K1r = K1r)
  (B : Below (callerA.deeper (lawE L fa cd)) base [lawE L fa cd] h₀) (F : Fr h₀ L' s.heap m) (X : (K1r w.params).In h₀) (T : Top p loose mean mg mb h₀) (C : CodeHd base 298 294)
  (hoc : oc.data = .fields vs) (hvs : vs[1]? = some (.str (readQ LL) tq)) (hcell : oce.data = .cell (some (.ref left)))
  (N : News h₀ L' s.heap ((x, instObj 224 d) :: (d, lexD w ln (.ref tx) pb t1 t2 t3 t4 t5 t6) :: (tx, instObj 224 td) :: (td, tapeD w fp2 pb2 f u1 u2 u3 u4 u5 u6 u7) :: (f, readO LL cell doc pm ct c') :: (c', oc) :: (cell, oce) :: (left, listOf ((.str ⟨#[c]⟩ ut :: ys) : List Value).toArray k) :: rest))
  (ap : Apart x d tx td f c' cell left) (hd : ∀ p ∈ rest, p.1 ≠ d) (hl : ∀ p ∈ rest, p.1 ≠ left) (hz : (Value.str ⟨#[c]⟩ ut :: ys).length ≤ sizeLine)
  (h1 : c = 10 → ∀ h' tk t2', Fr h₀ L' h' m → News h₀ L' h' ((x, instObj 224 d) :: (d, lexD w (ln + 1) (.ref tx) pb t1 t2' t3 t4 t5 t6) :: (tx, instObj 224 td) :: (td, tapeD w fp2 pb2 f u1 u2 u3 u4 u5 u6 u7) :: (f, readO LL cell doc pm ct c') :: (c', oc) :: (cell, oce) :: (left, listOf (ys : List Value).toArray (k + 1)) :: rest) → R (.ok (.ret (.str ⟨#[c]⟩ ut))) { heap := h', gens := s.gens, drawn := s.drawn, toks := tk, os := s.os })
  (h2 : c ≠ 10 → ∀ h' tk, Fr h₀ L' h' m → News h₀ L' h' ((x, instObj 224 d) :: (d, lexD w ln (.ref tx) pb t1 t2 t3 t4 t5 t6) :: (tx, instObj 224 td) :: (td, tapeD w fp2 pb2 f u1 u2 u3 u4 u5 u6 u7) :: (f, readO LL cell doc pm ct c') :: (c', oc) :: (cell, oce) :: (left, listOf (ys : List Value).toArray (k + 1)) :: rest) → R (.ok (.ret (.str ⟨#[c]⟩ ut))) { heap := h', gens := s.gens, drawn := s.drawn, toks := tk, os := s.os }) :
  codeAny (model pw w) (lexA L fa cd L').in1 (.call (.ref 207) ⟨[.ref x], []⟩) R s := by
  obtain ⟨apd, apl⟩ := ap
  revert dummy
  k_fill
  intro _
  w_on
  k_enter
  k_steps

  · exact h1 (nl_of_true (by assumption)) _ _ _ (by assumption) (by assumption)
  · exact h2 (nl_of_false (by assumption)) _ _ (by assumption) (by assumption)
set_option maxHeartbeats 8000000 in
theorem rc_nil {R : Result → Shared → Prop} (dummy : PySem.Challenge.rw_sh0067_01 = PySem.Challenge.rw_sh0067_01 ∧ K1r = K1r)
  (B : Below (callerA.deeper (lawE L fa cd)) base [lawE L fa cd] h₀) (F : Fr h₀ L' s.heap m) (X : (K1r w.params).In h₀) (T : Top p loose mean mg mb h₀) (C : CodeHd base 298 294)
  (hoc : oc.data = .fields vs) (hvs : vs[1]? = some (.str (readQ LL) tq)) (hcell : oce.data = .cell (some (.ref left)))
  (N : News h₀ L' s.heap ((x, instObj 224 d) :: (d, lexD w ln (.ref tx) pb t1 t2 t3 t4 t5 t6) :: (tx, instObj 224 td) :: (td, tapeD w fp2 pb2 f u1 u2 u3 u4 u5 u6 u7) :: (f, readO LL cell doc pm ct c') :: (c', oc) :: (cell, oce) :: (left, listOf ([] : List Value).toArray k) :: rest))
  (h1 : ∀ h' tk u, Fr h₀ L' h' m → News h₀ L' h' ((x, instObj 224 d) :: (d, lexD w ln (.ref tx) pb t1 t2 t3 t4 t5 t6) :: (tx, instObj 224 td) :: (td, tapeD w fp2 pb2 f u1 u2 u3 u4 u5 u6 u7) :: (f, readO LL cell doc pm ct c') :: (c', oc) :: (cell, oce) :: (left, listOf ([] : List Value).toArray k) :: rest) → R (.ok (.ret (.str (Str.ofString "") u))) { heap := h', gens := s.gens, drawn := s.drawn, toks := tk, os := s.os }) :
  codeAny (model pw w) (lexA L fa cd L').in1 (.call (.ref 207) ⟨[.ref x], []⟩) R s := by
  revert dummy
  k_fill
  intro _
  w_on
  k_enter
  k_steps

  exact h1 _ _ _ (by assumption) (by assumption)
theorem rc_any {R : Result → Shared → Prop} {cs : List Nat}
  (B : Below (callerA.deeper (lawE L fa cd)) base [lawE L fa cd] h₀) (F : Fr h₀ L' s.heap m) (X : (K1r w.params).In h₀) (T : Top p loose mean mg mb h₀) (C : CodeHd base 298 294)
  (hoc : oc.data = .fields vs) (hvs : vs[1]? = some (.str (readQ LL) tq)) (hcell : oce.data = .cell (some (.ref left)))
  (N : News h₀ L' s.heap ((x, instObj 224 d) :: (d, lexD w ln (.ref tx) pb t1 t2 t3 t4 t5 t6) :: (tx, instObj 224 td) :: (td, tapeD w fp2 pb2 f u1 u2 u3 u4 u5 u6 u7) :: (f, readO LL cell doc pm ct c') :: (c', oc) :: (cell, oce) :: (left, listOf (ys : List Value).toArray k) :: rest))
  (ap : Apart x d tx td f c' cell left) (hd : ∀ p ∈ rest, p.1 ≠ d) (hl : ∀ p ∈ rest, p.1 ≠ left) (hz : ys.length ≤ sizeLine) (hch : ChL ys cs)
  (h : ∀ h' tk t2' ln' k' u ys', Fr h₀ L' h' m → News h₀ L' h' ((x, instObj 224 d) :: (d, lexD w ln' (.ref tx) pb t1 t2' t3 t4 t5 t6) :: (tx, instObj 224 td) :: (td, tapeD w fp2 pb2 f u1 u2 u3 u4 u5 u6 u7) :: (f, readO LL cell doc pm ct c') :: (c', oc) :: (cell, oce) :: (left, listOf (ys' : List Value).toArray k') :: rest) → ChL ys' (rd cs).2 → ln' + nlc (rd cs).2 = ln + nlc cs → ys'.length ≤ ys.length → R (.ok (.ret (.str (rd cs).1 u))) { heap := h', gens := s.gens, drawn := s.drawn, toks := tk, os := s.os }) :
  codeAny (model pw w) (lexA L fa cd L').in1 (.call (.ref 207) ⟨[.ref x], []⟩) R s := by
  cases ys with
  | nil =>
    cases cs with
    | nil => exact rc_nil ⟨rfl, rfl⟩ B F X T C hoc hvs hcell N fun h' tk u F' N' => h h' tk t2 ln k u [] F' N' trivial rfl (Nat.le_refl _)
    | cons c cs => exact hch.elim
  | cons v ys =>
    cases cs with
    | nil => exact hch.elim
    | cons c cs =>
      obtain ⟨⟨ut, rfl⟩, hch⟩ := hch
      refine rc_cons ⟨rfl, rfl⟩ B F X T C hoc hvs hcell N ap hd hl hz (fun hc h' tk t2' F' N' => h h' tk t2' _ _ _ ys F' N' hch ?_ (Nat.le_succ _)) (fun hc h' tk F' N' => h h' tk _ _ _ _ ys F' N' hch ?_ (Nat.le_succ _))
      · show ln + 1 + nlc cs = ln + nlc (c :: cs)
        rw [nlc_cons, if_pos hc]; omega
      · show ln + nlc cs = ln + nlc (c :: cs)
        rw [nlc_cons, if_neg hc]; omega
set_option maxHeartbeats 8000000 in
theorem rc_consP {R : Result → Shared → Prop} (dummy : PySem.Challenge.rw_sh0067_01 = PySem.Challenge.rw_sh0067_01 ∧ K1r = K1r)
  (B : Below (callerA.deeper (lawE L fa cd)) base [lawE L fa cd] h₀) (F : Fr h₀ L' s.heap m) (X : (K1r w.params).In h₀) (T : Top p loose mean mg mb h₀) (C : CodeHd base 298 294)
  (hoc : oc.data = .fields vs) (hvs : vs[1]? = some (.str (readQ LL) tq)) (hcell : oce.data = .cell (some (.ref left)))
  (N : News h₀ L' s.heap ((x, instObj 224 d) :: (d, lexD w ln (.ref tx) pb t1 t2 t3 t4 t5 t6) :: (tx, instObj 224 td) :: (td, tapeD w fp2 pb2 f u1 u2 u3 u4 u5 u6 u7) :: (f, readO LL cell doc pm ct c') :: (c', oc) :: (cell, oce) :: (left, listOf ((.str ⟨#[c]⟩ ut :: ys) : List Value).toArray k) :: rest))
  (ap : Apart x d tx td f c' cell left) (hd : ∀ p ∈ rest, p.1 ≠ d) (hl : ∀ p ∈ rest, p.1 ≠ left) (hz : (Value.str ⟨#[c]⟩ ut :: ys).length ≤ sizeLine)
  (h1 : c = 10 → ∀ h' tk t2', Fr h₀ L' h' m → News h₀ L' h' ((x, instObj 224 d) :: (d, lexD w (ln + 1) (.ref tx) pb t1 t2' t3 t4 t5 t6) :: (tx, instObj 224 td) :: (td, tapeD w fp2 pb2 f u1 u2 u3 u4 u5 u6 u7) :: (f, readO LL cell doc pm ct c') :: (c', oc) :: (cell, oce) :: (left, listOf (ys : List Value).toArray (k + 1)) :: rest) → R (.ok (.ret (.str ⟨#[c]⟩ ut))) { heap := h', gens := s.gens, drawn := s.drawn, toks := tk, os := s.os })
  (h2 : c ≠ 10 → ∀ h' tk, Fr h₀ L' h' m → News h₀ L' h' ((x, instObj 224 d) :: (d, lexD w ln (.ref tx) pb t1 t2 t3 t4 t5 t6) :: (tx, instObj 224 td) :: (td, tapeD w fp2 pb2 f u1 u2 u3 u4 u5 u6 u7) :: (f, readO LL cell doc pm ct c') :: (c', oc) :: (cell, oce) :: (left, listOf (ys : List Value).toArray (k + 1)) :: rest) → R (.ok (.ret (.str ⟨#[c]⟩ ut))) { heap := h', gens := s.gens, drawn := s.drawn, toks := tk, os := s.os }) :
  codeAny (model pw w) (lexA L fa cd L') (.call (.ref 207) ⟨[.ref x], []⟩) R s := by
  obtain ⟨apd, apl⟩ := ap
  revert dummy
  k_fill
  intro _
  w_on
  k_enter
  k_steps

  · exact h1 (nl_of_true (by assumption)) _ _ _ (by assumption) (by assumption)
  · exact h2 (nl_of_false (by assumption)) _ _ (by assumption) (by assumption)
set_option maxHeartbeats 8000000 in
theorem rc_nilP {R : Result → Shared → Prop} (dummy : PySem.Challenge.rw_sh0067_01 = PySem.Challenge.rw_sh0067_01 ∧ K1r = K1r)
  (B : Below (callerA.deeper (lawE L fa cd)) base [lawE L fa cd] h₀) (F : Fr h₀ L' s.heap m) (X : (K1r w.params).In h₀) (T : Top p loose mean mg mb h₀) (C : CodeHd base 298 294)
  (hoc : oc.data = .fields vs) (hvs : vs[1]? = some (.str (readQ LL) tq)) (hcell : oce.data = .cell (some (.ref left)))
  (N : News h₀ L' s.heap ((x, instObj 224 d) :: (d, lexD w ln (.ref tx) pb t1 t2 t3 t4 t5 t6) :: (tx, instObj 224 td) :: (td, tapeD w fp2 pb2 f u1 u2 u3 u4 u5 u6 u7) :: (f, readO LL cell doc pm ct c') :: (c', oc) :: (cell, oce) :: (left, listOf ([] : List Value).toArray k) :: rest))
  (h1 : ∀ h' tk u, Fr h₀ L' h' m → News h₀ L' h' ((x, instObj 224 d) :: (d, lexD w ln (.ref tx) pb t1 t2 t3 t4 t5 t6) :: (tx, instObj 224 td) :: (td, tapeD w fp2 pb2 f u1 u2 u3 u4 u5 u6 u7) :: (f, readO LL cell doc pm ct c') :: (c', oc) :: (cell, oce) :: (left, listOf ([] : List Value).toArray k) :: rest) → R (.ok (.ret (.str (Str.ofString "") u))) { heap := h', gens := s.gens, drawn := s.drawn, toks := tk, os := s.os }) :
  codeAny (model pw w) (lexA L fa cd L') (.call (.ref 207) ⟨[.ref x], []⟩) R s := by
  revert dummy
  k_fill
  intro _
  w_on
  k_enter
  k_steps

  exact h1 _ _ _ (by assumption) (by assumption)
theorem rc_anyP {R : Result → Shared → Prop} {cs : List Nat}
  (B : Below (callerA.deeper (lawE L fa cd)) base [lawE L fa cd] h₀) (F : Fr h₀ L' s.heap m) (X : (K1r w.params).In h₀) (T : Top p loose mean mg mb h₀) (C : CodeHd base 298 294)
  (hoc : oc.data = .fields vs) (hvs : vs[1]? = some (.str (readQ LL) tq)) (hcell : oce.data = .cell (some (.ref left)))
  (N : News h₀ L' s.heap ((x, instObj 224 d) :: (d, lexD w ln (.ref tx) pb t1 t2 t3 t4 t5 t6) :: (tx, instObj 224 td) :: (td, tapeD w fp2 pb2 f u1 u2 u3 u4 u5 u6 u7) :: (f, readO LL cell doc pm ct c') :: (c', oc) :: (cell, oce) :: (left, listOf (ys : List Value).toArray k) :: rest))
  (ap : Apart x d tx td f c' cell left) (hd : ∀ p ∈ rest, p.1 ≠ d) (hl : ∀ p ∈ rest, p.1 ≠ left) (hz : ys.length ≤ sizeLine) (hch : ChL ys cs)
  (h : ∀ h' tk t2' ln' k' u ys', Fr h₀ L' h' m → News h₀ L' h' ((x, instObj 224 d) :: (d, lexD w ln' (.ref tx) pb t1 t2' t3 t4 t5 t6) :: (tx, instObj 224 td) :: (td, tapeD w fp2 pb2 f u1 u2 u3 u4 u5 u6 u7) :: (f, readO LL cell doc pm ct c') :: (c', oc) :: (cell, oce) :: (left, listOf (ys' : List Value).toArray k') :: rest) → ChL ys' (rd cs).2 → ln' + nlc (rd cs).2 = ln + nlc cs → ys'.length ≤ ys.length → R (.ok (.ret (.str (rd cs).1 u))) { heap := h', gens := s.gens, drawn := s.drawn, toks := tk, os := s.os }) :
  codeAny (model pw w) (lexA L fa cd L') (.call (.ref 207) ⟨[.ref x], []⟩) R s := by
  cases ys with
  | nil =>
    cases cs with
    | nil => exact rc_nilP ⟨rfl, rfl⟩ B F X T C hoc hvs hcell N fun h' tk u F' N' => h h' tk t2 ln k u [] F' N' trivial rfl (Nat.le_refl _)
    | cons c cs => exact hch.elim
  | cons v ys =>
    cases cs with
    | nil => exact hch.elim
    | cons c cs =>
      obtain ⟨⟨ut, rfl⟩, hch⟩ := hch
      refine rc_consP ⟨rfl, rfl⟩ B F X T C hoc hvs hcell N ap hd hl hz (fun hc h' tk t2' F' N' => h h' tk t2' _ _ _ ys F' N' hch ?_ (Nat.le_succ _)) (fun hc h' tk F' N' => h h' tk _ _ _ _ ys F' N' hch ?_ (Nat.le_succ _))
      · show ln + 1 + nlc cs = ln + nlc (c :: cs)
        rw [nlc_cons, if_pos hc]; omega
      · show ln + nlc cs = ln + nlc (c :: cs)
        rw [nlc_cons, if_neg hc]; omega
end
end
section
-- GT
open PySem PySem.W PyProof.Rows
noncomputable def forB : Option Stmt → List Stmt
  | some (.For _ _ b ..) => b
  | _ => []
/-- is it one of the lexer's white signs -/
noncomputable def isWs (c : Nat) : Bool := !(Builtin.Str.occurrences (Str.ofString "\n\t\r ") { cps := #[c] } 0 (Str.ofString "\n\t\r ").length 1).isEmpty
theorem ws_true {c : Nat} (e : (Builtin.Str.occurrences (Str.ofString "\n\t\r ") { cps := #[c] } 0 (Str.ofString "\n\t\r ").length 1).isEmpty = false) : isWs c = true := by unfold isWs; rw [e]; rfl
theorem ws_false {c : Nat} (e : (Builtin.Str.occurrences (Str.ofString "\n\t\r ") { cps := #[c] } 0 (Str.ofString "\n\t\r ").length 1).isEmpty = true) : isWs c = false := by unfold isWs; rw [e]; rfl
theorem sg_eq (c b : Nat) : (({ cps := #[c] } : Str) == ⟨#[b]⟩) = decide (c = b) := by
  by_cases h : c = b
  · subst h; rw [decide_eq_true rfl]; exact beq_self_eq_true _
  · rw [decide_eq_false h]
    apply beq_eq_false_iff_ne.mpr
    intro e
    have e1 := congrArg (fun z : Str => z.cps[0]?) e
    exact h (Option.some.inj e1)
theorem bs_true {c : Nat} (e : (({ cps := #[c] } : Str) == Str.ofString "\\") = true) : c = 92 := of_decide_eq_true (sg_eq c 92 ▸ e)
theorem bs_false {c : Nat} (e : (({ cps := #[c] } : Str) == Str.ofString "\\") = false) : c ≠ 92 := of_decide_eq_false (sg_eq c 92 ▸ e)
theorem qu_true {c : Nat} (e : (({ cps := #[c] } : Str) == Str.ofString "\"") = true) : c = 34 := of_decide_eq_true (sg_eq c 34 ▸ e)
theorem qu_false {c : Nat} (e : (({ cps := #[c] } : Str) == Str.ofString "\"") = false) : c ≠ 34 := of_decide_eq_false (sg_eq c 34 ▸ e)
theorem rd_len (cs : List Nat) : (rd cs).1.length ≤ 1 := by cases cs <;> exact Nat.le_of_ble_eq_true rfl
theorem add_sg {tok : Str} {c : Nat} (h : tok.length + 1 ≤ sizeLine) : tok.length + ({ cps := #[c] } : Str).length ≤ sizeLine := h
theorem add_rd {tok : Str} {cs : List Nat} (h : tok.length + 1 ≤ sizeLine) : tok.length + (rd cs).1.length ≤ sizeLine := Nat.le_trans (Nat.add_le_add_left (rd_len cs) _) h
noncomputable def ifB : Option Stmt → List Stmt
  | some (.If _ b ..) => b
  | _ => []
noncomputable def ifE : Option Stmt → List Stmt
  | some (.If _ _ b _) => b
  | _ => []
/-- the bodies of get_token's three loops -/
noncomputable def outB : List Stmt := forB (dB [9, 2])[3]?
noncomputable def quoB : List Stmt := forB (ifB outB[1]?)[0]?
noncomputable def barB : List Stmt := forB (ifE outB[1]?)[2]?
local macro_rules | `(tactic| walk_at "eval Name") => `(tactic| (k_here; k_dflt (refine' ld ?_ ?_ ?_; rotate_right 3; k_asm; (first | exact rfl | assumption); k_whole)))
local macro_rules | `(tactic| walk_at "inplaceOp Add str str") => `(tactic| ((refine PyProof.Rows.iadd_str (hsz := ?hsz) ?_); (case hsz => first | exact add_sg (by assumption) | exact add_rd (by assumption)); intro _ _))
local macro_rules | `(tactic| walk_at "loadName") => `(tactic| (k_here; k_dflt (refine' ldn ?_ ?_ ?_; rotate_right 3; k_asm; (first | exact rfl | assumption); k_whole)))
local macro_rules | `(tactic| walk_at "call ref") => `(tactic| (k_here; walk_at "%d"; (with_reducible show wpAny _ _ (call (Value.ref 207) _ _) _ _ _); refine wpAny_call ?_; (refine' rc_anyP ?_ ?_ ?_ ?_ ?_ ?_ ?_ ?_ ?_ ?_ ?_ ?_ ?_ ?_ ?_; rotate_right 15; iterate 14 k_asm); intro _ _ _ _ _ _ _ _ _ _ _ _; (try dsimp only)))
section
variable {w : World} {h₀ base : Heap} {L L' fa x d tx td pb pb2 f c' cell left LL : Addr} {cd doc pm ct fp2 : Value} {m mg mb : Str → Option Value} {s : Shared} {rest : List (Addr × Obj)} {mean : ExcName → Option Value} {p : Program} {loose : List Str}
  {ln : Int} {t1 t2 t3 t4 t5 t6 u1 u2 u3 u4 u5 u6 u7 ut tq : Tok} {k : Nat} {oc oce : Obj} {vs : Array Value} {ys : List Value} {c : Nat}
variable {q I : Addr} {st tt : Tok} {tok : Str}
set_option maxHeartbeats 8000000 in
set_option pp.deepTerms false in
theorem bar_turn {Q : Flow → Shared → Prop} {E : Value → Shared → Prop} {cs : List Nat} (dummy : PySem.Challenge.rw_sh0067_01 = PySem.Challenge.rw_sh0067_01 ∧ K1r = K1r)
  (B : Below (callerA.deeper (lawE L fa cd)) base [lawE L fa cd] h₀) (F : Fr h₀ L' s.heap m) (X : (K1r w.params).In h₀) (T : Top p loose mean mg mb h₀) (C : CodeHd base 298 294)
  (hoc : oc.data = .fields vs) (hvs : vs[1]? = some (.str (readQ LL) tq)) (hcell : oce.data = .cell (some (.ref left)))
  (N : News h₀ L' s.heap ((x, instObj 224 d) :: (d, lexD w ln (.ref tx) pb t1 t2 t3 t4 t5 t6) :: (tx, instObj 224 td) :: (td, tapeD w fp2 pb2 f u1 u2 u3 u4 u5 u6 u7) :: (f, readO LL cell doc pm ct c') :: (c', oc) :: (cell, oce) :: (left, listOf (ys : List Value).toArray k) :: (pb, listOf ([] : List Value).toArray 0) :: (q, methodObj (.ref 207) (.ref x)) :: (I, (ciObj q (.str (Str.ofString "") st) false)) :: rest))
  (ap : Apart x d tx td f c' cell left) (hd : ∀ p ∈ ((pb, listOf ([] : List Value).toArray 0) :: (q, methodObj (.ref 207) (.ref x)) :: (I, ciObj q (.str (Str.ofString "") st) false) :: rest), p.1 ≠ d) (hl : ∀ p ∈ ((pb, listOf ([] : List Value).toArray 0) :: (q, methodObj (.ref 207) (.ref x)) :: (I, ciObj q (.str (Str.ofString "") st) false) :: rest), p.1 ≠ left) (hz : ys.length ≤ sizeLine) (hch : ChL ys cs)
  (mself : m (Str.ofString "self") = some (.ref x)) (mfit : m (Str.ofString "fiter") = some (.ref I)) (mtok : m (Str.ofString "token") = some (.str tok tt)) (mch : m (Str.ofString "ch") = some (.str ⟨#[c]⟩ ut))
  (htk : tok.length + 1 ≤ sizeLine) (hret : isWs c = true → ∀ tk, Q (.ret (.str tok tt)) { heap := s.heap, gens := s.gens, drawn := s.drawn, toks := tk, os := s.os })
  (hbs : isWs c = false → c = 92 → ∀ h' tk t2' ln' k' u ys' m', Fr h₀ L' h' m' → News h₀ L' h' ((x, instObj 224 d) :: (d, lexD w ln' (.ref tx) pb t1 t2' t3 t4 t5 t6) :: (tx, instObj 224 td) :: (td, tapeD w fp2 pb2 f u1 u2 u3 u4 u5 u6 u7) :: (f, readO LL cell doc pm ct c') :: (c', oc) :: (cell, oce) :: (left, listOf (ys' : List Value).toArray k') :: (pb, listOf ([] : List Value).toArray 0) :: (q, methodObj (.ref 207) (.ref x)) :: (I, (ciObj q (.str (Str.ofString "") st) false)) :: rest) → m' (Str.ofString "self") = some (.ref x) → m' (Str.ofString "fiter") = some (.ref I) → m' (Str.ofString "token") = some (.str (tok ++ (rd cs).1) u) → ChL ys' (rd cs).2 → ln' + nlc (rd cs).2 = ln + nlc cs → ys'.length ≤ ys.length → Q .next { heap := h', gens := s.gens, drawn := s.drawn, toks := tk, os := s.os })
  (hpl : isWs c = false → c ≠ 92 → ∀ h' tk u m', Fr h₀ L' h' m' → News h₀ L' h' ((x, instObj 224 d) :: (d, lexD w ln (.ref tx) pb t1 t2 t3 t4 t5 t6) :: (tx, instObj 224 td) :: (td, tapeD w fp2 pb2 f u1 u2 u3 u4 u5 u6 u7) :: (f, readO LL cell doc pm ct c') :: (c', oc) :: (cell, oce) :: (left, listOf (ys : List Value).toArray k) :: (pb, listOf ([] : List Value).toArray 0) :: (q, methodObj (.ref 207) (.ref x)) :: (I, (ciObj q (.str (Str.ofString "") st) false)) :: rest) → m' (Str.ofString "self") = some (.ref x) → m' (Str.ofString "fiter") = some (.ref I) → m' (Str.ofString "token") = some (.str (tok ++ ⟨#[c]⟩) u) → Q .next { heap := h', gens := s.gens, drawn := s.drawn, toks := tk, os := s.os }) :
  wpAny (model pw w) (lexA L fa cd L') (execs barB (getE L')) Q E s := by
  revert dummy
  k_fill
  intro _
  w_on
  (refine wpAny_execs_cons ?_)
  (all_goals try k_fold)
  k_steps
  · exact hbs (ws_false (by assumption)) (bs_true (by assumption)) _ _ _ _ _ _ _ _ (by assumption) (by assumption) (by first | exact rfl | assumption) (by first | exact rfl | assumption) (by first | exact rfl | assumption) (by assumption) (by assumption) (by assumption)
  · exact hpl (ws_false (by assumption)) (bs_false (by assumption)) _ _ _ _ (by assumption) (by assumption) (by first | exact rfl | assumption) (by first | exact rfl | assumption) (by first | exact rfl | assumption)
  · exact hret (ws_true (by assumption)) _
set_option maxHeartbeats 8000000 in
set_option pp.deepTerms false in
theorem quo_turn {Q : Flow → Shared → Prop} {E : Value → Shared → Prop} {cs : List Nat} (dummy : PySem.Challenge.rw_sh0067_01 = PySem.Challenge.rw_sh0067_01 ∧ K1r = K1r)
  (B : Below (callerA.deeper (lawE L fa cd)) base [lawE L fa cd] h₀) (F : Fr h₀ L' s.heap m) (X : (K1r w.params).In h₀) (T : Top p loose mean mg mb h₀) (C : CodeHd base 298 294)
  (hoc : oc.data = .fields vs) (hvs : vs[1]? = some (.str (readQ LL) tq)) (hcell : oce.data = .cell (some (.ref left)))
  (N : News h₀ L' s.heap ((x, instObj 224 d) :: (d, lexD w ln (.ref tx) pb t1 t2 t3 t4 t5 t6) :: (tx, instObj 224 td) :: (td, tapeD w fp2 pb2 f u1 u2 u3 u4 u5 u6 u7) :: (f, readO LL cell doc pm ct c') :: (c', oc) :: (cell, oce) :: (left, listOf (ys : List Value).toArray k) :: (pb, listOf ([] : List Value).toArray 0) :: (q, methodObj (.ref 207) (.ref x)) :: (I, (ciObj q (.str (Str.ofString "") st) false)) :: rest))
  (ap : Apart x d tx td f c' cell left) (hd : ∀ p ∈ ((pb, listOf ([] : List Value).toArray 0) :: (q, methodObj (.ref 207) (.ref x)) :: (I, ciObj q (.str (Str.ofString "") st) false) :: rest), p.1 ≠ d) (hl : ∀ p ∈ ((pb, listOf ([] : List Value).toArray 0) :: (q, methodObj (.ref 207) (.ref x)) :: (I, ciObj q (.str (Str.ofString "") st) false) :: rest), p.1 ≠ left) (hz : ys.length ≤ sizeLine) (hch : ChL ys cs)
  (mself : m (Str.ofString "self") = some (.ref x)) (mfit : m (Str.ofString "fiter") = some (.ref I)) (mtok : m (Str.ofString "token") = some (.str tok tt)) (mch : m (Str.ofString "ch") = some (.str ⟨#[c]⟩ ut))
  (htk : tok.length + 1 ≤ sizeLine) (hret : c = 34 → ∀ tk, Q (.ret (.str tok tt)) { heap := s.heap, gens := s.gens, drawn := s.drawn, toks := tk, os := s.os })
  (hbs : c = 92 → ∀ h' tk t2' ln' k' u ys' m', Fr h₀ L' h' m' → News h₀ L' h' ((x, instObj 224 d) :: (d, lexD w ln' (.ref tx) pb t1 t2' t3 t4 t5 t6) :: (tx, instObj 224 td) :: (td, tapeD w fp2 pb2 f u1 u2 u3 u4 u5 u6 u7) :: (f, readO LL cell doc pm ct c') :: (c', oc) :: (cell, oce) :: (left, listOf (ys' : List Value).toArray k') :: (pb, listOf ([] : List Value).toArray 0) :: (q, methodObj (.ref 207) (.ref x)) :: (I, (ciObj q (.str (Str.ofString "") st) false)) :: rest) → m' (Str.ofString "self") = some (.ref x) → m' (Str.ofString "fiter") = some (.ref I) → m' (Str.ofString "token") = some (.str (tok ++ (rd cs).1) u) → ChL ys' (rd cs).2 → ln' + nlc (rd cs).2 = ln + nlc cs → ys'.length ≤ ys.length → Q .next { heap := h', gens := s.gens, drawn := s.drawn, toks := tk, os := s.os })
  (hpl : c ≠ 34 → c ≠ 92 → ∀ h' tk u m', Fr h₀ L' h' m' → News h₀ L' h' ((x, instObj 224 d) :: (d, lexD w ln (.ref tx) pb t1 t2 t3 t4 t5 t6) :: (tx, instObj 224 td) :: (td, tapeD w fp2 pb2 f u1 u2 u3 u4 u5 u6 u7) :: (f, readO LL cell doc pm ct c') :: (c', oc) :: (cell, oce) :: (left, listOf (ys : List Value).toArray k) :: (pb, listOf ([] : List Value).toArray 0) :: (q, methodObj (.ref 207) (.ref x)) :: (I, (ciObj q (.str (Str.ofString "") st) false)) :: rest) → m' (Str.ofString "self") = some (.ref x) → m' (Str.ofString "fiter") = some (.ref I) → m' (Str.ofString "token") = some (.str (tok ++ ⟨#[c]⟩) u) → Q .next { heap := h', gens := s.gens, drawn := s.drawn, toks := tk, os := s.os }) :
  wpAny (model pw w) (lexA L fa cd L') (execs quoB (getE L')) Q E s := by
  revert dummy
  k_fill
  intro _
  w_on
  (refine wpAny_execs_cons ?_)
  (all_goals try k_fold)
  k_steps
  · exact hret (qu_true (by assumption)) _
  · exact hbs (bs_true (by assumption)) _ _ _ _ _ _ _ _ (by assumption) (by assumption) (by first | exact rfl | assumption) (by first | exact rfl | assumption) (by first | exact rfl | assumption) (by assumption) (by assumption) (by assumption)
  · exact hpl (qu_false (by assumption)) (bs_false (by assumption)) _ _ _ _ (by assumption) (by assumption) (by first | exact rfl | assumption) (by first | exact rfl | assumption) (by first | exact rfl | assumption)
end
end
section
-- LP
open PySem PySem.W PyProof.Rows
/-- a loop that reads signs into a token up to one that P knows -/
noncomputable def scan (P : Nat → Bool) (tok : Str) : List Nat → Str × List Nat × Bool
  | [] => (tok, [], false)
  | [c] => if P c then (tok, [], true) else if c = 92 then (tok, [], false) else (tok ++ ⟨#[c]⟩, [], false)
  | c :: c2 :: r => if P c then (tok, c2 :: r, true) else if c = 92 then scan P (tok ++ ⟨#[c2]⟩) r else scan P (tok ++ ⟨#[c]⟩) (c2 :: r)
theorem app_nil (x : Str) : x ++ Str.ofString "" = x := by
  obtain ⟨a⟩ := x
  show Str.mk (a ++ #[]) = _
  simp
theorem scan_cons (P : Nat → Bool) (tok : Str) (c : Nat) (r : List Nat) : scan P tok (c :: r) = if P c then (tok, r, true) else if c = 92 then scan P (tok ++ (rd r).1) (rd r).2 else scan P (tok ++ ⟨#[c]⟩) r := by
  cases r with
  | nil =>
    show (if P c then (tok, [], true) else if c = 92 then (tok, [], false) else (tok ++ ⟨#[c]⟩, [], false)) = if P c then (tok, [], true) else if c = 92 then (tok ++ Str.ofString "", [], false) else (tok ++ ⟨#[c]⟩, [], false)
    rw [app_nil]
  | cons c2 r => rfl
theorem len_app (x y : Str) : (x ++ y).length = x.length + y.length := Str.length_append x y
theorem rd_size (r : List Nat) : (rd r).1.length + (rd r).2.length = r.length := by
  cases r with
  | nil => rfl
  | cons c r => show 1 + r.length = r.length + 1; omega
theorem rd_le (r : List Nat) : (rd r).2.length ≤ r.length := by
  cases r with
  | nil => exact Nat.le_refl _
  | cons c r => exact Nat.le_succ _
theorem scan_closed (P : Nat → Bool) (tok : Str) (r : List Nat) : (scan P tok r).2.2 = false → (scan P tok r).2.1 = [] := by
  fun_induction scan P tok r <;> simp_all
theorem news_put {h₀ h h' : Heap} {L I : Addr} {o o' : Obj} {l l' : List (Addr × Obj)} (N : News h₀ L h l) (hm : (I, o) ∈ l) (hx : Heap.ExtBut I h h') (ho : h'.get? I = some o')
    (hl : ∀ p ∈ l', p = (I, o') ∨ (p ∈ l ∧ @Ne Nat p.1 I)) : News h₀ L h' l' := by
  intro p hp
  rcases hl p hp with rfl | ⟨h1, h2⟩
  · exact ⟨ho, (N _ hm).2⟩
  · exact ⟨hx _ _ h2 (N _ h1).1, (N _ h1).2⟩
theorem fr_put {h₀ h h' : Heap} {L I : Addr} {m : Str → Option Value} {o : Obj} {l : List (Addr × Obj)} (F : Fr h₀ L h m) (N : News h₀ L h l) (hm : (I, o) ∈ l) (hx : Heap.ExtBut I h h') : Fr h₀ L h' m :=
  ⟨F.ns.extBut hx (N _ hm).2.1.symm, fun b ob e => hx b ob (fun q => by rw [q, (N _ hm).2.2] at e; cases e) (F.keep b ob e), F.above⟩
theorem fr_up {h₀ h h' : Heap} {L : Addr} {m : Str → Option Value} (F : Fr h₀ L h m) (hx : ∀ b o, h.get? b = some o → h'.get? b = some o) : Fr h₀ L h' m := F.keeps hx
theorem news_up {h₀ h h' : Heap} {L : Addr} {l : List (Addr × Obj)} (N : News h₀ L h l) (hx : ∀ b o, h.get? b = some o → h'.get? b = some o) : News h₀ L h' l := fun p hp => ⟨hx _ _ (N p hp).1, (N p hp).2⟩
theorem k207 (w : World) : ∃ of fd, (K1r w.params).lookup 207 = some of ∧ of.data = .func fd := ⟨o1K_207 w.params, _, by kernel_rfl, rfl⟩
section
variable {w : World} {h₀ base : Heap} {L L' fa x d tx td pb pb2 f c' cell left LL : Addr} {cd doc pm ct fp2 : Value} {m mg mb : Str → Option Value} {s : Shared} {rest : List (Addr × Obj)} {mean : ExcName → Option Value} {p : Program} {loose : List Str}
  {ln : Int} {t1 t2 t3 t4 t5 t6 u1 u2 u3 u4 u5 u6 u7 ut tq : Tok} {k : Nat} {oc oce : Obj} {vs : Array Value} {ys : List Value} {c : Nat}
variable {q I : Addr} {st tt : Tok} {tok : Str}
theorem bar_loop {R : Result → Shared → Prop} {cs : List Nat} {pch : Pos}
  (B : Below (callerA.deeper (lawE L fa cd)) base [lawE L fa cd] h₀) (F : Fr h₀ L' s.heap m) (X : (K1r w.params).In h₀) (T : Top p loose mean mg mb h₀) (C : CodeHd base 298 294)
  (hoc : oc.data = .fields vs) (hvs : vs[1]? = some (.str (readQ LL) tq)) (hcell : oce.data = .cell (some (.ref left)))
  (N : News h₀ L' s.heap ((x, instObj 224 d) :: (d, lexD w ln (.ref tx) pb t1 t2 t3 t4 t5 t6) :: (tx, instObj 224 td) :: (td, tapeD w fp2 pb2 f u1 u2 u3 u4 u5 u6 u7) :: (f, readO LL cell doc pm ct c') :: (c', oc) :: (cell, oce) :: (left, listOf (ys : List Value).toArray k) :: (pb, listOf ([] : List Value).toArray 0) :: (q, methodObj (.ref 207) (.ref x)) :: (I, (ciObj q (.str (Str.ofString "") st) false)) :: rest))
  (ap : Apart x d tx td f c' cell left) (hd : ∀ p ∈ ((pb, listOf ([] : List Value).toArray 0) :: (q, methodObj (.ref 207) (.ref x)) :: (I, ciObj q (.str (Str.ofString "") st) false) :: rest), p.1 ≠ d) (hl : ∀ p ∈ ((pb, listOf ([] : List Value).toArray 0) :: (q, methodObj (.ref 207) (.ref x)) :: (I, ciObj q (.str (Str.ofString "") st) false) :: rest), p.1 ≠ left) (hI : @Ne Nat x I ∧ @Ne Nat d I ∧ @Ne Nat tx I ∧ @Ne Nat td I ∧ @Ne Nat f I ∧ @Ne Nat c' I ∧ @Ne Nat cell I ∧ @Ne Nat left I ∧ @Ne Nat pb I ∧ @Ne Nat q I) (hIr : ∀ p ∈ rest, p.1 ≠ I) (hz : ys.length ≤ sizeLine) (hch : ChL ys cs)
  (mself : m (Str.ofString "self") = some (.ref x)) (mfit : m (Str.ofString "fiter") = some (.ref I)) (mtok : m (Str.ofString "token") = some (.str tok tt)) (htk : tok.length + cs.length + 1 ≤ sizeLine)
  (hret : (scan isWs tok cs).2.2 = true → ∀ h' tk t2' ln' k' u ys' m', Fr h₀ L' h' m' → News h₀ L' h' ((x, instObj 224 d) :: (d, lexD w ln' (.ref tx) pb t1 t2' t3 t4 t5 t6) :: (tx, instObj 224 td) :: (td, tapeD w fp2 pb2 f u1 u2 u3 u4 u5 u6 u7) :: (f, readO LL cell doc pm ct c') :: (c', oc) :: (cell, oce) :: (left, listOf (ys' : List Value).toArray k') :: (pb, listOf ([] : List Value).toArray 0) :: (q, methodObj (.ref 207) (.ref x)) :: (I, (ciObj q (.str (Str.ofString "") st) false)) :: rest) → ChL ys' (scan isWs tok cs).2.1 → ln' + nlc (scan isWs tok cs).2.1 = ln + nlc cs → ys'.length ≤ ys.length → R (.ok (.ret (.str (scan isWs tok cs).1 u))) { heap := h', gens := s.gens, drawn := s.drawn, toks := tk, os := s.os })
  (hend : (scan isWs tok cs).2.2 = false → ∀ h' tk t2' ln' k' u m', Fr h₀ L' h' m' → News h₀ L' h' ((x, instObj 224 d) :: (d, lexD w ln' (.ref tx) pb t1 t2' t3 t4 t5 t6) :: (tx, instObj 224 td) :: (td, tapeD w fp2 pb2 f u1 u2 u3 u4 u5 u6 u7) :: (f, readO LL cell doc pm ct c') :: (c', oc) :: (cell, oce) :: (left, listOf ([] : List Value).toArray k') :: (pb, listOf ([] : List Value).toArray 0) :: (q, methodObj (.ref 207) (.ref x)) :: (I, ciEnd) :: rest) → m' (Str.ofString "self") = some (.ref x) → m' (Str.ofString "fiter") = some (.ref I) → m' (Str.ofString "token") = some (.str (scan isWs tok cs).1 u) → ln' = ln + nlc cs → R (.ok .next) { heap := h', gens := s.gens, drawn := s.drawn, toks := tk, os := s.os }) :
  codeAny (model pw w) (lexA L fa cd L') (.forLoop (.Name (Str.ofString "ch") pch) (.ref I) barB [] (getE L')) R s := by
  refine codeAny_forLoop (fun n s' => ∃ h' tk t2' ln' k' ys' cs' m' tok' tt', s' = { heap := h', gens := s.gens, drawn := s.drawn, toks := tk, os := s.os } ∧ Fr h₀ L' h' m' ∧ News h₀ L' h' ((x, instObj 224 d) :: (d, lexD w ln' (.ref tx) pb t1 t2' t3 t4 t5 t6) :: (tx, instObj 224 td) :: (td, tapeD w fp2 pb2 f u1 u2 u3 u4 u5 u6 u7) :: (f, readO LL cell doc pm ct c') :: (c', oc) :: (cell, oce) :: (left, listOf (ys' : List Value).toArray k') :: (pb, listOf ([] : List Value).toArray 0) :: (q, methodObj (.ref 207) (.ref x)) :: (I, (ciObj q (.str (Str.ofString "") st) false)) :: rest) ∧ m' (Str.ofString "self") = some (.ref x) ∧ m' (Str.ofString "fiter") = some (.ref I) ∧
      m' (Str.ofString "token") = some (.str tok' tt') ∧ ChL ys' cs' ∧ ln' + nlc cs' = ln + nlc cs ∧ scan isWs tok' cs' = scan isWs tok cs ∧ ys'.length ≤ ys.length ∧ tok'.length + cs'.length + 1 ≤ sizeLine ∧ n = cs'.length + 1) ?_ (cs.length + 1)
    ⟨s.heap, s.toks, t2, ln, k, ys, cs, m, tok, tt, rfl, F, N, mself, mfit, mtok, hch, rfl, rfl, Nat.le_refl _, htk, rfl⟩
  rintro n s' ⟨h', tk, t2', ln', k', ys', cs', m', tok', tt', rfl, F', N', ms, mf, mt, hc, hln, hsc, hle, hb, rfl⟩
  obtain ⟨of, fd, hof, hfd⟩ := k207 w
  have hX := X.keeps F'.keep
  have hIm : (I, ciObj q (.str (Str.ofString "") st) false) ∈ ((x, instObj 224 d) :: (d, lexD w ln' (.ref tx) pb t1 t2' t3 t4 t5 t6) :: (tx, instObj 224 td) :: (td, tapeD w fp2 pb2 f u1 u2 u3 u4 u5 u6 u7) :: (f, readO LL cell doc pm ct c') :: (c', oc) :: (cell, oce) :: (left, listOf (ys' : List Value).toArray k') :: (pb, listOf ([] : List Value).toArray 0) :: (q, methodObj (.ref 207) (.ref x)) :: (I, (ciObj q (.str (Str.ofString "") st) false)) :: rest) := by k_mem
  have hqm : (q, methodObj (.ref 207) (.ref x)) ∈ ((x, instObj 224 d) :: (d, lexD w ln' (.ref tx) pb t1 t2' t3 t4 t5 t6) :: (tx, instObj 224 td) :: (td, tapeD w fp2 pb2 f u1 u2 u3 u4 u5 u6 u7) :: (f, readO LL cell doc pm ct c') :: (c', oc) :: (cell, oce) :: (left, listOf (ys' : List Value).toArray k') :: (pb, listOf ([] : List Value).toArray 0) :: (q, methodObj (.ref 207) (.ref x)) :: (I, (ciObj q (.str (Str.ofString "") st) false)) :: rest) := by k_mem
  refine ci_next rfl (N' _ hIm).1 (N' _ hqm).1 (hX _ _ hof) hfd ?_
  refine rc_any (ys := ys') (cs := cs') (ln := ln') (t2 := t2') (k := k') (rest := ((pb, listOf ([] : List Value).toArray 0) :: (q, methodObj (.ref 207) (.ref x)) :: (I, ciObj q (.str (Str.ofString "") st) false) :: rest)) B F' X T C hoc hvs hcell N' ap hd hl (Nat.le_trans hle hz) hc ?_
  intro h2 tk2 t22 ln2 k2 u ys2 F2 N2 hc2 hln2 hle2
  have hX2 := X.keeps F2.keep
  have hIm2 : (I, ciObj q (.str (Str.ofString "") st) false) ∈ ((x, instObj 224 d) :: (d, lexD w ln2 (.ref tx) pb t1 t22 t3 t4 t5 t6) :: (tx, instObj 224 td) :: (td, tapeD w fp2 pb2 f u1 u2 u3 u4 u5 u6 u7) :: (f, readO LL cell doc pm ct c') :: (c', oc) :: (cell, oce) :: (left, listOf (ys2 : List Value).toArray k2) :: (pb, listOf ([] : List Value).toArray 0) :: (q, methodObj (.ref 207) (.ref x)) :: (I, (ciObj q (.str (Str.ofString "") st) false)) :: rest) := by k_mem
  have hqm2 : (q, methodObj (.ref 207) (.ref x)) ∈ ((x, instObj 224 d) :: (d, lexD w ln2 (.ref tx) pb t1 t22 t3 t4 t5 t6) :: (tx, instObj 224 td) :: (td, tapeD w fp2 pb2 f u1 u2 u3 u4 u5 u6 u7) :: (f, readO LL cell doc pm ct c') :: (c', oc) :: (cell, oce) :: (left, listOf (ys2 : List Value).toArray k2) :: (pb, listOf ([] : List Value).toArray 0) :: (q, methodObj (.ref 207) (.ref x)) :: (I, (ciObj q (.str (Str.ofString "") st) false)) :: rest) := by k_mem
  refine ⟨_, u, rfl, (N2 _ hIm2).1, (N2 _ hqm2).1, hX2 _ _ hof, fun hne => ?_, fun heq h3 hx3 hI3 => ?_⟩
  · cases cs' with
    | nil => exact absurd rfl hne
    | cons c r =>
      refine wpAny_assign_Name (stN F2 N2 (fun h4 F4 N4 => ?_))
      have hc2' : ChL ys2 r := hc2
      have hln2' : ln2 + nlc r = ln' + nlc (c :: r) := hln2
      have hsc' := hsc
      rw [scan_cons] at hsc'
      have hb' : tok'.length + (r.length + 1) + 1 ≤ sizeLine := hb
      refine bar_turn (cs := r) (ys := ys2) (c := c) (tok := tok') (st := st) (ut := u) ⟨rfl, rfl⟩ B F4 X T C hoc hvs hcell N4 ap hd hl (Nat.le_trans hle2 (Nat.le_trans hle hz)) hc2' (by exact ms) (by exact mf) (by exact mt) rfl (by omega) ?_ ?_ ?_
      · intro hw tk5
        have e : scan isWs tok cs = (tok', r, true) := by rw [← hsc', if_pos hw]
        have g := hret (by rw [e]) h4 tk5 t22 ln2 k2 tt' ys2 _ F4 N4 (by rw [e]; exact hc2') (by rw [e]; show ln2 + nlc r = _; omega) (Nat.le_trans hle2 hle)
        rw [e] at g
        exact g
      · intro hnw hbs h5 tk5 t25 ln5 k5 u5 ys5 m5 F5 N5 a1 a2 a3 hc5 hln5 hle5
        refine ⟨(rd r).2.length + 1, Nat.succ_lt_succ (Nat.lt_succ_of_le (rd_le r)), h5, tk5, t25, ln5, k5, ys5, (rd r).2, m5, _, u5, rfl, F5, N5, a1, a2, a3, hc5, by omega, ?_, Nat.le_trans hle5 (Nat.le_trans hle2 hle), ?_, rfl⟩
        · rw [← hsc', if_neg (by rw [hnw]; decide), if_pos hbs]
        · rw [len_app]; have := rd_size r; omega
      · intro hw hnb h5 tk5 u5 m5 F5 N5 a1 a2 a3
        refine ⟨r.length + 1, Nat.lt_succ_self _, h5, tk5, t22, ln2, k2, ys2, r, m5, _, u5, rfl, F5, N5, a1, a2, a3, hc2', by omega, ?_, Nat.le_trans hle2 hle, ?_, rfl⟩
        · rw [← hsc', if_neg (by rw [hw]; decide), if_neg hnb]
        · rw [len_app]; show tok'.length + 1 + r.length + 1 ≤ sizeLine; omega
  · cases cs' with
    | cons c r => exact absurd (congrArg Str.length heq) (by show ¬ (1 = 0); decide)
    | nil =>
      have e : scan isWs tok cs = (tok', [], false) := hsc.symm
      have hy2 : ys2 = [] := by
        cases ys2 with
        | nil => rfl
        | cons v ys2 => exact hc2.elim
      subst hy2
      have hlz : ln2 + nlc [] = ln' + nlc [] := hln2
      have g := hend (by rw [e]) h3 tk2 t22 ln2 k2 tt' m' (fr_put F2 N2 hIm2 hx3) (news_put N2 hIm2 hx3 hI3 ?_) ms mf (by rw [e]; exact mt) (by rw [show nlc ([] : List Nat) = 0 from rfl] at *; omega)
      · exact wpAny_execs_nil g
      · obtain ⟨i1, i2, i3, i4, i5, i6, i7, i8, i9, i10⟩ := hI
        refine List.forall_mem_cons.mpr ⟨.inr ⟨by k_mem, i1⟩, List.forall_mem_cons.mpr ⟨.inr ⟨by k_mem, i2⟩, List.forall_mem_cons.mpr ⟨.inr ⟨by k_mem, i3⟩, List.forall_mem_cons.mpr ⟨.inr ⟨by k_mem, i4⟩, List.forall_mem_cons.mpr ⟨.inr ⟨by k_mem, i5⟩, List.forall_mem_cons.mpr ⟨.inr ⟨by k_mem, i6⟩,
          List.forall_mem_cons.mpr ⟨.inr ⟨by k_mem, i7⟩, List.forall_mem_cons.mpr ⟨.inr ⟨by k_mem, i8⟩, List.forall_mem_cons.mpr ⟨.inr ⟨by k_mem, i9⟩, List.forall_mem_cons.mpr ⟨.inr ⟨by k_mem, i10⟩, List.forall_mem_cons.mpr ⟨.inl rfl, fun p hp => .inr ⟨?_, hIr p hp⟩⟩⟩⟩⟩⟩⟩⟩⟩⟩⟩⟩
        exact .tail _ (.tail _ (.tail _ (.tail _ (.tail _ (.tail _ (.tail _ (.tail _ (.tail _ (.tail _ (.tail _ hp))))))))))
theorem quo_loop {R : Result → Shared → Prop} {cs : List Nat} {pch : Pos}
  (B : Below (callerA.deeper (lawE L fa cd)) base [lawE L fa cd] h₀) (F : Fr h₀ L' s.heap m) (X : (K1r w.params).In h₀) (T : Top p loose mean mg mb h₀) (C : CodeHd base 298 294)
  (hoc : oc.data = .fields vs) (hvs : vs[1]? = some (.str (readQ LL) tq)) (hcell : oce.data = .cell (some (.ref left)))
  (N : News h₀ L' s.heap ((x, instObj 224 d) :: (d, lexD w ln (.ref tx) pb t1 t2 t3 t4 t5 t6) :: (tx, instObj 224 td) :: (td, tapeD w fp2 pb2 f u1 u2 u3 u4 u5 u6 u7) :: (f, readO LL cell doc pm ct c') :: (c', oc) :: (cell, oce) :: (left, listOf (ys : List Value).toArray k) :: (pb, listOf ([] : List Value).toArray 0) :: (q, methodObj (.ref 207) (.ref x)) :: (I, (ciObj q (.str (Str.ofString "") st) false)) :: rest))
  (ap : Apart x d tx td f c' cell left) (hd : ∀ p ∈ ((pb, listOf ([] : List Value).toArray 0) :: (q, methodObj (.ref 207) (.ref x)) :: (I, ciObj q (.str (Str.ofString "") st) false) :: rest), p.1 ≠ d) (hl : ∀ p ∈ ((pb, listOf ([] : List Value).toArray 0) :: (q, methodObj (.ref 207) (.ref x)) :: (I, ciObj q (.str (Str.ofString "") st) false) :: rest), p.1 ≠ left) (hI : @Ne Nat x I ∧ @Ne Nat d I ∧ @Ne Nat tx I ∧ @Ne Nat td I ∧ @Ne Nat f I ∧ @Ne Nat c' I ∧ @Ne Nat cell I ∧ @Ne Nat left I ∧ @Ne Nat pb I ∧ @Ne Nat q I) (hIr : ∀ p ∈ rest, p.1 ≠ I) (hz : ys.length ≤ sizeLine) (hch : ChL ys cs)
  (mself : m (Str.ofString "self") = some (.ref x)) (mfit : m (Str.ofString "fiter") = some (.ref I)) (mtok : m (Str.ofString "token") = some (.str tok tt)) (htk : tok.length + cs.length + 1 ≤ sizeLine)
  (hret : (scan (· == 34) tok cs).2.2 = true → ∀ h' tk t2' ln' k' u ys' m', Fr h₀ L' h' m' → News h₀ L' h' ((x, instObj 224 d) :: (d, lexD w ln' (.ref tx) pb t1 t2' t3 t4 t5 t6) :: (tx, instObj 224 td) :: (td, tapeD w fp2 pb2 f u1 u2 u3 u4 u5 u6 u7) :: (f, readO LL cell doc pm ct c') :: (c', oc) :: (cell, oce) :: (left, listOf (ys' : List Value).toArray k') :: (pb, listOf ([] : List Value).toArray 0) :: (q, methodObj (.ref 207) (.ref x)) :: (I, (ciObj q (.str (Str.ofString "") st) false)) :: rest) → ChL ys' (scan (· == 34) tok cs).2.1 → ln' + nlc (scan (· == 34) tok cs).2.1 = ln + nlc cs → ys'.length ≤ ys.length → R (.ok (.ret (.str (scan (· == 34) tok cs).1 u))) { heap := h', gens := s.gens, drawn := s.drawn, toks := tk, os := s.os })
  (hend : (scan (· == 34) tok cs).2.2 = false → ∀ h' tk t2' ln' k' u m', Fr h₀ L' h' m' → News h₀ L' h' ((x, instObj 224 d) :: (d, lexD w ln' (.ref tx) pb t1 t2' t3 t4 t5 t6) :: (tx, instObj 224 td) :: (td, tapeD w fp2 pb2 f u1 u2 u3 u4 u5 u6 u7) :: (f, readO LL cell doc pm ct c') :: (c', oc) :: (cell, oce) :: (left, listOf ([] : List Value).toArray k') :: (pb, listOf ([] : List Value).toArray 0) :: (q, methodObj (.ref 207) (.ref x)) :: (I, ciEnd) :: rest) → m' (Str.ofString "self") = some (.ref x) → m' (Str.ofString "fiter") = some (.ref I) → m' (Str.ofString "token") = some (.str (scan (· == 34) tok cs).1 u) → ln' = ln + nlc cs → R (.ok .next) { heap := h', gens := s.gens, drawn := s.drawn, toks := tk, os := s.os }) :
  codeAny (model pw w) (lexA L fa cd L') (.forLoop (.Name (Str.ofString "ch") pch) (.ref I) quoB [] (getE L')) R s := by
  refine codeAny_forLoop (fun n s' => ∃ h' tk t2' ln' k' ys' cs' m' tok' tt', s' = { heap := h', gens := s.gens, drawn := s.drawn, toks := tk, os := s.os } ∧ Fr h₀ L' h' m' ∧ News h₀ L' h' ((x, instObj 224 d) :: (d, lexD w ln' (.ref tx) pb t1 t2' t3 t4 t5 t6) :: (tx, instObj 224 td) :: (td, tapeD w fp2 pb2 f u1 u2 u3 u4 u5 u6 u7) :: (f, readO LL cell doc pm ct c') :: (c', oc) :: (cell, oce) :: (left, listOf (ys' : List Value).toArray k') :: (pb, listOf ([] : List Value).toArray 0) :: (q, methodObj (.ref 207) (.ref x)) :: (I, (ciObj q (.str (Str.ofString "") st) false)) :: rest) ∧ m' (Str.ofString "self") = some (.ref x) ∧ m' (Str.ofString "fiter") = some (.ref I) ∧
      m' (Str.ofString "token") = some (.str tok' tt') ∧ ChL ys' cs' ∧ ln' + nlc cs' = ln + nlc cs ∧ scan (· == 34) tok' cs' = scan (· == 34) tok cs ∧ ys'.length ≤ ys.length ∧ tok'.length + cs'.length + 1 ≤ sizeLine ∧ n = cs'.length + 1) ?_ (cs.length + 1)
    ⟨s.heap, s.toks, t2, ln, k, ys, cs, m, tok, tt, rfl, F, N, mself, mfit, mtok, hch, rfl, rfl, Nat.le_refl _, htk, rfl⟩
  rintro n s' ⟨h', tk, t2', ln', k', ys', cs', m', tok', tt', rfl, F', N', ms, mf, mt, hc, hln, hsc, hle, hb, rfl⟩
  obtain ⟨of, fd, hof, hfd⟩ := k207 w
  have hX := X.keeps F'.keep
  have hIm : (I, ciObj q (.str (Str.ofString "") st) false) ∈ ((x, instObj 224 d) :: (d, lexD w ln' (.ref tx) pb t1 t2' t3 t4 t5 t6) :: (tx, instObj 224 td) :: (td, tapeD w fp2 pb2 f u1 u2 u3 u4 u5 u6 u7) :: (f, readO LL cell doc pm ct c') :: (c', oc) :: (cell, oce) :: (left, listOf (ys' : List Value).toArray k') :: (pb, listOf ([] : List Value).toArray 0) :: (q, methodObj (.ref 207) (.ref x)) :: (I, (ciObj q (.str (Str.ofString "") st) false)) :: rest) := by k_mem
  have hqm : (q, methodObj (.ref 207) (.ref x)) ∈ ((x, instObj 224 d) :: (d, lexD w ln' (.ref tx) pb t1 t2' t3 t4 t5 t6) :: (tx, instObj 224 td) :: (td, tapeD w fp2 pb2 f u1 u2 u3 u4 u5 u6 u7) :: (f, readO LL cell doc pm ct c') :: (c', oc) :: (cell, oce) :: (left, listOf (ys' : List Value).toArray k') :: (pb, listOf ([] : List Value).toArray 0) :: (q, methodObj (.ref 207) (.ref x)) :: (I, (ciObj q (.str (Str.ofString "") st) false)) :: rest) := by k_mem
  refine ci_next rfl (N' _ hIm).1 (N' _ hqm).1 (hX _ _ hof) hfd ?_
  refine rc_any (ys := ys') (cs := cs') (ln := ln') (t2 := t2') (k := k') (rest := ((pb, listOf ([] : List Value).toArray 0) :: (q, methodObj (.ref 207) (.ref x)) :: (I, ciObj q (.str (Str.ofString "") st) false) :: rest)) B F' X T C hoc hvs hcell N' ap hd hl (Nat.le_trans hle hz) hc ?_
  intro h2 tk2 t22 ln2 k2 u ys2 F2 N2 hc2 hln2 hle2
  have hX2 := X.keeps F2.keep
  have hIm2 : (I, ciObj q (.str (Str.ofString "") st) false) ∈ ((x, instObj 224 d) :: (d, lexD w ln2 (.ref tx) pb t1 t22 t3 t4 t5 t6) :: (tx, instObj 224 td) :: (td, tapeD w fp2 pb2 f u1 u2 u3 u4 u5 u6 u7) :: (f, readO LL cell doc pm ct c') :: (c', oc) :: (cell, oce) :: (left, listOf (ys2 : List Value).toArray k2) :: (pb, listOf ([] : List Value).toArray 0) :: (q, methodObj (.ref 207) (.ref x)) :: (I, (ciObj q (.str (Str.ofString "") st) false)) :: rest) := by k_mem
  have hqm2 : (q, methodObj (.ref 207) (.ref x)) ∈ ((x, instObj 224 d) :: (d, lexD w ln2 (.ref tx) pb t1 t22 t3 t4 t5 t6) :: (tx, instObj 224 td) :: (td, tapeD w fp2 pb2 f u1 u2 u3 u4 u5 u6 u7) :: (f, readO LL cell doc pm ct c') :: (c', oc) :: (cell, oce) :: (left, listOf (ys2 : List Value).toArray k2) :: (pb, listOf ([] : List Value).toArray 0) :: (q, methodObj (.ref 207) (.ref x)) :: (I, (ciObj q (.str (Str.ofString "") st) false)) :: rest) := by k_mem
  refine ⟨_, u, rfl, (N2 _ hIm2).1, (N2 _ hqm2).1, hX2 _ _ hof, fun hne => ?_, fun heq h3 hx3 hI3 => ?_⟩
  · cases cs' with
    | nil => exact absurd rfl hne
    | cons c r =>
      refine wpAny_assign_Name (stN F2 N2 (fun h4 F4 N4 => ?_))
      have hc2' : ChL ys2 r := hc2
      have hln2' : ln2 + nlc r = ln' + nlc (c :: r) := hln2
      have hsc' := hsc
      rw [scan_cons] at hsc'
      have hb' : tok'.length + (r.length + 1) + 1 ≤ sizeLine := hb
      refine quo_turn (cs := r) (ys := ys2) (c := c) (tok := tok') (st := st) (ut := u) ⟨rfl, rfl⟩ B F4 X T C hoc hvs hcell N4 ap hd hl (Nat.le_trans hle2 (Nat.le_trans hle hz)) hc2' (by exact ms) (by exact mf) (by exact mt) rfl (by omega) ?_ ?_ ?_
      · intro hw tk5
        have e : scan (· == 34) tok cs = (tok', r, true) := by rw [← hsc', if_pos (beq_iff_eq.mpr hw)]
        have g := hret (by rw [e]) h4 tk5 t22 ln2 k2 tt' ys2 _ F4 N4 (by rw [e]; exact hc2') (by rw [e]; show ln2 + nlc r = _; omega) (Nat.le_trans hle2 hle)
        rw [e] at g
        exact g
      · intro  hbs h5 tk5 t25 ln5 k5 u5 ys5 m5 F5 N5 a1 a2 a3 hc5 hln5 hle5
        refine ⟨(rd r).2.length + 1, Nat.succ_lt_succ (Nat.lt_succ_of_le (rd_le r)), h5, tk5, t25, ln5, k5, ys5, (rd r).2, m5, _, u5, rfl, F5, N5, a1, a2, a3, hc5, by omega, ?_, Nat.le_trans hle5 (Nat.le_trans hle2 hle), ?_, rfl⟩
        · rw [← hsc', if_neg (by rw [hbs]; decide), if_pos hbs]
        · rw [len_app]; have := rd_size r; omega
      · intro hw hnb h5 tk5 u5 m5 F5 N5 a1 a2 a3
        refine ⟨r.length + 1, Nat.lt_succ_self _, h5, tk5, t22, ln2, k2, ys2, r, m5, _, u5, rfl, F5, N5, a1, a2, a3, hc2', by omega, ?_, Nat.le_trans hle2 hle, ?_, rfl⟩
        · rw [← hsc', if_neg (fun q => hw (beq_iff_eq.mp q)), if_neg hnb]
        · rw [len_app]; show tok'.length + 1 + r.length + 1 ≤ sizeLine; omega
  · cases cs' with
    | cons c r => exact absurd (congrArg Str.length heq) (by show ¬ (1 = 0); decide)
    | nil =>
      have e : scan (· == 34) tok cs = (tok', [], false) := hsc.symm
      have hy2 : ys2 = [] := by
        cases ys2 with
        | nil => rfl
        | cons v ys2 => exact hc2.elim
      subst hy2
      have hlz : ln2 + nlc [] = ln' + nlc [] := hln2
      have g := hend (by rw [e]) h3 tk2 t22 ln2 k2 tt' m' (fr_put F2 N2 hIm2 hx3) (news_put N2 hIm2 hx3 hI3 ?_) ms mf (by rw [e]; exact mt) (by rw [show nlc ([] : List Nat) = 0 from rfl] at *; omega)
      · exact wpAny_execs_nil g
      · obtain ⟨i1, i2, i3, i4, i5, i6, i7, i8, i9, i10⟩ := hI
        refine List.forall_mem_cons.mpr ⟨.inr ⟨by k_mem, i1⟩, List.forall_mem_cons.mpr ⟨.inr ⟨by k_mem, i2⟩, List.forall_mem_cons.mpr ⟨.inr ⟨by k_mem, i3⟩, List.forall_mem_cons.mpr ⟨.inr ⟨by k_mem, i4⟩, List.forall_mem_cons.mpr ⟨.inr ⟨by k_mem, i5⟩, List.forall_mem_cons.mpr ⟨.inr ⟨by k_mem, i6⟩,
          List.forall_mem_cons.mpr ⟨.inr ⟨by k_mem, i7⟩, List.forall_mem_cons.mpr ⟨.inr ⟨by k_mem, i8⟩, List.forall_mem_cons.mpr ⟨.inr ⟨by k_mem, i9⟩, List.forall_mem_cons.mpr ⟨.inr ⟨by k_mem, i10⟩, List.forall_mem_cons.mpr ⟨.inl rfl, fun p hp => .inr ⟨?_, hIr p hp⟩⟩⟩⟩⟩⟩⟩⟩⟩⟩⟩⟩
        exact .tail _ (.tail _ (.tail _ (.tail _ (.tail _ (.tail _ (.tail _ (.tail _ (.tail _ (.tail _ (.tail _ hp))))))))))
end
end
section
-- OT
open PySem PySem.W PyProof.Rows
/-- the token that begins with the sign c -/
noncomputable def outTok (tok : Str) (c : Nat) (cs : List Nat) : Str × List Nat × Bool :=
  if c = 34 then scan (· == 34) tok cs else if c = 92 then scan isWs (tok ++ (rd cs).1) (rd cs).2 else scan isWs (tok ++ ⟨#[c]⟩) cs
theorem htk_rd {tok : Str} {cs : List Nat} (h : tok.length + cs.length + 2 ≤ sizeLine) : (tok ++ (rd cs).1).length + (rd cs).2.length + 1 ≤ sizeLine := by
  rw [len_app]; have := rd_size cs; omega
theorem htk_sg {tok : Str} {c : Nat} {cs : List Nat} (h : tok.length + cs.length + 2 ≤ sizeLine) : (tok ++ ⟨#[c]⟩ : Str).length + cs.length + 1 ≤ sizeLine := by
  rw [len_app]; show tok.length + 1 + cs.length + 1 ≤ sizeLine; omega
theorem htk_1 {tok : Str} {cs : List Nat} (h : tok.length + cs.length + 2 ≤ sizeLine) : tok.length + 1 ≤ sizeLine := by omega
theorem htk_2 {tok : Str} {cs : List Nat} (h : tok.length + cs.length + 2 ≤ sizeLine) : tok.length + cs.length + 1 ≤ sizeLine := by omega
local macro_rules | `(tactic| walk_at "eval Name") => `(tactic| (k_here; k_dflt (refine' ld ?_ ?_ ?_; rotate_right 3; k_asm; (first | exact rfl | assumption); k_whole)))
local macro_rules | `(tactic| walk_at "inplaceOp Add str str") => `(tactic| ((refine PyProof.Rows.iadd_str (hsz := ?hsz) ?_); (case hsz => first | exact add_sg (by assumption) | exact add_rd (by assumption)); intro _ _))
local macro_rules | `(tactic| walk_at "loadName") => `(tactic| (k_here; k_dflt (refine' ldn ?_ ?_ ?_; rotate_right 3; k_asm; (first | exact rfl | assumption); k_whole)))
local macro_rules | `(tactic| walk_at "call ref") => `(tactic| (k_here; walk_at "%d"; (with_reducible show wpAny _ _ (call (Value.ref 207) _ _) _ _ _); refine wpAny_call ?_; (refine' rc_anyP ?_ ?_ ?_ ?_ ?_ ?_ ?_ ?_ ?_ ?_ ?_ ?_ ?_ ?_ ?_; rotate_right 15; iterate 14 k_asm); intro _ _ _ _ _ _ _ _ _ _ _ _; (try dsimp only)))
section
variable {w : World} {h₀ base : Heap} {L L' fa x d tx td pb pb2 f c' cell left LL : Addr} {cd doc pm ct fp2 : Value} {m mg mb : Str → Option Value} {s : Shared} {rest : List (Addr × Obj)} {mean : ExcName → Option Value} {p : Program} {loose : List Str}
  {ln : Int} {t1 t2 t3 t4 t5 t6 u1 u2 u3 u4 u5 u6 u7 ut tq : Tok} {k : Nat} {oc oce : Obj} {vs : Array Value} {ys : List Value} {c : Nat}
variable {q I : Addr} {st tt : Tok} {tok : Str}
theorem exec_bar {Q : Flow → Shared → Prop} {E : Value → Shared → Prop} {cs : List Nat} {pch pi pf : Pos}
  (B : Below (callerA.deeper (lawE L fa cd)) base [lawE L fa cd] h₀) (F : Fr h₀ L' s.heap m) (X : (K1r w.params).In h₀) (T : Top p loose mean mg mb h₀) (C : CodeHd base 298 294)
  (hoc : oc.data = .fields vs) (hvs : vs[1]? = some (.str (readQ LL) tq)) (hcell : oce.data = .cell (some (.ref left)))
  (N : News h₀ L' s.heap ((x, instObj 224 d) :: (d, lexD w ln (.ref tx) pb t1 t2 t3 t4 t5 t6) :: (tx, instObj 224 td) :: (td, tapeD w fp2 pb2 f u1 u2 u3 u4 u5 u6 u7) :: (f, readO LL cell doc pm ct c') :: (c', oc) :: (cell, oce) :: (left, listOf (ys : List Value).toArray k) :: (pb, listOf ([] : List Value).toArray 0) :: (q, methodObj (.ref 207) (.ref x)) :: (I, (ciObj q (.str (Str.ofString "") st) false)) :: rest))
  (ap : Apart x d tx td f c' cell left) (hd : ∀ p ∈ ((pb, listOf ([] : List Value).toArray 0) :: (q, methodObj (.ref 207) (.ref x)) :: (I, ciObj q (.str (Str.ofString "") st) false) :: rest), p.1 ≠ d) (hl : ∀ p ∈ ((pb, listOf ([] : List Value).toArray 0) :: (q, methodObj (.ref 207) (.ref x)) :: (I, ciObj q (.str (Str.ofString "") st) false) :: rest), p.1 ≠ left) (hI : @Ne Nat x I ∧ @Ne Nat d I ∧ @Ne Nat tx I ∧ @Ne Nat td I ∧ @Ne Nat f I ∧ @Ne Nat c' I ∧ @Ne Nat cell I ∧ @Ne Nat left I ∧ @Ne Nat pb I ∧ @Ne Nat q I) (hIr : ∀ p ∈ rest, p.1 ≠ I) (hz : ys.length ≤ sizeLine) (hch : ChL ys cs)
  (mself : m (Str.ofString "self") = some (.ref x)) (mfit : m (Str.ofString "fiter") = some (.ref I)) (mtok : m (Str.ofString "token") = some (.str tok tt)) (htk : tok.length + cs.length + 1 ≤ sizeLine)
  (hret : (scan isWs tok cs).2.2 = true → ∀ h' tk t2' ln' k' u ys' m', Fr h₀ L' h' m' → News h₀ L' h' ((x, instObj 224 d) :: (d, lexD w ln' (.ref tx) pb t1 t2' t3 t4 t5 t6) :: (tx, instObj 224 td) :: (td, tapeD w fp2 pb2 f u1 u2 u3 u4 u5 u6 u7) :: (f, readO LL cell doc pm ct c') :: (c', oc) :: (cell, oce) :: (left, listOf (ys' : List Value).toArray k') :: (pb, listOf ([] : List Value).toArray 0) :: (q, methodObj (.ref 207) (.ref x)) :: (I, (ciObj q (.str (Str.ofString "") st) false)) :: rest) → ChL ys' (scan isWs tok cs).2.1 → ln' + nlc (scan isWs tok cs).2.1 = ln + nlc cs → ys'.length ≤ ys.length → Q (.ret (.str (scan isWs tok cs).1 u)) { heap := h', gens := s.gens, drawn := s.drawn, toks := tk, os := s.os })
  (hend : (scan isWs tok cs).2.2 = false → ∀ h' tk t2' ln' k' u m', Fr h₀ L' h' m' → News h₀ L' h' ((x, instObj 224 d) :: (d, lexD w ln' (.ref tx) pb t1 t2' t3 t4 t5 t6) :: (tx, instObj 224 td) :: (td, tapeD w fp2 pb2 f u1 u2 u3 u4 u5 u6 u7) :: (f, readO LL cell doc pm ct c') :: (c', oc) :: (cell, oce) :: (left, listOf ([] : List Value).toArray k') :: (pb, listOf ([] : List Value).toArray 0) :: (q, methodObj (.ref 207) (.ref x)) :: (I, ciEnd) :: rest) → m' (Str.ofString "self") = some (.ref x) → m' (Str.ofString "fiter") = some (.ref I) → m' (Str.ofString "token") = some (.str (scan isWs tok cs).1 u) → ln' = ln + nlc cs → Q .next { heap := h', gens := s.gens, drawn := s.drawn, toks := tk, os := s.os }) :
  wpAny (model pw w) (lexA L fa cd L') (exec (.For (.Name (Str.ofString "ch") pch) (.Name (Str.ofString "fiter") pi) barB [] pf) (getE L')) Q E s :=
  wpAny_For (ld F mfit (pyIter_ci (N.get (by k_mem)) (bar_loop B F X T C hoc hvs hcell N ap hd hl hI hIr hz hch mself mfit mtok htk hret hend)))
theorem exec_quo {Q : Flow → Shared → Prop} {E : Value → Shared → Prop} {cs : List Nat} {pch pi pf : Pos}
  (B : Below (callerA.deeper (lawE L fa cd)) base [lawE L fa cd] h₀) (F : Fr h₀ L' s.heap m) (X : (K1r w.params).In h₀) (T : Top p loose mean mg mb h₀) (C : CodeHd base 298 294)
  (hoc : oc.data = .fields vs) (hvs : vs[1]? = some (.str (readQ LL) tq)) (hcell : oce.data = .cell (some (.ref left)))
  (N : News h₀ L' s.heap ((x, instObj 224 d) :: (d, lexD w ln (.ref tx) pb t1 t2 t3 t4 t5 t6) :: (tx, instObj 224 td) :: (td, tapeD w fp2 pb2 f u1 u2 u3 u4 u5 u6 u7) :: (f, readO LL cell doc pm ct c') :: (c', oc) :: (cell, oce) :: (left, listOf (ys : List Value).toArray k) :: (pb, listOf ([] : List Value).toArray 0) :: (q, methodObj (.ref 207) (.ref x)) :: (I, (ciObj q (.str (Str.ofString "") st) false)) :: rest))
  (ap : Apart x d tx td f c' cell left) (hd : ∀ p ∈ ((pb, listOf ([] : List Value).toArray 0) :: (q, methodObj (.ref 207) (.ref x)) :: (I, ciObj q (.str (Str.ofString "") st) false) :: rest), p.1 ≠ d) (hl : ∀ p ∈ ((pb, listOf ([] : List Value).toArray 0) :: (q, methodObj (.ref 207) (.ref x)) :: (I, ciObj q (.str (Str.ofString "") st) false) :: rest), p.1 ≠ left) (hI : @Ne Nat x I ∧ @Ne Nat d I ∧ @Ne Nat tx I ∧ @Ne Nat td I ∧ @Ne Nat f I ∧ @Ne Nat c' I ∧ @Ne Nat cell I ∧ @Ne Nat left I ∧ @Ne Nat pb I ∧ @Ne Nat q I) (hIr : ∀ p ∈ rest, p.1 ≠ I) (hz : ys.length ≤ sizeLine) (hch : ChL ys cs)
  (mself : m (Str.ofString "self") = some (.ref x)) (mfit : m (Str.ofString "fiter") = some (.ref I)) (mtok : m (Str.ofString "token") = some (.str tok tt)) (htk : tok.length + cs.length + 1 ≤ sizeLine)
  (hret : (scan (· == 34) tok cs).2.2 = true → ∀ h' tk t2' ln' k' u ys' m', Fr h₀ L' h' m' → News h₀ L' h' ((x, instObj 224 d) :: (d, lexD w ln' (.ref tx) pb t1 t2' t3 t4 t5 t6) :: (tx, instObj 224 td) :: (td, tapeD w fp2 pb2 f u1 u2 u3 u4 u5 u6 u7) :: (f, readO LL cell doc pm ct c') :: (c', oc) :: (cell, oce) :: (left, listOf (ys' : List Value).toArray k') :: (pb, listOf ([] : List Value).toArray 0) :: (q, methodObj (.ref 207) (.ref x)) :: (I, (ciObj q (.str (Str.ofString "") st) false)) :: rest) → ChL ys' (scan (· == 34) tok cs).2.1 → ln' + nlc (scan (· == 34) tok cs).2.1 = ln + nlc cs → ys'.length ≤ ys.length → Q (.ret (.str (scan (· == 34) tok cs).1 u)) { heap := h', gens := s.gens, drawn := s.drawn, toks := tk, os := s.os })
  (hend : (scan (· == 34) tok cs).2.2 = false → ∀ h' tk t2' ln' k' u m', Fr h₀ L' h' m' → News h₀ L' h' ((x, instObj 224 d) :: (d, lexD w ln' (.ref tx) pb t1 t2' t3 t4 t5 t6) :: (tx, instObj 224 td) :: (td, tapeD w fp2 pb2 f u1 u2 u3 u4 u5 u6 u7) :: (f, readO LL cell doc pm ct c') :: (c', oc) :: (cell, oce) :: (left, listOf ([] : List Value).toArray k') :: (pb, listOf ([] : List Value).toArray 0) :: (q, methodObj (.ref 207) (.ref x)) :: (I, ciEnd) :: rest) → m' (Str.ofString "self") = some (.ref x) → m' (Str.ofString "fiter") = some (.ref I) → m' (Str.ofString "token") = some (.str (scan (· == 34) tok cs).1 u) → ln' = ln + nlc cs → Q .next { heap := h', gens := s.gens, drawn := s.drawn, toks := tk, os := s.os }) :
  wpAny (model pw w) (lexA L fa cd L') (exec (.For (.Name (Str.ofString "ch") pch) (.Name (Str.ofString "fiter") pi) quoB [] pf) (getE L')) Q E s :=
  wpAny_For (ld F mfit (pyIter_ci (N.get (by k_mem)) (quo_loop B F X T C hoc hvs hcell N ap hd hl hI hIr hz hch mself mfit mtok htk hret hend)))
local macro_rules | `(tactic| walk_at "inplaceOp Add str str") => `(tactic| ((refine PyProof.Rows.iadd_str (hsz := ?hsz) ?_); (case hsz => first | exact add_sg (htk_1 (by assumption)) | exact add_rd (htk_1 (by assumption))); intro _ _))
set_option maxHeartbeats 8000000 in
set_option pp.deepTerms false in
theorem out_turn {Q : Flow → Shared → Prop} {E : Value → Shared → Prop} {cs : List Nat} (dummy : PySem.Challenge.rw_sh0067_01 = PySem.Challenge.rw_sh0067_01 ∧ K1r = K1r)
  (B : Below (callerA.deeper (lawE L fa cd)) base [lawE L fa cd] h₀) (F : Fr h₀ L' s.heap m) (X : (K1r w.params).In h₀) (T : Top p loose mean mg mb h₀) (C : CodeHd base 298 294)
  (hoc : oc.data = .fields vs) (hvs : vs[1]? = some (.str (readQ LL) tq)) (hcell : oce.data = .cell (some (.ref left)))
  (N : News h₀ L' s.heap ((x, instObj 224 d) :: (d, lexD w ln (.ref tx) pb t1 t2 t3 t4 t5 t6) :: (tx, instObj 224 td) :: (td, tapeD w fp2 pb2 f u1 u2 u3 u4 u5 u6 u7) :: (f, readO LL cell doc pm ct c') :: (c', oc) :: (cell, oce) :: (left, listOf (ys : List Value).toArray k) :: (pb, listOf ([] : List Value).toArray 0) :: (q, methodObj (.ref 207) (.ref x)) :: (I, (ciObj q (.str (Str.ofString "") st) false)) :: rest))
  (ap : Apart x d tx td f c' cell left) (hd : ∀ p ∈ ((pb, listOf ([] : List Value).toArray 0) :: (q, methodObj (.ref 207) (.ref x)) :: (I, ciObj q (.str (Str.ofString "") st) false) :: rest), p.1 ≠ d) (hl : ∀ p ∈ ((pb, listOf ([] : List Value).toArray 0) :: (q, methodObj (.ref 207) (.ref x)) :: (I, ciObj q (.str (Str.ofString "") st) false) :: rest), p.1 ≠ left) (hz : ys.length ≤ sizeLine) (hch : ChL ys cs)
  (mself : m (Str.ofString "self") = some (.ref x)) (mfit : m (Str.ofString "fiter") = some (.ref I)) (mtok : m (Str.ofString "token") = some (.str tok tt)) (mch : m (Str.ofString "ch") = some (.str ⟨#[c]⟩ ut))
  (hI : @Ne Nat x I ∧ @Ne Nat d I ∧ @Ne Nat tx I ∧ @Ne Nat td I ∧ @Ne Nat f I ∧ @Ne Nat c' I ∧ @Ne Nat cell I ∧ @Ne Nat left I ∧ @Ne Nat pb I ∧ @Ne Nat q I) (hIr : ∀ p ∈ rest, p.1 ≠ I) (htk : tok.length + cs.length + 2 ≤ sizeLine)
  (hcont : isWs c = true → ∀ tk, Q .cont { heap := s.heap, gens := s.gens, drawn := s.drawn, toks := tk, os := s.os })
  (hret : isWs c = false → (outTok tok c cs).2.2 = true → ∀ h' tk t2' ln' k' u ys' m', Fr h₀ L' h' m' → News h₀ L' h' ((x, instObj 224 d) :: (d, lexD w ln' (.ref tx) pb t1 t2' t3 t4 t5 t6) :: (tx, instObj 224 td) :: (td, tapeD w fp2 pb2 f u1 u2 u3 u4 u5 u6 u7) :: (f, readO LL cell doc pm ct c') :: (c', oc) :: (cell, oce) :: (left, listOf (ys' : List Value).toArray k') :: (pb, listOf ([] : List Value).toArray 0) :: (q, methodObj (.ref 207) (.ref x)) :: (I, (ciObj q (.str (Str.ofString "") st) false)) :: rest) → ChL ys' (outTok tok c cs).2.1 → ln' + nlc (outTok tok c cs).2.1 = ln + nlc cs → ys'.length ≤ ys.length → Q (.ret (.str (outTok tok c cs).1 u)) { heap := h', gens := s.gens, drawn := s.drawn, toks := tk, os := s.os })
  (hend : isWs c = false → (outTok tok c cs).2.2 = false → ∀ h' tk t2' ln' k' u m', Fr h₀ L' h' m' → News h₀ L' h' ((x, instObj 224 d) :: (d, lexD w ln' (.ref tx) pb t1 t2' t3 t4 t5 t6) :: (tx, instObj 224 td) :: (td, tapeD w fp2 pb2 f u1 u2 u3 u4 u5 u6 u7) :: (f, readO LL cell doc pm ct c') :: (c', oc) :: (cell, oce) :: (left, listOf ([] : List Value).toArray k') :: (pb, listOf ([] : List Value).toArray 0) :: (q, methodObj (.ref 207) (.ref x)) :: (I, ciEnd) :: rest) → m' (Str.ofString "self") = some (.ref x) → m' (Str.ofString "fiter") = some (.ref I) → m' (Str.ofString "token") = some (.str (outTok tok c cs).1 u) → ln' = ln + nlc cs → Q .next { heap := h', gens := s.gens, drawn := s.drawn, toks := tk, os := s.os }) :
  wpAny (model pw w) (lexA L fa cd L') (execs outB (getE L')) Q E s := by
  revert dummy
  k_fill
  intro _
  w_on
  (refine wpAny_execs_cons ?_)
  (all_goals try k_fold)
  k_steps
  · have hws := ws_false (c := c) (by assumption)
    have hot : outTok tok c cs = scan (· == 34) tok cs := if_pos (qu_true (by assumption))
    refine exec_quo B (by assumption) X T C hoc hvs hcell (by assumption) ap hd hl hI hIr (by first | assumption | exact Nat.le_trans (by assumption) hz) (by assumption) (by first | exact rfl | assumption) (by first | exact rfl | assumption) (by first | exact rfl | assumption) (htk_2 htk) ?_ ?_
    · intro a0 h' tk t2' ln' k' u ys' m' F' N' a3 a4 a5
      have g := hret hws (by rw [hot]; exact a0) h' tk t2' ln' k' u ys' m' F' N' (by rw [hot]; exact a3) (by rw [hot]; exact a4) a5
      rw [hot] at g
      exact g
    · intro a0 h' tk t2' ln' k' u m' F' N' a1 a2 a3 a6
      have g := hend hws (by rw [hot]; exact a0) h' tk t2' ln' k' u m' F' N' a1 a2 (by rw [hot]; exact a3) a6
      first | exact g | exact wpAny_execs_nil g | exact wpAny_execs_nil (wpAny_execs_nil g) | exact wpAny_execs_nil (wpAny_execs_nil (wpAny_execs_nil g))
  · have hws := ws_false (c := c) (by assumption)
    have hot : outTok tok c cs = scan isWs (tok ++ (rd cs).1) (rd cs).2 := (if_neg (qu_false (by assumption))).trans (if_pos (bs_true (by assumption)))
    refine exec_bar B (by assumption) X T C hoc hvs hcell (by assumption) ap hd hl hI hIr (by first | assumption | exact Nat.le_trans (by assumption) hz) (by assumption) (by first | exact rfl | assumption) (by first | exact rfl | assumption) (by first | exact rfl | assumption) (htk_rd htk) ?_ ?_
    · intro a0 h' tk t2' ln' k' u ys' m' F' N' a3 a4 a5
      have g := hret hws (by rw [hot]; exact a0) h' tk t2' ln' k' u ys' m' F' N' (by rw [hot]; exact a3) (by rw [hot]; exact (a4.trans (by assumption))) (Nat.le_trans a5 (by assumption))
      rw [hot] at g
      exact g
    · intro a0 h' tk t2' ln' k' u m' F' N' a1 a2 a3 a6
      have g := hend hws (by rw [hot]; exact a0) h' tk t2' ln' k' u m' F' N' a1 a2 (by rw [hot]; exact a3) (a6.trans (by assumption))
      first | exact g | exact wpAny_execs_nil g | exact wpAny_execs_nil (wpAny_execs_nil g) | exact wpAny_execs_nil (wpAny_execs_nil (wpAny_execs_nil g))
  · have hws := ws_false (c := c) (by assumption)
    have hot : outTok tok c cs = scan isWs (tok ++ ⟨#[c]⟩) cs := (if_neg (qu_false (by assumption))).trans (if_neg (bs_false (by assumption)))
    refine exec_bar B (by assumption) X T C hoc hvs hcell (by assumption) ap hd hl hI hIr (by first | assumption | exact Nat.le_trans (by assumption) hz) (by assumption) (by first | exact rfl | assumption) (by first | exact rfl | assumption) (by first | exact rfl | assumption) (htk_sg htk) ?_ ?_
    · intro a0 h' tk t2' ln' k' u ys' m' F' N' a3 a4 a5
      have g := hret hws (by rw [hot]; exact a0) h' tk t2' ln' k' u ys' m' F' N' (by rw [hot]; exact a3) (by rw [hot]; exact a4) a5
      rw [hot] at g
      exact g
    · intro a0 h' tk t2' ln' k' u m' F' N' a1 a2 a3 a6
      have g := hend hws (by rw [hot]; exact a0) h' tk t2' ln' k' u m' F' N' a1 a2 (by rw [hot]; exact a3) a6
      first | exact g | exact wpAny_execs_nil g | exact wpAny_execs_nil (wpAny_execs_nil g) | exact wpAny_execs_nil (wpAny_execs_nil (wpAny_execs_nil g))
  · exact hcont (ws_true (by assumption)) _
end
end
section
-- OL
open PySem PySem.W PyProof.Rows
/-- what a _netrclex tells of a text, and what it leaves of it -/
noncomputable def tokenOf : List Nat → Str × List Nat
  | [] => (Str.ofString "", [])
  | c :: r => if isWs c then tokenOf r else ((outTok (Str.ofString "") c r).1, (outTok (Str.ofString "") c r).2.1)
theorem outTok_closed (tok : Str) (c : Nat) (r : List Nat) (h : (outTok tok c r).2.2 = false) : (outTok tok c r).2.1 = [] := by
  unfold outTok at *
  split
  · rename_i e; rw [if_pos e] at h; exact scan_closed _ _ _ h
  · rename_i e; rw [if_neg e] at h
    split
    · rename_i e; rw [if_pos e] at h; exact scan_closed _ _ _ h
    · rename_i e; rw [if_neg e] at h; exact scan_closed _ _ _ h
section
variable {w : World} {h₀ base : Heap} {L L' fa x d tx td pb pb2 f c' cell left LL : Addr} {cd doc pm ct fp2 : Value} {m mg mb : Str → Option Value} {s : Shared} {rest : List (Addr × Obj)} {mean : ExcName → Option Value} {p : Program} {loose : List Str}
  {ln : Int} {t1 t2 t3 t4 t5 t6 u1 u2 u3 u4 u5 u6 u7 ut tq : Tok} {k : Nat} {oc oce : Obj} {vs : Array Value} {ys : List Value} {c : Nat}
variable {q I : Addr} {st tt : Tok} {tok : Str}
theorem drop_q {h : Heap} {o : Obj} (N : News h₀ L' h ((x, instObj 224 d) :: (d, lexD w ln (.ref tx) pb t1 t2 t3 t4 t5 t6) :: (tx, instObj 224 td) :: (td, tapeD w fp2 pb2 f u1 u2 u3 u4 u5 u6 u7) :: (f, readO LL cell doc pm ct c') :: (c', oc) :: (cell, oce) :: (left, listOf (ys : List Value).toArray k) :: (pb, listOf ([] : List Value).toArray 0) :: (q, methodObj (.ref 207) (.ref x)) :: (I, o) :: rest)) : News h₀ L' h ((x, instObj 224 d) :: (d, lexD w ln (.ref tx) pb t1 t2 t3 t4 t5 t6) :: (tx, instObj 224 td) :: (td, tapeD w fp2 pb2 f u1 u2 u3 u4 u5 u6 u7) :: (f, readO LL cell doc pm ct c') :: (c', oc) :: (cell, oce) :: (left, listOf (ys : List Value).toArray k) :: (pb, listOf ([] : List Value).toArray 0) :: rest) := (fun p hp => N p ((List.forall_mem_cons.mpr ⟨by k_mem, List.forall_mem_cons.mpr ⟨by k_mem, List.forall_mem_cons.mpr ⟨by k_mem, List.forall_mem_cons.mpr ⟨by k_mem, List.forall_mem_cons.mpr ⟨by k_mem, List.forall_mem_cons.mpr ⟨by k_mem, List.forall_mem_cons.mpr ⟨by k_mem, List.forall_mem_cons.mpr ⟨by k_mem, List.forall_mem_cons.mpr ⟨by k_mem, fun p hp => .tail _ (.tail _ (.tail _ (.tail _ (.tail _ (.tail _ (.tail _ (.tail _ (.tail _ (.tail _ (.tail _ (hp)))))))))))⟩⟩⟩⟩⟩⟩⟩⟩⟩ : ∀ p ∈ ((x, instObj 224 d) :: (d, lexD w ln (.ref tx) pb t1 t2 t3 t4 t5 t6) :: (tx, instObj 224 td) :: (td, tapeD w fp2 pb2 f u1 u2 u3 u4 u5 u6 u7) :: (f, readO LL cell doc pm ct c') :: (c', oc) :: (cell, oce) :: (left, listOf (ys : List Value).toArray k) :: (pb, listOf ([] : List Value).toArray 0) :: rest), p ∈ ((x, instObj 224 d) :: (d, lexD w ln (.ref tx) pb t1 t2 t3 t4 t5 t6) :: (tx, instObj 224 td) :: (td, tapeD w fp2 pb2 f u1 u2 u3 u4 u5 u6 u7) :: (f, readO LL cell doc pm ct c') :: (c', oc) :: (cell, oce) :: (left, listOf (ys : List Value).toArray k) :: (pb, listOf ([] : List Value).toArray 0) :: (q, methodObj (.ref 207) (.ref x)) :: (I, o) :: rest)) p hp))
theorem out_loop {R : Result → Shared → Prop} {cs : List Nat} {pch : Pos}
  (B : Below (callerA.deeper (lawE L fa cd)) base [lawE L fa cd] h₀) (F : Fr h₀ L' s.heap m) (X : (K1r w.params).In h₀) (T : Top p loose mean mg mb h₀) (C : CodeHd base 298 294)
  (hoc : oc.data = .fields vs) (hvs : vs[1]? = some (.str (readQ LL) tq)) (hcell : oce.data = .cell (some (.ref left)))
  (N : News h₀ L' s.heap ((x, instObj 224 d) :: (d, lexD w ln (.ref tx) pb t1 t2 t3 t4 t5 t6) :: (tx, instObj 224 td) :: (td, tapeD w fp2 pb2 f u1 u2 u3 u4 u5 u6 u7) :: (f, readO LL cell doc pm ct c') :: (c', oc) :: (cell, oce) :: (left, listOf (ys : List Value).toArray k) :: (pb, listOf ([] : List Value).toArray 0) :: (q, methodObj (.ref 207) (.ref x)) :: (I, (ciObj q (.str (Str.ofString "") st) false)) :: rest))
  (ap : Apart x d tx td f c' cell left) (hd : ∀ p ∈ ((pb, listOf ([] : List Value).toArray 0) :: (q, methodObj (.ref 207) (.ref x)) :: (I, ciObj q (.str (Str.ofString "") st) false) :: rest), p.1 ≠ d) (hl : ∀ p ∈ ((pb, listOf ([] : List Value).toArray 0) :: (q, methodObj (.ref 207) (.ref x)) :: (I, ciObj q (.str (Str.ofString "") st) false) :: rest), p.1 ≠ left) (hI : @Ne Nat x I ∧ @Ne Nat d I ∧ @Ne Nat tx I ∧ @Ne Nat td I ∧ @Ne Nat f I ∧ @Ne Nat c' I ∧ @Ne Nat cell I ∧ @Ne Nat left I ∧ @Ne Nat pb I ∧ @Ne Nat q I) (hIr : ∀ p ∈ rest, p.1 ≠ I) (hz : ys.length ≤ sizeLine) (hch : ChL ys cs)
  (mself : m (Str.ofString "self") = some (.ref x)) (mfit : m (Str.ofString "fiter") = some (.ref I)) (mtok : m (Str.ofString "token") = some (.str (Str.ofString "") tt)) (htk : cs.length + 2 ≤ sizeLine)
  (hret : ∀ h' tk t2' ln' k' u ys' m', Fr h₀ L' h' m' → News h₀ L' h' ((x, instObj 224 d) :: (d, lexD w ln' (.ref tx) pb t1 t2' t3 t4 t5 t6) :: (tx, instObj 224 td) :: (td, tapeD w fp2 pb2 f u1 u2 u3 u4 u5 u6 u7) :: (f, readO LL cell doc pm ct c') :: (c', oc) :: (cell, oce) :: (left, listOf (ys' : List Value).toArray k') :: (pb, listOf ([] : List Value).toArray 0) :: rest) → ChL ys' (tokenOf cs).2 → ln' + nlc (tokenOf cs).2 = ln + nlc cs → ys'.length ≤ ys.length → R (.ok (.ret (.str (tokenOf cs).1 u))) { heap := h', gens := s.gens, drawn := s.drawn, toks := tk, os := s.os })
  (hend : ∀ h' tk t2' ln' k' u m', Fr h₀ L' h' m' → News h₀ L' h' ((x, instObj 224 d) :: (d, lexD w ln' (.ref tx) pb t1 t2' t3 t4 t5 t6) :: (tx, instObj 224 td) :: (td, tapeD w fp2 pb2 f u1 u2 u3 u4 u5 u6 u7) :: (f, readO LL cell doc pm ct c') :: (c', oc) :: (cell, oce) :: (left, listOf ([] : List Value).toArray k') :: (pb, listOf ([] : List Value).toArray 0) :: rest) → (tokenOf cs).2 = [] → m' (Str.ofString "token") = some (.str (tokenOf cs).1 u) → ln' = ln + nlc cs → R (.ok .next) { heap := h', gens := s.gens, drawn := s.drawn, toks := tk, os := s.os }) :
  codeAny (model pw w) (lexA L fa cd L') (.forLoop (.Name (Str.ofString "ch") pch) (.ref I) outB [] (getE L')) R s := by
  refine codeAny_forLoop (fun n s' => (∃ h' tk t2' ln' k' ys' cs' m' tt', s' = { heap := h', gens := s.gens, drawn := s.drawn, toks := tk, os := s.os } ∧ Fr h₀ L' h' m' ∧ News h₀ L' h' ((x, instObj 224 d) :: (d, lexD w ln' (.ref tx) pb t1 t2' t3 t4 t5 t6) :: (tx, instObj 224 td) :: (td, tapeD w fp2 pb2 f u1 u2 u3 u4 u5 u6 u7) :: (f, readO LL cell doc pm ct c') :: (c', oc) :: (cell, oce) :: (left, listOf (ys' : List Value).toArray k') :: (pb, listOf ([] : List Value).toArray 0) :: (q, methodObj (.ref 207) (.ref x)) :: (I, (ciObj q (.str (Str.ofString "") st) false)) :: rest) ∧ m' (Str.ofString "self") = some (.ref x) ∧ m' (Str.ofString "fiter") = some (.ref I) ∧
      m' (Str.ofString "token") = some (.str (Str.ofString "") tt') ∧ ChL ys' cs' ∧ ln' + nlc cs' = ln + nlc cs ∧ tokenOf cs' = tokenOf cs ∧ ys'.length ≤ ys.length ∧ cs'.length + 2 ≤ sizeLine ∧ n = cs'.length + 2) ∨
      (∃ h' tk t2' ln' k' u m', s' = { heap := h', gens := s.gens, drawn := s.drawn, toks := tk, os := s.os } ∧ Fr h₀ L' h' m' ∧ News h₀ L' h' ((x, instObj 224 d) :: (d, lexD w ln' (.ref tx) pb t1 t2' t3 t4 t5 t6) :: (tx, instObj 224 td) :: (td, tapeD w fp2 pb2 f u1 u2 u3 u4 u5 u6 u7) :: (f, readO LL cell doc pm ct c') :: (c', oc) :: (cell, oce) :: (left, listOf ([] : List Value).toArray k') :: (pb, listOf ([] : List Value).toArray 0) :: (q, methodObj (.ref 207) (.ref x)) :: (I, ciEnd) :: rest) ∧ (tokenOf cs).2 = [] ∧ m' (Str.ofString "token") = some (.str (tokenOf cs).1 u) ∧ ln' = ln + nlc cs ∧ n = 1)) ?_ (cs.length + 2)
    (.inl ⟨s.heap, s.toks, t2, ln, k, ys, cs, m, tt, rfl, F, N, mself, mfit, mtok, hch, rfl, rfl, Nat.le_refl _, htk, rfl⟩)
  rintro n s' (⟨h', tk, t2', ln', k', ys', cs', m', tt', rfl, F', N', ms, mf, mt, hc, hln, hsc, hle, hb, rfl⟩ | ⟨h', tk, t2', ln', k', u, m', rfl, F', N', ht, mt, hln, rfl⟩)
  · obtain ⟨of, fd, hof, hfd⟩ := k207 w
    have hX := X.keeps F'.keep
    have hIm : (I, ciObj q (.str (Str.ofString "") st) false) ∈ ((x, instObj 224 d) :: (d, lexD w ln' (.ref tx) pb t1 t2' t3 t4 t5 t6) :: (tx, instObj 224 td) :: (td, tapeD w fp2 pb2 f u1 u2 u3 u4 u5 u6 u7) :: (f, readO LL cell doc pm ct c') :: (c', oc) :: (cell, oce) :: (left, listOf (ys' : List Value).toArray k') :: (pb, listOf ([] : List Value).toArray 0) :: (q, methodObj (.ref 207) (.ref x)) :: (I, (ciObj q (.str (Str.ofString "") st) false)) :: rest) := by k_mem
    have hqm : (q, methodObj (.ref 207) (.ref x)) ∈ ((x, instObj 224 d) :: (d, lexD w ln' (.ref tx) pb t1 t2' t3 t4 t5 t6) :: (tx, instObj 224 td) :: (td, tapeD w fp2 pb2 f u1 u2 u3 u4 u5 u6 u7) :: (f, readO LL cell doc pm ct c') :: (c', oc) :: (cell, oce) :: (left, listOf (ys' : List Value).toArray k') :: (pb, listOf ([] : List Value).toArray 0) :: (q, methodObj (.ref 207) (.ref x)) :: (I, (ciObj q (.str (Str.ofString "") st) false)) :: rest) := by k_mem
    refine ci_next rfl (N' _ hIm).1 (N' _ hqm).1 (hX _ _ hof) hfd ?_
    refine rc_any (ys := ys') (cs := cs') (ln := ln') (t2 := t2') (k := k') (rest := ((pb, listOf ([] : List Value).toArray 0) :: (q, methodObj (.ref 207) (.ref x)) :: (I, ciObj q (.str (Str.ofString "") st) false) :: rest)) B F' X T C hoc hvs hcell N' ap hd hl (Nat.le_trans hle hz) hc ?_
    intro h2 tk2 t22 ln2 k2 u ys2 F2 N2 hc2 hln2 hle2
    have hX2 := X.keeps F2.keep
    have hIm2 : (I, ciObj q (.str (Str.ofString "") st) false) ∈ ((x, instObj 224 d) :: (d, lexD w ln2 (.ref tx) pb t1 t22 t3 t4 t5 t6) :: (tx, instObj 224 td) :: (td, tapeD w fp2 pb2 f u1 u2 u3 u4 u5 u6 u7) :: (f, readO LL cell doc pm ct c') :: (c', oc) :: (cell, oce) :: (left, listOf (ys2 : List Value).toArray k2) :: (pb, listOf ([] : List Value).toArray 0) :: (q, methodObj (.ref 207) (.ref x)) :: (I, (ciObj q (.str (Str.ofString "") st) false)) :: rest) := by k_mem
    have hqm2 : (q, methodObj (.ref 207) (.ref x)) ∈ ((x, instObj 224 d) :: (d, lexD w ln2 (.ref tx) pb t1 t22 t3 t4 t5 t6) :: (tx, instObj 224 td) :: (td, tapeD w fp2 pb2 f u1 u2 u3 u4 u5 u6 u7) :: (f, readO LL cell doc pm ct c') :: (c', oc) :: (cell, oce) :: (left, listOf (ys2 : List Value).toArray k2) :: (pb, listOf ([] : List Value).toArray 0) :: (q, methodObj (.ref 207) (.ref x)) :: (I, (ciObj q (.str (Str.ofString "") st) false)) :: rest) := by k_mem
    refine ⟨_, u, rfl, (N2 _ hIm2).1, (N2 _ hqm2).1, hX2 _ _ hof, fun hne => ?_, fun heq h3 hx3 hI3 => ?_⟩
    · cases cs' with
      | nil => exact absurd rfl hne
      | cons c r =>
        refine wpAny_assign_Name (stN F2 N2 (fun h4 F4 N4 => ?_))
        have hc2' : ChL ys2 r := hc2
        have hln2' : ln2 + nlc r = ln' + nlc (c :: r) := hln2
        have hb' : r.length + 1 + 2 ≤ sizeLine := hb
        have hle3 := Nat.le_trans hle2 hle
        refine out_turn (cs := r) (ys := ys2) (c := c) (tok := Str.ofString "") (st := st) (ut := u) ⟨rfl, rfl⟩ B F4 X T C hoc hvs hcell N4 ap hd hl (Nat.le_trans hle3 hz) hc2' (by exact ms) (by exact mf) (by exact mt) rfl hI hIr (by show 0 + r.length + 2 ≤ _; omega) ?_ ?_ ?_
        · intro hw tk5
          have e : tokenOf r = tokenOf cs := by rw [← hsc]; show _ = if isWs c then tokenOf r else _; rw [if_pos hw]
          exact ⟨r.length + 2, Nat.lt_succ_self _, .inl ⟨h4, tk5, t22, ln2, k2, ys2, r, _, tt', rfl, F4, N4, ms, mf, mt, hc2', by omega, e, hle3, by omega, rfl⟩⟩
        · intro hw hcl h5 tk5 t25 ln5 k5 u5 ys5 m5 F5 N5 hc5 hln5 hle5
          have e : tokenOf cs = ((outTok (Str.ofString "") c r).1, (outTok (Str.ofString "") c r).2.1) := by rw [← hsc]; show (if isWs c then tokenOf r else _) = _; rw [if_neg (by rw [hw]; decide)]
          have g := hret h5 tk5 t25 ln5 k5 u5 ys5 m5 F5 (drop_q N5) (by rw [e]; exact hc5) (by rw [e]; show ln5 + nlc (outTok (Str.ofString "") c r).2.1 = _; omega) (Nat.le_trans hle5 hle3)
          rw [e] at g
          exact g
        · intro hw hcl h5 tk5 t25 ln5 k5 u5 m5 F5 N5 a1 a2 a3 hln5
          have e : tokenOf cs = ((outTok (Str.ofString "") c r).1, (outTok (Str.ofString "") c r).2.1) := by rw [← hsc]; show (if isWs c then tokenOf r else _) = _; rw [if_neg (by rw [hw]; decide)]
          exact ⟨1, by show 1 < r.length + 1 + 2; omega, .inr ⟨h5, tk5, t25, ln5, k5, u5, m5, rfl, F5, N5, by rw [e]; exact outTok_closed _ _ _ hcl, by rw [e]; exact a3, by omega, rfl⟩⟩
    · cases cs' with
      | cons c r => exact absurd (congrArg Str.length heq) (by show ¬ (1 = 0); decide)
      | nil =>
        have hy2 : ys2 = [] := by
          cases ys2 with
          | nil => rfl
          | cons v ys2 => exact hc2.elim
        subst hy2
        have e : tokenOf cs = (Str.ofString "", []) := hsc.symm
        have hlz : ln2 + nlc [] = ln' + nlc [] := hln2
        have hz0 : nlc ([] : List Nat) = 0 := rfl
        have g := hend h3 tk2 t22 ln2 k2 tt' m' (fr_put F2 N2 hIm2 hx3) (news_put N2 hIm2 hx3 hI3 ?_) (by rw [e]) (by rw [e]; exact mt) (by omega)
        · exact wpAny_execs_nil g
        · obtain ⟨i1, i2, i3, i4, i5, i6, i7, i8, i9, i10⟩ := hI
          refine List.forall_mem_cons.mpr ⟨.inr ⟨by k_mem, i1⟩, List.forall_mem_cons.mpr ⟨.inr ⟨by k_mem, i2⟩, List.forall_mem_cons.mpr ⟨.inr ⟨by k_mem, i3⟩, List.forall_mem_cons.mpr ⟨.inr ⟨by k_mem, i4⟩, List.forall_mem_cons.mpr ⟨.inr ⟨by k_mem, i5⟩, List.forall_mem_cons.mpr ⟨.inr ⟨by k_mem, i6⟩,
            List.forall_mem_cons.mpr ⟨.inr ⟨by k_mem, i7⟩, List.forall_mem_cons.mpr ⟨.inr ⟨by k_mem, i8⟩, List.forall_mem_cons.mpr ⟨.inr ⟨by k_mem, i9⟩, fun p hp => .inr ⟨.tail _ (.tail _ (.tail _ (.tail _ (.tail _ (.tail _ (.tail _ (.tail _ (.tail _ (.tail _ (.tail _ (hp))))))))))), hIr p hp⟩⟩⟩⟩⟩⟩⟩⟩⟩⟩
  · have hIm : (I, ciEnd) ∈ ((x, instObj 224 d) :: (d, lexD w ln' (.ref tx) pb t1 t2' t3 t4 t5 t6) :: (tx, instObj 224 td) :: (td, tapeD w fp2 pb2 f u1 u2 u3 u4 u5 u6 u7) :: (f, readO LL cell doc pm ct c') :: (c', oc) :: (cell, oce) :: (left, listOf ([] : List Value).toArray k') :: (pb, listOf ([] : List Value).toArray 0) :: (q, methodObj (.ref 207) (.ref x)) :: (I, ciEnd) :: rest) := by k_mem
    refine ci_ended rfl (N' _ hIm).1 fun h2 hx => ?_
    exact wpAny_execs_nil (hend h2 tk t2' ln' k' u m' (fr_up F' hx) (drop_q (news_up N' hx)) ht mt hln)
end
end
section
-- GS
open PySem PySem.W PyProof.Rows
local macro_rules | `(tactic| walk_at "call builtin:iter") => `(tactic| (k_here; walk_at "%d"; (with_reducible show wpAny _ _ (call (Value.builtin "iter") [Value.ref _, _]) _ _ _); k_dflt (refine' iter2_K ?_ ?_ ?_ ?_; rotate_right 4; k_asm; k_asm; k_mem); intro _ _ _ _ l1; (try k_lt l1); (try k_sweep)))
section
variable {w : World} {h₀ base : Heap} {L L' fa x d tx td pb pb2 f c' cell left LL : Addr} {cd doc pm ct fp2 : Value} {m mg mb : Str → Option Value} {s : Shared} {rest : List (Addr × Obj)} {mean : ExcName → Option Value} {p : Program} {loose : List Str}
  {ln : Int} {t1 t2 t3 t4 t5 t6 u1 u2 u3 u4 u5 u6 u7 ut tq : Tok} {k : Nat} {oc oce : Obj} {vs : Array Value} {ys : List Value} {c : Nat}
variable {q I : Addr} {st tt : Tok} {tok : Str}
theorem exec_out {Q : Flow → Shared → Prop} {E : Value → Shared → Prop} {cs : List Nat} {pch pi pf : Pos}
  (B : Below (callerA.deeper (lawE L fa cd)) base [lawE L fa cd] h₀) (F : Fr h₀ L' s.heap m) (X : (K1r w.params).In h₀) (T : Top p loose mean mg mb h₀) (C : CodeHd base 298 294)
  (hoc : oc.data = .fields vs) (hvs : vs[1]? = some (.str (readQ LL) tq)) (hcell : oce.data = .cell (some (.ref left)))
  (N : News h₀ L' s.heap ((I, ciObj q (.str (Str.ofString "") st) false) :: (q, methodObj (.ref 207) (.ref x)) :: ((x, instObj 224 d) :: (d, lexD w ln (.ref tx) pb t1 t2 t3 t4 t5 t6) :: (tx, instObj 224 td) :: (td, tapeD w fp2 pb2 f u1 u2 u3 u4 u5 u6 u7) :: (f, readO LL cell doc pm ct c') :: (c', oc) :: (cell, oce) :: (left, listOf (ys : List Value).toArray k) :: (pb, listOf ([] : List Value).toArray 0) :: rest)))
  (ap : Apart x d tx td f c' cell left) (hd : ∀ p ∈ rest, p.1 ≠ d) (hl : ∀ p ∈ rest, p.1 ≠ left) (hpb : @Ne Nat pb d ∧ @Ne Nat pb left)
  (hI : @Ne Nat x I ∧ @Ne Nat d I ∧ @Ne Nat tx I ∧ @Ne Nat td I ∧ @Ne Nat f I ∧ @Ne Nat c' I ∧ @Ne Nat cell I ∧ @Ne Nat left I ∧ @Ne Nat pb I ∧ @Ne Nat q I ∧ @Ne Nat d q ∧ @Ne Nat left q) (hIr : ∀ p ∈ rest, p.1 ≠ I)
  (hz : ys.length ≤ sizeLine) (hch : ChL ys cs)
  (mself : m (Str.ofString "self") = some (.ref x)) (mfit : m (Str.ofString "fiter") = some (.ref I)) (mtok : m (Str.ofString "token") = some (.str (Str.ofString "") tt)) (htk : cs.length + 2 ≤ sizeLine)
  (hret : ∀ h' tk t2' ln' k' u ys' m', Fr h₀ L' h' m' → News h₀ L' h' ((x, instObj 224 d) :: (d, lexD w ln' (.ref tx) pb t1 t2' t3 t4 t5 t6) :: (tx, instObj 224 td) :: (td, tapeD w fp2 pb2 f u1 u2 u3 u4 u5 u6 u7) :: (f, readO LL cell doc pm ct c') :: (c', oc) :: (cell, oce) :: (left, listOf (ys' : List Value).toArray k') :: (pb, listOf ([] : List Value).toArray 0) :: rest) → ChL ys' (tokenOf cs).2 → ln' + nlc (tokenOf cs).2 = ln + nlc cs → ys'.length ≤ ys.length → Q (.ret (.str (tokenOf cs).1 u)) { heap := h', gens := s.gens, drawn := s.drawn, toks := tk, os := s.os })
  (hend : ∀ h' tk t2' ln' k' u m', Fr h₀ L' h' m' → News h₀ L' h' ((x, instObj 224 d) :: (d, lexD w ln' (.ref tx) pb t1 t2' t3 t4 t5 t6) :: (tx, instObj 224 td) :: (td, tapeD w fp2 pb2 f u1 u2 u3 u4 u5 u6 u7) :: (f, readO LL cell doc pm ct c') :: (c', oc) :: (cell, oce) :: (left, listOf ([] : List Value).toArray k') :: (pb, listOf ([] : List Value).toArray 0) :: rest) → (tokenOf cs).2 = [] → m' (Str.ofString "token") = some (.str (tokenOf cs).1 u) → ln' = ln + nlc cs → Q .next { heap := h', gens := s.gens, drawn := s.drawn, toks := tk, os := s.os }) :
  wpAny (model pw w) (lexA L fa cd L') (exec (.For (.Name (Str.ofString "ch") pch) (.Name (Str.ofString "fiter") pi) outB [] pf) (getE L')) Q E s := by
  obtain ⟨i1, i2, i3, i4, i5, i6, i7, i8, i9, i10, i11, i12⟩ := hI
  have N1 : News h₀ L' s.heap ((x, instObj 224 d) :: (d, lexD w ln (.ref tx) pb t1 t2 t3 t4 t5 t6) :: (tx, instObj 224 td) :: (td, tapeD w fp2 pb2 f u1 u2 u3 u4 u5 u6 u7) :: (f, readO LL cell doc pm ct c') :: (c', oc) :: (cell, oce) :: (left, listOf (ys : List Value).toArray k) :: (pb, listOf ([] : List Value).toArray 0) :: (q, methodObj (.ref 207) (.ref x)) :: (I, (ciObj q (.str (Str.ofString "") st) false)) :: rest) := fun p hp => N p ((List.forall_mem_cons.mpr ⟨by k_mem, List.forall_mem_cons.mpr ⟨by k_mem, List.forall_mem_cons.mpr ⟨by k_mem, List.forall_mem_cons.mpr ⟨by k_mem, List.forall_mem_cons.mpr ⟨by k_mem, List.forall_mem_cons.mpr ⟨by k_mem, List.forall_mem_cons.mpr ⟨by k_mem, List.forall_mem_cons.mpr ⟨by k_mem, List.forall_mem_cons.mpr ⟨by k_mem, List.forall_mem_cons.mpr ⟨by k_mem, List.forall_mem_cons.mpr ⟨by k_mem, fun p hp => .tail _ (.tail _ (.tail _ (.tail _ (.tail _ (.tail _ (.tail _ (.tail _ (.tail _ (.tail _ (.tail _ (hp)))))))))))⟩⟩⟩⟩⟩⟩⟩⟩⟩⟩⟩ : ∀ p ∈ ((x, instObj 224 d) :: (d, lexD w ln (.ref tx) pb t1 t2 t3 t4 t5 t6) :: (tx, instObj 224 td) :: (td, tapeD w fp2 pb2 f u1 u2 u3 u4 u5 u6 u7) :: (f, readO LL cell doc pm ct c') :: (c', oc) :: (cell, oce) :: (left, listOf (ys : List Value).toArray k) :: (pb, listOf ([] : List Value).toArray 0) :: (q, methodObj (.ref 207) (.ref x)) :: (I, (ciObj q (.str (Str.ofString "") st) false)) :: rest), p ∈ (I, ciObj q (.str (Str.ofString "") st) false) :: (q, methodObj (.ref 207) (.ref x)) :: ((x, instObj 224 d) :: (d, lexD w ln (.ref tx) pb t1 t2 t3 t4 t5 t6) :: (tx, instObj 224 td) :: (td, tapeD w fp2 pb2 f u1 u2 u3 u4 u5 u6 u7) :: (f, readO LL cell doc pm ct c') :: (c', oc) :: (cell, oce) :: (left, listOf (ys : List Value).toArray k) :: (pb, listOf ([] : List Value).toArray 0) :: rest)) p hp)
  exact wpAny_For (ld F mfit (pyIter_ci (N.get (by k_mem)) (out_loop B F X T C hoc hvs hcell N1 ap
    (List.forall_mem_cons.mpr ⟨hpb.1, List.forall_mem_cons.mpr ⟨i11.symm, List.forall_mem_cons.mpr ⟨i2.symm, hd⟩⟩⟩) (List.forall_mem_cons.mpr ⟨hpb.2, List.forall_mem_cons.mpr ⟨i12.symm, List.forall_mem_cons.mpr ⟨i8.symm, hl⟩⟩⟩)
    ⟨i1, i2, i3, i4, i5, i6, i7, i8, i9, i10⟩ hIr hz hch mself mfit mtok htk hret hend)))
local macro_rules | `(tactic| walk_at "eval Name") => `(tactic| (k_here; k_dflt (refine' ld ?_ ?_ ?_; rotate_right 3; k_asm; (first | exact rfl | assumption); k_whole)))
set_option maxHeartbeats 8000000 in
set_option pp.deepTerms false in
theorem gt_spec {Q : Value → Shared → Prop} {E : Value → Shared → Prop} {cs : List Nat} (dummy : PySem.Challenge.rw_sh0067_01 = PySem.Challenge.rw_sh0067_01 ∧ K1r = K1r)
  (B : Below callerA base [] h₀) (F : Fr h₀ L s.heap m) (X : (K1r w.params).In h₀) (T : Top p loose mean mg mb h₀) (C : CodeHd base 298 294)
  (hoc : oc.data = .fields vs) (hvs : vs[1]? = some (.str (readQ LL) tq)) (hcell : oce.data = .cell (some (.ref left)))
  (N : News h₀ L s.heap ((x, instObj 224 d) :: (d, lexD w ln (.ref tx) pb t1 t2 t3 t4 t5 t6) :: (tx, instObj 224 td) :: (td, tapeD w fp2 pb2 f u1 u2 u3 u4 u5 u6 u7) :: (f, readO LL cell doc pm ct c') :: (c', oc) :: (cell, oce) :: (left, listOf (ys : List Value).toArray k) :: (pb, listOf ([] : List Value).toArray 0) :: rest))
  (ap : Apart x d tx td f c' cell left) (hd : ∀ p ∈ rest, p.1 ≠ d) (hl : ∀ p ∈ rest, p.1 ≠ left) (hpb : @Ne Nat pb d ∧ @Ne Nat pb left) (hz : ys.length ≤ sizeLine) (hch : ChL ys cs) (htk : cs.length + 2 ≤ sizeLine)
  (h : ∀ h' tk t2' ln' k' u ys', Fr h₀ L h' m → News h₀ L h' ((x, instObj 224 d) :: (d, lexD w ln' (.ref tx) pb t1 t2' t3 t4 t5 t6) :: (tx, instObj 224 td) :: (td, tapeD w fp2 pb2 f u1 u2 u3 u4 u5 u6 u7) :: (f, readO LL cell doc pm ct c') :: (c', oc) :: (cell, oce) :: (left, listOf (ys' : List Value).toArray k') :: (pb, listOf ([] : List Value).toArray 0) :: rest) → ChL ys' (tokenOf cs).2 → ln' + nlc (tokenOf cs).2 = ln + nlc cs → ys'.length ≤ ys.length → Q (.str (tokenOf cs).1 u) { heap := h', gens := s.gens, drawn := s.drawn, toks := tk, os := s.os }) :
  wpAny (model pw w) (callerA.deeper (lawE L fa cd)) (call (.ref 214) [.ref x] []) Q E s := by
  have apd := ap.hd
  have apl := ap.hl
  revert dummy
  k_fill
  intro _
  w_on
  k_steps
  refine exec_out (by assumption) (by assumption) (by assumption) (by assumption) C hoc hvs hcell (by assumption) ap hd hl hpb ?_ ?_ hz hch rfl rfl rfl htk ?_ ?_
  · refine ⟨?_, ?_, ?_, ?_, ?_, ?_, ?_, ?_, ?_, ?_, ?_, ?_⟩ <;> (refine neN ?_; omega)
  · exact ne_of_top (by omega)
  · intro h' tk t2' ln' k' u ys' m' F' N' a3 a4 a5
    k_steps
    exact h _ _ _ _ _ _ _ (by assumption) (by assumption) a3 a4 a5
  · intro h' tk t2' ln' k' u m' F' N' a1 a2 a4
    k_steps
    exact h _ _ _ _ _ _ [] (by assumption) (by assumption) (by rw [a1]; exact trivial) (by rw [a1]; show ln' + 0 = _; omega) (Nat.zero_le _)
end
end
section
-- LS
open PySem PySem.W PyProof.Rows
/-- a ledger whose end is tab -/
inductive Tail (tab : List (Addr × Obj)) : List (Addr × Obj) → List (Addr × Obj) → Prop
  | nil : Tail tab [] tab
  | cons {p ex news} : Tail tab ex news → Tail tab (p :: ex) (p :: news)
theorem Tail.ex {tab ex news : List (Addr × Obj)} (t : Tail tab ex news) : ∀ p ∈ ex, p ∈ news := by
  induction t with
  | nil => exact List.forall_mem_nil _
  | cons _ ih => exact List.forall_mem_cons.mpr ⟨.head _, fun p hp => .tail _ (ih p hp)⟩
theorem Tail.tab {tab ex news : List (Addr × Obj)} (t : Tail tab ex news) : ∀ p ∈ tab, p ∈ news := by
  induction t with
  | nil => exact fun _ h => h
  | cons _ ih => exact fun p hp => .tail _ (ih p hp)
theorem news_sub {h₀ h : Heap} {L : Addr} {l l' : List (Addr × Obj)} (N : News h₀ L h l) (hs : ∀ p ∈ l', p ∈ l) : News h₀ L h l' := fun p hp => N p (hs p hp)
theorem lt2 {a b : Nat} (h : a < b) : a < b := h
abbrev tabF (c : Addr) : Obj := tabObj (#[] ++ #[rawInt 158, rawInt 4, .ref c])
/-- _law_lexer's table of code objects: empty, or with read's -/
noncomputable def TabSt (tab : List (Addr × Obj)) : Prop := tab = [(294, tabObj #[])] ∨
  ∃ c oc vs tq, tab = [(294, tabF c), (c, oc)] ∧ oc.data = .fields vs ∧ vs[1]? = some (.str (readQ 0) tq) ∧ @LT.lt Nat _ 294 c
local macro_rules | `(tactic| walk_at "call type:list") => `(tactic| (k_here; (with_reducible show wpAny _ _ (call (Value.type _) [Value.str _ _]) _ _ _); k_dflt (refine' list_strK ?_ ?_ ?_ ?_ ?_; rotate_right 5; k_asm; k_asm; rotate_left; exact rfl; k_asm); intro _ _ _ _ _ _ _ l1 _; (try k_lt l1); (try k_sweep)))
section
variable {w : World} {h₀ base : Heap} {L fa : Addr} {cd : Value} {m mg mb : Str → Option Value} {s : Shared} {rest : List (Addr × Obj)} {mean : ExcName → Option Value} {p : Program} {loose : List Str}
set_option maxHeartbeats 8000000 in
set_option pp.deepTerms false in
theorem lexer_new {Q : Value → Shared → Prop} {E : Value → Shared → Prop} {text : Str} {tt : Tok} {ex : List (Addr × Obj)} (dummy : PySem.Challenge.rw_sh0067_01 = PySem.Challenge.rw_sh0067_01 ∧ K1r = K1r)
  (B : Below callerA base [] h₀) (F : Fr h₀ L s.heap m) (X : (K1r w.params).In h₀) (T : Top p loose mean mg mb h₀) (C : CodeHd base 298 294)
  (N : News h₀ L s.heap ((294, tabObj #[]) :: ex)) (hx : ∀ p ∈ ex, p.1 ≠ 294) (hsz : text.cps.size ≤ sizeLine)
  (h : ∀ h' tk (tup x d tx td pb pb2 f c' cell left LL : Addr) (doc pm ct : Value) (t1 t2 t3 t4 t5 t6 u1 u2 u3 u4 u5 u6 u7 tq : Tok) (oc oce : Obj) (vs : Array Value) (ys : List Value) (k : Nat) tab', TabSt tab' → Fr h₀ L h' m →
    News h₀ L h' ((tup, ({ cls := .type "tuple", data := .seq #[.ref x, .ref left] } : Obj)) :: ((x, instObj 224 d) :: (d, lexD w 1 (.ref tx) pb t1 t2 t3 t4 t5 t6) :: (tx, instObj 224 td) :: (td, tapeD w .none pb2 f u1 u2 u3 u4 u5 u6 u7) :: (f, readO LL cell doc pm ct c') :: (c', oc) :: (cell, oce) :: (left, listOf (ys : List Value).toArray k) :: ((pb, listOf ([] : List Value).toArray 0) :: (ex ++ tab')))) →
    oc.data = .fields vs → vs[1]? = some (.str (readQ LL) tq) → oce.data = .cell (some (.ref left)) → ChL ys text.cps.toList → Apart x d tx td f c' cell left → (@Ne Nat pb d ∧ @Ne Nat pb left) →
    topA ex ≤ left → left < d → (∀ p ∈ tab', p.1 ≠ d) → (∀ p ∈ tab', p.1 ≠ left) → Q (.ref tup) { heap := h', gens := s.gens, drawn := s.drawn, toks := tk, os := s.os }) :
  wpAny (model pw w) (callerA.deeper (lawE L fa cd)) (call (.ref 299) [.str text tt] []) Q E s := by
  revert dummy
  k_fill
  intro _
  w_on
  k_steps
  refine' h _ _ _ _ _ _ _ _ _ _ ?cc _ _ _ _ _ _ _ _ _ _ _ _ _ _ _ _ _ _ _ _ ?ocx _ _ _ _ [(294, tabF ?cc), (?cc, ?ocx)] ?tabst (by assumption) (news_sub (by assumption) ?sub) (by assumption) (by assumption) (by assumption) (by assumption) ?a1 ?a3 ?a4 ?a5 ?a6 ?a7
  case sub =>
    refine List.forall_mem_cons.mpr ⟨by k_mem, List.forall_mem_cons.mpr ⟨by k_mem, List.forall_mem_cons.mpr ⟨by k_mem, List.forall_mem_cons.mpr ⟨by k_mem, List.forall_mem_cons.mpr ⟨by k_mem, List.forall_mem_cons.mpr ⟨by k_mem, List.forall_mem_cons.mpr ⟨by k_mem, List.forall_mem_cons.mpr ⟨by k_mem, List.forall_mem_cons.mpr ⟨by k_mem, List.forall_mem_cons.mpr ⟨by k_mem, fun p hp => ?_⟩⟩⟩⟩⟩⟩⟩⟩⟩⟩
    rcases List.mem_append.mp hp with hp | hp
    · repeat (first | exact hp | refine List.Mem.tail _ ?_)
    · refine (List.forall_mem_cons.mpr ⟨?_, List.forall_mem_cons.mpr ⟨?_, List.forall_mem_nil _⟩⟩ : ∀ p ∈ _, p ∈ _) p hp
      · k_mem
      · k_mem
  case tabst => exact .inr ⟨_, _, _, _, rfl, by assumption, by assumption, by omega⟩
  case a1 => exact ⟨by refine ⟨?_, ?_, ?_, ?_, ?_, ?_, ?_⟩ <;> (refine neN ?_; omega), by refine ⟨?_, ?_, ?_, ?_, ?_, ?_, ?_⟩ <;> (refine neN ?_; omega)⟩
  case a3 => exact ⟨by refine neN ?_; omega, by refine neN ?_; omega⟩
  case a4 => omega
  case a5 => exact lt2 (by omega)
  case a6 => exact List.forall_mem_cons.mpr ⟨by refine neN ?_; dsimp only; omega, List.forall_mem_cons.mpr ⟨by refine neN ?_; dsimp only; omega, List.forall_mem_nil _⟩⟩
  case a7 => exact List.forall_mem_cons.mpr ⟨by refine neN ?_; dsimp only; omega, List.forall_mem_cons.mpr ⟨by refine neN ?_; dsimp only; omega, List.forall_mem_nil _⟩⟩
set_option maxHeartbeats 8000000 in
set_option pp.deepTerms false in
theorem lexer_old {c0 : Addr} {oc0 : Obj} {vs0 : Array Value} {tq0 : Tok} {Q : Value → Shared → Prop} {E : Value → Shared → Prop} {text : Str} {tt : Tok} {ex : List (Addr × Obj)} (dummy : PySem.Challenge.rw_sh0067_01 = PySem.Challenge.rw_sh0067_01 ∧ K1r = K1r)
  (B : Below callerA base [] h₀) (F : Fr h₀ L s.heap m) (X : (K1r w.params).In h₀) (T : Top p loose mean mg mb h₀) (C : CodeHd base 298 294)
  (N : News h₀ L s.heap ((294, tabF c0) :: (c0, oc0) :: ex)) (hoc0 : oc0.data = .fields vs0) (hvs0 : vs0[1]? = some (.str (readQ 0) tq0)) (hc0 : @LT.lt Nat _ 294 c0) (hsz : text.cps.size ≤ sizeLine)
  (h : ∀ h' tk (tup x d tx td pb pb2 f c' cell left LL : Addr) (doc pm ct : Value) (t1 t2 t3 t4 t5 t6 u1 u2 u3 u4 u5 u6 u7 tq : Tok) (oc oce : Obj) (vs : Array Value) (ys : List Value) (k : Nat) tab', TabSt tab' → Fr h₀ L h' m →
    News h₀ L h' ((tup, ({ cls := .type "tuple", data := .seq #[.ref x, .ref left] } : Obj)) :: ((x, instObj 224 d) :: (d, lexD w 1 (.ref tx) pb t1 t2 t3 t4 t5 t6) :: (tx, instObj 224 td) :: (td, tapeD w .none pb2 f u1 u2 u3 u4 u5 u6 u7) :: (f, readO LL cell doc pm ct c') :: (c', oc) :: (cell, oce) :: (left, listOf (ys : List Value).toArray k) :: ((pb, listOf ([] : List Value).toArray 0) :: (ex ++ tab')))) →
    oc.data = .fields vs → vs[1]? = some (.str (readQ LL) tq) → oce.data = .cell (some (.ref left)) → ChL ys text.cps.toList → Apart x d tx td f c' cell left → (@Ne Nat pb d ∧ @Ne Nat pb left) →
    topA ex ≤ left → left < d → (∀ p ∈ tab', p.1 ≠ d) → (∀ p ∈ tab', p.1 ≠ left) → Q (.ref tup) { heap := h', gens := s.gens, drawn := s.drawn, toks := tk, os := s.os }) :
  wpAny (model pw w) (callerA.deeper (lawE L fa cd)) (call (.ref 299) [.str text tt] []) Q E s := by
  revert dummy
  k_fill
  intro _
  w_on
  k_steps
  refine' h _ _ _ _ _ _ _ _ _ _ ?cc _ _ _ _ _ _ _ _ _ _ _ _ _ _ _ _ _ _ _ _ ?ocx _ _ _ _ [(294, tabF ?cc), (?cc, ?ocx)] ?tabst (by assumption) (news_sub (by assumption) ?sub) (by assumption) (by assumption) (by assumption) (by assumption) ?a1 ?a3 ?a4 ?a5 ?a6 ?a7
  case sub =>
    refine List.forall_mem_cons.mpr ⟨by k_mem, List.forall_mem_cons.mpr ⟨by k_mem, List.forall_mem_cons.mpr ⟨by k_mem, List.forall_mem_cons.mpr ⟨by k_mem, List.forall_mem_cons.mpr ⟨by k_mem, List.forall_mem_cons.mpr ⟨by k_mem, List.forall_mem_cons.mpr ⟨by k_mem, List.forall_mem_cons.mpr ⟨by k_mem, List.forall_mem_cons.mpr ⟨by k_mem, List.forall_mem_cons.mpr ⟨by k_mem, fun p hp => ?_⟩⟩⟩⟩⟩⟩⟩⟩⟩⟩
    rcases List.mem_append.mp hp with hp | hp
    · repeat (first | exact hp | refine List.Mem.tail _ ?_)
    · refine (List.forall_mem_cons.mpr ⟨?_, List.forall_mem_cons.mpr ⟨?_, List.forall_mem_nil _⟩⟩ : ∀ p ∈ _, p ∈ _) p hp
      · k_mem
      · k_mem
  case tabst => exact .inr ⟨_, _, _, _, rfl, by assumption, by assumption, by omega⟩
  case a1 => exact ⟨by refine ⟨?_, ?_, ?_, ?_, ?_, ?_, ?_⟩ <;> (refine neN ?_; omega), by refine ⟨?_, ?_, ?_, ?_, ?_, ?_, ?_⟩ <;> (refine neN ?_; omega)⟩
  case a3 => exact ⟨by refine neN ?_; omega, by refine neN ?_; omega⟩
  case a4 => omega
  case a5 => exact lt2 (by omega)
  case a6 => exact List.forall_mem_cons.mpr ⟨by refine neN ?_; dsimp only; omega, List.forall_mem_cons.mpr ⟨by refine neN ?_; dsimp only; omega, List.forall_mem_nil _⟩⟩
  case a7 => exact List.forall_mem_cons.mpr ⟨by refine neN ?_; dsimp only; omega, List.forall_mem_cons.mpr ⟨by refine neN ?_; dsimp only; omega, List.forall_mem_nil _⟩⟩
end
end
end
section
section
-- Tabs
open PySem PySem.W PyProof.Rows
/-- what the table tells of a key: its first entry -/
noncomputable def look : KV → Int → Option Str
  | [], _ => none
  | (k, v) :: r, x => if x = k then some v else look r x
theorem isInt_iff (x k : Int) (t : Tok) : Value.isInt x (.int k t) = decide (x = k) := by
  show (k == x) = decide (x = k)
  by_cases h : x = k
  · rw [decide_eq_true h, h]; exact beq_self_eq_true k
  · rw [decide_eq_false h]; exact beq_eq_false_iff_ne.mpr (Ne.symm h)
theorem findBy_cons (e : DictEntry) (es' : List DictEntry) (x : Int) : findBy Value.isInt (List.toArray (e :: es')) x = if Value.isInt x e.key then some e.val else findBy Value.isInt es'.toArray x := by
  simp only [findBy, List.find?_toArray, List.find?_cons]
  cases Value.isInt x e.key <;> rfl
theorem ents_find : ∀ {l : KV} {es : List DictEntry}, Ents l es → ∀ x : Int, (look l x = none ∧ findBy Value.isInt es.toArray x = none) ∨ ∃ v u, look l x = some v ∧ findBy Value.isInt es.toArray x = some (.str v u)
  | [], _, h, x => by cases h; exact .inl ⟨rfl, rfl⟩
  | (k, v) :: r, _, ⟨t, u, es', e, h⟩, x => by
    subst e
    by_cases hx : x = k
    · refine .inr ⟨v, u, if_pos hx, ?_⟩
      rw [findBy_cons, isInt_iff, decide_eq_true hx]; rfl
    · have ih := ents_find h x
      have e1 : look ((k, v) :: r) x = look r x := if_neg hx
      have e2 : findBy Value.isInt (List.toArray (⟨hashInt k, .int k t, .str v u⟩ :: es')) x = findBy Value.isInt es'.toArray x := by
        rw [findBy_cons, isInt_iff, decide_eq_false hx]; rfl
      rw [e1, e2]; exact ih
section
variable {prog : Program} {w : World} {A : Around} {E : Value → Shared → Prop} {s : Shared} {k : Int} {t : Tok} {kv : KV} {n : Nat} {D : Addr}
theorem ents_mapOf {h : Heap} {es : List DictEntry} (ho : h.get? D = some (dO es n)) (he : Ents kv es) : h.MapOf (intKind prog w) D (fun x => findBy Value.isInt es.toArray x) := by
  refine ⟨_, _, n, ho, ⟨rfl, rfl, rfl⟩, rfl, fun e hm => ?_, fun _ => rfl⟩
  obtain ⟨k, t, h1, h2⟩ := he.keys.int e hm
  exact ⟨k, by show Value.isInt k e.key = true; rw [h1, isInt_iff]; exact decide_eq_true rfl, h2⟩
theorem get_tab {Q : Value → Shared → Prop} (hD : (D == sysModules) = false) (hb : ∃ es, s.heap.get? D = some (dO es n) ∧ Ents kv es)
    (h1 : ∀ v u, look kv k = some v → Q (.str v u) { s with toks := s.toks + 1 }) (h2 : look kv k = none → Q .none { s with toks := s.toks + 1 }) :
    wpAny (model prog w) A (call (.builtin "dict.get") [.ref D, .int k t]) Q E s := by
  obtain ⟨es, ho, he⟩ := hb
  refine wpAny_call_entry PySem.F.slot_dict_get ⟨_, ho, rfl⟩ PySem.F.entry_dict_get ?_ (PySem.F.args_dict_get_2 _ _)
  show wpAny _ _ (Builtin.«dict.get» ⟨[.ref D, .int k t], []⟩) _ _ _
  have hm : s.heap.MapOf (intKind prog w) D (fun x => findBy Value.isInt es.toArray x) := ents_mapOf ho he
  show wpAny _ _ (dictGet D (.int k t) >>= _) _ _ s
  refine wpAny_bind (wpAny_dictGet_of (knd := intKind prog w) (k := k) (by show Value.isInt k (.int k t) = true; rw [isInt_iff]; exact decide_eq_true rfl) hm ?_)
  rcases ents_find he k with ⟨e1, e2⟩ | ⟨v, u, e1, e2⟩
  · rw [e2]
    show wpAny _ _ (Builtin.Dict.missed D (.int k t) >>= _) _ _ _
    exact wpAny_bind (wpAny_missed_other hD (wpAny_pure ⟨.none, rfl, h2 e1⟩))
  · rw [e2]
    exact wpAny_pure ⟨_, rfl, h1 v u e1⟩
theorem getm_tab {es : List DictEntry} {pl : Sem Bool} {Q : Value × List Value → Shared → Prop} (ho : s.heap.get? D = some (dO es n)) (h : Q (.builtin "dict.get", [.ref D]) s) :
    wpAny (model prog w) A (getMethod (.ref D) (Str.ofString "get") pl) Q E s :=
  getMethod_builtin ⟨_, ho, rfl⟩ PySem.F.plainAttrs_dict PySem.F.slot_dict_get PySem.F.type_dict_get (fun a e => by cases e; exact ⟨_, ho, rfl⟩) h
end
/-- the signs of table B.1, as the set has them -/
noncomputable def b1s : List Int := [65024, 65025, 65026, 65027, 65028, 65029, 6150, 65030, 65031, 65032, 65033, 6155, 6156, 6157, 8203, 8204, 8205, 65034, 65035, 65036, 65037, 65038, 65039, 173, 847, 8288, 65279]
noncomputable def inB1 (c : Int) : Bool := b1s.contains c
noncomputable def keyI (v : Value) : Option Int := match v with | .int k _ => some k | _ => none
noncomputable def elOk (e : Int × Value) : Bool := match e.2 with | .int k t => e.1 == hashInt k && (Value.int k t).scannable | _ => false
theorem elOk_of {prog : Program} {w : World} {l : List (Int × Value)} (h : l.all elOk = true) : ElemsOf (intKind prog w) l := by
  intro e he
  have h := List.all_eq_true.mp h e he
  obtain ⟨a, v⟩ := e
  unfold elOk at h
  split at h
  · rename_i k t q
    dsimp only at q
    subst q
    obtain ⟨h1, h2⟩ := Bool.and_eq_true_iff.mp h
    exact ⟨⟨k, by show Value.isInt k (.int k t) = true; rw [isInt_iff]; exact decide_eq_true rfl, beq_iff_eq.mp h1⟩, h2⟩
  · cases h
theorem elS_of {l : List (Int × Value)} {ks : List Int} (h : l.map (fun e => keyI e.2) = ks.map some) (c : Int) : ks.contains c = true ↔ ∃ e ∈ l, Value.isInt c e.2 = true := by
  rw [List.contains_iff_mem]
  constructor
  · intro hc
    have : some c ∈ l.map (fun e => keyI e.2) := by rw [h]; exact List.mem_map_of_mem hc
    obtain ⟨e, he, q⟩ := List.mem_map.mp this
    refine ⟨e, he, ?_⟩
    unfold keyI at q
    split at q
    · rename_i k t r
      rw [r, isInt_iff]; exact decide_eq_true (Option.some.inj q).symm
    · cases q
  · rintro ⟨e, he, q⟩
    obtain ⟨t, r⟩ := Value.isInt_shape q
    have : keyI e.2 ∈ ks.map some := by rw [← h]; exact List.mem_map_of_mem (f := fun e : Int × Value => keyI e.2) he
    rw [r] at this
    obtain ⟨k, hk, e2⟩ := List.mem_map.mp this
    cases Option.some.inj e2
    exact hk
theorem set_b1 {prog : Program} (w : World) {h : Heap} (ho : h.get? 236 = some (o1A_236 w.params)) : h.SetOf (intKind prog w) 236 inB1 27 := by
  refine ⟨_, _, _, _, ho, ⟨rfl, rfl, rfl⟩, rfl, elOk_of (by kernel_rfl), elS_of (ks := b1s) (by kernel_rfl), ?_, ?_, ?_⟩
  · decide +kernel
  · rfl
  · rfl
end
end
section
section
-- FK
open PySem PySem.W PyProof.Rows
abbrev prE (L : Addr) : Env := envOf (S "_law_prepared") (dS [18]) L 311 (.ref 310)
abbrev prA (L fa : Addr) (cd : Value) (L' : Addr) : Around := (callerA.deeper (lawE L fa cd)).deeper (prE L')
theorem in_b1 {prog : Program} {w : World} {A : Around} {E : Value → Shared → Prop} {s : Shared} {k : Int} {t : Tok} {Q : Value → Shared → Prop} (ho : s.heap.get? 236 = some (o1A_236 w.params)) (h : Q (.bool (inB1 k)) { s with toks := s.toks + 1 }) :
    wpAny (model prog w) A (compareOp .In (.int k t) (.ref 236)) Q E s :=
  wpAny_inSet_of (knd := intKind prog w) (by show Value.isInt k (.int k t) = true; rw [isInt_iff]; exact decide_eq_true rfl) rfl (set_b1 w ho) h
theorem k236 (w : World) : (K1r w.params).lookup 236 = some (o1A_236 w.params) := by kernel_rfl
theorem b3_at {A₀ : Around} {base g h : Heap} {outer : List Env} {L : Addr} {m : Str → Option Value} (B : Below A₀ base outer g) (F : Fr g L h m) (b : ∃ es, base.get? 247 = some (dO es 650) ∧ Ents b3kv es) :
    ∃ es, h.get? 247 = some (dO es 650) ∧ Ents b3kv es :=
  let ⟨es, a, e⟩ := b; ⟨es, F.keep _ _ (B.stays _ _ a), e⟩
theorem b3_got {prog : Program} {w : World} {A : Around} {E : Value → Shared → Prop} {s : Shared} {pl : Sem Bool} {Q : Value × List Value → Shared → Prop} (b : ∃ es, s.heap.get? 247 = some (dO es 650) ∧ Ents b3kv es) (h : Q (.builtin "dict.get", [.ref 247]) s) :
    wpAny (model prog w) A (getMethod (.ref 247) (Str.ofString "get") pl) Q E s :=
  let ⟨_, a, _⟩ := b; getm_tab a h
theorem one_fits (c : Nat) : ({ cps := #[c] } : Str).length ≤ 5592405 := Nat.le_of_ble_eq_true rfl
/-- what map_table_b3 makes of a sign -/
noncomputable def b3of (c : Nat) : Str := match look b3kv c with
  | some v => v
  | none => Txt.lower ⟨#[c]⟩
theorem b3of_some {c : Nat} {v : Str} (e : look b3kv c = some v) : b3of c = v := by unfold b3of; rw [e]
theorem b3_end {c : Nat} {v : Str} {P : Str → Prop} (e : look b3kv c = some v) (h : P (b3of c)) : P v := b3of_some e ▸ h
theorem b3of_none {c : Nat} (e : look b3kv c = none) : b3of c = Txt.lower ⟨#[c]⟩ := by unfold b3of; rw [e]
local macro_rules | `(tactic| walk_at "call builtin:str.lower") => `(tactic| (k_here; (try dsimp only); (with_reducible show wpAny _ _ (call (Value.builtin "str.lower") [Value.str (Str.mk #[_]) _]) _ _ _); refine PyProof.Rows.SCL.lower (one_fits _) ?_; intro _))
local macro_rules | `(tactic| walk_at "compareOp In") => `(tactic| (k_here; (with_reducible show wpAny _ _ (compareOp CmpOp.In (Value.int _ _) (Value.ref 236)) _ _ _); refine in_b1 (Frag.In.keeps (by k_asm) (Fr.keep (by k_asm)) _ _ (k236 _)) ?_))
local macro_rules | `(tactic| walk_at "getMethod ref") => `(tactic| (k_here; (with_reducible show wpAny _ _ (getMethod (Value.ref 247) _ _) _ _ _); k_dflt (refine' b3_got (b3_at ?B ?F ?b) ?_; (case F | B | b => k_asm))))
local macro_rules | `(tactic| walk_at "call builtin:dict.get") => `(tactic| (k_here; walk_at "%d"; (with_reducible show wpAny _ _ (call (Value.builtin "dict.get") [Value.ref 247, Value.int _ _]) _ _ _); k_dflt (refine' get_tab (n := 650) rfl (b3_at ?B ?F ?b) ?h1 ?h2; (case F | B | b => k_asm)); (case' h1 => intro _ _ lk'); (case' h2 => intro _)))
section
variable {w : World} {h₀ base : Heap} {L L' fa : Addr} {cd : Value} {m mg mb : Str → Option Value} {s : Shared} {rest : List (Addr × Obj)} {mean : ExcName → Option Value} {p : Program} {loose : List Str}
local macro_rules | `(tactic| k_enter) => `(tactic| (refine' code_defG ?k1 ?k2 ?k3 ?k4 ?k5 ?kA ?kF ?kK ?k6 ?k7 ?k8 ?k9 ?kB ?_ ?c2 ?c3 ?c4 ?c5; (case kA | kF | kK => exact rfl); (case k1 | k2 | k3 | k4 | k5 => k_asm); (case k6 | k7 => k_is); (case k8 => k_room); (case k9 => exact BindsTo.of_eq rfl); (case c5 => decide); (case kB => exact locs rfl); (case c2 | c3 | c4 => exact rfl); k_whole; intro _ _ _ _ _ _ B' _ _ _; (try dsimp only); (try k_lift B'); (try k_fold)))
set_option maxHeartbeats 8000000 in
set_option pp.deepTerms false in
theorem b1_keep {Q : Value → Shared → Prop} {E : Value → Shared → Prop} {c : Nat} {t : Tok} (dummy : PySem.Challenge.rw_sh0067_01 = PySem.Challenge.rw_sh0067_01 ∧ K1r = K1r)
  (B : Below (callerA.deeper (lawE L fa cd)) base [lawE L fa cd] h₀) (F : Fr h₀ L' s.heap m) (X : (K1r w.params).In h₀) (T : Top p loose mean mg mb h₀) (C : CodeHd base 298 294) (N : News h₀ L' s.heap [])
  (h : ∀ h' tk, (∀ b o, s.heap.get? b = some o → h'.get? b = some o) → Q (.bool (inB1 c)) { heap := h', gens := s.gens, drawn := s.drawn, toks := tk, os := s.os }) :
  wpAny (model pw w) (prA L fa cd L') (call (.ref 246) [.str ⟨#[c]⟩ t] []) Q E s := by
  revert dummy
  k_fill
  intro _
  w_on
  k_steps
  exact h _ _ (elt_after (InElt.start _) (by assumption) N (by assumption) (by assumption) (List.forall_mem_nil _))
set_option maxHeartbeats 8000000 in
set_option pp.deepTerms false in
theorem b3_keep {Q : Value → Shared → Prop} {E : Value → Shared → Prop} {c : Nat} {t : Tok} (dummy : PySem.Challenge.rw_sh0067_01 = PySem.Challenge.rw_sh0067_01 ∧ K1r = K1r)
  (B : Below (callerA.deeper (lawE L fa cd)) base [lawE L fa cd] h₀) (F : Fr h₀ L' s.heap m) (X : (K1r w.params).In h₀) (T : Top p loose mean mg mb h₀) (C : CodeHd base 298 294) (N : News h₀ L' s.heap [])
  (hb : ∃ es, base.get? 247 = some (dO es 650) ∧ Ents b3kv es)
  (h : ∀ h' tk u, (∀ b o, s.heap.get? b = some o → h'.get? b = some o) → Q (.str (b3of c) u) { heap := h', gens := s.gens, drawn := s.drawn, toks := tk, os := s.os }) :
  wpAny (model pw w) (prA L fa cd L') (call (.ref 292) [.str ⟨#[c]⟩ t] []) Q E s := by
  revert dummy
  k_fill
  intro _
  w_on
  k_steps
  · rw [← b3of_none (c := c) (by assumption)]
    exact h _ _ _ (elt_after (InElt.start _) (by assumption) N (by assumption) (by assumption) (List.forall_mem_nil _))
  · refine b3_end (c := c) (P := fun z => Q (Value.str z _) _) ?_ ?_
    · assumption
    · exact h _ _ _ (elt_after (InElt.start _) (by assumption) N (by assumption) (by assumption) (List.forall_mem_nil _))
end
end
end
section
section
-- PR
open PySem PySem.W PyProof.Rows
noncomputable def prepC : PySem.Expr := match ((dB [18])[0]? : Option Stmt) with
  | some (.Return (some (.Call _ [e] _ _)) _) => e
  | _ => default
/-- the signs that are kept -/
noncomputable def keptV (v : Value) : Bool := match v with
  | .str z _ => !inB1 (((z.cps[0]?).getD 0 : Nat) : Int)
  | _ => false
noncomputable def foldV (v y : Value) : Prop := ∃ c u u', v = .str ⟨#[c]⟩ u ∧ y = .str (b3of c) u'
section
variable {w : World} {h₀ base : Heap} {L L' fa : Addr} {cd : Value} {m mg mb : Str → Option Value} {s : Shared} {rest : List (Addr × Obj)} {mean : ExcName → Option Value} {p : Program} {loose : List Str}
abbrev prC (C L' : Addr) (scope : Scope) : Env := compEnvC scope [] C (prE L')
noncomputable def prepS : Scope := match prepC with
  | .ListComp _ _ s _ => s
  | _ => default
noncomputable def prepIf : PySem.Expr := match prepC with
  | .ListComp _ (⟨_, _, [e], _⟩ :: _) _ _ => e
  | _ => default
noncomputable def prepElt : PySem.Expr := match prepC with
  | .ListComp e _ _ _ => e
  | _ => default
local macro_rules | `(tactic| walk_at "eval Name") => `(tactic| (k_here; k_dflt (first
  | (refine' ldVarK ?_ ?_ ?_; rotate_right 3; assumption; assumption)
  | (refine' nameG_K ?_ ?_ ?_ ?_ ?_ ?_ ?_ ?_ ?_; rotate_right 9; k_asm; k_asm; k_asm; k_is; rotate_left; exact rfl; exact rfl; exact rfl; decide))))
local macro_rules | `(tactic| walk_at "call ref") => `(tactic| (k_here; walk_at "%d"; (with_reducible show wpAny _ _ (call (Value.ref 246) _ _) _ _ _); (refine' b1_keep ⟨rfl, rfl⟩ ?B ?F ?X ?T ?C News.nil ?_; (case B | F | X | T | C => k_asm)); intro _ _ _))
local macro_rules | `(tactic| walk_at "call ref") => `(tactic| (k_here; walk_at "%d"; (with_reducible show wpAny _ _ (call (Value.ref 292) _ _) _ _ _); (refine' b3_keep ⟨rfl, rfl⟩ ?B ?F ?X ?T ?C News.nil ?hb ?_; (case B | F | X | T | C | hb => k_asm)); intro _ _ _ _))
set_option maxHeartbeats 2000000 in
theorem prep_if {Q : Bool → Shared → Prop} {E : Value → Shared → Prop} {c : Nat} {ut : Tok} {mc : Str → Option Value} {Cc : Addr} (dummy : PySem.Challenge.rw_sh0067_01 = PySem.Challenge.rw_sh0067_01 ∧ K1r = K1r)
  (B : Below (callerA.deeper (lawE L fa cd)) base [lawE L fa cd] h₀) (F : Fr h₀ L' s.heap m) (X : (K1r w.params).In h₀) (T : Top p loose mean mg mb h₀) (C : CodeHd base 298 294)
  (hn : s.heap.Ns Cc mc) (hm : mc (Str.ofString "sign") = some (.str ⟨#[c]⟩ ut))
  (h : ∀ h' tk, (∀ b o, s.heap.get? b = some o → h'.get? b = some o) → Q (!inB1 c) { heap := h', gens := s.gens, drawn := s.drawn, toks := tk, os := s.os }) :
  wpAny (model pw w) (prA L fa cd L') (PySem.isTrue prepIf (prC Cc L' prepS) (eval prepIf (prC Cc L' prepS))) Q E s := by
  revert dummy
  k_fill
  intro _
  w_on
  refine isTrue_not ?_
  k_steps
  exact h _ _ (by assumption)
set_option maxHeartbeats 2000000 in
theorem prep_elt {Q : Value → Shared → Prop} {E : Value → Shared → Prop} {c : Nat} {ut : Tok} {mc : Str → Option Value} {Cc : Addr} (dummy : PySem.Challenge.rw_sh0067_01 = PySem.Challenge.rw_sh0067_01 ∧ K1r = K1r)
  (B : Below (callerA.deeper (lawE L fa cd)) base [lawE L fa cd] h₀) (F : Fr h₀ L' s.heap m) (X : (K1r w.params).In h₀) (T : Top p loose mean mg mb h₀) (C : CodeHd base 298 294) (hb : ∃ es, base.get? 247 = some (dO es 650) ∧ Ents b3kv es)
  (hn : s.heap.Ns Cc mc) (hm : mc (Str.ofString "sign") = some (.str ⟨#[c]⟩ ut))
  (h : ∀ h' tk u, (∀ b o, s.heap.get? b = some o → h'.get? b = some o) → Q (.str (b3of c) u) { heap := h', gens := s.gens, drawn := s.drawn, toks := tk, os := s.os }) :
  wpAny (model pw w) (prA L fa cd L') (eval prepElt (prC Cc L' prepS)) Q E s := by
  revert dummy
  k_fill
  intro _
  w_on
  (with_unfolding_all show wpAny (model pw w) (prA L fa cd L') (eval (PySem.Expr.Call (PySem.Expr.Name _ _) [PySem.Expr.Name _ _] _ _) _) _ _ _)
  k_steps
  exact h _ _ _ (by assumption)
theorem prep_comp {Q : Value → Shared → Prop} {E : Value → Shared → Prop} {x : Str} {t : Tok}
  (B : Below (callerA.deeper (lawE L fa cd)) base [lawE L fa cd] h₀) (F : Fr h₀ L' s.heap m) (X : (K1r w.params).In h₀) (T : Top p loose mean mg mb h₀) (C : CodeHd base 298 294) (N : News h₀ L' s.heap rest)
  (hb : ∃ es, base.get? 247 = some (dO es 650) ∧ Ents b3kv es) (hsz : x.cps.size ≤ sizeLine) (mtext : m (Str.ofString "text") = some (.str x t))
  (h : ∀ D ys h' tk (vs : List Value), Fr h₀ L' h' m → News h₀ L' h' rest → h'.IsList D ys → vs.length = x.cps.size → (∀ j v, vs[j]? = some v → SignAt x j v) → Paired foldV (vs.filter keptV) ys.toList → Q (.ref D) { heap := h', gens := s.gens, drawn := s.drawn, toks := tk, os := s.os }) :
  wpAny (model pw w) (prA L fa cd L') (eval prepC (prE L')) Q E s := by
  refine wpAny_ListComp_free (env := prE L') (x := Str.ofString "sign") keptV foldV (cl := []) (by rfl) (by decide +kernel) (by rfl) (by decide +kernel) (by rfl) (ld F mtext (wpAny_pyIter_str fun o St W st => ⟨_, _, _, _, _, St, rfl, W (prA L fa cd L') rfl, hsz, st, ?fp, ?quiet, ?fin⟩))
  case fp =>
    intro b hb'
    rw [List.mem_singleton.mp hb']
    show _ < (s.heap.push o).objs.size
    rw [Heap.size_push]; exact Nat.lt_succ_self _
  case quiet =>
    have up : ∀ {h' : Heap}, (∀ b o', b ∉ [s.heap.objs.size] → (s.heap.push o).get? b = some o' → h'.get? b = some o') → ∀ b o', s.heap.get? b = some o' → h'.get? b = some o' := fun hk b o' e =>
      hk b o' (fun q => Nat.lt_irrefl _ ((List.mem_singleton.mp q) ▸ Heap.lt_size e)) (Heap.get?_push_of_some _ e)
    refine ⟨?_, ?_⟩
    · rintro Cc i v s₃ m₃ E' hC ⟨c, u, hc, rfl⟩ hn hm hk htk
      have F3 := F.keeps (up hk)
      refine wpAny_tests_one (prep_if ⟨rfl, rfl⟩ B F3 X T C hn hm fun h' tk kp => ⟨rfl, h', tk, rfl, kp⟩)
    · rintro Cc i v s₃ m₃ E' hC ⟨c, u, hc, rfl⟩ hp hn hm hk htk
      have F3 := F.keeps (up hk)
      refine prep_elt ⟨rfl, rfl⟩ B F3 X T C hb hn hm fun h' tk u' kp => ⟨⟨c, u, u', rfl, rfl⟩, h', tk, rfl, kp⟩
  case fin =>
    intro D h' tk ys vs hD hl hpl hlen hP hF hk
    have up : ∀ b o', s.heap.get? b = some o' → h'.get? b = some o' := fun b o' e =>
      hk b o' (fun q => Nat.lt_irrefl _ ((List.mem_singleton.mp q) ▸ Heap.lt_size e)) (Heap.get?_push_of_some _ e)
    exact h D ys h' tk vs (F.keeps up) (fun p hp => ⟨up _ _ (N p hp).1, (N p hp).2⟩) hl hlen hP hF
end
end
end
section
section
-- PS
open PySem PySem.W PyProof.Rows
/-- what _law_prepared keeps of a text, folded -/
noncomputable def prepared (l : List Nat) : List Str := (l.filter fun c : Nat => !inB1 (c : Int)).map b3of
theorem prep_strs : ∀ (l : List Nat) (vs : List Value) (ys : List Value), vs.length = l.length → (∀ (j : Nat) (v : Value), vs[j]? = some v → ∃ (c : Nat) (u : Tok), l[j]? = some c ∧ v = Value.str ⟨#[c]⟩ u) → Paired foldV (vs.filter keptV) ys → StrsAre ys (prepared l)
  | [], [], ys, _, _, h => by cases h; exact .nil
  | [], _ :: _, _, h, _, _ => by cases h
  | _ :: _, [], _, h, _, _ => by cases h
  | c :: l, v :: vs, ys, hn, hs, h => by
    obtain ⟨c', u, e, q⟩ := hs 0 v rfl
    obtain rfl : c = c' := by simpa using e
    subst q
    have hs' : ∀ (j : Nat) (v : Value), vs[j]? = some v → ∃ (c : Nat) (u : Tok), l[j]? = some c ∧ v = Value.str ⟨#[c]⟩ u := fun j v hv => by simpa using hs (j + 1) v (by simpa using hv)
    have hn' : vs.length = l.length := by simpa using hn
    have hk : keptV (Value.str ⟨#[c]⟩ u) = !inB1 (c : Int) := rfl
    unfold prepared
    rw [List.filter_cons] at h ⊢
    rw [hk] at h
    cases hc : inB1 (c : Int) with
    | true =>
      rw [hc] at h
      exact prep_strs l vs ys hn' hs' h
    | false =>
      rw [hc] at h
      cases h with
      | cons h1 h2 =>
        obtain ⟨c2, u2, u3, e1, rfl⟩ := h1
        cases e1
        exact .cons _ _ (prep_strs l vs _ hn' hs' h2)
theorem prep_join {x : Str} {vs ys : List Value} (hn : vs.length = x.cps.size) (hs : ∀ j v, vs[j]? = some v → SignAt x j v) (hp : Paired foldV (vs.filter keptV) ys) : StrsAre ys (prepared x.cps.toList) :=
  prep_strs _ _ _ (by simpa using hn) (fun j v hv => by obtain ⟨c, u, e, q⟩ := hs j v hv; exact ⟨c, u, by simpa using e, q⟩) hp
theorem empty_fits : (Str.ofString "").length ≤ 16 := by decide
local macro_rules | `(tactic| walk_at "call builtin:str.join") => `(tactic| (k_here; walk_at "%d"; (refine' join_listW (D := _) ?hl ?hi empty_fits ?hw ?_; (case hl => k_asm); (case hi => exact prep_join (by assumption) (by assumption) (by assumption)); (case hw => k_asm)); intro _ _))
local macro_rules | `(tactic| walk_at "eval ListComp") => `(tactic| (k_here; k_dflt (refine' prep_comp ?B ?F ?X ?T ?C ?N ?hb ?hz ?mt ?_; (case B | F | X | T | C | N | hb | hz => k_asm); (case mt => exact rfl)); intro _ _ _ _ _ _ _ _ _ _ _))
section
variable {w : World} {h₀ base : Heap} {L L' fa : Addr} {cd : Value} {m mg mb : Str → Option Value} {s : Shared} {rest : List (Addr × Obj)} {mean : ExcName → Option Value} {p : Program} {loose : List Str}
set_option maxHeartbeats 2000000 in
set_option pp.deepTerms false in
theorem prep_spec {Q : Value → Shared → Prop} {E : Value → Shared → Prop} {x : Str} {t : Tok} (dummy : PySem.Challenge.rw_sh0067_01 = PySem.Challenge.rw_sh0067_01 ∧ K1r = K1r)
  (B : Below callerA base [] h₀) (F : Fr h₀ L s.heap m) (X : (K1r w.params).In h₀) (T : Top p loose mean mg mb h₀) (C : CodeHd base 298 294) (N : News h₀ L s.heap rest)
  (hb : ∃ es, base.get? 247 = some (dO es 650) ∧ Ents b3kv es) (hsz : x.cps.size ≤ sizeLine) (hw : ((prepared x.cps.toList).map (·.length)).sum + (prepared x.cps.toList).length ≤ 1048576)
  (h : ∀ h' tk u, Fr h₀ L h' m → News h₀ L h' rest → Q (.str (Txt.join (Str.ofString "") (prepared x.cps.toList)) u) { heap := h', gens := s.gens, drawn := s.drawn, toks := tk, os := s.os }) :
  wpAny (model pw w) (callerA.deeper (lawE L fa cd)) (call (.ref 311) [.str x t] []) Q E s := by
  revert dummy
  k_fill
  intro _
  w_on
  k_steps
  exact h _ _ _ (by assumption) (by assumption)
end
end
end
section
section
-- Re
open PySem PySem.W PyProof.Rows PySem.Calls
theorem owner_re : Manifest.owners.lookup (String.ofList ['n', 'r', 'e', 't', 't', 'a', 'P', '.', 'e', 'r'].reverse) = some Manifest.sig_re_Pattern := by kernel_rfl
theorem slot_re_search : Slot "re.Pattern" "search" "re.Pattern.search" :=
  .of (owner := "re.Pattern") (n := "search") (by rw [typeLookup_type, builtinLookup_eq_fast]; kernel_rfl) (by decide +kernel) (by decide +kernel) (by decide +kernel)
    (by first | exact .inl (by decide +kernel) | exact .inr (by decide +kernel)) (by rw [isSubtype_type]; kernel_rfl)
theorem type_re_search : typeOf (.builtin "re.Pattern.search") = pure (.type "method_descriptor") := by show builtinType _ = _; rw [builtinType_eq_fast]; kernel_rfl
theorem entry_re_search : entryFor table "re.Pattern.search" = some Builtin.«re.Pattern.search» := entryFor_of_tree (by kernel_rfl)
theorem args_re_search (a b : Value) : argsOk "re.Pattern.search" ⟨[a, b], []⟩ := by
  unfold argsOk; rw [signature?_of (id := "re.Pattern.search") (n := ['h', 'c', 'r', 'a', 'e', 's']) (o := ['n', 'r', 'e', 't', 't', 'a', 'P', '.', 'e', 'r']) (by kernel_rfl) owner_re]; kernel_rfl
theorem plainAttrs_re : PlainAttrs "re.Pattern" :=
  ⟨⟨"object.__getattribute__", by rw [typeLookup_type, builtinLookup_eq_fast]; kernel_rfl, by decide +kernel⟩, by rw [typeLookup_type, builtinLookup_eq_fast]; kernel_rfl⟩
/-- no sign of the text is let in by the pattern's first set -/
noncomputable def Shut (code : Array Nat) (text : Array Nat) : Prop := ∀ j, j < text.size → ∀ seen, ∃ seen', Sre.inSet code (text.getD j 0) code.size 5 true seen = .ok (false, seen')
theorem admitted_none {code : Array Nat} {m : Sre.M} (hc : m.code = code) (hs : Shut code m.text) (hl : m.lim = m.text.size) : ∀ fuel s seen, ∃ seen', Sre.M.admitted m fuel s seen = .ok (none, seen')
  | 0, s, seen => ⟨seen, rfl⟩
  | fuel + 1, s, seen => by
    unfold Sre.M.admitted
    by_cases h : s ≥ m.lim
    · exact ⟨seen, by rw [if_pos h]⟩
    · rw [if_neg h]
      obtain ⟨seen', e⟩ := hs s (by omega) seen
      rw [hc, e]
      exact admitted_none hc hs hl fuel (s + 1) seen'
theorem attempt_shut {code : Array Nat} {m : Sre.M} (hc : m.code = code) (hf : m.hasFirstSet = true) (hs : Shut code m.text) (hl : m.lim = m.text.size) (s : Nat) (b : Bool) : ∃ seen', Sre.M.attemptFrom m s b = { m with seen := seen' }.say false := by
  obtain ⟨seen', e⟩ := admitted_none hc hs hl (m.lim + 1 - s) s m.seen
  refine ⟨seen', ?_⟩
  unfold Sre.M.attemptFrom
  rw [hf, e]
  rfl
theorem attempt_shut3 {m : Sre.M} {s : Nat} {b : Bool} (hs : Shut m.code m.text) (hf : m.hasFirstSet = true) (hl : m.lim = m.text.size) (h1 : m.frames = []) (h2 : m.outcome = none) :
    (Sre.M.attemptFrom m s b).answer = some false ∧ (Sre.M.attemptFrom m s b).frames = [] ∧ (Sre.M.attemptFrom m s b).outcome = none := by
  obtain ⟨seen', e⟩ := attempt_shut rfl hf hs hl s b
  rw [e]
  exact ⟨rfl, h1, h2⟩
section
variable {prog : Program} {w : World} {A : Around} {E : Value → Shared → Prop} {s : Shared}
theorem rules_any {b : Nat → Bool} {Q : PUnit → Shared → Prop} (h : Q PUnit.unit s) : ∀ l : List Nat,
    wpAny (model prog w) A (forIn l PUnit.unit fun i _ => if b i = true then (rule (Sre.names.getD i "") >>= fun _ => pure (ForInStep.yield PUnit.unit)) else pure (ForInStep.yield PUnit.unit)) Q E s
  | [] => wpAny_pure h
  | i :: l => by
    rw [List.forIn_cons]
    refine wpAny_bind ?_
    by_cases hb : b i = true
    · rw [if_pos hb]
      exact wpAny_bind (wpAny_rule (wpAny_pure (rules_any h l)))
    · rw [if_neg hb]
      exact wpAny_pure (rules_any h l)
theorem toEnd_failed {m : Sre.M} {Q : Option Sre.M → Shared → Prop} (ha : m.answer = some false) (hf : m.frames = []) (ho : m.outcome = none) (h : Q none s) : wpAny (model prog w) A (Builtin.Re.reRunToEnd m) Q E s := by
  unfold Builtin.Re.reRunToEnd
  have e : Builtin.Re.reDrive (2 ^ 64) m = pure { m with outcome := some .failed } := by
    show Builtin.Re.reDrive (18446744073709551615 + 1) m = _
    unfold Builtin.Re.reDrive
    have e1 : m.runFor Builtin.Re.reTurnSteps = { m with outcome := some .failed } := by
      show Sre.M.runFor 4 m = _
      unfold Sre.M.runFor
      rw [ho]
      have e2 : m.step = { m with outcome := some .failed } := by
        unfold Sre.M.step
        rw [ho, ha, hf]
        rfl
      rw [e2]
      rfl
    rw [e1]
    rfl
  refine wpAny_bind (wpAny_of_eq e ?_)
  refine wpAny_bind (rules_any ?_ _)
  exact wpAny_pure h
theorem search_shut {P cT : Addr} {ps : Str} {pt ft : Tok} {f : Int} {items : Array Value} {n : Nat} {oc : Obj} {x : Str} {t : Tok} {code : Array Nat} {Q : Value → Shared → Prop}
    (hP : s.heap.get? P = some ⟨.type "re.Pattern", none, .fields #[.str ps pt, .int f ft, .int 0 0, .none, .none, .ref cT, .int 0 0], #[]⟩) (hC : s.heap.get? cT = some oc) (hd : oc.data = .seq items n)
    (hcode : (items.map Builtin.Re.reRawOf).map (·.toNat) = code) (hinfo : Sre.M.hasFirstSet { code := code, text := x.cps, lim := x.cps.size, start := 0, pc := 0, pos := 0, handed := 0, marks := #[] } = true)
    (hsz : x.cps.size ≤ sizeLine) (hs : Shut code x.cps) (h : Q .none s) : wpAny (model prog w) A (call (.builtin "re.Pattern.search") [.ref P, .str x t]) Q E s := by
  have hT : s.TypeIs (.ref P) "re.Pattern" := ⟨_, hP, rfl⟩
  refine wpAny_call_entry slot_re_search hT entry_re_search ?_ (args_re_search _ _)
  unfold Builtin.«re.Pattern.search»
  refine wpAny_bind (m := Builtin.Re.reTarget _ _ _) ?_
  unfold Builtin.Re.reTarget
  dsimp only
  refine wpAny_bind (m := Builtin.Re.reNamed _ _ _ _ _ _) (wpAny_of_eq (a := [some (Value.str x t), none, none]) (by rfl) ?_)
  dsimp only
  refine wpAny_bind (wpAny_pure ?_)
  refine wpAny_bind (wpAny_pure ?_)
  refine wpAny_bind (wpAny_fieldsOf hP rfl ?_)
  refine wpAny_bind (m := Builtin.Re.reTextOf _) (wpAny_of_eq (a := (x.cps, 0)) (by rfl) ?_)
  dsimp only
  refine wpAny_ite_split (fun hab => absurd (show false = true from hab) (by decide)) (fun _ => ?_)
  refine wpAny_ite_split (fun hab => absurd (show false = true from hab) (by decide)) (fun _ => ?_)
  refine wpAny_bind (m := Builtin.Re.reNoCollectionInside _ _) (wpAny_of_eq (a := ()) (by rfl) ?_)
  refine wpAny_bind (m := Builtin.Re.reRawItems _) ?_
  refine wpAny_bind (m := seqItems? (.ref cT)) (wpAny_seqItems hC hd ?_)
  refine wpAny_pure ?_
  refine wpAny_pure ?_
  dsimp only
  have hl : min ((2 ^ 63 - 1 : Int)).toNat x.cps.size = x.cps.size := by
    have : sizeLine ≤ ((2 ^ 63 - 1 : Int)).toNat := by decide
    omega
  have hp : min (Int.toNat 0) x.cps.size = 0 := by simp
  rw [hl, hp]
  have e0 : Array.map (fun x : Int => x.toNat) (Array.map Builtin.Re.reRawOf ((some items).getD #[])) = code := hcode
  rw [e0]
  have key : ∀ g, ∃ m, Sre.forSearch code x.cps g 0 x.cps.size false = m ∧ m.answer = some false ∧ m.frames = [] ∧ m.outcome = none := by
    intro g
    refine ⟨_, rfl, ?_⟩
    unfold Sre.forSearch
    dsimp only
    split
    · exact ⟨rfl, rfl, rfl⟩
    · exact attempt_shut3 hs hinfo rfl rfl rfl
  obtain ⟨m, e1, e2, e3, e4⟩ := key (Builtin.Re.reRawNat (Value.int 0 0))
  unfold Builtin.Re.reAnswer
  refine wpAny_bind ?_
  show wpAny _ _ (Builtin.Re.reRunToEnd (Sre.forSearch code x.cps (Builtin.Re.reRawNat (Value.int 0 0)) 0 x.cps.size false)) _ _ _
  rw [e1]
  exact toEnd_failed e2 e3 e4 (wpAny_pure ⟨_, rfl, h⟩)
end
/-- signs that headers may hold -/
noncomputable def Asc (x : Str) : Prop := ∀ c ∈ x.cps.toList, 32 ≤ c ∧ c < 127
theorem Asc.at {x : Str} (h : Asc x) {j : Nat} (hj : j < x.cps.size) : 32 ≤ x.cps.getD j 0 ∧ x.cps.getD j 0 < 127 := by
  refine h _ ?_
  rw [Array.getD_eq_getD_getElem?, Array.getElem?_eq_getElem hj]
  exact Array.mem_toList_iff.mpr (Array.getElem_mem hj)
abbrev codeN : Array Nat := #[14, 10, 4, 1, 1, 22, 0, 31, 16, 127, 0, 13, 7, 22, 0, 31, 16, 127, 0, 1]
abbrev codeV : Array Nat := #[14, 14, 4, 1, 1, 9, 4294966783, 0, 0, 2147483648, 0, 0, 0, 0, 0, 13, 11, 9, 4294966783, 0, 0, 2147483648, 0, 0, 0, 0, 0, 1]
theorem shutN {x : Str} (h : Asc x) : Shut codeN x.cps := by
  intro j hj seen
  obtain ⟨h1, h2⟩ := h.at hj
  generalize x.cps.getD j 0 = c at h1 h2
  refine ⟨?sn, ?pf⟩
  case pf =>
   show (if (decide (0 ≤ c) && decide (c ≤ 31)) = true then _ else (if (c == 127) = true then _ else Except.ok (!true, _))) = _
   rw [if_neg (by simp; omega), if_neg (by simp; omega)]
   rfl
theorem bitsV : ∀ c : Fin 127, 32 ≤ c.1 → (codeV.getD (5 + (1 + c.1 / 32)) 0).testBit (c.1 % 32) = false := by decide +kernel
theorem shutV {x : Str} (h : Asc x) : Shut codeV x.cps := by
  intro j hj seen
  obtain ⟨h1, h2⟩ := h.at hj
  generalize x.cps.getD j 0 = c at h1 h2
  refine ⟨?sn, ?pf⟩
  case pf =>
   show (if (decide (c < 256) && (codeV.getD (5 + (1 + c / 32)) 0).testBit (c % 32)) = true then _ else Except.ok (!true, _)) = _
   rw [bitsV ⟨c, h2⟩ h1, Bool.and_false, if_neg Bool.false_ne_true]
   rfl
end
end
section
section
-- CV
open PySem PySem.W PyProof.Rows
local macro_rules | `(tactic| walk_at "pad0") => `(tactic| fail)
theorem k47 (P : Params) : (K1r P).lookup 47 = some (o1K_47 P) := by kernel_rfl
theorem k48 (P : Params) : (K1r P).lookup 48 = some (o1K_48 P) := by kernel_rfl
theorem k52 (P : Params) : (K1r P).lookup 52 = some (o1K_52 P) := by kernel_rfl
theorem k53 (P : Params) : (K1r P).lookup 53 = some (o1K_53 P) := by kernel_rfl
section
variable {prog : Program} {w : World} {A : Around} {E : Value → Shared → Prop} {s : Shared} {h₀ : Heap} {L : Addr} {m : Str → Option Value}
theorem re_got {P : Addr} {o : Obj} {pl : Sem Bool} {Q : Value × List Value → Shared → Prop} (ho : s.heap.get? P = some o) (hc : o.cls = .type "re.Pattern") (hd : o.dict = none) (h : Q (.builtin "re.Pattern.search", [.ref P]) s) :
    wpAny (model prog w) A (getMethod (.ref P) (Str.ofString "search") pl) Q E s :=
  getMethod_builtin ⟨_, ho, hc⟩ plainAttrs_re slot_re_search type_re_search (fun a e => by cases e; exact ⟨_, ho, hd⟩) h
theorem searchN_K {x : Str} {t : Tok} {Q : Value → Shared → Prop} (F : Fr h₀ L s.heap m) (X : (K1r w.params).In h₀) (ha : Asc x) (hz : x.cps.size ≤ sizeLine) (h : Q .none s) :
    wpAny (model prog w) A (call (.builtin "re.Pattern.search") [.ref 48, .str x t]) Q E s :=
  search_shut ((X.keeps F.keep) _ _ (k48 _)) ((X.keeps F.keep) _ _ (k47 _)) rfl (code := codeN) (by kernel_rfl) (by rfl) hz (shutN ha) h
theorem searchV_K {x : Str} {t : Tok} {Q : Value → Shared → Prop} (F : Fr h₀ L s.heap m) (X : (K1r w.params).In h₀) (ha : Asc x) (hz : x.cps.size ≤ sizeLine) (h : Q .none s) :
    wpAny (model prog w) A (call (.builtin "re.Pattern.search") [.ref 53, .str x t]) Q E s :=
  search_shut ((X.keeps F.keep) _ _ (k53 _)) ((X.keeps F.keep) _ _ (k52 _)) rfl (code := codeV) (by kernel_rfl) (by rfl) hz (shutV ha) h
end
local macro_rules | `(tactic| k_enter) => `(tactic| (refine' code_defG ?k1 ?k2 ?k3 ?k4 ?k5 ?kA ?kF ?kK ?k6 ?k7 ?k8 ?k9 ?kB ?_ ?c2 ?c3 ?c4 ?c5; (case kA => exact rfl); (case kF | kK => first | exact rfl | assumption); (case k1 | k2 | k3 | k4 | k5 => k_asm); (case k6 | k7 => k_is); (case k8 => k_room); (case k9 => exact BindsTo.of_eq rfl); (case c5 => decide); (case kB => exact locs rfl); (case c2 | c3 | c4 => exact rfl); k_whole; intro _ _ _ _ _ _ B' _ _ _; (try dsimp only); (try k_lift B'); (try k_fold)))
local macro_rules | `(tactic| walk_at "getMethod ref") => `(tactic| (k_here; (first | (with_reducible show wpAny _ _ (getMethod (Value.ref 48) _ _) _ _ _); k_dflt (refine' re_got (((Frag.In.keeps ?X (Fr.keep ?F)) _ _ (k48 _))) rfl rfl ?_; (case X | F => k_asm)) | (with_reducible show wpAny _ _ (getMethod (Value.ref 53) _ _) _ _ _); k_dflt (refine' re_got (((Frag.In.keeps ?X (Fr.keep ?F)) _ _ (k53 _))) rfl rfl ?_; (case X | F => k_asm)))))
local macro_rules | `(tactic| walk_at "call builtin:re.Pattern.search") => `(tactic| (k_here; walk_at "%d"; first
  | (with_reducible show wpAny _ _ (call (Value.builtin _) [Value.ref 48, _]) _ _ _); k_dflt (refine' searchN_K ?_ ?_ ?_ ?_ ?_; rotate_right 5; k_asm; k_asm; assumption; assumption)
  | (with_reducible show wpAny _ _ (call (Value.builtin _) [Value.ref 53, _]) _ _ _); k_dflt (refine' searchV_K ?_ ?_ ?_ ?_ ?_; rotate_right 5; k_asm; k_asm; assumption; assumption)))
section
variable {w : World} {h₀ base : Heap} {L L' fa a bk bd hl : Addr} {env : Env} {cd : Value} {m mg mb : Str → Option Value} {s : Shared} {rest : List (Addr × Obj)} {mean : ExcName → Option Value} {p : Program} {loose : List Str}
set_option maxHeartbeats 2000000 in
set_option pp.deepTerms false in
theorem conv_n {Q : Value → Shared → Prop} {E : Value → Shared → Prop} {x : Str} {t : Tok} (dummy : PySem.Challenge.rw_sh0067_01 = PySem.Challenge.rw_sh0067_01 ∧ K1r = K1r)
  (B : Below (callerA.deeper (lawE L fa cd)) base [lawE L fa cd] h₀) (F : Fr h₀ L' s.heap m) (X : (K1r w.params).In h₀) (T : Top p loose mean mg mb h₀) (C : CodeHd base 298 294) (N : News h₀ L' s.heap []) (hf : env.frame = some L') (hk : env.scope.kind = .function) (ha : Asc x) (hz : x.cps.size ≤ sizeLine)
  (h : ∀ h' tk, (∀ b o, s.heap.get? b = some o → h'.get? b = some o) → Q (.str x t) { heap := h', gens := s.gens, drawn := s.drawn, toks := tk, os := s.os }) :
  wpAny (model pw w) ((callerA.deeper (lawE L fa cd)).deeper env) (call (.ref 83) [.ref bk, .str x t] [(Str.ofString "name", .bool true)]) Q E s := by
  revert dummy
  k_fill
  intro _
  w_on
  k_steps
  exact h _ _ (elt_after (InElt.start _) (by assumption) N (by assumption) (by assumption) (List.forall_mem_nil _))
set_option maxHeartbeats 2000000 in
set_option pp.deepTerms false in
theorem conv_v {Q : Value → Shared → Prop} {E : Value → Shared → Prop} {x : Str} {t : Tok} (dummy : PySem.Challenge.rw_sh0067_01 = PySem.Challenge.rw_sh0067_01 ∧ K1r = K1r)
  (B : Below (callerA.deeper (lawE L fa cd)) base [lawE L fa cd] h₀) (F : Fr h₀ L' s.heap m) (X : (K1r w.params).In h₀) (T : Top p loose mean mg mb h₀) (C : CodeHd base 298 294) (N : News h₀ L' s.heap []) (hf : env.frame = some L') (hk : env.scope.kind = .function) (ha : Asc x) (hz : x.cps.size ≤ sizeLine)
  (h : ∀ h' tk, (∀ b o, s.heap.get? b = some o → h'.get? b = some o) → Q (.str x t) { heap := h', gens := s.gens, drawn := s.drawn, toks := tk, os := s.os }) :
  wpAny (model pw w) ((callerA.deeper (lawE L fa cd)).deeper env) (call (.ref 83) [.ref bk, .str x t] [(Str.ofString "name", .bool false)]) Q E s := by
  revert dummy
  k_fill
  intro _
  w_on
  k_steps
  exact h _ _ (elt_after (InElt.start _) (by assumption) N (by assumption) (by assumption) (List.forall_mem_nil _))
end
end
end
section
section
-- FP
open PySem PySem.W PyProof.Rows
abbrev addE (L : Addr) : Env := envOf (S "Headers.add_header") (dS [7, 16]) L 179 (.ref 178)
abbrev addA (L fa : Addr) (cd : Value) (L' : Addr) : Around := (callerA.deeper (lawE L fa cd)).deeper (addE L')
theorem gen_toks {α : Type} {M : Model} {A : Around} {t : Sem α} {Q : α → Shared → Prop} {E : Value → Shared → Prop} {h : Heap} {g : Array GenState} {d : Drawn} {n : Nat} {o : OsState} (hn : 1 ≤ n)
    (k : ∀ tk, 1 ≤ tk → wpAny M A t Q E ⟨h, g, d, tk, o⟩) : wpAny M A t Q E ⟨h, g, d, n, o⟩ := k n hn
theorem replaceE {prog : Program} {w : World} {A : Around} {E : Value → Shared → Prop} {s : Shared} {x y z r : Str} {t u v : Tok} {Q : Value → Shared → Prop} (e0 : Txt.replace x y z = r) (hu : u ≠ 0) (hv : v ≠ 0) (huv : u ≠ v) (hyz : (y == z) = false) (hx : x.length ≤ 1048576) (hz : z.length ≤ 14) (h1 : @LE.le Nat _ 1 s.toks)
    (hq : ∀ t' k, @LE.le Nat _ 1 k → Q (.str r t') { s with toks := k }) : wpAny (model prog w) A (call (.builtin "str.replace") [.str x t, .str y u, .str z v]) Q E s :=
  wpAny_with_toks h1 (SC.replaceW hu hv huv hyz hx hz fun t' k h => e0 ▸ hq t' k h)
theorem neT {a b : Tok} (h : @Ne Nat a b) : a ≠ b := h
theorem lenF {x : Str} (h : x.length ≤ sizeLine) : ¬ ((x.length : Int) ≥ 2 ^ 63) := by
  have : (sizeLine : Int) < 2 ^ 63 := by decide
  omega
theorem le_line {n : Nat} (h : n ≤ 65536) : n ≤ sizeLine := Nat.le_trans h (by decide)
local macro_rules | `(tactic| walk_at "call builtin:len") => `(tactic| (k_here; walk_at "%l"; refine len_str (lenF (le_line ?z)) ?_; (case z => omega)))
local macro_rules | `(tactic| walk_at "execs cons") => `(tactic| (k_here; (refine gen_toks ?hn ?_; (case hn => (try dsimp only); walk_at "%o"); intro _ _; refine wpAny_execs_cons ?_; try dsimp only)))
local macro_rules | `(tactic| walk_at "execs nil") => `(tactic| (k_here; refine wpAny_execs_nil ?_))
local macro_rules | `(tactic| walk_at "call builtin:str.replace") => `(tactic| (k_here; walk_at "%d"; (with_reducible show wpAny _ _ (call (Value.builtin _) [Value.str _ _, Value.str _ _, Value.str _ _]) _ _ _); (refine' replaceE ?_ ?_ ?_ ?_ ?_ ?_ ?_ ?_ ?_; rotate_right 9; assumption; rotate_left 6; (try dsimp only); walk_at "%o"; rotate_left; (refine neT ?_; (try dsimp only); first | exact Nat.succ_ne_zero _ | exact Nat.ne_of_lt (Nat.lt_succ_self _) | omega); (refine neT ?_; (try dsimp only); first | exact Nat.succ_ne_zero _ | exact Nat.ne_of_lt (Nat.lt_succ_self _) | omega); (refine neT ?_; (try dsimp only); first | exact Nat.succ_ne_zero _ | exact Nat.ne_of_lt (Nat.lt_succ_self _) | omega); decide; (first | omega | (simp only [*]; omega)); decide); intro _ _ _))
section
variable {w : World} {h₀ base : Heap} {L L' fa a bk bd hl : Addr} {nm : Str} {sc : Scope} {cd cdx : Value} {m mg mb : Str → Option Value} {s : Shared} {rest : List (Addr × Obj)} {mean : ExcName → Option Value} {p : Program} {loose : List Str}
set_option maxHeartbeats 2000000 in
set_option pp.deepTerms false in
theorem fmt_spec {Q : Value → Shared → Prop} {E : Value → Shared → Prop} {k x : Str} {tk t : Tok} (dummy : PySem.Challenge.rw_sh0067_01 = PySem.Challenge.rw_sh0067_01 ∧ K1r = K1r)
  (B : Below (callerA.deeper (lawE L fa cd)) base [lawE L fa cd] h₀) (F : Fr h₀ L' s.heap m) (X : (K1r w.params).In h₀) (T : Top p loose mean mg mb h₀) (N : News h₀ L' s.heap rest) {y z : Str} (e1 : Txt.replace x (Str.ofString "\\") (Str.ofString "\\\\") = y) (e2 : Txt.replace y (Str.ofString "\"") (Str.ofString "\\\"") = z) (hk : k.length ≤ 4096) (hx : x.length ≤ 4096) (hy : y.length ≤ 4096) (hz : z.length ≤ 4096) (hp : 0 < x.length) (ht : 1 ≤ s.toks)
  (h : ∀ h' tk t', Fr h₀ L' h' m → News h₀ L' h' rest → 1 ≤ tk → Q (.str (Str.empty ++ k ++ Str.ofString "=\"" ++ z ++ Str.ofString "\"") t') { heap := h', gens := s.gens, drawn := s.drawn, toks := tk, os := s.os }) :
  wpAny (model pw w) (addA L fa cd L') (call (.ref 61) [.str k tk, .str x t] []) Q E s := by
  revert dummy
  k_fill
  intro _
  w_on
  k_steps
  exact h _ _ _ (by assumption) (by assumption) (by omega)
set_option maxHeartbeats 2000000 in
theorem fmt_empty {Q : Value → Shared → Prop} {E : Value → Shared → Prop} {k : Str} {tk t : Tok} (dummy : PySem.Challenge.rw_sh0067_01 = PySem.Challenge.rw_sh0067_01 ∧ K1r = K1r)
  (B : Below (callerA.deeper (lawE L fa cd)) base [lawE L fa cd] h₀) (F : Fr h₀ L' s.heap m) (X : (K1r w.params).In h₀) (T : Top p loose mean mg mb h₀) (N : News h₀ L' s.heap rest) (ht : 1 ≤ s.toks)
  (h : ∀ h' tk, Fr h₀ L' h' m → News h₀ L' h' rest → 1 ≤ tk → Q (.str k t) { heap := h', gens := s.gens, drawn := s.drawn, toks := tk, os := s.os }) :
  wpAny (model pw w) (addA L fa cd L') (call (.ref 61) [.str k t, .str (Str.ofString "") tk] []) Q E s := by
  revert dummy
  k_fill
  intro _
  w_on
  k_steps
  exact h _ _ (by assumption) (by assumption) (by omega)
end
end
end
section
section
-- IL
open PySem PySem.W PyProof.Rows
section
variable {prog : Program} {w : World} {A : Around} {E : Value → Shared → Prop} {s : Shared} {env : Env} {h₀ : Heap} {xk xv : Str} {body : List Stmt} {Q : Flow → Shared → Prop}
/-- a turn's end -/
noncomputable def JEnd (h₀ : Heap) (L d it : Addr) (od oi : Obj) (s : Shared) (P : (Str → Option Value) → List (Addr × Obj) → Prop) (f : Flow) (s₂ : Shared) : Prop :=
  f = .next ∧ ∃ h' tk m' news', s₂ = { s with heap := h', toks := tk } ∧ @LE.le Nat _ 1 tk ∧ Fr h₀ L h' m' ∧ News h₀ L h' ((it, oi) :: news') ∧ (d, od) ∈ news' ∧ (∀ p ∈ news', p.1 ≠ it) ∧ P m' news'
theorem JEnd.intro {h₀ : Heap} {L d it : Addr} {od oi : Obj} {s : Shared} {P : (Str → Option Value) → List (Addr × Obj) → Prop} {h' : Heap} {tk : Nat} {m' : Str → Option Value} {news' : List (Addr × Obj)}
    (ht : @LE.le Nat _ 1 tk) (F : Fr h₀ L h' m') (N : News h₀ L h' ((it, oi) :: news')) (hd : (d, od) ∈ news') (hn : ∀ p ∈ news', p.1 ≠ it) (hP : P m' news') :
    JEnd h₀ L d it od oi s P .next { heap := h', gens := s.gens, drawn := s.drawn, toks := tk, os := s.os } := ⟨rfl, h', tk, m', news', rfl, ht, F, N, hd, hn, hP⟩
/-- the turns of a loop over a dict's items, each of which may turn the ledger -/
noncomputable def UnrJ (prog : Program) (w : World) (A : Around) (E : Value → Shared → Prop) (h₀ : Heap) (env : Env) (L : Addr) (xk xv : Str) (body : List Stmt) (Q : Flow → Shared → Prop) (d it : Addr) (od : Obj) (s : Shared) :
    List (Str × Value) → (Str → Option Value) → List (Addr × Obj) → Prop
  | [], m, news => ∀ h' tk, @LE.le Nat _ 1 tk → Fr h₀ L h' m → News h₀ L h' news → Q .next { s with heap := h', toks := tk }
  | (k, v) :: r, m, news => ∀ t oi h₁ tk₁, @LE.le Nat _ 1 tk₁ → Fr h₀ L h₁ (fun y => if y = xv then some v else if y = xk then some (.str k t) else m y) → News h₀ L h₁ ((it, oi) :: news) →
      wpAny (model prog w) A (execs body env) (JEnd h₀ L d it od oi s (fun m' news' => UnrJ prog w A E h₀ env L xk xv body Q d it od s r m' news')) E { s with heap := h₁, toks := tk₁ }
theorem UnrJ.cons {L d it : Addr} {od : Obj} {k : Str} {v : Value} {r : List (Str × Value)} {m : Str → Option Value} {news : List (Addr × Obj)}
    (h : ∀ t oi h₁ tk₁, @LE.le Nat _ 1 tk₁ → Fr h₀ L h₁ (fun y => if y = xv then some v else if y = xk then some (.str k t) else m y) → News h₀ L h₁ ((it, oi) :: news) →
      wpAny (model prog w) A (execs body env) (JEnd h₀ L d it od oi s (fun m' news' => UnrJ prog w A E h₀ env L xk xv body Q d it od s r m' news')) E { s with heap := h₁, toks := tk₁ }) :
    UnrJ prog w A E h₀ env L xk xv body Q d it od s ((k, v) :: r) m news := h
theorem UnrJ.nil {L d it : Addr} {od : Obj} {m : Str → Option Value} {news : List (Addr × Obj)} (h : ∀ h' tk, @LE.le Nat _ 1 tk → Fr h₀ L h' m → News h₀ L h' news → Q .next { s with heap := h', toks := tk }) :
    UnrJ prog w A E h₀ env L xk xv body Q d it od s [] m news := h
theorem UnrJ.mono {E' : Value → Shared → Prop} {Q' : Flow → Shared → Prop} {s' : Shared} {L d it : Addr} {od : Obj} (hE : ∀ e s', E e s' → E' e s') (hQ : ∀ f s', Q f s' → Q' f s')
    (hs : ∀ h tk, ({ s with heap := h, toks := tk } : Shared) = { s' with heap := h, toks := tk }) : ∀ {kvs : List (Str × Value)} {m : Str → Option Value} {news : List (Addr × Obj)},
    UnrJ prog w A E h₀ env L xk xv body Q d it od s kvs m news → UnrJ prog w A E' h₀ env L xk xv body Q' d it od s' kvs m news
  | [], _, _, h => fun h' tk a b c => hs h' tk ▸ hQ _ _ (h h' tk a b c)
  | (_, _) :: _, _, _, h => fun t oi h₁ tk₁ a b c => hs h₁ tk₁ ▸ wpAny_mono (h t oi h₁ tk₁ a b c) (fun _ _ ⟨e, h', tk, m', news', e1, e2, e3, e4, e5, e6, e7⟩ => ⟨e, h', tk, m', news', e1.trans (hs h' tk), e2, e3, e4, e5, e6, UnrJ.mono hE hQ hs e7⟩) hE
theorem itemsJ_loop {R : Result → Shared → Prop} {pk pv pt : Pos} {x1} {it d : Addr} {kvs : List (Str × Value)} {ep : Nat} {m : Str → Option Value} {news : List (Addr × Obj)} {od : Obj}
    (hh : A.handled = none) (hxk : env.kindOf xk = some .local) (hxv : env.kindOf xv = some .local)
    (hp : (env.scope.kind == .class || (env.scope.kind == .module && env.locals != env.globals)) = false)
    (hiL : it ≠ env.locals) (hin : h₀.get? it = none) (hnw : ∀ p ∈ news, p.1 ≠ it) (hd : (d, od) ∈ news)
    (hm : ∀ h : Heap, h.get? d = some od → h.DictAt (strKind prog w) d kvs ep)
    (hit : IsItemIter s.heap it d 0 kvs.length ep .none .none) (F : Fr h₀ env.locals s.heap m) (N : News h₀ env.locals s.heap news) (ht : @LE.le Nat _ 1 s.toks)
    (h : UnrJ prog w A (notedBy (model prog w) A env fun e s' => R (.error e) s') h₀ env env.locals xk xv body (fun f s' => R (.ok f) s') d it od s kvs m news) :
    codeAny (model prog w) A (.forLoop (.Tuple [.Name xk pk, .Name xv pv] x1 pt) (.ref it) body [] env) R s := by
  refine codeAny_forLoop_any
    (fun n s' => ∃ h' tk m' news' i ok ov, s' = { s with heap := h', toks := tk } ∧ @LE.le Nat _ 1 tk ∧ IsItemIter h' it d i kvs.length ep ok ov ∧ Fr h₀ env.locals h' m' ∧ News h₀ env.locals h' news' ∧ (d, od) ∈ news' ∧ (∀ p ∈ news', p.1 ≠ it) ∧
      UnrJ prog w A (notedBy (model prog w) A env fun e s' => R (.error e) s') h₀ env env.locals xk xv body (fun f s' => R (.ok f) s') d it od s (kvs.drop i) m' news' ∧ i ≤ kvs.length ∧
      n = kvs.length + 1 - i) ?_ (kvs.length + 1)
    ⟨s.heap, s.toks, m, news, 0, .none, .none, rfl, ht, hit, F, N, hd, hnw, h, Nat.zero_le _, rfl⟩
  rintro n s' ⟨H, tk, m', news', i, ok, ov, rfl, ht', hit', F', N', hd', hnw', hJ, hi, rfl⟩
  have hn' := F'.ns
  have hm' := hm H (N' _ hd').1
  have hdi : d ≠ it := hnw' _ hd'
  have hdL : d ≠ env.locals := (N' _ hd').2.1
  have oldNe : ∀ b o, h₀.get? b = some o → b ≠ it := fun b o e q => by rw [q, hin] at e; cases e
  cases hv : kvs[i]? with
  | none =>
    have hsz : i = kvs.length := Nat.le_antisymm hi (by simpa using hv)
    refine wpAny_pyNext_items_end hh hit' hm' hv fun h₁ he₁ => wpAny_execs_nil ?_
    rw [hsz, List.drop_length] at hJ
    exact hJ h₁ tk ht' ⟨hn'.extBut he₁ (Ne.symm hiL), fun b o e => he₁ b o (oldNe b o e) (F'.keep b o e), F'.above⟩
      (fun p hp => ⟨he₁ _ _ (hnw' p hp) (N' p hp).1, (N' p hp).2⟩)
  | some kv =>
    obtain ⟨k, v⟩ := kv
    have hlt : i < kvs.length := (List.getElem?_eq_some_iff.mp hv).1
    have hiH : it < H.objs.size := Heap.lt_size hit'
    have hLH : env.locals < H.objs.size := hn'.lt
    have hdH : d < H.objs.size := hm'.lt_size
    refine wpAny_pyNext_items_item hit' hm' hv fun key h₁ hkey heo ht₁ hz₁ hk₁ => ?_
    obtain ⟨tkey, rfl⟩ := Value.isStrOf_shape hkey
    refine wpAny_letOwnedTupleGo_items heo fun h₂ he₂ hs₂ => ?_
    replace hs₂ : Heap.SameBut it h₁ h₂ := hs₂
    have ht₂ : h₂.IsTuple H.objs.size #[.str k tkey, v] := ⟨_, (hs₂.2 _ (Nat.ne_of_gt hiH)).trans ht₁, rfl, _, rfl⟩
    have hz₂ : h₂.objs.size = H.objs.size + 1 := hs₂.1.trans hz₁
    refine wpAny_assign_Tuple hh ht₂ rfl rfl fun h₃ hx₃ => ?_
    replace hx₃ : Heap.ExtBut h₂.objs.size h₂ h₃ := hx₃
    have old₃ : ∀ b o, b < H.objs.size → h₂.get? b = some o → h₃.get? b = some o := fun b o hb x => hx₃ b o (by rw [hz₂]; exact Nat.ne_of_lt (Nat.lt_succ_of_lt hb)) x
    have up₃ : ∀ b o, b ≠ it → H.get? b = some o → h₃.get? b = some o := fun b o hb x => old₃ b o (Heap.lt_size x) (hs₂.extBut b o hb (hk₁ b o hb x))
    have F₃ : Fr h₀ env.locals h₃ m' := ⟨hn'.at fun o x => up₃ _ o (Ne.symm hiL) x, fun b o e => up₃ b o (oldNe b o e) (F'.keep b o e), F'.above⟩
    have hit₃ := old₃ it _ hiH he₂
    have N₃ : News h₀ env.locals h₃ ((it, _) :: news') := List.forall_mem_cons.mpr ⟨⟨hit₃, hiL, hin⟩, fun p hp => ⟨up₃ _ _ (hnw' p hp) (N' p hp).1, (N' p hp).2⟩⟩
    show wpAny _ _ (do holding [v] (assign (.Name xk pk) env (.str k tkey)); do holding [] (assign (.Name xv pv) env v); pure ()) _ _ _
    refine wpAny_bind (wpAny_holding (wpAny_assign_Name (wpAny_storeName_local hxk F₃.ns (fun h₄ hn₄ hs₄ => ?_) hp)))
    replace hs₄ : Heap.SameBut env.locals h₃ h₄ := hs₄
    have F₄ := F₃.set hn₄ hs₄
    refine wpAny_bind (wpAny_holding (wpAny_assign_Name (wpAny_storeName_local hxv F₄.ns (fun h₅ hn₅ hs₅ => wpAny_pure ?_) hp)))
    replace hs₅ : Heap.SameBut env.locals h₄ h₅ := hs₅
    have F₅ := F₄.set hn₅ hs₅
    have N₅ := (N₃.set hs₄).set hs₅
    have e : kvs.drop i = (k, v) :: kvs.drop (i + 1) := by
      rw [List.drop_eq_getElem_cons hlt]
      congr 1
      rw [List.getElem?_eq_getElem hlt] at hv
      exact Option.some.inj hv
    rw [e] at hJ
    dsimp only
    refine wpAny_mono (hJ tkey _ h₅ (tk + 1 + 1) (Nat.le_add_left _ _) F₅ N₅) (fun f s₃ h₆ => ?_) fun _ _ x => x
    obtain ⟨rfl, h₆, tk₆, m₂, news₂, rfl, ht₆, F₆, N₆, hd₆, hnw₆, hJ₆⟩ := h₆
    exact ⟨kvs.length + 1 - (i + 1), by omega, h₆, tk₆, m₂, news₂, i + 1, _, _, rfl, ht₆, (N₆ _ (.head _)).1, F₆, fun p hp => N₆ p (.tail _ hp), hd₆, hnw₆, hJ₆, hlt, rfl⟩
theorem itemsJ {pk pv pt px apos cpos pos : Pos} {x1} {xd : Str} {d L : Addr} {kvs : List (Str × Value)} {m : Str → Option Value} {news : List (Addr × Obj)} {od : Obj}
    (hh : A.handled = none) (hxk : env.kindOf xk = some .local) (hxv : env.kindOf xv = some .local)
    (hp : (env.scope.kind == .class || (env.scope.kind == .module && env.locals != env.globals)) = false)
    (hS : (d == sysModules) = false) (hod : od.IsDictOf (strKind prog w) kvs)
    (hL : env.locals = L) (F : Fr h₀ L s.heap m) (N : News h₀ L s.heap news) (hd : (d, od) ∈ news) (ht : @LE.le Nat _ 1 s.toks)
    (hbase : attributeBase (.Name xd px) "items" env (eval (.Name xd px) env) = eval (.Name xd px) env) (hline : (apos.endLine == cpos.line) = true)
    (ho : ∀ Q', Q' (.ref d) s → wpAny (model prog w) A (eval (.Name xd px) env) Q' E s)
    (h : ∀ it, (∀ p ∈ news, p.1 < it) → UnrJ prog w A E h₀ env L xk xv body Q d it od s kvs m news)
    (hs : ∀ x, foldedSetIterable (.Call (.Attribute (.Name xd px) "items" apos) [] [] cpos) env x = pure x := by intro _; rfl)
    (hE : PassesOwn (model prog w) A env E := by passes_own) :
    wpAny (model prog w) A (exec (.For (.Tuple [.Name xk pk, .Name xv pv] x1 pt) (.Call (.Attribute (.Name xd px) "items" apos) [] [] cpos) body [] pos) env) Q E s := by
  subst hL
  have hdo : s.heap.DictOf (strKind prog w) d kvs := Heap.dictOf_iff.mpr ⟨_, (N _ hd).1, hod⟩
  refine wpAny_For (wpAny_Call_items hS hdo hbase hline ho ?_) hs
  obtain ⟨es, ep, k1, k2, k3, k4, k5⟩ := id hod
  have hat : ∀ h : Heap, h.get? d = some od → h.DictAt (strKind prog w) d kvs ep := fun h e => ⟨od, es, e, k1, k2, k3, k4, k5⟩
  have hlt : ∀ b o, s.heap.get? b = some o → b < s.heap.objs.size := fun b o e => Heap.lt_size e
  have hoL : env.locals < s.heap.objs.size := F.ns.lt
  refine wpAny_pyIter_items (knd := strKind prog w) (d := d) (kvs := kvs) (ep := ep) ⟨_, Heap.get?_push_size _ rfl, rfl, rfl⟩ (hat _ (Heap.get?_push_of_some _ (N _ hd).1)) ?_
  have hsz : (s.heap.push { cls := .type "dict_items", data := .fields #[.ref d] }).objs.size = s.heap.objs.size + 1 := Heap.size_push ..
  have hI : ∀ p ∈ news, p.1 < (s.heap.push { cls := .type "dict_items", data := .fields #[.ref d] }).objs.size := fun p hp => by
    rw [hsz]; exact Nat.lt_succ_of_lt (hlt _ _ (N _ hp).1)
  refine itemsJ_loop (R := fun r s' => match r with | .ok f => Q f s' | .error e => cameBackBy (model prog w) A env E e s') hh hxk hxv hp ?_ ?_ (fun p hp => Nat.ne_of_lt (hI p hp)) hd hat
    (Heap.get?_push_size _ rfl) ((F.push _).push _) (fun p hp => ⟨Heap.get?_push_of_some _ (Heap.get?_push_of_some _ (N p hp).1), (N p hp).2⟩) ht ?_
  · show (s.heap.push _).objs.size ≠ env.locals
    rw [hsz]; exact Nat.ne_of_gt (Nat.lt_succ_of_lt hoL)
  · refine Heap.get?_none_of_le ?_
    show _ ≤ (s.heap.push _).objs.size
    rw [hsz]; exact Nat.le_trans F.above (Nat.le_succ_of_le (Nat.le_of_lt hoL))
  · refine UnrJ.mono (s := s) (Q := Q) (E := E) ?a ?b ?c (h _ hI)
    case a => exact hE
    case b => exact fun _ _ q => q
    case c => exact fun _ _ => rfl
end
end
end
section
section
-- AH
open PySem PySem.W PyProof.Rows
theorem asc_k1 : Asc (Str.ofString "twice_and_one") := by unfold Asc; decide
theorem asc_k2 : Asc (Str.ofString "plain") := by unfold Asc; decide
theorem asc_k3 : Asc (Str.ofString "no_more") := by unfold Asc; decide
theorem asc_ok : Asc (Str.ofString "ok") := by unfold Asc; decide
theorem asc_z : Asc (Str.ofString "z") := by unfold Asc; decide
theorem asc_e : Asc (Str.ofString "") := by unfold Asc; decide
theorem rep_k1 : Txt.replace (Str.ofString "twice_and_one") (Str.ofString "_") (Str.ofString "-") = Str.ofString "twice-and-one" := by decide +kernel
theorem rep_k2 : Txt.replace (Str.ofString "plain") (Str.ofString "_") (Str.ofString "-") = Str.ofString "plain" := by decide +kernel
theorem rep_k3 : Txt.replace (Str.ofString "no_more") (Str.ofString "_") (Str.ofString "-") = Str.ofString "no-more" := by decide +kernel
theorem rep_o1 : Txt.replace (Str.ofString "ok") (Str.ofString "\\") (Str.ofString "\\\\") = Str.ofString "ok" := by decide +kernel
theorem rep_o2 : Txt.replace (Str.ofString "ok") (Str.ofString "\"") (Str.ofString "\\\"") = Str.ofString "ok" := by decide +kernel
local macro_rules | `(tactic| walk_at "execs cons") => `(tactic| (k_here; (refine gen_toks ?hn ?_; (case hn => (try dsimp only); walk_at "%o"); intro _ _; refine wpAny_execs_cons ?_; try dsimp only)))
local macro_rules | `(tactic| walk_at "execs nil") => `(tactic| (k_here; refine wpAny_execs_nil ?_))
local macro_rules | `(tactic| walk_at "call builtin:str.replace") => `(tactic| (k_here; walk_at "%d"; (with_reducible show wpAny _ _ (call (Value.builtin _) [Value.str _ _, Value.str _ _, Value.str _ _]) _ _ _); (refine' replaceE ?_ ?_ ?_ ?_ ?_ ?_ ?_ ?_ ?_; rotate_right 9; (first | exact rep_k1 | exact rep_k2 | exact rep_k3); rotate_left 6; (try dsimp only); walk_at "%o"; rotate_left; (refine neT ?_; (try dsimp only); first | exact Nat.succ_ne_zero _ | exact Nat.ne_of_lt (Nat.lt_succ_self _) | omega); (refine neT ?_; (try dsimp only); first | exact Nat.succ_ne_zero _ | exact Nat.ne_of_lt (Nat.lt_succ_self _) | omega); (refine neT ?_; (try dsimp only); first | exact Nat.succ_ne_zero _ | exact Nat.ne_of_lt (Nat.lt_succ_self _) | omega); decide; (first | decide | omega); decide); intro _ _ _))
local macro_rules | `(tactic| walk_at "exec For Tuple Call") => `(tactic| (k_here; k_dflt (refine' itemsJ (m := _) (news := _) rfl rfl rfl rfl ?lo ?di ?hL ?F ?N ?mem ?t ?hb ?hl (fun Q' q => ld ?F2 ?fd q) ?h ?hs; (case lo | di => assumption); (case F => k_asm); (case hL => exact rfl); (case N => k_asm); (case mem => k_mem); (case t => omega); (case hb => with_unfolding_all rfl); (case hl => rfl); (case F2 => k_asm); (case fd => exact rfl); (case hs => intro _; with_unfolding_all rfl)); intro _ l1; (try k_lt l1)))
theorem ln_a : (Str.ofString "twice-and-one=\"").length = 15 := rfl
theorem ln_b : (Str.ofString "\"").length = 1 := rfl
theorem ln_c : (Str.ofString "plain=\"ok\"").length = 10 := rfl
theorem ln_d : (Str.ofString "no-more").length = 7 := rfl
theorem ln_z : (Str.ofString "z").length = 1 := rfl
theorem ln_1 : (Str.ofString "twice-and-one").length = 13 := rfl
theorem ln_2 : (Str.ofString "plain").length = 5 := rfl
theorem ln_3 : (Str.ofString "ok").length = 2 := rfl
theorem ln_4 : (Str.ofString "=\"").length = 2 := rfl
theorem ln_0 : Str.empty.length = 0 := rfl
theorem lenApp (x y : Str) : (x ++ y).length = x.length + y.length := Array.size_append
theorem sep_fits : (Str.ofString "; ").length ≤ 16 := by decide
local macro_rules | `(tactic| walk_at "call builtin:str.join") => `(tactic| (k_here; walk_at "%d"; (refine' join_listW (News.isList ?N ?m) ?hi sep_fits ?hw ?_; (case N => k_asm); (case m => k_mem); (case hi => with_unfolding_all first | exact .cons _ _ (.cons _ _ (.cons _ _ .nil)) | exact .cons _ _ (.cons _ _ (.cons _ _ (.cons _ _ .nil)))); (case hw => (simp only [List.map_cons, List.map_nil, List.sum_cons, List.sum_nil, List.length_cons, List.length_nil, lenApp, ln_a, ln_b, ln_c, ln_d, ln_z, ln_0, ln_1, ln_2, ln_3, ln_4]; omega))); intro _ _))
local macro_rules | `(tactic| walk_at "call builtin:list.append") => `(tactic| (k_here; walk_at "%d"; (with_reducible show wpAny _ _ (call (Value.builtin _) [Value.ref _, _]) _ _ _); k_dflt (refine' append_K ?_ ?_ ?_ ?_ ?_; rotate_right 5; k_asm; k_asm; k_upd; rotate_left; (first | assumption | size_fits); k_whole); intro _ _ _; (try k_sweep)))
local macro_rules | `(tactic| walk_at "UnrJ") => `(tactic| (first | (refine UnrJ.cons ?_; intro _ _ _ _ _ F' N'; k_fold) | (refine UnrJ.nil ?_; intro _ _ _ _ _)))
local macro_rules | `(tactic| walk_at "JEnd") => `(tactic| (refine' JEnd.intro ?_ ?_ ?_ ?_ ?_ ?_; rotate_right 6; (try dsimp only); walk_at "%o"; k_asm; k_asm; k_mem; (repeat (refine List.forall_mem_cons.mpr ⟨?_, ?_⟩; focus k_ne)); exact ne_of_top (by first | walk_at "%p" | omega); (try dsimp only)))
section
variable {w : World} {h₀ base : Heap} {L L' fa a bk bd hl : Addr} {nm : Str} {env : Env} {cd : Value} {m mg mb : Str → Option Value} {s : Shared} {rest : List (Addr × Obj)} {mean : ExcName → Option Value} {p : Program} {loose : List Str}
theorem conv_nK {Q : Value → Shared → Prop} {E : Value → Shared → Prop} {x : Str} {t : Tok}
  (B : Below (callerA.deeper (lawE L fa cd)) base [lawE L fa cd] h₀) (F : Fr h₀ L' s.heap m) (X : (K1r w.params).In h₀) (T : Top p loose mean mg mb h₀) (C : CodeHd base 298 294) (N : News h₀ L' s.heap rest) (hf : env.frame = some L') (hk : env.scope.kind = .function) (ha : Asc x) (hz : x.cps.size ≤ 4096) (ht : @LE.le Nat _ 1 s.toks)
  (h : ∀ h' tk, @LE.le Nat _ 1 tk → Fr h₀ L' h' m → News h₀ L' h' rest → Q (.str x t) { heap := h', gens := s.gens, drawn := s.drawn, toks := tk, os := s.os }) :
  wpAny (model pw w) ((callerA.deeper (lawE L fa cd)).deeper env) (call (.ref 83) [.ref bk, .str x t] [(Str.ofString "name", .bool true)]) Q E s :=
  wpAny_with_toks ht (conv_n ⟨rfl, rfl⟩ B F X T C News.nil hf hk ha (Nat.le_trans hz (by decide)) fun h' tk kp hq => h h' tk hq (F.keeps kp) fun p hp => ⟨kp _ _ (N p hp).1, (N p hp).2⟩)
theorem conv_vK {Q : Value → Shared → Prop} {E : Value → Shared → Prop} {x : Str} {t : Tok}
  (B : Below (callerA.deeper (lawE L fa cd)) base [lawE L fa cd] h₀) (F : Fr h₀ L' s.heap m) (X : (K1r w.params).In h₀) (T : Top p loose mean mg mb h₀) (C : CodeHd base 298 294) (N : News h₀ L' s.heap rest) (hf : env.frame = some L') (hk : env.scope.kind = .function) (ha : Asc x) (hz : x.cps.size ≤ 4096) (ht : @LE.le Nat _ 1 s.toks)
  (h : ∀ h' tk, @LE.le Nat _ 1 tk → Fr h₀ L' h' m → News h₀ L' h' rest → Q (.str x t) { heap := h', gens := s.gens, drawn := s.drawn, toks := tk, os := s.os }) :
  wpAny (model pw w) ((callerA.deeper (lawE L fa cd)).deeper env) (call (.ref 83) [.ref bk, .str x t] [(Str.ofString "name", .bool false)]) Q E s :=
  wpAny_with_toks ht (conv_v ⟨rfl, rfl⟩ B F X T C News.nil hf hk ha (Nat.le_trans hz (by decide)) fun h' tk kp hq => h h' tk hq (F.keeps kp) fun p hp => ⟨kp _ _ (N p hp).1, (N p hp).2⟩)
local macro_rules | `(tactic| walk_at "call ref") => `(tactic| (k_here; walk_at "%d"; (with_reducible show wpAny _ _ (call (Value.ref 83) _ _) _ _ _); (first
  | ((with_unfolding_all show wpAny _ _ (call (Value.ref 83) [_, Value.str _ _] [(Str.ofString "name", Value.bool true)]) _ _ _); refine' conv_nK ?B ?F ?X ?T ?C ?N ?f ?k ?a ?z ?t ?_) | ((with_unfolding_all show wpAny _ _ (call (Value.ref 83) [_, Value.str _ _] [(Str.ofString "name", Value.bool false)]) _ _ _); refine' conv_vK ?B ?F ?X ?T ?C ?N ?f ?k ?a ?z ?t ?_)); (case B | F | X | T | C | N => k_asm); (case f | k => with_unfolding_all rfl); (case a => first | assumption | exact asc_k1 | exact asc_k2 | exact asc_k3 | exact asc_ok | exact asc_z | exact asc_e); (case z => first | assumption | decide); (case t => (try dsimp only); walk_at "%o"); intro _ _ _ _ _))
local macro_rules | `(tactic| walk_at "call ref") => `(tactic| (k_here; walk_at "%d"; (with_reducible show wpAny _ _ (call (Value.ref 61) _ _) _ _ _); (first
  | (refine' fmt_empty ⟨rfl, rfl⟩ ?B ?F ?X ?T ?N ?t ?_; (case B | F | X | T | N => k_asm); (case t => (try dsimp only); walk_at "%o"); intro h' tk' F' N' htk')
  | (refine' fmt_spec ⟨rfl, rfl⟩ ?B ?F ?X ?T ?N ?e1 ?e2 ?hk ?hx ?hy ?hz ?hp ?t ?_; (case B | F | X | T | N => k_asm); (case e1 => first | assumption | exact rep_o1); (case e2 => first | assumption | exact rep_o2); (case hk => decide); (case hx | hy | hz | hp => first | assumption | decide); (case t => (try dsimp only); walk_at "%o"); intro _ _ _ _ _ _)))) 
abbrev bookD (w : World) (hl : Addr) (t : Tok) : Obj := dictOf [⟨KH w "_headers", .str (Str.ofString "_headers") t, .ref hl⟩] 1
abbrev tupO (l : List Value) : Obj := { cls := .type "tuple", data := .seq l.toArray }
/-- a parameter as it is laid -/
abbrev par (k v : Str) : Str := Str.empty ++ k ++ Str.ofString "=\"" ++ v ++ Str.ofString "\""
abbrev parE (z : Str) : List Str := [par (Str.ofString "twice-and-one") z, par (Str.ofString "plain") (Str.ofString "ok"), Str.ofString "no-more"]
set_option maxHeartbeats 4000000 in
theorem add_even {Q : Value → Shared → Prop} {E : Value → Shared → Prop} {x y z nm : Str} {tn tx t1 t2 th : Tok} {hs : Array Value} {kh : Nat} (dummy : PySem.Challenge.rw_sh0067_01 = PySem.Challenge.rw_sh0067_01 ∧ K1r = K1r)
  (B : Below callerA base [] h₀) (F : Fr h₀ L s.heap m) (X : (K1r w.params).In h₀) (T : Top p loose mean mg mb h₀) (C : CodeHd base 298 294)
  (N : News h₀ L s.heap ((bk, instObj 182 bd) :: (bd, bookD w hl th) :: (hl, listOf hs kh) :: rest))
  (ax : Asc x) (an : Asc nm) (e1 : Txt.replace x (Str.ofString "\\") (Str.ofString "\\\\") = y) (e2 : Txt.replace y (Str.ofString "\"") (Str.ofString "\\\"") = z) (hn : nm.length ≤ 4096) (hn2 : nm.cps.size ≤ 4096) (hx : x.length ≤ 4096) (hx2 : x.cps.size ≤ 4096) (hy : y.length ≤ 4096) (hz : z.length ≤ 4096) (hp : 0 < x.length) (ht : 1 ≤ s.toks) (hsz : hs.size ≤ sizeLine) (hbk : @Ne Nat bk hl) (hbd : @Ne Nat bd hl) (hr : ∀ p ∈ rest, p.1 ≠ hl)
  (h : ∀ h' tk D t', Fr h₀ L h' m → News h₀ L h' ((D, tupO [.str nm tn, .str (Txt.join (Str.ofString "; ") (parE z)) t']) :: (bk, instObj 182 bd) :: (bd, bookD w hl th) :: (hl, listOf (hs.push (.ref D)) (kh + 1)) :: rest) → 1 ≤ tk → (bk < D ∧ bd < D ∧ @LT.lt Nat _ hl D ∧ topA rest ≤ D) →
    Q .none { heap := h', gens := s.gens, drawn := s.drawn, toks := tk, os := s.os }) :
  wpAny (model pw w) (callerA.deeper (lawE L fa cd)) (call (.ref 179) [.ref bk, .str nm tn, .none] [(Str.ofString "twice_and_one", .str x tx), (Str.ofString "plain", .str (Str.ofString "ok") t1), (Str.ofString "no_more", .str (Str.ofString "") t2)]) Q E s := by
  refine wpAny_with_toks ht ?_
  revert dummy
  k_fill
  intro _
  w_on
  k_steps
  exact h _ _ _ _ (by assumption) (news_sub (by assumption) (List.forall_mem_cons.mpr ⟨by k_mem, List.forall_mem_cons.mpr ⟨by k_mem, List.forall_mem_cons.mpr ⟨by k_mem, List.forall_mem_cons.mpr ⟨by k_mem, fun p hp => by repeat (first | exact hp | refine List.Mem.tail _ ?_)⟩⟩⟩⟩)) (by first | assumption | omega) (by refine ⟨lt2 ?_, lt2 ?_, ?_, ?_⟩ <;> omega)
set_option maxHeartbeats 4000000 in
theorem add_odd {Q : Value → Shared → Prop} {E : Value → Shared → Prop} {x y z nm : Str} {tn tx t1 t2 th : Tok} {hs : Array Value} {kh : Nat} (dummy : PySem.Challenge.rw_sh0067_01 = PySem.Challenge.rw_sh0067_01 ∧ K1r = K1r)
  (B : Below callerA base [] h₀) (F : Fr h₀ L s.heap m) (X : (K1r w.params).In h₀) (T : Top p loose mean mg mb h₀) (C : CodeHd base 298 294)
  (N : News h₀ L s.heap ((bk, instObj 182 bd) :: (bd, bookD w hl th) :: (hl, listOf hs kh) :: rest))
  (ax : Asc x) (an : Asc nm) (e1 : Txt.replace x (Str.ofString "\\") (Str.ofString "\\\\") = y) (e2 : Txt.replace y (Str.ofString "\"") (Str.ofString "\\\"") = z) (hn : nm.length ≤ 4096) (hn2 : nm.cps.size ≤ 4096) (hx : x.length ≤ 4096) (hx2 : x.cps.size ≤ 4096) (hy : y.length ≤ 4096) (hz : z.length ≤ 4096) (hp : 0 < x.length) (ht : 1 ≤ s.toks) (hsz : hs.size ≤ sizeLine) (hbk : @Ne Nat bk hl) (hbd : @Ne Nat bd hl) (hr : ∀ p ∈ rest, p.1 ≠ hl)
  (h : ∀ h' tk D t', Fr h₀ L h' m → News h₀ L h' ((D, tupO [.str nm tn, .str (Txt.join (Str.ofString "; ") (Str.ofString "z" :: parE z)) t']) :: (bk, instObj 182 bd) :: (bd, bookD w hl th) :: (hl, listOf (hs.push (.ref D)) (kh + 1)) :: rest) → 1 ≤ tk → (bk < D ∧ bd < D ∧ @LT.lt Nat _ hl D ∧ topA rest ≤ D) →
    Q .none { heap := h', gens := s.gens, drawn := s.drawn, toks := tk, os := s.os }) :
  wpAny (model pw w) (callerA.deeper (lawE L fa cd)) (call (.ref 179) [.ref bk, .str nm tn, .str (Str.ofString "z") t2] [(Str.ofString "twice_and_one", .str x tx), (Str.ofString "plain", .str (Str.ofString "ok") t1), (Str.ofString "no_more", .none)]) Q E s := by
  refine wpAny_with_toks ht ?_
  revert dummy
  k_fill
  intro _
  w_on
  k_steps
  exact h _ _ _ _ (by assumption) (news_sub (by assumption) (List.forall_mem_cons.mpr ⟨by k_mem, List.forall_mem_cons.mpr ⟨by k_mem, List.forall_mem_cons.mpr ⟨by k_mem, List.forall_mem_cons.mpr ⟨by k_mem, fun p hp => by repeat (first | exact hp | refine List.Mem.tail _ ?_)⟩⟩⟩⟩)) (by first | assumption | omega) (by refine ⟨lt2 ?_, lt2 ?_, ?_, ?_⟩ <;> omega)
end
end
end
section
section
-- PL
open PySem PySem.W PyProof.Rows
/-! The plain law: no program in sight. -/
abbrev mkS (l : List Nat) : Str := ⟨l.toArray⟩
abbrev rep (n : Nat) : List Nat := List.replicate n 92
theorem app_mk (a b : List Nat) : mkS a ++ mkS b = mkS (a ++ b) := by
  show Str.mk (a.toArray ++ b.toArray) = _
  simp
theorem sg_mk (c : Nat) : (⟨#[c]⟩ : Str) = mkS [c] := rfl
theorem len_mk (a : List Nat) : (mkS a).length = a.length := rfl
theorem ofS_nil : Str.ofString "" = mkS [] := rfl
-- slices
theorem slice_plain (l : List Nat) {i j : Int} (h : 0 ≤ i ∧ i ≤ j ∧ j ≤ l.length) : Txt.slice (mkS l) (some i) (some j) = mkS ((l.drop i.toNat).take (j - i).toNat) :=
  PySem.StrLaws.sliceText_plain (x := mkS l) h
theorem slice_to (l : List Nat) {j : Int} (h : 0 ≤ j ∧ j ≤ l.length) : Txt.slice (mkS l) none (some j) = mkS ((l.drop 0).take (j - 0).toNat) :=
  PySem.StrLaws.sliceText_to (x := mkS l) h
theorem slice_from (l : List Nat) {i : Int} (h : 0 ≤ i ∧ i ≤ l.length) : Txt.slice (mkS l) (some i) none = mkS ((l.drop i.toNat).take ((l.length : Int) - i).toNat) :=
  PySem.StrLaws.sliceText_from (x := mkS l) h
theorem slice_hd (c : Nat) (l : List Nat) : Txt.slice (mkS (c :: l)) none (some 1) = mkS [c] := by
  rw [slice_to _ ⟨by decide, by simp; omega⟩]; rfl
theorem slice_tl (c : Nat) (l : List Nat) : Txt.slice (mkS (c :: l)) (some 1) none = mkS l := by
  rw [slice_from _ ⟨by decide, by simp; omega⟩]
  have e : (((c :: l).length : Int) - 1).toNat = l.length := by simp
  rw [e]
  show mkS ((l.drop 0).take _) = _
  rw [List.drop_zero, List.take_length]
theorem slice_last (l t : List Nat) (j : Int) (hj : j = -(t.length : Int)) (ht : 0 < t.length) : Txt.slice (mkS (l ++ t)) (some j) none = mkS t := by
  subst hj
  have h0 : (-(t.length : Int)) < 0 := by omega
  have h1 : -((mkS (l ++ t)).length : Int) ≤ -(t.length : Int) := by rw [len_mk, List.length_append]; omega
  refine (PySem.StrLaws.sliceText_neg_lo (mkS (l ++ t)) none h0 h1).trans ?_
  have e : -(t.length : Int) + ((mkS (l ++ t)).length : Int) = l.length := by rw [len_mk, List.length_append]; omega
  rw [e]
  refine (slice_from (l ++ t) ⟨by omega, by rw [List.length_append]; omega⟩).trans ?_
  have e2 : (((l ++ t).length : Int) - (l.length : Int)).toNat = t.length := by rw [List.length_append]; omega
  have e3 : ((l.length : Int)).toNat = l.length := by omega
  rw [e2, e3, List.drop_left, List.take_length]
theorem slice_end (l t : List Nat) : Txt.slice (mkS (l ++ t)) (some (((mkS (l ++ t)).length : Int) - ((mkS t).length : Int))) none = mkS t := by
  have e : ((mkS (l ++ t)).length : Int) - ((mkS t).length : Int) = l.length := by rw [len_mk, len_mk, List.length_append]; omega
  rw [e]
  refine (slice_from (l ++ t) ⟨by omega, by rw [List.length_append]; omega⟩).trans ?_
  have e2 : (((l ++ t).length : Int) - (l.length : Int)).toNat = t.length := by rw [List.length_append]; omega
  have e3 : ((l.length : Int)).toNat = l.length := by omega
  rw [e2, e3, List.drop_left, List.take_length]
theorem slice_mid (a l b : List Nat) {i j : Int} (hi : i = a.length) (hj : j = a.length + l.length) : Txt.slice (mkS (a ++ (l ++ b))) (some i) (some j) = mkS l := by
  subst hi hj
  rw [slice_plain _ ⟨by omega, by omega, by rw [List.length_append, List.length_append]; omega⟩]
  have e2 : (((a.length : Int) + (l.length : Int)) - (a.length : Int)).toNat = l.length := by omega
  have e3 : ((a.length : Int)).toNat = a.length := by omega
  rw [e2, e3, List.drop_left, List.take_left]
theorem slice_in (a l b : List Nat) (hb : 0 < b.length) : Txt.slice (mkS (a ++ (l ++ b))) (some (mkS a).length) (some (-((mkS b).length : Int))) = mkS l := by
  have h0 : (-((mkS b).length : Int)) < 0 := by rw [len_mk]; omega
  have h1 : -((mkS (a ++ (l ++ b))).length : Int) ≤ -((mkS b).length : Int) := by rw [len_mk, len_mk, List.length_append, List.length_append]; omega
  refine (PySem.StrLaws.sliceText_neg_hi (mkS (a ++ (l ++ b))) (some (mkS a).length) h0 h1).trans ?_
  refine slice_mid a l b rfl ?_
  rw [len_mk, len_mk, List.length_append, List.length_append]; omega
-- tokens
theorem rep_succ (n : Nat) : rep (n + 1) = 92 :: rep n := rfl
theorem rep_app (n : Nat) (l : List Nat) : rep (n + 1) ++ l = rep n ++ (92 :: l) := by
  show List.replicate (n + 1) 92 ++ l = _
  rw [List.replicate_succ']
  simp
theorem scan_rep {P : Nat → Bool} (hP : P 92 = false) : ∀ (k : Nat) (a r : List Nat), scan P (mkS a) (rep (2 * k) ++ r) = scan P (mkS (a ++ rep k)) r
  | 0, a, r => by simp
  | k + 1, a, r => by
    show scan P (mkS a) (92 :: 92 :: (rep (2 * k) ++ r)) = _
    rw [scan_cons, hP, if_neg Bool.false_ne_true, if_pos rfl]
    show scan P (mkS a ++ mkS [92]) (rep (2 * k) ++ r) = _
    rw [app_mk, scan_rep hP k]
    congr 2
    show a ++ [92] ++ rep k = a ++ (92 :: rep k)
    simp
theorem scan_sg {P : Nat → Bool} {c : Nat} (hP : P c = false) (hc : c ≠ 92) (a r : List Nat) : scan P (mkS a) (c :: r) = scan P (mkS (a ++ [c])) r := by
  rw [scan_cons, hP, if_neg Bool.false_ne_true, if_neg hc, sg_mk, app_mk]
theorem scan_esc {P : Nat → Bool} (hP : P 92 = false) (c : Nat) (a r : List Nat) : scan P (mkS a) (92 :: c :: r) = scan P (mkS (a ++ [c])) r := by
  rw [scan_cons, hP, if_neg Bool.false_ne_true, if_pos rfl]
  show scan P (mkS a ++ mkS [c]) r = _
  rw [app_mk]
theorem scan_stop {P : Nat → Bool} {c : Nat} (hP : P c = true) (a r : List Nat) : scan P (mkS a) (c :: r) = (mkS a, r, true) := by
  rw [scan_cons, hP, if_pos rfl]
theorem scan_nil {P : Nat → Bool} (a : List Nat) : scan P (mkS a) [] = (mkS a, [], false) := rfl
theorem ws92 : isWs 92 = false := by decide +kernel
theorem ws34 : isWs 34 = false := by decide +kernel
theorem ws122 : isWs 122 = false := by decide +kernel
theorem wsWhite : ∀ wc ∈ [32, 9, 10, 13], isWs wc = true := by decide +kernel
theorem tok_skip {c : Nat} (h : isWs c = true) (r : List Nat) : tokenOf (c :: r) = tokenOf r := by
  show (if isWs c then _ else _) = _
  rw [h, if_pos rfl]
theorem tok_out {c : Nat} (h : isWs c = false) (r : List Nat) : tokenOf (c :: r) = ((outTok (mkS []) c r).1, (outTok (mkS []) c r).2.1) := by
  show (if isWs c then _ else _) = _
  rw [h, if_neg Bool.false_ne_true]; rfl
theorem out_quo (r : List Nat) : outTok (mkS []) 34 r = scan (· == 34) (mkS []) r := by unfold outTok; rw [if_pos rfl]
theorem out_bs (c : Nat) (r : List Nat) : outTok (mkS []) 92 (c :: r) = scan isWs (mkS [c]) r := by
  unfold outTok; rw [if_neg (by decide), if_pos rfl]; show scan isWs (mkS [] ++ mkS [c]) r = _; rw [app_mk]; rfl
theorem out_sg {c : Nat} (h1 : c ≠ 34) (h2 : c ≠ 92) (r : List Nat) : outTok (mkS []) c r = scan isWs (mkS [c]) r := by
  unfold outTok; rw [if_neg h1, if_neg h2, sg_mk, app_mk]; rfl
theorem tok1_even {wc hc : Nat} (hw : isWs wc = true) (hh : isWs hc = false) (h1 : hc ≠ 34) (h2 : hc ≠ 92) (k : Nat) :
    tokenOf (wc :: hc :: (rep (2 * k) ++ [wc, 122])) = (mkS (hc :: rep k), [122]) := by
  rw [tok_skip hw, tok_out hh, out_sg h1 h2, scan_rep ws92, scan_stop hw]; rfl
theorem tok1_odd {wc hc : Nat} (hw : isWs wc = true) (hh : isWs hc = false) (h1 : hc ≠ 34) (h2 : hc ≠ 92) (k : Nat) :
    tokenOf (wc :: hc :: (rep (2 * k + 1) ++ [wc, 122])) = (mkS ((hc :: rep k) ++ [wc, 122]), []) := by
  rw [tok_skip hw, tok_out hh, out_sg h1 h2, rep_app, scan_rep ws92, scan_esc ws92, scan_sg ws122 (by decide), scan_nil]
  simp
theorem tok2_quo (lc k : Nat) : tokenOf (34 :: 92 :: lc :: (rep (2 * k) ++ [34, 122])) = (mkS (lc :: (rep k ++ [])), [122]) := by
  rw [tok_out ws34, out_quo, scan_esc (by decide), scan_rep (by decide), scan_stop (by decide)]
  simp
theorem tok2_bar (lc k : Nat) : tokenOf (92 :: lc :: (rep (2 * k) ++ [34, 122])) = (mkS (lc :: (rep k ++ [34, 122])), []) := by
  rw [tok_out ws92, out_bs, scan_rep ws92, scan_sg ws34 (by decide), scan_sg ws122 (by decide), scan_nil]
  simp
-- line feeds
theorem nlc_rep (n : Nat) (r : List Nat) : nlc (rep n ++ r) = nlc r := by
  induction n with
  | zero => rfl
  | succ n ih => show (if (92 : Nat) = 10 then (1 : Int) else 0) + nlc (rep n ++ r) = _; rw [ih]; simp
theorem nlc1 {wc hc : Nat} (hh : hc ≠ 10) (n : Nat) : nlc (wc :: hc :: (rep n ++ [wc, 122])) = if wc = 10 then 2 else 0 := by
  rw [nlc_cons, nlc_cons, nlc_rep, nlc_cons, nlc_cons, if_neg hh]
  split <;> rfl
-- prepared
theorem in92 : inB1 ((92 : Nat) : Int) = false := by decide +kernel
theorem in34 : inB1 ((34 : Nat) : Int) = false := by decide +kernel
theorem in90 : inB1 ((90 : Nat) : Int) = false := by decide +kernel
theorem b92 : b3of 92 = mkS [92] := by decide +kernel
theorem b34 : b3of 34 = mkS [34] := by decide +kernel
theorem b90 : b3of 90 = mkS [122] := by decide +kernel
theorem prep_cons {c : Nat} {v : Str} (h : inB1 (c : Int) = false) (e : b3of c = v) (l : List Nat) : prepared (c :: l) = v :: prepared l := by
  unfold prepared; rw [List.filter_cons, h]; simp [e]
theorem prep_out {c : Nat} (h : inB1 (c : Int) = true) (l : List Nat) : prepared (c :: l) = prepared l := by
  unfold prepared; rw [List.filter_cons, h]; simp
theorem prep_rep (n : Nat) (l : List Nat) : prepared (rep n ++ l) = (rep n).map (fun c => mkS [c]) ++ prepared l := by
  induction n with
  | zero => rfl
  | succ n ih => rw [rep_succ, List.cons_append, prep_cons in92 b92, ih]; rfl
theorem prep_text {hc lc sc : Nat} (h1 : inB1 (hc : Int) = false) (h2 : b3of hc = mkS [lc]) (hs : inB1 (sc : Int) = true) (n k : Nat) :
    prepared (hc :: (rep n ++ (sc :: (rep k ++ [34, 90])))) = (lc :: (rep n ++ (rep k ++ [34, 122]))).map fun c => mkS [c] := by
  rw [prep_cons h1 h2, prep_rep, prep_out hs, prep_rep, prep_cons in34 b34, prep_cons in90 b90]
  simp [prepared]
theorem join_sg (l : List Nat) : Txt.join (Str.ofString "") (l.map fun c => mkS [c]) = mkS l := by
  show Builtin.Str.glued (mkS []) _ = _
  have key : ∀ (l a : List Nat), (l.map fun c => mkS [c]).foldl (fun acc p => acc ++ (mkS []).cps ++ p.cps) a.toArray = (a ++ l).toArray := by
    intro l
    induction l with
    | nil => intro a; simp
    | cons c l ih => 
      intro a
      have := ih (a ++ [c])
      simp only [List.map_cons, List.foldl_cons]
      have e : a.toArray ++ (mkS []).cps ++ (mkS [c]).cps = (a ++ [c]).toArray := by simp
      rw [e, this]
      simp
  cases l with
  | nil => rfl
  | cons c l =>
    have := key l [c]
    show Str.mk ((l.map fun c => mkS [c]).foldl (fun acc p => acc ++ (mkS []).cps ++ p.cps) [c].toArray) = _
    rw [this]; rfl
theorem sum_sg (l : List Nat) : ((l.map fun c => mkS [c]).map (·.length)).sum = l.length := by
  induction l with
  | nil => rfl
  | cons c l ih => simp only [List.map_cons, List.sum_cons, List.length_cons, ih]; show 1 + _ = _; omega
end
end
section
section
-- PL2
open PySem PySem.W PyProof.Rows
/-! The plain law, second part: what is finite. -/
noncomputable def behS : Str := Str.ofString "\"; plain=\"ok\"; no-more"
noncomputable def ahE : Str := Str.ofString "twice-and-one=\"\\\\o\\\""
noncomputable def ahO : Str := Str.ofString "z; twice-and-one=\"\\\\o\\\""
noncomputable def toldS (a : Str) (n : Nat) : Str := mkS (a.cps.toList ++ ((rep (2 * n + 1) ++ [34]) ++ behS.cps.toList))
abbrev xvS (n : Nat) : Str := Str.ofString "\\o\"" ++ mkS (rep n) ++ Str.ofString "\""
noncomputable def yS (n : Nat) : Str := mkS ([92, 92, 111, 34] ++ (rep (2 * n) ++ [34]))
noncomputable def zS (n : Nat) : Str := mkS ([92, 92, 111, 92, 34] ++ (rep (2 * n) ++ [92, 34]))
theorem xv_mk (n : Nat) : xvS n = mkS ([92, 111, 34] ++ rep n ++ [34]) := by
  show mkS [92, 111, 34] ++ mkS (rep n) ++ mkS [34] = _
  rw [app_mk, app_mk]
theorem xv_asc (n : Nat) : Asc (xvS n) := by
  rw [xv_mk]
  intro c hc
  have hc : c ∈ [92, 111, 34] ++ rep n ++ [34] := hc
  rcases List.mem_append.mp hc with hc | hc
  · rcases List.mem_append.mp hc with hc | hc
    · exact (by decide : ∀ c ∈ [92, 111, 34], 32 ≤ c ∧ c < 127) c hc
    · rw [List.eq_of_mem_replicate hc]; decide
  · rw [List.mem_singleton.mp hc]; decide
theorem xv_len (n : Nat) : (xvS n).length = n + 4 := by rw [xv_mk, len_mk]; simp
theorem y_len (n : Nat) : (yS n).length = 2 * n + 5 := by unfold yS; rw [len_mk]; simp
theorem z_len (n : Nat) : (zS n).length = 2 * n + 7 := by unfold zS; rw [len_mk]; simp
theorem y_e : ∀ k : Fin 13, Txt.replace (xvS (2 * k + 1)) (Str.ofString "\\") (Str.ofString "\\\\") = yS (2 * k + 1) := by decide +kernel
theorem z_e : ∀ k : Fin 13, Txt.replace (yS (2 * k + 1)) (Str.ofString "\"") (Str.ofString "\\\"") = zS (2 * k + 1) := by decide +kernel
theorem mul_mk (n : Nat) : Txt.mul (Str.ofString "\\") ((n + 1 : Nat) : Int) = mkS (rep (n + 1)) := by
  have h0 : ¬ ((n + 1 : Nat) : Int) < 1 := by omega
  have key : ∀ (n : Nat) (a : List Nat), List.foldl (fun (x1 x2 : Array Nat) => x1 ++ x2) a.toArray (List.replicate n #[92]) = (a ++ rep n).toArray := by
    intro n
    induction n with
    | zero => intro a; simp
    | succ n ih =>
      intro a
      have := ih (a ++ [92])
      rw [List.replicate_succ, List.foldl_cons]
      have e : a.toArray ++ #[92] = (a ++ [92]).toArray := by simp
      rw [e, this, rep_succ]
      simp
  unfold Txt.mul
  rw [if_neg h0]
  split
  · rename_i h
    cases n with
    | zero => rfl
    | succ n =>
      exfalso
      have h2 : ((Str.ofString "\\").length == 0) = false := by decide
      rw [h2, Bool.or_false] at h
      have := of_decide_eq_true h
      omega
  · have e : ((n + 1 : Nat) : Int).toNat = n + 1 := by omega
    rw [e]
    exact congrArg Str.mk (key (n + 1) [])
theorem mul_run {n : Nat} (h : 1 ≤ n) : Txt.mul (Str.ofString "\\") ((mkS (rep n)).length : Int) = mkS (rep n) := by
  rw [len_mk, List.length_replicate]
  obtain ⟨m, rfl⟩ : ∃ m, n = m + 1 := ⟨n - 1, by omega⟩
  exact mul_mk m
theorem row_e (a : Str) (n : Nat) : a ++ Txt.mul (Str.ofString "\\") (2 * ((mkS (rep n)).length : Int) + 1) ++ Str.ofString "\"" ++ behS = toldS a n := by
  have e : (2 * ((mkS (rep n)).length : Int) + 1) = ((2 * n + 1 : Nat) : Int) := by rw [len_mk, List.length_replicate]; omega
  rw [e, mul_mk]
  show mkS a.cps.toList ++ mkS (rep (2 * n + 1)) ++ mkS [34] ++ mkS behS.cps.toList = _
  rw [app_mk, app_mk, app_mk]
  unfold toldS
  simp only [List.append_assoc]
theorem join3 (a b c : List Nat) : Txt.join (Str.ofString "; ") [mkS a, mkS b, mkS c] = mkS (a ++ [59, 32] ++ b ++ [59, 32] ++ c) := by
  show Str.mk (a.toArray ++ #[59, 32] ++ b.toArray ++ #[59, 32] ++ c.toArray) = _
  simp
theorem join4 (z a b c : List Nat) : Txt.join (Str.ofString "; ") [mkS z, mkS a, mkS b, mkS c] = mkS (z ++ [59, 32] ++ a ++ [59, 32] ++ b ++ [59, 32] ++ c) := by
  show Str.mk (z.toArray ++ #[59, 32] ++ a.toArray ++ #[59, 32] ++ b.toArray ++ #[59, 32] ++ c.toArray) = _
  simp
theorem parE_mk (n : Nat) : parE (zS n) = [mkS ((Str.ofString "twice-and-one").cps.toList ++ [61, 34] ++ ([92, 92, 111, 92, 34] ++ (rep (2 * n) ++ [92, 34])) ++ [34]), mkS (par (Str.ofString "plain") (Str.ofString "ok")).cps.toList, mkS (Str.ofString "no-more").cps.toList] := by
  have e : par (Str.ofString "twice-and-one") (zS n) = mkS ((Str.ofString "twice-and-one").cps.toList ++ [61, 34] ++ ([92, 92, 111, 92, 34] ++ (rep (2 * n) ++ [92, 34])) ++ [34]) := by
    show mkS [] ++ mkS (Str.ofString "twice-and-one").cps.toList ++ mkS [61, 34] ++ mkS ([92, 92, 111, 92, 34] ++ (rep (2 * n) ++ [92, 34])) ++ mkS [34] = _
    rw [app_mk, app_mk, app_mk, app_mk]
    rfl
  unfold parE
  rw [e]
theorem beh_split : [34] ++ [34] ++ [59, 32] ++ (par (Str.ofString "plain") (Str.ofString "ok")).cps.toList ++ [59, 32] ++ (Str.ofString "no-more").cps.toList = [34] ++ behS.cps.toList := by decide +kernel
theorem ahE_split : (Str.ofString "twice-and-one").cps.toList ++ [61, 34] ++ [92, 92, 111, 92, 34] = ahE.cps.toList := by decide +kernel
theorem ahO_split : (Str.ofString "z").cps.toList ++ [59, 32] ++ ((Str.ofString "twice-and-one").cps.toList ++ [61, 34] ++ [92, 92, 111, 92, 34]) = ahO.cps.toList := by decide +kernel
theorem rep_last (n : Nat) (l : List Nat) : rep (2 * n) ++ (92 :: l) = rep (2 * n + 1) ++ l := (rep_app _ _).symm
theorem told_e (n : Nat) : Txt.join (Str.ofString "; ") (parE (zS n)) = toldS ahE n := by
  rw [parE_mk, join3]
  unfold toldS
  rw [List.append_assoc (rep _) [34], ← beh_split, ← rep_last, ← ahE_split]
  simp only [List.append_assoc, List.cons_append, List.nil_append]
theorem told_o (n : Nat) : Txt.join (Str.ofString "; ") (Str.ofString "z" :: parE (zS n)) = toldS ahO n := by
  rw [parE_mk]
  refine (join4 (Str.ofString "z").cps.toList _ _ _).trans ?_
  unfold toldS
  rw [List.append_assoc (rep _) [34], ← beh_split, ← rep_last, ← ahO_split]
  simp only [List.append_assoc, List.cons_append, List.nil_append]
theorem told_len (a : Str) (n : Nat) : (toldS a n).length = a.length + (2 * n + 2 + 22) := by
  unfold toldS
  rw [len_mk]
  have e : behS.cps.toList.length = 22 := by decide +kernel
  have e2 : a.cps.toList.length = a.length := rfl
  simp only [List.length_append, List.length_replicate, e, e2, List.length_cons, List.length_nil]
theorem told_text (a : Str) (n : Nat) : Txt.slice (toldS a n) (some a.length) (some (-(behS.length : Int))) = mkS (rep (2 * n + 1) ++ [34]) :=
  slice_in a.cps.toList (rep (2 * n + 1) ++ [34]) behS.cps.toList (by decide)
-- letters
noncomputable def ltr (i : Int) : Nat := (Txt.charAt (Str.ofString "adgjkostuvwxy") i).getD 0
noncomputable def whc (i : Int) : Nat := (Txt.charAt (Str.ofString " \t\n\r") i).getD 0
noncomputable def hdc (a : Int) (lc : Nat) : Nat := (119808 + 52 * a + lc - 97).toNat
theorem ltr_ok : ∀ l : Fin 13, 97 ≤ ltr l.val ∧ ltr l.val ≤ 122 := by decide +kernel
theorem whc_ok : ∀ l : Fin 4, isWs (whc l.val) = true ∧ ((⟨#[whc l.val]⟩ : Str) == Str.ofString "\n") = (whc l.val == 10) := by decide +kernel
theorem hd_ok : ∀ l a : Fin 13, inB1 ((hdc a.val (ltr l.val) : Nat) : Int) = false ∧ b3of (hdc a.val (ltr l.val)) = mkS [ltr l.val] ∧ isWs (hdc a.val (ltr l.val)) = false ∧ hdc a.val (ltr l.val) ≠ 34 ∧ hdc a.val (ltr l.val) ≠ 92 ∧ hdc a.val (ltr l.val) ≠ 10 := by decide +kernel
-- the way of a row's length
noncomputable def stp (n0 : Nat) : Nat → Nat × Int × Int
  | 0 => (n0, 1, 0)
  | i + 1 => let p := stp n0 i; if p.1 % 2 = 0 then (p.1 / 2, p.2.1, p.2.2) else ((3 * p.1 + 1) / 2, 3 * p.2.1, 3 * p.2.2 + (2 : Int) ^ i)
theorem stp_ok : ∀ n0 : Fin 14, ∀ i : Fin 5, 1 ≤ (stp (n0.val + 1) i.val).1 ∧ (stp (n0.val + 1) i.val).1 ≤ 26 ∧ 0 ≤ (stp (n0.val + 1) i.val).2.1 ∧ (stp (n0.val + 1) i.val).2.1 ≤ 100 ∧ 0 ≤ (stp (n0.val + 1) i.val).2.2 ∧ (stp (n0.val + 1) i.val).2.2 ≤ 1000 := by decide +kernel
theorem stp_end : ∀ n0 : Fin 14, (stp (n0.val + 1) 4).2.1 * ((n0.val + 1 : Nat) : Int) + (stp (n0.val + 1) 4).2.2 = 16 * ((stp (n0.val + 1) 4).1 : Int) := by decide +kernel
theorem stp_even {n0 i : Nat} (h : (stp n0 i).1 % 2 = 0) : stp n0 (i + 1) = ((stp n0 i).1 / 2, (stp n0 i).2.1, (stp n0 i).2.2) := if_pos h
theorem stp_odd {n0 i : Nat} (h : ¬ (stp n0 i).1 % 2 = 0) : stp n0 (i + 1) = ((3 * (stp n0 i).1 + 1) / 2, 3 * (stp n0 i).2.1, 3 * (stp n0 i).2.2 + (2 : Int) ^ i) := if_neg h
end
end
section
section
-- LX
open PySem PySem.W PyProof.Rows
section
variable {w : World} {h₀ base : Heap} {L fa : Addr} {cd : Value} {m mg mb : Str → Option Value} {s : Shared} {rest : List (Addr × Obj)} {mean : ExcName → Option Value} {p : Program} {loose : List Str}
/-- a lexer upon a tape, all its objects -/
structure Lex where
  x : Addr
  d : Addr
  tx : Addr
  td : Addr
  pb : Addr
  pb2 : Addr
  f : Addr
  c' : Addr
  cell : Addr
  left : Addr
  LL : Addr
  doc : Value
  pm : Value
  ct : Value
  t1 : Tok
  t3 : Tok
  t4 : Tok
  t5 : Tok
  t6 : Tok
  u1 : Tok
  u2 : Tok
  u3 : Tok
  u4 : Tok
  u5 : Tok
  u6 : Tok
  u7 : Tok
  tq : Tok
  oc : Obj
  oce : Obj
  vs : Array Value
noncomputable def Lex.objs (w : World) (l : Lex) (ln : Int) (t2 : Tok) (ys : List Value) (k : Nat) (rest : List (Addr × Obj)) : List (Addr × Obj) :=
  (l.x, instObj 224 l.d) :: (l.d, lexD w ln (.ref l.tx) l.pb l.t1 t2 l.t3 l.t4 l.t5 l.t6) :: (l.tx, instObj 224 l.td) :: (l.td, tapeD w .none l.pb2 l.f l.u1 l.u2 l.u3 l.u4 l.u5 l.u6 l.u7) :: (l.f, readO l.LL l.cell l.doc l.pm l.ct l.c') :: (l.c', l.oc) :: (l.cell, l.oce) :: (l.left, listOf (ys : List Value).toArray k) :: (l.pb, listOf ([] : List Value).toArray 0) :: rest
structure Lex.Ok (l : Lex) (rest : List (Addr × Obj)) : Prop where
  hoc : l.oc.data = .fields l.vs
  hvs : l.vs[1]? = some (.str (readQ l.LL) l.tq)
  hcell : l.oce.data = .cell (some (.ref l.left))
  ap : Apart l.x l.d l.tx l.td l.f l.c' l.cell l.left
  hpb : @Ne Nat l.pb l.d ∧ @Ne Nat l.pb l.left
  hd : ∀ p ∈ rest, p.1 ≠ l.d
  hl : ∀ p ∈ rest, p.1 ≠ l.left
abbrev tupR (a b : Addr) : Obj := { cls := .type "tuple", data := .seq #[.ref a, .ref b] }
theorem lexer_spec {Q : Value → Shared → Prop} {E : Value → Shared → Prop} {text : Str} {tt : Tok} {ex tab : List (Addr × Obj)}
  (B : Below callerA base [] h₀) (F : Fr h₀ L s.heap m) (X : (K1r w.params).In h₀) (T : Top p loose mean mg mb h₀) (C : CodeHd base 298 294)
  (N : News h₀ L s.heap (ex ++ tab)) (ht : TabSt tab) (hx : ∀ p ∈ ex, p.1 ≠ 294) (hsz : text.cps.size ≤ sizeLine)
  (h : ∀ h' tk (tup : Addr) (l : Lex) (t2 : Tok) (ys : List Value) (k : Nat) tab', TabSt tab' → Fr h₀ L h' m → News h₀ L h' ((tup, tupR l.x l.left) :: l.objs w 1 t2 ys k (ex ++ tab')) → l.Ok (ex ++ tab') → ChL ys text.cps.toList →
    Q (.ref tup) { heap := h', gens := s.gens, drawn := s.drawn, toks := tk, os := s.os }) :
  wpAny (model pw w) (callerA.deeper (lawE L fa cd)) (call (.ref 299) [.str text tt] []) Q E s := by
  have H : ∀ h' tk (tup x d tx td pb pb2 f c' cell left LL : Addr) (doc pm ct : Value) (t1 t2 t3 t4 t5 t6 u1 u2 u3 u4 u5 u6 u7 tq : Tok) (oc oce : Obj) (vs : Array Value) (ys : List Value) (k : Nat) tab', TabSt tab' → Fr h₀ L h' m →
    News h₀ L h' ((tup, ({ cls := .type "tuple", data := .seq #[.ref x, .ref left] } : Obj)) :: ((x, instObj 224 d) :: (d, lexD w 1 (.ref tx) pb t1 t2 t3 t4 t5 t6) :: (tx, instObj 224 td) :: (td, tapeD w .none pb2 f u1 u2 u3 u4 u5 u6 u7) :: (f, readO LL cell doc pm ct c') :: (c', oc) :: (cell, oce) :: (left, listOf (ys : List Value).toArray k) :: ((pb, listOf ([] : List Value).toArray 0) :: (ex ++ tab')))) →
    oc.data = .fields vs → vs[1]? = some (.str (readQ LL) tq) → oce.data = .cell (some (.ref left)) → ChL ys text.cps.toList → Apart x d tx td f c' cell left → (@Ne Nat pb d ∧ @Ne Nat pb left) →
    topA ex ≤ left → left < d → (∀ p ∈ tab', p.1 ≠ d) → (∀ p ∈ tab', p.1 ≠ left) → Q (.ref tup) { heap := h', gens := s.gens, drawn := s.drawn, toks := tk, os := s.os } := by
    intro h' tk tup x d tx td pb pb2 f c' cell left LL doc pm ct t1 t2 t3 t4 t5 t6 u1 u2 u3 u4 u5 u6 u7 tq oc oce vs ys k tab' ht' F' N' hoc hvs hcell hch hap hpb h1 h2 h3 h4
    refine h h' tk tup ⟨x, d, tx, td, pb, pb2, f, c', cell, left, LL, doc, pm, ct, t1, t3, t4, t5, t6, u1, u2, u3, u4, u5, u6, u7, tq, oc, oce, vs⟩ t2 ys k tab' ht' F' N' ⟨hoc, hvs, hcell, hap, hpb, ?_, ?_⟩ hch
    · intro p hp
      rcases List.mem_append.mp hp with hp | hp
      · exact ne_of_top (Nat.le_trans h1 (Nat.le_of_lt h2)) p hp
      · exact h3 p hp
    · intro p hp
      rcases List.mem_append.mp hp with hp | hp
      · exact ne_of_top h1 p hp
      · exact h4 p hp
  rcases ht with rfl | ⟨c, oc, vs, tq, rfl, hoc, hvs, hc⟩
  · exact lexer_new ⟨rfl, rfl⟩ B F X T C (fun p hp => N p (by
      rcases List.mem_cons.mp hp with rfl | hp
      · exact List.mem_append_right _ (.head _)
      · exact List.mem_append_left _ hp)) hx hsz H
  · exact lexer_old ⟨rfl, rfl⟩ B F X T C (fun p hp => N p (by
      rcases List.mem_cons.mp hp with rfl | hp
      · exact List.mem_append_right _ (.head _)
      · rcases List.mem_cons.mp hp with rfl | hp
        · exact List.mem_append_right _ (.tail _ (.head _))
        · exact List.mem_append_left _ hp)) hoc hvs hc hsz H
theorem token_spec {Q : Value → Shared → Prop} {E : Value → Shared → Prop} {cs LL : List Nat} {W : Str} {l : Lex} {ln : Int} {t2 : Tok} {ys : List Value} {k : Nat} {rest : List (Addr × Obj)}
  (B : Below callerA base [] h₀) (F : Fr h₀ L s.heap m) (X : (K1r w.params).In h₀) (T : Top p loose mean mg mb h₀) (C : CodeHd base 298 294)
  (N : News h₀ L s.heap (l.objs w ln t2 ys k rest)) (ok : l.Ok rest) (hch : ChL ys cs) (hz : cs.length + 2 ≤ sizeLine) (htok : tokenOf cs = (W, LL))
  (h : ∀ h' tk t2' ln' k' u ys', Fr h₀ L h' m → News h₀ L h' (l.objs w ln' t2' ys' k' rest) → ChL ys' LL → ln' + nlc LL = ln + nlc cs → Q (.str W u) { heap := h', gens := s.gens, drawn := s.drawn, toks := tk, os := s.os }) :
  wpAny (model pw w) (callerA.deeper (lawE L fa cd)) (call (.ref 214) [.ref l.x] []) Q E s := by
  refine gt_spec (cs := cs) ⟨rfl, rfl⟩ B F X T C ok.hoc ok.hvs ok.hcell N ok.ap ok.hd ok.hl ok.hpb (by rw [hch.length]; omega) hch hz ?_
  intro h' tk t2' ln' k' u ys' F' N' hc hl hle
  rw [htok] at hc hl ⊢
  exact h h' tk t2' ln' k' u ys' F' N' hc hl
end
end
end
section
section
-- NO
open PySem PySem.W PyProof.Rows PySem.Calls
section
variable {prog : Program} {w : World} {A : Around} {E : Value → Shared → Prop} {s : Shared} {h₀ : Heap} {L : Addr} {m : Str → Option Value} {news : List (Addr × Obj)}
theorem intsAre_of : ∀ (vs : List Value) (ns : List Int), vs.length = ns.length → (∀ (j : Nat) (v : Value), vs[j]? = some v → ∃ n t, ns[j]? = some n ∧ v = .int n t) → IntsAre vs ns
  | [], [], _, _ => .nil
  | [], _ :: _, h, _ => by cases h
  | _ :: _, [], h, _ => by cases h
  | v :: vs, n :: ns, h, k => by
    obtain ⟨n', t, e, rfl⟩ := k 0 v rfl
    obtain rfl : n = n' := by simpa using e
    exact .cons _ _ (intsAre_of vs ns (by simpa using h) fun j x hx => by simpa using k (j + 1) x (by simpa using hx))
theorem list_rangeK {r : Addr} {a b c : Int} {t u v : Tok} {Q : Value → Shared → Prop} (n : Nat) (hh : A.handled = none) (F : Fr h₀ L s.heap m) (N : News h₀ L s.heap news)
    (hr : IsRange s.heap r a b c t u v) (hsmall : Builtin.Range.small a b c = true) (hn : Builtin.Range.rangeSize a b c = (n : Int)) (hlen : n ≤ 2 ^ 24)
    (h : ∀ D (ys : List Value) k h' tk, Fr h₀ L h' m → News h₀ L h' ((D, listOf ys.toArray k) :: news) → IntsAre ys (rangeInts a c n) → Q (.ref D) { s with heap := h', toks := tk }) :
    wpAny (model prog w) A (call (.type "list") [.ref r]) Q E s := by
  refine call_list_range hh hr hsmall hn hlen fun h' tk acc' c' hk hD hacc => h _ acc'.toList c' h' tk (F.keeps hk) (news_pushed F N hk (by simpa using hD) rfl) ?_
  refine intsAre_of _ _ (by rw [rangeInts_length]; simpa using hacc.1) fun j v hv => ?_
  have hv' : acc'[j]? = some v := by simpa using hv
  obtain ⟨t, rfl⟩ := hacc.2 j v hv'
  have hj : j < n := by
    have := (Array.getElem?_eq_some_iff.mp hv').1
    have e := hacc.1
    omega
  exact ⟨_, t, rangeInts_get hj, rfl⟩
end
theorem add_abs {prog : Program} {w : World} {A : Around} {E : Value → Shared → Prop} {s : Shared} {h₀ : Heap} {L : Addr} {m : Str → Option Value} {news : List (Addr × Obj)} {l b : Addr} {vs ws : List Value} {ns ms : List Int} {Q : Value → Shared → Prop} (F : Fr h₀ L s.heap m) (N : News h₀ L s.heap news)
    (hl : s.heap.IsList l vs.toArray) (hb : s.heap.IsList b ws.toArray) (hi : IntsAre vs ns) (hj : IntsAre ws ms) (hsz : ns.length + ms.length ≤ sizeLine)
    (h : ∀ D (cs : List Value) h', Fr h₀ L h' m → News h₀ L h' ((D, listOf cs.toArray 0) :: news) → IntsAre cs (ns ++ ms) → Q (.ref D) { s with heap := h' }) :
    wpAny (model prog w) A (binaryOp .Add (.ref l) (.ref b)) Q E s :=
  add_lists_ints F N hl hb hi hj (fun h' F' N' ia => h _ _ h' F' N' ia) hsz
theorem item_K {prog : Program} {w : World} {A : Around} {E : Value → Shared → Prop} {s : Shared} {value slice : PySem.Expr} {l : Addr} {vs : List Value} {k n : Int} {u : Tok} {ns : List Int} {Q : Value → Shared → Prop}
    (hl : s.heap.IsList l vs.toArray) (hi : IntsAre vs ns) (h0 : 0 ≤ k) (hn : ns[k.toNat]? = some n) (hz : k < 65536) (h : ∀ t, Q (.int n t) s)
    (hs : subscripted slice false (.ref l) (.int k u) = operate [.ref l, .int k u] (getItem (.ref l) (.int k u)) := by with_unfolding_all rfl) :
    wpAny (model prog w) A (subscriptTail value slice (.ref l) (.int k u)) Q E s := by
  obtain ⟨t, hx⟩ := hi.get k.toNat n hn
  exact tail_any hl.typeIs slot_list_getitem.lookup (wpAny_getItem_list hl h0 (Int.lt_trans hz (by decide)) (by simpa using hx) (h t)) hs
noncomputable def b1Codes : List Int := [173, 847, 6150, 6155, 6156, 6157, 8203, 8204, 8205, 8288, 65279] ++ rangeInts 65024 1 16
theorem b1Codes_all : ∀ i : Fin 27, ∃ n, b1Codes[i.1]? = some n ∧ 0 ≤ n ∧ n ≤ 1114111 ∧ inB1 n = true := by
  intro i
  refine ⟨(b1Codes[i.1]?).getD 0, ?_⟩
  revert i
  decide +kernel
theorem b1Codes_at {k : Int} (h0 : 0 ≤ k) (h1 : k < 27) : ∃ n, b1Codes[k.toNat]? = some n ∧ 0 ≤ n ∧ n ≤ 1114111 ∧ inB1 n = true := b1Codes_all ⟨k.toNat, by omega⟩
local macro_rules | `(tactic| walk_at "call type:list") => `(tactic| (k_here; (try dsimp only); (with_reducible show wpAny _ _ (call (Value.type _) [Value.ref _]) _ _ _); k_dflt (refine' list_rangeK 16 rfl ?_ ?_ ?_ rfl rfl ?_ ?_; rotate_right 5; k_asm; k_asm; assumption; decide); intro _ _ _ _ _ _ _ _))
local macro_rules | `(tactic| walk_at "subscriptTail") => `(tactic| (k_here; walk_at "%i"; k_dflt (refine' item_K (News.isList ?N ?m) ?hi ?h0 ?hn ?hz ?_; (case N => k_asm); (case m => k_mem); (case hi | h0 | hn => assumption); (case hz => omega)); intro _))
local macro_rules | `(tactic| walk_at "call builtin:chr") => `(tactic| (k_here; (with_reducible show wpAny _ _ (call (Value.builtin "chr") [Value.int _ _]) _ _ _); refine chr_of_range (by assumption) (by assumption) ?_))
local macro_rules | `(tactic| walk_at "spliced") => `(tactic| (k_here; dsimp only))
section
variable {w : World} {h₀ base : Heap} {L fa : Addr} {cd : Value} {m mg mb : Str → Option Value} {s : Shared} {rest : List (Addr × Obj)} {mean : ExcName → Option Value} {p : Program} {loose : List Str}
set_option maxHeartbeats 1000000 in
set_option pp.deepTerms false in
theorem nothing_spec {Q : Value → Shared → Prop} {E : Value → Shared → Prop} {i : Int} {t : Tok} (dummy : PySem.Challenge.rw_sh0067_01 = PySem.Challenge.rw_sh0067_01 ∧ K1r = K1r)
  (B : Below callerA base [] h₀) (F : Fr h₀ L s.heap m) (X : (K1r w.params).In h₀) (T : Top p loose mean mg mb h₀) (C : CodeHd base 298 294) (N : News h₀ L s.heap rest) (h0 : 0 ≤ i) (h1 : i < 27)
  (h : ∀ (n : Int) h' tk u, inB1 n = true → Fr h₀ L h' m → News h₀ L h' rest → Q (.str ⟨#[n.toNat]⟩ u) { heap := h', gens := s.gens, drawn := s.drawn, toks := tk, os := s.os }) :
  wpAny (model pw w) (callerA.deeper (lawE L fa cd)) (call (.ref 306) [.int i t] []) Q E s := by
  revert dummy
  k_fill
  intro _
  w_on
  repeat ((fail_if_success (with_reducible show wpAny _ _ (binaryOp Operator.Add (Value.ref _) (Value.ref _)) _ _ _)); (first | (k_unfold; (try dsimp only)) | walk1 | (dsimp only; walk1)))
  rename CarriedAll _ _ => ca
  rename Heap.IsList _ _ _ => hb
  have ia := CarriedAll.intsOf ca
  dsimp only at hb ⊢
  obtain ⟨n, hn, hn0, hn1, hnb⟩ := b1Codes_at h0 h1
  refine' add_abs (ns := [173, 847, 6150, 6155, 6156, 6157, 8203, 8204, 8205, 8288, 65279]) ?F ?N (News.isList ?N2 ?m) hb (.cons _ _ (.cons _ _ (.cons _ _ (.cons _ _ (.cons _ _ (.cons _ _ (.cons _ _ (.cons _ _ (.cons _ _ (.cons _ _ (.cons _ _ .nil))))))))))) ia (by decide) ?_
  case F => k_asm
  case N => k_asm
  case N2 => k_asm
  case m => k_mem
  intro D' cs h' F' N' ib
  clear hb ia ca
  replace N' : News _ _ _ ((D', listOf cs.toArray 0) :: rest) := news_sub N' (List.forall_mem_cons.mpr ⟨by k_mem, fun p hp => .tail _ (.tail _ hp)⟩)
  dsimp only
  k_steps
  exact h _ _ _ _ hnb (by assumption) (fun p hp => (by assumption : News h₀ L _ ((_, _) :: rest)) p (.tail _ hp))
end
end
end
section
section
-- PC
open PySem PySem.W PyProof.Rows PySem.Calls
section
variable {prog : Program} {w : World} {A : Around} {E : Value → Shared → Prop} {s : Shared} {env : Env}
theorem nn {a b : Nat} (h : @LT.lt Nat _ a b) : ¬ a = b := Nat.ne_of_lt h
theorem nn' {a b : Nat} (h : @LT.lt Nat _ b a) : ¬ a = b := Nat.ne_of_gt h
theorem pairs_loop {elt iter c : PySem.Expr} {a b : Str} {pa pb tp : Pos} {kk : Nat} {scope : Scope} {pos : Pos} {I D ax : Addr} {items : Array Value} {cenv : Env} {m : Str → Option Value} {R : Result → Shared → Prop} (p : Value → Bool) (Fp : Value → Value → Prop)
    (hh : A.handled = none) (ha : cenv.kindOf a = some .local) (hb : cenv.kindOf b = some .local) (hab : ¬ a = b) (hp : (cenv.scope.kind == .class || (cenv.scope.kind == .module && cenv.locals != cenv.globals)) = false)
    (hDC : D ≠ cenv.locals) (hDI : D ≠ I) (hCI : cenv.locals ≠ I) (hxI : ax ≠ I) (hxD : ax ≠ D) (hxC : ax ≠ cenv.locals)
    (hit : s.heap.IsListIter I ax 0) (hl : s.heap.IsList ax items) (hacc : s.heap.PlainList D #[]) (hn : s.heap.Ns cenv.locals m) (hsz : items.size ≤ sizeLine)
    (htup : ∀ v ∈ items, ∃ T x y, v = .ref T ∧ T ≠ cenv.locals ∧ T ≠ I ∧ T ≠ D ∧ s.heap.IsTuple T #[x, y])
    (htest : ∀ T x y s₂ m₂, .ref T ∈ items → s.heap.IsTuple T #[x, y] → s₂.heap.Ns cenv.locals m₂ → m₂ a = some x → m₂ b = some y → (∀ b o, b ≠ cenv.locals → b ≠ I → b ≠ D → s.heap.get? b = some o → s₂.heap.get? b = some o) →
      wpAny (model prog w) A (isTrue c cenv (eval c cenv)) (fun ok s₃ => ok = p (.ref T) ∧ Keeps s₂ s₃) (notedBy (model prog w) A cenv fun e s' => R (.error e) s') s₂)
    (helt : ∀ T x y s₂ m₂, .ref T ∈ items → p (.ref T) = true → s.heap.IsTuple T #[x, y] → s₂.heap.Ns cenv.locals m₂ → m₂ a = some x → m₂ b = some y → (∀ b o, b ≠ cenv.locals → b ≠ I → b ≠ D → s.heap.get? b = some o → s₂.heap.get? b = some o) →
      wpAny (model prog w) A (eval elt cenv) (fun z s₃ => Fp (.ref T) z ∧ Keeps s₂ s₃) (notedBy (model prog w) A cenv fun e s' => R (.error e) s') s₂)
    (hR : ∀ h' tk m' ys, h'.Ns cenv.locals m' → h'.IsList D ys → Paired Fp (items.toList.filter p) ys.toList →
      (∀ b o, b ≠ cenv.locals → b ≠ I → b ≠ D → s.heap.get? b = some o → h'.get? b = some o) → R (.ok .next) { s with heap := h', toks := tk }) :
    codeAny (model prog w) A (.compLoop (.ListComp elt [⟨.Tuple [.Name a pa, .Name b pb] kk tp, iter, [c], 0⟩] scope pos) 0 (.ref I) (.ref D) cenv) R s := by
  have W := Walks.list (prog := prog) (w := w) hh I ax hxI items
  refine kct_loop
    (fun k s' => ∃ h' tk m' ys i, s' = { s with heap := h', toks := tk } ∧ (h'.IsListIter I ax i ∧ h'.IsList ax items) ∧ h'.PlainList D ys ∧ h'.Ns cenv.locals m' ∧
      Paired Fp ((items.toList.take i).filter p) ys.toList ∧ i ≤ items.size ∧ k = items.size + 1 - i ∧
      (∀ b o, b ≠ cenv.locals → b ≠ I → b ≠ D → s.heap.get? b = some o → h'.get? b = some o)) ?_ (items.size + 1)
    ⟨s.heap, s.toks, m, #[], 0, rfl, ⟨hit, hl⟩, hacc, hn, by simpa using Paired.nil, Nat.zero_le _, rfl, fun _ _ _ _ _ e => e⟩
  rintro k s' ⟨H, tk, m', ys, i, rfl, hst', hacc', hn', hF, hi, rfl, hk⟩
  by_cases hlt : i < items.size
  · refine W.item i _ _ _ hlt hst' fun v h₁ tk₁ hPv hst₁ hk₁ => ?_
    have hv : v ∈ items := Array.mem_of_getElem? hPv
    obtain ⟨T, x, y, rfl, hTC, hTI, hTD, hT⟩ := htup v hv
    have up₁ : ∀ b o, b ≠ I → H.get? b = some o → h₁.get? b = some o := fun b o hb e => hk₁ b o (by simpa using hb) e
    have hT₁ : h₁.IsTuple T #[x, y] := by
      obtain ⟨o, ho, r⟩ := hT
      exact ⟨o, up₁ _ _ hTI (hk _ _ hTC hTI hTD ho), r⟩
    refine wpAny_letOwnedTupleGo_listiter hst₁.1 ?_
    refine kcp_assign hh hT₁ ha hb hp (hn'.at' fun o e => up₁ _ o hCI e) fun h₂ tk₂ hn₂ hs₂ => ?_
    have up₂ : ∀ b o, b ≠ cenv.locals → b ≠ I → H.get? b = some o → h₂.get? b = some o := fun b o hbC hbI e => hs₂ b o hbC (up₁ b o hbI e)
    have hst₂ : h₂.IsListIter I ax (i + 1) ∧ h₂.IsList ax items := W.frame _ _ _ hst₁ fun b hb o e => hs₂ b o (fun q => by
      rcases List.mem_cons.mp (q ▸ hb) with e | e
      · exact hCI e
      · exact hxC (List.mem_singleton.mp e).symm) e
    have keep₂ : ∀ b o, b ≠ cenv.locals → b ≠ I → b ≠ D → s.heap.get? b = some o → h₂.get? b = some o := fun b o hbC hbI hbD e => up₂ b o hbC hbI (hk b o hbC hbI hbD e)
    have htake : items.toList.take (i + 1) = items.toList.take i ++ [.ref T] := by
      rw [List.take_add_one]
      congr 1
      rw [show items.toList[i]? = items[i]? from by simp, hPv]; rfl
    refine wpAny_mono (htest T x y _ _ hv hT hn₂ (by simp [hab]) (by simp) keep₂) (fun ok s₃ h₃ => ?_) fun _ _ e => e
    obtain ⟨rfl, h₃, tk₃, rfl, hk₃⟩ := h₃
    have hst₃ : h₃.IsListIter I ax (i + 1) ∧ h₃.IsList ax items := W.frame _ _ _ hst₂ fun b _ o e => hk₃ b o e
    have hacc₃ : h₃.PlainList D ys := hacc'.at fun o e => hk₃ _ o (up₂ D o hDC hDI e)
    have hn₃ := hn₂.keeps hk₃
    cases hpv : p (.ref T) with
    | false =>
      simp only [Bool.false_eq_true, if_false]
      refine ⟨items.size + 1 - (i + 1), by omega, h₃, tk₃, _, ys, i + 1, rfl, hst₃, hacc₃, hn₃, ?_, hlt, rfl, fun b o hbC hbI hbD e => hk₃ b o (keep₂ b o hbC hbI hbD e)⟩
      rw [htake, List.filter_append]; simpa [hpv] using hF
    | true =>
      simp only [if_true]
      refine wpAny_mono (helt T x y _ _ hv hpv hT hn₃ (by simp [hab]) (by simp) (fun b o hbC hbI hbD e => hk₃ b o (keep₂ b o hbC hbI hbD e))) (fun z s₄ h₄ => ?_) fun _ _ e => e
      obtain ⟨hFy, h₄, tk₄, rfl, hk₄⟩ := h₄
      have hys : ys.size ≤ sizeLine := by
        have e1 := hF.length
        have e2 : ((items.toList.take i).filter p).length ≤ (items.toList.take i).length := List.length_filter_le _ _
        have e3 : (items.toList.take i).length ≤ i := List.length_take_le _ _
        have e4 : ys.toList.length = ys.size := by simp
        omega
      refine wpAny_list_append_plain (hsz := hys) (hacc₃.at fun o e => hk₄ _ o e) fun h₅ hl₅ hs₅ => ?_
      refine ⟨items.size + 1 - (i + 1), by omega, h₅, tk₄, _, ys.push z, i + 1, rfl, ?_, hl₅, (hn₃.keeps hk₄).sameBut hs₅ (Ne.symm hDC), ?_, hlt, rfl,
        fun b o hbC hbI hbD e => hs₅.extBut b o hbD (hk₄ b o (hk₃ b o (keep₂ b o hbC hbI hbD e)))⟩
      · exact W.frame _ _ h₅ hst₃ fun b hb o e => hs₅.extBut b o (fun q => by
          rcases List.mem_cons.mp (q ▸ hb) with e | e
          · exact hDI e
          · exact hxD (List.mem_singleton.mp e).symm) (hk₄ b o e)
      · rw [htake, List.filter_append]; simpa [hpv] using Paired.snoc hF hFy
  · have hin : i = items.size := by omega
    subst hin
    refine W.done _ _ _ hst' fun h₁ tk₁ hk₁ => ?_
    have up₁ : ∀ b o, b ≠ I → H.get? b = some o → h₁.get? b = some o := fun b o hb e => hk₁ b o (by simpa using hb) e
    refine hR h₁ tk₁ m' ys (hn'.at' fun o e => up₁ _ o hCI e) (hacc'.at fun o e => up₁ _ o hDI e).isList ?_ fun b o hbC hbI hbD e => up₁ b o hbI (hk b o hbC hbI hbD e)
    rwa [List.take_of_length_le (by simp)] at hF
theorem pairs_ListComp {elt iter c : PySem.Expr} {a b : Str} {pa pb tp : Pos} {kk : Nat} {scope : Scope} {cl : List (Str × Addr)} {pos : Pos} {Q : Value → Shared → Prop} (p : Value → Bool) (Fp : Value → Value → Prop)
    (hclos : closureFor scope env = pure cl) (hcell : ∀ y ∈ scope.names, y.2 ≠ .cell) (hkind : scope.kind = .function)
    (hnames : ∀ y ∈ scope.names, y.2 = .local → scope.names.lookup y.1 = some .local) (hxa : scope.names.lookup a = some .local) (hxb : scope.names.lookup b = some .local) (hab : ¬ a = b) (hh : A.handled = none)
    (h : wpAny (model prog w) A (eval iter env) (fun xv s₁ => ∃ ax items, xv = .ref ax ∧ s₁.heap.IsList ax items ∧ items.size ≤ sizeLine ∧
      (∀ v ∈ items, ∃ T x y, v = .ref T ∧ s₁.heap.IsTuple T #[x, y]) ∧
      (∀ C T x y s₂ m₂ E', .ref T ∈ items → s₁.heap.IsTuple T #[x, y] → s₂.heap.Ns C m₂ → m₂ a = some x → m₂ b = some y → (∀ b o, s₁.heap.get? b = some o → s₂.heap.get? b = some o) →
        wpAny (model prog w) A (isTrue c (compEnvC scope cl C env) (eval c (compEnvC scope cl C env))) (fun ok s₃ => ok = p (.ref T) ∧ Keeps s₂ s₃) E' s₂) ∧
      (∀ C T x y s₂ m₂ E', .ref T ∈ items → p (.ref T) = true → s₁.heap.IsTuple T #[x, y] → s₂.heap.Ns C m₂ → m₂ a = some x → m₂ b = some y → (∀ b o, s₁.heap.get? b = some o → s₂.heap.get? b = some o) →
        wpAny (model prog w) A (eval elt (compEnvC scope cl C env)) (fun z s₃ => Fp (.ref T) z ∧ Keeps s₂ s₃) E' s₂) ∧
      (∀ D h' tk ys, s₁.heap.get? D = none → h'.IsList D ys → Paired Fp (items.toList.filter p) ys.toList → (∀ b o, s₁.heap.get? b = some o → h'.get? b = some o) → Q (.ref D) { s₁ with heap := h', toks := tk })) E s)
    (hs : ∀ x, foldedSetIterable iter env x = pure x := by intro _; rfl) :
    wpAny (model prog w) A (eval (.ListComp elt [⟨.Tuple [.Name a pa, .Name b pb] kk tp, iter, [c], 0⟩] scope pos) env) Q E s := by
  rw [eval_ListComp]
  refine wpAny_comprehension_free (use := none) rfl hs hclos hkind hnames (wpAny_mono h (fun xv s₁ h₁ => ?_) fun _ _ e => e)
  obtain ⟨ax, items, rfl, hl, hsz, htup, htest, helt, hQ⟩ := h₁
  refine wpAny_pyIter_list hl ?_
  refine wpAny_newObj_type (wpAny_newFunctionEnv hcell (by intro y hy; simp at hy) (fun h₁ hns₁ hsb₁ => ?_) hkind)
  dsimp only at hns₁ hsb₁ ⊢
  have sz0 : ∀ (h : Heap) (o : Obj), (h.push o).objs.size = h.objs.size + 1 := fun h o => Heap.size_push ..
  generalize hH1 : s₁.heap.push { cls := .type "list_iterator", data := .fields #[.ref ax, .int 0 0] } = H1 at hns₁ hsb₁ ⊢
  generalize hH2 : H1.push { cls := .type "list", dict := none, data := .seq ([] : List Value).toArray } = H2 at hns₁ hsb₁ ⊢
  have h1 : H1.objs.size = s₁.heap.objs.size + 1 := by rw [← hH1, sz0]
  have h2 : H2.objs.size = s₁.heap.objs.size + 1 + 1 := by rw [← hH2, sz0, h1]
  have up1 : ∀ b o, s₁.heap.get? b = some o → H1.get? b = some o := fun b o e => hH1 ▸ Heap.get?_push_of_some _ e
  have up2 : ∀ b o, H1.get? b = some o → H2.get? b = some o := fun b o e => hH2 ▸ Heap.get?_push_of_some _ e
  have lt0 : ∀ (b : Nat) o, s₁.heap.get? b = some o → @LT.lt Nat _ b s₁.heap.objs.size := fun b o e => Heap.lt_size e
  have up3 : ∀ (b : Nat) o, @LT.lt Nat _ b H2.objs.size → H2.get? b = some o → h₁.get? b = some o := fun b o hb e => hsb₁.extBut b o (Nat.ne_of_lt hb) (Heap.get?_push_of_some _ e)
  have old : ∀ b o, s₁.heap.get? b = some o → h₁.get? b = some o := fun b o e => up3 b o (by have := lt0 b o e; omega) (up2 b o (up1 b o e))
  have hI : h₁.IsListIter s₁.heap.objs.size ax 0 := ⟨_, up3 _ _ (by omega) (up2 _ _ (hH1 ▸ Heap.get?_push_size _ rfl)), rfl, rfl⟩
  have hD : h₁.PlainList H1.objs.size #[] := ⟨_, up3 _ _ (by omega) (hH2 ▸ Heap.get?_push_size _ rfl)⟩
  obtain ⟨oax, hoax, _⟩ := id hl
  have hax := lt0 _ _ hoax
  have tupOf : ∀ T x y, Value.ref T ∈ items → h₁.IsTuple T #[x, y] → s₁.heap.IsTuple T #[x, y] := by
    intro T x y hT ht
    obtain ⟨T', x', y', e, hT'⟩ := htup _ hT
    cases e
    obtain ⟨o, ho, hc, n, hd⟩ := ht
    obtain ⟨o', ho', hc', n', hd'⟩ := hT'
    have e2 := old _ _ ho'
    rw [ho] at e2
    cases e2
    exact ⟨o, ho', hc, n, hd⟩
  have keepOf : ∀ s₂ : Shared, (∀ b o, b ≠ (compEnvC scope cl H2.objs.size env).locals → b ≠ s₁.heap.objs.size → b ≠ H1.objs.size → h₁.get? b = some o → s₂.heap.get? b = some o) → ∀ b o, s₁.heap.get? b = some o → s₂.heap.get? b = some o := by
    intro s₂ hk b o e
    have := lt0 _ _ e
    exact hk b o (nn (b := H2.objs.size) (by omega)) (Nat.ne_of_lt this) (nn (by omega)) (old b o e)
  have key := pairs_loop (prog := prog) (w := w) (R := compPost (model prog w) A E none Q (.ref H1.objs.size) H2.objs.size) (elt := elt) (iter := iter) (c := c) (a := a) (b := b) (pa := pa) (pb := pb) (tp := tp) (kk := kk) (scope := scope) (pos := pos)
    (s := { s₁ with heap := h₁, toks := s₁.toks + ([] : List (Str × Value)).length }) (cenv := compEnvC scope cl H2.objs.size env) (I := s₁.heap.objs.size) (D := H1.objs.size) (ax := ax) (items := items) p Fp hh (lookup_relabel_local hxa) (lookup_relabel_local hxb) hab
    (by simp [compEnvC, relabel, hkind]) (nn (b := H2.objs.size) (by omega)) (nn' (by omega)) (nn' (a := H2.objs.size) (by omega)) (Nat.ne_of_lt hax) (nn (by omega)) (nn (b := H2.objs.size) (by omega))
    hI (hl.at fun o e => old _ _ e) hD hns₁ hsz
    (fun v hv => by
      obtain ⟨T, x, y, e, hT⟩ := htup v hv
      obtain ⟨oT, hoT, r⟩ := id hT
      have := lt0 _ _ hoT
      exact ⟨T, x, y, e, nn (b := H2.objs.size) (by omega), Nat.ne_of_lt this, nn (by omega), ⟨oT, old _ _ hoT, r⟩⟩)
    ?_ ?_ ?_
  · exact codeAny_compStart_list key (wpAny_pyIter_listiter hI key)
  · intro T x y s₂ m₂ hT ht hn e1 e2 hk
    exact htest _ T x y s₂ m₂ _ hT (tupOf T x y hT ht) hn e1 e2 (keepOf s₂ hk)
  · intro T x y s₂ m₂ hT hp ht hn e1 e2 hk
    exact helt _ T x y s₂ m₂ _ hT hp (tupOf T x y hT ht) hn e1 e2 (keepOf s₂ hk)
  · intro h' tk m' ys hn' hD' hP hk
    refine ⟨m', hn', fun h'' hs'' => hQ H1.objs.size h'' tk ys ?_ (hD'.extBut hs''.extBut (nn (by omega))) hP fun b o e => hs''.extBut b o ?_ (hk b o ?_ ?_ ?_ (old b o e))⟩
    · cases e : s₁.heap.get? H1.objs.size with
      | none => rfl
      | some o => have := lt0 _ _ e; omega
    · have := lt0 _ _ e; exact nn (by omega)
    · have := lt0 _ _ e; exact nn (b := H2.objs.size) (by omega)
    · have := lt0 _ _ e; exact Nat.ne_of_lt this
    · have := lt0 _ _ e; exact nn (by omega)
end
end
end
section
section
-- GA
open PySem PySem.W PyProof.Rows
abbrev gaE (L : Addr) : Env := envOfC (S "Headers.get_all") (dS [7, 7]) L 121 (.ref 120)
abbrev gaA (L fa : Addr) (cd : Value) (L' : Addr) : Around := (callerA.deeper (lawE L fa cd)).deeper (gaE L')
noncomputable def gaC : PySem.Expr := match ((dB [7, 7])[1]? : Option Stmt) with
  | some (.Return (some e) _) => e
  | _ => default
noncomputable def gaS : Scope := match gaC with
  | .ListComp _ _ s _ => s
  | _ => default
noncomputable def gaIf : PySem.Expr := match gaC with
  | .ListComp _ (⟨_, _, [e], _⟩ :: _) _ _ => e
  | _ => default
noncomputable def gaElt : PySem.Expr := match gaC with
  | .ListComp e _ _ _ => e
  | _ => default
abbrev gaCE (C L' : Addr) : Env := compEnvC gaS [(Str.ofString "name", L' + 1)] C (gaE L')
theorem nameCell_K {M : Model} {A : Around} {E : Value → Shared → Prop} {s : Shared} {h₀ : Heap} {L : Addr} {news : List (Addr × Obj)} {env : Env} {x : Str} {pos : Pos} {v : Value} {c : Addr} {o : Obj} {Q : Value → Shared → Prop}
    (hc : env.cells.lookup x = some c) (N : News h₀ L s.heap news) (hm : (c, o) ∈ news) (hd : o.data = .cell (some v)) (h : Q v s) (hk : env.scope.kind = .function) (hx : env.kindOf x = some .cell) (hb : (x == ("__debug__" : Str)) = false) :
    wpAny M A (eval (.Name x pos) env) Q E s := wpAny_Name (wpAny_loadName_cell hk hx hc ⟨o, N.get hm, hd⟩ h) hb
section
variable {w : World} {h₀ base : Heap} {L L' fa a bk bd hl : Addr} {cd : Value} {m mg mb : Str → Option Value} {s : Shared} {rest : List (Addr × Obj)} {mean : ExcName → Option Value} {p : Program} {loose : List Str}
local macro_rules | `(tactic| walk_at "eval Name") => `(tactic| (k_here; k_dflt (first
  | (refine' ldVarK ?_ ?_ ?_; rotate_right 3; assumption; assumption)
  | (refine' nameCell_K ?_ ?_ ?_ ?_ ?_ ?_ ?_ ?_; rotate_right 8; exact rfl; k_asm; k_mem; assumption; rotate_left; exact rfl; exact rfl; decide)
  | (refine' nameG_K ?_ ?_ ?_ ?_ ?_ ?_ ?_ ?_ ?_; rotate_right 9; k_asm; k_asm; k_asm; k_is; rotate_left; exact rfl; exact rfl; exact rfl; decide))))
set_option maxHeartbeats 2000000 in
set_option pp.deepTerms false in
theorem ga_if {Q : Bool → Shared → Prop} {E : Value → Shared → Prop} {nm x n : Str} {tn tx t : Tok} {mc : Str → Option Value} {Cc D : Addr} (dummy : PySem.Challenge.rw_sh0067_01 = PySem.Challenge.rw_sh0067_01 ∧ K1r = K1r)
  (B : Below (callerA.deeper (lawE L fa cd)) base [lawE L fa cd] h₀) (F : Fr h₀ L' s.heap m) (X : (K1r w.params).In h₀) (T : Top p loose mean mg mb h₀)
  (hn : s.heap.Ns Cc mc) (hm : mc (Str.ofString "kv") = some (.ref D)) {oce : Obj} (hoce : oce.data = .cell (some (.str n t))) (N : News h₀ L' s.heap [(D, tupO [.str nm tn, .str x tx]), (L' + 1, oce)]) (hz : nm.length ≤ 16)
  (h : ∀ h' tk, (∀ b o, s.heap.get? b = some o → h'.get? b = some o) → Q (Txt.lower nm == n) { heap := h', gens := s.gens, drawn := s.drawn, toks := tk, os := s.os }) :
  wpAny (model pw w) (gaA L fa cd L') (PySem.isTrue gaIf (gaCE Cc L') (eval gaIf (gaCE Cc L'))) Q E s := by
  revert dummy
  k_fill
  intro _
  w_on
  (with_unfolding_all show wpAny (model pw w) (gaA L fa cd L') (PySem.isTrue (PySem.Expr.Compare (PySem.Expr.Call (PySem.Expr.Attribute (PySem.Expr.Subscript (PySem.Expr.Name _ _) (PySem.Expr.Constant (PySem.Const.int 0) _ _) _) _ _) [] [] _) [CmpOp.Eq] [PySem.Expr.Name _ _] _) _ (eval (PySem.Expr.Compare (PySem.Expr.Call (PySem.Expr.Attribute (PySem.Expr.Subscript (PySem.Expr.Name _ _) (PySem.Expr.Constant (PySem.Const.int 0) _ _) _) _ _) [] [] _) [CmpOp.Eq] [PySem.Expr.Name _ _] _) _)) _ _ _)
  k_steps
  exact h _ _ (fun _ _ e => e)
set_option maxHeartbeats 2000000 in
theorem ga_elt {Q : Value → Shared → Prop} {E : Value → Shared → Prop} {nm x : Str} {tn tx : Tok} {mc : Str → Option Value} {Cc D : Addr} (dummy : PySem.Challenge.rw_sh0067_01 = PySem.Challenge.rw_sh0067_01 ∧ K1r = K1r)
  (B : Below (callerA.deeper (lawE L fa cd)) base [lawE L fa cd] h₀) (F : Fr h₀ L' s.heap m) (X : (K1r w.params).In h₀) (T : Top p loose mean mg mb h₀)
  (hn : s.heap.Ns Cc mc) (hm : mc (Str.ofString "kv") = some (.ref D)) (N : News h₀ L' s.heap [(D, tupO [.str nm tn, .str x tx])])
  (h : ∀ h' tk, (∀ b o, s.heap.get? b = some o → h'.get? b = some o) → Q (.str x tx) { heap := h', gens := s.gens, drawn := s.drawn, toks := tk, os := s.os }) :
  wpAny (model pw w) (gaA L fa cd L') (eval gaElt (gaCE Cc L')) Q E s := by
  revert dummy
  k_fill
  intro _
  w_on
  (with_unfolding_all show wpAny (model pw w) (gaA L fa cd L') (eval (PySem.Expr.Subscript (PySem.Expr.Name _ _) (PySem.Expr.Constant (PySem.Const.int 1) _ _) _) _) _ _ _)
  k_steps
  exact h _ _ (fun _ _ e => e)
end
/-- a header as it lies: its address, its name, its text -/
structure Ent where
  a : Addr
  n : Str
  nt : Tok
  x : Str
  xt : Tok
abbrev Ent.o (e : Ent) : Addr × Obj := (e.a, tupO [.str e.n e.nt, .str e.x e.xt])
abbrev refs (es : List Ent) : Array Value := (es.map fun e => Value.ref e.a).toArray
noncomputable def nameAt (h : Heap) (v : Value) : Option Str := match v with
  | .ref a => match h.get? a with
    | some o => match o.data with
      | .seq vs _ => match vs[0]? with
        | some (Value.str x _) => some x
        | _ => none
      | _ => none
    | none => none
  | _ => none
theorem nameAt_of {h₀ h : Heap} {L : Addr} {l : List (Addr × Obj)} (N : News h₀ L h l) {e : Ent} (he : e.o ∈ l) : nameAt h (.ref e.a) = some e.n := by
  unfold nameAt
  simp only [(N _ he).1]
  rfl
theorem paired_ents {p : Value → Bool} {q : Ent → Bool} {Fp : Value → Value → Prop} : ∀ (es : List Ent) (ys : List Value), (∀ e ∈ es, p (.ref e.a) = q e) → (∀ e ∈ es, ∀ y, Fp (.ref e.a) y → ∃ t, y = .str e.x t) →
    Paired Fp ((es.map fun e => Value.ref e.a).filter p) ys → StrsAre ys ((es.filter q).map (·.x))
  | [], ys, _, _, h => by cases h; exact .nil
  | e :: es, ys, hp, hy, h => by
    rw [List.map_cons, List.filter_cons] at h
    rw [List.filter_cons]
    rw [hp e (.head _)] at h
    cases hc : q e with
    | true =>
      rw [hc] at h
      cases h with
      | cons h1 h2 =>
        obtain ⟨t, rfl⟩ := hy e (.head _) _ h1
        exact .cons _ _ (paired_ents es _ (fun e he => hp e (.tail _ he)) (fun e he => hy e (.tail _ he)) h2)
    | false =>
      rw [hc] at h
      exact paired_ents es _ (fun e he => hp e (.tail _ he)) (fun e he => hy e (.tail _ he)) h
theorem nameLoc_K {M : Model} {A : Around} {E : Value → Shared → Prop} {s : Shared} {h₀ : Heap} {m : Str → Option Value} {env : Env} {x : Str} {pos : Pos} {v : Value} {Q : Value → Shared → Prop}
    (F : Fr h₀ env.locals s.heap m) (hv : m x = some v) (h : Q v s) (hk : env.scope.kind = .function) (hx : env.kindOf x = some .local) (hb : (x == ("__debug__" : Str)) = false) :
    wpAny M A (eval (.Name x pos) env) Q E s := wpAny_Name (wpAny_loadName_local hk hx F.ns hv h) hb
local macro_rules | `(tactic| walk_at "eval Name") => `(tactic| (k_here; k_dflt (refine' nameLoc_K ?_ ?_ ?_ ?_ ?_ ?_; rotate_right 6; k_asm; assumption; rotate_left; exact rfl; exact rfl; decide)))
noncomputable def gaI : PySem.Expr := match gaC with
  | .ListComp _ (⟨_, i, _, _⟩ :: _) _ _ => i
  | _ => default
section
variable {w : World} {h₀ base : Heap} {L L' fa a bk bd hl : Addr} {cd : Value} {m mg mb : Str → Option Value} {s : Shared} {rest : List (Addr × Obj)} {mean : ExcName → Option Value} {p : Program} {loose : List Str}
set_option maxHeartbeats 2000000 in
set_option pp.deepTerms false in
theorem ga_src {Q : Value → Shared → Prop} {E : Value → Shared → Prop} {th : Tok} (dummy : PySem.Challenge.rw_sh0067_01 = PySem.Challenge.rw_sh0067_01 ∧ K1r = K1r)
  (B : Below (callerA.deeper (lawE L fa cd)) base [lawE L fa cd] h₀) (F : Fr h₀ L' s.heap m) (X : (K1r w.params).In h₀) (T : Top p loose mean mg mb h₀)
  (ms : m (Str.ofString "self") = some (.ref bk)) (N : News h₀ L' s.heap ((bk, instObj 182 bd) :: (bd, bookD w hl th) :: rest)) (h : Q (.ref hl) { s with toks := s.toks + 1 }) :
  wpAny (model pw w) (gaA L fa cd L') (eval gaI (gaE L')) Q E s := by
  revert dummy
  k_fill
  intro _
  w_on
  (with_unfolding_all show wpAny (model pw w) (gaA L fa cd L') (eval (PySem.Expr.Attribute (PySem.Expr.Name _ _) _ _) _) _ _ _)
  k_steps
  refine' nameLoc_K ?c1 ?c2 ?_ ?c5 ?c6 ?c7
  case c1 => exact F
  case c2 => assumption
  case c5 => exact rfl
  case c6 => exact rfl
  case c7 => decide
  k_steps
  exact h
theorem ga_comp {Q : Value → Shared → Prop} {E : Value → Shared → Prop} {th t : Tok} {es : List Ent} {kh : Nat} {n : Str} {oce : Obj}
  (B : Below (callerA.deeper (lawE L fa cd)) base [lawE L fa cd] h₀) (F : Fr h₀ L' s.heap m) (X : (K1r w.params).In h₀) (T : Top p loose mean mg mb h₀)
  (ms : m (Str.ofString "self") = some (.ref bk)) (hoce : oce.data = .cell (some (.str n t))) (hes : ∀ e ∈ es, e.o ∈ rest) (hn : ∀ e ∈ es, e.n.length ≤ 16) (hsz : es.length ≤ sizeLine)
  (N : News h₀ L' s.heap ((L' + 1, oce) :: (bk, instObj 182 bd) :: (bd, bookD w hl th) :: (hl, listOf (refs es) kh) :: rest))
  (h : ∀ D ys c h' tk, Fr h₀ L' h' m → News h₀ L' h' ((D, listOf (ys : List Value).toArray c) :: (L' + 1, oce) :: (bk, instObj 182 bd) :: (bd, bookD w hl th) :: (hl, listOf (refs es) kh) :: rest) → StrsAre ys ((es.filter fun e => Txt.lower e.n == n).map (·.x)) →
    (∀ p ∈ ((L' + 1, oce) :: (bk, instObj 182 bd) :: (bd, bookD w hl th) :: (hl, listOf (refs es) kh) :: rest), p.1 ≠ D) → Q (.ref D) { heap := h', gens := s.gens, drawn := s.drawn, toks := tk, os := s.os }) :
  wpAny (model pw w) (gaA L fa cd L') (eval gaC (gaE L')) Q E s := by
  have hmem : ∀ v ∈ refs es, ∃ e ∈ es, v = Value.ref e.a := by
    intro v hv
    simp only [refs, List.mem_toArray, List.mem_map] at hv
    obtain ⟨e, he, rfl⟩ := hv
    exact ⟨e, he, rfl⟩
  have N' : News h₀ L' s.heap ((bk, instObj 182 bd) :: (bd, bookD w hl th) :: ((L' + 1, oce) :: (hl, listOf (refs es) kh) :: rest)) := news_sub N (List.forall_mem_cons.mpr ⟨by k_mem, List.forall_mem_cons.mpr ⟨by k_mem, List.forall_mem_cons.mpr ⟨by k_mem, List.forall_mem_cons.mpr ⟨by k_mem, fun p hp => by repeat (first | exact hp | refine List.Mem.tail _ ?_)⟩⟩⟩⟩)
  have hl0 : s.heap.IsList hl (refs es) := N.isList (by k_mem)
  have hne : hl ≠ s.heap.objs.size := Nat.ne_of_lt (Heap.lt_size (N (hl, _) (by k_mem)).1)
  have Ne : ∀ e ∈ es, e.o ∈ ((L' + 1, oce) :: (bk, instObj 182 bd) :: (bd, bookD w hl th) :: (hl, listOf (refs es) kh) :: rest) := fun e he => .tail _ (.tail _ (.tail _ (.tail _ (hes e he))))
  refine wpAny_ListComp_free (env := gaE L') (x := Str.ofString "kv") (fun v => match nameAt s.heap v with | some x => Txt.lower x == n | none => false) (fun v y => ∃ e ∈ es, v = .ref e.a ∧ y = .str e.x e.xt) (cl := [(Str.ofString "name", L' + 1)])
    (by rfl) (by decide +kernel) (by rfl) (by decide +kernel) (by rfl) (ga_src ⟨rfl, rfl⟩ B F X T ms N' (wpAny_pyIter_list hl0 ⟨_, _, _, _, _, _, rfl, Walks.list (by rfl) s.heap.objs.size hl hne (refs es), ?sz, ?st, ?fp, ?quiet, ?fin⟩))
  case sz => simp [refs]; exact hsz
  case st => exact ⟨⟨_, Heap.get?_push_size _ rfl, rfl, rfl⟩, hl0.at fun o e => Heap.get?_push_of_some _ e⟩
  case fp =>
    intro b hb
    show _ < (s.heap.push _).objs.size
    rw [Heap.size_push]
    rcases List.mem_cons.mp hb with rfl | hb
    · exact Nat.lt_succ_self _
    · rw [List.mem_singleton.mp hb]
      exact Nat.lt_succ_of_lt (Heap.lt_size (N (hl, _) (by k_mem)).1)
  case quiet =>
    have up : ∀ {h' : Heap}, (∀ b o', b ∉ [s.heap.objs.size] → (s.heap.push { cls := .type "list_iterator", data := .fields #[.ref hl, .int 0 0] }).get? b = some o' → h'.get? b = some o') → ∀ b o', s.heap.get? b = some o' → h'.get? b = some o' := fun hk b o' e =>
      hk b o' (fun q => Nat.lt_irrefl _ ((List.mem_singleton.mp q) ▸ Heap.lt_size e)) (Heap.get?_push_of_some _ e)
    refine ⟨?_, ?_⟩
    · rintro Cc i v s₃ m₃ E' hC hP hn' hm hk htk
      obtain ⟨e, he, rfl⟩ := hmem v (Array.mem_of_getElem? hP)
      have F3 := F.keeps (up hk)
      have N3 : News h₀ L' s₃.heap [e.o, (L' + 1, oce)] := List.forall_mem_cons.mpr ⟨⟨up hk _ _ (N _ (Ne e he)).1, (N _ (Ne e he)).2⟩, List.forall_mem_cons.mpr ⟨⟨up hk _ _ (N (L' + 1, oce) (by k_mem)).1, (N (L' + 1, oce) (by k_mem)).2⟩, List.forall_mem_nil _⟩⟩
      refine wpAny_tests_one (ga_if ⟨rfl, rfl⟩ B F3 X T hn' hm hoce N3 (hn e he) fun h' tk kp => ⟨?_, h', tk, rfl, kp⟩)
      simp only [nameAt_of N (Ne e he)]
    · rintro Cc i v s₃ m₃ E' hC hP hp hn' hm hk htk
      obtain ⟨e, he, rfl⟩ := hmem v (Array.mem_of_getElem? hP)
      have F3 := F.keeps (up hk)
      have N3 : News h₀ L' s₃.heap [e.o] := List.forall_mem_cons.mpr ⟨⟨up hk _ _ (N _ (Ne e he)).1, (N _ (Ne e he)).2⟩, List.forall_mem_nil _⟩
      exact ga_elt ⟨rfl, rfl⟩ B F3 X T hn' hm N3 fun h' tk kp => ⟨⟨e, he, rfl, rfl⟩, h', tk, rfl, kp⟩
  case fin =>
    intro D h' tk ys vs hD hl' hpl hlen hP hF hk
    obtain ⟨c, hpl⟩ := hpl
    have szp : (s.heap.push { cls := .type "list_iterator", data := .fields #[.ref hl, .int 0 0] }).objs.size = s.heap.objs.size + 1 := Heap.size_push ..
    have up : ∀ b o', s.heap.get? b = some o' → h'.get? b = some o' := fun b o' e =>
      hk b o' (fun q => Nat.lt_irrefl _ ((List.mem_singleton.mp q) ▸ Heap.lt_size e)) (Heap.get?_push_of_some _ e)
    have hD1 : ∀ b o, s.heap.get? b = some o → b ≠ D := fun b o e q => by
      have h1 : (s.heap.push { cls := .type "list_iterator", data := .fields #[.ref hl, .int 0 0] }).get? D = none := hD
      rw [← q, Heap.get?_push_of_some _ e] at h1
      cases h1
    have hvs : vs = es.map fun e => Value.ref e.a := by
      apply List.ext_getElem?
      intro j
      rcases Nat.lt_or_ge j vs.length with hj | hj
      · obtain ⟨v, hv⟩ : ∃ v, vs[j]? = some v := ⟨_, List.getElem?_eq_getElem hj⟩
        have h5 := hP j v hv
        rw [hv, ← h5]
        simp [refs]
      · have h6 : (es.map fun e => Value.ref e.a).length = vs.length := by rw [hlen]; simp [refs]
        rw [List.getElem?_eq_none hj, List.getElem?_eq_none (by omega)]
    subst hvs
    refine h D ys.toList c h' tk (F.keeps up) (List.forall_mem_cons.mpr ⟨⟨?_, ?_, ?_⟩, fun p hp => ⟨up _ _ (N p hp).1, (N p hp).2⟩⟩) ?_ (fun p hp => hD1 _ _ (N p hp).1)
    · simpa using hpl
    · obtain ⟨oL, _, _, hoL, _⟩ := F.ns
      exact fun q => hD1 _ _ hoL q.symm
    · cases e : h₀.get? D with
      | none => rfl
      | some o => exact absurd rfl (hD1 _ _ (F.keep _ _ e))
    · refine paired_ents es ys.toList ?_ ?_ hF
      · intro e he
        simp only [nameAt_of N (Ne e he)]
      · rintro e he y ⟨e', he', h1, h2⟩
        have ea : e.a = e'.a := Value.ref.inj h1
        have o1 := (N _ (Ne e he)).1
        have o2 := (N _ (Ne e' he')).1
        simp only [Ent.o] at o1 o2
        rw [ea, o2] at o1
        have : e'.x = e.x := by
          injection o1 with o1
          injection o1 with _ _ o1
          injection o1 with o1
          have := congrArg (fun z : Array Value => z[1]?) o1
          simp at this
          exact this.1
        exact ⟨e'.xt, by rw [h2, this]⟩
local macro_rules | `(tactic| walk_at "eval Name") => `(tactic| (k_here; k_dflt (refine' nameCell_K ?_ ?_ ?_ ?_ ?_ ?_ ?_ ?_; rotate_right 8; exact rfl; k_asm; k_mem; exact rfl; rotate_left; exact rfl; exact rfl; decide)))
local macro_rules | `(tactic| walk_at "call ref") => `(tactic| (k_here; walk_at "%d"; (with_reducible show wpAny _ _ (call (Value.ref 83) _ _) _ _ _); ((with_unfolding_all show wpAny _ _ (call (Value.ref 83) [_, Value.str _ _] [(Str.ofString "name", Value.bool true)]) _ _ _); refine' conv_nK ?B ?F ?X ?T ?C ?N ?f ?k ?a ?z ?t ?_); (case B | F | X | T | C | N => k_asm); (case f | k => with_unfolding_all rfl); (case a | z => assumption); (case t => (try dsimp only); walk_at "%o"); intro _ _ _ _ _))
local macro_rules | `(tactic| walk_at "execs cons") => `(tactic| (k_here; (refine gen_toks ?hn ?_; (case hn => (try dsimp only); walk_at "%o"); intro _ _; refine wpAny_execs_cons ?_; try dsimp only)))
local macro_rules | `(tactic| walk_at "call builtin:str.lower") => `(tactic| (k_here; (try dsimp only); (with_reducible show wpAny _ _ (call (Value.builtin "str.lower") [Value.str _ _]) _ _ _); refine PyProof.Rows.SCL.lower ?z ?_; (case z => omega); intro _))
local macro_rules | `(tactic| walk_at "eval ListComp") => `(tactic| (k_here; k_dflt (refine' ga_comp ?B ?F ?X ?T ?ms ?ho ?he ?hn ?hz ?N ?_; (case B | F | X | T | N => k_asm); (case ms => exact rfl); (case ho | he | hn | hz => assumption)); intro _ _ _ _ _ _ _ _ _))
set_option maxHeartbeats 2000000 in
set_option pp.deepTerms false in
theorem get_all_spec {Q : Value → Shared → Prop} {E : Value → Shared → Prop} {th t : Tok} {es : List Ent} {kh : Nat} {n : Str} (dummy : PySem.Challenge.rw_sh0067_01 = PySem.Challenge.rw_sh0067_01 ∧ K1r = K1r)
  (B : Below callerA base [] h₀) (F : Fr h₀ L s.heap m) (X : (K1r w.params).In h₀) (T : Top p loose mean mg mb h₀) (C : CodeHd base 298 294)
  (hes : ∀ e ∈ es, e.o ∈ rest) (hn : ∀ e ∈ es, e.n.length ≤ 16) (hsz : es.length ≤ sizeLine) (hnl : n.length ≤ 16) (ha : Asc (Txt.lower n)) (hz2 : (Txt.lower n).cps.size ≤ 4096) (ht : 1 ≤ s.toks)
  (N : News h₀ L s.heap ((bk, instObj 182 bd) :: (bd, bookD w hl th) :: (hl, listOf (refs es) kh) :: rest))
  (h : ∀ D ys c h' tk, Fr h₀ L h' m → News h₀ L h' ((D, listOf (ys : List Value).toArray c) :: (bk, instObj 182 bd) :: (bd, bookD w hl th) :: (hl, listOf (refs es) kh) :: rest) → StrsAre ys ((es.filter fun e => Txt.lower e.n == Txt.lower n).map (·.x)) →
    (∀ p ∈ ((bk, instObj 182 bd) :: (bd, bookD w hl th) :: (hl, listOf (refs es) kh) :: rest), p.1 ≠ D) → Q (.ref D) { heap := h', gens := s.gens, drawn := s.drawn, toks := tk, os := s.os }) :
  wpAny (model pw w) (callerA.deeper (lawE L fa cd)) (call (.ref 121) [.ref bk, .str n t] []) Q E s := by
  revert dummy
  k_fill
  intro _
  w_on
  k_steps
  exact h _ _ _ _ _ (by assumption) (news_sub (by assumption) (List.forall_mem_cons.mpr ⟨by k_mem, fun p hp => .tail _ (.tail _ hp)⟩)) (by assumption) (fun p hp => (by assumption : ∀ p ∈ (_, _) :: (bk, instObj 182 bd) :: _, p.1 ≠ _) p (List.Mem.tail _ hp))
end
end
end
section
section
-- RW
open PySem PySem.W PyProof.Rows PyProof.V PySem.Spec PySem.Calls PySem.SeqAt
noncomputable def placeB : List Stmt := forB (dB [19])[2]?
noncomputable def stepB : List Stmt := forB placeB[10]?
noncomputable def rowC : PySem.Expr := match (stepB[12]? : Option Stmt) with
  | some (.If (.BoolOp _ [_, .Compare _ _ [e] _] _) _ _ _) => e
  | _ => default
noncomputable def rowS : Scope := match rowC with
  | .ListComp _ _ s _ => s
  | _ => default
noncomputable def rowIf : PySem.Expr := match rowC with
  | .ListComp _ (⟨_, _, [e], _⟩ :: _) _ _ => e
  | _ => default
noncomputable def rowElt : PySem.Expr := match rowC with
  | .ListComp e _ _ _ => e
  | _ => default
noncomputable def rowI : PySem.Expr := match rowC with
  | .ListComp _ (⟨_, i, _, _⟩ :: _) _ _ => i
  | _ => default
abbrev rowCE (C L fa : Addr) (cd : Value) : Env := compEnvC rowS [(Str.ofString "shown", L + 1), (Str.ofString "asked", L + 2)] C (lawE L fa cd)
section
variable {w : World} {h₀ base : Heap} {L L' fa a bk bd hl rl : Addr} {cd : Value} {m mg mb : Str → Option Value} {s : Shared} {rest : List (Addr × Obj)} {mean : ExcName → Option Value} {p : Program} {loose : List Str}
local macro_rules | `(tactic| walk_at "eval Name") => `(tactic| (k_here; k_dflt (first
  | (refine' ldVarK ?_ ?_ ?_; rotate_right 3; assumption; assumption)
  | (refine' nameCell_K ?_ ?_ ?_ ?_ ?_ ?_ ?_ ?_; rotate_right 8; exact rfl; k_asm; k_mem; assumption; rotate_left; exact rfl; exact rfl; decide))))
theorem tuple_keep {prog : Program} {A : Around} {E : Value → Shared → Prop} {vs : List Value} {news : List (Addr × Obj)} {Q : Value → Shared → Prop} (F : Fr h₀ L s.heap m) (N : News h₀ L s.heap news) (hz : vs.length ≤ sizeLine)
    (h : ∀ D h', (∀ b o, s.heap.get? b = some o → h'.get? b = some o) → Fr h₀ L h' m → News h₀ L h' ((D, { cls := .type "tuple", data := .seq vs.toArray }) :: news) → Q (.ref D) { s with heap := h' }) : wpAny (model prog w) A (newTuple vs) Q E s := by
  unfold newTuple
  exact wpAny_newObj_type (h _ _ (fun b o e => Heap.get?_push_of_some _ e) (F.push _) (News.push F N _ rfl)) (by size_fits)
local macro_rules | `(tactic| walk_at "newTuple") => `(tactic| (k_here; k_dflt (refine' tuple_keep ?_ ?_ ?_ ?_; rotate_right 4; k_asm; k_asm; kmk_size); intro _ _ _ _ _))
set_option maxHeartbeats 2000000 in
set_option pp.deepTerms false in
theorem row_if {Q : Bool → Shared → Prop} {E : Value → Shared → Prop} {nm sh as : Str} {tn ts ta : Tok} {mc : Str → Option Value} {Cc : Addr} {oc1 oc2 : Obj} (dummy : PySem.Challenge.rw_sh0067_01 = PySem.Challenge.rw_sh0067_01 ∧ K1r = K1r)
  (B : Below callerA base [] h₀) (F : Fr h₀ L s.heap m) (X : (K1r w.params).In h₀) (T : Top p loose mean mg mb h₀)
  (hn : s.heap.Ns Cc mc) (hm : mc (Str.ofString "name") = some (.str nm tn)) (h1 : oc1.data = .cell (some (.str sh ts))) (h2 : oc2.data = .cell (some (.str as ta))) (N : News h₀ L s.heap [(L + 1, oc1), (L + 2, oc2)])
  (h : ∀ h' tk, (∀ b o, s.heap.get? b = some o → h'.get? b = some o) → Q (nm == sh || nm == as) { heap := h', gens := s.gens, drawn := s.drawn, toks := tk, os := s.os }) :
  wpAny (model pw w) (callerA.deeper (lawE L fa cd)) (PySem.isTrue rowIf (rowCE Cc L fa cd) (eval rowIf (rowCE Cc L fa cd))) Q E s := by
  revert dummy
  k_fill
  intro _
  w_on
  (with_unfolding_all show wpAny (model pw w) _ (PySem.isTrue (PySem.Expr.Compare (PySem.Expr.Name _ _) [CmpOp.In] [PySem.Expr.Tuple [PySem.Expr.Name _ _, PySem.Expr.Name _ _] _ _] _) _ (eval (PySem.Expr.Compare (PySem.Expr.Name _ _) [CmpOp.In] [PySem.Expr.Tuple [PySem.Expr.Name _ _, PySem.Expr.Name _ _] _ _] _) _)) _ _ _)
  k_steps
  have e : ([sh, as].any fun x => x == nm) = (nm == sh || nm == as) := by
    simp only [List.any_cons, List.any_nil, Bool.or_false]
    rw [BEq.comm (a := sh), BEq.comm (a := as)]
  rw [e]
  exact h _ _ (by assumption)
theorem row_comp {Q : Value → Shared → Prop} {E : Value → Shared → Prop} {sh as : Str} {ts ta : Tok} {oc1 oc2 : Obj} {es : List Ent} {kr : Nat}
  (B : Below callerA base [] h₀) (F : Fr h₀ L s.heap m) (X : (K1r w.params).In h₀) (T : Top p loose mean mg mb h₀)
  (h1 : oc1.data = .cell (some (.str sh ts))) (h2 : oc2.data = .cell (some (.str as ta))) (mr : m (Str.ofString "rows") = some (.ref rl)) (hes : ∀ e ∈ es, e.o ∈ rest) (hsz : es.length ≤ sizeLine)
  (N : News h₀ L s.heap rest) (m1 : (L + 1, oc1) ∈ rest) (m2 : (L + 2, oc2) ∈ rest) (mrl : (rl, listOf (refs es) kr) ∈ rest)
  (h : ∀ D ys h' tk, Fr h₀ L h' m → News h₀ L h' rest → h'.IsList D ys → StrsAre ys.toList ((es.filter fun e => e.n == sh || e.n == as).map (·.x)) → Q (.ref D) { heap := h', gens := s.gens, drawn := s.drawn, toks := tk, os := s.os }) :
  wpAny (model pw w) (callerA.deeper (lawE L fa cd)) (eval rowC (lawE L fa cd)) Q E s := by
  have hmem : ∀ v ∈ refs es, ∃ e ∈ es, v = Value.ref e.a := by
    intro v hv
    simp only [refs, List.mem_toArray, List.mem_map] at hv
    obtain ⟨e, he, rfl⟩ := hv
    exact ⟨e, he, rfl⟩
  have hl0 : s.heap.IsList rl (refs es) := N.isList mrl
  have hT : ∀ e ∈ es, ∀ x y, s.heap.IsTuple e.a #[x, y] → x = .str e.n e.nt ∧ y = .str e.x e.xt := by
    intro e he x y ⟨o, ho, hc, n, hd⟩
    rw [(N _ (hes e he)).1] at ho
    cases ho
    simp at hd
    exact ⟨hd.1.1.symm, hd.1.2.symm⟩
  refine pairs_ListComp (env := lawE L fa cd) (a := Str.ofString "name") (b := Str.ofString "one") (cl := [(Str.ofString "shown", L + 1), (Str.ofString "asked", L + 2)]) (fun v => match nameAt s.heap v with | some x => x == sh || x == as | none => false) (fun v y => ∃ e ∈ es, v = .ref e.a ∧ y = .str e.x e.xt)
    (by rfl) (by decide +kernel) (by rfl) (by decide +kernel) (by rfl) (by rfl) (by decide) (by rfl) (nameLoc_K F mr ⟨rl, refs es, rfl, hl0, by simp [refs]; exact hsz, ?tup, ?test, ?elt, ?fin⟩ (by rfl) (by rfl) (by decide))
  case tup =>
    intro v hv
    obtain ⟨e, he, rfl⟩ := hmem v hv
    exact ⟨e.a, _, _, rfl, ⟨_, (N _ (hes e he)).1, rfl, _, rfl⟩⟩
  case test =>
    intro Cc T' x y s₂ m₂ E' hv ht hn e1 e2 hk
    obtain ⟨e, he, hq⟩ := hmem _ hv
    cases hq
    obtain ⟨rfl, rfl⟩ := hT e he x y ht
    refine row_if ⟨rfl, rfl⟩ B (F.keeps hk) X T hn e1 h1 h2 (List.forall_mem_cons.mpr ⟨⟨hk _ _ (N _ m1).1, (N _ m1).2⟩, List.forall_mem_cons.mpr ⟨⟨hk _ _ (N _ m2).1, (N _ m2).2⟩, List.forall_mem_nil _⟩⟩) fun h' tk kp => ⟨?_, h', tk, rfl, kp⟩
    simp only [nameAt_of N (hes e he)]
  case elt =>
    intro Cc T' x y s₂ m₂ E' hv hp ht hn e1 e2 hk
    obtain ⟨e, he, hq⟩ := hmem _ hv
    cases hq
    obtain ⟨rfl, rfl⟩ := hT e he x y ht
    exact wpAny_Name (env := rowCE Cc L fa cd) (wpAny_loadName_local (by rfl) (by rfl) hn e2 ⟨⟨e, he, rfl, rfl⟩, s₂.heap, s₂.toks, rfl, fun _ _ q => q⟩) (by decide)
  case fin =>
    intro D h' tk ys hD hl' hP hk
    refine h D ys h' tk (F.keeps hk) (fun p hp => ⟨hk _ _ (N p hp).1, (N p hp).2⟩) hl' (paired_ents es ys.toList ?_ ?_ hP)
    · intro e he
      simp only [nameAt_of N (hes e he)]
    · rintro e he y ⟨e', he', h1, h2⟩
      have ea : e.a = e'.a := Value.ref.inj h1
      have o1 := (N _ (hes e he)).1
      have o2 := (N _ (hes e' he')).1
      simp only at o1 o2
      rw [ea, o2] at o1
      have : e'.x = e.x := by
        injection o1 with o1
        injection o1 with _ _ o1
        injection o1 with o1
        have := congrArg (fun z : Array Value => z[1]?) o1
        simp at this
        exact this.1
      exact ⟨e'.xt, by rw [h2, this]⟩
theorem canLay_strs : ∀ ss : List Str, (∀ x ∈ ss, PyData.strOk x = true) → PyData.canLayAll0 (ss.map PyData.str) = true
  | [], _ => by simp [PyData.canLayAll0]
  | n :: r, h => by simp [PyData.canLayAll0, PyData.canLay0, canLay_strs r (fun x hx => h x (.tail _ hx)), h n (.head _)]
theorem depth_strs : ∀ ss : List Str, PyData.depthAll (ss.map PyData.str) ≤ 1
  | [] => by simp [PyData.depthAll]
  | n :: r => by
    have := depth_strs r
    simp only [List.map_cons, PyData.depthAll, PyData.depth]
    omega
theorem shaped_strs (ss : List Str) (hk : ∀ x ∈ ss, PyData.strOk x = true) : shaped (.list (ss.map PyData.str)) = true := by
  have h1 := depth_strs ss
  have h2 : PyData.depth (.list (ss.map PyData.str)) ≤ 64 := by simp only [PyData.depth]; omega
  show (PyData.canLay0 (.list (ss.map PyData.str)) && decide (PyData.depth (.list (ss.map PyData.str)) ≤ 64)) = true
  rw [Bool.and_eq_true]
  exact ⟨by simp only [PyData.canLay0]; exact canLay_strs ss hk, decide_eq_true h2⟩
theorem noMix_strs : ∀ ss : List Str, noMixAll (ss.map PyData.str) (ss.map PyData.str) = true
  | [] => by simp [noMixAll]
  | n :: r => by simp [noMixAll, noMix, noMix_strs r]
theorem ne_strs {prog : Program} {A : Around} {E : Value → Shared → Prop} {a b : Addr} {vs us : Array Value} {ss : List Str} {Q : Value → Shared → Prop} (hl : s.heap.IsList a vs) (hi : StrsAre vs.toList ss) (hl' : s.heap.IsList b us) (hi' : StrsAre us.toList ss) (hk : ∀ x ∈ ss, PyData.strOk x = true) (hu : A.units + 64 < cLine)
    (h : Q (.bool false) s) : wpAny (model prog w) A (compareOp .NotEq (.ref a) (.ref b)) Q E s := by
  obtain ⟨o, ho, hc, n, hd⟩ := hl
  obtain ⟨o', ho', hc', n', hd'⟩ := hl'
  refine ne_dataH_same (Reads.list ho hc hd (hi.reads _)) (Reads.list ho' hc' hd' (hi'.reads _)) (shaped_strs ss hk) (shaped_strs ss hk) hu (by simp only [noMix]; exact noMix_strs ss) ?_
  rw [same_refl]
  exact h
abbrev entD (e : Str × Str) : PyData := .tuple [.str e.1, .str e.2]
theorem canLay_ents : ∀ ss : List (Str × Str), (∀ x ∈ ss, PyData.strOk x.1 = true ∧ PyData.strOk x.2 = true) → PyData.canLayAll0 (ss.map entD) = true
  | [], _ => by simp [PyData.canLayAll0]
  | n :: r, h => by
    obtain ⟨h1, h2⟩ := h n (.head _)
    simp [PyData.canLayAll0, PyData.canLay0, entD, canLay_ents r (fun x hx => h x (.tail _ hx)), h1, h2]
theorem depth_ents : ∀ ss : List (Str × Str), PyData.depthAll (ss.map entD) ≤ 2
  | [] => by simp [PyData.depthAll]
  | n :: r => by
    have := depth_ents r
    simp only [List.map_cons, PyData.depthAll, PyData.depth, entD]
    omega
theorem shaped_ents (ss : List (Str × Str)) (hk : ∀ x ∈ ss, PyData.strOk x.1 = true ∧ PyData.strOk x.2 = true) : shaped (.list (ss.map entD)) = true := by
  have h1 := depth_ents ss
  have h2 : PyData.depth (.list (ss.map entD)) ≤ 64 := by simp only [PyData.depth]; omega
  show (PyData.canLay0 (.list (ss.map entD)) && decide (PyData.depth (.list (ss.map entD)) ≤ 64)) = true
  rw [Bool.and_eq_true]
  exact ⟨by simp only [PyData.canLay0]; exact canLay_ents ss hk, decide_eq_true h2⟩
theorem noMix_ents : ∀ ss : List (Str × Str), noMixAll (ss.map entD) (ss.map entD) = true
  | [] => by simp [noMixAll]
  | n :: r => by simp [noMixAll, noMix, noMix_ents r, entD]
theorem reads_ents {h₀ h : Heap} {L : Addr} {l : List (Addr × Obj)} (N : News h₀ L h l) : ∀ es : List Ent, (∀ e ∈ es, e.o ∈ l) → ReadsAll h (es.map fun e => Value.ref e.a) ((es.map fun e => (e.n, e.x)).map entD) []
  | [], _ => .nil
  | e :: es, he => by
    have h1 := (N _ (he e (.head _))).1
    have : ReadsAll h [Value.str e.n e.nt, Value.str e.x e.xt] [.str e.n, .str e.x] [] := .cons (as := []) (.str _ _) (.cons (as := []) (.str _ _) .nil)
    exact .cons (as := []) (Reads.tuple h1 rfl rfl this) (reads_ents N es fun e he' => he e (.tail _ he'))
theorem eq_ents {prog : Program} {A : Around} {E : Value → Shared → Prop} {h₀ : Heap} {L : Addr} {a b : Addr} {es es' : List Ent} {l : List (Addr × Obj)} {Q : Value → Shared → Prop} (N : News h₀ L s.heap l) (h1 : ∀ e ∈ es, e.o ∈ l) (h2 : ∀ e ∈ es', e.o ∈ l)
    (hl : s.heap.IsList a (refs es)) (hl' : s.heap.IsList b (refs es')) (he : (es.map fun e => (e.n, e.x)) = es'.map fun e => (e.n, e.x)) (hk : ∀ x ∈ es.map (fun e => (e.n, e.x)), PyData.strOk x.1 = true ∧ PyData.strOk x.2 = true) (hu : A.units + 64 < cLine)
    (h : Q (.bool true) s) : wpAny (model prog w) A (compareOp .Eq (.ref a) (.ref b)) Q E s := by
  obtain ⟨o, ho, hc, n, hd⟩ := hl
  obtain ⟨o', ho', hc', n', hd'⟩ := hl'
  have r1 := reads_ents N es h1
  have r2 := reads_ents N es' h2
  rw [← he] at r2
  refine eq_dataH_same (Reads.list ho hc hd (by simpa [refs] using r1)) (Reads.list ho' hc' hd' (by simpa [refs] using r2)) (shaped_ents _ hk) (shaped_ents _ hk) hu (by simp only [noMix]; exact noMix_ents _) ?_
  rw [same_refl]
  exact h
end
end
end
section
section
-- LTH
open PySem PySem.W PyProof.Rows PyProof.V PySem.Spec PySem.Calls PySem.SeqAt
theorem news_tail {h₀ h : Heap} {L : Addr} {a : Addr × Obj} {l : List (Addr × Obj)} (N : News h₀ L h (a :: l)) : News h₀ L h l := fun p hp => N p (.tail _ hp)
abbrev up1 (m : Str → Option Value) (x : String) (v : Value) : Str → Option Value := fun y => if y = Str.ofString x then some v else m y
noncomputable def stAt (k : Nat) : Stmt := ((stepB[k]? : Option Stmt)).getD default
section
variable {prog : Program} {w : World} {A : Around} {E : Value → Shared → Prop} {s : Shared} {h₀ : Heap} {L : Addr} {m : Str → Option Value} {news : List (Addr × Obj)} {value slice : PySem.Expr} {x y r : Str} {t u : Tok} {Q : Value → Shared → Prop} {i j : Int} {ui uj : Tok}
theorem sl_ns (e0 : Txt.slice x none (some j) = r) (hF : Fr h₀ L s.heap m) (hN : News h₀ L s.heap news) (hsz : x.length ≤ sizeLine) (h : ∀ h' t' k, Fr h₀ L h' m → News h₀ L h' news → Q (.str r t') { s with heap := h', toks := k })
    (hs : subscripted slice false (.str x t) (.ref s.heap.objs.size) = operate [.ref s.heap.objs.size, .str x t] (getItem (.str x t) (.ref s.heap.objs.size)) := by with_unfolding_all rfl)
    (ht : ∀ r, letTemporaryGo value (.str x t) r = pure () := by intro _; with_unfolding_all rfl) :
    wpAny (model prog w) A (subscriptTail value slice (.str x t) (.ref s.heap.objs.size)) Q E { s with heap := s.heap.push { cls := .type "slice", data := .fields #[.none, .int j uj, .none] } } :=
  slice_strN_ns hF hN (fun h' t' k a b => e0 ▸ h h' t' k a b) hs ht hsz
theorem sl_sn (e0 : Txt.slice x (some i) none = r) (hF : Fr h₀ L s.heap m) (hN : News h₀ L s.heap news) (hsz : x.length ≤ sizeLine) (h : ∀ h' t' k, Fr h₀ L h' m → News h₀ L h' news → Q (.str r t') { s with heap := h', toks := k })
    (hs : subscripted slice false (.str x t) (.ref s.heap.objs.size) = operate [.ref s.heap.objs.size, .str x t] (getItem (.str x t) (.ref s.heap.objs.size)) := by with_unfolding_all rfl)
    (ht : ∀ r, letTemporaryGo value (.str x t) r = pure () := by intro _; with_unfolding_all rfl) :
    wpAny (model prog w) A (subscriptTail value slice (.str x t) (.ref s.heap.objs.size)) Q E { s with heap := s.heap.push { cls := .type "slice", data := .fields #[.int i ui, .none, .none] } } :=
  slice_strN_sn hF hN (fun h' t' k a b => e0 ▸ h h' t' k a b) hs ht hsz
theorem sl_ss (e0 : Txt.slice x (some i) (some j) = r) (hF : Fr h₀ L s.heap m) (hN : News h₀ L s.heap news) (hsz : x.length ≤ sizeLine) (h : ∀ h' t' k, Fr h₀ L h' m → News h₀ L h' news → Q (.str r t') { s with heap := h', toks := k })
    (hs : subscripted slice false (.str x t) (.ref s.heap.objs.size) = operate [.ref s.heap.objs.size, .str x t] (getItem (.str x t) (.ref s.heap.objs.size)) := by with_unfolding_all rfl)
    (ht : ∀ r, letTemporaryGo value (.str x t) r = pure () := by intro _; with_unfolding_all rfl) :
    wpAny (model prog w) A (subscriptTail value slice (.str x t) (.ref s.heap.objs.size)) Q E { s with heap := s.heap.push { cls := .type "slice", data := .fields #[.int i ui, .int j uj, .none] } } :=
  slice_strN_ss hF hN (fun h' t' k a b => e0 ▸ h h' t' k a b) hs ht hsz
theorem ne_knownS {b : Bool} (h0 : (x != y) = b) (h : Q (.bool b) s) : wpAny (model prog w) A (compareOp .NotEq (.str x t) (.str y u)) Q E s :=
  PyProof.Rows.ne_str (h0 ▸ h)
theorem ne_selfS (h : Q (.bool false) s) : wpAny (model prog w) A (compareOp .NotEq (.str x t) (.str x u)) Q E s := ne_knownS (bne_self_eq_false _) h
theorem ne_selfI {a : Int} (h : Q (.bool false) s) : wpAny (model prog w) A (compareOp .NotEq (.int a t) (.int a u)) Q E s := by
  refine ne_int ?_
  have e : (a != a) = false := bne_self_eq_false _
  first | (rw [e]; exact h) | simpa using h
theorem eq_knownS {b : Bool} (h0 : (x == y) = b) (h : Q (.bool b) s) : wpAny (model prog w) A (compareOp .Eq (.str x t) (.str y u)) Q E s :=
  PyProof.Rows.eq_str (h0 ▸ h)
end
end
end
section
open PySem PySem.W PyProof.Rows PyProof.V PySem.Spec PySem.Calls PySem.SeqAt
local macro_rules | `(tactic| walk_at "eval Name") => `(tactic| (k_here; k_dflt (refine' nameLoc_K ?_ ?_ ?_ ?_ ?_ ?_; rotate_right 6; k_asm; (first | exact rfl | assumption); rotate_left; exact rfl; exact rfl; decide; k_whole)))
local macro_rules | `(tactic| walk_at "subscriptTail") => `(tactic| (k_here; walk_at "%s"; (try dsimp only); (first
  | (with_unfolding_all refine' sl_ns ?e0 ?F ?N ?z ?_) | (with_unfolding_all refine' sl_sn ?e0 ?F ?N ?z ?_) | (with_unfolding_all refine' sl_ss ?e0 ?F ?N ?z ?_)); (case e0 => assumption); (case F | N => k_asm); (case z => assumption); intro _ _ _ _ _))
local macro_rules | `(tactic| walk_at "subscriptTail Name Slice str ref") => `(tactic| (k_here; walk_at "%s"; (try dsimp only); (first
  | (with_unfolding_all refine' sl_ns ?e0 ?F ?N ?z ?_) | (with_unfolding_all refine' sl_sn ?e0 ?F ?N ?z ?_) | (with_unfolding_all refine' sl_ss ?e0 ?F ?N ?z ?_)); (case e0 => assumption); (case F | N => k_asm); (case z => assumption); intro _ _ _ _ _))
local macro_rules | `(tactic| walk_at "compareOp NotEq str str") => `(tactic| (k_here; first | refine ne_selfS ?_ | (refine' ne_knownS ?_ ?_; rotate_right 2; assumption)))
local macro_rules | `(tactic| walk_at "compareOp NotEq int int") => `(tactic| (k_here; refine ne_selfI ?_))
local macro_rules | `(tactic| walk_at "compareOp Eq str str") => `(tactic| (k_here; refine' eq_knownS ?_ ?_; rotate_right 2; assumption))
section
-- PHD
open PySem PySem.W PyProof.Rows PyProof.V PySem.Spec PySem.Calls PySem.SeqAt
noncomputable def psAt (k : Nat) : Stmt := ((placeB[k]? : Option Stmt)).getD default
end
section
-- S0
open PySem PySem.W PyProof.Rows PyProof.V PySem.Spec PySem.Calls PySem.SeqAt
local macro_rules | `(tactic| walk_at "call ref") => `(tactic| (k_here; walk_at "%d"; (with_reducible show wpAny _ _ (call (Value.ref 299) _ _) _ _ _); k_dflt (refine' lexer_spec ?B ?F ?X ?T ?C ?N ?ht ?hx ?hz ?_; (case B | F | X | T | C | N => k_asm); (case ht | hx | hz => assumption)); intro _ _ _ _ _ _ _ _ _ _ _ _ _))
section
variable {w : World} {h₀ base : Heap} {L fa bk bd hl rl : Addr} {cd : Value} {m mg mb : Str → Option Value} {s : Shared} {rest : List (Addr × Obj)} {mean : ExcName → Option Value} {p : Program} {loose : List Str}
set_option maxHeartbeats 2000000 in
set_option pp.deepTerms false in
theorem st0 {Q : Flow → Shared → Prop} {E : Value → Shared → Prop} {wc hc : Nat} {r : Str} {tw thd tr : Tok} {ex tab : List (Addr × Obj)} (dummy : PySem.Challenge.rw_sh0067_01 = PySem.Challenge.rw_sh0067_01 ∧ K1r = K1r)
  (B : Below callerA base [] h₀) (F : Fr h₀ L s.heap m) (X : (K1r w.params).In h₀) (T : Top p loose mean mg mb h₀) (C : CodeHd base 298 294)
  (ht : TabSt tab) (N : News h₀ L s.heap (ex ++ tab)) (hx : ∀ p ∈ ex, p.1 ≠ 294)
  (mw : m (Str.ofString "white") = some (.str ⟨#[wc]⟩ tw)) (mh : m (Str.ofString "head") = some (.str ⟨#[hc]⟩ thd)) (mr : m (Str.ofString "run") = some (.str r tr)) (hr : r.length ≤ 4096) (hz : (((((⟨#[wc]⟩ : Str) ++ (⟨#[hc]⟩ : Str)) ++ r) ++ (⟨#[wc]⟩ : Str)) ++ Str.ofString "z" : Str).cps.size ≤ sizeLine)
  (h : ∀ h' tk (l : Lex) t2 ys k tab', TabSt tab' → Fr h₀ L h' (up1 (up1 m "lexer" (.ref l.x)) "left" (.ref l.left)) → News h₀ L h' (l.objs w 1 t2 ys k (ex ++ tab')) → l.Ok (ex ++ tab') → ChL ys (((((⟨#[wc]⟩ : Str) ++ (⟨#[hc]⟩ : Str)) ++ r) ++ (⟨#[wc]⟩ : Str)) ++ Str.ofString "z" : Str).cps.toList → Q .next { heap := h', gens := s.gens, drawn := s.drawn, toks := tk, os := s.os }) :
  wpAny (model pw w) (callerA.deeper (lawE L fa cd)) (exec (stAt 0) (lawE L fa cd)) Q E s := by
  revert dummy
  k_fill
  intro _
  w_on
  (with_unfolding_all show wpAny _ _ (exec (Stmt.Assign _ _ _) _) _ _ _)
  (all_goals try k_fold)
  k_steps
  exact h _ _ _ _ _ _ _ (by assumption) (by assumption) (news_tail (by assumption)) (by assumption) (by assumption)
end
end
section
-- S1
open PySem PySem.W PyProof.Rows PyProof.V PySem.Spec PySem.Calls PySem.SeqAt
local macro_rules | `(tactic| walk_at "pad0") => `(tactic| fail)
local macro_rules | `(tactic| walk_at "call ref") => `(tactic| (k_here; walk_at "%d"; (with_reducible show wpAny _ _ (call (Value.ref 214) _ _) _ _ _); k_dflt (refine' token_spec ?B ?F ?X ?T ?C ?N ?ok ?ch ?hz ?tk ?_; (case B | F | X | T | C => k_asm); (case ok | N | ch | tk | hz => assumption)); intro _ _ _ _ _ _ _ _ _ _ _))
section
variable {w : World} {h₀ base : Heap} {L fa bk bd hl rl : Addr} {cd : Value} {m mg mb : Str → Option Value} {s : Shared} {rest : List (Addr × Obj)} {mean : ExcName → Option Value} {p : Program} {loose : List Str}
set_option maxHeartbeats 2000000 in
set_option pp.deepTerms false in
theorem st1 {Q : Flow → Shared → Prop} {E : Value → Shared → Prop} {l : Lex} {ln : Int} {t2 : Tok} {ys : List Value} {k : Nat} {cs LL : List Nat} {W : Str} (dummy : PySem.Challenge.rw_sh0067_01 = PySem.Challenge.rw_sh0067_01 ∧ K1r = K1r)
  (B : Below callerA base [] h₀) (F : Fr h₀ L s.heap m) (X : (K1r w.params).In h₀) (T : Top p loose mean mg mb h₀) (C : CodeHd base 298 294)
  (N : News h₀ L s.heap (l.objs w ln t2 ys k rest)) (ok : l.Ok rest) (hch : ChL ys cs) (hz : cs.length + 2 ≤ sizeLine) (htok : tokenOf cs = (W, LL)) (ml : m (Str.ofString "lexer") = some (.ref l.x))
  (h : ∀ h' tk t2' ln' k' u ys', Fr h₀ L h' (up1 m "word" (.str W u)) → News h₀ L h' (l.objs w ln' t2' ys' k' rest) → ChL ys' LL → ln' + nlc LL = ln + nlc cs → Q .next { heap := h', gens := s.gens, drawn := s.drawn, toks := tk, os := s.os }) :
  wpAny (model pw w) (callerA.deeper (lawE L fa cd)) (exec (stAt 1) (lawE L fa cd)) Q E s := by
  dsimp only [Lex.objs] at N
  revert dummy
  k_fill
  intro _
  w_on
  (with_unfolding_all show wpAny _ _ (exec (Stmt.Assign _ _ _) _) _ _ _)
  (all_goals try k_fold)
  k_steps
  exact h _ _ _ _ _ _ _ (by assumption) (by assumption) (by assumption) (by assumption)
set_option maxHeartbeats 2000000 in
set_option pp.deepTerms false in
theorem st15 {Q : Flow → Shared → Prop} {E : Value → Shared → Prop} {l : Lex} {ln : Int} {t2 : Tok} {ys : List Value} {k : Nat} {cs LL : List Nat} {W : Str} (dummy : PySem.Challenge.rw_sh0067_01 = PySem.Challenge.rw_sh0067_01 ∧ K1r = K1r)
  (B : Below callerA base [] h₀) (F : Fr h₀ L s.heap m) (X : (K1r w.params).In h₀) (T : Top p loose mean mg mb h₀) (C : CodeHd base 298 294)
  (N : News h₀ L s.heap (l.objs w ln t2 ys k rest)) (ok : l.Ok rest) (hch : ChL ys cs) (hz : cs.length + 2 ≤ sizeLine) (htok : tokenOf cs = (W, LL)) (ml : m (Str.ofString "lexer") = some (.ref l.x))
  (h : ∀ h' tk t2' ln' k' u ys', Fr h₀ L h' (up1 m "word" (.str W u)) → News h₀ L h' (l.objs w ln' t2' ys' k' rest) → ChL ys' LL → ln' + nlc LL = ln + nlc cs → Q .next { heap := h', gens := s.gens, drawn := s.drawn, toks := tk, os := s.os }) :
  wpAny (model pw w) (callerA.deeper (lawE L fa cd)) (exec (stAt 15) (lawE L fa cd)) Q E s := by
  dsimp only [Lex.objs] at N
  revert dummy
  k_fill
  intro _
  w_on
  (with_unfolding_all show wpAny _ _ (exec (Stmt.Assign _ _ _) _) _ _ _)
  (all_goals try k_fold)
  k_steps
  exact h _ _ _ _ _ _ _ (by assumption) (by assumption) (by assumption) (by assumption)
end
end
section
-- S2
open PySem PySem.W PyProof.Rows PyProof.V PySem.Spec PySem.Calls PySem.SeqAt
section
variable {w : World} {h₀ base : Heap} {L fa bk bd hl rl : Addr} {cd : Value} {m mg mb : Str → Option Value} {s : Shared} {rest : List (Addr × Obj)} {mean : ExcName → Option Value} {p : Program} {loose : List Str}
set_option maxHeartbeats 2000000 in
set_option pp.deepTerms false in
theorem st2 {Q : Flow → Shared → Prop} {E : Value → Shared → Prop} {l : Lex} {ln : Int} {t2 : Tok} {ys : List Value} {k : Nat} {W : Str} {u thd tw : Tok} {hc wc : Nat} {bw : Bool} (dummy : PySem.Challenge.rw_sh0067_01 = PySem.Challenge.rw_sh0067_01 ∧ K1r = K1r)
  (B : Below callerA base [] h₀) (F : Fr h₀ L s.heap m) (X : (K1r w.params).In h₀) (T : Top p loose mean mg mb h₀) (C : CodeHd base 298 294)
  (N : News h₀ L s.heap (l.objs w ln t2 ys k rest)) (mword : m (Str.ofString "word") = some (.str W u)) (mh : m (Str.ofString "head") = some (.str ⟨#[hc]⟩ thd)) (mw : m (Str.ofString "white") = some (.str ⟨#[wc]⟩ tw)) (ml : m (Str.ofString "lexer") = some (.ref l.x))
  (hW1 : Txt.slice W none (some 1) = ⟨#[hc]⟩) (hWz : W.length ≤ sizeLine) (hbw : ((⟨#[wc]⟩ : Str) == Str.ofString "\n") = bw) (hln : ln = if bw then 3 else 1)
  (h : ∀ h' tk, Fr h₀ L h' m → News h₀ L h' (l.objs w ln t2 ys k rest) → Q .next { heap := h', gens := s.gens, drawn := s.drawn, toks := tk, os := s.os }) :
  wpAny (model pw w) (callerA.deeper (lawE L fa cd)) (exec (stAt 2) (lawE L fa cd)) Q E s := by
  dsimp only [Lex.objs] at N
  cases bw
  all_goals (simp only [if_true, if_false, Bool.false_eq_true] at hln; subst hln)
  all_goals (revert dummy; k_fill; intro dummy)
  all_goals w_on
  all_goals (with_unfolding_all show wpAny _ _ (exec (Stmt.If _ _ _ _) _) _ _ _)
  (all_goals try k_fold)
  k_steps
  all_goals first | exact h _ _ (by assumption) (by assumption) | (exfalso; rename_i q; rw [hW1, bne_self_eq_false] at q; cases q)
end
end
section
-- S3
open PySem PySem.W PyProof.Rows PyProof.V PySem.Spec PySem.Calls PySem.SeqAt
theorem strOk_z : ∀ x ∈ [Str.ofString "z"], PyData.strOk x = true := by intro x hx; rw [List.mem_singleton.mp hx]; decide +kernel
theorem noMix_strs2 : ∀ ss ss' : List Str, noMixAll (ss.map PyData.str) (ss'.map PyData.str) = true
  | [], [] => by simp [noMixAll]
  | [], _ :: _ => by simp [noMixAll]
  | _ :: _, [] => by simp [noMixAll]
  | n :: r, n' :: r' => by simp [noMixAll, noMix, noMix_strs2 r r']
theorem eq_strsB {prog : Program} {w : World} {A : Around} {E : Value → Shared → Prop} {s : Shared} {a b' : Addr} {vs us : Array Value} {ss ss' : List Str} {Q : Value → Shared → Prop} (b : Bool) (hl : s.heap.IsList a vs) (hi : StrsAre vs.toList ss) (hl' : s.heap.IsList b' us) (hi' : StrsAre us.toList ss')
    (hb : sameAll (ss.map PyData.str) (ss'.map PyData.str) = b) (hk : ∀ x ∈ ss, PyData.strOk x = true) (hk' : ∀ x ∈ ss', PyData.strOk x = true) (hu : A.units + 64 < cLine)
    (h : Q (.bool b) s) : wpAny (model prog w) A (compareOp .Eq (.ref a) (.ref b')) Q E s := by
  obtain ⟨o, ho, hc, n, hd⟩ := hl
  obtain ⟨o', ho', hc', n', hd'⟩ := hl'
  refine eq_dataH_same (Reads.list ho hc hd (hi.reads _)) (Reads.list ho' hc' hd' (hi'.reads _)) (shaped_strs ss hk) (shaped_strs ss' hk') hu (by simp only [noMix]; exact noMix_strs2 ss ss') ?_
  simp only [PySem.Spec.same]
  rw [hb]
  exact h
section
variable {w : World} {h₀ base : Heap} {L fa bk bd hl rl : Addr} {cd : Value} {m mg mb : Str → Option Value} {s : Shared} {rest : List (Addr × Obj)} {mean : ExcName → Option Value} {p : Program} {loose : List Str}
local macro_rules | `(tactic| walk_at "compareOp Eq ref ref") => `(tactic| (k_here; (refine' eq_strsB (b := true) (News.isList ?N1 ?m1) ?i1 (News.isList ?N2 ?m2) ?i2 ?hb ?hk1 ?hk2 ?hu ?_; (case N1 => k_asm); (case m1 => k_mem); (case N2 => k_asm); (case m2 => k_mem); (case i1 => assumption); (case i2 => (with_unfolding_all exact .cons _ _ .nil)); (case hb | hk1 => assumption); (case hk2 => exact strOk_z); (case hu => units_room))))
set_option maxHeartbeats 2000000 in
set_option pp.deepTerms false in
theorem st3e {Q : Flow → Shared → Prop} {E : Value → Shared → Prop} {l : Lex} {ln : Int} {t2 : Tok} {ys : List Value} {k : Nat} {W R : Str} {u : Tok} (dummy : PySem.Challenge.rw_sh0067_01 = PySem.Challenge.rw_sh0067_01 ∧ K1r = K1r)
  (B : Below callerA base [] h₀) (F : Fr h₀ L s.heap m) (X : (K1r w.params).In h₀) (T : Top p loose mean mg mb h₀) (C : CodeHd base 298 294)
  (N : News h₀ L s.heap (l.objs w ln t2 ys k rest)) (mword : m (Str.ofString "word") = some (.str W u)) (mlf : m (Str.ofString "left") = some (.ref l.left)) (hys : StrsAre (ys : List Value).toArray.toList [Str.ofString "z"]) (hok : ∀ x ∈ ([Str.ofString "z"] : List Str), PyData.strOk x = true) (hsame : sameAll ([Str.ofString "z"].map PyData.str) ([Str.ofString "z"].map PyData.str) = true) (hW2 : Txt.slice W (some 1) none = R) (hWz : W.length ≤ sizeLine)
  (h : ∀ h' tk u', Fr h₀ L h' (up1 m "run" (.str R u')) → News h₀ L h' (l.objs w ln t2 ys k rest) → Q .cont { heap := h', gens := s.gens, drawn := s.drawn, toks := tk, os := s.os }) :
  wpAny (model pw w) (callerA.deeper (lawE L fa cd)) (exec (stAt 3) (lawE L fa cd)) Q E s := by
  subst hW2
  dsimp only [Lex.objs] at N
  revert dummy
  k_fill
  intro _
  w_on
  (with_unfolding_all show wpAny _ _ (exec (Stmt.If _ _ _ _) _) _ _ _)
  (all_goals try k_fold)
  k_steps
  exact h _ _ _ (by assumption) (by first | assumption | exact news_tail (by assumption))
local macro_rules | `(tactic| walk_at "compareOp Eq ref ref") => `(tactic| (k_here; (refine' eq_strsB (b := false) (News.isList ?N1 ?m1) ?i1 (News.isList ?N2 ?m2) ?i2 ?hb ?hk1 ?hk2 ?hu ?_; (case N1 => k_asm); (case m1 => k_mem); (case N2 => k_asm); (case m2 => k_mem); (case i1 => assumption); (case i2 => (with_unfolding_all exact .cons _ _ .nil)); (case hb | hk1 => assumption); (case hk2 => exact strOk_z); (case hu => units_room))))
set_option maxHeartbeats 2000000 in
set_option pp.deepTerms false in
theorem st3o {Q : Flow → Shared → Prop} {E : Value → Shared → Prop} {l : Lex} {ln : Int} {t2 : Tok} {ys : List Value} {k : Nat} {W R : Str} {u : Tok} (dummy : PySem.Challenge.rw_sh0067_01 = PySem.Challenge.rw_sh0067_01 ∧ K1r = K1r)
  (B : Below callerA base [] h₀) (F : Fr h₀ L s.heap m) (X : (K1r w.params).In h₀) (T : Top p loose mean mg mb h₀) (C : CodeHd base 298 294)
  (N : News h₀ L s.heap (l.objs w ln t2 ys k rest)) (mword : m (Str.ofString "word") = some (.str W u)) (mlf : m (Str.ofString "left") = some (.ref l.left)) (hys : StrsAre (ys : List Value).toArray.toList ([] : List Str)) (hok : ∀ x ∈ (([] : List Str) : List Str), PyData.strOk x = true) (hsame : sameAll (([] : List Str).map PyData.str) ([Str.ofString "z"].map PyData.str) = false) 
  (h : ∀ h' tk, Fr h₀ L h' m → News h₀ L h' (l.objs w ln t2 ys k rest) → Q .next { heap := h', gens := s.gens, drawn := s.drawn, toks := tk, os := s.os }) :
  wpAny (model pw w) (callerA.deeper (lawE L fa cd)) (exec (stAt 3) (lawE L fa cd)) Q E s := by
  dsimp only [Lex.objs] at N
  revert dummy
  k_fill
  intro _
  w_on
  (with_unfolding_all show wpAny _ _ (exec (Stmt.If _ _ _ _) _) _ _ _)
  (all_goals try k_fold)
  k_steps
  exact h _ _ (by assumption) (by first | assumption | exact news_tail (by assumption))
end
end
section
-- S4
open PySem PySem.W PyProof.Rows PyProof.V PySem.Spec PySem.Calls PySem.SeqAt
section
variable {w : World} {h₀ base : Heap} {L fa bk bd hl rl : Addr} {cd : Value} {m mg mb : Str → Option Value} {s : Shared} {rest : List (Addr × Obj)} {mean : ExcName → Option Value} {p : Program} {loose : List Str}
set_option maxHeartbeats 2000000 in
set_option pp.deepTerms false in
theorem st4 {Q : Flow → Shared → Prop} {E : Value → Shared → Prop} {W : Str} {u tw : Tok} {wc : Nat} (dummy : PySem.Challenge.rw_sh0067_01 = PySem.Challenge.rw_sh0067_01 ∧ K1r = K1r)
  (B : Below callerA base [] h₀) (F : Fr h₀ L s.heap m) (X : (K1r w.params).In h₀) (T : Top p loose mean mg mb h₀) (C : CodeHd base 298 294)
  (N : News h₀ L s.heap rest) (mword : m (Str.ofString "word") = some (.str W u)) (mw : m (Str.ofString "white") = some (.str ⟨#[wc]⟩ tw)) (hW3 : Txt.slice W (some (-2)) none = (⟨#[wc]⟩ : Str) ++ Str.ofString "z") (hWz : W.length ≤ sizeLine)
  (h : ∀ h' tk, Fr h₀ L h' m → News h₀ L h' rest → Q .next { heap := h', gens := s.gens, drawn := s.drawn, toks := tk, os := s.os }) :
  wpAny (model pw w) (callerA.deeper (lawE L fa cd)) (exec (stAt 4) (lawE L fa cd)) Q E s := by
  revert dummy
  k_fill
  intro _
  w_on
  (with_unfolding_all show wpAny _ _ (exec (Stmt.If _ _ _ _) _) _ _ _)
  (all_goals try k_fold)
  k_steps
  all_goals first | exact h _ _ (by assumption) (by assumption) | (exfalso; rename_i q; rw [hW3, bne_self_eq_false] at q; cases q)
end
end
section
-- S5
open PySem PySem.W PyProof.Rows PyProof.V PySem.Spec PySem.Calls PySem.SeqAt
noncomputable def lowS (pl : Int) : Str := if pl = 0 then Str.ofString "a" else if pl = 1 then Str.ofString "b" else Str.ofString "c"
noncomputable def uppS (pl : Int) : Str := if pl = 0 then Str.ofString "A" else if pl = 1 then Str.ofString "B" else Str.ofString "C"
section
variable {w : World} {h₀ base : Heap} {L fa bk bd hl rl : Addr} {cd : Value} {m mg mb : Str → Option Value} {s : Shared} {rest : List (Addr × Obj)} {mean : ExcName → Option Value} {p : Program} {loose : List Str}
set_option maxHeartbeats 2000000 in
set_option pp.deepTerms false in
theorem st5e {Q : Flow → Shared → Prop} {E : Value → Shared → Prop} {pl i : Int} {tp ti : Tok} {oc o1 : Obj} {v0 : Option Value} (dummy : PySem.Challenge.rw_sh0067_01 = PySem.Challenge.rw_sh0067_01 ∧ K1r = K1r)
  (B : Below callerA base [] h₀) (F : Fr h₀ L s.heap m) (X : (K1r w.params).In h₀) (T : Top p loose mean mg mb h₀) (C : CodeHd base 298 294)
  (N : News h₀ L s.heap ((L + 1, oc) :: (L + 2, o1) :: rest)) (hoc : oc.data = .cell v0) (mp : m (Str.ofString "place") = some (.int pl tp)) (mi : m (Str.ofString "step") = some (.int i ti)) (hp : pl = 0 ∨ pl = 1 ∨ pl = 2) (hi : i.fmod 2 = 0) (hap : ∀ p ∈ rest, p.1 ≠ L + 1 ∧ p.1 ≠ L + 2)
  (h : ∀ h' tk u oc', Fr h₀ L h' m → News h₀ L h' ((L + 1, oc') :: (L + 2, o1) :: rest) → oc'.data = .cell (some (.str (lowS pl) u)) → Q .next { heap := h', gens := s.gens, drawn := s.drawn, toks := tk, os := s.os }) :
  wpAny (model pw w) (callerA.deeper (lawE L fa cd)) (exec (stAt 5) (lawE L fa cd)) Q E s := by
  have hap1 : ∀ p ∈ rest, p.1 ≠ L + 1 := fun p hp => (hap p hp).1
  have hap2 : ∀ p ∈ rest, p.1 ≠ L + 2 := fun p hp => (hap p hp).2
  rcases hp with rfl | rfl | rfl
  all_goals (revert dummy; k_fill; intro dummy)
  all_goals w_on
  all_goals (with_unfolding_all show wpAny _ _ (exec (Stmt.Assign _ _ _) _) _ _ _)
  (all_goals try k_fold)
  k_steps
  all_goals first | (exfalso; omega) | exact h _ _ _ _ (by assumption) (by assumption) (by assumption)
set_option maxHeartbeats 2000000 in
set_option pp.deepTerms false in
theorem st5o {Q : Flow → Shared → Prop} {E : Value → Shared → Prop} {pl i : Int} {tp ti : Tok} {oc o1 : Obj} {v0 : Option Value} (dummy : PySem.Challenge.rw_sh0067_01 = PySem.Challenge.rw_sh0067_01 ∧ K1r = K1r)
  (B : Below callerA base [] h₀) (F : Fr h₀ L s.heap m) (X : (K1r w.params).In h₀) (T : Top p loose mean mg mb h₀) (C : CodeHd base 298 294)
  (N : News h₀ L s.heap ((L + 1, oc) :: (L + 2, o1) :: rest)) (hoc : oc.data = .cell v0) (mp : m (Str.ofString "place") = some (.int pl tp)) (mi : m (Str.ofString "step") = some (.int i ti)) (hp : pl = 0 ∨ pl = 1 ∨ pl = 2) (hi : i.fmod 2 = 1) (hap : ∀ p ∈ rest, p.1 ≠ L + 1 ∧ p.1 ≠ L + 2)
  (h : ∀ h' tk u oc', Fr h₀ L h' m → News h₀ L h' ((L + 1, oc') :: (L + 2, o1) :: rest) → oc'.data = .cell (some (.str (uppS pl) u)) → Q .next { heap := h', gens := s.gens, drawn := s.drawn, toks := tk, os := s.os }) :
  wpAny (model pw w) (callerA.deeper (lawE L fa cd)) (exec (stAt 5) (lawE L fa cd)) Q E s := by
  have hap1 : ∀ p ∈ rest, p.1 ≠ L + 1 := fun p hp => (hap p hp).1
  have hap2 : ∀ p ∈ rest, p.1 ≠ L + 2 := fun p hp => (hap p hp).2
  rcases hp with rfl | rfl | rfl
  all_goals (revert dummy; k_fill; intro dummy)
  all_goals w_on
  all_goals (with_unfolding_all show wpAny _ _ (exec (Stmt.Assign _ _ _) _) _ _ _)
  (all_goals try k_fold)
  k_steps
  all_goals first | (exfalso; omega) | exact h _ _ _ _ (by assumption) (by assumption) (by assumption)
set_option maxHeartbeats 2000000 in
set_option pp.deepTerms false in
theorem st6e {Q : Flow → Shared → Prop} {E : Value → Shared → Prop} {pl i : Int} {tp ti : Tok} {oc o1 : Obj} {v0 : Option Value} (dummy : PySem.Challenge.rw_sh0067_01 = PySem.Challenge.rw_sh0067_01 ∧ K1r = K1r)
  (B : Below callerA base [] h₀) (F : Fr h₀ L s.heap m) (X : (K1r w.params).In h₀) (T : Top p loose mean mg mb h₀) (C : CodeHd base 298 294)
  (N : News h₀ L s.heap ((L + 1, o1) :: (L + 2, oc) :: rest)) (hoc : oc.data = .cell v0) (mp : m (Str.ofString "place") = some (.int pl tp)) (mi : m (Str.ofString "step") = some (.int i ti)) (hp : pl = 0 ∨ pl = 1 ∨ pl = 2) (hi : i.fmod 2 = 0) (hap : ∀ p ∈ rest, p.1 ≠ L + 1 ∧ p.1 ≠ L + 2)
  (h : ∀ h' tk u oc', Fr h₀ L h' m → News h₀ L h' ((L + 1, o1) :: (L + 2, oc') :: rest) → oc'.data = .cell (some (.str (uppS pl) u)) → Q .next { heap := h', gens := s.gens, drawn := s.drawn, toks := tk, os := s.os }) :
  wpAny (model pw w) (callerA.deeper (lawE L fa cd)) (exec (stAt 6) (lawE L fa cd)) Q E s := by
  have hap1 : ∀ p ∈ rest, p.1 ≠ L + 1 := fun p hp => (hap p hp).1
  have hap2 : ∀ p ∈ rest, p.1 ≠ L + 2 := fun p hp => (hap p hp).2
  rcases hp with rfl | rfl | rfl
  all_goals (revert dummy; k_fill; intro dummy)
  all_goals w_on
  all_goals (with_unfolding_all show wpAny _ _ (exec (Stmt.Assign _ _ _) _) _ _ _)
  (all_goals try k_fold)
  k_steps
  all_goals first | (exfalso; omega) | exact h _ _ _ _ (by assumption) (by assumption) (by assumption)
set_option maxHeartbeats 2000000 in
set_option pp.deepTerms false in
theorem st6o {Q : Flow → Shared → Prop} {E : Value → Shared → Prop} {pl i : Int} {tp ti : Tok} {oc o1 : Obj} {v0 : Option Value} (dummy : PySem.Challenge.rw_sh0067_01 = PySem.Challenge.rw_sh0067_01 ∧ K1r = K1r)
  (B : Below callerA base [] h₀) (F : Fr h₀ L s.heap m) (X : (K1r w.params).In h₀) (T : Top p loose mean mg mb h₀) (C : CodeHd base 298 294)
  (N : News h₀ L s.heap ((L + 1, o1) :: (L + 2, oc) :: rest)) (hoc : oc.data = .cell v0) (mp : m (Str.ofString "place") = some (.int pl tp)) (mi : m (Str.ofString "step") = some (.int i ti)) (hp : pl = 0 ∨ pl = 1 ∨ pl = 2) (hi : i.fmod 2 = 1) (hap : ∀ p ∈ rest, p.1 ≠ L + 1 ∧ p.1 ≠ L + 2)
  (h : ∀ h' tk u oc', Fr h₀ L h' m → News h₀ L h' ((L + 1, o1) :: (L + 2, oc') :: rest) → oc'.data = .cell (some (.str (lowS pl) u)) → Q .next { heap := h', gens := s.gens, drawn := s.drawn, toks := tk, os := s.os }) :
  wpAny (model pw w) (callerA.deeper (lawE L fa cd)) (exec (stAt 6) (lawE L fa cd)) Q E s := by
  have hap1 : ∀ p ∈ rest, p.1 ≠ L + 1 := fun p hp => (hap p hp).1
  have hap2 : ∀ p ∈ rest, p.1 ≠ L + 2 := fun p hp => (hap p hp).2
  rcases hp with rfl | rfl | rfl
  all_goals (revert dummy; k_fill; intro dummy)
  all_goals w_on
  all_goals (with_unfolding_all show wpAny _ _ (exec (Stmt.Assign _ _ _) _) _ _ _)
  (all_goals try k_fold)
  k_steps
  all_goals first | (exfalso; omega) | exact h _ _ _ _ (by assumption) (by assumption) (by assumption)
end
end
section
-- S7
open PySem PySem.W PyProof.Rows PyProof.V PySem.Spec PySem.Calls PySem.SeqAt
section
variable {w : World} {h₀ base : Heap} {L fa bk bd hl rl : Addr} {cd : Value} {m mg mb : Str → Option Value} {s : Shared} {rest : List (Addr × Obj)} {mean : ExcName → Option Value} {p : Program} {loose : List Str}
set_option maxHeartbeats 2000000 in
set_option pp.deepTerms false in
theorem st7e {Q : Flow → Shared → Prop} {E : Value → Shared → Prop} {i : Int} {ti : Tok} (dummy : PySem.Challenge.rw_sh0067_01 = PySem.Challenge.rw_sh0067_01 ∧ K1r = K1r)
  (B : Below callerA base [] h₀) (F : Fr h₀ L s.heap m) (X : (K1r w.params).In h₀) (T : Top p loose mean mg mb h₀) (C : CodeHd base 298 294)
  (N : News h₀ L s.heap rest) (mi : m (Str.ofString "step") = some (.int i ti)) (hi : i.fmod 2 = 0)
  (h : ∀ h' tk u, Fr h₀ L h' (up1 m "ahead" (.str (Str.ofString "twice-and-one=\"\\\\o\\\"") u)) → News h₀ L h' rest → Q .next { heap := h', gens := s.gens, drawn := s.drawn, toks := tk, os := s.os }) :
  wpAny (model pw w) (callerA.deeper (lawE L fa cd)) (exec (stAt 7) (lawE L fa cd)) Q E s := by
  revert dummy
  k_fill
  intro _
  w_on
  (with_unfolding_all show wpAny _ _ (exec (Stmt.Assign _ _ _) _) _ _ _)
  (all_goals try k_fold)
  k_steps
  all_goals first | (exfalso; omega) | exact h _ _ _ (by assumption) (by assumption)
set_option maxHeartbeats 2000000 in
set_option pp.deepTerms false in
theorem st7o {Q : Flow → Shared → Prop} {E : Value → Shared → Prop} {i : Int} {ti : Tok} (dummy : PySem.Challenge.rw_sh0067_01 = PySem.Challenge.rw_sh0067_01 ∧ K1r = K1r)
  (B : Below callerA base [] h₀) (F : Fr h₀ L s.heap m) (X : (K1r w.params).In h₀) (T : Top p loose mean mg mb h₀) (C : CodeHd base 298 294)
  (N : News h₀ L s.heap rest) (mi : m (Str.ofString "step") = some (.int i ti)) (hi : i.fmod 2 = 1)
  (h : ∀ h' tk u, Fr h₀ L h' (up1 m "ahead" (.str (Str.ofString "z; twice-and-one=\"\\\\o\\\"") u)) → News h₀ L h' rest → Q .next { heap := h', gens := s.gens, drawn := s.drawn, toks := tk, os := s.os }) :
  wpAny (model pw w) (callerA.deeper (lawE L fa cd)) (exec (stAt 7) (lawE L fa cd)) Q E s := by
  revert dummy
  k_fill
  intro _
  w_on
  (with_unfolding_all show wpAny _ _ (exec (Stmt.Assign _ _ _) _) _ _ _)
  (all_goals try k_fold)
  k_steps
  all_goals first | (exfalso; omega) | exact h _ _ _ (by assumption) (by assumption)
end
end
section
-- S8
open PySem PySem.W PyProof.Rows PyProof.V PySem.Spec PySem.Calls PySem.SeqAt
local macro_rules | `(tactic| walk_at "call builtin:len") => `(tactic| (k_here; walk_at "%l"; refine len_str (lenF (le_line ?z)) ?_; (case z => omega)))
local macro_rules | `(tactic| walk_at "call builtin:list.append") => `(tactic| (k_here; walk_at "%d"; (with_reducible show wpAny _ _ (call (Value.builtin _) [Value.ref _, _]) _ _ _); k_dflt (refine' append_K ?_ ?_ ?_ ?_ ?_; rotate_right 5; k_asm; k_asm; k_upd; rotate_left; (first | assumption | size_fits); k_whole); intro _ _ _; (try k_sweep)))
section
variable {w : World} {h₀ base : Heap} {L fa bk bd hl rl : Addr} {cd : Value} {m mg mb : Str → Option Value} {s : Shared} {rest : List (Addr × Obj)} {mean : ExcName → Option Value} {p : Program} {loose : List Str}
set_option maxHeartbeats 2000000 in
set_option pp.deepTerms false in
theorem st8 {Q : Flow → Shared → Prop} {E : Value → Shared → Prop} {r A0 Bh sh : Str} {tr ta tb ts : Tok} {oc1 o2 : Obj} {rs : Array Value} {kr : Nat} (dummy : PySem.Challenge.rw_sh0067_01 = PySem.Challenge.rw_sh0067_01 ∧ K1r = K1r)
  (B : Below callerA base [] h₀) (F : Fr h₀ L s.heap m) (X : (K1r w.params).In h₀) (T : Top p loose mean mg mb h₀) (C : CodeHd base 298 294)
  (N : News h₀ L s.heap ((L + 1, oc1) :: (L + 2, o2) :: (rl, listOf rs kr) :: rest)) (hoc : oc1.data = .cell (some (.str sh ts))) (mrl : m (Str.ofString "rows") = some (.ref rl)) (mr : m (Str.ofString "run") = some (.str r tr)) (ma : m (Str.ofString "ahead") = some (.str A0 ta)) (mb' : m (Str.ofString "behind") = some (.str Bh tb)) (hr : r.length ≤ 100) (hA : A0.length ≤ 100) (hB : Bh.length ≤ 100) (hrs : rs.size ≤ sizeLine) (hap : ∀ p ∈ rest, p.1 ≠ rl) (h1 : @Ne Nat (L + 1) rl) (h2 : @Ne Nat (L + 2) rl)
  (h : ∀ h' tk D u, Fr h₀ L h' m → News h₀ L h' ((D, tupO [.str sh ts, .str (A0 ++ Txt.mul (Str.ofString "\\") (2 * (r.length : Int) + 1) ++ Str.ofString "\"" ++ Bh) u]) :: (L + 1, oc1) :: (L + 2, o2) :: (rl, listOf (rs.push (.ref D)) (kr + 1)) :: rest) → (L + 1 < D ∧ L + 2 < D ∧ rl < D ∧ topA rest ≤ D) → Q .next { heap := h', gens := s.gens, drawn := s.drawn, toks := tk, os := s.os }) :
  wpAny (model pw w) (callerA.deeper (lawE L fa cd)) (exec (stAt 8) (lawE L fa cd)) Q E s := by
  revert dummy
  k_fill
  intro _
  w_on
  (with_unfolding_all show wpAny _ _ (exec (Stmt.Expr _ _) _) _ _ _)
  (all_goals try k_fold)
  k_steps
  exact h _ _ _ _ (by assumption) (by assumption) (by refine ⟨lt2 ?_, lt2 ?_, lt2 ?_, ?_⟩ <;> omega)
end
end
section
-- S9
open PySem PySem.W PyProof.Rows PyProof.V PySem.Spec PySem.Calls PySem.SeqAt
section
variable {w : World} {h₀ base : Heap} {L fa bk bd hl rl : Addr} {cd : Value} {m mg mb : Str → Option Value} {s : Shared} {rest : List (Addr × Obj)} {mean : ExcName → Option Value} {p : Program} {loose : List Str}
set_option maxHeartbeats 2000000 in
set_option pp.deepTerms false in
theorem st9e {Q : Flow → Shared → Prop} {E : Value → Shared → Prop} {i : Int} {ti : Tok} (dummy : PySem.Challenge.rw_sh0067_01 = PySem.Challenge.rw_sh0067_01 ∧ K1r = K1r)
  (B : Below callerA base [] h₀) (F : Fr h₀ L s.heap m) (X : (K1r w.params).In h₀) (T : Top p loose mean mg mb h₀) (C : CodeHd base 298 294)
  (N : News h₀ L s.heap rest) (mi : m (Str.ofString "step") = some (.int i ti)) (hi : i.fmod 2 = 0)
  (h : ∀ h' tk u, Fr h₀ L h' (up1 (up1 m "own" (.none)) "more" (.str (Str.ofString "") u)) → News h₀ L h' rest → Q .next { heap := h', gens := s.gens, drawn := s.drawn, toks := tk, os := s.os }) :
  wpAny (model pw w) (callerA.deeper (lawE L fa cd)) (exec (stAt 9) (lawE L fa cd)) Q E s := by
  revert dummy
  k_fill
  intro _
  w_on
  (with_unfolding_all show wpAny _ _ (exec (Stmt.Assign _ _ _) _) _ _ _)
  (all_goals try k_fold)
  k_steps
  all_goals first | (exfalso; omega) | exact h _ _ _ (by assumption) (by first | assumption | exact news_tail (by assumption))
set_option maxHeartbeats 2000000 in
set_option pp.deepTerms false in
theorem st9o {Q : Flow → Shared → Prop} {E : Value → Shared → Prop} {i : Int} {ti : Tok} (dummy : PySem.Challenge.rw_sh0067_01 = PySem.Challenge.rw_sh0067_01 ∧ K1r = K1r)
  (B : Below callerA base [] h₀) (F : Fr h₀ L s.heap m) (X : (K1r w.params).In h₀) (T : Top p loose mean mg mb h₀) (C : CodeHd base 298 294)
  (N : News h₀ L s.heap rest) (mi : m (Str.ofString "step") = some (.int i ti)) (hi : i.fmod 2 = 1)
  (h : ∀ h' tk u, Fr h₀ L h' (up1 (up1 m "own" (.str (Str.ofString "z") u)) "more" (.none)) → News h₀ L h' rest → Q .next { heap := h', gens := s.gens, drawn := s.drawn, toks := tk, os := s.os }) :
  wpAny (model pw w) (callerA.deeper (lawE L fa cd)) (exec (stAt 9) (lawE L fa cd)) Q E s := by
  revert dummy
  k_fill
  intro _
  w_on
  (with_unfolding_all show wpAny _ _ (exec (Stmt.Assign _ _ _) _) _ _ _)
  (all_goals try k_fold)
  k_steps
  all_goals first | (exfalso; omega) | exact h _ _ _ (by assumption) (by first | assumption | exact news_tail (by assumption))
end
end
section
-- S10
open PySem PySem.W PyProof.Rows PyProof.V PySem.Spec PySem.Calls PySem.SeqAt
theorem ln_x1 : (Str.ofString "\\o\"").length = 3 := rfl
theorem ln_x2 : (Str.ofString "\"").length = 1 := rfl
theorem ln_x3 : (Str.ofString "\\").length = 1 := rfl
theorem ln_x4 : (Str.ofString "Z").length = 1 := rfl
theorem add_strT {prog : Program} {w : World} {A : Around} {E : Value → Shared → Prop} {s : Shared} {x y : Str} {t u : Tok} {Q : Value → Shared → Prop} (hsz : x.length + y.length ≤ 65536) (h1 : @LE.le Nat _ 1 s.toks) (h : ∀ t' k, @LE.le Nat _ 1 k → Q (.str (x ++ y) t') { s with toks := k }) : wpAny (model prog w) A (binaryOp .Add (.str x t) (.str y u)) Q E s :=
  wpAny_with_toks h1 (PyProof.Rows.add_str (hsz := Nat.le_trans hsz (by decide)) fun t' k h2 => h t' k h2)
local macro_rules | `(tactic| walk_at "binaryOp Add str str") => `(tactic| (k_here; (refine' add_strT ?_ ?_ ?_; rotate_right 3; (simp only [lenApp, ln_x1, ln_x2, ln_x3, ln_x4]; omega); (try dsimp only); walk_at "%o"); intro _ _ _))
section
variable {w : World} {h₀ base : Heap} {L fa bk bd hl rl : Addr} {cd : Value} {m mg mb : Str → Option Value} {s : Shared} {rest : List (Addr × Obj)} {mean : ExcName → Option Value} {p : Program} {loose : List Str}
local macro_rules | `(tactic| walk_at "call ref") => `(tactic| (k_here; walk_at "%d"; (with_reducible show wpAny _ _ (call (Value.ref 179) _ _) _ _ _); (with_unfolding_all show wpAny _ _ (call (Value.ref 179) [_, _, _] [(Str.ofString "twice_and_one", _), (Str.ofString "plain", _), (Str.ofString "no_more", _)]) _ _ _); k_dflt (refine' add_even ⟨rfl, rfl⟩ ?B ?F ?X ?T ?C ?N ?ax ?an ?e1 ?e2 ?hn ?hn2 ?hx ?hx2 ?hy ?hz ?hp ?ht ?hsz ?hbk ?hbd ?hr ?_; (case B | F | X | T | C | N => k_asm); (case ax | an | e1 | e2 | hn | hn2 | hx | hx2 | hy | hz | hp => assumption); (case ht => (try dsimp only); walk_at "%o"); (case hsz | hbk | hbd | hr => assumption)); intro _ _ _ _ _ _ _ _))
set_option maxHeartbeats 2000000 in
set_option pp.deepTerms false in
theorem st10e {Q : Flow → Shared → Prop} {E : Value → Shared → Prop} {r y z sh : Str} {tr ts tz th : Tok} {oc1 : Obj} {hs : Array Value} {kh : Nat} (dummy : PySem.Challenge.rw_sh0067_01 = PySem.Challenge.rw_sh0067_01 ∧ K1r = K1r)
  (B : Below callerA base [] h₀) (F : Fr h₀ L s.heap m) (X : (K1r w.params).In h₀) (T : Top p loose mean mg mb h₀) (C : CodeHd base 298 294)
  (N : News h₀ L s.heap ((bk, instObj 182 bd) :: (bd, bookD w hl th) :: (hl, listOf hs kh) :: (L + 1, oc1) :: rest)) (hoc : oc1.data = .cell (some (.str sh ts))) (mbk : m (Str.ofString "book") = some (.ref bk)) (mr : m (Str.ofString "run") = some (.str r tr)) (mo : m (Str.ofString "own") = some (.none)) (mmo : m (Str.ofString "more") = some (.str (Str.ofString "") tz))
  (ax : Asc (Str.ofString "\\o\"" ++ r ++ Str.ofString "\"" : Str)) (an : Asc sh) (e1 : Txt.replace (Str.ofString "\\o\"" ++ r ++ Str.ofString "\"" : Str) (Str.ofString "\\") (Str.ofString "\\\\") = y) (e2 : Txt.replace y (Str.ofString "\"") (Str.ofString "\\\"") = z) (hn : sh.length ≤ 4096) (hn2 : sh.cps.size ≤ 4096) (hrl : r.length ≤ 100) (hx : (Str.ofString "\\o\"" ++ r ++ Str.ofString "\"" : Str).length ≤ 4096) (hx2 : (Str.ofString "\\o\"" ++ r ++ Str.ofString "\"" : Str).cps.size ≤ 4096) (hy : y.length ≤ 4096) (hz : z.length ≤ 4096) (hp : 0 < (Str.ofString "\\o\"" ++ r ++ Str.ofString "\"" : Str).length) (ht : 1 ≤ s.toks) (hsz : hs.size ≤ sizeLine) (hbk : @Ne Nat bk hl) (hbd : @Ne Nat bd hl) (hr : ∀ p ∈ (L + 1, oc1) :: rest, p.1 ≠ hl)
  (h : ∀ h' tk D t', Fr h₀ L h' (up1 m "laid" .none) → News h₀ L h' ((D, tupO [.str sh ts, .str (Txt.join (Str.ofString "; ") (parE z)) t']) :: (bk, instObj 182 bd) :: (bd, bookD w hl th) :: (hl, listOf (hs.push (.ref D)) (kh + 1)) :: (L + 1, oc1) :: rest) → (bk < D ∧ bd < D ∧ @LT.lt Nat _ hl D ∧ topA ((L + 1, oc1) :: rest) ≤ D) → Q .next { heap := h', gens := s.gens, drawn := s.drawn, toks := tk, os := s.os }) :
  wpAny (model pw w) (callerA.deeper (lawE L fa cd)) (exec (stAt 10) (lawE L fa cd)) Q E s := by
  revert dummy
  k_fill
  intro _
  w_on
  (with_unfolding_all show wpAny _ _ (exec (Stmt.Assign _ _ _) _) _ _ _)
  (all_goals try k_fold)
  k_steps
  exact h _ _ _ _ (by assumption) (by assumption) (by assumption)
local macro_rules | `(tactic| walk_at "call ref") => `(tactic| (k_here; walk_at "%d"; (with_reducible show wpAny _ _ (call (Value.ref 179) _ _) _ _ _); (with_unfolding_all show wpAny _ _ (call (Value.ref 179) [_, _, _] [(Str.ofString "twice_and_one", _), (Str.ofString "plain", _), (Str.ofString "no_more", _)]) _ _ _); k_dflt (refine' add_odd ⟨rfl, rfl⟩ ?B ?F ?X ?T ?C ?N ?ax ?an ?e1 ?e2 ?hn ?hn2 ?hx ?hx2 ?hy ?hz ?hp ?ht ?hsz ?hbk ?hbd ?hr ?_; (case B | F | X | T | C | N => k_asm); (case ax | an | e1 | e2 | hn | hn2 | hx | hx2 | hy | hz | hp => assumption); (case ht => (try dsimp only); walk_at "%o"); (case hsz | hbk | hbd | hr => assumption)); intro _ _ _ _ _ _ _ _))
set_option maxHeartbeats 2000000 in
set_option pp.deepTerms false in
theorem st10o {Q : Flow → Shared → Prop} {E : Value → Shared → Prop} {r y z sh : Str} {tr ts tz th : Tok} {oc1 : Obj} {hs : Array Value} {kh : Nat} (dummy : PySem.Challenge.rw_sh0067_01 = PySem.Challenge.rw_sh0067_01 ∧ K1r = K1r)
  (B : Below callerA base [] h₀) (F : Fr h₀ L s.heap m) (X : (K1r w.params).In h₀) (T : Top p loose mean mg mb h₀) (C : CodeHd base 298 294)
  (N : News h₀ L s.heap ((bk, instObj 182 bd) :: (bd, bookD w hl th) :: (hl, listOf hs kh) :: (L + 1, oc1) :: rest)) (hoc : oc1.data = .cell (some (.str sh ts))) (mbk : m (Str.ofString "book") = some (.ref bk)) (mr : m (Str.ofString "run") = some (.str r tr)) (mo : m (Str.ofString "own") = some (.str (Str.ofString "z") tz)) (mmo : m (Str.ofString "more") = some (.none))
  (ax : Asc (Str.ofString "\\o\"" ++ r ++ Str.ofString "\"" : Str)) (an : Asc sh) (e1 : Txt.replace (Str.ofString "\\o\"" ++ r ++ Str.ofString "\"" : Str) (Str.ofString "\\") (Str.ofString "\\\\") = y) (e2 : Txt.replace y (Str.ofString "\"") (Str.ofString "\\\"") = z) (hn : sh.length ≤ 4096) (hn2 : sh.cps.size ≤ 4096) (hrl : r.length ≤ 100) (hx : (Str.ofString "\\o\"" ++ r ++ Str.ofString "\"" : Str).length ≤ 4096) (hx2 : (Str.ofString "\\o\"" ++ r ++ Str.ofString "\"" : Str).cps.size ≤ 4096) (hy : y.length ≤ 4096) (hz : z.length ≤ 4096) (hp : 0 < (Str.ofString "\\o\"" ++ r ++ Str.ofString "\"" : Str).length) (ht : 1 ≤ s.toks) (hsz : hs.size ≤ sizeLine) (hbk : @Ne Nat bk hl) (hbd : @Ne Nat bd hl) (hr : ∀ p ∈ (L + 1, oc1) :: rest, p.1 ≠ hl)
  (h : ∀ h' tk D t', Fr h₀ L h' (up1 m "laid" .none) → News h₀ L h' ((D, tupO [.str sh ts, .str (Txt.join (Str.ofString "; ") (Str.ofString "z" :: parE z)) t']) :: (bk, instObj 182 bd) :: (bd, bookD w hl th) :: (hl, listOf (hs.push (.ref D)) (kh + 1)) :: (L + 1, oc1) :: rest) → (bk < D ∧ bd < D ∧ @LT.lt Nat _ hl D ∧ topA ((L + 1, oc1) :: rest) ≤ D) → Q .next { heap := h', gens := s.gens, drawn := s.drawn, toks := tk, os := s.os }) :
  wpAny (model pw w) (callerA.deeper (lawE L fa cd)) (exec (stAt 10) (lawE L fa cd)) Q E s := by
  revert dummy
  k_fill
  intro _
  w_on
  (with_unfolding_all show wpAny _ _ (exec (Stmt.Assign _ _ _) _) _ _ _)
  (all_goals try k_fold)
  k_steps
  exact h _ _ _ _ (by assumption) (by assumption) (by assumption)
end
end
section
-- S11
open PySem PySem.W PyProof.Rows PyProof.V PySem.Spec PySem.Calls PySem.SeqAt
local macro_rules | `(tactic| walk_at "call ref") => `(tactic| (k_here; walk_at "%d"; (with_reducible show wpAny _ _ (call (Value.ref 121) _ _) _ _ _); k_dflt (refine' get_all_spec ⟨rfl, rfl⟩ ?B ?F ?X ?T ?C ?he ?hn ?hz ?hnl ?ha ?hz2 ?ht ?N ?_; (case B | F | X | T | C | N => k_asm); (case he | hn | hz | hnl | ha | hz2 => assumption); (case ht => (try dsimp only); walk_at "%o")); intro _ _ _ _ _ _ _ _ _))
section
variable {w : World} {h₀ base : Heap} {L fa bk bd hl rl : Addr} {cd : Value} {m mg mb : Str → Option Value} {s : Shared} {rest : List (Addr × Obj)} {mean : ExcName → Option Value} {p : Program} {loose : List Str}
set_option maxHeartbeats 2000000 in
set_option pp.deepTerms false in
theorem st11 {Q : Flow → Shared → Prop} {E : Value → Shared → Prop} {th ta : Tok} {es : List Ent} {kh : Nat} {n : Str} {oc2 : Obj} (dummy : PySem.Challenge.rw_sh0067_01 = PySem.Challenge.rw_sh0067_01 ∧ K1r = K1r)
  (B : Below callerA base [] h₀) (F : Fr h₀ L s.heap m) (X : (K1r w.params).In h₀) (T : Top p loose mean mg mb h₀) (C : CodeHd base 298 294)
  (N : News h₀ L s.heap ((bk, instObj 182 bd) :: (bd, bookD w hl th) :: (hl, listOf (refs es) kh) :: (L + 2, oc2) :: rest)) (hoc : oc2.data = .cell (some (.str n ta))) (mbk : m (Str.ofString "book") = some (.ref bk)) (hes : ∀ e ∈ es, e.o ∈ (L + 2, oc2) :: rest) (hn : ∀ e ∈ es, e.n.length ≤ 16) (hsz : es.length ≤ sizeLine) (hnl : n.length ≤ 16) (ha : Asc (Txt.lower n)) (hz2 : (Txt.lower n).cps.size ≤ 4096) (ht : 1 ≤ s.toks)
  (h : ∀ h' tk D ys c, Fr h₀ L h' (up1 m "told" (.ref D)) → News h₀ L h' ((D, listOf (ys : List Value).toArray c) :: (bk, instObj 182 bd) :: (bd, bookD w hl th) :: (hl, listOf (refs es) kh) :: (L + 2, oc2) :: rest) → StrsAre ys ((es.filter fun e => Txt.lower e.n == Txt.lower n).map (·.x)) → Q .next { heap := h', gens := s.gens, drawn := s.drawn, toks := tk, os := s.os }) :
  wpAny (model pw w) (callerA.deeper (lawE L fa cd)) (exec (stAt 11) (lawE L fa cd)) Q E s := by
  revert dummy
  k_fill
  intro _
  w_on
  (with_unfolding_all show wpAny _ _ (exec (Stmt.Assign _ _ _) _) _ _ _)
  (all_goals try k_fold)
  k_steps
  exact h _ _ _ _ _ (by assumption) (by assumption) (by assumption)
end
end
section
-- S12
open PySem PySem.W PyProof.Rows PyProof.V PySem.Spec PySem.Calls PySem.SeqAt
local macro_rules | `(tactic| walk_at "pad0") => `(tactic| fail)
theorem row_compE {w : World} {h₀ base : Heap} {L fa rl : Addr} {cd : Value} {m mg mb : Str → Option Value} {s : Shared} {rest : List (Addr × Obj)} {mean : ExcName → Option Value} {p : Program} {loose : List Str} {Q : Value → Shared → Prop} {E : Value → Shared → Prop} {sh as : Str} {ts ta : Tok} {oc1 oc2 : Obj} {es : List Ent} {kr : Nat} {e : PySem.Expr} (he0 : e = rowC)
  (B : Below callerA base [] h₀) (F : Fr h₀ L s.heap m) (X : (K1r w.params).In h₀) (T : Top p loose mean mg mb h₀)
  (h1 : oc1.data = .cell (some (.str sh ts))) (h2 : oc2.data = .cell (some (.str as ta))) (mr : m (Str.ofString "rows") = some (.ref rl)) (hes : ∀ e ∈ es, e.o ∈ rest) (hsz : es.length ≤ sizeLine)
  (N : News h₀ L s.heap rest) (m1 : (L + 1, oc1) ∈ rest) (m2 : (L + 2, oc2) ∈ rest) (mrl : (rl, listOf (refs es) kr) ∈ rest)
  (h : ∀ D ys h' tk, Fr h₀ L h' m → News h₀ L h' rest → h'.IsList D ys → StrsAre ys.toList ((es.filter fun e => e.n == sh || e.n == as).map (·.x)) → Q (.ref D) { heap := h', gens := s.gens, drawn := s.drawn, toks := tk, os := s.os }) :
  wpAny (model pw w) (callerA.deeper (lawE L fa cd)) (eval e (lawE L fa cd)) Q E s := by
  subst he0
  exact row_comp B F X T h1 h2 mr hes hsz N m1 m2 mrl h
local macro_rules | `(tactic| walk_at "compareOp NotEq ref ref") => `(tactic| (k_here; (refine' ne_strs (News.isList ?N1 ?m1) ?i1 ?l2 ?i2 ?hk ?hu ?_; (case N1 => k_asm); (case m1 | i1 | l2 | i2 | hk => assumption); (case hu => units_room))))
section
variable {w : World} {h₀ base : Heap} {L fa bk bd hl rl : Addr} {cd : Value} {m mg mb : Str → Option Value} {s : Shared} {rest : List (Addr × Obj)} {mean : ExcName → Option Value} {p : Program} {loose : List Str}
set_option maxHeartbeats 2000000 in
set_option pp.deepTerms false in
theorem st12 {Q : Flow → Shared → Prop} {E : Value → Shared → Prop} {sh as : Str} {ts ta : Tok} {oc1 oc2 : Obj} {rs : List Ent} {kr c : Nat} {D : Addr} {ys : List Value} (dummy : PySem.Challenge.rw_sh0067_01 = PySem.Challenge.rw_sh0067_01 ∧ K1r = K1r)
  (B : Below callerA base [] h₀) (F : Fr h₀ L s.heap m) (X : (K1r w.params).In h₀) (T : Top p loose mean mg mb h₀) (C : CodeHd base 298 294)
  (N : News h₀ L s.heap rest) (h1 : oc1.data = .cell (some (.str sh ts))) (h2 : oc2.data = .cell (some (.str as ta))) (mla : m (Str.ofString "laid") = some (.none)) (mt : m (Str.ofString "told") = some (.ref D)) (mrl : m (Str.ofString "rows") = some (.ref rl)) (hes : ∀ e ∈ rs, e.o ∈ rest) (hsz : rs.length ≤ sizeLine) (m1 : (L + 1, oc1) ∈ rest) (m2 : (L + 2, oc2) ∈ rest) (m3 : (rl, listOf (refs rs) kr) ∈ rest) (m4 : (D, listOf ys.toArray c) ∈ rest)
  (hys : StrsAre ys.toArray.toList ((rs.filter fun e => e.n == sh || e.n == as).map (·.x))) (hk : ∀ x ∈ (rs.filter fun e => e.n == sh || e.n == as).map (·.x), PyData.strOk x = true)
  (h : ∀ h' tk, Fr h₀ L h' m → News h₀ L h' rest → Q .next { heap := h', gens := s.gens, drawn := s.drawn, toks := tk, os := s.os }) :
  wpAny (model pw w) (callerA.deeper (lawE L fa cd)) (exec (stAt 12) (lawE L fa cd)) Q E s := by
  revert dummy
  k_fill
  intro _
  w_on
  (with_unfolding_all show wpAny _ _ (exec (Stmt.If _ _ _ _) _) _ _ _)
  (all_goals try k_fold)
  repeat ((fail_if_success (with_reducible show wpAny _ _ (eval (PySem.Expr.ListComp _ _ _ _) _) _ _ _)); (first | (k_unfold; (try dsimp only)) | walk1 | (dsimp only; walk1)))
  refine' row_compE ?he0 B ?F X T h1 h2 mrl hes hsz ?N m1 m2 m3 ?_
  case he0 => kernel_rfl
  case F => k_asm
  case N => k_asm
  intro D' ys' h' tk' F' N' hl' hs'
  k_steps
  all_goals exact h _ _ (by assumption) (by assumption)
end
end
section
-- S13
open PySem PySem.W PyProof.Rows PyProof.V PySem.Spec PySem.Calls PySem.SeqAt
theorem getD_last (ss : List Str) (V : Str) : (ss ++ [V]).getD (-1 + ((ss ++ [V]).length : Int)).toNat Str.empty = V := by
  have e : (-1 + ((ss ++ [V]).length : Int)).toNat = ss.length := by rw [List.length_append, List.length_singleton]; omega
  rw [e]
  simp
theorem last_K {prog : Program} {w : World} {A : Around} {E : Value → Shared → Prop} {s : Shared} {value slice : PySem.Expr} {D : Addr} {ys : List Value} {u : Tok} {ss : List Str} {V : Str} {Q : Value → Shared → Prop} (hl : s.heap.IsList D ys.toArray) (hi : StrsAre ys (ss ++ [V])) (h : ∀ t, Q (.str V t) s)
    (hs : subscripted slice false (.ref D) (.int (-1) u) = operate [.ref D, .int (-1) u] (getItem (.ref D) (.int (-1) u)) := by with_unfolding_all rfl) : wpAny (model prog w) A (subscriptTail value slice (.ref D) (.int (-1) u)) Q E s := by
  have hn := hi.len_eq
  rw [List.length_append, List.length_singleton] at hn
  have key : ∀ (ys : List Value) (ss : List Str), StrsAre ys (ss ++ [V]) → ∃ t, ys[ss.length]? = some (.str V t) := by
    intro ys ss
    induction ss generalizing ys with
    | nil => intro h; cases h with | cons y t r => exact ⟨t, rfl⟩
    | cons a ss ih => intro h; cases h with | cons y t r => simpa using ih _ r
  obtain ⟨t, ht⟩ := key ys ss hi
  refine tail_any hl.typeIs slot_list_getitem.lookup (wpAny_getItem_list_neg hl (by decide) ?_ (by decide) (x := .str V t) ?_ (h t)) hs
  · rw [List.size_toArray, hn]; omega
  · rw [List.size_toArray, hn]
    have e : (-1 + ((ss.length + 1 : Nat) : Int)).toNat = ss.length := by omega
    rw [e]
    simpa using ht
local macro_rules | `(tactic| walk_at "call builtin:len") => `(tactic| (k_here; walk_at "%l"; refine len_str (lenF (le_line ?z)) ?_; (case z => omega)))
local macro_rules | `(tactic| walk_at "subscriptTail") => `(tactic| (k_here; walk_at "%s"; (try dsimp only); (with_unfolding_all refine' sl_ss rfl ?F ?N ?z ?_); (case F | N => k_asm); (case z => assumption); intro _ _ _ _ _))
local macro_rules | `(tactic| walk_at "subscriptTail") => `(tactic| (k_here; walk_at "%i"; k_dflt (refine' last_K (News.isList ?N ?m) ?hi ?_; (case N => k_asm); (case m => k_mem); (case hi => assumption)); intro _))
local macro_rules | `(tactic| walk_at "subscriptTail Name Slice str ref") => `(tactic| (k_here; walk_at "%s"; (try dsimp only); (with_unfolding_all refine' sl_ss rfl ?F ?N ?z ?_); (case F | N => k_asm); (case z => assumption); intro _ _ _ _ _))
local macro_rules | `(tactic| walk_at "subscriptTail Name Slice str ref") => `(tactic| (k_here; walk_at "%i"; k_dflt (refine' last_K (News.isList ?N ?m) ?hi ?_; (case N => k_asm); (case m => k_mem); (case hi => assumption)); intro _))
local macro_rules | `(tactic| walk_at "subscriptTail Name UnaryOp ref int") => `(tactic| (k_here; walk_at "%s"; (try dsimp only); (with_unfolding_all refine' sl_ss rfl ?F ?N ?z ?_); (case F | N => k_asm); (case z => assumption); intro _ _ _ _ _))
local macro_rules | `(tactic| walk_at "subscriptTail Name UnaryOp ref int") => `(tactic| (k_here; walk_at "%i"; k_dflt (refine' last_K (News.isList ?N ?m) ?hi ?_; (case N => k_asm); (case m => k_mem); (case hi => assumption)); intro _))
local macro_rules | `(tactic| walk_at "subscriptTail Name Constant ref int") => `(tactic| (k_here; walk_at "%s"; (try dsimp only); (with_unfolding_all refine' sl_ss rfl ?F ?N ?z ?_); (case F | N => k_asm); (case z => assumption); intro _ _ _ _ _))
local macro_rules | `(tactic| walk_at "subscriptTail Name Constant ref int") => `(tactic| (k_here; walk_at "%i"; k_dflt (refine' last_K (News.isList ?N ?m) ?hi ?_; (case N => k_asm); (case m => k_mem); (case hi => assumption)); intro _))
section
variable {w : World} {h₀ base : Heap} {L fa bk bd hl rl : Addr} {cd : Value} {m mg mb : Str → Option Value} {s : Shared} {rest : List (Addr × Obj)} {mean : ExcName → Option Value} {p : Program} {loose : List Str}
set_option maxHeartbeats 2000000 in
set_option pp.deepTerms false in
theorem st13 {Q : Flow → Shared → Prop} {E : Value → Shared → Prop} {A0 Bh V : Str} {ta tb : Tok} {D : Addr} {ys : List Value} {c : Nat} {ss : List Str} (dummy : PySem.Challenge.rw_sh0067_01 = PySem.Challenge.rw_sh0067_01 ∧ K1r = K1r)
  (B : Below callerA base [] h₀) (F : Fr h₀ L s.heap m) (X : (K1r w.params).In h₀) (T : Top p loose mean mg mb h₀) (C : CodeHd base 298 294)
  (N : News h₀ L s.heap ((D, listOf ys.toArray c) :: rest)) (mt : m (Str.ofString "told") = some (.ref D)) (ma : m (Str.ofString "ahead") = some (.str A0 ta)) (mb' : m (Str.ofString "behind") = some (.str Bh tb)) (hys : StrsAre ys (ss ++ [V])) (hA : A0.length ≤ 100) (hB : Bh.length ≤ 100) (hss : ss.length ≤ 100) (hV : V.length ≤ sizeLine)
  (h : ∀ h' tk u, Fr h₀ L h' (up1 m "text" (.str (Txt.slice V (some A0.length) (some (-(Bh.length : Int)))) u)) → News h₀ L h' ((D, listOf ys.toArray c) :: rest) → Q .next { heap := h', gens := s.gens, drawn := s.drawn, toks := tk, os := s.os }) :
  wpAny (model pw w) (callerA.deeper (lawE L fa cd)) (exec (stAt 13) (lawE L fa cd)) Q E s := by
  revert dummy
  k_fill
  intro _
  w_on
  (with_unfolding_all show wpAny _ _ (exec (Stmt.Assign _ _ _) _) _ _ _)
  (all_goals try k_fold)
  k_steps
  exact h _ _ _ (by assumption) (by assumption)
end
end
section
-- S14
open PySem PySem.W PyProof.Rows PyProof.V PySem.Spec PySem.Calls PySem.SeqAt
theorem prepE {w : World} {h₀ base : Heap} {L fa : Addr} {cd : Value} {m mg mb : Str → Option Value} {s : Shared} {rest : List (Addr × Obj)} {mean : ExcName → Option Value} {p : Program} {loose : List Str} {Q : Value → Shared → Prop} {E : Value → Shared → Prop} {x Pv : Str} {t : Tok} (hP : Txt.join (Str.ofString "") (prepared x.cps.toList) = Pv)
  (B : Below callerA base [] h₀) (F : Fr h₀ L s.heap m) (X : (K1r w.params).In h₀) (T : Top p loose mean mg mb h₀) (C : CodeHd base 298 294) (N : News h₀ L s.heap rest)
  (hb : ∃ es, base.get? 247 = some (dO es 650) ∧ Ents b3kv es) (hsz : x.cps.size ≤ sizeLine) (hw : ((prepared x.cps.toList).map (·.length)).sum + (prepared x.cps.toList).length ≤ 1048576)
  (h : ∀ h' tk u, Fr h₀ L h' m → News h₀ L h' rest → Q (.str Pv u) { heap := h', gens := s.gens, drawn := s.drawn, toks := tk, os := s.os }) :
  wpAny (model pw w) (callerA.deeper (lawE L fa cd)) (call (.ref 311) [.str x t] []) Q E s :=
  prep_spec ⟨rfl, rfl⟩ B F X T C N hb hsz hw (hP ▸ h)
local macro_rules | `(tactic| walk_at "call ref") => `(tactic| (k_here; walk_at "%d"; (with_reducible show wpAny _ _ (call (Value.ref 299) _ _) _ _ _); k_dflt (refine' lexer_spec ?B ?F ?X ?T ?C ?N ?ht ?hx ?hz ?_; (case B | F | X | T | C | N => k_asm); (case ht | hx | hz => assumption)); intro _ _ _ _ _ _ _ _ _ _ _ _ _))
local macro_rules | `(tactic| walk_at "call ref") => `(tactic| (k_here; walk_at "%d"; (with_reducible show wpAny _ _ (call (Value.ref 311) _ _) _ _ _); k_dflt (refine' prepE ?hP ?B ?F ?X ?T ?C ?N ?hb ?hz ?hw ?_; (case B | F | X | T | C | N => k_asm); (case hP | hb | hz | hw => assumption)); intro _ _ _ _ _))
section
variable {w : World} {h₀ base : Heap} {L fa bk bd hl rl : Addr} {cd : Value} {m mg mb : Str → Option Value} {s : Shared} {rest : List (Addr × Obj)} {mean : ExcName → Option Value} {p : Program} {loose : List Str}
set_option maxHeartbeats 2000000 in
set_option pp.deepTerms false in
theorem st14 {Q : Flow → Shared → Prop} {E : Value → Shared → Prop} {hc sc : Nat} {r tx Mk Pv : Str} {thd tr ts tt tm : Tok} {ex tab : List (Addr × Obj)} (dummy : PySem.Challenge.rw_sh0067_01 = PySem.Challenge.rw_sh0067_01 ∧ K1r = K1r)
  (B : Below callerA base [] h₀) (F : Fr h₀ L s.heap m) (X : (K1r w.params).In h₀) (T : Top p loose mean mg mb h₀) (C : CodeHd base 298 294)
  (ht : TabSt tab) (N : News h₀ L s.heap (ex ++ tab)) (hx : ∀ p ∈ ex, p.1 ≠ 294)
  (mh : m (Str.ofString "head") = some (.str ⟨#[hc]⟩ thd)) (mr : m (Str.ofString "run") = some (.str r tr)) (ms : m (Str.ofString "seam") = some (.str ⟨#[sc]⟩ ts)) (mt : m (Str.ofString "text") = some (.str tx tt)) (mk : m (Str.ofString "mark") = some (.str Mk tm)) (hr : r.length ≤ 100) (htx : tx.length ≤ 300) (hM : Mk.length ≤ 10) (hPl : Pv.length ≤ 1000)
  (hb : ∃ es, base.get? 247 = some (dO es 650) ∧ Ents b3kv es) (hP : Txt.join (Str.ofString "") (prepared ((((((⟨#[hc]⟩ : Str) ++ r) ++ (⟨#[sc]⟩ : Str)) ++ tx) ++ Str.ofString "Z") : Str).cps.toList) = Pv) (hz1 : ((((((⟨#[hc]⟩ : Str) ++ r) ++ (⟨#[sc]⟩ : Str)) ++ tx) ++ Str.ofString "Z") : Str).cps.size ≤ sizeLine) (hw : ((prepared ((((((⟨#[hc]⟩ : Str) ++ r) ++ (⟨#[sc]⟩ : Str)) ++ tx) ++ Str.ofString "Z") : Str).cps.toList).map (·.length)).sum + (prepared ((((((⟨#[hc]⟩ : Str) ++ r) ++ (⟨#[sc]⟩ : Str)) ++ tx) ++ Str.ofString "Z") : Str).cps.toList).length ≤ 1048576) (hz : ((Mk ++ Str.ofString "\\") ++ Pv : Str).cps.size ≤ sizeLine)
  (h : ∀ h' tk (l : Lex) t2 ys k tab', TabSt tab' → Fr h₀ L h' (up1 (up1 m "lexer" (.ref l.x)) "left" (.ref l.left)) → News h₀ L h' (l.objs w 1 t2 ys k (ex ++ tab')) → l.Ok (ex ++ tab') → ChL ys ((Mk ++ Str.ofString "\\") ++ Pv : Str).cps.toList → Q .next { heap := h', gens := s.gens, drawn := s.drawn, toks := tk, os := s.os }) :
  wpAny (model pw w) (callerA.deeper (lawE L fa cd)) (exec (stAt 14) (lawE L fa cd)) Q E s := by
  revert dummy
  k_fill
  intro _
  w_on
  (with_unfolding_all show wpAny _ _ (exec (Stmt.Assign _ _ _) _) _ _ _)
  (all_goals try k_fold)
  k_steps
  exact h _ _ _ _ _ _ _ (by assumption) (by assumption) (news_tail (by assumption)) (by assumption) (by assumption)
end
end
section
-- S16
open PySem PySem.W PyProof.Rows PyProof.V PySem.Spec PySem.Calls PySem.SeqAt
local macro_rules | `(tactic| walk_at "pad0") => `(tactic| fail)
local macro_rules | `(tactic| walk_at "call builtin:len") => `(tactic| (k_here; walk_at "%l"; refine len_str (lenF (le_line ?z)) ?_; (case z => omega)))
section
variable {w : World} {h₀ base : Heap} {L fa bk bd hl rl : Addr} {cd : Value} {m mg mb : Str → Option Value} {s : Shared} {rest : List (Addr × Obj)} {mean : ExcName → Option Value} {p : Program} {loose : List Str}
local macro_rules | `(tactic| walk_at "compareOp NotEq ref ref") => `(tactic| (k_here; (refine' ne_strs (News.isList ?N1 ?m1) ?i1 (News.isList ?N2 ?m2) ?i2 ?hk ?hu ?_; (case N1 => k_asm); (case m1 => k_mem); (case i1 => assumption); (case N2 => k_asm); (case m2 => k_mem); (case i2 => (with_unfolding_all exact .cons _ _ .nil)); (case hk => assumption); (case hu => units_room))))
set_option maxHeartbeats 2000000 in
set_option pp.deepTerms false in
theorem st16q {Q : Flow → Shared → Prop} {E : Value → Shared → Prop} {l : Lex} {ln : Int} {t2 : Tok} {ys : List Value} {k : Nat} {W : Str} {u tl tm tz : Tok} {lc : Nat} (dummy : PySem.Challenge.rw_sh0067_01 = PySem.Challenge.rw_sh0067_01 ∧ K1r = K1r)
  (B : Below callerA base [] h₀) (F : Fr h₀ L s.heap m) (X : (K1r w.params).In h₀) (T : Top p loose mean mg mb h₀) (C : CodeHd base 298 294)
  (N : News h₀ L s.heap (l.objs w ln t2 ys k rest)) (mword : m (Str.ofString "word") = some (.str W u)) (mlet : m (Str.ofString "letter") = some (.str ⟨#[lc]⟩ tl)) (mlf : m (Str.ofString "left") = some (.ref l.left)) (mk : m (Str.ofString "mark") = some (.str (Str.ofString "\"") tm)) (mtl : m (Str.ofString "tail") = some (.str (Str.ofString "") tz))
  (hW1 : Txt.slice W none (some 1) = ⟨#[lc]⟩) (hW2 : Txt.slice W (some ((W.length : Int) - (Str.ofString "").length)) none = Str.ofString "") (hys : StrsAre (ys : List Value).toArray.toList [Str.ofString "z"]) (hok : ∀ x ∈ ([Str.ofString "z"] : List Str), PyData.strOk x = true) (hWz : W.length ≤ 65536) (hWz2 : W.length ≤ sizeLine)
  (h : ∀ h' tk, Fr h₀ L h' m → News h₀ L h' (l.objs w ln t2 ys k rest) → Q .next { heap := h', gens := s.gens, drawn := s.drawn, toks := tk, os := s.os }) :
  wpAny (model pw w) (callerA.deeper (lawE L fa cd)) (exec (stAt 16) (lawE L fa cd)) Q E s := by
  dsimp only [Lex.objs] at N
  revert dummy
  k_fill
  intro _
  w_on
  (with_unfolding_all show wpAny _ _ (exec (Stmt.If _ _ _ _) _) _ _ _)
  (all_goals try k_fold)
  k_steps
  all_goals first | exact h _ _ (by assumption) (by first | assumption | exact news_tail (by assumption)) | (exfalso; rename_i q; rw [hW1, bne_self_eq_false] at q; cases q) | (exfalso; rename_i q; exact absurd (show (Txt.slice W (some ((W.length : Int) - (Str.ofString "").length)) none != Str.ofString "") = true from q) (by rw [hW2, bne_self_eq_false]; decide))
local macro_rules | `(tactic| walk_at "compareOp NotEq ref ref") => `(tactic| (k_here; (refine' ne_strs (News.isList ?N1 ?m1) ?i1 (News.isList ?N2 ?m2) ?i2 ?hk ?hu ?_; (case N1 => k_asm); (case m1 => k_mem); (case i1 => assumption); (case N2 => k_asm); (case m2 => k_mem); (case i2 => (with_unfolding_all exact .nil)); (case hk => assumption); (case hu => units_room))))
set_option maxHeartbeats 2000000 in
set_option pp.deepTerms false in
theorem st16n {Q : Flow → Shared → Prop} {E : Value → Shared → Prop} {l : Lex} {ln : Int} {t2 : Tok} {ys : List Value} {k : Nat} {W : Str} {u tl tm tz : Tok} {lc : Nat} (dummy : PySem.Challenge.rw_sh0067_01 = PySem.Challenge.rw_sh0067_01 ∧ K1r = K1r)
  (B : Below callerA base [] h₀) (F : Fr h₀ L s.heap m) (X : (K1r w.params).In h₀) (T : Top p loose mean mg mb h₀) (C : CodeHd base 298 294)
  (N : News h₀ L s.heap (l.objs w ln t2 ys k rest)) (mword : m (Str.ofString "word") = some (.str W u)) (mlet : m (Str.ofString "letter") = some (.str ⟨#[lc]⟩ tl)) (mlf : m (Str.ofString "left") = some (.ref l.left)) (mk : m (Str.ofString "mark") = some (.str (Str.ofString "") tm)) (mtl : m (Str.ofString "tail") = some (.str (Str.ofString "\"z") tz))
  (hW1 : Txt.slice W none (some 1) = ⟨#[lc]⟩) (hW2 : Txt.slice W (some ((W.length : Int) - (Str.ofString "\"z").length)) none = Str.ofString "\"z") (hys : StrsAre (ys : List Value).toArray.toList ([] : List Str)) (hok : ∀ x ∈ (([] : List Str) : List Str), PyData.strOk x = true) (hWz : W.length ≤ 65536) (hWz2 : W.length ≤ sizeLine)
  (h : ∀ h' tk, Fr h₀ L h' m → News h₀ L h' (l.objs w ln t2 ys k rest) → Q .next { heap := h', gens := s.gens, drawn := s.drawn, toks := tk, os := s.os }) :
  wpAny (model pw w) (callerA.deeper (lawE L fa cd)) (exec (stAt 16) (lawE L fa cd)) Q E s := by
  dsimp only [Lex.objs] at N
  revert dummy
  k_fill
  intro _
  w_on
  (with_unfolding_all show wpAny _ _ (exec (Stmt.If _ _ _ _) _) _ _ _)
  (all_goals try k_fold)
  k_steps
  all_goals first | exact h _ _ (by assumption) (by first | assumption | exact news_tail (by assumption)) | (exfalso; rename_i q; rw [hW1, bne_self_eq_false] at q; cases q) | (exfalso; rename_i q; exact absurd (show (Txt.slice W (some ((W.length : Int) - (Str.ofString "\"z").length)) none != Str.ofString "\"z") = true from q) (by rw [hW2, bne_self_eq_false]; decide))
end
end
section
-- S17
open PySem PySem.W PyProof.Rows PyProof.V PySem.Spec PySem.Calls PySem.SeqAt
section
variable {w : World} {h₀ base : Heap} {L fa bk bd hl rl : Addr} {cd : Value} {m mg mb : Str → Option Value} {s : Shared} {rest : List (Addr × Obj)} {mean : ExcName → Option Value} {p : Program} {loose : List Str}
set_option maxHeartbeats 2000000 in
set_option pp.deepTerms false in
theorem st17 {Q : Flow → Shared → Prop} {E : Value → Shared → Prop} {W R Z : Str} {u tz : Tok} (dummy : PySem.Challenge.rw_sh0067_01 = PySem.Challenge.rw_sh0067_01 ∧ K1r = K1r)
  (B : Below callerA base [] h₀) (F : Fr h₀ L s.heap m) (X : (K1r w.params).In h₀) (T : Top p loose mean mg mb h₀) (C : CodeHd base 298 294)
  (N : News h₀ L s.heap rest) (mword : m (Str.ofString "word") = some (.str W u)) (mtail : m (Str.ofString "tail") = some (.str Z tz)) (hW : Txt.slice W (some 1) (some ((W.length : Int) - Z.length)) = R) (hWz : W.length ≤ 65536) (hWz2 : W.length ≤ sizeLine) (hZz : Z.length ≤ 65536)
  (h : ∀ h' tk u', Fr h₀ L h' (up1 m "run" (.str R u')) → News h₀ L h' rest → Q .next { heap := h', gens := s.gens, drawn := s.drawn, toks := tk, os := s.os }) :
  wpAny (model pw w) (callerA.deeper (lawE L fa cd)) (exec (stAt 17) (lawE L fa cd)) Q E s := by
  subst hW
  revert dummy
  k_fill
  intro _
  w_on
  (with_unfolding_all show wpAny _ _ (exec (Stmt.Assign _ _ _) _) _ _ _)
  (all_goals try k_fold)
  k_steps
  exact h _ _ _ (by assumption) (by assumption)
end
end
section
-- S18
open PySem PySem.W PyProof.Rows PyProof.V PySem.Spec PySem.Calls PySem.SeqAt
noncomputable def p2 (i : Int) : Int := if i = 0 then 1 else if i = 1 then 2 else if i = 2 then 4 else 8
section
variable {w : World} {h₀ base : Heap} {L fa bk bd hl rl : Addr} {cd : Value} {m mg mb : Str → Option Value} {s : Shared} {rest : List (Addr × Obj)} {mean : ExcName → Option Value} {p : Program} {loose : List Str}
set_option maxHeartbeats 2000000 in
set_option pp.deepTerms false in
theorem st18 {Q : Flow → Shared → Prop} {E : Value → Shared → Prop} {i pw0 du : Int} {ti t1 t2 : Tok} (dummy : PySem.Challenge.rw_sh0067_01 = PySem.Challenge.rw_sh0067_01 ∧ K1r = K1r)
  (B : Below callerA base [] h₀) (F : Fr h₀ L s.heap m) (X : (K1r w.params).In h₀) (T : Top p loose mean mg mb h₀) (C : CodeHd base 298 294)
  (N : News h₀ L s.heap rest) (mi : m (Str.ofString "step") = some (.int i ti)) (mpo : m (Str.ofString "power") = some (.int pw0 t1)) (mdu : m (Str.ofString "due") = some (.int du t2)) (hi : i = 0 ∨ i = 1 ∨ i = 2 ∨ i = 3) (h1 : 0 ≤ pw0) (h2 : pw0 ≤ 1000) (h3 : 0 ≤ du) (h4 : du ≤ 1000)
  (h : ∀ h' tk u u', Fr h₀ L h' (up1 (up1 m "due" (.int (3 * du + p2 i) u')) "power" (.int (3 * pw0) u)) → News h₀ L h' rest → Q .next { heap := h', gens := s.gens, drawn := s.drawn, toks := tk, os := s.os }) :
  wpAny (model pw w) (callerA.deeper (lawE L fa cd)) (exec (stAt 18) (lawE L fa cd)) Q E s := by
  rcases hi with rfl | rfl | rfl | rfl
  all_goals (revert dummy; k_fill; intro dummy)
  all_goals w_on
  all_goals (with_unfolding_all show wpAny _ _ (exec (Stmt.Assign _ _ _) _) _ _ _)
  (all_goals try k_fold)
  k_steps
  all_goals exact h _ _ _ _ (by assumption) (by first | assumption | exact news_tail (by assumption))
end
end
section
-- P0
open PySem PySem.W PyProof.Rows PyProof.V PySem.Spec PySem.Calls PySem.SeqAt
section
variable {w : World} {h₀ base : Heap} {L fa bk bd hl rl : Addr} {cd : Value} {m mg mb : Str → Option Value} {s : Shared} {rest : List (Addr × Obj)} {mean : ExcName → Option Value} {p : Program} {loose : List Str}
set_option maxHeartbeats 2000000 in
set_option pp.deepTerms false in
theorem ps0 {Q : Flow → Shared → Prop} {E : Value → Shared → Prop} {pl : Int} {tp : Tok} {a : Addr} {vs : List Value} {ns : List Int} (dummy : PySem.Challenge.rw_sh0067_01 = PySem.Challenge.rw_sh0067_01 ∧ K1r = K1r)
  (B : Below callerA base [] h₀) (F : Fr h₀ L s.heap m) (X : (K1r w.params).In h₀) (T : Top p loose mean mg mb h₀) (C : CodeHd base 298 294)
  (N : News h₀ L s.heap rest) (msc : m (Str.ofString "script") = some (.ref a)) (mp : m (Str.ofString "place") = some (.int pl tp)) (hl : h₀.IsList a vs.toArray) (hi : IntsAre vs ns) (hns : ns.length ≤ 63) (hp : pl = 0 ∨ pl = 1 ∨ pl = 2) (h : ∀ v h' tk u, Fr h₀ L h' (up1 m "x" (.int v u)) → News h₀ L h' rest → Q .next { heap := h', gens := s.gens, drawn := s.drawn, toks := tk, os := s.os }) :
  wpAny (model pw w) (callerA.deeper (lawE L fa cd)) (exec (psAt 0) (lawE L fa cd)) Q E s := by
  rcases hp with rfl | rfl | rfl
  all_goals (revert dummy; k_fill; intro dummy)
  all_goals w_on
  all_goals (with_unfolding_all show wpAny _ _ (exec (Stmt.Assign _ _ _) _) _ _ _)
  (all_goals try k_fold)
  k_steps
  all_goals exact h _ _ _ _ (by assumption) (by first | assumption | exact news_tail (by assumption))
end
end
section
-- P1
open PySem PySem.W PyProof.Rows PyProof.V PySem.Spec PySem.Calls PySem.SeqAt
section
variable {w : World} {h₀ base : Heap} {L fa bk bd hl rl : Addr} {cd : Value} {m mg mb : Str → Option Value} {s : Shared} {rest : List (Addr × Obj)} {mean : ExcName → Option Value} {p : Program} {loose : List Str}
set_option maxHeartbeats 2000000 in
set_option pp.deepTerms false in
theorem ps1 {Q : Flow → Shared → Prop} {E : Value → Shared → Prop} {v : Int} {t : Tok} (dummy : PySem.Challenge.rw_sh0067_01 = PySem.Challenge.rw_sh0067_01 ∧ K1r = K1r)
  (B : Below callerA base [] h₀) (F : Fr h₀ L s.heap m) (X : (K1r w.params).In h₀) (T : Top p loose mean mg mb h₀) (C : CodeHd base 298 294)
  (N : News h₀ L s.heap rest) (mx : m (Str.ofString "x") = some (.int v t)) (h : ∀ h' tk u u', Fr h₀ L h' (up1 (up1 m "x" (.int (v.fdiv 14) u')) "number" (.int (v.fmod 14 + 1) u)) → News h₀ L h' rest → Q .next { heap := h', gens := s.gens, drawn := s.drawn, toks := tk, os := s.os }) :
  wpAny (model pw w) (callerA.deeper (lawE L fa cd)) (exec (psAt 1) (lawE L fa cd)) Q E s := by
  revert dummy
  k_fill
  intro _
  w_on
  (with_unfolding_all show wpAny _ _ (exec (Stmt.Assign _ _ _) _) _ _ _)
  (all_goals try k_fold)
  k_steps
  all_goals exact h _ _ _ _ (by assumption) (by first | assumption | exact news_tail (by assumption))
set_option maxHeartbeats 2000000 in
set_option pp.deepTerms false in
theorem ps2 {Q : Flow → Shared → Prop} {E : Value → Shared → Prop} {v : Int} {t : Tok} (dummy : PySem.Challenge.rw_sh0067_01 = PySem.Challenge.rw_sh0067_01 ∧ K1r = K1r)
  (B : Below callerA base [] h₀) (F : Fr h₀ L s.heap m) (X : (K1r w.params).In h₀) (T : Top p loose mean mg mb h₀) (C : CodeHd base 298 294)
  (N : News h₀ L s.heap rest) (mx : m (Str.ofString "x") = some (.int v t)) (h : ∀ h' tk u u', Fr h₀ L h' (up1 (up1 m "x" (.int (v.fdiv 13) u')) "letter" (.str (Txt.item (Str.ofString "adgjkostuvwxy") (v.fmod 13)) u)) → News h₀ L h' rest → Q .next { heap := h', gens := s.gens, drawn := s.drawn, toks := tk, os := s.os }) :
  wpAny (model pw w) (callerA.deeper (lawE L fa cd)) (exec (psAt 2) (lawE L fa cd)) Q E s := by
  revert dummy
  k_fill
  intro _
  w_on
  (with_unfolding_all show wpAny _ _ (exec (Stmt.Assign _ _ _) _) _ _ _)
  (all_goals try k_fold)
  k_steps
  all_goals exact h _ _ _ _ (by assumption) (by first | assumption | exact news_tail (by assumption))
set_option maxHeartbeats 2000000 in
set_option pp.deepTerms false in
theorem ps4 {Q : Flow → Shared → Prop} {E : Value → Shared → Prop} {v : Int} {t : Tok} (dummy : PySem.Challenge.rw_sh0067_01 = PySem.Challenge.rw_sh0067_01 ∧ K1r = K1r)
  (B : Below callerA base [] h₀) (F : Fr h₀ L s.heap m) (X : (K1r w.params).In h₀) (T : Top p loose mean mg mb h₀) (C : CodeHd base 298 294)
  (N : News h₀ L s.heap rest) (mx : m (Str.ofString "x") = some (.int v t)) (h : ∀ h' tk u u', Fr h₀ L h' (up1 (up1 m "x" (.int (v.fdiv 4) u')) "white" (.str (Txt.item (Str.ofString " \t\n\r") (v.fmod 4)) u)) → News h₀ L h' rest → Q .next { heap := h', gens := s.gens, drawn := s.drawn, toks := tk, os := s.os }) :
  wpAny (model pw w) (callerA.deeper (lawE L fa cd)) (exec (psAt 4) (lawE L fa cd)) Q E s := by
  revert dummy
  k_fill
  intro _
  w_on
  (with_unfolding_all show wpAny _ _ (exec (Stmt.Assign _ _ _) _) _ _ _)
  (all_goals try k_fold)
  k_steps
  all_goals exact h _ _ _ _ (by assumption) (by first | assumption | exact news_tail (by assumption))
end
end
section
-- P3
open PySem PySem.W PyProof.Rows PyProof.V PySem.Spec PySem.Calls PySem.SeqAt
local macro_rules | `(tactic| walk_at "call builtin:chr") => `(tactic| (k_here; (with_reducible show wpAny _ _ (call (Value.builtin "chr") [Value.int _ _]) _ _ _); refine chr_of_range (by omega) (by omega) ?_))
section
variable {w : World} {h₀ base : Heap} {L fa bk bd hl rl : Addr} {cd : Value} {m mg mb : Str → Option Value} {s : Shared} {rest : List (Addr × Obj)} {mean : ExcName → Option Value} {p : Program} {loose : List Str}
set_option maxHeartbeats 2000000 in
set_option pp.deepTerms false in
theorem ps3 {Q : Flow → Shared → Prop} {E : Value → Shared → Prop} {v : Int} {t tl : Tok} {lc : Nat} (dummy : PySem.Challenge.rw_sh0067_01 = PySem.Challenge.rw_sh0067_01 ∧ K1r = K1r)
  (B : Below callerA base [] h₀) (F : Fr h₀ L s.heap m) (X : (K1r w.params).In h₀) (T : Top p loose mean mg mb h₀) (C : CodeHd base 298 294)
  (N : News h₀ L s.heap rest) (mx : m (Str.ofString "x") = some (.int v t)) (ml : m (Str.ofString "letter") = some (.str ⟨#[lc]⟩ tl)) (hl1 : 97 ≤ lc) (hl2 : lc ≤ 122) (hf0 : 0 ≤ v.fmod 13) (hf1 : v.fmod 13 < 13) (h : ∀ h' tk u u', Fr h₀ L h' (up1 (up1 m "x" (.int (v.fdiv 13) u')) "head" (.str ⟨#[(119808 + 52 * v.fmod 13 + lc - 97).toNat]⟩ u)) → News h₀ L h' rest → Q .next { heap := h', gens := s.gens, drawn := s.drawn, toks := tk, os := s.os }) :
  wpAny (model pw w) (callerA.deeper (lawE L fa cd)) (exec (psAt 3) (lawE L fa cd)) Q E s := by
  revert dummy
  k_fill
  intro _
  w_on
  (with_unfolding_all show wpAny _ _ (exec (Stmt.Assign _ _ _) _) _ _ _)
  (all_goals try k_fold)
  k_steps
  all_goals exact h _ _ _ _ (by assumption) (by first | assumption | exact news_tail (by assumption))
end
end
section
-- P5
open PySem PySem.W PyProof.Rows PyProof.V PySem.Spec PySem.Calls PySem.SeqAt
local macro_rules | `(tactic| walk_at "pad0") => `(tactic| fail)
local macro_rules | `(tactic| walk_at "call ref") => `(tactic| (k_here; walk_at "%d"; (with_reducible show wpAny _ _ (call (Value.ref 306) _ _) _ _ _); k_dflt (refine' nothing_spec ⟨rfl, rfl⟩ ?B ?F ?X ?T ?C ?N ?h0 ?h1 ?_; (case B | F | X | T | C | N => k_asm); (case h0 | h1 => assumption)); intro _ _ _ _ _ _ _))
section
variable {w : World} {h₀ base : Heap} {L fa bk bd hl rl : Addr} {cd : Value} {m mg mb : Str → Option Value} {s : Shared} {rest : List (Addr × Obj)} {mean : ExcName → Option Value} {p : Program} {loose : List Str}
set_option maxHeartbeats 2000000 in
set_option pp.deepTerms false in
theorem ps5 {Q : Flow → Shared → Prop} {E : Value → Shared → Prop} {v : Int} {t : Tok} (dummy : PySem.Challenge.rw_sh0067_01 = PySem.Challenge.rw_sh0067_01 ∧ K1r = K1r)
  (B : Below callerA base [] h₀) (F : Fr h₀ L s.heap m) (X : (K1r w.params).In h₀) (T : Top p loose mean mg mb h₀) (C : CodeHd base 298 294)
  (N : News h₀ L s.heap rest) (mx : m (Str.ofString "x") = some (.int v t)) (hf0 : 0 ≤ v.fmod 27) (hf1 : v.fmod 27 < 27) (h : ∀ (n : Int), inB1 n = true → ∀ h' tk u u', Fr h₀ L h' (up1 (up1 m "x" (.int (v.fdiv 27) u')) "seam" (.str ⟨#[n.toNat]⟩ u)) → News h₀ L h' rest → Q .next { heap := h', gens := s.gens, drawn := s.drawn, toks := tk, os := s.os }) :
  wpAny (model pw w) (callerA.deeper (lawE L fa cd)) (exec (psAt 5) (lawE L fa cd)) Q E s := by
  revert dummy
  k_fill
  intro _
  w_on
  (with_unfolding_all show wpAny _ _ (exec (Stmt.Assign _ _ _) _) _ _ _)
  (all_goals try k_fold)
  k_steps
  exact h _ (by assumption) _ _ _ _ (by assumption) (by first | assumption | exact news_tail (by assumption))
end
end
section
-- P6
open PySem PySem.W PyProof.Rows PyProof.V PySem.Spec PySem.Calls PySem.SeqAt
section
variable {w : World} {h₀ base : Heap} {L fa bk bd hl rl : Addr} {cd : Value} {m mg mb : Str → Option Value} {s : Shared} {rest : List (Addr × Obj)} {mean : ExcName → Option Value} {p : Program} {loose : List Str}
set_option maxHeartbeats 2000000 in
set_option pp.deepTerms false in
theorem ps6q {Q : Flow → Shared → Prop} {E : Value → Shared → Prop} {v : Int} {t : Tok} (dummy : PySem.Challenge.rw_sh0067_01 = PySem.Challenge.rw_sh0067_01 ∧ K1r = K1r)
  (B : Below callerA base [] h₀) (F : Fr h₀ L s.heap m) (X : (K1r w.params).In h₀) (T : Top p loose mean mg mb h₀) (C : CodeHd base 298 294)
  (N : News h₀ L s.heap rest) (mx : m (Str.ofString "x") = some (.int v t)) (hi : v.fmod 2 = 1) (h : ∀ h' tk u, Fr h₀ L h' (up1 m "mark" (.str (Str.ofString "\"") u)) → News h₀ L h' rest → Q .next { heap := h', gens := s.gens, drawn := s.drawn, toks := tk, os := s.os }) :
  wpAny (model pw w) (callerA.deeper (lawE L fa cd)) (exec (psAt 6) (lawE L fa cd)) Q E s := by
  revert dummy
  k_fill
  intro _
  w_on
  (with_unfolding_all show wpAny _ _ (exec (Stmt.Assign _ _ _) _) _ _ _)
  (all_goals try k_fold)
  k_steps
  all_goals first | (exfalso; omega) | exact h _ _ _ (by assumption) (by assumption)
set_option maxHeartbeats 2000000 in
set_option pp.deepTerms false in
theorem ps6n {Q : Flow → Shared → Prop} {E : Value → Shared → Prop} {v : Int} {t : Tok} (dummy : PySem.Challenge.rw_sh0067_01 = PySem.Challenge.rw_sh0067_01 ∧ K1r = K1r)
  (B : Below callerA base [] h₀) (F : Fr h₀ L s.heap m) (X : (K1r w.params).In h₀) (T : Top p loose mean mg mb h₀) (C : CodeHd base 298 294)
  (N : News h₀ L s.heap rest) (mx : m (Str.ofString "x") = some (.int v t)) (hi : v.fmod 2 = 0) (h : ∀ h' tk u, Fr h₀ L h' (up1 m "mark" (.str (Str.ofString "") u)) → News h₀ L h' rest → Q .next { heap := h', gens := s.gens, drawn := s.drawn, toks := tk, os := s.os }) :
  wpAny (model pw w) (callerA.deeper (lawE L fa cd)) (exec (psAt 6) (lawE L fa cd)) Q E s := by
  revert dummy
  k_fill
  intro _
  w_on
  (with_unfolding_all show wpAny _ _ (exec (Stmt.Assign _ _ _) _) _ _ _)
  (all_goals try k_fold)
  k_steps
  all_goals first | (exfalso; omega) | exact h _ _ _ (by assumption) (by assumption)
set_option maxHeartbeats 2000000 in
set_option pp.deepTerms false in
theorem ps7q {Q : Flow → Shared → Prop} {E : Value → Shared → Prop} {v : Int} {t : Tok} (dummy : PySem.Challenge.rw_sh0067_01 = PySem.Challenge.rw_sh0067_01 ∧ K1r = K1r)
  (B : Below callerA base [] h₀) (F : Fr h₀ L s.heap m) (X : (K1r w.params).In h₀) (T : Top p loose mean mg mb h₀) (C : CodeHd base 298 294)
  (N : News h₀ L s.heap rest) (mx : m (Str.ofString "x") = some (.int v t)) (hi : v.fmod 2 = 1) (h : ∀ h' tk u, Fr h₀ L h' (up1 m "tail" (.str (Str.ofString "") u)) → News h₀ L h' rest → Q .next { heap := h', gens := s.gens, drawn := s.drawn, toks := tk, os := s.os }) :
  wpAny (model pw w) (callerA.deeper (lawE L fa cd)) (exec (psAt 7) (lawE L fa cd)) Q E s := by
  revert dummy
  k_fill
  intro _
  w_on
  (with_unfolding_all show wpAny _ _ (exec (Stmt.Assign _ _ _) _) _ _ _)
  (all_goals try k_fold)
  k_steps
  all_goals first | (exfalso; omega) | exact h _ _ _ (by assumption) (by assumption)
set_option maxHeartbeats 2000000 in
set_option pp.deepTerms false in
theorem ps7n {Q : Flow → Shared → Prop} {E : Value → Shared → Prop} {v : Int} {t : Tok} (dummy : PySem.Challenge.rw_sh0067_01 = PySem.Challenge.rw_sh0067_01 ∧ K1r = K1r)
  (B : Below callerA base [] h₀) (F : Fr h₀ L s.heap m) (X : (K1r w.params).In h₀) (T : Top p loose mean mg mb h₀) (C : CodeHd base 298 294)
  (N : News h₀ L s.heap rest) (mx : m (Str.ofString "x") = some (.int v t)) (hi : v.fmod 2 = 0) (h : ∀ h' tk u, Fr h₀ L h' (up1 m "tail" (.str (Str.ofString "\"z") u)) → News h₀ L h' rest → Q .next { heap := h', gens := s.gens, drawn := s.drawn, toks := tk, os := s.os }) :
  wpAny (model pw w) (callerA.deeper (lawE L fa cd)) (exec (psAt 7) (lawE L fa cd)) Q E s := by
  revert dummy
  k_fill
  intro _
  w_on
  (with_unfolding_all show wpAny _ _ (exec (Stmt.Assign _ _ _) _) _ _ _)
  (all_goals try k_fold)
  k_steps
  all_goals first | (exfalso; omega) | exact h _ _ _ (by assumption) (by assumption)
end
end
section
-- P8
open PySem PySem.W PyProof.Rows PyProof.V PySem.Spec PySem.Calls PySem.SeqAt
section
variable {w : World} {h₀ base : Heap} {L fa bk bd hl rl : Addr} {cd : Value} {m mg mb : Str → Option Value} {s : Shared} {rest : List (Addr × Obj)} {mean : ExcName → Option Value} {p : Program} {loose : List Str}
set_option maxHeartbeats 2000000 in
set_option pp.deepTerms false in
theorem ps8 {Q : Flow → Shared → Prop} {E : Value → Shared → Prop} {v : Int} {t : Tok} (dummy : PySem.Challenge.rw_sh0067_01 = PySem.Challenge.rw_sh0067_01 ∧ K1r = K1r)
  (B : Below callerA base [] h₀) (F : Fr h₀ L s.heap m) (X : (K1r w.params).In h₀) (T : Top p loose mean mg mb h₀) (C : CodeHd base 298 294)
  (N : News h₀ L s.heap rest) (mx : m (Str.ofString "number") = some (.int v t)) (h1 : 1 ≤ v) (h2 : v ≤ 14) (h : ∀ h' tk u, Fr h₀ L h' (up1 m "run" (.str (Txt.mul (Str.ofString "\\") v) u)) → News h₀ L h' rest → Q .next { heap := h', gens := s.gens, drawn := s.drawn, toks := tk, os := s.os }) :
  wpAny (model pw w) (callerA.deeper (lawE L fa cd)) (exec (psAt 8) (lawE L fa cd)) Q E s := by
  revert dummy
  k_fill
  intro _
  w_on
  (with_unfolding_all show wpAny _ _ (exec (Stmt.Assign _ _ _) _) _ _ _)
  (all_goals try k_fold)
  k_steps
  exact h _ _ _ (by assumption) (by assumption)
set_option maxHeartbeats 2000000 in
set_option pp.deepTerms false in
theorem ps9 {Q : Flow → Shared → Prop} {E : Value → Shared → Prop} {v : Int} (dummy : PySem.Challenge.rw_sh0067_01 = PySem.Challenge.rw_sh0067_01 ∧ K1r = K1r)
  (B : Below callerA base [] h₀) (F : Fr h₀ L s.heap m) (X : (K1r w.params).In h₀) (T : Top p loose mean mg mb h₀) (C : CodeHd base 298 294)
  (N : News h₀ L s.heap rest) (h : ∀ h' tk u u', Fr h₀ L h' (up1 (up1 m "power" (.int 1 u')) "due" (.int 0 u)) → News h₀ L h' rest → Q .next { heap := h', gens := s.gens, drawn := s.drawn, toks := tk, os := s.os }) :
  wpAny (model pw w) (callerA.deeper (lawE L fa cd)) (exec (psAt 9) (lawE L fa cd)) Q E s := by
  revert dummy
  k_fill
  intro _
  w_on
  (with_unfolding_all show wpAny _ _ (exec (Stmt.Assign _ _ _) _) _ _ _)
  (all_goals try k_fold)
  k_steps
  all_goals exact h _ _ _ _ (by assumption) (by first | assumption | exact news_tail (by assumption))
end
end
section
-- P11
open PySem PySem.W PyProof.Rows PyProof.V PySem.Spec PySem.Calls PySem.SeqAt
local macro_rules | `(tactic| walk_at "call builtin:len") => `(tactic| (k_here; walk_at "%l"; refine len_str (lenF (le_line ?z)) ?_; (case z => omega)))
section
variable {w : World} {h₀ base : Heap} {L fa bk bd hl rl : Addr} {cd : Value} {m mg mb : Str → Option Value} {s : Shared} {rest : List (Addr × Obj)} {mean : ExcName → Option Value} {p : Program} {loose : List Str}
set_option maxHeartbeats 2000000 in
set_option pp.deepTerms false in
theorem ps11 {Q : Flow → Shared → Prop} {E : Value → Shared → Prop} {r : Str} {tr tp tn td : Tok} {pw0 nn du : Int} (dummy : PySem.Challenge.rw_sh0067_01 = PySem.Challenge.rw_sh0067_01 ∧ K1r = K1r)
  (B : Below callerA base [] h₀) (F : Fr h₀ L s.heap m) (X : (K1r w.params).In h₀) (T : Top p loose mean mg mb h₀) (C : CodeHd base 298 294)
  (N : News h₀ L s.heap rest) (mr : m (Str.ofString "run") = some (.str r tr)) (mp : m (Str.ofString "power") = some (.int pw0 tp)) (mn : m (Str.ofString "number") = some (.int nn tn)) (md : m (Str.ofString "due") = some (.int du td)) (hr : r.length ≤ 100) (hrm : Txt.mul (Str.ofString "\\") (r.length : Int) = r) (heq : pw0 * nn + du = 16 * (r.length : Int)) (hp0 : 0 ≤ pw0) (hp1 : pw0 ≤ 100) (hn0 : 0 ≤ nn) (hn1 : nn ≤ 14) (hd0 : 0 ≤ du) (hd1 : du ≤ 1000) (h : ∀ h' tk, Fr h₀ L h' m → News h₀ L h' rest → Q .next { heap := h', gens := s.gens, drawn := s.drawn, toks := tk, os := s.os }) :
  wpAny (model pw w) (callerA.deeper (lawE L fa cd)) (exec (psAt 11) (lawE L fa cd)) Q E s := by
  revert dummy
  k_fill
  intro _
  w_on
  (with_unfolding_all show wpAny _ _ (exec (Stmt.If _ _ _ _) _) _ _ _)
  (all_goals try k_fold)
  k_steps
  all_goals first | exact h _ _ (by assumption) (by assumption) | (exfalso; omega) | (exfalso; rename_i q; rw [hrm, bne_self_eq_false] at q; cases q)
end
end
section
-- TW
open PySem PySem.W PyProof.Rows PyProof.V PySem.Spec PySem.Calls PySem.SeqAt
noncomputable def stepI : PySem.Expr := match psAt 10 with
  | .For _ i _ _ _ => i
  | _ => default
noncomputable def placeI : PySem.Expr := match ((dB [19])[2]? : Option Stmt) with
  | some (.For _ i _ _ _) => i
  | _ => default
section
variable {w : World} {h₀ base : Heap} {L fa bk bd hl rl : Addr} {cd : Value} {m mg mb : Str → Option Value} {s : Shared} {rest : List (Addr × Obj)} {mean : ExcName → Option Value} {p : Program} {loose : List Str}
set_option maxHeartbeats 2000000 in
set_option pp.deepTerms false in
theorem range4 {Q : Value → Shared → Prop} {E : Value → Shared → Prop} (dummy : PySem.Challenge.rw_sh0067_01 = PySem.Challenge.rw_sh0067_01 ∧ K1r = K1r)
  (B : Below callerA base [] h₀) (F : Fr h₀ L s.heap m) (X : (K1r w.params).In h₀) (T : Top p loose mean mg mb h₀) (C : CodeHd base 298 294) (N : News h₀ L s.heap rest)
  (h : ∀ D h' tk t u v, Fr h₀ L h' m → News h₀ L h' rest → IsRange h' D 0 4 1 t u v → Q (.ref D) { heap := h', gens := s.gens, drawn := s.drawn, toks := tk, os := s.os }) :
  wpAny (model pw w) (callerA.deeper (lawE L fa cd)) (eval stepI (lawE L fa cd)) Q E s := by
  revert dummy
  k_fill
  intro _
  w_on
  (with_unfolding_all show wpAny _ _ (eval (PySem.Expr.Call (PySem.Expr.Name _ _) [PySem.Expr.Constant (PySem.Const.int _) _ _] [] _) _) _ _ _)
  (all_goals try k_fold)
  k_steps
  exact h _ _ _ _ _ _ (by assumption) (by first | assumption | exact news_tail (by assumption)) (by assumption)
set_option maxHeartbeats 2000000 in
set_option pp.deepTerms false in
theorem range3 {Q : Value → Shared → Prop} {E : Value → Shared → Prop} (dummy : PySem.Challenge.rw_sh0067_01 = PySem.Challenge.rw_sh0067_01 ∧ K1r = K1r)
  (B : Below callerA base [] h₀) (F : Fr h₀ L s.heap m) (X : (K1r w.params).In h₀) (T : Top p loose mean mg mb h₀) (C : CodeHd base 298 294) (N : News h₀ L s.heap rest)
  (h : ∀ D h' tk t u v, Fr h₀ L h' m → News h₀ L h' rest → IsRange h' D 0 3 1 t u v → Q (.ref D) { heap := h', gens := s.gens, drawn := s.drawn, toks := tk, os := s.os }) :
  wpAny (model pw w) (callerA.deeper (lawE L fa cd)) (eval placeI (lawE L fa cd)) Q E s := by
  revert dummy
  k_fill
  intro _
  w_on
  (with_unfolding_all show wpAny _ _ (eval (PySem.Expr.Call (PySem.Expr.Name _ _) [PySem.Expr.Constant (PySem.Const.int _) _ _] [] _) _) _ _ _)
  (all_goals try k_fold)
  k_steps
  exact h _ _ _ _ _ _ (by assumption) (by first | assumption | exact news_tail (by assumption)) (by assumption)
end
end
end
section
section
-- TUH
open PySem PySem.W PyProof.Rows PyProof.V PySem.Spec PySem.Calls PySem.SeqAt
/-! What holds at the head of a step's turn. -/
noncomputable def hasS (m : Str → Option Value) (x : String) (v : Str) : Prop := ∃ t, m (Str.ofString x) = some (.str v t)
noncomputable def hasI (m : Str → Option Value) (x : String) (v : Int) : Prop := ∃ t, m (Str.ofString x) = some (.int v t)
noncomputable def hasR (m : Str → Option Value) (x : String) (a : Addr) : Prop := m (Str.ofString x) = some (.ref a)
theorem up_ne {m : Str → Option Value} {x y : String} {v : Value} (h : Str.ofString x ≠ Str.ofString y) : up1 m y v (Str.ofString x) = m (Str.ofString x) := if_neg h
theorem up_eq {m : Str → Option Value} {x : String} {v : Value} : up1 m x v (Str.ofString x) = some v := if_pos rfl
theorem hasS.up {m : Str → Option Value} {x y : String} {u : Str} {v : Value} (h : hasS m x u) (q : Str.ofString x ≠ Str.ofString y) : hasS (up1 m y v) x u := by
  obtain ⟨t, e⟩ := h; exact ⟨t, (up_ne q).trans e⟩
theorem hasI.up {m : Str → Option Value} {x y : String} {u : Int} {v : Value} (h : hasI m x u) (q : Str.ofString x ≠ Str.ofString y) : hasI (up1 m y v) x u := by
  obtain ⟨t, e⟩ := h; exact ⟨t, (up_ne q).trans e⟩
theorem hasR.up {m : Str → Option Value} {x y : String} {u : Addr} {v : Value} (h : hasR m x u) (q : Str.ofString x ≠ Str.ofString y) : hasR (up1 m y v) x u := (up_ne q).trans h
/-- what a place has drawn -/
structure Gh where
  bk : Addr
  rl : Addr
  sr : Addr
  pl : Int
  num : Int
  lc : Nat
  hc : Nat
  wc : Nat
  sm : Nat
  q : Bool
noncomputable def Gh.mark (g : Gh) : Str := if g.q then Str.ofString "\"" else Str.ofString ""
noncomputable def Gh.tail (g : Gh) : Str := if g.q then Str.ofString "" else Str.ofString "\"z"
structure GOk (g : Gh) : Prop where
  pl : g.pl = 0 ∨ g.pl = 1 ∨ g.pl = 2
  ws : isWs g.wc = true
  nl : ((⟨#[g.wc]⟩ : Str) == Str.ofString "\n") = (g.wc == 10)
  hw : isWs g.hc = false
  h34 : g.hc ≠ 34
  h92 : g.hc ≠ 92
  h10 : g.hc ≠ 10
  hb : inB1 (g.hc : Int) = false
  hl : b3of g.hc = mkS [g.lc]
  sb : inB1 (g.sm : Int) = true
structure Fm (m : Str → Option Value) (g : Gh) : Prop where
  book : hasR m "book" g.bk
  rows : hasR m "rows" g.rl
  script : hasR m "script" g.sr
  behind : hasS m "behind" behS
  place : hasI m "place" g.pl
  number : hasI m "number" g.num
  letter : hasS m "letter" ⟨#[g.lc]⟩
  head : hasS m "head" ⟨#[g.hc]⟩
  white : hasS m "white" ⟨#[g.wc]⟩
  seam : hasS m "seam" ⟨#[g.sm]⟩
  mark : hasS m "mark" g.mark
  tail : hasS m "tail" g.tail
noncomputable def NM : List String := ["book", "rows", "script", "behind", "place", "number", "letter", "head", "white", "seam", "mark", "tail"]
theorem Fm.up {m : Str → Option Value} {g : Gh} {y : String} {v : Value} (f : Fm m g) (h : ∀ x ∈ NM, Str.ofString x ≠ Str.ofString y) : Fm (up1 m y v) g where
  book := f.book.up (h _ (.head _))
  rows := f.rows.up (h _ (.tail _ (.head _)))
  script := f.script.up (h _ (.tail _ (.tail _ (.head _))))
  behind := f.behind.up (h _ (.tail _ (.tail _ (.tail _ (.head _)))))
  place := f.place.up (h _ (.tail _ (.tail _ (.tail _ (.tail _ (.head _))))))
  number := f.number.up (h _ (.tail _ (.tail _ (.tail _ (.tail _ (.tail _ (.head _)))))))
  letter := f.letter.up (h _ (.tail _ (.tail _ (.tail _ (.tail _ (.tail _ (.tail _ (.head _))))))))
  head := f.head.up (h _ (.tail _ (.tail _ (.tail _ (.tail _ (.tail _ (.tail _ (.tail _ (.head _)))))))))
  white := f.white.up (h _ (.tail _ (.tail _ (.tail _ (.tail _ (.tail _ (.tail _ (.tail _ (.tail _ (.head _))))))))))
  seam := f.seam.up (h _ (.tail _ (.tail _ (.tail _ (.tail _ (.tail _ (.tail _ (.tail _ (.tail _ (.tail _ (.head _)))))))))))
  mark := f.mark.up (h _ (.tail _ (.tail _ (.tail _ (.tail _ (.tail _ (.tail _ (.tail _ (.tail _ (.tail _ (.tail _ (.head _))))))))))))
  tail := f.tail.up (h _ (.tail _ (.tail _ (.tail _ (.tail _ (.tail _ (.tail _ (.tail _ (.tail _ (.tail _ (.tail _ (.tail _ (.head _)))))))))))))
structure Fs (m : Str → Option Value) (i : Int) (n : Nat) (pw0 du : Int) : Prop where
  step : hasI m "step" i
  run : hasS m "run" (mkS (rep n))
  power : hasI m "power" pw0
  due : hasI m "due" du
noncomputable def NS : List String := ["step", "run", "power", "due"]
theorem Fs.up {m : Str → Option Value} {i : Int} {n : Nat} {pw0 du : Int} {y : String} {v : Value} (f : Fs m i n pw0 du) (h : ∀ x ∈ NS, Str.ofString x ≠ Str.ofString y) : Fs (up1 m y v) i n pw0 du where
  step := f.step.up (h _ (.head _))
  run := f.run.up (h _ (.tail _ (.head _)))
  power := f.power.up (h _ (.tail _ (.tail _ (.head _))))
  due := f.due.up (h _ (.tail _ (.tail _ (.tail _ (.head _)))))
noncomputable def coreL (w : World) (L bk bd hl rl : Addr) (th : Tok) (oc1 oc2 : Obj) (es rs : List Ent) (kh kr : Nat) (it : List (Addr × Obj)) : List (Addr × Obj) :=
  (bk, instObj 182 bd) :: (bd, bookD w hl th) :: (hl, listOf (refs es) kh) :: (L + 1, oc1) :: (L + 2, oc2) :: (rl, listOf (refs rs) kr) :: (it ++ (es.map Ent.o ++ rs.map Ent.o))
noncomputable def nameL : List Str := [Str.ofString "a", Str.ofString "b", Str.ofString "c", Str.ofString "A", Str.ofString "B", Str.ofString "C"]
structure Books (es rs : List Ent) (c : Nat) : Prop where
  he : es.map (fun e => (e.n, e.x)) = rs.map fun e => (e.n, e.x)
  len : es.length ≤ c
  ok : ∀ e ∈ rs, e.n ∈ nameL ∧ PyData.strOk e.x = true
structure Inv (w : World) (h₀ : Heap) (L : Addr) (h : Heap) (m : Str → Option Value) (g : Gh) (bd hl : Addr) (th : Tok) (it : List (Addr × Obj)) (oc1 oc2 : Obj) (es rs : List Ent) (kh kr : Nat) (tab : List (Addr × Obj)) (c : Nat) : Prop where
  F : Fr h₀ L h m
  N : News h₀ L h (coreL w L g.bk bd hl g.rl th oc1 oc2 es rs kh kr it ++ tab)
  f : Fm m g
  ht : TabSt tab
  hx : ∀ p ∈ coreL w L g.bk bd hl g.rl th oc1 oc2 es rs kh kr it, p.1 ≠ 294
  hrl : @Ne Nat g.rl hl
  h294 : @LT.lt Nat _ 294 L
  bs : Books es rs c
  c1 : ∃ v, oc1.data = .cell v
  c2 : ∃ v, oc2.data = .cell v
  hit : ∀ p ∈ it, ∃ vs, p.2.data = .fields vs
-- apartness by kind
theorem news_cell {h₀ h : Heap} {L : Addr} {l : List (Addr × Obj)} {a : Addr} {o : Obj} {v : Option Value} (N : News h₀ L h l) (ha : (a, o) ∈ l) (ho : o.data = .cell v) {p : Addr × Obj} (hp : p ∈ l) (hk : ∀ v, p.2.data ≠ .cell v) : p.1 ≠ a := by
  rintro rfl
  have h1 := (N _ ha).1
  have h2 := (N _ hp).1
  simp only at h1
  rw [h1] at h2
  cases h2
  exact hk _ ho
theorem news_list {h₀ h : Heap} {L : Addr} {l : List (Addr × Obj)} {a : Addr} {vs : Array Value} {k : Nat} (N : News h₀ L h l) (ha : (a, listOf vs k) ∈ l) {p : Addr × Obj} (hp : p ∈ l) (hk : p.2.cls ≠ .type "list" ∨ ∀ vs k, p.2.data ≠ .seq vs k) : p.1 ≠ a := by
  rintro rfl
  have h1 := (N _ ha).1
  have h2 := (N _ hp).1
  simp only at h1
  rw [h1] at h2
  have h3 : listOf vs k = p.2 := Option.some.inj h2
  rcases hk with hk | hk
  · exact hk (by rw [← h3])
  · exact hk vs k (by rw [← h3])
theorem refs_push (es : List Ent) (e : Ent) : (refs es).push (.ref e.a) = refs (es ++ [e]) := by simp [refs]
theorem refs_size (es : List Ent) : (refs es).size = es.length := by simp [refs]
theorem objs_rest {w : World} {l : Lex} {ln : Int} {t2 : Tok} {ys : List Value} {k : Nat} {rest : List (Addr × Obj)} : ∀ p ∈ rest, p ∈ l.objs w ln t2 ys k rest := by
  intro p hp
  unfold Lex.objs
  exact .tail _ (.tail _ (.tail _ (.tail _ (.tail _ (.tail _ (.tail _ (.tail _ (.tail _ hp))))))))
theorem filt_eq (f g : Str → Bool) : ∀ (es rs : List Ent), es.map (fun e => (e.n, e.x)) = rs.map (fun e => (e.n, e.x)) → (∀ e ∈ rs, f e.n = g e.n) → (es.filter fun e => f e.n).map (·.x) = (rs.filter fun e => g e.n).map (·.x)
  | [], [], _, _ => rfl
  | [], _ :: _, h, _ => by simp at h
  | _ :: _, [], h, _ => by simp at h
  | e :: es, r :: rs, h, hg => by
    simp only [List.map_cons, List.cons.injEq, Prod.mk.injEq] at h
    have ih := filt_eq f g es rs h.2 fun e he => hg e (.tail _ he)
    have h1 : f e.n = g r.n := by rw [h.1.1]; exact hg r (.head _)
    rw [List.filter_cons, List.filter_cons, h1]
    cases g r.n
    · exact ih
    · simp only [if_true, List.map_cons, ih, h.1.2]
theorem told_names : ∀ pl : Fin 3, ∀ nm ∈ nameL, (Txt.lower nm == Txt.lower (uppS pl.val)) = (nm == lowS pl.val || nm == uppS pl.val) ∧ (Txt.lower nm == Txt.lower (lowS pl.val)) = (nm == uppS pl.val || nm == lowS pl.val) := by decide +kernel
theorem name_ok : ∀ nm ∈ nameL, Asc nm ∧ nm.length ≤ 16 ∧ nm.cps.size ≤ 16 ∧ Asc (Txt.lower nm) ∧ (Txt.lower nm).cps.size ≤ 16 ∧ PyData.strOk nm = true := by unfold Asc; decide +kernel
theorem low_in {pl : Int} (h : pl = 0 ∨ pl = 1 ∨ pl = 2) : lowS pl ∈ nameL := by rcases h with rfl | rfl | rfl <;> decide +kernel
theorem upp_in {pl : Int} (h : pl = 0 ∨ pl = 1 ∨ pl = 2) : uppS pl ∈ nameL := by rcases h with rfl | rfl | rfl <;> decide +kernel
theorem told_names' {pl : Int} (h : pl = 0 ∨ pl = 1 ∨ pl = 2) {nm : Str} (hn : nm ∈ nameL) : (Txt.lower nm == Txt.lower (uppS pl)) = (nm == lowS pl || nm == uppS pl) ∧ (Txt.lower nm == Txt.lower (lowS pl)) = (nm == uppS pl || nm == lowS pl) := by
  rcases h with rfl | rfl | rfl
  · exact told_names 0 nm hn
  · exact told_names 1 nm hn
  · exact told_names 2 nm hn
theorem strOk_mk {l : List Nat} (h : ∀ c ∈ l, c < 0x110000) : PyData.strOk (mkS l) = true := by
  unfold PyData.strOk
  rw [Array.all_eq_true']
  intro c hc
  exact decide_eq_true (h c (by simpa using hc))
theorem strOk_list (a : Str) (h : PyData.strOk a = true) : ∀ c ∈ a.cps.toList, c < 0x110000 := by
  unfold PyData.strOk at h
  rw [Array.all_eq_true'] at h
  intro c hc
  exact of_decide_eq_true (h c (by simpa using hc))
theorem told_ok (a : Str) (n : Nat) (h : PyData.strOk a = true) : PyData.strOk (toldS a n) = true := by
  refine strOk_mk fun c hc => ?_
  rcases List.mem_append.mp hc with hc | hc
  · exact strOk_list a h c hc
  · rcases List.mem_append.mp hc with hc | hc
    · rcases List.mem_append.mp hc with hc | hc
      · rw [List.eq_of_mem_replicate hc]; decide
      · rw [List.mem_singleton.mp hc]; decide
    · exact strOk_list behS (by decide +kernel) c hc
theorem ahE_ok : PyData.strOk ahE = true := by decide +kernel
theorem ahO_ok : PyData.strOk ahO = true := by decide +kernel
noncomputable def nxt (i : Nat) (p : Nat × Int × Int) : Nat × Int × Int := if p.1 % 2 = 0 then (p.1 / 2, p.2.1, p.2.2) else ((3 * p.1 + 1) / 2, 3 * p.2.1, 3 * p.2.2 + (2 : Int) ^ i)
theorem stp_nxt (n0 i : Nat) : stp n0 (i + 1) = nxt i (stp n0 i) := rfl
theorem stepB_e : stepB = [stAt 0, stAt 1, stAt 2, stAt 3, stAt 4, stAt 5, stAt 6, stAt 7, stAt 8, stAt 9, stAt 10, stAt 11, stAt 12, stAt 13, stAt 14, stAt 15, stAt 16, stAt 17, stAt 18] := by kernel_rfl
end
end
section
section
-- TUE
open PySem PySem.W PyProof.Rows PyProof.V PySem.Spec PySem.Calls PySem.SeqAt
theorem chl_z {ys : List Value} (h : ChL ys [122]) : StrsAre (ys : List Value).toArray.toList [Str.ofString "z"] := by
  match ys, h with
  | [v], ⟨⟨t, e⟩, _⟩ => subst e; exact .cons _ _ .nil
theorem chl_0 {ys : List Value} (h : ChL ys []) : StrsAre (ys : List Value).toArray.toList [] := by
  match ys, h with
  | [], _ => exact .nil
theorem cs1_e (wc hc n : Nat) : (((((⟨#[wc]⟩ : Str) ++ (⟨#[hc]⟩ : Str)) ++ mkS (rep n)) ++ (⟨#[wc]⟩ : Str)) ++ Str.ofString "z" : Str) = mkS (wc :: hc :: (rep n ++ [wc, 122])) := by
  show mkS [wc] ++ mkS [hc] ++ mkS (rep n) ++ mkS [wc] ++ mkS [122] = _
  rw [app_mk, app_mk, app_mk, app_mk]
  simp
theorem ln_e {wc hc : Nat} {ln' : Int} {L1 : List Nat} {n : Nat} (hh : hc ≠ 10) (h0 : nlc L1 = 0) (e : ln' + nlc L1 = 1 + nlc (wc :: hc :: (rep n ++ [wc, 122]))) : ln' = if (wc == 10) = true then 3 else 1 := by
  rw [nlc1 hh, h0] at e
  by_cases q : wc = 10
  · rw [if_pos q] at e; rw [if_pos (by simpa using q)]; omega
  · rw [if_neg q] at e; rw [if_neg (by simpa using q)]; omega
theorem nm_lexer : ∀ x ∈ NM, Str.ofString x ≠ Str.ofString "lexer" := by decide +kernel
theorem nm_left : ∀ x ∈ NM, Str.ofString x ≠ Str.ofString "left" := by decide +kernel
theorem nm_word : ∀ x ∈ NM, Str.ofString x ≠ Str.ofString "word" := by decide +kernel
theorem nm_run : ∀ x ∈ NM, Str.ofString x ≠ Str.ofString "run" := by decide +kernel
theorem ns_lexer : ∀ x ∈ NS, Str.ofString x ≠ Str.ofString "lexer" := by decide +kernel
theorem ns_left : ∀ x ∈ NS, Str.ofString x ≠ Str.ofString "left" := by decide +kernel
theorem ns_word : ∀ x ∈ NS, Str.ofString x ≠ Str.ofString "word" := by decide +kernel
section
variable {w : World} {h₀ base : Heap} {L fa bd hl : Addr} {cd : Value} {m mg mb : Str → Option Value} {s : Shared} {mean : ExcName → Option Value} {p : Program} {loose : List Str}
  {g : Gh} {th : Tok} {it : List (Addr × Obj)} {oc1 oc2 : Obj} {es rs : List Ent} {kh kr : Nat} {tab : List (Addr × Obj)} {c : Nat} {i pw0 du : Int} {k : Nat}
set_option maxHeartbeats 1000000 in
theorem turn_even {Q : Flow → Shared → Prop} {E : Value → Shared → Prop}
  (B : Below callerA base [] h₀) (X : (K1r w.params).In h₀) (T : Top p loose mean mg mb h₀) (C : CodeHd base 298 294) (G : GOk g)
  (I : Inv w h₀ L s.heap m g bd hl th it oc1 oc2 es rs kh kr tab c) (S : Fs m i (2 * k) pw0 du) (hk : k ≤ 13) (ht : 1 ≤ s.toks)
  (h : ∀ h' tk m' tab', 1 ≤ tk → Inv w h₀ L h' m' g bd hl th it oc1 oc2 es rs kh kr tab' c → Fs m' i k pw0 du → Q .cont { heap := h', gens := s.gens, drawn := s.drawn, toks := tk, os := s.os }) :
  wpAny (model pw w) (callerA.deeper (lawE L fa cd)) (execs stepB (lawE L fa cd)) Q E s := by
  rw [stepB_e]
  obtain ⟨tw, ew⟩ := I.f.white
  obtain ⟨thd, eh⟩ := I.f.head
  obtain ⟨tr, er⟩ := S.run
  have hlen : (g.wc :: g.hc :: (rep (2 * k) ++ [g.wc, 122])).length ≤ 40 := by simp; omega
  have hsz : ∀ {x : Nat}, x ≤ 65536 → x ≤ sizeLine := fun h => Nat.le_trans h (by decide)
  have hz1 : (g.wc :: g.hc :: (rep (2 * k) ++ [g.wc, 122])).length + 2 ≤ sizeLine := hsz (by omega)
  refine wpAny_execs_cons (wpAny_with_toks ht (st0 ⟨rfl, rfl⟩ B I.F X T C I.ht I.N I.hx ew eh er (by rw [len_mk, List.length_replicate]; omega) (by rw [cs1_e]; exact hsz (Nat.le_trans hlen (by decide))) ?_))
  intro h1 k1 l t2 ys kk tab' ht1 F1 N1 ok1 ch1 hk1
  rw [cs1_e] at ch1
  show wpAny _ _ (execs _ _) _ _ _
  refine wpAny_execs_cons (wpAny_with_toks hk1 (st1 ⟨rfl, rfl⟩ B F1 X T C N1 ok1 (cs := g.wc :: g.hc :: (rep (2 * k) ++ [g.wc, 122])) ch1 hz1 (tok1_even G.ws G.hw G.h34 G.h92 k) ((up_ne (by decide +kernel)).trans up_eq) ?_))
  intro h2 k2 t2' ln' kk' u ys' F2 N2 ch2 el hk2
  show wpAny _ _ (execs _ _) _ _ _
  have Wz : (mkS (g.hc :: rep k)).length ≤ sizeLine := hsz (by rw [len_mk]; simp; omega)
  refine wpAny_execs_cons (wpAny_with_toks hk2 (st2 ⟨rfl, rfl⟩ B F2 X T C N2 up_eq ((up_ne (by decide +kernel)).trans ((up_ne (by decide +kernel)).trans ((up_ne (by decide +kernel)).trans eh))) ((up_ne (by decide +kernel)).trans ((up_ne (by decide +kernel)).trans ((up_ne (by decide +kernel)).trans ew))) ((up_ne (by decide +kernel)).trans ((up_ne (by decide +kernel)).trans up_eq)) (slice_hd _ _) Wz G.nl (ln_e G.h10 rfl el) ?_))
  intro h3 k3 F3 N3 hk3
  show wpAny _ _ (execs _ _) _ _ _
  refine wpAny_execs_cons (wpAny_with_toks hk3 (st3e ⟨rfl, rfl⟩ B F3 X T C N3 up_eq ((up_ne (by decide +kernel)).trans up_eq) (chl_z ch2) (by decide +kernel) (by decide +kernel) (slice_tl _ _) Wz ?_))
  intro h4 k4 u' F4 N4 hk4
  exact h _ _ _ tab' hk4 ⟨F4, news_sub N4 objs_rest, (((I.f.up nm_lexer).up nm_left).up nm_word).up nm_run, ht1, I.hx, I.hrl, I.h294, I.bs, I.c1, I.c2, I.hit⟩
    ⟨(((S.up ns_lexer).up ns_left).up ns_word).step.up (by decide +kernel), ⟨u', up_eq⟩, (((S.up ns_lexer).up ns_left).up ns_word).power.up (by decide +kernel), (((S.up ns_lexer).up ns_left).up ns_word).due.up (by decide +kernel)⟩
end
end
end
section
section
-- TUO
open PySem PySem.W PyProof.Rows PyProof.V PySem.Spec PySem.Calls PySem.SeqAt
theorem nm_ahead : ∀ x ∈ NM, Str.ofString x ≠ Str.ofString "ahead" := by decide +kernel
theorem nm_own : ∀ x ∈ NM, Str.ofString x ≠ Str.ofString "own" := by decide +kernel
theorem nm_more : ∀ x ∈ NM, Str.ofString x ≠ Str.ofString "more" := by decide +kernel
theorem nm_laid : ∀ x ∈ NM, Str.ofString x ≠ Str.ofString "laid" := by decide +kernel
theorem nm_told : ∀ x ∈ NM, Str.ofString x ≠ Str.ofString "told" := by decide +kernel
theorem nm_text : ∀ x ∈ NM, Str.ofString x ≠ Str.ofString "text" := by decide +kernel
theorem nm_due : ∀ x ∈ NM, Str.ofString x ≠ Str.ofString "due" := by decide +kernel
theorem nm_power : ∀ x ∈ NM, Str.ofString x ≠ Str.ofString "power" := by decide +kernel
theorem ns_ahead : ∀ x ∈ NS, Str.ofString x ≠ Str.ofString "ahead" := by decide +kernel
theorem ns_own : ∀ x ∈ NS, Str.ofString x ≠ Str.ofString "own" := by decide +kernel
theorem ns_more : ∀ x ∈ NS, Str.ofString x ≠ Str.ofString "more" := by decide +kernel
theorem ns_laid : ∀ x ∈ NS, Str.ofString x ≠ Str.ofString "laid" := by decide +kernel
theorem ns_told : ∀ x ∈ NS, Str.ofString x ≠ Str.ofString "told" := by decide +kernel
theorem ns_text : ∀ x ∈ NS, Str.ofString x ≠ Str.ofString "text" := by decide +kernel
-- kinds of objects
noncomputable def NCell (o : Obj) : Prop := ∀ v, o.data ≠ .cell v
noncomputable def NList (o : Obj) : Prop := o.cls ≠ .type "list" ∨ ∀ vs k, o.data ≠ .seq vs k
theorem kd_fields {o : Obj} {vs : Array Value} (h : o.data = .fields vs) : NCell o ∧ NList o := ⟨fun v q => (by rw [h] at q; cases q), .inr fun vs k q => by rw [h] at q; cases q⟩
theorem kd_tab {tab : List (Addr × Obj)} (h : TabSt tab) : ∀ p ∈ tab, NCell p.2 ∧ NList p.2 := by
  rcases h with rfl | ⟨c, oc, vs, tq, rfl, hoc, hvs, hc⟩
  · intro p hp; rw [List.mem_singleton.mp hp]; exact kd_fields rfl
  · intro p hp
    rcases List.mem_cons.mp hp with rfl | hp
    · exact kd_fields rfl
    · rw [List.mem_singleton.mp hp]; exact kd_fields hoc
theorem kd_it {it : List (Addr × Obj)} (h : ∀ p ∈ it, ∃ vs, p.2.data = .fields vs) : ∀ p ∈ it, NCell p.2 ∧ NList p.2 := fun p hp => by
  obtain ⟨vs, e⟩ := h p hp; exact kd_fields e
theorem kd_ents (es : List Ent) : ∀ p ∈ es.map Ent.o, NCell p.2 ∧ NList p.2 := by
  intro p hp
  obtain ⟨e, _, rfl⟩ := List.mem_map.mp hp
  exact ⟨fun v q => (by cases q), .inl (fun q => by injection q with q; exact absurd q (by decide))⟩
theorem kd_inst (C dx : Addr) : NCell (instObj C dx) ∧ NList (instObj C dx) := ⟨fun v q => (by cases q), .inl (fun q => by cases q)⟩
theorem kd_dict (w : World) (hl : Addr) (th : Tok) : NCell (bookD w hl th) ∧ NList (bookD w hl th) := ⟨fun v q => (by cases q), .inl (fun q => by injection q with q; exact absurd q (by decide))⟩
theorem kd_tup (l : List Value) : NCell (tupO l) ∧ NList (tupO l) := ⟨fun v q => (by cases q), .inl (fun q => by injection q with q; exact absurd q (by decide))⟩
theorem kd_list (vs : Array Value) (k : Nat) : NCell (listOf vs k) := fun v q => by cases q
theorem kd_cell {o : Obj} {v : Option Value} (h : o.data = .cell v) : NList o := .inr fun vs k q => by rw [h] at q; cases q
theorem kd_mid {it tab : List (Addr × Obj)} {es rs : List Ent} (h : ∀ p ∈ it, ∃ vs, p.2.data = .fields vs) (ht : TabSt tab) : ∀ p ∈ (it ++ (es.map Ent.o ++ rs.map Ent.o)) ++ tab, NCell p.2 ∧ NList p.2 := by
  intro p hp
  rcases List.mem_append.mp hp with hp | hp
  · rcases List.mem_append.mp hp with hp | hp
    · exact kd_it h p hp
    · rcases List.mem_append.mp hp with hp | hp
      · exact kd_ents _ p hp
      · exact kd_ents _ p hp
  · exact kd_tab ht p hp
theorem topA_mem {d : Nat} {l : List (Addr × Obj)} (h : topA l ≤ d) : ∀ p ∈ l, @LT.lt Nat _ p.1 d := by
  induction l with
  | nil => intro p hp; cases hp
  | cons q r ih =>
    have h : Nat.max (q.1 + 1) (topA r) ≤ d := h
    intro p hp
    rcases List.mem_cons.mp hp with rfl | hp
    · exact Nat.lt_of_lt_of_le (Nat.lt_succ_self _) (Nat.le_trans (Nat.le_max_left _ _) h)
    · exact ih (Nat.le_trans (Nat.le_max_right _ _) h) p hp
theorem cs2_e (hc sm n k : Nat) : ((((((⟨#[hc]⟩ : Str) ++ mkS (rep n)) ++ (⟨#[sm]⟩ : Str)) ++ mkS (rep k ++ [34])) ++ Str.ofString "Z") : Str) = mkS (hc :: (rep n ++ (sm :: (rep k ++ [34, 90])))) := by
  show mkS [hc] ++ mkS (rep n) ++ mkS [sm] ++ mkS (rep k ++ [34]) ++ mkS [90] = _
  rw [app_mk, app_mk, app_mk, app_mk]
  simp
theorem Books.names {es rs : List Ent} {c : Nat} (b : Books es rs c) : ∀ e ∈ es, e.n ∈ nameL ∧ PyData.strOk e.x = true := by
  intro e he
  have : (e.n, e.x) ∈ rs.map fun e => (e.n, e.x) := b.he ▸ List.mem_map_of_mem (f := fun e : Ent => (e.n, e.x)) he
  obtain ⟨r, hr, q⟩ := List.mem_map.mp this
  have h := b.ok r hr
  rw [Prod.mk.injEq] at q
  rw [q.1, q.2] at h
  exact h
theorem Books.push {es rs : List Ent} {c : Nat} (b : Books es rs c) {e1 e2 : Ent} (hn : e1.n ∈ nameL) (hx : PyData.strOk e1.x = true) (q1 : e2.n = e1.n) (q2 : e2.x = e1.x) : Books (es ++ [e2]) (rs ++ [e1]) (c + 1) where
  he := by rw [List.map_append, List.map_append, b.he]; simp only [List.map_cons, List.map_nil, q1, q2]
  len := by have := b.len; rw [List.length_append, List.length_singleton]; omega
  ok := by
    intro e he
    rcases List.mem_append.mp he with he | he
    · exact b.ok e he
    · rw [List.mem_singleton.mp he]; exact ⟨hn, hx⟩
theorem rep_add (a b : Nat) (l : List Nat) : rep a ++ (rep b ++ l) = rep (a + b) ++ l := by
  rw [← List.append_assoc]
  congr 1
  exact List.replicate_append_replicate
section
variable {w : World} {h₀ base : Heap} {L fa bd hl : Addr} {cd : Value} {m mg mb : Str → Option Value} {s : Shared} {mean : ExcName → Option Value} {p : Program} {loose : List Str}
  {g : Gh} {th : Tok} {it : List (Addr × Obj)} {oc1 oc2 : Obj} {es rs : List Ent} {kh kr : Nat} {tab : List (Addr × Obj)} {c : Nat} {i pw0 du : Int} {k : Nat}
set_option maxHeartbeats 1000000 in
theorem turn_tail2 {Q : Flow → Shared → Prop} {E : Value → Shared → Prop} {l2 : Lex} {ln2 : Int} {t4 u15 : Tok} {ys5 : List Value} {kk5 j : Nat} {TL : List Nat}
  (B : Below callerA base [] h₀) (X : (K1r w.params).In h₀) (T : Top p loose mean mg mb h₀) (C : CodeHd base 298 294) (hj : j ≤ 50)
  (F : Fr h₀ L s.heap m) (N : News h₀ L s.heap (l2.objs w ln2 t4 ys5 kk5 (coreL w L g.bk bd hl g.rl th oc1 oc2 es rs kh kr it ++ tab))) (f : Fm m g)
  (mword : m (Str.ofString "word") = some (.str (mkS (g.lc :: (rep j ++ TL))) u15)) (mlf : m (Str.ofString "left") = some (.ref l2.left)) (hs : hasI m "step" i) (hpo : hasI m "power" pw0) (hdu : hasI m "due" du)
  (hTL : (g.q = true ∧ TL = [] ∧ ChL ys5 [122]) ∨ (g.q = false ∧ TL = [34, 122] ∧ ChL ys5 [])) (ht : 1 ≤ s.toks)
  (hi4 : i = 0 ∨ i = 1 ∨ i = 2 ∨ i = 3) (hp1 : 0 ≤ pw0) (hp2 : pw0 ≤ 1000) (hd1 : 0 ≤ du) (hd2 : du ≤ 1000)
  (h : ∀ h' tk m', 1 ≤ tk → Fr h₀ L h' m' → News h₀ L h' (coreL w L g.bk bd hl g.rl th oc1 oc2 es rs kh kr it ++ tab) → Fm m' g → Fs m' i j (3 * pw0) (3 * du + p2 i) → Q .next { heap := h', gens := s.gens, drawn := s.drawn, toks := tk, os := s.os }) :
  wpAny (model pw w) (callerA.deeper (lawE L fa cd)) (execs [stAt 16, stAt 17, stAt 18] (lawE L fa cd)) Q E s := by
  have hsz : ∀ {x : Nat}, x ≤ 65536 → x ≤ sizeLine := fun h => Nat.le_trans h (by decide)
  have tl15 : g.tail = mkS TL := by
    rcases hTL with ⟨hq, rfl, _⟩ | ⟨hq, rfl, _⟩
    · unfold Gh.tail; rw [hq]; rfl
    · unfold Gh.tail; rw [hq]; rfl
  have tln : TL.length ≤ 2 := by rcases hTL with ⟨hq, rfl, _⟩ | ⟨hq, rfl, _⟩ <;> decide
  have Wl : (mkS (g.lc :: (rep j ++ TL))).length ≤ 65536 := by rw [len_mk]; simp; omega
  obtain ⟨tt15, et15⟩ := f.tail
  obtain ⟨tm15, em15⟩ := f.mark
  obtain ⟨tl0, el0⟩ := f.letter
  obtain ⟨ti15, ei15⟩ := hs
  obtain ⟨tp15, ep15⟩ := hpo
  obtain ⟨td15, ed15⟩ := hdu
  have fin : ∀ h' tk, Fr h₀ L h' m → News h₀ L h' (l2.objs w ln2 t4 ys5 kk5 (coreL w L g.bk bd hl g.rl th oc1 oc2 es rs kh kr it ++ tab)) → 1 ≤ tk →
      wpAny (model pw w) (callerA.deeper (lawE L fa cd)) (execs [stAt 17, stAt 18] (lawE L fa cd)) Q E { heap := h', gens := s.gens, drawn := s.drawn, toks := tk, os := s.os } := by
    intro h16 k16 F16 N16 hk16
    refine wpAny_execs_cons (wpAny_with_toks hk16 (st17 (R := mkS (rep j)) ⟨rfl, rfl⟩ B F16 X T C N16 mword et15 ?_ Wl (hsz Wl) (by rw [tl15, len_mk]; omega) ?_))
    · rw [tl15]
      refine slice_mid [g.lc] (rep j) TL rfl ?_
      rw [len_mk, len_mk]; simp; omega
    intro h17 k17 u17 F17 N17 hk17
    show wpAny _ _ (execs _ _) _ _ _
    refine wpAny_execs_cons (wpAny_with_toks hk17 (st18 ⟨rfl, rfl⟩ B F17 X T C N17 ((up_ne (by decide +kernel)).trans ei15) ((up_ne (by decide +kernel)).trans ep15) ((up_ne (by decide +kernel)).trans ed15) hi4 hp1 hp2 hd1 hd2 ?_))
    intro h18 k18 u18 u18' F18 N18 hk18
    exact wpAny_execs_nil (h _ _ _ hk18 F18 (news_sub N18 objs_rest) (((f.up nm_run).up nm_due).up nm_power)
      ⟨hasI.up (hasI.up (hasI.up ⟨_, ei15⟩ (by decide +kernel)) (by decide +kernel)) (by decide +kernel), hasS.up (hasS.up ⟨u17, up_eq⟩ (by decide +kernel)) (by decide +kernel), ⟨_, up_eq⟩, hasI.up ⟨_, up_eq⟩ (by decide +kernel)⟩)
  rcases hTL with ⟨hq, rfl, ch⟩ | ⟨hq, rfl, ch⟩
  · have e1 : g.mark = Str.ofString "\"" := by unfold Gh.mark; rw [hq]; rfl
    have e2 : g.tail = Str.ofString "" := by unfold Gh.tail; rw [hq]; rfl
    rw [e1] at em15
    rw [e2] at et15
    exact wpAny_execs_cons (wpAny_with_toks ht (st16q ⟨rfl, rfl⟩ B F X T C N mword el0 mlf em15 et15 (slice_hd _ _) (slice_end (g.lc :: rep j) []) (chl_z ch) (by decide +kernel) Wl (hsz Wl) (fun h16 k16 F16 N16 hk16 => fin h16 k16 F16 N16 hk16)))
  · have e1 : g.mark = Str.ofString "" := by unfold Gh.mark; rw [hq]; rfl
    have e2 : g.tail = Str.ofString "\"z" := by unfold Gh.tail; rw [hq]; rfl
    rw [e1] at em15
    rw [e2] at et15
    exact wpAny_execs_cons (wpAny_with_toks ht (st16n ⟨rfl, rfl⟩ B F X T C N mword el0 mlf em15 et15 (slice_hd _ _) (slice_end (g.lc :: rep j) [34, 122]) (chl_0 ch) (by decide +kernel) Wl (hsz Wl) (fun h16 k16 F16 N16 hk16 => fin h16 k16 F16 N16 hk16)))
set_option maxHeartbeats 1000000 in
theorem turn_tail {Q : Flow → Shared → Prop} {E : Value → Shared → Prop}
  (B : Below callerA base [] h₀) (X : (K1r w.params).In h₀) (T : Top p loose mean mg mb h₀) (C : CodeHd base 298 294) (hb : ∃ es, base.get? 247 = some (dO es 650) ∧ Ents b3kv es) (G : GOk g)
  (I : Inv w h₀ L s.heap m g bd hl th it oc1 oc2 es rs kh kr tab c) (S : Fs m i (2 * k + 1) pw0 du) (mt : hasS m "text" (mkS (rep (2 * (2 * k + 1) + 1) ++ [34]))) (hk : k < 13) (ht : 1 ≤ s.toks)
  (hi4 : i = 0 ∨ i = 1 ∨ i = 2 ∨ i = 3) (hp1 : 0 ≤ pw0) (hp2 : pw0 ≤ 1000) (hd1 : 0 ≤ du) (hd2 : du ≤ 1000)
  (h : ∀ h' tk m' tab', 1 ≤ tk → Inv w h₀ L h' m' g bd hl th it oc1 oc2 es rs kh kr tab' c → Fs m' i (3 * k + 2) (3 * pw0) (3 * du + p2 i) → Q .next { heap := h', gens := s.gens, drawn := s.drawn, toks := tk, os := s.os }) :
  wpAny (model pw w) (callerA.deeper (lawE L fa cd)) (execs [stAt 14, stAt 15, stAt 16, stAt 17, stAt 18] (lawE L fa cd)) Q E s := by
  have hsz : ∀ {x : Nat}, x ≤ 65536 → x ≤ sizeLine := fun h => Nat.le_trans h (by decide)
  have rl100 : (mkS (rep (2 * k + 1))).length ≤ 100 := by rw [len_mk, List.length_replicate]; omega
  obtain ⟨th13, eh13⟩ := I.f.head
  obtain ⟨tr13, er13⟩ := S.run
  obtain ⟨tsm13, esm13⟩ := I.f.seam
  obtain ⟨tm13, em13⟩ := I.f.mark
  obtain ⟨tx13, ex13⟩ := mt
  have hMl : g.mark.length ≤ 1 := by unfold Gh.mark; cases g.q <;> decide
  have hP : Txt.join (Str.ofString "") (prepared ((((((⟨#[g.hc]⟩ : Str) ++ mkS (rep (2 * k + 1))) ++ (⟨#[g.sm]⟩ : Str)) ++ mkS (rep (2 * (2 * k + 1) + 1) ++ [34])) ++ Str.ofString "Z") : Str).cps.toList) = mkS (g.lc :: (rep (2 * (3 * k + 2)) ++ [34, 122])) := by
    rw [cs2_e]
    refine (congrArg (Txt.join _) (prep_text G.hb G.hl G.sb _ _)).trans ?_
    rw [rep_add, show 2 * k + 1 + (2 * (2 * k + 1) + 1) = 2 * (3 * k + 2) by omega]
    exact join_sg _
  have lP : (mkS (g.lc :: (rep (2 * (3 * k + 2)) ++ [34, 122]))).length = 2 * (3 * k + 2) + 3 := by rw [len_mk]; simp
  have lz : Str.length ((g.mark ++ Str.ofString "\\") ++ mkS (g.lc :: (rep (2 * (3 * k + 2)) ++ [34, 122]))) ≤ 65536 := by
    have e1 : (Str.ofString "\\").length = 1 := rfl
    rw [len_app, len_app, e1, lP]; omega
  obtain ⟨TL, PR, L2, tx2, tok2, hPR, hTL⟩ : ∃ TL PR L2 : List Nat, ((g.mark ++ Str.ofString "\\") ++ mkS (g.lc :: (rep (2 * (3 * k + 2)) ++ [34, 122])) : Str) = mkS (PR ++ (92 :: g.lc :: (rep (2 * (3 * k + 2)) ++ [34, 122]))) ∧
      tokenOf (PR ++ (92 :: g.lc :: (rep (2 * (3 * k + 2)) ++ [34, 122]))) = (mkS (g.lc :: (rep (3 * k + 2) ++ TL)), L2) ∧ PR.length ≤ 1 ∧ ((g.q = true ∧ TL = [] ∧ L2 = [122]) ∨ (g.q = false ∧ TL = [34, 122] ∧ L2 = [])) := by
    cases hq : g.q with
    | true => exact ⟨[], [34], [122], by unfold Gh.mark; rw [hq]; show mkS [34] ++ mkS [92] ++ mkS _ = _; rw [app_mk, app_mk]; rfl, tok2_quo g.lc (3 * k + 2), by decide, .inl ⟨rfl, rfl, rfl⟩⟩
    | false => exact ⟨[34, 122], [], [], by unfold Gh.mark; rw [hq]; show mkS [] ++ mkS [92] ++ mkS _ = _; rw [app_mk, app_mk]; rfl, tok2_bar g.lc (3 * k + 2), by decide, .inr ⟨rfl, rfl, rfl⟩⟩
  refine wpAny_execs_cons (wpAny_with_toks ht (st14 ⟨rfl, rfl⟩ B I.F X T C I.ht I.N I.hx eh13 er13 esm13 ex13 em13 rl100 (by rw [len_mk, List.length_append, List.length_replicate, List.length_singleton]; omega) (by omega) (by rw [lP]; omega) hb hP
    (by rw [cs2_e]; refine hsz ?_; show List.length _ ≤ _; simp; omega)
    (by rw [cs2_e]; show ((prepared (g.hc :: (rep (2 * k + 1) ++ (g.sm :: (rep (2 * (2 * k + 1) + 1) ++ [34, 90]))))).map (·.length)).sum + (prepared (g.hc :: (rep (2 * k + 1) ++ (g.sm :: (rep (2 * (2 * k + 1) + 1) ++ [34, 90]))))).length ≤ 1048576; rw [prep_text G.hb G.hl G.sb, sum_sg, List.length_map]; simp; omega)
    (hsz lz) ?_))
  intro h14 k14 l2 t3 ys4 kk4 tab'' ht2 F14 N14 ok2 ch4 hk14
  show wpAny _ _ (execs _ _) _ _ _
  rw [tx2] at ch4
  refine wpAny_execs_cons (wpAny_with_toks hk14 (st15 ⟨rfl, rfl⟩ B F14 X T C N14 ok2 (cs := PR ++ (92 :: g.lc :: (rep (2 * (3 * k + 2)) ++ [34, 122]))) ch4 (hsz (by show List.length (PR ++ _) + 2 ≤ _; rw [List.length_append]; simp; omega)) tok2 ((up_ne (by decide +kernel)).trans up_eq) ?_))
  intro h15 k15 t4 ln2 kk5 u15 ys5 F15 N15 ch5 el2 hk15
  show wpAny _ _ (execs _ _) _ _ _
  refine turn_tail2 B X T C (by omega) F15 N15 (((I.f.up nm_lexer).up nm_left).up nm_word) up_eq ((up_ne (by decide +kernel)).trans up_eq) (((S.up ns_lexer).up ns_left).up ns_word).step (((S.up ns_lexer).up ns_left).up ns_word).power (((S.up ns_lexer).up ns_left).up ns_word).due ?_ hk15 hi4 hp1 hp2 hd1 hd2 ?_
  · rcases hTL with ⟨a, b, c⟩ | ⟨a, b, c⟩
    · exact .inl ⟨a, b, c ▸ ch5⟩
    · exact .inr ⟨a, b, c ▸ ch5⟩
  intro h18 k18 m18 hk18 F18 N18 f18 S18
  exact h _ _ _ tab'' hk18 ⟨F18, N18, f18, ht2, I.hx, I.hrl, I.h294, I.bs, I.c1, I.c2, I.hit⟩ S18
set_option maxHeartbeats 4000000 in
theorem turn_odde {Q : Flow → Shared → Prop} {E : Value → Shared → Prop}
  (B : Below callerA base [] h₀) (X : (K1r w.params).In h₀) (T : Top p loose mean mg mb h₀) (C : CodeHd base 298 294) (hb : ∃ es, base.get? 247 = some (dO es 650) ∧ Ents b3kv es) (G : GOk g)
  (I : Inv w h₀ L s.heap m g bd hl th it oc1 oc2 es rs kh kr tab c) (S : Fs m i (2 * k + 1) pw0 du) (hk : k < 13) (hc : c ≤ 50) (ht : 1 ≤ s.toks)
  (hi : i.fmod 2 = 0) (hi4 : i = 0 ∨ i = 1 ∨ i = 2 ∨ i = 3) (hp1 : 0 ≤ pw0) (hp2 : pw0 ≤ 1000) (hd1 : 0 ≤ du) (hd2 : du ≤ 1000)
  (h : ∀ h' tk m' oc1' oc2' es' rs' kh' kr' tab', 1 ≤ tk → Inv w h₀ L h' m' g bd hl th it oc1' oc2' es' rs' kh' kr' tab' (c + 1) → Fs m' i (3 * k + 2) (3 * pw0) (3 * du + p2 i) → Q .next { heap := h', gens := s.gens, drawn := s.drawn, toks := tk, os := s.os }) :
  wpAny (model pw w) (callerA.deeper (lawE L fa cd)) (execs stepB (lawE L fa cd)) Q E s := by
  rw [stepB_e]
  obtain ⟨tw, ew⟩ := I.f.white
  obtain ⟨thd, eh⟩ := I.f.head
  obtain ⟨tr, er⟩ := S.run
  obtain ⟨v1, hv1⟩ := I.c1
  obtain ⟨v2, hv2⟩ := I.c2
  have hlen : (g.wc :: g.hc :: (rep (2 * k + 1) ++ [g.wc, 122])).length ≤ 40 := by simp; omega
  have hsz : ∀ {x : Nat}, x ≤ 65536 → x ≤ sizeLine := fun h => Nat.le_trans h (by decide)
  have hz1 : (g.wc :: g.hc :: (rep (2 * k + 1) ++ [g.wc, 122])).length + 2 ≤ sizeLine := hsz (by omega)
  have rl100 : (mkS (rep (2 * k + 1))).length ≤ 100 := by rw [len_mk, List.length_replicate]; omega
  refine wpAny_execs_cons (wpAny_with_toks ht (st0 ⟨rfl, rfl⟩ B I.F X T C I.ht I.N I.hx ew eh er (by omega) (by rw [cs1_e]; exact hsz (Nat.le_trans hlen (by decide))) ?_))
  intro h1 k1 l t2 ys kk tab' ht1 F1 N1 ok1 ch1 hk1
  rw [cs1_e] at ch1
  show wpAny _ _ (execs _ _) _ _ _
  refine wpAny_execs_cons (wpAny_with_toks hk1 (st1 ⟨rfl, rfl⟩ B F1 X T C N1 ok1 (cs := g.wc :: g.hc :: (rep (2 * k + 1) ++ [g.wc, 122])) ch1 hz1 (tok1_odd G.ws G.hw G.h34 G.h92 k) ((up_ne (by decide +kernel)).trans up_eq) ?_))
  intro h2 k2 t2' ln' kk' u ys' F2 N2 ch2 el hk2
  show wpAny _ _ (execs _ _) _ _ _
  have f2 := ((I.f.up nm_lexer (v := .ref l.x)).up nm_left (v := .ref l.left)).up nm_word (v := .str (mkS ((g.hc :: rep k) ++ [g.wc, 122])) u)
  have s2 := ((S.up ns_lexer (v := .ref l.x)).up ns_left (v := .ref l.left)).up ns_word (v := .str (mkS ((g.hc :: rep k) ++ [g.wc, 122])) u)
  obtain ⟨tw2, ew2⟩ := f2.white
  obtain ⟨th2, eh2⟩ := f2.head
  obtain ⟨tp2, ep2⟩ := f2.place
  obtain ⟨ti2, ei2⟩ := s2.step
  have Wz : (mkS ((g.hc :: rep k) ++ [g.wc, 122])).length ≤ sizeLine := hsz (by rw [len_mk]; simp; omega)
  refine wpAny_execs_cons (wpAny_with_toks hk2 (st2 ⟨rfl, rfl⟩ B F2 X T C N2 up_eq eh2 ew2 ((up_ne (by decide +kernel)).trans ((up_ne (by decide +kernel)).trans up_eq)) (slice_hd _ _) Wz G.nl (ln_e G.h10 rfl el) ?_))
  intro h3 k3 F3 N3 hk3
  show wpAny _ _ (execs _ _) _ _ _
  refine wpAny_execs_cons (wpAny_with_toks hk3 (st3o (R := Str.empty) ⟨rfl, rfl⟩ B F3 X T C N3 up_eq ((up_ne (by decide +kernel)).trans up_eq) (chl_0 ch2) (by decide +kernel) (by decide +kernel) ?_))
  intro h3' k3' F3' N3' hk3'
  show wpAny _ _ (execs _ _) _ _ _
  refine wpAny_execs_cons (wpAny_with_toks hk3' (st4 ⟨rfl, rfl⟩ B F3' X T C N3' up_eq ew2 (slice_last (g.hc :: rep k) [g.wc, 122] (-2) rfl (Nat.succ_pos _)) Wz ?_))
  intro h4 k4 F4 N4 hk4
  show wpAny _ _ (execs _ _) _ _ _
  have kdm := kd_mid (es := es) (rs := rs) I.hit ht1
  have N4' : News h₀ L h4 ((L + 1, oc1) :: (L + 2, oc2) :: (g.bk, instObj 182 bd) :: (bd, bookD w hl th) :: (hl, listOf (refs es) kh) :: (g.rl, listOf (refs rs) kr) :: ((it ++ (es.map Ent.o ++ rs.map Ent.o)) ++ tab')) :=
    news_sub (news_sub N4 objs_rest) (by intro p hp; simp only [coreL, List.map_append, List.map_cons, List.map_nil, List.mem_cons, List.mem_append, List.not_mem_nil, or_false, Ent.o] at hp ⊢; grind)
  have nc5 : ∀ p ∈ (g.bk, instObj 182 bd) :: (bd, bookD w hl th) :: (hl, listOf (refs es) kh) :: (g.rl, listOf (refs rs) kr) :: ((it ++ (es.map Ent.o ++ rs.map Ent.o)) ++ tab'), NCell p.2 := by
    refine List.forall_mem_cons.mpr ⟨(kd_inst _ _).1, List.forall_mem_cons.mpr ⟨(kd_dict _ _ _).1, List.forall_mem_cons.mpr ⟨kd_list _ _, List.forall_mem_cons.mpr ⟨kd_list _ _, fun p hp => (kdm p hp).1⟩⟩⟩⟩
  refine wpAny_execs_cons (wpAny_with_toks hk4 (st5e ⟨rfl, rfl⟩ B F4 X T C N4' hv1 ep2 ei2 G.pl hi (fun p hp => ⟨news_cell N4' (.head _) hv1 (.tail _ (.tail _ hp)) (nc5 p hp), news_cell N4' (.tail _ (.head _)) hv2 (.tail _ (.tail _ hp)) (nc5 p hp)⟩) ?_))
  intro h5 k5 ts oc1' F5 N5 hoc1 hk5
  show wpAny _ _ (execs _ _) _ _ _
  refine wpAny_execs_cons (wpAny_with_toks hk5 (st6e ⟨rfl, rfl⟩ B F5 X T C N5 hv2 ep2 ei2 G.pl hi (fun p hp => ⟨news_cell N5 (.head _) hoc1 (.tail _ (.tail _ hp)) (nc5 p hp), news_cell N5 (.tail _ (.head _)) hv2 (.tail _ (.tail _ hp)) (nc5 p hp)⟩) ?_))
  intro h6 k6 ta oc2' F6 N6 hoc2 hk6
  show wpAny _ _ (execs _ _) _ _ _
  refine wpAny_execs_cons (wpAny_with_toks hk6 (st7e ⟨rfl, rfl⟩ B F6 X T C N6 ei2 hi ?_))
  intro h7 k7 u7 F7 N7 hk7
  show wpAny _ _ (execs _ _) _ _ _
  have f7 := f2.up nm_ahead (v := .str ahE u7)
  have s7 := s2.up ns_ahead (v := .str ahE u7)
  have F7 : Fr h₀ L h7 (up1 _ "ahead" (.str ahE u7)) := F7
  obtain ⟨tb7, eb7⟩ := f7.behind
  obtain ⟨tr7, er7⟩ := s7.run
  obtain ⟨ti7, ei7⟩ := s7.step
  have N7' : News h₀ L h7 ((L + 1, oc1') :: (L + 2, oc2') :: (g.rl, listOf (refs rs) kr) :: (g.bk, instObj 182 bd) :: (bd, bookD w hl th) :: (hl, listOf (refs es) kh) :: ((it ++ (es.map Ent.o ++ rs.map Ent.o)) ++ tab')) := news_sub N7 (by intro p hp; simp only [coreL, List.map_append, List.map_cons, List.map_nil, List.mem_cons, List.mem_append, List.not_mem_nil, or_false, Ent.o] at hp ⊢; grind)
  have mrl7 : (g.rl, listOf (refs rs) kr) ∈ ((L + 1, oc1') :: (L + 2, oc2') :: (g.rl, listOf (refs rs) kr) :: (g.bk, instObj 182 bd) :: (bd, bookD w hl th) :: (hl, listOf (refs es) kh) :: ((it ++ (es.map Ent.o ++ rs.map Ent.o)) ++ tab')) := .tail _ (.tail _ (.head _))
  have rsl : rs.length = es.length := by have := congrArg List.length I.bs.he; simpa using this.symm
  have esl := I.bs.len
  refine wpAny_execs_cons (wpAny_with_toks hk7 (st8 ⟨rfl, rfl⟩ B F7 X T C N7' hoc1 f7.rows er7 up_eq eb7 rl100 (by decide +kernel) (by decide +kernel) (by rw [refs_size]; exact hsz (by omega))
    (List.forall_mem_cons.mpr ⟨news_list N7' mrl7 (.tail _ (.tail _ (.tail _ (.head _)))) (kd_inst _ _).2, List.forall_mem_cons.mpr ⟨news_list N7' mrl7 (.tail _ (.tail _ (.tail _ (.tail _ (.head _))))) (kd_dict _ _ _).2, List.forall_mem_cons.mpr ⟨fun q => I.hrl q.symm, fun p hp => news_list N7' mrl7 (.tail _ (.tail _ (.tail _ (.tail _ (.tail _ (.tail _ hp)))))) (kdm p hp).2⟩⟩⟩)
    (news_list N7' mrl7 (.head _) (kd_cell hoc1)) (news_list N7' mrl7 (.tail _ (.head _)) (kd_cell hoc2)) ?_))
  intro h8 k8 D1 u8 F8 N8 lt8 hk8
  show wpAny _ _ (execs _ _) _ _ _
  rw [row_e, show (refs rs).push (.ref D1) = refs (rs ++ [⟨D1, lowS g.pl, ts, toldS ahE (2 * k + 1), u8⟩]) from refs_push rs ⟨D1, lowS g.pl, ts, toldS ahE (2 * k + 1), u8⟩] at N8
  refine wpAny_execs_cons (wpAny_with_toks hk8 (st9e ⟨rfl, rfl⟩ B F8 X T C N8 ei7 hi ?_))
  intro h9 k9 u9 F9 N9 hk9
  show wpAny _ _ (execs _ _) _ _ _
  have f9 := (f7.up nm_own (v := .none)).up nm_more (v := .str (Str.ofString "") u9)
  have s9 := (s7.up ns_own (v := .none)).up ns_more (v := .str (Str.ofString "") u9)
  obtain ⟨tr9, er9⟩ := s9.run
  have N9' : News h₀ L h9 ((g.bk, instObj 182 bd) :: (bd, bookD w hl th) :: (hl, listOf (refs es) kh) :: (L + 1, oc1') :: (L + 2, oc2') :: (g.rl, listOf (refs (rs ++ [⟨D1, lowS g.pl, ts, toldS ahE (2 * k + 1), u8⟩])) (kr + 1)) :: (D1, tupO [.str (lowS g.pl) ts, .str (toldS ahE (2 * k + 1)) u8]) :: ((it ++ (es.map Ent.o ++ rs.map Ent.o)) ++ tab')) := news_sub N9 (by intro p hp; simp only [coreL, List.map_append, List.map_cons, List.map_nil, List.mem_cons, List.mem_append, List.not_mem_nil, or_false, Ent.o] at hp ⊢; grind)
  have mhl9 : (hl, listOf (refs es) kh) ∈ ((g.bk, instObj 182 bd) :: (bd, bookD w hl th) :: (hl, listOf (refs es) kh) :: (L + 1, oc1') :: (L + 2, oc2') :: (g.rl, listOf (refs (rs ++ [⟨D1, lowS g.pl, ts, toldS ahE (2 * k + 1), u8⟩])) (kr + 1)) :: (D1, tupO [.str (lowS g.pl) ts, .str (toldS ahE (2 * k + 1)) u8]) :: ((it ++ (es.map Ent.o ++ rs.map Ent.o)) ++ tab')) := .tail _ (.tail _ (.head _))
  obtain ⟨na, nl, nz, nla, nlz, nok⟩ := name_ok _ (low_in G.pl)
  obtain ⟨aa, al, az, ala, alz, aok⟩ := name_ok _ (upp_in G.pl)
  refine wpAny_execs_cons (wpAny_with_toks hk9 (st10e ⟨rfl, rfl⟩ B F9 X T C N9' hoc1 f9.book er9 ((up_ne (by decide +kernel)).trans up_eq) up_eq (xv_asc (2 * k + 1)) na (y_e ⟨k, hk⟩) (z_e ⟨k, hk⟩) (Nat.le_trans nl (by decide)) (Nat.le_trans nz (by decide)) rl100
    (by rw [xv_len]; omega) (by have := xv_len (2 * k + 1); show (xvS (2 * k + 1)).length ≤ 4096; omega) (by rw [y_len]; omega) (by rw [z_len]; omega) (by rw [xv_len]; omega) hk9 (by rw [refs_size]; exact hsz (by omega))
    (news_list N9' mhl9 (.head _) (kd_inst _ _).2) (news_list N9' mhl9 (.tail _ (.head _)) (kd_dict _ _ _).2)
    (List.forall_mem_cons.mpr ⟨news_list N9' mhl9 (.tail _ (.tail _ (.tail _ (.head _)))) (kd_cell hoc1), List.forall_mem_cons.mpr ⟨news_list N9' mhl9 (.tail _ (.tail _ (.tail _ (.tail _ (.head _))))) (kd_cell hoc2), List.forall_mem_cons.mpr ⟨I.hrl, List.forall_mem_cons.mpr ⟨news_list N9' mhl9 (.tail _ (.tail _ (.tail _ (.tail _ (.tail _ (.tail _ (.head _))))))) (kd_tup _).2, fun p hp => news_list N9' mhl9 (.tail _ (.tail _ (.tail _ (.tail _ (.tail _ (.tail _ (.tail _ hp))))))) (kdm p hp).2⟩⟩⟩⟩) ?_))
  intro h10 k10 D2 u10 F10 N10 lt10 hk10
  show wpAny _ _ (execs _ _) _ _ _
  have tld : Txt.join (Str.ofString "; ") (parE (zS (2 * k + 1))) = toldS ahE (2 * k + 1) := told_e (2 * k + 1)
  rw [tld, show (refs es).push (.ref D2) = refs (es ++ [⟨D2, lowS g.pl, ts, toldS ahE (2 * k + 1), u10⟩]) from refs_push es ⟨D2, lowS g.pl, ts, toldS ahE (2 * k + 1), u10⟩] at N10
  have N10f : News h₀ L h10 (coreL w L g.bk bd hl g.rl th oc1' oc2' (es ++ [(Ent.mk D2 (lowS g.pl) ts (toldS ahE (2 * k + 1)) u10)]) (rs ++ [(Ent.mk D1 (lowS g.pl) ts (toldS ahE (2 * k + 1)) u8)]) (kh + 1) (kr + 1) it ++ tab') := news_sub N10 (by intro p hp; simp only [coreL, List.map_append, List.map_cons, List.map_nil, List.mem_cons, List.mem_append, List.not_mem_nil, or_false, Ent.o] at hp ⊢; grind)
  have N11i : News h₀ L h10 ((g.bk, instObj 182 bd) :: (bd, bookD w hl th) :: (hl, listOf (refs (es ++ [(Ent.mk D2 (lowS g.pl) ts (toldS ahE (2 * k + 1)) u10)])) (kh + 1)) :: (L + 2, oc2') :: (L + 1, oc1') :: (g.rl, listOf (refs (rs ++ [(Ent.mk D1 (lowS g.pl) ts (toldS ahE (2 * k + 1)) u8)])) (kr + 1)) :: ((it ++ ((es ++ [(Ent.mk D2 (lowS g.pl) ts (toldS ahE (2 * k + 1)) u10)]).map Ent.o ++ (rs ++ [(Ent.mk D1 (lowS g.pl) ts (toldS ahE (2 * k + 1)) u8)]).map Ent.o)) ++ tab')) := news_sub N10f (by intro p hp; simp only [coreL, List.map_append, List.map_cons, List.map_nil, List.mem_cons, List.mem_append, List.not_mem_nil, or_false, Ent.o] at hp ⊢; grind)
  have bs' : Books (es ++ [(Ent.mk D2 (lowS g.pl) ts (toldS ahE (2 * k + 1)) u10)]) (rs ++ [(Ent.mk D1 (lowS g.pl) ts (toldS ahE (2 * k + 1)) u8)]) (c + 1) := I.bs.push (low_in G.pl) (told_ok ahE (2 * k + 1) ahE_ok) rfl rfl
  have hx10 : ∀ p ∈ coreL w L g.bk bd hl g.rl th oc1' oc2' (es ++ [(Ent.mk D2 (lowS g.pl) ts (toldS ahE (2 * k + 1)) u10)]) (rs ++ [(Ent.mk D1 (lowS g.pl) ts (toldS ahE (2 * k + 1)) u8)]) (kh + 1) (kr + 1) it, p.1 ≠ 294 := by
    have hx := I.hx
    have l1 := lt8.1
    have l2 : @LT.lt Nat _ (L + 1) D2 := topA_mem lt10.2.2.2 (L + 1, oc1') (.head _)
    have l3 := I.h294
    have x1 := hx (g.bk, instObj 182 bd) (.head _)
    have x2 := hx (bd, bookD w hl th) (.tail _ (.head _))
    have x3 := hx (hl, listOf (refs es) kh) (.tail _ (.tail _ (.head _)))
    have x4 := hx (g.rl, listOf (refs rs) kr) (.tail _ (.tail _ (.tail _ (.tail _ (.tail _ (.head _))))))
    have d1 : @Ne Nat D1 294 := fun q => by have l1 : @LT.lt Nat _ (L + 1) D1 := l1; omega
    have d2 : @Ne Nat D2 294 := fun q => by omega
    have d3 : @Ne Nat (L + 1) 294 := fun q => by omega
    have d4 : @Ne Nat (L + 2) 294 := fun q => by omega
    refine List.forall_mem_cons.mpr ⟨x1, List.forall_mem_cons.mpr ⟨x2, List.forall_mem_cons.mpr ⟨x3, List.forall_mem_cons.mpr ⟨d3, List.forall_mem_cons.mpr ⟨d4, List.forall_mem_cons.mpr ⟨x4, ?_⟩⟩⟩⟩⟩⟩
    intro p hp
    have old : ∀ q ∈ it ++ (es.map Ent.o ++ rs.map Ent.o), q.1 ≠ 294 := fun q hq => hx q (.tail _ (.tail _ (.tail _ (.tail _ (.tail _ (.tail _ hq))))))
    rw [List.map_append, List.map_append] at hp
    rcases List.mem_append.mp hp with hp | hp
    · exact old p (List.mem_append_left _ hp)
    · rcases List.mem_append.mp hp with hp | hp
      · rcases List.mem_append.mp hp with hp | hp
        · exact old p (List.mem_append_right _ (List.mem_append_left _ hp))
        · rw [List.mem_singleton.mp hp]; exact d2
      · rcases List.mem_append.mp hp with hp | hp
        · exact old p (List.mem_append_right _ (List.mem_append_right _ hp))
        · rw [List.mem_singleton.mp hp]; exact d1
  have f10 := f9.up nm_laid (v := .none)
  have s10 := s9.up ns_laid (v := .none)
  refine wpAny_execs_cons (wpAny_with_toks hk10 (st11 ⟨rfl, rfl⟩ B F10 X T C N11i hoc2 f10.book
    (fun e he => .tail _ (.tail _ (.tail _ (List.mem_append_left _ (List.mem_append_right _ (List.mem_append_left _ (List.mem_map_of_mem he)))))))
    (fun e he => (name_ok _ (bs'.names e he).1).2.1) (hsz (by have := bs'.len; omega)) al ala (Nat.le_trans alz (by decide)) hk10 ?_))
  intro h11 k11 D3 ys3 c3 F11 N11 hs3 hk11
  show wpAny _ _ (execs _ _) _ _ _
  have f11 := f10.up nm_told (v := .ref D3)
  have s11 := s10.up ns_told (v := .ref D3)
  have hq : (Txt.lower (lowS g.pl) == Txt.lower (uppS g.pl)) = true := by rw [(told_names' G.pl (low_in G.pl)).1]; simp
  have tl1 := filt_eq (fun n => Txt.lower n == Txt.lower (uppS g.pl)) (fun n => n == lowS g.pl || n == uppS g.pl) _ _ bs'.he (fun e he => (told_names' G.pl (bs'.ok e he).1).1)
  have tl2 : (((es ++ [(Ent.mk D2 (lowS g.pl) ts (toldS ahE (2 * k + 1)) u10)]).filter fun e : Ent => Txt.lower e.n == Txt.lower (uppS g.pl)).map (·.x)) = ((es.filter fun e : Ent => Txt.lower e.n == Txt.lower (uppS g.pl)).map (·.x)) ++ [toldS ahE (2 * k + 1)] := by
    rw [List.filter_append, List.map_append, List.filter_cons_of_pos (by exact hq)]
    rfl
  have hs3' : StrsAre ys3 (((rs ++ [(Ent.mk D1 (lowS g.pl) ts (toldS ahE (2 * k + 1)) u8)]).filter fun e : Ent => e.n == lowS g.pl || e.n == uppS g.pl).map (·.x)) := tl1 ▸ hs3
  rw [tl2] at hs3
  refine wpAny_execs_cons (wpAny_with_toks hk11 (st12 ⟨rfl, rfl⟩ B F11 X T C N11 hoc1 hoc2 ((up_ne (by decide +kernel)).trans up_eq) up_eq f11.rows
    (fun e he => .tail _ (.tail _ (.tail _ (.tail _ (.tail _ (.tail _ (.tail _ (List.mem_append_left _ (List.mem_append_right _ (List.mem_append_right _ (List.mem_map_of_mem he)))))))))))
    (hsz (by rw [List.length_append, List.length_singleton]; omega)) (.tail _ (.tail _ (.tail _ (.tail _ (.tail _ (.head _)))))) (.tail _ (.tail _ (.tail _ (.tail _ (.head _))))) (.tail _ (.tail _ (.tail _ (.tail _ (.tail _ (.tail _ (.head _))))))) (.head _)
    hs3' (fun x hx => by obtain ⟨e, he, rfl⟩ := List.mem_map.mp hx; exact (bs'.ok e (List.mem_filter.mp he).1).2) ?_))
  intro h12 k12 F12 N12 hk12
  show wpAny _ _ (execs _ _) _ _ _
  have ahl : Str.length ahE ≤ 100 := by decide +kernel
  obtain ⟨ta11, ea11⟩ : hasS _ "ahead" ahE := ((((hasS.up (x := "ahead") (y := "own") ⟨u7, up_eq⟩ (by decide +kernel)).up (y := "more") (by decide +kernel)).up (y := "laid") (by decide +kernel)).up (y := "told") (v := .ref D3) (by decide +kernel))
  obtain ⟨tb11, eb11⟩ := f11.behind
  refine wpAny_execs_cons (wpAny_with_toks hk12 (st13 ⟨rfl, rfl⟩ B F12 X T C N12 up_eq ea11 eb11 hs3 ahl (by decide +kernel) (by rw [List.length_map]; exact Nat.le_trans (List.length_filter_le _ _) (by omega)) (by rw [told_len]; exact hsz (by omega)) ?_))
  intro h13 k13 u13 F13 N13 hk13
  show wpAny _ _ (execs _ _) _ _ _
  rw [told_text] at F13
  have f13 := f11.up nm_text (v := .str (mkS (rep (2 * (2 * k + 1) + 1) ++ [34])) u13)
  have s13 := s11.up ns_text (v := .str (mkS (rep (2 * (2 * k + 1) + 1) ++ [34])) u13)
  have N14i : News h₀ L h13 (coreL w L g.bk bd hl g.rl th oc1' oc2' (es ++ [(Ent.mk D2 (lowS g.pl) ts (toldS ahE (2 * k + 1)) u10)]) (rs ++ [(Ent.mk D1 (lowS g.pl) ts (toldS ahE (2 * k + 1)) u8)]) (kh + 1) (kr + 1) it ++ tab') := news_sub N13 (by intro p hp; simp only [coreL, List.map_append, List.map_cons, List.map_nil, List.mem_cons, List.mem_append, List.not_mem_nil, or_false, Ent.o] at hp ⊢; grind)
  exact turn_tail B X T C hb G ⟨F13, N14i, f13, ht1, hx10, I.hrl, I.h294, bs', ⟨_, hoc1⟩, ⟨_, hoc2⟩, I.hit⟩ s13 ⟨u13, up_eq⟩ hk hk13 hi4 hp1 hp2 hd1 hd2 (fun h' tk m' tab' a b c => h _ _ _ _ _ _ _ _ _ _ a b c)
set_option maxHeartbeats 4000000 in
theorem turn_oddo {Q : Flow → Shared → Prop} {E : Value → Shared → Prop}
  (B : Below callerA base [] h₀) (X : (K1r w.params).In h₀) (T : Top p loose mean mg mb h₀) (C : CodeHd base 298 294) (hb : ∃ es, base.get? 247 = some (dO es 650) ∧ Ents b3kv es) (G : GOk g)
  (I : Inv w h₀ L s.heap m g bd hl th it oc1 oc2 es rs kh kr tab c) (S : Fs m i (2 * k + 1) pw0 du) (hk : k < 13) (hc : c ≤ 50) (ht : 1 ≤ s.toks)
  (hi : i.fmod 2 = 1) (hi4 : i = 0 ∨ i = 1 ∨ i = 2 ∨ i = 3) (hp1 : 0 ≤ pw0) (hp2 : pw0 ≤ 1000) (hd1 : 0 ≤ du) (hd2 : du ≤ 1000)
  (h : ∀ h' tk m' oc1' oc2' es' rs' kh' kr' tab', 1 ≤ tk → Inv w h₀ L h' m' g bd hl th it oc1' oc2' es' rs' kh' kr' tab' (c + 1) → Fs m' i (3 * k + 2) (3 * pw0) (3 * du + p2 i) → Q .next { heap := h', gens := s.gens, drawn := s.drawn, toks := tk, os := s.os }) :
  wpAny (model pw w) (callerA.deeper (lawE L fa cd)) (execs stepB (lawE L fa cd)) Q E s := by
  rw [stepB_e]
  obtain ⟨tw, ew⟩ := I.f.white
  obtain ⟨thd, eh⟩ := I.f.head
  obtain ⟨tr, er⟩ := S.run
  obtain ⟨v1, hv1⟩ := I.c1
  obtain ⟨v2, hv2⟩ := I.c2
  have hlen : (g.wc :: g.hc :: (rep (2 * k + 1) ++ [g.wc, 122])).length ≤ 40 := by simp; omega
  have hsz : ∀ {x : Nat}, x ≤ 65536 → x ≤ sizeLine := fun h => Nat.le_trans h (by decide)
  have hz1 : (g.wc :: g.hc :: (rep (2 * k + 1) ++ [g.wc, 122])).length + 2 ≤ sizeLine := hsz (by omega)
  have rl100 : (mkS (rep (2 * k + 1))).length ≤ 100 := by rw [len_mk, List.length_replicate]; omega
  refine wpAny_execs_cons (wpAny_with_toks ht (st0 ⟨rfl, rfl⟩ B I.F X T C I.ht I.N I.hx ew eh er (by omega) (by rw [cs1_e]; exact hsz (Nat.le_trans hlen (by decide))) ?_))
  intro h1 k1 l t2 ys kk tab' ht1 F1 N1 ok1 ch1 hk1
  rw [cs1_e] at ch1
  show wpAny _ _ (execs _ _) _ _ _
  refine wpAny_execs_cons (wpAny_with_toks hk1 (st1 ⟨rfl, rfl⟩ B F1 X T C N1 ok1 (cs := g.wc :: g.hc :: (rep (2 * k + 1) ++ [g.wc, 122])) ch1 hz1 (tok1_odd G.ws G.hw G.h34 G.h92 k) ((up_ne (by decide +kernel)).trans up_eq) ?_))
  intro h2 k2 t2' ln' kk' u ys' F2 N2 ch2 el hk2
  show wpAny _ _ (execs _ _) _ _ _
  have f2 := ((I.f.up nm_lexer (v := .ref l.x)).up nm_left (v := .ref l.left)).up nm_word (v := .str (mkS ((g.hc :: rep k) ++ [g.wc, 122])) u)
  have s2 := ((S.up ns_lexer (v := .ref l.x)).up ns_left (v := .ref l.left)).up ns_word (v := .str (mkS ((g.hc :: rep k) ++ [g.wc, 122])) u)
  obtain ⟨tw2, ew2⟩ := f2.white
  obtain ⟨th2, eh2⟩ := f2.head
  obtain ⟨tp2, ep2⟩ := f2.place
  obtain ⟨ti2, ei2⟩ := s2.step
  have Wz : (mkS ((g.hc :: rep k) ++ [g.wc, 122])).length ≤ sizeLine := hsz (by rw [len_mk]; simp; omega)
  refine wpAny_execs_cons (wpAny_with_toks hk2 (st2 ⟨rfl, rfl⟩ B F2 X T C N2 up_eq eh2 ew2 ((up_ne (by decide +kernel)).trans ((up_ne (by decide +kernel)).trans up_eq)) (slice_hd _ _) Wz G.nl (ln_e G.h10 rfl el) ?_))
  intro h3 k3 F3 N3 hk3
  show wpAny _ _ (execs _ _) _ _ _
  refine wpAny_execs_cons (wpAny_with_toks hk3 (st3o (R := Str.empty) ⟨rfl, rfl⟩ B F3 X T C N3 up_eq ((up_ne (by decide +kernel)).trans up_eq) (chl_0 ch2) (by decide +kernel) (by decide +kernel) ?_))
  intro h3' k3' F3' N3' hk3'
  show wpAny _ _ (execs _ _) _ _ _
  refine wpAny_execs_cons (wpAny_with_toks hk3' (st4 ⟨rfl, rfl⟩ B F3' X T C N3' up_eq ew2 (slice_last (g.hc :: rep k) [g.wc, 122] (-2) rfl (Nat.succ_pos _)) Wz ?_))
  intro h4 k4 F4 N4 hk4
  show wpAny _ _ (execs _ _) _ _ _
  have kdm := kd_mid (es := es) (rs := rs) I.hit ht1
  have N4' : News h₀ L h4 ((L + 1, oc1) :: (L + 2, oc2) :: (g.bk, instObj 182 bd) :: (bd, bookD w hl th) :: (hl, listOf (refs es) kh) :: (g.rl, listOf (refs rs) kr) :: ((it ++ (es.map Ent.o ++ rs.map Ent.o)) ++ tab')) :=
    news_sub (news_sub N4 objs_rest) (by intro p hp; simp only [coreL, List.map_append, List.map_cons, List.map_nil, List.mem_cons, List.mem_append, List.not_mem_nil, or_false, Ent.o] at hp ⊢; grind)
  have nc5 : ∀ p ∈ (g.bk, instObj 182 bd) :: (bd, bookD w hl th) :: (hl, listOf (refs es) kh) :: (g.rl, listOf (refs rs) kr) :: ((it ++ (es.map Ent.o ++ rs.map Ent.o)) ++ tab'), NCell p.2 := by
    refine List.forall_mem_cons.mpr ⟨(kd_inst _ _).1, List.forall_mem_cons.mpr ⟨(kd_dict _ _ _).1, List.forall_mem_cons.mpr ⟨kd_list _ _, List.forall_mem_cons.mpr ⟨kd_list _ _, fun p hp => (kdm p hp).1⟩⟩⟩⟩
  refine wpAny_execs_cons (wpAny_with_toks hk4 (st5o ⟨rfl, rfl⟩ B F4 X T C N4' hv1 ep2 ei2 G.pl hi (fun p hp => ⟨news_cell N4' (.head _) hv1 (.tail _ (.tail _ hp)) (nc5 p hp), news_cell N4' (.tail _ (.head _)) hv2 (.tail _ (.tail _ hp)) (nc5 p hp)⟩) ?_))
  intro h5 k5 ts oc1' F5 N5 hoc1 hk5
  show wpAny _ _ (execs _ _) _ _ _
  refine wpAny_execs_cons (wpAny_with_toks hk5 (st6o ⟨rfl, rfl⟩ B F5 X T C N5 hv2 ep2 ei2 G.pl hi (fun p hp => ⟨news_cell N5 (.head _) hoc1 (.tail _ (.tail _ hp)) (nc5 p hp), news_cell N5 (.tail _ (.head _)) hv2 (.tail _ (.tail _ hp)) (nc5 p hp)⟩) ?_))
  intro h6 k6 ta oc2' F6 N6 hoc2 hk6
  show wpAny _ _ (execs _ _) _ _ _
  refine wpAny_execs_cons (wpAny_with_toks hk6 (st7o ⟨rfl, rfl⟩ B F6 X T C N6 ei2 hi ?_))
  intro h7 k7 u7 F7 N7 hk7
  show wpAny _ _ (execs _ _) _ _ _
  have f7 := f2.up nm_ahead (v := .str ahO u7)
  have s7 := s2.up ns_ahead (v := .str ahO u7)
  have F7 : Fr h₀ L h7 (up1 _ "ahead" (.str ahO u7)) := F7
  obtain ⟨tb7, eb7⟩ := f7.behind
  obtain ⟨tr7, er7⟩ := s7.run
  obtain ⟨ti7, ei7⟩ := s7.step
  have N7' : News h₀ L h7 ((L + 1, oc1') :: (L + 2, oc2') :: (g.rl, listOf (refs rs) kr) :: (g.bk, instObj 182 bd) :: (bd, bookD w hl th) :: (hl, listOf (refs es) kh) :: ((it ++ (es.map Ent.o ++ rs.map Ent.o)) ++ tab')) := news_sub N7 (by intro p hp; simp only [coreL, List.map_append, List.map_cons, List.map_nil, List.mem_cons, List.mem_append, List.not_mem_nil, or_false, Ent.o] at hp ⊢; grind)
  have mrl7 : (g.rl, listOf (refs rs) kr) ∈ ((L + 1, oc1') :: (L + 2, oc2') :: (g.rl, listOf (refs rs) kr) :: (g.bk, instObj 182 bd) :: (bd, bookD w hl th) :: (hl, listOf (refs es) kh) :: ((it ++ (es.map Ent.o ++ rs.map Ent.o)) ++ tab')) := .tail _ (.tail _ (.head _))
  have rsl : rs.length = es.length := by have := congrArg List.length I.bs.he; simpa using this.symm
  have esl := I.bs.len
  refine wpAny_execs_cons (wpAny_with_toks hk7 (st8 ⟨rfl, rfl⟩ B F7 X T C N7' hoc1 f7.rows er7 up_eq eb7 rl100 (by decide +kernel) (by decide +kernel) (by rw [refs_size]; exact hsz (by omega))
    (List.forall_mem_cons.mpr ⟨news_list N7' mrl7 (.tail _ (.tail _ (.tail _ (.head _)))) (kd_inst _ _).2, List.forall_mem_cons.mpr ⟨news_list N7' mrl7 (.tail _ (.tail _ (.tail _ (.tail _ (.head _))))) (kd_dict _ _ _).2, List.forall_mem_cons.mpr ⟨fun q => I.hrl q.symm, fun p hp => news_list N7' mrl7 (.tail _ (.tail _ (.tail _ (.tail _ (.tail _ (.tail _ hp)))))) (kdm p hp).2⟩⟩⟩)
    (news_list N7' mrl7 (.head _) (kd_cell hoc1)) (news_list N7' mrl7 (.tail _ (.head _)) (kd_cell hoc2)) ?_))
  intro h8 k8 D1 u8 F8 N8 lt8 hk8
  show wpAny _ _ (execs _ _) _ _ _
  rw [row_e, show (refs rs).push (.ref D1) = refs (rs ++ [⟨D1, uppS g.pl, ts, toldS ahO (2 * k + 1), u8⟩]) from refs_push rs ⟨D1, uppS g.pl, ts, toldS ahO (2 * k + 1), u8⟩] at N8
  refine wpAny_execs_cons (wpAny_with_toks hk8 (st9o ⟨rfl, rfl⟩ B F8 X T C N8 ei7 hi ?_))
  intro h9 k9 u9 F9 N9 hk9
  show wpAny _ _ (execs _ _) _ _ _
  have f9 := (f7.up nm_own (v := .str (Str.ofString "z") u9)).up nm_more (v := .none)
  have s9 := (s7.up ns_own (v := .str (Str.ofString "z") u9)).up ns_more (v := .none)
  obtain ⟨tr9, er9⟩ := s9.run
  have N9' : News h₀ L h9 ((g.bk, instObj 182 bd) :: (bd, bookD w hl th) :: (hl, listOf (refs es) kh) :: (L + 1, oc1') :: (L + 2, oc2') :: (g.rl, listOf (refs (rs ++ [⟨D1, uppS g.pl, ts, toldS ahO (2 * k + 1), u8⟩])) (kr + 1)) :: (D1, tupO [.str (uppS g.pl) ts, .str (toldS ahO (2 * k + 1)) u8]) :: ((it ++ (es.map Ent.o ++ rs.map Ent.o)) ++ tab')) := news_sub N9 (by intro p hp; simp only [coreL, List.map_append, List.map_cons, List.map_nil, List.mem_cons, List.mem_append, List.not_mem_nil, or_false, Ent.o] at hp ⊢; grind)
  have mhl9 : (hl, listOf (refs es) kh) ∈ ((g.bk, instObj 182 bd) :: (bd, bookD w hl th) :: (hl, listOf (refs es) kh) :: (L + 1, oc1') :: (L + 2, oc2') :: (g.rl, listOf (refs (rs ++ [⟨D1, uppS g.pl, ts, toldS ahO (2 * k + 1), u8⟩])) (kr + 1)) :: (D1, tupO [.str (uppS g.pl) ts, .str (toldS ahO (2 * k + 1)) u8]) :: ((it ++ (es.map Ent.o ++ rs.map Ent.o)) ++ tab')) := .tail _ (.tail _ (.head _))
  obtain ⟨na, nl, nz, nla, nlz, nok⟩ := name_ok _ (upp_in G.pl)
  obtain ⟨aa, al, az, ala, alz, aok⟩ := name_ok _ (low_in G.pl)
  refine wpAny_execs_cons (wpAny_with_toks hk9 (st10o ⟨rfl, rfl⟩ B F9 X T C N9' hoc1 f9.book er9 ((up_ne (by decide +kernel)).trans up_eq) up_eq (xv_asc (2 * k + 1)) na (y_e ⟨k, hk⟩) (z_e ⟨k, hk⟩) (Nat.le_trans nl (by decide)) (Nat.le_trans nz (by decide)) rl100
    (by rw [xv_len]; omega) (by have := xv_len (2 * k + 1); show (xvS (2 * k + 1)).length ≤ 4096; omega) (by rw [y_len]; omega) (by rw [z_len]; omega) (by rw [xv_len]; omega) hk9 (by rw [refs_size]; exact hsz (by omega))
    (news_list N9' mhl9 (.head _) (kd_inst _ _).2) (news_list N9' mhl9 (.tail _ (.head _)) (kd_dict _ _ _).2)
    (List.forall_mem_cons.mpr ⟨news_list N9' mhl9 (.tail _ (.tail _ (.tail _ (.head _)))) (kd_cell hoc1), List.forall_mem_cons.mpr ⟨news_list N9' mhl9 (.tail _ (.tail _ (.tail _ (.tail _ (.head _))))) (kd_cell hoc2), List.forall_mem_cons.mpr ⟨I.hrl, List.forall_mem_cons.mpr ⟨news_list N9' mhl9 (.tail _ (.tail _ (.tail _ (.tail _ (.tail _ (.tail _ (.head _))))))) (kd_tup _).2, fun p hp => news_list N9' mhl9 (.tail _ (.tail _ (.tail _ (.tail _ (.tail _ (.tail _ (.tail _ hp))))))) (kdm p hp).2⟩⟩⟩⟩) ?_))
  intro h10 k10 D2 u10 F10 N10 lt10 hk10
  show wpAny _ _ (execs _ _) _ _ _
  have tld : Txt.join (Str.ofString "; ") (Str.ofString "z" :: parE (zS (2 * k + 1))) = toldS ahO (2 * k + 1) := told_o (2 * k + 1)
  rw [tld, show (refs es).push (.ref D2) = refs (es ++ [⟨D2, uppS g.pl, ts, toldS ahO (2 * k + 1), u10⟩]) from refs_push es ⟨D2, uppS g.pl, ts, toldS ahO (2 * k + 1), u10⟩] at N10
  have N10f : News h₀ L h10 (coreL w L g.bk bd hl g.rl th oc1' oc2' (es ++ [(Ent.mk D2 (uppS g.pl) ts (toldS ahO (2 * k + 1)) u10)]) (rs ++ [(Ent.mk D1 (uppS g.pl) ts (toldS ahO (2 * k + 1)) u8)]) (kh + 1) (kr + 1) it ++ tab') := news_sub N10 (by intro p hp; simp only [coreL, List.map_append, List.map_cons, List.map_nil, List.mem_cons, List.mem_append, List.not_mem_nil, or_false, Ent.o] at hp ⊢; grind)
  have N11i : News h₀ L h10 ((g.bk, instObj 182 bd) :: (bd, bookD w hl th) :: (hl, listOf (refs (es ++ [(Ent.mk D2 (uppS g.pl) ts (toldS ahO (2 * k + 1)) u10)])) (kh + 1)) :: (L + 2, oc2') :: (L + 1, oc1') :: (g.rl, listOf (refs (rs ++ [(Ent.mk D1 (uppS g.pl) ts (toldS ahO (2 * k + 1)) u8)])) (kr + 1)) :: ((it ++ ((es ++ [(Ent.mk D2 (uppS g.pl) ts (toldS ahO (2 * k + 1)) u10)]).map Ent.o ++ (rs ++ [(Ent.mk D1 (uppS g.pl) ts (toldS ahO (2 * k + 1)) u8)]).map Ent.o)) ++ tab')) := news_sub N10f (by intro p hp; simp only [coreL, List.map_append, List.map_cons, List.map_nil, List.mem_cons, List.mem_append, List.not_mem_nil, or_false, Ent.o] at hp ⊢; grind)
  have bs' : Books (es ++ [(Ent.mk D2 (uppS g.pl) ts (toldS ahO (2 * k + 1)) u10)]) (rs ++ [(Ent.mk D1 (uppS g.pl) ts (toldS ahO (2 * k + 1)) u8)]) (c + 1) := I.bs.push (upp_in G.pl) (told_ok ahO (2 * k + 1) ahO_ok) rfl rfl
  have hx10 : ∀ p ∈ coreL w L g.bk bd hl g.rl th oc1' oc2' (es ++ [(Ent.mk D2 (uppS g.pl) ts (toldS ahO (2 * k + 1)) u10)]) (rs ++ [(Ent.mk D1 (uppS g.pl) ts (toldS ahO (2 * k + 1)) u8)]) (kh + 1) (kr + 1) it, p.1 ≠ 294 := by
    have hx := I.hx
    have l1 := lt8.1
    have l2 : @LT.lt Nat _ (L + 1) D2 := topA_mem lt10.2.2.2 (L + 1, oc1') (.head _)
    have l3 := I.h294
    have x1 := hx (g.bk, instObj 182 bd) (.head _)
    have x2 := hx (bd, bookD w hl th) (.tail _ (.head _))
    have x3 := hx (hl, listOf (refs es) kh) (.tail _ (.tail _ (.head _)))
    have x4 := hx (g.rl, listOf (refs rs) kr) (.tail _ (.tail _ (.tail _ (.tail _ (.tail _ (.head _))))))
    have d1 : @Ne Nat D1 294 := fun q => by have l1 : @LT.lt Nat _ (L + 1) D1 := l1; omega
    have d2 : @Ne Nat D2 294 := fun q => by omega
    have d3 : @Ne Nat (L + 1) 294 := fun q => by omega
    have d4 : @Ne Nat (L + 2) 294 := fun q => by omega
    refine List.forall_mem_cons.mpr ⟨x1, List.forall_mem_cons.mpr ⟨x2, List.forall_mem_cons.mpr ⟨x3, List.forall_mem_cons.mpr ⟨d3, List.forall_mem_cons.mpr ⟨d4, List.forall_mem_cons.mpr ⟨x4, ?_⟩⟩⟩⟩⟩⟩
    intro p hp
    have old : ∀ q ∈ it ++ (es.map Ent.o ++ rs.map Ent.o), q.1 ≠ 294 := fun q hq => hx q (.tail _ (.tail _ (.tail _ (.tail _ (.tail _ (.tail _ hq))))))
    rw [List.map_append, List.map_append] at hp
    rcases List.mem_append.mp hp with hp | hp
    · exact old p (List.mem_append_left _ hp)
    · rcases List.mem_append.mp hp with hp | hp
      · rcases List.mem_append.mp hp with hp | hp
        · exact old p (List.mem_append_right _ (List.mem_append_left _ hp))
        · rw [List.mem_singleton.mp hp]; exact d2
      · rcases List.mem_append.mp hp with hp | hp
        · exact old p (List.mem_append_right _ (List.mem_append_right _ hp))
        · rw [List.mem_singleton.mp hp]; exact d1
  have f10 := f9.up nm_laid (v := .none)
  have s10 := s9.up ns_laid (v := .none)
  refine wpAny_execs_cons (wpAny_with_toks hk10 (st11 ⟨rfl, rfl⟩ B F10 X T C N11i hoc2 f10.book
    (fun e he => .tail _ (.tail _ (.tail _ (List.mem_append_left _ (List.mem_append_right _ (List.mem_append_left _ (List.mem_map_of_mem he)))))))
    (fun e he => (name_ok _ (bs'.names e he).1).2.1) (hsz (by have := bs'.len; omega)) al ala (Nat.le_trans alz (by decide)) hk10 ?_))
  intro h11 k11 D3 ys3 c3 F11 N11 hs3 hk11
  show wpAny _ _ (execs _ _) _ _ _
  have f11 := f10.up nm_told (v := .ref D3)
  have s11 := s10.up ns_told (v := .ref D3)
  have hq : (Txt.lower (uppS g.pl) == Txt.lower (lowS g.pl)) = true := by rw [(told_names' G.pl (upp_in G.pl)).2]; simp
  have tl1 := filt_eq (fun n => Txt.lower n == Txt.lower (lowS g.pl)) (fun n => n == uppS g.pl || n == lowS g.pl) _ _ bs'.he (fun e he => (told_names' G.pl (bs'.ok e he).1).2)
  have tl2 : (((es ++ [(Ent.mk D2 (uppS g.pl) ts (toldS ahO (2 * k + 1)) u10)]).filter fun e : Ent => Txt.lower e.n == Txt.lower (lowS g.pl)).map (·.x)) = ((es.filter fun e : Ent => Txt.lower e.n == Txt.lower (lowS g.pl)).map (·.x)) ++ [toldS ahO (2 * k + 1)] := by
    rw [List.filter_append, List.map_append, List.filter_cons_of_pos (by exact hq)]
    rfl
  have hs3' : StrsAre ys3 (((rs ++ [(Ent.mk D1 (uppS g.pl) ts (toldS ahO (2 * k + 1)) u8)]).filter fun e : Ent => e.n == uppS g.pl || e.n == lowS g.pl).map (·.x)) := tl1 ▸ hs3
  rw [tl2] at hs3
  refine wpAny_execs_cons (wpAny_with_toks hk11 (st12 ⟨rfl, rfl⟩ B F11 X T C N11 hoc1 hoc2 ((up_ne (by decide +kernel)).trans up_eq) up_eq f11.rows
    (fun e he => .tail _ (.tail _ (.tail _ (.tail _ (.tail _ (.tail _ (.tail _ (List.mem_append_left _ (List.mem_append_right _ (List.mem_append_right _ (List.mem_map_of_mem he)))))))))))
    (hsz (by rw [List.length_append, List.length_singleton]; omega)) (.tail _ (.tail _ (.tail _ (.tail _ (.tail _ (.head _)))))) (.tail _ (.tail _ (.tail _ (.tail _ (.head _))))) (.tail _ (.tail _ (.tail _ (.tail _ (.tail _ (.tail _ (.head _))))))) (.head _)
    hs3' (fun x hx => by obtain ⟨e, he, rfl⟩ := List.mem_map.mp hx; exact (bs'.ok e (List.mem_filter.mp he).1).2) ?_))
  intro h12 k12 F12 N12 hk12
  show wpAny _ _ (execs _ _) _ _ _
  have ahl : Str.length ahO ≤ 100 := by decide +kernel
  obtain ⟨ta11, ea11⟩ : hasS _ "ahead" ahO := ((((hasS.up (x := "ahead") (y := "own") ⟨u7, up_eq⟩ (by decide +kernel)).up (y := "more") (by decide +kernel)).up (y := "laid") (by decide +kernel)).up (y := "told") (v := .ref D3) (by decide +kernel))
  obtain ⟨tb11, eb11⟩ := f11.behind
  refine wpAny_execs_cons (wpAny_with_toks hk12 (st13 ⟨rfl, rfl⟩ B F12 X T C N12 up_eq ea11 eb11 hs3 ahl (by decide +kernel) (by rw [List.length_map]; exact Nat.le_trans (List.length_filter_le _ _) (by omega)) (by rw [told_len]; exact hsz (by omega)) ?_))
  intro h13 k13 u13 F13 N13 hk13
  show wpAny _ _ (execs _ _) _ _ _
  rw [told_text] at F13
  have f13 := f11.up nm_text (v := .str (mkS (rep (2 * (2 * k + 1) + 1) ++ [34])) u13)
  have s13 := s11.up ns_text (v := .str (mkS (rep (2 * (2 * k + 1) + 1) ++ [34])) u13)
  have N14i : News h₀ L h13 (coreL w L g.bk bd hl g.rl th oc1' oc2' (es ++ [(Ent.mk D2 (uppS g.pl) ts (toldS ahO (2 * k + 1)) u10)]) (rs ++ [(Ent.mk D1 (uppS g.pl) ts (toldS ahO (2 * k + 1)) u8)]) (kh + 1) (kr + 1) it ++ tab') := news_sub N13 (by intro p hp; simp only [coreL, List.map_append, List.map_cons, List.map_nil, List.mem_cons, List.mem_append, List.not_mem_nil, or_false, Ent.o] at hp ⊢; grind)
  exact turn_tail B X T C hb G ⟨F13, N14i, f13, ht1, hx10, I.hrl, I.h294, bs', ⟨_, hoc1⟩, ⟨_, hoc2⟩, I.hit⟩ s13 ⟨u13, up_eq⟩ hk hk13 hi4 hp1 hp2 hd1 hd2 (fun h' tk m' tab' a b c => h _ _ _ _ _ _ _ _ _ _ a b c)
end
end
end
section
section
-- TU
open PySem PySem.W PyProof.Rows PyProof.V PySem.Spec PySem.Calls PySem.SeqAt
section
variable {w : World} {h₀ base : Heap} {L fa bd hl : Addr} {cd : Value} {m mg mb : Str → Option Value} {s : Shared} {mean : ExcName → Option Value} {p : Program} {loose : List Str}
  {g : Gh} {th : Tok} {it : List (Addr × Obj)} {oc1 oc2 : Obj} {es rs : List Ent} {kh kr : Nat} {tab : List (Addr × Obj)} {c : Nat} {i : Nat} {P : Nat × Int × Int}
theorem Books.mono {es rs : List Ent} {c c' : Nat} (b : Books es rs c) (h : c ≤ c') : Books es rs c' := ⟨b.he, Nat.le_trans b.len h, b.ok⟩
/-- one turn of the step loop -/
theorem turn {Q : Flow → Shared → Prop} {E : Value → Shared → Prop}
  (B : Below callerA base [] h₀) (X : (K1r w.params).In h₀) (T : Top p loose mean mg mb h₀) (C : CodeHd base 298 294) (hb : ∃ es, base.get? 247 = some (dO es 650) ∧ Ents b3kv es) (G : GOk g)
  (I : Inv w h₀ L s.heap m g bd hl th it oc1 oc2 es rs kh kr tab c) (S : Fs m (i : Int) P.1 P.2.1 P.2.2) (hi : i < 4) (hP : 1 ≤ P.1 ∧ P.1 ≤ 26 ∧ 0 ≤ P.2.1 ∧ P.2.1 ≤ 100 ∧ 0 ≤ P.2.2 ∧ P.2.2 ≤ 1000) (hc : c ≤ 50) (ht : 1 ≤ s.toks)
  (h : ∀ f h' tk m' oc1' oc2' es' rs' kh' kr' tab', (f = .next ∨ f = .cont) → 1 ≤ tk → Inv w h₀ L h' m' g bd hl th it oc1' oc2' es' rs' kh' kr' tab' (c + 1) → Fs m' (i : Int) (nxt i P).1 (nxt i P).2.1 (nxt i P).2.2 → Q f { heap := h', gens := s.gens, drawn := s.drawn, toks := tk, os := s.os }) :
  wpAny (model pw w) (callerA.deeper (lawE L fa cd)) (execs stepB (lawE L fa cd)) Q E s := by
  obtain ⟨n, pw0, du⟩ := P
  obtain ⟨h1, h2, h3, h4, h5, h6⟩ := hP
  by_cases hn : n % 2 = 0
  · obtain ⟨k, rfl⟩ : ∃ k, n = 2 * k := ⟨n / 2, by omega⟩
    have e : nxt i (2 * k, pw0, du) = (k, pw0, du) := by
      unfold nxt
      rw [if_pos hn]
      show ((2 * k) / 2, pw0, du) = _
      rw [show (2 * k) / 2 = k by omega]
    rw [e] at h
    exact turn_even B X T C G I S (by simp only at h2; omega) ht (fun h' tk m' tab' a b d => h _ _ _ _ _ _ _ _ _ _ _ (.inr rfl) a ⟨b.F, b.N, b.f, b.ht, b.hx, b.hrl, b.h294, b.bs.mono (Nat.le_succ c), b.c1, b.c2, b.hit⟩ d)
  · obtain ⟨k, rfl⟩ : ∃ k, n = 2 * k + 1 := ⟨n / 2, by omega⟩
    have ep : (2 : Int) ^ i = p2 (i : Int) := by
      rcases (by omega : i = 0 ∨ i = 1 ∨ i = 2 ∨ i = 3) with rfl | rfl | rfl | rfl <;> decide +kernel
    have e : nxt i (2 * k + 1, pw0, du) = (3 * k + 2, 3 * pw0, 3 * du + p2 (i : Int)) := by
      unfold nxt
      rw [if_neg hn, ← ep]
      show ((3 * (2 * k + 1) + 1) / 2, _, _) = _
      rw [show (3 * (2 * k + 1) + 1) / 2 = 3 * k + 2 by omega]
    rw [e] at h
    have hi4 : (i : Int) = 0 ∨ (i : Int) = 1 ∨ (i : Int) = 2 ∨ (i : Int) = 3 := by omega
    simp only at h2 h3 h4 h5 h6
    rcases (by rcases hi4 with q | q | q | q <;> rw [q] <;> decide : (i : Int).fmod 2 = 0 ∨ (i : Int).fmod 2 = 1) with q | q
    · exact turn_odde B X T C hb G I S (by omega) hc ht q hi4 h3 (by show pw0 ≤ 1000; omega) h5 h6 (fun h' tk m' oc1' oc2' es' rs' kh' kr' tab' a b d => h _ _ _ _ _ _ _ _ _ _ _ (.inl rfl) a b d)
    · exact turn_oddo B X T C hb G I S (by omega) hc ht q hi4 h3 (by show pw0 ≤ 1000; omega) h5 h6 (fun h' tk m' oc1' oc2' es' rs' kh' kr' tab' a b d => h _ _ _ _ _ _ _ _ _ _ _ (.inl rfl) a b d)
end
end
end
section
section
-- TV
open PySem PySem.W PyProof.Rows PyProof.V PySem.Spec PySem.Calls PySem.SeqAt
abbrev rngO (x left : Int) : Obj := { cls := .type "range_iterator", dict := none, data := .fields #[rawInt x, rawInt left, rawInt 1], slots := #[] }
section
variable {w : World} {h₀ base : Heap} {L fa bd hl : Addr} {cd : Value} {m mg mb : Str → Option Value} {s : Shared} {mean : ExcName → Option Value} {p : Program} {loose : List Str}
  {g : Gh} {th : Tok} {it : List (Addr × Obj)} {oc1 oc2 : Obj} {es rs : List Ent} {kh kr : Nat} {tab : List (Addr × Obj)} {c : Nat}
theorem news_eq {h₀ h : Heap} {L : Addr} {l : List (Addr × Obj)} (N : News h₀ L h l) {a : Addr} {o o' : Obj} (h1 : (a, o) ∈ l) (h2 : (a, o') ∈ l) : o = o' := by
  have e1 := (N _ h1).1
  have e2 := (N _ h2).1
  simp only at e1 e2
  rw [e1] at e2
  exact Option.some.inj e2
theorem core_it' {L bk bd hl rl : Addr} {q : Addr × Obj} : ∀ p, p ∈ coreL w L bk bd hl rl th oc1 oc2 es rs kh kr (q :: it) ↔ p = q ∨ p ∈ coreL w L bk bd hl rl th oc1 oc2 es rs kh kr it := fun p =>
  (show p ∈ [(bk, instObj 182 bd), (bd, bookD w hl th), (hl, listOf (refs es) kh), (L + 1, oc1), (L + 2, oc2), (rl, listOf (refs rs) kr)] ++ q :: (it ++ (es.map Ent.o ++ rs.map Ent.o)) ↔ p = q ∨ p ∈ [(bk, instObj 182 bd), (bd, bookD w hl th), (hl, listOf (refs es) kh), (L + 1, oc1), (L + 2, oc2), (rl, listOf (refs rs) kr)] ++ (it ++ (es.map Ent.o ++ rs.map Ent.o)) from List.perm_middle.mem_iff.trans List.mem_cons)
theorem core_it {L bk bd hl rl : Addr} {q : Addr × Obj} : ∀ p, p ∈ coreL w L bk bd hl rl th oc1 oc2 es rs kh kr (q :: it) ++ tab ↔ p = q ∨ p ∈ coreL w L bk bd hl rl th oc1 oc2 es rs kh kr it ++ tab := fun p =>
  List.mem_append.trans ((or_congr_left (core_it' p)).trans (or_assoc.trans (or_congr_right List.mem_append.symm)))
/-- the iterator of a range is no other object of the ledger -/
theorem it_apart {h : Heap} {I : Addr} {x left : Int} (V : Inv w h₀ L h m g bd hl th ((I, rngO x left) :: it) oc1 oc2 es rs kh kr tab c) (hI : ∀ p ∈ it, p.1 ≠ I) :
    ∀ p ∈ coreL w L g.bk bd hl g.rl th oc1 oc2 es rs kh kr it ++ tab, p.1 ≠ I := by
  have mI : (I, rngO x left) ∈ coreL w L g.bk bd hl g.rl th oc1 oc2 es rs kh kr ((I, rngO x left) :: it) ++ tab := (core_it _).mpr (.inl rfl)
  have key : ∀ p ∈ coreL w L g.bk bd hl g.rl th oc1 oc2 es rs kh kr it ++ tab, (∀ vs, p.2.data ≠ .fields vs) → p.1 ≠ I := by
    rintro ⟨a, o⟩ hp hk rfl
    have e : o = rngO x left := news_eq V.N ((core_it _).mpr (.inr hp)) mI
    exact hk _ (by rw [e])
  obtain ⟨v1, hv1⟩ := V.c1
  obtain ⟨v2, hv2⟩ := V.c2
  have i294 : @Ne Nat I 294 := V.hx (I, rngO x left) ((core_it' _).mpr (.inl rfl))
  intro p hp
  have hp' := hp
  rcases List.mem_append.mp hp with hp | hp
  · rcases List.mem_cons.mp hp with rfl | hp
    · exact key _ hp' (fun vs q => by cases q)
    rcases List.mem_cons.mp hp with rfl | hp
    · exact key _ hp' (fun vs q => by cases q)
    rcases List.mem_cons.mp hp with rfl | hp
    · exact key _ hp' (fun vs q => by cases q)
    rcases List.mem_cons.mp hp with rfl | hp
    · exact key _ hp' (fun vs q => by simp only [hv1] at q; cases q)
    rcases List.mem_cons.mp hp with rfl | hp
    · exact key _ hp' (fun vs q => by simp only [hv2] at q; cases q)
    rcases List.mem_cons.mp hp with rfl | hp
    · exact key _ hp' (fun vs q => by cases q)
    rcases List.mem_append.mp hp with hp | hp
    · exact hI p hp
    rcases List.mem_append.mp hp with hp | hp
    · obtain ⟨e, _, rfl⟩ := List.mem_map.mp hp
      exact key _ hp' (fun vs q => by cases q)
    · obtain ⟨e, _, rfl⟩ := List.mem_map.mp hp
      exact key _ hp' (fun vs q => by cases q)
  · rcases V.ht with e | ⟨a, oc, vs, tq, e, hoc, hvs, hc⟩
    · rw [e] at hp; rw [List.mem_singleton.mp hp]; exact i294.symm
    · rw [e] at hp
      rcases List.mem_cons.mp hp with rfl | hp
      · exact i294.symm
      · have hp := List.mem_singleton.mp hp
        rw [hp] at hp' ⊢
        intro q
        have q : a = I := q
        rw [q] at hp'
        have e : oc = rngO x left := news_eq V.N ((core_it _).mpr (.inr hp')) mI
        rw [e] at hoc
        have hoc : vs = #[rawInt x, rawInt left, rawInt 1] := by cases hoc; rfl
        rw [hoc] at hvs
        cases hvs
theorem Inv.turned {h h' : Heap} {I : Addr} {x left : Int} {o' : Obj} (V : Inv w h₀ L h m g bd hl th ((I, rngO x left) :: it) oc1 oc2 es rs kh kr tab c) (hI : ∀ p ∈ it, p.1 ≠ I) (hx : Heap.ExtBut I h h') (ho : h'.get? I = some o') (hf : ∃ vs, o'.data = .fields vs) :
    Inv w h₀ L h' m g bd hl th ((I, o') :: it) oc1 oc2 es rs kh kr tab c := by
  have mI : (I, rngO x left) ∈ coreL w L g.bk bd hl g.rl th oc1 oc2 es rs kh kr ((I, rngO x left) :: it) ++ tab := (core_it _).mpr (.inl rfl)
  have ap := it_apart V hI
  refine ⟨fr_put V.F V.N mI hx, news_put V.N mI hx ho ?_, V.f, V.ht, ?_, V.hrl, V.h294, V.bs, V.c1, V.c2, ?_⟩
  · intro p hp
    rcases (core_it p).mp hp with hp | hp
    · exact .inl hp
    · exact .inr ⟨(core_it p).mpr (.inr hp), ap p hp⟩
  · intro p hp
    rcases (core_it' p).mp hp with rfl | hp
    · exact V.hx (I, rngO x left) ((core_it' _).mpr (.inl rfl))
    · exact V.hx p ((core_it' p).mpr (.inr hp))
  · intro p hp
    rcases List.mem_cons.mp hp with rfl | hp
    · exact hf
    · exact V.hit p (.tail _ hp)
end
end
end
section
section
-- TX
open PySem PySem.W PyProof.Rows PyProof.V PySem.Spec PySem.Calls PySem.SeqAt
section
variable {w : World} {h₀ base : Heap} {L fa bd hl : Addr} {cd : Value} {m mg mb : Str → Option Value} {s : Shared} {mean : ExcName → Option Value} {p : Program} {loose : List Str}
  {g : Gh} {th : Tok} {it : List (Addr × Obj)} {oc1 oc2 : Obj} {es rs : List Ent} {kh kr : Nat} {tab : List (Addr × Obj)} {c : Nat}
/-- run, power, due -/
structure Fr3 (m : Str → Option Value) (P : Nat × Int × Int) : Prop where
  run : hasS m "run" (mkS (rep P.1))
  power : hasI m "power" P.2.1
  due : hasI m "due" P.2.2
theorem nm_step : ∀ x ∈ NM, Str.ofString x ≠ Str.ofString "step" := by decide +kernel
theorem Inv.set {h h' : Heap} {y : String} {v : Value} (V : Inv w h₀ L h m g bd hl th it oc1 oc2 es rs kh kr tab c) (hn : h'.Ns L (fun x => if x = Str.ofString y then some v else m x)) (hs : Heap.SameBut L h h') (hy : ∀ x ∈ NM, Str.ofString x ≠ Str.ofString y) :
    Inv w h₀ L h' (up1 m y v) g bd hl th it oc1 oc2 es rs kh kr tab c :=
  ⟨V.F.set hn hs, fun p hp => ⟨(hs.2 _ (V.N p hp).2.1).trans (V.N p hp).1, (V.N p hp).2⟩, V.f.up hy, V.ht, V.hx, V.hrl, V.h294, V.bs, V.c1, V.c2, V.hit⟩
theorem Inv.pushed {h h' : Heap} {q : Addr × Obj} (V : Inv w h₀ L h m g bd hl th it oc1 oc2 es rs kh kr tab c) (F : Fr h₀ L h' m) (N : News h₀ L h' (coreL w L g.bk bd hl g.rl th oc1 oc2 es rs kh kr (q :: it) ++ tab)) (h294 : q.1 ≠ 294) (hf : ∃ vs, q.2.data = .fields vs) :
    Inv w h₀ L h' m g bd hl th (q :: it) oc1 oc2 es rs kh kr tab c :=
  ⟨F, N, V.f, V.ht, fun p hp => by
    rcases (core_it' p).mp hp with rfl | hp
    · exact h294
    · exact V.hx p hp, V.hrl, V.h294, V.bs, V.c1, V.c2, fun p hp => by
    rcases List.mem_cons.mp hp with rfl | hp
    · exact hf
    · exact V.hit p hp⟩
theorem Inv.dropIt {h : Heap} {q : Addr × Obj} (V : Inv w h₀ L h m g bd hl th (q :: it) oc1 oc2 es rs kh kr tab c) : Inv w h₀ L h m g bd hl th it oc1 oc2 es rs kh kr tab c :=
  ⟨V.F, news_sub V.N fun p hp => (core_it p).mpr (.inr hp), V.f, V.ht, fun p hp => V.hx p ((core_it' p).mpr (.inr hp)), V.hrl, V.h294, V.bs, V.c1, V.c2, fun p hp => V.hit p (.tail _ hp)⟩
/-- the step loop, from its iterator on -/
theorem step_loop {R : Result → Shared → Prop} {px : Pos} {n0 : Nat} {Ia : Addr}
  (B : Below callerA base [] h₀) (X : (K1r w.params).In h₀) (T : Top p loose mean mg mb h₀) (C : CodeHd base 298 294) (hb : ∃ es, base.get? 247 = some (dO es 650) ∧ Ents b3kv es) (G : GOk g)
  (I : Inv w h₀ L s.heap m g bd hl th ((Ia, rngO 0 4) :: it) oc1 oc2 es rs kh kr tab c) (hI : ∀ p ∈ it, p.1 ≠ Ia) (S : Fr3 m (stp n0 0)) (hn : 1 ≤ n0 ∧ n0 ≤ 14) (hc : c ≤ 40) (ht : 1 ≤ s.toks)
  (hR : ∀ h' tk m' oc1' oc2' es' rs' kh' kr' tab', 1 ≤ tk → Inv w h₀ L h' m' g bd hl th it oc1' oc2' es' rs' kh' kr' tab' (c + 4) → Fr3 m' (stp n0 4) → R (.ok .next) { heap := h', gens := s.gens, drawn := s.drawn, toks := tk, os := s.os }) :
  codeAny (model pw w) (callerA.deeper (lawE L fa cd)) (.forLoop (.Name (Str.ofString "step") px) (.ref Ia) stepB [] (lawE L fa cd)) R s := by
  refine codeAny_forLoop (fun k s' => ∃ j h' tk m' oc1' oc2' es' rs' kh' kr' tab', s' = { heap := h', gens := s.gens, drawn := s.drawn, toks := tk, os := s.os } ∧ k = 5 - j ∧ j ≤ 4 ∧ 1 ≤ tk ∧
      Inv w h₀ L h' m' g bd hl th ((Ia, rngO (j : Nat) (4 - (j : Nat))) :: it) oc1' oc2' es' rs' kh' kr' tab' (c + j) ∧ Fr3 m' (stp n0 j)) ?_ 5 ⟨0, s.heap, s.toks, m, oc1, oc2, es, rs, kh, kr, tab, rfl, rfl, by omega, ht, I, S⟩
  rintro k s' ⟨j, h', tk, m', oc1', oc2', es', rs', kh', kr', tab', rfl, rfl, hj, htk, V, S'⟩
  have hit : IsRangeIter h' Ia (j : Nat) (4 - (j : Nat)) 1 := (V.N _ ((core_it _).mpr (.inl rfl))).1
  have hIL : Ia ≠ L := (V.N _ ((core_it _).mpr (.inl rfl))).2.1
  by_cases hlt : j < 4
  · refine wpAny_pyNext_range_item hit (by omega) fun h₁ hit₁ hs₁ => ?_
    have V1 := V.turned hI (Heap.SameBut.extBut hs₁) hit₁ ⟨_, rfl⟩
    refine wpAny_assign_Name (wpAny_storeName_local (by rfl) V1.F.ns (fun h₂ hn₂ hs₂ => ?_) (by rfl))
    have V2 := V1.set (y := "step") hn₂ hs₂ nm_step
    have hP := stp_ok ⟨n0 - 1, by omega⟩ ⟨j, by omega⟩
    have e0 : n0 - 1 + 1 = n0 := by omega
    simp only [e0] at hP
    refine turn B X T C hb G V2 (P := stp n0 j) ⟨⟨_, up_eq⟩, S'.run.up (by decide +kernel), S'.power.up (by decide +kernel), S'.due.up (by decide +kernel)⟩ hlt hP (by omega) (Nat.le_add_left 1 _) ?_
    intro f h3 k3 m3 oc13 oc23 es3 rs3 kh3 kr3 tab3 hf hk3 V3 S3
    have fin : ∃ m, m < 5 - j ∧ ∃ j h' tk m' oc1' oc2' es' rs' kh' kr' tab', ({ heap := h3, gens := s.gens, drawn := s.drawn, toks := k3, os := s.os } : Shared) = { heap := h', gens := s.gens, drawn := s.drawn, toks := tk, os := s.os } ∧ m = 5 - j ∧ j ≤ 4 ∧ 1 ≤ tk ∧
      Inv w h₀ L h' m' g bd hl th ((Ia, rngO (j : Nat) (4 - (j : Nat))) :: it) oc1' oc2' es' rs' kh' kr' tab' (c + j) ∧ Fr3 m' (stp n0 j) := by
      refine ⟨5 - (j + 1), by omega, j + 1, h3, k3, m3, oc13, oc23, es3, rs3, kh3, kr3, tab3, rfl, rfl, by omega, hk3, ?_, ⟨S3.run, S3.power, S3.due⟩⟩
      have e1 : ((j + 1 : Nat) : Int) = (j : Int) + 1 := by push_cast; rfl
      have e2 : (4 : Int) - ((j + 1 : Nat) : Int) = 4 - (j : Int) - 1 := by push_cast; omega
      rw [e2, e1]
      exact V3
    rcases hf with rfl | rfl
    · exact fin
    · exact fin
  · have e : j = 4 := by omega
    subst e
    refine wpAny_pyNext_range_end rfl hit (by omega) fun h₁ he₁ => wpAny_execs_nil ?_
    have V0 := V.dropIt
    have ap := it_apart V hI
    refine hR h₁ tk m' oc1' oc2' es' rs' kh' kr' tab' htk ⟨fr_put V.F V.N ((core_it _).mpr (.inl rfl)) he₁, fun p hp => ⟨he₁ _ _ (ap p hp) (V0.N p hp).1, (V0.N p hp).2⟩, V.f, V.ht, V0.hx, V.hrl, V.h294, V.bs, V.c1, V.c2, V0.hit⟩ S'
end
end
end
section
section
-- TY
open PySem PySem.W PyProof.Rows PyProof.V PySem.Spec PySem.Calls PySem.SeqAt
/-- the ledger without what a place has drawn -/
structure Led (w : World) (h₀ : Heap) (L : Addr) (h : Heap) (m : Str → Option Value) (bk rl bd hl : Addr) (th : Tok) (it : List (Addr × Obj)) (oc1 oc2 : Obj) (es rs : List Ent) (kh kr : Nat) (tab : List (Addr × Obj)) (c : Nat) : Prop where
  F : Fr h₀ L h m
  N : News h₀ L h (coreL w L bk bd hl rl th oc1 oc2 es rs kh kr it ++ tab)
  ht : TabSt tab
  hx : ∀ p ∈ coreL w L bk bd hl rl th oc1 oc2 es rs kh kr it, p.1 ≠ 294
  hrl : @Ne Nat rl hl
  h294 : @LT.lt Nat _ 294 L
  bs : Books es rs c
  c1 : ∃ v, oc1.data = .cell v
  c2 : ∃ v, oc2.data = .cell v
  hit : ∀ p ∈ it, ∃ vs, p.2.data = .fields vs
structure Fb (m : Str → Option Value) (bk rl sr : Addr) (pl : Int) : Prop where
  book : hasR m "book" bk
  rows : hasR m "rows" rl
  script : hasR m "script" sr
  behind : hasS m "behind" behS
  place : hasI m "place" pl
noncomputable def NB : List String := ["book", "rows", "script", "behind", "place"]
theorem Fb.up {m : Str → Option Value} {bk rl sr : Addr} {pl : Int} {y : String} {v : Value} (f : Fb m bk rl sr pl) (h : ∀ x ∈ NB, Str.ofString x ≠ Str.ofString y) : Fb (up1 m y v) bk rl sr pl where
  book := f.book.up (h _ (.head _))
  rows := f.rows.up (h _ (.tail _ (.head _)))
  script := f.script.up (h _ (.tail _ (.tail _ (.head _))))
  behind := f.behind.up (h _ (.tail _ (.tail _ (.tail _ (.head _)))))
  place := f.place.up (h _ (.tail _ (.tail _ (.tail _ (.tail _ (.head _))))))
theorem nb_x : ∀ x ∈ NB, Str.ofString x ≠ Str.ofString "x" := by decide +kernel
theorem nb_number : ∀ x ∈ NB, Str.ofString x ≠ Str.ofString "number" := by decide +kernel
theorem nb_letter : ∀ x ∈ NB, Str.ofString x ≠ Str.ofString "letter" := by decide +kernel
theorem nb_head : ∀ x ∈ NB, Str.ofString x ≠ Str.ofString "head" := by decide +kernel
theorem nb_white : ∀ x ∈ NB, Str.ofString x ≠ Str.ofString "white" := by decide +kernel
theorem nb_seam : ∀ x ∈ NB, Str.ofString x ≠ Str.ofString "seam" := by decide +kernel
theorem nb_mark : ∀ x ∈ NB, Str.ofString x ≠ Str.ofString "mark" := by decide +kernel
theorem nb_tail : ∀ x ∈ NB, Str.ofString x ≠ Str.ofString "tail" := by decide +kernel
theorem nb_run : ∀ x ∈ NB, Str.ofString x ≠ Str.ofString "run" := by decide +kernel
theorem nb_power : ∀ x ∈ NB, Str.ofString x ≠ Str.ofString "power" := by decide +kernel
theorem nb_due : ∀ x ∈ NB, Str.ofString x ≠ Str.ofString "due" := by decide +kernel
theorem inB1_nat {n : Int} (h : inB1 n = true) : inB1 ((n.toNat : Nat) : Int) = true := by
  have h0 : ∀ x ∈ b1s, 0 ≤ x := by decide +kernel
  have hm : n ∈ b1s := List.contains_iff_mem.mp h
  have := h0 n hm
  have e : ((n.toNat : Nat) : Int) = n := by omega
  rw [e]; exact h
section
variable {w : World} {h₀ base : Heap} {L fa bk rl sr bd hl : Addr} {cd : Value} {m mg mb : Str → Option Value} {s : Shared} {mean : ExcName → Option Value} {p : Program} {loose : List Str}
  {g : Gh} {th : Tok} {it : List (Addr × Obj)} {oc1 oc2 : Obj} {es rs : List Ent} {kh kr : Nat} {tab : List (Addr × Obj)} {c : Nat}
theorem Led.inv {h : Heap} (V : Led w h₀ L h m g.bk g.rl bd hl th it oc1 oc2 es rs kh kr tab c) (f : Fm m g) : Inv w h₀ L h m g bd hl th it oc1 oc2 es rs kh kr tab c :=
  ⟨V.F, V.N, f, V.ht, V.hx, V.hrl, V.h294, V.bs, V.c1, V.c2, V.hit⟩
theorem Inv.led {h : Heap} (V : Inv w h₀ L h m g bd hl th it oc1 oc2 es rs kh kr tab c) : Led w h₀ L h m g.bk g.rl bd hl th it oc1 oc2 es rs kh kr tab c :=
  ⟨V.F, V.N, V.ht, V.hx, V.hrl, V.h294, V.bs, V.c1, V.c2, V.hit⟩
theorem Led.move {h h' : Heap} {m' : Str → Option Value} (V : Led w h₀ L h m bk rl bd hl th it oc1 oc2 es rs kh kr tab c) (F : Fr h₀ L h' m') (N : News h₀ L h' (coreL w L bk bd hl rl th oc1 oc2 es rs kh kr it ++ tab)) :
    Led w h₀ L h' m' bk rl bd hl th it oc1 oc2 es rs kh kr tab c := ⟨F, N, V.ht, V.hx, V.hrl, V.h294, V.bs, V.c1, V.c2, V.hit⟩
noncomputable def stepPx : Pos := match psAt 10 with
  | .For (.Name _ p) _ _ _ _ => p
  | _ => default
noncomputable def stepPf : Pos := match psAt 10 with
  | .For _ _ _ _ p => p
  | _ => default
theorem stepFor_e : psAt 10 = .For (.Name (Str.ofString "step") stepPx) stepI stepB [] stepPf := by kernel_rfl
/-- the step loop, whole -/
theorem ps10 {Q : Flow → Shared → Prop} {E : Value → Shared → Prop} {n0 : Nat}
  (B : Below callerA base [] h₀) (X : (K1r w.params).In h₀) (T : Top p loose mean mg mb h₀) (C : CodeHd base 298 294) (hb : ∃ es, base.get? 247 = some (dO es 650) ∧ Ents b3kv es) (G : GOk g)
  (I : Inv w h₀ L s.heap m g bd hl th it oc1 oc2 es rs kh kr tab c) (S : Fr3 m (stp n0 0)) (hn : 1 ≤ n0 ∧ n0 ≤ 14) (hc : c ≤ 40) (ht : 1 ≤ s.toks)
  (h : ∀ h' tk m' oc1' oc2' es' rs' kh' kr' tab', 1 ≤ tk → Inv w h₀ L h' m' g bd hl th it oc1' oc2' es' rs' kh' kr' tab' (c + 4) → Fr3 m' (stp n0 4) → Q .next { heap := h', gens := s.gens, drawn := s.drawn, toks := tk, os := s.os }) :
  wpAny (model pw w) (callerA.deeper (lawE L fa cd)) (exec (psAt 10) (lawE L fa cd)) Q E s := by
  rw [stepFor_e]
  refine wpAny_For (wpAny_with_toks ht (range4 ⟨rfl, rfl⟩ B I.F X T C I.N ?_))
  intro D h1 k1 t u v F1 N1 hr hk1
  refine wpAny_with_toks (n := 1) hk1 (wpAny_pyIter_range hr (by decide +kernel) ?_)
  intro hk2
  have V1 : Inv w h₀ L h1 m g bd hl th it oc1 oc2 es rs kh kr tab c := (I.led.move F1 N1).inv I.f
  obtain ⟨oL, _, _, hoL, _⟩ := id F1.ns
  have hLs : L < h1.objs.size := Heap.lt_size hoL
  have hlt : ∀ b o, h1.get? b = some o → b ≠ h1.objs.size := fun b o e => Nat.ne_of_lt (Heap.lt_size e)
  have V2 : Inv w h₀ L (h1.push (rngO 0 4)) m g bd hl th ((h1.objs.size, rngO 0 4) :: it) oc1 oc2 es rs kh kr tab c :=
    V1.pushed (F1.push _) (news_sub (News.push F1 N1 _ rfl) (fun p hp => by rcases (core_it p).mp hp with rfl | hp; exact .head _; exact .tail _ hp)) (fun q => by have l3 := I.h294; have q : h1.objs.size = 294 := q; have hLs : @LT.lt Nat _ L h1.objs.size := hLs; omega) ⟨_, rfl⟩
  refine step_loop B X T C hb G (s := { heap := h1.push (rngO 0 4), gens := s.gens, drawn := s.drawn, toks := k1, os := s.os }) V2 (fun p hp => hlt _ _ (V1.N p (by simp only [coreL, List.mem_append, List.mem_cons]; grind)).1) S hn hc hk1 ?_
  intro h' tk m' oc1' oc2' es' rs' kh' kr' tab' a b d
  exact h h' tk m' oc1' oc2' es' rs' kh' kr' tab' a b d
end
end
end
section
section
-- TZ
open PySem PySem.W PyProof.Rows PyProof.V PySem.Spec PySem.Calls PySem.SeqAt
theorem placeB_e : placeB = [psAt 0, psAt 1, psAt 2, psAt 3, psAt 4, psAt 5, psAt 6, psAt 7, psAt 8, psAt 9, psAt 10, psAt 11] := by kernel_rfl
theorem fin_mod (v : Int) (n : Nat) (hn : 0 < n) : ∃ a : Nat, a < n ∧ v.fmod (n : Int) = (a : Int) := by
  have h0 : 0 ≤ v.fmod (n : Int) := Int.fmod_nonneg_of_pos v (by omega)
  have h1 : v.fmod (n : Int) < n := Int.fmod_lt_of_pos v (by omega)
  exact ⟨(v.fmod (n : Int)).toNat, by omega, by omega⟩
section
variable {w : World} {h₀ base : Heap} {L fa bk rl sr bd hl : Addr} {cd : Value} {m mg mb : Str → Option Value} {s : Shared} {mean : ExcName → Option Value} {p : Program} {loose : List Str}
  {g : Gh} {th : Tok} {it : List (Addr × Obj)} {oc1 oc2 : Obj} {es rs : List Ent} {kh kr : Nat} {tab : List (Addr × Obj)} {c : Nat}
/-- the end of a place's turn: the step loop and the last test -/
theorem place_end {Q : Flow → Shared → Prop} {E : Value → Shared → Prop} {n0 : Nat}
  (B : Below callerA base [] h₀) (X : (K1r w.params).In h₀) (T : Top p loose mean mg mb h₀) (C : CodeHd base 298 294) (hb : ∃ es, base.get? 247 = some (dO es 650) ∧ Ents b3kv es) (G : GOk g)
  (I : Inv w h₀ L s.heap m g bd hl th it oc1 oc2 es rs kh kr tab c) (S : Fr3 m (stp n0 0)) (hn : 1 ≤ n0 ∧ n0 ≤ 14) (hnum : g.num = (n0 : Int)) (hc : c ≤ 40) (ht : 1 ≤ s.toks)
  (h : ∀ h' tk m' oc1' oc2' es' rs' kh' kr' tab', 1 ≤ tk → Inv w h₀ L h' m' g bd hl th it oc1' oc2' es' rs' kh' kr' tab' (c + 4) → Q .next { heap := h', gens := s.gens, drawn := s.drawn, toks := tk, os := s.os }) :
  wpAny (model pw w) (callerA.deeper (lawE L fa cd)) (execs [psAt 10, psAt 11] (lawE L fa cd)) Q E s := by
  refine wpAny_execs_cons (ps10 B X T C hb G I S hn hc ht ?_)
  intro h' tk m' oc1' oc2' es' rs' kh' kr' tab' hk V S'
  show wpAny _ _ (execs _ _) _ _ _
  obtain ⟨tr, er⟩ := S'.run
  obtain ⟨tp, ep⟩ := S'.power
  obtain ⟨td, ed⟩ := S'.due
  obtain ⟨tn, en⟩ := V.f.number
  have hP := stp_ok ⟨n0 - 1, by omega⟩ ⟨4, by omega⟩
  have hE := stp_end ⟨n0 - 1, by omega⟩
  have e0 : n0 - 1 + 1 = n0 := by omega
  simp only [e0] at hP hE
  obtain ⟨a1, a2, a3, a4, a5, a6⟩ := hP
  have hlen : ((mkS (rep (stp n0 4).1)).length : Int) = ((stp n0 4).1 : Int) := by rw [len_mk, List.length_replicate]
  refine wpAny_execs_cons (wpAny_with_toks hk (ps11 ⟨rfl, rfl⟩ B V.F X T C V.N er ep en ed (by rw [len_mk, List.length_replicate]; omega) (mul_run a1) (by rw [hlen, hnum]; exact hE) a3 a4 (by rw [hnum]; omega) (by rw [hnum]; omega) a5 a6 ?_))
  intro h2 k2 F2 N2 hk2
  exact wpAny_execs_nil (h _ _ _ _ _ _ _ _ _ _ hk2 ((V.led.move F2 N2).inv V.f))
end
end
end
section
section
-- TZ2
open PySem PySem.W PyProof.Rows PyProof.V PySem.Spec PySem.Calls PySem.SeqAt
section
variable {w : World} {h₀ base : Heap} {L fa bk rl sr bd hl : Addr} {cd : Value} {m mg mb : Str → Option Value} {s : Shared} {mean : ExcName → Option Value} {p : Program} {loose : List Str}
  {th : Tok} {it : List (Addr × Obj)} {oc1 oc2 : Obj} {es rs : List Ent} {kh kr : Nat} {tab : List (Addr × Obj)} {c : Nat} {pl : Int}
set_option maxHeartbeats 1000000 in
/-- from the marks on -/
theorem place_mid {Q : Flow → Shared → Prop} {E : Value → Shared → Prop} {v : Int} {t : Tok} {n0 lc hc wc sm : Nat}
  (B : Below callerA base [] h₀) (X : (K1r w.params).In h₀) (T : Top p loose mean mg mb h₀) (C : CodeHd base 298 294) (hb : ∃ es, base.get? 247 = some (dO es 650) ∧ Ents b3kv es)
  (G : ∀ q, GOk ⟨bk, rl, sr, pl, (n0 : Int), lc, hc, wc, sm, q⟩)
  (V : Led w h₀ L s.heap m bk rl bd hl th it oc1 oc2 es rs kh kr tab c) (fb : Fb m bk rl sr pl) (mx : hasI m "x" v) (mn : hasI m "number" (n0 : Int)) (ml : hasS m "letter" ⟨#[lc]⟩) (mh : hasS m "head" ⟨#[hc]⟩) (mw : hasS m "white" ⟨#[wc]⟩) (ms : hasS m "seam" ⟨#[sm]⟩)
  (hn : 1 ≤ n0 ∧ n0 ≤ 14) (hcc : c ≤ 40) (ht : 1 ≤ s.toks)
  (h : ∀ h' tk m' oc1' oc2' es' rs' kh' kr' tab', 1 ≤ tk → Led w h₀ L h' m' bk rl bd hl th it oc1' oc2' es' rs' kh' kr' tab' (c + 4) → Fb m' bk rl sr pl → Q .next { heap := h', gens := s.gens, drawn := s.drawn, toks := tk, os := s.os }) :
  wpAny (model pw w) (callerA.deeper (lawE L fa cd)) (execs [psAt 6, psAt 7, psAt 8, psAt 9, psAt 10, psAt 11] (lawE L fa cd)) Q E s := by
  obtain ⟨tx, ex⟩ := mx
  obtain ⟨tn, en⟩ := mn
  have key : ∀ (q : Bool) h7 k7 (m7 : Str → Option Value), 1 ≤ k7 → Fr h₀ L h7 m7 → News h₀ L h7 (coreL w L bk bd hl rl th oc1 oc2 es rs kh kr it ++ tab) → Fb m7 bk rl sr pl → hasI m7 "number" (n0 : Int) → hasS m7 "letter" ⟨#[lc]⟩ → hasS m7 "head" ⟨#[hc]⟩ → hasS m7 "white" ⟨#[wc]⟩ → hasS m7 "seam" ⟨#[sm]⟩ →
      hasS m7 "mark" (if q then Str.ofString "\"" else Str.ofString "") → hasS m7 "tail" (if q then Str.ofString "" else Str.ofString "\"z") →
      wpAny (model pw w) (callerA.deeper (lawE L fa cd)) (execs [psAt 8, psAt 9, psAt 10, psAt 11] (lawE L fa cd)) Q E { heap := h7, gens := s.gens, drawn := s.drawn, toks := k7, os := s.os } := by
    intro q h7 k7 m7 hk7 F7 N7 fb7 mn7 ml7 mh7 mw7 ms7 mm7 mt7
    obtain ⟨tn7, en7⟩ := mn7
    refine wpAny_execs_cons (wpAny_with_toks hk7 (ps8 ⟨rfl, rfl⟩ B F7 X T C N7 en7 (by omega) (by omega) ?_))
    intro h8 k8 u8 F8 N8 hk8
    show wpAny _ _ (execs _ _) _ _ _
    obtain ⟨n1, rfl⟩ : ∃ n1, n0 = n1 + 1 := ⟨n0 - 1, by omega⟩
    rw [mul_mk] at F8
    refine wpAny_execs_cons (wpAny_with_toks hk8 (ps9 (v := 0) ⟨rfl, rfl⟩ B F8 X T C N8 ?_))
    intro h9 k9 u9 u9' F9 N9 hk9
    show wpAny _ _ (execs _ _) _ _ _
    have fb9 := ((fb7.up nb_run (v := .str (mkS (rep (n1 + 1))) u8)).up nb_power (v := .int 1 u9')).up nb_due (v := .int 0 u9)
    have up3 : ∀ {x : String} {y : Str}, hasS m7 x y → Str.ofString x ≠ Str.ofString "run" → Str.ofString x ≠ Str.ofString "power" → Str.ofString x ≠ Str.ofString "due" → hasS (up1 (up1 (up1 m7 "run" (.str (mkS (rep (n1 + 1))) u8)) "power" (.int 1 u9')) "due" (.int 0 u9)) x y :=
      fun a q1 q2 q3 => ((a.up q1).up q2).up q3
    refine place_end (g := ⟨bk, rl, sr, pl, ((n1 + 1 : Nat) : Int), lc, hc, wc, sm, q⟩) B X T C hb (G q) (Led.inv (V.move F9 N9) ⟨fb9.book, fb9.rows, fb9.script, fb9.behind, fb9.place, hasI.up (hasI.up (hasI.up ⟨_, en7⟩ (by decide +kernel)) (by decide +kernel)) (by decide +kernel),
      up3 ml7 (by decide +kernel) (by decide +kernel) (by decide +kernel), up3 mh7 (by decide +kernel) (by decide +kernel) (by decide +kernel), up3 mw7 (by decide +kernel) (by decide +kernel) (by decide +kernel), up3 ms7 (by decide +kernel) (by decide +kernel) (by decide +kernel), up3 mm7 (by decide +kernel) (by decide +kernel) (by decide +kernel), up3 mt7 (by decide +kernel) (by decide +kernel) (by decide +kernel)⟩)
      ⟨hasS.up (hasS.up ⟨_, up_eq⟩ (by decide +kernel)) (by decide +kernel), hasI.up ⟨_, up_eq⟩ (by decide +kernel), ⟨_, up_eq⟩⟩ hn rfl hcc hk9 ?_
    intro h' tk m' oc1' oc2' es' rs' kh' kr' tab' a b
    exact h h' tk m' oc1' oc2' es' rs' kh' kr' tab' a b.led ⟨b.f.book, b.f.rows, b.f.script, b.f.behind, b.f.place⟩
  have up2 : ∀ {x : String} {y : Str} {a b : Value}, hasS m x y → Str.ofString x ≠ Str.ofString "mark" → Str.ofString x ≠ Str.ofString "tail" → hasS (up1 (up1 m "mark" a) "tail" b) x y := fun a q1 q2 => (a.up q1).up q2
  obtain ⟨a, ha, ea⟩ := fin_mod v 2 (by decide)
  have ea : v.fmod 2 = (a : Int) := ea
  rcases (by omega : a = 0 ∨ a = 1) with rfl | rfl
  · refine wpAny_execs_cons (wpAny_with_toks ht (ps6n ⟨rfl, rfl⟩ B V.F X T C V.N ex ea ?_))
    intro h6 k6 u6 F6 N6 hk6
    show wpAny _ _ (execs _ _) _ _ _
    refine wpAny_execs_cons (wpAny_with_toks hk6 (ps7n ⟨rfl, rfl⟩ B F6 X T C N6 ((up_ne (by decide +kernel)).trans ex) ea ?_))
    intro h7 k7 u7 F7 N7 hk7
    exact key false h7 k7 _ hk7 F7 N7 ((fb.up nb_mark).up nb_tail) (hasI.up (hasI.up ⟨_, en⟩ (by decide +kernel)) (by decide +kernel)) (up2 ml (by decide +kernel) (by decide +kernel)) (up2 mh (by decide +kernel) (by decide +kernel)) (up2 mw (by decide +kernel) (by decide +kernel)) (up2 ms (by decide +kernel) (by decide +kernel)) (hasS.up ⟨_, up_eq⟩ (by decide +kernel)) ⟨_, up_eq⟩
  · refine wpAny_execs_cons (wpAny_with_toks ht (ps6q ⟨rfl, rfl⟩ B V.F X T C V.N ex ea ?_))
    intro h6 k6 u6 F6 N6 hk6
    show wpAny _ _ (execs _ _) _ _ _
    refine wpAny_execs_cons (wpAny_with_toks hk6 (ps7q ⟨rfl, rfl⟩ B F6 X T C N6 ((up_ne (by decide +kernel)).trans ex) ea ?_))
    intro h7 k7 u7 F7 N7 hk7
    exact key true h7 k7 _ hk7 F7 N7 ((fb.up nb_mark).up nb_tail) (hasI.up (hasI.up ⟨_, en⟩ (by decide +kernel)) (by decide +kernel)) (up2 ml (by decide +kernel) (by decide +kernel)) (up2 mh (by decide +kernel) (by decide +kernel)) (up2 mw (by decide +kernel) (by decide +kernel)) (up2 ms (by decide +kernel) (by decide +kernel)) (hasS.up ⟨_, up_eq⟩ (by decide +kernel)) ⟨_, up_eq⟩
end
end
end
section
section
-- TP
open PySem PySem.W PyProof.Rows PyProof.V PySem.Spec PySem.Calls PySem.SeqAt
theorem ltr_item : ∀ l : Fin 13, Txt.item (Str.ofString "adgjkostuvwxy") ((l.val : Nat) : Int) = ⟨#[ltr l.val]⟩ := by decide +kernel
theorem whc_item : ∀ l : Fin 4, Txt.item (Str.ofString " \t\n\r") ((l.val : Nat) : Int) = ⟨#[whc l.val]⟩ := by decide +kernel
section
variable {w : World} {h₀ base : Heap} {L fa bk rl sr bd hl : Addr} {cd : Value} {m mg mb : Str → Option Value} {s : Shared} {mean : ExcName → Option Value} {p : Program} {loose : List Str}
  {th : Tok} {it : List (Addr × Obj)} {oc1 oc2 : Obj} {es rs : List Ent} {kh kr : Nat} {tab : List (Addr × Obj)} {c : Nat} {pl : Int}
set_option maxHeartbeats 1000000 in
/-- white and seam -/
theorem place_c {Q : Flow → Shared → Prop} {E : Value → Shared → Prop} {v : Int} {n0 : Nat} {l a : Fin 13}
  (B : Below callerA base [] h₀) (X : (K1r w.params).In h₀) (T : Top p loose mean mg mb h₀) (C : CodeHd base 298 294) (hb : ∃ es, base.get? 247 = some (dO es 650) ∧ Ents b3kv es)
  (hp : pl = 0 ∨ pl = 1 ∨ pl = 2)
  (V : Led w h₀ L s.heap m bk rl bd hl th it oc1 oc2 es rs kh kr tab c) (fb : Fb m bk rl sr pl) (mx : hasI m "x" v) (mn : hasI m "number" (n0 : Int)) (ml : hasS m "letter" ⟨#[ltr l.val]⟩) (mh : hasS m "head" ⟨#[hdc a.val (ltr l.val)]⟩)
  (hn : 1 ≤ n0 ∧ n0 ≤ 14) (hcc : c ≤ 40) (ht : 1 ≤ s.toks)
  (h : ∀ h' tk m' oc1' oc2' es' rs' kh' kr' tab', 1 ≤ tk → Led w h₀ L h' m' bk rl bd hl th it oc1' oc2' es' rs' kh' kr' tab' (c + 4) → Fb m' bk rl sr pl → Q .next { heap := h', gens := s.gens, drawn := s.drawn, toks := tk, os := s.os }) :
  wpAny (model pw w) (callerA.deeper (lawE L fa cd)) (execs [psAt 4, psAt 5, psAt 6, psAt 7, psAt 8, psAt 9, psAt 10, psAt 11] (lawE L fa cd)) Q E s := by
  obtain ⟨tx, ex⟩ := mx
  refine wpAny_execs_cons (wpAny_with_toks ht (ps4 ⟨rfl, rfl⟩ B V.F X T C V.N ex ?_))
  intro h4 k4 u4 u4' F4 N4 hk4
  show wpAny _ _ (execs _ _) _ _ _
  obtain ⟨b, hb4, eb⟩ := fin_mod v 4 (by decide)
  have eb : v.fmod 4 = (b : Int) := eb
  rw [eb, whc_item ⟨b, hb4⟩] at F4
  have h27 : 0 ≤ (v.fdiv 4).fmod 27 := Int.fmod_nonneg_of_pos _ (by decide)
  have h27' : (v.fdiv 4).fmod 27 < 27 := Int.fmod_lt_of_pos _ (by decide)
  refine wpAny_execs_cons (wpAny_with_toks hk4 (ps5 (v := v.fdiv 4) ⟨rfl, rfl⟩ B F4 X T C N4 ((up_ne (by decide +kernel)).trans up_eq) h27 h27' ?_))
  intro n hnb h5 k5 u5 u5' F5 N5 hk5
  show wpAny _ _ (execs _ _) _ _ _
  have up4 : ∀ {x : String} {y : Str} {a b c d : Value}, hasS m x y → Str.ofString x ≠ Str.ofString "x" → Str.ofString x ≠ Str.ofString "white" → Str.ofString x ≠ Str.ofString "seam" → hasS (up1 (up1 (up1 (up1 m "x" a) "white" b) "x" c) "seam" d) x y :=
    fun a q1 q2 q3 => (((a.up q1).up q2).up q1).up q3
  have hd := hd_ok l a
  have hw := whc_ok ⟨b, hb4⟩
  refine place_mid (v := (v.fdiv 4).fdiv 27) (t := u5) B X T C hb (lc := ltr l.val) (hc := hdc a.val (ltr l.val)) (wc := whc b) (sm := n.toNat) (fun q => ⟨hp, hw.1, hw.2, hd.2.2.1, hd.2.2.2.1, hd.2.2.2.2.1, hd.2.2.2.2.2, hd.1, hd.2.1, inB1_nat hnb⟩)
    (V.move F5 N5) ((((fb.up nb_x).up nb_white).up nb_x).up nb_seam) (hasI.up ⟨_, up_eq⟩ (by decide +kernel))
    (hasI.up (hasI.up (hasI.up (hasI.up mn (by decide +kernel)) (by decide +kernel)) (by decide +kernel)) (by decide +kernel))
    (up4 ml (by decide +kernel) (by decide +kernel) (by decide +kernel)) (up4 mh (by decide +kernel) (by decide +kernel) (by decide +kernel))
    (hasS.up (hasS.up ⟨_, up_eq⟩ (by decide +kernel)) (by decide +kernel)) ⟨_, up_eq⟩ hn hcc hk5 ?_
  intro h' tk m' oc1' oc2' es' rs' kh' kr' tab' a b c
  exact h h' tk m' oc1' oc2' es' rs' kh' kr' tab' a b c
set_option maxHeartbeats 1000000 in
/-- letter and head -/
theorem place_b {Q : Flow → Shared → Prop} {E : Value → Shared → Prop} {v : Int} {n0 : Nat}
  (B : Below callerA base [] h₀) (X : (K1r w.params).In h₀) (T : Top p loose mean mg mb h₀) (C : CodeHd base 298 294) (hb : ∃ es, base.get? 247 = some (dO es 650) ∧ Ents b3kv es)
  (hp : pl = 0 ∨ pl = 1 ∨ pl = 2)
  (V : Led w h₀ L s.heap m bk rl bd hl th it oc1 oc2 es rs kh kr tab c) (fb : Fb m bk rl sr pl) (mx : hasI m "x" v) (mn : hasI m "number" (n0 : Int))
  (hn : 1 ≤ n0 ∧ n0 ≤ 14) (hcc : c ≤ 40) (ht : 1 ≤ s.toks)
  (h : ∀ h' tk m' oc1' oc2' es' rs' kh' kr' tab', 1 ≤ tk → Led w h₀ L h' m' bk rl bd hl th it oc1' oc2' es' rs' kh' kr' tab' (c + 4) → Fb m' bk rl sr pl → Q .next { heap := h', gens := s.gens, drawn := s.drawn, toks := tk, os := s.os }) :
  wpAny (model pw w) (callerA.deeper (lawE L fa cd)) (execs [psAt 2, psAt 3, psAt 4, psAt 5, psAt 6, psAt 7, psAt 8, psAt 9, psAt 10, psAt 11] (lawE L fa cd)) Q E s := by
  obtain ⟨tx, ex⟩ := mx
  refine wpAny_execs_cons (wpAny_with_toks ht (ps2 ⟨rfl, rfl⟩ B V.F X T C V.N ex ?_))
  intro h2 k2 u2 u2' F2 N2 hk2
  show wpAny _ _ (execs _ _) _ _ _
  obtain ⟨l, hl13, el⟩ := fin_mod v 13 (by decide)
  have el : v.fmod 13 = (l : Int) := el
  rw [el, ltr_item ⟨l, hl13⟩] at F2
  obtain ⟨a, ha13, ea⟩ := fin_mod (v.fdiv 13) 13 (by decide)
  have ea : (v.fdiv 13).fmod 13 = (a : Int) := ea
  have hl := ltr_ok ⟨l, hl13⟩
  refine wpAny_execs_cons (wpAny_with_toks hk2 (ps3 (v := v.fdiv 13) ⟨rfl, rfl⟩ B F2 X T C N2 ((up_ne (by decide +kernel)).trans up_eq) up_eq hl.1 hl.2 (by omega) (by omega) ?_))
  intro h3 k3 u3 u3' F3 N3 hk3
  show wpAny _ _ (execs _ _) _ _ _
  have e : (119808 + 52 * (v.fdiv 13).fmod 13 + (ltr l : Int) - 97).toNat = hdc a (ltr l) := by rw [ea]; rfl
  rw [show (119808 + 52 * (v.fdiv 13).fmod 13 + (ltr (⟨l, hl13⟩ : Fin 13).val : Int) - 97).toNat = hdc a (ltr l) from e] at F3
  refine place_c (v := (v.fdiv 13).fdiv 13) (l := ⟨l, hl13⟩) (a := ⟨a, ha13⟩) B X T C hb hp (V.move F3 N3) ((((fb.up nb_x).up nb_letter).up nb_x).up nb_head) (hasI.up ⟨_, up_eq⟩ (by decide +kernel))
    (hasI.up (hasI.up (hasI.up (hasI.up mn (by decide +kernel)) (by decide +kernel)) (by decide +kernel)) (by decide +kernel))
    (hasS.up (hasS.up ⟨_, up_eq⟩ (by decide +kernel)) (by decide +kernel)) ⟨_, up_eq⟩ hn hcc hk3 ?_
  intro h' tk m' oc1' oc2' es' rs' kh' kr' tab' a b c
  exact h h' tk m' oc1' oc2' es' rs' kh' kr' tab' a b c
set_option maxHeartbeats 1000000 in
/-- a place's turn -/
theorem place_turn {Q : Flow → Shared → Prop} {E : Value → Shared → Prop} {vs : List Value} {ns : List Int}
  (B : Below callerA base [] h₀) (X : (K1r w.params).In h₀) (T : Top p loose mean mg mb h₀) (C : CodeHd base 298 294) (hb : ∃ es, base.get? 247 = some (dO es 650) ∧ Ents b3kv es)
  (hs : h₀.IsList sr vs.toArray) (hi : IntsAre vs ns) (hns : ns.length ≤ 63) (hp : pl = 0 ∨ pl = 1 ∨ pl = 2)
  (V : Led w h₀ L s.heap m bk rl bd hl th it oc1 oc2 es rs kh kr tab c) (fb : Fb m bk rl sr pl) (hcc : c ≤ 40) (ht : 1 ≤ s.toks)
  (h : ∀ h' tk m' oc1' oc2' es' rs' kh' kr' tab', 1 ≤ tk → Led w h₀ L h' m' bk rl bd hl th it oc1' oc2' es' rs' kh' kr' tab' (c + 4) → Fb m' bk rl sr pl → Q .next { heap := h', gens := s.gens, drawn := s.drawn, toks := tk, os := s.os }) :
  wpAny (model pw w) (callerA.deeper (lawE L fa cd)) (execs placeB (lawE L fa cd)) Q E s := by
  rw [placeB_e]
  obtain ⟨tp, ep⟩ := fb.place
  refine wpAny_execs_cons (wpAny_with_toks ht (ps0 ⟨rfl, rfl⟩ B V.F X T C V.N fb.script ep hs hi hns hp ?_))
  intro v h0 k0 u0 F0 N0 hk0
  show wpAny _ _ (execs _ _) _ _ _
  refine wpAny_execs_cons (wpAny_with_toks hk0 (ps1 ⟨rfl, rfl⟩ B F0 X T C N0 up_eq ?_))
  intro h1 k1 u1 u1' F1 N1 hk1
  show wpAny _ _ (execs _ _) _ _ _
  obtain ⟨n, hn, en⟩ := fin_mod v 14 (by decide)
  have en : v.fmod 14 + 1 = ((n + 1 : Nat) : Int) := by have en : v.fmod 14 = (n : Int) := en; omega
  rw [en] at F1
  refine place_b (v := v.fdiv 14) (n0 := n + 1) B X T C hb hp (V.move F1 N1) (((fb.up nb_x).up nb_x).up nb_number) (hasI.up ⟨_, up_eq⟩ (by decide +kernel)) ⟨_, up_eq⟩ (by omega) hcc hk1 ?_
  intro h' tk m' oc1' oc2' es' rs' kh' kr' tab' a b c
  exact h h' tk m' oc1' oc2' es' rs' kh' kr' tab' a b c
end
end
end
section
section
-- HN
open PySem PySem.W PyProof.Rows PyProof.V PySem.Spec PySem.Calls PySem.SeqAt
theorem for_nil {prog : Program} {w : World} {A : Around} {E : Value → Shared → Prop} {s : Shared} {h₀ : Heap} {L hl : Addr} {m : Str → Option Value} {news : List (Addr × Obj)} {target iter : PySem.Expr} {body : List Stmt} {pos : Pos} {env : Env} {k : Nat} {Q : Flow → Shared → Prop}
    (F : Fr h₀ L s.heap m) (N : News h₀ L s.heap news) (hm : (hl, listOf #[] k) ∈ news) (he : ∀ Q' : Value → Shared → Prop, Q' (.ref hl) s → wpAny (model prog w) A (eval iter env) Q' E s)
    (hh : A.handled = none) (h : ∀ h', Fr h₀ L h' m → News h₀ L h' news → Q .next { s with heap := h' })
    (hs : ∀ x, foldedSetIterable iter env x = pure x) :
    wpAny (model prog w) A (exec (.For target iter body [] pos) env) Q E s := by
  refine wpAny_For (he _ (wpAny_pyIter_list (N.isList hm) ?_)) hs
  refine codeAny_forLoop_any (fun _ s' => s' = { s with heap := s.heap.push { cls := .type "list_iterator", data := .fields #[.ref hl, .int 0 0] } }) ?_ 0 rfl
  rintro n s' rfl
  have hi : (s.heap.push { cls := .type "list_iterator", data := .fields #[.ref hl, .int 0 0] }).IsListIter s.heap.objs.size hl 0 := ⟨_, Heap.get?_push_size _ rfl, rfl, rfl⟩
  have N' := News.push F N { cls := .type "list_iterator", data := .fields #[.ref hl, .int 0 0] } rfl
  have ap : ∀ p ∈ news, p.1 ≠ s.heap.objs.size := fun p hp => Nat.ne_of_lt (Heap.lt_size (N p hp).1)
  refine wpAny_pyNext_list_end hh hi (News.isList N' (.tail _ hm)) rfl fun h' hx => wpAny_execs_nil ?_
  exact h h' (fr_put (F.push _) N' (.head _) hx) fun p hp => ⟨hx _ _ (ap p hp) (N' p (.tail _ hp)).1, (N p hp).2⟩
local macro_rules | `(tactic| walk_at "exec For Tuple Name") => `(tactic| (k_here; k_dflt (refine' for_nil (m := _) (news := _) ?F ?N ?mem (fun Q' q => ld ?F2 ?fd q) ?hh ?_ ?hs; (case F | N => k_asm); (case mem => k_mem); (case F2 => k_asm); (case fd | hh => exact rfl); (case hs => intro _; with_unfolding_all rfl)); intro _ _ _))
section
variable {w : World} {h₀ base : Heap} {L fa : Addr} {cd : Value} {m mg mb : Str → Option Value} {s : Shared} {rest : List (Addr × Obj)} {mean : ExcName → Option Value} {p : Program} {loose : List Str}
set_option maxHeartbeats 4000000 in
set_option pp.deepTerms false in
theorem headers_new {Q : Value → Shared → Prop} {E : Value → Shared → Prop} (dummy : PySem.Challenge.rw_sh0067_01 = PySem.Challenge.rw_sh0067_01 ∧ K1r = K1r)
  (B : Below callerA base [] h₀) (F : Fr h₀ L s.heap m) (X : (K1r w.params).In h₀) (T : Top p loose mean mg mb h₀) (C : CodeHd base 298 294)
  (N : News h₀ L s.heap rest)
  (h : ∀ h' tk bk bd hl th, Fr h₀ L h' m → News h₀ L h' ((bk, instObj 182 bd) :: (bd, bookD w hl th) :: (hl, listOf #[] 0) :: rest) → topA rest ≤ bk → topA rest ≤ bd → topA rest ≤ hl →
    Q (.ref bk) { heap := h', gens := s.gens, drawn := s.drawn, toks := tk, os := s.os }) :
  wpAny (model pw w) (callerA.deeper (lawE L fa cd)) (call (.ref 182) [] []) Q E s := by
  revert dummy
  k_fill
  intro _
  w_on
  k_steps
  exact h _ _ _ _ _ _ (by assumption) (news_sub (by assumption) (List.forall_mem_cons.mpr ⟨by k_mem, List.forall_mem_cons.mpr ⟨by k_mem, List.forall_mem_cons.mpr ⟨by k_mem, fun p hp => by repeat (first | exact hp | refine List.Mem.tail _ ?_)⟩⟩⟩)) (by omega) (by omega) (by omega)
end
end
end
section
section
-- HW
open PySem PySem.W PyProof.Rows PyProof.V PySem.Spec PySem.Calls PySem.SeqAt
noncomputable def lwAt (k : Nat) : Stmt := (((dB [19])[k]? : Option Stmt)).getD default
local macro_rules | `(tactic| walk_at "eval Name") => `(tactic| (k_here; k_dflt (refine' nameLoc_K ?_ ?_ ?_ ?_ ?_ ?_; rotate_right 6; k_asm; (first | exact rfl | assumption); rotate_left; exact rfl; exact rfl; decide; k_whole)))
local macro_rules | `(tactic| walk_at "call ref") => `(tactic| (k_here; walk_at "%d"; (with_reducible show wpAny _ _ (call (Value.ref 182) [] []) _ _ _); k_dflt (refine' headers_new ⟨rfl, rfl⟩ ?B ?F ?X ?T ?C ?N ?_; (case B | F | X | T | C | N => k_asm)); intro _ _ _ _ _ _ _ _ _ _ _))
section
variable {w : World} {h₀ base : Heap} {L fa : Addr} {cd : Value} {m mg mb : Str → Option Value} {s : Shared} {rest : List (Addr × Obj)} {mean : ExcName → Option Value} {p : Program} {loose : List Str}
set_option maxHeartbeats 4000000 in
set_option pp.deepTerms false in
theorem lw0 {Q : Flow → Shared → Prop} {E : Value → Shared → Prop} (dummy : PySem.Challenge.rw_sh0067_01 = PySem.Challenge.rw_sh0067_01 ∧ K1r = K1r)
  (B : Below callerA base [] h₀) (F : Fr h₀ L s.heap m) (X : (K1r w.params).In h₀) (T : Top p loose mean mg mb h₀) (C : CodeHd base 298 294)
  (N : News h₀ L s.heap rest)
  (h : ∀ h' tk bk bd hl th, Fr h₀ L h' (up1 m "book" (.ref bk)) → News h₀ L h' ((bk, instObj 182 bd) :: (bd, bookD w hl th) :: (hl, listOf #[] 0) :: rest) → topA rest ≤ bk → topA rest ≤ bd → topA rest ≤ hl →
    Q .next { heap := h', gens := s.gens, drawn := s.drawn, toks := tk, os := s.os }) :
  wpAny (model pw w) (callerA.deeper (lawE L fa cd)) (exec (lwAt 0) (lawE L fa cd)) Q E s := by
  revert dummy
  k_fill
  intro _
  w_on
  (with_unfolding_all show wpAny _ _ (exec (Stmt.Assign _ _ _) _) _ _ _)
  (all_goals try k_fold)
  k_steps
  exact h _ _ _ _ _ _ (by assumption) (by assumption) (by assumption) (by assumption) (by assumption)
set_option maxHeartbeats 4000000 in
set_option pp.deepTerms false in
theorem lw1 {Q : Flow → Shared → Prop} {E : Value → Shared → Prop} (dummy : PySem.Challenge.rw_sh0067_01 = PySem.Challenge.rw_sh0067_01 ∧ K1r = K1r)
  (B : Below callerA base [] h₀) (F : Fr h₀ L s.heap m) (X : (K1r w.params).In h₀) (T : Top p loose mean mg mb h₀) (C : CodeHd base 298 294)
  (N : News h₀ L s.heap rest)
  (h : ∀ h' tk rl u, Fr h₀ L h' (up1 (up1 m "behind" (.str (Str.ofString "\"; plain=\"ok\"; no-more") u)) "rows" (.ref rl)) → News h₀ L h' ((rl, listOf #[] 0) :: rest) → topA rest ≤ rl → 1 ≤ tk →
    Q .next { heap := h', gens := s.gens, drawn := s.drawn, toks := tk, os := s.os }) :
  wpAny (model pw w) (callerA.deeper (lawE L fa cd)) (exec (lwAt 1) (lawE L fa cd)) Q E s := by
  revert dummy
  k_fill
  intro _
  w_on
  (with_unfolding_all show wpAny _ _ (exec (Stmt.Assign _ _ _) _) _ _ _)
  (all_goals try k_fold)
  k_steps
  exact h _ _ _ _ (by assumption) (by first | assumption | exact news_tail (by assumption)) (by omega) (by dsimp only; omega)
end
end
end
section
section
-- TQ
open PySem PySem.W PyProof.Rows PyProof.V PySem.Spec PySem.Calls PySem.SeqAt
section
variable {w : World} {h₀ base : Heap} {L fa bk rl sr bd hl : Addr} {cd : Value} {m mg mb : Str → Option Value} {s : Shared} {mean : ExcName → Option Value} {p : Program} {loose : List Str}
  {th : Tok} {it : List (Addr × Obj)} {oc1 oc2 : Obj} {es rs : List Ent} {kh kr : Nat} {tab : List (Addr × Obj)} {c : Nat} {pl : Int}
theorem Led.it_apart {h : Heap} {I : Addr} {x left : Int} (V : Led w h₀ L h m bk rl bd hl th ((I, rngO x left) :: it) oc1 oc2 es rs kh kr tab c) (hI : ∀ p ∈ it, p.1 ≠ I) :
    ∀ p ∈ coreL w L bk bd hl rl th oc1 oc2 es rs kh kr it ++ tab, p.1 ≠ I := by
  have mI : (I, rngO x left) ∈ coreL w L bk bd hl rl th oc1 oc2 es rs kh kr ((I, rngO x left) :: it) ++ tab := (core_it _).mpr (.inl rfl)
  have key : ∀ p ∈ coreL w L bk bd hl rl th oc1 oc2 es rs kh kr it ++ tab, (∀ vs, p.2.data ≠ .fields vs) → p.1 ≠ I := by
    rintro ⟨a, o⟩ hp hk rfl
    have e : o = rngO x left := news_eq V.N ((core_it _).mpr (.inr hp)) mI
    exact hk _ (by rw [e])
  obtain ⟨v1, hv1⟩ := V.c1
  obtain ⟨v2, hv2⟩ := V.c2
  have i294 : @Ne Nat I 294 := V.hx (I, rngO x left) ((core_it' _).mpr (.inl rfl))
  intro p hp
  have hp' := hp
  rcases List.mem_append.mp hp with hp | hp
  · rcases List.mem_cons.mp hp with rfl | hp
    · exact key _ hp' (fun vs q => by cases q)
    rcases List.mem_cons.mp hp with rfl | hp
    · exact key _ hp' (fun vs q => by cases q)
    rcases List.mem_cons.mp hp with rfl | hp
    · exact key _ hp' (fun vs q => by cases q)
    rcases List.mem_cons.mp hp with rfl | hp
    · exact key _ hp' (fun vs q => by simp only [hv1] at q; cases q)
    rcases List.mem_cons.mp hp with rfl | hp
    · exact key _ hp' (fun vs q => by simp only [hv2] at q; cases q)
    rcases List.mem_cons.mp hp with rfl | hp
    · exact key _ hp' (fun vs q => by cases q)
    rcases List.mem_append.mp hp with hp | hp
    · exact hI p hp
    rcases List.mem_append.mp hp with hp | hp
    · obtain ⟨e, _, rfl⟩ := List.mem_map.mp hp
      exact key _ hp' (fun vs q => by cases q)
    · obtain ⟨e, _, rfl⟩ := List.mem_map.mp hp
      exact key _ hp' (fun vs q => by cases q)
  · rcases V.ht with e | ⟨a, oc, vs, tq, e, hoc, hvs, hc⟩
    · rw [e] at hp; rw [List.mem_singleton.mp hp]; exact i294.symm
    · rw [e] at hp
      rcases List.mem_cons.mp hp with rfl | hp
      · exact i294.symm
      · have hp := List.mem_singleton.mp hp
        rw [hp] at hp' ⊢
        intro q
        have q : a = I := q
        rw [q] at hp'
        have e : oc = rngO x left := news_eq V.N ((core_it _).mpr (.inr hp')) mI
        rw [e] at hoc
        have hoc : vs = #[rawInt x, rawInt left, rawInt 1] := by cases hoc; rfl
        rw [hoc] at hvs
        cases hvs
theorem Led.turned {h h' : Heap} {I : Addr} {x left : Int} {o' : Obj} (V : Led w h₀ L h m bk rl bd hl th ((I, rngO x left) :: it) oc1 oc2 es rs kh kr tab c) (hI : ∀ p ∈ it, p.1 ≠ I) (hx : Heap.ExtBut I h h') (ho : h'.get? I = some o') (hf : ∃ vs, o'.data = .fields vs) :
    Led w h₀ L h' m bk rl bd hl th ((I, o') :: it) oc1 oc2 es rs kh kr tab c := by
  have mI : (I, rngO x left) ∈ coreL w L bk bd hl rl th oc1 oc2 es rs kh kr ((I, rngO x left) :: it) ++ tab := (core_it _).mpr (.inl rfl)
  have ap := V.it_apart hI
  refine ⟨fr_put V.F V.N mI hx, news_put V.N mI hx ho ?_, V.ht, ?_, V.hrl, V.h294, V.bs, V.c1, V.c2, ?_⟩
  · intro p hp
    rcases (core_it p).mp hp with hp | hp
    · exact .inl hp
    · exact .inr ⟨(core_it p).mpr (.inr hp), ap p hp⟩
  · intro p hp
    rcases (core_it' p).mp hp with rfl | hp
    · exact V.hx (I, rngO x left) ((core_it' _).mpr (.inl rfl))
    · exact V.hx p ((core_it' p).mpr (.inr hp))
  · intro p hp
    rcases List.mem_cons.mp hp with rfl | hp
    · exact hf
    · exact V.hit p (.tail _ hp)
theorem Led.set {h h' : Heap} {y : String} {v : Value} (V : Led w h₀ L h m bk rl bd hl th it oc1 oc2 es rs kh kr tab c) (hn : h'.Ns L (fun x => if x = Str.ofString y then some v else m x)) (hs : Heap.SameBut L h h') :
    Led w h₀ L h' (up1 m y v) bk rl bd hl th it oc1 oc2 es rs kh kr tab c :=
  ⟨V.F.set hn hs, fun p hp => ⟨(hs.2 _ (V.N p hp).2.1).trans (V.N p hp).1, (V.N p hp).2⟩, V.ht, V.hx, V.hrl, V.h294, V.bs, V.c1, V.c2, V.hit⟩
theorem Led.pushed {h h' : Heap} {q : Addr × Obj} (V : Led w h₀ L h m bk rl bd hl th it oc1 oc2 es rs kh kr tab c) (F : Fr h₀ L h' m) (N : News h₀ L h' (coreL w L bk bd hl rl th oc1 oc2 es rs kh kr (q :: it) ++ tab)) (h294 : q.1 ≠ 294) (hf : ∃ vs, q.2.data = .fields vs) :
    Led w h₀ L h' m bk rl bd hl th (q :: it) oc1 oc2 es rs kh kr tab c :=
  ⟨F, N, V.ht, fun p hp => by
    rcases (core_it' p).mp hp with rfl | hp
    · exact h294
    · exact V.hx p hp, V.hrl, V.h294, V.bs, V.c1, V.c2, fun p hp => by
    rcases List.mem_cons.mp hp with rfl | hp
    · exact hf
    · exact V.hit p hp⟩
theorem Led.dropIt {h : Heap} {q : Addr × Obj} (V : Led w h₀ L h m bk rl bd hl th (q :: it) oc1 oc2 es rs kh kr tab c) : Led w h₀ L h m bk rl bd hl th it oc1 oc2 es rs kh kr tab c :=
  ⟨V.F, news_sub V.N fun p hp => (core_it p).mpr (.inr hp), V.ht, fun p hp => V.hx p ((core_it' p).mpr (.inr hp)), V.hrl, V.h294, V.bs, V.c1, V.c2, fun p hp => V.hit p (.tail _ hp)⟩
/-- the frame's facts without the place -/
structure Fc (m : Str → Option Value) (bk rl sr : Addr) : Prop where
  book : hasR m "book" bk
  rows : hasR m "rows" rl
  script : hasR m "script" sr
  behind : hasS m "behind" behS
theorem Fb.fc (f : Fb m bk rl sr pl) : Fc m bk rl sr := ⟨f.book, f.rows, f.script, f.behind⟩
theorem Fc.at (f : Fc m bk rl sr) {pl : Int} {t : Tok} : Fb (up1 m "place" (.int pl t)) bk rl sr pl :=
  ⟨f.book.up (by decide +kernel), f.rows.up (by decide +kernel), f.script.up (by decide +kernel), f.behind.up (by decide +kernel), ⟨t, up_eq⟩⟩
noncomputable def placePx : Pos := match ((dB [19])[2]? : Option Stmt) with
  | some (.For (.Name _ p) _ _ _ _) => p
  | _ => default
noncomputable def placePf : Pos := match ((dB [19])[2]? : Option Stmt) with
  | some (.For _ _ _ _ p) => p
  | _ => default
theorem lawB_e : dB [19] = [lwAt 0, lwAt 1, lwAt 2, lwAt 3] := by kernel_rfl
theorem placeFor_e : lwAt 2 = .For (.Name (Str.ofString "place") placePx) placeI placeB [] placePf := by kernel_rfl
/-- the place loop, from its iterator on -/
theorem place_loop {R : Result → Shared → Prop} {px : Pos} {Ia : Addr} {vs : List Value} {ns : List Int}
  (B : Below callerA base [] h₀) (X : (K1r w.params).In h₀) (T : Top p loose mean mg mb h₀) (C : CodeHd base 298 294) (hb : ∃ es, base.get? 247 = some (dO es 650) ∧ Ents b3kv es)
  (hs : h₀.IsList sr vs.toArray) (hi : IntsAre vs ns) (hns : ns.length ≤ 63)
  (V : Led w h₀ L s.heap m bk rl bd hl th ((Ia, rngO 0 3) :: it) oc1 oc2 es rs kh kr tab c) (hI : ∀ p ∈ it, p.1 ≠ Ia) (fb : Fc m bk rl sr) (hc : c ≤ 20) (ht : 1 ≤ s.toks)
  (hR : ∀ h' tk m' oc1' oc2' es' rs' kh' kr' tab', 1 ≤ tk → Led w h₀ L h' m' bk rl bd hl th it oc1' oc2' es' rs' kh' kr' tab' (c + 12) → Fc m' bk rl sr → R (.ok .next) { heap := h', gens := s.gens, drawn := s.drawn, toks := tk, os := s.os }) :
  codeAny (model pw w) (callerA.deeper (lawE L fa cd)) (.forLoop (.Name (Str.ofString "place") px) (.ref Ia) placeB [] (lawE L fa cd)) R s := by
  refine codeAny_forLoop (fun k s' => ∃ j h' tk m' oc1' oc2' es' rs' kh' kr' tab', s' = { heap := h', gens := s.gens, drawn := s.drawn, toks := tk, os := s.os } ∧ k = 4 - j ∧ j ≤ 3 ∧ 1 ≤ tk ∧
      Led w h₀ L h' m' bk rl bd hl th ((Ia, rngO (j : Nat) (3 - (j : Nat))) :: it) oc1' oc2' es' rs' kh' kr' tab' (c + 4 * j) ∧ Fc m' bk rl sr) ?_ 4 ⟨0, s.heap, s.toks, m, oc1, oc2, es, rs, kh, kr, tab, rfl, rfl, by omega, ht, V, fb⟩
  rintro k s' ⟨j, h', tk, m', oc1', oc2', es', rs', kh', kr', tab', rfl, rfl, hj, htk, V, S'⟩
  have hit : IsRangeIter h' Ia (j : Nat) (3 - (j : Nat)) 1 := (V.N _ ((core_it _).mpr (.inl rfl))).1
  by_cases hlt : j < 3
  · refine wpAny_pyNext_range_item hit (by omega) fun h₁ hit₁ hs₁ => ?_
    have V1 := V.turned hI (Heap.SameBut.extBut hs₁) hit₁ ⟨_, rfl⟩
    refine wpAny_assign_Name (wpAny_storeName_local (by rfl) V1.F.ns (fun h₂ hn₂ hs₂ => ?_) (by rfl))
    have V2 := V1.set (y := "place") hn₂ hs₂
    refine place_turn B X T C hb hs hi hns (pl := ((j : Nat) : Int)) (by omega) V2 S'.at (by omega) (Nat.le_add_left 1 _) ?_
    intro h3 k3 m3 oc13 oc23 es3 rs3 kh3 kr3 tab3 hk3 V3 S3
    refine ⟨4 - (j + 1), by omega, j + 1, h3, k3, m3, oc13, oc23, es3, rs3, kh3, kr3, tab3, rfl, rfl, by omega, hk3, ?_, S3.fc⟩
    have e1 : ((j + 1 : Nat) : Int) = (j : Int) + 1 := by push_cast; rfl
    have e2 : (3 : Int) - ((j + 1 : Nat) : Int) = 3 - (j : Int) - 1 := by push_cast; omega
    rw [e2, e1]
    exact V3
  · have e : j = 3 := by omega
    subst e
    refine wpAny_pyNext_range_end rfl hit (by omega) fun h₁ he₁ => wpAny_execs_nil ?_
    have V0 := V.dropIt
    have ap := V.it_apart hI
    exact hR h₁ tk m' oc1' oc2' es' rs' kh' kr' tab' htk ⟨fr_put V.F V.N ((core_it _).mpr (.inl rfl)) he₁, fun p hp => ⟨he₁ _ _ (ap p hp) (V0.N p hp).1, (V0.N p hp).2⟩, V.ht, V0.hx, V.hrl, V.h294, V.bs, V.c1, V.c2, V0.hit⟩ S'
/-- the place loop, whole -/
theorem lw2 {Q : Flow → Shared → Prop} {E : Value → Shared → Prop} {vs : List Value} {ns : List Int}
  (B : Below callerA base [] h₀) (X : (K1r w.params).In h₀) (T : Top p loose mean mg mb h₀) (C : CodeHd base 298 294) (hb : ∃ es, base.get? 247 = some (dO es 650) ∧ Ents b3kv es)
  (hs : h₀.IsList sr vs.toArray) (hi : IntsAre vs ns) (hns : ns.length ≤ 63)
  (V : Led w h₀ L s.heap m bk rl bd hl th it oc1 oc2 es rs kh kr tab c) (fb : Fc m bk rl sr) (hc : c ≤ 20) (ht : 1 ≤ s.toks)
  (h : ∀ h' tk m' oc1' oc2' es' rs' kh' kr' tab', 1 ≤ tk → Led w h₀ L h' m' bk rl bd hl th it oc1' oc2' es' rs' kh' kr' tab' (c + 12) → Fc m' bk rl sr → Q .next { heap := h', gens := s.gens, drawn := s.drawn, toks := tk, os := s.os }) :
  wpAny (model pw w) (callerA.deeper (lawE L fa cd)) (exec (lwAt 2) (lawE L fa cd)) Q E s := by
  rw [placeFor_e]
  refine wpAny_For (wpAny_with_toks ht (range3 ⟨rfl, rfl⟩ B V.F X T C V.N ?_))
  intro D h1 k1 t u v F1 N1 hr hk1
  refine wpAny_with_toks (n := 1) hk1 (wpAny_pyIter_range hr (by decide +kernel) ?_)
  intro hk2
  have V1 := V.move F1 N1
  obtain ⟨oL, _, _, hoL, _⟩ := id F1.ns
  have hLs : L < h1.objs.size := Heap.lt_size hoL
  have hlt : ∀ b o, h1.get? b = some o → b ≠ h1.objs.size := fun b o e => Nat.ne_of_lt (Heap.lt_size e)
  have V2 : Led w h₀ L (h1.push (rngO 0 3)) m bk rl bd hl th ((h1.objs.size, rngO 0 3) :: it) oc1 oc2 es rs kh kr tab c :=
    V1.pushed (F1.push _) (news_sub (News.push F1 N1 _ rfl) (fun p hp => by rcases (core_it p).mp hp with rfl | hp; exact .head _; exact .tail _ hp)) (fun q => by have l3 := V.h294; have q : h1.objs.size = 294 := q; have hLs : @LT.lt Nat _ L h1.objs.size := hLs; omega) ⟨_, rfl⟩
  refine place_loop B X T C hb hs hi hns (s := { heap := h1.push (rngO 0 3), gens := s.gens, drawn := s.drawn, toks := k1, os := s.os }) V2 (fun p hp => hlt _ _ (V1.N p (by simp only [coreL, List.mem_append, List.mem_cons]; grind)).1) fb hc hk1 ?_
  intro h' tk m' oc1' oc2' es' rs' kh' kr' tab' a b d
  exact h h' tk m' oc1' oc2' es' rs' kh' kr' tab' a b d
end
end
end
section
section
-- HY
open PySem PySem.W PyProof.Rows PyProof.V PySem.Spec PySem.Calls PySem.SeqAt
local macro_rules | `(tactic| walk_at "eval Name") => `(tactic| (k_here; k_dflt (refine' nameLoc_K ?_ ?_ ?_ ?_ ?_ ?_; rotate_right 6; k_asm; (first | exact rfl | assumption); rotate_left; exact rfl; exact rfl; decide; k_whole)))
local macro_rules | `(tactic| walk_at "call ref") => `(tactic| (k_here; walk_at "%d"; (with_reducible show wpAny _ _ (call (Value.ref 182) [] []) _ _ _); k_dflt (refine' headers_new ⟨rfl, rfl⟩ ?B ?F ?X ?T ?C ?N ?_; (case B | F | X | T | C | N => k_asm)); intro _ _ _ _ _ _ _ _ _ _ _))
theorem slice_allK {prog : Program} {w : World} {A : Around} {E : Value → Shared → Prop} {s : Shared} {h₀ : Heap} {L l : Addr} {m : Str → Option Value} {news : List (Addr × Obj)} {value slice : PySem.Expr} {es : List Ent} {k : Nat} {Q : Value → Shared → Prop}
    (F : Fr h₀ L s.heap m) (N : News h₀ L s.heap news) (hm : (l, listOf (refs es) k) ∈ news) (hz : es.length ≤ 100)
    (h : ∀ D h', Fr h₀ L h' m → News h₀ L h' ((D, listOf (refs es) 0) :: news) → (∀ p ∈ news, p.1 < D) → Q (.ref D) { s with heap := h' })
    (hs : subscripted slice false (.ref l) (.ref s.heap.objs.size) = operate [.ref s.heap.objs.size, .ref l] (getItem (.ref l) (.ref s.heap.objs.size))) (ht : ∀ r, letTemporaryGo value (.ref l) r = pure ()) :
    wpAny (model prog w) A (subscriptTail value slice (.ref l) (.ref s.heap.objs.size)) Q E { s with heap := s.heap.push { cls := .type "slice", data := .fields #[.none, .none, .none] } } := by
  refine kmk_slice (lo := none) (hi := none) F N (N.isList hm) ?_ ?_ (fun D h' F' N' l1 => h D h' F' ?_ l1) hs ht ?_
  · kmk_part
  · kmk_part
  · rw [slicePick_all] at N'; exact N'
  · simp only [refs, List.size_toArray, List.length_map]; exact Nat.le_trans hz (by decide)
local macro_rules | `(tactic| walk_at "subscriptTail Name Slice ref ref") => `(tactic| (k_here; (with_reducible show wpAny _ _ (subscriptTail _ (PySem.Expr.Slice _ _ none _) (Value.ref _) (Value.ref _)) _ _ _); k_dflt (refine' slice_allK ?_ ?_ ?_ ?_ ?_ ?_ ?_; rotate_right 7; k_asm; k_asm; k_mem; assumption; rotate_left; with_unfolding_all rfl; kmk_pure); intro _ _ _ _ l1; (try k_lt l1)))
noncomputable def retE (k : Nat) : PySem.Expr := match lwAt 3 with
  | .Return (some (.BoolOp _ es _)) _ => ((es[k]? : Option PySem.Expr)).getD default
  | _ => default
section
variable {w : World} {h₀ base : Heap} {L fa : Addr} {cd : Value} {m mg mb : Str → Option Value} {s : Shared} {rest : List (Addr × Obj)} {mean : ExcName → Option Value} {p : Program} {loose : List Str}
set_option maxHeartbeats 400000 in
set_option pp.deepTerms false in
theorem ret1 {Q : Value → Shared → Prop} {E : Value → Shared → Prop} (dummy : PySem.Challenge.rw_sh0067_01 = PySem.Challenge.rw_sh0067_01 ∧ K1r = K1r)
  (B : Below callerA base [] h₀) (F : Fr h₀ L s.heap m) (X : (K1r w.params).In h₀) (T : Top p loose mean mg mb h₀) (C : CodeHd base 298 294)
  (N : News h₀ L s.heap rest) 
  (h : ∀ h' tk, Fr h₀ L h' m → News h₀ L h' rest → Q (.bool true) { heap := h', gens := s.gens, drawn := s.drawn, toks := tk, os := s.os }) :
  wpAny (model pw w) (callerA.deeper (lawE L fa cd)) (eval (retE 1) (lawE L fa cd)) Q E s := by
  revert dummy
  k_fill
  intro _
  w_on
  (with_unfolding_all show wpAny _ _ (eval (PySem.Expr.Compare _ _ _ _) _) _ _ _)
  (all_goals try k_fold)
  k_steps
  exact h _ _ (by assumption) (news_sub (by assumption) (fun p hp => by repeat (first | exact hp | refine List.Mem.tail _ ?_)))
noncomputable def Stop (p : Prop) : Prop := p
theorem unstop {p : Prop} (h : Stop p) : p := h
local macro_rules | `(tactic| walk_at "compareOp Eq ref ref") => `(tactic| (k_here; (refine unstop ?_)))
set_option maxHeartbeats 400000 in
set_option pp.deepTerms false in
theorem ret0 {Q : Value → Shared → Prop} {E : Value → Shared → Prop} {bk bd hl rl : Addr} {th : Tok} {es rs : List Ent} {kh kr : Nat} (dummy : PySem.Challenge.rw_sh0067_01 = PySem.Challenge.rw_sh0067_01 ∧ K1r = K1r)
  (B : Below callerA base [] h₀) (F : Fr h₀ L s.heap m) (X : (K1r w.params).In h₀) (T : Top p loose mean mg mb h₀) (C : CodeHd base 298 294)
  (N : News h₀ L s.heap ((bk, instObj 182 bd) :: (bd, bookD w hl th) :: (hl, listOf (refs es) kh) :: (rl, listOf (refs rs) kr) :: rest)) (hes : ∀ e ∈ es, e.o ∈ rest) (hrs : ∀ e ∈ rs, e.o ∈ rest)
  (mbk : m (Str.ofString "book") = some (.ref bk)) (mr : m (Str.ofString "rows") = some (.ref rl)) (he : (es.map fun e => (e.n, e.x)) = rs.map fun e => (e.n, e.x)) (hk : ∀ x ∈ es.map (fun e => (e.n, e.x)), PyData.strOk x.1 = true ∧ PyData.strOk x.2 = true) (hsz : es.length ≤ 100)
  (h : ∀ h' tk, Fr h₀ L h' m → News h₀ L h' rest → Q (.bool true) { heap := h', gens := s.gens, drawn := s.drawn, toks := tk, os := s.os }) :
  wpAny (model pw w) (callerA.deeper (lawE L fa cd)) (eval (retE 0) (lawE L fa cd)) Q E s := by
  revert dummy
  k_fill
  intro _
  w_on
  (with_unfolding_all show wpAny _ _ (eval (PySem.Expr.Compare _ _ _ _) _) _ _ _)
  (all_goals try k_fold)
  k_steps
  unfold Stop
  (refine' eq_ents (l := ?l) (es := es) (es' := rs) ?N1 ?m1 ?m2 (News.isList ?N2 ?i2) (News.isList ?N3 ?i3) ?he ?hk ?hu ?_)
  (case N1 => k_asm)
  (case N2 => k_asm)
  (case N3 => k_asm)
  (case i2 => k_mem)
  (case i3 => k_mem)
  (case m1 => (intro e he; (repeat refine List.Mem.tail _ ?_); exact hes e he))
  (case m2 => (intro e he; (repeat refine List.Mem.tail _ ?_); exact hrs e he))
  (case he => assumption)
  (case hk => assumption)
  (case hu => units_room)
  exact h _ _ (by assumption) (news_sub (by assumption) (fun p hp => by repeat (first | exact hp | refine List.Mem.tail _ ?_)))
end
end
end
section
section
-- LW
open PySem PySem.W PyProof.Rows PyProof.V PySem.Spec PySem.Calls PySem.SeqAt
noncomputable def retPb : Pos := match lwAt 3 with
  | .Return (some (.BoolOp _ _ p)) _ => p
  | _ => default
noncomputable def retPs : Pos := match lwAt 3 with
  | .Return _ p => p
  | _ => default
theorem ret_e : lwAt 3 = .Return (some (.BoolOp .And [retE 0, retE 1] retPb)) retPs := by kernel_rfl
section
variable {w : World} {h₀ base : Heap} {L fa sr : Addr} {cd : Value} {m mg mb : Str → Option Value} {s : Shared} {mean : ExcName → Option Value} {p : Program} {loose : List Str}
theorem top_lt {l : List (Addr × Obj)} {a : Addr} (h : topA l ≤ a) : ∀ q ∈ l, q.1 ≠ a := ne_of_top h
/-- the law's body -/
theorem law_body {Q : Flow → Shared → Prop} {E : Value → Shared → Prop} {oc1 oc2 : Obj} {vs : List Value} {ns : List Int}
  (B : Below callerA base [] h₀) (X : (K1r w.params).In h₀) (T : Top p loose mean mg mb h₀) (C : CodeHd base 298 294) (hb : ∃ es, base.get? 247 = some (dO es 650) ∧ Ents b3kv es)
  (hs : h₀.IsList sr vs.toArray) (hi : IntsAre vs ns) (hns : ns.length ≤ 63)
  (F : Fr h₀ L s.heap m) (N : News h₀ L s.heap [(L + 2, oc2), (L + 1, oc1), (294, tabObj #[])]) (c1 : ∃ v, oc1.data = .cell v) (c2 : ∃ v, oc2.data = .cell v) (h294 : @LT.lt Nat _ 294 L) (ms : hasR m "script" sr)
  (h : ∀ h' tk m' tab', TabSt tab' → Fr h₀ L h' m' → News h₀ L h' tab' → Q (.ret (.bool true)) { heap := h', gens := s.gens, drawn := s.drawn, toks := tk, os := s.os }) :
  wpAny (model pw w) (callerA.deeper (lawE L fa cd)) (execs (dB [19]) (lawE L fa cd)) Q E s := by
  rw [lawB_e]
  refine wpAny_execs_cons (lw0 ⟨rfl, rfl⟩ B F X T C N ?_)
  intro h0 k0 bk bd hl th F0 N0 t1 t2 t3
  show wpAny _ _ (execs _ _) _ _ _
  refine wpAny_execs_cons (lw1 ⟨rfl, rfl⟩ B F0 X T C N0 ?_)
  intro h1 k1 rl u F1 N1 t4 hk1
  show wpAny _ _ (execs _ _) _ _ _
  have a294 : ∀ a : Addr, topA [(L + 2, oc2), (L + 1, oc1), (294, tabObj #[])] ≤ a → @Ne Nat a 294 := fun a q => (ne_of_top q (294, tabObj #[]) (by simp)).symm
  have hrl : @Ne Nat rl hl := (ne_of_top t4 (hl, listOf #[] 0) (by simp)).symm
  have r294 : @Ne Nat rl 294 := (ne_of_top t4 (294, tabObj #[]) (by simp)).symm
  have V : Led w h₀ L h1 _ bk rl bd hl th [] oc1 oc2 [] [] 0 0 [(294, tabObj #[])] 0 :=
    ⟨F1, news_sub N1 (by
      intro p hp
      simp only [coreL, refs, List.map_nil, List.append_nil, List.cons_append, List.nil_append, List.mem_cons, List.not_mem_nil, or_false] at hp ⊢
      grind), .inl rfl, by
      intro p hp
      simp only [coreL, List.map_nil, List.append_nil, List.mem_cons, List.not_mem_nil, or_false] at hp
      have b1 := a294 _ t1
      have b2 := a294 _ t2
      have b3 := a294 _ t3
      rcases hp with rfl | rfl | rfl | rfl | rfl | rfl
      · exact b1
      · exact b2
      · exact b3
      · exact (by omega : @Ne Nat (L + 1) 294)
      · exact (by omega : @Ne Nat (L + 2) 294)
      · exact r294, hrl, h294, ⟨rfl, Nat.le_refl _, fun e he => nomatch he⟩, c1, c2, fun p hp => nomatch hp⟩
  have fc : Fc (up1 (up1 (up1 m "book" (.ref bk)) "behind" (.str (Str.ofString "\"; plain=\"ok\"; no-more") u)) "rows" (.ref rl)) bk rl sr :=
    ⟨hasR.up (hasR.up up_eq (by decide +kernel)) (by decide +kernel), up_eq, ((ms.up (by decide +kernel)).up (by decide +kernel)).up (by decide +kernel), hasS.up ⟨u, up_eq⟩ (by decide +kernel)⟩
  refine wpAny_execs_cons (lw2 B X T C hb hs hi hns V fc (by omega) hk1 ?_)
  intro h2 k2 m2 oc1' oc2' es rs kh kr tab hk2 V2 f2
  show wpAny _ _ (execs _ _) _ _ _
  have hN : News h₀ L h2 ((bk, instObj 182 bd) :: (bd, bookD w hl th) :: (hl, listOf (refs es) kh) :: (rl, listOf (refs rs) kr) :: (tab ++ (es.map Ent.o ++ rs.map Ent.o))) := news_sub V2.N (by
    intro p hp
    simp only [coreL, List.mem_cons, List.mem_append, List.nil_append, List.cons_append] at hp ⊢
    grind)
  have hes : ∀ e ∈ es, e.o ∈ tab ++ (es.map Ent.o ++ rs.map Ent.o) := fun e he => List.mem_append_right _ (List.mem_append_left _ (List.mem_map_of_mem he))
  have hrs : ∀ e ∈ rs, e.o ∈ tab ++ (es.map Ent.o ++ rs.map Ent.o) := fun e he => List.mem_append_right _ (List.mem_append_right _ (List.mem_map_of_mem he))
  have hk : ∀ x ∈ es.map (fun e => (e.n, e.x)), PyData.strOk x.1 = true ∧ PyData.strOk x.2 = true := by
    rw [V2.bs.he]
    intro x hx
    obtain ⟨e, he, rfl⟩ := List.mem_map.mp hx
    exact ⟨(name_ok _ (V2.bs.ok e he).1).2.2.2.2.2, (V2.bs.ok e he).2⟩
  refine wpAny_execs_cons ?_
  rw [ret_e]
  refine wpAny_Return_some (BoolOp_and (ret0 ⟨rfl, rfl⟩ B V2.F X T C hN hes hrs f2.book f2.rows V2.bs.he hk (Nat.le_trans V2.bs.len (by decide)) ?_))
  intro h3 k3 F3 N3
  refine wpAny_truthy_bool ?_
  show wpAny _ _ _ _ _ _
  refine BoolOp_one (ret1 ⟨rfl, rfl⟩ B F3 X T C N3 ?_)
  intro h4 k4 F4 N4
  exact h h4 k4 m2 tab V2.ht F4 (news_sub N4 fun p hp => List.mem_append_left _ hp)
end
end
end
section
section
-- FIN
open PySem PySem.W PyProof.Rows
set_option maxHeartbeats 8000000 in
set_option pp.deepTerms false in
theorem walk1 : WalkO q1 loose1 (XL q1 []) Y1 rw1.row.toRowW d1 [] fun f vs => PySem.call f vs := by
  w_on
  show WalkO q1 loose1 (XL q1 []) (fun w h => (kmHook K1r K1a K1_as [294]).says w h ∧ ∃ es, h.get? 247 = some (dO es 650) ∧ Ents b3kv es) PySem.Challenge.rw_sh0067_01.row.toRowW d1 [] fun f vs => PySem.call f vs
  k_fill
  intro w s₀ s₁ mg mb G Y fa o pm cd doc dV kV ho hd hcd hD hmg hg args vals as hpre hlay hrd hwl hlo
  obtain ⟨Y, Yb⟩ := Y
  have KX := km_in_of Y
  km_tabs Y
  have X := (Ground.X G).1
  have V := (Ground.X G).2
  refine Ground.open G ?_
  intro T B D TE TW
  try (refine guard_noD D (by decide +kernel) ?_; clear D)
  km_lay T hmg ho hd cd
  clear hmg
  wrow_args hpre hlay hrd hwl hlo
  all_goals (
    first | refine callC_kw (enter_call ?_) | refine enter_call ?_
    w_top on
    kn_posts
    w_call any ho hd hcd hD T F
    clear hd
    kn_ghosts F T
    k_drop
    skip)
  (with_unfolding_all show wpAny (model pw w) (callerA.deeper (lawE _ fa cd)) (execs (dB [19]) (lawE _ fa cd)) _ _ _)
  have hb : ∃ es, (ghostOf s₁.heap [(298, 294)]).get? 247 = some (dO es 650) ∧ Ents b3kv es := by
    obtain ⟨es, e1, e2⟩ := Yb
    exact ⟨es, ghost_ne e1 (by decide), e2⟩
  refine law_body (by assumption) (by assumption) (by assumption) (by assumption) hb (by assumption) (by assumption) (by omega) (by assumption) (by assumption) ⟨_, by assumption⟩ ⟨_, by assumption⟩ (by assumption) ?ms ?_
  case ms => with_unfolding_all rfl
  intro h' tk m' tab' ht' F2 N2
  have hg : GrownAll [(298, 294)] h' := by
    refine ⟨?_, trivial⟩
    rcases ht' with e | ⟨a, oc, vs, tq, e, -⟩
    · exact GrownAt.of N2 (by rw [e]; exact .head _)
    · exact GrownAt.of N2 (by rw [e]; exact .head _)
  clear N2
  refine ⟨?_, hg⟩
  dsimp only
  k_steps
end
end
end
end Mine
theorem PySem.Challenge.cw_sh0067_01_holds : PySem.Challenge.rw_sh0067_01.Holds :=
  Mine.holdsW1 Mine.walk1
