import PyProof.Rows.All
import Wide.All
import OpenK.AllK
import Wide.FinOn
import Lean
import PySem.Challenge.RW_et5013_01
open PySem PySem.W PyProof.Rows PySem.Calls PySem.Spec PySem.W.X
set_option Elab.async false
set_option maxRecDepth 100000
set_option linter.unusedVariables false
set_option maxHeartbeats 2000000
namespace Mine
abbrev pw : Program := PySem.Challenge.pw_et5013_01
/-- the n-th statement of a block -/
def nth : List Stmt → Nat → Stmt
  | [], _ => .Pass default
  | s :: _, 0 => s
  | _ :: r, n + 1 => nth r n
def clsBody : Stmt → List Stmt
  | .ClassDef _ _ _ b _ _ _ _ _ _ _ => b
  | _ => []
def argsOf : Stmt → Arguments
  | .FunctionDef _ a _ _ _ _ _ _ _ _ => a
  | _ => default
def bodyOf : Stmt → List Stmt
  | .FunctionDef _ _ b _ _ _ _ _ _ _ => b
  | _ => []
def scopeOf : Stmt → Scope
  | .FunctionDef _ _ _ _ _ _ sc _ _ _ => sc
  | _ => default
def st1 (i : Nat) : Stmt := nth pw.main.body i
def st2 (i j : Nat) : Stmt := nth (clsBody (st1 i)) j
/-- the objects of the top that the walks read -/
def Kf (P : Params) : Frag := [
  (0, ⟨(.type "dict"), none, (.dict #[⟨PyData.keyHash P "__name__", (.str "__name__" 1), (.str "builtins" 160)⟩, ⟨PyData.keyHash P "__doc__", (.str "__doc__" 2), (.builtin "builtins.__doc__:str#opaque")⟩, ⟨PyData.keyHash P "__package__", (.str "__package__" 3), (.builtin "builtins.__package__:str#opaque")⟩, ⟨PyData.keyHash P "__loader__", (.str "__loader__" 4), (.builtin "builtins.__loader__:shared#opaque")⟩, ⟨PyData.keyHash P "__spec__", (.str "__spec__" 5), (.builtin "builtins.__spec__#opaque")⟩, ⟨PyData.keyHash P "__build_class__", (.str "__build_class__" 6), (.builtin "__build_class__")⟩, ⟨PyData.keyHash P "__import__", (.str "__import__" 7), (.builtin "__import__")⟩, ⟨PyData.keyHash P "abs", (.str "abs" 8), (.builtin "abs")⟩, ⟨PyData.keyHash P "all", (.str "all" 9), (.builtin "all")⟩, ⟨PyData.keyHash P "any", (.str "any" 10), (.builtin "any")⟩, ⟨PyData.keyHash P "ascii", (.str "ascii" 11), (.builtin "ascii")⟩, ⟨PyData.keyHash P "bin", (.str "bin" 12), (.builtin "bin")⟩, ⟨PyData.keyHash P "breakpoint", (.str "breakpoint" 13), (.builtin "breakpoint")⟩, ⟨PyData.keyHash P "callable", (.str "callable" 14), (.builtin "callable")⟩, ⟨PyData.keyHash P "chr", (.str "chr" 15), (.builtin "chr")⟩, ⟨PyData.keyHash P "compile", (.str "compile" 16), (.builtin "compile")⟩, ⟨PyData.keyHash P "delattr", (.str "delattr" 17), (.builtin "delattr")⟩, ⟨PyData.keyHash P "dir", (.str "dir" 18), (.builtin "dir")⟩, ⟨PyData.keyHash P "divmod", (.str "divmod" 19), (.builtin "divmod")⟩, ⟨PyData.keyHash P "eval", (.str "eval" 20), (.builtin "eval")⟩, ⟨PyData.keyHash P "exec", (.str "exec" 21), (.builtin "exec")⟩, ⟨PyData.keyHash P "format", (.str "format" 22), (.builtin "format")⟩, ⟨PyData.keyHash P "getattr", (.str "getattr" 23), (.builtin "getattr")⟩, ⟨PyData.keyHash P "globals", (.str "globals" 24), (.builtin "globals")⟩, ⟨PyData.keyHash P "hasattr", (.str "hasattr" 25), (.builtin "hasattr")⟩, ⟨PyData.keyHash P "hash", (.str "hash" 26), (.builtin "hash")⟩, ⟨PyData.keyHash P "hex", (.str "hex" 27), (.builtin "hex")⟩, ⟨PyData.keyHash P "id", (.str "id" 28), (.builtin "id")⟩, ⟨PyData.keyHash P "input", (.str "input" 29), (.builtin "input")⟩, ⟨PyData.keyHash P "isinstance", (.str "isinstance" 30), (.builtin "isinstance")⟩, ⟨PyData.keyHash P "issubclass", (.str "issubclass" 31), (.builtin "issubclass")⟩, ⟨PyData.keyHash P "iter", (.str "iter" 32), (.builtin "iter")⟩, ⟨PyData.keyHash P "aiter", (.str "aiter" 33), (.builtin "aiter")⟩, ⟨PyData.keyHash P "len", (.str "len" 34), (.builtin "len")⟩, ⟨PyData.keyHash P "locals", (.str "locals" 35), (.builtin "locals")⟩, ⟨PyData.keyHash P "max", (.str "max" 36), (.builtin "max")⟩, ⟨PyData.keyHash P "min", (.str "min" 37), (.builtin "min")⟩, ⟨PyData.keyHash P "next", (.str "next" 38), (.builtin "next")⟩, ⟨PyData.keyHash P "anext", (.str "anext" 39), (.builtin "anext")⟩, ⟨PyData.keyHash P "oct", (.str "oct" 40), (.builtin "oct")⟩, ⟨PyData.keyHash P "ord", (.str "ord" 41), (.builtin "ord")⟩, ⟨PyData.keyHash P "pow", (.str "pow" 42), (.builtin "pow")⟩, ⟨PyData.keyHash P "print", (.str "print" 43), (.builtin "print")⟩, ⟨PyData.keyHash P "repr", (.str "repr" 44), (.builtin "repr")⟩, ⟨PyData.keyHash P "round", (.str "round" 45), (.builtin "round")⟩, ⟨PyData.keyHash P "setattr", (.str "setattr" 46), (.builtin "setattr")⟩, ⟨PyData.keyHash P "sorted", (.str "sorted" 47), (.builtin "sorted")⟩, ⟨PyData.keyHash P "sum", (.str "sum" 48), (.builtin "sum")⟩, ⟨PyData.keyHash P "vars", (.str "vars" 49), (.builtin "vars")⟩, ⟨PyData.keyHash P "None", (.str "None" 50), .none⟩, ⟨PyData.keyHash P "Ellipsis", (.str "Ellipsis" 51), .ellipsis⟩, ⟨PyData.keyHash P "NotImplemented", (.str "NotImplemented" 52), .notImplemented⟩, ⟨PyData.keyHash P "False", (.str "False" 53), (.bool false)⟩, ⟨PyData.keyHash P "True", (.str "True" 54), (.bool true)⟩, ⟨PyData.keyHash P "bool", (.str "bool" 55), (.type "bool")⟩, ⟨PyData.keyHash P "memoryview", (.str "memoryview" 56), (.type "memoryview")⟩, ⟨PyData.keyHash P "bytearray", (.str "bytearray" 57), (.type "bytearray")⟩, ⟨PyData.keyHash P "bytes", (.str "bytes" 58), (.type "bytes")⟩, ⟨PyData.keyHash P "classmethod", (.str "classmethod" 59), (.type "classmethod")⟩, ⟨PyData.keyHash P "complex", (.str "complex" 60), (.type "complex")⟩, ⟨PyData.keyHash P "dict", (.str "dict" 61), (.type "dict")⟩, ⟨PyData.keyHash P "enumerate", (.str "enumerate" 62), (.type "enumerate")⟩, ⟨PyData.keyHash P "filter", (.str "filter" 63), (.type "filter")⟩, ⟨PyData.keyHash P "float", (.str "float" 64), (.type "float")⟩, ⟨PyData.keyHash P "frozenset", (.str "frozenset" 65), (.type "frozenset")⟩, ⟨PyData.keyHash P "property", (.str "property" 66), (.type "property")⟩, ⟨PyData.keyHash P "int", (.str "int" 67), (.type "int")⟩, ⟨PyData.keyHash P "list", (.str "list" 68), (.type "list")⟩, ⟨PyData.keyHash P "map", (.str "map" 69), (.type "map")⟩, ⟨PyData.keyHash P "object", (.str "object" 70), (.type "object")⟩, ⟨PyData.keyHash P "range", (.str "range" 71), (.type "range")⟩, ⟨PyData.keyHash P "reversed", (.str "reversed" 72), (.type "reversed")⟩, ⟨PyData.keyHash P "set", (.str "set" 73), (.type "set")⟩, ⟨PyData.keyHash P "slice", (.str "slice" 74), (.type "slice")⟩, ⟨PyData.keyHash P "staticmethod", (.str "staticmethod" 75), (.type "staticmethod")⟩, ⟨PyData.keyHash P "str", (.str "str" 76), (.type "str")⟩, ⟨PyData.keyHash P "super", (.str "super" 77), (.type "super")⟩, ⟨PyData.keyHash P "tuple", (.str "tuple" 78), (.type "tuple")⟩, ⟨PyData.keyHash P "type", (.str "type" 79), (.type "type")⟩, ⟨PyData.keyHash P "zip", (.str "zip" 80), (.type "zip")⟩, ⟨PyData.keyHash P "__debug__", (.str "__debug__" 81), (.bool true)⟩, ⟨PyData.keyHash P "BaseException", (.str "BaseException" 82), (.type "BaseException")⟩, ⟨PyData.keyHash P "BaseExceptionGroup", (.str "BaseExceptionGroup" 83), (.type "BaseExceptionGroup")⟩, ⟨PyData.keyHash P "Exception", (.str "Exception" 84), (.type "Exception")⟩, ⟨PyData.keyHash P "GeneratorExit", (.str "GeneratorExit" 85), (.type "GeneratorExit")⟩, ⟨PyData.keyHash P "KeyboardInterrupt", (.str "KeyboardInterrupt" 86), (.type "KeyboardInterrupt")⟩, ⟨PyData.keyHash P "SystemExit", (.str "SystemExit" 87), (.type "SystemExit")⟩, ⟨PyData.keyHash P "ArithmeticError", (.str "ArithmeticError" 88), (.type "ArithmeticError")⟩, ⟨PyData.keyHash P "AssertionError", (.str "AssertionError" 89), (.type "AssertionError")⟩, ⟨PyData.keyHash P "AttributeError", (.str "AttributeError" 90), (.type "AttributeError")⟩, ⟨PyData.keyHash P "BufferError", (.str "BufferError" 91), (.type "BufferError")⟩, ⟨PyData.keyHash P "EOFError", (.str "EOFError" 92), (.type "EOFError")⟩, ⟨PyData.keyHash P "ImportError", (.str "ImportError" 93), (.type "ImportError")⟩, ⟨PyData.keyHash P "LookupError", (.str "LookupError" 94), (.type "LookupError")⟩, ⟨PyData.keyHash P "MemoryError", (.str "MemoryError" 95), (.type "MemoryError")⟩, ⟨PyData.keyHash P "NameError", (.str "NameError" 96), (.type "NameError")⟩, ⟨PyData.keyHash P "OSError", (.str "OSError" 97), (.type "OSError")⟩, ⟨PyData.keyHash P "ReferenceError", (.str "ReferenceError" 98), (.type "ReferenceError")⟩, ⟨PyData.keyHash P "RuntimeError", (.str "RuntimeError" 99), (.type "RuntimeError")⟩, ⟨PyData.keyHash P "StopAsyncIteration", (.str "StopAsyncIteration" 100), (.type "StopAsyncIteration")⟩, ⟨PyData.keyHash P "StopIteration", (.str "StopIteration" 101), (.type "StopIteration")⟩, ⟨PyData.keyHash P "SyntaxError", (.str "SyntaxError" 102), (.type "SyntaxError")⟩, ⟨PyData.keyHash P "SystemError", (.str "SystemError" 103), (.type "SystemError")⟩, ⟨PyData.keyHash P "TypeError", (.str "TypeError" 104), (.type "TypeError")⟩, ⟨PyData.keyHash P "ValueError", (.str "ValueError" 105), (.type "ValueError")⟩, ⟨PyData.keyHash P "Warning", (.str "Warning" 106), (.type "Warning")⟩, ⟨PyData.keyHash P "FloatingPointError", (.str "FloatingPointError" 107), (.type "FloatingPointError")⟩, ⟨PyData.keyHash P "OverflowError", (.str "OverflowError" 108), (.type "OverflowError")⟩, ⟨PyData.keyHash P "ZeroDivisionError", (.str "ZeroDivisionError" 109), (.type "ZeroDivisionError")⟩, ⟨PyData.keyHash P "BytesWarning", (.str "BytesWarning" 110), (.type "BytesWarning")⟩, ⟨PyData.keyHash P "DeprecationWarning", (.str "DeprecationWarning" 111), (.type "DeprecationWarning")⟩, ⟨PyData.keyHash P "EncodingWarning", (.str "EncodingWarning" 112), (.type "EncodingWarning")⟩, ⟨PyData.keyHash P "FutureWarning", (.str "FutureWarning" 113), (.type "FutureWarning")⟩, ⟨PyData.keyHash P "ImportWarning", (.str "ImportWarning" 114), (.type "ImportWarning")⟩, ⟨PyData.keyHash P "PendingDeprecationWarning", (.str "PendingDeprecationWarning" 115), (.type "PendingDeprecationWarning")⟩, ⟨PyData.keyHash P "ResourceWarning", (.str "ResourceWarning" 116), (.type "ResourceWarning")⟩, ⟨PyData.keyHash P "RuntimeWarning", (.str "RuntimeWarning" 117), (.type "RuntimeWarning")⟩, ⟨PyData.keyHash P "SyntaxWarning", (.str "SyntaxWarning" 118), (.type "SyntaxWarning")⟩, ⟨PyData.keyHash P "UnicodeWarning", (.str "UnicodeWarning" 119), (.type "UnicodeWarning")⟩, ⟨PyData.keyHash P "UserWarning", (.str "UserWarning" 120), (.type "UserWarning")⟩, ⟨PyData.keyHash P "BlockingIOError", (.str "BlockingIOError" 121), (.type "BlockingIOError")⟩, ⟨PyData.keyHash P "ChildProcessError", (.str "ChildProcessError" 122), (.type "ChildProcessError")⟩, ⟨PyData.keyHash P "ConnectionError", (.str "ConnectionError" 123), (.type "ConnectionError")⟩, ⟨PyData.keyHash P "FileExistsError", (.str "FileExistsError" 124), (.type "FileExistsError")⟩, ⟨PyData.keyHash P "FileNotFoundError", (.str "FileNotFoundError" 125), (.type "FileNotFoundError")⟩, ⟨PyData.keyHash P "InterruptedError", (.str "InterruptedError" 126), (.type "InterruptedError")⟩, ⟨PyData.keyHash P "IsADirectoryError", (.str "IsADirectoryError" 127), (.type "IsADirectoryError")⟩, ⟨PyData.keyHash P "NotADirectoryError", (.str "NotADirectoryError" 128), (.type "NotADirectoryError")⟩, ⟨PyData.keyHash P "PermissionError", (.str "PermissionError" 129), (.type "PermissionError")⟩, ⟨PyData.keyHash P "ProcessLookupError", (.str "ProcessLookupError" 130), (.type "ProcessLookupError")⟩, ⟨PyData.keyHash P "TimeoutError", (.str "TimeoutError" 131), (.type "TimeoutError")⟩, ⟨PyData.keyHash P "IndentationError", (.str "IndentationError" 132), (.type "IndentationError")⟩, ⟨PyData.keyHash P "_IncompleteInputError", (.str "_IncompleteInputError" 133), (.type "_IncompleteInputError")⟩, ⟨PyData.keyHash P "IndexError", (.str "IndexError" 134), (.type "IndexError")⟩, ⟨PyData.keyHash P "KeyError", (.str "KeyError" 135), (.type "KeyError")⟩, ⟨PyData.keyHash P "ModuleNotFoundError", (.str "ModuleNotFoundError" 136), (.type "ModuleNotFoundError")⟩, ⟨PyData.keyHash P "NotImplementedError", (.str "NotImplementedError" 137), (.type "NotImplementedError")⟩, ⟨PyData.keyHash P "PythonFinalizationError", (.str "PythonFinalizationError" 138), (.type "PythonFinalizationError")⟩, ⟨PyData.keyHash P "RecursionError", (.str "RecursionError" 139), (.type "RecursionError")⟩, ⟨PyData.keyHash P "UnboundLocalError", (.str "UnboundLocalError" 140), (.type "UnboundLocalError")⟩, ⟨PyData.keyHash P "UnicodeError", (.str "UnicodeError" 141), (.type "UnicodeError")⟩, ⟨PyData.keyHash P "BrokenPipeError", (.str "BrokenPipeError" 142), (.type "BrokenPipeError")⟩, ⟨PyData.keyHash P "ConnectionAbortedError", (.str "ConnectionAbortedError" 143), (.type "ConnectionAbortedError")⟩, ⟨PyData.keyHash P "ConnectionRefusedError", (.str "ConnectionRefusedError" 144), (.type "ConnectionRefusedError")⟩, ⟨PyData.keyHash P "ConnectionResetError", (.str "ConnectionResetError" 145), (.type "ConnectionResetError")⟩, ⟨PyData.keyHash P "TabError", (.str "TabError" 146), (.type "TabError")⟩, ⟨PyData.keyHash P "UnicodeDecodeError", (.str "UnicodeDecodeError" 147), (.type "UnicodeDecodeError")⟩, ⟨PyData.keyHash P "UnicodeEncodeError", (.str "UnicodeEncodeError" 148), (.type "UnicodeEncodeError")⟩, ⟨PyData.keyHash P "UnicodeTranslateError", (.str "UnicodeTranslateError" 149), (.type "UnicodeTranslateError")⟩, ⟨PyData.keyHash P "ExceptionGroup", (.str "ExceptionGroup" 150), (.type "ExceptionGroup")⟩, ⟨PyData.keyHash P "EnvironmentError", (.str "EnvironmentError" 151), (.type "OSError")⟩, ⟨PyData.keyHash P "IOError", (.str "IOError" 152), (.type "OSError")⟩, ⟨PyData.keyHash P "open", (.str "open" 153), (.builtin "open")⟩, ⟨PyData.keyHash P "quit", (.str "quit" 154), (.builtin "builtins.quit#opaque")⟩, ⟨PyData.keyHash P "exit", (.str "exit" 155), (.builtin "builtins.exit#opaque")⟩, ⟨PyData.keyHash P "copyright", (.str "copyright" 156), (.builtin "builtins.copyright#opaque")⟩, ⟨PyData.keyHash P "credits", (.str "credits" 157), (.builtin "builtins.credits#opaque")⟩, ⟨PyData.keyHash P "license", (.str "license" 158), (.builtin "builtins.license#opaque")⟩, ⟨PyData.keyHash P "help", (.str "help" 159), (.builtin "builtins.help#opaque")⟩] 159), #[]⟩),
  (1, ⟨(.type "dict"), none, (.dict #[⟨PyData.keyHash P "builtins", (.str "builtins" 162), (.ref 4)⟩, ⟨PyData.keyHash P "__main__", (.str "__main__" 163), (.ref 5)⟩] 2), #[]⟩),
  (2, ⟨.none, none, (.dict #[⟨PyData.keyHash P "type.__subclasses__.Exception.0", (.str "type.__subclasses__.Exception.0" 361), (.int (134) 0)⟩, ⟨PyData.keyHash P "type.__subclasses__.Exception.n", (.str "type.__subclasses__.Exception.n" 362), (.int (1) 0)⟩] 2), #[]⟩),
  (3, ⟨(.type "dict"), none, (.dict #[⟨PyData.keyHash P "__name__", (.str "__name__" 165), (.str "law_et5013_01" 777)⟩, ⟨PyData.keyHash P "__doc__", (.str "__doc__" 166), .none⟩, ⟨PyData.keyHash P "__package__", (.str "__package__" 167), .none⟩, ⟨PyData.keyHash P "__loader__", (.str "__loader__" 168), (.builtin "__main__.__loader__#opaque")⟩, ⟨PyData.keyHash P "__spec__", (.str "__spec__" 169), .none⟩, ⟨PyData.keyHash P "__annotations__", (.str "__annotations__" 170), (.ref 6)⟩, ⟨PyData.keyHash P "__builtins__", (.str "__builtins__" 171), (.ref 4)⟩, ⟨PyData.keyHash P "__file__", (.str "__file__" 173), (.str "/claim/cut.py" 172)⟩, ⟨PyData.keyHash P "__cached__", (.str "__cached__" 174), .none⟩, ⟨PyData.keyHash P "_wall", (.str "_wall" 193), (.ref 21)⟩, ⟨PyData.keyHash P "VALID_XDATA_GROUP_CODES", (.str "VALID_XDATA_GROUP_CODES" 226), (.ref 22)⟩, ⟨PyData.keyHash P "DXFTag", (.str "DXFTag" 334), (.ref 113)⟩, ⟨PyData.keyHash P "dxftag", (.str "dxftag" 342), (.ref 124)⟩, ⟨PyData.keyHash P "DXFError", (.str "DXFError" 364), (.ref 134)⟩, ⟨PyData.keyHash P "DXFValueError", (.str "DXFValueError" 380), (.ref 147)⟩, ⟨PyData.keyHash P "XDATA_MARKER", (.str "XDATA_MARKER" 382), (.int (1001) 381)⟩, ⟨PyData.keyHash P "Tags", (.str "Tags" 606), (.ref 323)⟩, ⟨PyData.keyHash P "filter_invalid_xdata_group_codes", (.str "filter_invalid_xdata_group_codes" 615), (.ref 334)⟩, ⟨PyData.keyHash P "has_valid_xdata_group_codes", (.str "has_valid_xdata_group_codes" 624), (.ref 341)⟩, ⟨PyData.keyHash P "XData", (.str "XData" 776), (.ref 451)⟩, ⟨PyData.keyHash P "_law_ids", (.str "_law_ids" 784), (.ref 462)⟩, ⟨PyData.keyHash P "_law_valid", (.str "_law_valid" 790), (.ref 469)⟩, ⟨PyData.keyHash P "_law_rows", (.str "_law_rows" 805), (.ref 482)⟩, ⟨PyData.keyHash P "_law_wrong", (.str "_law_wrong" 811), (.ref 489)⟩, ⟨PyData.keyHash P "_law_more", (.str "_law_more" 829), (.ref 490)⟩, ⟨PyData.keyHash P "_law_pairs", (.str "_law_pairs" 835), (.ref 495)⟩, ⟨PyData.keyHash P "_law_tags", (.str "_law_tags" 841), (.ref 500)⟩, ⟨PyData.keyHash P "_law_same", (.str "_law_same" 847), (.ref 505)⟩, ⟨PyData.keyHash P "_law_put", (.str "_law_put" 857), (.ref 512)⟩, ⟨PyData.keyHash P "_law_take", (.str "_law_take" 863), (.ref 517)⟩, ⟨PyData.keyHash P "_law_refused", (.str "_law_refused" 871), (.ref 524)⟩, ⟨PyData.keyHash P "_law_no_get", (.str "_law_no_get" 879), (.ref 531)⟩, ⟨PyData.keyHash P "_law_no_add", (.str "_law_no_add" 888), (.ref 538)⟩, ⟨PyData.keyHash P "law", (.str "law" 894), (.ref 543)⟩] 34), #[]⟩),
  (4, ⟨(.type "module"), (some 0), .plain, #[]⟩),
  (22, ⟨(.type "set"), none, (.set #[(1000, (.int (1000) 196)), (1001, (.int (1001) 197)), (1002, (.int (1002) 198)), (1003, (.int (1003) 199)), (1004, (.int (1004) 200)), (1005, (.int (1005) 201)), (1070, (.int (1070) 209)), (1071, (.int (1071) 210)), (1040, (.int (1040) 206)), (1041, (.int (1041) 207)), (1010, (.int (1010) 202)), (1011, (.int (1011) 203)), (1012, (.int (1012) 204)), (1013, (.int (1013) 205)), (1042, (.int (1042) 208))] 17 ⟨31, #[8, 9, 10, 11, 12, 13, 14, 15, 16, 17, 18, 19, 20, 21, 22], #[], 0, false, 1, true⟩), #[]⟩),
  (36, ⟨(.type "code"), none, (.fields #[(.str "__init__" 242), (.str "DXFTag.__init__" 243), (.str "/claim/cut.py" 244), (.int (9) 0), (.int (3) 0), (.int (0) 0), (.int (0) 0), (.int (3) 0), (.ref 31), (.bool true), (.int (181) 0), (.ref 32), .none, (.ref 33), (.ref 34), (.ref 35), (.int (248) 0), (.int (9) 0), (.str "/claim/cut.py" 249)]), #[]⟩),
  (37, ⟨(.type "function"), none, (.func (fnX "__init__" "DXFTag.__init__" (argsOf (st2 3 1)) (bodyOf (st2 3 1)) (scopeOf (st2 3 1)) [] .none .none .none (.str "ezdxf.lldxf.types" 194) none (.ref 36) .none)), #[]⟩),
  (43, ⟨(.type "code"), none, (.fields #[(.str "__str__" 251), (.str "DXFTag.__str__" 252), (.str "/claim/cut.py" 253), (.int (13) 0), (.int (1) 0), (.int (0) 0), (.int (0) 0), (.int (3) 0), (.ref 38), (.bool true), (.int (181) 0), (.ref 39), .none, (.ref 40), (.ref 41), (.ref 42), (.int (255) 0), (.int (13) 0), (.str "/claim/cut.py" 256)]), #[]⟩),
  (44, ⟨(.type "function"), none, (.func (fnX "__str__" "DXFTag.__str__" (argsOf (st2 3 2)) (bodyOf (st2 3 2)) (scopeOf (st2 3 2)) [] .none .none .none (.str "ezdxf.lldxf.types" 194) none (.ref 43) .none)), #[]⟩),
  (50, ⟨(.type "code"), none, (.fields #[(.str "__repr__" 258), (.str "DXFTag.__repr__" 259), (.str "/claim/cut.py" 260), (.int (16) 0), (.int (1) 0), (.int (0) 0), (.int (0) 0), (.int (3) 0), (.ref 45), (.bool true), (.int (181) 0), (.ref 46), .none, (.ref 47), (.ref 48), (.ref 49), (.int (262) 0), (.int (16) 0), (.str "/claim/cut.py" 263)]), #[]⟩),
  (51, ⟨(.type "function"), none, (.func (fnX "__repr__" "DXFTag.__repr__" (argsOf (st2 3 3)) (bodyOf (st2 3 3)) (scopeOf (st2 3 3)) [] .none .none .none (.str "ezdxf.lldxf.types" 194) none (.ref 50) .none)), #[]⟩),
  (57, ⟨(.type "code"), none, (.fields #[(.str "code" 265), (.str "DXFTag.code" 266), (.str "/claim/cut.py" 267), (.int (19) 0), (.int (1) 0), (.int (0) 0), (.int (0) 0), (.int (3) 0), (.ref 52), (.bool true), (.int (181) 0), (.ref 53), .none, (.ref 54), (.ref 55), (.ref 56), (.int (269) 0), (.int (19) 0), (.str "/claim/cut.py" 270)]), #[]⟩),
  (58, ⟨(.type "function"), none, (.func (fnX "code" "DXFTag.code" (argsOf (st2 3 4)) (bodyOf (st2 3 4)) (scopeOf (st2 3 4)) [] .none .none .none (.str "ezdxf.lldxf.types" 194) none (.ref 57) .none)), #[]⟩),
  (59, ⟨(.type "property"), none, (.fields #[(.ref 58), .none, .none, .none, (.str "code" 272), (.bool false)]), #[]⟩),
  (65, ⟨(.type "code"), none, (.fields #[(.str "value" 273), (.str "DXFTag.value" 274), (.str "/claim/cut.py" 275), (.int (23) 0), (.int (1) 0), (.int (0) 0), (.int (0) 0), (.int (3) 0), (.ref 60), (.bool true), (.int (181) 0), (.ref 61), .none, (.ref 62), (.ref 63), (.ref 64), (.int (277) 0), (.int (23) 0), (.str "/claim/cut.py" 278)]), #[]⟩),
  (66, ⟨(.type "function"), none, (.func (fnX "value" "DXFTag.value" (argsOf (st2 3 5)) (bodyOf (st2 3 5)) (scopeOf (st2 3 5)) [] .none .none .none (.str "ezdxf.lldxf.types" 194) none (.ref 65) .none)), #[]⟩),
  (67, ⟨(.type "property"), none, (.fields #[(.ref 66), .none, .none, .none, (.str "value" 280), (.bool false)]), #[]⟩),
  (80, ⟨(.type "code"), none, (.fields #[(.str "__iter__" 289), (.str "DXFTag.__iter__" 290), (.str "/claim/cut.py" 291), (.int (30) 0), (.int (1) 0), (.int (0) 0), (.int (0) 0), (.int (35) 0), (.ref 75), (.bool true), (.int (181) 0), (.ref 76), .none, (.ref 77), (.ref 78), (.ref 79), (.int (293) 0), (.int (30) 0), (.str "/claim/cut.py" 294)]), #[]⟩),
  (81, ⟨(.type "function"), none, (.func (fnX "__iter__" "DXFTag.__iter__" (argsOf (st2 3 7)) (bodyOf (st2 3 7)) (scopeOf (st2 3 7)) [] .none .none .none (.str "ezdxf.lldxf.types" 194) none (.ref 80) .none)), #[]⟩),
  (87, ⟨(.type "code"), none, (.fields #[(.str "__eq__" 296), (.str "DXFTag.__eq__" 297), (.str "/claim/cut.py" 298), (.int (34) 0), (.int (2) 0), (.int (0) 0), (.int (0) 0), (.int (3) 0), (.ref 82), (.bool true), (.int (181) 0), (.ref 83), .none, (.ref 84), (.ref 85), (.ref 86), (.int (301) 0), (.int (34) 0), (.str "/claim/cut.py" 302)]), #[]⟩),
  (88, ⟨(.type "function"), none, (.func (fnX "__eq__" "DXFTag.__eq__" (argsOf (st2 3 8)) (bodyOf (st2 3 8)) (scopeOf (st2 3 8)) [] .none .none .none (.str "ezdxf.lldxf.types" 194) none (.ref 87) .none)), #[]⟩),
  (112, ⟨(.type "dict"), none, (.dict #[⟨PyData.keyHash P "__module__", (.str "__module__" 234), (.str "ezdxf.lldxf.types" 194)⟩, ⟨PyData.keyHash P "__firstlineno__", (.str "__firstlineno__" 238), (.int (6) 237)⟩, ⟨PyData.keyHash P "__slots__", (.str "__slots__" 241), (.ref 30)⟩, ⟨PyData.keyHash P "__init__", (.str "__init__" 250), (.ref 37)⟩, ⟨PyData.keyHash P "__str__", (.str "__str__" 257), (.ref 44)⟩, ⟨PyData.keyHash P "__repr__", (.str "__repr__" 264), (.ref 51)⟩, ⟨PyData.keyHash P "code", (.str "code" 272), (.ref 59)⟩, ⟨PyData.keyHash P "value", (.str "value" 280), (.ref 67)⟩, ⟨PyData.keyHash P "__getitem__", (.str "__getitem__" 288), (.ref 74)⟩, ⟨PyData.keyHash P "__iter__", (.str "__iter__" 295), (.ref 81)⟩, ⟨PyData.keyHash P "__eq__", (.str "__eq__" 303), (.ref 88)⟩, ⟨PyData.keyHash P "__hash__", (.str "__hash__" 310), (.ref 95)⟩, ⟨PyData.keyHash P "dxfstr", (.str "dxfstr" 317), (.ref 102)⟩, ⟨PyData.keyHash P "clone", (.str "clone" 324), (.ref 109)⟩, ⟨PyData.keyHash P "__static_attributes__", (.str "__static_attributes__" 327), (.ref 110)⟩, ⟨PyData.keyHash P "_code", (.str "_code" 329), (.ref 114)⟩, ⟨PyData.keyHash P "_value", (.str "_value" 331), (.ref 115)⟩, ⟨PyData.keyHash P "__doc__", (.str "__doc__" 332), .none⟩] 4), #[]⟩),
  (113, ⟨(.type "type"), none, (.cls { name := "DXFTag", bases := [(.type "object")], mro := [(.ref 113), (.type "object")], ns := 112, qualname := "DXFTag", hasDict := false, slotNames := ["_code", "_value"], subclasses := [], abstract := false, collection := none, hasDel := false }), #[none, none, (some (.str "DXFTag" 227)), (some (.str "DXFTag" 235)), (some (.builtin "object.__new__")), (some (.bool false))]⟩),
  (114, ⟨(.type "member_descriptor"), none, (.fields #[(.str "_code" 328), (.ref 113), (.builtin "proto.slot"), (.builtin "proto.slot#set"), (.int (1) 0)]), #[]⟩),
  (115, ⟨(.type "member_descriptor"), none, (.fields #[(.str "_value" 330), (.ref 113), (.builtin "proto.slot"), (.builtin "proto.slot#set"), (.int (0) 0)]), #[]⟩),
  (123, ⟨(.type "code"), none, (.fields #[(.str "dxftag" 335), (.str "dxftag" 336), (.str "/claim/cut.py" 337), (.int (45) 0), (.int (2) 0), (.int (0) 0), (.int (0) 0), (.int (3) 0), (.ref 118), (.bool true), (.int (181) 0), (.ref 119), .none, (.ref 120), (.ref 121), (.ref 122), (.int (340) 0), (.int (45) 0), (.str "/claim/cut.py" 341)]), #[]⟩),
  (124, ⟨(.type "function"), none, (.func (fnX "dxftag" "dxftag" (argsOf (st1 4)) (bodyOf (st1 4)) (scopeOf (st1 4)) [] .none .none .none (.str "ezdxf.lldxf.types" 194) none (.ref 123) .none)), #[]⟩),
  (133, ⟨(.type "dict"), none, (.dict #[⟨PyData.keyHash P "__module__", (.str "__module__" 352), (.str "ezdxf.lldxf.const" 343)⟩, ⟨PyData.keyHash P "__firstlineno__", (.str "__firstlineno__" 356), (.int (48) 355)⟩, ⟨PyData.keyHash P "__static_attributes__", (.str "__static_attributes__" 357), (.ref 132)⟩, ⟨PyData.keyHash P "__weakref__", (.str "__weakref__" 359), (.ref 135)⟩, ⟨PyData.keyHash P "__doc__", (.str "__doc__" 360), .none⟩] 3), #[]⟩),
  (134, ⟨(.type "type"), none, (.cls { name := "DXFError", bases := [(.type "Exception")], mro := [(.ref 134), (.type "Exception"), (.type "BaseException"), (.type "object")], ns := 133, qualname := "DXFError", hasDict := true, slotNames := [], subclasses := [(.ref 147)], abstract := false, collection := none, hasDel := false }), #[(some (.ref 125)), none, (some (.str "DXFError" 345)), (some (.str "DXFError" 353)), (some (.builtin "Exception.__new__")), (some (.bool true))]⟩),
  (146, ⟨(.type "dict"), none, (.dict #[⟨PyData.keyHash P "__module__", (.str "__module__" 372), (.str "ezdxf.lldxf.const" 343)⟩, ⟨PyData.keyHash P "__firstlineno__", (.str "__firstlineno__" 376), (.int (50) 375)⟩, ⟨PyData.keyHash P "__static_attributes__", (.str "__static_attributes__" 377), (.ref 145)⟩, ⟨PyData.keyHash P "__doc__", (.str "__doc__" 378), .none⟩] 2), #[]⟩),
  (147, ⟨(.type "type"), none, (.cls { name := "DXFValueError", bases := [(.ref 134)], mro := [(.ref 147), (.ref 134), (.type "Exception"), (.type "BaseException"), (.type "object")], ns := 146, qualname := "DXFValueError", hasDict := true, slotNames := [], subclasses := [], abstract := false, collection := none, hasDel := false }), #[(some (.ref 138)), none, (some (.str "DXFValueError" 365)), (some (.str "DXFValueError" 373)), (some (.builtin "Exception.__new__")), (some (.bool true))]⟩),
  (322, ⟨(.type "dict"), none, (.dict #[⟨PyData.keyHash P "__module__", (.str "__module__" 392), (.str "ezdxf.lldxf.tags" 383)⟩, ⟨PyData.keyHash P "__firstlineno__", (.str "__firstlineno__" 396), (.int (54) 395)⟩, ⟨PyData.keyHash P "from_tuples", (.str "from_tuples" 416), (.ref 165)⟩, ⟨PyData.keyHash P "__copy__", (.str "__copy__" 423), (.ref 173)⟩, ⟨PyData.keyHash P "clone", (.str "clone" 424), (.ref 173)⟩, ⟨PyData.keyHash P "get_handle", (.str "get_handle" 431), (.ref 180)⟩, ⟨PyData.keyHash P "replace_handle", (.str "replace_handle" 439), (.ref 187)⟩, ⟨PyData.keyHash P "dxftype", (.str "dxftype" 446), (.ref 194)⟩, ⟨PyData.keyHash P "has_tag", (.str "has_tag" 454), (.ref 201)⟩, ⟨PyData.keyHash P "get_first_value", (.str "get_first_value" 463), (.ref 209)⟩, ⟨PyData.keyHash P "get_first_tag", (.str "get_first_tag" 472), (.ref 217)⟩, ⟨PyData.keyHash P "find_all", (.str "find_all" 480), (.ref 224)⟩, ⟨PyData.keyHash P "tag_index", (.str "tag_index" 491), (.ref 232)⟩, ⟨PyData.keyHash P "update", (.str "update" 499), (.ref 239)⟩, ⟨PyData.keyHash P "set_first", (.str "set_first" 507), (.ref 246)⟩, ⟨PyData.keyHash P "remove_tags", (.str "remove_tags" 515), (.ref 253)⟩, ⟨PyData.keyHash P "pop_tags", (.str "pop_tags" 523), (.ref 260)⟩, ⟨PyData.keyHash P "remove_tags_except", (.str "remove_tags_except" 531), (.ref 267)⟩, ⟨PyData.keyHash P "collect_consecutive_tags", (.str "collect_consecutive_tags" 542), (.ref 275)⟩, ⟨PyData.keyHash P "has_embedded_objects", (.str "has_embedded_objects" 549), (.ref 282)⟩, ⟨PyData.keyHash P "strip", (.str "strip" 570), (.ref 291)⟩, ⟨PyData.keyHash P "get_soft_pointers", (.str "get_soft_pointers" 577), (.ref 299)⟩, ⟨PyData.keyHash P "get_hard_pointers", (.str "get_hard_pointers" 584), (.ref 306)⟩, ⟨PyData.keyHash P "get_soft_owner_handles", (.str "get_soft_owner_handles" 591), (.ref 313)⟩, ⟨PyData.keyHash P "get_hard_owner_handles", (.str "get_hard_owner_handles" 598), (.ref 320)⟩, ⟨PyData.keyHash P "__static_attributes__", (.str "__static_attributes__" 599), (.ref 321)⟩, ⟨PyData.keyHash P "__dict__", (.str "__dict__" 601), (.ref 324)⟩, ⟨PyData.keyHash P "__weakref__", (.str "__weakref__" 603), (.ref 325)⟩, ⟨PyData.keyHash P "__doc__", (.str "__doc__" 604), .none⟩] 4), #[]⟩),
  (323, ⟨(.type "type"), none, (.cls { name := "Tags", bases := [(.type "list")], mro := [(.ref 323), (.type "list"), (.type "object")], ns := 322, qualname := "Tags", hasDict := true, slotNames := [], subclasses := [], abstract := false, collection := none, hasDel := false }), #[(some (.ref 150)), none, (some (.str "Tags" 385)), (some (.str "Tags" 393)), (some (.builtin "list.__new__")), (some (.bool true))]⟩),
  (333, ⟨(.type "code"), none, (.fields #[(.str "filter_invalid_xdata_group_codes" 609), (.str "filter_invalid_xdata_group_codes" 610), (.str "/claim/cut.py" 611), (.int (125) 0), (.int (1) 0), (.int (0) 0), (.int (0) 0), (.int (3) 0), (.ref 328), (.bool true), (.int (181) 0), (.ref 329), .none, (.ref 330), (.ref 331), (.ref 332), (.int (613) 0), (.int (125) 0), (.str "/claim/cut.py" 614)]), #[]⟩),
  (334, ⟨(.type "function"), none, (.func (fnX "filter_invalid_xdata_group_codes" "filter_invalid_xdata_group_codes" (argsOf (st1 12)) (bodyOf (st1 12)) (scopeOf (st1 12)) [] .none .none .none (.str "ezdxf.lldxf.repair" 607) none (.ref 333) .none)), #[]⟩),
  (340, ⟨(.type "code"), none, (.fields #[(.str "has_valid_xdata_group_codes" 618), (.str "has_valid_xdata_group_codes" 619), (.str "/claim/cut.py" 620), (.int (128) 0), (.int (1) 0), (.int (0) 0), (.int (0) 0), (.int (3) 0), (.ref 335), (.bool true), (.int (181) 0), (.ref 336), .none, (.ref 337), (.ref 338), (.ref 339), (.int (622) 0), (.int (128) 0), (.str "/claim/cut.py" 623)]), #[]⟩),
  (341, ⟨(.type "function"), none, (.func (fnX "has_valid_xdata_group_codes" "has_valid_xdata_group_codes" (argsOf (st1 14)) (bodyOf (st1 14)) (scopeOf (st1 14)) [] .none .none .none (.str "ezdxf.entities.xdata" 616) none (.ref 340) .none)), #[]⟩),
  (349, ⟨(.type "tuple"), none, (.seq #[.none] 0), #[]⟩),
  (355, ⟨(.type "code"), none, (.fields #[(.str "__init__" 637), (.str "XData.__init__" 638), (.str "/claim/cut.py" 639), (.int (132) 0), (.int (2) 0), (.int (0) 0), (.int (0) 0), (.int (3) 0), (.ref 350), (.bool true), (.int (181) 0), (.ref 351), .none, (.ref 352), (.ref 353), (.ref 354), (.int (643) 0), (.int (132) 0), (.str "/claim/cut.py" 644)]), #[]⟩),
  (356, ⟨(.type "function"), none, (.func (fnX "__init__" "XData.__init__" (argsOf (st2 15 0)) (bodyOf (st2 15 0)) (scopeOf (st2 15 0)) [] (.ref 349) .none .none (.str "ezdxf.entities.xdata" 616) none (.ref 355) .none)), #[]⟩),
  (360, ⟨(.type "code"), none, (.fields #[(.str "safe_init" 646), (.str "XData.safe_init" 647), (.str "/claim/cut.py" 648), (.int (138) 0), (.int (2) 0), (.int (0) 0), (.int (0) 0), (.int (3) 0), (.ref 357), (.bool true), (.int (181) 0), (.ref 358), .none, .none, .none, (.ref 359), (.int (649) 0), (.int (138) 0), (.str "/claim/cut.py" 650)]), #[]⟩),
  (361, ⟨(.type "function"), none, (.func (fnX "safe_init" "XData.safe_init" (argsOf (st2 15 1)) (bodyOf (st2 15 1)) (scopeOf (st2 15 1)) [] .none .none .none (.str "ezdxf.entities.xdata" 616) (some 364) (.ref 360) .none)), #[]⟩),
  (362, ⟨(.type "dict"), none, (.dict #[⟨PyData.keyHash P "__module__", (.str "__module__" 652), (.str "ezdxf.entities.xdata" 616)⟩, ⟨PyData.keyHash P "__name__", (.str "__name__" 655), (.str "safe_init" 654)⟩, ⟨PyData.keyHash P "__qualname__", (.str "__qualname__" 658), (.str "XData.safe_init" 657)⟩, ⟨PyData.keyHash P "__doc__", (.str "__doc__" 660), .none⟩, ⟨PyData.keyHash P "__annotations__", (.str "__annotations__" 662), (.ref 364)⟩] 5), #[]⟩),
  (363, ⟨(.type "classmethod"), (some 362), (.fields #[(.ref 361), (.bool false)]), #[]⟩),
  (370, ⟨(.type "code"), none, (.fields #[(.str "__len__" 664), (.str "XData.__len__" 665), (.str "/claim/cut.py" 666), (.int (142) 0), (.int (1) 0), (.int (0) 0), (.int (0) 0), (.int (3) 0), (.ref 365), (.bool true), (.int (181) 0), (.ref 366), .none, (.ref 367), (.ref 368), (.ref 369), (.int (668) 0), (.int (142) 0), (.str "/claim/cut.py" 669)]), #[]⟩),
  (371, ⟨(.type "function"), none, (.func (fnX "__len__" "XData.__len__" (argsOf (st2 15 2)) (bodyOf (st2 15 2)) (scopeOf (st2 15 2)) [] .none .none .none (.str "ezdxf.entities.xdata" 616) none (.ref 370) .none)), #[]⟩),
  (377, ⟨(.type "code"), none, (.fields #[(.str "__contains__" 671), (.str "XData.__contains__" 672), (.str "/claim/cut.py" 673), (.int (145) 0), (.int (2) 0), (.int (0) 0), (.int (0) 0), (.int (3) 0), (.ref 372), (.bool true), (.int (181) 0), (.ref 373), .none, (.ref 374), (.ref 375), (.ref 376), (.int (676) 0), (.int (145) 0), (.str "/claim/cut.py" 677)]), #[]⟩),
  (378, ⟨(.type "function"), none, (.func (fnX "__contains__" "XData.__contains__" (argsOf (st2 15 3)) (bodyOf (st2 15 3)) (scopeOf (st2 15 3)) [] .none .none .none (.str "ezdxf.entities.xdata" 616) none (.ref 377) .none)), #[]⟩),
  (391, ⟨(.type "code"), none, (.fields #[(.str "_add" 686), (.str "XData._add" 687), (.str "/claim/cut.py" 688), (.int (151) 0), (.int (2) 0), (.int (0) 0), (.int (0) 0), (.int (3) 0), (.ref 386), (.bool true), (.int (181) 0), (.ref 387), .none, (.ref 388), (.ref 389), (.ref 390), (.int (692) 0), (.int (151) 0), (.str "/claim/cut.py" 693)]), #[]⟩),
  (392, ⟨(.type "function"), none, (.func (fnX "_add" "XData._add" (argsOf (st2 15 5)) (bodyOf (st2 15 5)) (scopeOf (st2 15 5)) [] .none .none .none (.str "ezdxf.entities.xdata" 616) none (.ref 391) .none)), #[]⟩),
  (398, ⟨(.type "code"), none, (.fields #[(.str "add" 695), (.str "XData.add" 696), (.str "/claim/cut.py" 697), (.int (160) 0), (.int (3) 0), (.int (0) 0), (.int (0) 0), (.int (3) 0), (.ref 393), (.bool true), (.int (181) 0), (.ref 394), .none, (.ref 395), (.ref 396), (.ref 397), (.int (702) 0), (.int (160) 0), (.str "/claim/cut.py" 703)]), #[]⟩),
  (399, ⟨(.type "function"), none, (.func (fnX "add" "XData.add" (argsOf (st2 15 6)) (bodyOf (st2 15 6)) (scopeOf (st2 15 6)) [] .none .none .none (.str "ezdxf.entities.xdata" 616) none (.ref 398) .none)), #[]⟩),
  (405, ⟨(.type "code"), none, (.fields #[(.str "get" 705), (.str "XData.get" 706), (.str "/claim/cut.py" 707), (.int (166) 0), (.int (2) 0), (.int (0) 0), (.int (0) 0), (.int (3) 0), (.ref 400), (.bool true), (.int (181) 0), (.ref 401), .none, (.ref 402), (.ref 403), (.ref 404), (.int (710) 0), (.int (166) 0), (.str "/claim/cut.py" 711)]), #[]⟩),
  (406, ⟨(.type "function"), none, (.func (fnX "get" "XData.get" (argsOf (st2 15 7)) (bodyOf (st2 15 7)) (scopeOf (st2 15 7)) [] .none .none .none (.str "ezdxf.entities.xdata" 616) none (.ref 405) .none)), #[]⟩),
  (412, ⟨(.type "code"), none, (.fields #[(.str "discard" 713), (.str "XData.discard" 714), (.str "/claim/cut.py" 715), (.int (172) 0), (.int (2) 0), (.int (0) 0), (.int (0) 0), (.int (3) 0), (.ref 407), (.bool true), (.int (181) 0), (.ref 408), .none, (.ref 409), (.ref 410), (.ref 411), (.int (718) 0), (.int (172) 0), (.str "/claim/cut.py" 719)]), #[]⟩),
  (413, ⟨(.type "function"), none, (.func (fnX "discard" "XData.discard" (argsOf (st2 15 8)) (bodyOf (st2 15 8)) (scopeOf (st2 15 8)) [] .none .none .none (.str "ezdxf.entities.xdata" 616) none (.ref 412) .none)), #[]⟩),
  (450, ⟨(.type "dict"), none, (.dict #[⟨PyData.keyHash P "__module__", (.str "__module__" 632), (.str "ezdxf.entities.xdata" 616)⟩, ⟨PyData.keyHash P "__firstlineno__", (.str "__firstlineno__" 636), (.int (130) 635)⟩, ⟨PyData.keyHash P "__init__", (.str "__init__" 645), (.ref 356)⟩, ⟨PyData.keyHash P "safe_init", (.str "safe_init" 663), (.ref 363)⟩, ⟨PyData.keyHash P "__len__", (.str "__len__" 670), (.ref 371)⟩, ⟨PyData.keyHash P "__contains__", (.str "__contains__" 678), (.ref 378)⟩, ⟨PyData.keyHash P "update_keys", (.str "update_keys" 685), (.ref 385)⟩, ⟨PyData.keyHash P "_add", (.str "_add" 694), (.ref 392)⟩, ⟨PyData.keyHash P "add", (.str "add" 704), (.ref 399)⟩, ⟨PyData.keyHash P "get", (.str "get" 712), (.ref 406)⟩, ⟨PyData.keyHash P "discard", (.str "discard" 720), (.ref 413)⟩, ⟨PyData.keyHash P "has_xlist", (.str "has_xlist" 729), (.ref 420)⟩, ⟨PyData.keyHash P "get_xlist", (.str "get_xlist" 738), (.ref 427)⟩, ⟨PyData.keyHash P "set_xlist", (.str "set_xlist" 748), (.ref 434)⟩, ⟨PyData.keyHash P "discard_xlist", (.str "discard_xlist" 757), (.ref 441)⟩, ⟨PyData.keyHash P "replace_xlist", (.str "replace_xlist" 767), (.ref 448)⟩, ⟨PyData.keyHash P "__static_attributes__", (.str "__static_attributes__" 769), (.ref 449)⟩, ⟨PyData.keyHash P "__dict__", (.str "__dict__" 771), (.ref 452)⟩, ⟨PyData.keyHash P "__weakref__", (.str "__weakref__" 773), (.ref 453)⟩, ⟨PyData.keyHash P "__doc__", (.str "__doc__" 774), .none⟩] 4), #[]⟩),
  (451, ⟨(.type "type"), none, (.cls { name := "XData", bases := [(.type "object")], mro := [(.ref 451), (.type "object")], ns := 450, qualname := "XData", hasDict := true, slotNames := [], subclasses := [], abstract := false, collection := none, hasDel := false }), #[none, none, (some (.str "XData" 625)), (some (.str "XData" 633)), (some (.builtin "object.__new__")), (some (.bool true))]⟩),
  (461, ⟨(.type "code"), none, (.fields #[(.str "_law_ids" 779), (.str "_law_ids" 780), (.str "/claim/cut.py" 781), (.int (191) 0), (.int (0) 0), (.int (0) 0), (.int (0) 0), (.int (3) 0), (.ref 456), (.bool true), (.int (181) 0), (.ref 457), .none, (.ref 458), (.ref 459), (.ref 460), (.int (782) 0), (.int (191) 0), (.str "/claim/cut.py" 783)]), #[]⟩),
  (462, ⟨(.type "function"), none, (.func (fnX "_law_ids" "_law_ids" (argsOf (st1 17)) (bodyOf (st1 17)) (scopeOf (st1 17)) [] .none .none .none (.str "law_et5013_01" 777) none (.ref 461) .none)), #[]⟩),
  (468, ⟨(.type "code"), none, (.fields #[(.str "_law_valid" 785), (.str "_law_valid" 786), (.str "/claim/cut.py" 787), (.int (193) 0), (.int (0) 0), (.int (0) 0), (.int (0) 0), (.int (3) 0), (.ref 463), (.bool true), (.int (181) 0), (.ref 464), .none, (.ref 465), (.ref 466), (.ref 467), (.int (788) 0), (.int (193) 0), (.str "/claim/cut.py" 789)]), #[]⟩),
  (469, ⟨(.type "function"), none, (.func (fnX "_law_valid" "_law_valid" (argsOf (st1 18)) (bodyOf (st1 18)) (scopeOf (st1 18)) [] .none .none .none (.str "law_et5013_01" 777) none (.ref 468) .none)), #[]⟩),
  (470, ⟨(.type "tuple"), none, (.seq #[(.int (1000) 791), (.str "s" 792)] 0), #[]⟩),
  (471, ⟨(.type "list"), none, (.seq #[(.ref 470)] 0), #[]⟩),
  (472, ⟨(.type "tuple"), none, (.seq #[(.int (1040) 793), (.str "1" 794)] 0), #[]⟩),
  (473, ⟨(.type "tuple"), none, (.seq #[(.int (1070) 795), (.str "2" 796)] 0), #[]⟩),
  (474, ⟨(.type "list"), none, (.seq #[(.ref 472), (.ref 473)] 0), #[]⟩),
  (475, ⟨(.type "tuple"), none, (.seq #[(.int (1005) 797), (.str "F" 798)] 0), #[]⟩),
  (476, ⟨(.type "tuple"), none, (.seq #[(.int (1000) 799), (.str "P" 800)] 0), #[]⟩),
  (477, ⟨(.type "list"), none, (.seq #[(.ref 475), (.ref 476)] 0), #[]⟩),
  (478, ⟨(.type "list"), none, (.seq #[] 0), #[]⟩),
  (479, ⟨(.type "tuple"), none, (.seq #[(.int (1002) 801), (.str "{" 802)] 0), #[]⟩),
  (480, ⟨(.type "tuple"), none, (.seq #[(.int (1002) 803), (.str "}" 804)] 0), #[]⟩),
  (481, ⟨(.type "list"), none, (.seq #[(.ref 479), (.ref 480)] 0), #[]⟩),
  (482, ⟨(.type "list"), none, (.seq #[(.ref 471), (.ref 474), (.ref 477), (.ref 478), (.ref 481)] 0), #[]⟩),
  (488, ⟨(.type "code"), none, (.fields #[(.str "_law_wrong" 806), (.str "_law_wrong" 807), (.str "/claim/cut.py" 808), (.int (196) 0), (.int (0) 0), (.int (0) 0), (.int (0) 0), (.int (3) 0), (.ref 483), (.bool true), (.int (181) 0), (.ref 484), .none, (.ref 485), (.ref 486), (.ref 487), (.int (809) 0), (.int (196) 0), (.str "/claim/cut.py" 810)]), #[]⟩),
  (489, ⟨(.type "function"), none, (.func (fnX "_law_wrong" "_law_wrong" (argsOf (st1 20)) (bodyOf (st1 20)) (scopeOf (st1 20)) [] .none .none .none (.str "law_et5013_01" 777) none (.ref 488) .none)), #[]⟩),
  (490, ⟨(.type "list"), none, (.seq #[(.int (13) 812), (.int (0) 813), (.int (11) 814), (.int (2) 815), (.int (18) 816), (.int (5) 817), (.int (3) 818), (.int (6) 819), (.int (9) 820), (.int (7) 821), (.int (16) 822), (.int (4) 823), (.int (21) 824), (.int (8) 825), (.int (1) 826), (.int (10) 827), (.int (12) 828)] 0), #[]⟩),
  (494, ⟨(.type "code"), none, (.fields #[(.str "_law_pairs" 830), (.str "_law_pairs" 831), (.str "/claim/cut.py" 832), (.int (199) 0), (.int (1) 0), (.int (0) 0), (.int (0) 0), (.int (3) 0), (.ref 491), (.bool true), (.int (181) 0), (.ref 492), .none, .none, .none, (.ref 493), (.int (833) 0), (.int (199) 0), (.str "/claim/cut.py" 834)]), #[]⟩),
  (495, ⟨(.type "function"), none, (.func (fnX "_law_pairs" "_law_pairs" (argsOf (st1 22)) (bodyOf (st1 22)) (scopeOf (st1 22)) [] .none .none .none (.str "law_et5013_01" 777) none (.ref 494) .none)), #[]⟩),
  (499, ⟨(.type "code"), none, (.fields #[(.str "_law_tags" 836), (.str "_law_tags" 837), (.str "/claim/cut.py" 838), (.int (201) 0), (.int (1) 0), (.int (0) 0), (.int (0) 0), (.int (3) 0), (.ref 496), (.bool true), (.int (181) 0), (.ref 497), .none, .none, .none, (.ref 498), (.int (839) 0), (.int (201) 0), (.str "/claim/cut.py" 840)]), #[]⟩),
  (500, ⟨(.type "function"), none, (.func (fnX "_law_tags" "_law_tags" (argsOf (st1 23)) (bodyOf (st1 23)) (scopeOf (st1 23)) [] .none .none .none (.str "law_et5013_01" 777) none (.ref 499) .none)), #[]⟩),
  (504, ⟨(.type "code"), none, (.fields #[(.str "_law_same" 842), (.str "_law_same" 843), (.str "/claim/cut.py" 844), (.int (203) 0), (.int (2) 0), (.int (0) 0), (.int (0) 0), (.int (3) 0), (.ref 501), (.bool true), (.int (181) 0), (.ref 502), .none, .none, .none, (.ref 503), (.int (845) 0), (.int (203) 0), (.str "/claim/cut.py" 846)]), #[]⟩),
  (505, ⟨(.type "function"), none, (.func (fnX "_law_same" "_law_same" (argsOf (st1 24)) (bodyOf (st1 24)) (scopeOf (st1 24)) [] .none .none .none (.str "law_et5013_01" 777) none (.ref 504) .none)), #[]⟩),
  (511, ⟨(.type "code"), none, (.fields #[(.str "_law_put" 848), (.str "_law_put" 849), (.str "/claim/cut.py" 850), (.int (207) 0), (.int (3) 0), (.int (0) 0), (.int (0) 0), (.int (3) 0), (.ref 506), (.bool true), (.int (181) 0), (.ref 507), .none, (.ref 508), (.ref 509), (.ref 510), (.int (855) 0), (.int (207) 0), (.str "/claim/cut.py" 856)]), #[]⟩),
  (512, ⟨(.type "function"), none, (.func (fnX "_law_put" "_law_put" (argsOf (st1 25)) (bodyOf (st1 25)) (scopeOf (st1 25)) [] .none .none .none (.str "law_et5013_01" 777) none (.ref 511) .none)), #[]⟩),
  (516, ⟨(.type "code"), none, (.fields #[(.str "_law_take" 858), (.str "_law_take" 859), (.str "/claim/cut.py" 860), (.int (214) 0), (.int (2) 0), (.int (0) 0), (.int (0) 0), (.int (3) 0), (.ref 513), (.bool true), (.int (181) 0), (.ref 514), .none, .none, .none, (.ref 515), (.int (861) 0), (.int (214) 0), (.str "/claim/cut.py" 862)]), #[]⟩),
  (517, ⟨(.type "function"), none, (.func (fnX "_law_take" "_law_take" (argsOf (st1 26)) (bodyOf (st1 26)) (scopeOf (st1 26)) [] .none .none .none (.str "law_et5013_01" 777) none (.ref 516) .none)), #[]⟩),
  (523, ⟨(.type "code"), none, (.fields #[(.str "_law_refused" 864), (.str "_law_refused" 865), (.str "/claim/cut.py" 866), (.int (216) 0), (.int (2) 0), (.int (0) 0), (.int (0) 0), (.int (3) 0), (.ref 518), (.bool true), (.int (181) 0), (.ref 519), .none, (.ref 520), (.ref 521), (.ref 522), (.int (869) 0), (.int (216) 0), (.str "/claim/cut.py" 870)]), #[]⟩),
  (524, ⟨(.type "function"), none, (.func (fnX "_law_refused" "_law_refused" (argsOf (st1 27)) (bodyOf (st1 27)) (scopeOf (st1 27)) [] .none .none .none (.str "law_et5013_01" 777) none (.ref 523) .none)), #[]⟩),
  (530, ⟨(.type "code"), none, (.fields #[(.str "_law_no_get" 872), (.str "_law_no_get" 873), (.str "/claim/cut.py" 874), (.int (222) 0), (.int (2) 0), (.int (0) 0), (.int (0) 0), (.int (3) 0), (.ref 525), (.bool true), (.int (181) 0), (.ref 526), .none, (.ref 527), (.ref 528), (.ref 529), (.int (877) 0), (.int (222) 0), (.str "/claim/cut.py" 878)]), #[]⟩),
  (531, ⟨(.type "function"), none, (.func (fnX "_law_no_get" "_law_no_get" (argsOf (st1 28)) (bodyOf (st1 28)) (scopeOf (st1 28)) [] .none .none .none (.str "law_et5013_01" 777) none (.ref 530) .none)), #[]⟩),
  (537, ⟨(.type "code"), none, (.fields #[(.str "_law_no_add" 880), (.str "_law_no_add" 881), (.str "/claim/cut.py" 882), (.int (228) 0), (.int (3) 0), (.int (0) 0), (.int (0) 0), (.int (3) 0), (.ref 532), (.bool true), (.int (181) 0), (.ref 533), .none, (.ref 534), (.ref 535), (.ref 536), (.int (886) 0), (.int (228) 0), (.str "/claim/cut.py" 887)]), #[]⟩),
  (538, ⟨(.type "function"), none, (.func (fnX "_law_no_add" "_law_no_add" (argsOf (st1 29)) (bodyOf (st1 29)) (scopeOf (st1 29)) [] .none .none .none (.str "law_et5013_01" 777) none (.ref 537) .none)), #[]⟩)]
end Mine

namespace Mine

/-- the three tables of code that the calls grow -/
def tabA (a : Addr) : Bool := a == 329 || a == 336 || a == 394

def lows : List Nat := [0, 1, 2, 3, 4, 22, 36, 37, 43, 44, 50, 51, 57, 58, 59, 65, 66, 67, 80, 81, 87, 88, 112, 113, 114, 115, 123, 124, 133, 134, 146, 147, 322, 323, 329, 333, 334, 336, 340, 341, 349, 355, 356, 360, 361, 362, 363, 370, 371, 377, 378, 391, 392, 394, 398, 399, 405, 406, 412, 413, 450, 451, 461, 462, 468, 469, 470, 471, 472, 473, 474, 475, 476, 477, 478, 479, 480, 481, 482, 488, 489, 490, 494, 495, 499, 500, 504, 505, 511, 512, 516, 517, 523, 524, 530, 531, 537, 538]
/-- none of the top's objects that count -/
def Hi (a : Nat) : Prop := lows.contains a = false
theorem Hi.ne {a b : Nat} (h : Hi a) (hb : lows.contains b = true) : b ≠ a := by
  intro e; subst e; unfold Hi at h; rw [hb] at h; cases h

def TabOk (h : Heap) (c P : Addr) : Prop := ∃ ps, h.IsCode c P ps ∧ h.TableAt c P ps
structure Tabs (h : Heap) : Prop where
  t1 : TabOk h 333 329
  t2 : TabOk h 340 336
  t3 : TabOk h 398 394

/-- objects that nothing turns once they are made -/
def Immut (o : Obj) : Prop := (o.cls = .ref 113 ∧ o.data = .plain) ∨ (o.cls = .type "tuple" ∧ ∃ xs n, o.data = .seq xs n)

/-- what a piece of the run keeps, but for the objects of W -/
structure Ex (W : List Addr) (s s' : Shared) : Prop where
  keep : ∀ a o, s.heap.get? a = some o → tabA a = false → a ∉ W → ∃ sl, s'.heap.get? a = some { o with slots := sl } ∧ (True → sl = o.slots)
  im : ∀ a o, s.heap.get? a = some o → Immut o → tabA a = false → s'.heap.get? a = some o
  there : ∀ a o, s.heap.get? a = some o → ∃ o', s'.heap.get? a = some o'
  wlo : ∀ a ∈ W, Hi a
  gsz : s.gens.size ≤ s'.gens.size
  os : s'.os = s.os
  tabs : Tabs s.heap → Tabs s'.heap
  bare : AllBare s.gens → AllBare s'.gens

namespace Ex
variable {W W' : List Addr} {s s' s'' : Shared}
theorem refl (s : Shared) : Ex [] s s := ⟨fun a o e _ _ => ⟨o.slots, e, fun _ => rfl⟩, fun _ _ e _ _ => e, fun _ o e => ⟨o, e⟩, fun a h => absurd h List.not_mem_nil, Nat.le_refl _, rfl, id, id⟩
theorem get (x : Ex W s s') {a : Addr} {o : Obj} (e : s.heap.get? a = some o) (ht : tabA a = false) (hW : a ∉ W) (hf : o.cls ≠ .type "frame") : s'.heap.get? a = some o := by
  obtain ⟨sl, h, q⟩ := x.keep a o e ht hW
  rw [q trivial] at h
  exact h
theorem trans (x : Ex W s s') (y : Ex W' s' s'') : Ex (W ++ W') s s'' := by
  refine ⟨fun a o e ht hW => ?_, fun a o e hi ht => y.im a o (x.im a o e hi ht) hi ht, fun a o e => let ⟨_, e'⟩ := x.there a o e; y.there a _ e', fun a ha => (List.mem_append.mp ha).elim (x.wlo a) (y.wlo a),
    Nat.le_trans x.gsz y.gsz, y.os.trans x.os, fun t => y.tabs (x.tabs t), fun t => y.bare (x.bare t)⟩
  obtain ⟨sl, h, q⟩ := x.keep a o e ht fun m => hW (List.mem_append.mpr (.inl m))
  obtain ⟨sl', h', q'⟩ := y.keep a _ h ht fun m => hW (List.mem_append.mpr (.inr m))
  exact ⟨sl', h', fun hf => (q' hf).trans (q hf)⟩
theorem weaken (x : Ex W s s') (h : ∀ a ∈ W, a ∈ W') (hlo : ∀ a ∈ W', Hi a) : Ex W' s s' :=
  ⟨fun a o e ht hW => x.keep a o e ht fun m => hW (h a m), x.im, x.there, hlo, x.gsz, x.os, x.tabs, x.bare⟩
/-- what is new behind s needs no mention -/
theorem drop (x : Ex W s s') (h : ∀ a ∈ W, s.heap.get? a = none) : Ex [] s s' :=
  ⟨fun a o e ht _ => x.keep a o e ht fun m => (nomatch ((h a m).symm.trans e)), x.im, x.there, fun _ h => (nomatch h), x.gsz, x.os, x.tabs, x.bare⟩
theorem then0 (x : Ex W s s') (y : Ex [] s' s'') : Ex W s s'' := by
  have z := x.trans y
  rw [List.append_nil] at z
  exact z
theorem of0 (x : Ex [] s s') (y : Ex W s' s'') : Ex W s s'' := x.trans y
/-- a step of the heap that keeps all old objects -/
theorem of_keep {h' : Heap} {tk : Nat} (k : ∀ a o, s.heap.get? a = some o → h'.get? a = some o) : Ex [] s { s with heap := h', toks := tk } :=
  ⟨fun a o e _ _ => ⟨o.slots, k a o e, fun _ => rfl⟩, fun a o e _ _ => k a o e, fun a o e => ⟨o, k a o e⟩, fun _ h => (nomatch h), Nat.le_refl _, rfl,
    fun t => ⟨let ⟨ps, a, b⟩ := t.t1; ⟨ps, a.keeps k, b.keeps k⟩, let ⟨ps, a, b⟩ := t.t2; ⟨ps, a.keeps k, b.keeps k⟩, let ⟨ps, a, b⟩ := t.t3; ⟨ps, a.keeps k, b.keeps k⟩⟩, id⟩
theorem tok (tk : Nat) : Ex [] s { s with toks := tk } := of_keep (s := s) (h' := s.heap) (tk := tk) (fun _ _ e => e)
theorem push (o : Obj) (tk : Nat) : Ex [] s { s with heap := s.heap.push o, toks := tk } :=
  of_keep (fun _ _ e => Heap.get?_push_of_some o e)
theorem keeps (x : Keeps s s') : Ex [] s s' := by
  obtain ⟨h', tk, rfl, k⟩ := x
  exact of_keep k
end Ex

theorem TabOk.sameBut {h h' : Heap} {c P a : Addr} (t : TabOk h c P) (hs : ∀ b, b ≠ a → ∀ o, h.get? b = some o → h'.get? b = some o) (hc : c ≠ a) (hP : P ≠ a) : TabOk h' c P := by
  obtain ⟨ps, ⟨o, vs, file, tf, flags, tg, inF, text, tt, op, a1, a2, a3, a4, a5, a6, a7, a8, a9⟩, ⟨⟨o', vs', b1, b2⟩, b3⟩⟩ := t
  exact ⟨ps, ⟨o, vs, file, tf, flags, tg, inF, text, tt, op, hs _ hc _ a1, a2, a3, a4, a5, a6, a7, hs _ hP _ a8, a9⟩, ⟨⟨o', vs', hs _ hc _ b1, b2⟩, hs _ hP _ b3⟩⟩
theorem Tabs.sameBut {h h' : Heap} {a : Addr} (t : Tabs h) (hs : ∀ b, b ≠ a → ∀ o, h.get? b = some o → h'.get? b = some o) (ha : Hi a) : Tabs h' :=
  ⟨t.t1.sameBut hs (ha.ne (by decide)) (ha.ne (by decide)), t.t2.sameBut hs (ha.ne (by decide)) (ha.ne (by decide)), t.t3.sameBut hs (ha.ne (by decide)) (ha.ne (by decide))⟩

/-- one object is turned -/
theorem Ex.turn' {s : Shared} {h' : Heap} {tk : Nat} {a : Addr} {o : Obj} (ho : s.heap.get? a = some o) (hi : ¬ Immut o) (ha : Hi a) (k : ∀ b, b ≠ a → ∀ o, s.heap.get? b = some o → h'.get? b = some o) (hn : ∃ o', h'.get? a = some o') : Ex [a] s { s with heap := h', toks := tk } := by
  refine ⟨fun b ob e _ hW => ⟨ob.slots, k b (fun z => hW (by simp [z])) _ e, fun _ => rfl⟩, fun b ob e hib _ => k b (fun z => ?_) _ e, fun b ob e => ?_, fun b hb => by rw [List.mem_singleton.mp hb]; exact ha, Nat.le_refl _, rfl,
    fun t => t.sameBut k ha, id⟩
  · subst z; rw [ho] at e; cases e; exact hi hib
  · by_cases hb : b = a
    · subst hb; exact hn
    · exact ⟨_, k b hb _ e⟩

theorem Ex.turn {s : Shared} {h' : Heap} {tk : Nat} {a : Addr} {o : Obj} (ho : s.heap.get? a = some o) (hi : ¬ Immut o) (ha : Hi a) (hs : Heap.SameBut a s.heap h') (hn : ∃ o', h'.get? a = some o') : Ex [a] s { s with heap := h', toks := tk } :=
  Ex.turn' ho hi ha (fun b hb o e => (hs.2 b hb).trans e) hn

variable {w : World} {mg mb : Str → Option Value}
/-- the ground: the top's objects, the names of the module and of the builtins, the tables, the generators -/
structure Gd (w : World) (mg mb : Str → Option Value) (s : Shared) : Prop where
  K : (Kf w.params).In s.heap
  g : s.heap.Ns mainGlobals mg
  b : s.heap.Ns builtinsNs mb
  hm : ∀ x v, nsIn (Kf w.params) mainGlobals x = some (some v) → mg x = some v
  hn : ∀ x, nsIn (Kf w.params) mainGlobals x = some none → mg x = none
  hb : ∀ x : Str, x ≠ "__name__" → mb x = bootBuiltins x
  tabs : Tabs s.heap
  bare : AllBare s.gens

def kfOk (p : Addr × Obj) : Bool := lows.contains p.1 && !(tabA p.1) && p.2.cls != .type "frame"
theorem kf_all (P : Params) : (Kf P).all kfOk = true := by kernel_rfl
theorem lookup_mem {α β : Type} [BEq α] [LawfulBEq α] : ∀ {l : List (α × β)} {a : α} {b : β}, l.lookup a = some b → (a, b) ∈ l
  | [], _, _, h => nomatch h
  | (x, y) :: r, a, b, h => by
    rw [List.lookup_cons] at h
    split at h
    · rename_i q; cases h; rw [beq_iff_eq.mp q]; exact .head _
    · exact .tail _ (lookup_mem h)
theorem kf_of {P : Params} {a : Addr} {o : Obj} (h : (Kf P).lookup a = some o) : lows.contains a = true ∧ tabA a = false ∧ o.cls ≠ .type "frame" := by
  have := List.all_eq_true.mp (kf_all P) _ (lookup_mem h)
  unfold kfOk at this
  simp only [Bool.and_eq_true, Bool.not_eq_true', bne_iff_ne, ne_eq] at this
  exact ⟨this.1.1, this.1.2, this.2⟩
theorem Ns.ex {W : List Addr} {s s' : Shared} {a : Addr} {m : Str → Option Value} (x : Ex W s s') (n : s.heap.Ns a m) (ht : tabA a = false) (hW : a ∉ W) : s'.heap.Ns a m := by
  obtain ⟨o, es, ep, ho, hd, r⟩ := n
  obtain ⟨sl, h, _⟩ := x.keep a o ho ht hW
  exact ⟨_, es, ep, h, hd, r⟩
theorem Gd.ex {W : List Addr} {s s' : Shared} (G : Gd w mg mb s) (x : Ex W s s') : Gd w mg mb s' where
  K := fun a o e => by
    obtain ⟨h1, h2, h3⟩ := kf_of e
    exact x.get (G.K a o e) h2 (fun m => (x.wlo a m).ne h1 rfl) h3
  g := Ns.ex x G.g (by decide) fun m => (x.wlo _ m).ne (b := mainGlobals) (by decide) rfl
  b := Ns.ex x G.b (by decide) fun m => (x.wlo _ m).ne (b := builtinsNs) (by decide) rfl
  hm := G.hm
  hn := G.hn
  hb := G.hb
  tabs := x.tabs G.tabs
  bare := x.bare G.bare
theorem Gd.noLimit {s : Shared} (G : Gd w mg mb s) : s.heap.NoLimit := by
  refine ⟨fun n => nsFind _ n, ⟨_, _, _, G.K cStatics _ (by rfl), rfl, ?_, fun _ => rfl⟩, ?_⟩
  · intro e he
    simp at he
    rcases he with rfl | rfl <;> exact ⟨_, _, rfl⟩
  · rfl
theorem Gd.codeRec {s : Shared} (G : Gd w mg mb s) {cd : Value} {q : Str} (e : codeIn (Kf w.params) cd q = true) : s.heap.CodeRec cd q := codeRec_of G.K e
theorem get_size (h : Heap) : h.get? h.objs.size = none := by
  cases e : h.get? h.objs.size with
  | none => rfl
  | some o => exact absurd (Heap.lt_size e) (Nat.lt_irrefl _)
theorem Ex.off {W : List Addr} {s s' : Shared} (x : Ex W s s') {a : Addr} (h : s'.heap.get? a = none) : s.heap.get? a = none := by
  cases e : s.heap.get? a with
  | none => rfl
  | some o => obtain ⟨o', h'⟩ := x.there a o e; rw [h] at h'; cases h'
theorem lows_there {P : Params} : (lows.all fun a => tabA a || ((Kf P).lookup a).isSome) = true := by kernel_rfl
/-- what is new is none of the top's -/
theorem Gd.hi {s : Shared} (G : Gd w mg mb s) {a : Addr} (h : s.heap.get? a = none) : Hi a := by
  unfold Hi
  cases q : lows.contains a with
  | false => rfl
  | true =>
    exfalso
    have z := List.all_eq_true.mp (lows_there (P := w.params)) a (List.contains_iff_mem.mp q)
    rcases (Bool.or_eq_true _ _).mp z with z | z
    · obtain ⟨_, _, ⟨_, e1⟩⟩ := G.tabs.t1
      obtain ⟨_, _, ⟨_, e2⟩⟩ := G.tabs.t2
      obtain ⟨_, _, ⟨_, e3⟩⟩ := G.tabs.t3
      unfold tabA at z
      simp only [Bool.or_eq_true, beq_iff_eq] at z
      rcases z with (rfl | rfl) | rfl
      · rw [h] at e1; cases e1
      · rw [h] at e2; cases e2
      · rw [h] at e3; cases e3
    · obtain ⟨o, e⟩ := Option.isSome_iff_exists.mp z
      have := G.K a o e
      rw [h] at this; cases this
theorem Hi.tab {a : Addr} (h : Hi a) : tabA a = false := by
  cases q : tabA a with
  | false => rfl
  | true =>
    exfalso
    unfold tabA at q
    simp only [Bool.or_eq_true, beq_iff_eq] at q
    rcases q with (rfl | rfl) | rfl <;> (unfold Hi at h; revert h; decide)
end Mine

namespace Mine
variable {w : World} {mg mb : Str → Option Value}
def AL : Around := { handled := none, depth := 900, frames := none, guards := none, units := 9000 }
/-- room for a leaf -/
structure Rm (n : Nat) (A : Around) : Prop where
  hh : A.handled = none
  dp : A.depth + n ≤ 900
  un : A.units + 60 * n ≤ 9000
theorem Rm.leaf {α : Type} {n : Nat} {A : Around} {prog : Program} {t : Sem α} {Q : α → Shared → Prop} {E : Value → Shared → Prop} {s : Shared} (r : Rm n A) (h : wpAny (model prog w) AL t Q E s) : wpAny (model prog w) A t Q E s :=
  fun Γ p hΓ => h Γ p ⟨by rw [hΓ.1, r.hh]; rfl, by have := hΓ.2.1; have := r.dp; show _ ≤ 900; omega, (fun l e => by cases e), (fun g e => by cases e), by have := hΓ.2.2.2.2; have := r.un; show _ ≤ 9000; omega⟩

structure Kt (R : Prop) : Prop where
  out : R
abbrev emptyD : Obj := { cls := .type "dict", data := .dict #[] }
abbrev tagO (dx : Addr) (c : Int) (tc : Tok) (v : Str) (tv : Tok) : Obj := { cls := .ref 113, dict := some dx, data := .plain, slots := #[some (.int c tc), some (.str v tv)] }
def TagAt (h : Heap) (x : Addr) (c : Int) (v : Str) : Prop := Hi x ∧ ∃ dx tc tv od, h.get? x = some (tagO dx c tc v tv) ∧ h.get? dx = some od
theorem TagAt.ex {W : List Addr} {s s' : Shared} {x : Addr} {c : Int} {v : Str} (y : Ex W s s') (t : TagAt s.heap x c v) : TagAt s'.heap x c v := by
  obtain ⟨ht, dx, tc, tv, od, h1, h2⟩ := t
  obtain ⟨od', h2'⟩ := y.there _ _ h2
  exact ⟨ht, dx, tc, tv, od', y.im _ _ h1 (.inl ⟨rfl, rfl⟩) ht.tab, h2'⟩
theorem mem_keep {h₀ h : Heap} {news : List (Addr × Obj)} (D : Mem h₀ h [] news) : ∀ a o, h₀.get? a = some o → h.get? a = some o := fun a o e => D.keep a o e (by unfold away; simp)
theorem ex_mem {h₀ h : Heap} {news : List (Addr × Obj)} (D : Mem h₀ h [] news) {g : Array GenState} {d : Drawn} {t t' : Nat} {os : OsState} : Ex [] ⟨h₀, g, d, t, os⟩ ⟨h, g, d, t', os⟩ := Ex.of_keep (s := ⟨h₀, g, d, t, os⟩) (h' := h) (tk := t') (mem_keep D)
theorem mem_none {h₀ h : Heap} {chg news : List (Addr × Obj)} (D : Mem h₀ h chg news) {i : Nat} {a : Addr} {o : Obj} (e : news[i]? = some (a, o)) : h₀.get? a = none := (D.nw _ (List.mem_of_getElem? e)).2

theorem mem_at {h₀ h : Heap} {chg news : List (Addr × Obj)} (D : Mem h₀ h chg news) (i : Nat) {a : Addr} {o o' : Obj} (e : news[i]? = some (a, o)) (ho : o = o') : h.get? a = some o' := ho ▸ D.at i a o e
local macro_rules | `(tactic| x_close) => `(tactic| (rename Kt _ => k9; rename Mem _ _ _ _ => D9; exact k9.out _ _ _ (ex_mem D9) (mem_none D9 (i := 1) rfl) (mem_none D9 (i := 2) rfl) (mem_at D9 1 rfl (by kernel_rfl)) (mem_at D9 2 rfl rfl)))
theorem dxf_new0 {s : Shared} {c : Int} {tc : Tok} {v : Str} {tv : Tok} {Q : Value → Shared → Prop} {E : Value → Shared → Prop} (K : (Kf w.params).In s.heap)
    (h : ∀ x dx s', Ex [] s s' → s.heap.get? x = none → s.heap.get? dx = none → s'.heap.get? x = some (tagO dx c tc v tv) → s'.heap.get? dx = some emptyD → Q (.ref x) s') : wpAny (model pw w) AL (call (.ref 113) [.int c tc, .str v tv]) Q E s := by
  obtain ⟨h0, g, d, t, os⟩ := s
  have hk := Kt.mk h
  dsimp only at K hk ⊢
  x_run
theorem dxf_new {n : Nat} {A : Around} {s : Shared} {c : Int} {tc : Tok} {v : Str} {tv : Tok} {Q : Value → Shared → Prop} {E : Value → Shared → Prop} (r : Rm n A) (G : Gd w mg mb s)
    (h : ∀ x s', Ex [] s s' → TagAt s'.heap x c v → s.heap.get? x = none → Q (.ref x) s') : wpAny (model pw w) A (call (.ref 113) [.int c tc, .str v tv]) Q E s :=
  r.leaf (dxf_new0 G.K fun x dx s' X n1 n2 h1 h2 => h x s' X ⟨G.hi n1, dx, tc, tv, _, h1, h2⟩ n1)
end Mine

namespace Mine
variable {w : World} {mg mb : Str → Option Value}
variable {s : Shared} {Q : Value → Shared → Prop} {E : Value → Shared → Prop}

local macro_rules | `(tactic| x_close) => `(tactic| (rename Kt _ => k9; rename Mem _ _ _ _ => D9; exact k9.out _ (ex_mem D9)))
theorem code_get0 {x dx : Addr} {c : Int} {tc : Tok} {v : Str} {tv : Tok} (K : (Kf w.params).In s.heap) (hx : s.heap.get? x = some { cls := .ref 113, dict := some dx, data := .plain, slots := #[some (.int c tc), some (.str v tv)] })
    (h : ∀ s', Ex [] s s' → Q (.int c tc) s') : wpAny (model pw w) AL (call (.builtin "property.__get__") [.ref 59, .ref x, .ref 113]) Q E s := by
  obtain ⟨h0, g, d, t, os⟩ := s
  have hk := Kt.mk h
  dsimp only at K hx hk ⊢
  x_run
theorem value_get0 {x dx : Addr} {c : Int} {tc : Tok} {v : Str} {tv : Tok} (K : (Kf w.params).In s.heap) (hx : s.heap.get? x = some { cls := .ref 113, dict := some dx, data := .plain, slots := #[some (.int c tc), some (.str v tv)] })
    (h : ∀ s', Ex [] s s' → Q (.str v tv) s') : wpAny (model pw w) AL (call (.builtin "property.__get__") [.ref 67, .ref x, .ref 113]) Q E s := by
  obtain ⟨h0, g, d, t, os⟩ := s
  have hk := Kt.mk h
  dsimp only at K hx hk ⊢
  x_run

abbrev tagsO (dx : Addr) (xs : Array Value) (n : Nat) : Obj := { cls := .ref 323, dict := some dx, data := .seq xs n }
local macro_rules | `(tactic| x_close) => `(tactic| (rename Kt _ => k9; rename Mem _ _ _ _ => D9; exact k9.out _ _ _ _ (ex_mem D9) (mem_none D9 (i := 0) rfl) (mem_none D9 (i := 1) rfl) (mem_at D9 0 rfl rfl) (mem_at D9 1 rfl rfl)))
theorem tags_nil0 (K : (Kf w.params).In s.heap)
    (h : ∀ x dx n' s', Ex [] s s' → s.heap.get? x = none → s.heap.get? dx = none → s'.heap.get? x = some (tagsO dx #[] n') → s'.heap.get? dx = some emptyD → Q (.ref x) s') : wpAny (model pw w) AL (call (.ref 323) []) Q E s := by
  obtain ⟨h0, g, d, t, os⟩ := s
  have hk := Kt.mk h
  dsimp only at K hk ⊢
  x_run

local macro_rules | `(tactic| x_close) => `(tactic| (rename Kt _ => k9; rename Mem _ _ _ _ => D9; exact k9.out _ _ _ _ rfl (ex_mem D9) (mem_none D9 (i := 0) rfl) (mem_none D9 (i := 1) rfl) (mem_at D9 0 rfl rfl) (mem_at D9 1 rfl rfl)))
theorem list_new0 {l : Addr} (K : (Kf w.params).In s.heap)
    (h : ∀ x dx n' s', s'.gens = s.gens → Ex [] s s' → s.heap.get? x = none → s.heap.get? dx = none → s'.heap.get? x = some (tagsO dx #[] n') → s'.heap.get? dx = some emptyD → Q (.ref x) s') : wpAny (model pw w) AL (call (.builtin "list.__new__") [.ref 323, .ref l]) Q E s := by
  obtain ⟨h0, g, d, t, os⟩ := s
  have hk := Kt.mk h
  dsimp only at K hk ⊢
  x_run
theorem Rm.mono {n m : Nat} {A : Around} (r : Rm n A) (h : m ≤ n) : Rm m A := ⟨r.hh, by have := r.dp; omega, by have := r.un; omega⟩
theorem Rm.in1 {n : Nat} {A : Around} (r : Rm (n + 1) A) : Rm n A.in1 := ⟨r.hh, by have := r.dp; show A.depth + n ≤ 900; omega, by have := r.un; show A.units + 1 + 60 * n ≤ 9000; omega⟩
theorem Rm.deeper {n : Nat} {A : Around} {env : Env} (r : Rm (n + 1) A) : Rm n (A.deeper env) := ⟨r.hh, by have := r.dp; show A.depth + 1 + n ≤ 900; omega, by have := r.un; show A.units + 3 + 60 * n ≤ 9000; omega⟩
theorem Rm.tc {n : Nat} {A : Around} {C : Addr} {as : List Value} {kw : List (Str × Value)} (r : Rm (n + 1) A) : Rm n (A.under (.builtin "type.__call__" ⟨.ref C :: as, kw⟩)) := by
  have w1 : (Code.builtin "type.__call__" ⟨.ref C :: as, kw⟩).weight = 1 := by rfl
  have w2 : (Code.builtin "type.__call__" ⟨.ref C :: as, kw⟩).cUnits ≤ 10 := by exact Nat.le_of_ble_eq_true rfl
  exact ⟨r.hh, by have := r.dp; show A.depth + _ + n ≤ 900; rw [w1]; omega, by have := r.un; show A.units + _ + 60 * n ≤ 9000; omega⟩
theorem Rm.mark {n : Nat} {A : Around} (r : Rm n A) : Rm n (A.mark none) := by rw [Around.mark_none]; exact r

theorem tags_call {n : Nat} {A : Around} {l : Addr} (r : Rm (n + 1) A) (G : Gd w mg mb s)
    (hq : ∀ A' x dx n' s', Rm n A' → s'.gens = s.gens → Ex [] s s' → s.heap.get? x = none → s.heap.get? dx = none → s'.heap.get? x = some (tagsO dx #[] n') → s'.heap.get? dx = some emptyD →
      wpAny (model pw w) A' (call (.builtin "list.__init__") ([.ref x] ++ [.ref l])) (fun v s'' => v = .none ∧ Q (.ref x) s'') E s') : wpAny (model pw w) A (call (.ref 323) [.ref l]) Q E s := by
  obtain ⟨h0, g, d, t, os⟩ := s
  have X := G.K
  dsimp only at X
  have call_ : Looks (model pw w) h0 (specialOf (.ref 323) "__call__") (some (.builtin "type.__call__")) := looks_specialIn X (by rfl)
  have typ : Looks (model pw w) h0 (isInstance (.ref 323) (.type "type")) true := looks_instIn X (by rfl)
  have hm : Looks (model pw w) h0 (mroOf (.ref 323)) [.ref 323, .type "list", .type "object"] := (looks_clsIn X (C := 323) (cd := _) (by rfl)).andThen .now
  have sub : Looks (model pw w) h0 (isSubtype (.ref 323) (.ref 323)) true := looks_mroIn X (by rfl)
  have ini : Looks (model pw w) h0 (typeLookup (.ref 323) "__init__") (some (.builtin "list.__init__")) := looks_findIn X (by rfl)
  have hC : h0.get? 323 = some _ := X 323 _ (by rfl)
  refine wpAny_call (codeAny_of_tree ?_)
  show wpAny _ _ (callAny (.ref 323) _) _ _ _
  refine nd_load hC ?_
  show wpAny _ _ (callAny.viaDunder (.ref 323) _) _ _ _
  unfold callAny.viaDunder
  refine wpAny_bind (call_.at ?_)
  dsimp only
  rw [tc_bind]
  refine wpAny_bind (wpAny_pure (wpAny_bind (wpAny_pure ?_)))
  refine wpAny_pure (a := Fin.again (.call (.builtin "type.__call__") ⟨.ref 323 :: [.ref l], []⟩)) (And.intro rfl ?_)
  refine codeAny_call_builtin_at (Code.quiet_builtin _ (by decide +kernel)) entry_typeCall (check_slot tc_kind tc_split typ (tc_args _ _ _) ?_)
  unfold Builtin.«type.__call__»
  repeat (first | with_reducible refine Rm.leaf (n := n) r.tc (list_new0 X ?_) | lk)
  intro x dx n' s' hge Y f1 f2 h1 h2
  have X' := (G.ex Y).K
  obtain ⟨h', g', d', t', os'⟩ := s'
  dsimp only at X' h1 h2
  have to : Looks (model pw w) h' (typeOf (.ref x)) (.ref 323) := (Looks.ld h1).andThen .now
  have sub : Looks (model pw w) h' (isSubtype (.ref 323) (.ref 323)) true := looks_mroIn X' (by rfl)
  have ini : Looks (model pw w) h' (typeLookup (.ref 323) "__init__") (some (.builtin "list.__init__")) := looks_findIn X' (by rfl)
  repeat (first | with_reducible refine wpAny_mono (hq _ _ _ _ _ r.tc hge Y f1 f2 h1 h2) ?_ ?_ | lk)
  · rintro v s'' ⟨rfl, hv⟩
    exact wpAny_pure (wpAny_pure hv)
  · exact fun _ _ h => h
end Mine

namespace Mine
variable {w : World} {mg mb : Str → Option Value}
variable {s : Shared} {Q : Value → Shared → Prop} {E : Value → Shared → Prop} {A : Around} {n : Nat}

/-- the items of a list or of a list's kin -/
def SeqAt (h : Heap) (a : Addr) (xs : Array Value) : Prop := ∃ o n, h.get? a = some o ∧ o.data = .seq xs n
theorem next_item {prog : Program} {it l : Addr} {i : Nat} {items} {x : Value} {Q : Option Value → Shared → Prop} (hit : s.heap.IsListIter it l i)
    (hl : SeqAt s.heap l items) (hx : items[i]? = some x)
    (hQ : ∀ h', h'.IsListIter it l (i + 1) → Heap.SameBut it s.heap h' → Q (some x) { s with heap := h' }) :
    wpAny (model prog w) A (pyNext (.ref it)) Q E s := by
  have hit' := hit
  obtain ⟨oi, hoi, hci, hdi⟩ := hit
  obtain ⟨ol, nl, hol, hdl⟩ := hl
  unfold pyNext
  refine wpAny_bind (wpAny_attempt ?_)
  refine wpAny_callSpecial?_slot (name := Str.ofString "__next__") hit'.typeIs slot_listiter_next ?_
  refine wpAny_call_entry slot_listiter_next hit'.typeIs entry_listiter_next ?_ (args_listiter_next _)
  show wpAny _ _ (field (.ref it) 0 >>= fun l' => if (l' == Value.none) = true then _ else _) _ _ s
  refine wpAny_bind (wpAny_field hoi hdi (x := .ref l) rfl ?_)
  rw [if_neg (show ¬ ((Value.ref l == Value.none) = true) from Bool.false_ne_true)]
  show wpAny _ _ (field (.ref it) 1 >>= _) _ _ s
  refine wpAny_bind (wpAny_field hoi hdi (x := .int i 0) rfl ?_)
  show wpAny _ _ (seqItems? (.ref l) >>= _) _ _ s
  refine wpAny_bind (wpAny_seqItems hol hdl ?_)
  simp only [Int.toNat_natCast, hx]
  refine wpAny_bind (wpAny_setField hoi hdi (by simp) (wpAny_pure ⟨x, rfl, wpAny_pure (hQ _ ⟨_, Heap.get?_update_self _ hoi (Obj.isFreed_of_fields (Obj.data_mapFields hdi _)), ?_, ?_⟩ (Heap.SameBut.update ..))⟩))
  · rw [Obj.cls_mapFields]; exact hci
  · rw [Obj.data_mapFields hdi]; simp [rawInt]
theorem next_end {prog : Program} {it l : Addr} {i : Nat} {items} {Q : Option Value → Shared → Prop} (hh : A.handled = none) (hit : s.heap.IsListIter it l i)
    (hl : SeqAt s.heap l items) (hx : items[i]? = none)
    (hQ : ∀ h', Heap.ExtBut it s.heap h' → (∃ o', h'.get? it = some o') → Q none { s with heap := h' }) :
    wpAny (model prog w) A (pyNext (.ref it)) Q E s := by
  have hit' := hit
  obtain ⟨oi, hoi, hci, hdi⟩ := hit
  obtain ⟨ol, nl, hol, hdl⟩ := hl
  unfold pyNext
  refine wpAny_bind (wpAny_attempt ?_)
  refine wpAny_callSpecial?_slot (name := Str.ofString "__next__") hit'.typeIs slot_listiter_next ?_
  refine wpAny_call_entry slot_listiter_next hit'.typeIs entry_listiter_next ?_ (args_listiter_next _)
  show wpAny _ _ (field (.ref it) 0 >>= fun l' => if (l' == Value.none) = true then _ else _) _ _ s
  refine wpAny_bind (wpAny_field hoi hdi (x := .ref l) rfl ?_)
  rw [if_neg (show ¬ ((Value.ref l == Value.none) = true) from Bool.false_ne_true)]
  show wpAny _ _ (field (.ref it) 1 >>= _) _ _ s
  refine wpAny_bind (wpAny_field hoi hdi (x := .int i 0) rfl ?_)
  show wpAny _ _ (seqItems? (.ref l) >>= _) _ _ s
  refine wpAny_bind (wpAny_seqItems hol hdl ?_)
  simp only [Int.toNat_natCast, hx]
  refine wpAny_bind (wpAny_rule (wpAny_bind (wpAny_setField hoi hdi (by simp) ?_)))
  show wpAny _ _ (newExc (.type "StopIteration") [] >>= _) _ _ _
  refine wpAny_bind ?_
  simp only [newExc, newTuple]
  refine wpAny_bind (wpAny_newObj_type ?_ (by size_fits))
  refine wpAny_bind (m := firstArgMember _ _) (wpAny_of_eq (a := Value.none) (by first | rfl | (simp only [firstArgMember]; rfl)) ?_)
  refine wpAny_newObj_type ?_ (by size_fits)
  simp only [raiseNew]
  refine wpAny_bind (wpAny_handled ?_)
  rw [show A.in1.handled = none from hh]
  refine wpAny_bind (wpAny_pure (wpAny_throw ?_))
  refine wpAny_bind (wpAny_isInstance (T := "StopIteration") (b := true) ⟨_, Heap.get?_push_size _ rfl, rfl⟩ isSubtype_stop ?_)
  refine wpAny_pure (hQ _ (fun b o hb e => ?_) ⟨_, Heap.get?_push_of_some _ (Heap.get?_push_of_some _ (Heap.get?_update_self _ hoi (Obj.isFreed_of_fields (Obj.data_mapFields hdi _))))⟩)
  exact Heap.get?_push_of_some _ (Heap.get?_push_of_some _ ((Heap.get?_update_other _ _ (Ne.symm hb)).trans e))

/-- a call of a list's own builtin upon Tags -/
theorem tags_bi {id nm : String} {b : Builtin} {x dx : Addr} {xs : Array Value} {nn : Nat} {rest : List Value} (hk : builtinKind id = some .slot ∨ builtinKind id = some .method) (hs : splitId id = some ("list", nm)) (hq : plainId id = true)
    (he : entryFor table id = some b) (ha : argsOk id ⟨.ref x :: rest, []⟩) (X : (Kf w.params).In s.heap) (hx : s.heap.get? x = some (tagsO dx xs nn))
    (h : wpAny (model pw w) A.in1 (b ⟨.ref x :: rest, []⟩) (fun fin s' => match fin with
      | .done (.ret v) => Q v s'
      | .done _ => False
      | .again c' => c'.quiet = true ∧ codeAny (model pw w) A c' (fun r s'' => match r with | .ok (.ret v) => Q v s'' | .ok _ => False | .error e => E e s'') s') E s) :
    wpAny (model pw w) A (call (.builtin id) (.ref x :: rest)) Q E s := by
  have to : Looks (model pw w) s.heap (typeOf (.ref x)) (.ref 323) := (Looks.ld hx).andThen .now
  have hi : Looks (model pw w) s.heap (isInstance (.ref x) (.type "list")) true := to.andThen (looks_mroIn X (by rfl))
  refine wpAny_call (codeAny_call_builtin hq he ?_)
  have key : ∀ (P : Unit → Shared → Prop) (E' : Value → Shared → Prop), P () s → wpAny (model pw w) A.in1 (checkBuiltinCall id ⟨.ref x :: rest, []⟩) P E' s := by
    intro P E' hp
    rcases hk with hk | hk
    · exact check_slot hk hs hi ha hp
    · simp only [checkBuiltinCall, hk, hs]
      refine wpAny_bind (hi.here ?_)
      simp only [Bool.not_true, Bool.false_eq_true, if_false]
      cases hsig : Manifest.signature? id with
      | none => exact wpAny_pure hp
      | some sig =>
        simp only [argsOk, hsig] at ha
        have h2 : Bind.checkArgs id sig ⟨.ref x :: rest, []⟩ = pure () := ha
        show wpAny _ _ (Bind.checkArgs id sig _) _ _ _
        rw [h2]; exact wpAny_pure hp
  refine key _ _ (wpAny_mono h (fun fin s' z => ?_) fun _ _ z => z)
  rcases fin with (_ | _ | _ | _) | _ <;> first | exact z | exact z.elim

theorem tags_upd {x dx : Addr} {xs : Array Value} {nn : Nat} {f : Array Value → Array Value} {tk : Nat} (hi : Hi x) (hx : s.heap.get? x = some (tagsO dx xs nn)) : Ex [x] s { s with heap := s.heap.update x (Obj.mapSeq f), toks := tk } ∧ ∃ n', (s.heap.update x (Obj.mapSeq f)).get? x = some (tagsO dx (f xs) n') := by
  have e := Heap.get?_update_self (Obj.mapSeq f) hx rfl
  refine ⟨Ex.turn hx (by rintro (⟨h, _⟩ | ⟨h, _⟩) <;> cases h) hi (Heap.SameBut.update ..) ⟨_, e⟩, _, e⟩
theorem tags_append {x dx : Addr} {xs : Array Value} {nn : Nat} {v : Value} (X : (Kf w.params).In s.heap) (hi : Hi x) (hx : s.heap.get? x = some (tagsO dx xs nn)) (hz : xs.size ≤ 1000)
    (h : ∀ s' n', Ex [x] s s' → s'.heap.get? x = some (tagsO dx (xs.push v) n') → Q .none s') : wpAny (model pw w) A (call (.builtin "list.append") [.ref x, v]) Q E s := by
  refine tags_bi (.inr (by decide +kernel)) (nm := "append") (by decide +kernel) (by decide +kernel) F.entry_list_append (F.args_list_append_2 _ _) X hx ?_
  show wpAny _ _ (updateSeq x (·.push v) >>= fun _ => ret .none) _ _ _
  refine wpAny_bind (wpAny_updateSeq hx rfl ?_ (by rw [sizeLine_eq]; omega) (by rw [sizeLine_eq, Array.size_push]; omega))
  obtain ⟨Y, n', e⟩ := tags_upd (s := s) (f := (·.push v)) (tk := s.toks) hi hx
  exact wpAny_pure (h _ n' Y e)

theorem tags_insert {x dx : Addr} {xs : Array Value} {nn : Nat} {v : Value} {t : Tok} (X : (Kf w.params).In s.heap) (hi : Hi x) (hx : s.heap.get? x = some (tagsO dx xs nn)) (hz : xs.size ≤ 1000)
    (h : ∀ s' n', Ex [x] s s' → s'.heap.get? x = some (tagsO dx (#[v] ++ xs) n') → Q .none s') : wpAny (model pw w) A (call (.builtin "list.insert") [.ref x, .int 0 t, v]) Q E s := by
  refine tags_bi (.inr (by decide +kernel)) (nm := "insert") (by decide +kernel) (by decide +kernel) F.entry_list_insert (F.args_list_insert_3 _ _ _) X hx ?_
  have e0 : (fun xs : Array Value => let k := if (0 : Int) < 0 then ((0 : Int) + xs.size).toNat else min (0 : Int).toNat xs.size
    (xs.extract 0 k).push v ++ xs.extract k xs.size) = fun xs => #[v] ++ xs := by
    funext xs
    simp
  show wpAny _ _ (updateSeq x (fun xs : Array Value => let k := if (0 : Int) < 0 then ((0 : Int) + xs.size).toNat else min (0 : Int).toNat xs.size
    (xs.extract 0 k).push v ++ xs.extract k xs.size) >>= fun _ => ret .none) _ _ _
  rw [e0]
  refine wpAny_bind (wpAny_updateSeq hx rfl ?_ (by rw [sizeLine_eq]; omega) (by rw [sizeLine_eq]; simp; omega))
  obtain ⟨Y, n', e⟩ := tags_upd (s := s) (f := (#[v] ++ ·)) (tk := s.toks) hi hx
  exact wpAny_pure (h _ n' Y e)

local macro_rules | `(tactic| x_close) => `(tactic| (rename Kt _ => k9; first | (rename Mem _ _ _ _ => D9; exact k9.out _ _ (ex_mem D9)) | exact k9.out _ _ (Ex.tok _)))
theorem tags_len0 {x dx : Addr} {xs : Array Value} {nn : Nat} (K : (Kf w.params).In s.heap) (hx : s.heap.get? x = some { cls := .ref 323, dict := some dx, data := .seq xs nn }) (hz : xs.size ≤ 1000)
    (h : ∀ t s', Ex [] s s' → Q (.int xs.size t) s') : wpAny (model pw w) AL (call (.builtin "len") [.ref x]) Q E s := by
  obtain ⟨h0, g, d, t, os⟩ := s
  have hk := Kt.mk h
  dsimp only at K hx hk ⊢
  x_run
theorem bound_here {M : Model} {h : Heap} {v f : Value} {l : List Value} {name : Str} (sp : Looks M h (specialOf v name) (some f)) (hb : Looks M h (bindSpecial f v) (f, l)) : Looks M h (bindSpecialIfBound? v name) (some (f, l)) := by
  unfold bindSpecialIfBound?
  refine sp.andThen fun A Q E s k q => ?_
  have b : wpAny M A (do let y ← bindSpecial f v; return some y : Sem (Option (Value × List Value))) Q E s := wpAny_bind (hb A _ E s k (wpAny_pure q))
  show wpAny M A (ask >>= fun st => if st.params.followText "special-get-raises" = true then _ else _) Q E s
  refine wpAny_bind (wpAny_askSetting ?_)
  split
  · exact b
  · exact wpAny_tryCatch (wpAny_bind (hb A _ _ s k (wpAny_pure q)))
theorem tags_iter {x dx : Addr} {xs : Array Value} {nn : Nat} (X : (Kf w.params).In s.heap) (hx : s.heap.get? x = some (tagsO dx xs nn))
    (h : ∀ it h', s.heap.get? it = none → (∀ b o, s.heap.get? b = some o → h'.get? b = some o) → h'.IsListIter it x 0 → Q (.ref it) { s with heap := h' }) : wpAny (model pw w) A (pyIter (.ref x)) Q E s := by
  have to : Looks (model pw w) s.heap (typeOf (.ref x)) (.ref 323) := (Looks.ld hx).andThen .now
  have sp : Looks (model pw w) s.heap (specialOf (.ref x) "__iter__") (some (.builtin "list.__iter__")) := to.andThen (looks_findIn X (by rfl))
  have bd : Looks (model pw w) s.heap (bindSpecialIfBound? (.ref x) "__iter__") (some (.builtin "list.__iter__", [.ref x])) := bound_here sp (Looks.of_pure (slot_list_iter.bind _))
  unfold pyIter callSpecialIfBoundUnlessNone?
  refine wpAny_bind (sp.here ?_)
  dsimp only
  refine wpAny_bind (wpAny_holding (wpAny_bind (bd.here ?_)))
  dsimp only
  rw [if_neg (by decide)]
  refine wpAny_bind (tags_bi (.inl (by decide +kernel)) (nm := "__iter__") (by decide +kernel) (by decide +kernel) F.entry_list_iter (F.args_list_iter_1 _) X hx ?_)
  show wpAny _ _ (newFields "list_iterator" [.ref x, rawInt 0] >>= ret) _ _ _
  refine wpAny_bind (wpAny_newObj_type (wpAny_pure ?_))
  refine wpAny_pure ?_
  dsimp only
  have e : (s.heap.push { cls := .type "list_iterator", data := .fields #[.ref x, .int 0 0] }).get? s.heap.objs.size = some _ := Heap.get?_push_size _ rfl
  refine wpAny_bind (Looks.here (r := some (.builtin "list_iterator.__next__")) ?_ ?_)
  · exact (Looks.ld e).andThen (Looks.of_pure slot_listiter_next.lookup)
  · exact wpAny_pure (h _ _ (get_size _) (fun _ _ e => Heap.get?_push_of_some _ e) ⟨_, e, rfl, rfl⟩)

/-- a list's items are taken over at once -/
theorem init_list {x dx l : Addr} {xs : Array Value} {nn n' : Nat} (X : (Kf w.params).In s.heap) (hi : Hi x) (hx : s.heap.get? x = some (tagsO dx #[] nn)) (hl : s.heap.get? l = some { cls := .type "list", data := .seq xs n' }) (hz : xs.size ≤ 1000)
    (h : ∀ s' n', Ex [x] s s' → s'.heap.get? x = some (tagsO dx xs n') → Q .none s') : wpAny (model pw w) A (call (.builtin "list.__init__") ([.ref x] ++ [.ref l])) Q E s := by
  refine tags_bi (.inl (by decide +kernel)) (nm := "__init__") (by decide +kernel) (by decide +kernel) F.entry_list_init (F.args_list_init_2 _ _) X hx ?_
  have hne : l ≠ x := fun e => by rw [e, hx] at hl; cases hl
  show wpAny _ _ (Builtin.List.listItems (.ref x) >>= fun old => updateSeq x (fun _ => #[]) >>= fun _ => letGo old.toList.reverse >>= fun _ => Builtin.List.listExtendWith (.ref x) (.ref l) .none) _ _ _
  unfold Builtin.List.listItems
  refine wpAny_bind (wpAny_bind (wpAny_seqItems hx rfl (wpAny_pure ?_)))
  refine wpAny_bind (wpAny_updateSeq hx rfl ?_)
  refine wpAny_bind (wpAny_letGo ?_)
  obtain ⟨Y, n1, e⟩ := tags_upd (s := s) (f := (fun _ => #[])) (tk := s.toks) hi hx
  have hl' := (Heap.get?_update_other _ (Obj.mapSeq (fun _ => (#[] : Array Value))) (Ne.symm hne)).trans hl
  unfold Builtin.List.listExtendWith Builtin.List.listItems
  refine wpAny_bind (Looks.here (r := .type "list") ((Looks.ld hl').andThen .now) ?_)
  rw [if_pos (by simp)]
  refine wpAny_bind (wpAny_bind (wpAny_seqItems hl' rfl (wpAny_pure ?_)))
  refine wpAny_bind (wpAny_bind (wpAny_seqItems e rfl (wpAny_pure ?_)))
  show wpAny _ _ (updateSeq x (· ++ xs) >>= fun _ => ret .none) _ _ _
  refine wpAny_bind (wpAny_updateSeq e rfl ?_ (by rw [sizeLine_eq]; simp) (by rw [sizeLine_eq]; simp; omega))
  obtain ⟨Y2, n2, e2⟩ := tags_upd (s := { s with heap := s.heap.update x (Obj.mapSeq fun x => #[]) }) (f := (· ++ xs)) (tk := s.toks) hi e
  refine wpAny_pure (h _ n2 ((Y.trans Y2).weaken (by simp) (by simpa using hi)) ?_)
  simpa using e2

/-- Tags of a list -/
theorem tags_of_list {l : Addr} {xs : Array Value} {n' : Nat} (r : Rm (n + 1) A) (G : Gd w mg mb s) (hl : s.heap.get? l = some { cls := .type "list", data := .seq xs n' }) (hlt : tabA l = false) (hz : xs.size ≤ 1000)
    (h : ∀ x dx n' s', Ex [] s s' → s.heap.get? x = none → s.heap.get? dx = none → s'.heap.get? x = some (tagsO dx xs n') → s'.heap.get? dx = some emptyD → Q (.ref x) s') : wpAny (model pw w) A (call (.ref 323) [.ref l]) Q E s := by
  refine tags_call r G fun A' x dx n1 s1 r1 _ Y f1 f2 h1 h2 => ?_
  have hl1 := Y.get hl hlt (by simp) (by simp)
  refine init_list (G.ex Y).K (G.hi f1) h1 hl1 hz fun s2 n2 Y2 h3 => ⟨rfl, ?_⟩
  have hd : dx ≠ x := fun e => by rw [e, h1] at h2; cases h2
  refine h x dx n2 s2 ((Y.trans Y2).drop (by simpa using f1)) f1 f2 h3 ?_
  exact Y2.get h2 (G.hi f2).tab (by simpa using hd) (by simp)
end Mine

namespace Mine
variable {w : World} {mg mb : Str → Option Value}
variable {s : Shared} {Q : Value → Shared → Prop} {E : Value → Shared → Prop} {A : Around} {n : Nat}

/-- what a call hands back to its caller -/
def Back (Q : Value → Shared → Prop) (E : Value → Shared → Prop) (r : Result) (s' : Shared) : Prop := match r with
  | .ok (.ret v) => Q v s'
  | .ok _ => False
  | .error e => E e s'

theorem ex_self {x : Addr} {s s' : Shared} (Y : Ex [] s s') (hi : Hi x) : Ex [x] s s' := Y.weaken (by simp) (by simpa using hi)
theorem ex_two {x : Addr} {s s' s'' : Shared} (Y : Ex [x] s s') (Z : Ex [x] s' s'') : Ex [x] s s'' := (Y.trans Z).weaken (by simp) (fun a m => Y.wlo a (by simpa using m))

theorem init_iter {x dx l : Addr} {nn : Nat} {ty : Value} (X : (Kf w.params).In s.heap) (hi : Hi x) (hx : s.heap.get? x = some (tagsO dx #[] nn))
    (hty : ∀ s1, Ex [x] s s1 → Looks (model pw w) s1.heap (typeOf (.ref l)) ty) (hne : (Builtin.List.listSameRef (.ref x) (.ref l) || ty == .type "list" || ty == .type "tuple") = false)
    (h : ∀ s1 n1, s1.gens = s.gens → Ex [x] s s1 → s1.heap.get? x = some (tagsO dx #[] n1) → wpAny (model pw w) A.in1 (pyIter (.ref l)) (fun it s2 => wpAny (model pw w) A.in1 (Builtin.List.listLengthHint (.ref l)) (fun b s3 =>
      ∃ n3, Hi x ∧ s3.heap.get? x = some (tagsO dx #[] n3) ∧ ∀ s4 n4, s4.gens = s3.gens → Ex [x] s3 s4 → s4.heap.get? x = some (tagsO dx #[] n4) → codeAny (model pw w) A (.builtin "list.extend.loop" ⟨[.ref x, it, .none], []⟩) (Back Q E) s4) E s2) E s1) :
    wpAny (model pw w) A (call (.builtin "list.__init__") ([.ref x] ++ [.ref l])) Q E s := by
  refine tags_bi (.inl (by decide +kernel)) (nm := "__init__") (by decide +kernel) (by decide +kernel) F.entry_list_init (F.args_list_init_2 _ _) X hx ?_
  show wpAny _ _ (Builtin.List.listItems (.ref x) >>= fun old => updateSeq x (fun _ => #[]) >>= fun _ => letGo old.toList.reverse >>= fun _ => Builtin.List.listExtendWith (.ref x) (.ref l) .none) _ _ _
  unfold Builtin.List.listItems
  refine wpAny_bind (wpAny_bind (wpAny_seqItems hx rfl (wpAny_pure ?_)))
  refine wpAny_bind (wpAny_updateSeq hx rfl ?_)
  refine wpAny_bind (wpAny_letGo ?_)
  obtain ⟨Y, n1, e⟩ := tags_upd (s := s) (f := (fun _ => #[])) (tk := s.toks) hi hx
  unfold Builtin.List.listExtendWith
  refine wpAny_bind ((hty _ Y).here ?_)
  rw [if_neg (by rw [hne]; decide)]
  refine wpAny_bind (wpAny_mono (h _ n1 rfl Y e) (fun it s2 h2 => ?_) fun _ _ z => z)
  refine wpAny_bind (wpAny_holding (wpAny_mono h2 (fun b s3 h3 => ?_) fun _ _ z => z))
  obtain ⟨n3, hi, e3, h4⟩ := h3
  have fin : ∀ s4 n4, s4.gens = s3.gens → Ex [x] s3 s4 → s4.heap.get? x = some (tagsO dx #[] n4) → wpAny (model pw w) A.in1 (again (.builtin "list.extend.loop" ⟨[.ref x, it, .none], []⟩)) (fun fin s' => match fin with
      | .done (.ret v) => Q v s'
      | .done _ => False
      | .again c' => c'.quiet = true ∧ codeAny (model pw w) A c' (fun r s'' => match r with | .ok (.ret v) => Q v s'' | .ok _ => False | .error e => E e s'') s') E s4 := fun s4 n4 g4 Y4 e4 => wpAny_pure ⟨plainId_quiet F.plain_extend_loop _, h4 s4 n4 g4 Y4 e4⟩
  dsimp only
  split
  · refine wpAny_bind (wpAny_rule (wpAny_bind ?_))
    unfold Builtin.List.listTouch
    refine wpAny_bind (wpAny_updateSeq e3 rfl ?_)
    obtain ⟨Y4, n4, e4⟩ := tags_upd (s := s3) (f := (·.push .none)) (tk := s3.toks) hi e3
    refine wpAny_updateSeq e4 rfl ?_
    obtain ⟨Y5, n5, e5⟩ := tags_upd (s := { s3 with heap := s3.heap.update x (Obj.mapSeq (·.push .none)) }) (f := (·.pop)) (tk := s3.toks) hi e4
    exact fin _ n5 rfl (ex_two Y4 Y5) (by simpa using e5)
  · exact fin _ n3 rfl (ex_self (Ex.refl _) hi) e3

/-- an iterator, by what is left of it -/
structure Iter (w : World) (A : Around) (I : Addr) (W fp : List Addr) {α : Type} (R : α → Value → Shared → Prop) (St : List α → Shared → Prop) : Prop where
  item : ∀ {a rem s} {Q : Option Value → Shared → Prop} {E}, St (a :: rem) s → (∀ v s', St rem s' → Ex W s s' → R a v s' → Q (some v) s') → wpAny (model pw w) A (pyNext (.ref I)) Q E s
  done : ∀ {s} {Q : Option Value → Shared → Prop} {E}, St [] s → (∀ s', Ex W s s' → Q none s') → wpAny (model pw w) A (pyNext (.ref I)) Q E s
  frame : ∀ {rem V s s'}, St rem s → Ex V s s' → (∀ a ∈ V, a ∉ fp) → s'.gens = s.gens → St rem s'
  stab : ∀ {a v V s s'}, R a v s → Ex V s s' → R a v s'

inductive All2 {α β : Type} (R : α → β → Prop) : List α → List β → Prop
  | nil : All2 R [] []
  | cons {a b l m} : R a b → All2 R l m → All2 R (a :: l) (b :: m)
theorem All2.imp {α β : Type} {R S : α → β → Prop} (f : ∀ a b, R a b → S a b) : ∀ {l : List α} {m : List β}, All2 R l m → All2 S l m
  | _, _, .nil => .nil
  | _, _, .cons h t => .cons (f _ _ h) (t.imp f)
theorem All2.len {α β : Type} {R : α → β → Prop} : ∀ {l : List α} {m : List β}, All2 R l m → l.length = m.length
  | _, _, .nil => rfl
  | _, _, .cons _ t => by rw [List.length_cons, List.length_cons, t.len]
theorem All2.snoc {α β : Type} {R : α → β → Prop} {a : α} {b : β} : ∀ {l : List α} {m : List β}, All2 R l m → R a b → All2 R (l ++ [a]) (m ++ [b])
  | _, _, .nil, h => .cons h .nil
  | _, _, .cons h t, h' => .cons h (t.snoc h')

theorem extend_loop {I x dx : Addr} {W fp : List Addr} {α : Type} {R : α → Value → Shared → Prop} {St : List α → Shared → Prop} (T : Iter w A.in1 I W fp R St) (hi : Hi x) (hxf : x ∉ fp) (hxW : x ∉ W) :
    ∀ (rem : List α) (acc : Array Value) (nn : Nat) (s : Shared), St rem s → s.heap.get? x = some (tagsO dx acc nn) → acc.size + rem.length ≤ 1000 →
      (∀ s' vs n', Ex (x :: W) s s' → All2 (fun a v => R a v s') rem vs → s'.heap.get? x = some (tagsO dx (acc ++ vs.toArray) n') → Q .none s') →
      codeAny (model pw w) A (.builtin "list.extend.loop" ⟨[.ref x, .ref I, .none], []⟩) (Back Q E) s := by
  intro rem
  induction rem with
  | nil =>
    intro acc nn s hst hx hz h
    refine codeAny_builtin F.entry_extend_loop ?_
    rw [Around.under_plainId F.plain_extend_loop _]
    show wpAny _ A.in1 (pyNext (.ref I) >>= _) _ _ s
    refine wpAny_bind (T.done hst fun s' Y => ?_)
    refine wpAny_pure (h s' [] nn (Y.weaken (fun a m => .tail _ m) ?_) .nil ?_)
    · intro a m
      rcases List.mem_cons.mp m with rfl | m
      · exact hi
      · exact Y.wlo a m
    · simpa using Y.get hx hi.tab hxW (by simp)
  | cons a rem ih =>
    intro acc nn s hst hx hz h
    refine codeAny_builtin F.entry_extend_loop ?_
    rw [Around.under_plainId F.plain_extend_loop _]
    show wpAny _ A.in1 (pyNext (.ref I) >>= _) _ _ s
    refine wpAny_bind (T.item hst fun v s1 hst1 Y hR => ?_)
    have hx1 := Y.get hx hi.tab hxW (by simp)
    rw [List.length_cons] at hz
    show wpAny _ A.in1 (updateSeq x (·.push v) >>= fun _ => again (.builtin "list.extend.loop" ⟨[.ref x, .ref I, .none], []⟩)) _ _ _
    refine wpAny_bind (wpAny_updateSeq hx1 rfl ?_ (by rw [sizeLine_eq]; omega) (by rw [sizeLine_eq, Array.size_push]; omega))
    obtain ⟨Y2, n2, e2⟩ := tags_upd (s := s1) (f := (·.push v)) (tk := s1.toks) hi hx1
    refine wpAny_pure ⟨plainId_quiet F.plain_extend_loop _, ih (acc.push v) n2 _ (T.frame hst1 Y2 (by simpa using hxf) rfl) e2 (by rw [Array.size_push]; omega) fun s' vs n' Y3 hvs h3 => ?_⟩
    have Y12 : Ex (x :: W) s _ := (Y.trans Y2).weaken (fun b m => by
      rcases List.mem_append.mp m with m | m
      · exact .tail _ m
      · rw [List.mem_singleton.mp m]; exact .head _) (fun b m => Y3.wlo b m)
    have Y123 : Ex (x :: W) s s' := (Y12.trans Y3).weaken (fun b m => (List.mem_append.mp m).elim id id) (fun b m => Y3.wlo b m)
    refine h s' (v :: vs) n' Y123 (.cons (T.stab (T.stab hR Y2) Y3) hvs) ?_
    rw [h3]
    simp

theorem SeqAt.ex {W : List Addr} {s s' : Shared} {a : Addr} {xs : Array Value} (x : Ex W s s') (h : SeqAt s.heap a xs) (ht : tabA a = false) (hW : a ∉ W) : SeqAt s'.heap a xs := by
  obtain ⟨o, n, e, d⟩ := h
  obtain ⟨sl, e', _⟩ := x.keep a o e ht hW
  exact ⟨_, n, e', d⟩
theorem listIter_ex {W : List Addr} {s s' : Shared} {it l : Addr} {i : Nat} (x : Ex W s s') (h : s.heap.IsListIter it l i) (ht : tabA it = false) (hW : it ∉ W) : s'.heap.IsListIter it l i := by
  obtain ⟨o, e, c, d⟩ := h
  obtain ⟨sl, e', _⟩ := x.keep it o e ht hW
  exact ⟨_, e', c, d⟩
/-- a list's iterator (or a list's kin's) -/
def LI (it l : Addr) (xs : Array Value) (rem : List Value) (s : Shared) : Prop :=
  Hi it ∧ Hi l ∧ l ≠ it ∧ ∃ i, s.heap.IsListIter it l i ∧ SeqAt s.heap l xs ∧ xs.toList.drop i = rem
theorem LI.steady {it l : Addr} {xs : Array Value} {rem : List Value} {V : List Addr} {s s' : Shared} (st : LI it l xs rem s) (Y : Ex V s s') (hV : ∀ a ∈ V, a ∉ [it, l]) : LI it l xs rem s' := by
  obtain ⟨h1, h2, h3, i, hit, hl, hd⟩ := st
  exact ⟨h1, h2, h3, i, listIter_ex Y hit h1.tab (fun m => hV _ m (.head _)), hl.ex Y h2.tab (fun m => hV _ m (.tail _ (.head _))), hd⟩
theorem LI.iter (hh : A.handled = none) (it l : Addr) (xs : Array Value) : Iter w A it [it] [it, l] (fun a v _ => v = a) (LI it l xs) where
  item := fun {a rem s Q E} st h => by
    obtain ⟨h1, h2, h3, i, hit, hl, hd⟩ := st
    have hx : xs[i]? = some a := by
      have : xs.toList[i]? = some a := by
        have z := congrArg List.head? hd
        simpa using z
      simpa using this
    refine next_item hit hl hx fun h' hit' hs => ?_
    obtain ⟨o, ho, hc, hd'⟩ := hit
    have Y : Ex [it] s { s with heap := h', toks := s.toks } := Ex.turn ho (by rintro (q | q) <;> rw [hc] at q <;> simp at q) h1 hs (let ⟨o', e', _⟩ := hit'; ⟨o', e'⟩)
    refine h a _ ⟨h1, h2, h3, i + 1, hit', hl.ex Y h2.tab (by simpa using h3), ?_⟩ Y rfl
    have z := congrArg List.tail hd
    simpa [List.tail_drop] using z
  done := fun {s Q E} st h => by
    obtain ⟨h1, h2, h3, i, hit, hl, hd⟩ := st
    have hx : xs[i]? = none := by
      have : xs.toList[i]? = none := by
        have z := congrArg List.head? hd
        simpa using z
      simpa using this
    refine next_end hh hit hl hx fun h' he hn => h _ ?_
    obtain ⟨o, ho, hc, hd'⟩ := hit
    exact Ex.turn' ho (by rintro (q | q) <;> rw [hc] at q <;> simp at q) h1 (fun b hb o e => he b o hb e) hn
  frame := fun st Y hV _ => st.steady Y hV
  stab := fun h _ => h

theorem hint_tags {l dl : Addr} {xs : Array Value} {nn : Nat} {Q : Bool → Shared → Prop} (r : Rm (n + 1) A) (X : (Kf w.params).In s.heap) (hl : s.heap.get? l = some (tagsO dl xs nn)) (hz : xs.size ≤ 1000)
    (h : ∀ b s', Ex [] s s' → Q b s') : wpAny (model pw w) A (Builtin.List.listLengthHint (.ref l)) Q E s := by
  have to : Looks (model pw w) s.heap (typeOf (.ref l)) (.ref 323) := (Looks.ld hl).andThen .now
  have sp : Looks (model pw w) s.heap (specialOf (.ref l) "__len__") (some (.builtin "list.__len__")) := to.andThen (looks_findIn X (by rfl))
  have hi : Looks (model pw w) s.heap (isInstance (.ref l) (.type "list")) true := to.andThen (looks_mroIn X (by rfl))
  have as : ∀ (k : Int) (tk : Tok), asInt? (.int k tk) = pure (some k) := fun _ _ => rfl
  obtain ⟨h0, g, d, tk, os⟩ := s
  dsimp only at X hl to sp hi
  have hC : h0.get? 323 = some _ := X 323 _ (by rfl)
  unfold Builtin.List.listLengthHint
  repeat (first | with_reducible refine Rm.leaf r (tags_len0 X hl hz ?_) | lk)
  intro t' s' Y
  rw [as]
  exact wpAny_bind (wpAny_pure (wpAny_pure (h _ _ Y)))

/-- Tags of Tags: the very items -/
theorem tags_of_tags {l dl : Addr} {xs : Array Value} {nl : Nat} (r : Rm (n + 3) A) (G : Gd w mg mb s) (hl : s.heap.get? l = some (tagsO dl xs nl)) (hil : Hi l) (hz : xs.size ≤ 1000)
    (h : ∀ x dx n' s', Ex [] s s' → s.heap.get? x = none → s.heap.get? dx = none → s'.heap.get? x = some (tagsO dx xs n') → s'.heap.get? dx = some emptyD → Q (.ref x) s') : wpAny (model pw w) A (call (.ref 323) [.ref l]) Q E s := by
  refine tags_call r G fun A' x dx n1 s1 r1 _ Y f1 f2 h1 h2 => ?_
  have hix := G.hi f1
  have hidx := G.hi f2
  have hlx : l ≠ x := fun e => by rw [e, f1] at hl; cases hl
  have hdx : dx ≠ x := fun e => by rw [e, h1] at h2; cases h2
  have hl1 := Y.get hl hil.tab (by simp) (by simp)
  have at_ : ∀ s2, Ex [x] s1 s2 → s2.heap.get? l = some (tagsO dl xs nl) := fun s2 Z => Z.get hl1 hil.tab (by simpa using hlx) (by simp)
  refine init_iter (ty := .ref 323) (G.ex Y).K hix h1 (fun s2 Z => (Looks.ld (at_ s2 Z)).andThen .now) ?_ fun s2 n2 _ Z e2 => ?_
  · simp only [Builtin.List.listSameRef]
    rw [show (x == l) = false by simpa using Ne.symm hlx]
    rfl
  · have G2 := (G.ex Y).ex Z
    refine tags_iter G2.K (at_ s2 Z) fun it h' fit k hit => ?_
    have Z2 : Ex [] s2 { s2 with heap := h', toks := s2.toks } := Ex.of_keep k
    have hl3 := k _ _ (at_ s2 Z)
    have G3 := G2.ex Z2
    refine hint_tags (n := n) r1.in1 G3.K hl3 hz fun b s4 Y4 => ?_
    have hiit := G2.hi fit
    have e4 := Y4.get (Z2.get e2 hix.tab (by simp) (by simp)) hix.tab (by simp) (by simp)
    refine ⟨n2, hix, e4, fun s5 n5 _ Y5 e5 => ?_⟩
    have hxit : it ≠ x := fun e => by rw [e, e2] at fit; cases fit
    have hlit : l ≠ it := fun e => by rw [← e, at_ s2 Z] at fit; cases fit
    have st : LI it l xs xs.toList s5 := ⟨hiit, hil, hlit, 0, listIter_ex Y5 (listIter_ex Y4 hit hiit.tab (by simp)) hiit.tab (by simpa using hxit), SeqAt.ex Y5 (SeqAt.ex Y4 ⟨_, _, hl3, rfl⟩ hil.tab (by simp)) hil.tab (by simpa using hlx), by simp⟩
    refine extend_loop (LI.iter r1.in1.hh it l xs) hix ?_ ?_ xs.toList #[] n5 s5 st e5 (by simpa using hz) fun s6 vs n6 Y6 a2 e6 => ⟨rfl, ?_⟩
    · simp; exact ⟨Ne.symm hxit, Ne.symm hlx⟩
    · simpa using Ne.symm hxit
    · have hvs : vs = xs.toList := by
        clear e6
        revert a2
        generalize xs.toList = l1
        intro a2
        induction a2 with
        | nil => rfl
        | cons h _ ih => rw [h, ih]
      subst hvs
      have hit0 : s.heap.get? it = none := (Y.trans Z).off fit
      have all := (((Y.trans Z).trans (Z2.trans Y4)).trans (Y5.trans Y6)).drop (fun a m => by
        simp at m
        rcases m with rfl | rfl | rfl | rfl <;> assumption)
      refine h x dx n6 s6 all f1 f2 (by simpa using e6) ?_
      have hdit : dx ≠ it := fun e => by
        have := Z.get h2 hidx.tab (by simpa using hdx) (by simp)
        rw [e, fit] at this; cases this
      exact ((Z.trans (Z2.trans Y4)).trans (Y5.trans Y6)).get h2 hidx.tab (by simp; exact ⟨hdx, hdit⟩) (by simp)
end Mine

namespace Mine
variable {w : World} {mg mb : Str → Option Value}
variable {s : Shared} {Q : Value → Shared → Prop} {E : Value → Shared → Prop} {A : Around} {n : Nat}

theorem Ns.ne_seq {h : Heap} {L a : Addr} {m : Str → Option Value} {xs : Array Value} (N : h.Ns L m) (x : SeqAt h a xs) : a ≠ L := by
  rintro rfl
  obtain ⟨o, es, ep, ho, hd, _⟩ := N
  obtain ⟨o', n', ho', hd'⟩ := x
  rw [ho] at ho'; cases ho'; rw [hd] at hd'; cases hd'
theorem Ex.fresh {V W : List Addr} {s s' : Shared} (x : Ex (V ++ W) s s') (h : ∀ a ∈ W, s.heap.get? a = Option.none) : Ex V s s' :=
  ⟨fun a o e ht hW => x.keep a o e ht fun m => (List.mem_append.mp m).elim hW fun m => (by rw [h a m] at e; cases e), x.im, x.there, fun a m => x.wlo a (List.mem_append.mpr (.inl m)), x.gsz, x.os, x.tabs, x.bare⟩

/-- the frame at hand: s₀ its call's start, V what it has turned of what was there -/
structure Fm (w : World) (mg mb : Str → Option Value) (s₀ : Shared) (L : Addr) (m : Str → Option Value) (V : List Addr) (s : Shared) : Prop where
  G : Gd w mg mb s
  N : s.heap.Ns L m
  X : Ex V s₀ s
  f : s₀.heap.get? L = none
  hL : Hi L
namespace Fm
variable {s₀ s' : Shared} {L : Addr} {m : Str → Option Value} {V W : List Addr}
theorem go (F : Fm w mg mb s₀ L m V s) (Y : Ex [] s s') : Fm w mg mb s₀ L m V s' :=
  ⟨F.G.ex Y, Ns.ex Y F.N F.hL.tab List.not_mem_nil, F.X.then0 Y, F.f, F.hL⟩
theorem tok (F : Fm w mg mb s₀ L m V s) {t : Nat} : Fm w mg mb s₀ L m V { s with toks := t } := F.go (Ex.tok t)
theorem goW (F : Fm w mg mb s₀ L m V s) (Y : Ex W s s') (h : L ∉ W) : Fm w mg mb s₀ L m (V ++ W) s' :=
  ⟨F.G.ex Y, Ns.ex Y F.N F.hL.tab h, F.X.trans Y, F.f, F.hL⟩
theorem goN (F : Fm w mg mb s₀ L m V s) (Y : Ex W s s') (h : L ∉ W) (hn : ∀ a ∈ W, s₀.heap.get? a = none) : Fm w mg mb s₀ L m V s' :=
  ⟨F.G.ex Y, Ns.ex Y F.N F.hL.tab h, (F.X.trans Y).fresh hn, F.f, F.hL⟩
theorem old (F : Fm w mg mb s₀ L m V s) {a : Addr} {o : Obj} (h : s₀.heap.get? a = some o) : a ≠ L := fun e => by rw [e, F.f] at h; cases h
theorem new (F : Fm w mg mb s₀ L m V s) {a : Addr} (h : s.heap.get? a = none) : s₀.heap.get? a = none := F.X.off h
theorem neL (F : Fm w mg mb s₀ L m V s) {a : Addr} (h : s.heap.get? a = none) : a ≠ L := fun e => by
  obtain ⟨o, _, _, ho, _⟩ := F.N
  rw [e, ho] at h; cases h
theorem turned (F : Fm w mg mb s₀ L m V s) {h' : Heap} {m' : Str → Option Value} {t : Nat} (N' : h'.Ns L m') (hs : Heap.SameBut L s.heap h') : Fm w mg mb s₀ L m' V { s with heap := h', toks := t } ∧ Ex [L] s { s with heap := h', toks := t } := by
  obtain ⟨o, es, ep, ho, hd, _⟩ := F.N
  have Y : Ex [L] s { s with heap := h', toks := t } := Ex.turn ho (by rintro (⟨_, h⟩ | ⟨_, _, _, h⟩) <;> (rw [hd] at h; cases h)) F.hL hs (let ⟨o', _, _, h, _⟩ := N'; ⟨o', h⟩)
  exact ⟨⟨F.G.ex Y, N', (F.X.trans Y).fresh (by simpa using F.f), F.f, F.hL⟩, Y⟩
theorem st (F : Fm w mg mb s₀ L m V s) {env : Env} {x : Str} {v : Value} {Q : Unit → Shared → Prop} (h : ∀ s', Fm w mg mb s₀ L (fun y => if y = x then some v else m y) V s' → Ex [L] s s' → Q () s')
    (he : env.locals = L := by rfl) (hl : env.kindOf x = some .local := by rfl) (hk : env.scope.kind = .function := by rfl) : wpAny (model pw w) A (storeName env x v) Q E s := by
  subst he
  refine wpAny_storeName_local hl F.N (fun h' hn hs => ?_) (by rw [hk]; rfl)
  obtain ⟨F', Y⟩ := F.turned (t := s.toks + 1) hn hs
  exact h _ F' Y
theorem ldL {s9 : Shared} (F : Fm w mg mb s₀ L m V s9) {env : Env} {x : Str} {pos : Pos} {v : Value} (hv : m x = some v) (h : Q v s) (hh : s9.heap = s.heap := by rfl) (he : env.locals = L := by rfl) (hl : env.kindOf x = some .local := by rfl) (hk : env.scope.kind = .function := by rfl)
    (hd : (x == ("__debug__" : Str)) = false := by decide) : wpAny (model pw w) A (eval (.Name x pos) env) Q E s := by
  subst he
  exact wpAny_Name (wpAny_loadName_local hk hl (hh ▸ F.N) hv h) hd
theorem ldG {s9 : Shared} (F : Fm w mg mb s₀ L m V s9) {env : Env} {x : Str} {pos : Pos} {v : Value} (e : nsIn (Kf w.params) mainGlobals x = some (some v)) (h : Q v s) (hh : s9.heap = s.heap := by rfl) (he : env.globals = mainGlobals := by rfl)
    (hx : env.kindOf x = some .globalImplicit := by rfl) (hk : env.scope.kind = .function := by rfl) (hd : (x == ("__debug__" : Str)) = false := by decide) : wpAny (model pw w) A (eval (.Name x pos) env) Q E s :=
  Name_function_global hk hx (loadGlobal_global (by rw [he]; exact hh ▸ F.G.g) (F.G.hm _ _ e) h) hd
theorem ldB {s9 : Shared} (F : Fm w mg mb s₀ L m V s9) {env : Env} {x : Str} {pos : Pos} {v : Value} (e : nsIn (Kf w.params) mainGlobals x = some none) (hv : bootBuiltins x = some v) (h : Q v s) (hne : x ≠ "__name__" := by decide) (hh : s9.heap = s.heap := by rfl) (he : env.globals = mainGlobals := by rfl) (hb : env.builtins = builtinsNs := by rfl)
    (hx : env.kindOf x = some .globalImplicit := by rfl) (hk : env.scope.kind = .function := by rfl) (hd : (x == ("__debug__" : Str)) = false := by decide) : wpAny (model pw w) A (eval (.Name x pos) env) Q E s :=
  Name_function_global hk hx (loadGlobal_builtin (by rw [he]; exact hh ▸ F.G.g) (F.G.hn _ e) (by rw [hb]; exact hh ▸ F.G.b) ((F.G.hb x hne).trans hv) h) hd
end Fm

def retOf : Flow → Value
  | .ret v => v
  | _ => .none
theorem call_fn {f : Addr} {nm ql : Str} {S : Stmt} {dV pm cdv : Value} {an : Option Addr} {args : Args} {binds : List (Str × Value)} {R : Result → Shared → Prop}
    (r : Rm (n + 1) A) (G : Gd w mg mb s)
    (ho : (Kf w.params).lookup f = some ⟨.type "function", none, .func (fnX nm ql (argsOf S) (bodyOf S) (scopeOf S) [] dV .none .none pm an cdv .none), #[]⟩)
    (hcd : codeIn (Kf w.params) cdv ql = true) (hb : BindsTo s (fnX nm ql (argsOf S) (bodyOf S) (scopeOf S) [] dV .none .none pm an cdv .none) args binds)
    (h : ∀ A' L s₁, Rm n A' → Fm w mg mb s L (fun x => binds.reverse.lookup x) [] s₁ →
      wpAny (model pw w) A' (execs (bodyOf S) (envOf ql (scopeOf S) L f cdv)) (fun fl s' => R (.ok (.ret (retOf fl))) s') (fun _ _ => False) s₁)
    (hcell : ((scopeOf S).names.all fun x => x.2 != .cell) = true := by rfl) (hloc : (binds.all fun x => (scopeOf S).names.lookup x.1 == some .local) = true := by rfl)
    (hsc : (scopeOf S).isCoroutine = false ∧ (scopeOf S).isGenerator = false ∧ (scopeOf S).kind = .function := by exact ⟨by rfl, by rfl, by rfl⟩) :
    codeAny (model pw w) A (.call (.ref f) args) R s := by
  have hd : A.depth < recursionLimit := by have := r.dp; show A.depth < 1000; omega
  refine codeAny_call_def hd (G.K f _ ho) rfl G.noLimit (G.codeRec hcd) rfl hb ?_ ?_ (fun h₀ hns hk => ?_) hsc.1 hsc.2.1 hsc.2.2
  · intro x hx e
    have := List.all_eq_true.mp hcell x hx
    rw [e] at this; cases this
  · intro x hx
    exact beq_iff_eq.mp (List.all_eq_true.mp hloc x hx)
  · have X : Ex [] s { s with heap := h₀, toks := s.toks + binds.length } := Ex.of_keep hk
    refine wpAny_mono (h _ _ _ r.deeper ⟨G.ex X, hns, X, get_size _, G.hi (get_size _)⟩) (fun fl s' z => ?_) fun _ _ z => z.elim
    cases fl <;> exact z

local macro_rules | `(tactic| walk_at "m go") => `(tactic| first
  | with_reducible refine wpAny_execs_cons ?_
  | with_reducible refine wpAny_Return_some ?_
  | with_reducible refine wpAny_Call_NameR ?_
  | with_reducible refine wpAny_items_cons ?_ (by with_unfolding_all rfl)
  | with_reducible refine wpAny_items_nil ?_
  | ((with_reducible show wpAny _ _ (eval (.Name _ _) _) _ _ _); first
    | refine Fm.ldL ‹Fm _ _ _ _ _ _ _ _› (by rfl) ?_
    | refine Fm.ldG ‹Fm _ _ _ _ _ _ _ _› (by rfl) ?_
    | refine Fm.ldB ‹Fm _ _ _ _ _ _ _ _› (by rfl) (by rfl) ?_)
  | ((with_reducible show wpAny _ _ (callWith _ (.ref _) _ _ _) _ _ _); refine callWith_K (Fm.G ‹Fm _ _ _ _ _ _ _ _›).K (by rfl) ?_))
theorem dxftag_call {c : Int} {tc : Tok} {v : Str} {tv : Tok} (r : Rm (n + 3) A) (G : Gd w mg mb s)
    (h : ∀ x s', Ex [] s s' → TagAt s'.heap x c v → s.heap.get? x = none → Q (.ref x) s') : wpAny (model pw w) A (call (.ref 124) [.int c tc, .str v tv]) Q E s := by
  refine wpAny_call (call_fn (n := n + 2) (binds := [("code", .int c tc), ("value", .str v tv)]) r G (f := 124) (by rfl) (by rfl) (BindsTo.of_eq (by rfl)) fun A' L s1 r1 F => ?_)
  refine wpAny_execs_cons ?_
  repeat walk_at "m go"
  exact ⟨F.G.K, dxf_new r1 F.G fun x s2 X2 t2 f2 => h x s2 (F.X.then0 X2) t2 (F.new f2)⟩

theorem TagAt.obj {h : Heap} {x : Addr} {c : Int} {v : Str} (t : TagAt h x c v) : ∃ dx tc tv od, h.get? x = some (tagO dx c tc v tv) ∧ h.get? dx = some od := t.2
theorem tag_inst {x dx : Addr} {c : Int} {tc tv : Tok} {v : Str} {od : Obj} {h : Heap} (e1 : h.get? x = some (tagO dx c tc v tv)) (e2 : h.get? dx = some od) : InstAt h x (tagO dx c tc v tv) 113 (some od) := ⟨e1, rfl, rfl, e2⟩
theorem tag_code {x : Addr} {c : Int} {v : Str} {ex : Bool} (r : Rm (n + 2) A) (X : (Kf w.params).In s.heap) (t : TagAt s.heap x c v) (h : ∀ tc s', Ex [] s s' → Q (.int c tc) s') : wpAny (model pw w) A (getAttr (.ref x) "code" ex) Q E s := by
  obtain ⟨dx, tc, tv, od, e1, e2⟩ := t.2
  refine get_bind X (tag_inst e1 e2) (by rfl) (by rfl) (by rfl) ?_
  exact Rm.leaf (r.mono (by omega : 1 ≤ n + 2)).in1 (code_get0 (s := { s with toks := s.toks + 1 }) X e1 fun s' Y => wpAny_of_eq (handedOut_of (by rfl)) (h tc s' ((Ex.tok _).of0 Y)))
theorem tag_value {x : Addr} {c : Int} {v : Str} {ex : Bool} (r : Rm (n + 2) A) (X : (Kf w.params).In s.heap) (t : TagAt s.heap x c v) (h : ∀ tv s', Ex [] s s' → Q (.str v tv) s') : wpAny (model pw w) A (getAttr (.ref x) "value" ex) Q E s := by
  obtain ⟨dx, tc, tv, od, e1, e2⟩ := t.2
  refine get_bind X (tag_inst e1 e2) (by rfl) (by rfl) (by rfl) ?_
  exact Rm.leaf (r.mono (by omega : 1 ≤ n + 2)).in1 (value_get0 (s := { s with toks := s.toks + 1 }) X e1 fun s' Y => wpAny_of_eq (handedOut_of (by rfl)) (h tv s' ((Ex.tok _).of0 Y)))
end Mine

namespace Mine
variable {w : World} {mg mb : Str → Option Value}
variable {s : Shared} {Q : Value → Shared → Prop} {E : Value → Shared → Prop} {A : Around} {n : Nat}

theorem Ex.same {W : List Addr} {s s' s'' : Shared} (Y : Ex W s s') (Z : Ex W s' s'') : Ex W s s'' := (Y.trans Z).weaken (by simp) Z.wlo
theorem Fm.goS {s₀ s' : Shared} {L : Addr} {m : Str → Option Value} {W : List Addr} (F : Fm w mg mb s₀ L m W s) (Y : Ex W s s') (h : L ∉ W) : Fm w mg mb s₀ L m W s' :=
  ⟨F.G.ex Y, Ns.ex Y F.N F.hL.tab h, F.X.same Y, F.f, F.hL⟩
theorem PlainList.ex {W : List Addr} {s s' : Shared} {D : Addr} {xs : Array Value} (Y : Ex W s s') (h : s.heap.PlainList D xs) (hi : Hi D) (hW : D ∉ W) : s'.heap.PlainList D xs := by
  obtain ⟨n, e⟩ := h
  exact ⟨n, Y.get e hi.tab hW (by simp)⟩
theorem PlainList.seqAt {h : Heap} {D : Addr} {xs : Array Value} (x : h.PlainList D xs) : SeqAt h D xs := let ⟨n, e⟩ := x; ⟨_, n, e, rfl⟩
theorem Ex.there' {W : List Addr} {s s' : Shared} (Y : Ex W s s') {a : Addr} (h : ∃ o, s.heap.get? a = some o) : ∃ o, s'.heap.get? a = some o := let ⟨_, e⟩ := h; Y.there _ _ e
theorem All2.append {α β : Type} {R : α → β → Prop} : ∀ {l : List α} {m : List β} {l' : List α} {m' : List β}, All2 R l m → All2 R l' m' → All2 R (l ++ l') (m ++ m')
  | _, _, _, _, .nil, h => h
  | _, _, _, _, .cons h t, h' => .cons h (t.append h')

/-- all that is new behind s₃ is kept from s₅ to s₆ -/
def NewKept (s₃ s₅ s₆ : Shared) : Prop := ∀ b o, s₃.heap.get? b = none → s₅.heap.get? b = some o → o.cls ≠ .type "frame" → s₆.heap.get? b = some o
theorem Ex.newKept {V : List Addr} {s₃ s₅ s₆ : Shared} (Y : Ex V s₅ s₆) (G : Gd w mg mb s₃) (h : ∀ b ∈ V, ∃ o, s₃.heap.get? b = some o) : NewKept s₃ s₅ s₆ := fun b o e1 e2 e3 =>
  Y.get e2 (G.hi e1).tab (fun m => by obtain ⟨o', e⟩ := h b m; rw [e1] at e; cases e) e3
/-- a name space that was made behind s is let go -/
theorem Ex.forget {W : List Addr} {s s₁ : Shared} {C : Addr} {h' : Heap} (Y : Ex W s s₁) (hC : s.heap.get? C = none) (hi : Hi C) (sb : Heap.SameBut C s₁.heap h') : Ex W s { s₁ with heap := h' } := by
  have up : ∀ b, (∃ o, s.heap.get? b = some o) → h'.get? b = s₁.heap.get? b := fun b ⟨o, e⟩ => sb.2 b (fun z => by rw [z, hC] at e; cases e)
  refine ⟨fun a o e ht hW => ?_, fun a o e hi ht => (up a ⟨_, e⟩).trans (Y.im a o e hi ht), fun a o e => ?_, Y.wlo, Y.gsz, Y.os, fun t => (Y.tabs t).sameBut (fun b hb o e => (sb.2 b hb).trans e) hi, Y.bare⟩
  · obtain ⟨sl, e1, e2⟩ := Y.keep a o e ht hW
    exact ⟨sl, (up a ⟨_, e⟩).trans e1, e2⟩
  · obtain ⟨o', e'⟩ := Y.there a o e
    exact ⟨o', (up a ⟨_, e⟩).trans e'⟩
/-- the tests of a comprehension's clause -/
abbrev testsOf (ifs : List Expr) (cenv : Env) : Sem Bool := forIn ifs true fun c r => if r = true then do let ok ← isTrue c cenv (eval c cenv); pure (ForInStep.yield ok) else pure (ForInStep.yield r)

structure CompSrc (w : World) (mg mb : Str → Option Value) (A : Around) (env : Env) (scope : Scope) (cl : List (Str × Addr)) (x : Str) (ifs : List Expr) (elt : Expr) (I : Addr) (W fp : List Addr) {α : Type} (R : α → Value → Shared → Prop) (St : List α → Shared → Prop)
    (p : α → Bool) (S : α → Value → Shared → Shared → Prop) (rem : List α) (s₂ : Shared) : Prop where
  T : Iter w A I W fp R St
  steady : ∀ {rem V s s'}, St rem s → Ex V s s' → (∀ a ∈ V, a ∉ fp) → St rem s'
  self : ∀ {s Q E}, St rem s → Q (.ref I) s → wpAny (model pw w) A (pyIter (.ref I)) Q E s
  G : Gd w mg mb s₂
  st : St rem s₂
  sz : rem.length ≤ 1000
  hfp : ∀ a ∈ fp, ∃ o, s₂.heap.get? a = some o
  hW : ∀ a ∈ W, ∃ o, s₂.heap.get? a = some o
  loW : ∀ a ∈ W, Hi a
  stab : ∀ {a y s₃ s₅ s₆}, S a y s₃ s₅ → NewKept s₃ s₅ s₆ → S a y s₃ s₆
  turn : ∀ {a v C m₃ s₃}, a ∈ rem → Fm w mg mb s₂ C m₃ W s₃ → m₃ x = some v → R a v s₃ → wpAny (model pw w) A (testsOf ifs (compEnvC scope cl C env)) (fun ok s₄ => ok = p a ∧ Ex [] s₃ s₄ ∧
    (ok = true → wpAny (model pw w) A (eval elt (compEnvC scope cl C env)) (fun y s₅ => Ex [] s₄ s₅ ∧ S a y s₃ s₅) (fun _ _ => False) s₄)) (fun _ _ => False) s₃

theorem append_plain {D : Addr} {ys : Array Value} {y : Value} (h : s.heap.PlainList D ys) (hi : Hi D) (hz : ys.size ≤ 1000) (hq : ∀ s', Ex [D] s s' → s'.heap.PlainList D (ys.push y) → Q .none s') : wpAny (model pw w) A (call (.builtin "list.append") [.ref D, y]) Q E s := by
  have h' := h
  obtain ⟨n, e⟩ := h'
  refine wpAny_list_append_plain h (fun h1 p1 sb => ?_) (by rw [sizeLine_eq]; omega)
  exact hq _ (Ex.turn (tk := s.toks) e (by rintro (⟨h, _⟩ | ⟨h, _⟩) <;> simp at h) hi sb (let ⟨_, e⟩ := p1; ⟨_, e⟩)) p1

theorem comp_list {elt iter : Expr} {x : Str} {px : Pos} {ifs : List Expr} {scope : Scope} {cl : List (Str × Addr)} {pos : Pos} {env : Env}
    (h : wpAny (model pw w) A (eval iter env) (fun xv s₁ => wpAny (model pw w) A (pyIter xv) (fun it s₂ => ∃ (I : Addr) (W fp : List Addr) (α : Type) (R : α → Value → Shared → Prop) (St : List α → Shared → Prop) (p : α → Bool)
      (S : α → Value → Shared → Shared → Prop) (rem : List α), it = .ref I ∧ CompSrc w mg mb A env scope cl x ifs elt I W fp R St p S rem s₂ ∧
      (∀ D s' ys, Ex W s₂ s' → s₂.heap.get? D = none → s'.heap.PlainList D ys.toArray → All2 (fun a y => ∃ s₃, Ex W s₂ s₃ ∧ S a y s₃ s') (rem.filter p) ys → Q (.ref D) s')) E s₁) E s)
    (hclos : closureFor scope env = pure cl := by rfl) (hcell : ∀ y ∈ scope.names, y.2 ≠ .cell := by decide) (hkind : scope.kind = .function := by rfl)
    (hnames : ∀ y ∈ scope.names, y.2 = .local → scope.names.lookup y.1 = some .local := by decide) (hx : scope.names.lookup x = some .local := by rfl)
    (hs : ∀ x, foldedSetIterable iter env x = pure x := by intro _; rfl) :
    wpAny (model pw w) A (eval (.ListComp elt [⟨.Name x px, iter, ifs, 0⟩] scope pos) env) Q E s := by
  rw [eval_ListComp]
  refine wpAny_comprehension_free (use := none) rfl hs hclos hkind hnames (wpAny_mono h (fun xv s₁ h₁ => wpAny_mono h₁ (fun it s₂ h₂ => ?_) fun _ _ e => e) fun _ _ e => e)
  obtain ⟨I, W, fp, α, R, St, p, S, rem, rfl, Z, hQ⟩ := h₂
  refine wpAny_newObj_type ?_ (by size_fits)
  refine wpAny_newFunctionEnv hcell (by intro y hy; simp at hy) (fun h₁ hns₁ hsb₁ => ?_) hkind
  dsimp only at hns₁ hsb₁ ⊢
  generalize hD : s₂.heap.objs.size = D at hns₁ hsb₁ ⊢
  generalize hH2 : s₂.heap.push { cls := .type "list", dict := none, data := .seq ([] : List Value).toArray } = H2 at hns₁ hsb₁ ⊢
  generalize hC : H2.objs.size = C at hns₁ hsb₁ ⊢
  have k2 : ∀ b o, s₂.heap.get? b = some o → H2.get? b = some o := fun b o e => hH2 ▸ Heap.get?_push_of_some _ e
  have fC : H2.get? C = none := hC ▸ get_size _
  have fD : s₂.heap.get? D = none := hD ▸ get_size _
  have fC2 : s₂.heap.get? C = none := by
    cases e : s₂.heap.get? C with
    | none => rfl
    | some o => rw [k2 _ _ e] at fC; cases fC
  have eD : H2.PlainList D #[] := ⟨_, by rw [← hH2, ← hD]; exact Heap.get?_push_size _ rfl⟩
  have hDC : D ≠ C := fun e => by obtain ⟨_, z⟩ := eD; rw [e, fC] at z; cases z
  have k1 : ∀ b o, H2.get? b = some o → h₁.get? b = some o := fun b o e => hsb₁.extBut b o (fun z => by rw [z, fC] at e; cases e) (Heap.get?_push_of_some _ e)
  have X1 : Ex [] s₂ { s₂ with heap := h₁, toks := s₂.toks + ([] : List (Str × Value)).length } := Ex.of_keep fun b o e => k1 _ _ (k2 _ _ e)
  have hiD : Hi D := Z.G.hi fD
  have hiC : Hi C := Z.G.hi fC2
  have nfD : ∀ {l : List Addr}, (∀ a ∈ l, ∃ o, s₂.heap.get? a = some o) → D ∉ l := fun h m => by obtain ⟨o, e⟩ := h _ m; rw [fD] at e; cases e
  have nfC : ∀ {l : List Addr}, (∀ a ∈ l, ∃ o, s₂.heap.get? a = some o) → C ∉ l := fun h m => by obtain ⟨o, e⟩ := h _ m; rw [fC2] at e; cases e
  have F1 : Fm w mg mb s₂ C (fun x => List.lookup x ([] : List (Str × Value)).reverse) W { s₂ with heap := h₁, toks := s₂.toks + ([] : List (Str × Value)).length } :=
    ⟨Z.G.ex X1, hns₁, X1.weaken (by simp) Z.loW, fC2, hiC⟩
  have st1 := Z.steady Z.st X1 (by simp)
  have loop : codeAny (model pw w) A (.compLoop (.ListComp elt [⟨.Name x px, iter, ifs, 0⟩] scope pos) 0 (.ref I) (.ref D) (compEnvC scope cl C env)) (compPost (model pw w) A E none Q (.ref D) C) { s₂ with heap := h₁, toks := s₂.toks + ([] : List (Str × Value)).length } := by
    refine codeAny_compLoop_tests (fun k s' => ∃ pre rem' ys m', k = rem'.length ∧ rem = pre ++ rem' ∧ St rem' s' ∧ Fm w mg mb s₂ C m' W s' ∧ s'.heap.PlainList D ys.toArray ∧
      All2 (fun a y => ∃ s₃, Ex W s₂ s₃ ∧ (∃ o, s₃.heap.get? C = some o) ∧ (∃ o, s₃.heap.get? D = some o) ∧ S a y s₃ s') (pre.filter p) ys) ?_ rem.length ⟨[], rem, [], _, rfl, rfl, st1, F1, let ⟨n, e⟩ := eD; ⟨n, k1 _ _ e⟩, .nil⟩
    rintro k s' ⟨pre, rem', ys, m', rfl, hrem, hst, F, hPL, hA⟩
    have lift : ∀ {s6}, (∀ s₃, Gd w mg mb s₃ → Ex W s₂ s₃ → (∃ o, s₃.heap.get? C = some o) → (∃ o, s₃.heap.get? D = some o) → NewKept s₃ s' s6) → All2 (fun a y => ∃ s₃, Ex W s₂ s₃ ∧ (∃ o, s₃.heap.get? C = some o) ∧ (∃ o, s₃.heap.get? D = some o) ∧ S a y s₃ s6) (pre.filter p) ys := fun Y => hA.imp fun a y ⟨s₃, X3, c1, c2, z⟩ =>
      ⟨s₃, X3, c1, c2, Z.stab z (Y s₃ (Z.G.ex X3) X3 c1 c2)⟩
    have len : ys.length ≤ 1000 := by
      have z1 := hA.len
      have z2 := Z.sz
      have z3 : (pre.filter p).length ≤ pre.length := List.length_filter_le _ _
      rw [hrem, List.length_append] at z2
      omega
    cases rem' with
    | nil =>
      refine Z.T.done hst fun s1 Y => ⟨m', Ns.ex Y F.N hiC.tab (nfC Z.hW), fun h' sb => ?_⟩
      have hp1 := PlainList.ex Y hPL hiD (nfD Z.hW)
      obtain ⟨nD, eD1⟩ := hp1
      refine hQ D _ ys ((F.X.same Y).forget fC2 hiC sb) fD ⟨nD, (sb.2 D hDC).trans eD1⟩ ?_
      rw [List.append_nil] at hrem
      subst hrem
      refine (lift (s6 := { s1 with heap := h' }) fun s₃ G3 X3 c1 c2 b o e1 e2 e3 => ?_).imp fun a y ⟨s₃, X3, _, _, z⟩ => ⟨s₃, X3, z⟩
      have e4 := Y.newKept G3 (fun b hb => X3.there' (Z.hW b hb)) b o e1 e2 e3
      exact (sb.2 b (fun z => by obtain ⟨_, q⟩ := c1; rw [z, q] at e1; cases e1)).trans e4
    | cons a rem' =>
      have ham : a ∈ rem := hrem ▸ List.mem_append.mpr (.inr (.head _))
      refine Z.T.item hst fun v s1 hst1 Y hR => ?_
      have F1 := F.goS Y (nfC Z.hW)
      have cC1 : ∃ o, s1.heap.get? C = some o := let ⟨o, _, _, e, _⟩ := F1.N; ⟨o, e⟩
      have pl1 := PlainList.ex Y hPL hiD (nfD Z.hW)
      refine wpAny_assign_Name (Fm.st F1 (env := compEnvC scope cl C env) (fun s2 F2 Y2 => ?_) rfl (lookup_relabel_local hx) hkind)
      have hst2 := Z.steady hst1 Y2 (fun b hb => by rw [List.mem_singleton.mp hb]; exact nfC Z.hfp)
      have hR2 := Z.T.stab hR Y2
      have pl2 := PlainList.ex Y2 pl1 hiD (by simpa using hDC)
      have cC2 : ∃ o, s2.heap.get? C = some o := Y2.there' cC1
      have cD2 : ∃ o, s2.heap.get? D = some o := let ⟨_, e⟩ := pl2; ⟨_, e⟩
      refine wpAny_mono (Z.turn ham F2 (by simp) hR2) (fun ok s3 h3 => ?_) fun _ _ z => z.elim
      obtain ⟨rfl, Y3, h4⟩ := h3
      have hst3 := Z.steady hst2 Y3 (by simp)
      have F3 := F2.go Y3
      have pl3 := PlainList.ex Y3 pl2 hiD (by simp)
      have nk3 : ∀ s₃, Gd w mg mb s₃ → Ex W s₂ s₃ → (∃ o, s₃.heap.get? C = some o) → (∃ o, s₃.heap.get? D = some o) → NewKept s₃ s' s3 := fun s₃ G3 X3 c1 c2 b o e1 e2 e3 => by
        have q1 := Y.newKept G3 (fun b hb => X3.there' (Z.hW b hb)) b o e1 e2 e3
        have q2 := Y2.newKept G3 (fun b hb => by rw [List.mem_singleton.mp hb]; exact c1) b o e1 q1 e3
        exact Y3.newKept G3 (by simp) b o e1 q2 e3
      cases hp : p a with
      | false =>
        rw [if_neg (by simp)]
        exact ⟨rem'.length, by simp, pre ++ [a], rem', ys, _, rfl, by simpa using hrem, hst3, F3, pl3, by rw [List.filter_append]; simpa [hp] using lift nk3⟩
      | true =>
        rw [if_pos rfl]
        refine wpAny_mono (h4 hp) (fun y s4 h5 => ?_) fun _ _ z => z.elim
        obtain ⟨Y4, hS⟩ := h5
        have hst4 := Z.steady hst3 Y4 (by simp)
        have F4 := F3.go Y4
        have pl4 := PlainList.ex Y4 pl3 hiD (by simp)
        refine append_plain pl4 hiD (by simpa using len) fun s5 Y5 pl5 => ?_
        refine ⟨rem'.length, by simp, pre ++ [a], rem', ys ++ [y], _, rfl, by simpa using hrem, Z.steady hst4 Y5 (fun b hb => by rw [List.mem_singleton.mp hb]; exact nfD Z.hfp), F4.goN Y5 (by simpa using Ne.symm hDC) (by simpa using fD), by simpa using pl5, ?_⟩
        have nk5 : ∀ s₃, Gd w mg mb s₃ → Ex W s₂ s₃ → (∃ o, s₃.heap.get? C = some o) → (∃ o, s₃.heap.get? D = some o) → NewKept s₃ s' s5 := fun s₃ G3 X3 c1 c2 b o e1 e2 e3 => by
          have q1 := nk3 s₃ G3 X3 c1 c2 b o e1 e2 e3
          have q2 := Y4.newKept G3 (by simp) b o e1 q1 e3
          exact Y5.newKept G3 (fun b hb => by rw [List.mem_singleton.mp hb]; exact c2) b o e1 q2 e3
        rw [List.filter_append]
        refine (lift nk5).append ?_
        rw [show [a].filter p = [a] by simp [hp]]
        exact .cons ⟨s2, F2.X, cC2, cD2, Z.stab hS (Y5.newKept F2.G (fun b hb => by rw [List.mem_singleton.mp hb]; exact cD2))⟩ .nil
  exact codeAny_compStart_list loop (Z.self st1 loop)
end Mine

namespace Mine
variable {w : World} {mg mb : Str → Option Value}
variable {s : Shared} {Q : Value → Shared → Prop} {E : Value → Shared → Prop} {A : Around} {n : Nat}

abbrev Row := List (Int × Str)
/-- a tuple of a code and a text -/
def TupV (h : Heap) (p : Int × Str) (v : Value) : Prop := ∃ x n tc tv, v = .ref x ∧ tabA x = false ∧ h.get? x = some { cls := .type "tuple", data := .seq #[.int p.1 tc, .str p.2 tv] n }
theorem TupV.ex {W : List Addr} {s s' : Shared} {p : Int × Str} {v : Value} (Y : Ex W s s') (t : TupV s.heap p v) : TupV s'.heap p v := by
  obtain ⟨x, n, tc, tv, rfl, ht, e⟩ := t
  exact ⟨x, n, tc, tv, rfl, ht, Y.im _ _ e (.inr ⟨rfl, _, _, rfl⟩) ht⟩
def TagV (h : Heap) (p : Int × Str) (v : Value) : Prop := ∃ x, v = .ref x ∧ TagAt h x p.1 p.2
theorem TagV.ex {W : List Addr} {s s' : Shared} {p : Int × Str} {v : Value} (Y : Ex W s s') (t : TagV s.heap p v) : TagV s'.heap p v := let ⟨x, e, t⟩ := t; ⟨x, e, t.ex Y⟩
/-- a list of such tuples -/
def RowsAt (h : Heap) (l : Addr) (row : Row) : Prop := ∃ xs : List Value, h.PlainList l xs.toArray ∧ All2 (TupV h) row xs
theorem RowsAt.ex {W : List Addr} {s s' : Shared} {l : Addr} {row : Row} (Y : Ex W s s') (t : RowsAt s.heap l row) (ht : tabA l = false) (hW : l ∉ W) : RowsAt s'.heap l row := by
  obtain ⟨xs, ⟨n, e⟩, a⟩ := t
  exact ⟨xs, ⟨n, Y.get e ht hW (by simp)⟩, a.imp fun _ _ z => z.ex Y⟩
/-- Tags of such tags -/
def TagsAt (h : Heap) (T dx : Addr) (row : Row) : Prop := ∃ xs : List Value, (∃ n, h.get? T = some (tagsO dx xs.toArray n)) ∧ All2 (TagV h) row xs ∧ h.get? dx = some emptyD
theorem TagsAt.ex {W : List Addr} {s s' : Shared} {T dx : Addr} {row : Row} (Y : Ex W s s') (t : TagsAt s.heap T dx row) (hT : Hi T) (hd : Hi dx) (hW : T ∉ W) (hW2 : dx ∉ W) : TagsAt s'.heap T dx row := by
  obtain ⟨xs, ⟨n, e⟩, a, e2⟩ := t
  exact ⟨xs, ⟨n, Y.get e hT.tab hW (by simp)⟩, a.imp fun _ _ z => z.ex Y, Y.get e2 hd.tab hW2 (by simp)⟩

theorem list_iter {l : Addr} {xs : Array Value} (hl : s.heap.PlainList l xs)
    (h : ∀ it h', s.heap.get? it = none → (∀ b o, s.heap.get? b = some o → h'.get? b = some o) → h'.IsListIter it l 0 → Q (.ref it) { s with heap := h' }) : wpAny (model pw w) A (pyIter (.ref l)) Q E s :=
  wpAny_pyIter_list hl.isList (h _ _ (get_size _) (fun _ _ e => Heap.get?_push_of_some _ e) ⟨_, Heap.get?_push_size _ rfl, rfl, rfl⟩)
theorem LI.self {it l : Addr} {xs : Array Value} {rem : List Value} (st : LI it l xs rem s) (h : Q (.ref it) s) : wpAny (model pw w) A (pyIter (.ref it)) Q E s :=
  let ⟨_, _, _, _, hit, _⟩ := st; wpAny_pyIter_listiter hit h
theorem All2.mem {α β : Type} {R : α → β → Prop} : ∀ {l : List α} {m : List β} {b : β}, All2 R l m → b ∈ m → ∃ a, a ∈ l ∧ R a b
  | _, _, _, .cons h t, m => by
    cases m with
    | head => exact ⟨_, .head _, h⟩
    | tail _ m => obtain ⟨a, ha, r⟩ := t.mem m; exact ⟨a, .tail _ ha, r⟩
/-- two steps become one -/
theorem All2.comp {α β γ : Type} {R : α → β → Prop} {S : β → γ → Prop} {T : α → γ → Prop} (f : ∀ a b c, R a b → S b c → T a c) : ∀ {l : List α} {m : List β} {k : List γ}, All2 R l m → All2 S m k → All2 T l k
  | _, _, _, .nil, .nil => .nil
  | _, _, _, .cons h t, .cons h' t' => .cons (f _ _ _ h h') (t.comp f t')

/-- an item of a tuple -/
theorem tup_0 {t : Addr} {items : Array Value} {pos p : Pos} {kc : Nat} {i : Int} {y : Value} {value : Expr} {env : Env}
    (h : wpAny (model pw w) A (eval value env) (fun o s1 => ∃ t items, o = .ref t ∧ IsTup s1.heap t items ∧ 0 ≤ i ∧ i < 100 ∧ i.toNat < items.size ∧ ∃ y, items[i.toNat]? = some y ∧ Q y { s1 with toks := s1.toks + 1 }) E s)
    (ht : ∀ o r, letTemporaryGo value o r = pure () := by intro _ _; rfl) : wpAny (model pw w) A (eval (.Subscript value (.Constant (.int i) kc p) pos) env) Q E s := by
  refine Subscript_Constant (wpAny_mono h (fun o s1 h1 => ?_) fun _ _ z => z) ht
  obtain ⟨t, items, rfl, it, i0, i1, ilt, y, hy, hq⟩ := h1
  refine wpAny_Constant_int ⟨"tuple", _, slot_tuple_getitem.lookup, it.typeIs, getItem_tuple (s := { s1 with toks := s1.toks + 1 }) it (by omega) (by omega) (j := i.toNat) ?_ hy hq⟩
  unfold seqIndex?
  simp; omega

/-- a list, or Tags -/
def LstAt (h : Heap) (l : Addr) (xs : List Value) : Prop := h.PlainList l xs.toArray ∨ ∃ dx n, h.get? l = some (tagsO dx xs.toArray n)
theorem LstAt.seqAt {h : Heap} {l : Addr} {xs : List Value} (x : LstAt h l xs) : SeqAt h l xs.toArray := by
  rcases x with ⟨n, e⟩ | ⟨dx, n, e⟩
  · exact ⟨_, _, e, rfl⟩
  · exact ⟨_, _, e, rfl⟩
theorem lst_iter {l : Addr} {xs : List Value} (X : (Kf w.params).In s.heap) (hl : LstAt s.heap l xs)
    (h : ∀ it h', s.heap.get? it = none → (∀ b o, s.heap.get? b = some o → h'.get? b = some o) → h'.IsListIter it l 0 → Q (.ref it) { s with heap := h' }) : wpAny (model pw w) A (pyIter (.ref l)) Q E s := by
  rcases hl with hl | ⟨dx, n, hl⟩
  · exact list_iter hl h
  · exact tags_iter X hl h
theorem Ex.drop' {W : List Addr} {s s₁ s₂ : Shared} {it : Addr} (Y : Ex [] s s₁) (Z : Ex [it] s₁ s₂) (h : s.heap.get? it = Option.none) : Ex [] s s₂ := (Y.trans Z).drop (by simpa using h)

theorem comp_seq {elt iter : Expr} {x : Str} {px : Pos} {ifs : List Expr} {scope : Scope} {cl : List (Str × Addr)} {pos : Pos} {env : Env} (hh : A.handled = none) (p : Value → Bool) (S : Value → Value → Shared → Shared → Prop)
    (stab : ∀ {a y s₃ s₅ s₆}, S a y s₃ s₅ → NewKept s₃ s₅ s₆ → S a y s₃ s₆)
    (h : wpAny (model pw w) A (eval iter env) (fun xv s₁ => ∃ l xs, xv = .ref l ∧ LstAt s₁.heap l xs ∧ Hi l ∧ Gd w mg mb s₁ ∧ xs.length ≤ 1000 ∧
      (∀ a C m₃ s₃, a ∈ xs → Fm w mg mb s₁ C m₃ [] s₃ → m₃ x = some a → wpAny (model pw w) A (testsOf ifs (compEnvC scope cl C env)) (fun ok s₄ => ok = p a ∧ Ex [] s₃ s₄ ∧
        (ok = true → wpAny (model pw w) A (eval elt (compEnvC scope cl C env)) (fun y s₅ => Ex [] s₄ s₅ ∧ S a y s₃ s₅) (fun _ _ => False) s₄)) (fun _ _ => False) s₃) ∧
      (∀ D s' ys, Ex [] s₁ s' → s₁.heap.get? D = none → s'.heap.PlainList D ys.toArray → All2 (fun a y => ∃ s₃, Ex [] s₁ s₃ ∧ S a y s₃ s') (xs.filter p) ys → Q (.ref D) s')) E s)
    (hclos : closureFor scope env = pure cl := by rfl) (hcell : ∀ y ∈ scope.names, y.2 ≠ .cell := by decide) (hkind : scope.kind = .function := by rfl)
    (hnames : ∀ y ∈ scope.names, y.2 = .local → scope.names.lookup y.1 = some .local := by decide) (hx : scope.names.lookup x = some .local := by rfl)
    (hs : ∀ x, foldedSetIterable iter env x = pure x := by intro _; rfl) :
    wpAny (model pw w) A (eval (.ListComp elt [⟨.Name x px, iter, ifs, 0⟩] scope pos) env) Q E s := by
  refine comp_list (mg := mg) (mb := mb) (wpAny_mono h (fun xv s₁ h1 => ?_) fun _ _ z => z) hclos hcell hkind hnames hx hs
  obtain ⟨l, xs, rfl, hl, hil, G, hz, turn, fin⟩ := h1
  refine lst_iter G.K hl fun it h' fit k hit => ?_
  have Y1 : Ex [] s₁ { s₁ with heap := h', toks := s₁.toks } := Ex.of_keep k
  have hne : l ≠ it := fun e => by
    obtain ⟨o, n, e', _⟩ := hl.seqAt
    rw [e, fit] at e'; cases e'
  have hiit := G.hi fit
  have ht : Hi it := hiit
  have sq : SeqAt h' l xs.toArray := SeqAt.ex Y1 hl.seqAt hil.tab (by simp)
  refine ⟨it, [it], [it, l], Value, _, _, p, S, xs, rfl, ⟨LI.iter hh it l xs.toArray, fun st Y hV => st.steady Y hV, fun st h => LI.self st h, G.ex Y1, ⟨hiit, hil, hne, 0, hit, sq, by simp⟩, hz, ?_, ?_, by simpa using hiit, stab, ?_⟩, ?_⟩
  · intro a m
    rcases List.mem_cons.mp m with rfl | m
    · obtain ⟨o, e, _⟩ := hit; exact ⟨o, e⟩
    · rw [List.mem_singleton.mp m]; obtain ⟨o, _, e, _⟩ := sq; exact ⟨o, e⟩
  · intro a m
    rw [List.mem_singleton.mp m]; obtain ⟨o, e, _⟩ := hit; exact ⟨o, e⟩
  · intro a v C m₃ s₃ ha F hm hR
    subst hR
    exact turn v C m₃ s₃ ha ⟨F.G, F.N, Ex.drop' (W := []) Y1 F.X fit, Y1.off F.f, F.hL⟩ hm
  · intro D s' ys X1 fD pl a2
    exact fin D s' ys (Ex.drop' (W := []) Y1 X1 fit) (Y1.off fD) pl (a2.imp fun a y ⟨s₃, X3, z⟩ => ⟨s₃, Ex.drop' (W := []) Y1 X3 fit, z⟩)
end Mine

namespace Mine
variable {w : World} {mg mb : Str → Option Value}
variable {s : Shared} {Q : Value → Shared → Prop} {E : Value → Shared → Prop} {A : Around} {n : Nat}

local macro_rules | `(tactic| walk_at "m go") => `(tactic| first
  | with_reducible refine wpAny_execs_cons ?_
  | with_reducible refine wpAny_Return_some ?_
  | with_reducible refine wpAny_Call_NameR ?_
  | with_reducible refine wpAny_items_cons ?_ (by with_unfolding_all rfl)
  | with_reducible refine wpAny_items_nil ?_
  | ((with_reducible show wpAny _ _ (eval (.Name _ _) _) _ _ _); first
    | refine Fm.ldL ‹Fm _ _ _ _ _ _ _ _› (by rfl) ?_
    | refine Fm.ldL ‹Fm _ _ _ _ _ _ _ _› (by assumption) ?_
    | refine Fm.ldG ‹Fm _ _ _ _ _ _ _ _› (by rfl) ?_
    | refine Fm.ldB ‹Fm _ _ _ _ _ _ _ _› (by rfl) (by rfl) ?_)
  | ((with_reducible show wpAny _ _ (callWith _ (.ref _) _ _ _) _ _ _); refine callWith_K (Fm.G ‹Fm _ _ _ _ _ _ _ _›).K (by rfl) ?_))

theorem TupV.inj {h : Heap} {p q : Int × Str} {v : Value} (t : TupV h p v) (t' : TupV h q v) : p = q := by
  obtain ⟨x, n, tc, tv, rfl, _, e⟩ := t
  obtain ⟨x', n', tc', tv', e1, _, e'⟩ := t'
  cases e1
  rw [e] at e'
  obtain ⟨p1, p2⟩ := p
  obtain ⟨q1, q2⟩ := q
  simp at e'
  simp [e'.1.1.1, e'.1.2.1]
theorem TupV.isTup {h : Heap} {p : Int × Str} {v : Value} (t : TupV h p v) : ∃ x tc tv, v = .ref x ∧ IsTup h x #[.int p.1 tc, .str p.2 tv] := by
  obtain ⟨x, n, tc, tv, rfl, _, e⟩ := t
  exact ⟨x, tc, tv, rfl, _, e, rfl, n, rfl⟩
theorem sub_code {pos q : Pos} {kc : Nat} {value : Expr} {env : Env} (h : wpAny (model pw w) A (eval value env) (fun o s1 => ∃ p, TupV s1.heap p o ∧ ∀ tc s2, Ex [] s1 s2 → s2.heap = s1.heap → Q (.int p.1 tc) s2) E s)
    (ht : ∀ o r, letTemporaryGo value o r = pure () := by intro _ _; rfl) : wpAny (model pw w) A (eval (.Subscript value (.Constant (.int 0) kc q) pos) env) Q E s := by
  refine tup_0 (t := 0) (items := #[]) (y := .none) (wpAny_mono h (fun o s1 h1 => ?_) fun _ _ z => z) ht
  obtain ⟨p, t, hq⟩ := h1
  obtain ⟨x, tc, tv, rfl, it⟩ := t.isTup
  exact ⟨x, _, rfl, it, by omega, by omega, by simp, _, rfl, hq _ _ (Ex.tok _) rfl⟩
theorem sub_val {pos q : Pos} {kc : Nat} {value : Expr} {env : Env} (h : wpAny (model pw w) A (eval value env) (fun o s1 => ∃ p, TupV s1.heap p o ∧ ∀ tc s2, Ex [] s1 s2 → s2.heap = s1.heap → Q (.str p.2 tc) s2) E s)
    (ht : ∀ o r, letTemporaryGo value o r = pure () := by intro _ _; rfl) : wpAny (model pw w) A (eval (.Subscript value (.Constant (.int 1) kc q) pos) env) Q E s := by
  refine tup_0 (t := 0) (items := #[]) (y := .none) (wpAny_mono h (fun o s1 h1 => ?_) fun _ _ z => z) ht
  obtain ⟨p, t, hq⟩ := h1
  obtain ⟨x, tc, tv, rfl, it⟩ := t.isTup
  exact ⟨x, _, rfl, it, by omega, by omega, by simp, _, rfl, hq _ _ (Ex.tok _) rfl⟩

def madeTag (h0 : Heap) (a y : Value) (s₃ s₅ : Shared) : Prop := ∃ p x dx tc tv, TupV h0 p a ∧ y = .ref x ∧ Hi x ∧ s₃.heap.get? x = none ∧ s₃.heap.get? dx = none ∧ s₅.heap.get? x = some (tagO dx p.1 tc p.2 tv) ∧ s₅.heap.get? dx = some emptyD

theorem law_tags_call {l : Addr} {row : Row} (r : Rm (n + 6) A) (G : Gd w mg mb s) (hl : RowsAt s.heap l row) (hil : Hi l) (hz : row.length ≤ 1000)
    (h : ∀ T dx s', Ex [] s s' → s.heap.get? T = none → s.heap.get? dx = none → TagsAt s'.heap T dx row → Q (.ref T) s') : wpAny (model pw w) A (call (.ref 500) [.ref l]) Q E s := by
  refine wpAny_call (call_fn (n := n + 5) (binds := [("rows", .ref l)]) r G (f := 500) (by rfl) (by rfl) (BindsTo.of_eq (by rfl)) fun A' L s1 r1 F => ?_)
  refine wpAny_execs_cons ?_
  repeat walk_at "m go"
  refine comp_seq (mg := mg) (mb := mb) r1.hh (fun _ => true) (madeTag s1.heap) ?_ ?_
  · rintro a y s₃ s₅ s₆ ⟨p, x, dx, tc, tv, h1, rfl, h3, h4, h5, h6, h7⟩ nk
    exact ⟨p, x, dx, tc, tv, h1, rfl, h3, h4, h5, nk _ _ h4 h6 (by simp), nk _ _ h5 h7 (by simp)⟩
  repeat walk_at "m go"
  obtain ⟨xs, pl, a2⟩ := hl.ex F.X hil.tab (by simp)
  refine ⟨l, xs, rfl, .inl pl, hil, F.G, by rw [← a2.len]; exact hz, ?_, ?_⟩
  · intro a C m₃ s₃ ha F3 hm
    obtain ⟨p, _, tv⟩ := a2.mem ha
    refine wpAny_tests_nil ⟨rfl, Ex.refl _, fun _ => ?_⟩
    repeat walk_at "m go"
    refine sub_code ?_
    repeat walk_at "m go"
    refine ⟨p, tv.ex F3.X, fun tc s4 Y4 e4 => ?_⟩
    replace F3 := F3.go Y4
    repeat walk_at "m go"
    refine sub_val ?_
    repeat walk_at "m go"
    refine ⟨p, tv.ex F3.X, fun tv' s5 Y5 e5 => ?_⟩
    replace F3 := F3.go Y5
    repeat walk_at "m go"
    refine ⟨F3.G.K, (r1.mono (by omega : 1 ≤ n + 5)).leaf (dxf_new0 F3.G.K fun x dx s6 Y6 n1 n2 e1 e2 => ⟨(Y4.then0 Y5).then0 Y6, p, x, dx, tc, tv', tv, rfl, F3.G.hi n1, (Y4.then0 Y5).off n1, (Y4.then0 Y5).off n2, e1, e2⟩)⟩
  · intro D s' ys X1 fD pl' a3
    have F2 := F.go X1
    rw [List.filter_eq_self.mpr (fun _ _ => rfl)] at a3
    have a4 : All2 (TagV s'.heap) row ys := by
      refine a2.comp (fun q a y hq hy => ?_) a3
      obtain ⟨s₃, X3, p, x, dx, tc, tv, h1, rfl, h3, h4, h5, h6, h7⟩ := hy
      have : p = q := TupV.inj h1 hq
      subst this
      exact ⟨x, rfl, h3, dx, tc, tv, _, h6, h7⟩
    repeat walk_at "m go"
    obtain ⟨nD, eD⟩ := pl'
    refine ⟨F2.G.K, tags_of_list (r1.mono (by omega : 1 + 1 ≤ n + 5)) F2.G eD (F.G.hi fD).tab (by simp; rw [← a4.len]; exact hz) fun x dx n' s2 X2 n1 n2 e1 e2 => ?_⟩
    exact h x dx s2 (F2.X.then0 X2) (F2.new n1) (F2.new n2) ⟨ys, ⟨n', e1⟩, a4.imp fun _ _ z => z.ex X2, e2⟩
end Mine

namespace Mine
variable {w : World} {mg mb : Str → Option Value}
variable {s : Shared} {Q : Value → Shared → Prop} {E : Value → Shared → Prop} {A : Around} {n : Nat}

local macro_rules | `(tactic| walk_at "m go") => `(tactic| first
  | with_reducible refine wpAny_execs_cons ?_
  | with_reducible refine wpAny_Return_some ?_
  | with_reducible refine wpAny_Call_NameR ?_
  | with_reducible refine wpAny_items_cons ?_ (by with_unfolding_all rfl)
  | with_reducible refine wpAny_items_nil ?_
  | with_reducible refine Attribute_name ?_
  | with_reducible refine wpAny_Assign_Name ?_ (by with_unfolding_all rfl)
  | with_reducible refine wpAny_Constant_int ?_
  | with_reducible refine wpAny_Constant_str ?_
  | with_reducible refine wpAny_Constant_bool ?_
  | with_reducible refine wpAny_Constant_none ?_
  | ((with_reducible show wpAny _ _ (eval (.Name _ _) _) _ _ _); first
    | refine Fm.ldL ‹Fm _ _ _ _ _ _ _ _› (by rfl) ?_
    | refine Fm.ldL ‹Fm _ _ _ _ _ _ _ _› (by assumption) ?_
    | refine Fm.ldG ‹Fm _ _ _ _ _ _ _ _› (by rfl) ?_
    | refine Fm.ldB ‹Fm _ _ _ _ _ _ _ _› (by rfl) (by rfl) ?_)
  | ((with_reducible show wpAny _ _ (callWith _ (.ref _) _ _ _) _ _ _); refine callWith_K (Fm.G ‹Fm _ _ _ _ _ _ _ _›).K (by rfl) ?_))

/-- a new tuple -/
theorem tuple_ev {elts : List Expr} {k : Nat} {pos : Pos} {env : Env} (h : wpAny (model pw w) A (spliced (backTo pos (starEach elts env))) (fun vs s1 => vs.length ≤ 1000 ∧ ∀ x s', Ex [] s1 s' → s1.heap.get? x = none → s'.heap.get? x = some { cls := .type "tuple", data := .seq vs.toArray } → Q (.ref x) s') E s) :
    wpAny (model pw w) A (eval (.Tuple elts k pos) env) Q E s :=
  wpAny_Tuple (wpAny_mono h (fun vs s1 ⟨h1, h2⟩ => ⟨by rw [sizeLine_eq]; omega, h2 _ _ (Ex.push _ s1.toks) (get_size _) (Heap.get?_push_size _ rfl)⟩) fun _ _ z => z)
theorem list_ev {elts : List Expr} {pos : Pos} {env : Env} (h : wpAny (model pw w) A (spliced (backTo pos (starEach elts env))) (fun vs s1 => vs.length ≤ 1000 ∧ ∀ x s', Ex [] s1 s' → s1.heap.get? x = none → s'.heap.PlainList x vs.toArray → Q (.ref x) s') E s) :
    wpAny (model pw w) A (eval (.List elts pos) env) Q E s :=
  wpAny_List (wpAny_mono h (fun vs s1 ⟨h1, h2⟩ => ⟨by rw [sizeLine_eq]; omega, h2 _ _ (Ex.push _ s1.toks) (get_size _) ⟨_, Heap.get?_push_size _ rfl⟩⟩) fun _ _ z => z)

def madePair (h0 : Heap) (a y : Value) (s₃ s₅ : Shared) : Prop := ∃ p x tc tv k, TagV h0 p a ∧ y = .ref x ∧ tabA x = false ∧ s₃.heap.get? x = none ∧ s₅.heap.get? x = some { cls := .type "tuple", data := .seq #[.int p.1 tc, .str p.2 tv] k }

theorem TagV.inj {h : Heap} {p q : Int × Str} {v : Value} (t : TagV h p v) (t' : TagV h q v) : p = q := by
  obtain ⟨x, rfl, _, dx, tc, tv, od, e, _⟩ := t
  obtain ⟨x', e1, _, dx', tc', tv', od', e', _⟩ := t'
  cases e1
  rw [e] at e'
  obtain ⟨p1, p2⟩ := p
  obtain ⟨q1, q2⟩ := q
  simp [tagO] at e'
  simp [e'.2.1.1, e'.2.2.1]

theorem law_pairs_call {T : Addr} {ts : List Value} {row : Row} (r : Rm (n + 6) A) (G : Gd w mg mb s) (hl : LstAt s.heap T ts) (ht : All2 (TagV s.heap) row ts) (hil : Hi T) (hz : row.length ≤ 1000)
    (h : ∀ D s', Ex [] s s' → s.heap.get? D = none → RowsAt s'.heap D row → Q (.ref D) s') : wpAny (model pw w) A (call (.ref 495) [.ref T]) Q E s := by
  refine wpAny_call (call_fn (n := n + 5) (binds := [("tags", .ref T)]) r G (f := 495) (by rfl) (by rfl) (BindsTo.of_eq (by rfl)) fun A' L s1 r1 F => ?_)
  refine wpAny_execs_cons ?_
  repeat walk_at "m go"
  refine comp_seq (mg := mg) (mb := mb) r1.hh (fun _ => true) (madePair s1.heap) ?_ ?_
  · rintro a y s₃ s₅ s₆ ⟨p, x, tc, tv, k, h1, rfl, h3, h4, h5⟩ nk
    exact ⟨p, x, tc, tv, k, h1, rfl, h3, h4, nk _ _ h4 h5 (by simp)⟩
  repeat walk_at "m go"
  have hl1 : LstAt s1.heap T ts := hl.imp (fun z => PlainList.ex F.X z hil (by simp)) (fun ⟨dx, k, e⟩ => ⟨dx, k, F.X.get e hil.tab (by simp) (by simp)⟩)
  have ht1 : All2 (TagV s1.heap) row ts := ht.imp fun _ _ z => z.ex F.X
  refine ⟨T, ts, rfl, hl1, hil, F.G, by rw [← ht.len]; exact hz, ?_, ?_⟩
  · intro a C m₃ s₃ ha F3 hm
    obtain ⟨p, _, tv⟩ := ht1.mem ha
    refine wpAny_tests_nil ⟨rfl, Ex.refl _, fun _ => ?_⟩
    refine tuple_ev ?_
    have tv3 := tv.ex F3.X
    obtain ⟨x, rfl, t3⟩ := tv3
    repeat walk_at "m go"
    refine tag_code (n := n) (r1.mono (by omega)) F3.G.K t3 fun tc s4 Y4 => ?_
    replace F3 := F3.go Y4
    repeat walk_at "m go"
    refine tag_value (n := n) (r1.mono (by omega)) F3.G.K (t3.ex Y4) fun tv' s5 Y5 => ?_
    replace F3 := F3.go Y5
    repeat walk_at "m go"
    refine ⟨by simp, fun y s6 Y6 f6 e6 => ?_⟩
    exact ⟨(Y4.then0 Y5).then0 Y6, p, y, tc, tv', _, tv, rfl, (F3.G.hi f6).tab, (Y4.then0 Y5).off f6, e6⟩
  · intro D s' ys X1 fD pl' a3
    rw [List.filter_eq_self.mpr (fun _ _ => rfl)] at a3
    have F2 := F.go X1
    refine h D s' F2.X (F.new fD) ⟨ys, pl', ht1.comp (fun q a y hq hy => ?_) a3⟩
    obtain ⟨s₃, X3, p, x, tc, tv, k, h1, rfl, h3, h4, h5⟩ := hy
    have : p = q := TagV.inj h1 hq
    subst this
    exact ⟨x, k, tc, tv, rfl, h3, h5⟩
end Mine

namespace Mine
variable {w : World} {mg mb : Str → Option Value}
variable {s : Shared} {Q : Value → Shared → Prop} {E : Value → Shared → Prop} {A : Around} {n : Nat}

local macro_rules | `(tactic| walk_at "m go") => `(tactic| first
  | with_reducible refine wpAny_execs_cons ?_
  | with_reducible refine wpAny_Return_some ?_
  | with_reducible refine wpAny_Call_NameR ?_
  | with_reducible refine wpAny_items_cons ?_ (by with_unfolding_all rfl)
  | with_reducible refine wpAny_items_nil ?_
  | with_reducible refine Attribute_name ?_
  | with_reducible refine wpAny_Compare1 ?_ (by with_unfolding_all rfl)
  | with_reducible refine wpAny_isTrue_Compare1 ?_ (by with_unfolding_all rfl)
  | with_reducible refine wpAny_isTrue_Not ?_
  | with_reducible refine wpAny_isTrue_BoolOp ?_
  | with_reducible refine wpAny_allTrue_And_cons ?_
  | with_reducible refine wpAny_allTrue_And_nil ?_
  | with_reducible refine wpAny_allTrue_Or_cons ?_
  | with_reducible refine wpAny_allTrue_Or_nil ?_
  | with_reducible refine wpAny_If ?_
  | ((with_reducible show wpAny _ _ (exec (.Expr _ _) _) _ _ _); refine wpAny_Expr_any ?_)
  | ((with_reducible show wpAny _ _ (eval (.Call (.Attribute _ _ _) _ [] _) _) _ _ _); refine MethodCall_ ?_ (by rfl))
  | with_reducible refine wpAny_truthy_bool ?_
  | with_reducible refine wpAny_execs_nil ?_
  | ((with_reducible show wpAny _ _ (PySem.isTrue (.Call _ _ _ _) _ _) _ _ _); refine wpAny_isTrue_value ?_ (by rfl))
  | ((with_reducible show wpAny _ _ (PySem.isTrue (.Name _ _) _ _) _ _ _); refine wpAny_isTrue_value ?_ (by rfl))
  | with_reducible refine wpAny_Assign_Name ?_ (by with_unfolding_all rfl)
  | with_reducible refine wpAny_Constant_int ?_
  | with_reducible refine wpAny_Constant_str ?_
  | with_reducible refine wpAny_Constant_bool ?_
  | with_reducible refine wpAny_Constant_none ?_
  | ((with_reducible show wpAny _ _ (eval (.Name _ _) _) _ _ _); first
    | refine Fm.ldL ‹Fm _ _ _ _ _ _ _ _› (by rfl) ?_
    | refine Fm.ldL ‹Fm _ _ _ _ _ _ _ _› (by assumption) ?_
    | refine Fm.ldG ‹Fm _ _ _ _ _ _ _ _› (by rfl) ?_
    | (refine Fm.ldB (v := .builtin _) ‹Fm _ _ _ _ _ _ _ _› (by rfl) (by rfl) ?_; try dsimp only)
    | (refine Fm.ldB (v := .type _) ‹Fm _ _ _ _ _ _ _ _› (by rfl) (by rfl) ?_; try dsimp only))
  | ((with_reducible show wpAny _ _ (callWith _ (.builtin _) _ _ _) _ _ _); refine PyProof.Rows.callWith_builtin1 ?_ (by with_unfolding_all rfl) (by with_unfolding_all rfl))
  | ((with_reducible show wpAny _ _ (callWith _ (.type _) _ _ _) _ _ _); refine Mine.callWith_ty ?_ (by with_unfolding_all rfl) (by with_unfolding_all rfl))
  | ((with_reducible show wpAny _ _ (callWith _ (.ref _) _ _ _) _ _ _); refine callWith_K (Fm.G ‹Fm _ _ _ _ _ _ _ _›).K (by rfl) ?_))

theorem Rm.over0 {n : Nat} {A : Around} {c : Code} (r : Rm (n + 1) A) (hw : c.weight ≤ 1) (hu : c.cUnits ≤ 60) : Rm n (A.over c []) :=
  ⟨r.hh, by have := r.dp; show A.depth + 0 + c.weight + n ≤ 900; omega, by have := r.un; show A.units + 0 + c.cUnits + 60 * n ≤ 9000; omega⟩

/-- s' comes behind s, and what the generator stands on is kept -/
def Ready (fp : List Addr) (s s' : Shared) : Prop := ∃ V, Ex V s s' ∧ ∀ a ∈ V, a ∉ fp

structure GenTurn (w : World) (mg mb : Str → Option Value) (k : Nat) (target : Expr) (ifs : List Expr) (elt : Expr) (cenv : Env) (I : Addr) (W fp : List Addr) {α : Type} (R : α → Value → Shared → Prop) (St : List α → Shared → Prop)
    (p : α → Bool) (S : α → Value → Shared → Prop) (base : Shared) : Prop where
  T : ∀ A', Rm k A' → Iter w A' I W fp R St
  steady : ∀ {rem V s s'}, St rem s → Ex V s s' → (∀ a ∈ V, a ∉ fp) → St rem s'
  self : ∀ {A' : Around} {s Q E rem}, St rem s → Q (.ref I) s → wpAny (model pw w) A' (pyIter (.ref I)) Q E s
  own : ∀ {A' : Around} {s : Shared} {v : Value} {Q : Unit → Shared → Prop} {E : Value → Shared → Prop} {rem}, St rem s → Q () s → wpAny (model pw w) A' (letOwnedTupleGo target (.ref I) v) Q E s
  hC : cenv.locals ∉ fp
  hCW : cenv.locals ∉ W
  hi : Hi cenv.locals
  turn : ∀ {A' a v m₃ s₃}, Rm k A' → Gd w mg mb s₃ → (∃ V, Ex V base s₃) → s₃.heap.Ns cenv.locals m₃ → R a v s₃ → wpAny (model pw w) A' (assign target cenv v) (fun _ s₄ => (∃ m₄, s₄.heap.Ns cenv.locals m₄) ∧ Ex [cenv.locals] s₃ s₄ ∧
    wpAny (model pw w) A' (testsOf ifs cenv) (fun ok s₅ => ok = p a ∧ Ex [] s₄ s₅ ∧
      (ok = true → wpAny (model pw w) A' (eval elt cenv) (fun y s₆ => Ex [] s₅ s₆ ∧ S a y s₆) (fun _ _ => False) s₅)) (fun _ _ => False) s₄) (fun _ _ => False) s₃

def gProto {α : Type} (C : Addr) (W fp : List Addr) (S : α → Value → Shared → Prop) (all : List α) : Protocol := fun m s₀ v s kap =>
  (∃ a, all[all.length - 1 - m]? = some a ∧ S a v s) ∧ Ex (C :: W) s₀ s ∧ ∀ s'', Ready (C :: fp) s s'' → kap (.send .none) s''
abbrev gEnd (C : Addr) (W : List Addr) : GenEnd := fun n s₀ r s₁ => r = .ok .next ∧ (n = 0 ∧ Ex (C :: W) s₀ s₁)

theorem Ex.grow {V W : List Addr} {s s' s'' : Shared} (Y : Ex W s s') (Z : Ex V s' s'') (h : ∀ a ∈ V, a ∈ W) : Ex W s s'' :=
  (Y.trans Z).weaken (fun a m => (List.mem_append.mp m).elim id (h a)) Y.wlo

theorem seg_gen {elt target iter : Expr} {ifs : List Expr} {scope : Scope} {pos : Pos} {cenv : Env} {I : Addr} {W fp : List Addr} {α : Type} {R : α → Value → Shared → Prop} {St : List α → Shared → Prop} {p : α → Bool} {S : α → Value → Shared → Prop} {k : Nat} {base : Shared}
    (r : Rm (k + 1) A) (Z : GenTurn w mg mb k target ifs elt cenv I W fp R St p S base) (hlo : ∀ a ∈ W, Hi a) (all : List α) (hco : cenv.scope.isCoroutine = false) :
    ∀ (rem : List α) (pre : List α) (s₀ s : Shared) (m : Str → Option Value), all = pre ++ rem.filter p → St rem s → Gd w mg mb s → (∃ V, Ex V base s) → s.heap.Ns cenv.locals m → Ex (cenv.locals :: W) s₀ s →
      Seg (model pw w) A (gEnd cenv.locals W) (gProto cenv.locals W fp S all) (rem.filter p).length s₀
        (.compLoop (.GeneratorExp elt [⟨target, iter, ifs, 0⟩] scope pos) 0 (.ref I) .none cenv)
        ((model pw w).den (.compLoop (.GeneratorExp elt [⟨target, iter, ifs, 0⟩] scope pos) 0 (.ref I) .none cenv)) [] s := by
  have r' : Rm k (A.over (.compLoop (.GeneratorExp elt [⟨target, iter, ifs, 0⟩] scope pos) 0 (.ref I) .none cenv) []) := r.over0 (by exact Nat.le_of_ble_eq_true rfl) (by exact Nat.le_of_ble_eq_true rfl)
  have loW : ∀ a ∈ cenv.locals :: W, Hi a := fun a m => by
    rcases List.mem_cons.mp m with rfl | m
    · exact Z.hi
    · exact hlo a m
  intro rem
  induction rem with
  | nil =>
    intro pre s₀ s m hall hst G hba hn hs
    show Seg _ A _ _ _ s₀ _ ((compTurn (.GeneratorExp elt [⟨target, iter, ifs, 0⟩] scope pos) 0 (.ref I) .none cenv).onRaise (leaving cenv)) [] s
    rw [compTurn_gen, Sem.onRaise_eq_wrap]
    refine seg_bind_wrap (wpAny_standAt ?_)
    refine seg_bind_wrap ((Z.T _ r').done hst fun s1 Y => ?_)
    exact seg_end (.ok .next) ⟨rfl, rfl, hs.grow Y fun a m => .tail _ m⟩
  | cons a rem ih =>
    intro pre s₀ s m hall hst G hba hn hs
    show Seg _ A _ _ _ s₀ _ ((compTurn (.GeneratorExp elt [⟨target, iter, ifs, 0⟩] scope pos) 0 (.ref I) .none cenv).onRaise (leaving cenv)) [] s
    rw [compTurn_gen, Sem.onRaise_eq_wrap]
    refine seg_bind_wrap (wpAny_standAt ?_)
    refine seg_bind_wrap ((Z.T _ r').item hst fun v s1 hst1 Y hR => ?_)
    refine seg_bind_wrap (Z.own hst1 ?_)
    have G1 := G.ex Y
    obtain ⟨Vb, hba⟩ := hba
    have hb1 := hba.trans Y
    refine seg_bind_wrap (wpAny_mono (Z.turn r' G1 ⟨_, hb1⟩ (Ns.ex Y hn Z.hi.tab Z.hCW) hR) (fun _ s2 h2 => ?_) fun _ _ z => z.elim)
    obtain ⟨⟨m2, hn2⟩, Y2, h3⟩ := h2
    have hst2 := Z.steady hst1 Y2 (fun b hb => by rw [List.mem_singleton.mp hb]; exact Z.hC)
    refine seg_bind_wrap (wpAny_mono h3 (fun ok s3 h4 => ?_) fun _ _ z => z.elim)
    obtain ⟨rfl, Y3, h5⟩ := h4
    have hst3 := Z.steady hst2 Y3 (by simp)
    have G3 := (G1.ex Y2).ex Y3
    have hn3 := Ns.ex Y3 hn2 Z.hi.tab (by simp)
    have E3 : Ex (cenv.locals :: W) s₀ s3 := ((hs.grow Y fun a m => .tail _ m).grow Y2 (by simp)).grow Y3 (by simp)
    cases hp : p a with
    | false =>
      have ef : (a :: rem).filter p = rem.filter p := List.filter_cons_of_neg (by simp [hp])
      rw [ef]
      simp only [Bool.false_eq_true, if_false]
      exact seg_again rfl (ih pre s₀ s3 _ (by rw [hall, ef]) hst3 G3 ⟨_, (hb1.trans Y2).trans Y3⟩ hn3 E3)
    | true =>
      have ef : (a :: rem).filter p = a :: rem.filter p := List.filter_cons_of_pos hp
      rw [ef, List.length_cons]
      rw [ef] at hall
      simp only [if_true]
      have hy : ∀ v, yieldOut cenv v = yieldValue v := fun v => by simp only [yieldOut, hco, Bool.false_eq_true, if_false]
      simp only [hy]
      rw [Sem.bind_eq_wrap', Sem.bind_eq_wrap', Sem.wrap_wrap, Sem.wrap_wrap]
      refine seg_wrap (wpAny_mono (h5 hp) (fun y s4 h6 => ?_) fun _ _ z => z.elim)
      obtain ⟨Y4, hS⟩ := h6
      refine seg_at (seg_yield rfl rfl rfl ⟨⟨a, ?_, hS⟩, E3.grow Y4 (by simp), fun s'' ⟨V, X, hV⟩ => ?_⟩)
      · rw [hall]
        simp
      · have nC : cenv.locals ∉ V := fun m => hV _ m (.head _)
        refine seg_again rfl (ih (pre ++ [a]) s'' s'' m2 (by simp [hall]) (Z.steady (Z.steady hst3 Y4 (by simp)) X fun b hb => fun q => hV b hb (.tail _ q)) ((G3.ex Y4).ex X) ⟨_, (((hb1.trans Y2).trans Y3).trans Y4).trans X⟩ (Ns.ex X (Ns.ex Y4 hn3 Z.hi.tab (by simp)) Z.hi.tab nC) ((Ex.refl _).weaken (by simp) loW))
theorem seg_gen0 {elt target iter : Expr} {ifs : List Expr} {scope : Scope} {pos : Pos} {cenv : Env} {I : Addr} {W fp : List Addr} {α : Type} {R : α → Value → Shared → Prop} {St : List α → Shared → Prop} {p : α → Bool} {S : α → Value → Shared → Prop} {k : Nat} {base : Shared}
    (r : Rm (k + 1) A) (Z : GenTurn w mg mb k target ifs elt cenv I W fp R St p S base) (hlo : ∀ a ∈ W, Hi a) (hco : cenv.scope.isCoroutine = false)
    (rem : List α) (s₀ s : Shared) (m : Str → Option Value) (hst : St rem s) (G : Gd w mg mb s) (hba : ∃ V, Ex V base s) (hn : s.heap.Ns cenv.locals m) (hs : Ex (cenv.locals :: W) s₀ s) :
      Seg (model pw w) A (gEnd cenv.locals W) (gProto cenv.locals W fp S (rem.filter p)) (rem.filter p).length s₀
        (.compStart (.GeneratorExp elt [⟨target, iter, ifs, 0⟩] scope pos) 0 (.ref I) .none cenv)
        ((model pw w).den (.compStart (.GeneratorExp elt [⟨target, iter, ifs, 0⟩] scope pos) 0 (.ref I) .none cenv)) [] s := by
  have loop := seg_gen (iter := iter) (scope := scope) (pos := pos) r Z hlo (rem.filter p) hco rem [] s₀ s m rfl hst G hba hn hs
  show Seg _ A _ _ _ s₀ _ ((compStart (.GeneratorExp elt [⟨target, iter, ifs, 0⟩] scope pos) 0 (.ref I) .none cenv).onRaise (leaving cenv)) [] s
  unfold compStart
  rw [Sem.onRaise_eq_wrap]
  show Seg _ A _ _ _ s₀ _ ((ask >>= _).wrap _ _ _ _) [] s
  refine seg_bind_wrap (wpAny_askSetting ?_)
  split
  · exact seg_again rfl loop
  · first
      | exact seg_bind_wrap (wpAny_rule (seg_bind_wrap (wpAny_standAt (seg_bind_wrap (Z.self hst (seg_again rfl loop))))))
      | (refine seg_bind_wrap (wpAny_rule ?_); show Seg _ A _ _ _ s₀ _ ((standAt iter.pos >>= _).wrap _ _ _ _) [] s; exact seg_bind_wrap (wpAny_standAt (seg_bind_wrap (Z.self hst (seg_again rfl loop)))))

theorem Ex.setGen (s : Shared) (g : Nat) (x : GenState) (hx : x.bare = true) : Ex [] s (s.setGen g x) :=
  ⟨fun a o e _ _ => ⟨o.slots, e, fun _ => rfl⟩, fun _ _ e _ _ => e, fun _ o e => ⟨o, e⟩, fun _ h => (nomatch h), by simp [Shared.setGen], rfl, id, fun h y hy => by
    rcases Array.mem_or_eq_of_mem_setIfInBounds hy with hy | rfl
    · exact h _ hy
    · exact hx⟩
/-- a generator at hand, by what it will hand on -/
structure GSt (w : World) (mg mb : Str → Option Value) (A : Around) (a : Addr) (g : Nat) (C : Addr) (W fp : List Addr) {α : Type} (S : α → Value → Shared → Prop) (all rem : List α) (s : Shared) : Prop where
  pre : ∃ pre, all = pre ++ rem
  G : Gd w mg mb s
  gen : s.heap.IsGen a g
  ne : a ∉ C :: fp
  hi : Hi a
  sub : ∀ b ∈ W, b ∈ fp
  go : ∃ gs s_y, s.gens[g]? = some gs ∧ Ready (C :: fp) s_y s ∧ ∀ s'', Ready (C :: fp) s_y s'' → gs.Goes (model pw w) A.in1 (gEnd C W) (gProto C W fp S all) rem.length (.send .none) s''
theorem Ready.step {fp V : List Addr} {s s' s'' : Shared} (h : Ready fp s s') (Y : Ex V s' s'') (hV : ∀ a ∈ V, a ∉ fp) : Ready fp s s'' :=
  let ⟨V', X, hV'⟩ := h; ⟨V' ++ V, X.trans Y, fun a m => (List.mem_append.mp m).elim (hV' a) (hV a)⟩
theorem Ready.refl (fp : List Addr) (s : Shared) : Ready fp s s := ⟨[], Ex.refl s, by simp⟩
theorem IsGen.ex {V : List Addr} {s s' : Shared} {a : Addr} {g : Nat} (Y : Ex V s s') (h : s.heap.IsGen a g) (hi : Hi a) (hV : a ∉ V) : s'.heap.IsGen a g := by
  obtain ⟨o, x, y, ho, hc, hd⟩ := h
  exact ⟨o, x, y, Y.get ho hi.tab hV (by rw [hc]; simp), hc, hd⟩
theorem GSt.frame {a : Addr} {g : Nat} {C : Addr} {W fp V : List Addr} {α : Type} {S : α → Value → Shared → Prop} {all rem : List α} {s s' : Shared} (Z : GSt w mg mb A a g C W fp S all rem s) (Y : Ex V s s') (hV : ∀ b ∈ V, b ∉ a :: C :: fp) (hg : s'.gens = s.gens) : GSt w mg mb A a g C W fp S all rem s' := by
  obtain ⟨gs, s_y, e, hr, h⟩ := Z.go
  exact ⟨Z.pre, Z.G.ex Y, IsGen.ex Y Z.gen Z.hi (fun m => hV _ m (.head _)), Z.ne, Z.hi, Z.sub, gs, s_y, by rw [hg]; exact e, hr.step Y fun b m q => hV b m (.tail _ q), h⟩
theorem GSt.iter {k : Nat} (r : Rm (k + 1) A) (a : Addr) (g : Nat) (C : Addr) (W fp : List Addr) {α : Type} (S : α → Value → Shared → Prop) (all : List α) (hS : ∀ {a v V s s'}, S a v s → Ex V s s' → S a v s') :
    Iter w A a (C :: W) (a :: C :: fp) S (GSt w mg mb A a g C W fp S all) where
  item := fun {b rem s Q E} st h => by
    obtain ⟨⟨pre, hpre⟩, G, hgen, hne, hi, hsub, gs, s_y, e, hr, hgo⟩ := st
    have Y0 := Ex.setGen s g .running rfl
    refine wpAny_pyNext_genexpQ (P := fun n s₀ s₁ => n = 0 ∧ Ex (C :: W) s₀ s₁) (n := (b :: rem).length) r.hh G.noLimit (by have := r.dp; show A.depth < 1000; omega) hgen e (hgo _ (hr.step Y0 (by simp))) (fun v s₁ gs' hb hY => ?_) (fun s₁ hP => ?_)
    · obtain ⟨⟨b', hb', hS'⟩, Y1, hc⟩ := hY
      have hbb : b = b' := by
        rw [hpre] at hb'
        simp at hb'
        exact hb'
      subst hbb
      have naW : a ∉ C :: W := fun m => hne (by
        rcases List.mem_cons.mp m with rfl | m
        · exact .head _
        · exact .tail _ (hsub _ m))
      have Y2 := Ex.setGen s₁ g gs' hb
      have Y02 := (Y0.of0 Y1).then0 Y2
      refine h v _ ⟨⟨pre ++ [b], by simp [hpre]⟩, G.ex Y02, IsGen.ex Y02 hgen hi naW, hne, hi, hsub, gs', s₁, ?_, (Ready.refl _ _).step Y2 (by simp), fun s'' h'' => hc s'' h''⟩ Y02 (hS hS' Y2)
      have hlt : g < s₁.gens.size := Nat.lt_of_lt_of_le (by
        obtain ⟨hlt, _⟩ := Array.getElem?_eq_some_iff.mp e
        exact hlt) (Y0.of0 Y1).gsz
      simp [Shared.setGen, Array.getElem?_setIfInBounds_self, hlt]
    · have := hP.1
      simp at this
  done := fun {s Q E} st h => by
    obtain ⟨⟨pre, hpre⟩, G, hgen, hne, hi, hsub, gs, s_y, e, hr, hgo⟩ := st
    have Y0 := Ex.setGen s g .running rfl
    refine wpAny_pyNext_genexpQ (P := fun n s₀ s₁ => n = 0 ∧ Ex (C :: W) s₀ s₁) (n := ([] : List α).length) r.hh G.noLimit (by have := r.dp; show A.depth < 1000; omega) hgen e (hgo _ (hr.step Y0 (by simp))) (fun v s₁ gs' hb hY => ?_) (fun s₁ hP h' hk => ?_)
    · obtain ⟨_, _, hc⟩ := hY
      exact (hc s₁ (Ready.refl _ _)).elim
    · have Y2 := Ex.setGen s₁ g .finished rfl
      exact h _ (((Y0.of0 hP.2).then0 Y2).then0 (Ex.of_keep (tk := (s₁.setGen g .finished).toks) hk))
  frame := fun st Y hV hg => st.frame Y hV hg
  stab := fun h Y => hS h Y
end Mine

namespace Mine
variable {w : World} {mg mb : Str → Option Value}
variable {s : Shared} {Q : Value → Shared → Prop} {E : Value → Shared → Prop} {A : Around} {n : Nat}

local macro_rules | `(tactic| walk_at "m go") => `(tactic| first
  | with_reducible refine wpAny_execs_cons ?_
  | with_reducible refine wpAny_Return_some ?_
  | with_reducible refine wpAny_Call_NameR ?_
  | with_reducible refine wpAny_items_cons ?_ (by with_unfolding_all rfl)
  | with_reducible refine wpAny_items_nil ?_
  | with_reducible refine Attribute_name ?_
  | with_reducible refine wpAny_Compare1 ?_ (by with_unfolding_all rfl)
  | with_reducible refine wpAny_isTrue_Compare1 ?_ (by with_unfolding_all rfl)
  | with_reducible refine wpAny_isTrue_Not ?_
  | with_reducible refine wpAny_isTrue_BoolOp ?_
  | with_reducible refine wpAny_allTrue_And_cons ?_
  | with_reducible refine wpAny_allTrue_And_nil ?_
  | with_reducible refine wpAny_allTrue_Or_cons ?_
  | with_reducible refine wpAny_allTrue_Or_nil ?_
  | with_reducible refine wpAny_If ?_
  | ((with_reducible show wpAny _ _ (exec (.Expr _ _) _) _ _ _); refine wpAny_Expr_any ?_)
  | ((with_reducible show wpAny _ _ (eval (.Call (.Attribute _ _ _) _ [] _) _) _ _ _); refine MethodCall_ ?_ (by rfl))
  | with_reducible refine wpAny_truthy_bool ?_
  | with_reducible refine wpAny_execs_nil ?_
  | ((with_reducible show wpAny _ _ (PySem.isTrue (.Call _ _ _ _) _ _) _ _ _); refine wpAny_isTrue_value ?_ (by rfl))
  | ((with_reducible show wpAny _ _ (PySem.isTrue (.Name _ _) _ _) _ _ _); refine wpAny_isTrue_value ?_ (by rfl))
  | with_reducible refine wpAny_Assign_Name ?_ (by with_unfolding_all rfl)
  | with_reducible refine wpAny_Constant_int ?_
  | with_reducible refine wpAny_Constant_str ?_
  | with_reducible refine wpAny_Constant_bool ?_
  | with_reducible refine wpAny_Constant_none ?_
  | ((with_reducible show wpAny _ _ (eval (.Name _ _) _) _ _ _); first
    | refine Fm.ldL ‹Fm _ _ _ _ _ _ _ _› (by rfl) ?_
    | refine Fm.ldL ‹Fm _ _ _ _ _ _ _ _› (by assumption) ?_
    | refine Fm.ldG ‹Fm _ _ _ _ _ _ _ _› (by rfl) ?_
    | (refine Fm.ldB (v := .builtin _) ‹Fm _ _ _ _ _ _ _ _› (by rfl) (by rfl) ?_; try dsimp only)
    | (refine Fm.ldB (v := .type _) ‹Fm _ _ _ _ _ _ _ _› (by rfl) (by rfl) ?_; try dsimp only))
  | ((with_reducible show wpAny _ _ (callWith _ (.builtin _) _ _ _) _ _ _); refine PyProof.Rows.callWith_builtin1 ?_ (by with_unfolding_all rfl) (by with_unfolding_all rfl))
  | ((with_reducible show wpAny _ _ (callWith _ (.type _) _ _ _) _ _ _); refine Mine.callWith_ty ?_ (by with_unfolding_all rfl) (by with_unfolding_all rfl))
  | ((with_reducible show wpAny _ _ (callWith _ (.ref _) _ _ _) _ _ _); refine callWith_K (Fm.G ‹Fm _ _ _ _ _ _ _ _›).K (by rfl) ?_))

/-- the text's own code of a generator expression: found, or made and noted in its table -/
theorem gcode {env : Env} {c P : Addr} {pos : Pos} {qn : Str} {scope : Scope} {Q : Value → Shared → Prop} (hc : env.code = .ref c) (t : TabOk s.heap c P) (hP : tabA P = true) (ho : ∀ o, s.heap.get? P = some o → ¬ Immut o)
    (htabs : ∀ h', Heap.ExtBut P s.heap h' → TabOk h' c P → Tabs s.heap → Tabs h') (h : ∀ code s', Ex [] s s' → Q code s') : wpAny (model pw w) A (genexprCode env pos qn scope) Q E s := by
  obtain ⟨ps, hok, htab⟩ := t
  cases hnf : codeAmong pos ps.toList with
  | some cv =>
    obtain ⟨o, vs, file, tf, flags, tg, inF, text, tt, op, ho, hd, h11, h2, h7, h9, h10, hop, hpd, htr, hne⟩ := id hok
    unfold genexprCode codeAt
    rw [hc, if_neg (show ¬ ((Value.ref c == Value.none) = true) from Bool.false_ne_true)]
    refine wpAny_bind (wpAny_fieldsOf ho hd ?_)
    rw [h11]
    refine wpAny_bind (wpAny_fieldsOf hop hpd ?_)
    rw [hnf]
    exact wpAny_pure (h cv s (Ex.refl _))
  | none =>
    refine wpAny_genexprCodeX hc hok htab hnf fun c' h' tk hext _ _ hok' _ htab' _ => h _ _ ?_
    obtain ⟨o, vs, file, tf, flags, tg, inF, text, tt, op, _, _, _, _, _, _, _, hop, hpd, htr, hne⟩ := id hok
    obtain ⟨_, _, _, _, _, _, _, _, _, op', _, _, _, _, _, _, _, hop', _⟩ := id hok'
    refine ⟨fun a o e ht _ => ⟨o.slots, hext a o (fun z => by rw [z, hP] at ht; cases ht) e, fun _ => rfl⟩, fun a o e hi _ => hext a o (fun z => by subst z; exact ho _ e hi) e, fun a o e => ?_, fun _ h => (nomatch h), Nat.le_refl _, rfl, htabs h' hext ⟨_, hok', htab'⟩, id⟩
    by_cases ha : a = P
    · subst ha; exact ⟨_, hop'⟩
    · exact ⟨o, hext a o ha e⟩
theorem TabOk.ext {h h' : Heap} {c P a : Addr} (t : TabOk h c P) (hs : Heap.ExtBut a h h') (hc : c ≠ a) (hP : P ≠ a) : TabOk h' c P := by
  obtain ⟨ps, ⟨o, vs, file, tf, flags, tg, inF, text, tt, op, a1, a2, a3, a4, a5, a6, a7, a8, a9⟩, ⟨⟨o', vs', b1, b2⟩, b3⟩⟩ := t
  exact ⟨ps, ⟨o, vs, file, tf, flags, tg, inF, text, tt, op, hs _ _ hc a1, a2, a3, a4, a5, a6, a7, hs _ _ hP a8, a9⟩, ⟨⟨o', vs', hs _ _ hc b1, b2⟩, hs _ _ hP b3⟩⟩
/-- whose table -/
def TabOf (c P : Addr) : Prop := (c = 333 ∧ P = 329) ∨ (c = 340 ∧ P = 336) ∨ (c = 398 ∧ P = 394)
theorem gcode_of {env : Env} {c P : Addr} {pos : Pos} {qn : Str} {scope : Scope} {Q : Value → Shared → Prop} (G : Gd w mg mb s) (ht : TabOf c P) (hc : env.code = .ref c) (h : ∀ code s', Ex [] s s' → Q code s') : wpAny (model pw w) A (genexprCode env pos qn scope) Q E s := by
  have key : ∀ {c P}, TabOk s.heap c P → ∀ o, s.heap.get? P = some o → ¬ Immut o := by
    rintro c P ⟨ps, _, _, b⟩ o e hi
    rw [b] at e; cases e
    rcases hi with ⟨h, _⟩ | ⟨h, _⟩ <;> simp at h
  rcases ht with ⟨rfl, rfl⟩ | ⟨rfl, rfl⟩ | ⟨rfl, rfl⟩
  · exact gcode hc G.tabs.t1 (by rfl) (key G.tabs.t1) (fun h' hx t T => ⟨t, T.t2.ext hx (by decide) (by decide), T.t3.ext hx (by decide) (by decide)⟩) h
  · exact gcode hc G.tabs.t2 (by rfl) (key G.tabs.t2) (fun h' hx t T => ⟨T.t1.ext hx (by decide) (by decide), t, T.t3.ext hx (by decide) (by decide)⟩) h
  · exact gcode hc G.tabs.t3 (by rfl) (key G.tabs.t3) (fun h' hx t T => ⟨T.t1.ext hx (by decide) (by decide), T.t2.ext hx (by decide) (by decide), t⟩) h
theorem builtins_for {globals running : Addr} {Q : Addr → Shared → Prop} (G : Gd w mg mb s) (hg : globals = mainGlobals) (h : Q builtinsNs s) : wpAny (model pw w) A (builtinsFor globals running) Q E s := by
  subst hg
  exact wpAny_builtinsFor G.g (bm := 4) (G.hm _ _ (by rfl)) (by decide) (G.K 4 _ (by rfl)) rfl rfl rfl h

theorem LI.own {target : Expr} {it l : Addr} {xs : Array Value} {rem : List Value} {v : Value} {Q : Unit → Shared → Prop} (st : LI it l xs rem s) (h : Q () s) : wpAny (model pw w) A (letOwnedTupleGo target (.ref it) v) Q E s := by
  obtain ⟨_, _, _, i, ⟨o, ho, hc, hd⟩, _⟩ := st
  unfold letOwnedTupleGo
  split
  · cases v with
    | ref a =>
      refine wpAny_bind (wpAny_load ho ?_)
      rw [hc, hd]
      dsimp only
      rw [if_neg (by simp)]
      exact wpAny_pure h
    | _ => exact wpAny_pure h
  · cases v with
    | ref a =>
      refine wpAny_bind (wpAny_load ho ?_)
      rw [hc, hd]
      dsimp only
      rw [if_neg (by simp)]
      exact wpAny_pure h
    | _ => exact wpAny_pure h
  · exact wpAny_pure h
/-- a generator expression over a list or over Tags -/
theorem gen_seq {elt target iter : Expr} {ifs : List Expr} {scope : Scope} {pos : Pos} {env : Env} {c P : Addr} {k : Nat} (r : Rm (k + 3) A) (hP : TabOf c P) (p : Value → Bool) (S : Value → Value → Shared → Prop)
    (stab : ∀ {a v V s s'}, S a v s → Ex V s s' → S a v s')
    (h : wpAny (model pw w) A (eval iter env) (fun xv s₁ => ∃ l xs, xv = .ref l ∧ LstAt s₁.heap l xs ∧ Hi l ∧ Gd w mg mb s₁ ∧
      (∀ A' C code a m₃ s₃ V, Rm k A' → a ∈ xs → Fm w mg mb s₁ C m₃ V s₃ → wpAny (model pw w) A' (assign target (genEnv scope [] C code builtinsNs env) a) (fun _ s₄ => (∃ m₄, s₄.heap.Ns C m₄) ∧ Ex [C] s₃ s₄ ∧
        wpAny (model pw w) A' (testsOf ifs (genEnv scope [] C code builtinsNs env)) (fun ok s₅ => ok = p a ∧ Ex [] s₄ s₅ ∧
          (ok = true → wpAny (model pw w) A' (eval elt (genEnv scope [] C code builtinsNs env)) (fun y s₆ => Ex [] s₅ s₆ ∧ S a y s₆) (fun _ _ => False) s₅)) (fun _ _ => False) s₄) (fun _ _ => False) s₃) ∧
      (∀ a s' (W fp : List Addr) (St : Around → List Value → Shared → Prop), Ex [] s₁ s' → s₁.heap.get? a = none → (∃ g, s'.heap.IsGen a g) → (∀ b ∈ W, s₁.heap.get? b = none) → (∀ b ∈ fp, b = l ∨ s₁.heap.get? b = none) → (∀ b ∈ W ++ fp, ∃ o, s'.heap.get? b = some o) → (∀ b ∈ W, Hi b) →
        (∀ A', Rm (k + 2) A' → Iter w A' a W fp S (St A') ∧ St A' (xs.filter p) s') → Q (.ref a) s')) E s)
    (hc : env.code = .ref c := by rfl) (hg : env.globals = mainGlobals := by rfl) (hclos : closureFor scope env = pure [] := by rfl) (hcell : ∀ y ∈ scope.names, y.2 ≠ .cell := by decide) (hkind : scope.kind = .function := by rfl) (hco : scope.isCoroutine = false := by rfl)
    (h0 : scope.names.lookup (".0" : Str) = some NameKind.local := by rfl) (hs : ∀ x, genFold iter env x = pure x := by intro _; rfl) :
    wpAny (model pw w) A (eval (.GeneratorExp elt [⟨target, iter, ifs, 0⟩] scope pos) env) Q E s := by
  refine wpAny_GeneratorExp_make hco hclos hcell h0 hkind (by have := r.dp; show A.depth < 1000; omega) (wpAny_mono h (fun xv s₁ h1 => ?_) fun _ _ z => z) hs
  obtain ⟨l, xs, rfl, hl, hil, G, turn, fin⟩ := h1
  refine lst_iter G.K hl fun it h' fit kp hit => ?_
  have Y1 : Ex [] s₁ { s₁ with heap := h', toks := s₁.toks } := Ex.of_keep kp
  have G1 := G.ex Y1
  refine ⟨G1.noLimit, gcode_of G1 hP hc fun code s3 Y3 => ?_⟩
  have G3 := G1.ex Y3
  refine builtins_for G3 hg fun h5 hns hsb => ?_
  generalize hC : s3.heap.objs.size = C at hns hsb ⊢
  generalize ha : h5.objs.size = a
  have fC : s3.heap.get? C = none := hC ▸ get_size _
  have k5 : ∀ b o, s3.heap.get? b = some o → h5.get? b = some o := fun b o e => hsb.extBut b o (fun z => by rw [z, fC] at e; cases e) (Heap.get?_push_of_some _ e)
  have fa : h5.get? a = none := ha ▸ get_size _
  have faC : a ≠ C := fun z => by
    obtain ⟨o, _, _, e, _⟩ := hns
    rw [← z, fa] at e; cases e
  have fa3 : s3.heap.get? a = none := by
    cases e : s3.heap.get? a with
    | none => rfl
    | some o => rw [k5 _ _ e] at fa; cases fa
  generalize hob : ({ cls := .type "generator", data := .fields #[.int s3.gens.size 0, .str "<genexpr>" (s3.toks + 1), .str (env.qual ++ "<genexpr>") (s3.toks + 1 + 1)] } : Obj) = ob
  have k6 : ∀ b o, s3.heap.get? b = some o → (h5.push ob).get? b = some o := fun b o e => Heap.get?_push_of_some _ (k5 _ _ e)
  generalize hgs : GenState.fresh (.compStart (.GeneratorExp elt [⟨target, iter, ifs, 0⟩] scope pos) 0 (.ref it) .none (genEnv scope [] C code builtinsNs env)) = gs
  have Y6 : Ex [] s3 { s3 with gens := s3.gens.push gs, toks := s3.toks + 1 + 1 + 1, heap := h5.push ob } := by
    have z := Ex.of_keep (s := s3) (tk := s3.toks + 1 + 1 + 1) k6
    refine ⟨z.keep, z.im, z.there, z.wlo, by simp, rfl, z.tabs, fun hb y hy => ?_⟩
    rcases Array.mem_push.mp hy with hy | rfl
    · exact hb _ hy
    · rw [← hgs]; rfl
  have Y13 := Y1.then0 Y3
  have Y16 := Y13.then0 Y6
  have hiC : Hi C := G3.hi fC
  have hia : Hi a := G3.hi fa3
  have hiit : Hi it := G.hi fit
  have ne_l : l ≠ it := fun e => by
    obtain ⟨o, n, e', _⟩ := hl.seqAt
    rw [e, fit] at e'; cases e'
  have sq : SeqAt h' l xs.toArray := SeqAt.ex Y1 hl.seqAt hil.tab (by simp)
  have it3 : ∃ o, s3.heap.get? it = some o := Y3.there' (let ⟨o, e, _⟩ := hit; ⟨o, e⟩)
  have l3 : ∃ o, s3.heap.get? l = some o := Y3.there' (let ⟨o, _, e, _⟩ := sq; ⟨o, e⟩)
  have nC : ∀ b, (∃ o, s3.heap.get? b = some o) → C ≠ b := fun b ⟨o, e⟩ z => by rw [← z, fC] at e; cases e
  have na : ∀ b, (∃ o, s3.heap.get? b = some o) → a ≠ b := fun b ⟨o, e⟩ z => by rw [← z, fa3] at e; cases e
  have st3 : LI it l xs.toArray xs s3 := LI.steady (s := { s₁ with heap := h', toks := s₁.toks }) ⟨hiit, hil, ne_l, 0, hit, sq, by simp⟩ Y3 (by simp)
  have st6 : LI it l xs.toArray xs { s3 with gens := s3.gens.push gs, toks := s3.toks + 1 + 1 + 1, heap := h5.push ob } := st3.steady Y6 (by simp)
  refine fin a _ (C :: [it]) (a :: C :: [it, l]) (fun A' rem s => GSt w mg mb A' a s3.gens.size C [it] [it, l] S (xs.filter p) rem s) Y16 (Y13.off fa3) ⟨s3.gens.size, ob, ?_⟩ ?_ ?_ ?_ ?_ ?_
  · rw [← hob, ← ha]
    exact ⟨_, _, Heap.get?_push_size _ rfl, rfl, rfl, rfl⟩
  · intro b hb
    simp only [List.mem_cons, List.not_mem_nil, or_false] at hb
    rcases hb with rfl | rfl
    · exact Y13.off fC
    · exact fit
  · intro b hb
    simp only [List.mem_cons, List.not_mem_nil, or_false] at hb
    rcases hb with rfl | rfl | rfl | rfl
    · exact .inr (Y13.off fa3)
    · exact .inr (Y13.off fC)
    · exact .inr fit
    · exact .inl rfl
  · intro b hb
    simp only [List.mem_append, List.mem_cons, List.not_mem_nil, or_false] at hb
    have cC : ∃ o, (h5.push ob).get? C = some o := let ⟨o, _, _, e, _⟩ := hns; ⟨o, Heap.get?_push_of_some _ e⟩
    have ca : ∃ o, (h5.push ob).get? a = some o := ⟨ob, by rw [← ha, ← hob]; exact Heap.get?_push_size _ rfl⟩
    rcases hb with (rfl | rfl) | rfl | rfl | rfl | rfl
    · exact cC
    · exact Y6.there' it3
    · exact ca
    · exact cC
    · exact Y6.there' it3
    · exact Y6.there' l3
  · intro b hb
    simp only [List.mem_cons, List.not_mem_nil, or_false] at hb
    rcases hb with rfl | rfl
    · exact hiC
    · exact hiit
  · intro A' r'
    refine ⟨GSt.iter r' a _ C [it] [it, l] S (xs.filter p) stab, ⟨[], rfl⟩, G3.ex Y6, ?_, ?_, hia, by simp, gs, _, ?_, Ready.refl _ _, ?_⟩
    · rw [← hob, ← ha]
      exact ⟨_, _, _, Heap.get?_push_size _ rfl, rfl, rfl, rfl⟩
    · simp only [List.mem_cons, List.not_mem_nil, or_false, not_or]
      exact ⟨faC, na _ it3, na _ l3⟩
    · exact Array.getElem?_push_size ..
    · rintro s'' ⟨V, X, hV⟩
      rw [← hgs]
      refine ⟨rfl, ?_⟩
      have Z : GenTurn w mg mb k target ifs elt (genEnv scope [] C code builtinsNs env) it [it] [it, l] (fun a v _ => v = a ∧ a ∈ xs) (LI it l xs.toArray) p S s₁ := by
        refine ⟨fun A'' r'' => ?_, fun st Y hV => st.steady Y hV, fun st h => LI.self st h, fun st h => LI.own st h, ?_, ?_, hiC, ?_⟩
        · have B := LI.iter (w := w) r''.hh it l xs.toArray
          refine ⟨fun {b rem s Q E} st h => B.item st fun v s' st' Y hv => h v s' st' Y ⟨hv, ?_⟩, B.done, B.frame, fun h _ => h⟩
          obtain ⟨_, _, _, i, _, _, hd⟩ := st
          have : b ∈ List.drop i xs := by
            have z : List.drop i xs = b :: rem := by simpa using hd
            rw [z]; exact .head _
          exact List.mem_of_mem_drop this
        · show C ∉ [it, l]
          simp only [List.mem_cons, List.not_mem_nil, or_false, not_or]
          exact ⟨nC _ it3, nC _ l3⟩
        · show C ∉ [it]
          simp only [List.mem_cons, List.not_mem_nil, or_false]
          exact nC _ it3
        · rintro A'' b v m₃ s₃ r'' G₃ hba hn ⟨rfl, hm⟩
          obtain ⟨Vb, Xb⟩ := hba
          exact turn A'' C code v m₃ s₃ Vb r'' hm ⟨G₃, hn, Xb, Y13.off fC, hiC⟩
      have nV : ∀ b ∈ V, b ∉ C :: [it, l] := hV
      exact seg_gen0 (m := _) (Rm.in1 (n := k + 1) r') Z (by simpa using hiit) hco xs _ s'' (st6.steady X fun b hb q => nV b hb (.tail _ q)) ((G3.ex Y6).ex X) ⟨_, Y16.trans X⟩ (Ns.ex X (hns.push _) hiC.tab fun m => nV _ m (.head _)) ((Ex.refl _).weaken (by simp) (by
        intro b hb
        have hb' : b ∈ C :: [it] := hb
        simp only [List.mem_cons, List.not_mem_nil, or_false] at hb'
        rcases hb' with rfl | rfl
        · exact hiC
        · exact hiit))
end Mine

namespace Mine
variable {w : World} {mg mb : Str → Option Value}
variable {s : Shared} {Q : Value → Shared → Prop} {E : Value → Shared → Prop} {A : Around} {n : Nat}

local macro_rules | `(tactic| walk_at "m go") => `(tactic| first
  | with_reducible refine wpAny_execs_cons ?_
  | with_reducible refine wpAny_Return_some ?_
  | with_reducible refine wpAny_Call_NameR ?_
  | with_reducible refine wpAny_items_cons ?_ (by with_unfolding_all rfl)
  | with_reducible refine wpAny_items_nil ?_
  | with_reducible refine Attribute_name ?_
  | with_reducible refine wpAny_Assign_Name ?_ (by with_unfolding_all rfl)
  | with_reducible refine wpAny_Constant_int ?_
  | with_reducible refine wpAny_Constant_str ?_
  | with_reducible refine wpAny_Constant_bool ?_
  | with_reducible refine wpAny_Constant_none ?_
  | ((with_reducible show wpAny _ _ (eval (.Name _ _) _) _ _ _); first
    | refine Fm.ldL ‹Fm _ _ _ _ _ _ _ _› (by rfl) ?_
    | refine Fm.ldL ‹Fm _ _ _ _ _ _ _ _› (by assumption) ?_
    | refine Fm.ldG ‹Fm _ _ _ _ _ _ _ _› (by rfl) ?_
    | (refine Fm.ldB (v := .builtin _) ‹Fm _ _ _ _ _ _ _ _› (by rfl) (by rfl) ?_; dsimp only)
    | (refine Fm.ldB (v := .type _) ‹Fm _ _ _ _ _ _ _ _› (by rfl) (by rfl) ?_; dsimp only))
  | ((with_reducible show wpAny _ _ (callWith _ (.builtin _) _ _ _) _ _ _); refine PyProof.Rows.callWith_builtin1 ?_ (by with_unfolding_all rfl) (by with_unfolding_all rfl))
  | ((with_reducible show wpAny _ _ (callWith _ (.type _) _ _ _) _ _ _); refine callWith_type (by with_unfolding_all rfl) (evalArgs_plain ?_))
  | ((with_reducible show wpAny _ _ (callWith _ (.ref _) _ _ _) _ _ _); refine callWith_K (Fm.G ‹Fm _ _ _ _ _ _ _ _›).K (by rfl) ?_))

def valid : List Int := [1000, 1001, 1002, 1003, 1004, 1005, 1010, 1011, 1012, 1013, 1040, 1041, 1042, 1070, 1071]
def setOk (x : Int × Value) : Bool := match x.2 with
  | .int k _ => x.1 == hashInt k && x.2.scannable
  | _ => false
theorem vset {h : Heap} (X : (Kf w.params).In h) : h.SetOf (intKind pw w) 22 (fun k => valid.contains k) 15 := by
  have e := X 22 _ (by rfl)
  refine ⟨_, _, _, _, e, ⟨rfl, rfl, rfl⟩, rfl, ?_, ?_, by decide, by decide, by decide⟩
  · intro x hx
    have c : setOk x = true := List.all_eq_true.mp (show List.all _ setOk = true by kernel_rfl) x hx
    obtain ⟨x1, x2⟩ := x
    cases x2 with
    | int k t =>
      simp only [setOk, Bool.and_eq_true, beq_iff_eq] at c
      exact ⟨⟨k, by simp [intKind, Value.isInt], c.1⟩, c.2⟩
    | _ => cases c
  · intro k
    simp only [valid, List.contains_iff_mem, List.mem_cons, List.not_mem_nil, or_false, or_and_right, exists_or, exists_eq_left, intKind, Value.isInt, beq_iff_eq]
    omega

theorem all_loop {I : Addr} {W fp : List Addr} {α : Type} {R : α → Value → Shared → Prop} {St : List α → Shared → Prop} (T : Iter w A.in1 I W fp R St) (f : α → Bool) (hf : ∀ {a v s}, R a v s → v = .bool (f a)) (hlo : ∀ a ∈ W, Hi a) :
    ∀ (rem : List α) (s : Shared), St rem s → (∀ s', Ex W s s' → Q (.bool (rem.all f)) s') → codeAny (model pw w) A (.builtin "all.loop" ⟨[.ref I], []⟩) (Back Q E) s := by
  intro rem
  induction rem with
  | nil =>
    intro s hst h
    refine codeAny_builtin F.entry_all_loop ?_
    rw [Around.under_plainId F.plain_all_loop _]
    show wpAny _ A.in1 (pyNext (.ref I) >>= _) _ _ s
    refine wpAny_bind (T.done hst fun s' Y => ?_)
    exact wpAny_bind (wpAny_rule (wpAny_pure (h s' Y)))
  | cons a rem ih =>
    intro s hst h
    refine codeAny_builtin F.entry_all_loop ?_
    rw [Around.under_plainId F.plain_all_loop _]
    show wpAny _ A.in1 (pyNext (.ref I) >>= _) _ _ s
    refine wpAny_bind (T.item hst fun v s' hst' Y hR => ?_)
    obtain rfl := hf hR
    refine wpAny_bind (wpAny_holding (wpAny_truthy_bool ?_))
    refine wpAny_bind (wpAny_letGo ?_)
    cases hb : f a with
    | true =>
      simp only [if_true]
      refine wpAny_pure ⟨plainId_quiet F.plain_all_loop _, ih s' hst' fun s'' Y' => ?_⟩
      have := h s'' (Y.same Y')
      rw [List.all_cons, hb, Bool.true_and] at this
      exact this
    | false =>
      simp only [Bool.false_eq_true, if_false]
      refine wpAny_bind (wpAny_rule (wpAny_pure ?_))
      have := h s' Y
      rw [List.all_cons, hb, Bool.false_and] at this
      exact this
theorem all_call {I : Addr} {W fp : List Addr} {α : Type} {R : α → Value → Shared → Prop} {St : List α → Shared → Prop} (T : Iter w A.in1 I W fp R St) (f : α → Bool) (hf : ∀ {a v s}, R a v s → v = .bool (f a)) (hlo : ∀ a ∈ W, Hi a) {rem : List α} (hst : St rem s) {g : Nat} (hg : s.heap.IsGen I g)
    (h : ∀ s', Ex W s s' → Q (.bool (rem.all f)) s') : wpAny (model pw w) A (call (.builtin "all") [.ref I]) Q E s := by
  refine call_function_tree F.kind_all F.plain_all F.entry_all (F.args_all1 _) ?_
  unfold Builtin.«all»
  refine wpAny_bind (m := oneArg "all" _) (wpAny_pure ?_)
  refine wpAny_bind (wpAny_pyIter_gen hg ?_)
  exact wpAny_pure ⟨plainId_quiet F.plain_all_loop _, codeAny_mono (all_loop (E := E) T f hf hlo rem s hst h) fun r s' z => by rcases r with e | (v | _ | _ | _) <;> exact z⟩

/-- a list's or Tags' items are tags -/
theorem LstAt.ex {W : List Addr} {s s' : Shared} {T : Addr} {ts : List Value} (Y : Ex W s s') (h : LstAt s.heap T ts) (hi : Hi T) (hW : T ∉ W) : LstAt s'.heap T ts :=
  h.imp (fun z => PlainList.ex Y z hi hW) (fun ⟨dx, k, e⟩ => ⟨dx, k, Y.get e hi.tab hW (by simp)⟩)
theorem All2.all {α β : Type} {R : α → β → Prop} (f : α → Bool) (g : β → Bool) (h : ∀ a b, R a b → g b = f a) : ∀ {l : List α} {m : List β}, All2 R l m → m.all g = l.all f
  | _, _, .nil => rfl
  | _, _, .cons r t => by rw [List.all_cons, List.all_cons, h _ _ r, t.all f g h]
def codeOk (h : Heap) (v : Value) : Bool := match v with
  | .ref x => match h.get? x with
    | some o => match o.slots.toList with
      | some (.int c _) :: _ => valid.contains c
      | _ => false
    | none => false
  | _ => false
theorem codeOk_of {h : Heap} {p : Int × Str} {v : Value} (t : TagV h p v) : codeOk h v = valid.contains p.1 := by
  obtain ⟨x, rfl, _, dx, tc, tv, od, e, _⟩ := t
  unfold codeOk
  simp [e]
theorem in_valid {c : Int} {tc : Tok} (X : (Kf w.params).In s.heap) (h : Q (.bool (valid.contains c)) { s with toks := s.toks + 1 }) : wpAny (model pw w) A (compareOp .In (.int c tc) (.ref 22)) Q E s :=
  wpAny_inSet_of (knd := intKind pw w) (k := c) (by simp [intKind, Value.isInt]) (by rfl) (vset X) h

theorem has_valid_call {T : Addr} {ts : List Value} {row : Row} (r : Rm (n + 12) A) (G : Gd w mg mb s) (hl : LstAt s.heap T ts) (ht : All2 (TagV s.heap) row ts) (hil : Hi T)
    (h : ∀ s', Ex [] s s' → Q (.bool (row.all fun p => valid.contains p.1)) s') : wpAny (model pw w) A (call (.ref 341) [.ref T]) Q E s := by
  refine wpAny_call (call_fn (n := n + 11) (binds := [("tags", .ref T)]) r G (f := 341) (by rfl) (by rfl) (BindsTo.of_eq (by rfl)) fun A' L s1 r1 F => ?_)
  refine wpAny_execs_cons ?_
  repeat walk_at "m go"
  have hl1 := hl.ex F.X hil (by simp)
  have ht1 : All2 (TagV s1.heap) row ts := ht.imp fun _ _ z => z.ex F.X
  refine gen_seq (mg := mg) (mb := mb) (k := n + 8) r1 (.inr (.inl ⟨rfl, rfl⟩)) (fun _ => true) (fun a v _ => v = .bool (codeOk s1.heap a)) (fun h _ => h) ?_
  repeat walk_at "m go"
  refine ⟨T, ts, rfl, hl1, hil, F.G, ?_, ?_⟩
  · intro A3 C code a m₃ s₃ V r3 ha F3
    obtain ⟨p, _, tv⟩ := ht1.mem ha
    refine wpAny_assign_Name (F3.st (fun s4 F4 Y4 => ?_))
    refine ⟨⟨_, F4.N⟩, Y4, wpAny_tests_nil ⟨rfl, Ex.refl _, fun _ => ?_⟩⟩
    have tv4 := tv.ex F4.X
    have hc := codeOk_of tv
    obtain ⟨x, rfl, t4⟩ := tv4
    refine wpAny_Compare1 ?_
    repeat walk_at "m go"
    refine tag_code (n := n) (r3.mono (by omega)) F4.G.K t4 fun tc s5 Y5 => ?_
    replace F4 := F4.go Y5
    repeat walk_at "m go"
    refine in_valid F4.G.K ⟨Y5.then0 (Ex.tok _), by rw [hc]⟩
  · intro I s2 W fp St Y2 fI hg fW ffp th hiW hT
    have X1 := F.X
    replace F := F.go Y2
    repeat walk_at "m go"
    obtain ⟨g, hg⟩ := hg
    obtain ⟨T', st⟩ := hT A'.in1 (Rm.in1 (n := n + 10) r1)
    refine all_call T' (fun a => codeOk s1.heap a) (fun h => h) hiW st hg fun s3 Y3 => ?_
    have e1 : (ts.filter fun _ => true) = ts := List.filter_eq_self.mpr (fun _ _ => rfl)
    rw [e1, All2.all (fun p : Int × Str => valid.contains p.1) (fun a => codeOk s1.heap a) (fun p v t => codeOk_of t) ht1]
    exact h s3 ((F.X.trans Y3).drop fun a m => X1.off (fW a m))
end Mine

namespace Mine
variable {w : World} {mg mb : Str → Option Value}
variable {s : Shared} {Q : Value → Shared → Prop} {E : Value → Shared → Prop} {A : Around} {n : Nat}

local macro_rules | `(tactic| walk_at "m go") => `(tactic| first
  | with_reducible refine wpAny_execs_cons ?_
  | with_reducible refine wpAny_Return_some ?_
  | with_reducible refine wpAny_Call_NameR ?_
  | with_reducible refine wpAny_items_cons ?_ (by with_unfolding_all rfl)
  | with_reducible refine wpAny_items_nil ?_
  | with_reducible refine Attribute_name ?_
  | with_reducible refine wpAny_Compare1 ?_ (by with_unfolding_all rfl)
  | with_reducible refine wpAny_isTrue_Compare1 ?_ (by with_unfolding_all rfl)
  | with_reducible refine wpAny_isTrue_Not ?_
  | with_reducible refine wpAny_isTrue_BoolOp ?_
  | with_reducible refine wpAny_allTrue_And_cons ?_
  | with_reducible refine wpAny_allTrue_And_nil ?_
  | with_reducible refine wpAny_allTrue_Or_cons ?_
  | with_reducible refine wpAny_allTrue_Or_nil ?_
  | with_reducible refine wpAny_If ?_
  | with_reducible refine wpAny_truthy_bool ?_
  | with_reducible refine wpAny_Assign_Name ?_ (by with_unfolding_all rfl)
  | with_reducible refine wpAny_Constant_int ?_
  | with_reducible refine wpAny_Constant_str ?_
  | with_reducible refine wpAny_Constant_bool ?_
  | with_reducible refine wpAny_Constant_none ?_
  | ((with_reducible show wpAny _ _ (eval (.Name _ _) _) _ _ _); first
    | refine Fm.ldL ‹Fm _ _ _ _ _ _ _ _› (by rfl) ?_
    | refine Fm.ldL ‹Fm _ _ _ _ _ _ _ _› (by assumption) ?_
    | refine Fm.ldG ‹Fm _ _ _ _ _ _ _ _› (by rfl) ?_
    | (refine Fm.ldB (v := .builtin _) ‹Fm _ _ _ _ _ _ _ _› (by rfl) (by rfl) ?_; dsimp only)
    | (refine Fm.ldB (v := .type _) ‹Fm _ _ _ _ _ _ _ _› (by rfl) (by rfl) ?_; dsimp only))
  | ((with_reducible show wpAny _ _ (callWith _ (.builtin _) _ _ _) _ _ _); refine PyProof.Rows.callWith_builtin1 ?_ (by with_unfolding_all rfl) (by with_unfolding_all rfl))
  | ((with_reducible show wpAny _ _ (callWith _ (.type _) _ _ _) _ _ _); refine callWith_type (by with_unfolding_all rfl) (evalArgs_plain ?_))
  | ((with_reducible show wpAny _ _ (callWith _ (.ref _) _ _ _) _ _ _); refine callWith_K (Fm.G ‹Fm _ _ _ _ _ _ _ _›).K (by rfl) ?_))

theorem hint_gen {a : Addr} {g : Nat} {Q : Bool → Shared → Prop} (X : (Kf w.params).In s.heap) (hg : s.heap.IsGen a g) (h : Q true s) : wpAny (model pw w) A (Builtin.List.listLengthHint (.ref a)) Q E s := by
  obtain ⟨⟨c0, d0, dt0, sl0⟩, nm, qn, e, hc, hd, hs⟩ := hg
  dsimp only at hc; subst hc
  have to : Looks (model pw w) s.heap (typeOf (.ref a)) (.type "generator") := (Looks.ld e).andThen .now
  have s1 : Looks (model pw w) s.heap (specialOf (.ref a) "__len__") none := to.andThen (looks_findIn X (by rfl))
  have s2 : Looks (model pw w) s.heap (specialOf (.ref a) "__length_hint__") none := to.andThen (looks_findIn X (by rfl))
  obtain ⟨h0, gg, d, tk, os⟩ := s
  unfold Builtin.List.listLengthHint
  repeat lk
  exact h
theorem IsGen.type {a : Addr} {g : Nat} {h : Heap} (hg : h.IsGen a g) : Looks (model pw w) h (typeOf (.ref a)) (.type "generator") := by
  obtain ⟨⟨c0, d0, dt0, sl0⟩, nm, qn, e, hc, hd, hs⟩ := hg
  dsimp only at hc; subst hc
  exact (Looks.ld e).andThen .now

/-- Tags of a generator -/
theorem tags_of_gen {a : Addr} {g : Nat} {W fp : List Addr} {α : Type} {R : α → Value → Shared → Prop} {St : Around → List α → Shared → Prop} {rem : List α} (r : Rm (n + 3) A) (G : Gd w mg mb s) (hg : s.heap.IsGen a g) (hia : Hi a) (hz : rem.length ≤ 1000)
    (hT : ∀ A', Rm (n + 1) A' → Iter w A' a W fp R (St A') ∧ St A' rem s) (hfp : ∀ b ∈ W ++ fp, ∃ o, s.heap.get? b = some o)
    (h : ∀ x dx n' vs s', Ex W s s' → s.heap.get? x = none → s.heap.get? dx = none → s'.heap.get? x = some (tagsO dx vs.toArray n') → s'.heap.get? dx = some emptyD → All2 (fun a v => R a v s') rem vs → Q (.ref x) s') : wpAny (model pw w) A (call (.ref 323) [.ref a]) Q E s := by
  refine tags_call r G fun A' x dx n1 s1 r1 ge Y f1 f2 h1 h2 => ?_
  have hix := G.hi f1
  have hidx := G.hi f2
  have nfp : ∀ b, s.heap.get? b = none → b ∉ W ++ fp := fun b e m => by obtain ⟨o, e'⟩ := hfp b m; rw [e] at e'; cases e'
  have hax : a ≠ x := fun e => by obtain ⟨o, _, _, z, _⟩ := hg; rw [e, f1] at z; cases z
  have hdx : dx ≠ x := fun e => by rw [e, h1] at h2; cases h2
  obtain ⟨T, st⟩ := hT A'.in1 (Rm.in1 (n := n + 1) r1)
  have st1 := T.frame st Y (by simp) ge
  have g1 := IsGen.ex Y hg hia (by simp)
  refine init_iter (ty := .type "generator") (G.ex Y).K hix h1 (fun s2 Z => IsGen.type (IsGen.ex Z g1 hia (by simpa using hax))) ?_ fun s2 n2 ge2 Z e2 => ?_
  · simp only [Builtin.List.listSameRef]
    rw [show (x == a) = false by simpa using Ne.symm hax]
    rfl
  · have G2 := (G.ex Y).ex Z
    have g2 := IsGen.ex Z g1 hia (by simpa using hax)
    have nx : ∀ b ∈ [x], b ∉ fp := fun b m => by rw [List.mem_singleton.mp m]; exact fun q => nfp x f1 (List.mem_append.mpr (.inr q))
    have st2 := T.frame st1 Z nx ge2
    refine wpAny_pyIter_gen g2 (hint_gen G2.K g2 ⟨n2, hix, e2, fun s5 n5 ge5 Y5 e5 => ?_⟩)
    have st5 := T.frame st2 Y5 nx ge5
    refine extend_loop T hix (fun q => nfp x f1 (List.mem_append.mpr (.inr q))) (fun q => nfp x f1 (List.mem_append.mpr (.inl q))) rem #[] n5 s5 st5 e5 (by simpa using hz) fun s6 vs n6 Y6 a2 e6 => ⟨rfl, ?_⟩
    have dx5 := (Z.trans Y5).get h2 hidx.tab (by simpa using hdx) (by simp)
    have Yall := ((Y.of0 (Z.trans Y5)).trans Y6)
    refine h x dx n6 vs s6 ?_ f1 f2 (by simpa using e6) (Y6.get dx5 hidx.tab ?_ (by simp)) a2
    · have Yw : Ex (W ++ [x]) s s6 := Yall.weaken (fun b m => by simp only [List.mem_append, List.mem_cons, List.not_mem_nil, or_false] at m ⊢; rcases m with (m | m) | m | m <;> first | exact .inr m | exact .inl m) (fun b m => by
        rcases List.mem_append.mp m with m | m
        · exact Y6.wlo b (.tail _ m)
        · rw [List.mem_singleton.mp m]; exact hix)
      exact Yw.fresh (by simpa using f1)
    · intro m
      rcases List.mem_cons.mp m with m | m
      · exact hdx m
      · exact nfp dx f2 (List.mem_append.mpr (.inl m))

/-- filter_invalid_xdata_group_codes, and Tags of it -/
theorem filter_call {T : Addr} {ts : List Value} {row : Row} (r : Rm (n + 13) A) (G : Gd w mg mb s) (hl : LstAt s.heap T ts) (ht : All2 (TagV s.heap) row ts) (hil : Hi T)
    (h : ∀ a s' (W fp : List Addr) (St : Around → List Value → Shared → Prop), Ex [] s s' → s.heap.get? a = none → (∃ g, s'.heap.IsGen a g) → (∀ b ∈ W, s.heap.get? b = none) → (∀ b ∈ W ++ fp, ∃ o, s'.heap.get? b = some o) → (∀ b ∈ W, Hi b) →
        (∀ A', Rm (n + 10) A' → Iter w A' a W fp (fun a v _ => v = a) (St A') ∧ St A' (ts.filter (codeOk s.heap)) s') → Q (.ref a) s') : wpAny (model pw w) A (call (.ref 334) [.ref T]) Q E s := by
  refine wpAny_call (call_fn (n := n + 12) (binds := [("tags", .ref T)]) r G (f := 334) (by rfl) (by rfl) (BindsTo.of_eq (by rfl)) fun A' L s1 r1 F => ?_)
  refine wpAny_execs_cons ?_
  repeat walk_at "m go"
  have hl1 := hl.ex F.X hil (by simp)
  have ht1 : All2 (TagV s1.heap) row ts := ht.imp fun _ _ z => z.ex F.X
  refine gen_seq (mg := mg) (mb := mb) (k := n + 8) (r1.mono (by omega)) (.inl ⟨rfl, rfl⟩) (codeOk s.heap) (fun a v _ => v = a) (fun h _ => h) ?_
  repeat walk_at "m go"
  refine ⟨T, ts, rfl, hl1, hil, F.G, ?_, ?_⟩
  · intro A3 C code a m₃ s₃ V r3 ha F3
    obtain ⟨p, _, tv⟩ := ht.mem ha
    refine wpAny_assign_Name (F3.st (fun s4 F4 Y4 => ?_))
    have tv4 := (tv.ex F.X).ex F4.X
    have hc := codeOk_of tv
    obtain ⟨x, rfl, t4⟩ := tv4
    refine ⟨⟨_, F4.N⟩, Y4, wpAny_tests_one ?_⟩
    repeat walk_at "m go"
    refine tag_code (n := n) (r3.mono (by omega)) F4.G.K t4 fun tc s5 Y5 => ?_
    replace F4 := F4.go Y5
    repeat walk_at "m go"
    refine in_valid F4.G.K ?_
    refine wpAny_truthy_bool ⟨by rw [hc], Y5.then0 (Ex.tok _), fun _ => ?_⟩
    repeat walk_at "m go"
    exact ⟨Ex.refl _, rfl⟩
  · intro I s2 W fp St Y2 fI hg fW ffp th hiW hT
    exact h I s2 W fp St (F.X.then0 Y2) (F.X.off fI) hg (fun b m => F.X.off (fW b m)) th hiW hT
end Mine

namespace Mine
variable {w : World} {mg mb : Str → Option Value}
variable {s : Shared} {Q : Value → Shared → Prop} {E : Value → Shared → Prop} {A : Around} {n : Nat}

local macro_rules | `(tactic| walk_at "m go") => `(tactic| first
  | with_reducible refine wpAny_execs_cons ?_
  | with_reducible refine wpAny_Return_some ?_
  | with_reducible refine wpAny_Call_NameR ?_
  | with_reducible refine wpAny_items_cons ?_ (by with_unfolding_all rfl)
  | with_reducible refine wpAny_items_nil ?_
  | with_reducible refine Attribute_name ?_
  | with_reducible refine wpAny_Compare1 ?_ (by with_unfolding_all rfl)
  | with_reducible refine wpAny_isTrue_Compare1 ?_ (by with_unfolding_all rfl)
  | with_reducible refine wpAny_isTrue_Not ?_
  | with_reducible refine wpAny_isTrue_BoolOp ?_
  | with_reducible refine wpAny_allTrue_And_cons ?_
  | with_reducible refine wpAny_allTrue_And_nil ?_
  | with_reducible refine wpAny_allTrue_Or_cons ?_
  | with_reducible refine wpAny_allTrue_Or_nil ?_
  | with_reducible refine wpAny_If ?_
  | with_reducible refine wpAny_truthy_bool ?_
  | with_reducible refine wpAny_Assign_Name ?_ (by with_unfolding_all rfl)
  | with_reducible refine wpAny_Constant_int ?_
  | with_reducible refine wpAny_Constant_str ?_
  | with_reducible refine wpAny_Constant_bool ?_
  | with_reducible refine wpAny_Constant_none ?_
  | ((with_reducible show wpAny _ _ (eval (.Name _ _) _) _ _ _); first
    | refine Fm.ldL ‹Fm _ _ _ _ _ _ _ _› (by rfl) ?_
    | refine Fm.ldL ‹Fm _ _ _ _ _ _ _ _› (by assumption) ?_
    | refine Fm.ldG ‹Fm _ _ _ _ _ _ _ _› (by rfl) ?_
    | (refine Fm.ldB (v := .builtin _) ‹Fm _ _ _ _ _ _ _ _› (by rfl) (by rfl) ?_; dsimp only)
    | (refine Fm.ldB (v := .type _) ‹Fm _ _ _ _ _ _ _ _› (by rfl) (by rfl) ?_; dsimp only))
  | ((with_reducible show wpAny _ _ (callWith _ (.builtin _) _ _ _) _ _ _); refine PyProof.Rows.callWith_builtin1 ?_ (by with_unfolding_all rfl) (by with_unfolding_all rfl))
  | ((with_reducible show wpAny _ _ (callWith _ (.type _) _ _ _) _ _ _); refine callWith_type (by with_unfolding_all rfl) (evalArgs_plain ?_))
  | ((with_reducible show wpAny _ _ (callWith _ (.ref _) _ _ _) _ _ _); refine callWith_K (Fm.G ‹Fm _ _ _ _ _ _ _ _›).K (by rfl) ?_))

abbrev dataD (hs : Int) (tk : Tok) (d : Addr) (k : Nat) : Obj := { cls := .type "dict", data := .dict #[⟨hs, .str "data" tk, .ref d⟩] k }
/-- XData with the dict d -/
def XInst (h : Heap) (T dd d : Addr) : Prop := h.get? T = some (instObj 451 dd) ∧ ∃ hs tk k, h.get? dd = some (dataD hs tk d k)
theorem XInst.ex {W : List Addr} {s s' : Shared} {T dd d : Addr} (Y : Ex W s s') (x : XInst s.heap T dd d) (hT : Hi T) (hd : Hi dd) (h1 : T ∉ W) (h2 : dd ∉ W) : XInst s'.heap T dd d := by
  obtain ⟨e, hs, tk, k, e2⟩ := x
  exact ⟨Y.get e hT.tab h1 (by simp), hs, tk, k, Y.get e2 hd.tab h2 (by simp)⟩
theorem put_data {T dd d : Addr} {Q : Unit → Shared → Prop} (X : (Kf w.params).In s.heap) (hT : s.heap.get? T = some (instObj 451 dd)) (hd : s.heap.get? dd = some emptyD) (hi : Hi dd)
    (h : ∀ s' hs tk k, s'.gens = s.gens → Ex [dd] s s' → s'.heap.get? dd = some (dataD hs tk d k) → Q () s') : wpAny (model pw w) A (setAttr (.ref T) "data" (.ref d)) Q E s := by
  have I : InstAt s.heap T (instObj 451 dd) 451 (some emptyD) := ⟨hT, rfl, rfl, hd⟩
  refine set_plain X I (by rfl) ?_
  refine osa_open (s := { s with toks := s.toks + 1 }) X I (by rfl) (r := none) (by rfl) fun b => ?_
  obtain ⟨cd, hc, hd'⟩ := any_some (show (clsIn (Kf w.params) 451).any (·.hasDict) = true by rfl)
  have hD := Heap.get?_update_self (Obj.putName "data" (PyData.keyHash w.params "data") (.str "data" (s.toks + 1)) (.ref d)) hd (by rfl)
  refine wpAny_bind (wpAny_pure (wpAny_bind (wpAny_bind (wpAny_loadPart hT (wpAny_bind (Looks.here (s := { s with toks := s.toks + 1 }) (looks_clsIn X hc) ?_))))))
  rw [hd']
  refine wpAny_pure (a := some dd) (wpAny_bind (wpAny_pure (wpAny_bind ?_)))
  unfold nsSet
  refine wpAny_bind (wpAny_bind (wpAny_askSetting (wpAny_pure (wpAny_bind (wpAny_mkText (wpAny_bind (wpAny_loadPart hd ?_)))))))
  dsimp only
  rw [aRefKeyMayBeTheName_at, show (!(#[] : Array DictEntry).any (·.key.isStr "data") && (#[] : Array DictEntry).any (·.refKey)) = false by simp]
  refine wpAny_updatePart hd ?_
  refine wpAny_bind (wpAny_lookBehind hD (by rfl) ?_)
  refine wpAny_pure (h _ _ _ _ rfl (Ex.turn (tk := s.toks + 1 + 1) hd (by rintro (⟨h, _⟩ | ⟨h, _⟩) <;> simp at h) hi (Heap.SameBut.update ..) ⟨_, hD⟩) hD)

local macro_rules | `(tactic| x_close) => `(tactic| (rename Kt _ => k9; rename Mem _ _ _ _ => D9; exact k9.out _ _ _ _ _ _ _ rfl (ex_mem D9) (mem_none D9 (i := 2) rfl) (mem_none D9 (i := 3) rfl) (mem_none D9 (i := 0) rfl) (mem_at D9 2 rfl rfl) (mem_at D9 3 rfl rfl) (mem_at D9 0 rfl rfl)))
theorem xdata_nil0 (K : (Kf w.params).In s.heap) (h : ∀ T dd d hs tk k s', s'.gens = s.gens → Ex [] s s' → s.heap.get? T = none → s.heap.get? dd = none → s.heap.get? d = none → s'.heap.get? T = some (instObj 451 dd) → s'.heap.get? dd = some (dataD hs tk d k) → s'.heap.get? d = some emptyD → Q (.ref T) s') :
    wpAny (model pw w) AL (call (.ref 451) []) Q E s := by
  obtain ⟨h0, g, d, t, os⟩ := s
  have hk := Kt.mk h
  dsimp only at K hk ⊢
  x_run
end Mine

namespace Mine
variable {w : World} {mg mb : Str → Option Value}
variable {s : Shared} {Q : Value → Shared → Prop} {E : Value → Shared → Prop} {A : Around} {n : Nat}

local macro_rules | `(tactic| walk_at "m go") => `(tactic| first
  | with_reducible refine wpAny_execs_cons ?_
  | with_reducible refine wpAny_Return_some ?_
  | with_reducible refine wpAny_Call_NameR ?_
  | with_reducible refine wpAny_items_cons ?_ (by with_unfolding_all rfl)
  | with_reducible refine wpAny_items_nil ?_
  | with_reducible refine Attribute_name ?_
  | with_reducible refine wpAny_Compare1 ?_ (by with_unfolding_all rfl)
  | with_reducible refine wpAny_isTrue_Compare1 ?_ (by with_unfolding_all rfl)
  | with_reducible refine wpAny_isTrue_Not ?_
  | with_reducible refine wpAny_isTrue_BoolOp ?_
  | with_reducible refine wpAny_allTrue_And_cons ?_
  | with_reducible refine wpAny_allTrue_And_nil ?_
  | with_reducible refine wpAny_allTrue_Or_cons ?_
  | with_reducible refine wpAny_allTrue_Or_nil ?_
  | with_reducible refine wpAny_If ?_
  | with_reducible refine wpAny_truthy_bool ?_
  | with_reducible refine wpAny_Assign_Name ?_ (by with_unfolding_all rfl)
  | with_reducible refine wpAny_Constant_int ?_
  | with_reducible refine wpAny_Constant_str ?_
  | with_reducible refine wpAny_Constant_bool ?_
  | with_reducible refine wpAny_Constant_none ?_
  | ((with_reducible show wpAny _ _ (eval (.Name _ _) _) _ _ _); first
    | refine Fm.ldL ‹Fm _ _ _ _ _ _ _ _› (by rfl) ?_
    | refine Fm.ldL ‹Fm _ _ _ _ _ _ _ _› (by assumption) ?_
    | refine Fm.ldG ‹Fm _ _ _ _ _ _ _ _› (by rfl) ?_
    | (refine Fm.ldB (v := .builtin _) ‹Fm _ _ _ _ _ _ _ _› (by rfl) (by rfl) ?_; dsimp only)
    | (refine Fm.ldB (v := .type _) ‹Fm _ _ _ _ _ _ _ _› (by rfl) (by rfl) ?_; dsimp only))
  | ((with_reducible show wpAny _ _ (callWith _ (.builtin _) _ _ _) _ _ _); refine PyProof.Rows.callWith_builtin1 ?_ (by with_unfolding_all rfl) (by with_unfolding_all rfl))
  | ((with_reducible show wpAny _ _ (callWith _ (.type _) _ _ _) _ _ _); refine callWith_type (by with_unfolding_all rfl) (evalArgs_plain ?_))
  | ((with_reducible show wpAny _ _ (callWith _ (.ref _) _ _ _) _ _ _); refine callWith_K (Fm.G ‹Fm _ _ _ _ _ _ _ _›).K (by rfl) ?_))

theorem DictOf.ex {W : List Addr} {s s' : Shared} {d : Addr} {kvs : List (Str × Value)} (Y : Ex W s s') (h : s.heap.DictOf (strKind pw w) d kvs) (hi : Hi d) (hW : d ∉ W) : s'.heap.DictOf (strKind pw w) d kvs := by
  obtain ⟨o, es, ep, e, hc, r⟩ := h
  exact ⟨o, es, ep, Y.get e hi.tab hW (by rw [hc.1]; simp), hc, r⟩
/-- XData with what its dict holds -/
structure Told (w : World) (h : Heap) (T dd d : Addr) (kvs : List (Str × Value)) : Prop where
  inst : XInst h T dd d
  dict : h.DictOf (strKind pw w) d kvs
  hT : Hi T
  hdd : Hi dd
  hd : Hi d
  ne : dd ≠ d
  len : kvs.length ≤ 100
theorem Told.neT {h : Heap} {T dd d : Addr} {kvs : List (Str × Value)} (t : Told w h T dd d kvs) : T ≠ d := by
  rintro rfl
  obtain ⟨o, es, ep, e, _, hd, _⟩ := t.dict
  rw [t.inst.1] at e; cases e; cases hd
theorem Told.ex {W : List Addr} {s s' : Shared} {T dd d : Addr} {kvs : List (Str × Value)} (Y : Ex W s s') (t : Told w s.heap T dd d kvs) (h1 : T ∉ W) (h2 : dd ∉ W) (h3 : d ∉ W) : Told w s'.heap T dd d kvs :=
  ⟨t.inst.ex Y t.hT t.hdd h1 h2, DictOf.ex Y t.dict t.hd h3, t.hT, t.hdd, t.hd, t.ne, t.len⟩
theorem Told.ex0 {s s' : Shared} {T dd d : Addr} {kvs : List (Str × Value)} (Y : Ex [] s s') (t : Told w s.heap T dd d kvs) : Told w s'.heap T dd d kvs := t.ex Y (by simp) (by simp) (by simp)
theorem Told.sys {h : Heap} {T dd d : Addr} {kvs : List (Str × Value)} (t : Told w h T dd d kvs) : (d == sysModules) = false := by
  have := t.hd.ne (b := 1) (by decide)
  simp only [sysModules, beq_eq_false_iff_ne, ne_eq]
  exact fun e => this e.symm
theorem Told.data {T dd d : Addr} {kvs : List (Str × Value)} {ex : Bool} (X : (Kf w.params).In s.heap) (t : Told w s.heap T dd d kvs) (h : Q (.ref d) { s with toks := s.toks + 1 }) : wpAny (model pw w) A (getAttr (.ref T) "data" ex) Q E s := by
  obtain ⟨e, hs, tk, k, e2⟩ := t.inst
  have I : InstAt s.heap T (instObj 451 dd) 451 (some (dataD hs tk d k)) := ⟨e, rfl, rfl, e2⟩
  exact get_value X I (by rfl) (by rfl) (by rfl) h

theorem skey {k : Str} {tk : Tok} : (PySem.strKind pw w).is k (.str k tk) = true := by simp [PySem.strKind, Value.isStrOf]
theorem sub_gen {value slice : Expr} {pos : Pos} {env : Env}
    (h : wpAny (model pw w) A (eval value env) (fun o s₁ => wpAny (model pw w) A (eval slice env) (fun i s₂ => ItemOn (model pw w) A E o i Q s₂) E s₁) E s)
    (hs : ∀ o i, subscripted slice false o i = operate [o, i] (getItem o i)) :
    wpAny (model pw w) A (eval (.Subscript value slice pos) env) Q E s := by
  rw [eval_Subscript]
  refine wpAny_bind (wpAny_mono h (fun o s₁ h₁ => wpAny_bind (wpAny_holding (wpAny_mono h₁ (fun i s₂ h₂ => wpAny_bind (wpAny_standAt ?_)) fun _ _ x => x)))
    fun _ _ x => x)
  obtain ⟨T, id, hl, hT, hg⟩ := h₂
  refine wpAny_bind ?_
  rw [getitemInPython_of_ne hT.not_modules]
  refine wpAny_bind (wpAny_specialOf hT hl ?_)
  refine wpAny_pure (wpAny_bind ?_)
  show wpAny _ _ (subscripted slice false o i) _ _ _
  rw [hs]
  exact wpAny_operating (wpAny_mono hg (fun r s₃ h₃ => wpAny_bind (wpAny_letTemporaryGo (wpAny_pure h₃))) fun _ _ x => x)
theorem x_len {T dd d : Addr} {kvs : List (Str × Value)} (r : Rm (n + 2) A) (G : Gd w mg mb s) (t : Told w s.heap T dd d kvs) (h : ∀ tk s', Ex [] s s' → Q (.int kvs.length tk) s') : wpAny (model pw w) A (call (.ref 371) [.ref T]) Q E s := by
  refine wpAny_call (call_fn (n := n + 1) (binds := [("self", .ref T)]) r G (f := 371) (by rfl) (by rfl) (BindsTo.of_eq (by rfl)) fun A' L s1 r1 F => ?_)
  refine wpAny_execs_cons ?_
  repeat walk_at "m go"
  have t1 := t.ex0 F.X
  refine t1.data F.G.K ?_
  repeat walk_at "m go"
  exact call_len_dict (s := { s1 with toks := s1.toks + 1 }) t1.sys t1.dict (by have := t1.len; omega) (h _ _ (F.X.then0 (Ex.tok _)))
theorem x_contains {T dd d : Addr} {kvs : List (Str × Value)} {k : Str} {tk : Tok} (r : Rm (n + 2) A) (G : Gd w mg mb s) (t : Told w s.heap T dd d kvs) (h : ∀ s', Ex [] s s' → Q (.bool (valueAt kvs k).isSome) s') : wpAny (model pw w) A (call (.ref 378) [.ref T, .str k tk]) Q E s := by
  refine wpAny_call (call_fn (n := n + 1) (binds := [("self", .ref T), ("appid", .str k tk)]) r G (f := 378) (by rfl) (by rfl) (BindsTo.of_eq (by rfl)) fun A' L s1 r1 F => ?_)
  refine wpAny_execs_cons ?_
  repeat walk_at "m go"
  have t1 := t.ex0 F.X
  refine t1.data F.G.K ?_
  repeat walk_at "m go"
  refine wpAny_in_of (s := { s1 with toks := s1.toks + 1 }) skey t1.sys t1.dict.mapOf ?_
  exact h _ (F.X.then0 (Ex.tok _))
theorem x_get {T dd d : Addr} {kvs : List (Str × Value)} {k : Str} {tk : Tok} {v : Value} (r : Rm (n + 2) A) (G : Gd w mg mb s) (t : Told w s.heap T dd d kvs) (hv : valueAt kvs k = some v) (h : ∀ s', Ex [] s s' → Q v s') : wpAny (model pw w) A (call (.ref 406) [.ref T, .str k tk]) Q E s := by
  refine wpAny_call (call_fn (n := n + 1) (binds := [("self", .ref T), ("appid", .str k tk)]) r G (f := 406) (by rfl) (by rfl) (BindsTo.of_eq (by rfl)) fun A' L s1 r1 F => ?_)
  refine wpAny_execs_cons ?_
  repeat walk_at "m go"
  have t1 := t.ex0 F.X
  refine t1.data F.G.K ?_
  repeat walk_at "m go"
  refine wpAny_in_of (s := { s1 with toks := s1.toks + 1 }) skey t1.sys t1.dict.mapOf ?_
  rw [hv]
  refine wpAny_truthy_bool ?_
  dsimp only [Option.isSome]
  rw [if_pos rfl]
  repeat walk_at "m go"
  refine sub_gen ?_ (fun _ _ => rfl)
  repeat walk_at "m go"
  refine t1.data F.G.K ?_
  repeat walk_at "m go"
  refine ⟨"dict", _, slot_dict_getitem.lookup, t1.dict.typeIs, ?_⟩
  refine wpAny_getItem_of (s := { s1 with toks := s1.toks + 1 + 1 + 1 }) skey t1.dict.mapOf hv ?_
  exact h _ (F.X.then0 (Ex.tok _))
theorem dict_del {d : Addr} {kvs : List (Str × Value)} {k : Str} {tk : Tok} {Q : Unit → Shared → Prop} (hD : s.heap.DictOf (PySem.strKind pw w) d kvs) (hi : Hi d) (hl : kvs.length ≤ 1000) (hv : (valueAt kvs k).isSome = true)
    (h : ∀ s', Ex [d] s s' → s'.heap.DictOf (PySem.strKind pw w) d (without kvs k) → Q () s') : wpAny (model pw w) A (delItem (.ref d) (.str k tk)) Q E s := by
  unfold delItem
  try with_reducible refine wpAny_holding ?_
  refine wpAny_bind (wpAny_sequenceKey hD.typeIs (by decide) ?_)
  refine wpAny_bind (wpAny_callSpecial?_slot (name := Str.ofString "__delitem__") hD.typeIs PySem.F.slot_dict_delitem
    (call_meetsIn PySem.F.slot_dict_delitem hD.typeIs PySem.F.entry_dict_delitem (PySem.F.args_dict_delitem_2 _ _) (meets_dict_delitem_pairs (PySem.strKind pw w) d skey) ⟨kvs, hD, (by rw [sizeLine_eq]; omega), hv, fun h' hmm hs => ?_⟩))
  obtain ⟨o, es, ep, ho, hc, hd, _⟩ := hD
  refine wpAny_pure (h _ (Ex.turn (tk := s.toks + 1) ho (by rintro (⟨h, _⟩ | ⟨h, _⟩) <;> rw [hc.1] at h <;> simp at h) hi hs (let ⟨o', _, _, e, _⟩ := hmm; ⟨o', e⟩)) hmm)
theorem dict_set {d : Addr} {kvs : List (Str × Value)} {k : Str} {tk : Tok} {v : Value} {Q : Unit → Shared → Prop} (hD : s.heap.DictOf (PySem.strKind pw w) d kvs) (hi : Hi d) (hl : kvs.length ≤ 1000)
    (h : ∀ s', Ex [d] s s' → s'.heap.DictOf (PySem.strKind pw w) d (stored kvs k v) → Q () s') : wpAny (model pw w) A (setItem (.ref d) (.str k tk) v) Q E s := by
  refine wpAny_setItem_pairs skey hD (fun h' hm hs => ?_) (by rw [sizeLine_eq]; omega)
  obtain ⟨o, es, ep, ho, hc, hd, _⟩ := hD
  exact h _ (Ex.turn (tk := s.toks + 1) ho (by rintro (⟨h, _⟩ | ⟨h, _⟩) <;> rw [hc.1] at h <;> simp at h) hi hs (let ⟨o', _, _, e, _⟩ := hm; ⟨o', e⟩)) hm
theorem without_len (kvs : List (Str × Value)) (k : Str) : (without kvs k).length ≤ kvs.length := List.length_filter_le _ _
theorem x_discard {T dd d : Addr} {kvs : List (Str × Value)} {k : Str} {tk : Tok} (r : Rm (n + 2) A) (G : Gd w mg mb s) (t : Told w s.heap T dd d kvs) (h : ∀ s', Ex [d] s s' → Told w s'.heap T dd d (without kvs k) → Q .none s') : wpAny (model pw w) A (call (.ref 413) [.ref T, .str k tk]) Q E s := by
  refine wpAny_call (call_fn (n := n + 1) (binds := [("self", .ref T), ("appid", .str k tk)]) r G (f := 413) (by rfl) (by rfl) (BindsTo.of_eq (by rfl)) fun A' L s1 r1 F => ?_)
  refine wpAny_execs_cons ?_
  repeat walk_at "m go"
  have t1 := t.ex0 F.X
  refine t1.data F.G.K ?_
  repeat walk_at "m go"
  refine wpAny_in_of (s := { s1 with toks := s1.toks + 1 }) skey t1.sys t1.dict.mapOf ?_
  refine wpAny_truthy_bool ?_
  cases hv : valueAt kvs k with
  | none =>
    dsimp only [Option.isSome]
    rw [if_neg (by simp)]
    repeat (first | with_reducible refine wpAny_execs_nil ?_ | walk_at "m go")
    have hw : without kvs k = kvs := by
      refine without_of_not_mem _ _ fun hm => ?_
      unfold valueAt at hv
      rw [Option.map_eq_none_iff, List.find?_eq_none] at hv
      obtain ⟨kv, h1, h2⟩ := List.mem_map.mp hm
      exact hv kv h1 (by simp [h2])
    exact h _ (ex_self (F.X.then0 (Ex.tok _)) t.hd) (by rw [hw]; exact t1)
  | some v =>
    dsimp only [Option.isSome]
    rw [if_pos rfl]
    repeat walk_at "m go"
    refine wpAny_Delete (wpAny_deleteEach_cons (delete_Subscript ?_))
    repeat walk_at "m go"
    refine t1.data F.G.K ?_
    repeat walk_at "m go"
    refine dict_del (s := { s1 with toks := s1.toks + 1 + 1 + 1 }) t1.dict t1.hd (by have := t1.len; omega) (by rw [hv]; rfl) fun s2 Y2 hd2 => ?_
    refine wpAny_deleteEach_nil ?_
    repeat (first | with_reducible refine wpAny_execs_nil ?_ | walk_at "m go")
    have Y : Ex [d] s1 s2 := (Ex.tok _).of0 Y2
    exact h s2 (F.X.of0 Y) ⟨t1.inst.ex Y t.hT t.hdd (by simpa using t.neT) (by simpa using t.ne), hd2, t.hT, t.hdd, t.hd, t.ne, Nat.le_trans (without_len _ _) t.len⟩
end Mine

namespace Mine
variable {w : World} {mg mb : Str → Option Value}
variable {s : Shared} {Q : Value → Shared → Prop} {E : Value → Shared → Prop} {A : Around} {n : Nat}

local macro_rules | `(tactic| walk_at "m go") => `(tactic| first
  | with_reducible refine wpAny_execs_cons ?_
  | with_reducible refine wpAny_Return_some ?_
  | with_reducible refine wpAny_Call_NameR ?_
  | with_reducible refine wpAny_items_cons ?_ (by with_unfolding_all rfl)
  | with_reducible refine wpAny_items_nil ?_
  | with_reducible refine Attribute_name ?_
  | with_reducible refine wpAny_Compare1 ?_ (by with_unfolding_all rfl)
  | with_reducible refine wpAny_isTrue_Compare1 ?_ (by with_unfolding_all rfl)
  | with_reducible refine wpAny_isTrue_Not ?_
  | with_reducible refine wpAny_isTrue_BoolOp ?_
  | with_reducible refine wpAny_allTrue_And_cons ?_
  | with_reducible refine wpAny_allTrue_And_nil ?_
  | with_reducible refine wpAny_allTrue_Or_cons ?_
  | with_reducible refine wpAny_allTrue_Or_nil ?_
  | with_reducible refine wpAny_If ?_
  | with_reducible refine wpAny_truthy_bool ?_
  | with_reducible refine wpAny_Assign_Name ?_ (by with_unfolding_all rfl)
  | with_reducible refine wpAny_Constant_int ?_
  | with_reducible refine wpAny_Constant_str ?_
  | with_reducible refine wpAny_Constant_bool ?_
  | with_reducible refine wpAny_Constant_none ?_
  | ((with_reducible show wpAny _ _ (eval (.Name _ _) _) _ _ _); first
    | refine Fm.ldL ‹Fm _ _ _ _ _ _ _ _› (by rfl) ?_
    | refine Fm.ldL ‹Fm _ _ _ _ _ _ _ _› (by assumption) ?_
    | refine Fm.ldG ‹Fm _ _ _ _ _ _ _ _› (by rfl) ?_
    | (refine Fm.ldB (v := .builtin _) ‹Fm _ _ _ _ _ _ _ _› (by rfl) (by rfl) ?_; dsimp only)
    | (refine Fm.ldB (v := .type _) ‹Fm _ _ _ _ _ _ _ _› (by rfl) (by rfl) ?_; dsimp only))
  | ((with_reducible show wpAny _ _ (callWith _ (.builtin _) _ _ _) _ _ _); refine PyProof.Rows.callWith_builtin1 ?_ (by with_unfolding_all rfl) (by with_unfolding_all rfl))
  | ((with_reducible show wpAny _ _ (callWith _ (.type _) _ _ _) _ _ _); refine callWith_type (by with_unfolding_all rfl) (evalArgs_plain ?_))
  | ((with_reducible show wpAny _ _ (callWith _ (.ref _) _ _ _) _ _ _); refine callWith_K (Fm.G ‹Fm _ _ _ _ _ _ _ _›).K (by rfl) ?_))

theorem tags_item {x dx : Addr} {xs : Array Value} {nn : Nat} {t : Tok} {v : Value} (X : (Kf w.params).In s.heap) (hx : s.heap.get? x = some (tagsO dx xs nn)) (hv : xs[0]? = some v) (h : Q v s) : wpAny (model pw w) A (getItem (.ref x) (.int 0 t)) Q E s := by
  have to : Looks (model pw w) s.heap (typeOf (.ref x)) (.ref 323) := (Looks.ld hx).andThen .now
  have sp : Looks (model pw w) s.heap (specialOf (.ref x) "__getitem__") (some (.builtin "list.__getitem__")) := to.andThen (looks_findIn X (by rfl))
  have sub : Looks (model pw w) s.heap (isSubtype (.ref 323) (.type "collections.deque")) false := looks_mroIn X (by rfl)
  have key : wpAny (model pw w) A (call (.builtin "list.__getitem__") [.ref x, .int 0 t]) Q E s := by
    refine tags_bi (.inr (by decide +kernel)) (nm := "__getitem__") (by decide +kernel) (by decide +kernel) entry_list_getitem (args_list_getitem _ _) X hx ?_
    unfold Builtin.«list.__getitem__»
    refine wpAny_bind (wpAny_pure ?_)
    dsimp only
    refine wpAny_bind (wpAny_listSubscript_int (fitsIndex_of (by omega) (by omega)) ?_)
    dsimp only
    show wpAny _ _ ((seqItemAt x 0 >>= fun r => pure (r.map (0, ·))) >>= _) _ _ s
    refine wpAny_bind (wpAny_bind (wpAny_seqItemAt hx rfl (wpAny_pure ?_)))
    rw [hv]
    exact wpAny_pure h
  unfold getItem
  refine wpAny_holding ?_
  have sk : Looks (model pw w) s.heap (sequenceKey (.ref x) (.int 0 t) "__getitem__") (.int 0 t) := by
    unfold sequenceKey
    refine to.andThen ?_
    intro A Q E s hs hq
    show wpAny _ _ ((isSubtype (.ref 323) (.type "collections.deque") >>= fun b => match b with
      | true => pure true
      | false => pure false) >>= _) _ _ _
    refine wpAny_bind (wpAny_bind (sub _ _ _ _ hs ?_))
    exact wpAny_pure (wpAny_pure hq)
  refine wpAny_bind (sk.here ?_)
  unfold callSpecial?
  refine wpAny_bind (wpAny_bind (sp.here ?_))
  refine wpAny_holding (wpAny_bind ?_)
  rw [slot_list_getitem.bind]
  exact wpAny_pure (wpAny_bind (wpAny_mono key (fun v s' hq => wpAny_pure (wpAny_pure hq)) fun _ _ z => z))
theorem sub_tags {value slice : Expr} {pos : Pos} {env : Env}
    (h : wpAny (model pw w) A (eval value env) (fun o s₁ => wpAny (model pw w) A (eval slice env) (fun i s₂ => (Kf w.params).In s₂.heap ∧ ∃ x dx xs nn, o = .ref x ∧ s₂.heap.get? x = some (tagsO dx xs nn) ∧ wpAny (model pw w) A (getItem o i) Q E s₂) E s₁) E s)
    (hs : ∀ o i, subscripted slice false o i = operate [o, i] (getItem o i)) :
    wpAny (model pw w) A (eval (.Subscript value slice pos) env) Q E s := by
  rw [eval_Subscript]
  refine wpAny_bind (wpAny_mono h (fun o s₁ h₁ => wpAny_bind (wpAny_holding (wpAny_mono h₁ (fun i s₂ h₂ => wpAny_bind (wpAny_standAt ?_)) fun _ _ x => x)))
    fun _ _ x => x)
  obtain ⟨X, x, dx, xs, nn, rfl, hx, hg⟩ := h₂
  have to : Looks (model pw w) s₂.heap (typeOf (.ref x)) (.ref 323) := (Looks.ld hx).andThen .now
  have sp : Looks (model pw w) s₂.heap (specialOf (.ref x) "__getitem__") (some (.builtin "list.__getitem__")) := to.andThen (looks_findIn X (by rfl))
  refine wpAny_bind ?_
  rw [getitemInPython_of_ne (by simp)]
  refine wpAny_bind (sp.here ?_)
  refine wpAny_pure (wpAny_bind ?_)
  show wpAny _ _ (subscripted slice false _ i) _ _ _
  rw [hs]
  exact wpAny_operating (wpAny_mono hg (fun r s₃ h₃ => wpAny_bind (wpAny_letTemporaryGo (wpAny_pure h₃))) fun _ _ x => x)
end Mine

namespace Mine
variable {w : World} {mg mb : Str → Option Value}
variable {s : Shared} {Q : Value → Shared → Prop} {E : Value → Shared → Prop} {A : Around} {n : Nat}

local macro_rules | `(tactic| walk_at "m go") => `(tactic| first
  | with_reducible refine wpAny_execs_cons ?_
  | with_reducible refine wpAny_Return_some ?_
  | with_reducible refine wpAny_Call_NameR ?_
  | with_reducible refine wpAny_items_cons ?_ (by with_unfolding_all rfl)
  | with_reducible refine wpAny_items_nil ?_
  | with_reducible refine Attribute_name ?_
  | with_reducible refine wpAny_Compare1 ?_ (by with_unfolding_all rfl)
  | with_reducible refine wpAny_isTrue_Compare1 ?_ (by with_unfolding_all rfl)
  | with_reducible refine wpAny_isTrue_Not ?_
  | with_reducible refine wpAny_isTrue_BoolOp ?_
  | with_reducible refine wpAny_allTrue_And_cons ?_
  | with_reducible refine wpAny_allTrue_And_nil ?_
  | with_reducible refine wpAny_allTrue_Or_cons ?_
  | with_reducible refine wpAny_allTrue_Or_nil ?_
  | with_reducible refine wpAny_If ?_
  | with_reducible refine wpAny_truthy_bool ?_
  | with_reducible refine wpAny_execs_nil ?_
  | ((with_reducible show wpAny _ _ (PySem.isTrue (.Call _ _ _ _) _ _) _ _ _); refine wpAny_isTrue_value ?_ (by rfl))
  | ((with_reducible show wpAny _ _ (PySem.isTrue (.Name _ _) _ _) _ _ _); refine wpAny_isTrue_value ?_ (by rfl))
  | with_reducible refine wpAny_Assign_Name ?_ (by with_unfolding_all rfl)
  | with_reducible refine wpAny_Constant_int ?_
  | with_reducible refine wpAny_Constant_str ?_
  | with_reducible refine wpAny_Constant_bool ?_
  | with_reducible refine wpAny_Constant_none ?_
  | ((with_reducible show wpAny _ _ (eval (.Name _ _) _) _ _ _); first
    | refine Fm.ldL ‹Fm _ _ _ _ _ _ _ _› (by rfl) ?_
    | refine Fm.ldL ‹Fm _ _ _ _ _ _ _ _› (by assumption) ?_
    | refine Fm.ldG ‹Fm _ _ _ _ _ _ _ _› (by rfl) ?_
    | (refine Fm.ldB (v := .builtin _) ‹Fm _ _ _ _ _ _ _ _› (by rfl) (by rfl) ?_; dsimp only)
    | (refine Fm.ldB (v := .type _) ‹Fm _ _ _ _ _ _ _ _› (by rfl) (by rfl) ?_; dsimp only))
  | ((with_reducible show wpAny _ _ (callWith _ (.builtin _) _ _ _) _ _ _); refine PyProof.Rows.callWith_builtin1 ?_ (by with_unfolding_all rfl) (by with_unfolding_all rfl))
  | ((with_reducible show wpAny _ _ (callWith _ (.type _) _ _ _) _ _ _); refine callWith_type (by with_unfolding_all rfl) (evalArgs_plain ?_))
  | ((with_reducible show wpAny _ _ (callWith _ (.ref _) _ _ _) _ _ _); refine callWith_K (Fm.G ‹Fm _ _ _ _ _ _ _ _›).K (by rfl) ?_))

theorem TagsAt.lst {h : Heap} {T dx : Addr} {row : Row} (t : TagsAt h T dx row) : ∃ ts, LstAt h T ts ∧ All2 (TagV h) row ts := let ⟨xs, ⟨n, e⟩, a, _⟩ := t; ⟨xs, .inr ⟨dx, n, e⟩, a⟩
theorem stored_len (kvs : List (Str × Value)) (k : Str) (v : Value) (h : kvs.length ≤ 99) : (stored kvs k v).length ≤ 100 := by
  have := stored_length_le kvs k v
  omega

/-- _add of Tags whose codes may stand -/
theorem x_add {T dd d X dX : Addr} {kvs : List (Str × Value)} {row : Row} (r : Rm (n + 16) A) (G : Gd w mg mb s) (t : Told w s.heap T dd d kvs) (hk : kvs.length ≤ 99) (tg : TagsAt s.heap X dX row) (hX : Hi X) (hz : row.length ≤ 1000)
    (hv : (row.all fun p => valid.contains p.1) = true)
    (h : ∀ s', match row with
      | [] => Ex [] s s' → Q .none s'
      | p :: _ => ∀ T' dx', Ex [d] s s' → s.heap.get? T' = none → s.heap.get? dx' = none → TagsAt s'.heap T' dx' row → Told w s'.heap T dd d (stored kvs p.2 (.ref T')) → Q .none s') :
    wpAny (model pw w) A (call (.ref 392) [.ref T, .ref X]) Q E s := by
  refine wpAny_call (call_fn (n := n + 15) (binds := [("self", .ref T), ("tags", .ref X)]) r G (f := 392) (by rfl) (by rfl) (BindsTo.of_eq (by rfl)) fun A' L s1 r1 F => ?_)
  refine wpAny_execs_cons ?_
  repeat walk_at "m go"
  obtain ⟨xs, ⟨nx, ex⟩, ax, _⟩ := tg
  have ex1 := F.X.get ex hX.tab (by simp) (by simp)
  refine ⟨F.G.K, tags_of_tags (r1.mono (by omega : 12 + 3 ≤ n + 15)) F.G ex1 hX (by rw [List.size_toArray, ← ax.len]; exact hz) fun x dx nx' s2 Y2 fx fdx e2 e3 => ?_⟩
  have hix := F.G.hi fx
  have hidx := F.G.hi fdx
  have nxL := F.neL fx
  have ndxL := F.neL fdx
  have fx0 := F.new fx
  have fdx0 := F.new fdx
  replace F := F.go Y2
  refine F.st (env := envOf _ _ L _ _) fun s3 F3 Y3 => ?_
  clear F
  have c3 := Y3.get e2 hix.tab (by simpa using nxL) (by simp)
  have c3d := Y3.get e3 hidx.tab (by simpa using ndxL) (by simp)
  repeat walk_at "m go"
  refine Rm.leaf (r1.mono (by omega : 1 ≤ n + 15)) (tags_len0 F3.G.K c3 (by rw [List.size_toArray, ← ax.len]; exact hz) fun tk s4 Y4 => ?_)
  refine PyProof.Rows.truthy_int ?_
  have F4 := F3.go Y4
  clear F3
  cases ax with
  | nil =>
    simp only [List.size_toArray, List.length_nil]
    rw [if_neg (by decide)]
    repeat walk_at "m go"
    exact h s4 F4.X
  | @cons p v row xs hp ax =>
    simp only [List.size_toArray, List.length_cons]
    rw [if_pos (by simp; omega)]
    repeat walk_at "m go"
    refine Attribute_any_ (sub_tags ?_ (fun _ _ => rfl))
    have Y34 : Ex [L] s2 s4 := Y3.then0 Y4
    have c4 := Y34.get e2 hix.tab (by simpa using nxL) (by simp)
    have c4d := Y34.get e3 hidx.tab (by simpa using ndxL) (by simp)
    repeat walk_at "m go"
    refine ⟨F4.G.K, x, dx, _, _, rfl, c4, tags_item (s := { s4 with toks := s4.toks + 1 }) F4.G.K c4 (v := v) (by simp) ?_⟩
    obtain ⟨xv, rfl, tv⟩ := hp.ex F4.X
    refine tag_value (s := { s4 with toks := s4.toks + 1 }) (n := n) (r1.mono (by omega)) F4.G.K tv fun tv' s5 Y5 => ?_
    have F5 := (F4.tok (t := s4.toks + 1)).go Y5
    clear F4
    refine F5.st (env := envOf _ _ L _ _) fun s6 F6 Y6 => ?_
    clear F5
    have Y46 : Ex [L] s4 s6 := ((Ex.tok _).of0 Y5).of0 Y6
    have c6 := Y46.get c4 hix.tab (by simpa using nxL) (by simp)
    have c6d := Y46.get c4d hidx.tab (by simpa using ndxL) (by simp)
    have tg6 : TagsAt s6.heap x dx (p :: row) := ⟨_, ⟨_, c6⟩, .cons (hp.ex F6.X) (ax.imp fun _ _ z => z.ex F6.X), c6d⟩
    repeat walk_at "m go"
    obtain ⟨ts, hl6, ht6⟩ := tg6.lst
    refine ⟨F6.G.K, has_valid_call (n := n + 3) (r1.mono (by omega)) F6.G hl6 ht6 hix fun s7 Y7 => ?_⟩
    rw [hv]
    have F7 := F6.go Y7
    clear F6
    refine wpAny_truthy_bool ?_
    rw [if_pos rfl]
    repeat walk_at "m go"
    refine wpAny_Assign_Subscript ?_
    repeat walk_at "m go"
    have t7 := t.ex0 F7.X
    refine t7.data F7.G.K ?_
    repeat walk_at "m go"
    refine dict_set (s := { s7 with toks := s7.toks + 1 }) t7.dict t7.hd (by have := t7.len; omega) fun s8 Y8 hd8 => ?_
    have Y78 : Ex [d] s7 s8 := (Ex.tok _).of0 Y8
    have nxd : x ≠ d := fun e => by
      obtain ⟨o, _, _, z, _⟩ := t.dict
      rw [← e, fx0] at z; cases z
    have ndxd : dx ≠ d := fun e => by
      obtain ⟨o, _, _, z, _⟩ := t.dict
      rw [← e, fdx0] at z; cases z
    have tg8 : TagsAt s8.heap x dx (p :: row) := (tg6.ex Y7 hix hidx (by simp) (by simp)).ex Y78 hix hidx (by simpa using nxd) (by simpa using ndxd)
    repeat walk_at "m go"
    exact h s8 x dx (F7.X.of0 Y78) fx0 fdx0 tg8 ⟨t7.inst.ex Y78 t.hT t.hdd (by simpa using t.neT) (by simpa using t.ne), hd8, t.hT, t.hdd, t.hd, t.ne, stored_len _ _ _ hk⟩
end Mine

namespace Mine
variable {w : World} {mg mb : Str → Option Value}
variable {s : Shared} {Q : Value → Shared → Prop} {E : Value → Shared → Prop} {A : Around} {n : Nat}

local macro_rules | `(tactic| walk_at "m go") => `(tactic| first
  | with_reducible refine wpAny_execs_cons ?_
  | with_reducible refine wpAny_Return_some ?_
  | with_reducible refine wpAny_Call_NameR ?_
  | with_reducible refine wpAny_items_cons ?_ (by with_unfolding_all rfl)
  | with_reducible refine wpAny_items_nil ?_
  | with_reducible refine Attribute_name ?_
  | with_reducible refine wpAny_Compare1 ?_ (by with_unfolding_all rfl)
  | with_reducible refine wpAny_isTrue_Compare1 ?_ (by with_unfolding_all rfl)
  | with_reducible refine wpAny_isTrue_Not ?_
  | with_reducible refine wpAny_isTrue_BoolOp ?_
  | with_reducible refine wpAny_allTrue_And_cons ?_
  | with_reducible refine wpAny_allTrue_And_nil ?_
  | with_reducible refine wpAny_allTrue_Or_cons ?_
  | with_reducible refine wpAny_allTrue_Or_nil ?_
  | with_reducible refine wpAny_If ?_
  | with_reducible refine wpAny_truthy_bool ?_
  | with_reducible refine wpAny_execs_nil ?_
  | ((with_reducible show wpAny _ _ (PySem.isTrue (.Call _ _ _ _) _ _) _ _ _); refine wpAny_isTrue_value ?_ (by rfl))
  | ((with_reducible show wpAny _ _ (PySem.isTrue (.Name _ _) _ _) _ _ _); refine wpAny_isTrue_value ?_ (by rfl))
  | with_reducible refine wpAny_Assign_Name ?_ (by with_unfolding_all rfl)
  | with_reducible refine wpAny_Constant_int ?_
  | with_reducible refine wpAny_Constant_str ?_
  | with_reducible refine wpAny_Constant_bool ?_
  | with_reducible refine wpAny_Constant_none ?_
  | ((with_reducible show wpAny _ _ (eval (.Name _ _) _) _ _ _); first
    | refine Fm.ldL ‹Fm _ _ _ _ _ _ _ _› (by rfl) ?_
    | refine Fm.ldL ‹Fm _ _ _ _ _ _ _ _› (by assumption) ?_
    | refine Fm.ldG ‹Fm _ _ _ _ _ _ _ _› (by rfl) ?_
    | (refine Fm.ldB (v := .builtin _) ‹Fm _ _ _ _ _ _ _ _› (by rfl) (by rfl) ?_; dsimp only)
    | (refine Fm.ldB (v := .type _) ‹Fm _ _ _ _ _ _ _ _› (by rfl) (by rfl) ?_; dsimp only))
  | ((with_reducible show wpAny _ _ (callWith _ (.builtin _) _ _ _) _ _ _); refine PyProof.Rows.callWith_builtin1 ?_ (by with_unfolding_all rfl) (by with_unfolding_all rfl))
  | ((with_reducible show wpAny _ _ (callWith _ (.type _) _ _ _) _ _ _); refine callWith_type (by with_unfolding_all rfl) (evalArgs_plain ?_))
  | ((with_reducible show wpAny _ _ (callWith _ (.ref _) _ _ _) _ _ _); refine callWith_K (Fm.G ‹Fm _ _ _ _ _ _ _ _›).K (by rfl) ?_))

abbrev excO (t : Addr) : Obj := { cls := .ref 147, data := .fields #[.ref t, .none, .none, .none, .bool false, .none] }
local macro_rules | `(tactic| x_close) => `(tactic| (rename Kt _ => k9; rename Mem _ _ _ _ => D9; exact k9.out _ _ _ rfl (ex_mem D9) (mem_none D9 (i := 1) rfl) (mem_at D9 1 rfl rfl)))
theorem exc_new0 {k : Str} {tk : Tok} (K : (Kf w.params).In s.heap) (h : ∀ x a s', s'.gens = s.gens → Ex [] s s' → s.heap.get? x = none → s'.heap.get? x = some (excO a) → Q (.ref x) s') :
    wpAny (model pw w) AL (call (.ref 147) [.str k tk]) Q E s := by
  obtain ⟨h0, g, d, t, os⟩ := s
  have hk := Kt.mk h
  dsimp only at K hk ⊢
  x_run
theorem raise_user {x : Expr} {pos : Pos} {env : Env} {Q : Flow → Shared → Prop} (hh : A.handled = none)
    (h : wpAny (model pw w) A (eval x env) (fun v s₁ => ∃ e t, v = .ref e ∧ (Kf w.params).In s₁.heap ∧ s₁.heap.get? e = some (excO t) ∧ E (.ref e) s₁) E s) : wpAny (model pw w) A (exec (.Raise (some x) none pos) env) Q E s := by
  rw [arm_exec_Raise]
  simp only [evalOpt, Option.map]
  refine wpAny_bind (wpAny_standAt ?_)
  unfold raiseStmt
  dsimp only
  refine wpAny_bind (wpAny_bind (wpAny_mono h (fun v s₁ h₁ => wpAny_bind (wpAny_standAt (wpAny_pure ?_))) fun _ _ z => z))
  obtain ⟨e, t, rfl, X, he, hE⟩ := h₁
  have to : Looks (model pw w) s₁.heap (typeOf (.ref e)) (.ref 147) := (Looks.ld he).andThen .now
  have ib : Looks (model pw w) s₁.heap (isInstance (.ref e) (.type "BaseException")) true := to.andThen (looks_mroIn X (by rfl))
  have it : Looks (model pw w) s₁.heap (isInstance (.ref e) (.type "type")) false := to.andThen (looks_mroIn X (by rfl))
  obtain ⟨hp, g, d, tk, os⟩ := s₁
  dsimp only at X he to ib it
  have hC : hp.get? 147 = some _ := X 147 _ (by rfl)
  repeat lk
  refine wpAny_handled ?_
  rw [hh]
  exact wpAny_throw hE
end Mine

namespace Mine
variable {w : World} {mg mb : Str → Option Value}
variable {s : Shared} {Q : Value → Shared → Prop} {E : Value → Shared → Prop} {A : Around} {n : Nat}

local macro_rules | `(tactic| walk_at "m go") => `(tactic| first
  | with_reducible refine wpAny_execs_cons ?_
  | with_reducible refine wpAny_Return_some ?_
  | with_reducible refine wpAny_Call_NameR ?_
  | with_reducible refine wpAny_items_cons ?_ (by with_unfolding_all rfl)
  | with_reducible refine wpAny_items_nil ?_
  | with_reducible refine Attribute_name ?_
  | with_reducible refine wpAny_Compare1 ?_ (by with_unfolding_all rfl)
  | with_reducible refine wpAny_isTrue_Compare1 ?_ (by with_unfolding_all rfl)
  | with_reducible refine wpAny_isTrue_Not ?_
  | with_reducible refine wpAny_isTrue_BoolOp ?_
  | with_reducible refine wpAny_allTrue_And_cons ?_
  | with_reducible refine wpAny_allTrue_And_nil ?_
  | with_reducible refine wpAny_allTrue_Or_cons ?_
  | with_reducible refine wpAny_allTrue_Or_nil ?_
  | with_reducible refine wpAny_If ?_
  | with_reducible refine wpAny_truthy_bool ?_
  | with_reducible refine wpAny_execs_nil ?_
  | ((with_reducible show wpAny _ _ (PySem.isTrue (.Call _ _ _ _) _ _) _ _ _); refine wpAny_isTrue_value ?_ (by rfl))
  | ((with_reducible show wpAny _ _ (PySem.isTrue (.Name _ _) _ _) _ _ _); refine wpAny_isTrue_value ?_ (by rfl))
  | with_reducible refine wpAny_Assign_Name ?_ (by with_unfolding_all rfl)
  | with_reducible refine wpAny_Constant_int ?_
  | with_reducible refine wpAny_Constant_str ?_
  | with_reducible refine wpAny_Constant_bool ?_
  | with_reducible refine wpAny_Constant_none ?_
  | ((with_reducible show wpAny _ _ (eval (.Name _ _) _) _ _ _); first
    | refine Fm.ldL ‹Fm _ _ _ _ _ _ _ _› (by rfl) ?_
    | refine Fm.ldL ‹Fm _ _ _ _ _ _ _ _› (by assumption) ?_
    | refine Fm.ldG ‹Fm _ _ _ _ _ _ _ _› (by rfl) ?_
    | (refine Fm.ldB (v := .builtin _) ‹Fm _ _ _ _ _ _ _ _› (by rfl) (by rfl) ?_; dsimp only)
    | (refine Fm.ldB (v := .type _) ‹Fm _ _ _ _ _ _ _ _› (by rfl) (by rfl) ?_; dsimp only))
  | ((with_reducible show wpAny _ _ (callWith _ (.builtin _) _ _ _) _ _ _); refine PyProof.Rows.callWith_builtin1 ?_ (by with_unfolding_all rfl) (by with_unfolding_all rfl))
  | ((with_reducible show wpAny _ _ (callWith _ (.type _) _ _ _) _ _ _); refine callWith_type (by with_unfolding_all rfl) (evalArgs_plain ?_))
  | ((with_reducible show wpAny _ _ (callWith _ (.ref _) _ _ _) _ _ _); refine callWith_K (Fm.G ‹Fm _ _ _ _ _ _ _ _›).K (by rfl) ?_))

/-- the frames that a call runs in -/
def FunFr (h : Heap) (l : List Env) : Prop := ∀ env ∈ l, env.scope.kind ≠ .module ∧ ∃ L o es ep, env.frame = some L ∧ h.get? L = some o ∧ o.data = .dict es ep ∧ Hi L
abbrev frs (l : List Env) : List Addr := l.filterMap (·.frame)
theorem FunFr.ex {W : List Addr} {s s' : Shared} {l : List Env} (Y : Ex W s s') (h : FunFr s.heap l) (hW : ∀ L ∈ frs l, L ∉ W) : FunFr s'.heap l := by
  intro env he
  obtain ⟨hk, L, o, es, ep, hf, ho, hd, hi⟩ := h env he
  obtain ⟨sl, e, _⟩ := Y.keep L o ho hi.tab (hW L (List.mem_filterMap.mpr ⟨env, he, hf⟩))
  exact ⟨hk, L, _, es, ep, hf, e, hd, hi⟩
theorem FunFr.cons {h : Heap} {l : List Env} {env : Env} {L : Addr} {m : Str → Option Value} (H : FunFr h l) (hk : env.scope.kind ≠ .module) (hf : env.frame = some L) (hn : h.Ns L m) (hi : Hi L) : FunFr h (env :: l) := by
  intro e he
  rcases List.mem_cons.mp he with rfl | he
  · obtain ⟨o, es, ep, ho, hd, _⟩ := hn
    exact ⟨hk, L, o, es, ep, hf, ho, hd, hi⟩
  · exact H e he
theorem FunFr.frames {h base : Heap} : ∀ {l : List Env}, FunFr h l → (∀ L ∈ frs l, base.get? L = none) → h.FunFrames base l
  | [], _, _ => trivial
  | env :: l, H, hb => by
    obtain ⟨hk, L, o, es, ep, hf, ho, hd, hi⟩ := H env (.head _)
    refine ⟨hk, ⟨L, o, hf, hb L (List.mem_filterMap.mpr ⟨env, .head _, hf⟩), ho, fun vs => by rw [hd]; simp⟩, FunFr.frames (fun e he => H e (.tail _ he)) fun L hL => hb L ?_⟩
    obtain ⟨e, he, hf'⟩ := List.mem_filterMap.mp hL
    exact List.mem_filterMap.mpr ⟨e, .tail _ he, hf'⟩

/-- behind the raise of the exception a at s_e, on its way through the frames out -/
structure Flown (s_e : Shared) (a : Addr) (as : List Addr) (out : List Env) (s' : Shared) : Prop where
  fly : Heap.Flying (hideAll s_e.heap (a :: as)) out a (.ref 147) s'.heap
  slots : ∀ L ∈ as, ∀ o, s_e.heap.get? L = some o → ∃ sl, s'.heap.get? L = some { o with slots := sl }
  gens : s'.gens = s_e.gens
  os : s'.os = s_e.os
  hi : Hi a
  exc : ∃ t, s_e.heap.get? a = some (excO t)
  dict : ∀ L ∈ as, Hi L ∧ ∃ o es ep, s_e.heap.get? L = some o ∧ o.data = .dict es ep
def Thrown (s : Shared) (out : List Env) (e : Value) (s' : Shared) : Prop := ∃ s_e a as, e = .ref a ∧ s.heap.get? a = none ∧ Ex [] s s_e ∧ (∀ L ∈ as, s.heap.get? L = none ∨ L ∈ frs out) ∧ (∀ L ∈ frs out, L ∈ as) ∧ Flown s_e a as out s'
theorem Flown.keep {s_e s' : Shared} {a : Addr} {as : List Addr} {out : List Env} (F : Flown s_e a as out s') {b : Addr} {o : Obj} (h : s_e.heap.get? b = some o) (h1 : b ≠ a) (h2 : b ∉ as) : s'.heap.get? b = some o :=
  F.fly.1 b o (hideAll_get _ h (by simp only [List.mem_cons, not_or]; exact ⟨h1, h2⟩))
theorem Flown.ex {s_e s' : Shared} {a : Addr} {as : List Addr} {out : List Env} (F : Flown s_e a as out s') : Ex (a :: as) s_e s' := by
  have lo : ∀ b ∈ a :: as, Hi b := fun b m => by
    rcases List.mem_cons.mp m with rfl | m
    · exact F.hi
    · exact (F.dict b m).1
  have up : ∀ b o, s_e.heap.get? b = some o → b ∉ a :: as → s'.heap.get? b = some o := fun b o e m => F.keep e (fun z => m (z ▸ .head _)) fun z => m (.tail _ z)
  refine ⟨fun b o e _ hb => ⟨o.slots, up b o e hb, fun _ => rfl⟩, fun b o e hi _ => up b o e fun m => ?_, fun b o e => ?_, lo, by rw [F.gens]; exact Nat.le_refl _, F.os, fun t => ?_, fun h => by rw [F.gens]; exact h⟩
  · rcases List.mem_cons.mp m with rfl | m
    · obtain ⟨t, he⟩ := F.exc
      rw [he] at e; cases e
      rcases hi with ⟨h, _⟩ | ⟨h, _⟩ <;> simp at h
    · obtain ⟨_, o', es, ep, e', hd⟩ := F.dict b m
      rw [e'] at e; cases e
      rcases hi with ⟨_, h⟩ | ⟨_, _, _, h⟩ <;> (rw [hd] at h; cases h)
  · by_cases m : b ∈ a :: as
    · rcases List.mem_cons.mp m with rfl | m
      · obtain ⟨ob, h, _⟩ := F.fly.there; exact ⟨ob, h⟩
      · obtain ⟨sl, h⟩ := F.slots b m o e; exact ⟨_, h⟩
    · exact ⟨o, up b o e m⟩
  · have tk : ∀ {c P}, TabOk s_e.heap c P → (∀ b ∈ a :: as, c ≠ b) → (∀ b ∈ a :: as, P ≠ b) → TabOk s'.heap c P := by
      rintro c P ⟨ps, ⟨o, vs, file, tf, flags, tg, inF, text, tt, op, a1, a2, a3, a4, a5, a6, a7, a8, a9⟩, ⟨⟨o', vs', b1, b2⟩, b3⟩⟩ hc hP
      exact ⟨ps, ⟨o, vs, file, tf, flags, tg, inF, text, tt, op, up _ _ a1 (fun m => hc _ m rfl), a2, a3, a4, a5, a6, a7, up _ _ a8 (fun m => hP _ m rfl), a9⟩, ⟨⟨o', vs', up _ _ b1 (fun m => hc _ m rfl), b2⟩, up _ _ b3 (fun m => hP _ m rfl)⟩⟩
    exact ⟨tk t.t1 (fun b m => (lo b m).ne (by decide)) (fun b m => (lo b m).ne (by decide)), tk t.t2 (fun b m => (lo b m).ne (by decide)) (fun b m => (lo b m).ne (by decide)), tk t.t3 (fun b m => (lo b m).ne (by decide)) (fun b m => (lo b m).ne (by decide))⟩

theorem leave_new {s0 s_e : Shared} {a t L : Addr} {env : Env} {out : List Env} {Q : Unit → Shared → Prop} (hA : A.frames = some (env :: out)) (hF : FunFr s_e.heap (env :: out)) (hf : env.frame = some L) (hL : s0.heap.get? L = none)
    (Y : Ex [] s0 s_e) (ha0 : s0.heap.get? a = none) (hia : Hi a) (he : s_e.heap.get? a = some (excO t)) (h : ∀ s', Thrown s0 out (.ref a) s' → Q () s') : wpAny (model pw w) A (leaving env (.ref a)) Q E s_e := by
  have hb : ∀ L ∈ frs (env :: out), (hideAll s_e.heap (a :: frs (env :: out))).get? L = none := fun L m => hideAll_none _ (.tail _ m)
  refine wpAny_leaving_first hA (hF.frames hb) hf he (fun b o e => of_hideAll _ e) (hideAll_none _ (.head _)) rfl rfl fun h' hl => ?_
  obtain ⟨k1, k2, k3, k4⟩ := hl
  refine h _ ⟨s_e, a, frs (env :: out), rfl, ha0, Y, fun L' m => ?_, fun L' m => ?_, ⟨⟨k1, hideAll_none _ (.head _), ?_, k3⟩, fun L' m o e => ?_, rfl, rfl, hia, ⟨t, he⟩, fun L' m => ?_⟩⟩
  · obtain ⟨e', he', hf'⟩ := List.mem_filterMap.mp m
    rcases List.mem_cons.mp he' with rfl | he'
    · rw [hf] at hf'; cases hf'; exact .inl hL
    · exact .inr (List.mem_filterMap.mpr ⟨e', he', hf'⟩)
  · obtain ⟨e', he', hf'⟩ := List.mem_filterMap.mp m
    exact List.mem_filterMap.mpr ⟨e', .tail _ he', hf'⟩
  · exact k2.2.2
  · obtain ⟨e', he', hf'⟩ := List.mem_filterMap.mp m
    obtain ⟨_, L2, o2, es, ep, hf2, ho2, hd2, _⟩ := hF e' he'
    rw [hf2] at hf'; cases hf'
    rw [ho2] at e; cases e
    exact k4 _ _ ho2 fun vs => by rw [hd2]; simp
  · obtain ⟨e', he', hf'⟩ := List.mem_filterMap.mp m
    obtain ⟨_, L2, o2, es, ep, hf2, ho2, hd2, hi2⟩ := hF e' he'
    rw [hf2] at hf'; cases hf'
    exact ⟨hi2, o2, es, ep, ho2, hd2⟩
theorem leave_on {s0 s1 s' : Shared} {L : Addr} {env : Env} {out : List Env} {e : Value} {Q : Unit → Shared → Prop} (hA : A.frames = some (env :: out)) (hf : env.frame = some L) (hL : s0.heap.get? L = none)
    (Y : Ex [] s0 s1) (t : Thrown s1 (env :: out) e s') (h : ∀ s'', Thrown s0 out e s'' → Q () s'') : wpAny (model pw w) A (leaving env e) Q E s' := by
  obtain ⟨s_e, a, as, rfl, ha, Y1, has, hin, F⟩ := t
  obtain ⟨f1, f2, f3, f4⟩ := F.fly
  refine wpAny_leaving_next hA f3 hf f4 f1 f2 fun h' hl => ?_
  obtain ⟨k1, k2, k3, k4⟩ := hl
  refine h _ ⟨s_e, a, as, rfl, Y.off ha, Y.then0 Y1, fun L' m => ?_, fun L' m => hin L' ?_, ⟨⟨k1, f2, k2.2.2, k3⟩, fun L' m o e => ?_, F.gens, F.os, F.hi, F.exc, F.dict⟩⟩
  · rcases has L' m with h | h
    · exact .inl (Y.off h)
    · obtain ⟨e', he', hf'⟩ := List.mem_filterMap.mp h
      rcases List.mem_cons.mp he' with rfl | he'
      · rw [hf] at hf'; cases hf'; exact .inl hL
      · exact .inr (List.mem_filterMap.mpr ⟨e', he', hf'⟩)
  · obtain ⟨e', he', hf'⟩ := List.mem_filterMap.mp m
    exact List.mem_filterMap.mpr ⟨e', .tail _ he', hf'⟩
  · obtain ⟨sl, e1⟩ := F.slots L' m o e
    obtain ⟨_, o', es, ep, e', hd⟩ := F.dict L' m
    have hd' : o.data = .dict es ep := by rw [e'] at e; cases e; exact hd
    obtain ⟨sl', e2⟩ := k4 _ _ e1 fun vs => by show o.data ≠ _; rw [hd']; simp
    exact ⟨sl', e2⟩

theorem call_fnE {f : Addr} {nm ql : Str} {S : Stmt} {dV pm cdv : Value} {an : Option Addr} {args : Args} {binds : List (Str × Value)} {R : Result → Shared → Prop} {out : List Env}
    (r : Rm (n + 1) A) (hA : A.frames = some out) (hF : FunFr s.heap out) (G : Gd w mg mb s)
    (ho : (Kf w.params).lookup f = some ⟨.type "function", none, .func (fnX nm ql (argsOf S) (bodyOf S) (scopeOf S) [] dV .none .none pm an cdv .none), #[]⟩)
    (hcd : codeIn (Kf w.params) cdv ql = true) (hb : BindsTo s (fnX nm ql (argsOf S) (bodyOf S) (scopeOf S) [] dV .none .none pm an cdv .none) args binds)
    (h : ∀ A' L s₁, Rm n A' → A'.frames = some (envOf ql (scopeOf S) L f cdv :: out) → FunFr s₁.heap (envOf ql (scopeOf S) L f cdv :: out) → Fm w mg mb s L (fun x => binds.reverse.lookup x) [] s₁ →
      wpAny (model pw w) A' (execs (bodyOf S) (envOf ql (scopeOf S) L f cdv)) (fun fl s' => R (.ok (.ret (retOf fl))) s')
        (fun e s' => wpAny (model pw w) A' (leaving (envOf ql (scopeOf S) L f cdv) e) (fun _ s'' => R (.error e) s'') (fun e' s'' => R (.error e') s'') s') s₁)
    (hcell : ((scopeOf S).names.all fun x => x.2 != .cell) = true := by rfl) (hloc : (binds.all fun x => (scopeOf S).names.lookup x.1 == some .local) = true := by rfl)
    (hsc : (scopeOf S).isCoroutine = false ∧ (scopeOf S).isGenerator = false ∧ (scopeOf S).kind = .function := by exact ⟨by rfl, by rfl, by rfl⟩) :
    codeAny (model pw w) A (.call (.ref f) args) R s := by
  have hd : A.depth < recursionLimit := by have := r.dp; show A.depth < 1000; omega
  refine codeAny_call_def hd (G.K f _ ho) rfl G.noLimit (G.codeRec hcd) rfl hb ?_ ?_ (fun h₀ hns hk => ?_) hsc.1 hsc.2.1 hsc.2.2
  · intro x hx e
    have := List.all_eq_true.mp hcell x hx
    rw [e] at this; cases this
  · intro x hx
    exact beq_iff_eq.mp (List.all_eq_true.mp hloc x hx)
  · have X : Ex [] s { s with heap := h₀, toks := s.toks + binds.length } := Ex.of_keep hk
    have FF : FunFr h₀ (envOf ql (scopeOf S) s.heap.objs.size f cdv :: out) := FunFr.cons (hF.ex X (by simp)) (by show (scopeOf S).kind ≠ _; rw [hsc.2.2]; simp) rfl hns (G.hi (get_size _))
    refine wpAny_mono (h _ _ _ r.deeper (Around.frames_deeper hA) FF ⟨G.ex X, hns, X, get_size _, G.hi (get_size _)⟩) (fun fl s' z => ?_) fun _ _ z => z
    cases fl <;> exact z
end Mine

namespace Mine
variable {w : World} {mg mb : Str → Option Value}
variable {s : Shared} {Q : Value → Shared → Prop} {E : Value → Shared → Prop} {A : Around} {n : Nat}

local macro_rules | `(tactic| walk_at "m go") => `(tactic| first
  | with_reducible refine wpAny_execs_cons ?_
  | with_reducible refine wpAny_Return_some ?_
  | with_reducible refine wpAny_Call_NameR ?_
  | with_reducible refine wpAny_items_cons ?_ (by with_unfolding_all rfl)
  | with_reducible refine wpAny_items_nil ?_
  | with_reducible refine Attribute_name ?_
  | with_reducible refine wpAny_Compare1 ?_ (by with_unfolding_all rfl)
  | with_reducible refine wpAny_isTrue_Compare1 ?_ (by with_unfolding_all rfl)
  | with_reducible refine wpAny_isTrue_Not ?_
  | with_reducible refine wpAny_isTrue_BoolOp ?_
  | with_reducible refine wpAny_allTrue_And_cons ?_
  | with_reducible refine wpAny_allTrue_And_nil ?_
  | with_reducible refine wpAny_allTrue_Or_cons ?_
  | with_reducible refine wpAny_allTrue_Or_nil ?_
  | with_reducible refine wpAny_If ?_
  | with_reducible refine wpAny_truthy_bool ?_
  | with_reducible refine wpAny_execs_nil ?_
  | ((with_reducible show wpAny _ _ (PySem.isTrue (.Call _ _ _ _) _ _) _ _ _); refine wpAny_isTrue_value ?_ (by rfl))
  | ((with_reducible show wpAny _ _ (PySem.isTrue (.Name _ _) _ _) _ _ _); refine wpAny_isTrue_value ?_ (by rfl))
  | with_reducible refine wpAny_Assign_Name ?_ (by with_unfolding_all rfl)
  | with_reducible refine wpAny_Constant_int ?_
  | with_reducible refine wpAny_Constant_str ?_
  | with_reducible refine wpAny_Constant_bool ?_
  | with_reducible refine wpAny_Constant_none ?_
  | ((with_reducible show wpAny _ _ (eval (.Name _ _) _) _ _ _); first
    | refine Fm.ldL ‹Fm _ _ _ _ _ _ _ _› (by rfl) ?_
    | refine Fm.ldL ‹Fm _ _ _ _ _ _ _ _› (by assumption) ?_
    | refine Fm.ldG ‹Fm _ _ _ _ _ _ _ _› (by rfl) ?_
    | (refine Fm.ldB (v := .builtin _) ‹Fm _ _ _ _ _ _ _ _› (by rfl) (by rfl) ?_; dsimp only)
    | (refine Fm.ldB (v := .type _) ‹Fm _ _ _ _ _ _ _ _› (by rfl) (by rfl) ?_; dsimp only))
  | ((with_reducible show wpAny _ _ (callWith _ (.builtin _) _ _ _) _ _ _); refine PyProof.Rows.callWith_builtin1 ?_ (by with_unfolding_all rfl) (by with_unfolding_all rfl))
  | ((with_reducible show wpAny _ _ (callWith _ (.type _) _ _ _) _ _ _); refine callWith_type (by with_unfolding_all rfl) (evalArgs_plain ?_))
  | ((with_reducible show wpAny _ _ (callWith _ (.ref _) _ _ _) _ _ _); refine callWith_K (Fm.G ‹Fm _ _ _ _ _ _ _ _›).K (by rfl) ?_))

theorem x_get_bad {T dd d : Addr} {kvs : List (Str × Value)} {k : Str} {tk : Tok} {out : List Env} (r : Rm (n + 3) A) (hA : A.frames = some out) (hF : FunFr s.heap out) (G : Gd w mg mb s) (t : Told w s.heap T dd d kvs) (hv : valueAt kvs k = none)
    (hE : ∀ e s', Thrown s out e s' → E e s') : wpAny (model pw w) A (call (.ref 406) [.ref T, .str k tk]) Q E s := by
  refine wpAny_call (call_fnE (n := n + 2) (binds := [("self", .ref T), ("appid", .str k tk)]) r hA hF G (f := 406) (by rfl) (by rfl) (BindsTo.of_eq (by rfl)) fun A' L s1 r1 hA1 hF1 F => ?_)
  refine wpAny_execs_cons ?_
  repeat walk_at "m go"
  have t1 := t.ex0 F.X
  refine t1.data F.G.K ?_
  repeat walk_at "m go"
  refine wpAny_in_of (s := { s1 with toks := s1.toks + 1 }) skey t1.sys t1.dict.mapOf ?_
  rw [hv]
  refine wpAny_truthy_bool ?_
  dsimp only [Option.isSome]
  rw [if_neg (by simp)]
  repeat walk_at "m go"
  refine raise_user r1.hh ?_
  repeat walk_at "m go"
  refine ⟨F.G.K, Rm.leaf (r1.mono (by omega : 1 ≤ n + 2)) (exc_new0 (s := { s1 with toks := s1.toks + 1 + 1 }) F.G.K fun x a s2 ge Y2 fx ex => ⟨x, a, rfl, ?_, ex, ?_⟩)⟩
  · exact ((F.tok (t := s1.toks + 1 + 1)).go Y2).G.K
  · have Y12 : Ex [] s1 s2 := (Ex.tok _).of0 Y2
    have F2 := F.go Y12
    refine leave_new hA1 (hF1.ex Y12 (by simp)) rfl F.f F2.X (F.new fx) (F.G.hi fx) ex fun s' th => hE _ _ th
end Mine

namespace Mine
variable {w : World} {mg mb : Str → Option Value}
variable {s : Shared} {Q : Value → Shared → Prop} {E : Value → Shared → Prop} {A : Around} {n : Nat}

local macro_rules | `(tactic| walk_at "m go") => `(tactic| first
  | with_reducible refine wpAny_execs_cons ?_
  | with_reducible refine wpAny_Return_some ?_
  | with_reducible refine wpAny_Call_NameR ?_
  | with_reducible refine wpAny_items_cons ?_ (by with_unfolding_all rfl)
  | with_reducible refine wpAny_items_nil ?_
  | with_reducible refine Attribute_name ?_
  | with_reducible refine wpAny_Compare1 ?_ (by with_unfolding_all rfl)
  | with_reducible refine wpAny_isTrue_Compare1 ?_ (by with_unfolding_all rfl)
  | with_reducible refine wpAny_isTrue_Not ?_
  | with_reducible refine wpAny_isTrue_BoolOp ?_
  | with_reducible refine wpAny_allTrue_And_cons ?_
  | with_reducible refine wpAny_allTrue_And_nil ?_
  | with_reducible refine wpAny_allTrue_Or_cons ?_
  | with_reducible refine wpAny_allTrue_Or_nil ?_
  | with_reducible refine wpAny_If ?_
  | with_reducible refine wpAny_truthy_bool ?_
  | with_reducible refine wpAny_execs_nil ?_
  | ((with_reducible show wpAny _ _ (PySem.isTrue (.Call _ _ _ _) _ _) _ _ _); refine wpAny_isTrue_value ?_ (by rfl))
  | ((with_reducible show wpAny _ _ (PySem.isTrue (.Name _ _) _ _) _ _ _); refine wpAny_isTrue_value ?_ (by rfl))
  | with_reducible refine wpAny_Assign_Name ?_ (by with_unfolding_all rfl)
  | with_reducible refine wpAny_Constant_int ?_
  | with_reducible refine wpAny_Constant_str ?_
  | with_reducible refine wpAny_Constant_bool ?_
  | with_reducible refine wpAny_Constant_none ?_
  | ((with_reducible show wpAny _ _ (eval (.Name _ _) _) _ _ _); first
    | refine Fm.ldL ‹Fm _ _ _ _ _ _ _ _› (by rfl) ?_
    | refine Fm.ldL ‹Fm _ _ _ _ _ _ _ _› (by assumption) ?_
    | refine Fm.ldG ‹Fm _ _ _ _ _ _ _ _› (by rfl) ?_
    | (refine Fm.ldB (v := .builtin _) ‹Fm _ _ _ _ _ _ _ _› (by rfl) (by rfl) ?_; dsimp only)
    | (refine Fm.ldB (v := .type _) ‹Fm _ _ _ _ _ _ _ _› (by rfl) (by rfl) ?_; dsimp only))
  | ((with_reducible show wpAny _ _ (callWith _ (.builtin _) _ _ _) _ _ _); refine PyProof.Rows.callWith_builtin1 ?_ (by with_unfolding_all rfl) (by with_unfolding_all rfl))
  | ((with_reducible show wpAny _ _ (callWith _ (.type _) _ _ _) _ _ _); refine callWith_type (by with_unfolding_all rfl) (evalArgs_plain ?_))
  | ((with_reducible show wpAny _ _ (callWith _ (.ref _) _ _ _) _ _ _); refine callWith_K (Fm.G ‹Fm _ _ _ _ _ _ _ _›).K (by rfl) ?_))

/-- the exception is met by a try: its trace grows by the frame, the flight ends -/
theorem looks_on {base : Heap} {env : Env} {outer : List Env} {L e : Addr} {cls : Value} {Q : Unit → Shared → Prop}
    (hfr : A.frames = some (env :: outer)) (hl : s.heap.FunFrames base (env :: outer)) (hf : env.frame = some L) (ht : s.heap.Traced base e cls) (hkb : base.StaysIn s.heap) (hen : base.get? e = none)
    (h : ∀ h', Heap.Left base (env :: outer) e cls s.heap h' → Q () { s with heap := h' }) :
    wpAny (model pw w) A (noteFrame (.ref e) env) (fun _ s' => wpAny (model pw w) A (setFlight (.ref e) none) Q E s') E s := by
  obtain ⟨oe, vs, T, oT, ts, he, hcls, hd, h1, hnT, hTe, hT, hdT, h3⟩ := ht
  subst hcls
  unfold noteFrame
  simp only [hf]
  refine wpAny_bind (wpAny_field he hd h1 ?_)
  rw [if_pos (show (Value.ref T != Value.none) = true from by simp)]
  refine wpAny_bind (wpAny_field hT hdT h3 ?_)
  rw [if_neg (show ¬ ((Value.none == rawInt L) = true) from by simp [rawInt])]
  refine wpAny_bind (wpAny_setField hT hdT (Array.getElem?_eq_some_iff.mp h3).1 ?_)
  have other : ∀ b, b ≠ T → (s.heap.update T (Obj.mapFields (·.setIfInBounds 3 Value.none))).get? b = s.heap.get? b := fun b hb => Heap.get?_update_other _ _ (Ne.symm hb)
  have noRecord : ∀ b o, s.heap.get? b = some o → (∀ vs, o.data ≠ .fields vs) → b ≠ T := fun b o hb hnf q => by
    rw [q, hT] at hb; injection hb with hb; subst hb; exact hnf ts hdT
  refine wpAny_newEntry hfr (hl.of_keeps fun b o hb hnf => ⟨o, (other b (noRecord b o hb hnf)).trans hb, rfl⟩) hf ((other e (Ne.symm hTe)).trans he)
    (fun b o hbo => (other b fun q => by rw [q, hnT] at hbo; cases hbo).trans (hkb b o hbo)) hen hd (Array.getElem?_eq_some_iff.mp h1).1
    fun h' ⟨x1, x2, x3, x4⟩ => h h' ⟨x1, x2, x3, fun b o hb hnf => x4 b o ((other b (noRecord b o hb hnf)).trans hb) hnf⟩

/-- what was there is kept but for the frames, whose slots may have turned -/
structure Kept (out : List Env) (s s' : Shared) : Prop where
  ex : ∃ W, Ex W s s' ∧ ∀ b ∈ W, s.heap.get? b = none ∨ b ∈ frs out
  slots : ∀ L ∈ frs out, tabA L = false → ∀ o, s.heap.get? L = some o → ∃ sl, s'.heap.get? L = some { o with slots := sl }
theorem Ns.slots {h h' : Heap} {L : Addr} {m : Str → Option Value} (N : h.Ns L m) (hs : ∀ o, h.get? L = some o → ∃ sl, h'.get? L = some { o with slots := sl }) : h'.Ns L m := by
  obtain ⟨o, es, ep, ho, hd, r⟩ := N
  obtain ⟨sl, e⟩ := hs o ho
  exact ⟨_, es, ep, e, hd, r⟩

theorem excMatch {c : Addr} (X : (Kf w.params).In s.heap) (he : ∃ o, s.heap.get? c = some o ∧ o.cls = .ref 147) {Q : Bool → Shared → Prop} (h : Q true s) : wpAny (model pw w) A (excMatches (.ref c) (.ref 147)) Q E s := by
  obtain ⟨⟨c0, d0, dt0, sl0⟩, e, hc⟩ := he
  dsimp only at hc; subst hc
  have to : Looks (model pw w) s.heap (typeOf (.ref c)) (.ref 147) := (Looks.ld e).andThen .now
  have i1 : Looks (model pw w) s.heap (isInstance (.ref 147) (.type "tuple")) false := looks_instIn X (by rfl)
  have i2 : Looks (model pw w) s.heap (isInstance (.ref 147) (.type "type")) true := looks_instIn X (by rfl)
  have s1 : Looks (model pw w) s.heap (isSubtype (.ref 147) (.type "BaseException")) true := looks_mroIn X (by rfl)
  have s2 : Looks (model pw w) s.heap (isSubtype (.ref 147) (.ref 147)) true := looks_mroIn X (by rfl)
  obtain ⟨h0, g, d, tk, os⟩ := s
  dsimp only at X e to i1 i2 s1 s2
  have hC : h0.get? 147 = some _ := X 147 _ (by rfl)
  unfold excMatches
  repeat lk
  exact h

theorem Thrown.kept {s s' : Shared} {out : List Env} {e : Value} (t : Thrown s out e s') : Kept out s s' := by
  obtain ⟨s_e, a, as, rfl, ha, Y, has, hin, F⟩ := t
  refine ⟨⟨a :: as, Y.of0 F.ex, fun b m => ?_⟩, fun L hL ht o ho => ?_⟩
  · rcases List.mem_cons.mp m with rfl | m
    · exact .inl ha
    · exact has b m
  · obtain ⟨sl, e, _⟩ := Y.keep L o ho ht (by simp)
    obtain ⟨sl', e'⟩ := F.slots L (hin L hL) _ e
    exact ⟨sl', e'⟩
/-- a try meets it by its one clause -/
theorem caught {s1 : Shared} {L : Addr} {env : Env} {out : List Env} {e : Value} {x : Str} {np pos : Pos} {b₀ : Stmt} {suite : List Stmt} {rest : List ExceptHandler} {Q : Flow → Shared → Prop} {s' : Shared}
    (hA : A.frames = some (env :: out)) (hf : env.frame = some L) (t : Thrown s1 (env :: out) e s') (G1 : Gd w mg mb s1)
    (hx : ∀ {A Q E} {s2 : Shared}, (Gd w mg mb s2) → Q (.ref 147) s2 → wpAny (model pw w) A (eval (.Name x np) env) Q E s2)
    (h : ∀ s'', Kept (env :: out) s1 s'' → wpAny (model pw w) (A.mark (some e)) (execs (b₀ :: suite) env) Q (fun _ _ => False) s'') :
    wpAny (model pw w) A (noteFrame e env) (fun _ s₂ => wpAny (model pw w) A (setFlight e none) (fun _ s₃ => wpAny (model pw w) A (handleBy e env (.ExceptHandler (some (.Name x np)) none (b₀ :: suite) pos :: rest)) Q E s₃) E s₂) E s' := by
  obtain ⟨s_e, a, as, rfl, ha, Y1, has, hin, F⟩ := t
  obtain ⟨f1, f2, f3, f4⟩ := F.fly
  refine looks_on hA f3 hf f4 f1 f2 fun h' hl => ?_
  obtain ⟨k1, k2, k3, k4⟩ := hl
  have F' : Flown s_e a as (env :: out) { s' with heap := h' } := by
    refine ⟨⟨k1, f2, k2, k3⟩, fun L' m o e => ?_, F.gens, F.os, F.hi, F.exc, F.dict⟩
    obtain ⟨sl, e1⟩ := F.slots L' m o e
    obtain ⟨_, o', es, ep, e', hd⟩ := F.dict L' m
    have hd' : o.data = .dict es ep := by rw [e'] at e; cases e; exact hd
    obtain ⟨sl', e2⟩ := k4 _ _ e1 fun vs => by show o.data ≠ _; rw [hd']; simp
    exact ⟨sl', e2⟩
  have K1 : Kept (env :: out) s1 { s' with heap := h' } := Thrown.kept ⟨s_e, a, as, rfl, ha, Y1, has, hin, F'⟩
  obtain ⟨W, YW, _⟩ := K1.ex
  have G' := G1.ex YW
  refine wpAny_handleBy_cons (codeAny_handlers_test (hx G' ?_)) (by intro q; cases q)
  obtain ⟨oe, vs, T, oT, ts, he, hcls, hd, h1, hnT, hTe, hT, hdT, h3⟩ := k3
  refine excMatch G'.K ⟨oe, he, hcls⟩ ?_
  refine codeAny_handlers_suite ?_
  have hsz : 3 < ts.size := (Array.getElem?_eq_some_iff.mp h3).1
  refine wpAny_setFlight_none he hd h1 hT hdT hsz ?_
  refine wpAny_mono (h _ ?_) (fun fl s2 z => z) fun _ _ z => z.elim
  -- the trace's last entry alone is turned: it is new
  have tn : s_e.heap.get? T = none := by
    cases q : s_e.heap.get? T with
    | none => rfl
    | some o =>
      exfalso
      have : T ∈ a :: as := by
        by_cases m : T ∈ a :: as
        · exact m
        · rw [hideAll_get _ q m] at hnT; cases hnT
      rcases List.mem_cons.mp this with rfl | m
      · exact hTe rfl
      · obtain ⟨_, o', es, ep, e', hd'⟩ := F.dict T m
        obtain ⟨sl, e2⟩ := F'.slots T m _ e'
        rw [hT] at e2
        cases e2
        rw [hd'] at hdT; cases hdT
  have hiT : Hi T := (G1.ex Y1).hi tn
  have tn1 : s1.heap.get? T = none := Y1.off tn
  have hTs := Heap.get?_update_self (Obj.mapFields (·.setIfInBounds 3 Value.none)) hT (Obj.isFreed_of_fields (Obj.data_mapFields hdT _))
  have YT : Ex [T] { s' with heap := h' } { s' with heap := h'.update T (Obj.mapFields (·.setIfInBounds 3 .none)), toks := s'.toks } :=
    Ex.turn hT (by rintro (⟨_, h⟩ | ⟨_, _, _, h⟩) <;> (rw [hdT] at h; cases h)) hiT (Heap.SameBut.update ..) ⟨_, hTs⟩
  obtain ⟨⟨W, YW, hW⟩, sl1⟩ := K1
  refine ⟨⟨W ++ [T], YW.trans YT, fun b m => ?_⟩, fun L' m ht o ho => ?_⟩
  · rcases List.mem_append.mp m with m | m
    · exact hW b m
    · rw [List.mem_singleton.mp m]; exact .inl tn1
  · obtain ⟨sl, e1⟩ := sl1 L' m ht o ho
    refine ⟨sl, (Heap.get?_update_other _ _ ?_).trans e1⟩
    rintro rfl
    rw [ho] at tn1; cases tn1
end Mine

namespace Mine
variable {w : World} {mg mb : Str → Option Value}
variable {s : Shared} {Q : Value → Shared → Prop} {E : Value → Shared → Prop} {A : Around} {n : Nat}

local macro_rules | `(tactic| walk_at "m go") => `(tactic| first
  | with_reducible refine wpAny_execs_cons ?_
  | with_reducible refine wpAny_Return_some ?_
  | with_reducible refine wpAny_Call_NameR ?_
  | with_reducible refine wpAny_items_cons ?_ (by with_unfolding_all rfl)
  | with_reducible refine wpAny_items_nil ?_
  | with_reducible refine Attribute_name ?_
  | with_reducible refine wpAny_Compare1 ?_ (by with_unfolding_all rfl)
  | with_reducible refine wpAny_isTrue_Compare1 ?_ (by with_unfolding_all rfl)
  | with_reducible refine wpAny_isTrue_Not ?_
  | with_reducible refine wpAny_isTrue_BoolOp ?_
  | with_reducible refine wpAny_allTrue_And_cons ?_
  | with_reducible refine wpAny_allTrue_And_nil ?_
  | with_reducible refine wpAny_allTrue_Or_cons ?_
  | with_reducible refine wpAny_allTrue_Or_nil ?_
  | with_reducible refine wpAny_If ?_
  | with_reducible refine wpAny_Expr_any ?_
  | ((with_reducible show wpAny _ _ (eval (.Call (.Attribute _ _ _) _ [] _) _) _ _ _); refine MethodCall_ ?_ (by rfl))
  | with_reducible refine wpAny_truthy_bool ?_
  | with_reducible refine wpAny_execs_nil ?_
  | ((with_reducible show wpAny _ _ (PySem.isTrue (.Call _ _ _ _) _ _) _ _ _); refine wpAny_isTrue_value ?_ (by rfl))
  | ((with_reducible show wpAny _ _ (PySem.isTrue (.Name _ _) _ _) _ _ _); refine wpAny_isTrue_value ?_ (by rfl))
  | with_reducible refine wpAny_Assign_Name ?_ (by with_unfolding_all rfl)
  | with_reducible refine wpAny_Constant_int ?_
  | with_reducible refine wpAny_Constant_str ?_
  | with_reducible refine wpAny_Constant_bool ?_
  | with_reducible refine wpAny_Constant_none ?_
  | ((with_reducible show wpAny _ _ (eval (.Name _ _) _) _ _ _); first
    | refine Fm.ldL ‹Fm _ _ _ _ _ _ _ _› (by rfl) ?_
    | refine Fm.ldL ‹Fm _ _ _ _ _ _ _ _› (by assumption) ?_
    | refine Fm.ldG ‹Fm _ _ _ _ _ _ _ _› (by rfl) ?_
    | (refine Fm.ldB (v := .builtin _) ‹Fm _ _ _ _ _ _ _ _› (by rfl) (by rfl) ?_; dsimp only)
    | (refine Fm.ldB (v := .type _) ‹Fm _ _ _ _ _ _ _ _› (by rfl) (by rfl) ?_; dsimp only))
  | ((with_reducible show wpAny _ _ (callWith _ (.builtin _) _ _ _) _ _ _); refine PyProof.Rows.callWith_builtin1 ?_ (by with_unfolding_all rfl) (by with_unfolding_all rfl))
  | ((with_reducible show wpAny _ _ (callWith _ (.type _) _ _ _) _ _ _); refine callWith_type (by with_unfolding_all rfl) (evalArgs_plain ?_))
  | ((with_reducible show wpAny _ _ (callWith _ (.ref _) _ _ _) _ _ _); refine callWith_K (Fm.G ‹Fm _ _ _ _ _ _ _ _›).K (by rfl) ?_))

/-- room alone, whatever is handled -/
structure Ro (n : Nat) (A : Around) : Prop where
  dp : A.depth + n ≤ 900
  un : A.units + 60 * n ≤ 9000
theorem Rm.ro (r : Rm n A) : Ro n A := ⟨r.dp, r.un⟩
theorem Ro.mark {h : Option Value} (r : Ro n A) : Ro n (A.mark h) := ⟨r.dp, r.un⟩
theorem Ro.mono {m : Nat} (r : Ro n A) (h : m ≤ n) : Ro m A := ⟨by have := r.dp; omega, by have := r.un; omega⟩
theorem Ro.in1 (r : Ro (n + 1) A) : Ro n A.in1 := ⟨by have := r.dp; show A.depth + n ≤ 900; omega, by have := r.un; show A.units + 1 + 60 * n ≤ 9000; omega⟩
theorem Ro.deeper {env : Env} (r : Ro (n + 1) A) : Ro n (A.deeper env) := ⟨by have := r.dp; show A.depth + 1 + n ≤ 900; omega, by have := r.un; show A.units + 3 + 60 * n ≤ 9000; omega⟩
theorem call_fnR {f : Addr} {nm ql : Str} {S : Stmt} {dV pm cdv : Value} {an : Option Addr} {args : Args} {binds : List (Str × Value)} {R : Result → Shared → Prop}
    (r : Ro (n + 1) A) (G : Gd w mg mb s)
    (ho : (Kf w.params).lookup f = some ⟨.type "function", none, .func (fnX nm ql (argsOf S) (bodyOf S) (scopeOf S) [] dV .none .none pm an cdv .none), #[]⟩)
    (hcd : codeIn (Kf w.params) cdv ql = true) (hb : BindsTo s (fnX nm ql (argsOf S) (bodyOf S) (scopeOf S) [] dV .none .none pm an cdv .none) args binds)
    (h : ∀ A' L s₁, Ro n A' → Fm w mg mb s L (fun x => binds.reverse.lookup x) [] s₁ →
      wpAny (model pw w) A' (execs (bodyOf S) (envOf ql (scopeOf S) L f cdv)) (fun fl s' => R (.ok (.ret (retOf fl))) s') (fun _ _ => False) s₁)
    (hcell : ((scopeOf S).names.all fun x => x.2 != .cell) = true := by rfl) (hloc : (binds.all fun x => (scopeOf S).names.lookup x.1 == some .local) = true := by rfl)
    (hsc : (scopeOf S).isCoroutine = false ∧ (scopeOf S).isGenerator = false ∧ (scopeOf S).kind = .function := by exact ⟨by rfl, by rfl, by rfl⟩) :
    codeAny (model pw w) A (.call (.ref f) args) R s := by
  have hd : A.depth < recursionLimit := by have := r.dp; show A.depth < 1000; omega
  refine codeAny_call_def hd (G.K f _ ho) rfl G.noLimit (G.codeRec hcd) rfl hb ?_ ?_ (fun h₀ hns hk => ?_) hsc.1 hsc.2.1 hsc.2.2
  · intro x hx e
    have := List.all_eq_true.mp hcell x hx
    rw [e] at this; cases this
  · intro x hx
    exact beq_iff_eq.mp (List.all_eq_true.mp hloc x hx)
  · have X : Ex [] s { s with heap := h₀, toks := s.toks + binds.length } := Ex.of_keep hk
    refine wpAny_mono (h _ _ _ r.deeper ⟨G.ex X, hns, X, get_size _, G.hi (get_size _)⟩) (fun fl s' z => ?_) fun _ _ z => z.elim
    cases fl <;> exact z
theorem x_containsR {T dd d : Addr} {kvs : List (Str × Value)} {k : Str} {tk : Tok} (r : Ro (n + 1) A) (G : Gd w mg mb s) (t : Told w s.heap T dd d kvs) (h : ∀ s', Ex [] s s' → Q (.bool (valueAt kvs k).isSome) s') : wpAny (model pw w) A (call (.ref 378) [.ref T, .str k tk]) Q E s := by
  refine wpAny_call (call_fnR (n := n) (binds := [("self", .ref T), ("appid", .str k tk)]) r G (f := 378) (by rfl) (by rfl) (BindsTo.of_eq (by rfl)) fun A' L s1 r1 F => ?_)
  refine wpAny_execs_cons ?_
  repeat walk_at "m go"
  have t1 := t.ex0 F.X
  refine t1.data F.G.K ?_
  repeat walk_at "m go"
  refine wpAny_in_of (s := { s1 with toks := s1.toks + 1 }) skey t1.sys t1.dict.mapOf ?_
  exact h _ (F.X.then0 (Ex.tok _))
theorem Told.has {T dd d : Addr} {kvs : List (Str × Value)} {k : Str} {tk : Tok} {Q : Bool → Shared → Prop} (r : Ro (n + 1) A) (G : Gd w mg mb s) (t : Told w s.heap T dd d kvs) (h : ∀ s', Ex [] s s' → Q (valueAt kvs k).isSome s') : wpAny (model pw w) A (PySem.contains (.ref T) (.str k tk)) Q E s := by
  obtain ⟨e, hs, tk', k', e2⟩ := t.inst
  have X := G.K
  have to : Looks (model pw w) s.heap (typeOf (.ref T)) (.ref 451) := (Looks.ld e).andThen .now
  have sp : Looks (model pw w) s.heap (specialOf (.ref T) "__contains__") (some (.ref 378)) := to.andThen (looks_findIn X (by rfl))
  unfold PySem.contains
  refine wpAny_holding ?_
  refine wpAny_bind (m := specialOf (.ref T) "__contains__") (sp.here ?_)
  rw [if_neg (by decide)]
  unfold callSpecialUnlessNone?
  refine wpAny_bind (wpAny_bind (sp.here ?_))
  dsimp only
  have bd : Looks (model pw w) s.heap (bindSpecial (.ref 378) (.ref T)) (.ref 378, [.ref T]) := bind_fn X _ (by rfl)
  refine wpAny_holding (wpAny_bind (bd.here ?_))
  dsimp only
  rw [if_neg (by decide)]
  refine wpAny_bind (x_containsR r G t fun s' Y => ?_)
  refine wpAny_pure ?_
  exact wpAny_truthy_bool (h s' Y)
theorem Told.notIn {T dd d : Addr} {kvs : List (Str × Value)} {k : Str} {tk : Tok} (r : Ro (n + 1) A) (G : Gd w mg mb s) (t : Told w s.heap T dd d kvs) (h : ∀ s', Ex [] s s' → Q (.bool (!(valueAt kvs k).isSome)) s') : wpAny (model pw w) A (compareOp .NotIn (.str k tk) (.ref T)) Q E s := by
  show wpAny _ _ (do return .bool (!(← PySem.contains (.ref T) (.str k tk)))) Q E s
  exact wpAny_bind (t.has r G fun s' Y => wpAny_pure (h s' Y))
theorem Told.method {T dd d : Addr} {kvs : List (Str × Value)} {name : Str} {f : Addr} {pl : Sem Bool} {Q : Value × List Value → Shared → Prop} (X : (Kf w.params).In s.heap) (t : Told w s.heap T dd d kvs) (hf : findIn (Kf w.params) (.ref 451) name = some (some (.ref f))) (ht : typeIn (Kf w.params) (.ref f) = some (.type "function"))
    (hs : ∀ hs tk k, shadowIn (some (dataD hs tk d k)) name = some false) (h : Q (.ref f, [.ref T]) s) : wpAny (model pw w) A (getMethod (.ref T) name pl) Q E s := by
  obtain ⟨e, hs', tk, k, e2⟩ := t.inst
  have I : InstAt s.heap T (instObj 451 dd) 451 (some (dataD hs' tk d k)) := ⟨e, rfl, rfl, e2⟩
  exact method_fn X I (by rfl) (by rfl) hf ht (hs _ _ _) h
theorem Fm.goK {s₀ s' : Shared} {L : Addr} {m : Str → Option Value} {out : List Env} {env : Env} (F : Fm w mg mb s₀ L m [] s) (hf : env.frame = some L) (K : Kept (env :: out) s s') (hn : ∀ b ∈ frs out, Hi b) : Fm w mg mb s₀ L m (frs out) s' := by
  obtain ⟨⟨W, Y, hW⟩, sl⟩ := K
  have hLf : L ∈ frs (env :: out) := List.mem_filterMap.mpr ⟨env, .head _, hf⟩
  refine ⟨F.G.ex Y, Ns.slots F.N (fun o ho => sl L hLf F.hL.tab o ho), ?_, F.f, F.hL⟩
  have Y2 := F.X.of0 Y
  have Y3 : Ex (frs out ++ W.filter fun b => !(frs out).contains b) s₀ s' := Y2.weaken (fun b m => by
    by_cases c : b ∈ frs out
    · exact List.mem_append.mpr (.inl c)
    · exact List.mem_append.mpr (.inr (List.mem_filter.mpr ⟨m, by simpa using c⟩))) (fun b m => by
    rcases List.mem_append.mp m with m | m
    · exact hn b m
    · exact Y.wlo b (List.mem_filter.mp m).1)
  refine Y3.fresh fun b m => ?_
  obtain ⟨m, c⟩ := List.mem_filter.mp m
  rcases hW b m with h | h
  · exact F.X.off h
  · obtain ⟨e', he', hf'⟩ := List.mem_filterMap.mp h
    rcases List.mem_cons.mp he' with rfl | he'
    · rw [hf] at hf'; cases hf'; exact F.f
    · have : b ∈ frs out := List.mem_filterMap.mpr ⟨e', he', hf'⟩
      simp only [Bool.not_eq_true', List.contains_eq_mem, decide_eq_false_iff_not] at c
      exact absurd this c

theorem Kept.of0 {s s1 s2 : Shared} {env : Env} {out : List Env} {L : Addr} (Y : Ex [] s s1) (hf : env.frame = some L) (hL : s.heap.get? L = none) (K : Kept (env :: out) s1 s2) : Kept out s s2 := by
  obtain ⟨⟨W, Y2, hW⟩, sl⟩ := K
  refine ⟨⟨W, Y.of0 Y2, fun b m => ?_⟩, fun L' m ht o ho => ?_⟩
  · rcases hW b m with h | h
    · exact .inl (Y.off h)
    · obtain ⟨e', he', hf'⟩ := List.mem_filterMap.mp h
      rcases List.mem_cons.mp he' with rfl | he'
      · rw [hf] at hf'; cases hf'; exact .inl hL
      · exact .inr (List.mem_filterMap.mpr ⟨e', he', hf'⟩)
  · obtain ⟨s1', e1, _⟩ := Y.keep L' o ho ht (by simp)
    obtain ⟨e', he', hf'⟩ := List.mem_filterMap.mp m
    obtain ⟨s2', e2⟩ := sl L' (List.mem_filterMap.mpr ⟨e', .tail _ he', hf'⟩) ht _ e1
    exact ⟨s2', e2⟩
theorem Kept.then0 {s s1 s2 : Shared} {out : List Env} (K : Kept out s s1) (Y : Ex [] s1 s2) : Kept out s s2 := by
  obtain ⟨⟨W, Y2, hW⟩, sl⟩ := K
  refine ⟨⟨W, Y2.then0 Y, hW⟩, fun L' m ht o ho => ?_⟩
  obtain ⟨s1', e1⟩ := sl L' m ht o ho
  obtain ⟨s2', e2, _⟩ := Y.keep L' _ e1 ht (by simp)
  exact ⟨s2', e2⟩

theorem law_no_get_call {T dd d : Addr} {kvs : List (Str × Value)} {k : Str} {tk : Tok} {out : List Env} (r : Rm (n + 6) A) (hA : A.frames = some out) (hF : FunFr s.heap out) (G : Gd w mg mb s) (t : Told w s.heap T dd d kvs) (hv : valueAt kvs k = none)
    (nt : T ∉ frs out ∧ dd ∉ frs out ∧ d ∉ frs out) (h : ∀ s', Kept out s s' → Q (.bool true) s') : wpAny (model pw w) A (call (.ref 531) [.ref T, .str k tk]) Q E s := by
  refine wpAny_call (call_fnE (n := n + 5) (binds := [("told", .ref T), ("word", .str k tk)]) r hA hF G (f := 531) (by rfl) (by rfl) (BindsTo.of_eq (by rfl)) fun A' L s1 r1 hA1 hF1 F => ?_)
  refine wpAny_execs_cons ?_
  refine wpAny_Try_except ?_
  have t1 := t.ex0 F.X
  repeat walk_at "m go"
  refine wpAny_Expr_any ?_
  repeat walk_at "m go"
  refine t1.method F.G.K (name := "get") (f := 406) (by rfl) (by rfl) (fun _ _ _ => by rfl) ?_
  repeat walk_at "m go"
  refine ⟨F.G.K, x_get_bad (n := n + 2) (r1.mono (by omega)) hA1 hF1 F.G t1 hv fun e s2 th => ?_⟩
  refine caught hA1 rfl th F.G (fun G2 hq => Name_function_global (by rfl) (by rfl) (loadGlobal_global (by exact G2.g) (G2.hm _ _ (by rfl)) hq) (by decide)) fun s3 K3 => ?_
  have hout : ∀ b ∈ frs out, Hi b := fun b m => by
    obtain ⟨e', he', hf'⟩ := List.mem_filterMap.mp m
    obtain ⟨_, L2, _, _, _, hf2, _, _, hi2⟩ := hF e' he'
    rw [hf2] at hf'; cases hf'; exact hi2
  have F3 := F.goK rfl K3 hout
  have t3 := t.ex F3.X nt.1 nt.2.1 nt.2.2
  have K0 := Kept.of0 F.X rfl F.f K3
  clear F
  refine wpAny_execs_cons ?_
  repeat walk_at "m go"
  refine t3.notIn (n := n + 2) (Ro.mono (r1.ro.mark) (by omega)) F3.G fun s4 Y4 => ?_
  rw [hv]
  exact h s4 (K0.then0 Y4)
end Mine

namespace Mine
variable {w : World} {mg mb : Str → Option Value}
variable {s : Shared} {Q : Value → Shared → Prop} {E : Value → Shared → Prop} {A : Around} {n : Nat}

local macro_rules | `(tactic| walk_at "m go") => `(tactic| first
  | with_reducible refine wpAny_execs_cons ?_
  | with_reducible refine wpAny_Return_some ?_
  | with_reducible refine wpAny_Call_NameR ?_
  | with_reducible refine wpAny_items_cons ?_ (by with_unfolding_all rfl)
  | with_reducible refine wpAny_items_nil ?_
  | with_reducible refine Attribute_name ?_
  | with_reducible refine wpAny_Compare1 ?_ (by with_unfolding_all rfl)
  | with_reducible refine wpAny_isTrue_Compare1 ?_ (by with_unfolding_all rfl)
  | with_reducible refine wpAny_isTrue_Not ?_
  | with_reducible refine wpAny_isTrue_BoolOp ?_
  | with_reducible refine wpAny_allTrue_And_cons ?_
  | with_reducible refine wpAny_allTrue_And_nil ?_
  | with_reducible refine wpAny_allTrue_Or_cons ?_
  | with_reducible refine wpAny_allTrue_Or_nil ?_
  | with_reducible refine wpAny_If ?_
  | ((with_reducible show wpAny _ _ (exec (.Expr _ _) _) _ _ _); refine wpAny_Expr_any ?_)
  | ((with_reducible show wpAny _ _ (eval (.Call (.Attribute _ _ _) _ [] _) _) _ _ _); refine MethodCall_ ?_ (by rfl))
  | with_reducible refine wpAny_truthy_bool ?_
  | with_reducible refine wpAny_execs_nil ?_
  | ((with_reducible show wpAny _ _ (PySem.isTrue (.Call _ _ _ _) _ _) _ _ _); refine wpAny_isTrue_value ?_ (by rfl))
  | ((with_reducible show wpAny _ _ (PySem.isTrue (.Name _ _) _ _) _ _ _); refine wpAny_isTrue_value ?_ (by rfl))
  | with_reducible refine wpAny_Assign_Name ?_ (by with_unfolding_all rfl)
  | with_reducible refine wpAny_Constant_int ?_
  | with_reducible refine wpAny_Constant_str ?_
  | with_reducible refine wpAny_Constant_bool ?_
  | with_reducible refine wpAny_Constant_none ?_
  | ((with_reducible show wpAny _ _ (eval (.Name _ _) _) _ _ _); first
    | refine Fm.ldL ‹Fm _ _ _ _ _ _ _ _› (by rfl) ?_
    | refine Fm.ldL ‹Fm _ _ _ _ _ _ _ _› (by assumption) ?_
    | refine Fm.ldG ‹Fm _ _ _ _ _ _ _ _› (by rfl) ?_
    | (refine Fm.ldB (v := .builtin _) ‹Fm _ _ _ _ _ _ _ _› (by rfl) (by rfl) ?_; dsimp only)
    | (refine Fm.ldB (v := .type _) ‹Fm _ _ _ _ _ _ _ _› (by rfl) (by rfl) ?_; dsimp only))
  | ((with_reducible show wpAny _ _ (callWith _ (.builtin _) _ _ _) _ _ _); refine PyProof.Rows.callWith_builtin1 ?_ (by with_unfolding_all rfl) (by with_unfolding_all rfl))
  | ((with_reducible show wpAny _ _ (callWith _ (.type _) _ _ _) _ _ _); refine callWith_type (by with_unfolding_all rfl) (evalArgs_plain ?_))
  | ((with_reducible show wpAny _ _ (callWith _ (.ref _) _ _ _) _ _ _); refine callWith_K (Fm.G ‹Fm _ _ _ _ _ _ _ _›).K (by rfl) ?_))

local macro_rules | `(tactic| x_close) => `(tactic| (rename Kt _ => k9; rename Mem _ _ _ _ => D9; exact k9.out _ _ _ (ex_mem D9) (by exact Nat.le_of_ble_eq_true (by kernel_rfl))))
theorem tag_repr_0 {x dx : Addr} {tc : Tok} {tv : Tok} (K : (Kf w.params).In s.heap) (hx : s.heap.get? x = some { cls := .ref 113, dict := some dx, data := .plain, slots := #[some (.int 1001 tc), some (.str "P" tv)] })
    (h : ∀ (t : Str) u s', Ex [] s s' → t.length ≤ 40 → Q (.str t u) s') : wpAny (model pw w) AL (call (.ref 44) [.ref x]) Q E s := by
  obtain ⟨h0, g, d, t, os⟩ := s
  have hk := Kt.mk h
  dsimp only at K hx hk ⊢
  x_run
theorem tag_repr_1 {x dx : Addr} {tc : Tok} {tv : Tok} (K : (Kf w.params).In s.heap) (hx : s.heap.get? x = some { cls := .ref 113, dict := some dx, data := .plain, slots := #[some (.int 1001 tc), some (.str "Q" tv)] })
    (h : ∀ (t : Str) u s', Ex [] s s' → t.length ≤ 40 → Q (.str t u) s') : wpAny (model pw w) AL (call (.ref 44) [.ref x]) Q E s := by
  obtain ⟨h0, g, d, t, os⟩ := s
  have hk := Kt.mk h
  dsimp only at K hx hk ⊢
  x_run
theorem tag_repr_2 {x dx : Addr} {tc : Tok} {tv : Tok} (K : (Kf w.params).In s.heap) (hx : s.heap.get? x = some { cls := .ref 113, dict := some dx, data := .plain, slots := #[some (.int 1001 tc), some (.str "R" tv)] })
    (h : ∀ (t : Str) u s', Ex [] s s' → t.length ≤ 40 → Q (.str t u) s') : wpAny (model pw w) AL (call (.ref 44) [.ref x]) Q E s := by
  obtain ⟨h0, g, d, t, os⟩ := s
  have hk := Kt.mk h
  dsimp only at K hx hk ⊢
  x_run
theorem tag_repr_3 {x dx : Addr} {tc : Tok} {tv : Tok} (K : (Kf w.params).In s.heap) (hx : s.heap.get? x = some { cls := .ref 113, dict := some dx, data := .plain, slots := #[some (.int 1000 tc), some (.str "s" tv)] })
    (h : ∀ (t : Str) u s', Ex [] s s' → t.length ≤ 40 → Q (.str t u) s') : wpAny (model pw w) AL (call (.ref 44) [.ref x]) Q E s := by
  obtain ⟨h0, g, d, t, os⟩ := s
  have hk := Kt.mk h
  dsimp only at K hx hk ⊢
  x_run
theorem tag_repr_4 {x dx : Addr} {tc : Tok} {tv : Tok} (K : (Kf w.params).In s.heap) (hx : s.heap.get? x = some { cls := .ref 113, dict := some dx, data := .plain, slots := #[some (.int 1040 tc), some (.str "1" tv)] })
    (h : ∀ (t : Str) u s', Ex [] s s' → t.length ≤ 40 → Q (.str t u) s') : wpAny (model pw w) AL (call (.ref 44) [.ref x]) Q E s := by
  obtain ⟨h0, g, d, t, os⟩ := s
  have hk := Kt.mk h
  dsimp only at K hx hk ⊢
  x_run
theorem tag_repr_5 {x dx : Addr} {tc : Tok} {tv : Tok} (K : (Kf w.params).In s.heap) (hx : s.heap.get? x = some { cls := .ref 113, dict := some dx, data := .plain, slots := #[some (.int 1070 tc), some (.str "2" tv)] })
    (h : ∀ (t : Str) u s', Ex [] s s' → t.length ≤ 40 → Q (.str t u) s') : wpAny (model pw w) AL (call (.ref 44) [.ref x]) Q E s := by
  obtain ⟨h0, g, d, t, os⟩ := s
  have hk := Kt.mk h
  dsimp only at K hx hk ⊢
  x_run
theorem tag_repr_6 {x dx : Addr} {tc : Tok} {tv : Tok} (K : (Kf w.params).In s.heap) (hx : s.heap.get? x = some { cls := .ref 113, dict := some dx, data := .plain, slots := #[some (.int 1005 tc), some (.str "F" tv)] })
    (h : ∀ (t : Str) u s', Ex [] s s' → t.length ≤ 40 → Q (.str t u) s') : wpAny (model pw w) AL (call (.ref 44) [.ref x]) Q E s := by
  obtain ⟨h0, g, d, t, os⟩ := s
  have hk := Kt.mk h
  dsimp only at K hx hk ⊢
  x_run
theorem tag_repr_7 {x dx : Addr} {tc : Tok} {tv : Tok} (K : (Kf w.params).In s.heap) (hx : s.heap.get? x = some { cls := .ref 113, dict := some dx, data := .plain, slots := #[some (.int 1000 tc), some (.str "P" tv)] })
    (h : ∀ (t : Str) u s', Ex [] s s' → t.length ≤ 40 → Q (.str t u) s') : wpAny (model pw w) AL (call (.ref 44) [.ref x]) Q E s := by
  obtain ⟨h0, g, d, t, os⟩ := s
  have hk := Kt.mk h
  dsimp only at K hx hk ⊢
  x_run
theorem tag_repr_8 {x dx : Addr} {tc : Tok} {tv : Tok} (K : (Kf w.params).In s.heap) (hx : s.heap.get? x = some { cls := .ref 113, dict := some dx, data := .plain, slots := #[some (.int 1002 tc), some (.str "{" tv)] })
    (h : ∀ (t : Str) u s', Ex [] s s' → t.length ≤ 40 → Q (.str t u) s') : wpAny (model pw w) AL (call (.ref 44) [.ref x]) Q E s := by
  obtain ⟨h0, g, d, t, os⟩ := s
  have hk := Kt.mk h
  dsimp only at K hx hk ⊢
  x_run
theorem tag_repr_9 {x dx : Addr} {tc : Tok} {tv : Tok} (K : (Kf w.params).In s.heap) (hx : s.heap.get? x = some { cls := .ref 113, dict := some dx, data := .plain, slots := #[some (.int 1002 tc), some (.str "}" tv)] })
    (h : ∀ (t : Str) u s', Ex [] s s' → t.length ≤ 40 → Q (.str t u) s') : wpAny (model pw w) AL (call (.ref 44) [.ref x]) Q E s := by
  obtain ⟨h0, g, d, t, os⟩ := s
  have hk := Kt.mk h
  dsimp only at K hx hk ⊢
  x_run
theorem tag_repr_10 {x dx : Addr} {tc : Tok} {tv : Tok} (K : (Kf w.params).In s.heap) (hx : s.heap.get? x = some { cls := .ref 113, dict := some dx, data := .plain, slots := #[some (.int 0 tc), some (.str "x" tv)] })
    (h : ∀ (t : Str) u s', Ex [] s s' → t.length ≤ 40 → Q (.str t u) s') : wpAny (model pw w) AL (call (.ref 44) [.ref x]) Q E s := by
  obtain ⟨h0, g, d, t, os⟩ := s
  have hk := Kt.mk h
  dsimp only at K hx hk ⊢
  x_run
theorem tag_repr_11 {x dx : Addr} {tc : Tok} {tv : Tok} (K : (Kf w.params).In s.heap) (hx : s.heap.get? x = some { cls := .ref 113, dict := some dx, data := .plain, slots := #[some (.int 999 tc), some (.str "y" tv)] })
    (h : ∀ (t : Str) u s', Ex [] s s' → t.length ≤ 40 → Q (.str t u) s') : wpAny (model pw w) AL (call (.ref 44) [.ref x]) Q E s := by
  obtain ⟨h0, g, d, t, os⟩ := s
  have hk := Kt.mk h
  dsimp only at K hx hk ⊢
  x_run
theorem tag_repr_12 {x dx : Addr} {tc : Tok} {tv : Tok} (K : (Kf w.params).In s.heap) (hx : s.heap.get? x = some { cls := .ref 113, dict := some dx, data := .plain, slots := #[some (.int 1006 tc), some (.str "z" tv)] })
    (h : ∀ (t : Str) u s', Ex [] s s' → t.length ≤ 40 → Q (.str t u) s') : wpAny (model pw w) AL (call (.ref 44) [.ref x]) Q E s := by
  obtain ⟨h0, g, d, t, os⟩ := s
  have hk := Kt.mk h
  dsimp only at K hx hk ⊢
  x_run
theorem tag_repr_13 {x dx : Addr} {tc : Tok} {tv : Tok} (K : (Kf w.params).In s.heap) (hx : s.heap.get? x = some { cls := .ref 113, dict := some dx, data := .plain, slots := #[some (.int 1009 tc), some (.str "y" tv)] })
    (h : ∀ (t : Str) u s', Ex [] s s' → t.length ≤ 40 → Q (.str t u) s') : wpAny (model pw w) AL (call (.ref 44) [.ref x]) Q E s := by
  obtain ⟨h0, g, d, t, os⟩ := s
  have hk := Kt.mk h
  dsimp only at K hx hk ⊢
  x_run
theorem tag_repr_14 {x dx : Addr} {tc : Tok} {tv : Tok} (K : (Kf w.params).In s.heap) (hx : s.heap.get? x = some { cls := .ref 113, dict := some dx, data := .plain, slots := #[some (.int 1014 tc), some (.str "x" tv)] })
    (h : ∀ (t : Str) u s', Ex [] s s' → t.length ≤ 40 → Q (.str t u) s') : wpAny (model pw w) AL (call (.ref 44) [.ref x]) Q E s := by
  obtain ⟨h0, g, d, t, os⟩ := s
  have hk := Kt.mk h
  dsimp only at K hx hk ⊢
  x_run
theorem tag_repr_15 {x dx : Addr} {tc : Tok} {tv : Tok} (K : (Kf w.params).In s.heap) (hx : s.heap.get? x = some { cls := .ref 113, dict := some dx, data := .plain, slots := #[some (.int 1039 tc), some (.str "z" tv)] })
    (h : ∀ (t : Str) u s', Ex [] s s' → t.length ≤ 40 → Q (.str t u) s') : wpAny (model pw w) AL (call (.ref 44) [.ref x]) Q E s := by
  obtain ⟨h0, g, d, t, os⟩ := s
  have hk := Kt.mk h
  dsimp only at K hx hk ⊢
  x_run
theorem tag_repr_16 {x dx : Addr} {tc : Tok} {tv : Tok} (K : (Kf w.params).In s.heap) (hx : s.heap.get? x = some { cls := .ref 113, dict := some dx, data := .plain, slots := #[some (.int 1043 tc), some (.str "y" tv)] })
    (h : ∀ (t : Str) u s', Ex [] s s' → t.length ≤ 40 → Q (.str t u) s') : wpAny (model pw w) AL (call (.ref 44) [.ref x]) Q E s := by
  obtain ⟨h0, g, d, t, os⟩ := s
  have hk := Kt.mk h
  dsimp only at K hx hk ⊢
  x_run
theorem tag_repr_17 {x dx : Addr} {tc : Tok} {tv : Tok} (K : (Kf w.params).In s.heap) (hx : s.heap.get? x = some { cls := .ref 113, dict := some dx, data := .plain, slots := #[some (.int 1069 tc), some (.str "x" tv)] })
    (h : ∀ (t : Str) u s', Ex [] s s' → t.length ≤ 40 → Q (.str t u) s') : wpAny (model pw w) AL (call (.ref 44) [.ref x]) Q E s := by
  obtain ⟨h0, g, d, t, os⟩ := s
  have hk := Kt.mk h
  dsimp only at K hx hk ⊢
  x_run
theorem tag_repr_18 {x dx : Addr} {tc : Tok} {tv : Tok} (K : (Kf w.params).In s.heap) (hx : s.heap.get? x = some { cls := .ref 113, dict := some dx, data := .plain, slots := #[some (.int 1072 tc), some (.str "z" tv)] })
    (h : ∀ (t : Str) u s', Ex [] s s' → t.length ≤ 40 → Q (.str t u) s') : wpAny (model pw w) AL (call (.ref 44) [.ref x]) Q E s := by
  obtain ⟨h0, g, d, t, os⟩ := s
  have hk := Kt.mk h
  dsimp only at K hx hk ⊢
  x_run
def tagList : List (Int × Str) := [(1001, "P"), (1001, "Q"), (1001, "R"), (1000, "s"), (1040, "1"), (1070, "2"), (1005, "F"), (1000, "P"), (1002, "{"), (1002, "}"), (0, "x"), (999, "y"), (1006, "z"), (1009, "y"), (1014, "x"), (1039, "z"), (1043, "y"), (1069, "x"), (1072, "z")]
theorem tag_repr {x : Addr} {p : Int × Str} (r : Rm (n + 1) A) (K : (Kf w.params).In s.heap) (ht : TagAt s.heap x p.1 p.2) (hp : p ∈ tagList) (h : ∀ (t : Str) u s', Ex [] s s' → t.length ≤ 40 → Q (.str t u) s') : wpAny (model pw w) A (call (.ref 44) [.ref x]) Q E s := by
  refine (r.mono (by omega : 1 ≤ n + 1)).leaf ?_
  obtain ⟨_, dx, tc, tv, od, e, _⟩ := ht
  simp only [tagList, List.mem_cons, List.not_mem_nil, or_false] at hp
  rcases hp with rfl | rfl | rfl | rfl | rfl | rfl | rfl | rfl | rfl | rfl | rfl | rfl | rfl | rfl | rfl | rfl | rfl | rfl | rfl
  · exact tag_repr_0 K e h
  · exact tag_repr_1 K e h
  · exact tag_repr_2 K e h
  · exact tag_repr_3 K e h
  · exact tag_repr_4 K e h
  · exact tag_repr_5 K e h
  · exact tag_repr_6 K e h
  · exact tag_repr_7 K e h
  · exact tag_repr_8 K e h
  · exact tag_repr_9 K e h
  · exact tag_repr_10 K e h
  · exact tag_repr_11 K e h
  · exact tag_repr_12 K e h
  · exact tag_repr_13 K e h
  · exact tag_repr_14 K e h
  · exact tag_repr_15 K e h
  · exact tag_repr_16 K e h
  · exact tag_repr_17 K e h
  · exact tag_repr_18 K e h
end Mine

namespace Mine
variable {w : World} {mg mb : Str → Option Value}
variable {s : Shared} {Q : Value → Shared → Prop} {E : Value → Shared → Prop} {A : Around} {n : Nat}

local macro_rules | `(tactic| walk_at "m go") => `(tactic| first
  | with_reducible refine wpAny_execs_cons ?_
  | with_reducible refine wpAny_Return_some ?_
  | with_reducible refine wpAny_Call_NameR ?_
  | with_reducible refine wpAny_items_cons ?_ (by with_unfolding_all rfl)
  | with_reducible refine wpAny_items_nil ?_
  | with_reducible refine Attribute_name ?_
  | with_reducible refine wpAny_Compare1 ?_ (by with_unfolding_all rfl)
  | with_reducible refine wpAny_isTrue_Compare1 ?_ (by with_unfolding_all rfl)
  | with_reducible refine wpAny_isTrue_Not ?_
  | with_reducible refine wpAny_isTrue_BoolOp ?_
  | with_reducible refine wpAny_allTrue_And_cons ?_
  | with_reducible refine wpAny_allTrue_And_nil ?_
  | with_reducible refine wpAny_allTrue_Or_cons ?_
  | with_reducible refine wpAny_allTrue_Or_nil ?_
  | with_reducible refine wpAny_If ?_
  | ((with_reducible show wpAny _ _ (exec (.Expr _ _) _) _ _ _); refine wpAny_Expr_any ?_)
  | ((with_reducible show wpAny _ _ (eval (.Call (.Attribute _ _ _) _ [] _) _) _ _ _); refine MethodCall_ ?_ (by rfl))
  | with_reducible refine wpAny_truthy_bool ?_
  | with_reducible refine wpAny_execs_nil ?_
  | ((with_reducible show wpAny _ _ (PySem.isTrue (.Call _ _ _ _) _ _) _ _ _); refine wpAny_isTrue_value ?_ (by rfl))
  | ((with_reducible show wpAny _ _ (PySem.isTrue (.Name _ _) _ _) _ _ _); refine wpAny_isTrue_value ?_ (by rfl))
  | with_reducible refine wpAny_Assign_Name ?_ (by with_unfolding_all rfl)
  | with_reducible refine wpAny_Constant_int ?_
  | with_reducible refine wpAny_Constant_str ?_
  | with_reducible refine wpAny_Constant_bool ?_
  | with_reducible refine wpAny_Constant_none ?_
  | ((with_reducible show wpAny _ _ (eval (.Name _ _) _) _ _ _); first
    | refine Fm.ldL ‹Fm _ _ _ _ _ _ _ _› (by rfl) ?_
    | refine Fm.ldL ‹Fm _ _ _ _ _ _ _ _› (by assumption) ?_
    | refine Fm.ldG ‹Fm _ _ _ _ _ _ _ _› (by rfl) ?_
    | (refine Fm.ldB (v := .builtin _) ‹Fm _ _ _ _ _ _ _ _› (by rfl) (by rfl) ?_; dsimp only)
    | (refine Fm.ldB (v := .type _) ‹Fm _ _ _ _ _ _ _ _› (by rfl) (by rfl) ?_; dsimp only))
  | ((with_reducible show wpAny _ _ (callWith _ (.builtin _) _ _ _) _ _ _); refine PyProof.Rows.callWith_builtin1 ?_ (by with_unfolding_all rfl) (by with_unfolding_all rfl))
  | ((with_reducible show wpAny _ _ (callWith _ (.type _) _ _ _) _ _ _); refine Mine.callWith_ty ?_ (by with_unfolding_all rfl) (by with_unfolding_all rfl))
  | ((with_reducible show wpAny _ _ (callWith _ (.ref _) _ _ _) _ _ _); refine callWith_K (Fm.G ‹Fm _ _ _ _ _ _ _ _›).K (by rfl) ?_))

theorem callWith_ty {pos : Pos} {T : String} {e : Expr} {rest : List Expr} {env : Env}
    (h : wpAny (model pw w) A (spliced (backTo pos (starEach (e :: rest) env))) (fun vs s₁ => wpAny (model pw w) A (call (.type T) vs) Q E s₁) E s)
    (he : starEach (e :: rest) env = (false, eval e env) :: starEach rest env := by rfl)
    (hplain : (backTo pos (starEach rest env)).any (·.1) = false := by rfl) :
    wpAny (model pw w) A (callWith pos (.type T) [] (backTo pos (starEach (e :: rest) env)) []) Q E s := by
  rw [he] at h ⊢
  exact PySem.callWith_type (by show (false || (backTo pos (starEach rest env)).any (·.1)) = false; rw [hplain]; rfl) (evalArgs_plain h)
end Mine

namespace Mine
variable {w : World} {mg mb : Str → Option Value}
variable {s : Shared} {Q : Value → Shared → Prop} {E : Value → Shared → Prop} {A : Around} {n : Nat}

local macro_rules | `(tactic| walk_at "m go") => `(tactic| first
  | with_reducible refine wpAny_execs_cons ?_
  | with_reducible refine wpAny_Return_some ?_
  | with_reducible refine wpAny_Call_NameR ?_
  | with_reducible refine wpAny_items_cons ?_ (by with_unfolding_all rfl)
  | with_reducible refine wpAny_items_nil ?_
  | with_reducible refine Attribute_name ?_
  | with_reducible refine wpAny_Compare1 ?_ (by with_unfolding_all rfl)
  | with_reducible refine wpAny_isTrue_Compare1 ?_ (by with_unfolding_all rfl)
  | with_reducible refine wpAny_isTrue_Not ?_
  | with_reducible refine wpAny_isTrue_BoolOp ?_
  | with_reducible refine wpAny_allTrue_And_cons ?_
  | with_reducible refine wpAny_allTrue_And_nil ?_
  | with_reducible refine wpAny_allTrue_Or_cons ?_
  | with_reducible refine wpAny_allTrue_Or_nil ?_
  | with_reducible refine wpAny_If ?_
  | ((with_reducible show wpAny _ _ (exec (.Expr _ _) _) _ _ _); refine wpAny_Expr_any ?_)
  | ((with_reducible show wpAny _ _ (eval (.Call (.Attribute _ _ _) _ [] _) _) _ _ _); refine MethodCall_ ?_ (by rfl))
  | with_reducible refine wpAny_truthy_bool ?_
  | with_reducible refine wpAny_execs_nil ?_
  | ((with_reducible show wpAny _ _ (PySem.isTrue (.Call _ _ _ _) _ _) _ _ _); refine wpAny_isTrue_value ?_ (by rfl))
  | ((with_reducible show wpAny _ _ (PySem.isTrue (.Name _ _) _ _) _ _ _); refine wpAny_isTrue_value ?_ (by rfl))
  | with_reducible refine wpAny_Assign_Name ?_ (by with_unfolding_all rfl)
  | with_reducible refine wpAny_Constant_int ?_
  | with_reducible refine wpAny_Constant_str ?_
  | with_reducible refine wpAny_Constant_bool ?_
  | with_reducible refine wpAny_Constant_none ?_
  | ((with_reducible show wpAny _ _ (eval (.Name _ _) _) _ _ _); first
    | refine Fm.ldL ‹Fm _ _ _ _ _ _ _ _› (by rfl) ?_
    | refine Fm.ldL ‹Fm _ _ _ _ _ _ _ _› (by assumption) ?_
    | refine Fm.ldG ‹Fm _ _ _ _ _ _ _ _› (by rfl) ?_
    | (refine Fm.ldB (v := .builtin _) ‹Fm _ _ _ _ _ _ _ _› (by rfl) (by rfl) ?_; dsimp only)
    | (refine Fm.ldB (v := .type _) ‹Fm _ _ _ _ _ _ _ _› (by rfl) (by rfl) ?_; dsimp only))
  | ((with_reducible show wpAny _ _ (callWith _ (.builtin _) _ _ _) _ _ _); refine PyProof.Rows.callWith_builtin1 ?_ (by with_unfolding_all rfl) (by with_unfolding_all rfl))
  | ((with_reducible show wpAny _ _ (callWith _ (.type _) _ _ _) _ _ _); refine Mine.callWith_ty ?_ (by with_unfolding_all rfl) (by with_unfolding_all rfl))
  | ((with_reducible show wpAny _ _ (callWith _ (.ref _) _ _ _) _ _ _); refine callWith_K (Fm.G ‹Fm _ _ _ _ _ _ _ _›).K (by rfl) ?_))

theorem tag_repr51 {x : Addr} {p : Int × Str} (r : Rm (n + 5) A) (G : Gd w mg mb s) (ht : TagAt s.heap x p.1 p.2) (hp : p ∈ tagList) (h : ∀ (t : Str) u s', Ex [] s s' → t.length ≤ 50 → Q (.str t u) s') : wpAny (model pw w) A (call (.ref 51) [.ref x]) Q E s := by
  refine wpAny_call (call_fn (n := n + 4) (binds := [("self", .ref x)]) r G (f := 51) (by rfl) (by rfl) (BindsTo.of_eq (by rfl)) fun A' L s1 r1 F => ?_)
  refine wpAny_execs_cons ?_
  repeat walk_at "m go"
  refine wpAny_JoinedStr ?_
  show wpAny _ _ (eval (.Constant (.str "DXFTag") _ _) _) _ _ _
  refine wpAny_Constant_str ⟨_, _, rfl, by rw [sizeLine_eq]; decide, ?_⟩
  show wpAny _ _ (eval (.FormattedValue _ (-1) none _) _) _ _ _
  refine wpAny_FormattedValue_plain ?_
  repeat walk_at "m go"
  have t1 := ht.ex F.X
  have t1' := t1
  obtain ⟨_, dx, tc, tv, od, e1, e2⟩ := t1'
  have hu : A'.in1.in1.units < cLine := by have := r1.un; show A'.units + 1 + 1 < 9900; omega
  refine kso_call (s := { s1 with toks := s1.toks + 1 }) hu F.G.K (tag_inst e1 e2) (by rfl) (by rfl) (f := 44) ?_
  refine tag_repr (s := { s1 with toks := s1.toks + 1 }) (n := n) (Rm.mono r1.in1.in1 (by omega)) F.G.K t1 hp fun t u s2 Y2 hl => ?_
  have Y12 : Ex [] s1 s2 := (Ex.tok _).of0 Y2
  have fin : ∀ u' s3, Ex [] s2 s3 → ∃ y t', Value.str t u' = .str y t' ∧ ((Str.empty ++ "DXFTag" : Str) ++ y).length ≤ sizeLine ∧ Joins (model pw w) A' (fun _ _ => False) [] ((Str.empty ++ "DXFTag" : Str) ++ y) (fun out s₁ => out.length ≤ sizeLine ∧ Q (retOf (Flow.ret (.str out s₁.toks))) { s₁ with toks := s₁.toks + 1 }) s3 := by
    intro u' s3 Y3
    have hl2 : ((Str.empty ++ "DXFTag" : Str) ++ t).length ≤ 50 := by
      rw [strLen_append, strLen_append]
      have e1 : (Str.empty).length = 0 := by rfl
      have e2 : (("DXFTag" : Str)).length = 6 := by rfl
      omega
    refine ⟨t, u', rfl, by rw [sizeLine_eq]; omega, by rw [sizeLine_eq]; omega, ?_⟩
    exact h _ _ _ ((F.X.then0 (Y12.then0 Y3)).then0 (Ex.tok _)) hl2
  refine wpAny_formatField_str ?_ ?_ (by rw [sizeLine_eq]; omega)
  · exact fin u s2 (Ex.refl _)
  · exact fin _ _ (Ex.tok _)
end Mine

namespace Mine
variable {w : World} {mg mb : Str → Option Value}
variable {s : Shared} {Q : Value → Shared → Prop} {E : Value → Shared → Prop} {A : Around} {n : Nat}

local macro_rules | `(tactic| walk_at "m go") => `(tactic| first
  | with_reducible refine wpAny_execs_cons ?_
  | with_reducible refine wpAny_Return_some ?_
  | with_reducible refine wpAny_Call_NameR ?_
  | with_reducible refine wpAny_items_cons ?_ (by with_unfolding_all rfl)
  | with_reducible refine wpAny_items_nil ?_
  | with_reducible refine Attribute_name ?_
  | with_reducible refine wpAny_Compare1 ?_ (by with_unfolding_all rfl)
  | with_reducible refine wpAny_isTrue_Compare1 ?_ (by with_unfolding_all rfl)
  | with_reducible refine wpAny_isTrue_Not ?_
  | with_reducible refine wpAny_isTrue_BoolOp ?_
  | with_reducible refine wpAny_allTrue_And_cons ?_
  | with_reducible refine wpAny_allTrue_And_nil ?_
  | with_reducible refine wpAny_allTrue_Or_cons ?_
  | with_reducible refine wpAny_allTrue_Or_nil ?_
  | with_reducible refine wpAny_If ?_
  | ((with_reducible show wpAny _ _ (exec (.Expr _ _) _) _ _ _); refine wpAny_Expr_any ?_)
  | ((with_reducible show wpAny _ _ (eval (.Call (.Attribute _ _ _) _ [] _) _) _ _ _); refine MethodCall_ ?_ (by rfl))
  | with_reducible refine wpAny_truthy_bool ?_
  | with_reducible refine wpAny_execs_nil ?_
  | ((with_reducible show wpAny _ _ (PySem.isTrue (.Call _ _ _ _) _ _) _ _ _); refine wpAny_isTrue_value ?_ (by rfl))
  | ((with_reducible show wpAny _ _ (PySem.isTrue (.Name _ _) _ _) _ _ _); refine wpAny_isTrue_value ?_ (by rfl))
  | with_reducible refine wpAny_Assign_Name ?_ (by with_unfolding_all rfl)
  | with_reducible refine wpAny_Constant_int ?_
  | with_reducible refine wpAny_Constant_str ?_
  | with_reducible refine wpAny_Constant_bool ?_
  | with_reducible refine wpAny_Constant_none ?_
  | ((with_reducible show wpAny _ _ (eval (.Name _ _) _) _ _ _); first
    | refine Fm.ldL ‹Fm _ _ _ _ _ _ _ _› (by rfl) ?_
    | refine Fm.ldL ‹Fm _ _ _ _ _ _ _ _› (by assumption) ?_
    | refine Fm.ldG ‹Fm _ _ _ _ _ _ _ _› (by rfl) ?_
    | (refine Fm.ldB (v := .builtin _) ‹Fm _ _ _ _ _ _ _ _› (by rfl) (by rfl) ?_; dsimp only)
    | (refine Fm.ldB (v := .type _) ‹Fm _ _ _ _ _ _ _ _› (by rfl) (by rfl) ?_; dsimp only))
  | ((with_reducible show wpAny _ _ (callWith _ (.builtin _) _ _ _) _ _ _); refine PyProof.Rows.callWith_builtin1 ?_ (by with_unfolding_all rfl) (by with_unfolding_all rfl))
  | ((with_reducible show wpAny _ _ (callWith _ (.type _) _ _ _) _ _ _); refine Mine.callWith_ty ?_ (by with_unfolding_all rfl) (by with_unfolding_all rfl))
  | ((with_reducible show wpAny _ _ (callWith _ (.ref _) _ _ _) _ _ _); refine callWith_K (Fm.G ‹Fm _ _ _ _ _ _ _ _›).K (by rfl) ?_))

theorem under_tag {x : Addr} {p : Int × Str} {b : Nat} {Q : Str → Shared → Prop} (r : Rm (n + 6) A) (G : Gd w mg mb s) (ht : TagAt s.heap x p.1 p.2) (hp : p ∈ tagList) (hb : b ≤ 100000) (h : ∀ (t : Str) s', Ex [] s s' → t.length ≤ 50 → Q t s') : wpAny (model pw w) A (pyReprUnder b (.ref x)) Q E s := by
  have ht' := ht
  obtain ⟨_, dx, tc, tv, od, e1, e2⟩ := ht'
  have I := tag_inst e1 e2
  have X := G.K
  have to : Looks (model pw w) s.heap (typeOf (.ref x)) (.ref 113) := (Looks.ld e1).andThen .now
  have sp : Looks (model pw w) s.heap (specialOf (.ref x) "__repr__") (some (.ref 51)) := to.andThen (looks_findIn X (by rfl))
  have bd : Looks (model pw w) s.heap (bindSpecial (.ref 51) (.ref x)) (.ref 51, [.ref x]) := bind_fn X _ (by rfl)
  refine wpAny_pyReprUnder_ref (by rw [sizeLine_eq]; omega) ?_
  unfold pyReprObjUnder pyReprObjBy
  refine wpAny_bind (wpAny_cRoomFor (by have := r.un; show A.units < 9900; omega) ?_)
  refine wpAny_bind (sp.here ?_)
  rw [if_neg (by decide)]
  unfold callSpecialIfBoundBy?
  refine wpAny_bind (wpAny_holding (wpAny_bind ((bound_here sp bd).here ?_)))
  dsimp only
  refine wpAny_bind ?_
  show wpAny _ _ (call (.ref 51) [.ref x]) _ _ _
  refine tag_repr51 (n := n) (r.mono (by omega)) G ht hp fun t u s' Y hl => ?_
  refine wpAny_pure ?_
  dsimp only
  exact wpAny_bind (wpAny_isInstance (T := "str") (b := true) (typeIs_str _ _ _) isSubtype_str_str (wpAny_pure ⟨t, u, rfl, h t s' Y hl⟩))

def StrV (p : Str) (v : Value) : Prop := ∃ u, v = .str p u
/-- the parts are joined -/
theorem join_parts {Q : Str → Shared → Prop} : ∀ (ps : List Str) (vs : List Value) (k : Nat) (acc : Str) (s : Shared), All2 StrV ps vs → (∀ p ∈ ps, p.length ≤ 50) →
    (∀ out : Str, out.length ≤ acc.length + 52 * ps.length → Q out s) →
    wpAny (model pw w) A (forIn (vs.zipIdx k) acc fun x text => match x with
      | (p, k) => do
        let some s ← asStr? p | unsupported "internal:list.__repr__.loop"
        pure (ForInStep.yield (text ++ (if k > 0 then ", " else "" : String) ++ s))) Q E s := by
  intro ps
  induction ps with
  | nil =>
    intro vs k acc s ha hl h
    cases ha
    exact wpAny_pure (h acc (by simp))
  | cons p ps ih =>
    intro vs k acc s ha hl h
    cases ha with
    | @cons _ v _ vs hv ha =>
      obtain ⟨u, rfl⟩ := hv
      rw [List.zipIdx_cons, List.forIn_cons]
      refine wpAny_bind (wpAny_bind (wpAny_pure ?_))
      refine wpAny_pure ?_
      refine ih vs (k + 1) _ s ha (fun q hq => hl q (.tail _ hq)) fun out ho => h out ?_
      have hp := hl p (.head _)
      rw [strLen_append, strLen_append] at ho
      have hs : (Str.ofString (if k > 0 then ", " else "")).length ≤ 2 := by split <;> decide
      rw [List.length_cons]
      omega
theorem Rm.loopL {args : Args} (r : Rm (n + 3) A) : Rm n (A.under (.builtin "list.__repr__.loop" args)) := by
  have w1 : (Code.builtin "list.__repr__.loop" args).weight ≤ 3 := by exact Nat.le_of_ble_eq_true rfl
  have w2 : (Code.builtin "list.__repr__.loop" args).cUnits ≤ 60 := by exact Nat.le_of_ble_eq_true rfl
  exact ⟨r.hh, by have := r.dp; show A.depth + _ + n ≤ 900; omega, by have := r.un; show A.units + _ + 60 * n ≤ 9000; omega⟩
theorem repr_loop {T D dx : Addr} {xs : List Value} {nn : Nat} (r : Rm (n + 9) A) :
    ∀ (rest : Row) (vs pre : List Value) (ps : List Str) (pvs : List Value) (i signs : Nat) (s : Shared), Gd w mg mb s → xs = pre ++ vs → pre.length = i → All2 (TagV s.heap) rest vs → (∀ p ∈ rest, p ∈ tagList) → s.heap.get? T = some (tagsO dx xs.toArray nn) → Hi T →
      s.heap.PlainList D pvs.toArray → Hi D → T ≠ D → All2 StrV ps pvs → (∀ p ∈ ps, p.length ≤ 50) → ps.length + rest.length ≤ 100 → signs ≤ 52 * ps.length →
      (∀ (t : Str) u s', Ex [D] s s' → t.length ≤ 6000 → Q (.str t u) s') →
      codeAny (model pw w) A (.builtin "list.__repr__.loop" ⟨[.ref T, rawInt i, .ref D, rawInt signs], []⟩) (Back Q E) s := by
  intro rest
  induction rest with
  | nil =>
    intro vs pre ps pvs i signs s G hxs hi ha hp hT hiT hD hiD hTD hps hpl hlen hsg h
    cases ha
    obtain ⟨nD, eD⟩ := hD
    refine codeAny_builtin F.entry_list_repr_loop ?_
    show wpAny _ _ (Builtin.«list.__repr__.loop» ⟨[.ref T, .int i 0, .ref D, .int signs 0], []⟩) _ _ s
    unfold Builtin.«list.__repr__.loop»
    refine wpAny_bind (wpAny_listItems hT rfl ?_)
    have hnone : xs.toArray[(i : Int).toNat]? = none := by rw [hxs]; simp [← hi]
    simp only [hnone]
    refine wpAny_bind (wpAny_listItems eD rfl ?_)
    refine wpAny_bind (join_parts ps pvs 0 "[" s hps hpl fun out ho => ?_)
    have h1 : ("[" : Str).length = 1 := by rfl
    have h2 : (out ++ "]" : Str).length ≤ 6000 := by
      rw [strLen_append]
      have : ("]" : Str).length = 1 := by rfl
      simp at hlen
      omega
    refine wpAny_bind (wpAny_mkStr (wpAny_pure ?_) (by rw [sizeLine_eq]; omega))
    exact h _ _ _ (ex_self (Ex.tok _) hiD) h2
  | cons p rest ih =>
    intro vs pre ps pvs i signs s G hxs hi ha hp hT hiT hD hiD hTD hps hpl hlen hsg h
    cases ha with
    | @cons _ v _ vs hv ha =>
      obtain ⟨x, rfl, tx⟩ := hv
      simp only [List.length_cons] at hlen
      refine codeAny_builtin F.entry_list_repr_loop ?_
      show wpAny _ _ (Builtin.«list.__repr__.loop» ⟨[.ref T, .int i 0, .ref D, .int signs 0], []⟩) _ _ s
      unfold Builtin.«list.__repr__.loop»
      refine wpAny_bind (wpAny_listItems hT rfl ?_)
      have hsome : xs.toArray[i]? = some (.ref x) := by rw [hxs]; simp [← hi]
      simp only [Int.toNat_natCast, hsome]
      refine wpAny_bind (wpAny_holding (under_tag (n := n) (b := signs + 1) r.loopL G tx (hp p (.head _)) (by omega) fun t s1 Y1 hl => ?_))
      refine wpAny_bind (wpAny_mkStr ?_ (by rw [sizeLine_eq]; omega))
      obtain ⟨nD, eD⟩ := PlainList.ex Y1 hD hiD (by simp)
      refine wpAny_bind ?_
      show wpAny _ _ (updateSeq D _) _ _ _
      have hsz : pvs.toArray.size ≤ 100 := by rw [List.size_toArray, ← hps.len]; omega
      have eu := Heap.get?_update_self (h := s1.heap) (Obj.mapSeq (·.push (Value.str t s1.toks))) eD rfl
      have Yu : Ex [D] s1 { s1 with heap := s1.heap.update D (Obj.mapSeq (·.push (Value.str t s1.toks))), toks := s1.toks + 1 } := Ex.turn eD (by rintro (⟨h, _⟩ | ⟨h, _⟩) <;> simp at h) hiD (Heap.SameBut.update ..) ⟨_, eu⟩
      refine wpAny_updateSeq (s := { s1 with toks := s1.toks + 1 }) eD rfl (wpAny_pure ⟨F.quiet_list_repr_loop _, ?_⟩) (by rw [sizeLine_eq]; omega) (by rw [sizeLine_eq, Array.size_push]; omega)
      have Y1u : Ex [D] s _ := Y1.of0 Yu
      have e1 : ((i : Int) + 1) = ((i + 1 : Nat) : Int) := by omega
      rw [e1]
      refine ih vs (pre ++ [.ref x]) (ps ++ [t]) (pvs ++ [.str t s1.toks]) (i + 1) (signs + (t.length + 2)) _ (G.ex Y1u) (by rw [hxs]; simp) (by simp [hi]) (ha.imp fun _ _ z => z.ex Y1u) (fun q hq => hp q (.tail _ hq)) (Y1u.get hT hiT.tab (by simpa using hTD) (by simp)) hiT ?_ hiD hTD (hps.snoc ⟨_, rfl⟩) ?_ ?_ ?_ ?_
      · refine ⟨nD + 1, ?_⟩
        rw [eu]
        simp [Obj.mapSeq]
      · intro q hq
        rcases List.mem_append.mp hq with hq | hq
        · exact hpl q hq
        · rw [List.mem_singleton.mp hq]; exact hl
      · simp; omega
      · simp; omega
      · exact fun t' u s' Y ht' => h t' u s' (Y1u.same Y) ht'
end Mine

namespace Mine
variable {w : World} {mg mb : Str → Option Value}
variable {s : Shared} {Q : Value → Shared → Prop} {E : Value → Shared → Prop} {A : Around} {n : Nat}

local macro_rules | `(tactic| walk_at "m go") => `(tactic| first
  | with_reducible refine wpAny_execs_cons ?_
  | with_reducible refine wpAny_Return_some ?_
  | with_reducible refine wpAny_Call_NameR ?_
  | with_reducible refine wpAny_items_cons ?_ (by with_unfolding_all rfl)
  | with_reducible refine wpAny_items_nil ?_
  | with_reducible refine Attribute_name ?_
  | with_reducible refine wpAny_Compare1 ?_ (by with_unfolding_all rfl)
  | with_reducible refine wpAny_isTrue_Compare1 ?_ (by with_unfolding_all rfl)
  | with_reducible refine wpAny_isTrue_Not ?_
  | with_reducible refine wpAny_isTrue_BoolOp ?_
  | with_reducible refine wpAny_allTrue_And_cons ?_
  | with_reducible refine wpAny_allTrue_And_nil ?_
  | with_reducible refine wpAny_allTrue_Or_cons ?_
  | with_reducible refine wpAny_allTrue_Or_nil ?_
  | with_reducible refine wpAny_If ?_
  | ((with_reducible show wpAny _ _ (exec (.Expr _ _) _) _ _ _); refine wpAny_Expr_any ?_)
  | ((with_reducible show wpAny _ _ (eval (.Call (.Attribute _ _ _) _ [] _) _) _ _ _); refine MethodCall_ ?_ (by rfl))
  | with_reducible refine wpAny_truthy_bool ?_
  | with_reducible refine wpAny_execs_nil ?_
  | ((with_reducible show wpAny _ _ (PySem.isTrue (.Call _ _ _ _) _ _) _ _ _); refine wpAny_isTrue_value ?_ (by rfl))
  | ((with_reducible show wpAny _ _ (PySem.isTrue (.Name _ _) _ _) _ _ _); refine wpAny_isTrue_value ?_ (by rfl))
  | with_reducible refine wpAny_Assign_Name ?_ (by with_unfolding_all rfl)
  | with_reducible refine wpAny_Constant_int ?_
  | with_reducible refine wpAny_Constant_str ?_
  | with_reducible refine wpAny_Constant_bool ?_
  | with_reducible refine wpAny_Constant_none ?_
  | ((with_reducible show wpAny _ _ (eval (.Name _ _) _) _ _ _); first
    | refine Fm.ldL ‹Fm _ _ _ _ _ _ _ _› (by rfl) ?_
    | refine Fm.ldL ‹Fm _ _ _ _ _ _ _ _› (by assumption) ?_
    | refine Fm.ldG ‹Fm _ _ _ _ _ _ _ _› (by rfl) ?_
    | (refine Fm.ldB (v := .builtin _) ‹Fm _ _ _ _ _ _ _ _› (by rfl) (by rfl) ?_; dsimp only)
    | (refine Fm.ldB (v := .type _) ‹Fm _ _ _ _ _ _ _ _› (by rfl) (by rfl) ?_; dsimp only))
  | ((with_reducible show wpAny _ _ (callWith _ (.builtin _) _ _ _) _ _ _); refine PyProof.Rows.callWith_builtin1 ?_ (by with_unfolding_all rfl) (by with_unfolding_all rfl))
  | ((with_reducible show wpAny _ _ (callWith _ (.type _) _ _ _) _ _ _); refine Mine.callWith_ty ?_ (by with_unfolding_all rfl) (by with_unfolding_all rfl))
  | ((with_reducible show wpAny _ _ (callWith _ (.ref _) _ _ _) _ _ _); refine callWith_K (Fm.G ‹Fm _ _ _ _ _ _ _ _›).K (by rfl) ?_))

theorem tags_repr {T dx : Addr} {row : Row} (r : Rm (n + 10) A) (G : Gd w mg mb s) (hT : TagsAt s.heap T dx row) (hiT : Hi T) (hp : ∀ p ∈ row, p ∈ tagList) (hl : row.length ≤ 100) (h : ∀ (t : Str) u s', Ex [] s s' → t.length ≤ 6000 → Q (.str t u) s') : wpAny (model pw w) A (call (.builtin "list.__repr__") [.ref T]) Q E s := by
  obtain ⟨xs, ⟨nn, e⟩, ha, hd⟩ := hT
  refine tags_bi (.inl (by decide +kernel)) (nm := "__repr__") (by decide +kernel) (by decide +kernel) PySem.F.entry_list_repr (PySem.F.args_list_repr_1 _) G.K e ?_
  unfold Builtin.«list.__repr__» Builtin.listReprAt
  refine wpAny_bind (m := slotArgs "__repr__" 0 _) (wpAny_pure ?_)
  dsimp only
  refine wpAny_bind (wpAny_listItems e rfl ?_)
  split
  · refine wpAny_bind (wpAny_rule ?_)
    refine wpAny_bind (wpAny_mkStr (wpAny_pure (h _ _ _ (Ex.tok _) ?_)) ?_) <;> first | decide | (rw [sizeLine_eq]; decide)
  · refine wpAny_bind (wpAny_stack fun st _ _ _ => ?_)
    split
    · refine wpAny_bind (wpAny_rule ?_)
      refine wpAny_bind (wpAny_mkStr (wpAny_pure (h _ _ _ (Ex.tok _) ?_)) ?_) <;> first | decide | (rw [sizeLine_eq]; decide)
    · refine wpAny_bind (wpAny_newObj_type ?_ (by size_fits))
      have fD := get_size s.heap
      have Y := Ex.push (s := s) ({ cls := .type "list", data := .seq #[] } : Obj) s.toks
      have hTD : T ≠ s.heap.objs.size := fun z => by rw [z, fD] at e; cases e
      refine wpAny_pure ⟨PySem.F.quiet_list_repr_loop _, ?_⟩
      have key := repr_loop (w := w) (mg := mg) (mb := mb) (Q := Q) (E := E) (D := s.heap.objs.size) (dx := dx) (nn := nn) (xs := xs) (T := T) (n := n) (A := A) (r.mono (by omega)) row xs [] [] [] 0 0 { s with heap := s.heap.push { cls := .type "list", data := .seq #[] } } (G.ex Y) rfl rfl (ha.imp fun _ _ z => z.ex Y) hp (Y.get e hiT.tab (by simp) (by simp)) hiT ⟨_, Heap.get?_push_size _ rfl⟩ (G.hi fD) hTD .nil (by simp) (by simpa using hl) (by simp) (fun t u s' Y' ht => h t u s' ((Y.of0 Y').drop (by simpa using fD)) ht)
      exact codeAny_mono key fun rr s' z => by rcases rr with e | (v | _ | _ | _) <;> exact z
end Mine

namespace Mine
variable {w : World} {mg mb : Str → Option Value}
variable {s : Shared} {Q : Value → Shared → Prop} {E : Value → Shared → Prop} {A : Around} {n : Nat}

local macro_rules | `(tactic| walk_at "m go") => `(tactic| first
  | with_reducible refine wpAny_execs_cons ?_
  | with_reducible refine wpAny_Return_some ?_
  | with_reducible refine wpAny_Call_NameR ?_
  | with_reducible refine wpAny_items_cons ?_ (by with_unfolding_all rfl)
  | with_reducible refine wpAny_items_nil ?_
  | with_reducible refine Attribute_name ?_
  | with_reducible refine wpAny_Compare1 ?_ (by with_unfolding_all rfl)
  | with_reducible refine wpAny_isTrue_Compare1 ?_ (by with_unfolding_all rfl)
  | with_reducible refine wpAny_isTrue_Not ?_
  | with_reducible refine wpAny_isTrue_BoolOp ?_
  | with_reducible refine wpAny_allTrue_And_cons ?_
  | with_reducible refine wpAny_allTrue_And_nil ?_
  | with_reducible refine wpAny_allTrue_Or_cons ?_
  | with_reducible refine wpAny_allTrue_Or_nil ?_
  | with_reducible refine wpAny_If ?_
  | ((with_reducible show wpAny _ _ (exec (.Expr _ _) _) _ _ _); refine wpAny_Expr_any ?_)
  | ((with_reducible show wpAny _ _ (eval (.Call (.Attribute _ _ _) _ [] _) _) _ _ _); refine MethodCall_ ?_ (by rfl))
  | with_reducible refine wpAny_truthy_bool ?_
  | with_reducible refine wpAny_execs_nil ?_
  | ((with_reducible show wpAny _ _ (PySem.isTrue (.Call _ _ _ _) _ _) _ _ _); refine wpAny_isTrue_value ?_ (by rfl))
  | ((with_reducible show wpAny _ _ (PySem.isTrue (.Name _ _) _ _) _ _ _); refine wpAny_isTrue_value ?_ (by rfl))
  | with_reducible refine wpAny_Assign_Name ?_ (by with_unfolding_all rfl)
  | with_reducible refine wpAny_Constant_int ?_
  | with_reducible refine wpAny_Constant_str ?_
  | with_reducible refine wpAny_Constant_bool ?_
  | with_reducible refine wpAny_Constant_none ?_
  | ((with_reducible show wpAny _ _ (eval (.Name _ _) _) _ _ _); first
    | refine Fm.ldL ‹Fm _ _ _ _ _ _ _ _› (by rfl) ?_
    | refine Fm.ldL ‹Fm _ _ _ _ _ _ _ _› (by assumption) ?_
    | refine Fm.ldG ‹Fm _ _ _ _ _ _ _ _› (by rfl) ?_
    | (refine Fm.ldB (v := .builtin _) ‹Fm _ _ _ _ _ _ _ _› (by rfl) (by rfl) ?_; dsimp only)
    | (refine Fm.ldB (v := .type _) ‹Fm _ _ _ _ _ _ _ _› (by rfl) (by rfl) ?_; dsimp only))
  | ((with_reducible show wpAny _ _ (callWith _ (.builtin _) _ _ _) _ _ _); refine PyProof.Rows.callWith_builtin1 ?_ (by with_unfolding_all rfl) (by with_unfolding_all rfl))
  | ((with_reducible show wpAny _ _ (callWith _ (.type _) _ _ _) _ _ _); refine Mine.callWith_ty ?_ (by with_unfolding_all rfl) (by with_unfolding_all rfl))
  | ((with_reducible show wpAny _ _ (callWith _ (.ref _) _ _ _) _ _ _); refine callWith_K (Fm.G ‹Fm _ _ _ _ _ _ _ _›).K (by rfl) ?_))

theorem tags_ostr {T dx : Addr} {row : Row} (r : Rm (n + 12) A) (G : Gd w mg mb s) (hT : TagsAt s.heap T dx row) (hiT : Hi T) (hp : ∀ p ∈ row, p ∈ tagList) (hl : row.length ≤ 100) (h : ∀ (t : Str) u s', Ex [] s s' → t.length ≤ 6000 → Q (.str t u) s') : wpAny (model pw w) A (call (.builtin "object.__str__") [.ref T]) Q E s := by
  have hT' := hT
  obtain ⟨xs, ⟨nn, e⟩, ha, hd⟩ := hT'
  have X := G.K
  have to : Looks (model pw w) s.heap (typeOf (.ref T)) (.ref 323) := (Looks.ld e).andThen .now
  have sp : Looks (model pw w) s.heap (specialOf (.ref T) "__repr__") (some (.builtin "list.__repr__")) := to.andThen (looks_findIn X (by rfl))
  have bd : Looks (model pw w) s.heap (bindSpecialIfBound? (.ref T) "__repr__") (some (.builtin "list.__repr__", [.ref T])) := bound_here sp (Looks.of_pure (PySem.F.slot_list_repr.bind _))
  refine wpAny_call (codeAny_call_builtin PySem.F.slot_object_str.plain PySem.F.entry_object_str (check_slot (i := "object.__str__") (owner := "object") (n := "__str__") (by decide +kernel) (by decide +kernel) (to.andThen (looks_mroIn X (by rfl))) (PySem.F.args_object_str_1 _) ?_))
  unfold Builtin.«object.__str__»
  refine wpAny_bind (m := slotArgs "__str__" 0 _) (wpAny_pure ?_)
  refine wpAny_bind (m := cRoomFor _ _) (wpAny_cRoomFor (by have := r.un; show A.units + 1 < 9900; omega) ?_)
  unfold callSpecialIfBound?
  refine wpAny_bind (wpAny_holding (wpAny_bind (bd.here ?_)))
  dsimp only
  refine wpAny_bind ?_
  show wpAny _ _ (call (.builtin "list.__repr__") [.ref T]) _ _ _
  refine tags_repr (n := n) (Rm.mono (Rm.in1 (n := n + 11) r) (by omega)) G hT hiT hp hl fun t u s' Y ht => ?_
  exact wpAny_pure (wpAny_pure (h t u s' Y ht))
theorem tags_field {T dx : Addr} {row : Row} (r : Rm (n + 14) A) (G : Gd w mg mb s) (hT : TagsAt s.heap T dx row) (hiT : Hi T) (hp : ∀ p ∈ row, p ∈ tagList) (hl : row.length ≤ 100) (h : ∀ (t : Str) u s', Ex [] s s' → t.length ≤ 6000 → Q (.str t u) s') : wpAny (model pw w) A (formatField (.ref T) Str.empty) Q E s := by
  have hT' := hT
  obtain ⟨xs, ⟨nn, e⟩, ha, hd⟩ := hT'
  have X := G.K
  have I : InstAt s.heap T (tagsO dx xs.toArray nn) 323 (some emptyD) := ⟨e, rfl, rfl, hd⟩
  have hu : A.in1.units < cLine := by have := r.un; show A.units + 1 < 9900; omega
  refine kfo_field X I (by rfl) (by rfl) (kfo_obj (s := { s with toks := s.toks + 1 }) hu (kfo_special (s := { s with toks := s.toks + 1 }) X I (by rfl) PySem.F.slot_object_str.bind ?_))
  refine tags_ostr (s := { s with toks := s.toks + 1 }) (n := n) (Rm.mono (Rm.in1 (n := n + 13) r) (by omega)) (G.ex (Ex.tok _)) hT hiT hp hl fun t u s' Y ht => ?_
  exact ⟨_, rfl, t, u, rfl, t, u, rfl, h t u s' ((Ex.tok _).of0 Y) ht⟩

/-- _add of Tags with a code that may not stand -/
theorem x_add_bad {T X dX : Addr} {row : Row} {out : List Env} (r : Rm (n + 18) A) (hA : A.frames = some out) (hF : FunFr s.heap out) (G : Gd w mg mb s) (tg : TagsAt s.heap X dX row) (hX : Hi X) (hz : row.length ≤ 100)
    (hv : (row.all fun p => valid.contains p.1) = false) (hp : ∀ p ∈ row, p ∈ tagList)
    (hE : ∀ e s', Thrown s out e s' → E e s') :
    wpAny (model pw w) A (call (.ref 392) [.ref T, .ref X]) Q E s := by
  refine wpAny_call (call_fnE (n := n + 17) (binds := [("self", .ref T), ("tags", .ref X)]) r hA hF G (f := 392) (by rfl) (by rfl) (BindsTo.of_eq (by rfl)) fun A' L s1 r1 hA1 hF1 F => ?_)
  refine wpAny_execs_cons ?_
  repeat walk_at "m go"
  obtain ⟨xs, ⟨nx, ex⟩, ax, _⟩ := tg
  have ex1 := F.X.get ex hX.tab (by simp) (by simp)
  refine ⟨F.G.K, tags_of_tags (r1.mono (by omega : 12 + 3 ≤ n + 17)) F.G ex1 hX (by rw [List.size_toArray, ← ax.len]; omega) fun x dx nx' s2 Y2 fx fdx e2 e3 => ?_⟩
  have hix := F.G.hi fx
  have hidx := F.G.hi fdx
  have nxL := F.neL fx
  have ndxL := F.neL fdx
  have fx0 := F.new fx
  have F1 := F
  replace F := F.go Y2
  refine F.st (env := envOf _ _ L _ _) fun s3 F3 Y3 => ?_
  clear F
  have c3 := Y3.get e2 hix.tab (by simpa using nxL) (by simp)
  have c3d := Y3.get e3 hidx.tab (by simpa using ndxL) (by simp)
  clear F1
  repeat walk_at "m go"
  refine Rm.leaf (r1.mono (by omega : 1 ≤ n + 17)) (tags_len0 F3.G.K c3 (by rw [List.size_toArray, ← ax.len]; omega) fun tk s4 Y4 => ?_)
  refine PyProof.Rows.truthy_int ?_
  have F4 := F3.go Y4
  clear F3
  cases ax with
  | nil => simp at hv
  | @cons p v row xs hpv ax =>
    simp only [List.size_toArray, List.length_cons]
    rw [if_pos (by simp; omega)]
    repeat walk_at "m go"
    refine Attribute_any_ (sub_tags ?_ (fun _ _ => rfl))
    have Y34 : Ex [L] s2 s4 := Y3.then0 Y4
    have c4 := Y34.get e2 hix.tab (by simpa using nxL) (by simp)
    have c4d := Y34.get e3 hidx.tab (by simpa using ndxL) (by simp)
    repeat walk_at "m go"
    refine ⟨F4.G.K, x, dx, _, _, rfl, c4, tags_item (s := { s4 with toks := s4.toks + 1 }) F4.G.K c4 (v := v) (by simp) ?_⟩
    obtain ⟨xv, rfl, tv⟩ := hpv.ex F4.X
    refine tag_value (s := { s4 with toks := s4.toks + 1 }) (n := n) (r1.mono (by omega)) F4.G.K tv fun tv' s5 Y5 => ?_
    have F5 := (F4.tok (t := s4.toks + 1)).go Y5
    clear F4
    refine F5.st (env := envOf _ _ L _ _) fun s6 F6 Y6 => ?_
    clear F5
    have Y46 : Ex [L] s4 s6 := ((Ex.tok _).of0 Y5).of0 Y6
    have c6 := Y46.get c4 hix.tab (by simpa using nxL) (by simp)
    have c6d := Y46.get c4d hidx.tab (by simpa using ndxL) (by simp)
    have tg6 : TagsAt s6.heap x dx (p :: row) := ⟨_, ⟨_, c6⟩, .cons (hpv.ex F6.X) (ax.imp fun _ _ z => z.ex F6.X), c6d⟩
    repeat walk_at "m go"
    obtain ⟨ts, hl6, ht6⟩ := tg6.lst
    refine ⟨F6.G.K, has_valid_call (n := n + 3) (r1.mono (by omega)) F6.G hl6 ht6 hix fun s7 Y7 => ?_⟩
    rw [hv]
    have F7 := F6.go Y7
    clear F6
    refine wpAny_truthy_bool ?_
    rw [if_neg (by simp)]
    repeat walk_at "m go"
    refine raise_user r1.hh ?_
    repeat walk_at "m go"
    refine wpAny_JoinedStr ?_
    show wpAny _ _ (eval (.Constant (.str _) _ _) _) _ _ _
    refine wpAny_Constant_str ⟨_, _, rfl, by rw [sizeLine_eq]; decide, ?_⟩
    show wpAny _ _ (eval (.FormattedValue _ (-1) none _) _) _ _ _
    refine wpAny_FormattedValue_plain ?_
    repeat walk_at "m go"
    have tg7 := tg6.ex Y7 hix hidx (by simp) (by simp)
    refine tags_field (s := { s7 with toks := s7.toks + 1 }) (n := n) (r1.mono (by omega)) (F7.tok).G tg7 hix hp (by simpa using hz) fun t u s8 Y8 hl => ?_
    have F8 := (F7.tok (t := s7.toks + 1)).go Y8
    clear F7
    have hl2 : ∀ y : Str, y.length ≤ 100 → (y ++ t).length ≤ 7000 := fun y hy => by rw [strLen_append]; omega
    refine ⟨t, u, rfl, ?_, ?_, ?_⟩
    · exact Nat.le_trans (hl2 _ (by decide)) (by rw [sizeLine_eq]; decide)
    · exact Nat.le_trans (hl2 _ (by decide)) (by rw [sizeLine_eq]; decide)
    repeat walk_at "m go"
    have F8' := F8.tok (t := s8.toks + 1)
    refine ⟨F8'.G.K, Rm.leaf (r1.mono (by omega : 1 ≤ n + 17)) (exc_new0 F8'.G.K fun e a s9 ge Y9 fe ee => ?_)⟩
    have F9 := F8'.go Y9
    refine ⟨e, a, rfl, F9.G.K, ee, ?_⟩
    exact leave_new hA1 (FunFr.cons (hF.ex F9.X (by simp)) (by show (scopeOf (st2 15 5)).kind ≠ _; decide) rfl F9.N F9.hL) rfl F9.f F9.X (F8'.new fe) (F8'.G.hi fe) ee fun s' th => hE _ _ th
end Mine

namespace Mine
variable {w : World} {mg mb : Str → Option Value}
variable {s : Shared} {Q : Value → Shared → Prop} {E : Value → Shared → Prop} {A : Around} {n : Nat}

local macro_rules | `(tactic| walk_at "m go") => `(tactic| first
  | with_reducible refine wpAny_execs_cons ?_
  | with_reducible refine wpAny_Return_some ?_
  | with_reducible refine wpAny_Call_NameR ?_
  | with_reducible refine wpAny_items_cons ?_ (by with_unfolding_all rfl)
  | with_reducible refine wpAny_items_nil ?_
  | with_reducible refine Attribute_name ?_
  | with_reducible refine wpAny_Compare1 ?_ (by with_unfolding_all rfl)
  | with_reducible refine wpAny_isTrue_Compare1 ?_ (by with_unfolding_all rfl)
  | with_reducible refine wpAny_isTrue_Not ?_
  | with_reducible refine wpAny_isTrue_BoolOp ?_
  | with_reducible refine wpAny_allTrue_And_cons ?_
  | with_reducible refine wpAny_allTrue_And_nil ?_
  | with_reducible refine wpAny_allTrue_Or_cons ?_
  | with_reducible refine wpAny_allTrue_Or_nil ?_
  | with_reducible refine wpAny_If ?_
  | ((with_reducible show wpAny _ _ (exec (.Expr _ _) _) _ _ _); refine wpAny_Expr_any ?_)
  | ((with_reducible show wpAny _ _ (eval (.Call (.Attribute _ _ _) _ [] _) _) _ _ _); refine MethodCall_ ?_ (by rfl))
  | with_reducible refine wpAny_truthy_bool ?_
  | with_reducible refine wpAny_execs_nil ?_
  | ((with_reducible show wpAny _ _ (PySem.isTrue (.Call _ _ _ _) _ _) _ _ _); refine wpAny_isTrue_value ?_ (by rfl))
  | ((with_reducible show wpAny _ _ (PySem.isTrue (.Name _ _) _ _) _ _ _); refine wpAny_isTrue_value ?_ (by rfl))
  | with_reducible refine wpAny_Assign_Name ?_ (by with_unfolding_all rfl)
  | with_reducible refine wpAny_Constant_int ?_
  | with_reducible refine wpAny_Constant_str ?_
  | with_reducible refine wpAny_Constant_bool ?_
  | with_reducible refine wpAny_Constant_none ?_
  | ((with_reducible show wpAny _ _ (eval (.Name _ _) _) _ _ _); first
    | refine Fm.ldL ‹Fm _ _ _ _ _ _ _ _› (by rfl) ?_
    | refine Fm.ldL ‹Fm _ _ _ _ _ _ _ _› (by assumption) ?_
    | refine Fm.ldG ‹Fm _ _ _ _ _ _ _ _› (by rfl) ?_
    | (refine Fm.ldB (v := .builtin _) ‹Fm _ _ _ _ _ _ _ _› (by rfl) (by rfl) ?_; dsimp only)
    | (refine Fm.ldB (v := .type _) ‹Fm _ _ _ _ _ _ _ _› (by rfl) (by rfl) ?_; dsimp only))
  | ((with_reducible show wpAny _ _ (callWith _ (.builtin _) _ _ _) _ _ _); refine PyProof.Rows.callWith_builtin1 ?_ (by with_unfolding_all rfl) (by with_unfolding_all rfl))
  | ((with_reducible show wpAny _ _ (callWith _ (.type _) _ _ _) _ _ _); refine Mine.callWith_ty ?_ (by with_unfolding_all rfl) (by with_unfolding_all rfl))
  | ((with_reducible show wpAny _ _ (callWith _ (.ref _) _ _ _) _ _ _); refine callWith_K (Fm.G ‹Fm _ _ _ _ _ _ _ _›).K (by rfl) ?_))

theorem seqSize_ {a : Addr} {o : Obj} {xs : Array Value} {k : Nat} {Q : Nat → Shared → Prop} (ho : s.heap.get? a = some o) (hd : o.data = .seq xs k) (h : Q xs.size s) : wpAny (model pw w) A (seqSize a) Q E s := by
  unfold seqSize
  refine wpAny_bind (wpAny_loadPart ho ?_)
  rw [hd]; exact wpAny_pure h
theorem tags_lenH {x dx : Addr} {xs : Array Value} {nn : Nat} (X : (Kf w.params).In s.heap) (hx : s.heap.get? x = some (tagsO dx xs nn)) (hz : xs.size ≤ 1000)
    (h : ∀ t s', Ex [] s s' → Q (.int xs.size t) s') : wpAny (model pw w) A (call (.builtin "len") [.ref x]) Q E s := by
  have to : Looks (model pw w) s.heap (typeOf (.ref x)) (.ref 323) := (Looks.ld hx).andThen .now
  have sp : Looks (model pw w) s.heap (specialOf (.ref x) "__len__") (some (.builtin "list.__len__")) := to.andThen (looks_findIn X (by rfl))
  refine Calls.call_function_entry kind_len plain_len entry_len (args_len1 _) ?_
  unfold Builtin.«len»
  refine wpAny_bind (m := oneArg "len" _) (wpAny_pure ?_)
  unfold callSpecial?
  refine wpAny_bind (wpAny_bind (sp.here ?_))
  refine wpAny_holding (wpAny_bind ?_)
  rw [PySem.F.slot_list_len.bind]
  refine wpAny_pure (wpAny_bind ?_)
  show wpAny _ _ (call (.builtin "list.__len__") [.ref x]) _ _ _
  refine tags_bi (.inl (by decide +kernel)) (nm := "__len__") (by decide +kernel) (by decide +kernel) PySem.F.entry_list_len (PySem.F.args_list_len_1 _) X hx ?_
  show wpAny _ _ (seqSize x >>= fun k => retInt k) _ _ _
  refine wpAny_bind (seqSize_ hx rfl ?_)
  refine wpAny_bind (wpAny_mkInt (wpAny_pure (wpAny_pure ?_)))
  refine wpAny_bind (wpAny_holding (wpAny_pure ?_))
  refine wpAny_bind (wpAny_letGo ?_)
  show wpAny _ _ (if ((xs.size : Nat) : Int) < 0 then _ else _) _ _ _
  rw [if_neg (by omega)]
  show wpAny _ _ (if ((xs.size : Nat) : Int) ≥ 2 ^ 63 then _ else _) _ _ _
  rw [if_neg (by omega)]
  exact wpAny_bind (wpAny_mkInt (wpAny_pure ⟨_, rfl, h _ _ (Ex.tok _)⟩))

theorem law_refused_call {T dd d X dX : Addr} {kvs : List (Str × Value)} {row : Row} {out : List Env} (r : Rm (n + 21) A) (hA : A.frames = some out) (hF : FunFr s.heap out) (G : Gd w mg mb s) (t : Told w s.heap T dd d kvs) (tg : TagsAt s.heap X dX row) (hX : Hi X) (hdX : Hi dX) (hz : row.length ≤ 100)
    (hv : (row.all fun p => valid.contains p.1) = false) (hp : ∀ p ∈ row, p ∈ tagList) (nX : X ∉ frs out ∧ dX ∉ frs out)
    (h : ∀ s', Kept out s s' → Q (.bool true) s') : wpAny (model pw w) A (call (.ref 524) [.ref T, .ref X]) Q E s := by
  refine wpAny_call (call_fnE (n := n + 20) (binds := [("told", .ref T), ("tags", .ref X)]) r hA hF G (f := 524) (by rfl) (by rfl) (BindsTo.of_eq (by rfl)) fun A' L s1 r1 hA1 hF1 F => ?_)
  refine wpAny_execs_cons ?_
  refine wpAny_Try_except ?_
  have t1 := t.ex0 F.X
  have tg1 := tg.ex F.X hX hdX (by simp) (by simp)
  repeat walk_at "m go"
  refine t1.method F.G.K (name := "_add") (f := 392) (by rfl) (by rfl) (fun _ _ _ => by rfl) ?_
  repeat walk_at "m go"
  refine ⟨F.G.K, x_add_bad (n := n + 2) (r1.mono (by omega)) hA1 hF1 F.G tg1 hX hz hv hp fun e s2 th => ?_⟩
  refine caught hA1 rfl th F.G (fun G2 hq => Name_function_global (by rfl) (by rfl) (loadGlobal_global (by exact G2.g) (G2.hm _ _ (by rfl)) hq) (by decide)) fun s3 K3 => ?_
  have hout : ∀ b ∈ frs out, Hi b := fun b m => by
    obtain ⟨e', he', hf'⟩ := List.mem_filterMap.mp m
    obtain ⟨_, L2, _, _, _, hf2, _, _, hi2⟩ := hF e' he'
    rw [hf2] at hf'; cases hf'; exact hi2
  have F3 := F.goK rfl K3 hout
  have tg3 := tg.ex F3.X hX hdX nX.1 nX.2
  have K0 := Kept.of0 F.X rfl F.f K3
  clear F
  refine wpAny_execs_cons ?_
  repeat walk_at "m go"
  obtain ⟨xs, ⟨nx, ex⟩, ax, _⟩ := tg3
  refine tags_lenH F3.G.K ex (by rw [List.size_toArray, ← ax.len]; omega) fun tk s4 Y4 => ?_
  replace F3 := F3.go Y4
  repeat walk_at "m go"
  refine P.gt_int ?_
  have e1 : decide (((xs.toArray.size : Nat) : Int) > 0) = true := by
    rw [List.size_toArray, ← ax.len]
    cases row with
    | nil => simp at hv
    | cons p row => simp
  rw [e1]
  exact h _ (K0.then0 (Y4.then0 (Ex.tok _)))
end Mine

namespace Mine
variable {w : World} {mg mb : Str → Option Value}
variable {s : Shared} {Q : Value → Shared → Prop} {E : Value → Shared → Prop} {A : Around} {n : Nat}

local macro_rules | `(tactic| walk_at "m go") => `(tactic| first
  | with_reducible refine wpAny_execs_cons ?_
  | with_reducible refine wpAny_Return_some ?_
  | with_reducible refine wpAny_Call_NameR ?_
  | with_reducible refine wpAny_items_cons ?_ (by with_unfolding_all rfl)
  | with_reducible refine wpAny_items_nil ?_
  | with_reducible refine Attribute_name ?_
  | with_reducible refine wpAny_Compare1 ?_ (by with_unfolding_all rfl)
  | with_reducible refine wpAny_isTrue_Compare1 ?_ (by with_unfolding_all rfl)
  | with_reducible refine wpAny_isTrue_Not ?_
  | with_reducible refine wpAny_isTrue_BoolOp ?_
  | with_reducible refine wpAny_allTrue_And_cons ?_
  | with_reducible refine wpAny_allTrue_And_nil ?_
  | with_reducible refine wpAny_allTrue_Or_cons ?_
  | with_reducible refine wpAny_allTrue_Or_nil ?_
  | with_reducible refine wpAny_If ?_
  | ((with_reducible show wpAny _ _ (exec (.Expr _ _) _) _ _ _); refine wpAny_Expr_any ?_)
  | ((with_reducible show wpAny _ _ (eval (.Call (.Attribute _ _ _) _ [] _) _) _ _ _); refine MethodCall_ ?_ (by rfl))
  | with_reducible refine wpAny_truthy_bool ?_
  | with_reducible refine wpAny_execs_nil ?_
  | ((with_reducible show wpAny _ _ (PySem.isTrue (.Call _ _ _ _) _ _) _ _ _); refine wpAny_isTrue_value ?_ (by rfl))
  | ((with_reducible show wpAny _ _ (PySem.isTrue (.Name _ _) _ _) _ _ _); refine wpAny_isTrue_value ?_ (by rfl))
  | with_reducible refine wpAny_Assign_Name ?_ (by with_unfolding_all rfl)
  | with_reducible refine wpAny_Constant_int ?_
  | with_reducible refine wpAny_Constant_str ?_
  | with_reducible refine wpAny_Constant_bool ?_
  | with_reducible refine wpAny_Constant_none ?_
  | ((with_reducible show wpAny _ _ (eval (.Name _ _) _) _ _ _); first
    | refine Fm.ldL ‹Fm _ _ _ _ _ _ _ _› (by rfl) ?_
    | refine Fm.ldL ‹Fm _ _ _ _ _ _ _ _› (by assumption) ?_
    | refine Fm.ldG ‹Fm _ _ _ _ _ _ _ _› (by rfl) ?_
    | (refine Fm.ldB (v := .builtin _) ‹Fm _ _ _ _ _ _ _ _› (by rfl) (by rfl) ?_; dsimp only)
    | (refine Fm.ldB (v := .type _) ‹Fm _ _ _ _ _ _ _ _› (by rfl) (by rfl) ?_; dsimp only))
  | ((with_reducible show wpAny _ _ (callWith _ (.builtin _) _ _ _) _ _ _); refine PyProof.Rows.callWith_builtin1 ?_ (by with_unfolding_all rfl) (by with_unfolding_all rfl))
  | ((with_reducible show wpAny _ _ (callWith _ (.type _) _ _ _) _ _ _); refine Mine.callWith_ty ?_ (by with_unfolding_all rfl) (by with_unfolding_all rfl))
  | ((with_reducible show wpAny _ _ (callWith _ (.ref _) _ _ _) _ _ _); refine callWith_K (Fm.G ‹Fm _ _ _ _ _ _ _ _›).K (by rfl) ?_))

/-- a for over a list or Tags that the body leaves alone -/
theorem for_seq {Q : Flow → Shared → Prop} {x : Str} {px pos : Pos} {iter : Expr} {body : List Stmt} {env : Env} (hh : A.handled = none)
    (h : wpAny (model pw w) A (eval iter env) (fun xv s₁ => ∃ (l : Addr) (xs : List Value) (Inv : List Value → Shared → Prop), xv = .ref l ∧ LstAt s₁.heap l xs ∧ Hi l ∧ Gd w mg mb s₁ ∧
      (∀ s₂, Ex [] s₁ s₂ → Inv xs s₂) ∧
      (∀ it rem s₂ s₃, s₁.heap.get? it = none → (∃ o fs, s₂.heap.get? it = some o ∧ o.data = .fields fs) → Inv rem s₂ → Ex [it] s₂ s₃ → Inv rem s₃) ∧
      (∀ a pre rem s₂, xs = pre ++ a :: rem → Inv (a :: rem) s₂ → wpAny (model pw w) A (assign (.Name x px) env a) (fun _ s₃ => wpAny (model pw w) A (execs body env) (fun f s₄ => match f with
        | .next | .cont => Inv rem s₄ ∧ ∃ W, Ex W s₂ s₄ ∧ (∀ b ∈ W, ∃ o, s₁.heap.get? b = some o) ∧ l ∉ W
        | .ret v => Q (.ret v) s₄
        | .brk => False) (fun _ _ => False) s₃) (fun _ _ => False) s₂) ∧
      (∀ s₂, Inv [] s₂ → Q .next s₂)) E s) (hs : ∀ x, foldedSetIterable iter env x = pure x := by intro _; rfl) :
    wpAny (model pw w) A (exec (.For (.Name x px) iter body [] pos) env) Q E s := by
  refine wpAny_For (wpAny_mono h (fun xv s₁ h1 => ?_) fun _ _ z => z) hs
  obtain ⟨l, xs, Inv, rfl, hl, hil, G, h0, hst, turn, fin⟩ := h1
  refine lst_iter G.K hl fun it h' fit kp hit => ?_
  have Y1 : Ex [] s₁ { s₁ with heap := h', toks := s₁.toks } := Ex.of_keep kp
  have hiit := G.hi fit
  have hne : l ≠ it := fun e => by
    obtain ⟨o, n, e', _⟩ := hl.seqAt
    rw [e, fit] at e'; cases e'
  have sq : SeqAt h' l xs.toArray := SeqAt.ex Y1 hl.seqAt hil.tab (by simp)
  refine codeAny_forLoop_any (fun n s => ∃ pre rem, n = rem.length ∧ xs = pre ++ rem ∧ LI it l xs.toArray rem s ∧ Inv rem s) ?_ xs.length ⟨[], xs, rfl, rfl, ⟨hiit, hil, hne, 0, hit, sq, by simp⟩, h0 _ Y1⟩
  rintro k s2 ⟨pre, rem, rfl, hxs, st, inv⟩
  cases rem with
  | nil =>
    refine (LI.iter (w := w) hh it l xs.toArray).done st fun s3 Y3 => ?_
    exact wpAny_execs_nil (fin s3 (hst it [] s2 s3 fit (let ⟨_, _, _, _, ⟨o, e, _, d⟩, _⟩ := st; ⟨o, _, e, d⟩) inv Y3))
  | cons a rem =>
    refine (LI.iter (w := w) hh it l xs.toArray).item st fun v s3 st3 Y3 hv => ?_
    subst hv
    refine wpAny_of_eq (rfl : letOwnedTupleGo (.Name x px) (.ref it) v = pure ()) ?_
    refine wpAny_mono (turn v pre rem s3 hxs (hst it _ s2 s3 fit (let ⟨_, _, _, _, ⟨o, e, _, d⟩, _⟩ := st; ⟨o, _, e, d⟩) inv Y3)) (fun _ s4 h4 => ?_) fun _ _ z => z.elim
    refine wpAny_mono h4 (fun f s5 h5 => ?_) fun _ _ z => z.elim
    have step : (Inv rem s5 ∧ ∃ W, Ex W s3 s5 ∧ (∀ b ∈ W, ∃ o, s₁.heap.get? b = some o) ∧ l ∉ W) → ∃ m, m < (v :: rem).length ∧ ∃ pre' rem', m = rem'.length ∧ xs = pre' ++ rem' ∧ LI it l xs.toArray rem' s5 ∧ Inv rem' s5 := by
      rintro ⟨inv5, W, Y5, hW, hlW⟩
      refine ⟨rem.length, by simp, pre ++ [v], rem, rfl, by simp [hxs], st3.steady Y5 fun b m => ?_, inv5⟩
      intro q
      simp only [List.mem_cons, List.not_mem_nil, or_false] at q
      rcases q with rfl | rfl
      · obtain ⟨o, e⟩ := hW _ m; rw [fit] at e; cases e
      · exact hlW m
    cases f with
    | next => exact step h5
    | cont => exact step h5
    | brk => exact h5.elim
    | ret v => exact h5
end Mine

namespace Mine
variable {w : World} {mg mb : Str → Option Value}
variable {s : Shared} {Q : Value → Shared → Prop} {E : Value → Shared → Prop} {A : Around} {n : Nat}

local macro_rules | `(tactic| walk_at "m go") => `(tactic| first
  | with_reducible refine wpAny_execs_cons ?_
  | with_reducible refine wpAny_Return_some ?_
  | with_reducible refine wpAny_Call_NameR ?_
  | with_reducible refine wpAny_items_cons ?_ (by with_unfolding_all rfl)
  | with_reducible refine wpAny_items_nil ?_
  | with_reducible refine Attribute_name ?_
  | with_reducible refine wpAny_Compare1 ?_ (by with_unfolding_all rfl)
  | with_reducible refine wpAny_isTrue_Compare1 ?_ (by with_unfolding_all rfl)
  | with_reducible refine wpAny_isTrue_Not ?_
  | with_reducible refine wpAny_isTrue_BoolOp ?_
  | with_reducible refine wpAny_allTrue_And_cons ?_
  | with_reducible refine wpAny_allTrue_And_nil ?_
  | with_reducible refine wpAny_allTrue_Or_cons ?_
  | with_reducible refine wpAny_allTrue_Or_nil ?_
  | with_reducible refine wpAny_If ?_
  | ((with_reducible show wpAny _ _ (exec (.Expr _ _) _) _ _ _); refine wpAny_Expr_any ?_)
  | ((with_reducible show wpAny _ _ (eval (.Call (.Attribute _ _ _) _ [] _) _) _ _ _); refine MethodCall_ ?_ (by rfl))
  | with_reducible refine wpAny_truthy_bool ?_
  | with_reducible refine wpAny_execs_nil ?_
  | ((with_reducible show wpAny _ _ (PySem.isTrue (.Call _ _ _ _) _ _) _ _ _); refine wpAny_isTrue_value ?_ (by rfl))
  | ((with_reducible show wpAny _ _ (PySem.isTrue (.Name _ _) _ _) _ _ _); refine wpAny_isTrue_value ?_ (by rfl))
  | with_reducible refine wpAny_Assign_Name ?_ (by with_unfolding_all rfl)
  | with_reducible refine wpAny_Constant_int ?_
  | with_reducible refine wpAny_Constant_str ?_
  | with_reducible refine wpAny_Constant_bool ?_
  | with_reducible refine wpAny_Constant_none ?_
  | ((with_reducible show wpAny _ _ (eval (.Name _ _) _) _ _ _); first
    | refine Fm.ldL ‹Fm _ _ _ _ _ _ _ _› (by rfl) ?_
    | refine Fm.ldL ‹Fm _ _ _ _ _ _ _ _› (by assumption) ?_
    | refine Fm.ldG ‹Fm _ _ _ _ _ _ _ _› (by rfl) ?_
    | (refine Fm.ldB (v := .builtin _) ‹Fm _ _ _ _ _ _ _ _› (by rfl) (by rfl) ?_; dsimp only)
    | (refine Fm.ldB (v := .type _) ‹Fm _ _ _ _ _ _ _ _› (by rfl) (by rfl) ?_; dsimp only))
  | ((with_reducible show wpAny _ _ (callWith _ (.builtin _) _ _ _) _ _ _); refine PyProof.Rows.callWith_builtin1 ?_ (by with_unfolding_all rfl) (by with_unfolding_all rfl))
  | ((with_reducible show wpAny _ _ (callWith _ (.type _) _ _ _) _ _ _); refine Mine.callWith_ty ?_ (by with_unfolding_all rfl) (by with_unfolding_all rfl))
  | ((with_reducible show wpAny _ _ (callWith _ (.ref _) _ _ _) _ _ _); refine callWith_K (Fm.G ‹Fm _ _ _ _ _ _ _ _›).K (by rfl) ?_))

abbrev Data := List (Str × Row)
def keyed (data : Data) (k : Str) (row : Row) : Data := if data.any (fun kv => kv.1 = k) then data.map (fun kv => if kv.1 = k then (kv.1, row) else kv) else data ++ [(k, row)]
/-- what _add makes of the data -/
def putR (data : Data) : Row → Data
  | [] => data
  | p :: row => keyed data p.2 (p :: row)
def cut (data : Data) (k : Str) : Data := data.filter fun kv => decide (kv.1 ≠ k)

def Ent (h : Heap) (d : Addr) (N : List Addr) (kr : Str × Row) (kv : Str × Value) : Prop := kv.1 = kr.1 ∧ ∃ X dx, kv.2 = .ref X ∧ TagsAt h X dx kr.2 ∧ Hi X ∧ Hi dx ∧ dx ≠ d ∧ kr.2.length ≤ 100 ∧ X ∉ N ∧ dx ∉ N
/-- XData and the rows in it; N: what it does not touch -/
structure Full (w : World) (s : Shared) (T dd d : Addr) (N : List Addr) (data : Data) (kvs : List (Str × Value)) : Prop where
  told : Told w s.heap T dd d kvs
  ents : All2 (Ent s.heap d N) data kvs
  nd : (kvs.map (·.2)).Nodup
  nT : T ∉ N
  ndd : dd ∉ N
  nd' : d ∉ N
theorem Ent.ex {W : List Addr} {s s' : Shared} {d : Addr} {N : List Addr} {kr : Str × Row} {kv : Str × Value} (Y : Ex W s s') (h : Ent s.heap d N kr kv) (hW : ∀ X dx, kv.2 = .ref X → TagsAt s.heap X dx kr.2 → dx ≠ d → X ∉ N → dx ∉ N → X ∉ W ∧ dx ∉ W) : Ent s'.heap d N kr kv := by
  obtain ⟨e, X, dx, e2, t, hX, hdx, hn, hl, n1, n2⟩ := h
  obtain ⟨a, b⟩ := hW X dx e2 t hn n1 n2
  exact ⟨e, X, dx, e2, t.ex Y hX hdx a b, hX, hdx, hn, hl, n1, n2⟩
theorem All2.mapMem {α β : Type} {R S : α → β → Prop} : ∀ {l : List α} {m : List β}, All2 R l m → (∀ a b, a ∈ l → b ∈ m → R a b → S a b) → All2 S l m
  | _, _, .nil, _ => .nil
  | _, _, .cons h t, f => .cons (f _ _ (.head _) (.head _) h) (t.mapMem fun a b ha hb => f a b (.tail _ ha) (.tail _ hb))
theorem Full.ex0 {s s' : Shared} {T dd d : Addr} {N : List Addr} {data : Data} {kvs : List (Str × Value)} (Y : Ex [] s s') (f : Full w s T dd d N data kvs) : Full w s' T dd d N data kvs :=
  ⟨f.told.ex0 Y, f.ents.imp fun _ _ z => z.ex Y fun _ _ _ _ _ _ _ => ⟨by simp, by simp⟩, f.nd, f.nT, f.ndd, f.nd'⟩
/-- only what it does not touch is turned -/
theorem Full.exN {W : List Addr} {s s' : Shared} {T dd d : Addr} {N : List Addr} {data : Data} {kvs : List (Str × Value)} (Y : Ex W s s') (hW : ∀ b ∈ W, b ∈ N) (f : Full w s T dd d N data kvs) : Full w s' T dd d N data kvs :=
  ⟨f.told.ex Y (fun m => f.nT (hW _ m)) (fun m => f.ndd (hW _ m)) (fun m => f.nd' (hW _ m)), f.ents.imp fun _ _ z => z.ex Y fun X dx _ _ _ n1 n2 => ⟨fun m => n1 (hW _ m), fun m => n2 (hW _ m)⟩, f.nd, f.nT, f.ndd, f.nd'⟩
theorem TagsAt.notList {h : Heap} {X dx : Addr} {row : Row} {b : Addr} {xs : Array Value} (t : TagsAt h X dx row) (l : h.PlainList b xs) : X ≠ b ∧ dx ≠ b := by
  obtain ⟨ys, ⟨n, e⟩, _, e2⟩ := t
  obtain ⟨n', e'⟩ := l
  constructor
  · rintro rfl; rw [e] at e'; cases e'
  · rintro rfl; rw [e2] at e'; simp at e'
theorem Told.notList {h : Heap} {T dd d : Addr} {kvs : List (Str × Value)} {b : Addr} {xs : Array Value} (t : Told w h T dd d kvs) (l : h.PlainList b xs) : T ≠ b ∧ dd ≠ b ∧ d ≠ b := by
  obtain ⟨e, hs, tk, k, e2⟩ := t.inst
  obtain ⟨o, es, ep, e3, _, hd, _⟩ := t.dict
  obtain ⟨n', e'⟩ := l
  refine ⟨?_, ?_, ?_⟩
  · rintro rfl; rw [e] at e'; cases e'
  · rintro rfl; rw [e2] at e'; simp at e'
  · rintro rfl; rw [e3] at e'; cases e'; cases hd
/-- a plain list is turned -/
theorem Full.exL {s s' : Shared} {T dd d b : Addr} {N : List Addr} {data : Data} {kvs : List (Str × Value)} {xs : Array Value} (Y : Ex [b] s s') (l : s.heap.PlainList b xs) (f : Full w s T dd d N data kvs) : Full w s' T dd d N data kvs := by
  obtain ⟨a1, a2, a3⟩ := f.told.notList l
  exact ⟨f.told.ex Y (by simpa using a1) (by simpa using a2) (by simpa using a3), f.ents.imp fun _ _ z => z.ex Y fun X dx _ t _ _ _ => by
    obtain ⟨b1, b2⟩ := t.notList l
    exact ⟨by simpa using b1, by simpa using b2⟩, f.nd, f.nT, f.ndd, f.nd'⟩

theorem ents_any {h : Heap} {d : Addr} {N : List Addr} {data : Data} {kvs : List (Str × Value)} (a : All2 (Ent h d N) data kvs) (k : Str) : (kvs.any fun kv => decide (kv.1 = k)) = data.any fun kr => decide (kr.1 = k) := by
  induction a with
  | nil => rfl
  | cons h _ ih => rw [List.any_cons, List.any_cons, ih, h.1]
theorem ents_stored {h : Heap} {d : Addr} {N : List Addr} {data : Data} {kvs : List (Str × Value)} {k : Str} {row : Row} {v : Value} (a : All2 (Ent h d N) data kvs) (e : Ent h d N (k, row) (k, v)) : All2 (Ent h d N) (keyed data k row) (stored kvs k v) := by
  unfold keyed stored
  have := ents_any a k
  split
  · rename_i hc
    rw [if_pos (by rw [this]; exact hc)]
    clear this hc
    induction a with
    | nil => exact .nil
    | @cons x y l m hxy _ ih =>
      rw [List.map_cons, List.map_cons]
      refine .cons ?_ ih
      by_cases q : x.1 = k
      · have q' : y.1 = k := hxy.1.trans q
        rw [if_pos q, if_pos q']
        exact ⟨q'.trans q.symm, e.2⟩
      · have q' : ¬ y.1 = k := fun z => q (hxy.1.symm.trans z)
        rw [if_neg q, if_neg q']
        exact hxy
  · rename_i hc
    rw [if_neg (by rw [this]; exact hc)]
    exact a.snoc e
theorem ents_cut {h : Heap} {d : Addr} {N : List Addr} {data : Data} {kvs : List (Str × Value)} (a : All2 (Ent h d N) data kvs) (k : Str) : All2 (Ent h d N) (cut data k) (without kvs k) := by
  unfold cut without
  induction a with
  | nil => exact .nil
  | @cons x y l m hxy _ ih =>
    by_cases q : x.1 = k
    · have q' : y.1 = k := hxy.1.trans q
      rw [List.filter_cons_of_neg (by simp [q]), List.filter_cons_of_neg (by simp [q'])]
      exact ih
    · have q' : ¬ y.1 = k := fun z => q (hxy.1.symm.trans z)
      rw [List.filter_cons_of_pos (by simp [q]), List.filter_cons_of_pos (by simp [q'])]
      exact .cons hxy ih
theorem nodup_stored {kvs : List (Str × Value)} {k : Str} {v : Value} (hn : (kvs.map (·.2)).Nodup) (hv : v ∉ kvs.map (·.2)) (hk : (kvs.map (·.1)).Nodup) : ((stored kvs k v).map (·.2)).Nodup := by
  unfold stored
  split
  · induction kvs with
    | nil => simp
    | cons x l ih =>
      simp only [List.map_cons, List.nodup_cons, List.mem_cons, not_or] at hn hv hk ⊢
      by_cases q : x.1 = k
      · have e : (l.map fun kv => if kv.1 = k then (kv.1, v) else kv) = l := map_store_of_not_mem l k v (by rw [← q]; exact hk.1)
        rw [if_pos q, e]
        exact ⟨hv.2, hn.2⟩
      · rw [if_neg q]
        refine ⟨?_, ?_⟩
        · intro m
          obtain ⟨y, hy, e⟩ := List.mem_map.mp m
          obtain ⟨z, hz, rfl⟩ := List.mem_map.mp hy
          by_cases q2 : z.1 = k
          · rw [if_pos q2] at e; exact hv.1 e
          · rw [if_neg q2] at e; exact hn.1 (List.mem_map.mpr ⟨z, hz, e⟩)
        · by_cases hany : (l.any fun kv => decide (kv.1 = k)) = true
          · exact ih hn.2 hv.2 hk.2 hany
          · have e : (l.map fun kv => if kv.1 = k then (kv.1, v) else kv) = l := map_store_of_not_mem l k v (fun m => hany (by
              obtain ⟨y, hy, e⟩ := List.mem_map.mp m
              exact List.any_eq_true.mpr ⟨y, hy, by simpa using e⟩))
            rw [e]; exact hn.2
  · rw [List.map_append, List.nodup_append]
    exact ⟨hn, by simp, fun a ha b hb e => by simp at hb; subst hb; exact hv (e ▸ ha)⟩
theorem nodup_without {kvs : List (Str × Value)} {k : Str} (hn : (kvs.map (·.2)).Nodup) : ((without kvs k).map (·.2)).Nodup := by
  unfold without
  exact hn.sublist ((List.filter_sublist).map _)

/-- an iterator is turned -/
theorem Full.exF {s s' : Shared} {T dd d b : Addr} {N : List Addr} {data : Data} {kvs : List (Str × Value)} (Y : Ex [b] s s') (l : ∃ o fs, s.heap.get? b = some o ∧ o.data = .fields fs) (f : Full w s T dd d N data kvs) : Full w s' T dd d N data kvs := by
  obtain ⟨ob, fs, eb, hb⟩ := l
  have no : ∀ a o, s.heap.get? a = some o → (∀ fs, o.data ≠ .fields fs) → a ∉ [b] := fun a o e h m => by
    rw [List.mem_singleton.mp m, eb] at e; cases e; exact h _ hb
  obtain ⟨e, hs, tk, k, e2⟩ := f.told.inst
  obtain ⟨o, es, ep, e3, _, hd, _⟩ := f.told.dict
  refine ⟨f.told.ex Y (no _ _ e (by simp)) (no _ _ e2 (by simp)) (no _ _ e3 (by rw [hd]; simp)), f.ents.imp fun _ _ z => z.ex Y fun X dx _ t _ _ _ => ?_, f.nd, f.nT, f.ndd, f.nd'⟩
  obtain ⟨ys, ⟨n, e⟩, _, e2⟩ := t
  exact ⟨no _ _ e (by simp), no _ _ e2 (by simp)⟩
end Mine

namespace Mine
variable {w : World} {mg mb : Str → Option Value}
variable {s : Shared} {Q : Value → Shared → Prop} {E : Value → Shared → Prop} {A : Around} {n : Nat}

local macro_rules | `(tactic| walk_at "m go") => `(tactic| first
  | with_reducible refine wpAny_execs_cons ?_
  | with_reducible refine wpAny_Return_some ?_
  | with_reducible refine wpAny_Call_NameR ?_
  | with_reducible refine wpAny_items_cons ?_ (by with_unfolding_all rfl)
  | with_reducible refine wpAny_items_nil ?_
  | with_reducible refine Attribute_name ?_
  | with_reducible refine wpAny_Compare1 ?_ (by with_unfolding_all rfl)
  | with_reducible refine wpAny_isTrue_Compare1 ?_ (by with_unfolding_all rfl)
  | with_reducible refine wpAny_isTrue_Not ?_
  | with_reducible refine wpAny_isTrue_BoolOp ?_
  | with_reducible refine wpAny_allTrue_And_cons ?_
  | with_reducible refine wpAny_allTrue_And_nil ?_
  | with_reducible refine wpAny_allTrue_Or_cons ?_
  | with_reducible refine wpAny_allTrue_Or_nil ?_
  | with_reducible refine wpAny_If ?_
  | ((with_reducible show wpAny _ _ (exec (.Expr _ _) _) _ _ _); refine wpAny_Expr_any ?_)
  | ((with_reducible show wpAny _ _ (eval (.Call (.Attribute _ _ _) _ [] _) _) _ _ _); refine MethodCall_ ?_ (by rfl))
  | with_reducible refine wpAny_truthy_bool ?_
  | with_reducible refine wpAny_execs_nil ?_
  | ((with_reducible show wpAny _ _ (PySem.isTrue (.Call _ _ _ _) _ _) _ _ _); refine wpAny_isTrue_value ?_ (by rfl))
  | ((with_reducible show wpAny _ _ (PySem.isTrue (.Name _ _) _ _) _ _ _); refine wpAny_isTrue_value ?_ (by rfl))
  | with_reducible refine wpAny_Assign_Name ?_ (by with_unfolding_all rfl)
  | with_reducible refine wpAny_Constant_int ?_
  | with_reducible refine wpAny_Constant_str ?_
  | with_reducible refine wpAny_Constant_bool ?_
  | with_reducible refine wpAny_Constant_none ?_
  | ((with_reducible show wpAny _ _ (eval (.Name _ _) _) _ _ _); first
    | refine Fm.ldL ‹Fm _ _ _ _ _ _ _ _› (by rfl) ?_
    | refine Fm.ldL ‹Fm _ _ _ _ _ _ _ _› (by assumption) ?_
    | refine Fm.ldG ‹Fm _ _ _ _ _ _ _ _› (by rfl) ?_
    | (refine Fm.ldB (v := .builtin _) ‹Fm _ _ _ _ _ _ _ _› (by rfl) (by rfl) ?_; dsimp only)
    | (refine Fm.ldB (v := .type _) ‹Fm _ _ _ _ _ _ _ _› (by rfl) (by rfl) ?_; dsimp only))
  | ((with_reducible show wpAny _ _ (callWith _ (.builtin _) _ _ _) _ _ _); refine PyProof.Rows.callWith_builtin1 ?_ (by with_unfolding_all rfl) (by with_unfolding_all rfl))
  | ((with_reducible show wpAny _ _ (callWith _ (.type _) _ _ _) _ _ _); refine Mine.callWith_ty ?_ (by with_unfolding_all rfl) (by with_unfolding_all rfl))
  | ((with_reducible show wpAny _ _ (callWith _ (.ref _) _ _ _) _ _ _); refine callWith_K (Fm.G ‹Fm _ _ _ _ _ _ _ _›).K (by rfl) ?_))

theorem Full.len {T dd d : Addr} {N : List Addr} {data : Data} {kvs : List (Str × Value)} (f : Full w s T dd d N data kvs) : kvs.length = data.length := f.ents.len.symm
theorem Full.nk {T dd d : Addr} {N : List Addr} {data : Data} {kvs : List (Str × Value)} (f : Full w s T dd d N data kvs) : (kvs.map (·.1)).Nodup := let ⟨_, _, _, _, _, _, _, _, h⟩ := f.told.dict; h
theorem TagsAt.ne_d {h : Heap} {X dx T dd d : Addr} {row : Row} {kvs : List (Str × Value)} (t : TagsAt h X dx row) (f : Told w h T dd d kvs) : X ≠ d := by
  obtain ⟨ys, ⟨n, e⟩, _, _⟩ := t
  obtain ⟨o, es, ep, e3, _, hd, _⟩ := f.dict
  rintro rfl; rw [e] at e3; cases e3; cases hd
theorem x_addF {T dd d X dX : Addr} {N : List Addr} {data : Data} {kvs : List (Str × Value)} {row : Row} (r : Rm (n + 16) A) (G : Gd w mg mb s) (f : Full w s T dd d N data kvs) (hN : ∀ b ∈ N, ∃ o, s.heap.get? b = some o) (hlen : data.length ≤ 50) (tg : TagsAt s.heap X dX row) (hX : Hi X) (hz : row.length ≤ 100)
    (hv : (row.all fun p => valid.contains p.1) = true) (h : ∀ s' kvs', Ex [d] s s' → Full w s' T dd d N (putR data row) kvs' → Q .none s') :
    wpAny (model pw w) A (call (.ref 392) [.ref T, .ref X]) Q E s := by
  have hk : kvs.length ≤ 99 := by rw [f.len]; omega
  refine x_add r G f.told hk tg hX (by omega) hv fun s' => ?_
  cases row with
  | nil =>
    intro Y
    exact h s' kvs (ex_self Y f.told.hd) (f.ex0 Y)
  | cons p row =>
    intro T' dx' Y fT fdx tg' told'
    refine h s' (stored kvs p.2 (.ref T')) Y ?_
    have ex_ne : ∀ b, (∃ o, s.heap.get? b = some o) → T' ≠ b ∧ dx' ≠ b := fun b ⟨o, e⟩ => ⟨(fun z => by rw [← z, fT] at e; cases e), (fun z => by rw [← z, fdx] at e; cases e)⟩
    have old : All2 (Ent s'.heap d N) data kvs := f.ents.imp fun kr kv z => z.ex Y fun X dx _ t hn _ _ => ⟨by simpa using t.ne_d f.told, by simpa using hn⟩
    have dO : ∃ o, s.heap.get? d = some o := let ⟨o, _, _, e, _⟩ := f.told.dict; ⟨o, e⟩
    have new : Ent s'.heap d N (p.2, p :: row) (p.2, .ref T') := ⟨rfl, T', dx', rfl, tg', G.hi fT, G.hi fdx, (ex_ne d dO).2, hz, fun m => (ex_ne T' (hN _ m)).1 rfl, fun m => (ex_ne dx' (hN _ m)).2 rfl⟩
    refine ⟨told', ents_stored old new, nodup_stored f.nd ?_ f.nk, f.nT, f.ndd, f.nd'⟩
    intro m
    obtain ⟨kv, hkv, e⟩ := List.mem_map.mp m
    obtain ⟨kr, _, z⟩ := f.ents.mem hkv
    obtain ⟨_, X', dx, e2, ⟨ys, ⟨n', e3⟩, _⟩, _⟩ := z
    rw [e] at e2
    cases e2
    rw [fT] at e3; cases e3
theorem x_discardF {T dd d : Addr} {N : List Addr} {data : Data} {kvs : List (Str × Value)} {k : Str} {tk : Tok} (r : Rm (n + 2) A) (G : Gd w mg mb s) (f : Full w s T dd d N data kvs) (h : ∀ s' kvs', Ex [d] s s' → Full w s' T dd d N (cut data k) kvs' → Q .none s') : wpAny (model pw w) A (call (.ref 413) [.ref T, .str k tk]) Q E s := by
  refine x_discard r G f.told fun s' Y t' => h s' _ Y ⟨t', ?_, nodup_without f.nd, f.nT, f.ndd, f.nd'⟩
  exact ents_cut (f.ents.imp fun kr kv z => z.ex Y fun X dx _ t hn _ _ => ⟨by simpa using t.ne_d f.told, by simpa using hn⟩) k

/-- a list of Tags -/
def TagsList (h : Heap) (rows : List Row) (vs : List Value) : Prop := All2 (fun row v => ∃ X dX, v = .ref X ∧ TagsAt h X dX row ∧ Hi X ∧ Hi dX ∧ row.length ≤ 100) rows vs
def putAll (data : Data) (rows : List Row) : Data := rows.foldl putR data
theorem keyed_len (data : Data) (k : Str) (row : Row) : (keyed data k row).length ≤ data.length + 1 := by unfold keyed; split <;> simp
theorem putR_len (data : Data) (row : Row) : (putR data row).length ≤ data.length + 1 := by
  cases row with
  | nil => simp [putR]
  | cons p row => exact keyed_len _ _ _

local macro_rules | `(tactic| x_close) => `(tactic| (rename Kt _ => k9; rename Mem _ _ _ _ => D9; exact k9.out _ _ rfl (ex_mem D9) (mem_none D9 (i := 0) rfl) (mem_at D9 0 rfl rfl)))
theorem dict_new0 (K : (Kf w.params).In s.heap) (h : ∀ d s', s'.gens = s.gens → Ex [] s s' → s.heap.get? d = none → s'.heap.get? d = some emptyD → Q (.ref d) s') : wpAny (model pw w) AL (call (.type "dict") []) Q E s := by
  obtain ⟨h0, g, d, t, os⟩ := s
  have hk := Kt.mk h
  dsimp only at K hk ⊢
  x_run
theorem putAll_len : ∀ (rows : List Row) (data : Data), (putAll data rows).length ≤ data.length + rows.length
  | [], _ => Nat.le_refl _
  | row :: rows, data => by
    have e1 := putR_len data row
    have e2 := putAll_len rows (putR data row)
    show (putAll (putR data row) rows).length ≤ _
    rw [List.length_cons]; omega
theorem Full.mono {T dd d : Addr} {N N' : List Addr} {data : Data} {kvs : List (Str × Value)} (f : Full w s T dd d N' data kvs) (h : ∀ b ∈ N, b ∈ N') : Full w s T dd d N data kvs :=
  ⟨f.told, f.ents.imp fun kr kv ⟨e, X, dx, a, b, c, d', e', g, n1, n2⟩ => ⟨e, X, dx, a, b, c, d', e', g, fun m => n1 (h _ m), fun m => n2 (h _ m)⟩, f.nd, fun m => f.nT (h _ m), fun m => f.ndd (h _ m), fun m => f.nd' (h _ m)⟩
/-- XData of a list of Tags -/
theorem xdata_of {l : Addr} {rows : List Row} {vs : List Value} {N : List Addr} (r : Rm (n + 22) A) (G : Gd w mg mb s) (hl : s.heap.PlainList l vs.toArray) (hil : Hi l) (hrows : TagsList s.heap rows vs) (hn : rows.length ≤ 40) (hN : ∀ b ∈ N, ∃ o, s.heap.get? b = some o)
    (hv : ∀ row ∈ rows, (row.all fun p => valid.contains p.1) = true) (h : ∀ T dd d kvs s', Ex [] s s' → s.heap.get? T = none → s.heap.get? dd = none → s.heap.get? d = none → Full w s' T dd d N (putAll [] rows) kvs → Q (.ref T) s') :
    wpAny (model pw w) A (call (.ref 451) [.ref l]) Q E s := by
  obtain ⟨h0, g, dr, tk, os⟩ := s
  have X := G.K
  dsimp only at X
  have hi : Looks (model pw w) h0 (typeLookup (.ref 451) "__init__") (some (.ref 356)) := looks_findIn X (by rfl)
  refine wpAny_call (make_core (makes_of X (by rfl)) hi (fun self => bind_fn X self (by rfl)) (.inl (by decide)) ?_)
  generalize hT : h0.objs.size + 1 = T
  generalize hdd : h0.objs.size = dd
  have fdd : h0.get? dd = none := hdd ▸ get_size _
  have fT1 : (h0.push emptyDict).get? T = none := by rw [← hT, ← Heap.size_push h0 emptyDict]; exact get_size _
  have k1 : ∀ b o, h0.get? b = some o → ((h0.push emptyDict).push (instObj 451 dd)).get? b = some o := fun b o e => Heap.get?_push_of_some _ (Heap.get?_push_of_some _ e)
  have fT : h0.get? T = none := by
    cases e : h0.get? T with
    | none => rfl
    | some o => rw [Heap.get?_push_of_some emptyDict e] at fT1; cases fT1
  have eT : ((h0.push emptyDict).push (instObj 451 dd)).get? T = some (instObj 451 dd) := by rw [← hT, ← Heap.size_push h0 emptyDict]; exact Heap.get?_push_size _ rfl
  have edd : ((h0.push emptyDict).push (instObj 451 dd)).get? dd = some emptyD := Heap.get?_push_of_some _ (by rw [← hdd]; exact Heap.get?_push_size _ rfl)
  have Y0 : Ex [] ⟨h0, g, dr, tk, os⟩ ⟨(h0.push emptyDict).push (instObj 451 dd), g, dr, tk, os⟩ := Ex.of_keep (s := ⟨h0, g, dr, tk, os⟩) (tk := tk) k1
  have hiT := G.hi fT
  have hidd := G.hi fdd
  refine call_fn (n := n + 20) (binds := [("self", .ref T), ("xdata", .ref l)]) (Rm.tc (n := n + 21) r) (G.ex Y0) (f := 356) (by rfl) (by rfl) (BindsTo.of_defaults (T := 349) rfl ((G.ex Y0).K 349 _ (by rfl)) rfl (by rfl) (by rfl)) fun A' L s1 r1 F => ?_
  refine wpAny_execs_cons ?_
  refine plainObj_wpAny_Assign_Attribute ?_
  repeat walk_at "m go"
  refine PySem.callWith_type rfl (PySem.evalArgs_none ?_)
  show wpAny _ _ (call (.type "dict") []) _ _ _
  refine Rm.leaf (r1.mono (by omega : 1 ≤ n + 20)) (dict_new0 F.G.K fun d s2 _ Y2 fd ed => ?_)
  have fd0 : h0.get? d = none := (Y0.then0 F.X).off fd
  have hid := F.G.hi fd
  have ndL := F.neL fd
  have F2 : Fm w mg mb ⟨h0, g, dr, tk, os⟩ L (fun x => List.lookup x ([("self", .ref T), ("xdata", .ref l)] : List (Str × Value)).reverse) [] s2 := (Fm.mk F.G F.N (Y0.then0 F.X) (Y0.off F.f) F.hL).go Y2
  have eT2 := (F.X.then0 Y2).get eT hiT.tab (by simp) (by simp)
  have edd2 := (F.X.then0 Y2).get edd hidd.tab (by simp) (by simp)
  have nTd : T ≠ d := fun z => by obtain ⟨_, q⟩ := F.X.there _ _ eT; rw [z, fd] at q; cases q
  have nddd : dd ≠ d := fun z => by obtain ⟨_, q⟩ := F.X.there _ _ edd; rw [z, fd] at q; cases q
  have nTdd : T ≠ dd := fun z => by rw [z, edd] at eT; cases eT
  have nLdd : L ≠ dd := fun z => by have q := F.f; rw [z] at q; exact absurd (edd.symm.trans q) (by simp)
  have nLT : L ≠ T := fun z => by have q := F.f; rw [z] at q; exact absurd (eT.symm.trans q) (by simp)
  clear F
  repeat walk_at "m go"
  refine put_data F2.G.K eT2 edd2 hidd fun s3 hs tk3 k3 _ Y3 edd3 => ?_
  have F3 := F2.goN Y3 (by simpa using nLdd) (by simpa using fdd)
  clear F2
  have eT3 := Y3.get eT2 hiT.tab (by simpa using nTdd) (by simp)
  have ed3 := Y3.get ed hid.tab (by simpa using Ne.symm nddd) (by simp)
  have hN' : ∀ b ∈ L :: N, T ≠ b ∧ dd ≠ b ∧ d ≠ b := by
    intro b m
    rcases List.mem_cons.mp m with rfl | m
    · exact ⟨Ne.symm nLT, Ne.symm nLdd, ndL⟩
    · obtain ⟨o, e⟩ := hN b m
      exact ⟨(fun z => by rw [← z] at e; exact absurd (e.symm.trans fT) (by simp)), (fun z => by rw [← z] at e; exact absurd (e.symm.trans fdd) (by simp)), (fun z => by rw [← z] at e; exact absurd (e.symm.trans fd0) (by simp))⟩
  have full3 : Full w s3 T dd d (L :: N) [] [] := by
    refine ⟨⟨⟨eT3, hs, tk3, k3, edd3⟩, ⟨_, #[], 0, ed3, ⟨rfl, rfl, rfl⟩, rfl, fun _ he => by simp at he, .nil, List.nodup_nil⟩, hiT, hidd, hid, nddd, by simp⟩, .nil, List.nodup_nil, fun m => (hN' _ m).1 rfl, fun m => (hN' _ m).2.1 rfl, fun m => (hN' _ m).2.2 rfl⟩
  repeat walk_at "m go"
  refine wpAny_isNot_other (by rfl) (by simp) ?_
  refine wpAny_truthy_bool ?_
  rw [if_pos rfl]
  repeat walk_at "m go"
  have hr1 := r1.hh
  refine for_seq (mg := mg) (mb := mb) hr1 ?_
  repeat walk_at "m go"
  have hl3 := PlainList.ex F3.X hl hil (by simp)
  refine ⟨l, vs, fun rem s4 => ∃ m done rest kvs, rows = done ++ rest ∧ TagsList h0 rest rem ∧ Fm w mg mb ⟨h0, g, dr, tk, os⟩ L m [] s4 ∧ m "self" = some (.ref T) ∧ Full w s4 T dd d (L :: N) (putAll [] done) kvs ∧ (∀ b ∈ L :: N, ∃ o, s4.heap.get? b = some o), rfl, .inl hl3, hil, F3.G, ?_, ?_, ?_, ?_⟩
  · intro s4 Y4
    refine ⟨_, [], rows, [], rfl, hrows, F3.go Y4, by rfl, full3.ex0 Y4, fun b m => ?_⟩
    rcases List.mem_cons.mp m with rfl | m
    · obtain ⟨o, _, _, e, _⟩ := (F3.go Y4).N; exact ⟨o, e⟩
    · exact Y4.there' (F3.X.there' (hN b m))
  · rintro it rem s4 s5 fit hf ⟨m, done, rest, kvs, h1, h2, h3, h4, h5, h6⟩ Y
    have nL : L ∉ [it] := fun q => by
      obtain ⟨o, _, _, e, _⟩ := F3.N
      rw [← List.mem_singleton.mp q, e] at fit; cases fit
    exact ⟨m, done, rest, kvs, h1, h2, h3.goN Y nL (by simpa using F3.new fit), h4, h5.exF Y hf, fun b m => Y.there' (h6 b m)⟩
  · rintro a pre rem s4 hvs ⟨m, done, rest, kvs, h1, h2, h3, h4, h5, h6⟩
    cases h2 with
    | @cons row _ rest _ hrow h2 =>
      obtain ⟨X', dX', rfl, tg, hX', hdX', hlr⟩ := hrow
      refine wpAny_assign_Name (h3.st (fun s5 F5 Y5 => ?_))
      have full5 := h5.exN Y5 (by simp)
      have hm : (fun y => if y = Str.ofString "data" then some (Value.ref X') else m y) "self" = some (.ref T) := by
        show (if _ then _ else _) = _
        rw [if_neg (by decide)]
        exact h4
      refine wpAny_execs_cons ?_
      repeat walk_at "m go"
      refine full5.told.method F5.G.K (name := "_add") (f := 392) (by rfl) (by rfl) (fun _ _ _ => by rfl) ?_
      repeat walk_at "m go"
      have tg5 := tg.ex F5.X hX' hdX' (by simp) (by simp)
      have h65 : ∀ b ∈ L :: N, ∃ o, s5.heap.get? b = some o := fun b m => Y5.there' (h6 b m)
      have hvr : (row.all fun p => valid.contains p.1) = true := hv row (by rw [h1]; simp)
      have hdl : (putAll [] done).length ≤ 50 := by
        have e1 : (done ++ row :: rest).length ≤ 40 := by rw [← h1]; exact hn
        have e2 := putAll_len done []
        rw [List.length_append] at e1
        simp at e2
        omega
      refine ⟨F5.G.K, x_addF (n := n + 4) (r1.mono (by omega)) F5.G full5 h65 hdl tg5 hX' hlr hvr fun s6 kvs' Y6 full6 => ?_⟩
      have F6 := F5.goN Y6 (by simpa using Ne.symm ndL) (by simpa using fd0)
      repeat walk_at "m go"
      refine ⟨⟨_, done ++ [row], rest, kvs', by rw [h1]; simp, h2, F6, hm, ?_, fun b m => Y6.there' (h65 b m)⟩, [L] ++ [d], Y5.trans Y6, ?_, ?_⟩
      · have : putAll [] (done ++ [row]) = putR (putAll [] done) row := by unfold putAll; rw [List.foldl_append]; rfl
        rw [this]; exact full6
      · intro b m
        simp only [List.mem_append, List.mem_cons, List.not_mem_nil, or_false] at m
        rcases m with rfl | rfl
        · obtain ⟨o, _, _, e, _⟩ := F3.N; exact ⟨o, e⟩
        · exact ⟨_, ed3⟩
      · simp only [List.mem_append, List.mem_cons, List.not_mem_nil, or_false, not_or]
        refine ⟨Ns.ne_seq F3.N (PlainList.seqAt hl3), fun z => ?_⟩
        obtain ⟨_, q⟩ := hl
        rw [z] at q
        exact absurd (q.symm.trans fd0) (by simp)
  · rintro s4 ⟨m, done, rest, kvs, h1, h2, h3, h4, h5, h6⟩
    cases h2
    rw [List.append_nil] at h1
    subst h1
    repeat walk_at "m go"
    exact ⟨rfl, h T dd d kvs s4 h3.X fT fdd fd0 (h5.mono fun b m => .tail _ m)⟩
end Mine

namespace Mine
variable {w : World} {mg mb : Str → Option Value}
variable {s : Shared} {Q : Value → Shared → Prop} {E : Value → Shared → Prop} {A : Around} {n : Nat}

local macro_rules | `(tactic| walk_at "m go") => `(tactic| first
  | with_reducible refine wpAny_execs_cons ?_
  | with_reducible refine wpAny_Return_some ?_
  | with_reducible refine wpAny_Call_NameR ?_
  | with_reducible refine wpAny_items_cons ?_ (by with_unfolding_all rfl)
  | with_reducible refine wpAny_items_nil ?_
  | with_reducible refine Attribute_name ?_
  | with_reducible refine wpAny_Compare1 ?_ (by with_unfolding_all rfl)
  | with_reducible refine wpAny_isTrue_Compare1 ?_ (by with_unfolding_all rfl)
  | with_reducible refine wpAny_isTrue_Not ?_
  | with_reducible refine wpAny_isTrue_BoolOp ?_
  | with_reducible refine wpAny_allTrue_And_cons ?_
  | with_reducible refine wpAny_allTrue_And_nil ?_
  | with_reducible refine wpAny_allTrue_Or_cons ?_
  | with_reducible refine wpAny_allTrue_Or_nil ?_
  | with_reducible refine wpAny_If ?_
  | ((with_reducible show wpAny _ _ (exec (.Expr _ _) _) _ _ _); refine wpAny_Expr_any ?_)
  | ((with_reducible show wpAny _ _ (eval (.Call (.Attribute _ _ _) _ [] _) _) _ _ _); refine MethodCall_ ?_ (by rfl))
  | with_reducible refine wpAny_truthy_bool ?_
  | with_reducible refine wpAny_execs_nil ?_
  | ((with_reducible show wpAny _ _ (PySem.isTrue (.Call _ _ _ _) _ _) _ _ _); refine wpAny_isTrue_value ?_ (by rfl))
  | ((with_reducible show wpAny _ _ (PySem.isTrue (.Name _ _) _ _) _ _ _); refine wpAny_isTrue_value ?_ (by rfl))
  | with_reducible refine wpAny_Assign_Name ?_ (by with_unfolding_all rfl)
  | with_reducible refine wpAny_Constant_int ?_
  | with_reducible refine wpAny_Constant_str ?_
  | with_reducible refine wpAny_Constant_bool ?_
  | with_reducible refine wpAny_Constant_none ?_
  | ((with_reducible show wpAny _ _ (eval (.Name _ _) _) _ _ _); first
    | refine Fm.ldL ‹Fm _ _ _ _ _ _ _ _› (by rfl) ?_
    | refine Fm.ldL ‹Fm _ _ _ _ _ _ _ _› (by assumption) ?_
    | refine Fm.ldG ‹Fm _ _ _ _ _ _ _ _› (by rfl) ?_
    | (refine Fm.ldB (v := .builtin _) ‹Fm _ _ _ _ _ _ _ _› (by rfl) (by rfl) ?_; dsimp only)
    | (refine Fm.ldB (v := .type _) ‹Fm _ _ _ _ _ _ _ _› (by rfl) (by rfl) ?_; dsimp only))
  | ((with_reducible show wpAny _ _ (callWith _ (.builtin _) _ _ _) _ _ _); refine PyProof.Rows.callWith_builtin1 ?_ (by with_unfolding_all rfl) (by with_unfolding_all rfl))
  | ((with_reducible show wpAny _ _ (callWith _ (.type _) _ _ _) _ _ _); refine Mine.callWith_ty ?_ (by with_unfolding_all rfl) (by with_unfolding_all rfl))
  | ((with_reducible show wpAny _ _ (callWith _ (.ref _) _ _ _) _ _ _); refine callWith_K (Fm.G ‹Fm _ _ _ _ _ _ _ _›).K (by rfl) ?_))

local macro_rules | `(tactic| x_close) => `(tactic| (rename Kt _ => k9; rename Mem _ _ _ _ => D9; exact k9.out _ _ _ _ _ (ex_mem D9) (mem_none D9 (i := 0) rfl) (mem_at D9 0 rfl rfl)))
theorem law_ids0 (K : (Kf w.params).In s.heap) (h : ∀ x s' t1 t2 t3, Ex [] s s' → s.heap.get? x = none → s'.heap.get? x = some { cls := .type "list", data := .seq #[.str "P" t1, .str "Q" t2, .str "R" t3] } → Q (.ref x) s') : wpAny (model pw w) AL (call (.ref 462) []) Q E s := by
  obtain ⟨h0, g, d, t, os⟩ := s
  have hk := Kt.mk h
  dsimp only at K hk ⊢
  x_run
def valInt : Value → Int
  | .int i _ => i
  | _ => 0
local macro_rules | `(tactic| x_close) => `(tactic| (rename Kt _ => k9; rename Mem _ _ _ _ => D9; exact k9.out _ _ _ (ex_mem D9) (mem_none D9 (i := 0) rfl) (mem_at D9 0 rfl rfl) rfl rfl))
theorem law_valid0 (K : (Kf w.params).In s.heap) (h : ∀ x (xs : List Value) s', Ex [] s s' → s.heap.get? x = none → s'.heap.get? x = some { cls := .type "list", data := .seq xs.toArray } → xs.map valInt = valid → xs.all (fun v => match v with | .int _ _ => true | _ => false) = true → Q (.ref x) s') : wpAny (model pw w) AL (call (.ref 469) []) Q E s := by
  obtain ⟨h0, g, d, t, os⟩ := s
  have hk := Kt.mk h
  dsimp only at K hk ⊢
  x_run
def wrongs : Row := [(0, "x"), (999, "y"), (1006, "z"), (1009, "y"), (1014, "x"), (1039, "z"), (1043, "y"), (1069, "x"), (1072, "z")]
def NewTup (s s' : Shared) (p : Int × Str) (v : Value) : Prop := ∃ a tc tv, v = .ref a ∧ s.heap.get? a = none ∧ s'.heap.get? a = some { cls := .type "tuple", data := .seq #[.int p.1 tc, .str p.2 tv] }
local macro_rules | `(tactic| x_close) => `(tactic| (rename Kt _ => k9; rename Mem _ _ _ _ => D9; exact k9.out _ _ _ (ex_mem D9) (mem_none D9 (i := 0) rfl) (mem_at D9 0 rfl rfl) (.cons ⟨_, _, _, rfl, mem_none D9 (i := 9) rfl, mem_at D9 9 rfl rfl⟩ (.cons ⟨_, _, _, rfl, mem_none D9 (i := 8) rfl, mem_at D9 8 rfl rfl⟩ (.cons ⟨_, _, _, rfl, mem_none D9 (i := 7) rfl, mem_at D9 7 rfl rfl⟩ (.cons ⟨_, _, _, rfl, mem_none D9 (i := 6) rfl, mem_at D9 6 rfl rfl⟩ (.cons ⟨_, _, _, rfl, mem_none D9 (i := 5) rfl, mem_at D9 5 rfl rfl⟩ (.cons ⟨_, _, _, rfl, mem_none D9 (i := 4) rfl, mem_at D9 4 rfl rfl⟩ (.cons ⟨_, _, _, rfl, mem_none D9 (i := 3) rfl, mem_at D9 3 rfl rfl⟩ (.cons ⟨_, _, _, rfl, mem_none D9 (i := 2) rfl, mem_at D9 2 rfl rfl⟩ (.cons ⟨_, _, _, rfl, mem_none D9 (i := 1) rfl, mem_at D9 1 rfl rfl⟩ .nil)))))))))))
theorem law_wrong0 (K : (Kf w.params).In s.heap) (h : ∀ x (xs : List Value) s', Ex [] s s' → s.heap.get? x = none → s'.heap.get? x = some { cls := .type "list", data := .seq xs.toArray } → All2 (NewTup s s') wrongs xs → Q (.ref x) s') : wpAny (model pw w) AL (call (.ref 489) []) Q E s := by
  obtain ⟨h0, g, d, t, os⟩ := s
  have hk := Kt.mk h
  dsimp only at K hk ⊢
  x_run
end Mine

namespace Mine
variable {w : World} {mg mb : Str → Option Value}
variable {s : Shared} {Q : Value → Shared → Prop} {E : Value → Shared → Prop} {A : Around} {n : Nat}

local macro_rules | `(tactic| walk_at "m go") => `(tactic| first
  | with_reducible refine wpAny_execs_cons ?_
  | with_reducible refine wpAny_Return_some ?_
  | with_reducible refine wpAny_Call_NameR ?_
  | with_reducible refine wpAny_items_cons ?_ (by with_unfolding_all rfl)
  | with_reducible refine wpAny_items_nil ?_
  | with_reducible refine Attribute_name ?_
  | with_reducible refine wpAny_Compare1 ?_ (by with_unfolding_all rfl)
  | with_reducible refine wpAny_isTrue_Compare1 ?_ (by with_unfolding_all rfl)
  | with_reducible refine wpAny_isTrue_Not ?_
  | with_reducible refine wpAny_isTrue_BoolOp ?_
  | with_reducible refine wpAny_allTrue_And_cons ?_
  | with_reducible refine wpAny_allTrue_And_nil ?_
  | with_reducible refine wpAny_allTrue_Or_cons ?_
  | with_reducible refine wpAny_allTrue_Or_nil ?_
  | with_reducible refine wpAny_If ?_
  | ((with_reducible show wpAny _ _ (exec (.Expr _ _) _) _ _ _); refine wpAny_Expr_any ?_)
  | ((with_reducible show wpAny _ _ (eval (.Call (.Attribute _ _ _) _ [] _) _) _ _ _); refine MethodCall_ ?_ (by rfl))
  | with_reducible refine wpAny_truthy_bool ?_
  | with_reducible refine wpAny_execs_nil ?_
  | ((with_reducible show wpAny _ _ (PySem.isTrue (.Call _ _ _ _) _ _) _ _ _); refine wpAny_isTrue_value ?_ (by rfl))
  | ((with_reducible show wpAny _ _ (PySem.isTrue (.Name _ _) _ _) _ _ _); refine wpAny_isTrue_value ?_ (by rfl))
  | with_reducible refine wpAny_Assign_Name ?_ (by with_unfolding_all rfl)
  | with_reducible refine wpAny_Constant_int ?_
  | with_reducible refine wpAny_Constant_str ?_
  | with_reducible refine wpAny_Constant_bool ?_
  | with_reducible refine wpAny_Constant_none ?_
  | ((with_reducible show wpAny _ _ (eval (.Name _ _) _) _ _ _); first
    | refine Fm.ldL ‹Fm _ _ _ _ _ _ _ _› (by rfl) ?_
    | refine Fm.ldL ‹Fm _ _ _ _ _ _ _ _› (by assumption) ?_
    | refine Fm.ldG ‹Fm _ _ _ _ _ _ _ _› (by rfl) ?_
    | (refine Fm.ldB (v := .builtin _) ‹Fm _ _ _ _ _ _ _ _› (by rfl) (by rfl) ?_; dsimp only)
    | (refine Fm.ldB (v := .type _) ‹Fm _ _ _ _ _ _ _ _› (by rfl) (by rfl) ?_; dsimp only))
  | ((with_reducible show wpAny _ _ (callWith _ (.builtin _) _ _ _) _ _ _); refine PyProof.Rows.callWith_builtin1 ?_ (by with_unfolding_all rfl) (by with_unfolding_all rfl))
  | ((with_reducible show wpAny _ _ (callWith _ (.type _) _ _ _) _ _ _); refine Mine.callWith_ty ?_ (by with_unfolding_all rfl) (by with_unfolding_all rfl))
  | ((with_reducible show wpAny _ _ (callWith _ (.ref _) _ _ _) _ _ _); refine callWith_K (Fm.G ‹Fm _ _ _ _ _ _ _ _›).K (by rfl) ?_))

theorem sub_lst {value : Expr} {i : Int} {kc : Nat} {q pos : Pos} {env : Env} (h : wpAny (model pw w) A (eval value env) (fun o s₁ => ∃ l xs y, o = .ref l ∧ s₁.heap.PlainList l xs ∧ 0 ≤ i ∧ i < 1000 ∧ xs[i.toNat]? = some y ∧ Q y { s₁ with toks := s₁.toks + 1 }) E s) :
    wpAny (model pw w) A (eval (.Subscript value (.Constant (.int i) kc q) pos) env) Q E s := by
  refine sub_gen (wpAny_mono h (fun o s1 h1 => ?_) fun _ _ z => z) (fun _ _ => rfl)
  obtain ⟨l, xs, y, rfl, hl, h0, h1, hy, hq⟩ := h1
  refine wpAny_Constant_int ⟨"list", _, slot_list_getitem.lookup, hl.isList.typeIs, ?_⟩
  exact wpAny_getItem_list (s := { s1 with toks := s1.toks + 1 }) hl.isList h0 (by omega) hy hq
theorem str_beq (a b : Str) : (a.cps.toList == b.cps.toList) = decide (a = b) := by
  by_cases h : a = b
  · subst h; simp
  · rw [decide_eq_false h]
    cases q : (a.cps.toList == b.cps.toList) with
    | false => rfl
    | true =>
      exfalso; apply h
      have := beq_iff_eq.mp q
      obtain ⟨⟨x⟩⟩ := a
      obtain ⟨⟨y⟩⟩ := b
      simp at this
      rw [this]

/-- one entry of the plain list: a key and its rows -/
def PartAt (h : Heap) (kr : Str × Row) (p : Addr) : Prop := ∃ l t, h.PlainList p #[.str kr.1 t, .ref l] ∧ RowsAt h l kr.2 ∧ Hi p ∧ Hi l ∧ kr.2.length ≤ 100
structure Plain (h : Heap) (pl : Addr) (data : Data) (ps : List Addr) : Prop where
  lst : h.PlainList pl (ps.map Value.ref).toArray
  hi : Hi pl
  parts : All2 (PartAt h) data ps
  nd : ps.Nodup
theorem RowsAt.exQ {W : List Addr} {s s' : Shared} {l : Addr} {row : Row} (Y : Ex W s s') (t : RowsAt s.heap l row) (hi : Hi l) (hW : ∀ b ∈ W, ∀ xs, ¬ s.heap.PlainList b xs) : RowsAt s'.heap l row := by
  have t' := t
  obtain ⟨xs, pl, _⟩ := t'
  exact t.ex Y hi.tab fun m => hW _ m _ pl
theorem PartAt.exQ {W : List Addr} {s s' : Shared} {kr : Str × Row} {p : Addr} (Y : Ex W s s') (t : PartAt s.heap kr p) (hW : ∀ b ∈ W, ∀ xs, ¬ s.heap.PlainList b xs) : PartAt s'.heap kr p := by
  obtain ⟨l, t, pl, r, hp, hl, hz⟩ := t
  exact ⟨l, t, PlainList.ex Y pl hp (fun m => hW _ m _ pl), r.exQ Y hl hW, hp, hl, hz⟩
theorem Plain.exQ {W : List Addr} {s s' : Shared} {pl : Addr} {data : Data} {ps : List Addr} (Y : Ex W s s') (t : Plain s.heap pl data ps) (hW : ∀ b ∈ W, ∀ xs, ¬ s.heap.PlainList b xs) : Plain s'.heap pl data ps :=
  ⟨PlainList.ex Y t.lst t.hi (fun m => hW _ m _ t.lst), t.hi, t.parts.imp fun _ _ z => z.exQ Y hW, t.nd⟩
theorem Plain.ex0 {s s' : Shared} {pl : Addr} {data : Data} {ps : List Addr} (Y : Ex [] s s') (t : Plain s.heap pl data ps) : Plain s'.heap pl data ps := t.exQ Y (by simp)
theorem Ns.notList {h : Heap} {L : Addr} {m : Str → Option Value} {xs : Array Value} (N : h.Ns L m) : ¬ h.PlainList L xs := fun l => (Ns.ne_seq N (PlainList.seqAt l)) rfl
theorem RowsAt.notPart {h : Heap} {l p : Addr} {row : Row} {k : Str} {t : Tok} {v : Value} (r : RowsAt h l row) (pp : h.PlainList p #[.str k t, v]) : l ≠ p := by
  rintro rfl
  obtain ⟨xs, ⟨n, e⟩, a⟩ := r
  obtain ⟨n', e'⟩ := pp
  rw [e] at e'
  cases a with
  | nil => simp at e'
  | cons h _ => obtain ⟨x, _, _, _, rfl, _⟩ := h; simp at e'
theorem RowsAt.notPlain {h : Heap} {l pl : Addr} {row : Row} {p : Addr} {ps : List Addr} {kr : Str × Row} {data : Data} (r : RowsAt h l row) (pp : h.PlainList pl ((p :: ps).map Value.ref).toArray) (hp : PartAt h kr p) : l ≠ pl := by
  rintro rfl
  obtain ⟨xs, ⟨n, e⟩, a⟩ := r
  obtain ⟨n', e'⟩ := pp
  obtain ⟨l', t, ⟨n'', e''⟩, _⟩ := hp
  rw [e] at e'
  cases a with
  | nil => simp at e'
  | cons h _ =>
    obtain ⟨x, _, _, _, rfl, _, e3⟩ := h
    simp at e'
    rw [e'.1.1, e''] at e3
    simp at e3
theorem PartAt.notPlain {h : Heap} {pl : Addr} {p : Addr} {ps : List Addr} {kr : Str × Row} (pp : h.PlainList pl (ps.map Value.ref).toArray) (hp : PartAt h kr p) : p ≠ pl := by
  rintro rfl
  obtain ⟨n', e'⟩ := pp
  obtain ⟨l', t, ⟨n'', e''⟩, _⟩ := hp
  rw [e'] at e''
  cases ps with
  | nil => simp at e''
  | cons q _ => simp at e''
/-- an item of a list is set -/
theorem set_list {l : Addr} {xs : Array Value} {k : Int} {t : Tok} {v : Value} {Q : Unit → Shared → Prop} (hl : s.heap.PlainList l xs) (hi : Hi l) (h0 : 0 ≤ k) (hk : k < xs.size) (hz : xs.size ≤ 1000) (h : ∀ s', Ex [l] s s' → s'.heap.PlainList l (xs.setIfInBounds k.toNat v) → Q () s') : wpAny (model pw w) A (setItem (.ref l) (.int k t) v) Q E s := by
  have hl' := hl.isList
  obtain ⟨n, e⟩ := hl
  unfold setItem
  try with_reducible refine wpAny_holding ?_
  first | refine wpAny_bind (wpAny_pure ?_) | skip
  refine wpAny_bind (wpAny_sequenceKey hl'.typeIs (by decide) ?_)
  refine wpAny_bind (wpAny_callSpecial?_slot (name := Str.ofString "__setitem__") hl'.typeIs slot_list_setitem
    (wpAny_call_entry slot_list_setitem hl'.typeIs entry_list_setitem ?_ (args_list_setitem _ _ _)))
  show wpAny _ _ (Builtin.List.listSubscript? (.int k t) >>= _) _ _ s
  refine wpAny_bind (wpAny_listSubscript_int (fitsIndex_of h0 (by omega)) ?_)
  obtain ⟨j, rfl⟩ := Int.eq_ofNat_of_zero_le h0
  have hj : j < xs.size := by omega
  have hx' : xs[j]? = some xs[j] := Array.getElem?_eq_getElem hj
  show wpAny _ _ ((seqItemAt l j >>= fun r => pure (r.map (j, ·))) >>= _) _ _ s
  refine wpAny_bind (wpAny_bind (wpAny_seqItemAt e rfl (wpAny_pure ?_)))
  rw [hx']
  show wpAny _ _ (setSeqItemAt l j v >>= _) _ _ s
  have eu := Heap.get?_update_self (Obj.mapSeq (·.setIfInBounds j v)) e rfl
  have Y : Ex [l] s { s with heap := s.heap.update l (Obj.mapSeq (·.setIfInBounds j v)), toks := s.toks } := Ex.turn e (by rintro (⟨h, _⟩ | ⟨h, _⟩) <;> simp at h) hi (Heap.SameBut.update ..) ⟨_, eu⟩
  refine wpAny_bind (wpAny_setSeqItemAt e rfl ?_)
  have fin := h _ Y ⟨_, by simpa [Obj.mapSeq] using eu⟩
  first
    | exact wpAny_bind (wpAny_pure (wpAny_pure ⟨.none, rfl, wpAny_pure fin⟩))
    | exact wpAny_pure ⟨.none, rfl, wpAny_pure fin⟩
end Mine

namespace Mine
variable {w : World} {mg mb : Str → Option Value}
variable {s : Shared} {Q : Value → Shared → Prop} {E : Value → Shared → Prop} {A : Around} {n : Nat}

local macro_rules | `(tactic| walk_at "m go") => `(tactic| first
  | with_reducible refine wpAny_execs_cons ?_
  | with_reducible refine wpAny_Return_some ?_
  | with_reducible refine wpAny_Call_NameR ?_
  | with_reducible refine wpAny_items_cons ?_ (by with_unfolding_all rfl)
  | with_reducible refine wpAny_items_nil ?_
  | with_reducible refine Attribute_name ?_
  | with_reducible refine wpAny_Compare1 ?_ (by with_unfolding_all rfl)
  | with_reducible refine wpAny_isTrue_Compare1 ?_ (by with_unfolding_all rfl)
  | with_reducible refine wpAny_isTrue_Not ?_
  | with_reducible refine wpAny_isTrue_BoolOp ?_
  | with_reducible refine wpAny_allTrue_And_cons ?_
  | with_reducible refine wpAny_allTrue_And_nil ?_
  | with_reducible refine wpAny_allTrue_Or_cons ?_
  | with_reducible refine wpAny_allTrue_Or_nil ?_
  | with_reducible refine wpAny_If ?_
  | ((with_reducible show wpAny _ _ (exec (.Expr _ _) _) _ _ _); refine wpAny_Expr_any ?_)
  | ((with_reducible show wpAny _ _ (eval (.Call (.Attribute _ _ _) _ [] _) _) _ _ _); refine MethodCall_ ?_ (by rfl))
  | with_reducible refine wpAny_truthy_bool ?_
  | with_reducible refine wpAny_execs_nil ?_
  | ((with_reducible show wpAny _ _ (PySem.isTrue (.Call _ _ _ _) _ _) _ _ _); refine wpAny_isTrue_value ?_ (by rfl))
  | ((with_reducible show wpAny _ _ (PySem.isTrue (.Name _ _) _ _) _ _ _); refine wpAny_isTrue_value ?_ (by rfl))
  | with_reducible refine wpAny_Assign_Name ?_ (by with_unfolding_all rfl)
  | with_reducible refine wpAny_Constant_int ?_
  | with_reducible refine wpAny_Constant_str ?_
  | with_reducible refine wpAny_Constant_bool ?_
  | with_reducible refine wpAny_Constant_none ?_
  | ((with_reducible show wpAny _ _ (eval (.Name _ _) _) _ _ _); first
    | refine Fm.ldL ‹Fm _ _ _ _ _ _ _ _› (by rfl) ?_
    | refine Fm.ldL ‹Fm _ _ _ _ _ _ _ _› (by assumption) ?_
    | refine Fm.ldG ‹Fm _ _ _ _ _ _ _ _› (by rfl) ?_
    | (refine Fm.ldB (v := .builtin _) ‹Fm _ _ _ _ _ _ _ _› (by rfl) (by rfl) ?_; dsimp only)
    | (refine Fm.ldB (v := .type _) ‹Fm _ _ _ _ _ _ _ _› (by rfl) (by rfl) ?_; dsimp only))
  | ((with_reducible show wpAny _ _ (callWith _ (.builtin _) _ _ _) _ _ _); refine PyProof.Rows.callWith_builtin1 ?_ (by with_unfolding_all rfl) (by with_unfolding_all rfl))
  | ((with_reducible show wpAny _ _ (callWith _ (.type _) _ _ _) _ _ _); refine Mine.callWith_ty ?_ (by with_unfolding_all rfl) (by with_unfolding_all rfl))
  | ((with_reducible show wpAny _ _ (callWith _ (.ref _) _ _ _) _ _ _); refine callWith_K (Fm.G ‹Fm _ _ _ _ _ _ _ _›).K (by rfl) ?_))

theorem PartAt.exP {s s' : Shared} {kr kr0 : Str × Row} {p q : Addr} (Y : Ex [p] s s') (hp : PartAt s.heap kr0 p) (t : PartAt s.heap kr q) (hne : q ≠ p) : PartAt s'.heap kr q := by
  obtain ⟨l, t, pl, r, hq, hl, hz⟩ := t
  obtain ⟨l0, t0, pl0, _⟩ := hp
  exact ⟨l, t, PlainList.ex Y pl hq (by simpa using hne), r.ex Y hl.tab (by simpa using r.notPart pl0), hq, hl, hz⟩
theorem keyed_at (done rest : Data) (k : Str) (row old : Row) (h1 : ∀ kr ∈ done, kr.1 ≠ k) (h2 : ∀ kr ∈ rest, kr.1 ≠ k) : keyed (done ++ (k, old) :: rest) k row = done ++ (k, row) :: rest := by
  have id1 : ∀ l : Data, (∀ kr ∈ l, kr.1 ≠ k) → l.map (fun kv => if kv.1 = k then (kv.1, row) else kv) = l := by
    intro l hl
    induction l with
    | nil => rfl
    | cons x l ih => rw [List.map_cons, if_neg (hl x (.head _)), ih fun kr h => hl kr (.tail _ h)]
  unfold keyed
  rw [if_pos (by simp), List.map_append, List.map_cons, if_pos rfl, id1 done h1, id1 rest h2]
theorem keyed_none (data : Data) (k : Str) (row : Row) (h : ∀ kr ∈ data, kr.1 ≠ k) : keyed data k row = data ++ [(k, row)] := by
  unfold keyed
  rw [if_neg]
  simp only [List.any_eq_true, decide_eq_true_eq, not_exists, not_and]
  exact h
theorem setK {k : Str} {m : Str → Option Value} {v : Value} {x : Str} (h : m x = some v) {y : Str} {u : Value} (hne : x ≠ y) : (fun z => if z = y then some u else m z) x = some v := by
  show (if _ then _ else _) = _
  rw [if_neg hne]; exact h

theorem callWith_bi {pos : Pos} {id : String} {first : List Value} {e : Expr} {rest : List Expr} {env : Env}
    (h : wpAny (model pw w) A (spliced (backTo pos (starEach (e :: rest) env))) (fun vs s₁ => wpAny (model pw w) A (call (.builtin id) (first ++ vs)) Q E s₁) E s)
    (he : starEach (e :: rest) env = (false, eval e env) :: starEach rest env := by rfl)
    (hplain : (backTo pos (starEach rest env)).any (·.1) = false := by rfl) :
    wpAny (model pw w) A (callWith pos (.builtin id) first (backTo pos (starEach (e :: rest) env)) []) Q E s := by
  rw [he] at h ⊢
  exact callWith_builtin (by show (false || (backTo pos (starEach rest env)).any (·.1)) = false; rw [hplain]; rfl) (evalArgs_plain h)
theorem law_put_call {pl rl : Addr} {data : Data} {ps : List Addr} {k : Str} {tk : Tok} {row : Row} (r : Rm (n + 6) A) (G : Gd w mg mb s) (P : Plain s.heap pl data ps) (hk : (data.map (·.1)).Nodup) (hr : RowsAt s.heap rl row) (hrl : Hi rl) (hz : row.length ≤ 100) (hdl : data.length ≤ 50) (hne : rl ≠ pl)
    (h : ∀ s' ps', Ex (pl :: ps) s s' → Plain s'.heap pl (keyed data k row) ps' → (∀ q ∈ ps', q ∈ ps ∨ s.heap.get? q = none) → Q (.ref pl) s') : wpAny (model pw w) A (call (.ref 512) [.ref pl, .str k tk, .ref rl]) Q E s := by
  refine wpAny_call (call_fn (n := n + 5) (binds := [("plain", .ref pl), ("word", .str k tk), ("rows", .ref rl)]) r G (f := 512) (by rfl) (by rfl) (BindsTo.of_eq (by rfl)) fun A' L s1 r1 F => ?_)
  refine wpAny_execs_cons ?_
  have P1 := P.ex0 F.X
  have hL1 : ∃ o, s1.heap.get? L = some o := let ⟨o, _, _, e, _⟩ := F.N; ⟨o, e⟩
  have nLpl : pl ≠ L := fun z => Ns.notList F.N (z ▸ P1.lst)
  have hr1 := hr.ex F.X hrl.tab (by simp)
  have loP : ∀ b ∈ pl :: ps, Hi b := by
    intro b m
    rcases List.mem_cons.mp m with rfl | m
    · exact P.hi
    · have a := P.parts
      clear h
      obtain ⟨kr, _, l, t, _, _, hp, _⟩ := a.mem m
      exact hp
  refine for_seq (mg := mg) (mb := mb) r1.hh ?_
  repeat walk_at "m go"
  refine ⟨pl, ps.map Value.ref, fun rem s2 => ∃ m done rest psd psr, data = done ++ rest ∧ ps = psd ++ psr ∧ All2 (PartAt s.heap) done psd ∧ All2 (PartAt s.heap) rest psr ∧ rem = psr.map Value.ref ∧ (∀ kr ∈ done, kr.1 ≠ k) ∧
    Fm w mg mb s L m [] s2 ∧ m "plain" = some (.ref pl) ∧ m "word" = some (.str k tk) ∧ m "rows" = some (.ref rl), rfl, .inl P1.lst, P.hi, F.G, ?_, ?_, ?_, ?_⟩
  · intro s2 Y2
    exact ⟨_, [], data, [], ps, rfl, rfl, .nil, P.parts, rfl, by simp, F.go Y2, by rfl, by rfl, by rfl⟩
  · rintro it rem s2 s3 fit hf ⟨m, done, rest, psd, psr, e1, e2, a1, a2, e3, h4, F2, m1, m2, m3⟩ Y
    have nL : L ∉ [it] := fun q => by
      obtain ⟨o, _, _, e, _⟩ := F.N
      rw [← List.mem_singleton.mp q, e] at fit; cases fit
    exact ⟨m, done, rest, psd, psr, e1, e2, a1, a2, e3, h4, F2.goN Y nL (by simpa using F.new fit), m1, m2, m3⟩
  · rintro a pre rem s2 hxs ⟨m, done, rest, psd, psr, e1, e2, a1, a2, e3, h4, F2, m1, m2, m3⟩
    cases a2 with
    | nil => simp at e3
    | @cons kr p rest psr hp a2 =>
      simp only [List.map_cons, List.cons.injEq] at e3
      obtain ⟨rfl, rfl⟩ := e3
      refine wpAny_assign_Name (F2.st (fun s3 F3 Y3 => ?_))
      have w1 : (fun z => if z = Str.ofString "part" then some (Value.ref p) else m z) "plain" = some (.ref pl) := setK (k := k) m1 (by decide)
      have w2 : (fun z => if z = Str.ofString "part" then some (Value.ref p) else m z) "word" = some (.str k tk) := setK (k := k) m2 (by decide)
      have w3 : (fun z => if z = Str.ofString "part" then some (Value.ref p) else m z) "rows" = some (.ref rl) := setK (k := k) m3 (by decide)
      clear F2 F
      refine wpAny_execs_cons ?_
      obtain ⟨l0, t0, pp, _⟩ := hp
      have pp3 := PlainList.ex F3.X pp (loP p (by rw [e2]; simp)) (by simp)
      repeat walk_at "m go"
      refine sub_lst ?_
      repeat walk_at "m go"
      refine ⟨p, _, .str kr.1 t0, rfl, pp3, by omega, by omega, by simp, ?_⟩
      repeat walk_at "m go"
      refine PySem.P.eq_str ?_
      rw [str_beq]
      refine wpAny_truthy_bool ?_
      by_cases hkk : kr.1 = k
      · rw [if_pos (by simpa using hkk)]
        repeat walk_at "m go"
        refine wpAny_Assign_Subscript ?_
        repeat walk_at "m go"
        refine set_list (s := { s3 with toks := s3.toks + 1 + 1 }) pp3 (loP p (by rw [e2]; simp)) (by omega) (by simp) (by simp) fun s4 Y4 pp4 => ?_
        have Y34 : Ex [p] s3 s4 := (Ex.tok _).of0 Y4
        have nLp : L ≠ p := fun z => Ns.notList F3.N (z ▸ pp3)
        have F4 := F3.goW Y34 (by simpa using nLp)
        have Ysp : Ex [p] s s4 := F3.X.of0 Y34
        clear F3
        repeat walk_at "m go"
        obtain ⟨k0, old⟩ := kr
        dsimp only at hkk
        subst hkk
        have hnd : ps.Nodup := P.nd
        rw [e2] at hnd
        have hr0 : ∀ kr ∈ rest, kr.1 ≠ k0 := by
          rw [e1, List.map_append, List.map_cons, List.nodup_append] at hk
          intro kr hm e
          exact (List.nodup_cons.mp hk.2.1).1 (e ▸ List.mem_map.mpr ⟨kr, hm, rfl⟩)
        have hpart : PartAt s.heap (k0, old) p := ⟨l0, t0, pp, ‹_›⟩
        have np1 : ∀ q ∈ psd, q ≠ p := fun q hq e => by
          rw [List.nodup_append] at hnd
          exact hnd.2.2 q hq p (.head _) e
        have np2 : ∀ q ∈ psr, q ≠ p := fun q hq e => by
          rw [List.nodup_append] at hnd
          exact (List.nodup_cons.mp hnd.2.1).1 (e ▸ hq)
        refine h s4 ps ?_ ⟨?_, P.hi, ?_, P.nd⟩ fun q hq => .inl hq
        · exact Ysp.weaken (by rw [e2]; simp) loP
        · exact PlainList.ex Ysp P.lst P.hi (by simpa using Ne.symm (PartAt.notPlain P.lst hpart))
        · rw [e1, keyed_at done rest k0 row old h4 hr0, e2]
          refine (a1.mapMem fun kr q _ hq z => PartAt.exP Ysp hpart z (np1 q hq)).append (.cons ?_ (a2.mapMem fun kr q _ hq z => PartAt.exP Ysp hpart z (np2 q hq)))
          refine ⟨rl, t0, ?_, hr.ex Ysp hrl.tab (by simpa using hr.notPart pp), loP p (by rw [e2]; simp), hrl, hz⟩
          simpa using pp4
      · rw [if_neg (by simpa using hkk)]
        repeat walk_at "m go"
        refine ⟨⟨_, done ++ [kr], rest, psd ++ [p], psr, by simp [e1], by simp [e2], a1.snoc ⟨l0, t0, pp, ‹_›⟩, a2, rfl, ?_, F3.tok.tok, w1, w2, w3⟩, [L], Y3.then0 (Ex.tok _), ?_, ?_⟩
        · intro x hx
          rcases List.mem_append.mp hx with hx | hx
          · exact h4 x hx
          · rw [List.mem_singleton.mp hx]; exact hkk
        · intro b m
          rw [List.mem_singleton.mp m]
          exact hL1
        · simpa using nLpl
  · rintro s2 ⟨m, done, rest, psd, psr, e1, e2, a1, a2, e3, h4, F2, m1, m2, m3⟩
    cases psr with
    | cons _ _ => simp at e3
    | nil =>
    cases a2
    rw [List.append_nil] at e1 e2
    subst e1 e2
    clear F
    repeat walk_at "m go"
    have P2 := P.ex0 F2.X
    refine getMethod_builtin (id := "list.append") P2.lst.isList.typeIs PySem.F.plainAttrs_list PySem.F.slot_list_append PySem.F.type_list_append (fun a e => by cases e; obtain ⟨n, e⟩ := P2.lst; exact ⟨_, e, rfl⟩) ?_
    refine callWith_bi ?_ (by with_unfolding_all rfl) (by with_unfolding_all rfl)
    repeat walk_at "m go"
    refine list_ev ?_
    repeat walk_at "m go"
    refine ⟨by simp, fun q s3 Y3 fq pq => ?_⟩
    have F3 := F2.go Y3
    have fq0 := F2.new fq
    have hiq := F2.G.hi fq
    clear F2
    repeat walk_at "m go"
    have P3 := P2.ex0 Y3
    refine append_plain P3.lst P.hi (by simp; rw [← P.parts.len]; omega) fun s4 Y4 pl4 => ?_
    have Ysp : Ex [pl] s s4 := F3.X.of0 Y4
    have nLp : L ≠ pl := Ne.symm nLpl
    have F4 := F3.goW Y4 (by simpa using nLp)
    have nqpl : q ≠ pl := fun z => by
      obtain ⟨_, e⟩ := P2.lst
      rw [← z, fq] at e; cases e
    clear F3
    repeat walk_at "m go"
    have hfresh : ∀ b, (∃ o, s.heap.get? b = some o) → b ≠ q := fun b ⟨o, e⟩ z => by rw [z, fq0] at e; cases e
    refine h s4 (ps ++ [q]) ?_ ⟨?_, P.hi, ?_, ?_⟩ ?_
    · exact Ysp.weaken (by simp) loP
    · simpa using pl4
    · rw [keyed_none data k row h4]
      refine All2.snoc (P.parts.mapMem fun kr p hkr hp z => ?_) ?_
      · have zz := z
        obtain ⟨l, t, pp, rr, hp', hl', hz'⟩ := z
        have npl : p ≠ pl := PartAt.notPlain P.lst zz
        have nl : l ≠ pl := by
          have Pp := P.parts
          have Pl := P.lst
          cases Pp with
          | nil => cases hp
          | cons h0 _ => exact RowsAt.notPlain (data := []) rr Pl h0
        exact ⟨l, t, PlainList.ex Ysp pp hp' (by simpa using npl), rr.ex Ysp hl'.tab (by simpa using nl), hp', hl', hz'⟩
      · exact ⟨rl, tk, PlainList.ex Y4 pq hiq (by simpa using nqpl), hr.ex Ysp hrl.tab (by simpa using hne), hiq, hrl, hz⟩
    · rw [List.nodup_append]
      refine ⟨P.nd, by simp, fun a ha b hb => ?_⟩
      rw [List.mem_singleton.mp hb]
      obtain ⟨kr, _, l, t, ⟨_, e⟩, _⟩ := P.parts.mem ha
      exact hfresh a ⟨_, e⟩
    · intro b hb
      rcases List.mem_append.mp hb with hb | hb
      · exact .inl hb
      · rw [List.mem_singleton.mp hb]; exact .inr fq0
end Mine

namespace Mine
variable {w : World} {mg mb : Str → Option Value}
variable {s : Shared} {Q : Value → Shared → Prop} {E : Value → Shared → Prop} {A : Around} {n : Nat}

local macro_rules | `(tactic| walk_at "m go") => `(tactic| first
  | with_reducible refine wpAny_execs_cons ?_
  | with_reducible refine wpAny_Return_some ?_
  | with_reducible refine wpAny_Call_NameR ?_
  | with_reducible refine wpAny_items_cons ?_ (by with_unfolding_all rfl)
  | with_reducible refine wpAny_items_nil ?_
  | with_reducible refine Attribute_name ?_
  | with_reducible refine wpAny_Compare1 ?_ (by with_unfolding_all rfl)
  | with_reducible refine wpAny_isTrue_Compare1 ?_ (by with_unfolding_all rfl)
  | with_reducible refine wpAny_isTrue_Not ?_
  | with_reducible refine wpAny_isTrue_BoolOp ?_
  | with_reducible refine wpAny_allTrue_And_cons ?_
  | with_reducible refine wpAny_allTrue_And_nil ?_
  | with_reducible refine wpAny_allTrue_Or_cons ?_
  | with_reducible refine wpAny_allTrue_Or_nil ?_
  | with_reducible refine wpAny_If ?_
  | ((with_reducible show wpAny _ _ (exec (.Expr _ _) _) _ _ _); refine wpAny_Expr_any ?_)
  | ((with_reducible show wpAny _ _ (eval (.Call (.Attribute _ _ _) _ [] _) _) _ _ _); refine MethodCall_ ?_ (by rfl))
  | with_reducible refine wpAny_truthy_bool ?_
  | with_reducible refine wpAny_execs_nil ?_
  | ((with_reducible show wpAny _ _ (PySem.isTrue (.Call _ _ _ _) _ _) _ _ _); refine wpAny_isTrue_value ?_ (by rfl))
  | ((with_reducible show wpAny _ _ (PySem.isTrue (.Name _ _) _ _) _ _ _); refine wpAny_isTrue_value ?_ (by rfl))
  | with_reducible refine wpAny_Assign_Name ?_ (by with_unfolding_all rfl)
  | with_reducible refine wpAny_Constant_int ?_
  | with_reducible refine wpAny_Constant_str ?_
  | with_reducible refine wpAny_Constant_bool ?_
  | with_reducible refine wpAny_Constant_none ?_
  | ((with_reducible show wpAny _ _ (eval (.Name _ _) _) _ _ _); first
    | refine Fm.ldL ‹Fm _ _ _ _ _ _ _ _› (by rfl) ?_
    | refine Fm.ldL ‹Fm _ _ _ _ _ _ _ _› (by assumption) ?_
    | refine Fm.ldG ‹Fm _ _ _ _ _ _ _ _› (by rfl) ?_
    | (refine Fm.ldB (v := .builtin _) ‹Fm _ _ _ _ _ _ _ _› (by rfl) (by rfl) ?_; dsimp only)
    | (refine Fm.ldB (v := .type _) ‹Fm _ _ _ _ _ _ _ _› (by rfl) (by rfl) ?_; dsimp only))
  | ((with_reducible show wpAny _ _ (callWith _ (.builtin _) _ _ _) _ _ _); refine PyProof.Rows.callWith_builtin1 ?_ (by with_unfolding_all rfl) (by with_unfolding_all rfl))
  | ((with_reducible show wpAny _ _ (callWith _ (.type _) _ _ _) _ _ _); refine Mine.callWith_ty ?_ (by with_unfolding_all rfl) (by with_unfolding_all rfl))
  | ((with_reducible show wpAny _ _ (callWith _ (.ref _) _ _ _) _ _ _); refine callWith_K (Fm.G ‹Fm _ _ _ _ _ _ _ _›).K (by rfl) ?_))

abbrev fnC (nm ql : Str) (S : Stmt) (dV pm cdv : Value) (an : Option Addr) : FuncData := fnX nm ql (argsOf S) (bodyOf S) (scopeOf S) [] dV .none .none pm an cdv .none
theorem call_fnC {f : Addr} {nm ql : Str} {S : Stmt} {dV pm cdv : Value} {an : Option Addr} {vals : List Value} {binds : List (Str × Value)} {R : Result → Shared → Prop}
    (r : Rm (n + 1) A) (G : Gd w mg mb s)
    (ho : (Kf w.params).lookup f = some ⟨.type "function", none, .func (fnC nm ql S dV pm cdv an), #[]⟩)
    (hcd : codeIn (Kf w.params) cdv ql = true) (hb : bindArgs (fnC nm ql S dV pm cdv an) ⟨vals, []⟩ = pure binds)
    (hkind : ∀ L : Nat, ∀ x ∈ binds, (scopeOf S).names.lookup x.1 = some .local ∨ ((scopeOf S).names.lookup x.1 = some .cell ∧ ((cellsFrom (L + 1) (scopeOf S).names []).lookup x.1).isSome = true))
    (h : ∀ A' L s₁, Rm n A' → (∀ out, A.frames = some out → A'.frames = some (callEnvC (fnC nm ql S dV pm cdv an) L f :: out)) → Fm w mg mb s L (bindL (callEnvC (fnC nm ql S dV pm cdv an) L f).kindOf binds fun _ => none) [] s₁ →
      (∀ x c, (callEnvC (fnC nm ql S dV pm cdv an) L f).cells.lookup x = some c → s₁.heap.IsCell c (bindC (callEnvC (fnC nm ql S dV pm cdv an) L f).kindOf binds (fun _ => none) x) ∧ s.heap.get? c = none ∧ c ≠ L) →
      wpAny (model pw w) A' (execs (bodyOf S) (callEnvC (fnC nm ql S dV pm cdv an) L f)) (fun fl s' => R (.ok (.ret (retOf fl))) s') (fun _ _ => False) s₁)
    (hsc : (scopeOf S).isCoroutine = false ∧ (scopeOf S).isGenerator = false ∧ (scopeOf S).kind = .function := by exact ⟨by rfl, by rfl, by rfl⟩) :
    codeAny (model pw w) A (.call (.ref f) ⟨vals, []⟩) R s := by
  have hd : A.depth < recursionLimit := by have := r.dp; show A.depth < 1000; omega
  refine codeAny_call_cells hd (G.K f _ ho) rfl G.noLimit (G.codeRec hcd) rfl hb rfl (hkind _) (fun s₁ x => ?_) hsc.1 hsc.2.1 hsc.2.2
  obtain ⟨h', tk, e⟩ := x.toInCall.same
  have X : Ex [] s s₁ := by
    have hk := x.toInCall.keep
    rw [e] at hk ⊢
    exact Ex.of_keep hk
  have F : Fm w mg mb s s.heap.objs.size (bindL (callEnvC (fnC nm ql S dV pm cdv an) s.heap.objs.size f).kindOf binds fun _ => none) [] s₁ := ⟨G.ex X, x.toInCall.ns, X, get_size _, G.hi (get_size _)⟩
  refine wpAny_mono (h _ _ _ r.deeper (fun out ho => Around.frames_deeper ho) F fun y c hc => ⟨x.cell y c hc, ?_, ?_⟩) (fun fl s' z => ?_) fun _ _ z => z.elim
  · have hlt := x.above y c (mem_of_lookup hc)
    cases q : s.heap.get? c with
    | none => rfl
    | some o => exact absurd (Heap.lt_size q) (Nat.not_lt.mpr (Nat.le_of_lt hlt))
  · exact Nat.ne_of_gt (x.above y c (mem_of_lookup hc))
  · cases fl <;> exact z
theorem IsCell.ex {W : List Addr} {s s' : Shared} {c : Addr} {v : Option Value} (Y : Ex W s s') (h : s.heap.IsCell c v) (hi : Hi c) (hW : c ∉ W) : s'.heap.IsCell c v := by
  obtain ⟨o, e, d⟩ := h
  obtain ⟨sl, e', _⟩ := Y.keep c o e hi.tab hW
  exact ⟨_, e', d⟩
theorem ldCell {env : Env} {x : Str} {pos : Pos} {c : Addr} {v : Value} (hc : s.heap.IsCell c (some v)) (h : Q v s) (he : env.cells.lookup x = some c := by rfl) (hl : env.kindOf x = some .cell := by rfl) (hk : env.scope.kind = .function := by rfl)
    (hd : (x == ("__debug__" : Str)) = false := by decide) : wpAny (model pw w) A (eval (.Name x pos) env) Q E s :=
  wpAny_Name (wpAny_loadName_cell hk hl he hc h) hd

def keyOf (h : Heap) (v : Value) : Option Str := match v with
  | .ref p => match h.get? p with
    | some o => match o.data with
      | .seq xs _ => match xs.toList with
        | .str k _ :: _ => some k
        | _ => none
      | _ => none
    | none => none
  | _ => none
theorem keyOf_of {h : Heap} {kr : Str × Row} {p : Addr} (t : PartAt h kr p) : keyOf h (.ref p) = some kr.1 := by
  obtain ⟨l, t, ⟨n, e⟩, _⟩ := t
  unfold keyOf
  simp [e]
theorem law_take_call {pl : Addr} {data : Data} {ps : List Addr} {k : Str} {tk : Tok} (r : Rm (n + 6) A) (G : Gd w mg mb s) (P : Plain s.heap pl data ps) (hdl : data.length ≤ 50)
    (h : ∀ s' D ps', Ex [] s s' → s.heap.get? D = none → Plain s'.heap D (cut data k) ps' → (∀ q ∈ ps', q ∈ ps) → Q (.ref D) s') : wpAny (model pw w) A (call (.ref 517) [.ref pl, .str k tk]) Q E s := by
  refine wpAny_call (call_fnC (n := n + 5) (binds := [("plain", .ref pl), ("word", .str k tk)]) r G (f := 517) (by rfl) (by rfl) (by rfl) (fun L x hx => ?_) fun A' L s1 r1 _ F hcells => ?_)
  · simp only [List.mem_cons, List.not_mem_nil, or_false] at hx
    rcases hx with rfl | rfl
    · exact .inl (by rfl)
    · exact .inr ⟨by rfl, by rfl⟩
  have hc := hcells "word" (L + 1) (by rfl)
  obtain ⟨hcell, fc, ncL⟩ := hc
  have hcell' : s1.heap.IsCell (L + 1) (some (.str k tk)) := hcell
  refine wpAny_execs_cons ?_
  have P1 := P.ex0 F.X
  repeat walk_at "m go"
  refine comp_seq (mg := mg) (mb := mb) r1.hh (fun v => keyOf s.heap v != some k) (fun a y _ _ => y = a) (fun h _ => h) ?_
  repeat walk_at "m go"
  refine ⟨pl, ps.map Value.ref, rfl, .inl P1.lst, P.hi, F.G, by rw [List.length_map, ← P.parts.len]; omega, ?_, ?_⟩
  · intro a C m₃ s₃ ha F3 hm
    obtain ⟨p, hp, rfl⟩ := List.mem_map.mp ha
    have Pp := P.parts
    obtain ⟨kr, _, hpart⟩ := Pp.mem hp
    have hko := keyOf_of hpart
    have hpart3 := (hpart.exQ F.X (by simp)).exQ F3.X (by simp)
    obtain ⟨l0, t0, pp, _⟩ := hpart3
    have hc3 := IsCell.ex F3.X hcell' (G.hi fc) (by simp)
    clear F
    refine wpAny_tests_one ?_
    repeat walk_at "m go"
    refine sub_lst ?_
    repeat walk_at "m go"
    refine ⟨p, _, .str kr.1 t0, rfl, pp, by omega, by omega, by simp, ?_⟩
    refine ldCell (s := { s₃ with toks := s₃.toks + 1 }) hc3 ?_
    refine PySem.P.ne_str ?_
    refine wpAny_truthy_bool ⟨?_, Ex.tok _, fun _ => ?_⟩
    · rw [hko, bne, str_beq]
      by_cases q : kr.1 = k <;> simp [q]
    · repeat walk_at "m go"
      exact ⟨Ex.refl _, rfl⟩
  · intro D s' ys X1 fD pl' a3
    have F2 := F.go X1
    have hys : ys = (ps.map Value.ref).filter (fun v => keyOf s.heap v != some k) := by
      revert a3
      generalize (ps.map Value.ref).filter (fun v => keyOf s.heap v != some k) = l1
      intro a3
      clear pl'
      induction a3 with
      | nil => rfl
      | cons hh _ ih => obtain ⟨_, _, e⟩ := hh; rw [e, ih]
    have hps : ys = (ps.filter (fun p => keyOf s.heap (.ref p) != some k)).map Value.ref := by
      rw [hys, List.filter_map]; rfl
    have pa : All2 (PartAt s'.heap) (cut data k) (ps.filter (fun p => keyOf s.heap (.ref p) != some k)) := by
      have Pp := P.parts
      unfold cut
      clear h hys hps P1 pl' a3
      generalize data = data at Pp
      have key : ∀ (dt : Data) (qs : List Addr), All2 (PartAt s.heap) dt qs → All2 (PartAt s'.heap) (dt.filter fun kv => decide (kv.1 ≠ k)) (qs.filter (fun p => keyOf s.heap (.ref p) != some k)) := by
        intro dt qs aa
        induction aa with
        | nil => exact .nil
        | @cons kr q dt qs hh _ ih =>
          have e := keyOf_of hh
          by_cases z : kr.1 = k
          · rw [List.filter_cons_of_neg (by simp [z]), List.filter_cons_of_neg (by simp [e, z])]
            exact ih
          · rw [List.filter_cons_of_pos (by simp [z]), List.filter_cons_of_pos (by simp [e, z])]
            exact .cons (hh.exQ F2.X (by simp)) ih
      exact key _ _ Pp
    exact h s' D _ F2.X (F.new fD) ⟨by rw [← hps]; exact pl', F.G.hi fD, pa, P.nd.filter _⟩ fun q hq => (List.mem_filter.mp hq).1
end Mine

namespace Mine
variable {w : World} {mg mb : Str → Option Value}
variable {s : Shared} {Q : Value → Shared → Prop} {E : Value → Shared → Prop} {A : Around} {n : Nat}

local macro_rules | `(tactic| walk_at "m go") => `(tactic| first
  | with_reducible refine wpAny_execs_cons ?_
  | with_reducible refine wpAny_Return_some ?_
  | with_reducible refine wpAny_Call_NameR ?_
  | with_reducible refine wpAny_items_cons ?_ (by with_unfolding_all rfl)
  | with_reducible refine wpAny_items_nil ?_
  | with_reducible refine Attribute_name ?_
  | with_reducible refine wpAny_Compare1 ?_ (by with_unfolding_all rfl)
  | with_reducible refine wpAny_isTrue_Compare1 ?_ (by with_unfolding_all rfl)
  | with_reducible refine wpAny_isTrue_Not ?_
  | with_reducible refine wpAny_isTrue_BoolOp ?_
  | with_reducible refine wpAny_allTrue_And_cons ?_
  | with_reducible refine wpAny_allTrue_And_nil ?_
  | with_reducible refine wpAny_allTrue_Or_cons ?_
  | with_reducible refine wpAny_allTrue_Or_nil ?_
  | with_reducible refine wpAny_If ?_
  | ((with_reducible show wpAny _ _ (exec (.Expr _ _) _) _ _ _); refine wpAny_Expr_any ?_)
  | ((with_reducible show wpAny _ _ (eval (.Call (.Attribute _ _ _) _ [] _) _) _ _ _); refine MethodCall_ ?_ (by rfl))
  | with_reducible refine wpAny_truthy_bool ?_
  | with_reducible refine wpAny_execs_nil ?_
  | ((with_reducible show wpAny _ _ (PySem.isTrue (.Call _ _ _ _) _ _) _ _ _); refine wpAny_isTrue_value ?_ (by rfl))
  | ((with_reducible show wpAny _ _ (PySem.isTrue (.Name _ _) _ _) _ _ _); refine wpAny_isTrue_value ?_ (by rfl))
  | with_reducible refine wpAny_Assign_Name ?_ (by with_unfolding_all rfl)
  | with_reducible refine wpAny_Constant_int ?_
  | with_reducible refine wpAny_Constant_str ?_
  | with_reducible refine wpAny_Constant_bool ?_
  | with_reducible refine wpAny_Constant_none ?_
  | ((with_reducible show wpAny _ _ (eval (.Name _ _) _) _ _ _); first
    | refine Fm.ldL ‹Fm _ _ _ _ _ _ _ _› (by rfl) ?_
    | refine Fm.ldL ‹Fm _ _ _ _ _ _ _ _› (by assumption) ?_
    | refine Fm.ldG ‹Fm _ _ _ _ _ _ _ _› (by rfl) ?_
    | (refine Fm.ldB (v := .builtin _) ‹Fm _ _ _ _ _ _ _ _› (by rfl) (by rfl) ?_; dsimp only)
    | (refine Fm.ldB (v := .type _) ‹Fm _ _ _ _ _ _ _ _› (by rfl) (by rfl) ?_; dsimp only))
  | ((with_reducible show wpAny _ _ (callWith _ (.builtin _) _ _ _) _ _ _); refine PyProof.Rows.callWith_builtin1 ?_ (by with_unfolding_all rfl) (by with_unfolding_all rfl))
  | ((with_reducible show wpAny _ _ (callWith _ (.type _) _ _ _) _ _ _); refine Mine.callWith_ty ?_ (by with_unfolding_all rfl) (by with_unfolding_all rfl))
  | ((with_reducible show wpAny _ _ (callWith _ (.ref _) _ _ _) _ _ _); refine callWith_K (Fm.G ‹Fm _ _ _ _ _ _ _ _›).K (by rfl) ?_))

theorem tups_eq {p : Int × Str} {v v' : Value} (hu : A.units < cLine) (t : TupV s.heap p v) (t' : TupV s.heap p v') : PySem.SeqAt.EqAt A s v v' true := by
  obtain ⟨x, tc, tv, rfl, i⟩ := t.isTup
  obtain ⟨x', tc', tv', rfl, i'⟩ := t'.isTup
  by_cases hx : x = x'
  · subst hx; exact PySem.SeqAt.EqAt.same _
  refine PySem.SeqAt.EqAt.of_refs hx ?_
  have key := PySem.SeqAt.RcAt.tuples (A := A) (e := fun _ => true) i i' hu (fun j h1 h2 => ?_)
  · exact (show ((List.range (min (#[Value.int p.1 tc, Value.str p.2 tv] : Array Value).size (#[Value.int p.1 tc', Value.str p.2 tv'] : Array Value).size)).all (fun _ => true) && (#[Value.int p.1 tc, Value.str p.2 tv] : Array Value).size == (#[Value.int p.1 tc', Value.str p.2 tv'] : Array Value).size) = true from rfl) ▸ key
  · rcases j with _ | _ | j
    · have := PySem.SeqAt.EqAt.int_int (A := A.in1) (s := s) p.1 tc p.1 tc'
      simpa using this
    · have := PySem.SeqAt.EqAt.str_str (A := A.in1) (s := s) p.2 tv p.2 tv'
      simpa using this
    · exact absurd h1 (by simp)
theorem All2.get {α β : Type} {R : α → β → Prop} : ∀ {l : List α} {m : List β}, All2 R l m → ∀ j (h1 : j < l.length) (h2 : j < m.length), R l[j] m[j]
  | _, _, .cons h _, 0, _, _ => h
  | _, _, .cons _ t, j + 1, h1, h2 => t.get j (by simpa using h1) (by simpa using h2)
theorem ne_rows {l b : Addr} {row : Row} (hu : A.in1.units < cLine) (r : RowsAt s.heap l row) (r' : RowsAt s.heap b row) (h : Q (.bool false) s) : wpAny (model pw w) A (compareOp .NotEq (.ref l) (.ref b)) Q E s := by
  obtain ⟨xs, pl, a⟩ := r
  obtain ⟨ys, pl', a'⟩ := r'
  have hu0 : A.units < cLine := Nat.lt_of_le_of_lt (Nat.le_succ _) hu
  have key := PySem.SeqAt.RcNeAt.lists (A := A) (e := fun _ => true) pl.isList pl'.isList (by simp [← a.len, ← a'.len]) hu0 (fun j h1 h2 => ?_)
  · refine PySem.EqBoolInt.of_rcne key ?_
    rw [List.all_eq_true.mpr (fun _ _ => rfl)]
    exact h
  · have h1' : j < row.length := by rw [a.len]; simpa using h1
    have e1 := a.get j h1' (by simpa using h1)
    have e2 := a'.get j h1' (by simpa using h2)
    simpa using tups_eq (A := A.in1) hu e1 e2
/-- two lists of the same texts -/
def KeysAt (h : Heap) (l : Addr) (ks : List Str) : Prop := ∃ vs : List Value, h.PlainList l vs.toArray ∧ All2 StrV ks vs
theorem ne_keys {l b : Addr} {ks : List Str} (hu : A.in1.units < cLine) (r : KeysAt s.heap l ks) (r' : KeysAt s.heap b ks) (h : Q (.bool false) s) : wpAny (model pw w) A (compareOp .NotEq (.ref l) (.ref b)) Q E s := by
  obtain ⟨xs, pl, a⟩ := r
  obtain ⟨ys, pl', a'⟩ := r'
  have hu0 : A.units < cLine := Nat.lt_of_le_of_lt (Nat.le_succ _) hu
  have key := PySem.SeqAt.RcNeAt.lists (A := A) (e := fun _ => true) pl.isList pl'.isList (by simp [← a.len, ← a'.len]) hu0 (fun j h1 h2 => ?_)
  · refine PySem.EqBoolInt.of_rcne key ?_
    rw [List.all_eq_true.mpr (fun _ _ => rfl)]
    exact h
  · have h1' : j < ks.length := by rw [a.len]; simpa using h1
    obtain ⟨u, e1⟩ := a.get j h1' (by simpa using h1)
    obtain ⟨u', e2⟩ := a'.get j h1' (by simpa using h2)
    have := PySem.SeqAt.EqAt.str_str (A := A.in1) (s := s) ks[j] u ks[j] u'
    simpa [e1, e2] using this
theorem eq_nil {l b : Addr} (hu : A.units < cLine) (r : s.heap.PlainList l #[]) (r' : s.heap.PlainList b #[]) (h : Q (.bool true) s) : wpAny (model pw w) A (compareOp .Eq (.ref l) (.ref b)) Q E s :=
  PySem.SeqAt.eq_listAt (e := fun _ => true) r.isList r'.isList rfl hu (fun j h1 _ => by simp at h1) (by rw [List.all_eq_true.mpr (fun _ _ => rfl)]; exact h)
/-- len of XData -/
theorem told_len {T dd d : Addr} {kvs : List (Str × Value)} (r : Rm (n + 3) A) (G : Gd w mg mb s) (t : Told w s.heap T dd d kvs) (h : ∀ tk s', Ex [] s s' → Q (.int kvs.length tk) s') : wpAny (model pw w) A (call (.builtin "len") [.ref T]) Q E s := by
  obtain ⟨e, hs, tk', k', e2⟩ := t.inst
  have X := G.K
  have I : InstAt s.heap T (instObj 451 dd) 451 (some (dataD hs tk' d k')) := ⟨e, rfl, rfl, e2⟩
  have hlen := t.len
  refine Calls.call_function_entry kind_len plain_len entry_len (args_len1 _) ?_
  unfold Builtin.«len»
  refine wpAny_bind (m := oneArg "len" _) (wpAny_pure ?_)
  refine wpAny_bind (m := callSpecial? (.ref T) (Str.ofString "__len__")) (special_fn X I (f := 371) (by rfl) (by rfl) ?_)
  refine x_len (n := n) (Rm.in1 (n := n + 2) r) G t fun tk s' Y => ?_
  refine wpAny_bind (wpAny_holding (wpAny_pure ?_))
  refine wpAny_bind (wpAny_letGo ?_)
  show wpAny _ _ (if ((kvs.length : Nat) : Int) < 0 then _ else _) _ _ _
  rw [if_neg (by omega)]
  show wpAny _ _ (if ((kvs.length : Nat) : Int) ≥ 2 ^ 63 then _ else _) _ _ _
  rw [if_neg (by omega)]
  exact wpAny_bind (wpAny_mkInt (wpAny_pure ⟨_, rfl, h _ _ (Y.then0 (Ex.tok _))⟩))
theorem list_lenH {l : Addr} {xs : Array Value} (hl : s.heap.PlainList l xs) (hz : xs.size ≤ 1000) (h : ∀ t s', Ex [] s s' → Q (.int xs.size t) s') : wpAny (model pw w) A (call (.builtin "len") [.ref l]) Q E s := by
  have hl' := hl.isList
  obtain ⟨n, e⟩ := hl
  refine Calls.call_function_entry kind_len plain_len entry_len (args_len1 _) ?_
  unfold Builtin.«len»
  refine wpAny_bind (m := oneArg "len" _) (wpAny_pure ?_)
  refine wpAny_bind (m := callSpecial? (.ref l) (Str.ofString "__len__")) (wpAny_callSpecial?_slot (name := Str.ofString "__len__") hl'.typeIs PySem.F.slot_list_len
    (wpAny_call_entry PySem.F.slot_list_len hl'.typeIs PySem.F.entry_list_len ?_ (PySem.F.args_list_len_1 _)))
  show wpAny _ _ (seqSize l >>= fun k => retInt k) _ _ _
  refine wpAny_bind (seqSize_ e rfl ?_)
  refine wpAny_bind (wpAny_mkInt (wpAny_pure ⟨_, rfl, ?_⟩))
  refine wpAny_bind (wpAny_holding (wpAny_pure ?_))
  refine wpAny_bind (wpAny_letGo ?_)
  show wpAny _ _ (if ((xs.size : Nat) : Int) < 0 then _ else _) _ _ _
  rw [if_neg (by omega)]
  show wpAny _ _ (if ((xs.size : Nat) : Int) ≥ 2 ^ 63 then _ else _) _ _ _
  rw [if_neg (by omega)]
  exact wpAny_bind (wpAny_mkInt (wpAny_pure ⟨_, rfl, h _ _ (Ex.tok _)⟩))
end Mine

namespace Mine
variable {w : World} {mg mb : Str → Option Value}
variable {s : Shared} {Q : Value → Shared → Prop} {E : Value → Shared → Prop} {A : Around} {n : Nat}

local macro_rules | `(tactic| walk_at "m go") => `(tactic| first
  | with_reducible refine wpAny_execs_cons ?_
  | with_reducible refine wpAny_Return_some ?_
  | with_reducible refine wpAny_Call_NameR ?_
  | with_reducible refine wpAny_items_cons ?_ (by with_unfolding_all rfl)
  | with_reducible refine wpAny_items_nil ?_
  | with_reducible refine Attribute_name ?_
  | with_reducible refine wpAny_Compare1 ?_ (by with_unfolding_all rfl)
  | with_reducible refine wpAny_isTrue_Compare1 ?_ (by with_unfolding_all rfl)
  | with_reducible refine wpAny_isTrue_Not ?_
  | with_reducible refine wpAny_isTrue_BoolOp ?_
  | with_reducible refine wpAny_allTrue_And_cons ?_
  | with_reducible refine wpAny_allTrue_And_nil ?_
  | with_reducible refine wpAny_allTrue_Or_cons ?_
  | with_reducible refine wpAny_allTrue_Or_nil ?_
  | with_reducible refine wpAny_If ?_
  | ((with_reducible show wpAny _ _ (exec (.Expr _ _) _) _ _ _); refine wpAny_Expr_any ?_)
  | ((with_reducible show wpAny _ _ (eval (.Call (.Attribute _ _ _) _ [] _) _) _ _ _); refine MethodCall_ ?_ (by rfl))
  | with_reducible refine wpAny_truthy_bool ?_
  | with_reducible refine wpAny_execs_nil ?_
  | ((with_reducible show wpAny _ _ (PySem.isTrue (.Call _ _ _ _) _ _) _ _ _); refine wpAny_isTrue_value ?_ (by rfl))
  | ((with_reducible show wpAny _ _ (PySem.isTrue (.Name _ _) _ _) _ _ _); refine wpAny_isTrue_value ?_ (by rfl))
  | with_reducible refine wpAny_Assign_Name ?_ (by with_unfolding_all rfl)
  | with_reducible refine wpAny_Constant_int ?_
  | with_reducible refine wpAny_Constant_str ?_
  | with_reducible refine wpAny_Constant_bool ?_
  | with_reducible refine wpAny_Constant_none ?_
  | ((with_reducible show wpAny _ _ (eval (.Name _ _) _) _ _ _); first
    | refine Fm.ldL ‹Fm _ _ _ _ _ _ _ _› (by rfl) ?_
    | refine Fm.ldL ‹Fm _ _ _ _ _ _ _ _› (by assumption) ?_
    | refine Fm.ldG ‹Fm _ _ _ _ _ _ _ _› (by rfl) ?_
    | (refine Fm.ldB (v := .builtin _) ‹Fm _ _ _ _ _ _ _ _› (by rfl) (by rfl) ?_; dsimp only)
    | (refine Fm.ldB (v := .type _) ‹Fm _ _ _ _ _ _ _ _› (by rfl) (by rfl) ?_; dsimp only))
  | ((with_reducible show wpAny _ _ (callWith _ (.builtin _) _ _ _) _ _ _); refine PyProof.Rows.callWith_builtin1 ?_ (by with_unfolding_all rfl) (by with_unfolding_all rfl))
  | ((with_reducible show wpAny _ _ (callWith _ (.type _) _ _ _) _ _ _); refine Mine.callWith_ty ?_ (by with_unfolding_all rfl) (by with_unfolding_all rfl))
  | ((with_reducible show wpAny _ _ (callWith _ (.ref _) _ _ _) _ _ _); refine callWith_K (Fm.G ‹Fm _ _ _ _ _ _ _ _›).K (by rfl) ?_))

theorem list_keys {T dd d : Addr} {N : List Addr} {data : Data} {kvs : List (Str × Value)} (hh : A.handled = none) (f : Full w s T dd d N data kvs)
    (h : ∀ D s', Ex [] s s' → s.heap.get? D = none → KeysAt s'.heap D (data.map (·.1)) → Q (.ref D) s') : wpAny (model pw w) A (call (.type "list") [.ref d]) Q E s := by
  obtain ⟨ep, hat⟩ := f.told.dict.dictAt
  have hl := f.told.len
  refine kdl_call (kdl_dict (knd := PySem.strKind pw w) (kvs := kvs) (ep := ep) f.told.sys) hh hat (by rw [sizeLine_eq]; omega) fun h' tk acc' c' hk hD hacc => ?_
  refine h _ _ (Ex.of_keep hk) (get_size _) ⟨acc'.toList, ⟨c', by simpa using hD⟩, ?_⟩
  obtain ⟨hsz, hit⟩ := hacc
  have hlen : (data.map (·.1)).length = acc'.toList.length := by have := f.len; simp; omega
  have key : ∀ (ks : List Str) (vs : List Value), ks.length = vs.length → (∀ (j : Nat) (v : Value), vs[j]? = some v → ∃ k : Str, ks[j]? = some k ∧ StrV k v) → All2 StrV ks vs := by
    intro ks
    induction ks with
    | nil => intro vs e _; cases vs with | nil => exact .nil | cons _ _ => simp at e
    | cons k ks ih =>
      intro vs e hj
      cases vs with
      | nil => simp at e
      | cons v vs =>
        obtain ⟨k', e1, hv⟩ := hj 0 v rfl
        simp at e1
        subst e1
        exact .cons hv (ih vs (by simpa using e) fun j u hu => hj (j + 1) u (by simpa using hu))
  refine key _ _ hlen fun j v hv => ?_
  obtain ⟨k, x, hx, hkv⟩ := hit j v (by rw [← Array.getElem?_toList]; exact hv)
  have hj : j < kvs.length := (List.getElem?_eq_some_iff.mp hx).1
  have hj' : j < data.length := by rw [← f.len]; exact hj
  have e := (f.ents.get j hj' hj).1
  have e2 : kvs[j] = (k, x) := (List.getElem?_eq_some_iff.mp hx).2
  rw [e2] at e
  refine ⟨k, ?_, ?_⟩
  · rw [List.getElem?_map, List.getElem?_eq_getElem hj']
    simpa using e.symm
  · have : Value.isStrOf k v = true := hkv
    cases v <;> simp [Value.isStrOf] at this
    subst this
    exact ⟨_, rfl⟩
theorem list_copy {l : Addr} {xs : Array Value} (hl : s.heap.PlainList l xs) (hz : xs.size ≤ 1000) (h : ∀ D s', Ex [] s s' → s.heap.get? D = none → s'.heap.PlainList D xs → Q (.ref D) s') : wpAny (model pw w) A (call (.type "list") [.ref l]) Q E s := by
  obtain ⟨n, e⟩ := hl
  exact call_list_seq l (.inl rfl) e rfl rfl (fun h' c' hk hD => h _ _ (Ex.of_keep (tk := s.toks) hk) (get_size _) ⟨c', hD⟩) (by rw [sizeLine_eq]; omega)
end Mine

namespace Mine
variable {w : World} {mg mb : Str → Option Value}
variable {s : Shared} {Q : Value → Shared → Prop} {E : Value → Shared → Prop} {A : Around} {n : Nat}

local macro_rules | `(tactic| walk_at "m go") => `(tactic| first
  | with_reducible refine wpAny_execs_cons ?_
  | with_reducible refine wpAny_Return_some ?_
  | with_reducible refine wpAny_Call_NameR ?_
  | with_reducible refine wpAny_items_cons ?_ (by with_unfolding_all rfl)
  | with_reducible refine wpAny_items_nil ?_
  | with_reducible refine Attribute_name ?_
  | with_reducible refine wpAny_Compare1 ?_ (by with_unfolding_all rfl)
  | with_reducible refine wpAny_isTrue_Compare1 ?_ (by with_unfolding_all rfl)
  | with_reducible refine wpAny_isTrue_Not ?_
  | with_reducible refine wpAny_isTrue_BoolOp ?_
  | with_reducible refine wpAny_allTrue_And_cons ?_
  | with_reducible refine wpAny_allTrue_And_nil ?_
  | with_reducible refine wpAny_allTrue_Or_cons ?_
  | with_reducible refine wpAny_allTrue_Or_nil ?_
  | with_reducible refine wpAny_If ?_
  | ((with_reducible show wpAny _ _ (exec (.Expr _ _) _) _ _ _); refine wpAny_Expr_any ?_)
  | ((with_reducible show wpAny _ _ (eval (.Call (.Attribute _ _ _) _ [] _) _) _ _ _); refine MethodCall_ ?_ (by rfl))
  | with_reducible refine wpAny_truthy_bool ?_
  | with_reducible refine wpAny_execs_nil ?_
  | ((with_reducible show wpAny _ _ (PySem.isTrue (.Call _ _ _ _) _ _) _ _ _); refine wpAny_isTrue_value ?_ (by rfl))
  | ((with_reducible show wpAny _ _ (PySem.isTrue (.Name _ _) _ _) _ _ _); refine wpAny_isTrue_value ?_ (by rfl))
  | with_reducible refine wpAny_Assign_Name ?_ (by with_unfolding_all rfl)
  | with_reducible refine wpAny_Constant_int ?_
  | with_reducible refine wpAny_Constant_str ?_
  | with_reducible refine wpAny_Constant_bool ?_
  | with_reducible refine wpAny_Constant_none ?_
  | ((with_reducible show wpAny _ _ (eval (.Name _ _) _) _ _ _); first
    | refine Fm.ldL ‹Fm _ _ _ _ _ _ _ _› (by rfl) ?_
    | refine Fm.ldL ‹Fm _ _ _ _ _ _ _ _› (by assumption) ?_
    | refine Fm.ldG ‹Fm _ _ _ _ _ _ _ _› (by rfl) ?_
    | (refine Fm.ldB (v := .builtin _) ‹Fm _ _ _ _ _ _ _ _› (by rfl) (by rfl) ?_; try dsimp only)
    | (refine Fm.ldB (v := .type _) ‹Fm _ _ _ _ _ _ _ _› (by rfl) (by rfl) ?_; try dsimp only))
  | ((with_reducible show wpAny _ _ (callWith _ (.builtin _) _ _ _) _ _ _); refine PyProof.Rows.callWith_builtin1 ?_ (by with_unfolding_all rfl) (by with_unfolding_all rfl))
  | ((with_reducible show wpAny _ _ (callWith _ (.type _) _ _ _) _ _ _); refine Mine.callWith_ty ?_ (by with_unfolding_all rfl) (by with_unfolding_all rfl))
  | ((with_reducible show wpAny _ _ (callWith _ (.ref _) _ _ _) _ _ _); refine callWith_K (Fm.G ‹Fm _ _ _ _ _ _ _ _›).K (by rfl) ?_))

theorem valueAt_mem {kvs : List (Str × Value)} {k : Str} {v : Value} (hn : (kvs.map (·.1)).Nodup) (h : (k, v) ∈ kvs) : valueAt kvs k = some v := by
  induction kvs with
  | nil => cases h
  | cons x l ih =>
    rw [List.map_cons, List.nodup_cons] at hn
    unfold valueAt
    rw [List.find?_cons]
    rcases List.mem_cons.mp h with rfl | h
    · simp
    · have : ¬ x.1 = k := fun e => hn.1 (e ▸ List.mem_map.mpr ⟨_, h, rfl⟩)
      simp only [this, decide_false]
      exact ih hn.2 h
theorem All2.memL {α β : Type} {R : α → β → Prop} : ∀ {l : List α} {m : List β} {a : α}, All2 R l m → a ∈ l → ∃ b, b ∈ m ∧ R a b
  | _, _, _, .cons h t, q => by
    cases q with
    | head => exact ⟨_, .head _, h⟩
    | tail _ q => obtain ⟨b, hb, r⟩ := t.memL q; exact ⟨b, .tail _ hb, r⟩
theorem Full.get {T dd d : Addr} {N : List Addr} {data : Data} {kvs : List (Str × Value)} {kr : Str × Row} (f : Full w s T dd d N data kvs) (h : kr ∈ data) : ∃ X dx, valueAt kvs kr.1 = some (.ref X) ∧ TagsAt s.heap X dx kr.2 ∧ Hi X ∧ Hi dx ∧ kr.2.length ≤ 100 ∧ X ∉ N ∧ dx ∉ N ∧ dx ≠ d ∧ (.ref X) ∈ kvs.map (·.2) := by
  obtain ⟨kv, hkv, e, X, dx, e2, t, hX, hdx, hn, hl, n1, n2⟩ := f.ents.memL h
  obtain ⟨k, v⟩ := kv
  dsimp only at e e2
  subst e e2
  exact ⟨X, dx, valueAt_mem f.nk hkv, t, hX, hdx, hl, n1, n2, hn, List.mem_map.mpr ⟨_, hkv, rfl⟩⟩

theorem law_same_call {T dd d pl : Addr} {N : List Addr} {data : Data} {kvs : List (Str × Value)} {ps : List Addr} (r : Rm (n + 14) A) (G : Gd w mg mb s) (f : Full w s T dd d N data kvs) (P : Plain s.heap pl data ps) (hdl : data.length ≤ 50)
    (h : ∀ s', Ex [] s s' → Q (.bool true) s') : wpAny (model pw w) A (call (.ref 505) [.ref T, .ref pl]) Q E s := by
  refine wpAny_call (call_fnC (n := n + 13) (binds := [("told", .ref T), ("plain", .ref pl)]) r G (f := 505) (by rfl) (by rfl) (by rfl) (fun L x hx => ?_) fun A' L s1 r1 _ F hcells => ?_)
  · simp only [List.mem_cons, List.not_mem_nil, or_false] at hx
    rcases hx with rfl | rfl
    · exact .inr ⟨by rfl, by rfl⟩
    · exact .inl (by rfl)
  obtain ⟨hcell, fc, ncL⟩ := hcells "told" (L + 1) (by rfl)
  clear hcells
  have hc1 : s1.heap.IsCell (L + 1) (some (.ref T)) := hcell
  clear hcell
  have hic : Hi (L + 1) := G.hi fc
  have hu : A'.in1.units < cLine := by have := r1.un; show A'.units + 1 < 9900; omega
  refine wpAny_execs_cons ?_
  have P1 := P.ex0 F.X
  have f1 := f.ex0 F.X
  have X0 := F.X
  repeat walk_at "m go"
  refine ldCell hc1 ?_
  repeat walk_at "m go"
  refine told_len (n := n) (r1.mono (by omega)) F.G f1.told fun t2 s2 Y2 => ?_
  replace F := F.go Y2
  repeat walk_at "m go"
  refine list_lenH (P1.ex0 Y2).lst (by simp; rw [← P.parts.len]; omega) fun t3 s3 Y3 => ?_
  replace F := F.go Y3
  repeat walk_at "m go"
  refine PySem.P.ne_int ?_
  have e0 : ((kvs.length : Int) != ((ps.map Value.ref).toArray.size : Int)) = false := by
    have a1 := f.len
    have a2 := P.parts.len
    simp; omega
  rw [e0]
  refine wpAny_truthy_bool ?_
  rw [if_neg (by simp)]
  have Y13 := Y2.then0 Y3
  have hc3 := IsCell.ex Y13 hc1 hic (by simp)
  have f3 := f1.ex0 Y13
  have P3 := P1.ex0 Y13
  repeat walk_at "m go"
  refine ldCell hc3 ?_
  refine f3.told.data F.G.K ?_
  repeat walk_at "m go"
  refine list_keys (s := { s3 with toks := s3.toks + 1 }) r1.hh (f3.ex0 (Ex.tok _)) fun D1 s4 Y4 fD1 hD1 => ?_
  have Y34 : Ex [] s3 s4 := (Ex.tok _).of0 Y4
  replace F := F.go Y34
  repeat walk_at "m go"
  refine comp_seq (mg := mg) (mb := mb) r1.hh (fun _ => true) (fun a y _ _ => ∃ k, keyOf s.heap a = some k ∧ StrV k y) (fun h _ => h) ?_
  repeat walk_at "m go"
  have P4 := P3.ex0 Y34
  refine ⟨pl, ps.map Value.ref, rfl, .inl P4.lst, P.hi, F.G, by rw [List.length_map, ← P.parts.len]; omega, ?_, ?_⟩
  · intro a C m₃ s₅ ha F5 hm
    obtain ⟨p, hp, rfl⟩ := List.mem_map.mp ha
    have Pp := P.parts
    obtain ⟨kr, _, hpart⟩ := Pp.mem hp
    have hko := keyOf_of hpart
    have hpart5 := ((hpart.exQ X0 (by simp)).exQ (Y13.then0 Y34) (by simp)).exQ F5.X (by simp)
    obtain ⟨l0, t0, pp, _⟩ := hpart5
    clear F
    refine wpAny_tests_nil ⟨rfl, Ex.refl _, fun _ => ?_⟩
    refine sub_lst ?_
    repeat walk_at "m go"
    exact ⟨p, _, .str kr.1 t0, rfl, pp, by omega, by omega, by simp, Ex.tok _, kr.1, hko, t0, rfl⟩
  · intro D2 s5 ys X5 fD2 plD2 a3
    replace F := F.go X5
    rw [List.filter_eq_self.mpr (fun _ _ => rfl)] at a3
    have hD2 : KeysAt s5.heap D2 (data.map (·.1)) := by
      refine ⟨ys, plD2, ?_⟩
      have Pp := P.parts
      clear h P1 P3 P4 plD2
      have key : ∀ (dt : Data) (qs : List Addr) (ys : List Value), All2 (PartAt s.heap) dt qs → All2 (fun a y => ∃ s₃, Ex [] s4 s₃ ∧ ∃ k, keyOf s.heap a = some k ∧ StrV k y) (qs.map Value.ref) ys → All2 StrV (dt.map (·.1)) ys := by
        intro dt qs ys aa
        induction aa generalizing ys with
        | nil => intro b; cases b; exact .nil
        | cons hh _ ih =>
          intro b
          cases b with
          | cons h1 b =>
            obtain ⟨_, _, k, e1, e2⟩ := h1
            rw [keyOf_of hh] at e1
            cases e1
            exact .cons e2 (ih _ b)
      exact key _ _ _ Pp a3
    have hD1' : KeysAt s5.heap D1 (data.map (·.1)) := by
      obtain ⟨vs, p1, p2⟩ := hD1
      have fD1' : s3.heap.get? D1 = none := fD1
      exact ⟨vs, PlainList.ex X5 p1 (G.hi (X0.off (Y13.off fD1'))) (by simp), p2⟩
    repeat walk_at "m go"
    refine ne_keys hu hD1' hD2 ?_
    refine wpAny_truthy_bool ?_
    rw [if_neg (by simp)]
    repeat walk_at "m go"
    rw [if_neg (by simp)]
    repeat walk_at "m go"
    have Y35 := Y34.then0 X5
    have hc5 := IsCell.ex Y35 hc3 hic (by simp)
    have f5 := f3.ex0 Y35
    have P5 := P3.ex0 Y35
    have X05 := X0.then0 (Y13.then0 Y35)
    refine comp_seq (mg := mg) (mb := mb) r1.hh (fun _ => false) (fun _ _ _ _ => False) (fun h _ => h) ?_
    repeat walk_at "m go"
    refine ⟨pl, ps.map Value.ref, rfl, .inl P5.lst, P.hi, F.G, by rw [List.length_map, ← P.parts.len]; omega, ?_, ?_⟩
    · intro a C m₃ s₆ ha F6 hm
      obtain ⟨p, hp, rfl⟩ := List.mem_map.mp ha
      have Pp := P.parts
      obtain ⟨kr, hkr, hpart⟩ := Pp.mem hp
      have hpart6 := (hpart.exQ X05 (by simp)).exQ F6.X (by simp)
      obtain ⟨l0, t0, pp, rows0, _, hil0, hzr⟩ := hpart6
      have f6 := f5.ex0 F6.X
      have hc6 := IsCell.ex F6.X hc5 hic (by simp)
      obtain ⟨Xk, dxk, hval, tgk, hiX, hidx, hlr, _, _, _, _⟩ := f6.get hkr
      clear F
      refine wpAny_tests_one ?_
      repeat walk_at "m go"
      refine sub_lst ?_
      repeat walk_at "m go"
      refine ⟨p, _, .str kr.1 t0, rfl, pp, by omega, by omega, by simp, ?_⟩
      refine ldCell (s := { s₆ with toks := s₆.toks + 1 }) hc6 ?_
      have Ytok : Ex [] s₆ { s₆ with toks := s₆.toks + 1 } := Ex.tok _
      refine (f6.ex0 Ytok).told.notIn (n := n) (Rm.ro r1 |>.mono (by omega)) (F6.G.ex Ytok) fun s₇ Y7 => ?_
      rw [hval]
      have Y67 := Ytok.then0 Y7
      have F7 := F6.go Y67
      clear F6
      refine wpAny_truthy_bool ?_
      rw [if_neg (by simp)]
      repeat walk_at "m go"
      have hc7 := IsCell.ex Y67 hc6 hic (by simp)
      have f7 := f6.ex0 Y67
      have pp7 := PlainList.ex Y67 pp (by obtain ⟨_, _, _, _, hq, _⟩ := hpart; exact hq) (by simp)
      refine ldCell hc7 ?_
      refine f7.told.method F7.G.K (name := "get") (f := 406) (by rfl) (by rfl) (fun _ _ _ => by rfl) ?_
      repeat walk_at "m go"
      refine sub_lst ?_
      repeat walk_at "m go"
      refine ⟨p, _, .str kr.1 t0, rfl, pp7, by omega, by omega, by simp, ?_⟩
      have F7' := F7.tok (t := s₇.toks + 1)
      clear F7
      repeat walk_at "m go"
      refine ⟨F7'.G.K, x_get (n := n) (r1.mono (by omega)) F7'.G (f7.told.ex0 (Ex.tok _)) hval fun s₈ Y8 => ?_⟩
      have F8 := F7'.go Y8
      clear F7'
      have Y78 : Ex [] s₇ s₈ := (Ex.tok _).of0 Y8
      have tg8 := (tgk.ex Y67 hiX hidx (by simp) (by simp)).ex Y78 hiX hidx (by simp) (by simp)
      obtain ⟨ts, hts, hta⟩ := tg8.lst
      repeat walk_at "m go"
      refine ⟨F8.G.K, law_pairs_call (n := n + 7) (r1.mono (by omega)) F8.G hts hta hiX (by omega) fun D3 s₉ Y9 fD3 rows3 => ?_⟩
      have F9 := F8.go Y9
      clear F8
      have Y69 := Y67.then0 (Y78.then0 Y9)
      repeat walk_at "m go"
      refine sub_lst ?_
      repeat walk_at "m go"
      have pp9 := PlainList.ex Y69 pp (by obtain ⟨_, _, _, _, hq, _⟩ := hpart; exact hq) (by simp)
      refine ⟨p, _, .ref l0, rfl, pp9, by omega, by omega, by simp, ?_⟩
      have rows9 := rows0.ex Y69 hil0.tab (by simp)
      refine ne_rows (s := { s₉ with toks := s₉.toks + 1 }) hu rows3 rows9 ?_
      refine wpAny_truthy_bool ?_
      rw [if_neg (by simp)]
      repeat walk_at "m go"
      exact ⟨rfl, Y69.then0 (Ex.tok _), fun hc => by cases hc⟩
    · intro D4 s6 ys4 X6 fD4 plD4 a4
      have e4 : ys4 = [] := by
        rw [List.filter_eq_nil_iff.mpr (by simp)] at a4
        cases a4; rfl
      subst e4
      replace F := F.go X6
      repeat walk_at "m go"
      refine list_ev ?_
      repeat walk_at "m go"
      refine ⟨by simp, fun D5 s7 Y7 fD5 plD5 => ?_⟩
      replace F := F.go Y7
      have hiD4 : Hi D4 := G.hi (X05.off fD4)
      refine eq_nil (Nat.lt_of_le_of_lt (Nat.le_succ _) hu) (PlainList.ex Y7 plD4 hiD4 (by simp)) plD5 ?_
      exact h _ F.X
end Mine

namespace Mine
variable {w : World} {mg mb : Str → Option Value}
variable {s : Shared} {Q : Value → Shared → Prop} {E : Value → Shared → Prop} {A : Around} {n : Nat}

local macro_rules | `(tactic| walk_at "m go") => `(tactic| first
  | with_reducible refine wpAny_execs_cons ?_
  | with_reducible refine wpAny_Return_some ?_
  | with_reducible refine wpAny_Call_NameR ?_
  | with_reducible refine wpAny_items_cons ?_ (by with_unfolding_all rfl)
  | with_reducible refine wpAny_items_nil ?_
  | with_reducible refine Attribute_name ?_
  | with_reducible refine wpAny_Compare1 ?_ (by with_unfolding_all rfl)
  | with_reducible refine wpAny_isTrue_Compare1 ?_ (by with_unfolding_all rfl)
  | with_reducible refine wpAny_isTrue_Not ?_
  | with_reducible refine wpAny_isTrue_BoolOp ?_
  | with_reducible refine wpAny_allTrue_And_cons ?_
  | with_reducible refine wpAny_allTrue_And_nil ?_
  | with_reducible refine wpAny_allTrue_Or_cons ?_
  | with_reducible refine wpAny_allTrue_Or_nil ?_
  | with_reducible refine wpAny_If ?_
  | ((with_reducible show wpAny _ _ (exec (.Expr _ _) _) _ _ _); refine wpAny_Expr_any ?_)
  | ((with_reducible show wpAny _ _ (eval (.Call (.Attribute _ _ _) _ [] _) _) _ _ _); refine MethodCall_ ?_ (by rfl))
  | with_reducible refine wpAny_truthy_bool ?_
  | with_reducible refine wpAny_execs_nil ?_
  | ((with_reducible show wpAny _ _ (PySem.isTrue (.Call _ _ _ _) _ _) _ _ _); refine wpAny_isTrue_value ?_ (by rfl))
  | ((with_reducible show wpAny _ _ (PySem.isTrue (.Name _ _) _ _) _ _ _); refine wpAny_isTrue_value ?_ (by rfl))
  | with_reducible refine wpAny_Assign_Name ?_ (by with_unfolding_all rfl)
  | with_reducible refine wpAny_Constant_int ?_
  | with_reducible refine wpAny_Constant_str ?_
  | with_reducible refine wpAny_Constant_bool ?_
  | with_reducible refine wpAny_Constant_none ?_
  | ((with_reducible show wpAny _ _ (eval (.Name _ _) _) _ _ _); first
    | refine Fm.ldL ‹Fm _ _ _ _ _ _ _ _› (by rfl) ?_
    | refine Fm.ldL ‹Fm _ _ _ _ _ _ _ _› (by assumption) ?_
    | refine Fm.ldG ‹Fm _ _ _ _ _ _ _ _› (by rfl) ?_
    | (refine Fm.ldB (v := .builtin _) ‹Fm _ _ _ _ _ _ _ _› (by rfl) (by rfl) ?_; try dsimp only)
    | (refine Fm.ldB (v := .type _) ‹Fm _ _ _ _ _ _ _ _› (by rfl) (by rfl) ?_; try dsimp only))
  | ((with_reducible show wpAny _ _ (callWith _ (.builtin _) _ _ _) _ _ _); refine PyProof.Rows.callWith_builtin1 ?_ (by with_unfolding_all rfl) (by with_unfolding_all rfl))
  | ((with_reducible show wpAny _ _ (callWith _ (.type _) _ _ _) _ _ _); refine Mine.callWith_ty ?_ (by with_unfolding_all rfl) (by with_unfolding_all rfl))
  | ((with_reducible show wpAny _ _ (callWith _ (.ref _) _ _ _) _ _ _); refine callWith_K (Fm.G ‹Fm _ _ _ _ _ _ _ _›).K (by rfl) ?_))

/-- the next of a generator made by a def -/
theorem pyNext_fun {a : Addr} {g n : Nat} {gs : GenState} {P : Nat → Shared → Shared → Prop} {Y : Protocol} {Q : Option Value → Shared → Prop} (hh : A.handled = none)
    (hl : s.heap.NoLimit) (hroom : A.depth < recursionLimit)
    (hg : s.heap.IsGen a g) (hgs : s.gens[g]? = some gs)
    (hgo : gs.Goes (model pw w) A.in1 (fun n s₀ r s₁ => r = .ok (.ret .none) ∧ P n s₀ s₁) Y n (.send .none) (s.setGen g .running))
    (hY : ∀ v s₁ gs', gs'.bare = true → Y (n - 1) (s.setGen g .running) v s₁ (fun r' s'' => match n with
        | 0 => False
        | m + 1 => gs'.Goes (model pw w) A.in1 (fun n s₀ r s₁ => r = .ok (.ret .none) ∧ P n s₀ s₁) Y m r' s'') → Q (some v) (s₁.setGen g gs'))
    (hP : ∀ s₁, P n (s.setGen g .running) s₁ → ∀ h', (∀ b o, s₁.heap.get? b = some o → h'.get? b = some o) → Q none { s₁.setGen g .finished with heap := h' }) :
    wpAny (model pw w) A (pyNext (.ref a)) Q E s := by
  unfold pyNext
  refine wpAny_bind (wpAny_attempt (wpAny_callSpecial?_slot (name := Str.ofString "__next__") hg.typeIs slot_gen_next
    (wpAny_call_entry slot_gen_next hg.typeIs entry_gen_next ?_ (args_gen_next _))))
  show wpAny _ A.in1 (Builtin.Generator.genWake (.ref a) (.send .none)) _ _ s
  unfold Builtin.Generator.genWake
  refine wpAny_bind (wpAny_holding (wpAny_genNumber hg (wpAny_bind (wpAny_genState hgs ?_))))
  cases gs with
  | running => exact hgo.elim
  | finished => exact hgo.elim
  | _ =>
    refine wpAny_bind (wpAny_roomToWake hl hroom ?_)
    show wpAny _ A.in1 (.resume g (.send .none) [] _) _ _ s
    refine wpAny_resumeQ hgs hgo (fun x s₁ hx => ?_) (fun v s₁ gs' hb hv => ?_)
    · obtain ⟨rfl, hp⟩ := hx
      show wpAny _ A.in1 (newExc (.type "StopIteration") [] >>= _) _ _ _
      refine wpAny_bind ?_
      simp only [newExc, newTuple]
      refine wpAny_bind (wpAny_newObj_type ?_ (by size_fits))
      refine wpAny_bind (m := firstArgMember _ _) (wpAny_of_eq (a := Value.none) (by first | rfl | (simp only [firstArgMember]; rfl)) ?_)
      refine wpAny_newObj_type ?_ (by size_fits)
      simp only [raiseNew]
      refine wpAny_bind (wpAny_bind (wpAny_handled ?_))
      first | rw [show A.in1.handled = none from hh] | rw [hh]
      refine wpAny_throw ?_
      refine wpAny_bind (wpAny_isInstance (T := "StopIteration") (b := true) ⟨_, Heap.get?_push_size _ rfl, rfl⟩ isSubtype_stop ?_)
      exact wpAny_pure (hP s₁ hp _ fun b o hb => Heap.get?_push_of_some _ (Heap.get?_push_of_some _ hb))
    · exact wpAny_pure ⟨v, rfl, wpAny_pure (hY v s₁ gs' hb hv)⟩

theorem slot_code {x : Addr} {c : Int} {v : Str} {ex : Bool} (X : (Kf w.params).In s.heap) (t : TagAt s.heap x c v) (h : ∀ tc s', Ex [] s s' → Q (.int c tc) s') : wpAny (model pw w) A (getAttr (.ref x) "_code" ex) Q E s := by
  obtain ⟨dx, tc, tv, od, e1, e2⟩ := t.2
  refine get_bind X (tag_inst e1 e2) (by rfl) (by rfl) (by rfl) ?_
  exact wpAny_call (slot_get (s := { s with toks := s.toks + 1 }) X (tag_inst e1 e2) (i := 0) (by rfl) (by rfl) (wpAny_of_eq (handedOut_of (by rfl)) (h tc _ (Ex.tok _))))

theorem call_fnG {f : Addr} {nm ql : Str} {S : Stmt} {dV pm cdv : Value} {an : Option Addr} {args : Args} {binds : List (Str × Value)} {R : Result → Shared → Prop}
    (r : Rm (n + 1) A) (G : Gd w mg mb s)
    (ho : (Kf w.params).lookup f = some ⟨.type "function", none, .func (fnX nm ql (argsOf S) (bodyOf S) (scopeOf S) [] dV .none .none pm an cdv .none), #[]⟩)
    (hcd : codeIn (Kf w.params) cdv ql = true) (hb : BindsTo s (fnX nm ql (argsOf S) (bodyOf S) (scopeOf S) [] dV .none .none pm an cdv .none) args binds)
    (h : ∀ a L s₁, Ex [] s s₁ → s.heap.get? a = none → s.heap.get? L = none → a ≠ L → s₁.heap.IsGen a s.gens.size → s₁.gens[s.gens.size]? = some (.fresh (.func (bodyOf S) (envOf ql (scopeOf S) L f cdv))) →
      s₁.heap.Ns L (fun x => binds.reverse.lookup x) → R (.ok (.ret (.ref a))) s₁)
    (hcell : ((scopeOf S).names.all fun x => x.2 != .cell) = true := by rfl) (hloc : (binds.all fun x => (scopeOf S).names.lookup x.1 == some .local) = true := by rfl)
    (hsc : (scopeOf S).isCoroutine = false ∧ (scopeOf S).isGenerator = true ∧ (scopeOf S).kind = .function := by exact ⟨by rfl, by rfl, by rfl⟩) :
    codeAny (model pw w) A (.call (.ref f) args) R s := by
  have hd : A.depth < recursionLimit := by have := r.dp; show A.depth < 1000; omega
  refine codeAny_call_generator hd (G.K f _ ho) rfl hsc.1 hsc.2.1 rfl (G.codeRec hcd) (hb _ _ _ _ ?_)
  refine wpAny_newFunctionEnv ?_ ?_ (fun h₀ hns hsb => ⟨G.noLimit.fresh _ hsb, ?_⟩) hsc.2.2
  · intro x hx e
    have := List.all_eq_true.mp hcell x hx
    rw [e] at this; cases this
  · intro x hx
    exact beq_iff_eq.mp (List.all_eq_true.mp hloc x hx)
  · have k5 : ∀ b o, s.heap.get? b = some o → h₀.get? b = some o := fun b o e => hsb.extBut b o (Nat.ne_of_lt (Heap.lt_size e)) (Heap.get?_push_of_some _ e)
    have fa : s.heap.get? h₀.objs.size = none := by
      cases e : s.heap.get? h₀.objs.size with
      | none => rfl
      | some o => have := k5 _ _ e; rw [get_size] at this; cases this
    have hne : h₀.objs.size ≠ s.heap.objs.size := fun z => by
      obtain ⟨o, _, _, e, _⟩ := hns
      rw [← z, get_size] at e; cases e
    refine h h₀.objs.size s.heap.objs.size _ ?_ fa (get_size _) hne ⟨_, _, _, Heap.get?_push_size _ rfl, rfl, rfl, rfl⟩ (Array.getElem?_push_size ..) (hns.push _)
    refine ⟨fun b o e _ _ => ⟨o.slots, Heap.get?_push_of_some _ (k5 _ _ e), fun _ => rfl⟩, fun b o e _ _ => Heap.get?_push_of_some _ (k5 _ _ e), fun b o e => ⟨o, Heap.get?_push_of_some _ (k5 _ _ e)⟩, fun _ h => (nomatch h), by simp, rfl,
      (Ex.of_keep (s := s) (tk := 0) (h' := h₀.push _) (fun b o e => Heap.get?_push_of_some _ (k5 b o e))).tabs, fun hb y hy => ?_⟩
    rcases Array.mem_push.mp hy with hy | rfl
    · exact hb _ hy
    · rfl

theorem tag_pyIter {x : Addr} {c : Int} {v : Str} {nm ql : Str} {S : Stmt} {dV pm cdv : Value} {an : Option Addr} (r : Rm (n + 2) A) (G : Gd w mg mb s) (t : TagAt s.heap x c v)
    (ho : (Kf w.params).lookup 81 = some ⟨.type "function", none, .func (fnX nm ql (argsOf S) (bodyOf S) (scopeOf S) [] dV .none .none pm an cdv .none), #[]⟩)
    (hcd : codeIn (Kf w.params) cdv ql = true) (hb : BindsTo s (fnX nm ql (argsOf S) (bodyOf S) (scopeOf S) [] dV .none .none pm an cdv .none) ⟨[.ref x], []⟩ [("self", .ref x)])
    (hcell : ((scopeOf S).names.all fun x => x.2 != .cell) = true) (hloc : (([("self", .ref x)] : List (Str × Value)).all fun x => (scopeOf S).names.lookup x.1 == some .local) = true)
    (hsc : (scopeOf S).isCoroutine = false ∧ (scopeOf S).isGenerator = true ∧ (scopeOf S).kind = .function)
    (h : ∀ a L s₁, Ex [] s s₁ → s.heap.get? a = none → s.heap.get? L = none → a ≠ L → s₁.heap.IsGen a s.gens.size →
      s₁.gens[s.gens.size]? = some (.fresh (.func (bodyOf S) (envOf ql (scopeOf S) L 81 cdv))) →
      s₁.heap.Ns L (fun y => ([("self", .ref x)] : List (Str × Value)).reverse.lookup y) → Q (.ref a) s₁) : wpAny (model pw w) A (pyIter (.ref x)) Q E s := by
  obtain ⟨dx, tc, tv, od, e1, e2⟩ := t.2
  have X := G.K
  have to : Looks (model pw w) s.heap (typeOf (.ref x)) (.ref 113) := (Looks.ld e1).andThen .now
  have sp : Looks (model pw w) s.heap (specialOf (.ref x) "__iter__") (some (.ref 81)) := to.andThen (looks_findIn X (by rfl))
  have bd : Looks (model pw w) s.heap (bindSpecialIfBound? (.ref x) "__iter__") (some (.ref 81, [.ref x])) := bound_here sp (bind_fn X _ (by rfl))
  unfold pyIter callSpecialIfBoundUnlessNone?
  refine wpAny_bind (sp.here ?_)
  dsimp only
  refine wpAny_bind (wpAny_holding (wpAny_bind (bd.here ?_)))
  dsimp only
  rw [if_neg (by decide)]
  refine wpAny_bind (wpAny_call (call_fnG (n := n + 1) (binds := [("self", .ref x)]) r G (f := 81) ho hcd hb (fun a L s1 Y fa fL hne hg hgs hns => ?_) hcell hloc hsc))
  refine wpAny_pure ?_
  dsimp only
  refine wpAny_bind (Looks.here (r := some (.builtin "generator.__next__")) ?_ ?_)
  · exact (IsGen.type hg).andThen (Looks.of_pure slot_gen_next.lookup)
  · exact wpAny_pure (h a L s1 Y fa fL hne hg hgs hns)

/-- what DXFTag's generator hands on -/
def uProto (L : Addr) (c : Int) (v : Str) : Protocol := fun m s₀ y s kap =>
  (m = 1 → ∃ tc, y = .int c tc) ∧ (m = 0 → ∃ tv, y = .str v tv) ∧ Ex [] s₀ s ∧ ∀ s'', Ready [L] s s'' → kap (.send .none) s''
abbrev uEnd : GenEnd := fun n s₀ r s₁ => r = .ok (.ret .none) ∧ (n = 0 ∧ Ex [] s₀ s₁)

theorem tag_unpack {x : Addr} {c : Int} {v : Str} {Q : List Value → Shared → Prop} (r : Rm (n + 6) A) (G : Gd w mg mb s) (t : TagAt s.heap x c v)
    (h : ∀ tc tv s', Ex [] s s' → Q [.int c tc, .str v tv] s') : wpAny (model pw w) A (unpackItems (.ref x) 2 none) Q E s := by
  obtain ⟨dx, tc, tv, od, e1, e2⟩ := t.2
  have X := G.K
  have to : Looks (model pw w) s.heap (typeOf (.ref x)) (.ref 113) := (Looks.ld e1).andThen .now
  have sp : Looks (model pw w) s.heap (specialOf (.ref x) "__iter__") (some (.ref 81)) := to.andThen (looks_findIn X (by rfl))
  unfold unpackItems
  refine wpAny_bind ?_
  unfold notIterableAtAll
  refine wpAny_bind (sp.here ?_)
  refine wpAny_pure ?_
  simp only [Bool.false_eq_true, if_false]
  refine wpAny_bind (wpAny_holding (tag_pyIter (n := n + 4) r G t (by rfl) (by rfl) (BindsTo.of_eq (by rfl)) (by rfl) (by rfl) ⟨by rfl, by rfl, by rfl⟩ fun a L s1 Y1 fa fL hne hg hgs hns => ?_))
  have hd : A.depth < recursionLimit := by have := r.dp; show A.depth < 1000; omega
  have hia := G.hi fa
  have hiL := G.hi fL
  have r1 : Rm (n + 5) A.in1 := Rm.in1 r
  have nx : ∀ {s' : Shared} {y : GenState}, y.bare = true → Ex [] s' (s'.setGen s.gens.size y) := fun hy => Ex.setGen _ _ _ hy
  have hlt1 : s.gens.size < s1.gens.size := by
    obtain ⟨q, _⟩ := Array.getElem?_eq_some_iff.mp hgs
    exact q
  show wpAny _ _ (holding _ (pyNext (.ref a) >>= _) >>= _) _ _ _
  refine wpAny_bind (wpAny_holding (wpAny_bind ?_))
  have Y1r : Ex [] s (s1.setGen s.gens.size .running) := Y1.then0 (nx rfl)
  refine pyNext_fun (P := fun n s₀ s₁ => n = 0 ∧ Ex [] s₀ s₁) (Y := uProto L c v) (n := 2) r.hh (G.ex Y1).noLimit hd hg hgs ⟨rfl, ?_⟩ ?_ ?_
  · refine seg_func (seg_execs_cons (seg_Expr_Yield rfl rfl rfl ?_))
    have F : Fm w mg mb s L _ [] (s1.setGen s.gens.size .running) := ⟨G.ex Y1r, Ns.ex (nx (s' := s1) (y := .running) rfl) hns hiL.tab (by simp), Y1r, fL, hiL⟩
    repeat walk_at "m go"
    refine slot_code F.G.K (t.ex F.X) fun tc s2 Y2 kap hk => ?_
    refine ⟨fun _ => ⟨tc, rfl⟩, fun z => by omega, Y2, fun s3 ⟨V, X3, hV⟩ => hk .none s3 ?_⟩
    replace F := F.go Y2
    have F3 := F.goW X3 (fun m => hV _ m (.head _))
    rw [List.nil_append] at F3
    clear F
    refine seg_execs_cons (seg_Expr_Yield rfl rfl rfl ?_)
    repeat walk_at "m go"
    refine tag_value (n := n) (Rm.over0 (n := n + 2) (r1.mono (by omega)) (by exact Nat.le_of_ble_eq_true rfl) (by exact Nat.le_of_ble_eq_true rfl)) F3.G.K (t.ex F3.X) fun tv s4 Y4 kap hk => ?_
    refine ⟨fun z => by omega, fun _ => ⟨tv, rfl⟩, Y4, fun s5 _ => hk .none s5 ?_⟩
    refine seg_execs_nil ?_
    exact seg_end (.ok (.ret .none)) ⟨rfl, rfl, Ex.refl _⟩
  · rintro y s2 gs2 hb2 ⟨hy, _, Y2, hk2⟩
    obtain ⟨tc, rfl⟩ := hy rfl
    have Y2n : Ex [] s2 (s2.setGen s.gens.size gs2) := nx hb2
    have Y02 := (Y1r.then0 Y2).then0 Y2n
    have hlt2 : s.gens.size < s2.gens.size := Nat.lt_of_lt_of_le hlt1 ((nx (s' := s1) (y := .running) rfl).then0 Y2).gsz
    have hg2 := IsGen.ex (((nx (s' := s1) (y := .running) rfl).then0 Y2).then0 Y2n) hg hia (by simp)
    have hgs2 : (s2.setGen s.gens.size gs2).gens[s.gens.size]? = some gs2 := by simp [Shared.setGen, Array.getElem?_setIfInBounds_self, hlt2]
    dsimp only
    refine wpAny_bind (wpAny_holding ?_)
    show wpAny _ _ (pyNext (.ref a) >>= _) _ _ _
    refine wpAny_bind ?_
    refine pyNext_fun (P := fun n s₀ s₁ => n = 0 ∧ Ex [] s₀ s₁) (Y := uProto L c v) (n := 1) r.hh (G.ex Y02).noLimit hd hg2 hgs2 (hk2 _ ?_) ?_ ?_
    · exact ⟨[], Y2n.then0 (nx rfl), by simp⟩
    · rintro y s3 gs3 hb3 ⟨_, hy, Y3, hk3⟩
      obtain ⟨tv, rfl⟩ := hy rfl
      have Y3n : Ex [] s3 (s3.setGen s.gens.size gs3) := nx hb3
      have Y23 : Ex [] (s2.setGen s.gens.size gs2) (s3.setGen s.gens.size gs3) := ((nx rfl).then0 Y3).then0 Y3n
      have Y03 := Y02.then0 Y23
      have hlt3 : s.gens.size < s3.gens.size := Nat.lt_of_lt_of_le hlt2 ((Y2n.then0 (nx rfl)).then0 Y3).gsz
      have hg3 := IsGen.ex Y23 hg2 hia (by simp)
      have hgs3 : (s3.setGen s.gens.size gs3).gens[s.gens.size]? = some gs3 := by simp [Shared.setGen, Array.getElem?_setIfInBounds_self, hlt3]
      dsimp only
      refine wpAny_bind (wpAny_holding (wpAny_pure (wpAny_pure (wpAny_pure ?_))))
      rw [if_neg (by simp)]
      refine wpAny_bind (wpAny_holding ?_)
      refine pyNext_fun (P := fun n s₀ s₁ => n = 0 ∧ Ex [] s₀ s₁) (Y := uProto L c v) (n := 0) r.hh (G.ex Y03).noLimit hd hg3 hgs3 (hk3 _ ?_) ?_ ?_
      · exact ⟨[], Y3n.then0 (nx rfl), by simp⟩
      · rintro y s4 gs4 _ ⟨_, _, _, hk4⟩
        exact (hk4 s4 ⟨[], Ex.refl _, by simp⟩).elim
      · rintro s4 ⟨_, Y4⟩ h' hk'
        simp only [Option.isSome_none, Bool.false_eq_true, if_false]
        refine wpAny_pure ?_
        have Y4n : Ex [] s4 (s4.setGen s.gens.size .finished) := nx rfl
        exact h tc tv _ ((((Y03.then0 (nx rfl)).then0 Y4).then0 Y4n).then0 (Ex.of_keep (tk := (s4.setGen s.gens.size .finished).toks) hk'))
    · rintro s3 ⟨z, _⟩
      cases z
  · rintro s3 ⟨z, _⟩
    cases z
end Mine

namespace Mine
variable {w : World} {mg mb : Str → Option Value}
variable {s : Shared} {Q : Value → Shared → Prop} {E : Value → Shared → Prop} {A : Around} {n : Nat}

local macro_rules | `(tactic| walk_at "m go") => `(tactic| first
  | with_reducible refine wpAny_execs_cons ?_
  | with_reducible refine wpAny_Return_some ?_
  | with_reducible refine wpAny_Call_NameR ?_
  | with_reducible refine wpAny_items_cons ?_ (by with_unfolding_all rfl)
  | with_reducible refine wpAny_items_nil ?_
  | with_reducible refine Attribute_name ?_
  | with_reducible refine wpAny_Compare1 ?_ (by with_unfolding_all rfl)
  | with_reducible refine wpAny_isTrue_Compare1 ?_ (by with_unfolding_all rfl)
  | with_reducible refine wpAny_isTrue_Not ?_
  | with_reducible refine wpAny_isTrue_BoolOp ?_
  | with_reducible refine wpAny_allTrue_And_cons ?_
  | with_reducible refine wpAny_allTrue_And_nil ?_
  | with_reducible refine wpAny_allTrue_Or_cons ?_
  | with_reducible refine wpAny_allTrue_Or_nil ?_
  | with_reducible refine wpAny_If ?_
  | ((with_reducible show wpAny _ _ (exec (.Expr _ _) _) _ _ _); refine wpAny_Expr_any ?_)
  | ((with_reducible show wpAny _ _ (eval (.Call (.Attribute _ _ _) _ [] _) _) _ _ _); refine MethodCall_ ?_ (by rfl))
  | with_reducible refine wpAny_truthy_bool ?_
  | with_reducible refine wpAny_execs_nil ?_
  | ((with_reducible show wpAny _ _ (PySem.isTrue (.Call _ _ _ _) _ _) _ _ _); refine wpAny_isTrue_value ?_ (by rfl))
  | ((with_reducible show wpAny _ _ (PySem.isTrue (.Name _ _) _ _) _ _ _); refine wpAny_isTrue_value ?_ (by rfl))
  | with_reducible refine wpAny_Assign_Name ?_ (by with_unfolding_all rfl)
  | with_reducible refine wpAny_Constant_int ?_
  | with_reducible refine wpAny_Constant_str ?_
  | with_reducible refine wpAny_Constant_bool ?_
  | with_reducible refine wpAny_Constant_none ?_
  | ((with_reducible show wpAny _ _ (eval (.Name _ _) _) _ _ _); first
    | refine Fm.ldL ‹Fm _ _ _ _ _ _ _ _› (by rfl) ?_
    | refine Fm.ldL ‹Fm _ _ _ _ _ _ _ _› (by assumption) ?_
    | refine Fm.ldG ‹Fm _ _ _ _ _ _ _ _› (by rfl) ?_
    | (refine Fm.ldB (v := .builtin _) ‹Fm _ _ _ _ _ _ _ _› (by rfl) (by rfl) ?_; try dsimp only)
    | (refine Fm.ldB (v := .type _) ‹Fm _ _ _ _ _ _ _ _› (by rfl) (by rfl) ?_; try dsimp only))
  | ((with_reducible show wpAny _ _ (callWith _ (.builtin _) _ _ _) _ _ _); refine PyProof.Rows.callWith_builtin1 ?_ (by with_unfolding_all rfl) (by with_unfolding_all rfl))
  | ((with_reducible show wpAny _ _ (callWith _ (.type _) _ _ _) _ _ _); refine Mine.callWith_ty ?_ (by with_unfolding_all rfl) (by with_unfolding_all rfl))
  | ((with_reducible show wpAny _ _ (callWith _ (.ref _) _ _ _) _ _ _); refine callWith_K (Fm.G ‹Fm _ _ _ _ _ _ _ _›).K (by rfl) ?_))

theorem tag_eq {x y : Addr} {c k1 : Int} {v k : Str} {tc tv : Tok} (r : Rm (n + 5) A) (G : Gd w mg mb s) (t : TagAt s.heap x c v) (i : s.heap.IsTuple y #[.int k1 tc, .str k tv]) (hy : tabA y = false)
    (h : ∀ s', Ex [] s s' → Q (.bool (c == k1 && v == k)) s') : wpAny (model pw w) A (call (.ref 88) [.ref x, .ref y]) Q E s := by
  refine wpAny_call (call_fn (n := n + 4) (binds := [("self", .ref x), ("other", .ref y)]) r G (f := 88) (by rfl) (by rfl) (BindsTo.of_eq (by rfl)) fun A' L s1 r1 F => ?_)
  refine wpAny_execs_cons ?_
  repeat walk_at "m go"
  refine tuple_ev ?_
  repeat walk_at "m go"
  refine slot_code F.G.K (t.ex F.X) fun tc1 s2 Y2 => ?_
  replace F := F.go Y2
  repeat walk_at "m go"
  refine tag_value (n := n) (r1.mono (by omega)) F.G.K (t.ex F.X) fun tv1 s3 Y3 => ?_
  replace F := F.go Y3
  repeat walk_at "m go"
  refine ⟨by simp, fun x3 s4 Y4 _ e4 => ?_⟩
  replace F := F.go Y4
  repeat walk_at "m go"
  have i4 : s4.heap.IsTuple y #[.int k1 tc, .str k tv] := by
    obtain ⟨o, ho, hc, n', hd⟩ := i
    exact ⟨_, F.X.get ho hy (by simp) (by rw [hc]; simp), hc, n', hd⟩
  refine PySem.SeqAt.eq_tupleAt (e := fun j => if j = 0 then c == k1 else v == k) ⟨_, e4, rfl, _, rfl⟩ i4 (by have := r1.un; show A'.units < 9900; omega) (fun j h1 h2 => ?_) ?_
  · rcases j with _ | _ | j
    · have := PySem.SeqAt.EqAt.int_int (A := A'.in1) (s := s4) c tc1 k1 tc
      simpa using this
    · have := PySem.SeqAt.EqAt.str_str (A := A'.in1) (s := s4) v tv1 k tv
      simpa using this
    · exact absurd h1 (by simp)
  · have e9 : ((List.range 2).all fun j => if j = 0 then c == k1 else v == k) = (c == k1 && v == k) := by simp [List.range_succ]
    show Q (.bool (((List.range 2).all fun j => if j = 0 then c == k1 else v == k) && true)) s4
    rw [e9, Bool.and_true]
    exact h s4 F.X
theorem tag_ne {x y : Addr} {c k1 : Int} {v k : Str} {tc tv : Tok} (r : Rm (n + 7) A) (G : Gd w mg mb s) (t : TagAt s.heap x c v) (i : s.heap.IsTuple y #[.int k1 tc, .str k tv]) (hy : tabA y = false)
    (h : ∀ s', Ex [] s s' → Q (.bool (!(c == k1 && v == k))) s') : wpAny (model pw w) A (compareOp .NotEq (.ref x) (.ref y)) Q E s := by
  have t' := t
  obtain ⟨hix, dx, tc', tv', od, e1, e2⟩ := t'
  have X := G.K
  have hu : A.units + 2 < cLine := by have := r.un; show A.units + 2 < 9900; omega
  have to : Looks (model pw w) s.heap (typeOf (.ref x)) (.ref 113) := (Looks.ld e1).andThen .now
  have i' := i
  obtain ⟨oy, hoy, hcy, _⟩ := i'
  have ty : Looks (model pw w) s.heap (typeOf (.ref y)) (.type "tuple") := (Looks.ld hoy).andThen (by rw [hcy]; exact .now)
  have sp : Looks (model pw w) s.heap (specialOf (.ref x) "__ne__") (some (.builtin "object.__ne__")) := to.andThen (looks_findIn X (by rfl))
  have bd : Looks (model pw w) s.heap (bindSpecialIfBound? (.ref x) "__ne__") (some (.builtin "object.__ne__", [.ref x])) := bound_here sp (Looks.of_pure (PySem.F.slot_object_ne.bind _))
  have sq : Looks (model pw w) s.heap (specialOf (.ref x) "__eq__") (some (.ref 88)) := to.andThen (looks_findIn X (by rfl))
  have bq : Looks (model pw w) s.heap (bindSpecialIfBound? (.ref x) "__eq__") (some (.ref 88, [.ref x])) := bound_here sq (bind_fn X _ (by rfl))
  show wpAny _ _ (richCompare .NotEq (.ref x) (.ref y)) _ _ _
  unfold richCompare
  simp only [oneThing_ref]
  refine wpAny_holding ?_
  refine wpAny_bind (wpAny_cRoomFor (by omega) ?_)
  rw [cmpInfo_NotEq]
  dsimp only
  refine wpAny_bind (to.here ?_)
  refine wpAny_bind (ty.here ?_)
  rw [show (Value.ref 113 != Value.type "tuple") = true from by rfl]
  simp only [if_true]
  refine wpAny_bind (Looks.here (r := false) (Looks.of_pure (isSubtype_of_subB (by with_unfolding_all rfl))) ?_)
  simp only [Bool.false_eq_true, if_false]
  unfold tryCompare callSpecialIfBound?
  refine wpAny_bind (wpAny_bind (wpAny_holding (wpAny_bind (bd.here ?_))))
  dsimp only
  refine wpAny_bind ?_
  show wpAny _ _ (call (.builtin "object.__ne__") [.ref x, .ref y]) _ _ _
  refine wpAny_call (codeAny_call_builtin PySem.F.slot_object_ne.plain PySem.F.entry_object_ne (check_slot (i := "object.__ne__") (owner := "object") (n := "__ne__") (by decide +kernel) (by decide +kernel) (to.andThen (looks_mroIn X (by rfl))) (PySem.F.args_object_ne_2 _ _) ?_))
  unfold Builtin.«object.__ne__»
  refine wpAny_bind (m := slotArgs "__ne__" 1 _) (wpAny_pure ?_)
  dsimp only
  refine wpAny_bind (m := cRoomFor _ _) (wpAny_cRoomFor (by show A.units + 1 < _; omega) ?_)
  unfold callSpecialIfBound?
  refine wpAny_bind (wpAny_holding (wpAny_bind (bq.here ?_)))
  dsimp only
  refine wpAny_bind ?_
  show wpAny _ _ (call (.ref 88) [.ref x, .ref y]) _ _ _
  refine tag_eq (n := n + 1) (Rm.in1 (n := n + 6) r) G t i hy fun s' Y => ?_
  refine wpAny_pure ?_
  dsimp only
  refine wpAny_bind (wpAny_truthy_bool ?_)
  exact wpAny_pure (wpAny_pure (wpAny_pure (wpAny_pure (h s' Y))))
end Mine

namespace Mine
variable {w : World} {mg mb : Str → Option Value}
variable {s : Shared} {Q : Value → Shared → Prop} {E : Value → Shared → Prop} {A : Around} {n : Nat}

local macro_rules | `(tactic| walk_at "m go") => `(tactic| first
  | with_reducible refine wpAny_execs_cons ?_
  | with_reducible refine wpAny_Return_some ?_
  | with_reducible refine wpAny_Call_NameR ?_
  | with_reducible refine wpAny_items_cons ?_ (by with_unfolding_all rfl)
  | with_reducible refine wpAny_items_nil ?_
  | with_reducible refine Attribute_name ?_
  | with_reducible refine wpAny_Compare1 ?_ (by with_unfolding_all rfl)
  | with_reducible refine wpAny_isTrue_Compare1 ?_ (by with_unfolding_all rfl)
  | with_reducible refine wpAny_isTrue_Not ?_
  | with_reducible refine wpAny_isTrue_BoolOp ?_
  | with_reducible refine wpAny_allTrue_And_cons ?_
  | with_reducible refine wpAny_allTrue_And_nil ?_
  | with_reducible refine wpAny_allTrue_Or_cons ?_
  | with_reducible refine wpAny_allTrue_Or_nil ?_
  | with_reducible refine wpAny_If ?_
  | ((with_reducible show wpAny _ _ (exec (.Expr _ _) _) _ _ _); refine wpAny_Expr_any ?_)
  | ((with_reducible show wpAny _ _ (eval (.Call (.Attribute _ _ _) _ [] _) _) _ _ _); refine MethodCall_ ?_ (by rfl))
  | with_reducible refine wpAny_truthy_bool ?_
  | with_reducible refine wpAny_execs_nil ?_
  | ((with_reducible show wpAny _ _ (PySem.isTrue (.Call _ _ _ _) _ _) _ _ _); refine wpAny_isTrue_value ?_ (by rfl))
  | ((with_reducible show wpAny _ _ (PySem.isTrue (.Name _ _) _ _) _ _ _); refine wpAny_isTrue_value ?_ (by rfl))
  | with_reducible refine wpAny_Assign_Name ?_ (by with_unfolding_all rfl)
  | with_reducible refine wpAny_Constant_int ?_
  | with_reducible refine wpAny_Constant_str ?_
  | with_reducible refine wpAny_Constant_bool ?_
  | with_reducible refine wpAny_Constant_none ?_
  | ((with_reducible show wpAny _ _ (eval (.Name _ _) _) _ _ _); first
    | refine Fm.ldL ‹Fm _ _ _ _ _ _ _ _› (by rfl) ?_
    | refine Fm.ldL ‹Fm _ _ _ _ _ _ _ _› (by assumption) ?_
    | refine Fm.ldG ‹Fm _ _ _ _ _ _ _ _› (by rfl) ?_
    | (refine Fm.ldB (v := .builtin _) ‹Fm _ _ _ _ _ _ _ _› (by rfl) (by rfl) ?_; try dsimp only)
    | (refine Fm.ldB (v := .type _) ‹Fm _ _ _ _ _ _ _ _› (by rfl) (by rfl) ?_; try dsimp only))
  | ((with_reducible show wpAny _ _ (callWith _ (.builtin _) _ _ _) _ _ _); refine PyProof.Rows.callWith_builtin1 ?_ (by with_unfolding_all rfl) (by with_unfolding_all rfl))
  | ((with_reducible show wpAny _ _ (callWith _ (.type _) _ _ _) _ _ _); refine Mine.callWith_ty ?_ (by with_unfolding_all rfl) (by with_unfolding_all rfl))
  | ((with_reducible show wpAny _ _ (callWith _ (.ref _) _ _ _) _ _ _); refine callWith_K (Fm.G ‹Fm _ _ _ _ _ _ _ _›).K (by rfl) ?_))

/-- a method of list's on Tags -/
theorem tags_method {x dx : Addr} {xs : Array Value} {nn : Nat} {name : Str} {id : String} {pl : Sem Bool} {Q : Value × List Value → Shared → Prop} (X : (Kf w.params).In s.heap) (hx : s.heap.get? x = some (tagsO dx xs nn)) (hd : s.heap.get? dx = some emptyD)
    (hf : findIn (Kf w.params) (.ref 323) name = some (some (.builtin id))) (ht : typeOf (.builtin id) = pure (.type "method_descriptor")) (hs : lookIn name emptyD = some none) (h : Q (.builtin id, [.ref x]) s) :
    wpAny (model pw w) A (getMethod (.ref x) name pl) Q E s := by
  have I : InstAt s.heap x (tagsO dx xs nn) 323 (some emptyD) := ⟨hx, rfl, rfl, hd⟩
  have hcan : (Manifest.canonical "list.__getattribute__" != "object.__getattribute__") = false := by decide +kernel
  have hga : findIn (Kf w.params) (.ref 323) "__getattribute__" = some (some (.builtin "list.__getattribute__")) := by rfl
  have hk : findIn (Kf w.params) (.ref 323) "__getattr__" = some none := by rfl
  unfold getMethod specialOf
  refine wpAny_bind (wpAny_bind (I.type.here ((looks_findIn X hga).here ?_)))
  dsimp only
  rw [hcan, if_neg (by decide)]
  refine wpAny_bind (wpAny_bind (I.type.here ((looks_findIn X hk).here ?_)))
  refine wpAny_bind (wpAny_bind (I.type.here ((looks_findIn X hf).here (wpAny_bind ?_))))
  rw [ht]
  refine wpAny_pure ?_
  rw [if_neg (by decide +kernel)]
  refine wpAny_bind (wpAny_loadPart I.at_ ?_)
  refine wpAny_bind (wpAny_bind (wpAny_loadPart hd ?_))
  rw [nsLook_of hs]
  refine wpAny_pure ?_
  exact wpAny_bind (wpAny_rule (wpAny_pure h))

end Mine

namespace Mine
variable {w : World} {mg mb : Str → Option Value}
variable {s : Shared} {Q : Value → Shared → Prop} {E : Value → Shared → Prop} {A : Around} {n : Nat}

local macro_rules | `(tactic| walk_at "m go") => `(tactic| first
  | with_reducible refine wpAny_execs_cons ?_
  | with_reducible refine wpAny_Return_some ?_
  | with_reducible refine wpAny_Call_NameR ?_
  | with_reducible refine wpAny_items_cons ?_ (by with_unfolding_all rfl)
  | with_reducible refine wpAny_items_nil ?_
  | with_reducible refine Attribute_name ?_
  | with_reducible refine wpAny_Compare1 ?_ (by with_unfolding_all rfl)
  | with_reducible refine wpAny_isTrue_Compare1 ?_ (by with_unfolding_all rfl)
  | with_reducible refine wpAny_isTrue_Not ?_
  | with_reducible refine wpAny_isTrue_BoolOp ?_
  | with_reducible refine wpAny_allTrue_And_cons ?_
  | with_reducible refine wpAny_allTrue_And_nil ?_
  | with_reducible refine wpAny_allTrue_Or_cons ?_
  | with_reducible refine wpAny_allTrue_Or_nil ?_
  | with_reducible refine wpAny_If ?_
  | ((with_reducible show wpAny _ _ (exec (.Expr _ _) _) _ _ _); refine wpAny_Expr_any ?_)
  | ((with_reducible show wpAny _ _ (eval (.Call (.Attribute _ _ _) _ [] _) _) _ _ _); refine MethodCall_ ?_ (by rfl))
  | with_reducible refine wpAny_truthy_bool ?_
  | with_reducible refine wpAny_execs_nil ?_
  | ((with_reducible show wpAny _ _ (PySem.isTrue (.Call _ _ _ _) _ _) _ _ _); refine wpAny_isTrue_value ?_ (by rfl))
  | ((with_reducible show wpAny _ _ (PySem.isTrue (.Name _ _) _ _) _ _ _); refine wpAny_isTrue_value ?_ (by rfl))
  | with_reducible refine wpAny_Assign_Name ?_ (by with_unfolding_all rfl)
  | with_reducible refine wpAny_Constant_int ?_
  | with_reducible refine wpAny_Constant_str ?_
  | with_reducible refine wpAny_Constant_bool ?_
  | with_reducible refine wpAny_Constant_none ?_
  | ((with_reducible show wpAny _ _ (eval (.Name _ _) _) _ _ _); first
    | refine Fm.ldL ‹Fm _ _ _ _ _ _ _ _› (by rfl) ?_
    | refine Fm.ldL ‹Fm _ _ _ _ _ _ _ _› (by assumption) ?_
    | refine Fm.ldG ‹Fm _ _ _ _ _ _ _ _› (by rfl) ?_
    | (refine Fm.ldB (v := .builtin _) ‹Fm _ _ _ _ _ _ _ _› (by rfl) (by rfl) ?_; try dsimp only)
    | (refine Fm.ldB (v := .type _) ‹Fm _ _ _ _ _ _ _ _› (by rfl) (by rfl) ?_; try dsimp only))
  | ((with_reducible show wpAny _ _ (callWith _ (.builtin _) _ _ _) _ _ _); refine PyProof.Rows.callWith_builtin1 ?_ (by with_unfolding_all rfl) (by with_unfolding_all rfl))
  | ((with_reducible show wpAny _ _ (callWith _ (.type _) _ _ _) _ _ _); refine Mine.callWith_ty ?_ (by with_unfolding_all rfl) (by with_unfolding_all rfl))
  | ((with_reducible show wpAny _ _ (callWith _ (.ref _) _ _ _) _ _ _); refine callWith_K (Fm.G ‹Fm _ _ _ _ _ _ _ _›).K (by rfl) ?_))

/-- a row's tag, as a tuple or as a DXFTag -/
def ItV (h : Heap) (p : Int × Str) (v : Value) : Prop := TupV h p v ∨ TagV h p v
theorem ItV.ex {W : List Addr} {s s' : Shared} {p : Int × Str} {v : Value} (Y : Ex W s s') (t : ItV s.heap p v) : ItV s'.heap p v := t.imp (fun z => z.ex Y) (fun z => z.ex Y)
theorem ItV.inj {h : Heap} {p q : Int × Str} {v : Value} (t : ItV h p v) (t' : ItV h q v) : p = q := by
  rcases t with t | t <;> rcases t' with t' | t'
  · exact t.inj t'
  · obtain ⟨x, n, tc, tv, rfl, _, e⟩ := t
    obtain ⟨x', e1, _, dx', tc', tv', od', e', _⟩ := t'
    cases e1
    rw [e] at e'; cases e'
  · obtain ⟨x, n, tc, tv, rfl, _, e⟩ := t'
    obtain ⟨x', e1, _, dx', tc', tv', od', e', _⟩ := t
    cases e1
    rw [e] at e'; cases e'
  · exact t.inj t'
theorem it_unpack {p : Int × Str} {v : Value} {Q : List Value → Shared → Prop} (r : Rm (n + 6) A) (G : Gd w mg mb s) (t : ItV s.heap p v)
    (h : ∀ tc tv s', Ex [] s s' → Q [.int p.1 tc, .str p.2 tv] s') : wpAny (model pw w) A (unpackItems v 2 none) Q E s := by
  rcases t with t | ⟨x, rfl, t⟩
  · obtain ⟨x, n, tc, tv, rfl, _, e⟩ := t
    refine unpackItems_tuple (items := #[.int p.1 tc, .str p.2 tv]) r.hh ⟨_, e, rfl, _, rfl⟩ fun h' he => ?_
    exact h tc tv _ (Ex.of_keep (s := s) (tk := s.toks) fun b o e => he b o (Nat.ne_of_lt (Heap.lt_size e)) e)
  · exact tag_unpack (n := n) r G t h
def marked (k : Str) (row : Row) : Row := match row with
  | p :: _ => if p.1 == 1001 && p.2 == k then row else (1001, k) :: row
  | [] => [(1001, k)]

def need (k : Str) (row : Row) : Bool := match row with
  | p :: _ => !(p.1 == 1001 && p.2 == k)
  | [] => true
theorem need_false {k : Str} {row : Row} (h : need k row = false) : marked k row = row := by
  cases row with
  | nil => cases h
  | cons p row =>
    have : (p.1 == 1001 && p.2 == k) = true := by simpa [need] using h
    simp only [marked, this, if_true]
theorem need_true {k : Str} {row : Row} (h : need k row = true) : marked k row = (1001, k) :: row := by
  cases row with
  | nil => rfl
  | cons p row =>
    have : (p.1 == 1001 && p.2 == k) = false := by
      unfold need at h
      dsimp only at h
      cases q : (p.1 == 1001 && p.2 == k) with
      | false => rfl
      | true => rw [q] at h; cases h
    simp only [marked, this]
    rfl
theorem marked_len (k : Str) (row : Row) : (marked k row).length ≤ row.length + 1 := by
  cases hn : need k row with
  | false => rw [need_false hn]; omega
  | true => rw [need_true hn]; simp
theorem x_put {T dd d l : Addr} {N : List Addr} {data : Data} {kvs : List (Str × Value)} {k : Str} {tk : Tok} {xs : List Value} {row : Row} {out : List Env} (r : Rm (n + 24) A) (hA : A.frames = some out) (hF : FunFr s.heap out) (G : Gd w mg mb s) (f : Full w s T dd d N data kvs) (hN : ∀ b ∈ N, ∃ o, s.heap.get? b = some o) (hlen : data.length ≤ 50)
    (hl : LstAt s.heap l xs) (hil : Hi l) (ha : All2 (ItV s.heap) row xs) (hz : row.length ≤ 90)
    (good : ((marked k row).all fun p => valid.contains p.1) = true → ∀ s' kvs', Ex [d] s s' → Full w s' T dd d N (putR data (marked k row)) kvs' → Q .none s')
    (hp : ((marked k row).all fun p => valid.contains p.1) = false → ∀ p ∈ marked k row, p ∈ tagList)
    (bad : ((marked k row).all fun p => valid.contains p.1) = false → ∀ e s', Thrown s out e s' → E e s') :
    wpAny (model pw w) A (call (.ref 399) [.ref T, .str k tk, .ref l]) Q E s := by
  refine wpAny_call (call_fnE (n := n + 23) (binds := [("self", .ref T), ("appid", .str k tk), ("tags", .ref l)]) r hA hF G (f := 399) (by rfl) (by rfl) (BindsTo.of_eq (by rfl)) fun A' L s1 r1 hA1 hF1 F => ?_)
  refine wpAny_execs_cons ?_
  repeat walk_at "m go"
  have hl1 := hl.ex F.X hil (by simp)
  have ha1 : All2 (ItV s1.heap) row xs := ha.imp fun _ _ z => z.ex F.X
  refine gen_seq (mg := mg) (mb := mb) (k := n + 16) (r1.mono (by omega)) (.inr (.inr ⟨rfl, rfl⟩)) (fun _ => true) (fun a v s => ∀ p, ItV s1.heap p a → TagV s.heap p v) (fun h Y p q => (h p q).ex Y) ?_
  repeat walk_at "m go"
  refine ⟨l, xs, rfl, hl1, hil, F.G, ?_, ?_⟩
  · intro A3 C code a m₃ s₃ V r3 hm F3
    obtain ⟨p, _, iv⟩ := ha1.mem hm
    rw [assign_Tuple]
    refine wpAny_bind (wpAny_standAt ?_)
    unfold unpack
    refine wpAny_bind (wpAny_holding (it_unpack (n := n) (r3.mono (by omega)) F3.G (iv.ex F3.X) fun tc tv s4 Y4 => ?_))
    have F4 := F3.go Y4
    refine assignInOrder_cons (wpAny_assign_Name (F4.st (fun s5 F5 Y5 => ?_)))
    refine assignInOrder_cons (wpAny_assign_Name (F5.st (fun s6 F6 Y6 => assignInOrder_nil ?_)))
    clear F4 F5
    refine ⟨⟨_, F6.N⟩, (Y4.of0 Y5).grow Y6 (by simp), wpAny_tests_nil ⟨rfl, Ex.refl _, fun _ => ?_⟩⟩
    repeat walk_at "m go"
    refine ⟨F6.G.K, dxftag_call (n := n) (r3.mono (by omega)) F6.G fun x s7 Y7 tx fx => ⟨Y7, fun q hq => ?_⟩⟩
    obtain rfl := hq.inj iv
    exact ⟨x, rfl, tx⟩
  · intro I s2 W fp St Y2 fI hg fW ffp th hiW hT
    have hL1 : ∃ o, s1.heap.get? L = some o := let ⟨o, _, _, e, _⟩ := F.N; ⟨o, e⟩
    have nLW : L ∉ W := fun m => by obtain ⟨o, e⟩ := hL1; rw [fW L m] at e; cases e
    have X1 := F.X
    have hiI := F.G.hi fI
    replace F := F.go Y2
    repeat walk_at "m go"
    obtain ⟨g, hg⟩ := hg
    have e1 : (xs.filter fun _ => true) = xs := List.filter_eq_self.mpr (fun _ _ => rfl)
    rw [e1] at hT
    refine ⟨F.G.K, tags_of_gen (n := n + 17) (r1.mono (by omega)) F.G hg hiI (by rw [← ha.len]; omega) hT th fun x dx n' vs s3 Y3 fx fdx e3 d3 a3 => ?_⟩
    have hix := F.G.hi fx
    have hidx := F.G.hi fdx
    have nxL := F.neL fx
    have ndxL := F.neL fdx
    have fx0 := F.new fx
    have fdx0 := F.new fdx
    have ar3 : All2 (TagV s3.heap) row vs := All2.comp (fun _ _ _ h1 h2 => h2 _ h1) ha1 a3
    replace F := F.goN Y3 nLW (fun a m => X1.off (fW a m))
    refine F.st (env := envOf _ _ L _ _) fun s4 F4 Y4 => ?_
    clear F
    have e4 := Y4.get e3 hix.tab (by simpa using nxL) (by simp)
    have d4 := Y4.get d3 hidx.tab (by simpa using ndxL) (by simp)
    refine wpAny_execs_cons ?_
    refine wpAny_mono (?_ : wpAny _ _ _ (fun f s7 => f = .next ∧ ∃ us n7, Ex [x] s4 s7 ∧ s7.heap.get? x = some (tagsO dx us.toArray n7) ∧ s7.heap.get? dx = some emptyD ∧ All2 (TagV s7.heap) (marked k row) us) _ _) (fun f s7 hf => ?_) fun _ _ z => z
    · refine wpAny_If ?_
      refine wpAny_mono (?_ : wpAny _ _ _ (fun b s6 => b = need k row ∧ Ex [] s4 s6) _ _) (fun b s6 hb => ?_) fun _ _ z => z
      · repeat walk_at "m go"
        refine Rm.leaf (r1.mono (by omega : 1 ≤ n + 23)) (tags_len0 F4.G.K e4 (by rw [List.size_toArray, ← ar3.len]; omega) fun tk5 s5 Y5 => ?_)
        have F5 := F4.go Y5
        have e5 := Y5.get e4 hix.tab (by simp) (by simp)
        clear F4
        repeat walk_at "m go"
        refine PySem.P.eq_int ?_
        refine wpAny_truthy_bool ?_
        cases ar3 with
        | nil => exact ⟨rfl, Y5.then0 (Ex.tok _)⟩
        | @cons p v row vs tv ar3 =>
          simp only [List.size_toArray, List.length_cons]
          rw [if_neg (by simp; omega)]
          have F5' := F5.tok (t := s5.toks + 1)
          clear F5
          repeat walk_at "m go"
          refine sub_tags ?_ (fun _ _ => rfl)
          repeat walk_at "m go"
          refine ⟨F5'.G.K, x, dx, _, _, rfl, e5, tags_item (s := { s5 with toks := s5.toks + 1 + 1 }) F5'.G.K e5 (v := v) (by simp) ?_⟩
          obtain ⟨xv, rfl, tv5⟩ := (tv.ex Y4).ex Y5
          refine tuple_ev ?_
          repeat walk_at "m go"
          refine ⟨by simp, fun y s6 Y6 fy ey => ?_⟩
          have F6 := (F5'.tok (t := s5.toks + 1 + 1)).go Y6
          have hy : tabA y = false := (F5'.G.hi fy).tab
          clear F5'
          refine tag_ne (n := n) (r1.mono (by omega)) F6.G (tv5.ex Y6) ⟨_, ey, rfl, _, rfl⟩ hy fun s7 Y7 => ?_
          refine wpAny_truthy_bool ?_
          have Y47 : Ex [] s4 s7 := (Y5.then0 ((Ex.tok _).of0 Y6)).then0 Y7
          show if need k (p :: row) = true then _ else _
          cases hb : need k (p :: row) with
          | true => exact ⟨rfl, Y47⟩
          | false =>
            rw [if_neg (by simp)]
            repeat walk_at "m go"
            exact ⟨rfl, Y47⟩
      · obtain ⟨rfl, Y46⟩ := hb
        have F6 := F4.go Y46
        clear F4
        have e6 := Y46.get e4 hix.tab (by simp) (by simp)
        have d6 := Y46.get d4 hidx.tab (by simp) (by simp)
        have ar6 : All2 (TagV s6.heap) row vs := ar3.imp fun _ _ z => (z.ex Y4).ex Y46
        cases hn : need k row with
        | false =>
          rw [if_neg (by simp)]
          repeat walk_at "m go"
          refine ⟨rfl, vs, _, ex_self Y46 hix, e6, d6, ?_⟩
          rw [need_false hn]; exact ar6
        | true =>
          rw [if_pos rfl]
          repeat walk_at "m go"
          refine tags_method F6.G.K e6 d6 (by rfl) (by with_unfolding_all rfl) (by rfl) ?_
          refine callWith_bi ?_ (by with_unfolding_all rfl) (by with_unfolding_all rfl)
          have F6' := F6.tok (t := s6.toks + 1)
          clear F6
          repeat walk_at "m go"
          refine ⟨F6'.G.K, dxftag_call (n := n) (r1.mono (by omega)) F6'.G fun xn s7 Y7 txn fxn => ?_⟩
          have F7 := F6'.go Y7
          clear F6'
          repeat walk_at "m go"
          have e7 := Y7.get e6 hix.tab (by simp) (by simp)
          have d7 := Y7.get d6 hidx.tab (by simp) (by simp)
          refine tags_insert F7.G.K hix e7 (by rw [List.size_toArray, ← ar6.len]; omega) fun s8 n8 Y8 e8 => ?_
          repeat walk_at "m go"
          have Y68 : Ex [x] s6 s8 := ((Ex.tok _).of0 Y7).of0 Y8
          have ndx : dx ≠ x := fun z => by rw [z, e3] at d3; cases d3
          refine ⟨rfl, .ref xn :: vs, n8, Y46.of0 Y68, by simpa using e8, Y8.get d7 hidx.tab (by simpa using ndx) (by simp), ?_⟩
          rw [need_true hn]
          exact .cons ⟨xn, rfl, txn.ex Y8⟩ (ar6.imp fun _ _ z => z.ex Y68)
    · obtain ⟨rfl, us, n7, Y47, e7, d7, a7⟩ := hf
      have F7 := F4.goN Y47 (by simpa using Ne.symm nxL) (by simpa using fx0)
      clear F4
      repeat walk_at "m go"
      have f7 := f.ex0 F7.X
      refine f7.told.method F7.G.K (name := "_add") (f := 392) (by rfl) (by rfl) (fun _ _ _ => by rfl) ?_
      repeat walk_at "m go"
      have tg7 : TagsAt s7.heap x dx (marked k row) := ⟨us, ⟨n7, e7⟩, a7, d7⟩
      have hz7 : (marked k row).length ≤ 100 := Nat.le_trans (marked_len k row) (by omega)
      cases hv : (marked k row).all fun p => valid.contains p.1 with
      | true =>
        refine ⟨F7.G.K, x_addF (n := n) (r1.mono (by omega)) F7.G f7 (fun b m => F7.X.there' (hN b m)) hlen tg7 hix hz7 hv fun s8 kvs8 Y8 f8 => ?_⟩
        repeat walk_at "m go"
        exact good hv s8 kvs8 (F7.X.of0 Y8) f8
      | false =>
        refine ⟨F7.G.K, x_add_bad (n := n) (r1.mono (by omega)) hA1 (FunFr.cons (hF.ex F7.X (by simp)) (by show (scopeOf (st2 15 6)).kind ≠ _; decide) rfl F7.N F7.hL) F7.G tg7 hix hz7 hv (hp hv) fun e s8 th => ?_⟩
        exact leave_on hA1 rfl F7.f F7.X th fun s9 th9 => bad hv e s9 th9
end Mine

namespace Mine
variable {w : World} {mg mb : Str → Option Value}
variable {s : Shared} {Q : Value → Shared → Prop} {E : Value → Shared → Prop} {A : Around} {n : Nat}

local macro_rules | `(tactic| walk_at "m go") => `(tactic| first
  | with_reducible refine wpAny_execs_cons ?_
  | with_reducible refine wpAny_Return_some ?_
  | with_reducible refine wpAny_Call_NameR ?_
  | with_reducible refine wpAny_items_cons ?_ (by with_unfolding_all rfl)
  | with_reducible refine wpAny_items_nil ?_
  | with_reducible refine Attribute_name ?_
  | with_reducible refine wpAny_Compare1 ?_ (by with_unfolding_all rfl)
  | with_reducible refine wpAny_isTrue_Compare1 ?_ (by with_unfolding_all rfl)
  | with_reducible refine wpAny_isTrue_Not ?_
  | with_reducible refine wpAny_isTrue_BoolOp ?_
  | with_reducible refine wpAny_allTrue_And_cons ?_
  | with_reducible refine wpAny_allTrue_And_nil ?_
  | with_reducible refine wpAny_allTrue_Or_cons ?_
  | with_reducible refine wpAny_allTrue_Or_nil ?_
  | with_reducible refine wpAny_If ?_
  | ((with_reducible show wpAny _ _ (exec (.Expr _ _) _) _ _ _); refine wpAny_Expr_any ?_)
  | ((with_reducible show wpAny _ _ (eval (.Call (.Attribute _ _ _) _ [] _) _) _ _ _); refine MethodCall_ ?_ (by rfl))
  | with_reducible refine wpAny_truthy_bool ?_
  | with_reducible refine wpAny_execs_nil ?_
  | ((with_reducible show wpAny _ _ (PySem.isTrue (.Call _ _ _ _) _ _) _ _ _); refine wpAny_isTrue_value ?_ (by rfl))
  | ((with_reducible show wpAny _ _ (PySem.isTrue (.Name _ _) _ _) _ _ _); refine wpAny_isTrue_value ?_ (by rfl))
  | with_reducible refine wpAny_Assign_Name ?_ (by with_unfolding_all rfl)
  | with_reducible refine wpAny_Constant_int ?_
  | with_reducible refine wpAny_Constant_str ?_
  | with_reducible refine wpAny_Constant_bool ?_
  | with_reducible refine wpAny_Constant_none ?_
  | ((with_reducible show wpAny _ _ (eval (.Name _ _) _) _ _ _); first
    | refine Fm.ldL ‹Fm _ _ _ _ _ _ _ _› (by rfl) ?_
    | refine Fm.ldL ‹Fm _ _ _ _ _ _ _ _› (by assumption) ?_
    | refine Fm.ldG ‹Fm _ _ _ _ _ _ _ _› (by rfl) ?_
    | (refine Fm.ldB (v := .builtin _) ‹Fm _ _ _ _ _ _ _ _› (by rfl) (by rfl) ?_; try dsimp only)
    | (refine Fm.ldB (v := .type _) ‹Fm _ _ _ _ _ _ _ _› (by rfl) (by rfl) ?_; try dsimp only))
  | ((with_reducible show wpAny _ _ (callWith _ (.builtin _) _ _ _) _ _ _); refine PyProof.Rows.callWith_builtin1 ?_ (by with_unfolding_all rfl) (by with_unfolding_all rfl))
  | ((with_reducible show wpAny _ _ (callWith _ (.type _) _ _ _) _ _ _); refine Mine.callWith_ty ?_ (by with_unfolding_all rfl) (by with_unfolding_all rfl))
  | ((with_reducible show wpAny _ _ (callWith _ (.ref _) _ _ _) _ _ _); refine callWith_K (Fm.G ‹Fm _ _ _ _ _ _ _ _›).K (by rfl) ?_))

theorem list_add {a b : Addr} {xs ys : List Value} (ha : s.heap.PlainList a xs.toArray) (hb : s.heap.PlainList b ys.toArray) (hz : xs.length + ys.length ≤ 1000)
    (h : ∀ D s', Ex [] s s' → s.heap.get? D = none → s'.heap.PlainList D (xs ++ ys).toArray → Q (.ref D) s') : wpAny (model pw w) A (binaryOp .Add (.ref a) (.ref b)) Q E s := by
  obtain ⟨n, e⟩ := ha
  obtain ⟨m, e'⟩ := hb
  refine PySem.P.add_list e e' ?_ (by rw [sizeLine_eq]; simp; omega)
  exact h _ _ (Ex.push _ s.toks) (get_size _) ⟨0, by rw [← List.append_toArray]; exact Heap.get?_push_size _ rfl⟩
/-- a tuple of a code and a text -/
theorem tup_ev {e : Expr} {c : Int} {kc kt : Nat} {p1 p2 : Pos} {env : Env}
    (h : wpAny (model pw w) A (eval e env) (fun v s1 => ∃ k tk, v = .str k tk ∧ Gd w mg mb s1 ∧ ∀ x s2, Ex [] s1 s2 → TupV s2.heap (c, k) (.ref x) → Q (.ref x) s2) E { s with toks := s.toks + 1 })
    (hs : ∀ rest, starEach (e :: rest) env = (false, eval e env) :: starEach rest env := by intro _; with_unfolding_all rfl) :
    wpAny (model pw w) A (eval (.Tuple [.Constant (.int c) kc p1, e] kt p2) env) Q E s := by
  refine tuple_ev ?_
  refine wpAny_items_cons (wpAny_Constant_int ?_) (by with_unfolding_all rfl)
  refine wpAny_items_cons (wpAny_mono h (fun v s1 h1 => ?_) fun _ _ z => z) (hs _)
  obtain ⟨k, tk, rfl, G, h2⟩ := h1
  refine wpAny_items_nil ⟨by simp, fun x s2 Y2 fx ex => ?_⟩
  exact h2 x s2 Y2 ⟨x, _, _, _, rfl, (G.hi fx).tab, ex⟩
theorem lit1 {e : Expr} {pos : Pos} {env : Env}
    (h : wpAny (model pw w) A (eval e env) (fun v s1 => ∃ p, TupV s1.heap p v ∧ ∀ D s2, Ex [] s1 s2 → s1.heap.get? D = none → RowsAt s2.heap D [p] → Q (.ref D) s2) E s)
    (hs : ∀ rest, starEach (e :: rest) env = (false, eval e env) :: starEach rest env := by intro _; with_unfolding_all rfl) :
    wpAny (model pw w) A (eval (.List [e] pos) env) Q E s := by
  refine list_ev ?_
  refine wpAny_items_cons (wpAny_mono h (fun v s1 h1 => ?_) fun _ _ z => z) (hs _)
  obtain ⟨p, t, h2⟩ := h1
  refine wpAny_items_nil ⟨by simp, fun D s2 Y2 fD pD => ?_⟩
  exact h2 D s2 Y2 fD ⟨_, pD, .cons (t.ex Y2) .nil⟩
theorem lit2 {e e2 : Expr} {pos : Pos} {env : Env}
    (h : wpAny (model pw w) A (eval e env) (fun v s1 => ∃ p, TupV s1.heap p v ∧ wpAny (model pw w) A (eval e2 env) (fun v2 s2 => ∃ q, Ex [] s1 s2 ∧ TupV s2.heap q v2 ∧ ∀ D s3, Ex [] s2 s3 → s2.heap.get? D = none → RowsAt s3.heap D [p, q] → Q (.ref D) s3) E s1) E s)
    (hs : ∀ rest, starEach (e :: rest) env = (false, eval e env) :: starEach rest env := by intro _; with_unfolding_all rfl)
    (hs2 : ∀ rest, starEach (e2 :: rest) env = (false, eval e2 env) :: starEach rest env := by intro _; with_unfolding_all rfl) :
    wpAny (model pw w) A (eval (.List [e, e2] pos) env) Q E s := by
  refine list_ev ?_
  refine wpAny_items_cons (wpAny_mono h (fun v s1 h1 => ?_) fun _ _ z => z) (hs _)
  obtain ⟨p, t, h2⟩ := h1
  refine wpAny_items_cons (wpAny_mono h2 (fun v2 s2 h3 => ?_) fun _ _ z => z) (hs2 _)
  obtain ⟨q, Y2, t2, h4⟩ := h3
  refine wpAny_items_nil ⟨by simp, fun D s3 Y3 fD pD => ?_⟩
  exact h4 D s3 Y3 fD ⟨_, pD, .cons ((t.ex Y2).ex Y3) (.cons (t2.ex Y3) .nil)⟩
theorem row_add {a b : Addr} {ra rb : Row} (ha : RowsAt s.heap a ra) (hb : RowsAt s.heap b rb) (hz : ra.length + rb.length ≤ 1000)
    (h : ∀ D s', Ex [] s s' → s.heap.get? D = none → RowsAt s'.heap D (ra ++ rb) → Q (.ref D) s') : wpAny (model pw w) A (binaryOp .Add (.ref a) (.ref b)) Q E s := by
  obtain ⟨xs, p, x⟩ := ha
  obtain ⟨ys, q, y⟩ := hb
  refine list_add p q (by rw [← x.len, ← y.len]; exact hz) fun D s' Y fD pD => ?_
  exact h D s' Y fD ⟨_, pD, (x.imp fun _ _ z => z.ex Y).append (y.imp fun _ _ z => z.ex Y)⟩
/-- [(c, word)] + rows -/
theorem cons_ev {e e2 : Expr} {c : Int} {kc kt : Nat} {p1 p2 p3 pos : Pos} {env : Env}
    (h : wpAny (model pw w) A (eval e env) (fun v s1 => ∃ k tk, v = .str k tk ∧ Gd w mg mb s1 ∧ ∀ s2, Ex [] s1 s2 → wpAny (model pw w) A (eval e2 env) (fun lv s3 => ∃ l row, lv = .ref l ∧ Ex [] s2 s3 ∧ RowsAt s3.heap l row ∧ row.length ≤ 100 ∧
      ∀ D s4, Ex [] s3 s4 → s3.heap.get? D = none → RowsAt s4.heap D ((c, k) :: row) → Q (.ref D) s4) E s2) E { s with toks := s.toks + 1 })
    (hs : ∀ rest, starEach (e :: rest) env = (false, eval e env) :: starEach rest env := by intro _; with_unfolding_all rfl) :
    wpAny (model pw w) A (eval (.BinOp (.List [.Tuple [.Constant (.int c) kc p1, e] kt p2] p3) .Add e2 pos) env) Q E s := by
  refine wpAny_BinOp (lit1 (tup_ev (mg := mg) (mb := mb) (wpAny_mono h (fun v s1 h1 => ?_) fun _ _ z => z) hs))
  obtain ⟨k, tk, rfl, G, h2⟩ := h1
  refine ⟨k, tk, rfl, G, fun x s2 Y2 tx => ⟨(c, k), tx, fun D1 s3 Y3 fD1 rD1 => ?_⟩⟩
  have hiD1 := (G.ex Y2).hi fD1
  refine wpAny_mono (h2 s3 (Y2.then0 Y3)) (fun lv s4 h4 => ?_) fun _ _ z => z
  obtain ⟨l, row, rfl, Y4, rl, hz, hq⟩ := h4
  exact row_add (rD1.ex Y4 hiD1.tab (by simp)) rl (by simp; omega) hq
/-- [(c, word), (c2, other)] + rows -/
theorem cons2_ev {e e' e2 : Expr} {c c' : Int} {kc kt kc' kt' : Nat} {p1 p2 p1' p2' p3 pos : Pos} {env : Env}
    (h : wpAny (model pw w) A (eval e env) (fun v s1 => ∃ k tk, v = .str k tk ∧ Gd w mg mb s1 ∧ ∀ s1', Ex [] s1 s1' → wpAny (model pw w) A (eval e' env) (fun v' s2 => ∃ k' tk', v' = .str k' tk' ∧ Ex [] s1' s2 ∧ ∀ s2', Ex [] s2 s2' →
      wpAny (model pw w) A (eval e2 env) (fun lv s3 => ∃ l row, lv = .ref l ∧ Ex [] s2' s3 ∧ RowsAt s3.heap l row ∧ row.length ≤ 100 ∧
      ∀ D s4, Ex [] s3 s4 → s3.heap.get? D = none → RowsAt s4.heap D ((c, k) :: (c', k') :: row) → Q (.ref D) s4) E s2') E s1') E { s with toks := s.toks + 1 })
    (hs : ∀ rest, starEach (e :: rest) env = (false, eval e env) :: starEach rest env := by intro _; with_unfolding_all rfl)
    (hs' : ∀ rest, starEach (e' :: rest) env = (false, eval e' env) :: starEach rest env := by intro _; with_unfolding_all rfl) :
    wpAny (model pw w) A (eval (.BinOp (.List [.Tuple [.Constant (.int c) kc p1, e] kt p2, .Tuple [.Constant (.int c') kc' p1', e'] kt' p2'] p3) .Add e2 pos) env) Q E s := by
  refine wpAny_BinOp (lit2 (tup_ev (mg := mg) (mb := mb) (wpAny_mono h (fun v s1 h1 => ?_) fun _ _ z => z) hs))
  obtain ⟨k, tk, rfl, G, h2⟩ := h1
  refine ⟨k, tk, rfl, G, fun x s2 Y2 tx => ⟨(c, k), tx, ?_⟩⟩
  refine tup_ev (mg := mg) (mb := mb) (wpAny_mono (h2 _ (Y2.then0 (Ex.tok (s2.toks + 1)))) (fun v' s3 h3 => ?_) fun _ _ z => z) hs'
  obtain ⟨k', tk', rfl, Y3, h4⟩ := h3
  have Y23 : Ex [] s2 s3 := (Ex.tok _).of0 Y3
  have G3 := (G.ex Y2).ex Y23
  refine ⟨k', tk', rfl, G3, fun x' s4 Y4 tx' => ⟨(c', k'), Y23.then0 Y4, tx', fun D1 s5 Y5 fD1 rD1 => ?_⟩⟩
  have hiD1 := (G3.ex Y4).hi fD1
  refine wpAny_mono (h4 s5 (Y4.then0 Y5)) (fun lv s6 h6 => ?_) fun _ _ z => z
  obtain ⟨l, row, rfl, Y6, rl, hz, hq⟩ := h6
  exact row_add (rD1.ex Y6 hiD1.tab (by simp)) rl (by simp; omega) hq
end Mine

namespace Mine
variable {w : World} {mg mb : Str → Option Value}
variable {s : Shared} {Q : Value → Shared → Prop} {E : Value → Shared → Prop} {A : Around} {n : Nat}

local macro_rules | `(tactic| walk_at "m go") => `(tactic| first
  | with_reducible refine wpAny_execs_cons ?_
  | with_reducible refine wpAny_Return_some ?_
  | with_reducible refine wpAny_Call_NameR ?_
  | with_reducible refine wpAny_items_cons ?_ (by with_unfolding_all rfl)
  | with_reducible refine wpAny_items_nil ?_
  | with_reducible refine Attribute_name ?_
  | with_reducible refine wpAny_Compare1 ?_ (by with_unfolding_all rfl)
  | with_reducible refine wpAny_isTrue_Compare1 ?_ (by with_unfolding_all rfl)
  | with_reducible refine wpAny_isTrue_Not ?_
  | with_reducible refine wpAny_isTrue_BoolOp ?_
  | with_reducible refine wpAny_allTrue_And_cons ?_
  | with_reducible refine wpAny_allTrue_And_nil ?_
  | with_reducible refine wpAny_allTrue_Or_cons ?_
  | with_reducible refine wpAny_allTrue_Or_nil ?_
  | with_reducible refine wpAny_If ?_
  | ((with_reducible show wpAny _ _ (exec (.Expr _ _) _) _ _ _); refine wpAny_Expr_any ?_)
  | ((with_reducible show wpAny _ _ (eval (.Call (.Attribute _ _ _) _ [] _) _) _ _ _); refine MethodCall_ ?_ (by rfl))
  | with_reducible refine wpAny_truthy_bool ?_
  | with_reducible refine wpAny_execs_nil ?_
  | ((with_reducible show wpAny _ _ (PySem.isTrue (.Call _ _ _ _) _ _) _ _ _); refine wpAny_isTrue_value ?_ (by rfl))
  | ((with_reducible show wpAny _ _ (PySem.isTrue (.Name _ _) _ _) _ _ _); refine wpAny_isTrue_value ?_ (by rfl))
  | with_reducible refine wpAny_Assign_Name ?_ (by with_unfolding_all rfl)
  | with_reducible refine wpAny_Constant_int ?_
  | with_reducible refine wpAny_Constant_str ?_
  | with_reducible refine wpAny_Constant_bool ?_
  | with_reducible refine wpAny_Constant_none ?_
  | ((with_reducible show wpAny _ _ (eval (.Name _ _) _) _ _ _); first
    | refine Fm.ldL ‹Fm _ _ _ _ _ _ _ _› (by rfl) ?_
    | refine Fm.ldL ‹Fm _ _ _ _ _ _ _ _› (by assumption) ?_
    | refine Fm.ldG ‹Fm _ _ _ _ _ _ _ _› (by rfl) ?_
    | (refine Fm.ldB (v := .builtin _) ‹Fm _ _ _ _ _ _ _ _› (by rfl) (by rfl) ?_; try dsimp only)
    | (refine Fm.ldB (v := .type _) ‹Fm _ _ _ _ _ _ _ _› (by rfl) (by rfl) ?_; try dsimp only))
  | ((with_reducible show wpAny _ _ (callWith _ (.builtin _) _ _ _) _ _ _); refine PyProof.Rows.callWith_builtin1 ?_ (by with_unfolding_all rfl) (by with_unfolding_all rfl))
  | ((with_reducible show wpAny _ _ (callWith _ (.type _) _ _ _) _ _ _); refine Mine.callWith_ty ?_ (by with_unfolding_all rfl) (by with_unfolding_all rfl))
  | ((with_reducible show wpAny _ _ (callWith _ (.ref _) _ (backTo _ (starEach [] _)) _) _ _ _); refine callWith_K0 (Fm.G ‹Fm _ _ _ _ _ _ _ _›).K (by rfl) ?_)
  | with_reducible refine wpAny_BinOp (op := .Mod) ?_
  | with_reducible refine wpAny_BinOp (op := .FloorDiv) ?_
  | ((with_reducible show wpAny _ _ (callWith _ (.ref _) _ _ _) _ _ _); refine callWith_K (Fm.G ‹Fm _ _ _ _ _ _ _ _›).K (by rfl) ?_))

/-- a for over a list or Tags, the body may turn what was made in earlier turns -/
theorem for_seq2 {Q : Flow → Shared → Prop} {x : Str} {px pos : Pos} {iter : Expr} {body : List Stmt} {env : Env} (hh : A.handled = none)
    (h : wpAny (model pw w) A (eval iter env) (fun xv s₁ => ∃ (l : Addr) (xs : List Value), xv = .ref l ∧ LstAt s₁.heap l xs ∧ Hi l ∧ Gd w mg mb s₁ ∧ ∀ it s₂, Ex [] s₁ s₂ → s₁.heap.get? it = none → (∃ o fs, s₂.heap.get? it = some o ∧ o.data = .fields fs) → Hi it →
      ∃ (Inv : List Value → Shared → Prop), Inv xs s₂ ∧
      (∀ rem s s', Inv rem s → Ex [it] s s' → (∃ o fs, s.heap.get? it = some o ∧ o.data = .fields fs) → Inv rem s') ∧
      (∀ a pre rem s₂, xs = pre ++ a :: rem → Inv (a :: rem) s₂ → wpAny (model pw w) A (assign (.Name x px) env a) (fun _ s₃ => wpAny (model pw w) A (execs body env) (fun f s₄ => match f with
        | .next | .cont => Inv rem s₄ ∧ ∃ W, Ex W s₂ s₄ ∧ it ∉ W ∧ l ∉ W
        | .ret v => Q (.ret v) s₄
        | .brk => False) (fun _ _ => False) s₃) (fun _ _ => False) s₂) ∧
      (∀ s₂, Inv [] s₂ → Q .next s₂)) E s) (hs : ∀ x, foldedSetIterable iter env x = pure x := by intro _; rfl) :
    wpAny (model pw w) A (exec (.For (.Name x px) iter body [] pos) env) Q E s := by
  refine wpAny_For (wpAny_mono h (fun xv s₁ h1 => ?_) fun _ _ z => z) hs
  obtain ⟨l, xs, rfl, hl, hil, G, hgo⟩ := h1
  refine lst_iter G.K hl fun it h' fit kp hit => ?_
  have Y1 : Ex [] s₁ { s₁ with heap := h', toks := s₁.toks } := Ex.of_keep kp
  have hiit := G.hi fit
  obtain ⟨Inv, h0, hst, turn, fin⟩ := hgo it _ Y1 fit (let ⟨o, e, _, d⟩ := hit; ⟨o, _, e, d⟩) hiit
  have hne : l ≠ it := fun e => by
    obtain ⟨o, n, e', _⟩ := hl.seqAt
    rw [e, fit] at e'; cases e'
  have sq : SeqAt h' l xs.toArray := SeqAt.ex Y1 hl.seqAt hil.tab (by simp)
  refine codeAny_forLoop_any (fun n s => ∃ pre rem, n = rem.length ∧ xs = pre ++ rem ∧ LI it l xs.toArray rem s ∧ Inv rem s) ?_ xs.length ⟨[], xs, rfl, rfl, ⟨hiit, hil, hne, 0, hit, sq, by simp⟩, h0⟩
  rintro k s2 ⟨pre, rem, rfl, hxs, st, inv⟩
  cases rem with
  | nil =>
    refine (LI.iter (w := w) hh it l xs.toArray).done st fun s3 Y3 => ?_
    exact wpAny_execs_nil (fin s3 (hst [] s2 s3 inv Y3 (let ⟨_, _, _, _, ⟨o, e, _, d⟩, _⟩ := st; ⟨o, _, e, d⟩)))
  | cons a rem =>
    refine (LI.iter (w := w) hh it l xs.toArray).item st fun v s3 st3 Y3 hv => ?_
    subst hv
    refine wpAny_of_eq (rfl : letOwnedTupleGo (.Name x px) (.ref it) v = pure ()) ?_
    refine wpAny_mono (turn v pre rem s3 hxs (hst _ s2 s3 inv Y3 (let ⟨_, _, _, _, ⟨o, e, _, d⟩, _⟩ := st; ⟨o, _, e, d⟩))) (fun _ s4 h4 => ?_) fun _ _ z => z.elim
    refine wpAny_mono h4 (fun f s5 h5 => ?_) fun _ _ z => z.elim
    have step : (Inv rem s5 ∧ ∃ W, Ex W s3 s5 ∧ it ∉ W ∧ l ∉ W) → ∃ m, m < (v :: rem).length ∧ ∃ pre' rem', m = rem'.length ∧ xs = pre' ++ rem' ∧ LI it l xs.toArray rem' s5 ∧ Inv rem' s5 := by
      rintro ⟨inv5, W, Y5, hW, hlW⟩
      refine ⟨rem.length, by simp, pre ++ [v], rem, rfl, by simp [hxs], st3.steady Y5 fun b m => ?_, inv5⟩
      intro q
      simp only [List.mem_cons, List.not_mem_nil, or_false] at q
      rcases q with rfl | rfl
      · exact hW m
      · exact hlW m
    cases f with
    | next => exact step h5
    | cont => exact step h5
    | brk => exact h5.elim
    | ret v => exact h5
end Mine

namespace Mine
variable {w : World} {mg mb : Str → Option Value}
variable {s : Shared} {Q : Value → Shared → Prop} {E : Value → Shared → Prop} {A : Around} {n : Nat}

local macro_rules | `(tactic| walk_at "m go") => `(tactic| first
  | with_reducible refine wpAny_execs_cons ?_
  | with_reducible refine wpAny_Return_some ?_
  | with_reducible refine wpAny_Call_NameR ?_
  | with_reducible refine wpAny_items_cons ?_ (by with_unfolding_all rfl)
  | with_reducible refine wpAny_items_nil ?_
  | with_reducible refine Attribute_name ?_
  | with_reducible refine wpAny_Compare1 ?_ (by with_unfolding_all rfl)
  | with_reducible refine wpAny_isTrue_Compare1 ?_ (by with_unfolding_all rfl)
  | with_reducible refine wpAny_isTrue_Not ?_
  | with_reducible refine wpAny_isTrue_BoolOp ?_
  | with_reducible refine wpAny_allTrue_And_cons ?_
  | with_reducible refine wpAny_allTrue_And_nil ?_
  | with_reducible refine wpAny_allTrue_Or_cons ?_
  | with_reducible refine wpAny_allTrue_Or_nil ?_
  | with_reducible refine wpAny_If ?_
  | ((with_reducible show wpAny _ _ (exec (.Expr _ _) _) _ _ _); refine wpAny_Expr_any ?_)
  | ((with_reducible show wpAny _ _ (eval (.Call (.Attribute _ _ _) _ [] _) _) _ _ _); refine MethodCall_ ?_ (by rfl))
  | with_reducible refine wpAny_truthy_bool ?_
  | with_reducible refine wpAny_execs_nil ?_
  | ((with_reducible show wpAny _ _ (PySem.isTrue (.Call _ _ _ _) _ _) _ _ _); refine wpAny_isTrue_value ?_ (by rfl))
  | ((with_reducible show wpAny _ _ (PySem.isTrue (.Name _ _) _ _) _ _ _); refine wpAny_isTrue_value ?_ (by rfl))
  | with_reducible refine wpAny_Assign_Name ?_ (by with_unfolding_all rfl)
  | with_reducible refine wpAny_Constant_int ?_
  | with_reducible refine wpAny_Constant_str ?_
  | with_reducible refine wpAny_Constant_bool ?_
  | with_reducible refine wpAny_Constant_none ?_
  | ((with_reducible show wpAny _ _ (eval (.Name _ _) _) _ _ _); first
    | refine Fm.ldL ‹Fm _ _ _ _ _ _ _ _› (by rfl) ?_
    | refine Fm.ldL ‹Fm _ _ _ _ _ _ _ _› (by assumption) ?_
    | refine Fm.ldG ‹Fm _ _ _ _ _ _ _ _› (by rfl) ?_
    | (refine Fm.ldB (v := .builtin _) ‹Fm _ _ _ _ _ _ _ _› (by rfl) (by rfl) ?_; try dsimp only)
    | (refine Fm.ldB (v := .type _) ‹Fm _ _ _ _ _ _ _ _› (by rfl) (by rfl) ?_; try dsimp only))
  | ((with_reducible show wpAny _ _ (callWith _ (.builtin _) _ _ _) _ _ _); refine PyProof.Rows.callWith_builtin1 ?_ (by with_unfolding_all rfl) (by with_unfolding_all rfl))
  | ((with_reducible show wpAny _ _ (callWith _ (.type _) _ _ _) _ _ _); refine Mine.callWith_ty ?_ (by with_unfolding_all rfl) (by with_unfolding_all rfl))
  | ((with_reducible show wpAny _ _ (callWith _ (.ref _) _ _ _) _ _ _); refine callWith_K (Fm.G ‹Fm _ _ _ _ _ _ _ _›).K (by rfl) ?_))

theorem law_no_add_call {T dd d l : Addr} {N : List Addr} {data : Data} {kvs : List (Str × Value)} {k : Str} {tk : Tok} {xs : List Value} {row : Row} {out : List Env} (r : Rm (n + 26) A) (hA : A.frames = some out) (hF : FunFr s.heap out) (G : Gd w mg mb s) (f : Full w s T dd d N data kvs) (hN : ∀ b ∈ N, ∃ o, s.heap.get? b = some o) (hlen : data.length ≤ 50)
    (hl : LstAt s.heap l xs) (hil : Hi l) (ha : All2 (ItV s.heap) row xs) (hz : row.length ≤ 90)
    (hv : ((marked k row).all fun p => valid.contains p.1) = false) (hp : ∀ p ∈ marked k row, p ∈ tagList)
    (h : ∀ s', Kept out s s' → Q (.bool true) s') : wpAny (model pw w) A (call (.ref 538) [.ref T, .str k tk, .ref l]) Q E s := by
  refine wpAny_call (call_fnE (n := n + 25) (binds := [("told", .ref T), ("word", .str k tk), ("rows", .ref l)]) r hA hF G (f := 538) (by rfl) (by rfl) (BindsTo.of_eq (by rfl)) fun A' L s1 r1 hA1 hF1 F => ?_)
  refine wpAny_execs_cons ?_
  refine wpAny_Try_except ?_
  have f1 := f.ex0 F.X
  repeat walk_at "m go"
  refine f1.told.method F.G.K (name := "add") (f := 399) (by rfl) (by rfl) (fun _ _ _ => by rfl) ?_
  repeat walk_at "m go"
  refine ⟨F.G.K, x_put (n := n + 1) (r1.mono (by omega)) hA1 hF1 F.G f1 (fun b m => F.X.there' (hN b m)) hlen (hl.ex F.X hil (by simp)) hil (ha.imp fun _ _ z => z.ex F.X) hz (fun hc => by rw [hv] at hc; cases hc) (fun _ => hp) fun _ e s2 th => ?_⟩
  refine caught hA1 rfl th F.G (fun G2 hq => Name_function_global (by rfl) (by rfl) (loadGlobal_global (by exact G2.g) (G2.hm _ _ (by rfl)) hq) (by decide)) fun s3 K3 => ?_
  have hout : ∀ b ∈ frs out, Hi b := fun b m => by
    obtain ⟨e', he', hf'⟩ := List.mem_filterMap.mp m
    obtain ⟨_, L2, _, _, _, hf2, _, _, hi2⟩ := hF e' he'
    rw [hf2] at hf'; cases hf'; exact hi2
  have F3 := F.goK rfl K3 hout
  have K0 := Kept.of0 F.X rfl F.f K3
  clear F
  refine wpAny_execs_cons ?_
  repeat walk_at "m go"
  refine PySem.P.eq_str ?_
  rw [str_beq]
  simp only [decide_true]
  exact h s3 K0
end Mine

namespace Mine
variable {w : World} {mg mb : Str → Option Value}
variable {s : Shared} {Q : Value → Shared → Prop} {E : Value → Shared → Prop} {A : Around} {n : Nat}

local macro_rules | `(tactic| walk_at "m go") => `(tactic| first
  | with_reducible refine wpAny_execs_cons ?_
  | with_reducible refine wpAny_Return_some ?_
  | with_reducible refine wpAny_Call_NameR ?_
  | with_reducible refine wpAny_items_cons ?_ (by with_unfolding_all rfl)
  | with_reducible refine wpAny_items_nil ?_
  | with_reducible refine Attribute_name ?_
  | with_reducible refine wpAny_Compare1 ?_ (by with_unfolding_all rfl)
  | with_reducible refine wpAny_isTrue_Compare1 ?_ (by with_unfolding_all rfl)
  | with_reducible refine wpAny_isTrue_Not ?_
  | with_reducible refine wpAny_isTrue_BoolOp ?_
  | with_reducible refine wpAny_allTrue_And_cons ?_
  | with_reducible refine wpAny_allTrue_And_nil ?_
  | with_reducible refine wpAny_allTrue_Or_cons ?_
  | with_reducible refine wpAny_allTrue_Or_nil ?_
  | with_reducible refine wpAny_If ?_
  | ((with_reducible show wpAny _ _ (exec (.Expr _ _) _) _ _ _); refine wpAny_Expr_any ?_)
  | ((with_reducible show wpAny _ _ (eval (.Call (.Attribute _ _ _) _ [] _) _) _ _ _); refine MethodCall_ ?_ (by rfl))
  | with_reducible refine wpAny_truthy_bool ?_
  | with_reducible refine wpAny_execs_nil ?_
  | ((with_reducible show wpAny _ _ (PySem.isTrue (.Call _ _ _ _) _ _) _ _ _); refine wpAny_isTrue_value ?_ (by rfl))
  | ((with_reducible show wpAny _ _ (PySem.isTrue (.Name _ _) _ _) _ _ _); refine wpAny_isTrue_value ?_ (by rfl))
  | with_reducible refine wpAny_Assign_Name ?_ (by with_unfolding_all rfl)
  | with_reducible refine wpAny_Constant_int ?_
  | with_reducible refine wpAny_Constant_str ?_
  | with_reducible refine wpAny_Constant_bool ?_
  | with_reducible refine wpAny_Constant_none ?_
  | ((with_reducible show wpAny _ _ (eval (.Name _ _) _) _ _ _); first
    | refine Fm.ldL ‹Fm _ _ _ _ _ _ _ _› (by rfl) ?_
    | refine Fm.ldL ‹Fm _ _ _ _ _ _ _ _› (by assumption) ?_
    | refine Fm.ldG ‹Fm _ _ _ _ _ _ _ _› (by rfl) ?_
    | (refine Fm.ldB (v := .builtin _) ‹Fm _ _ _ _ _ _ _ _› (by rfl) (by rfl) ?_; try dsimp only)
    | (refine Fm.ldB (v := .type _) ‹Fm _ _ _ _ _ _ _ _› (by rfl) (by rfl) ?_; try dsimp only))
  | ((with_reducible show wpAny _ _ (callWith _ (.builtin _) _ _ _) _ _ _); refine PyProof.Rows.callWith_builtin1 ?_ (by with_unfolding_all rfl) (by with_unfolding_all rfl))
  | ((with_reducible show wpAny _ _ (callWith _ (.type _) _ _ _) _ _ _); refine Mine.callWith_ty ?_ (by with_unfolding_all rfl) (by with_unfolding_all rfl))
  | ((with_reducible show wpAny _ _ (callWith _ (.ref _) _ _ _) _ _ _); refine callWith_K (Fm.G ‹Fm _ _ _ _ _ _ _ _›).K (by rfl) ?_))

theorem callWith_meth {q g : Addr} {self : Value} {first : List Value} {e : Expr} {rest : List Expr} {pos : Pos} {env : Env} (hf : fnIn (Kf w.params) g = true)
    (h : wpAny (model pw w) A (spliced (backTo pos (starEach (e :: rest) env))) (fun vs s₁ => MethP (Kf w.params) q g self s₁.heap ∧ wpAny (model pw w) A (call (.ref q) (first ++ vs)) Q E s₁) E s)
    (he : starEach (e :: rest) env = (false, eval e env) :: starEach rest env := by rfl) (hplain : (backTo pos (starEach rest env)).any (·.1) = false := by rfl) :
    wpAny (model pw w) A (callWith pos (.ref q) first (backTo pos (starEach (e :: rest) env)) []) Q E s := by
  rw [he] at h ⊢
  exact callWith_of (by show ((false || (backTo pos (starEach rest env)).any (·.1)) || false) = false; rw [hplain]; rfl) (keeps_M hf) (evalArgs_plain h)
/-- XData.safe_init is read from the class -/
theorem safe_slot {Q : Value × List Value → Shared → Prop} {pl : Sem Bool} (G : Gd w mg mb s) (h : ∀ q s', Ex [] s s' → s.heap.get? q = none → s'.heap.get? q = some (methodObj (.ref 361) (.ref 451)) → Q (.ref q, []) s') :
    wpAny (model pw w) A (getMethod (.ref 451) "safe_init" pl) Q E s := by
  refine method_cls G.K (by rfl) ?_
  refine cls_bind (mc := .type "type") G.K (by rfl) (by rfl) (wpAny_call (cm_get (s := { s with toks := s.toks + 1 }) G.K (p := 363) (f := .ref 361) (rest := [.bool false]) (by rfl) (handed_on rfl ?_)))
  exact h _ _ (Ex.push _ (s.toks + 1)) (get_size _) (Heap.get?_push_size _ rfl)
def clean (row : Row) : Row := row.filter fun p => valid.contains p.1
def madeClean (h0 : Heap) (a y : Value) (s₃ s₅ : Shared) : Prop := ∃ T ts X dX n, a = .ref T ∧ LstAt h0 T ts ∧ y = .ref X ∧ Hi X ∧ Hi dX ∧ s₃.heap.get? X = none ∧ s₃.heap.get? dX = none ∧ s₅.heap.get? X = some (tagsO dX (ts.filter (codeOk h0)).toArray n) ∧ s₅.heap.get? dX = some emptyD
theorem LstAt.inj {h : Heap} {l : Addr} {xs ys : List Value} (a : LstAt h l xs) (b : LstAt h l ys) : xs = ys := by
  rcases a with ⟨n, e⟩ | ⟨dx, n, e⟩ <;> rcases b with ⟨n', e'⟩ | ⟨dx', n', e'⟩ <;> (rw [e] at e'; simp at e'; try exact e'.1)
  exact e'.2.1
theorem clean_all {h : Heap} {row : Row} {ts : List Value} (a : All2 (TagV h) row ts) : All2 (TagV h) (clean row) (ts.filter (codeOk h)) := by
  unfold clean
  induction a with
  | nil => exact .nil
  | @cons p v row ts hpv _ ih =>
    obtain ⟨x, rfl, t⟩ := id hpv
    have e := codeOk_of hpv
    rw [List.filter_cons, List.filter_cons, e]
    by_cases q : valid.contains p.1 = true
    · rw [if_pos q, if_pos q]
      exact .cons hpv ih
    · rw [if_neg q, if_neg q]
      exact ih
theorem clean_len (row : Row) : (clean row).length ≤ row.length := List.length_filter_le _ _
theorem safe_init_call {l : Addr} {rows : List Row} {vs : List Value} {N : List Addr} {R : Result → Shared → Prop} (r : Rm (n + 26) A) (G : Gd w mg mb s) (hl : s.heap.PlainList l vs.toArray) (hil : Hi l) (hrows : TagsList s.heap rows vs) (hn : rows.length ≤ 40) (hN : ∀ b ∈ N, ∃ o, s.heap.get? b = some o)
    (h : ∀ T dd d kvs s', Ex [] s s' → s.heap.get? T = none → s.heap.get? dd = none → s.heap.get? d = none → Full w s' T dd d N (putAll [] (rows.map clean)) kvs → R (.ok (.ret (.ref T))) s') :
    codeAny (model pw w) A (.call (.ref 361) ⟨[.ref 451, .ref l], []⟩) R s := by
  refine call_fn (n := n + 25) (binds := [("cls", .ref 451), ("xdata", .ref l)]) r G (f := 361) (by rfl) (by rfl) (BindsTo.of_eq (by rfl)) fun A' L s1 r1 F => ?_
  refine wpAny_execs_cons ?_
  repeat walk_at "m go"
  refine comp_seq (mg := mg) (mb := mb) r1.hh (fun _ => true) (madeClean s.heap) ?_ ?_
  · rintro a y s₃ s₅ s₆ ⟨T, ts, X, dX, n, rfl, h1, rfl, hX, hdX, h2, h3, h4, h5⟩ nk
    exact ⟨T, ts, X, dX, n, rfl, h1, rfl, hX, hdX, h2, h3, nk _ _ h2 h4 (by simp), nk _ _ h3 h5 (by simp)⟩
  repeat walk_at "m go"
  refine ⟨l, vs, rfl, .inl (PlainList.ex F.X hl hil (by simp)), hil, F.G, by have := hrows.len; omega, ?_, ?_⟩
  · intro a C m₃ s₃ ha F3 hm
    obtain ⟨row, _, T, dT, rfl, tg, hiT, hidT, hz⟩ := hrows.mem ha
    obtain ⟨ts, hts, hta⟩ := tg.lst
    have Y03 := F.X.then0 F3.X
    clear F
    refine wpAny_tests_nil ⟨rfl, Ex.refl _, fun _ => ?_⟩
    repeat walk_at "m go"
    have hts3 := hts.ex Y03 hiT (by simp)
    have hta3 : All2 (TagV s₃.heap) row ts := hta.imp fun _ _ z => z.ex Y03
    refine ⟨F3.G.K, filter_call (n := n + 4) (r1.mono (by omega)) F3.G hts3 hta3 hiT fun g s4 W fp St Y4 fg hg fW ffp hiW hT => ?_⟩
    have F4 := F3.go Y4
    have hig := F3.G.hi fg
    clear F3
    repeat walk_at "m go"
    have ecode : ts.filter (codeOk s₃.heap) = ts.filter (codeOk s.heap) := by
      refine List.filter_congr fun v hv => ?_
      obtain ⟨p, _, pv⟩ := hta.mem hv
      obtain ⟨x, rfl, t⟩ := id pv
      rw [codeOk_of pv, codeOk_of (pv.ex Y03)]
    obtain ⟨gg, hg⟩ := hg
    refine ⟨F4.G.K, tags_of_gen (n := n + 13) (rem := ts.filter (codeOk s₃.heap)) (r1.mono (by omega)) F4.G hg hig (by rw [ecode]; exact Nat.le_trans (List.length_filter_le _ _) (by rw [← hta.len]; omega)) hT ffp fun X dX n' us s5 Y5 fX fdX e5 d5 a5 => ?_⟩
    have Y35 : Ex [] s₃ s5 := (Y4.of0 Y5).drop fW
    have eus : us = ts.filter (codeOk s.heap) := by
      rw [← ecode]
      clear e5
      generalize ts.filter (codeOk s₃.heap) = l1 at a5
      induction a5 with
      | nil => rfl
      | cons hh _ ih => rw [hh, ih]
    subst eus
    exact ⟨Y35, T, ts, X, dX, n', rfl, hts, rfl, F4.G.hi fX, F4.G.hi fdX, Y4.off fX, Y4.off fdX, e5, d5⟩
  · intro D s5 ys X5 fD plD a3
    rw [List.filter_eq_self.mpr (fun _ _ => rfl)] at a3
    have hiD := F.G.hi fD
    have Y05 := F.X.then0 X5
    replace F := F.go X5
    have tl : TagsList s5.heap (rows.map clean) ys := by
      clear h plD hl
      unfold TagsList at hrows ⊢
      have key : ∀ (rows : List Row) (vs ys : List Value), All2 (fun row v => ∃ X dX, v = .ref X ∧ TagsAt s.heap X dX row ∧ Hi X ∧ Hi dX ∧ row.length ≤ 100) rows vs → All2 (fun a y => ∃ s₃, Ex [] s1 s₃ ∧ madeClean s.heap a y s₃ s5) vs ys → All2 (fun row v => ∃ X dX, v = .ref X ∧ TagsAt s5.heap X dX row ∧ Hi X ∧ Hi dX ∧ row.length ≤ 100) (rows.map clean) ys := by
        intro rows vs ys aa
        induction aa generalizing ys with
        | nil => intro b; cases b; exact .nil
        | @cons row v rows vs hh _ ih =>
          intro b
          cases b with
          | cons h1 b =>
            refine .cons ?_ (ih _ b)
            obtain ⟨X0, dX0, rfl, tg, hX0, hdX0, hz⟩ := hh
            obtain ⟨s₃, _, T, ts, X, dX, n, e, hts, rfl, hX, hdX, _, _, e5, d5⟩ := h1
            cases e
            obtain ⟨ts', hts', hta⟩ := tg.lst
            obtain rfl := hts.inj hts'
            exact ⟨X, dX, rfl, ⟨_, ⟨n, e5⟩, (clean_all hta).imp fun _ _ z => z.ex Y05, d5⟩, hX, hdX, Nat.le_trans (clean_len _) hz⟩
      exact key _ _ _ hrows a3
    repeat walk_at "m go"
    refine ⟨F.G.K, xdata_of (n := n + 3) (N := N) (r1.mono (by omega)) F.G plD hiD tl (by simpa using hn) (fun b m => F.X.there' (hN b m)) ?_ fun T dd d kvs s6 Y6 f1 f2 f3 ff => ?_⟩
    · intro row hm
      obtain ⟨row0, _, rfl⟩ := List.mem_map.mp hm
      unfold clean
      rw [List.all_filter]
      simp
    · exact h T dd d kvs s6 (Y05.then0 Y6) (Y05.off f1) (Y05.off f2) (Y05.off f3) ff
end Mine

namespace Mine
variable {w : World} {mg mb : Str → Option Value}
variable {s : Shared} {Q : Value → Shared → Prop} {E : Value → Shared → Prop} {A : Around} {n : Nat}

local macro_rules | `(tactic| walk_at "m go") => `(tactic| first
  | with_reducible refine wpAny_execs_cons ?_
  | with_reducible refine wpAny_Return_some ?_
  | with_reducible refine wpAny_Call_NameR ?_
  | with_reducible refine wpAny_items_cons ?_ (by with_unfolding_all rfl)
  | with_reducible refine wpAny_items_nil ?_
  | with_reducible refine Attribute_name ?_
  | with_reducible refine wpAny_Compare1 ?_ (by with_unfolding_all rfl)
  | with_reducible refine wpAny_isTrue_Compare1 ?_ (by with_unfolding_all rfl)
  | with_reducible refine wpAny_isTrue_Not ?_
  | with_reducible refine wpAny_isTrue_BoolOp ?_
  | with_reducible refine wpAny_allTrue_And_cons ?_
  | with_reducible refine wpAny_allTrue_And_nil ?_
  | with_reducible refine wpAny_allTrue_Or_cons ?_
  | with_reducible refine wpAny_allTrue_Or_nil ?_
  | with_reducible refine wpAny_If ?_
  | ((with_reducible show wpAny _ _ (exec (.Expr _ _) _) _ _ _); refine wpAny_Expr_any ?_)
  | ((with_reducible show wpAny _ _ (eval (.Call (.Attribute _ _ _) _ [] _) _) _ _ _); refine MethodCall_ ?_ (by rfl))
  | with_reducible refine wpAny_truthy_bool ?_
  | with_reducible refine wpAny_execs_nil ?_
  | ((with_reducible show wpAny _ _ (PySem.isTrue (.Call _ _ _ _) _ _) _ _ _); refine wpAny_isTrue_value ?_ (by rfl))
  | ((with_reducible show wpAny _ _ (PySem.isTrue (.Name _ _) _ _) _ _ _); refine wpAny_isTrue_value ?_ (by rfl))
  | with_reducible refine wpAny_Assign_Name ?_ (by with_unfolding_all rfl)
  | with_reducible refine wpAny_Constant_int ?_
  | with_reducible refine wpAny_Constant_str ?_
  | with_reducible refine wpAny_Constant_bool ?_
  | with_reducible refine wpAny_Constant_none ?_
  | ((with_reducible show wpAny _ _ (eval (.Name _ _) _) _ _ _); first
    | refine Fm.ldL ‹Fm _ _ _ _ _ _ _ _› (by rfl) ?_
    | refine Fm.ldL ‹Fm _ _ _ _ _ _ _ _› (by assumption) ?_
    | refine Fm.ldG ‹Fm _ _ _ _ _ _ _ _› (by rfl) ?_
    | (refine Fm.ldB (v := .builtin _) ‹Fm _ _ _ _ _ _ _ _› (by rfl) (by rfl) ?_; try dsimp only)
    | (refine Fm.ldB (v := .type _) ‹Fm _ _ _ _ _ _ _ _› (by rfl) (by rfl) ?_; try dsimp only))
  | ((with_reducible show wpAny _ _ (callWith _ (.builtin _) _ _ _) _ _ _); refine PyProof.Rows.callWith_builtin1 ?_ (by with_unfolding_all rfl) (by with_unfolding_all rfl))
  | ((with_reducible show wpAny _ _ (callWith _ (.type _) _ _ _) _ _ _); refine Mine.callWith_ty ?_ (by with_unfolding_all rfl) (by with_unfolding_all rfl))
  | ((with_reducible show wpAny _ _ (callWith _ (.ref _) _ _ _) _ _ _); refine callWith_K (Fm.G ‹Fm _ _ _ _ _ _ _ _›).K (by rfl) ?_))

theorem vals_method {T dd d : Addr} {kvs : List (Str × Value)} {pl : Sem Bool} {Q : Value × List Value → Shared → Prop} (t : Told w s.heap T dd d kvs) (h : Q (.builtin "dict.values", [.ref d]) s) : wpAny (model pw w) A (getMethod (.ref d) "values" pl) Q E s :=
  getMethod_builtin (id := "dict.values") t.dict.typeIs PySem.F.plainAttrs_dict PySem.F.slot_dict_values PySem.F.type_dict_values t.dict.mapOf.noDict h
theorem vals_call {T dd d : Addr} {kvs : List (Str × Value)} (t : Told w s.heap T dd d kvs) (h : ∀ v s', Ex [] s s' → s.heap.get? v = none → s'.heap.IsValuesView v d → Q (.ref v) s') : wpAny (model pw w) A (call (.builtin "dict.values") [.ref d]) Q E s :=
  call_meetsIn PySem.F.slot_dict_values t.dict.typeIs PySem.F.entry_dict_values (PySem.F.args_dict_values_1 _) (meets_dict_values (PySem.strKind pw w) d t.sys) ⟨⟨kvs, t.dict⟩, h _ _ (Ex.push _ s.toks) (get_size _) ⟨_, Heap.get?_push_size _ rfl, rfl, rfl⟩⟩
theorem list_vals {T dd d v : Addr} {kvs : List (Str × Value)} (hh : A.handled = none) (t : Told w s.heap T dd d kvs) (hv : s.heap.IsValuesView v d)
    (h : ∀ D s', Ex [] s s' → s.heap.get? D = none → s'.heap.PlainList D (kvs.map (·.2)).toArray → Q (.ref D) s') : wpAny (model pw w) A (call (.type "list") [.ref v]) Q E s := by
  obtain ⟨ep, hat⟩ := t.dict.dictAt
  have hl := t.len
  refine kdl_call (kdl_values (knd := PySem.strKind pw w) (kvs := kvs) (ep := ep)) hh ⟨hv, hat⟩ (by rw [sizeLine_eq]; omega) fun h' tk acc' c' hk hD hacc => ?_
  obtain ⟨hsz, hit⟩ := hacc
  have e : acc'.toList = kvs.map (·.2) := kdl_vals_eq _ (by simpa using hsz) fun j v hv => hit j v (by rw [← Array.getElem?_toList]; exact hv)
  refine h _ _ (Ex.of_keep hk) (get_size _) ⟨c', ?_⟩
  rw [← e]
  simpa using hD
theorem Full.vals {T dd d : Addr} {N : List Addr} {data : Data} {kvs : List (Str × Value)} (f : Full w s T dd d N data kvs) : TagsList s.heap (data.map (·.2)) (kvs.map (·.2)) := by
  have a := f.ents
  clear f
  unfold TagsList
  induction a with
  | nil => exact .nil
  | @cons kr kv data kvs hh _ ih =>
    obtain ⟨_, X, dx, e, t, hX, hdx, _, hl, _, _⟩ := hh
    exact .cons ⟨X, dx, e, t, hX, hdx, hl⟩ ih
theorem putAll_app : ∀ (rest done : Data), ((done ++ rest).map (·.1)).Nodup → (∀ kr ∈ rest, ∃ p r, kr.2 = p :: r ∧ p.2 = kr.1) → putAll done (rest.map (·.2)) = done ++ rest
  | [], done, _, _ => by simp [putAll]
  | kr :: rest, done, hn, hk => by
    obtain ⟨p, r, e, e2⟩ := hk kr (.head _)
    have hne : ∀ x ∈ done, x.1 ≠ kr.1 := fun x hx z => by
      rw [List.map_append, List.nodup_append] at hn
      exact hn.2.2 x.1 (List.mem_map.mpr ⟨x, hx, rfl⟩) kr.1 (by simp) z
    have step : putR done kr.2 = done ++ [kr] := by
      obtain ⟨k, row⟩ := kr
      dsimp only at e e2 hne ⊢
      subst e e2
      exact keyed_none _ _ _ hne
    have := putAll_app rest (done ++ [kr]) (by simpa using hn) (fun x hx => hk x (.tail _ hx))
    unfold putAll at this ⊢
    rw [List.map_cons, List.foldl_cons, step, this, List.append_assoc]
    rfl
theorem putAll_same {data : Data} (hn : (data.map (·.1)).Nodup) (hk : ∀ kr ∈ data, ∃ p r, kr.2 = p :: r ∧ p.2 = kr.1) : putAll [] (data.map (·.2)) = data := by
  rw [putAll_app data [] (by simpa using hn) hk]; rfl

/-- an entry's Tags gets one more tag -/
def appT (data : Data) (k : Str) (p : Int × Str) : Data := data.map fun kr => if kr.1 = k then (kr.1, kr.2 ++ [p]) else kr
theorem Full.append {s s' : Shared} {T dd d X dx : Addr} {N : List Addr} {data : Data} {kvs : List (Str × Value)} {k : Str} {row : Row} {p : Int × Str} {us : List Value} {n' : Nat} (f : Full w s T dd d N data kvs) (hv : valueAt kvs k = some (.ref X)) (hX : s.heap.get? X = some (tagsO dx us.toArray n')) (Y : Ex [X] s s') {v : Value} {n'' : Nat}
    (e : s'.heap.get? X = some (tagsO dx (us.toArray.push v) n'')) (tv : TagV s'.heap p v) (hl : ∀ kr ∈ data, kr.2.length ≤ 90) : Full w s' T dd d N (appT data k p) kvs := by
  have hk := f.nk
  have hnd := f.nd
  have mem : (k, .ref X) ∈ kvs := by
    unfold valueAt at hv
    obtain ⟨kv, e1, e2⟩ := Option.map_eq_some_iff.mp hv
    have h1 := List.find?_some e1
    have h2 := List.mem_of_find?_eq_some e1
    simp at h1
    obtain ⟨k', v'⟩ := kv
    dsimp only at h1 e2
    subst h1 e2
    exact h2
  have ne : ∀ b o, s.heap.get? b = some o → o.cls ≠ .ref 323 → b ∉ [X] := fun b o e1 e2 m => by
    rw [List.mem_singleton.mp m, hX] at e1
    cases e1
    exact e2 rfl
  obtain ⟨iT, hs, tk', k', idd⟩ := f.told.inst
  obtain ⟨o, es, ep, e3, hc, hd, _⟩ := f.told.dict
  refine ⟨f.told.ex Y (ne _ _ iT (by simp)) (ne _ _ idd (by simp)) (ne _ _ e3 (by rw [hc.1]; simp)), ?_, f.nd, f.nT, f.ndd, f.nd'⟩
  have key : ∀ (data : Data) (kvs : List (Str × Value)), All2 (Ent s.heap d N) data kvs → (kvs.map (·.1)).Nodup → (∀ kv ∈ kvs, kv.2 = .ref X → kv.1 = k) → (∀ kv ∈ kvs, kv.1 = k → kv.2 = .ref X) → (∀ kr ∈ data, kr.2.length ≤ 90) → All2 (Ent s'.heap d N) (appT data k p) kvs := by
    intro data kvs aa
    induction aa with
    | nil => intro _ _ _ _; exact .nil
    | @cons kr kv data kvs hh _ ih =>
      intro hn h1 h2 h3
      refine .cons ?_ (ih (List.nodup_cons.mp hn).2 (fun x hx => h1 x (.tail _ hx)) (fun x hx => h2 x (.tail _ hx)) fun x hx => h3 x (.tail _ hx))
      have h3' := h3 kr (.head _)
      obtain ⟨e1, X', dx', e2, t, hX', hdx', hn', hl', n1, n2⟩ := hh
      by_cases q : kr.1 = k
      · show Ent s'.heap d N (if kr.1 = k then _ else _) kv
        rw [if_pos q]
        have := h2 kv (.head _) (e1.trans q)
        rw [e2] at this
        cases this
        obtain ⟨ws, ⟨nw, ew⟩, aw, ed⟩ := t
        rw [hX] at ew
        simp at ew
        obtain ⟨rfl, rfl, rfl⟩ := ew
        have ndx : dx ∉ [X] := ne _ _ ed (by simp)
        refine ⟨e1, X, dx, e2, ⟨us ++ [v], ⟨n'', by simpa using e⟩, (aw.imp fun _ _ z => z.ex Y).snoc tv, Y.get ed hdx'.tab ndx (by simp)⟩, hX', hdx', hn', by simp; omega, n1, n2⟩
      · show Ent s'.heap d N (if kr.1 = k then _ else _) kv
        rw [if_neg q]
        have nX : X' ≠ X := fun z => q (e1.symm.trans (h1 kv (.head _) (by rw [e2, z])))
        have ndx : dx' ∉ [X] := by
          obtain ⟨_, _, _, ed⟩ := t
          exact ne _ _ ed (by simp)
        exact ⟨e1, X', dx', e2, t.ex Y hX' hdx' (by simpa using nX) ndx, hX', hdx', hn', hl', n1, n2⟩
  refine key data kvs f.ents hk (fun kv hkv e1 => ?_) (fun kv hkv e1 => ?_) hl
  · have : kv = (k, .ref X) := by
      clear key hv
      generalize kvs = l at mem hkv hnd
      induction l with
      | nil => cases hkv
      | cons y l ih =>
        rw [List.map_cons, List.nodup_cons] at hnd
        rcases List.mem_cons.mp hkv with rfl | hkv2
        · rcases List.mem_cons.mp mem with m | m
          · exact m.symm
          · exact absurd (List.mem_map.mpr ⟨_, m, e1.symm⟩) hnd.1
        · rcases List.mem_cons.mp mem with m | m
          · subst m
            exact (hnd.1 (List.mem_map.mpr ⟨kv, hkv2, e1⟩)).elim
          · exact ih m hkv2 hnd.2
    rw [this]
  · have := valueAt_mem hk (show (kv.1, kv.2) ∈ kvs from hkv)
    rw [e1, hv] at this
    exact (Option.some.inj this).symm
theorem appT_keys (data : Data) (k : Str) (p : Int × Str) : (appT data k p).map (·.1) = data.map (·.1) := by
  unfold appT
  rw [List.map_map]
  refine List.map_congr_left fun kr _ => ?_
  show (if _ then _ else _ : Str × Row).1 = _
  split <;> rfl
end Mine

namespace Mine
variable {w : World} {mg mb : Str → Option Value}
variable {s : Shared} {Q : Value → Shared → Prop} {E : Value → Shared → Prop} {A : Around} {n : Nat}

local macro_rules | `(tactic| walk_at "m go") => `(tactic| first
  | with_reducible refine wpAny_execs_cons ?_
  | with_reducible refine wpAny_Return_some ?_
  | with_reducible refine wpAny_Call_NameR ?_
  | with_reducible refine wpAny_items_cons ?_ (by with_unfolding_all rfl)
  | with_reducible refine wpAny_items_nil ?_
  | with_reducible refine Attribute_name ?_
  | with_reducible refine wpAny_Compare1 ?_ (by with_unfolding_all rfl)
  | with_reducible refine wpAny_isTrue_Compare1 ?_ (by with_unfolding_all rfl)
  | with_reducible refine wpAny_isTrue_Not ?_
  | with_reducible refine wpAny_isTrue_BoolOp ?_
  | with_reducible refine wpAny_allTrue_And_cons ?_
  | with_reducible refine wpAny_allTrue_And_nil ?_
  | with_reducible refine wpAny_allTrue_Or_cons ?_
  | with_reducible refine wpAny_allTrue_Or_nil ?_
  | with_reducible refine wpAny_If ?_
  | ((with_reducible show wpAny _ _ (exec (.Expr _ _) _) _ _ _); refine wpAny_Expr_any ?_)
  | ((with_reducible show wpAny _ _ (eval (.Call (.Attribute _ _ _) _ [] _) _) _ _ _); refine MethodCall_ ?_ (by rfl))
  | with_reducible refine wpAny_truthy_bool ?_
  | with_reducible refine wpAny_execs_nil ?_
  | ((with_reducible show wpAny _ _ (PySem.isTrue (.Call _ _ _ _) _ _) _ _ _); refine wpAny_isTrue_value ?_ (by rfl))
  | ((with_reducible show wpAny _ _ (PySem.isTrue (.Name _ _) _ _) _ _ _); refine wpAny_isTrue_value ?_ (by rfl))
  | with_reducible refine wpAny_Assign_Name ?_ (by with_unfolding_all rfl)
  | with_reducible refine wpAny_Constant_int ?_
  | with_reducible refine wpAny_Constant_str ?_
  | with_reducible refine wpAny_Constant_bool ?_
  | with_reducible refine wpAny_Constant_none ?_
  | ((with_reducible show wpAny _ _ (eval (.Name _ _) _) _ _ _); first
    | refine Fm.ldL ‹Fm _ _ _ _ _ _ _ _› (by rfl) ?_
    | refine Fm.ldL ‹Fm _ _ _ _ _ _ _ _› (by assumption) ?_
    | refine Fm.ldG ‹Fm _ _ _ _ _ _ _ _› (by rfl) ?_
    | (refine Fm.ldB (v := .builtin _) ‹Fm _ _ _ _ _ _ _ _› (by rfl) (by rfl) ?_; try dsimp only)
    | (refine Fm.ldB (v := .type _) ‹Fm _ _ _ _ _ _ _ _› (by rfl) (by rfl) ?_; try dsimp only))
  | ((with_reducible show wpAny _ _ (callWith _ (.builtin _) _ _ _) _ _ _); refine PyProof.Rows.callWith_builtin1 ?_ (by with_unfolding_all rfl) (by with_unfolding_all rfl))
  | ((with_reducible show wpAny _ _ (callWith _ (.type _) _ _ _) _ _ _); refine Mine.callWith_ty ?_ (by with_unfolding_all rfl) (by with_unfolding_all rfl))
  | ((with_reducible show wpAny _ _ (callWith _ (.ref _) _ (backTo _ (starEach [] _)) _) _ _ _); refine callWith_K0 (Fm.G ‹Fm _ _ _ _ _ _ _ _›).K (by rfl) ?_)
  | with_reducible refine wpAny_BinOp (op := .Mod) ?_
  | with_reducible refine wpAny_BinOp (op := .FloorDiv) ?_
  | ((with_reducible show wpAny _ _ (callWith _ (.ref _) _ _ _) _ _ _); refine callWith_K (Fm.G ‹Fm _ _ _ _ _ _ _ _›).K (by rfl) ?_))

/-- plain lists are turned -/
theorem Full.exQ {W : List Addr} {s s' : Shared} {T dd d : Addr} {N : List Addr} {data : Data} {kvs : List (Str × Value)} (Y : Ex W s s') (l : ∀ b ∈ W, ∃ xs, s.heap.PlainList b xs) (f : Full w s T dd d N data kvs) : Full w s' T dd d N data kvs := by
  refine ⟨f.told.ex Y ?_ ?_ ?_, f.ents.imp fun _ _ z => z.ex Y fun X dx _ t _ _ _ => ⟨fun m => ?_, fun m => ?_⟩, f.nd, f.nT, f.ndd, f.nd'⟩
  · intro m; obtain ⟨xs, l⟩ := l _ m; exact (f.told.notList l).1 rfl
  · intro m; obtain ⟨xs, l⟩ := l _ m; exact (f.told.notList l).2.1 rfl
  · intro m; obtain ⟨xs, l⟩ := l _ m; exact (f.told.notList l).2.2 rfl
  · obtain ⟨xs, l⟩ := l _ m; exact (t.notList l).1 rfl
  · obtain ⟨xs, l⟩ := l _ m; exact (t.notList l).2 rfl
theorem Full.there {T dd d : Addr} {N : List Addr} {data : Data} {kvs : List (Str × Value)} (f : Full w s T dd d N data kvs) : (∃ o, s.heap.get? T = some o) ∧ (∃ o, s.heap.get? dd = some o) ∧ (∃ o, s.heap.get? d = some o) := by
  obtain ⟨e, hs, tk, k, e2⟩ := f.told.inst
  obtain ⟨o, es, ep, e3, _⟩ := f.told.dict
  exact ⟨⟨_, e⟩, ⟨_, e2⟩, ⟨_, e3⟩⟩
/-- it leaves what is not there too -/
theorem Full.more {T dd d : Addr} {N : List Addr} {data : Data} {kvs : List (Str × Value)} (M : List Addr) (f : Full w s T dd d N data kvs) (h : ∀ b ∈ M, s.heap.get? b = none) : Full w s T dd d (M ++ N) data kvs := by
  have ne : ∀ b, (∃ o, s.heap.get? b = some o) → b ∉ M := fun b ⟨o, e⟩ m => by rw [h b m] at e; cases e
  obtain ⟨a1, a2, a3⟩ := f.there
  refine ⟨f.told, f.ents.imp fun kr kv z => ?_, f.nd, fun m => (List.mem_append.mp m).elim (ne _ a1) f.nT, fun m => (List.mem_append.mp m).elim (ne _ a2) f.ndd, fun m => (List.mem_append.mp m).elim (ne _ a3) f.nd'⟩
  obtain ⟨e, X, dx, e2, t, hX, hdx, hn, hl, n1, n2⟩ := z
  have t' := t
  obtain ⟨ys, ⟨n, e3⟩, _, e4⟩ := t'
  exact ⟨e, X, dx, e2, t, hX, hdx, hn, hl, fun m => (List.mem_append.mp m).elim (ne _ ⟨_, e3⟩) n1, fun m => (List.mem_append.mp m).elim (ne _ ⟨_, e4⟩) n2⟩
theorem Full.less {T dd d : Addr} {N N' : List Addr} {data : Data} {kvs : List (Str × Value)} (f : Full w s T dd d N data kvs) (h : ∀ b ∈ N', b ∈ N) : Full w s T dd d N' data kvs :=
  ⟨f.told, f.ents.imp fun _ _ ⟨e, X, dx, e2, t, hX, hdx, hn, hl, n1, n2⟩ => ⟨e, X, dx, e2, t, hX, hdx, hn, hl, fun m => n1 (h _ m), fun m => n2 (h _ m)⟩, f.nd, fun m => f.nT (h _ m), fun m => f.ndd (h _ m), fun m => f.nd' (h _ m)⟩

/-- nothing of P is turned -/
def Off (P : List Addr) (s s' : Shared) : Prop := ∃ W, Ex W s s' ∧ ∀ b ∈ W, b ∉ P
theorem Off.refl {P : List Addr} : Off P s s := ⟨[], Ex.refl _, by simp⟩
theorem Off.step {P W : List Addr} {s s' s'' : Shared} (o : Off P s s') (Y : Ex W s' s'') (h : ∀ b ∈ W, b ∉ P) : Off P s s'' := by
  obtain ⟨V, Z, hV⟩ := o
  exact ⟨V ++ W, Z.trans Y, fun b m => (List.mem_append.mp m).elim (hV b) (h b)⟩
theorem Off.trans {P : List Addr} {s s' s'' : Shared} (o : Off P s s') (o' : Off P s' s'') : Off P s s'' := let ⟨_, Z, hW⟩ := o'; o.step Z hW
theorem Off.tags {P : List Addr} {s s' : Shared} {T dx : Addr} {row : Row} (o : Off P s s') (t : TagsAt s.heap T dx row) (hT : Hi T) (hd : Hi dx) (h1 : T ∈ P) (h2 : dx ∈ P) : TagsAt s'.heap T dx row := let ⟨_, Z, hW⟩ := o; t.ex Z hT hd (fun m => hW _ m h1) (fun m => hW _ m h2)
theorem Off.list {P : List Addr} {s s' : Shared} {l : Addr} {xs : Array Value} (o : Off P s s') (t : s.heap.PlainList l xs) (hl : Hi l) (h1 : l ∈ P) : s'.heap.PlainList l xs := let ⟨_, Z, hW⟩ := o; PlainList.ex Z t hl (fun m => hW _ m h1)

theorem Ns.notCell {h : Heap} {L c : Addr} {m : Str → Option Value} {v : Option Value} (N : h.Ns L m) (C : h.IsCell c v) : c ≠ L := by
  rintro rfl
  obtain ⟨o, es, ep, ho, hd, _⟩ := N
  obtain ⟨o', e, d⟩ := C
  rw [ho] at e; cases e; rw [hd] at d; cases d
theorem IsCell.notList {h : Heap} {c : Addr} {v : Option Value} {xs : Array Value} (C : h.IsCell c v) : ¬ h.PlainList c xs := by
  rintro ⟨n, e'⟩
  obtain ⟨o', e, d⟩ := C
  rw [e'] at e; cases e; cases d

/-- the law's frame within a turn: told and plain, with what they hold; P: what is left alone -/
structure Lp (w : World) (mg mb : Str → Option Value) (s0 sT : Shared) (L c T dd d : Addr) (P : List Addr) (m : Str → Option Value) (cv : Option Value) (data : Data) (kvs : List (Str × Value)) (pl : Addr) (pd : Data) (ps : List Addr) (s : Shared) : Prop where
  F : Fm w mg mb s0 L m [] s
  mt : m "told" = some (.ref T)
  mp : m "plain" = some (.ref pl)
  mh : m "handed" = some (.ref (P.headD 0))
  full : Full w s T dd d (L :: c :: P) data kvs
  plain : Plain s.heap pl pd ps
  cell : s.heap.IsCell c cv
  hic : Hi c
  nP : ∀ b ∈ pl :: ps, b ∉ P
  ex : ∀ b ∈ P, ∃ o, s.heap.get? b = some o
  old : ∀ b o, s0.heap.get? b = some o → b ∈ P
  nL : L ∉ P
  nc : c ∉ P
  off : Off P sT s

namespace Lp
variable {s0 sT s' : Shared} {L c T dd d pl : Addr} {P : List Addr} {m : Str → Option Value} {cv : Option Value} {data pd : Data} {kvs : List (Str × Value)} {ps : List Addr}
theorem fr0 (X : Lp w mg mb s0 sT L c T dd d P m cv data kvs pl pd ps s) {b : Addr} (h : b ∉ P) : s0.heap.get? b = none := by
  cases e : s0.heap.get? b with
  | none => rfl
  | some o => exact absurd (X.old b o e) h
theorem ex0 (X : Lp w mg mb s0 sT L c T dd d P m cv data kvs pl pd ps s) (Y : Ex [] s s') : Lp w mg mb s0 sT L c T dd d P m cv data kvs pl pd ps s' :=
  ⟨X.F.go Y, X.mt, X.mp, X.mh, X.full.ex0 Y, X.plain.ex0 Y, IsCell.ex Y X.cell X.hic (by simp), X.hic, X.nP, fun b hb => Y.there' (X.ex b hb), X.old, X.nL, X.nc, X.off.step Y (by simp)⟩
theorem tok (X : Lp w mg mb s0 sT L c T dd d P m cv data kvs pl pd ps s) {t : Nat} : Lp w mg mb s0 sT L c T dd d P m cv data kvs pl pd ps { s with toks := t } := X.ex0 (Ex.tok t)
/-- the frame alone is turned -/
theorem exL {m' : Str → Option Value} (X : Lp w mg mb s0 sT L c T dd d P m cv data kvs pl pd ps s) (Y : Ex [L] s s') (F' : Fm w mg mb s0 L m' [] s') (h1 : m' "told" = some (.ref T)) (h2 : m' "plain" = some (.ref pl)) (h3 : m' "handed" = some (.ref (P.headD 0))) : Lp w mg mb s0 sT L c T dd d P m' cv data kvs pl pd ps s' :=
  ⟨F', h1, h2, h3, X.full.exN Y (by simp), X.plain.exQ Y (fun b hb xs => by rw [List.mem_singleton.mp hb]; exact Ns.notList X.F.N), IsCell.ex Y X.cell X.hic (by simpa using Ns.notCell X.F.N X.cell), X.hic, X.nP, fun b hb => Y.there' (X.ex b hb), X.old, X.nL, X.nc,
    X.off.step Y (fun b hb => by rw [List.mem_singleton.mp hb]; exact X.nL)⟩
theorem st (X : Lp w mg mb s0 sT L c T dd d P m cv data kvs pl pd ps s) {env : Env} {x : Str} {v : Value} {Q : Unit → Shared → Prop} (hx : x ≠ "told") (hx' : x ≠ "plain")
    (h : ∀ s', Lp w mg mb s0 sT L c T dd d P (fun y => if y = x then some v else m y) cv data kvs pl pd ps s' → Ex [L] s s' → Q () s')
    (he : env.locals = L := by rfl) (hl : env.kindOf x = some .local := by rfl) (hk : env.scope.kind = .function := by rfl) (hx3 : x ≠ "handed" := by decide) : wpAny (model pw w) A (storeName env x v) Q E s :=
  X.F.st (fun s' F' Y => h s' (X.exL Y F' (by show (if _ then _ else _) = _; rw [if_neg (Ne.symm hx)]; exact X.mt) (by show (if _ then _ else _) = _; rw [if_neg (Ne.symm hx')]; exact X.mp) (by show (if _ then _ else _) = _; rw [if_neg (Ne.symm hx3)]; exact X.mh)) Y) he hl hk
theorem stP {pl' : Addr} {pd' : Data} {ps' : List Addr} (X : Lp w mg mb s0 sT L c T dd d P m cv data kvs pl pd ps s) {env : Env} {Q : Unit → Shared → Prop} (p' : Plain s.heap pl' pd' ps') (hn : ∀ b ∈ pl' :: ps', b ∉ P)
    (h : ∀ s', Lp w mg mb s0 sT L c T dd d P (fun y => if y = "plain" then some (.ref pl') else m y) cv data kvs pl' pd' ps' s' → Ex [L] s s' → Q () s')
    (he : env.locals = L := by rfl) (hl : env.kindOf "plain" = some .local := by rfl) (hk : env.scope.kind = .function := by rfl) : wpAny (model pw w) A (storeName env "plain" (.ref pl')) Q E s :=
  X.F.st (fun s' F' Y => h s' ⟨F', (by show (if _ then _ else _) = _; rw [if_neg (by decide)]; exact X.mt), (by show (if _ then _ else _) = _; rw [if_pos rfl]), (by show (if _ then _ else _) = _; rw [if_neg (by decide)]; exact X.mh), X.full.exN Y (by simp), p'.exQ Y (fun b hb xs => by rw [List.mem_singleton.mp hb]; exact Ns.notList X.F.N),
    IsCell.ex Y X.cell X.hic (by simpa using Ns.notCell X.F.N X.cell), X.hic, hn, fun b hb => Y.there' (X.ex b hb), X.old, X.nL, X.nc, X.off.step Y (fun b hb => by rw [List.mem_singleton.mp hb]; exact X.nL)⟩ Y) he hl hk
/-- one object outside is turned, no plain list -/
theorem w1 {b : Addr} {data' : Data} {kvs' : List (Str × Value)} (X : Lp w mg mb s0 sT L c T dd d P m cv data kvs pl pd ps s) (Y : Ex [b] s s') (hb : b ∉ L :: c :: P) (nb : ∀ xs, ¬ s.heap.PlainList b xs) (f' : Full w s' T dd d (L :: c :: P) data' kvs') : Lp w mg mb s0 sT L c T dd d P m cv data' kvs' pl pd ps s' := by
  simp only [List.mem_cons, not_or] at hb
  obtain ⟨h1, h2, h3⟩ := hb
  exact ⟨X.F.goN Y (by simpa using Ne.symm h1) (by simpa using X.fr0 h3), X.mt, X.mp, X.mh, f', X.plain.exQ Y (fun b' hb xs => by rw [List.mem_singleton.mp hb]; exact nb xs), IsCell.ex Y X.cell X.hic (by simpa using Ne.symm h2), X.hic, X.nP, fun b hb => Y.there' (X.ex b hb), X.old, X.nL, X.nc,
    X.off.step Y (fun b' hb' => by rw [List.mem_singleton.mp hb']; exact h3)⟩
theorem told {data' : Data} {kvs' : List (Str × Value)} (X : Lp w mg mb s0 sT L c T dd d P m cv data kvs pl pd ps s) (Y : Ex [d] s s') (f' : Full w s' T dd d (L :: c :: P) data' kvs') : Lp w mg mb s0 sT L c T dd d P m cv data' kvs' pl pd ps s' :=
  X.w1 Y X.full.nd' (fun xs l => (X.full.told.notList l).2.2 rfl) f'
theorem lists (X : Lp w mg mb s0 sT L c T dd d P m cv data kvs pl pd ps s) : ∀ b ∈ pl :: ps, ∃ xs, s.heap.PlainList b xs := by
  intro b hb
  rcases List.mem_cons.mp hb with rfl | hb
  · exact ⟨_, X.plain.lst⟩
  · have a := X.plain.parts
    obtain ⟨kr, _, l, t, p, _⟩ := a.mem hb
    exact ⟨_, p⟩
/-- the plain list is turned -/
theorem put {pd' : Data} {ps' : List Addr} (X : Lp w mg mb s0 sT L c T dd d P m cv data kvs pl pd ps s) (Y : Ex (pl :: ps) s s') (p' : Plain s'.heap pl pd' ps') (hp : ∀ q ∈ ps', q ∈ ps ∨ s.heap.get? q = none) : Lp w mg mb s0 sT L c T dd d P m cv data kvs pl pd' ps' s' := by
  have nL : L ∉ pl :: ps := fun z => by obtain ⟨xs, l⟩ := X.lists L z; exact Ns.notList X.F.N l
  have nc : c ∉ pl :: ps := fun z => by obtain ⟨xs, l⟩ := X.lists c z; exact IsCell.notList X.cell l
  refine ⟨X.F.goN Y nL (fun b hb => X.fr0 (X.nP b hb)), X.mt, X.mp, X.mh, X.full.exQ Y X.lists, p', IsCell.ex Y X.cell X.hic nc, X.hic, fun b hb => ?_, fun b hb => Y.there' (X.ex b hb), X.old, X.nL, X.nc, X.off.step Y X.nP⟩
  rcases List.mem_cons.mp hb with rfl | hb
  · exact X.nP _ (.head _)
  · rcases hp b hb with h | h
    · exact X.nP b (.tail _ h)
    · intro z
      obtain ⟨o, e⟩ := X.ex b z
      rw [h] at e; cases e
/-- a list of its own is turned -/
theorem wR {b : Addr} {xs : Array Value} (X : Lp w mg mb s0 sT L c T dd d P m cv data kvs pl pd ps s) (Y : Ex [b] s s') (hb : b ∉ P) (l : s.heap.PlainList b xs) (p' : Plain s'.heap pl pd ps) : Lp w mg mb s0 sT L c T dd d P m cv data kvs pl pd ps s' :=
  ⟨X.F.goN Y (by simpa using fun z : L = b => Ns.notList X.F.N (z ▸ l)) (by simpa using X.fr0 hb), X.mt, X.mp, X.mh, X.full.exL Y l, p', IsCell.ex Y X.cell X.hic (by simpa using fun z : c = b => IsCell.notList X.cell (z ▸ l)), X.hic, X.nP, fun b hb => Y.there' (X.ex b hb), X.old, X.nL, X.nc,
    X.off.step Y (fun b' hb' => by rw [List.mem_singleton.mp hb']; exact hb)⟩
/-- an exception has come and gone -/
theorem kept {env : Env} (X : Lp w mg mb s0 sT L c T dd d P m cv data kvs pl pd ps s) (K : Kept [env] s s') (hf : env.frame = some L) : Lp w mg mb s0 sT L c T dd d P m cv data kvs pl pd ps s' := by
  have F' := X.F.goK hf K (by simp)
  obtain ⟨⟨W, Y, hW⟩, _⟩ := K
  have Y' : Ex ([L] ++ W.filter fun b => !(b == L)) s s' := Y.weaken (fun b hb => by
    by_cases q : b = L
    · exact List.mem_append.mpr (.inl (by simp [q]))
    · exact List.mem_append.mpr (.inr (List.mem_filter.mpr ⟨hb, by simpa using q⟩))) (fun b hb => by
    rcases List.mem_append.mp hb with hb | hb
    · rw [List.mem_singleton.mp hb]; exact X.F.hL
    · exact Y.wlo b (List.mem_filter.mp hb).1)
  refine X.exL (Y'.fresh fun b hb => ?_) F' X.mt X.mp X.mh
  obtain ⟨h1, h2⟩ := List.mem_filter.mp hb
  rcases hW b h1 with h | h
  · exact h
  · obtain ⟨e', he', hf'⟩ := List.mem_filterMap.mp h
    rw [List.mem_singleton.mp he', hf] at hf'
    cases hf'
    simp at h2
/-- the cell is set -/
theorem stC (X : Lp w mg mb s0 sT L c T dd d P m cv data kvs pl pd ps s) {env : Env} {x : Str} {v : Value} {Q : Unit → Shared → Prop}
    (h : ∀ s', Lp w mg mb s0 sT L c T dd d P m (some v) data kvs pl pd ps s' → Ex [c] s s' → Q () s')
    (he : env.cells.lookup x = some c := by rfl) (hl : env.kindOf x = some .cell := by rfl) (hk : env.scope.kind = .function := by rfl) : wpAny (model pw w) A (storeName env x v) Q E s := by
  refine wpAny_storeName_cell hk hl he X.cell fun h' hc sb => ?_
  obtain ⟨o, e, hd⟩ := X.cell
  have C := X.cell
  have Y : Ex [c] s { s with heap := h', toks := s.toks } := Ex.turn e (by rintro (⟨_, h⟩ | ⟨_, _, _, h⟩) <;> (rw [hd] at h; cases h)) X.hic sb (let ⟨o', e', _⟩ := hc; ⟨o', e'⟩)
  have ncL := Ns.notCell X.F.N C
  exact h _ ⟨X.F.goN Y (by simpa using Ne.symm ncL) (by simpa using X.fr0 X.nc), X.mt, X.mp, X.mh, X.full.exN Y (by simp), X.plain.exQ Y (fun b hb xs => by rw [List.mem_singleton.mp hb]; exact IsCell.notList C), hc, X.hic, X.nP, fun b hb => Y.there' (X.ex b hb), X.old, X.nL, X.nc,
    X.off.step Y (fun b hb => by rw [List.mem_singleton.mp hb]; exact X.nc)⟩ Y
end Lp
end Mine

namespace Mine
variable {w : World} {mg mb : Str → Option Value}
variable {s : Shared} {Q : Value → Shared → Prop} {E : Value → Shared → Prop} {A : Around} {n : Nat}

local macro_rules | `(tactic| walk_at "m go") => `(tactic| first
  | with_reducible refine wpAny_execs_cons ?_
  | with_reducible refine wpAny_Return_some ?_
  | with_reducible refine wpAny_Call_NameR ?_
  | with_reducible refine wpAny_items_cons ?_ (by with_unfolding_all rfl)
  | with_reducible refine wpAny_items_nil ?_
  | with_reducible refine Attribute_name ?_
  | with_reducible refine wpAny_Compare1 ?_ (by with_unfolding_all rfl)
  | with_reducible refine wpAny_isTrue_Compare1 ?_ (by with_unfolding_all rfl)
  | with_reducible refine wpAny_isTrue_Not ?_
  | with_reducible refine wpAny_isTrue_BoolOp ?_
  | with_reducible refine wpAny_allTrue_And_cons ?_
  | with_reducible refine wpAny_allTrue_And_nil ?_
  | with_reducible refine wpAny_allTrue_Or_cons ?_
  | with_reducible refine wpAny_allTrue_Or_nil ?_
  | with_reducible refine wpAny_If ?_
  | ((with_reducible show wpAny _ _ (exec (.Expr _ _) _) _ _ _); refine wpAny_Expr_any ?_)
  | ((with_reducible show wpAny _ _ (eval (.Call (.Attribute _ _ _) _ [] _) _) _ _ _); refine MethodCall_ ?_ (by rfl))
  | with_reducible refine wpAny_truthy_bool ?_
  | with_reducible refine wpAny_execs_nil ?_
  | ((with_reducible show wpAny _ _ (PySem.isTrue (.Call _ _ _ _) _ _) _ _ _); refine wpAny_isTrue_value ?_ (by rfl))
  | ((with_reducible show wpAny _ _ (PySem.isTrue (.Name _ _) _ _) _ _ _); refine wpAny_isTrue_value ?_ (by rfl))
  | with_reducible refine wpAny_Assign_Name ?_ (by with_unfolding_all rfl)
  | with_reducible refine wpAny_Constant_int ?_
  | with_reducible refine wpAny_Constant_str ?_
  | with_reducible refine wpAny_Constant_bool ?_
  | with_reducible refine wpAny_Constant_none ?_
  | ((with_reducible show wpAny _ _ (eval (.Name _ _) _) _ _ _); first
    | refine Fm.ldL ‹Fm _ _ _ _ _ _ _ _› (by rfl) ?_
    | refine Fm.ldL ‹Fm _ _ _ _ _ _ _ _› (by assumption) ?_
    | refine Fm.ldG ‹Fm _ _ _ _ _ _ _ _› (by rfl) ?_
    | (refine Fm.ldB (v := .builtin _) ‹Fm _ _ _ _ _ _ _ _› (by rfl) (by rfl) ?_; try dsimp only)
    | (refine Fm.ldB (v := .type _) ‹Fm _ _ _ _ _ _ _ _› (by rfl) (by rfl) ?_; try dsimp only))
  | ((with_reducible show wpAny _ _ (callWith _ (.builtin _) _ _ _) _ _ _); refine PyProof.Rows.callWith_builtin1 ?_ (by with_unfolding_all rfl) (by with_unfolding_all rfl))
  | ((with_reducible show wpAny _ _ (callWith _ (.type _) _ _ _) _ _ _); refine Mine.callWith_ty ?_ (by with_unfolding_all rfl) (by with_unfolding_all rfl))
  | ((with_reducible show wpAny _ _ (callWith _ (.ref _) _ (backTo _ (starEach [] _)) _) _ _ _); refine callWith_K0 (Fm.G ‹Fm _ _ _ _ _ _ _ _›).K (by rfl) ?_)
  | with_reducible refine wpAny_BinOp ?_
  | ((with_reducible show wpAny _ _ (callWith _ (.ref _) _ _ _) _ _ _); refine callWith_K (Fm.G ‹Fm _ _ _ _ _ _ _ _›).K (by rfl) ?_))

/-- the law's environment -/
abbrev LE (cd : Value) (fa L : Addr) : Env := newEnv (scopeOf (st1 30)) L mainGlobals (cellsFrom (L + 1) (scopeOf (st1 30)).names []) (("law" : Str) ++ ".<locals>.") (some fa) cd none builtinsNs
def idS (i : Int) : Str := if i = 0 then "P" else if i = 1 then "Q" else "R"
def lawRows : List Row := [[(1000, "s")], [(1040, "1"), (1070, "2")], [(1005, "F"), (1000, "P")], [], [(1002, "{"), (1002, "}")]]
def rowS (i : Int) : Row := lawRows.getD i.toNat []
def wrongS (i : Int) : Int × Str := wrongs.getD i.toNat (0, "x")
theorem get_lst {l : Addr} {xs : Array Value} {i : Int} {t : Tok} {y : Value} (hl : s.heap.PlainList l xs) (h0 : 0 ≤ i) (h1 : i < 1000) (hy : xs[i.toNat]? = some y) (h : Q y s) : ItemOn (model pw w) A E (.ref l) (.int i t) Q s :=
  ⟨"list", _, slot_list_getitem.lookup, hl.isList.typeIs, wpAny_getItem_list hl.isList h0 (by omega) hy h⟩
variable {cd : Value} {fa L : Addr} {s0 : Shared} {m : Str → Option Value} {V : List Addr}
theorem ids_ev {slice : Expr} {p1 p2 p3 : Pos} (r : Rm (n + 2) A) (F : Fm w mg mb s0 L m V s)
    (h : ∀ s1, Ex [] s s1 → wpAny (model pw w) A (eval slice (LE cd fa L)) (fun iv s2 => Ex [] s1 s2 ∧ ∃ i t, iv = .int i t ∧ 0 ≤ i ∧ i < 3 ∧ ∀ tk, Q (.str (idS i) tk) s2) E s1)
    (hs : ∀ o i, subscripted slice false o i = operate [o, i] (getItem o i) := by intro _ _; rfl) :
    wpAny (model pw w) A (eval (.Subscript (.Call (.Name "_law_ids" p1) [] [] p2) slice p3) (LE cd fa L)) Q E s := by
  refine sub_gen ?_ hs
  repeat walk_at "m go"
  refine Rm.leaf (r.mono (by omega : 1 ≤ n + 2)) (law_ids0 F.G.K fun x s1 t1 t2 t3 Y fx ex => ?_)
  refine wpAny_mono (h s1 Y) (fun iv s2 h2 => ?_) fun _ _ z => z
  obtain ⟨Y2, i, t, rfl, h0, h1, hq⟩ := h2
  have pl : s2.heap.PlainList x #[.str "P" t1, .str "Q" t2, .str "R" t3] := ⟨0, Y2.get ex (F.G.hi fx).tab (by simp) (by simp)⟩
  have hi : i = 0 ∨ i = 1 ∨ i = 2 := by omega
  rcases hi with rfl | rfl | rfl
  · exact get_lst pl (by omega) (by omega) (by rfl) (hq t1)
  · exact get_lst pl (by omega) (by omega) (by rfl) (hq t2)
  · exact get_lst pl (by omega) (by omega) (by rfl) (hq t3)
def rowA (i : Int) : Addr := [471, 474, 477, 478, 481].getD i.toNat 478
theorem tup_K {h : Heap} (K : (Kf w.params).In h) {a : Addr} {c : Int} {v : Str} {tc tv : Tok} (e : (Kf w.params).lookup a = some ⟨.type "tuple", none, .seq #[.int c tc, .str v tv] 0, #[]⟩) : TupV h (c, v) (.ref a) :=
  ⟨a, 0, tc, tv, rfl, (kf_of e).2.1, K _ _ e⟩
theorem rows_at {h : Heap} (K : (Kf w.params).In h) {i : Int} (h0 : 0 ≤ i) (h1 : i < 5) : RowsAt h (rowA i) (rowS i) := by
  have hi : i = 0 ∨ i = 1 ∨ i = 2 ∨ i = 3 ∨ i = 4 := by omega
  rcases hi with rfl | rfl | rfl | rfl | rfl
  · exact ⟨[.ref 470], ⟨0, K 471 _ (by rfl)⟩, .cons (tup_K K (by rfl)) .nil⟩
  · exact ⟨[.ref 472, .ref 473], ⟨0, K 474 _ (by rfl)⟩, .cons (tup_K K (by rfl)) (.cons (tup_K K (by rfl)) .nil)⟩
  · exact ⟨[.ref 475, .ref 476], ⟨0, K 477 _ (by rfl)⟩, .cons (tup_K K (by rfl)) (.cons (tup_K K (by rfl)) .nil)⟩
  · exact ⟨[], ⟨0, K 478 _ (by rfl)⟩, .nil⟩
  · exact ⟨[.ref 479, .ref 480], ⟨0, K 481 _ (by rfl)⟩, .cons (tup_K K (by rfl)) (.cons (tup_K K (by rfl)) .nil)⟩
theorem rows_ev {slice : Expr} {p1 p3 : Pos} (F : Fm w mg mb s0 L m V s)
    (h : wpAny (model pw w) A (eval slice (LE cd fa L)) (fun iv s2 => Ex [] s s2 ∧ ∃ i t, iv = .int i t ∧ 0 ≤ i ∧ i < 5 ∧ (RowsAt s2.heap (rowA i) (rowS i) → Q (.ref (rowA i)) s2)) E s)
    (hs : ∀ o i, subscripted slice false o i = operate [o, i] (getItem o i) := by intro _ _; rfl) :
    wpAny (model pw w) A (eval (.Subscript (.Name "_law_rows" p1) slice p3) (LE cd fa L)) Q E s := by
  refine sub_gen ?_ hs
  repeat walk_at "m go"
  refine wpAny_mono h (fun iv s2 h2 => ?_) fun _ _ z => z
  obtain ⟨Y2, i, t, rfl, h0, h1, hq⟩ := h2
  have K := (F.G.ex Y2).K
  have q := hq (rows_at K h0 h1)
  have pl : s2.heap.PlainList 482 #[.ref 471, .ref 474, .ref 477, .ref 478, .ref 481] := ⟨0, K 482 _ (by rfl)⟩
  have hi : i = 0 ∨ i = 1 ∨ i = 2 ∨ i = 3 ∨ i = 4 := by omega
  rcases hi with rfl | rfl | rfl | rfl | rfl <;> exact get_lst pl (by omega) (by omega) (by rfl) q
theorem wrong_ev {slice : Expr} {p1 p2 p3 : Pos} (r : Rm (n + 2) A) (F : Fm w mg mb s0 L m V s)
    (h : ∀ s1, Ex [] s s1 → wpAny (model pw w) A (eval slice (LE cd fa L)) (fun iv s2 => Ex [] s1 s2 ∧ ∃ i t, iv = .int i t ∧ 0 ≤ i ∧ i < 9 ∧ ∀ v, TupV s2.heap (wrongS i) v → Q v s2) E s1)
    (hs : ∀ o i, subscripted slice false o i = operate [o, i] (getItem o i) := by intro _ _; rfl) :
    wpAny (model pw w) A (eval (.Subscript (.Call (.Name "_law_wrong" p1) [] [] p2) slice p3) (LE cd fa L)) Q E s := by
  refine sub_gen ?_ hs
  repeat walk_at "m go"
  refine Rm.leaf (r.mono (by omega : 1 ≤ n + 2)) (law_wrong0 F.G.K fun x xs s1 Y fx ex a => ?_)
  refine wpAny_mono (h s1 Y) (fun iv s2 h2 => ?_) fun _ _ z => z
  obtain ⟨Y2, i, t, rfl, h0, h1, hq⟩ := h2
  have pl : s2.heap.PlainList x xs.toArray := ⟨0, Y2.get ex (F.G.hi fx).tab (by simp) (by simp)⟩
  have hl : xs.length = 9 := a.len.symm
  have hj : i.toNat < 9 := by omega
  have hj1 : i.toNat < wrongs.length := hj
  have hj2 : i.toNat < xs.length := by omega
  have nt := a.get i.toNat hj1 hj2
  have e1 : wrongS i = wrongs[i.toNat] := by unfold wrongS; rw [List.getD_eq_getElem?_getD, List.getElem?_eq_getElem hj1]; rfl
  refine get_lst pl h0 (by omega) (y := xs[i.toNat]) (by simp [hj2]) (hq _ ?_)
  rw [e1]
  obtain ⟨b, tc, tv, e, fb, eb⟩ := nt
  exact TupV.ex Y2 ⟨b, 0, tc, tv, e, (F.G.hi fb).tab, eb⟩

def DataOk (i : Nat) (data : Data) : Prop := data.length ≤ 3 + i ∧ ∀ kr ∈ data, kr.2.length ≤ 6 + i ∧ (kr.2.all fun p => valid.contains p.1) = true ∧ ∃ p r, kr.2 = p :: r ∧ p.2 = kr.1
theorem DataOk.keep {i : Nat} {data : Data} (h : DataOk i data) : DataOk (i + 1) data := ⟨by have := h.1; omega, fun kr hk => ⟨by have := (h.2 kr hk).1; omega, (h.2 kr hk).2⟩⟩
theorem keyed_mem {data : Data} {k : Str} {row : Row} {kr : Str × Row} (h : kr ∈ keyed data k row) : kr ∈ data ∨ kr = (k, row) := by
  unfold keyed at h
  split at h
  · obtain ⟨x, hx, e⟩ := List.mem_map.mp h
    by_cases q : x.1 = k
    · rw [if_pos q] at e; exact .inr (by rw [← e, q])
    · rw [if_neg q] at e; exact .inl (e ▸ hx)
  · rcases List.mem_append.mp h with h | h
    · exact .inl h
    · exact .inr (List.mem_singleton.mp h)
theorem DataOk.put {i : Nat} {data : Data} {k : Str} {p : Int × Str} {r : Row} (h : DataOk i data) (hk : p.2 = k) (hv : ((p :: r).all fun p => valid.contains p.1) = true) (hz : (p :: r).length ≤ 7) : DataOk (i + 1) (keyed data k (p :: r)) := by
  refine ⟨by have := keyed_len data k (p :: r); have := h.1; omega, fun kr hm => ?_⟩
  rcases keyed_mem hm with hm | rfl
  · exact h.keep.2 kr hm
  · exact ⟨by simp at hz ⊢; omega, hv, p, r, rfl, hk⟩
theorem DataOk.cut {i : Nat} {data : Data} {k : Str} (h : DataOk i data) : DataOk (i + 1) (cut data k) :=
  ⟨by have : (Mine.cut data k).length ≤ data.length := List.length_filter_le _ _
      have := h.1; omega, fun kr hm => h.keep.2 kr (List.mem_filter.mp hm).1⟩
theorem DataOk.app {i : Nat} {data : Data} {k : Str} {p : Int × Str} (h : DataOk i data) (hv : valid.contains p.1 = true) : DataOk (i + 1) (appT data k p) := by
  refine ⟨by unfold appT; have := h.1; simp; omega, fun kr hm => ?_⟩
  unfold appT at hm
  obtain ⟨x, hx, e⟩ := List.mem_map.mp hm
  obtain ⟨h1, h2, q, r, h3, h4⟩ := h.2 x hx
  by_cases z : x.1 = k
  · rw [if_pos z] at e
    subst e
    refine ⟨by simp; omega, by simp only [List.all_append, h2, List.all_cons, hv, List.all_nil]; rfl, q, r ++ [p], by simp [h3], h4⟩
  · rw [if_neg z] at e
    subst e
    exact ⟨by omega, h2, q, r, h3, h4⟩
theorem keyed_app {data : Data} {k : Str} {row : Row} {p : Int × Str} (hn : (data.map (·.1)).Nodup) (hm : (k, row) ∈ data) : keyed data k (row ++ [p]) = appT data k p := by
  unfold keyed appT
  rw [if_pos (List.any_eq_true.mpr ⟨_, hm, by simp⟩)]
  refine List.map_congr_left fun kr hk => ?_
  by_cases z : kr.1 = k
  · rw [if_pos z, if_pos z]
    have : kr = (k, row) := by
      obtain ⟨k', row'⟩ := kr
      dsimp only at z
      subst z
      clear p
      induction data with
      | nil => cases hm
      | cons x l ih =>
        rw [List.map_cons, List.nodup_cons] at hn
        rcases List.mem_cons.mp hk with h1 | h1 <;> rcases List.mem_cons.mp hm with h2 | h2
        · rw [h1, h2]
        · exact (hn.1 (List.mem_map.mpr ⟨_, h2, by rw [← h1]⟩)).elim
        · exact (hn.1 (List.mem_map.mpr ⟨_, h1, by rw [← h2]⟩)).elim
        · exact ih hn.2 h1 h2
    rw [this]
  · rw [if_neg z, if_neg z]
theorem Full.keys {T dd d : Addr} {N : List Addr} {data : Data} {kvs : List (Str × Value)} (f : Full w s T dd d N data kvs) : data.map (·.1) = kvs.map (·.1) := by
  have a := f.ents
  clear f
  induction a with
  | nil => rfl
  | cons h _ ih => rw [List.map_cons, List.map_cons, ih, h.1]
theorem Full.nodup {T dd d : Addr} {N : List Addr} {data : Data} {kvs : List (Str × Value)} (f : Full w s T dd d N data kvs) : (data.map (·.1)).Nodup := by rw [f.keys]; exact f.nk
end Mine

namespace Mine
variable {w : World} {mg mb : Str → Option Value}
variable {s : Shared} {Q : Value → Shared → Prop} {E : Value → Shared → Prop} {A : Around} {n : Nat}

local macro_rules | `(tactic| walk_at "m go") => `(tactic| first
  | with_reducible refine wpAny_execs_cons ?_
  | with_reducible refine wpAny_Return_some ?_
  | with_reducible refine wpAny_Call_NameR ?_
  | with_reducible refine wpAny_items_cons ?_ (by with_unfolding_all rfl)
  | with_reducible refine wpAny_items_nil ?_
  | with_reducible refine Attribute_name ?_
  | with_reducible refine wpAny_Compare1 ?_ (by with_unfolding_all rfl)
  | with_reducible refine wpAny_isTrue_Compare1 ?_ (by with_unfolding_all rfl)
  | with_reducible refine wpAny_isTrue_Not ?_
  | with_reducible refine wpAny_isTrue_BoolOp ?_
  | with_reducible refine wpAny_allTrue_And_cons ?_
  | with_reducible refine wpAny_allTrue_And_nil ?_
  | with_reducible refine wpAny_allTrue_Or_cons ?_
  | with_reducible refine wpAny_allTrue_Or_nil ?_
  | with_reducible refine wpAny_If ?_
  | ((with_reducible show wpAny _ _ (exec (.Expr _ _) _) _ _ _); refine wpAny_Expr_any ?_)
  | ((with_reducible show wpAny _ _ (eval (.Call (.Attribute _ _ _) _ [] _) _) _ _ _); refine MethodCall_ ?_ (by rfl))
  | with_reducible refine wpAny_truthy_bool ?_
  | with_reducible refine wpAny_execs_nil ?_
  | ((with_reducible show wpAny _ _ (PySem.isTrue (.Call _ _ _ _) _ _) _ _ _); refine wpAny_isTrue_value ?_ (by rfl))
  | ((with_reducible show wpAny _ _ (PySem.isTrue (.Name _ _) _ _) _ _ _); refine wpAny_isTrue_value ?_ (by rfl))
  | with_reducible refine wpAny_Assign_Name ?_ (by with_unfolding_all rfl)
  | with_reducible refine wpAny_Constant_int ?_
  | with_reducible refine wpAny_Constant_str ?_
  | with_reducible refine wpAny_Constant_bool ?_
  | with_reducible refine wpAny_Constant_none ?_
  | ((with_reducible show wpAny _ _ (eval (.Name _ _) _) _ _ _); first
    | refine Fm.ldL ‹Fm _ _ _ _ _ _ _ _› (by rfl) ?_
    | refine Fm.ldL ‹Fm _ _ _ _ _ _ _ _› (by assumption) ?_
    | refine Fm.ldG ‹Fm _ _ _ _ _ _ _ _› (by rfl) ?_
    | (refine Fm.ldB (v := .builtin _) ‹Fm _ _ _ _ _ _ _ _› (by rfl) (by rfl) ?_; try dsimp only)
    | (refine Fm.ldB (v := .type _) ‹Fm _ _ _ _ _ _ _ _› (by rfl) (by rfl) ?_; try dsimp only))
  | ((with_reducible show wpAny _ _ (callWith _ (.builtin _) _ _ _) _ _ _); refine PyProof.Rows.callWith_builtin1 ?_ (by with_unfolding_all rfl) (by with_unfolding_all rfl))
  | ((with_reducible show wpAny _ _ (callWith _ (.type _) _ _ _) _ _ _); refine Mine.callWith_ty ?_ (by with_unfolding_all rfl) (by with_unfolding_all rfl))
  | ((with_reducible show wpAny _ _ (callWith _ (.ref _) _ (backTo _ (starEach [] _)) _) _ _ _); refine callWith_K0 (Fm.G ‹Fm _ _ _ _ _ _ _ _›).K (by rfl) ?_)
  | with_reducible refine wpAny_BinOp (op := .Mod) ?_
  | with_reducible refine wpAny_BinOp (op := .FloorDiv) ?_
  | ((with_reducible show wpAny _ _ (callWith _ (.ref _) _ _ _) _ _ _); refine callWith_K (Fm.G ‹Fm _ _ _ _ _ _ _ _›).K (by rfl) ?_))

def forBody : Stmt → List Stmt
  | .For _ _ b _ _ => b
  | _ => []
def ifBody : Stmt → List Stmt
  | .If _ b _ _ => b
  | _ => []
def ifElse : Stmt → List Stmt
  | .If _ _ b _ => b
  | _ => []
def turnBody : List Stmt := forBody (nth (bodyOf (st1 30)) 6)
def deedIf : Nat → Stmt
  | 0 => nth turnBody 6
  | j + 1 => nth (ifElse (deedIf j)) 0
theorem rowFacts {row : Row} (h : row ∈ lawRows) : (row.all fun p => valid.contains p.1) = true ∧ row.length ≤ 2 ∧ (∀ p ∈ row, p ∈ tagList) ∧ (∀ p ∈ row, p.1 ≠ 1001) := by
  have key : ∀ row ∈ lawRows, (row.all fun p => valid.contains p.1) = true ∧ row.length ≤ 2 ∧ (∀ p ∈ row, p ∈ tagList) ∧ (∀ p ∈ row, p.1 ≠ 1001) := by decide +kernel
  exact key row h
theorem idFacts (i : Int) : (1001, idS i) ∈ tagList := by
  unfold idS
  split
  · decide +kernel
  · split <;> decide +kernel
/-- the rows of the turn -/
structure Rw (s : Shared) (P : List Addr) (pl : Addr) (m : Str → Option Value) (rl : Addr) (row : Row) (wh : Int) : Prop where
  mr : m "rows" = some (.ref rl)
  hr : RowsAt s.heap rl row
  hi : Hi rl
  nP : rl ∉ P
  npl : rl ≠ pl
  lz : row.length ≤ 10
  mw : ∃ tw, m "which" = some (.int wh tw)
namespace Rw
variable {s' : Shared} {P W : List Addr} {pl rl : Addr} {m : Str → Option Value} {row : Row} {wh : Int}
theorem exW (R : Rw s P pl m rl row wh) (Y : Ex W s s') (h : rl ∉ W) : Rw s' P pl m rl row wh := ⟨R.mr, R.hr.ex Y R.hi.tab h, R.hi, R.nP, R.npl, R.lz, R.mw⟩
theorem ex0 (R : Rw s P pl m rl row wh) (Y : Ex [] s s') : Rw s' P pl m rl row wh := R.exW Y (by simp)
theorem set (R : Rw s P pl m rl row wh) {x : Str} {v : Value} (h1 : x ≠ "rows") (h2 : x ≠ "which") : Rw s P pl (fun y => if y = x then some v else m y) rl row wh :=
  ⟨by show (if _ then _ else _) = _; rw [if_neg (Ne.symm h1)]; exact R.mr, R.hr, R.hi, R.nP, R.npl, R.lz, let ⟨tw, e⟩ := R.mw; ⟨tw, by show (if _ then _ else _) = _; rw [if_neg (Ne.symm h2)]; exact e⟩⟩
end Rw
section
variable {cd : Value} {fa L c T dd d pl rl : Addr} {s0 sT : Shared} {P : List Addr} {m : Str → Option Value} {data pd : Data} {kvs : List (Str × Value)} {ps : List Addr} {k : Str} {tk : Tok} {row : Row} {wh : Int}
/-- [(1001, word)] + rows -/
theorem row_ev {kc kt : Nat} {p1 p2 p3 p4 p5 p6 : Pos} (X : Lp w mg mb s0 sT L (L + 1) T dd d P m (some (.str k tk)) data kvs pl pd ps s) (R : Rw s P pl m rl row wh)
    (h : ∀ D s', Ex [] s s' → s.heap.get? D = none → RowsAt s'.heap D ((1001, k) :: row) → Q (.ref D) s') :
    wpAny (model pw w) A (eval (.BinOp (.List [.Tuple [.Constant (.int 1001) kc p1, .Name "word" p2] kt p3] p4) .Add (.Name "rows" p5) p6) (LE cd fa L)) Q E s := by
  refine cons_ev (mg := mg) (mb := mb) ?_
  refine ldCell (s := { s with toks := s.toks + 1 }) X.cell ?_
  refine ⟨k, tk, rfl, (X.tok (t := s.toks + 1)).F.G, fun s2 Y2 => ?_⟩
  have Y02 : Ex [] s s2 := (Ex.tok (s.toks + 1)).of0 Y2
  have F := (X.ex0 Y02).F
  have e := R.mr
  refine F.ldL e ?_
  exact ⟨rl, row, rfl, Ex.refl _, (R.ex0 Y02).hr, by have := R.lz; omega, fun D s4 Y4 fD rD => h D s4 (Y02.then0 Y4) (Y02.off fD) rD⟩
end
end Mine

namespace Mine
variable {w : World} {mg mb : Str → Option Value}
variable {s : Shared} {Q : Value → Shared → Prop} {E : Value → Shared → Prop} {A : Around} {n : Nat}

local macro_rules | `(tactic| walk_at "m go") => `(tactic| first
  | with_reducible refine wpAny_execs_cons ?_
  | with_reducible refine wpAny_Return_some ?_
  | with_reducible refine wpAny_Call_NameR ?_
  | with_reducible refine wpAny_items_cons ?_ (by with_unfolding_all rfl)
  | with_reducible refine wpAny_items_nil ?_
  | with_reducible refine Attribute_name ?_
  | with_reducible refine wpAny_Compare1 ?_ (by with_unfolding_all rfl)
  | with_reducible refine wpAny_isTrue_Compare1 ?_ (by with_unfolding_all rfl)
  | with_reducible refine wpAny_isTrue_Not ?_
  | with_reducible refine wpAny_isTrue_BoolOp ?_
  | with_reducible refine wpAny_allTrue_And_cons ?_
  | with_reducible refine wpAny_allTrue_And_nil ?_
  | with_reducible refine wpAny_allTrue_Or_cons ?_
  | with_reducible refine wpAny_allTrue_Or_nil ?_
  | with_reducible refine wpAny_If ?_
  | ((with_reducible show wpAny _ _ (exec (.Expr _ _) _) _ _ _); refine wpAny_Expr_any ?_)
  | ((with_reducible show wpAny _ _ (eval (.Call (.Attribute _ _ _) _ [] _) _) _ _ _); refine MethodCall_ ?_ (by rfl))
  | with_reducible refine wpAny_truthy_bool ?_
  | with_reducible refine wpAny_execs_nil ?_
  | ((with_reducible show wpAny _ _ (PySem.isTrue (.Call _ _ _ _) _ _) _ _ _); refine wpAny_isTrue_value ?_ (by rfl))
  | ((with_reducible show wpAny _ _ (PySem.isTrue (.Name _ _) _ _) _ _ _); refine wpAny_isTrue_value ?_ (by rfl))
  | with_reducible refine wpAny_Assign_Name ?_ (by with_unfolding_all rfl)
  | with_reducible refine wpAny_Constant_int ?_
  | with_reducible refine wpAny_Constant_str ?_
  | with_reducible refine wpAny_Constant_bool ?_
  | with_reducible refine wpAny_Constant_none ?_
  | ((with_reducible show wpAny _ _ (eval (.Name _ _) _) _ _ _); first
    | refine Fm.ldL ‹Fm _ _ _ _ _ _ _ _› (by rfl) ?_
    | refine Fm.ldL ‹Fm _ _ _ _ _ _ _ _› (by assumption) ?_
    | refine Fm.ldG ‹Fm _ _ _ _ _ _ _ _› (by rfl) ?_
    | (refine Fm.ldB (v := .builtin _) ‹Fm _ _ _ _ _ _ _ _› (by rfl) (by rfl) ?_; try dsimp only)
    | (refine Fm.ldB (v := .type _) ‹Fm _ _ _ _ _ _ _ _› (by rfl) (by rfl) ?_; try dsimp only))
  | ((with_reducible show wpAny _ _ (callWith _ (.builtin _) _ _ _) _ _ _); refine PyProof.Rows.callWith_builtin1 ?_ (by with_unfolding_all rfl) (by with_unfolding_all rfl))
  | ((with_reducible show wpAny _ _ (callWith _ (.type _) _ _ _) _ _ _); refine Mine.callWith_ty ?_ (by with_unfolding_all rfl) (by with_unfolding_all rfl))
  | ((with_reducible show wpAny _ _ (callWith _ (.ref _) _ (backTo _ (starEach [] _)) _) _ _ _); refine callWith_K0 (Fm.G ‹Fm _ _ _ _ _ _ _ _›).K (by rfl) ?_)
  | with_reducible refine wpAny_BinOp (op := .Mod) ?_
  | with_reducible refine wpAny_BinOp (op := .FloorDiv) ?_
  | ((with_reducible show wpAny _ _ (callWith _ (.ref _) _ _ _) _ _ _); refine callWith_K (Fm.G ‹Fm _ _ _ _ _ _ _ _›).K (by rfl) ?_))

section
variable {cd : Value} {fa L c T dd d pl rl : Addr} {s0 sT s' : Shared} {P : List Addr} {m : Str → Option Value} {data pd : Data} {kvs : List (Str × Value)} {ps : List Addr} {k : Str} {tk : Tok} {cv : Option Value} {row : Row} {wh : Int} {i : Nat}
theorem RowsAt.ne {h : Heap} {l b : Addr} {row : Row} (r : RowsAt h l row) (n : ∀ xs, ¬ h.PlainList b xs) : l ≠ b := by
  rintro rfl
  obtain ⟨xs, p, _⟩ := r
  exact n _ p
theorem TagsAt.notL {h : Heap} {X dx : Addr} {row : Row} (t : TagsAt h X dx row) : ∀ xs, ¬ h.PlainList X xs := fun _ l => (t.notList l).1 rfl
theorem Lp.stR {Q : Unit → Shared → Prop} {env : Env} {x : Str} {v : Value} (X : Lp w mg mb s0 sT L c T dd d P m cv data kvs pl pd ps s) (R : Rw s P pl m rl row wh) (h1 : x ≠ "told") (h2 : x ≠ "plain") (h3 : x ≠ "rows") (h4 : x ≠ "which")
    (h : ∀ s', Lp w mg mb s0 sT L c T dd d P (fun y => if y = x then some v else m y) cv data kvs pl pd ps s' → Rw s' P pl (fun y => if y = x then some v else m y) rl row wh → Ex [L] s s' → Q () s')
    (he : env.locals = L := by rfl) (hl : env.kindOf x = some .local := by rfl) (hk : env.scope.kind = .function := by rfl) (h5 : x ≠ "handed" := by decide) : wpAny (model pw w) A (storeName env x v) Q E s :=
  X.st h1 h2 (fun s' X' Y => h s' X' ((R.exW Y (by simpa using R.hr.ne fun xs => Ns.notList X.F.N)).set h3 h4) Y) he hl hk h5
theorem Rw.nd (R : Rw s P pl m rl row wh) (X : Lp w mg mb s0 sT L c T dd d P m cv data kvs pl pd ps s) : rl ≠ d := R.hr.ne fun xs l => (X.full.told.notList l).2.2 rfl
theorem Lp.N (X : Lp w mg mb s0 sT L c T dd d P m cv data kvs pl pd ps s) : ∀ b ∈ L :: c :: P, ∃ o, s.heap.get? b = some o := by
  intro b hb
  rcases List.mem_cons.mp hb with rfl | hb
  · obtain ⟨o, _, _, e, _⟩ := X.F.N; exact ⟨o, e⟩
  · rcases List.mem_cons.mp hb with rfl | hb
    · obtain ⟨o, e, _⟩ := X.cell; exact ⟨o, e⟩
    · exact X.ex b hb
theorem Lp.newN (X : Lp w mg mb s0 sT L c T dd d P m cv data kvs pl pd ps s) {b : Addr} (h : s.heap.get? b = none) : b ∉ L :: c :: P := fun z => by obtain ⟨o, e⟩ := X.N b z; rw [h] at e; cases e
theorem Lp.newl (X : Lp w mg mb s0 sT L c T dd d P m cv data kvs pl pd ps s) {b : Addr} (h : s.heap.get? b = none) : b ∉ pl :: ps := fun z => by
  obtain ⟨xs, n, e⟩ := X.lists b z; rw [h] at e; cases e
/-- plain = _law_put(plain, word, [(1001, word)] + rows) -/
theorem put_tail {Q : Flow → Shared → Prop} {kc kt : Nat} {p1 p2 p3 p4 p5 p6 q0 q1 q2 q3 q4 q5 : Pos} (r : Rm (n + 10) A) (X : Lp w mg mb s0 sT L (L + 1) T dd d P m (some (.str k tk)) data kvs pl pd ps s) (R : Rw s P pl m rl row wh) (hn : (pd.map (·.1)).Nodup) (hl : pd.length ≤ 50)
    (fin : ∀ s' m' ps', Lp w mg mb s0 sT L (L + 1) T dd d P m' (some (.str k tk)) data kvs pl (keyed pd k ((1001, k) :: row)) ps' s' → Q .next s') :
    wpAny (model pw w) A (execs [.Assign [.Name "plain" q0] (.Call (.Name "_law_put" q1) [.Name "plain" q2, .Name "word" q3, .BinOp (.List [.Tuple [.Constant (.int 1001) kc p1, .Name "word" p2] kt p3] p4) .Add (.Name "rows" p5) p6] [] q4) q5] (LE cd fa L)) Q E s := by
  have F := X.F
  have e := X.mp
  refine wpAny_execs_cons ?_
  repeat walk_at "m go"
  refine ldCell X.cell ?_
  repeat walk_at "m go"
  refine row_ev X R fun D s1 Y1 fD rD => ?_
  have X1 := X.ex0 Y1
  clear F e
  have F := X1.F
  repeat walk_at "m go"
  refine ⟨F.G.K, law_put_call (n := n) (r.mono (by omega)) F.G X1.plain hn rD (X.F.G.hi fD) (by have := R.lz; simp; omega) hl (fun z => X.newl fD (by simp [z])) fun s2 ps2 Y2 P2 h2 => ?_⟩
  have X2 := X1.put Y2 P2 h2
  clear F
  repeat walk_at "m go"
  refine X2.stP P2 X2.nP fun s3 X3 Y3 => ?_
  repeat walk_at "m go"
  exact fin s3 _ _ X3
theorem deed0 {Q : Flow → Shared → Prop} (r : Rm (n + 40) A) (X : Lp w mg mb s0 sT L (L + 1) T dd d P m (some (.str k tk)) data kvs pl data ps s) (R : Rw s P pl m rl row wh) (hrow : row ∈ lawRows) (hk : (1001, k) ∈ tagList) (ok : DataOk i data) (hi : i ≤ 20)
    (fin : ∀ s' m' cv' data' kvs' pl' ps', Lp w mg mb s0 sT L (L + 1) T dd d P m' cv' data' kvs' pl' data' ps' s' → DataOk (i + 1) data' → Q .next s') :
    wpAny (model pw w) A (execs (ifBody (deedIf 0)) (LE cd fa L)) Q E s := by
  obtain ⟨rv, rz, rt, rn⟩ := rowFacts hrow
  have hv : (((1001, k) :: row).all fun p => valid.contains p.1) = true := by rw [List.all_cons, rv]; rfl
  have hz : ((1001, k) :: row).length ≤ 7 := by simp; omega
  have hn := X.full.nodup
  have hlen : data.length ≤ 50 := by have := ok.1; omega
  refine wpAny_execs_cons ?_
  have F := X.F
  repeat walk_at "m go"
  refine row_ev X R fun D s1 Y1 fD rD => ?_
  have X1 := X.ex0 Y1
  have R1 := R.ex0 Y1
  clear F
  have F := X1.F
  repeat walk_at "m go"
  refine ⟨F.G.K, law_tags_call (n := n) (r.mono (by omega)) F.G rD (X.F.G.hi fD) (by omega) fun T1 dT1 s2 Y2 fT fdT tg => ?_⟩
  have hiT := F.G.hi fT
  have hidT := F.G.hi fdT
  have nTL := F.neL fT
  have ndTL := F.neL fdT
  have f1 := X1.full.more [T1, dT1] (by simp [fT, fdT])
  have nT := X1.newN fT
  clear F
  have X2 := X1.ex0 Y2
  have R2 := R1.ex0 Y2
  repeat walk_at "m go"
  refine X2.stR (x := "tags") R2 (by decide) (by decide) (by decide) (by decide) fun s3 X3 R3 Y3 => ?_
  have tg3 := tg.ex Y3 hiT hidT (by simpa using nTL) (by simpa using ndTL)
  have f3 := (f1.ex0 Y2).exN Y3 (by simp)
  have F := X3.F
  have e := X3.mt
  repeat walk_at "m go"
  refine f3.told.method F.G.K (name := "_add") (f := 392) (by rfl) (by rfl) (fun _ _ _ => by rfl) ?_
  clear e
  repeat walk_at "m go"
  have hN3 : ∀ b ∈ [T1, dT1] ++ L :: (L + 1) :: P, ∃ o, s3.heap.get? b = some o := by
    intro b hb
    rcases List.mem_append.mp hb with hb | hb
    · obtain ⟨us, ⟨n', e1⟩, _, e2⟩ := tg3
      simp at hb
      rcases hb with rfl | rfl
      · exact ⟨_, e1⟩
      · exact ⟨_, e2⟩
    · exact X3.N b hb
  refine ⟨F.G.K, x_addF (n := n) (r.mono (by omega)) F.G f3 hN3 hlen tg3 hiT (by omega) hv fun s4 kvs4 Y4 f4 => ?_⟩
  clear F
  have X4 := X3.told Y4 (f4.less (by simp +contextual))
  have R4 := R3.exW Y4 (by simpa using R3.nd X3)
  have nTd : T1 ∉ [d] := fun z => f3.nd' (by simp [List.mem_singleton.mp z])
  have ndTd : dT1 ∉ [d] := fun z => f3.nd' (by simp [List.mem_singleton.mp z])
  have tg4 := tg3.ex Y4 hiT hidT nTd ndTd
  have F := X4.F
  repeat walk_at "m go"
  obtain ⟨us, ⟨n', e1⟩, au, e2⟩ := tg4
  refine tags_method F.G.K e1 e2 (by rfl) (by with_unfolding_all rfl) (by rfl) ?_
  refine callWith_bi ?_ (by with_unfolding_all rfl) (by with_unfolding_all rfl)
  repeat walk_at "m go"
  have X4' := X4.tok (t := s4.toks + 1 + 1)
  clear F
  have F := X4'.F
  refine ⟨F.G.K, (r.mono (by omega : 1 ≤ n + 40)).leaf (dxf_new0 F.G.K fun x dx s5 Y5 g1 g2 g3 g4 => ?_)⟩
  have Y45 : Ex [] s4 s5 := (Ex.tok _).of0 Y5
  clear F
  have X5 := X4.ex0 Y45
  have R5 := R4.ex0 Y45
  have F := X5.F
  repeat walk_at "m go"
  have e5 := Y45.get e1 hiT.tab (by simp) (by simp)
  refine tags_append F.G.K hiT e5 (by have := au.len; simp; simp at hz this; omega) fun s6 n6 Y6 e6 => ?_
  have X6 := X5.w1 Y6 nT (fun xs l => by obtain ⟨_, e⟩ := l; rw [e5] at e; cases e) (((f4.ex0 Y45).exN Y6 (by simp)).less (by simp +contextual))
  have nrT : rl ≠ T1 := R5.hr.ne fun xs l => by obtain ⟨_, e⟩ := l; rw [e5] at e; cases e
  have R6 := R5.exW Y6 (by simpa using nrT)
  clear F
  refine put_tail (n := n) (r.mono (by omega)) X6 R6 hn hlen fun s7 m7 ps7 X7 => ?_
  exact fin s7 _ _ _ _ _ _ X7 (ok.put rfl hv hz)
end
end Mine

namespace Mine
variable {w : World} {mg mb : Str → Option Value}
variable {s : Shared} {Q : Value → Shared → Prop} {E : Value → Shared → Prop} {A : Around} {n : Nat}

local macro_rules | `(tactic| walk_at "m go") => `(tactic| first
  | with_reducible refine wpAny_execs_cons ?_
  | with_reducible refine wpAny_Return_some ?_
  | with_reducible refine wpAny_Call_NameR ?_
  | with_reducible refine wpAny_items_cons ?_ (by with_unfolding_all rfl)
  | with_reducible refine wpAny_items_nil ?_
  | with_reducible refine Attribute_name ?_
  | with_reducible refine wpAny_Compare1 ?_ (by with_unfolding_all rfl)
  | with_reducible refine wpAny_isTrue_Compare1 ?_ (by with_unfolding_all rfl)
  | with_reducible refine wpAny_isTrue_Not ?_
  | with_reducible refine wpAny_isTrue_BoolOp ?_
  | with_reducible refine wpAny_allTrue_And_cons ?_
  | with_reducible refine wpAny_allTrue_And_nil ?_
  | with_reducible refine wpAny_allTrue_Or_cons ?_
  | with_reducible refine wpAny_allTrue_Or_nil ?_
  | with_reducible refine wpAny_If ?_
  | ((with_reducible show wpAny _ _ (exec (.Expr _ _) _) _ _ _); refine wpAny_Expr_any ?_)
  | ((with_reducible show wpAny _ _ (eval (.Call (.Attribute _ _ _) _ [] _) _) _ _ _); refine MethodCall_ ?_ (by rfl))
  | with_reducible refine wpAny_truthy_bool ?_
  | with_reducible refine wpAny_execs_nil ?_
  | ((with_reducible show wpAny _ _ (PySem.isTrue (.Call _ _ _ _) _ _) _ _ _); refine wpAny_isTrue_value ?_ (by rfl))
  | ((with_reducible show wpAny _ _ (PySem.isTrue (.Name _ _) _ _) _ _ _); refine wpAny_isTrue_value ?_ (by rfl))
  | with_reducible refine wpAny_Assign_Name ?_ (by with_unfolding_all rfl)
  | with_reducible refine wpAny_Constant_int ?_
  | with_reducible refine wpAny_Constant_str ?_
  | with_reducible refine wpAny_Constant_bool ?_
  | with_reducible refine wpAny_Constant_none ?_
  | ((with_reducible show wpAny _ _ (eval (.Name _ _) _) _ _ _); first
    | refine Fm.ldL ‹Fm _ _ _ _ _ _ _ _› (by rfl) ?_
    | refine Fm.ldL ‹Fm _ _ _ _ _ _ _ _› (by assumption) ?_
    | refine Fm.ldG ‹Fm _ _ _ _ _ _ _ _› (by rfl) ?_
    | (refine Fm.ldB (v := .builtin _) ‹Fm _ _ _ _ _ _ _ _› (by rfl) (by rfl) ?_; try dsimp only)
    | (refine Fm.ldB (v := .type _) ‹Fm _ _ _ _ _ _ _ _› (by rfl) (by rfl) ?_; try dsimp only))
  | ((with_reducible show wpAny _ _ (callWith _ (.builtin _) _ _ _) _ _ _); refine PyProof.Rows.callWith_builtin1 ?_ (by with_unfolding_all rfl) (by with_unfolding_all rfl))
  | ((with_reducible show wpAny _ _ (callWith _ (.type _) _ _ _) _ _ _); refine Mine.callWith_ty ?_ (by with_unfolding_all rfl) (by with_unfolding_all rfl))
  | ((with_reducible show wpAny _ _ (callWith _ (.ref _) _ (backTo _ (starEach [] _)) _) _ _ _); refine callWith_K0 (Fm.G ‹Fm _ _ _ _ _ _ _ _›).K (by rfl) ?_)
  | with_reducible refine wpAny_BinOp (op := .Mod) ?_
  | with_reducible refine wpAny_BinOp (op := .FloorDiv) ?_
  | ((with_reducible show wpAny _ _ (callWith _ (.ref _) _ _ _) _ _ _); refine callWith_K (Fm.G ‹Fm _ _ _ _ _ _ _ _›).K (by rfl) ?_))

section
variable {cd : Value} {fa L c T dd d pl rl : Addr} {s0 sT s' : Shared} {P : List Addr} {m : Str → Option Value} {data pd : Data} {kvs : List (Str × Value)} {ps : List Addr} {k : Str} {tk : Tok} {cv : Option Value} {row : Row} {wh : Int} {i : Nat}
theorem Lp.fun (X : Lp w mg mb s0 sT L c T dd d P m cv data kvs pl pd ps s) : FunFr s.heap [LE cd fa L] :=
  FunFr.cons (fun _ h => nomatch h) (by show (scopeOf (st1 30)).kind ≠ _; decide) rfl X.F.N X.F.hL
theorem RowsAt.it {h : Heap} {l : Addr} {row : Row} (r : RowsAt h l row) : ∃ xs, LstAt h l xs ∧ All2 (ItV h) row xs := let ⟨xs, p, a⟩ := r; ⟨xs, .inl p, a.imp fun _ _ z => .inl z⟩
theorem TagsAt.it {h : Heap} {l dx : Addr} {row : Row} (r : TagsAt h l dx row) : ∃ xs, LstAt h l xs ∧ All2 (ItV h) row xs := let ⟨xs, ⟨n, p⟩, a, _⟩ := r; ⟨xs, .inr ⟨_, n, p⟩, a.imp fun _ _ z => .inr z⟩
theorem marked_new {k : Str} {row : Row} (h : ∀ p ∈ row, p.1 ≠ 1001 ∨ p.2 ≠ k) : marked k row = (1001, k) :: row := by
  refine need_true ?_
  cases row with
  | nil => rfl
  | cons p row =>
    unfold need
    rcases h p (.head _) with h | h
    · simp [h]
    · simp [h]
theorem marked_old {k : Str} {row : Row} : marked k ((1001, k) :: row) = (1001, k) :: row := by
  refine need_false ?_
  unfold need
  simp
theorem deed3 {Q : Flow → Shared → Prop} (r : Rm (n + 40) A) (hA : A.frames = some [LE cd fa L]) (X : Lp w mg mb s0 sT L (L + 1) T dd d P m (some (.str k tk)) data kvs pl data ps s) (R : Rw s P pl m rl row wh) (hrow : row ∈ lawRows) (hk : (1001, k) ∈ tagList) (ok : DataOk i data) (hi : i ≤ 20)
    (fin : ∀ s' m' cv' data' kvs' pl' ps', Lp w mg mb s0 sT L (L + 1) T dd d P m' cv' data' kvs' pl' data' ps' s' → DataOk (i + 1) data' → Q .next s') :
    wpAny (model pw w) A (execs (ifBody (deedIf 3)) (LE cd fa L)) Q E s := by
  obtain ⟨rv, rz, rt, rn⟩ := rowFacts hrow
  have hv : (((1001, k) :: row).all fun p => valid.contains p.1) = true := by rw [List.all_cons, rv]; rfl
  have hz : ((1001, k) :: row).length ≤ 7 := by simp; omega
  have hn := X.full.nodup
  have hlen : data.length ≤ 50 := by have := ok.1; omega
  have hm : marked k row = (1001, k) :: row := marked_new fun p hp => .inl (rn p hp)
  refine wpAny_execs_cons ?_
  have F := X.F
  have e := X.mt
  have er := R.mr
  repeat walk_at "m go"
  refine X.full.told.method F.G.K (name := "add") (f := 399) (by rfl) (by rfl) (fun _ _ _ => by rfl) ?_
  repeat walk_at "m go"
  refine ldCell X.cell ?_
  repeat walk_at "m go"
  obtain ⟨xs, lx, ax⟩ := R.hr.it
  refine ⟨F.G.K, x_put (n := n) (r.mono (by omega)) hA X.fun F.G X.full X.N hlen lx R.hi ax (by omega) (fun _ s1 kvs1 Y1 f1 => ?_) (fun hc => ?_) fun hc => ?_⟩
  · rw [hm] at f1
    have X1 := X.told Y1 f1
    have R1 := R.exW Y1 (by simpa using R.nd X)
    clear F e er
    refine put_tail (n := n) (r.mono (by omega)) X1 R1 hn hlen fun s7 m7 ps7 X7 => ?_
    exact fin s7 _ _ _ _ _ _ X7 (ok.put rfl hv hz)
  · rw [hm, hv] at hc; cases hc
  · rw [hm, hv] at hc; cases hc
theorem deed4 {Q : Flow → Shared → Prop} (r : Rm (n + 40) A) (hA : A.frames = some [LE cd fa L]) (X : Lp w mg mb s0 sT L (L + 1) T dd d P m (some (.str k tk)) data kvs pl data ps s) (R : Rw s P pl m rl row wh) (hrow : row ∈ lawRows) (hk : (1001, k) ∈ tagList) (ok : DataOk i data) (hi : i ≤ 20)
    (fin : ∀ s' m' cv' data' kvs' pl' ps', Lp w mg mb s0 sT L (L + 1) T dd d P m' cv' data' kvs' pl' data' ps' s' → DataOk (i + 1) data' → Q .next s') :
    wpAny (model pw w) A (execs (ifBody (deedIf 4)) (LE cd fa L)) Q E s := by
  obtain ⟨rv, rz, rt, rn⟩ := rowFacts hrow
  have hv : (((1001, k) :: row).all fun p => valid.contains p.1) = true := by rw [List.all_cons, rv]; rfl
  have hz : ((1001, k) :: row).length ≤ 7 := by simp; omega
  have hn := X.full.nodup
  have hlen : data.length ≤ 50 := by have := ok.1; omega
  refine wpAny_execs_cons ?_
  have F := X.F
  have e := X.mt
  repeat walk_at "m go"
  refine X.full.told.method F.G.K (name := "add") (f := 399) (by rfl) (by rfl) (fun _ _ _ => by rfl) ?_
  repeat walk_at "m go"
  refine ldCell X.cell ?_
  clear e
  repeat walk_at "m go"
  refine row_ev X R fun D s1 Y1 fD rD => ?_
  have X1 := X.ex0 Y1
  have R1 := R.ex0 Y1
  have hiD := F.G.hi fD
  clear F
  have F := X1.F
  repeat walk_at "m go"
  refine ⟨F.G.K, law_tags_call (n := n) (r.mono (by omega)) F.G rD hiD (by omega) fun T1 dT1 s2 Y2 fT fdT tg => ?_⟩
  have hiT := F.G.hi fT
  have X2 := X1.ex0 Y2
  have R2 := R1.ex0 Y2
  clear F
  have F := X2.F
  repeat walk_at "m go"
  obtain ⟨xs, lx, ax⟩ := tg.it
  refine ⟨F.G.K, x_put (n := n) (r.mono (by omega)) hA X2.fun F.G X2.full X2.N hlen lx hiT ax (by omega) (fun _ s3 kvs3 Y3 f3 => ?_) (fun hc => ?_) fun hc => ?_⟩
  · rw [marked_old] at f3
    have X3 := X2.told Y3 f3
    have R3 := R2.exW Y3 (by simpa using R2.nd X2)
    clear F
    refine put_tail (n := n) (r.mono (by omega)) X3 R3 hn hlen fun s7 m7 ps7 X7 => ?_
    exact fin s7 _ _ _ _ _ _ X7 (ok.put rfl hv hz)
  · rw [marked_old, hv] at hc; cases hc
  · rw [marked_old, hv] at hc; cases hc
theorem deed7 {Q : Flow → Shared → Prop} (r : Rm (n + 40) A) (X : Lp w mg mb s0 sT L (L + 1) T dd d P m (some (.str k tk)) data kvs pl data ps s) (ok : DataOk i data) (hi : i ≤ 20)
    (fin : ∀ s' m' cv' data' kvs' pl' ps', Lp w mg mb s0 sT L (L + 1) T dd d P m' cv' data' kvs' pl' data' ps' s' → DataOk (i + 1) data' → Q .next s') :
    wpAny (model pw w) A (execs (ifBody (deedIf 7)) (LE cd fa L)) Q E s := by
  have hlen : data.length ≤ 50 := by have := ok.1; omega
  refine wpAny_execs_cons ?_
  have F := X.F
  have e := X.mt
  repeat walk_at "m go"
  refine X.full.told.method F.G.K (name := "discard") (f := 413) (by rfl) (by rfl) (fun _ _ _ => by rfl) ?_
  repeat walk_at "m go"
  refine ldCell X.cell ?_
  repeat walk_at "m go"
  refine ⟨F.G.K, x_discardF (n := n) (r.mono (by omega)) F.G X.full fun s1 kvs1 Y1 f1 => ?_⟩
  have X1 := X.told Y1 f1
  clear F e
  have F := X1.F
  have e := X1.mp
  repeat walk_at "m go"
  refine ldCell X1.cell ?_
  repeat walk_at "m go"
  refine ⟨F.G.K, law_take_call (n := n) (r.mono (by omega)) F.G X1.plain hlen fun s2 D ps2 Y2 fD P2 h2 => ?_⟩
  have X2 := X1.ex0 Y2
  clear F e
  repeat walk_at "m go"
  refine X2.stP P2 (fun b hb => ?_) fun s3 X3 Y3 => ?_
  · rcases List.mem_cons.mp hb with rfl | hb
    · intro z
      exact X1.newN fD (by simp [z])
    · exact X1.nP b (.tail _ (h2 b hb))
  · repeat walk_at "m go"
    exact fin s3 _ _ _ _ _ _ X3 ok.cut
end
end Mine

namespace Mine
variable {w : World} {mg mb : Str → Option Value}
variable {s : Shared} {Q : Value → Shared → Prop} {E : Value → Shared → Prop} {A : Around} {n : Nat}

local macro_rules | `(tactic| walk_at "m go") => `(tactic| first
  | with_reducible refine wpAny_execs_cons ?_
  | with_reducible refine wpAny_Return_some ?_
  | with_reducible refine wpAny_Call_NameR ?_
  | with_reducible refine wpAny_items_cons ?_ (by with_unfolding_all rfl)
  | with_reducible refine wpAny_items_nil ?_
  | with_reducible refine Attribute_name ?_
  | with_reducible refine wpAny_Compare1 ?_ (by with_unfolding_all rfl)
  | with_reducible refine wpAny_isTrue_Compare1 ?_ (by with_unfolding_all rfl)
  | with_reducible refine wpAny_isTrue_Not ?_
  | with_reducible refine wpAny_isTrue_BoolOp ?_
  | with_reducible refine wpAny_allTrue_And_cons ?_
  | with_reducible refine wpAny_allTrue_And_nil ?_
  | with_reducible refine wpAny_allTrue_Or_cons ?_
  | with_reducible refine wpAny_allTrue_Or_nil ?_
  | with_reducible refine wpAny_If ?_
  | ((with_reducible show wpAny _ _ (exec (.Expr _ _) _) _ _ _); refine wpAny_Expr_any ?_)
  | ((with_reducible show wpAny _ _ (eval (.Call (.Attribute _ _ _) _ [] _) _) _ _ _); refine MethodCall_ ?_ (by rfl))
  | with_reducible refine wpAny_truthy_bool ?_
  | with_reducible refine wpAny_execs_nil ?_
  | ((with_reducible show wpAny _ _ (PySem.isTrue (.Call _ _ _ _) _ _) _ _ _); refine wpAny_isTrue_value ?_ (by rfl))
  | ((with_reducible show wpAny _ _ (PySem.isTrue (.Name _ _) _ _) _ _ _); refine wpAny_isTrue_value ?_ (by rfl))
  | with_reducible refine wpAny_Assign_Name ?_ (by with_unfolding_all rfl)
  | with_reducible refine wpAny_Constant_int ?_
  | with_reducible refine wpAny_Constant_str ?_
  | with_reducible refine wpAny_Constant_bool ?_
  | with_reducible refine wpAny_Constant_none ?_
  | ((with_reducible show wpAny _ _ (eval (.Name _ _) _) _ _ _); first
    | refine Fm.ldL ‹Fm _ _ _ _ _ _ _ _› (by rfl) ?_
    | refine Fm.ldL ‹Fm _ _ _ _ _ _ _ _› (by assumption) ?_
    | refine Fm.ldG ‹Fm _ _ _ _ _ _ _ _› (by rfl) ?_
    | (refine Fm.ldB (v := .builtin _) ‹Fm _ _ _ _ _ _ _ _› (by rfl) (by rfl) ?_; try dsimp only)
    | (refine Fm.ldB (v := .type _) ‹Fm _ _ _ _ _ _ _ _› (by rfl) (by rfl) ?_; try dsimp only))
  | ((with_reducible show wpAny _ _ (callWith _ (.builtin _) _ _ _) _ _ _); refine PyProof.Rows.callWith_builtin1 ?_ (by with_unfolding_all rfl) (by with_unfolding_all rfl))
  | ((with_reducible show wpAny _ _ (callWith _ (.type _) _ _ _) _ _ _); refine Mine.callWith_ty ?_ (by with_unfolding_all rfl) (by with_unfolding_all rfl))
  | ((with_reducible show wpAny _ _ (callWith _ (.ref _) _ (backTo _ (starEach [] _)) _) _ _ _); refine callWith_K0 (Fm.G ‹Fm _ _ _ _ _ _ _ _›).K (by rfl) ?_)
  | with_reducible refine wpAny_BinOp (op := .Mod) ?_
  | with_reducible refine wpAny_BinOp (op := .FloorDiv) ?_
  | ((with_reducible show wpAny _ _ (callWith _ (.ref _) _ _ _) _ _ _); refine callWith_K (Fm.G ‹Fm _ _ _ _ _ _ _ _›).K (by rfl) ?_))

section
variable {cd : Value} {fa L c T dd d pl rl : Addr} {s0 sT s' : Shared} {P : List Addr} {m : Str → Option Value} {data pd : Data} {kvs : List (Str × Value)} {ps : List Addr} {k : Str} {tk : Tok} {cv : Option Value} {row : Row} {wh : Int} {i : Nat}
theorem fmod_bd (a : Int) {b : Int} (h : 0 < b) : 0 ≤ a.fmod b ∧ a.fmod b < b := by
  rw [Int.fmod_eq_emod_of_nonneg _ (by omega)]
  exact ⟨Int.emod_nonneg _ (by omega), Int.emod_lt_of_pos _ h⟩
theorem idS_ne (wh : Int) : idS ((wh + 1).fmod 3) ≠ idS (wh.fmod 3) := by
  rw [Int.fmod_eq_emod_of_nonneg _ (by omega), Int.fmod_eq_emod_of_nonneg _ (by omega)]
  have h : (wh % 3 = 0 ∧ (wh + 1) % 3 = 1) ∨ (wh % 3 = 1 ∧ (wh + 1) % 3 = 2) ∨ (wh % 3 = 2 ∧ (wh + 1) % 3 = 0) := by omega
  rcases h with ⟨h1, h2⟩ | ⟨h1, h2⟩ | ⟨h1, h2⟩ <;> rw [h1, h2] <;> decide
/-- _law_ids()[(which + 1) % 3] -/
theorem next_ev {p1 p2 p3 p4 p5 p6 p7 p8 : Pos} {k1 k2 : Nat} (r : Rm (n + 2) A) (X : Lp w mg mb s0 sT L (L + 1) T dd d P m cv data kvs pl pd ps s) (R : Rw s P pl m rl row wh)
    (h : ∀ tk s', Ex [] s s' → Q (.str (idS ((wh + 1).fmod 3)) tk) s') :
    wpAny (model pw w) A (eval (.Subscript (.Call (.Name "_law_ids" p1) [] [] p2) (.BinOp (.BinOp (.Name "which" p3) .Add (.Constant (.int 1) k1 p4) p5) .Mod (.Constant (.int 3) k2 p6) p7) p8) (LE cd fa L)) Q E s := by
  refine ids_ev r X.F fun s1 Y1 => ?_
  obtain ⟨tw, ew⟩ := R.mw
  have F := (X.ex0 Y1).F
  repeat walk_at "m go"
  refine wpAny_BinOp ?_
  repeat walk_at "m go"
  refine PyProof.Rows.add_int ?_
  repeat walk_at "m go"
  refine PyProof.Rows.mod_int (by decide) ?_
  have bd := fmod_bd (wh + 1) (b := 3) (by decide)
  exact ⟨Ex.tok _, _, _, rfl, bd.1, bd.2, fun tk => h tk _ (Y1.then0 (Ex.tok _))⟩
theorem deed5 {Q : Flow → Shared → Prop} (r : Rm (n + 40) A) (hA : A.frames = some [LE cd fa L]) (X : Lp w mg mb s0 sT L (L + 1) T dd d P m (some (.str k tk)) data kvs pl data ps s) (R : Rw s P pl m rl row wh) (hrow : row ∈ lawRows) (hk : k = idS (wh.fmod 3)) (ok : DataOk i data) (hi : i ≤ 20)
    (fin : ∀ s' m' cv' data' kvs' pl' ps', Lp w mg mb s0 sT L (L + 1) T dd d P m' cv' data' kvs' pl' data' ps' s' → DataOk (i + 1) data' → Q .next s') :
    wpAny (model pw w) A (execs (ifBody (deedIf 5)) (LE cd fa L)) Q E s := by
  obtain ⟨rv, rz, rt, rn⟩ := rowFacts hrow
  refine wpAny_execs_cons ?_
  refine wpAny_Assign_Name ?_ (by with_unfolding_all rfl)
  refine next_ev (n := n) (r.mono (by omega)) X R fun to s1 Y1 => ?_
  have hne : idS ((wh + 1).fmod 3) ≠ k := by rw [hk]; exact idS_ne wh
  generalize idS ((wh + 1).fmod 3) = o at hne
  have hv : (((1001, k) :: (1001, o) :: row).all fun p => valid.contains p.1) = true := by rw [List.all_cons, List.all_cons, rv]; rfl
  have hz : ((1001, k) :: (1001, o) :: row).length ≤ 7 := by simp; omega
  have hn := X.full.nodup
  have hlen : data.length ≤ 50 := by have := ok.1; omega
  have hm : marked k ((1001, o) :: row) = (1001, k) :: (1001, o) :: row := marked_new fun p hp => by
    rcases List.mem_cons.mp hp with rfl | hp
    · exact .inr hne
    · exact .inl (rn p hp)
  refine (X.ex0 Y1).stR (x := "other") (R.ex0 Y1) (by decide) (by decide) (by decide) (by decide) fun s2 X2 R2 Y2 => ?_
  have F := X2.F
  have e := X2.mt
  have er := R2.mr
  repeat walk_at "m go"
  refine X2.full.told.method F.G.K (name := "add") (f := 399) (by rfl) (by rfl) (fun _ _ _ => by rfl) ?_
  repeat walk_at "m go"
  refine ldCell X2.cell ?_
  clear e
  refine wpAny_items_cons ?_ (by with_unfolding_all rfl)
  refine cons_ev (mg := mg) (mb := mb) ?_
  repeat walk_at "m go"
  refine ⟨o, to, rfl, X2.tok.F.G, fun s3 Y3 => ?_⟩
  have Y23 : Ex [] s2 s3 := (Ex.tok (s2.toks + 1)).of0 Y3
  clear F
  have X3 := X2.ex0 Y23
  have R3 := R2.ex0 Y23
  have F := X3.F
  repeat walk_at "m go"
  refine ⟨rl, row, rfl, Ex.refl _, R3.hr, by omega, fun D s4 Y4 fD rD => ?_⟩
  have X4 := X3.ex0 Y4
  have R4 := R3.ex0 Y4
  have hiD := F.G.hi fD
  clear F er
  have F := X4.F
  repeat walk_at "m go"
  obtain ⟨xs, lx, ax⟩ := rD.it
  refine ⟨F.G.K, x_put (n := n) (r.mono (by omega)) hA X4.fun F.G X4.full X4.N hlen lx hiD ax (by simp; omega) (fun _ s5 kvs5 Y5 f5 => ?_) (fun hc => ?_) fun hc => ?_⟩
  · rw [hm] at f5
    have X5 := X4.told Y5 f5
    have R5 := R4.exW Y5 (by simpa using R4.nd X4)
    clear F
    have F := X5.F
    have e := X5.mp
    repeat walk_at "m go"
    refine ldCell X5.cell ?_
    refine wpAny_items_cons ?_ (by with_unfolding_all rfl)
    refine cons2_ev (mg := mg) (mb := mb) ?_
    refine ldCell (s := { s5 with toks := s5.toks + 1 }) X5.cell ?_
    refine ⟨k, tk, rfl, X5.tok.F.G, fun s6 Y6 => ?_⟩
    have Y56 : Ex [] s5 s6 := (Ex.tok (s5.toks + 1)).of0 Y6
    clear F e
    have X6 := X5.ex0 Y56
    have R6 := R5.ex0 Y56
    have F := X6.F
    repeat walk_at "m go"
    refine ⟨o, to, rfl, Ex.refl _, fun s7 Y7 => ?_⟩
    clear F
    have X7 := X6.ex0 Y7
    have R7 := R6.ex0 Y7
    have F := X7.F
    have er := R7.mr
    repeat walk_at "m go"
    refine ⟨rl, row, rfl, Ex.refl _, R7.hr, by omega, fun D2 s8 Y8 fD2 rD2 => ?_⟩
    have X8 := X7.ex0 Y8
    have hiD2 := F.G.hi fD2
    clear F er
    have F := X8.F
    repeat walk_at "m go"
    refine ⟨F.G.K, law_put_call (n := n) (r.mono (by omega)) F.G X8.plain hn rD2 hiD2 (by simp; omega) hlen (fun z => X7.newl fD2 (by simp [z])) fun s9 ps9 Y9 P9 h9 => ?_⟩
    have X9 := X8.put Y9 P9 h9
    clear F
    repeat walk_at "m go"
    refine X9.stP P9 X9.nP fun s10 X10 Y10 => ?_
    repeat walk_at "m go"
    exact fin s10 _ _ _ _ _ _ X10 (ok.put rfl hv hz)
  · rw [hm, hv] at hc; cases hc
  · rw [hm, hv] at hc; cases hc
end
end Mine

namespace Mine
variable {w : World} {mg mb : Str → Option Value}
variable {s : Shared} {Q : Value → Shared → Prop} {E : Value → Shared → Prop} {A : Around} {n : Nat}

local macro_rules | `(tactic| walk_at "m go") => `(tactic| first
  | with_reducible refine wpAny_execs_cons ?_
  | with_reducible refine wpAny_Return_some ?_
  | with_reducible refine wpAny_Call_NameR ?_
  | with_reducible refine wpAny_items_cons ?_ (by with_unfolding_all rfl)
  | with_reducible refine wpAny_items_nil ?_
  | with_reducible refine Attribute_name ?_
  | with_reducible refine wpAny_Compare1 ?_ (by with_unfolding_all rfl)
  | with_reducible refine wpAny_isTrue_Compare1 ?_ (by with_unfolding_all rfl)
  | with_reducible refine wpAny_isTrue_Not ?_
  | with_reducible refine wpAny_isTrue_BoolOp ?_
  | with_reducible refine wpAny_allTrue_And_cons ?_
  | with_reducible refine wpAny_allTrue_And_nil ?_
  | with_reducible refine wpAny_allTrue_Or_cons ?_
  | with_reducible refine wpAny_allTrue_Or_nil ?_
  | with_reducible refine wpAny_If ?_
  | ((with_reducible show wpAny _ _ (exec (.Expr _ _) _) _ _ _); refine wpAny_Expr_any ?_)
  | ((with_reducible show wpAny _ _ (eval (.Call (.Attribute _ _ _) _ [] _) _) _ _ _); refine MethodCall_ ?_ (by rfl))
  | with_reducible refine wpAny_truthy_bool ?_
  | with_reducible refine wpAny_execs_nil ?_
  | ((with_reducible show wpAny _ _ (PySem.isTrue (.Call _ _ _ _) _ _) _ _ _); refine wpAny_isTrue_value ?_ (by rfl))
  | ((with_reducible show wpAny _ _ (PySem.isTrue (.Name _ _) _ _) _ _ _); refine wpAny_isTrue_value ?_ (by rfl))
  | with_reducible refine wpAny_Assign_Name ?_ (by with_unfolding_all rfl)
  | with_reducible refine wpAny_Constant_int ?_
  | with_reducible refine wpAny_Constant_str ?_
  | with_reducible refine wpAny_Constant_bool ?_
  | with_reducible refine wpAny_Constant_none ?_
  | ((with_reducible show wpAny _ _ (eval (.Name _ _) _) _ _ _); first
    | refine Fm.ldL ‹Fm _ _ _ _ _ _ _ _› (by rfl) ?_
    | refine Fm.ldL ‹Fm _ _ _ _ _ _ _ _› (by assumption) ?_
    | refine Fm.ldG ‹Fm _ _ _ _ _ _ _ _› (by rfl) ?_
    | (refine Fm.ldB (v := .builtin _) ‹Fm _ _ _ _ _ _ _ _› (by rfl) (by rfl) ?_; try dsimp only)
    | (refine Fm.ldB (v := .type _) ‹Fm _ _ _ _ _ _ _ _› (by rfl) (by rfl) ?_; try dsimp only))
  | ((with_reducible show wpAny _ _ (callWith _ (.builtin _) _ _ _) _ _ _); refine PyProof.Rows.callWith_builtin1 ?_ (by with_unfolding_all rfl) (by with_unfolding_all rfl))
  | ((with_reducible show wpAny _ _ (callWith _ (.type _) _ _ _) _ _ _); refine Mine.callWith_ty ?_ (by with_unfolding_all rfl) (by with_unfolding_all rfl))
  | ((with_reducible show wpAny _ _ (callWith _ (.ref _) _ (backTo _ (starEach [] _)) _) _ _ _); refine callWith_K0 (Fm.G ‹Fm _ _ _ _ _ _ _ _›).K (by rfl) ?_)
  | with_reducible refine wpAny_BinOp (op := .Mod) ?_
  | with_reducible refine wpAny_BinOp (op := .FloorDiv) ?_
  | ((with_reducible show wpAny _ _ (callWith _ (.ref _) _ _ _) _ _ _); refine callWith_K (Fm.G ‹Fm _ _ _ _ _ _ _ _›).K (by rfl) ?_))

theorem list_insert {l : Addr} {xs : List Value} {j : Int} {t : Tok} {v : Value} (hl : s.heap.PlainList l xs.toArray) (hi : Hi l) (h0 : 0 ≤ j) (h1 : j ≤ xs.length) (hz : xs.length ≤ 1000)
    (h : ∀ s', Ex [l] s s' → s'.heap.PlainList l (xs.take j.toNat ++ v :: xs.drop j.toNat).toArray → Q .none s') : wpAny (model pw w) A (call (.builtin "list.insert") [.ref l, .int j t, v]) Q E s := by
  obtain ⟨n, e⟩ := hl
  refine call_meets PySem.F.slot_list_insert ⟨_, e, rfl⟩ PySem.F.entry_list_insert (PySem.F.args_list_insert_3 _ _ _) (AutoSeq1.list_insert_list_int_val_1 l xs.toArray n j t v (by simp [fitsIndex_of h0 (by omega)]) (by rw [sizeLine_eq]; simp; omega)) ⟨e, ?_⟩
  generalize hf : (fun xs : Array Value => have k := if j < 0 then (j + (xs.size : Int)).toNat else min j.toNat xs.size; (xs.extract 0 k).push v ++ xs.extract k) = f
  have ef : f xs.toArray = (xs.take j.toNat ++ v :: xs.drop j.toNat).toArray := by
    subst hf
    have hk : (if j < 0 then (j + (xs.toArray.size : Int)).toNat else min j.toNat xs.toArray.size) = j.toNat := by
      rw [if_neg (by omega)]; simp; omega
    show (xs.toArray.extract 0 (if j < 0 then (j + (xs.toArray.size : Int)).toNat else min j.toNat xs.toArray.size)).push v ++ xs.toArray.extract (if j < 0 then (j + (xs.toArray.size : Int)).toNat else min j.toNat xs.toArray.size) = _
    rw [hk]
    simp
    exact List.take_of_length_le (by simp)
  have eu := Heap.get?_update_self (Obj.mapSeq f) e rfl
  have Y : Ex [l] s { s with heap := s.heap.update l (Obj.mapSeq f), toks := s.toks } := Ex.turn e (by rintro (⟨h, _⟩ | ⟨h, _⟩) <;> simp at h) hi (Heap.SameBut.update ..) ⟨_, eu⟩
  exact h _ Y ⟨_, by rw [← ef]; simpa [Obj.mapSeq] using eu⟩
theorem sub_valG {pos q : Pos} {kc : Nat} {value : Expr} {env : Env} (h : wpAny (model pw w) A (eval value env) (fun o s1 => ∃ p, TupV s1.heap p o ∧ ∀ tc s2, Ex [] s1 s2 → s2.heap = s1.heap → Q (.str p.2 tc) s2) E s) :
    wpAny (model pw w) A (eval (.Subscript value (.Constant (.int 1) kc q) pos) env) Q E s := by
  refine sub_gen (wpAny_mono h (fun o s1 h1 => ?_) fun _ _ z => z) (fun _ _ => rfl)
  obtain ⟨p, t, hq⟩ := h1
  obtain ⟨x, tc, tv, rfl, it⟩ := t.isTup
  exact wpAny_Constant_int ⟨"tuple", _, slot_tuple_getitem.lookup, it.typeIs, getItem_tuple (s := { s1 with toks := s1.toks + 1 }) it (by omega) (by omega) (j := 1) (by rfl) (by rfl) (hq tv _ (Ex.tok _) rfl)⟩
theorem truthy_lst {l : Addr} {xs : List Value} {Q : Bool → Shared → Prop} (hl : s.heap.PlainList l xs.toArray) (hz : xs.length ≤ 1000) (h : ∀ s', Ex [] s s' → Q (!xs.isEmpty) s') : wpAny (model pw w) A (truthy (.ref l)) Q E s :=
  wpAny_truthy_list hl.isList (by simp; omega) (by have := h _ (Ex.tok (s.toks + 1 + 1)); simpa using this)
section
variable {cd : Value} {fa L c T dd d pl rl : Addr} {s0 sT s' : Shared} {P : List Addr} {m : Str → Option Value} {data pd : Data} {kvs : List (Str × Value)} {ps : List Addr} {k : Str} {tk : Tok} {cv : Option Value} {row : Row} {wh : Int} {i : Nat}
theorem deed1 {Q : Flow → Shared → Prop} (r : Rm (n + 40) A) (X : Lp w mg mb s0 sT L (L + 1) T dd d P m (some (.str k tk)) data kvs pl data ps s) (R : Rw s P pl m rl row wh) (hrow : row ∈ lawRows) (ok : DataOk i data) (hi : i ≤ 20)
    (fin : ∀ s' m' cv' data' kvs' pl' ps', Lp w mg mb s0 sT L (L + 1) T dd d P m' cv' data' kvs' pl' data' ps' s' → DataOk (i + 1) data' → Q .next s') :
    wpAny (model pw w) A (execs (ifBody (deedIf 1)) (LE cd fa L)) Q E s := by
  obtain ⟨rv, rz, rt, rn⟩ := rowFacts hrow
  have hn := X.full.nodup
  have hlen : data.length ≤ 50 := by have := ok.1; omega
  refine wpAny_execs_cons ?_
  have F := X.F
  have e := X.mt
  repeat walk_at "m go"
  refine X.full.told.method F.G.K (name := "_add") (f := 392) (by rfl) (by rfl) (fun _ _ _ => by rfl) ?_
  repeat walk_at "m go"
  refine (r.mono (by omega : 1 ≤ n + 40)).leaf (tags_nil0 F.G.K fun T1 dT1 n1 s1 Y1 fT fdT e1 e2 => ?_)
  have hiT := F.G.hi fT
  have X1 := X.ex0 Y1
  have R1 := R.ex0 Y1
  clear F e
  have F := X1.F
  repeat walk_at "m go"
  refine ⟨F.G.K, x_addF (n := n) (row := []) (r.mono (by omega)) F.G X1.full X1.N hlen ⟨[], ⟨n1, e1⟩, .nil, e2⟩ hiT (by simp) (by rfl) fun s2 kvs2 Y2 f2 => ?_⟩
  have X2 := X1.told Y2 f2
  have R2 := R1.exW Y2 (by simpa using R1.nd X1)
  clear F
  have F := X2.F
  have er := R2.mr
  refine wpAny_execs_cons ?_
  repeat walk_at "m go"
  obtain ⟨xs, px, ax⟩ := R2.hr
  refine truthy_lst px (by rw [← ax.len]; omega) fun s3 Y3 => ?_
  have X3 := X2.ex0 Y3
  have R3 := R2.ex0 Y3
  clear F er
  cases ax with
  | nil =>
    rw [if_neg (by simp)]
    repeat walk_at "m go"
    exact fin s3 _ _ _ _ _ _ X3 ok.keep
  | @cons p v row xs tv ax =>
    rw [if_pos (by rfl)]
    have F := X3.F
    have e := X3.mt
    have er := R3.mr
    repeat walk_at "m go"
    refine X3.full.told.method F.G.K (name := "_add") (f := 392) (by rfl) (by rfl) (fun _ _ _ => by rfl) ?_
    repeat walk_at "m go"
    refine ⟨F.G.K, law_tags_call (n := n) (r.mono (by omega)) F.G R3.hr R3.hi (by omega) fun T2 dT2 s4 Y4 fT2 fdT2 tg => ?_⟩
    have hiT2 := F.G.hi fT2
    have X4 := X3.ex0 Y4
    have R4 := R3.ex0 Y4
    clear F e er
    have F := X4.F
    repeat walk_at "m go"
    refine ⟨F.G.K, x_addF (n := n) (r.mono (by omega)) F.G X4.full X4.N hlen tg hiT2 (by omega) rv fun s5 kvs5 Y5 f5 => ?_⟩
    have X5 := X4.told Y5 f5
    have R5 := R4.exW Y5 (by simpa using R4.nd X4)
    clear F
    have F := X5.F
    have e := X5.mp
    have er := R5.mr
    refine wpAny_execs_cons ?_
    repeat walk_at "m go"
    obtain ⟨ys, py, ay⟩ := R5.hr
    cases ay with
    | @cons _ u _ ys tu ay =>
    refine sub_valG ?_
    refine sub_lst ?_
    repeat walk_at "m go"
    refine ⟨rl, _, u, rfl, py, by omega, by omega, by simp, p, tu, fun tv' s6 Y6 e6 => ?_⟩
    have Y56 : Ex [] s5 s6 := (Ex.tok _).of0 Y6
    have X6 := X5.ex0 Y56
    have R6 := R5.ex0 Y56
    clear F e
    have F := X6.F
    repeat walk_at "m go"
    refine ⟨F.G.K, law_put_call (n := n) (r.mono (by omega)) F.G X6.plain hn R6.hr R6.hi (by omega) hlen R6.npl fun s7 ps7 Y7 P7 h7 => ?_⟩
    have X7 := X6.put Y7 P7 h7
    clear F er
    repeat walk_at "m go"
    refine X7.stP P7 X7.nP fun s8 X8 Y8 => ?_
    repeat walk_at "m go"
    exact fin s8 _ _ _ _ _ _ X8 (ok.put rfl rv (by omega))
end
end Mine

namespace Mine
variable {w : World} {mg mb : Str → Option Value}
variable {s : Shared} {Q : Value → Shared → Prop} {E : Value → Shared → Prop} {A : Around} {n : Nat}

local macro_rules | `(tactic| walk_at "m go") => `(tactic| first
  | with_reducible refine wpAny_execs_cons ?_
  | with_reducible refine wpAny_Return_some ?_
  | with_reducible refine wpAny_Call_NameR ?_
  | with_reducible refine wpAny_items_cons ?_ (by with_unfolding_all rfl)
  | with_reducible refine wpAny_items_nil ?_
  | with_reducible refine Attribute_name ?_
  | with_reducible refine wpAny_Compare1 ?_ (by with_unfolding_all rfl)
  | with_reducible refine wpAny_isTrue_Compare1 ?_ (by with_unfolding_all rfl)
  | with_reducible refine wpAny_isTrue_Not ?_
  | with_reducible refine wpAny_isTrue_BoolOp ?_
  | with_reducible refine wpAny_allTrue_And_cons ?_
  | with_reducible refine wpAny_allTrue_And_nil ?_
  | with_reducible refine wpAny_allTrue_Or_cons ?_
  | with_reducible refine wpAny_allTrue_Or_nil ?_
  | with_reducible refine wpAny_If ?_
  | ((with_reducible show wpAny _ _ (exec (.Expr _ _) _) _ _ _); refine wpAny_Expr_any ?_)
  | ((with_reducible show wpAny _ _ (eval (.Call (.Attribute _ _ _) _ [] _) _) _ _ _); refine MethodCall_ ?_ (by rfl))
  | with_reducible refine wpAny_truthy_bool ?_
  | with_reducible refine wpAny_execs_nil ?_
  | ((with_reducible show wpAny _ _ (PySem.isTrue (.Call _ _ _ _) _ _) _ _ _); refine wpAny_isTrue_value ?_ (by rfl))
  | ((with_reducible show wpAny _ _ (PySem.isTrue (.Name _ _) _ _) _ _ _); refine wpAny_isTrue_value ?_ (by rfl))
  | with_reducible refine wpAny_Assign_Name ?_ (by with_unfolding_all rfl)
  | with_reducible refine wpAny_Constant_int ?_
  | with_reducible refine wpAny_Constant_str ?_
  | with_reducible refine wpAny_Constant_bool ?_
  | with_reducible refine wpAny_Constant_none ?_
  | ((with_reducible show wpAny _ _ (eval (.Name _ _) _) _ _ _); first
    | refine Fm.ldL ‹Fm _ _ _ _ _ _ _ _› (by rfl) ?_
    | refine Fm.ldL ‹Fm _ _ _ _ _ _ _ _› (by assumption) ?_
    | refine Fm.ldG ‹Fm _ _ _ _ _ _ _ _› (by rfl) ?_
    | (refine Fm.ldB (v := .builtin _) ‹Fm _ _ _ _ _ _ _ _› (by rfl) (by rfl) ?_; try dsimp only)
    | (refine Fm.ldB (v := .type _) ‹Fm _ _ _ _ _ _ _ _› (by rfl) (by rfl) ?_; try dsimp only))
  | ((with_reducible show wpAny _ _ (callWith _ (.builtin _) _ _ _) _ _ _); refine PyProof.Rows.callWith_builtin1 ?_ (by with_unfolding_all rfl) (by with_unfolding_all rfl))
  | ((with_reducible show wpAny _ _ (callWith _ (.type _) _ _ _) _ _ _); refine Mine.callWith_ty ?_ (by with_unfolding_all rfl) (by with_unfolding_all rfl))
  | ((with_reducible show wpAny _ _ (callWith _ (.ref _) _ (backTo _ (starEach [] _)) _) _ _ _); refine callWith_K0 (Fm.G ‹Fm _ _ _ _ _ _ _ _›).K (by rfl) ?_)
  | with_reducible refine wpAny_BinOp (op := .Mod) ?_
  | with_reducible refine wpAny_BinOp (op := .FloorDiv) ?_
  | ((with_reducible show wpAny _ _ (callWith _ (.ref _) _ _ _) _ _ _); refine callWith_K (Fm.G ‹Fm _ _ _ _ _ _ _ _›).K (by rfl) ?_))

theorem Kept.exL {s s' : Shared} {env : Env} {L : Addr} (K : Kept [env] s s') (hf : env.frame = some L) (hL : Hi L) : Ex [L] s s' := by
  obtain ⟨⟨W, Y, hW⟩, _⟩ := K
  have Y' : Ex ([L] ++ W.filter fun b => !(b == L)) s s' := Y.weaken (fun b hb => by
    by_cases q : b = L
    · exact List.mem_append.mpr (.inl (by simp [q]))
    · exact List.mem_append.mpr (.inr (List.mem_filter.mpr ⟨hb, by simpa using q⟩))) (fun b hb => by
    rcases List.mem_append.mp hb with hb | hb
    · rw [List.mem_singleton.mp hb]; exact hL
    · exact Y.wlo b (List.mem_filter.mp hb).1)
  refine Y'.fresh fun b hb => ?_
  obtain ⟨h1, h2⟩ := List.mem_filter.mp hb
  rcases hW b h1 with h | h
  · exact h
  · obtain ⟨e', he', hf'⟩ := List.mem_filterMap.mp h
    rw [List.mem_singleton.mp he', hf] at hf'
    cases hf'
    simp at h2
theorem All2.ins {α β : Type} {R : α → β → Prop} {a : α} {b : β} (h : R a b) : ∀ (j : Nat) {l : List α} {m : List β}, All2 R l m → All2 R (l.take j ++ a :: l.drop j) (m.take j ++ b :: m.drop j)
  | 0, _, _, x => by simpa using .cons h x
  | j + 1, _, _, .nil => by simpa using .cons h .nil
  | j + 1, _, _, .cons r x => .cons r (All2.ins h j x)
theorem wrongFacts {j : Int} (h0 : 0 ≤ j) (h1 : j < 9) : valid.contains (wrongS j).1 = false ∧ wrongS j ∈ tagList ∧ (wrongS j).1 ≠ 1001 := by
  have key : ∀ p ∈ wrongs, valid.contains p.1 = false ∧ p ∈ tagList ∧ p.1 ≠ 1001 := by decide +kernel
  refine key _ ?_
  have hj : j.toNat < wrongs.length := show j.toNat < 9 by omega
  unfold wrongS
  rw [List.getD_eq_getElem?_getD, List.getElem?_eq_getElem hj]
  exact List.getElem_mem _
section
variable {cd : Value} {fa L c T dd d pl rl : Addr} {s0 sT sB s' : Shared} {P : List Addr} {m : Str → Option Value} {data pd : Data} {kvs : List (Str × Value)} {ps : List Addr} {k : Str} {tk : Tok} {cv : Option Value} {row : Row} {wh : Int} {i : Nat}
theorem deed2 {Q : Flow → Shared → Prop} (r : Rm (n + 40) A) (hA : A.frames = some [LE cd fa L]) (X : Lp w mg mb s0 sT L (L + 1) T dd d P m (some (.str k tk)) data kvs pl data ps s) (R : Rw s P pl m rl row wh) (hrow : row ∈ lawRows) (hk : (1001, k) ∈ tagList) (ok : DataOk i data) (hi : i ≤ 20)
    (YB : Ex [L, L + 1] sB s) (PB : Plain sB.heap pl data ps) (frB : sB.heap.get? rl = none) (nlB : ∀ b ∈ [L, L + 1], ∀ xs, ¬ sB.heap.PlainList b xs)
    (fin : ∀ s' m' cv' data' kvs' pl' ps', Lp w mg mb s0 sT L (L + 1) T dd d P m' cv' data' kvs' pl' data' ps' s' → DataOk (i + 1) data' → Q .next s') :
    wpAny (model pw w) A (execs (ifBody (deedIf 2)) (LE cd fa L)) Q (fun _ _ => False) s := by
  obtain ⟨rv, rz, rt, rn⟩ := rowFacts hrow
  have hlen : data.length ≤ 50 := by have := ok.1; omega
  obtain ⟨tw, ew⟩ := R.mw
  obtain ⟨xs, px, ax⟩ := R.hr
  have hxl : xs.length ≤ 10 := by rw [← ax.len]; omega
  refine wpAny_execs_cons ?_
  have F := X.F
  have er := R.mr
  repeat walk_at "m go"
  refine getMethod_builtin (id := "list.insert") px.isList.typeIs PySem.F.plainAttrs_list PySem.F.slot_list_insert PySem.F.type_list_insert (fun a e => by cases e; obtain ⟨n, e⟩ := px; exact ⟨_, e, rfl⟩) ?_
  refine callWith_bi ?_ (by with_unfolding_all rfl) (by with_unfolding_all rfl)
  repeat walk_at "m go"
  refine wpAny_BinOp ?_
  repeat walk_at "m go"
  refine list_lenH px (by simp; omega) fun t1 s1 Y1 => ?_
  clear F
  have X1 := X.ex0 Y1
  have R1 := R.ex0 Y1
  have F := X1.F
  repeat walk_at "m go"
  refine PyProof.Rows.add_int ?_
  refine PyProof.Rows.mod_int (by first | omega | (simp; omega)) ?_
  have bd := fmod_bd wh (b := (xs.toArray.size : Int) + 1) (by omega)
  generalize wh.fmod ((xs.toArray.size : Int) + 1) = j at bd
  have hj : j ≤ xs.length := by have := bd.2; simp at this; omega
  have Y1' : Ex [] s1 { s1 with toks := s1.toks + 1 + 1 + 1 } := Ex.tok _
  clear F
  have X1' := X1.ex0 Y1'
  have R1' := R1.ex0 Y1'
  refine wpAny_items_cons ?_ (by with_unfolding_all rfl)
  refine wrong_ev (n := n) (r.mono (by omega)) X1'.F fun s2 Y2 => ?_
  have F := (X1'.ex0 Y2).F
  repeat walk_at "m go"
  refine PyProof.Rows.mod_int (by decide) ?_
  have bw := fmod_bd wh (b := 9) (by decide)
  generalize wh.fmod 9 = jw at bw
  have Y02 : Ex [] s { s2 with toks := s2.toks + 1 + 1 } := ((Y1.then0 Y1').then0 Y2).then0 (Ex.tok _)
  refine ⟨Ex.tok _, jw, _, rfl, bw.1, bw.2, fun v tv => ?_⟩
  generalize hs2 : ({ s2 with toks := s2.toks + 1 + 1 } : Shared) = s2' at Y02 tv ⊢
  obtain ⟨wv, wt, w1⟩ := wrongFacts bw.1 bw.2
  generalize wrongS jw = q at tv wv wt w1
  clear F
  have X2 := X.ex0 Y02
  have R2 := R.ex0 Y02
  have F := X2.F
  repeat walk_at "m go"
  have px2 := PlainList.ex Y02 px R.hi (by simp)
  refine list_insert px2 R.hi bd.1 hj (by omega) fun s3 Y3 px3 => ?_
  have YB3 : Ex [L, L + 1] sB s3 := ((YB.then0 Y02).trans Y3).fresh (by simpa using frB)
  have X3 := X2.wR Y3 R.nP px2 (PB.exQ YB3 nlB)
  have r3 : RowsAt s3.heap rl (row.take j.toNat ++ q :: row.drop j.toNat) := ⟨_, px3, All2.ins (tv.ex Y3) _ (ax.imp fun _ _ z => (z.ex Y02).ex Y3)⟩
  clear F er
  obtain ⟨row', hrow'⟩ : ∃ row', row' = row.take j.toNat ++ q :: row.drop j.toNat := ⟨_, rfl⟩
  rw [← hrow'] at r3
  have mem' : ∀ p ∈ row', p ∈ row ∨ p = q := by
    intro p hp
    rw [hrow'] at hp
    rcases List.mem_append.mp hp with hp | hp
    · exact .inl (List.mem_of_mem_take hp)
    · rcases List.mem_cons.mp hp with hp | hp
      · exact .inr hp
      · exact .inl (List.mem_of_mem_drop hp)
  have qm : q ∈ row' := by rw [hrow']; simp
  have hz' : row'.length ≤ 4 := by
    rw [hrow']
    simp
    omega
  have R3 : Rw s3 P pl m rl row' wh := ⟨R.mr, r3, R.hi, R.nP, R.npl, by omega, R.mw⟩
  have hv : (((1001, k) :: row').all fun p => valid.contains p.1) = false := by
    rw [List.all_eq_false]
    exact ⟨q, .tail _ qm, by simpa using wv⟩
  have hp : ∀ p ∈ (1001, k) :: row', p ∈ tagList := by
    intro p hp
    rcases List.mem_cons.mp hp with rfl | hp
    · exact hk
    · rcases mem' p hp with h | rfl
      · exact rt p h
      · exact wt
  have hm : marked k row' = (1001, k) :: row' := marked_new fun p hp => by
    rcases mem' p hp with h | rfl
    · exact .inl (rn p h)
    · exact .inl w1
  clear mem' qm hrow'
  refine wpAny_execs_cons ?_
  have F := X3.F
  have e := X3.mt
  repeat walk_at "m go"
  refine row_ev X3 R3 fun D s4 Y4 fD rD => ?_
  have X4 := X3.ex0 Y4
  have R4 := R3.ex0 Y4
  have hiD := F.G.hi fD
  clear F e
  have F := X4.F
  repeat walk_at "m go"
  refine ⟨F.G.K, law_tags_call (n := n) (r.mono (by omega)) F.G rD hiD (by simp; omega) fun T1 dT1 s5 Y5 fT fdT tg => ?_⟩
  have hiT := F.G.hi fT
  have hidT := F.G.hi fdT
  have nTL := F.neL fT
  have ndTL := F.neL fdT
  have X5 := X4.ex0 Y5
  have R5 := R4.ex0 Y5
  clear F
  have F := X5.F
  repeat walk_at "m go"
  refine ⟨F.G.K, law_refused_call (n := n) (r.mono (by omega)) hA X5.fun F.G X5.full.told tg hiT hidT (by simp; omega) hv hp ⟨?_, ?_⟩ fun s6 K6 => ?_⟩
  · show T1 ∉ [L]
    simpa using nTL
  · show dT1 ∉ [L]
    simpa using ndTL
  have Y6 := K6.exL rfl F.hL
  have X6 := X5.kept K6 rfl
  have R6 := R5.exW Y6 (by simpa using R5.hr.ne fun xs => Ns.notList X5.F.N)
  clear F
  refine wpAny_truthy_bool ?_
  have F := X6.F
  have e := X6.mt
  have er := R6.mr
  repeat walk_at "m go"
  rw [if_neg (by simp)]
  repeat walk_at "m go"
  refine ldCell X6.cell ?_
  repeat walk_at "m go"
  obtain ⟨ys, ly, ay⟩ := R6.hr.it
  refine ⟨F.G.K, law_no_add_call (n := n) (r.mono (by omega)) hA X6.fun F.G X6.full X6.N hlen ly R6.hi ay (by omega) (by rw [hm]; exact hv) (by rw [hm]; exact hp) fun s7 K7 => ?_⟩
  have X7 := X6.kept K7 rfl
  clear F e er
  refine wpAny_truthy_bool ?_
  repeat walk_at "m go"
  rw [if_neg (by simp)]
  repeat walk_at "m go"
  rw [if_neg (by simp)]
  repeat walk_at "m go"
  exact fin s7 _ _ _ _ _ _ X7 ok.keep
end
end Mine

namespace Mine
variable {w : World} {mg mb : Str → Option Value}
variable {s : Shared} {Q : Value → Shared → Prop} {E : Value → Shared → Prop} {A : Around} {n : Nat}

local macro_rules | `(tactic| walk_at "m go") => `(tactic| first
  | with_reducible refine wpAny_execs_cons ?_
  | with_reducible refine wpAny_Return_some ?_
  | with_reducible refine wpAny_Call_NameR ?_
  | with_reducible refine wpAny_items_cons ?_ (by with_unfolding_all rfl)
  | with_reducible refine wpAny_items_nil ?_
  | with_reducible refine Attribute_name ?_
  | with_reducible refine wpAny_Compare1 ?_ (by with_unfolding_all rfl)
  | with_reducible refine wpAny_isTrue_Compare1 ?_ (by with_unfolding_all rfl)
  | with_reducible refine wpAny_isTrue_Not ?_
  | with_reducible refine wpAny_isTrue_BoolOp ?_
  | with_reducible refine wpAny_allTrue_And_cons ?_
  | with_reducible refine wpAny_allTrue_And_nil ?_
  | with_reducible refine wpAny_allTrue_Or_cons ?_
  | with_reducible refine wpAny_allTrue_Or_nil ?_
  | with_reducible refine wpAny_If ?_
  | ((with_reducible show wpAny _ _ (exec (.Expr _ _) _) _ _ _); refine wpAny_Expr_any ?_)
  | ((with_reducible show wpAny _ _ (eval (.Call (.Attribute _ _ _) _ [] _) _) _ _ _); refine MethodCall_ ?_ (by rfl))
  | with_reducible refine wpAny_truthy_bool ?_
  | with_reducible refine wpAny_execs_nil ?_
  | ((with_reducible show wpAny _ _ (PySem.isTrue (.Call _ _ _ _) _ _) _ _ _); refine wpAny_isTrue_value ?_ (by rfl))
  | ((with_reducible show wpAny _ _ (PySem.isTrue (.Name _ _) _ _) _ _ _); refine wpAny_isTrue_value ?_ (by rfl))
  | with_reducible refine wpAny_Assign_Name ?_ (by with_unfolding_all rfl)
  | with_reducible refine wpAny_Constant_int ?_
  | with_reducible refine wpAny_Constant_str ?_
  | with_reducible refine wpAny_Constant_bool ?_
  | with_reducible refine wpAny_Constant_none ?_
  | ((with_reducible show wpAny _ _ (eval (.Name _ _) _) _ _ _); first
    | refine Fm.ldL ‹Fm _ _ _ _ _ _ _ _› (by rfl) ?_
    | refine Fm.ldL ‹Fm _ _ _ _ _ _ _ _› (by assumption) ?_
    | refine Fm.ldG ‹Fm _ _ _ _ _ _ _ _› (by rfl) ?_
    | (refine Fm.ldB (v := .builtin _) ‹Fm _ _ _ _ _ _ _ _› (by rfl) (by rfl) ?_; try dsimp only)
    | (refine Fm.ldB (v := .type _) ‹Fm _ _ _ _ _ _ _ _› (by rfl) (by rfl) ?_; try dsimp only))
  | ((with_reducible show wpAny _ _ (callWith _ (.builtin _) _ _ _) _ _ _); refine PyProof.Rows.callWith_builtin1 ?_ (by with_unfolding_all rfl) (by with_unfolding_all rfl))
  | ((with_reducible show wpAny _ _ (callWith _ (.type _) _ _ _) _ _ _); refine Mine.callWith_ty ?_ (by with_unfolding_all rfl) (by with_unfolding_all rfl))
  | ((with_reducible show wpAny _ _ (callWith _ (.ref _) _ (backTo _ (starEach [] _)) _) _ _ _); refine callWith_K0 (Fm.G ‹Fm _ _ _ _ _ _ _ _›).K (by rfl) ?_)
  | with_reducible refine wpAny_BinOp (op := .Mod) ?_
  | with_reducible refine wpAny_BinOp (op := .FloorDiv) ?_
  | ((with_reducible show wpAny _ _ (callWith _ (.ref _) _ _ _) _ _ _); refine callWith_K (Fm.G ‹Fm _ _ _ _ _ _ _ _›).K (by rfl) ?_))

theorem parts_none {h : Heap} {k : Str} {data : Data} {ps : List Addr} (a : All2 (PartAt h) data ps) (hk : ∀ kr ∈ data, kr.1 ≠ k) : (ps.map Value.ref).filter (fun v => keyOf h v == some k) = [] := by
  induction a with
  | nil => rfl
  | @cons kr p data ps hh _ ih =>
    rw [List.map_cons, List.filter_cons, keyOf_of hh, if_neg (by simpa using hk kr (.head _))]
    exact ih fun x hx => hk x (.tail _ hx)
theorem parts_some {h : Heap} {k : Str} {data : Data} {ps : List Addr} (a : All2 (PartAt h) data ps) (hk : ∃ kr ∈ data, kr.1 = k) : ∃ p0 rest row0, (ps.map Value.ref).filter (fun v => keyOf h v == some k) = .ref p0 :: rest ∧ (k, row0) ∈ data ∧ PartAt h (k, row0) p0 := by
  induction a with
  | nil => obtain ⟨_, h, _⟩ := hk; cases h
  | @cons kr p data ps hh _ ih =>
    rw [List.map_cons, List.filter_cons, keyOf_of hh]
    by_cases q : kr.1 = k
    · rw [if_pos (by simp [q])]
      obtain ⟨k0, row0⟩ := kr
      dsimp only at q
      subst q
      exact ⟨p, _, row0, rfl, .head _, hh⟩
    · rw [if_neg (by simpa using q)]
      obtain ⟨x, hx, e⟩ := hk
      rcases List.mem_cons.mp hx with rfl | hx
      · exact absurd e q
      · obtain ⟨p0, rest, row0, h1, h2, h3⟩ := ih ⟨x, hx, e⟩
        exact ⟨p0, rest, row0, h1, .tail _ h2, h3⟩
theorem valueAt_none {kvs : List (Str × Value)} {k : Str} (h : ∀ kv ∈ kvs, kv.1 ≠ k) : valueAt kvs k = none := by
  unfold valueAt
  rw [Option.map_eq_none_iff, List.find?_eq_none]
  intro kv hkv
  simpa using h kv hkv
section
variable {cd : Value} {fa L c T dd d pl rl : Addr} {s0 sT sB s' : Shared} {P : List Addr} {m : Str → Option Value} {data pd : Data} {kvs : List (Str × Value)} {ps : List Addr} {k : Str} {tk : Tok} {cv : Option Value} {row : Row} {wh : Int} {i : Nat}
theorem deed6 {Q : Flow → Shared → Prop} (r : Rm (n + 40) A) (hA : A.frames = some [LE cd fa L]) (X : Lp w mg mb s0 sT L (L + 1) T dd d P m (some (.str k tk)) data kvs pl data ps s) (ok : DataOk i data) (hi : i ≤ 20)
    (fin : ∀ s' m' cv' data' kvs' pl' ps', Lp w mg mb s0 sT L (L + 1) T dd d P m' cv' data' kvs' pl' data' ps' s' → DataOk (i + 1) data' → Q .next s') :
    wpAny (model pw w) A (execs (ifBody (deedIf 6)) (LE cd fa L)) Q (fun _ _ => False) s := by
  have hn := X.full.nodup
  have hlen : data.length ≤ 50 := by have := ok.1; omega
  have hpl : ps.length ≤ 50 := by rw [← X.plain.parts.len]; exact hlen
  refine wpAny_execs_cons ?_
  have F := X.F
  have e := X.mp
  repeat walk_at "m go"
  refine wpAny_isTrue_value ?_ (by rfl)
  refine comp_seq (mg := mg) (mb := mb) r.hh (fun v => keyOf s.heap v == some k) (fun a y _ _ => y = a) (fun h _ => h) ?_
  repeat walk_at "m go"
  refine ⟨pl, ps.map Value.ref, rfl, .inl X.plain.lst, X.plain.hi, F.G, by rw [List.length_map]; omega, ?_, ?_⟩
  · intro a C m₃ s₃ ha F3 hm
    obtain ⟨p, hp, rfl⟩ := List.mem_map.mp ha
    have Pp := X.plain.parts
    obtain ⟨kr, _, hpart⟩ := Pp.mem hp
    have hko := keyOf_of hpart
    have hpart3 := hpart.exQ F3.X (by simp)
    obtain ⟨l0, t0, pp, _⟩ := hpart3
    have hc3 := IsCell.ex F3.X X.cell X.hic (by simp)
    clear F e
    refine wpAny_tests_one ?_
    repeat walk_at "m go"
    refine sub_lst ?_
    repeat walk_at "m go"
    refine ⟨p, _, .str kr.1 t0, rfl, pp, by omega, by omega, by simp, ?_⟩
    refine ldCell (s := { s₃ with toks := s₃.toks + 1 }) hc3 ?_
    refine PySem.P.eq_str ?_
    refine wpAny_truthy_bool ⟨?_, Ex.tok _, fun _ => ?_⟩
    · rw [hko, str_beq]
      by_cases q : kr.1 = k <;> simp [q]
    · repeat walk_at "m go"
      exact ⟨Ex.refl _, rfl⟩
  · intro D s1 ys X1 fD pD a3
    have hys : ys = (ps.map Value.ref).filter (fun v => keyOf s.heap v == some k) := by
      revert a3
      generalize (ps.map Value.ref).filter (fun v => keyOf s.heap v == some k) = l1
      intro a3
      clear pD
      induction a3 with
      | nil => rfl
      | cons hh _ ih => obtain ⟨_, _, e⟩ := hh; rw [e, ih]
    have hyl : ys.length ≤ 50 := by rw [hys]; exact Nat.le_trans (List.length_filter_le _ _) (by simpa using hpl)
    clear a3 F e
    refine truthy_lst pD (by omega) fun s2 Y2 => ?_
    have Y02 := X1.then0 Y2
    have X2 := X.ex0 Y02
    by_cases hk : ∃ kr ∈ data, kr.1 = k
    · obtain ⟨p0, rest, row0, ef, hm0, hp0⟩ := parts_some X.plain.parts hk
      rw [if_pos (by rw [hys, ef]; rfl)]
      have ok0 := ok.2 _ hm0
      obtain ⟨X0, dX0, hv, tg0, hX0, hdX0, _, nX0, ndX0, ndd0, _⟩ := X2.full.get hm0
      have F := X2.F
      have e := X2.mt
      repeat walk_at "m go"
      refine X2.full.told.method F.G.K (name := "get") (f := 406) (by rfl) (by rfl) (fun _ _ _ => by rfl) ?_
      repeat walk_at "m go"
      refine ldCell X2.cell ?_
      repeat walk_at "m go"
      refine ⟨F.G.K, x_get (n := n) (r.mono (by omega)) F.G X2.full.told hv fun s3 Y3 => ?_⟩
      have X3 := X2.ex0 Y3
      clear F e
      repeat walk_at "m go"
      refine X3.st (x := "tags") (by decide) (by decide) fun s4 X4 Y4 => ?_
      have Y24 : Ex [L] s2 s4 := Y3.of0 Y4
      have nX0L : X0 ≠ L := fun z => nX0 (by simp [z])
      have ndX0L : dX0 ≠ L := fun z => ndX0 (by simp [z])
      have tg4 := tg0.ex Y24 hX0 hdX0 (by simpa using nX0L) (by simpa using ndX0L)
      have F := X4.F
      repeat walk_at "m go"
      obtain ⟨us, ⟨n', e1⟩, au, e2⟩ := tg4
      refine tags_method F.G.K e1 e2 (by rfl) (by with_unfolding_all rfl) (by rfl) ?_
      refine callWith_bi ?_ (by with_unfolding_all rfl) (by with_unfolding_all rfl)
      repeat walk_at "m go"
      clear F
      have F := (X4.tok (t := s4.toks + 1 + 1)).F
      refine ⟨F.G.K, (r.mono (by omega : 1 ≤ n + 40)).leaf (dxf_new0 F.G.K fun x dx s5 Y5 g1 g2 g3 g4 => ?_)⟩
      have Y45 : Ex [] s4 s5 := (Ex.tok _).of0 Y5
      have hix := F.G.hi g1
      clear F
      have X5 := X4.ex0 Y45
      have F := X5.F
      repeat walk_at "m go"
      have e5 := Y45.get e1 hX0.tab (by simp) (by simp)
      have hul : us.length ≤ 100 := by have := au.len; have := ok0.1; dsimp only at this; omega
      refine tags_append F.G.K hX0 e5 (by simp; omega) fun s6 n6 Y6 e6 => ?_
      have nxX : x ≠ X0 := fun z => by rw [z, e1] at g1; cases g1
      have tvx : TagV s6.heap (1000, "more") (.ref x) := TagV.ex Y6 ⟨x, rfl, hix, dx, _, _, _, g3, g4⟩
      have f6 := X5.full.append (row := []) (k := k) (p := (1000, "more")) hv e5 Y6 e6 tvx (fun kr hkr => by have := (ok.2 kr hkr).1; omega)
      have X6 := X5.w1 Y6 nX0 (fun xs l => by obtain ⟨_, e⟩ := l; rw [e5] at e; cases e) f6
      clear F
      have F := X6.F
      have e := X6.mp
      repeat walk_at "m go"
      refine ldCell X6.cell ?_
      repeat walk_at "m go"
      refine wpAny_BinOp ?_
      refine sub_lst ?_
      refine comp_seq (mg := mg) (mb := mb) r.hh (fun v => keyOf s6.heap v == some k) (fun a y _ _ => ∃ p xs, a = .ref p ∧ s6.heap.PlainList p xs ∧ xs[1]? = some y) (fun h _ => h) ?_
      repeat walk_at "m go"
      refine ⟨pl, ps.map Value.ref, rfl, .inl X6.plain.lst, X6.plain.hi, F.G, by rw [List.length_map]; omega, ?_, ?_⟩
      · intro a C m₃ s₃ ha F3 hm
        obtain ⟨p, hp, rfl⟩ := List.mem_map.mp ha
        have Pp := X6.plain.parts
        obtain ⟨kr, _, hpart⟩ := Pp.mem hp
        have hko := keyOf_of hpart
        have hpart3 := hpart.exQ F3.X (by simp)
        obtain ⟨l1, t1, pp1, _⟩ := hpart
        obtain ⟨l0, t0, pp, _⟩ := hpart3
        have hpi : Hi p := by obtain ⟨kr, _, _, _, _, _, hh, _⟩ := Pp.mem hp; exact hh
        have hc3 := IsCell.ex F3.X X6.cell X6.hic (by simp)
        clear F e
        refine wpAny_tests_one ?_
        repeat walk_at "m go"
        refine sub_lst ?_
        repeat walk_at "m go"
        refine ⟨p, _, .str kr.1 t0, rfl, pp, by omega, by omega, by simp, ?_⟩
        refine ldCell (s := { s₃ with toks := s₃.toks + 1 }) hc3 ?_
        refine PySem.P.eq_str ?_
        refine wpAny_truthy_bool ⟨?_, Ex.tok _, fun _ => ?_⟩
        · rw [hko, str_beq]
          by_cases q : kr.1 = k <;> simp [q]
        · refine sub_lst ?_
          repeat walk_at "m go"
          have pp1' := PlainList.ex F3.X pp1 hpi (by simp)
          exact ⟨p, _, .ref l1, rfl, pp1', by omega, by omega, by simp, Ex.tok _, p, _, rfl, pp1, by simp⟩
      · intro D2 s7 ys2 X7' fD2 pD2 a4
        obtain ⟨p1, rest1, row1, ef1, hm1, hp1⟩ := parts_some X6.plain.parts hk
        rw [ef1] at a4
        cases a4 with
        | @cons _ y _ ys2 hy a4 =>
        obtain ⟨s₃, _, p, xs, ep, pxs, hx1⟩ := hy
        cases ep
        obtain ⟨l1, t1, pp1, r1, hip1, hil1, hz1⟩ := hp1
        obtain ⟨na, ea⟩ := pxs
        obtain ⟨nb, eb⟩ := pp1
        rw [ea] at eb
        simp at eb
        rw [eb.1] at hx1
        simp at hx1
        subst hx1
        have X7 := X6.ex0 X7'
        have ok1 := ok.2 _ hm1
        have z1 : (∃ p r, row1 = p :: r) := let ⟨p, r, h, _⟩ := ok1.2.2; ⟨p, r, h⟩
        refine ⟨D2, _, .ref l1, rfl, pD2, by omega, by omega, by simp, ?_⟩
        clear F e
        have X7t : Ex [] s7 { s7 with toks := s7.toks + 1 } := Ex.tok _
        have r7 := (r1.ex X7' hil1.tab (by simp)).ex X7t hil1.tab (by simp)
        have X8 := X7.ex0 X7t
        have F := X8.F
        refine lit1 (tup_ev (mg := mg) (mb := mb) ?_)
        repeat walk_at "m go"
        have Y9 : Ex [] { s7 with toks := s7.toks + 1 } { s7 with toks := s7.toks + 1 + 1 + 1 } := Ex.tok _
        refine ⟨"more", _, rfl, (X8.ex0 Y9).F.G, fun xt s8 Y8 txt => ?_⟩
        refine ⟨(1000, "more"), txt, fun D3 s9 Y9' fD3 rD3 => ?_⟩
        have Y79 : Ex [] { s7 with toks := s7.toks + 1 } s9 := (Y9.then0 Y8).then0 Y9'
        refine row_add (r7.ex Y79 hil1.tab (by simp)) rD3 (by simp at hz1 ⊢; omega) fun D4 s10 Y10 fD4 rD4 => ?_
        have X9 := X8.ex0 Y79
        have X10 := X9.ex0 Y10
        have hiD4 := X9.F.G.hi fD4
        clear F
        have F := X10.F
        repeat walk_at "m go"
        refine ⟨F.G.K, law_put_call (n := n) (r.mono (by omega)) F.G X10.plain hn rD4 hiD4 (by have := ok1.1; simp at this ⊢; omega) hlen (fun z => X9.newl fD4 (by simp [z])) fun s11 ps11 Y11 P11 h11 => ?_⟩
        have X11 := X10.put Y11 P11 h11
        clear F
        repeat walk_at "m go"
        refine X11.stP P11 X11.nP fun s12 X12 Y12 => ?_
        repeat walk_at "m go"
        rw [keyed_app hn hm1] at X12
        exact fin s12 _ _ _ _ _ _ X12 (ok.app (by rfl))
    · have hk' : ∀ kr ∈ data, kr.1 ≠ k := fun kr hkr z => hk ⟨kr, hkr, z⟩
      rw [if_neg (by rw [hys, parts_none X.plain.parts hk']; simp)]
      have F := X2.F
      have e := X2.mt
      refine wpAny_execs_cons ?_
      repeat walk_at "m go"
      refine ldCell X2.cell ?_
      repeat walk_at "m go"
      have hv : valueAt kvs k = none := by
        refine valueAt_none fun kv hkv z => ?_
        have : kv.1 ∈ data.map (·.1) := by rw [X.full.keys]; exact List.mem_map.mpr ⟨kv, hkv, rfl⟩
        obtain ⟨kr, hkr, e⟩ := List.mem_map.mp this
        exact hk' kr hkr (e.trans z)
      refine ⟨F.G.K, law_no_get_call (n := n) (r.mono (by omega)) hA X2.fun F.G X2.full.told hv ⟨?_, ?_, ?_⟩ fun s3 K3 => ?_⟩
      · show T ∉ [L]
        exact fun z => X2.full.nT (by simp [List.mem_singleton.mp z])
      · show dd ∉ [L]
        exact fun z => X2.full.ndd (by simp [List.mem_singleton.mp z])
      · show d ∉ [L]
        exact fun z => X2.full.nd' (by simp [List.mem_singleton.mp z])
      have X3 := X2.kept K3 rfl
      clear F e
      refine wpAny_truthy_bool ?_
      repeat walk_at "m go"
      rw [if_neg (by simp)]
      repeat walk_at "m go"
      exact fin s3 _ _ _ _ _ _ X3 ok.keep
end
end Mine

namespace Mine
variable {w : World} {mg mb : Str → Option Value}
variable {s : Shared} {Q : Value → Shared → Prop} {E : Value → Shared → Prop} {A : Around} {n : Nat}

local macro_rules | `(tactic| walk_at "m go") => `(tactic| first
  | with_reducible refine wpAny_execs_cons ?_
  | with_reducible refine wpAny_Return_some ?_
  | with_reducible refine wpAny_Call_NameR ?_
  | with_reducible refine wpAny_items_cons ?_ (by with_unfolding_all rfl)
  | with_reducible refine wpAny_items_nil ?_
  | with_reducible refine Attribute_name ?_
  | with_reducible refine wpAny_Compare1 ?_ (by with_unfolding_all rfl)
  | with_reducible refine wpAny_isTrue_Compare1 ?_ (by with_unfolding_all rfl)
  | with_reducible refine wpAny_isTrue_Not ?_
  | with_reducible refine wpAny_isTrue_BoolOp ?_
  | with_reducible refine wpAny_allTrue_And_cons ?_
  | with_reducible refine wpAny_allTrue_And_nil ?_
  | with_reducible refine wpAny_allTrue_Or_cons ?_
  | with_reducible refine wpAny_allTrue_Or_nil ?_
  | with_reducible refine wpAny_If ?_
  | ((with_reducible show wpAny _ _ (exec (.Expr _ _) _) _ _ _); refine wpAny_Expr_any ?_)
  | ((with_reducible show wpAny _ _ (eval (.Call (.Attribute _ _ _) _ [] _) _) _ _ _); refine MethodCall_ ?_ (by rfl))
  | with_reducible refine wpAny_truthy_bool ?_
  | with_reducible refine wpAny_execs_nil ?_
  | ((with_reducible show wpAny _ _ (PySem.isTrue (.Call _ _ _ _) _ _) _ _ _); refine wpAny_isTrue_value ?_ (by rfl))
  | ((with_reducible show wpAny _ _ (PySem.isTrue (.Name _ _) _ _) _ _ _); refine wpAny_isTrue_value ?_ (by rfl))
  | with_reducible refine wpAny_Assign_Name ?_ (by with_unfolding_all rfl)
  | with_reducible refine wpAny_Constant_int ?_
  | with_reducible refine wpAny_Constant_str ?_
  | with_reducible refine wpAny_Constant_bool ?_
  | with_reducible refine wpAny_Constant_none ?_
  | ((with_reducible show wpAny _ _ (eval (.Name _ _) _) _ _ _); first
    | refine Fm.ldL ‹Fm _ _ _ _ _ _ _ _› (by rfl) ?_
    | refine Fm.ldL ‹Fm _ _ _ _ _ _ _ _› (by assumption) ?_
    | refine Fm.ldG ‹Fm _ _ _ _ _ _ _ _› (by rfl) ?_
    | (refine Fm.ldB (v := .builtin _) ‹Fm _ _ _ _ _ _ _ _› (by rfl) (by rfl) ?_; try dsimp only)
    | (refine Fm.ldB (v := .type _) ‹Fm _ _ _ _ _ _ _ _› (by rfl) (by rfl) ?_; try dsimp only))
  | ((with_reducible show wpAny _ _ (callWith _ (.builtin _) _ _ _) _ _ _); refine PyProof.Rows.callWith_builtin1 ?_ (by with_unfolding_all rfl) (by with_unfolding_all rfl))
  | ((with_reducible show wpAny _ _ (callWith _ (.type _) _ _ _) _ _ _); refine Mine.callWith_ty ?_ (by with_unfolding_all rfl) (by with_unfolding_all rfl))
  | ((with_reducible show wpAny _ _ (callWith _ (.ref _) _ (backTo _ (starEach [] _)) _) _ _ _); refine callWith_K0 (Fm.G ‹Fm _ _ _ _ _ _ _ _›).K (by rfl) ?_)
  | with_reducible refine wpAny_BinOp (op := .Mod) ?_
  | with_reducible refine wpAny_BinOp (op := .FloorDiv) ?_
  | ((with_reducible show wpAny _ _ (callWith _ (.ref _) _ _ _) _ _ _); refine callWith_K (Fm.G ‹Fm _ _ _ _ _ _ _ _›).K (by rfl) ?_))

theorem callWith_bi0 {pos : Pos} {id : String} {first : List Value} {env : Env} (h : wpAny (model pw w) A (call (.builtin id) (first ++ [])) Q E s) : wpAny (model pw w) A (callWith pos (.builtin id) first (backTo pos (starEach [] env)) []) Q E s :=
  callWith_builtin rfl (PySem.evalArgs_none h)
/-- as law_tags_call, and all that is made is new -/
def NewTags (s s' : Shared) (row : Row) (y : Value) : Prop := ∃ T dT n vs, y = .ref T ∧ s.heap.get? T = none ∧ s.heap.get? dT = none ∧ Hi T ∧ Hi dT ∧ s'.heap.get? T = some (tagsO dT vs.toArray n) ∧ s'.heap.get? dT = some emptyD ∧
  All2 (fun p v => ∃ x dx tc tv, v = .ref x ∧ Hi x ∧ s.heap.get? x = none ∧ s.heap.get? dx = none ∧ s'.heap.get? x = some (tagO dx p.1 tc p.2 tv) ∧ s'.heap.get? dx = some emptyD) row vs
theorem NewTags.stab {s₃ s₅ s₆ : Shared} {row : Row} {y : Value} (h : NewTags s₃ s₅ row y) (nk : NewKept s₃ s₅ s₆) : NewTags s₃ s₆ row y := by
  obtain ⟨T, dT, n, vs, rfl, f1, f2, h1, h2, e1, e2, a⟩ := h
  exact ⟨T, dT, n, vs, rfl, f1, f2, h1, h2, nk _ _ f1 e1 (by simp), nk _ _ f2 e2 (by simp), a.imp fun p v ⟨x, dx, tc, tv, e, hx, g1, g2, g3, g4⟩ => ⟨x, dx, tc, tv, e, hx, g1, g2, nk _ _ g1 g3 (by simp), nk _ _ g2 g4 (by simp)⟩⟩
theorem NewTags.at {s₃ s₅ : Shared} {row : Row} {y : Value} (h : NewTags s₃ s₅ row y) : ∃ T dT, y = .ref T ∧ TagsAt s₅.heap T dT row ∧ Hi T ∧ Hi dT := by
  obtain ⟨T, dT, n, vs, rfl, f1, f2, h1, h2, e1, e2, a⟩ := h
  exact ⟨T, dT, rfl, ⟨vs, ⟨n, e1⟩, a.imp fun p v ⟨x, dx, tc, tv, e, hx, g1, g2, g3, g4⟩ => ⟨x, e, hx, dx, tc, tv, _, g3, g4⟩, e2⟩, h1, h2⟩
theorem law_tags_callN {l : Addr} {row : Row} (r : Rm (n + 6) A) (G : Gd w mg mb s) (hl : RowsAt s.heap l row) (hil : Hi l) (hz : row.length ≤ 1000)
    (h : ∀ y s', Ex [] s s' → NewTags s s' row y → Q y s') : wpAny (model pw w) A (call (.ref 500) [.ref l]) Q E s := by
  refine wpAny_call (call_fn (n := n + 5) (binds := [("rows", .ref l)]) r G (f := 500) (by rfl) (by rfl) (BindsTo.of_eq (by rfl)) fun A' L s1 r1 F => ?_)
  refine wpAny_execs_cons ?_
  repeat walk_at "m go"
  refine comp_seq (mg := mg) (mb := mb) r1.hh (fun _ => true) (madeTag s1.heap) ?_ ?_
  · rintro a y s₃ s₅ s₆ ⟨p, x, dx, tc, tv, h1, rfl, h3, h4, h5, h6, h7⟩ nk
    exact ⟨p, x, dx, tc, tv, h1, rfl, h3, h4, h5, nk _ _ h4 h6 (by simp), nk _ _ h5 h7 (by simp)⟩
  repeat walk_at "m go"
  obtain ⟨xs, pl, a2⟩ := hl.ex F.X hil.tab (by simp)
  refine ⟨l, xs, rfl, .inl pl, hil, F.G, by rw [← a2.len]; exact hz, ?_, ?_⟩
  · intro a C m₃ s₃ ha F3 hm
    obtain ⟨p, _, tv⟩ := a2.mem ha
    refine wpAny_tests_nil ⟨rfl, Ex.refl _, fun _ => ?_⟩
    repeat walk_at "m go"
    refine sub_code ?_
    repeat walk_at "m go"
    refine ⟨p, tv.ex F3.X, fun tc s4 Y4 e4 => ?_⟩
    replace F3 := F3.go Y4
    repeat walk_at "m go"
    refine sub_val ?_
    repeat walk_at "m go"
    refine ⟨p, tv.ex F3.X, fun tv' s5 Y5 e5 => ?_⟩
    replace F3 := F3.go Y5
    repeat walk_at "m go"
    refine ⟨F3.G.K, (r1.mono (by omega : 1 ≤ n + 5)).leaf (dxf_new0 F3.G.K fun x dx s6 Y6 n1 n2 e1 e2 => ⟨(Y4.then0 Y5).then0 Y6, p, x, dx, tc, tv', tv, rfl, F3.G.hi n1, (Y4.then0 Y5).off n1, (Y4.then0 Y5).off n2, e1, e2⟩)⟩
  · intro D s' ys X1 fD pl' a3
    have F2 := F.go X1
    rw [List.filter_eq_self.mpr (fun _ _ => rfl)] at a3
    have a4 : All2 (fun p v => ∃ x dx tc tv, v = .ref x ∧ Hi x ∧ s.heap.get? x = none ∧ s.heap.get? dx = none ∧ s'.heap.get? x = some (tagO dx p.1 tc p.2 tv) ∧ s'.heap.get? dx = some emptyD) row ys := by
      refine a2.comp (fun q a y hq hy => ?_) a3
      obtain ⟨s₃, X3, p, x, dx, tc, tv, h1, rfl, h3, h4, h5, h6, h7⟩ := hy
      have : p = q := TupV.inj h1 hq
      subst this
      exact ⟨x, dx, tc, tv, rfl, h3, F.new (X3.off h4), F.new (X3.off h5), h6, h7⟩
    repeat walk_at "m go"
    obtain ⟨nD, eD⟩ := pl'
    refine ⟨F2.G.K, tags_of_list (r1.mono (by omega : 1 + 1 ≤ n + 5)) F2.G eD (F.G.hi fD).tab (by simp; rw [← a4.len]; exact hz) fun x dx n' s2 X2 n1 n2 e1 e2 => ?_⟩
    refine h (.ref x) s2 (F2.X.then0 X2) ⟨x, dx, n', ys, rfl, F2.new n1, F2.new n2, F2.G.hi n1, F2.G.hi n2, e1, e2, a4.imp fun p v ⟨x, dx, tc, tv, e, hx, g1, g2, g3, g4⟩ => ?_⟩
    have hdx : Hi dx := G.hi g2
    exact ⟨x, dx, tc, tv, e, hx, g1, g2, X2.get g3 hx.tab (by simp) (by simp), X2.get g4 hdx.tab (by simp) (by simp)⟩
section
variable {cd : Value} {fa L c T dd d pl rl : Addr} {s0 sT sB s' : Shared} {P : List Addr} {m : Str → Option Value} {data pd : Data} {kvs : List (Str × Value)} {ps : List Addr} {k : Str} {tk : Tok} {cv : Option Value} {row : Row} {wh : Int} {i : Nat}
theorem wr0_ev {p1 p2 p3 p4 p5 p6 : Pos} {k2 : Nat} (r : Rm (n + 2) A) (X : Lp w mg mb s0 sT L (L + 1) T dd d P m cv data kvs pl pd ps s) (R : Rw s P pl m rl row wh)
    (h : ∀ v s', Ex [] s s' → TupV s'.heap (wrongS (wh.fmod 9)) v → Q v s') :
    wpAny (model pw w) A (eval (.Subscript (.Call (.Name "_law_wrong" p1) [] [] p2) (.BinOp (.Name "which" p3) .Mod (.Constant (.int 9) k2 p4) p5) p6) (LE cd fa L)) Q E s := by
  refine wrong_ev r X.F fun s1 Y1 => ?_
  obtain ⟨tw, ew⟩ := R.mw
  have F := (X.ex0 Y1).F
  repeat walk_at "m go"
  refine PyProof.Rows.mod_int (by decide) ?_
  have bd := fmod_bd wh (b := 9) (by decide)
  exact ⟨Ex.tok _, _, _, rfl, bd.1, bd.2, fun v tv => h v _ (Y1.then0 (Ex.tok _)) tv⟩
theorem wrc_ev {p1 p2 p3 p4 p5 p6 p7 p8 : Pos} {k1 k2 : Nat} {cc : Int} (r : Rm (n + 2) A) (X : Lp w mg mb s0 sT L (L + 1) T dd d P m cv data kvs pl pd ps s) (R : Rw s P pl m rl row wh)
    (h : ∀ v s', Ex [] s s' → TupV s'.heap (wrongS ((wh + cc).fmod 9)) v → Q v s') :
    wpAny (model pw w) A (eval (.Subscript (.Call (.Name "_law_wrong" p1) [] [] p2) (.BinOp (.BinOp (.Name "which" p3) .Add (.Constant (.int cc) k1 p4) p5) .Mod (.Constant (.int 9) k2 p6) p7) p8) (LE cd fa L)) Q E s := by
  refine wrong_ev r X.F fun s1 Y1 => ?_
  obtain ⟨tw, ew⟩ := R.mw
  have F := (X.ex0 Y1).F
  repeat walk_at "m go"
  refine wpAny_BinOp ?_
  repeat walk_at "m go"
  refine PyProof.Rows.add_int ?_
  repeat walk_at "m go"
  refine PyProof.Rows.mod_int (by decide) ?_
  have bd := fmod_bd (wh + cc) (b := 9) (by decide)
  exact ⟨Ex.tok _, _, _, rfl, bd.1, bd.2, fun v tv => h v _ (Y1.then0 (Ex.tok _)) tv⟩
/-- again: a second XData of the same rows -/
theorem deed8a {Q : Flow → Shared → Prop} (r : Rm (n + 40) A) (hA : A.frames = some [LE cd fa L]) (X : Lp w mg mb s0 sT L (L + 1) T dd d P m (some (.str k tk)) data kvs pl data ps s) (R : Rw s P pl m rl row wh) (ok : DataOk i data) (hi : i ≤ 20)
    (fin : ∀ s' m', Lp w mg mb s0 sT L (L + 1) T dd d P m' (some (.str k tk)) data kvs pl data ps s' → Rw s' P pl m' rl row wh → wpAny (model pw w) A (execs ((ifElse (deedIf 7)).drop 4) (LE cd fa L)) Q (fun _ _ => False) s') :
    wpAny (model pw w) A (execs (ifElse (deedIf 7)) (LE cd fa L)) Q (fun _ _ => False) s := by
  have hn := X.full.nodup
  have hlen : data.length ≤ 17 + 6 := by have := ok.1; omega
  refine wpAny_execs_cons ?_
  have F := X.F
  have e := X.mt
  repeat walk_at "m go"
  refine X.full.told.data F.G.K ?_
  have X1 := X.tok (t := s.toks + 1)
  have R1 := R.ex0 (Ex.tok (s.toks + 1))
  clear F
  have F := X1.F
  refine vals_method (s := { s with toks := s.toks + 1 }) X1.full.told ?_
  refine callWith_bi0 ?_
  refine vals_call (s := { s with toks := s.toks + 1 }) X1.full.told fun v s1 Y1 fv ev => ?_
  have X2 := X1.ex0 Y1
  have R2 := R1.ex0 Y1
  clear F e
  have F := X2.F
  repeat walk_at "m go"
  refine list_vals r.hh X2.full.told ev fun D s2 Y2 fD pD => ?_
  have X3 := X2.ex0 Y2
  have R3 := R2.ex0 Y2
  have hiD := F.G.hi fD
  clear F
  have F := X3.F
  repeat walk_at "m go"
  refine ⟨F.G.K, xdata_of (n := n) (N := L :: (L + 1) :: P) (r.mono (by omega)) F.G pD hiD X3.full.vals (by rw [List.length_map]; omega) X3.N ?_ fun T2 dd2 d2 kvs2 s3 Y3 fT2 fdd2 fd2 f2 => ?_⟩
  · intro row hm
    obtain ⟨kr, hkr, rfl⟩ := List.mem_map.mp hm
    exact (ok.2 kr hkr).2.1
  rw [putAll_same hn fun kr hkr => (ok.2 kr hkr).2.2] at f2
  have g3 := (X3.full.more [d2] (by simpa using fd2)).ex0 Y3
  have nd2 := X3.newN fd2
  have X4 := X3.ex0 Y3
  have R4 := R3.ex0 Y3
  clear F
  repeat walk_at "m go"
  refine X4.stR (x := "again") R4 (by decide) (by decide) (by decide) (by decide) fun s5 X5 R5 Y5 => ?_
  have f5 := f2.exN Y5 (by simp)
  have g5 := g3.exN Y5 (by simp)
  have F := X5.F
  have e := X5.mp
  repeat walk_at "m go"
  refine ⟨F.G.K, law_same_call (n := n) (r.mono (by omega)) F.G f5 X5.plain (by omega) fun s6 Y6 => ?_⟩
  have X6 := X5.ex0 Y6
  have R6 := R5.ex0 Y6
  have f6 := f5.ex0 Y6
  have g6 := g5.ex0 Y6
  clear F e
  have F := X6.F
  refine wpAny_truthy_bool ?_
  repeat walk_at "m go"
  rw [if_neg (by simp)]
  repeat walk_at "m go"
  refine f6.told.method F.G.K (name := "add") (f := 399) (by rfl) (by rfl) (fun _ _ _ => by rfl) ?_
  repeat walk_at "m go"
  refine ldCell X6.cell ?_
  refine wpAny_items_cons ?_ (by with_unfolding_all rfl)
  refine lit1 (tup_ev (mg := mg) (mb := mb) ?_)
  repeat walk_at "m go"
  have Y7 : Ex [] s6 { s6 with toks := s6.toks + 1 + 1 } := Ex.tok _
  refine ⟨"other", _, rfl, (X6.ex0 Y7).F.G, fun xt s7 Y7' txt => ⟨(1000, "other"), txt, fun D2 s8 Y8 fD2 rD2 => ?_⟩⟩
  have Y68 : Ex [] s6 s8 := (Y7.then0 Y7').then0 Y8
  have hiD2 : Hi D2 := F.G.hi ((Y7.then0 Y7').off fD2)
  have X8 := X6.ex0 Y68
  have R8 := R6.ex0 Y68
  have f8 := f6.ex0 Y68
  have g8 := g6.ex0 Y68
  clear F
  have F := X8.F
  repeat walk_at "m go"
  obtain ⟨xs, lx, ax⟩ := rD2.it
  have hm : marked k [(1000, "other")] = [(1001, k), (1000, "other")] := marked_new fun p hp => .inl (by rw [List.mem_singleton.mp hp]; decide)
  have hv : ((marked k [(1000, "other")]).all fun p => valid.contains p.1) = true := by rw [hm]; rfl
  refine ⟨F.G.K, x_put (n := n) (r.mono (by omega)) hA X8.fun F.G f8 X8.N (by omega) lx hiD2 ax (by simp) (fun _ s9 kvs9 Y9 f9 => ?_) (fun hc => by rw [hv] at hc; cases hc) fun hc => by rw [hv] at hc; cases hc⟩
  have X9 := X8.w1 Y9 nd2 (fun xs l => (f8.told.notList l).2.2 rfl) ((g8.exN Y9 (by simp)).less (by simp +contextual))
  have R9 := R8.exW Y9 (by simpa using R8.hr.ne fun xs l => (f8.told.notList l).2.2 rfl)
  have g9 := g8.exN Y9 (by simp)
  clear F
  have F := X9.F
  repeat walk_at "m go"
  refine f9.told.method F.G.K (name := "discard") (f := 413) (by rfl) (by rfl) (fun _ _ _ => by rfl) ?_
  repeat walk_at "m go"
  refine next_ev (n := n) (r.mono (by omega)) X9 R9 fun tn s10 Y10 => ?_
  have X10 := X9.ex0 Y10
  have R10 := R9.ex0 Y10
  have f10 := f9.ex0 Y10
  have g10 := g9.ex0 Y10
  clear F
  have F := X10.F
  repeat walk_at "m go"
  refine ⟨F.G.K, x_discardF (n := n) (r.mono (by omega)) F.G f10 fun s11 kvs11 Y11 f11 => ?_⟩
  have X11 := X10.w1 Y11 nd2 (fun xs l => (f10.told.notList l).2.2 rfl) ((g10.exN Y11 (by simp)).less (by simp +contextual))
  have R11 := R10.exW Y11 (by simpa using R10.hr.ne fun xs l => (f10.told.notList l).2.2 rfl)
  clear F
  exact fin s11 _ X11 R11
end
end Mine

namespace Mine
variable {w : World} {mg mb : Str → Option Value}
variable {s : Shared} {Q : Value → Shared → Prop} {E : Value → Shared → Prop} {A : Around} {n : Nat}

local macro_rules | `(tactic| walk_at "m go") => `(tactic| first
  | with_reducible refine wpAny_execs_cons ?_
  | with_reducible refine wpAny_Return_some ?_
  | with_reducible refine wpAny_Call_NameR ?_
  | with_reducible refine wpAny_items_cons ?_ (by with_unfolding_all rfl)
  | with_reducible refine wpAny_items_nil ?_
  | with_reducible refine Attribute_name ?_
  | with_reducible refine wpAny_Compare1 ?_ (by with_unfolding_all rfl)
  | with_reducible refine wpAny_isTrue_Compare1 ?_ (by with_unfolding_all rfl)
  | with_reducible refine wpAny_isTrue_Not ?_
  | with_reducible refine wpAny_isTrue_BoolOp ?_
  | with_reducible refine wpAny_allTrue_And_cons ?_
  | with_reducible refine wpAny_allTrue_And_nil ?_
  | with_reducible refine wpAny_allTrue_Or_cons ?_
  | with_reducible refine wpAny_allTrue_Or_nil ?_
  | with_reducible refine wpAny_If ?_
  | ((with_reducible show wpAny _ _ (exec (.Expr _ _) _) _ _ _); refine wpAny_Expr_any ?_)
  | ((with_reducible show wpAny _ _ (eval (.Call (.Attribute _ _ _) _ [] _) _) _ _ _); refine MethodCall_ ?_ (by rfl))
  | with_reducible refine wpAny_truthy_bool ?_
  | with_reducible refine wpAny_execs_nil ?_
  | ((with_reducible show wpAny _ _ (PySem.isTrue (.Call _ _ _ _) _ _) _ _ _); refine wpAny_isTrue_value ?_ (by rfl))
  | ((with_reducible show wpAny _ _ (PySem.isTrue (.Name _ _) _ _) _ _ _); refine wpAny_isTrue_value ?_ (by rfl))
  | with_reducible refine wpAny_Assign_Name ?_ (by with_unfolding_all rfl)
  | with_reducible refine wpAny_Constant_int ?_
  | with_reducible refine wpAny_Constant_str ?_
  | with_reducible refine wpAny_Constant_bool ?_
  | with_reducible refine wpAny_Constant_none ?_
  | ((with_reducible show wpAny _ _ (eval (.Name _ _) _) _ _ _); first
    | refine Fm.ldL ‹Fm _ _ _ _ _ _ _ _› (by rfl) ?_
    | refine Fm.ldL ‹Fm _ _ _ _ _ _ _ _› (by assumption) ?_
    | refine Fm.ldG ‹Fm _ _ _ _ _ _ _ _› (by rfl) ?_
    | (refine Fm.ldB (v := .builtin _) ‹Fm _ _ _ _ _ _ _ _› (by rfl) (by rfl) ?_; try dsimp only)
    | (refine Fm.ldB (v := .type _) ‹Fm _ _ _ _ _ _ _ _› (by rfl) (by rfl) ?_; try dsimp only))
  | ((with_reducible show wpAny _ _ (callWith _ (.builtin _) _ _ _) _ _ _); refine PyProof.Rows.callWith_builtin1 ?_ (by with_unfolding_all rfl) (by with_unfolding_all rfl))
  | ((with_reducible show wpAny _ _ (callWith _ (.type _) _ _ _) _ _ _); refine Mine.callWith_ty ?_ (by with_unfolding_all rfl) (by with_unfolding_all rfl))
  | ((with_reducible show wpAny _ _ (callWith _ (.ref _) _ (backTo _ (starEach [] _)) _) _ _ _); refine callWith_K0 (Fm.G ‹Fm _ _ _ _ _ _ _ _›).K (by rfl) ?_)
  | with_reducible refine wpAny_BinOp (op := .Mod) ?_
  | with_reducible refine wpAny_BinOp (op := .FloorDiv) ?_
  | ((with_reducible show wpAny _ _ (callWith _ (.ref _) _ _ _) _ _ _); refine callWith_K (Fm.G ‹Fm _ _ _ _ _ _ _ _›).K (by rfl) ?_))

theorem RowsAt.inj {h : Heap} {l : Addr} {r1 r2 : Row} (a : RowsAt h l r1) (b : RowsAt h l r2) : r1 = r2 := by
  obtain ⟨xs, ⟨n, e⟩, x⟩ := a
  obtain ⟨ys, ⟨n', e'⟩, y⟩ := b
  rw [e] at e'
  simp at e'
  obtain ⟨rfl, _⟩ := e'
  clear e
  induction x generalizing r2 with
  | nil => cases y; rfl
  | cons h1 _ ih => cases y with | cons h2 y => rw [h1.inj h2, ih y]
def RowsList (h : Heap) (rows : List Row) (vs : List Value) : Prop := All2 (fun row v => ∃ l, v = .ref l ∧ RowsAt h l row ∧ Hi l ∧ row.length ≤ 50) rows vs
/-- [_law_tags(part) for part in dirty] -/
theorem tags_all {h0 : Heap} {s₀ s' : Shared} {rows : List Row} {vs ys : List Value} (hr : RowsList h0 rows vs) (a : All2 (fun a y => ∃ s₃, Ex [] s₀ s₃ ∧ ∃ row l, a = .ref l ∧ RowsAt h0 l row ∧ NewTags s₃ s' row y) vs ys) : TagsList s'.heap rows ys := by
  unfold TagsList
  unfold RowsList at hr
  induction hr generalizing ys with
  | nil => cases a; exact .nil
  | cons hh _ ih =>
    cases a with
    | cons h1 a =>
      refine .cons ?_ (ih a)
      obtain ⟨l, rfl, r1, hl, hz⟩ := hh
      obtain ⟨s₃, _, row, l', e, r2, nt⟩ := h1
      cases e
      obtain rfl := r1.inj r2
      obtain ⟨T, dT, rfl, t, hT, hdT⟩ := nt.at
      exact ⟨T, dT, rfl, t, hT, hdT, by omega⟩
theorem clean_1 {q q' : Int × Str} {k : Str} {row : Row} (h1 : valid.contains q.1 = false) (h2 : valid.contains q'.1 = false) (hv : (row.all fun p => valid.contains p.1) = true) : clean ((([q] ++ [(1001, k)]) ++ row) ++ [q']) = (1001, k) :: row := by
  unfold clean
  have e1 : row.filter (fun p => valid.contains p.1) = row := List.filter_eq_self.mpr fun p hp => List.all_eq_true.mp hv p hp
  have f0 : ([q] : Row).filter (fun p => valid.contains p.1) = [] := by rw [List.filter_cons, if_neg (by rw [h1]; simp)]; rfl
  have f1 : ([(1001, k)] : Row).filter (fun p => valid.contains p.1) = [(1001, k)] := by rw [List.filter_cons, if_pos (by rfl)]; rfl
  have f2 : ([q'] : Row).filter (fun p => valid.contains p.1) = [] := by rw [List.filter_cons, if_neg (by rw [h2]; simp)]; rfl
  rw [List.filter_append, List.filter_append, List.filter_append, e1, f0, f1, f2]
  simp
theorem clean_2 {q : Int × Str} (h1 : valid.contains q.1 = false) : clean [q] = [] := by
  unfold clean
  rw [List.filter_cons, if_neg (by simpa using h1)]
  rfl
theorem clean_3 {q p : Int × Str} (h1 : valid.contains q.1 = false) (h2 : valid.contains p.1 = true) : clean [q, p] = [p] := by
  unfold clean
  rw [List.filter_cons, if_neg (by simpa using h1), List.filter_cons, if_pos h2]
  rfl
theorem put_3 {k : Str} {row : Row} (hk : k ≠ "first") : putAll [] [(1001, k) :: row, [], [(1000, "first")]] = [(k, (1001, k) :: row), ("first", [(1000, "first")])] := by
  show keyed (keyed [] k ((1001, k) :: row)) "first" [(1000, "first")] = _
  rw [keyed_none [] k _ (by simp), keyed_none _ "first" _ (by simpa using hk)]
  rfl
section
variable {cd : Value} {fa L c T dd d pl rl : Addr} {s0 sT sB s' : Shared} {P : List Addr} {m : Str → Option Value} {data pd : Data} {kvs : List (Str × Value)} {ps : List Addr} {k : Str} {tk : Tok} {cv : Option Value} {row : Row} {wh : Int} {i : Nat}
theorem deed8b {Q : Flow → Shared → Prop} (r : Rm (n + 40) A) (X : Lp w mg mb s0 sT L (L + 1) T dd d P m (some (.str k tk)) data kvs pl data ps s) (R : Rw s P pl m rl row wh) (hrow : row ∈ lawRows) (hk : k ≠ "first")
    (fin : ∀ s' m', Lp w mg mb s0 sT L (L + 1) T dd d P m' (some (.str k tk)) data kvs pl data ps s' → Q .next s') :
    wpAny (model pw w) A (execs ((ifElse (deedIf 7)).drop 4) (LE cd fa L)) Q (fun _ _ => False) s := by
  obtain ⟨rv, rz, rt, rn⟩ := rowFacts hrow
  have b0 := fmod_bd wh (b := 9) (by decide)
  have b1 := fmod_bd (wh + 1) (b := 9) (by decide)
  have b2 := fmod_bd (wh + 2) (b := 9) (by decide)
  have w0 := (wrongFacts b0.1 b0.2).1
  have w1 := (wrongFacts b1.1 b1.2).1
  have w2 := (wrongFacts b2.1 b2.2).1
  refine wpAny_execs_cons ?_
  have F := X.F
  repeat walk_at "m go"
  refine list_ev ?_
  refine wpAny_items_cons ?_ (by with_unfolding_all rfl)
  refine wpAny_BinOp (wpAny_BinOp (wpAny_BinOp ?_))
  refine lit1 (wr0_ev (n := n) (r.mono (by omega)) X R fun v1 s1 Y1 tv1 => ⟨_, tv1, fun D1 s2 Y2 fD1 rD1 => ?_⟩)
  have Y02 := Y1.then0 Y2
  have hiD1 := F.G.hi (Y1.off fD1)
  have X2 := X.ex0 Y02
  have R2 := R.ex0 Y02
  clear F
  refine lit1 (tup_ev (mg := mg) (mb := mb) ?_)
  refine ldCell (s := { s2 with toks := s2.toks + 1 }) X2.cell ?_
  refine ⟨k, tk, rfl, X2.tok.F.G, fun xt s3 Y3 txt => ⟨(1001, k), txt, fun D2 s4 Y4 fD2 rD2 => ?_⟩⟩
  have Y24 : Ex [] s2 s4 := ((Ex.tok (s2.toks + 1)).of0 Y3).then0 Y4
  have X4 := X2.ex0 Y24
  have R4 := R2.ex0 Y24
  refine row_add (rD1.ex Y24 hiD1.tab (by simp)) rD2 (by simp) fun D3 s5 Y5 fD3 rD3 => ?_
  have X5 := X4.ex0 Y5
  have R5 := R4.ex0 Y5
  have F := X5.F
  have er := R5.mr
  repeat walk_at "m go"
  refine row_add rD3 R5.hr (by simp; omega) fun D4 s6 Y6 fD4 rD4 => ?_
  have hiD4 := F.G.hi fD4
  clear F er
  have X6 := X5.ex0 Y6
  have R6 := R5.ex0 Y6
  refine lit1 (wrc_ev (n := n) (r.mono (by omega)) X6 R6 fun v2 s7 Y7 tv2 => ⟨_, tv2, fun D5 s8 Y8 fD5 rD5 => ?_⟩)
  have Y68 := Y7.then0 Y8
  refine row_add (rD4.ex Y68 hiD4.tab (by simp)) rD5 (by simp; omega) fun Da s9 Y9 fDa rDa => ?_
  have hiDa := X6.F.G.hi (Y68.off fDa)
  have X9 := X6.ex0 (Y68.then0 Y9)
  have R9 := R6.ex0 (Y68.then0 Y9)
  refine wpAny_items_cons ?_ (by with_unfolding_all rfl)
  refine lit1 (wr0_ev (n := n) (r.mono (by omega)) X9 R9 fun v3 s10 Y10 tv3 => ⟨_, tv3, fun Db s11 Y11 fDb rDb => ?_⟩)
  have Y911 := Y10.then0 Y11
  have hiDb := X9.F.G.hi (Y10.off fDb)
  have X11 := X9.ex0 Y911
  have R11 := R9.ex0 Y911
  refine wpAny_items_cons ?_ (by with_unfolding_all rfl)
  refine lit2 (wrc_ev (n := n) (r.mono (by omega)) X11 R11 fun v4 s12 Y12 tv4 => ⟨_, tv4, ?_⟩)
  have X12 := X11.ex0 Y12
  have F := X12.F
  refine tup_ev (mg := mg) (mb := mb) ?_
  repeat walk_at "m go"
  have Y13 : Ex [] s12 { s12 with toks := s12.toks + 1 + 1 } := Ex.tok _
  refine ⟨"first", _, rfl, (X12.ex0 Y13).F.G, fun xf s14 Y14 txf => ?_⟩
  have Y1214 := Y13.then0 Y14
  refine ⟨(1000, "first"), Y1214, txf, fun Dc s15 Y15 fDc rDc => ?_⟩
  have hiDc := F.G.hi (Y1214.off fDc)
  have Y1215 := Y1214.then0 Y15
  clear F
  have Y1115 := Y12.then0 Y1215
  have X15 := X11.ex0 Y1115
  have R15 := R11.ex0 Y1115
  refine wpAny_items_nil ⟨by simp, fun D s16 Y16 fD pD => ?_⟩
  have hiD := X15.F.G.hi fD
  have X16 := X15.ex0 Y16
  have R16 := R15.ex0 Y16
  have rl16 : RowsList s16.heap [(([wrongS (wh.fmod 9)] ++ [(1001, k)]) ++ row) ++ [wrongS ((wh + 1).fmod 9)], [wrongS (wh.fmod 9)], [wrongS ((wh + 2).fmod 9), (1000, "first")]] [.ref Da, .ref Db, .ref Dc] :=
    .cons ⟨Da, rfl, ((rDa.ex Y911 hiDa.tab (by simp)).ex Y1115 hiDa.tab (by simp)).ex Y16 hiDa.tab (by simp), hiDa, by simp; omega⟩ (.cons ⟨Db, rfl, (rDb.ex Y1115 hiDb.tab (by simp)).ex Y16 hiDb.tab (by simp), hiDb, by simp⟩ (.cons ⟨Dc, rfl, rDc.ex Y16 hiDc.tab (by simp), hiDc, by simp⟩ .nil))
  have hrows : ([(([wrongS (wh.fmod 9)] ++ [(1001, k)]) ++ row) ++ [wrongS ((wh + 1).fmod 9)], [wrongS (wh.fmod 9)], [wrongS ((wh + 2).fmod 9), (1000, "first")]] : List Row).map clean = [(1001, k) :: row, [], [(1000, "first")]] := by
    rw [List.map_cons, List.map_cons, List.map_cons, clean_1 w0 w1 rv, clean_2 w0, clean_3 w2 (by rfl)]
    rfl
  have hlen3 : ([(([wrongS (wh.fmod 9)] ++ [(1001, k)]) ++ row) ++ [wrongS ((wh + 1).fmod 9)], [wrongS (wh.fmod 9)], [wrongS ((wh + 2).fmod 9), (1000, "first")]] : List Row).length = 3 := rfl
  generalize ([(([wrongS (wh.fmod 9)] ++ [(1001, k)]) ++ row) ++ [wrongS ((wh + 1).fmod 9)], [wrongS (wh.fmod 9)], [wrongS ((wh + 2).fmod 9), (1000, "first")]] : List Row) = rows at rl16 hrows hlen3
  have nDL := X15.F.neL fD
  have nD : ∀ b ∈ [Da, Db, Dc], b ≠ L := by
    intro b hb z
    have hh : ∃ row, RowsAt s15.heap b row := by
      simp at hb
      rcases hb with rfl | rfl | rfl
      · exact ⟨_, (rDa.ex Y911 hiDa.tab (by simp)).ex Y1115 hiDa.tab (by simp)⟩
      · exact ⟨_, rDb.ex Y1115 hiDb.tab (by simp)⟩
      · exact ⟨_, rDc⟩
    obtain ⟨row, rr⟩ := hh
    exact rr.ne (fun xs => Ns.notList X15.F.N) z
  repeat walk_at "m go"
  refine X16.stR (x := "dirty") R16 (by decide) (by decide) (by decide) (by decide) fun s17 X17 R17 Y17 => ?_
  have pD17 : s17.heap.PlainList D ([.ref Da, .ref Db, .ref Dc] : List Value).toArray := PlainList.ex Y17 pD hiD (by simpa using nDL)
  have rl17 : RowsList s17.heap rows [.ref Da, .ref Db, .ref Dc] := by
    refine rl16.mapMem fun row v _ hv ⟨l, e, a, b, c⟩ => ⟨l, e, a.ex Y17 b.tab ?_, b, c⟩
    simp only [List.mem_singleton]
    refine nD l ?_
    rw [e] at hv
    simpa using hv
  have F := X17.F
  refine wpAny_execs_cons ?_
  repeat walk_at "m go"
  refine safe_slot F.G fun q s18 Y18 fq eq => ?_
  have hiq := F.G.hi fq
  have X18 := X17.ex0 Y18
  have R18 := R17.ex0 Y18
  clear F
  have F := X18.F
  refine callWith_meth (g := 361) (self := .ref 451) (by rfl) ?_ (by with_unfolding_all rfl) (by with_unfolding_all rfl)
  refine wpAny_items_cons ?_ (by with_unfolding_all rfl)
  have pD18 := PlainList.ex Y18 pD17 hiD (by simp)
  have rl18 : RowsList s18.heap rows [.ref Da, .ref Db, .ref Dc] := rl17.imp fun _ _ ⟨l, e, a, b, c⟩ => ⟨l, e, a.ex Y18 b.tab (by simp), b, c⟩
  refine comp_seq (mg := mg) (mb := mb) r.hh (fun _ => true) (fun a y s₃ s₅ => ∃ row l, a = .ref l ∧ RowsAt s18.heap l row ∧ NewTags s₃ s₅ row y) (fun ⟨row, l, e, a, nt⟩ nk => ⟨row, l, e, a, nt.stab nk⟩) ?_
  repeat walk_at "m go"
  refine ⟨D, [.ref Da, .ref Db, .ref Dc], rfl, .inl pD18, hiD, F.G, by simp, ?_, ?_⟩
  · intro a C m₃ s₃ ha F3 hm
    obtain ⟨row1, _, l, rfl, ra, hil, hz⟩ := rl18.mem ha
    clear F
    refine wpAny_tests_nil ⟨rfl, Ex.refl _, fun _ => ?_⟩
    repeat walk_at "m go"
    refine ⟨F3.G.K, law_tags_callN (n := n) (r.mono (by omega)) F3.G (ra.ex F3.X hil.tab (by simp)) hil (by omega) fun y s4 Y4 nt => ?_⟩
    exact ⟨Y4, row1, l, rfl, ra, nt⟩
  · intro D5 s19 ys X19' fD5 pD5 a3
    rw [List.filter_eq_self.mpr (fun _ _ => rfl)] at a3
    have tl := tags_all rl18 a3
    have hiD5 := F.G.hi fD5
    clear F a3
    have X19 := X18.ex0 X19'
    have R19 := R18.ex0 X19'
    have F := X19.F
    have eq19 := X19'.get eq hiq.tab (by simp) (by simp)
    refine wpAny_items_nil ⟨⟨eq19, F.G.K⟩, ?_⟩
    refine wpAny_call (method_call eq19 (safe_init_call (n := n) (N := []) (r.mono (by omega)) F.G pD5 hiD5 tl (by omega) (by simp) fun T3 dd3 d3 kvs3 s20 Y20 _ _ _ f3 => ?_))
    rw [hrows, put_3 hk] at f3
    have X20 := X19.ex0 Y20
    have R20 := R19.ex0 Y20
    clear F
    have F := X20.F
    refine wpAny_items_cons ?_ (by with_unfolding_all rfl)
    refine list_ev ?_
    refine wpAny_items_cons ?_ (by with_unfolding_all rfl)
    refine list_ev ?_
    repeat walk_at "m go"
    refine ldCell X20.cell ?_
    refine wpAny_items_cons ?_ (by with_unfolding_all rfl)
    refine row_ev X20 R20 fun Dr s21 Y21 fDr rDr => ?_
    have hiDr := F.G.hi fDr
    have X21 := X20.ex0 Y21
    refine wpAny_items_nil ⟨by simp, fun q1 s22 Y22 fq1 pq1 => ?_⟩
    have hiq1 := X21.F.G.hi fq1
    have X22 := X21.ex0 Y22
    clear F
    have F := X22.F
    refine wpAny_items_cons ?_ (by with_unfolding_all rfl)
    refine list_ev ?_
    repeat walk_at "m go"
    refine lit1 (tup_ev (mg := mg) (mb := mb) ?_)
    repeat walk_at "m go"
    have Y23 : Ex [] s22 { s22 with toks := s22.toks + 1 + 1 + 1 } := Ex.tok _
    refine ⟨"first", _, rfl, (X22.ex0 Y23).F.G, fun xf2 s24 Y24 txf2 => ⟨(1000, "first"), txf2, fun Dq s25 Y25 fDq rDq => ?_⟩⟩
    have Y2224 := Y23.then0 Y24
    have hiDq := F.G.hi (Y2224.off fDq)
    have X24 := X22.ex0 Y2224
    have X25 := X24.ex0 Y25
    refine wpAny_items_nil ⟨by simp, fun q2 s26 Y26 fq2 pq2 => ?_⟩
    have hiq2 := X25.F.G.hi fq2
    have X26 := X25.ex0 Y26
    refine wpAny_items_nil ⟨by simp, fun pl3 s27 Y27 fpl3 ppl3 => ?_⟩
    have hipl3 := X26.F.G.hi fpl3
    have X27 := X26.ex0 Y27
    clear F
    have F := X27.F
    repeat walk_at "m go"
    have Y2226 := (Y2224.then0 Y25).then0 Y26
    have Y2127 := (Y22.then0 Y2226).then0 Y27
    have f3' := f3.ex0 (Y21.then0 Y2127)
    have nq : q1 ≠ q2 := fun z => by
      obtain ⟨o, e⟩ := pq1
      have := (Y2224.then0 Y25).there _ _ e
      obtain ⟨o', e'⟩ := this
      rw [z, fq2] at e'; cases e'
    have P3 : Plain s27.heap pl3 [(k, (1001, k) :: row), ("first", [(1000, "first")])] [q1, q2] :=
      ⟨ppl3, hipl3, .cons ⟨Dr, _, PlainList.ex (Y2226.then0 Y27) pq1 hiq1 (by simp), rDr.ex Y2127 hiDr.tab (by simp), hiq1, hiDr, by simp; omega⟩
        (.cons ⟨Dq, _, PlainList.ex Y27 pq2 hiq2 (by simp), (rDq.ex Y26 hiDq.tab (by simp)).ex Y27 hiDq.tab (by simp), hiq2, hiDq, by simp⟩ .nil), by simpa using nq⟩
    refine ⟨F.G.K, law_same_call (n := n) (r.mono (by omega)) F.G f3' P3 (by simp) fun s28 Y28 => ?_⟩
    have X28 := X27.ex0 Y28
    clear F
    refine wpAny_truthy_bool ?_
    repeat walk_at "m go"
    rw [if_neg (by simp)]
    repeat walk_at "m go"
    exact fin s28 _ X28
end
end Mine

namespace Mine
variable {w : World} {mg mb : Str → Option Value}
variable {s : Shared} {Q : Value → Shared → Prop} {E : Value → Shared → Prop} {A : Around} {n : Nat}

local macro_rules | `(tactic| walk_at "m go") => `(tactic| first
  | with_reducible refine wpAny_execs_cons ?_
  | with_reducible refine wpAny_Return_some ?_
  | with_reducible refine wpAny_Call_NameR ?_
  | with_reducible refine wpAny_items_cons ?_ (by with_unfolding_all rfl)
  | with_reducible refine wpAny_items_nil ?_
  | with_reducible refine Attribute_name ?_
  | with_reducible refine wpAny_Compare1 ?_ (by with_unfolding_all rfl)
  | with_reducible refine wpAny_isTrue_Compare1 ?_ (by with_unfolding_all rfl)
  | with_reducible refine wpAny_isTrue_Not ?_
  | with_reducible refine wpAny_isTrue_BoolOp ?_
  | with_reducible refine wpAny_allTrue_And_cons ?_
  | with_reducible refine wpAny_allTrue_And_nil ?_
  | with_reducible refine wpAny_allTrue_Or_cons ?_
  | with_reducible refine wpAny_allTrue_Or_nil ?_
  | with_reducible refine wpAny_If ?_
  | ((with_reducible show wpAny _ _ (exec (.Expr _ _) _) _ _ _); refine wpAny_Expr_any ?_)
  | ((with_reducible show wpAny _ _ (eval (.Call (.Attribute _ _ _) _ [] _) _) _ _ _); refine MethodCall_ ?_ (by rfl))
  | with_reducible refine wpAny_truthy_bool ?_
  | with_reducible refine wpAny_execs_nil ?_
  | ((with_reducible show wpAny _ _ (PySem.isTrue (.Call _ _ _ _) _ _) _ _ _); refine wpAny_isTrue_value ?_ (by rfl))
  | ((with_reducible show wpAny _ _ (PySem.isTrue (.Name _ _) _ _) _ _ _); refine wpAny_isTrue_value ?_ (by rfl))
  | with_reducible refine wpAny_Assign_Name ?_ (by with_unfolding_all rfl)
  | with_reducible refine wpAny_Constant_int ?_
  | with_reducible refine wpAny_Constant_str ?_
  | with_reducible refine wpAny_Constant_bool ?_
  | with_reducible refine wpAny_Constant_none ?_
  | ((with_reducible show wpAny _ _ (eval (.Name _ _) _) _ _ _); first
    | refine Fm.ldL ‹Fm _ _ _ _ _ _ _ _› (by rfl) ?_
    | refine Fm.ldL ‹Fm _ _ _ _ _ _ _ _› (by assumption) ?_
    | refine Fm.ldG ‹Fm _ _ _ _ _ _ _ _› (by rfl) ?_
    | (refine Fm.ldB (v := .builtin _) ‹Fm _ _ _ _ _ _ _ _› (by rfl) (by rfl) ?_; try dsimp only)
    | (refine Fm.ldB (v := .type _) ‹Fm _ _ _ _ _ _ _ _› (by rfl) (by rfl) ?_; try dsimp only))
  | ((with_reducible show wpAny _ _ (callWith _ (.builtin _) _ _ _) _ _ _); refine PyProof.Rows.callWith_builtin1 ?_ (by with_unfolding_all rfl) (by with_unfolding_all rfl))
  | ((with_reducible show wpAny _ _ (callWith _ (.type _) _ _ _) _ _ _); refine Mine.callWith_ty ?_ (by with_unfolding_all rfl) (by with_unfolding_all rfl))
  | ((with_reducible show wpAny _ _ (callWith _ (.ref _) _ (backTo _ (starEach [] _)) _) _ _ _); refine callWith_K0 (Fm.G ‹Fm _ _ _ _ _ _ _ _›).K (by rfl) ?_)
  | with_reducible refine wpAny_BinOp (op := .Mod) ?_
  | with_reducible refine wpAny_BinOp (op := .FloorDiv) ?_
  | ((with_reducible show wpAny _ _ (callWith _ (.ref _) _ _ _) _ _ _); refine callWith_K (Fm.G ‹Fm _ _ _ _ _ _ _ _›).K (by rfl) ?_))

theorem intsAre_of : ∀ {xs : List Value}, xs.all (fun v => match v with | .int _ _ => true | _ => false) = true → IntsAre xs (xs.map valInt)
  | [], _ => .nil
  | v :: xs, h => by
    rw [List.all_cons, Bool.and_eq_true] at h
    cases v with
    | int i t => exact .cons i t (intsAre_of h.2)
    | _ => exact absurd h.1 (by simp)
theorem any_valid (c : Int) : (valid.any fun x => x == c) = valid.contains c := by
  generalize valid = l
  induction l with
  | nil => rfl
  | cons x l ih => rw [List.any_cons, List.contains_cons, ih, BEq.comm]
section
variable {cd : Value} {fa L c T dd d pl rl : Addr} {s0 sT sB s' : Shared} {P : List Addr} {m : Str → Option Value} {data pd : Data} {kvs : List (Str × Value)} {ps : List Addr} {k : Str} {tk : Tok} {cv : Option Value} {row : Row} {wh num : Int} {tn : Tok} {i : Nat}
/-- the check of one code -/
theorem check_ev {Q : Flow → Shared → Prop} {code : Int} {tc : Tok} (r : Rm (n + 40) A) (X : Lp w mg mb s0 sT L (L + 1) T dd d P m cv data kvs pl pd ps s) (mc : m "code" = some (.int code tc)) (h : ∀ s', Ex [] s s' → Q .next s') :
    wpAny (model pw w) A (exec (nth turnBody 5) (LE cd fa L)) Q E s := by
  have F := X.F
  refine wpAny_If ?_
  repeat walk_at "m go"
  refine list_ev ?_
  repeat walk_at "m go"
  refine ⟨F.G.K, (r.mono (by omega : 1 ≤ n + 40)).leaf (dxf_new0 (s := { s with toks := s.toks + 1 }) F.G.K fun x dx s1 Y1 g1 g2 g3 g4 => ?_)⟩
  have Y01 : Ex [] s s1 := (Ex.tok _).of0 Y1
  have hix := F.G.hi g1
  have tvx : TagV s1.heap (code, "a") (.ref x) := ⟨x, rfl, hix, dx, _, _, _, g3, g4⟩
  clear F
  have X1 := X.ex0 Y01
  have F := X1.F
  repeat walk_at "m go"
  refine ⟨by simp, fun D s2 Y2 fD pD => ?_⟩
  have Y02 := Y01.then0 Y2
  have hiD := F.G.hi fD
  clear F
  have X2 := X.ex0 Y02
  have F := X2.F
  repeat walk_at "m go"
  obtain ⟨nD, eD⟩ := pD
  refine ⟨F.G.K, tags_of_list (r.mono (by omega : 1 + 1 ≤ n + 40)) F.G eD hiD.tab (by simp) fun T1 dT1 n1 s3 Y3 fT fdT e1 e2 => ?_⟩
  have Y03 := Y02.then0 Y3
  have hiT := F.G.hi fT
  clear F
  have X3 := X.ex0 Y03
  have F := X3.F
  repeat walk_at "m go"
  refine ⟨F.G.K, has_valid_call (n := n) (row := [(code, "a")]) (r.mono (by omega)) F.G (.inr ⟨_, _, e1⟩) (.cons ((tvx.ex Y2).ex Y3) .nil) hiT fun s4 Y4 => ?_⟩
  have Y04 := Y03.then0 Y4
  clear F
  have X4 := X.ex0 Y04
  have F := X4.F
  repeat walk_at "m go"
  refine Rm.leaf (r.mono (by omega : 1 ≤ n + 40)) (law_valid0 F.G.K fun x1 xs s5 Y5 fx ex hx1 hx2 => ?_)
  have Y05 := Y04.then0 Y5
  have hi := intsAre_of hx2
  rw [hx1] at hi
  refine in_list_ints (Heap.PlainList.isList ⟨_, ex⟩) hi ?_
  rw [any_valid]
  have e : ([(code, "a")] : Row).all (fun p => valid.contains p.1) = valid.contains code := by simp
  rw [e]
  refine wpAny_isNot_self (by rfl) ?_
  refine wpAny_truthy_bool ?_
  rw [if_neg (by simp)]
  clear F
  repeat walk_at "m go"
  exact h s5 Y05
end
end Mine

namespace Mine
variable {w : World} {mg mb : Str → Option Value}
variable {s : Shared} {Q : Value → Shared → Prop} {E : Value → Shared → Prop} {A : Around} {n : Nat}

local macro_rules | `(tactic| walk_at "m go") => `(tactic| first
  | with_reducible refine wpAny_execs_cons ?_
  | with_reducible refine wpAny_Return_some ?_
  | with_reducible refine wpAny_Call_NameR ?_
  | with_reducible refine wpAny_items_cons ?_ (by with_unfolding_all rfl)
  | with_reducible refine wpAny_items_nil ?_
  | with_reducible refine Attribute_name ?_
  | with_reducible refine wpAny_Compare1 ?_ (by with_unfolding_all rfl)
  | with_reducible refine wpAny_isTrue_Compare1 ?_ (by with_unfolding_all rfl)
  | with_reducible refine wpAny_isTrue_Not ?_
  | with_reducible refine wpAny_isTrue_BoolOp ?_
  | with_reducible refine wpAny_allTrue_And_cons ?_
  | with_reducible refine wpAny_allTrue_And_nil ?_
  | with_reducible refine wpAny_allTrue_Or_cons ?_
  | with_reducible refine wpAny_allTrue_Or_nil ?_
  | with_reducible refine wpAny_If ?_
  | ((with_reducible show wpAny _ _ (exec (.Expr _ _) _) _ _ _); refine wpAny_Expr_any ?_)
  | ((with_reducible show wpAny _ _ (eval (.Call (.Attribute _ _ _) _ [] _) _) _ _ _); refine MethodCall_ ?_ (by rfl))
  | with_reducible refine wpAny_truthy_bool ?_
  | with_reducible refine wpAny_execs_nil ?_
  | ((with_reducible show wpAny _ _ (PySem.isTrue (.Call _ _ _ _) _ _) _ _ _); refine wpAny_isTrue_value ?_ (by rfl))
  | ((with_reducible show wpAny _ _ (PySem.isTrue (.Name _ _) _ _) _ _ _); refine wpAny_isTrue_value ?_ (by rfl))
  | with_reducible refine wpAny_Assign_Name ?_ (by with_unfolding_all rfl)
  | with_reducible refine wpAny_Constant_int ?_
  | with_reducible refine wpAny_Constant_str ?_
  | with_reducible refine wpAny_Constant_bool ?_
  | with_reducible refine wpAny_Constant_none ?_
  | ((with_reducible show wpAny _ _ (eval (.Name _ _) _) _ _ _); first
    | refine Fm.ldL ‹Fm _ _ _ _ _ _ _ _› (by rfl) ?_
    | refine Fm.ldL ‹Fm _ _ _ _ _ _ _ _› (by assumption) ?_
    | refine Fm.ldG ‹Fm _ _ _ _ _ _ _ _› (by rfl) ?_
    | (refine Fm.ldB (v := .builtin _) ‹Fm _ _ _ _ _ _ _ _› (by rfl) (by rfl) ?_; try dsimp only)
    | (refine Fm.ldB (v := .type _) ‹Fm _ _ _ _ _ _ _ _› (by rfl) (by rfl) ?_; try dsimp only))
  | ((with_reducible show wpAny _ _ (callWith _ (.builtin _) _ _ _) _ _ _); refine PyProof.Rows.callWith_builtin1 ?_ (by with_unfolding_all rfl) (by with_unfolding_all rfl))
  | ((with_reducible show wpAny _ _ (callWith _ (.type _) _ _ _) _ _ _); refine Mine.callWith_ty ?_ (by with_unfolding_all rfl) (by with_unfolding_all rfl))
  | ((with_reducible show wpAny _ _ (callWith _ (.ref _) _ (backTo _ (starEach [] _)) _) _ _ _); refine callWith_K0 (Fm.G ‹Fm _ _ _ _ _ _ _ _›).K (by rfl) ?_)
  | with_reducible refine wpAny_BinOp (op := .Mod) ?_
  | with_reducible refine wpAny_BinOp (op := .FloorDiv) ?_
  | ((with_reducible show wpAny _ _ (callWith _ (.ref _) _ _ _) _ _ _); refine callWith_K (Fm.G ‹Fm _ _ _ _ _ _ _ _›).K (by rfl) ?_))

section
variable {cd : Value} {fa L c T dd d pl rl : Addr} {s0 sT sB s' : Shared} {P : List Addr} {m : Str → Option Value} {data pd : Data} {kvs : List (Str × Value)} {ps : List Addr} {k : Str} {tk : Tok} {cv : Option Value} {row : Row} {wh num dv : Int} {tn td : Tok} {i : Nat}
theorem rowS_mem {i : Int} (h0 : 0 ≤ i) (h1 : i < 5) : rowS i ∈ lawRows := by
  have hj : i.toNat < lawRows.length := show i.toNat < 5 by omega
  unfold rowS
  rw [List.getD_eq_getElem?_getD, List.getElem?_eq_getElem hj]
  exact List.getElem_mem _
theorem idS_first (i : Int) : idS i ≠ "first" := by
  unfold idS
  split
  · decide
  · split <;> decide
/-- the deed of a turn -/
theorem deeds {Q : Flow → Shared → Prop} (r : Rm (n + 40) A) (hA : A.frames = some [LE cd fa L]) (X : Lp w mg mb s0 sT L (L + 1) T dd d P m (some (.str k tk)) data kvs pl data ps s) (R : Rw s P pl m rl row wh) (hrow : row ∈ lawRows) (hk : k = idS (wh.fmod 3)) (ok : DataOk i data) (hi : i ≤ 20)
    (md : m "deed" = some (.int dv td))
    (YB : Ex [L, L + 1] sB s) (PB : Plain sB.heap pl data ps) (frB : sB.heap.get? rl = none) (nlB : ∀ b ∈ [L, L + 1], ∀ xs, ¬ sB.heap.PlainList b xs)
    (fin : ∀ s' m' cv' data' kvs' pl' ps', Lp w mg mb s0 sT L (L + 1) T dd d P m' cv' data' kvs' pl' data' ps' s' → DataOk (i + 1) data' → Q .next s') :
    wpAny (model pw w) A (exec (deedIf 0) (LE cd fa L)) Q (fun _ _ => False) s := by
  have hk1 : (1001, k) ∈ tagList := by rw [hk]; exact idFacts _
  have hk2 : k ≠ "first" := by rw [hk]; exact idS_first _
  have F := X.F
  refine wpAny_If ?_
  repeat walk_at "m go"
  refine PySem.P.eq_int ?_
  refine wpAny_truthy_bool ?_
  by_cases h : dv = 0
  · rw [if_pos (by simpa using h)]
    exact deed0 (n := n) r (X.ex0 (Ex.tok _)) (R.ex0 (Ex.tok _)) hrow hk1 ok hi fin
  rw [if_neg (by simpa using h)]
  clear h
  refine wpAny_execs_cons ?_
  refine wpAny_If ?_
  repeat walk_at "m go"
  refine PySem.P.eq_int ?_
  refine wpAny_truthy_bool ?_
  by_cases h : dv = 1
  · rw [if_pos (by simpa using h)]
    refine deed1 (n := n) r (X.ex0 (Ex.tok _)) (R.ex0 (Ex.tok _)) hrow ok hi fun s' m' cv' data' kvs' pl' ps' X' ok' => ?_
    clear F
    repeat walk_at "m go"
    exact fin _ _ _ _ _ _ _ X' ok'
  rw [if_neg (by simpa using h)]
  clear h
  refine wpAny_execs_cons ?_
  refine wpAny_If ?_
  repeat walk_at "m go"
  refine PySem.P.eq_int ?_
  refine wpAny_truthy_bool ?_
  by_cases h : dv = 2
  · rw [if_pos (by simpa using h)]
    refine deed2 (n := n) r hA (X.ex0 (Ex.tok _)) (R.ex0 (Ex.tok _)) hrow hk1 ok hi (YB.then0 (Ex.tok _)) PB frB nlB fun s' m' cv' data' kvs' pl' ps' X' ok' => ?_
    clear F
    repeat walk_at "m go"
    exact fin _ _ _ _ _ _ _ X' ok'
  rw [if_neg (by simpa using h)]
  clear h
  refine wpAny_execs_cons ?_
  refine wpAny_If ?_
  repeat walk_at "m go"
  refine PySem.P.eq_int ?_
  refine wpAny_truthy_bool ?_
  by_cases h : dv = 3
  · rw [if_pos (by simpa using h)]
    refine deed3 (n := n) r hA (X.ex0 (Ex.tok _)) (R.ex0 (Ex.tok _)) hrow hk1 ok hi fun s' m' cv' data' kvs' pl' ps' X' ok' => ?_
    clear F
    repeat walk_at "m go"
    exact fin _ _ _ _ _ _ _ X' ok'
  rw [if_neg (by simpa using h)]
  clear h
  refine wpAny_execs_cons ?_
  refine wpAny_If ?_
  repeat walk_at "m go"
  refine PySem.P.eq_int ?_
  refine wpAny_truthy_bool ?_
  by_cases h : dv = 4
  · rw [if_pos (by simpa using h)]
    refine deed4 (n := n) r hA (X.ex0 (Ex.tok _)) (R.ex0 (Ex.tok _)) hrow hk1 ok hi fun s' m' cv' data' kvs' pl' ps' X' ok' => ?_
    clear F
    repeat walk_at "m go"
    exact fin _ _ _ _ _ _ _ X' ok'
  rw [if_neg (by simpa using h)]
  clear h
  refine wpAny_execs_cons ?_
  refine wpAny_If ?_
  repeat walk_at "m go"
  refine PySem.P.eq_int ?_
  refine wpAny_truthy_bool ?_
  by_cases h : dv = 5
  · rw [if_pos (by simpa using h)]
    refine deed5 (n := n) r hA (X.ex0 (Ex.tok _)) (R.ex0 (Ex.tok _)) hrow hk ok hi fun s' m' cv' data' kvs' pl' ps' X' ok' => ?_
    clear F
    repeat walk_at "m go"
    exact fin _ _ _ _ _ _ _ X' ok'
  rw [if_neg (by simpa using h)]
  clear h
  refine wpAny_execs_cons ?_
  refine wpAny_If ?_
  repeat walk_at "m go"
  refine PySem.P.eq_int ?_
  refine wpAny_truthy_bool ?_
  by_cases h : dv = 6
  · rw [if_pos (by simpa using h)]
    refine deed6 (n := n) r hA (X.ex0 (Ex.tok _)) ok hi fun s' m' cv' data' kvs' pl' ps' X' ok' => ?_
    clear F
    repeat walk_at "m go"
    exact fin _ _ _ _ _ _ _ X' ok'
  rw [if_neg (by simpa using h)]
  clear h
  refine wpAny_execs_cons ?_
  refine wpAny_If ?_
  repeat walk_at "m go"
  refine PySem.P.eq_int ?_
  refine wpAny_truthy_bool ?_
  by_cases h : dv = 7
  · rw [if_pos (by simpa using h)]
    refine deed7 (n := n) r (X.ex0 (Ex.tok _)) ok hi fun s' m' cv' data' kvs' pl' ps' X' ok' => ?_
    clear F
    repeat walk_at "m go"
    exact fin _ _ _ _ _ _ _ X' ok'
  rw [if_neg (by simpa using h)]
  clear h
  refine deed8a (n := n) r hA (X.ex0 (Ex.tok _)) (R.ex0 (Ex.tok _)) ok hi fun s1 m1 X1 R1 => ?_
  refine deed8b (n := n) r X1 R1 hrow hk2 fun s' m' X' => ?_
  clear F
  repeat walk_at "m go"
  exact fin _ _ _ _ _ _ _ X' ok.keep
end
end Mine

namespace Mine
variable {w : World} {mg mb : Str → Option Value}
variable {s : Shared} {Q : Value → Shared → Prop} {E : Value → Shared → Prop} {A : Around} {n : Nat}

local macro_rules | `(tactic| walk_at "m go") => `(tactic| first
  | with_reducible refine wpAny_execs_cons ?_
  | with_reducible refine wpAny_Return_some ?_
  | with_reducible refine wpAny_Call_NameR ?_
  | with_reducible refine wpAny_items_cons ?_ (by with_unfolding_all rfl)
  | with_reducible refine wpAny_items_nil ?_
  | with_reducible refine Attribute_name ?_
  | with_reducible refine wpAny_Compare1 ?_ (by with_unfolding_all rfl)
  | with_reducible refine wpAny_isTrue_Compare1 ?_ (by with_unfolding_all rfl)
  | with_reducible refine wpAny_isTrue_Not ?_
  | with_reducible refine wpAny_isTrue_BoolOp ?_
  | with_reducible refine wpAny_allTrue_And_cons ?_
  | with_reducible refine wpAny_allTrue_And_nil ?_
  | with_reducible refine wpAny_allTrue_Or_cons ?_
  | with_reducible refine wpAny_allTrue_Or_nil ?_
  | with_reducible refine wpAny_If ?_
  | ((with_reducible show wpAny _ _ (exec (.Expr _ _) _) _ _ _); refine wpAny_Expr_any ?_)
  | ((with_reducible show wpAny _ _ (eval (.Call (.Attribute _ _ _) _ [] _) _) _ _ _); refine MethodCall_ ?_ (by rfl))
  | with_reducible refine wpAny_truthy_bool ?_
  | with_reducible refine wpAny_execs_nil ?_
  | ((with_reducible show wpAny _ _ (PySem.isTrue (.Call _ _ _ _) _ _) _ _ _); refine wpAny_isTrue_value ?_ (by rfl))
  | ((with_reducible show wpAny _ _ (PySem.isTrue (.Name _ _) _ _) _ _ _); refine wpAny_isTrue_value ?_ (by rfl))
  | with_reducible refine wpAny_Assign_Name ?_ (by with_unfolding_all rfl)
  | with_reducible refine wpAny_Constant_int ?_
  | with_reducible refine wpAny_Constant_str ?_
  | with_reducible refine wpAny_Constant_bool ?_
  | with_reducible refine wpAny_Constant_none ?_
  | ((with_reducible show wpAny _ _ (eval (.Name _ _) _) _ _ _); first
    | refine Fm.ldL ‹Fm _ _ _ _ _ _ _ _› (by rfl) ?_
    | refine Fm.ldL ‹Fm _ _ _ _ _ _ _ _› (by assumption) ?_
    | refine Fm.ldG ‹Fm _ _ _ _ _ _ _ _› (by rfl) ?_
    | (refine Fm.ldB (v := .builtin _) ‹Fm _ _ _ _ _ _ _ _› (by rfl) (by rfl) ?_; try dsimp only)
    | (refine Fm.ldB (v := .type _) ‹Fm _ _ _ _ _ _ _ _› (by rfl) (by rfl) ?_; try dsimp only))
  | ((with_reducible show wpAny _ _ (callWith _ (.builtin _) _ _ _) _ _ _); refine PyProof.Rows.callWith_builtin1 ?_ (by with_unfolding_all rfl) (by with_unfolding_all rfl))
  | ((with_reducible show wpAny _ _ (callWith _ (.type _) _ _ _) _ _ _); refine Mine.callWith_ty ?_ (by with_unfolding_all rfl) (by with_unfolding_all rfl))
  | ((with_reducible show wpAny _ _ (callWith _ (.ref _) _ (backTo _ (starEach [] _)) _) _ _ _); refine callWith_K0 (Fm.G ‹Fm _ _ _ _ _ _ _ _›).K (by rfl) ?_)
  | with_reducible refine wpAny_BinOp (op := .Mod) ?_
  | with_reducible refine wpAny_BinOp (op := .FloorDiv) ?_
  | ((with_reducible show wpAny _ _ (callWith _ (.ref _) _ _ _) _ _ _); refine callWith_K (Fm.G ‹Fm _ _ _ _ _ _ _ _›).K (by rfl) ?_))

section
variable {cd : Value} {fa L c T dd d pl rl : Addr} {s0 sT sB s' : Shared} {P : List Addr} {m : Str → Option Value} {data pd : Data} {kvs : List (Str × Value)} {ps : List Addr} {k : Str} {tk : Tok} {cv : Option Value} {row : Row} {wh num dv : Int} {tn td : Tok} {i : Nat}
theorem Lp.sta {Q : Unit → Shared → Prop} {env : Env} {x : Str} {v : Value} (X : Lp w mg mb s0 sT L c T dd d P m cv data kvs pl pd ps s) (h1 : x ≠ "told") (h2 : x ≠ "plain")
    (h : ∀ s' m', m' x = some v → (∀ y, y ≠ x → m' y = m y) → Lp w mg mb s0 sT L c T dd d P m' cv data kvs pl pd ps s' → Ex [L] s s' → Q () s')
    (he : env.locals = L := by rfl) (hl : env.kindOf x = some .local := by rfl) (hk : env.scope.kind = .function := by rfl) (h5 : x ≠ "handed" := by decide) : wpAny (model pw w) A (storeName env x v) Q E s :=
  X.st h1 h2 (fun s' X' Y => h s' _ (if_pos rfl) (fun y hy => if_neg hy) X' Y) he hl hk h5
theorem turn_ev {Q : Flow → Shared → Prop} (r : Rm (n + 40) A) (hA : A.frames = some [LE cd fa L]) (X : Lp w mg mb s0 sT L (L + 1) T dd d P m cv data kvs pl data ps s) (ok : DataOk i data) (hi : i ≤ 20) (mn : m "number" = some (.int num tn))
    (fin : ∀ s' m' cv' data' kvs' pl' ps', Lp w mg mb s0 sT L (L + 1) T dd d P m' cv' data' kvs' pl' data' ps' s' → DataOk (i + 1) data' → Q .next s') :
    wpAny (model pw w) A (execs turnBody (LE cd fa L)) Q (fun _ _ => False) s := by
  refine wpAny_execs_cons ?_
  have F := X.F
  repeat walk_at "m go"
  refine PyProof.Rows.mod_int (by decide) ?_
  refine (X.ex0 (Ex.tok _)).sta (x := "deed") (by decide) (by decide) fun s1 m1 e1 o1 X1 Y1 => ?_
  have mn1 : m1 "number" = some (.int num tn) := (o1 _ (by decide)).trans mn
  have md1 : ∃ td, m1 "deed" = some (.int (num.fmod 9) td) := ⟨_, e1⟩
  obtain ⟨td, md1⟩ := md1
  clear F e1 o1
  have F := X1.F
  repeat walk_at "m go"
  refine PyProof.Rows.floordiv_int (by decide) ?_
  have Y2 : Ex [] s1 { s1 with toks := s1.toks + 1 + 1 } := Ex.tok _
  refine (X1.ex0 Y2).sta (x := "which") (by decide) (by decide) fun s3 m3 e3 o3 X3 Y3 => ?_
  clear F
  have mw3 : ∃ tw, m3 "which" = some (.int (num.fdiv 9) tw) := ⟨_, e3⟩
  have md3 : m3 "deed" = some (.int (num.fmod 9) td) := (o3 _ (by decide)).trans md1
  have mn3 : m3 "number" = some (.int num tn) := (o3 _ (by decide)).trans mn1
  clear md1 mn1 e3 o3
  obtain ⟨tw, mw3⟩ := mw3
  generalize hwh : num.fdiv 9 = wh at mw3
  generalize hdv : num.fmod 9 = dv at md3
  refine wpAny_execs_cons ?_
  refine wpAny_Assign_Name ?_ (by with_unfolding_all rfl)
  refine ids_ev (n := n) (r.mono (by omega)) X3.F fun s4 Y4 => ?_
  have X4 := X3.ex0 Y4
  have F := X4.F
  repeat walk_at "m go"
  refine PyProof.Rows.mod_int (by decide) ?_
  have bk := fmod_bd wh (b := 3) (by decide)
  refine ⟨Ex.tok _, _, _, rfl, bk.1, bk.2, fun tk => ?_⟩
  generalize hk : idS (wh.fmod 3) = k
  refine (X4.ex0 (Ex.tok _)).stC fun s5 X5 Y5 => ?_
  clear F
  have F := X5.F
  repeat walk_at "m go"
  refine rows_ev F ?_
  repeat walk_at "m go"
  refine PyProof.Rows.mod_int (by decide) ?_
  have br := fmod_bd wh (b := 5) (by decide)
  refine ⟨Ex.tok _, _, _, rfl, br.1, br.2, fun rr => ?_⟩
  have hrow := rowS_mem br.1 br.2
  generalize rowS (wh.fmod 5) = row at rr hrow
  generalize rowA (wh.fmod 5) = ra at rr
  obtain ⟨rv, rz, rt, rn⟩ := rowFacts hrow
  have X6 := X5.ex0 (Ex.tok (s5.toks + 1 + 1))
  clear F
  have F := X6.F
  repeat walk_at "m go"
  obtain ⟨xs, px, ax⟩ := rr
  refine list_copy px (by simp; rw [← ax.len]; omega) fun rl s7 Y7 frl prl => ?_
  have Y57 : Ex [] s5 s7 := (Ex.tok _).of0 Y7
  have X7 := X5.ex0 Y57
  have hirl := X6.F.G.hi frl
  have r7 : RowsAt s7.heap rl row := ⟨xs, prl, ax.imp fun _ _ z => z.ex Y7⟩
  have nrlN := X6.newN frl
  have nrlpl := X6.newl frl
  have nrlL := X6.F.neL frl
  clear F
  repeat walk_at "m go"
  refine X7.sta (x := "rows") (by decide) (by decide) fun s8 m8 mr8 o8 X8 Y8 => ?_
  have mw8 : m8 "which" = some (.int wh tw) := (o8 _ (by decide)).trans mw3
  have md8 : m8 "deed" = some (.int dv td) := (o8 _ (by decide)).trans md3
  have mn8 : m8 "number" = some (.int num tn) := (o8 _ (by decide)).trans mn3
  clear o8 mw3 md3 mn3
  have R8 : Rw s8 P pl m8 rl row wh := ⟨mr8, r7.ex Y8 hirl.tab (by simpa using nrlL), hirl, fun z => nrlN (by simp [z]), fun z => nrlpl (by simp [z]), by omega, tw, mw8⟩
  have F := X8.F
  repeat walk_at "m go"
  refine wpAny_BinOp ?_
  repeat walk_at "m go"
  refine PyProof.Rows.mod_int (by decide) ?_
  refine PyProof.Rows.add_int ?_
  have Y8t : Ex [] s8 { s8 with toks := s8.toks + 1 + 1 + 1 + 1 } := Ex.tok _
  refine (X8.ex0 Y8t).stR (x := "code") (R8.ex0 Y8t) (by decide) (by decide) (by decide) (by decide) fun s9 X9 R9 Y9 => ?_
  clear F
  have Y59 : Ex [L, L + 1] s5 s9 := by
    have h1 : Ex [L] s5 s9 := (Y57.of0 Y8).same (Y8t.of0 Y9)
    refine h1.weaken (by simp) fun b hb => ?_
    simp at hb
    rcases hb with rfl | rfl
    · exact X9.F.hL
    · exact X9.hic
  have nl5 : ∀ b ∈ [L, L + 1], ∀ xs, ¬ s5.heap.PlainList b xs := by
    intro b hb xs
    simp at hb
    rcases hb with rfl | rfl
    · exact Ns.notList X5.F.N
    · exact IsCell.notList X5.cell
  have frl5 : s5.heap.get? rl = none := frl
  refine wpAny_execs_cons ?_
  refine check_ev (n := n) r X9 (if_pos rfl) fun s10 Y10 => ?_
  have X10 := X9.ex0 Y10
  have R10 := R9.ex0 Y10
  refine wpAny_execs_cons ?_
  refine deeds (n := n) r hA X10 R10 hrow hk.symm ok hi (dv := dv) (td := td) ?_ (Y59.then0 Y10) X5.plain frl5 nl5 fun s11 m11 cv11 data11 kvs11 pl11 ps11 X11 ok11 => ?_
  · show (if _ then _ else _) = _
    rw [if_neg (by decide)]
    exact md8
  have hlen : data11.length ≤ 50 := by have := ok11.1; omega
  have F := X11.F
  have e := X11.mt
  have e' := X11.mp
  repeat walk_at "m go"
  refine ⟨F.G.K, law_same_call (n := n) (r.mono (by omega)) F.G X11.full X11.plain hlen fun s12 Y12 => ?_⟩
  clear F e e'
  refine wpAny_truthy_bool ?_
  repeat walk_at "m go"
  rw [if_neg (by simp)]
  repeat walk_at "m go"
  exact fin s12 _ _ _ _ _ _ (X11.ex0 Y12) ok11
end
end Mine

namespace Mine
variable {w : World} {mg mb : Str → Option Value}
variable {s : Shared} {Q : Value → Shared → Prop} {E : Value → Shared → Prop} {A : Around} {n : Nat}

local macro_rules | `(tactic| walk_at "m go") => `(tactic| first
  | with_reducible refine wpAny_execs_cons ?_
  | with_reducible refine wpAny_Return_some ?_
  | with_reducible refine wpAny_Call_NameR ?_
  | with_reducible refine wpAny_items_cons ?_ (by with_unfolding_all rfl)
  | with_reducible refine wpAny_items_nil ?_
  | with_reducible refine Attribute_name ?_
  | with_reducible refine wpAny_Compare1 ?_ (by with_unfolding_all rfl)
  | with_reducible refine wpAny_isTrue_Compare1 ?_ (by with_unfolding_all rfl)
  | with_reducible refine wpAny_isTrue_Not ?_
  | with_reducible refine wpAny_isTrue_BoolOp ?_
  | with_reducible refine wpAny_allTrue_And_cons ?_
  | with_reducible refine wpAny_allTrue_And_nil ?_
  | with_reducible refine wpAny_allTrue_Or_cons ?_
  | with_reducible refine wpAny_allTrue_Or_nil ?_
  | with_reducible refine wpAny_If ?_
  | ((with_reducible show wpAny _ _ (exec (.Expr _ _) _) _ _ _); refine wpAny_Expr_any ?_)
  | ((with_reducible show wpAny _ _ (eval (.Call (.Attribute _ _ _) _ [] _) _) _ _ _); refine MethodCall_ ?_ (by rfl))
  | with_reducible refine wpAny_truthy_bool ?_
  | with_reducible refine wpAny_execs_nil ?_
  | ((with_reducible show wpAny _ _ (PySem.isTrue (.Call _ _ _ _) _ _) _ _ _); refine wpAny_isTrue_value ?_ (by rfl))
  | ((with_reducible show wpAny _ _ (PySem.isTrue (.Name _ _) _ _) _ _ _); refine wpAny_isTrue_value ?_ (by rfl))
  | with_reducible refine wpAny_Assign_Name ?_ (by with_unfolding_all rfl)
  | with_reducible refine wpAny_Constant_int ?_
  | with_reducible refine wpAny_Constant_str ?_
  | with_reducible refine wpAny_Constant_bool ?_
  | with_reducible refine wpAny_Constant_none ?_
  | ((with_reducible show wpAny _ _ (eval (.Name _ _) _) _ _ _); first
    | refine Fm.ldL ‹Fm _ _ _ _ _ _ _ _› (by rfl) ?_
    | refine Fm.ldL ‹Fm _ _ _ _ _ _ _ _› (by assumption) ?_
    | refine Fm.ldG ‹Fm _ _ _ _ _ _ _ _› (by rfl) ?_
    | (refine Fm.ldB (v := .builtin _) ‹Fm _ _ _ _ _ _ _ _› (by rfl) (by rfl) ?_; try dsimp only)
    | (refine Fm.ldB (v := .type _) ‹Fm _ _ _ _ _ _ _ _› (by rfl) (by rfl) ?_; try dsimp only))
  | ((with_reducible show wpAny _ _ (callWith _ (.builtin _) _ _ _) _ _ _); refine PyProof.Rows.callWith_builtin1 ?_ (by with_unfolding_all rfl) (by with_unfolding_all rfl))
  | ((with_reducible show wpAny _ _ (callWith _ (.type _) _ _ _) _ _ _); refine Mine.callWith_ty ?_ (by with_unfolding_all rfl) (by with_unfolding_all rfl))
  | ((with_reducible show wpAny _ _ (callWith _ (.ref _) _ (backTo _ (starEach [] _)) _) _ _ _); refine callWith_K0 (Fm.G ‹Fm _ _ _ _ _ _ _ _›).K (by rfl) ?_)
  | with_reducible refine wpAny_BinOp (op := .Mod) ?_
  | with_reducible refine wpAny_BinOp (op := .FloorDiv) ?_
  | ((with_reducible show wpAny _ _ (callWith _ (.ref _) _ _ _) _ _ _); refine callWith_K (Fm.G ‹Fm _ _ _ _ _ _ _ _›).K (by rfl) ?_))

theorem range_end {prog : Program} {it : Addr} {x left step : Int} {Q : Option Value → Shared → Prop} (hh : A.handled = none) (hit : IsRangeIter s.heap it x left step) (hleft : left ≤ 0)
    (hQ : ∀ h', (∀ b o, s.heap.get? b = some o → h'.get? b = some o) → Q none { s with heap := h' }) : wpAny (model prog w) A (pyNext (.ref it)) Q E s := by
  have hT : s.TypeIs (.ref it) "range_iterator" := ⟨_, hit, rfl⟩
  unfold pyNext
  refine wpAny_bind (wpAny_attempt ?_)
  refine wpAny_callSpecial?_slot (name := Str.ofString "__next__") hT PySem.F.slot_range_iterator_next ?_
  refine wpAny_call_entry PySem.F.slot_range_iterator_next hT PySem.F.entry_range_iterator_next ?_ (PySem.F.args_range_iterator_next_1 _)
  show wpAny _ _ (field (.ref it) 0 >>= _) _ _ s
  refine wpAny_bind (wpAny_field hit rfl (x := rawInt x) rfl ?_)
  show wpAny _ _ (field (.ref it) 1 >>= _) _ _ s
  refine wpAny_bind (wpAny_field hit rfl (x := rawInt left) rfl ?_)
  show wpAny _ _ (field (.ref it) 2 >>= _) _ _ s
  refine wpAny_bind (wpAny_field hit rfl (x := rawInt step) rfl ?_)
  show wpAny _ _ (if left ≤ 0 then _ else _) _ _ s
  rw [if_pos hleft]
  refine wpAny_bind (wpAny_rule (wpAny_bind ?_))
  show wpAny _ _ (newExc (.type "StopIteration") [] >>= _) _ _ _
  refine wpAny_bind ?_
  simp only [newExc, newTuple]
  refine wpAny_bind (wpAny_newObj_type ?_ (by size_fits))
  refine wpAny_bind (m := firstArgMember _ _) (wpAny_of_eq (a := Value.none) (by first | rfl | (simp only [firstArgMember]; rfl)) ?_)
  refine wpAny_newObj_type ?_ (by size_fits)
  simp only [raiseNew]
  refine wpAny_bind (wpAny_handled ?_)
  first | rw [show A.in1.handled = none from hh] | rw [hh]
  refine wpAny_bind (wpAny_pure (wpAny_throw ?_))
  refine wpAny_bind (wpAny_isInstance (T := "StopIteration") (b := true) ⟨_, Heap.get?_push_size _ rfl, rfl⟩ isSubtype_stop ?_)
  exact wpAny_pure (hQ _ fun b o e => Heap.get?_push_of_some _ (Heap.get?_push_of_some _ e))
theorem for_range {Q : Flow → Shared → Prop} {x : Str} {px pos : Pos} {iter : Expr} {body : List Stmt} {env : Env} (hh : A.handled = none)
    (h : wpAny (model pw w) A (eval iter env) (fun xv s₁ => ∃ (ra : Addr) (b : Int) (t u v : Tok), xv = .ref ra ∧ IsRange s₁.heap ra 0 b 1 t u v ∧ 0 ≤ b ∧ b < 1000 ∧ Gd w mg mb s₁ ∧ ∀ it s₂, Ex [] s₁ s₂ → s₁.heap.get? it = none →
      ∃ (Inv : Nat → Shared → Prop), Inv 0 s₂ ∧
      (∀ j s s', Inv j s → Ex [it] s s' → (∃ o fs, s.heap.get? it = some o ∧ o.data = .fields fs) → Inv j s') ∧
      (∀ (j : Nat) tk s₂, (j : Int) < b → Inv j s₂ → wpAny (model pw w) A (assign (.Name x px) env (.int j tk)) (fun _ s₃ => wpAny (model pw w) A (execs body env) (fun f s₄ => f = .next ∧ Inv (j + 1) s₄ ∧ ∃ W, Ex W s₂ s₄ ∧ it ∉ W) (fun _ _ => False) s₃) (fun _ _ => False) s₂) ∧
      (∀ s₂, Inv b.toNat s₂ → Q .next s₂)) E s) (hs : ∀ x, foldedSetIterable iter env x = pure x := by intro _; rfl) :
    wpAny (model pw w) A (exec (.For (.Name x px) iter body [] pos) env) Q E s := by
  refine wpAny_For (wpAny_mono h (fun xv s₁ h1 => ?_) fun _ _ z => z) hs
  obtain ⟨ra, b, t, u, v, rfl, hr, hb0, hb1, G, hgo⟩ := h1
  refine wpAny_pyIter_range hr (small_one (by omega) (by omega) (by omega) (by omega)) ?_
  have fit : s₁.heap.get? s₁.heap.objs.size = none := get_size _
  have hiit := G.hi fit
  generalize hit0 : s₁.heap.objs.size = it at fit hiit ⊢
  have Y1 : Ex [] s₁ { s₁ with heap := s₁.heap.push { cls := .type "range_iterator", data := .fields #[rawInt 0, rawInt (Builtin.Range.rangeSize 0 b 1), rawInt 1] } } := Ex.push _ s₁.toks
  obtain ⟨Inv, h0, hst, turn, fin⟩ := hgo it _ Y1 fit
  have hsz : Builtin.Range.rangeSize 0 b 1 = b := by
    rw [rangeSize_one]
    split <;> omega
  rw [hsz] at Y1 h0 ⊢
  refine codeAny_forLoop_any (fun k s => ∃ j : Nat, k = b.toNat - j ∧ (j : Int) ≤ b ∧ IsRangeIter s.heap it j (b - j) 1 ∧ Inv j s) ?_ b.toNat ⟨0, by simp, by simpa using hb0, by rw [← hit0]; simpa using Heap.get?_push_size s₁.heap rfl, h0⟩
  rintro k s2 ⟨j, rfl, hj, st, inv⟩
  by_cases hlt : (j : Int) < b
  · refine wpAny_pyNext_range_item st (by omega) fun h' st' sb => ?_
    have Y3 : Ex [it] s2 { s2 with heap := h', toks := s2.toks + 1 } := Ex.turn st (by rintro (⟨h, _⟩ | ⟨h, _⟩) <;> simp at h) hiit sb ⟨_, st'⟩
    refine wpAny_of_eq (rfl : letOwnedTupleGo (.Name x px) (.ref it) (.int j s2.toks) = pure ()) ?_
    refine wpAny_mono (turn j s2.toks _ hlt (hst j _ _ inv Y3 ⟨_, _, st, rfl⟩)) (fun _ s4 h4 => ?_) fun _ _ z => z.elim
    refine wpAny_mono h4 (fun f s5 h5 => ?_) fun _ _ z => z.elim
    obtain ⟨rfl, inv5, W, Y5, hW⟩ := h5
    refine ⟨b.toNat - (j + 1), by omega, j + 1, rfl, by omega, ?_, inv5⟩
    have := Y5.get st' hiit.tab hW (by simp)
    have e1 : ((j : Int) + 1) = ((j + 1 : Nat) : Int) := by omega
    have e2 : b - (j : Int) - 1 = b - ((j + 1 : Nat) : Int) := by omega
    rw [e1, e2] at this
    exact this
  · refine range_end hh st (by omega) fun h' kp => ?_
    refine wpAny_execs_nil ?_
    have Y3 : Ex [it] s2 { s2 with heap := h', toks := s2.toks } := ex_self (Ex.of_keep kp) hiit
    have e : j = b.toNat := by omega
    rw [e] at inv
    exact fin _ (hst _ _ _ inv Y3 ⟨_, _, st, rfl⟩)
theorem xdata_empty {N : List Addr} (r : Rm (n + 2) A) (G : Gd w mg mb s) (hN : ∀ b ∈ N, ∃ o, s.heap.get? b = some o) (h : ∀ T dd d s', Ex [] s s' → s.heap.get? T = none → s.heap.get? dd = none → s.heap.get? d = none → Full w s' T dd d N [] [] → Q (.ref T) s') :
    wpAny (model pw w) A (call (.ref 451) []) Q E s := by
  refine (r.mono (by omega : 1 ≤ n + 2)).leaf (xdata_nil0 G.K fun T dd d hs tk k s1 ge Y fT fdd fd eT edd ed => ?_)
  have ne : ∀ b, s.heap.get? b = none → b ∉ N := fun b e m => by obtain ⟨o, e'⟩ := hN b m; rw [e] at e'; cases e'
  have nddd : dd ≠ d := fun z => by rw [z, ed] at edd; simp at edd
  exact h T dd d s1 Y fT fdd fd ⟨⟨⟨eT, hs, tk, k, edd⟩, ⟨_, #[], 0, ed, ⟨rfl, rfl, rfl⟩, rfl, fun _ he => by simp at he, .nil, List.nodup_nil⟩, G.hi fT, G.hi fdd, G.hi fd, nddd, by simp⟩, .nil, List.nodup_nil, ne _ fT, ne _ fdd, ne _ fd⟩
end Mine

namespace Mine
variable {w : World} {mg mb : Str → Option Value}
variable {s : Shared} {Q : Value → Shared → Prop} {E : Value → Shared → Prop} {A : Around} {n : Nat}

local macro_rules | `(tactic| walk_at "m go") => `(tactic| first
  | with_reducible refine wpAny_execs_cons ?_
  | with_reducible refine wpAny_Return_some ?_
  | with_reducible refine wpAny_Call_NameR ?_
  | with_reducible refine wpAny_items_cons ?_ (by with_unfolding_all rfl)
  | with_reducible refine wpAny_items_nil ?_
  | with_reducible refine Attribute_name ?_
  | with_reducible refine wpAny_Compare1 ?_ (by with_unfolding_all rfl)
  | with_reducible refine wpAny_isTrue_Compare1 ?_ (by with_unfolding_all rfl)
  | with_reducible refine wpAny_isTrue_Not ?_
  | with_reducible refine wpAny_isTrue_BoolOp ?_
  | with_reducible refine wpAny_allTrue_And_cons ?_
  | with_reducible refine wpAny_allTrue_And_nil ?_
  | with_reducible refine wpAny_allTrue_Or_cons ?_
  | with_reducible refine wpAny_allTrue_Or_nil ?_
  | with_reducible refine wpAny_If ?_
  | ((with_reducible show wpAny _ _ (exec (.Expr _ _) _) _ _ _); refine wpAny_Expr_any ?_)
  | ((with_reducible show wpAny _ _ (eval (.Call (.Attribute _ _ _) _ [] _) _) _ _ _); refine MethodCall_ ?_ (by rfl))
  | with_reducible refine wpAny_truthy_bool ?_
  | with_reducible refine wpAny_execs_nil ?_
  | ((with_reducible show wpAny _ _ (PySem.isTrue (.Call _ _ _ _) _ _) _ _ _); refine wpAny_isTrue_value ?_ (by rfl))
  | ((with_reducible show wpAny _ _ (PySem.isTrue (.Name _ _) _ _) _ _ _); refine wpAny_isTrue_value ?_ (by rfl))
  | with_reducible refine wpAny_Assign_Name ?_ (by with_unfolding_all rfl)
  | with_reducible refine wpAny_Constant_int ?_
  | with_reducible refine wpAny_Constant_str ?_
  | with_reducible refine wpAny_Constant_bool ?_
  | with_reducible refine wpAny_Constant_none ?_
  | ((with_reducible show wpAny _ _ (eval (.Name _ _) _) _ _ _); first
    | refine Fm.ldL ‹Fm _ _ _ _ _ _ _ _› (by rfl) ?_
    | refine Fm.ldL ‹Fm _ _ _ _ _ _ _ _› (by assumption) ?_
    | refine Fm.ldG ‹Fm _ _ _ _ _ _ _ _› (by rfl) ?_
    | (refine Fm.ldB (v := .builtin _) ‹Fm _ _ _ _ _ _ _ _› (by rfl) (by rfl) ?_; try dsimp only)
    | (refine Fm.ldB (v := .type _) ‹Fm _ _ _ _ _ _ _ _› (by rfl) (by rfl) ?_; try dsimp only))
  | ((with_reducible show wpAny _ _ (callWith _ (.builtin _) _ _ _) _ _ _); refine PyProof.Rows.callWith_builtin1 ?_ (by with_unfolding_all rfl) (by with_unfolding_all rfl))
  | ((with_reducible show wpAny _ _ (callWith _ (.type _) _ _ _) _ _ _); refine Mine.callWith_ty ?_ (by with_unfolding_all rfl) (by with_unfolding_all rfl))
  | ((with_reducible show wpAny _ _ (callWith _ (.ref _) _ (backTo _ (starEach [] _)) _) _ _ _); refine callWith_K0 (Fm.G ‹Fm _ _ _ _ _ _ _ _›).K (by rfl) ?_)
  | with_reducible refine wpAny_BinOp (op := .Mod) ?_
  | with_reducible refine wpAny_BinOp (op := .FloorDiv) ?_
  | ((with_reducible show wpAny _ _ (callWith _ (.ref _) _ _ _) _ _ _); refine callWith_K (Fm.G ‹Fm _ _ _ _ _ _ _ _›).K (by rfl) ?_))

def HandL (h : Heap) (L : Addr) (rows : List Row) (hs : List Value) : Prop := All2 (fun row v => ∃ X dX, v = .ref X ∧ TagsAt h X dX row ∧ Hi X ∧ Hi dX ∧ row.length ≤ 100 ∧ dX ≠ L) rows hs
theorem HandL.tags {h : Heap} {L : Addr} {rows : List Row} {hs : List Value} (a : HandL h L rows hs) : TagsList h rows hs := a.imp fun _ _ ⟨X, dX, e, t, h1, h2, h3, _⟩ => ⟨X, dX, e, t, h1, h2, h3⟩
theorem HandL.ex {W : List Addr} {s s' : Shared} {L : Addr} {rows : List Row} {hs : List Value} (Y : Ex W s s') (a : HandL s.heap L rows hs) (hW : ∀ X dX row, TagsAt s.heap X dX row → dX ≠ L → X ∉ W ∧ dX ∉ W) : HandL s'.heap L rows hs :=
  a.imp fun _ _ ⟨X, dX, e, t, h1, h2, h3, h4⟩ => ⟨X, dX, e, t.ex Y h1 h2 (hW _ _ _ t h4).1 (hW _ _ _ t h4).2, h1, h2, h3, h4⟩
/-- the law's frame before the turns -/
structure Pre (w : World) (mg mb : Str → Option Value) (s0 : Shared) (L H pl D2 : Addr) (m : Str → Option Value) (data : Data) (ps : List Addr) (rows : List Row) (hs nums : List Value) (s : Shared) : Prop where
  F : Fm w mg mb s0 L m [] s
  mp : m "plain" = some (.ref pl)
  mh : m "handed" = some (.ref H)
  mn : m "numbers" = some (.ref D2)
  plain : Plain s.heap pl data ps
  hl : s.heap.PlainList H hs.toArray
  hiH : Hi H
  tl : HandL s.heap L rows hs
  n2 : s.heap.PlainList D2 nums.toArray
  hi2 : Hi D2
  nHp : H ≠ pl
  n2H : D2 ≠ H
  n2p : D2 ≠ pl
  new : ∀ b ∈ H :: pl :: ps, s0.heap.get? b = none
  cell : s.heap.IsCell (L + 1) none
  hic : Hi (L + 1)
  cnew : s0.heap.get? (L + 1) = none
  ne : ∀ kr ∈ data, kr.2 ≠ []
namespace Pre
variable {s0 s' : Shared} {L H pl D2 : Addr} {m m' : Str → Option Value} {data : Data} {ps : List Addr} {rows : List Row} {hs nums : List Value}
theorem ex0 (X : Pre w mg mb s0 L H pl D2 m data ps rows hs nums s) (Y : Ex [] s s') : Pre w mg mb s0 L H pl D2 m data ps rows hs nums s' :=
  ⟨X.F.go Y, X.mp, X.mh, X.mn, X.plain.ex0 Y, PlainList.ex Y X.hl X.hiH (by simp), X.hiH, X.tl.ex Y (by simp), PlainList.ex Y X.n2 X.hi2 (by simp), X.hi2, X.nHp, X.n2H, X.n2p, X.new, IsCell.ex Y X.cell X.hic (by simp), X.hic, X.cnew, X.ne⟩
theorem exL (X : Pre w mg mb s0 L H pl D2 m data ps rows hs nums s) (Y : Ex [L] s s') (F' : Fm w mg mb s0 L m' [] s') (h1 : m' "plain" = some (.ref pl)) (h2 : m' "handed" = some (.ref H)) (h3 : m' "numbers" = some (.ref D2)) : Pre w mg mb s0 L H pl D2 m' data ps rows hs nums s' := by
  have nl : ∀ b xs, s.heap.PlainList b xs → b ∉ [L] := fun b xs l z => Ns.notList X.F.N (List.mem_singleton.mp z ▸ l)
  refine ⟨F', h1, h2, h3, X.plain.exQ Y (fun b hb xs => by rw [List.mem_singleton.mp hb]; exact Ns.notList X.F.N), PlainList.ex Y X.hl X.hiH (nl _ _ X.hl), X.hiH, X.tl.ex Y fun Z dZ row t hn => ⟨fun z => ?_, by simpa using hn⟩, PlainList.ex Y X.n2 X.hi2 (nl _ _ X.n2), X.hi2, X.nHp, X.n2H, X.n2p, X.new, IsCell.ex Y X.cell X.hic (by simpa using Ns.notCell X.F.N X.cell), X.hic, X.cnew, X.ne⟩
  obtain ⟨xs, ⟨n, e⟩, _⟩ := t
  exact Ns.ne_seq X.F.N ⟨_, n, e, rfl⟩ (List.mem_singleton.mp z)
theorem sta {Q : Unit → Shared → Prop} {env : Env} {x : Str} {v : Value} (X : Pre w mg mb s0 L H pl D2 m data ps rows hs nums s) (h1 : x ≠ "plain") (h2 : x ≠ "handed") (h3 : x ≠ "numbers")
    (h : ∀ s' m', m' x = some v → (∀ y, y ≠ x → m' y = m y) → Pre w mg mb s0 L H pl D2 m' data ps rows hs nums s' → Ex [L] s s' → Q () s')
    (he : env.locals = L := by rfl) (hl : env.kindOf x = some .local := by rfl) (hk : env.scope.kind = .function := by rfl) : wpAny (model pw w) A (storeName env x v) Q E s :=
  X.F.st (fun s' F' Y => h s' _ (if_pos rfl) (fun y hy => if_neg hy) (X.exL Y F' ((if_neg (Ne.symm h1)).trans X.mp) ((if_neg (Ne.symm h2)).trans X.mh) ((if_neg (Ne.symm h3)).trans X.mn)) Y) he hl hk
/-- handed gets one more -/
theorem appH {T dT : Addr} {row : Row} (X : Pre w mg mb s0 L H pl D2 m data ps rows hs nums s) (Y : Ex [H] s s') (l' : s'.heap.PlainList H (hs ++ [Value.ref T]).toArray) (tg : TagsAt s.heap T dT row) (hT : Hi T) (hdT : Hi dT) (hz : row.length ≤ 100) (hn : dT ≠ L) : Pre w mg mb s0 L H pl D2 m data ps (rows ++ [row]) (hs ++ [Value.ref T]) nums s' := by
  have nL : L ≠ H := fun z => Ns.notList X.F.N (z ▸ X.hl)
  obtain ⟨nH, eH⟩ := X.hl
  have tagH : ∀ v ∈ hs, ∃ Z dZ row, v = .ref Z ∧ TagsAt s.heap Z dZ row := fun v hv => by
    have a := X.tl
    obtain ⟨row, _, Z, dZ, e, t, _⟩ := All2.mem a hv
    exact ⟨Z, dZ, row, e, t⟩
  have part : ∀ kr p, kr ∈ data → PartAt s.heap kr p → PartAt s'.heap kr p := by
    rintro ⟨k0, row0⟩ p hkr ⟨l, t, pp, ⟨xs, ⟨n, e⟩, a⟩, hp, hl, hz⟩
    dsimp only at pp a hz
    have np : p ≠ H := fun z => by
      obtain ⟨n, e⟩ := pp
      rw [z, eH] at e
      simp at e
      obtain ⟨rfl, _⟩ := e
      obtain ⟨Z, dZ, row, e, _⟩ := tagH (.str k0 t) (.head _)
      cases e
    have nlH : l ≠ H := fun z => by
      rw [z, eH] at e
      simp at e
      obtain ⟨rfl, _⟩ := e
      have ne : row0 ≠ [] := X.ne _ hkr
      cases a with
      | nil => exact ne rfl
      | cons h _ =>
        obtain ⟨Z, dZ, row, e1, ys, ⟨n1, e2⟩, _⟩ := tagH _ (.head _)
        obtain ⟨x, n2, tc, tv, e3, _, e4⟩ := h
        rw [e1] at e3
        cases e3
        rw [e2] at e4
        cases e4
    exact ⟨l, t, PlainList.ex Y pp hp (by simpa using np), RowsAt.ex Y ⟨xs, ⟨n, e⟩, a⟩ hl.tab (by simpa using nlH), hp, hl, hz⟩
  refine ⟨X.F.goN Y (by simpa using nL) (by simpa using X.new H (.head _)), X.mp, X.mh, X.mn, ⟨PlainList.ex Y X.plain.lst X.plain.hi (by simpa using Ne.symm X.nHp), X.plain.hi, X.plain.parts.mapMem fun kr p h1 _ z => part kr p h1 z, X.plain.nd⟩, l', X.hiH, ?_, PlainList.ex Y X.n2 X.hi2 (by simpa using X.n2H), X.hi2, X.nHp, X.n2H, X.n2p, X.new, IsCell.ex Y X.cell X.hic (by simpa using fun z : L + 1 = H => IsCell.notList X.cell (z ▸ X.hl)), X.hic, X.cnew, X.ne⟩
  have tgH : ∀ Z dZ row, TagsAt s.heap Z dZ row → Z ∉ [H] ∧ dZ ∉ [H] := fun Z dZ row t => by
    obtain ⟨a, b⟩ := t.notList X.hl
    exact ⟨by simpa using a, by simpa using b⟩
  exact (X.tl.ex Y fun Z dZ row t _ => tgH Z dZ row t).snoc ⟨T, dT, rfl, tg.ex Y hT hdT (tgH _ _ _ tg).1 (tgH _ _ _ tg).2, hT, hdT, hz, hn⟩
/-- plain gets one more -/
theorem appP {q l : Addr} {k : Str} {t : Tok} {row : Row} (X : Pre w mg mb s0 L H pl D2 m data ps rows hs nums s) (Y : Ex [pl] s s') (l' : s'.heap.PlainList pl ((ps ++ [q]).map Value.ref).toArray) (hq : s.heap.PlainList q #[.str k t, .ref l]) (hr : RowsAt s.heap l row) (hiq : Hi q) (hil : Hi l) (hz : row.length ≤ 100) (hne : row ≠ [])
    (nq : q ≠ pl) (nlp : l ≠ pl) (nqp : q ∉ ps) (hq0 : s0.heap.get? q = none) : Pre w mg mb s0 L H pl D2 m (data ++ [(k, row)]) (ps ++ [q]) rows hs nums s' := by
  have nL : L ≠ pl := fun z => Ns.notList X.F.N (z ▸ X.plain.lst)
  refine ⟨X.F.goN Y (by simpa using nL) (by simpa using X.new pl (.tail _ (.head _))), X.mp, X.mh, X.mn, ⟨l', X.plain.hi, (X.plain.parts.mapMem fun kr p hkr hp z => ?_).snoc ⟨l, t, PlainList.ex Y hq hiq (by simpa using nq), hr.ex Y hil.tab (by simpa using nlp), hiq, hil, hz⟩, ?_⟩, PlainList.ex Y X.hl X.hiH (by simpa using X.nHp), X.hiH, X.tl.ex Y fun Z dZ row t _ => ?_, PlainList.ex Y X.n2 X.hi2 (by simpa using X.n2p), X.hi2, X.nHp, X.n2H, X.n2p, ?_, IsCell.ex Y X.cell X.hic (by simpa using fun z : L + 1 = pl => IsCell.notList X.cell (z ▸ X.plain.lst)), X.hic, X.cnew, ?_⟩
  · have zz := z
    obtain ⟨l, t, pp, rr, hp', hl', hz'⟩ := z
    have npl : p ≠ pl := PartAt.notPlain X.plain.lst zz
    have nl : l ≠ pl := by
      have Pp := X.plain.parts
      have Pl := X.plain.lst
      cases Pp with
      | nil => cases hp
      | cons h0 _ => exact RowsAt.notPlain (data := []) rr Pl h0
    exact ⟨l, t, PlainList.ex Y pp hp' (by simpa using npl), rr.ex Y hl'.tab (by simpa using nl), hp', hl', hz'⟩
  · rw [List.nodup_append]
    refine ⟨X.plain.nd, by simp, fun a ha b hb => ?_⟩
    rw [List.mem_singleton.mp hb]
    exact fun z => nqp (z ▸ ha)
  · obtain ⟨a, b⟩ := t.notList X.plain.lst
    exact ⟨by simpa using a, by simpa using b⟩
  · intro b hb
    simp only [List.mem_cons, List.mem_append, List.not_mem_nil, or_false] at hb
    rcases hb with h | h | h | h
    · exact X.new b (by simp [h])
    · exact X.new b (by simp [h])
    · exact X.new b (by simp [h])
    · rw [h]; exact hq0
  · intro kr hkr
    rcases List.mem_append.mp hkr with h | h
    · exact X.ne kr h
    · rw [List.mem_singleton.mp h]; exact hne
/-- an iterator is turned -/
theorem exIt {it : Addr} (X : Pre w mg mb s0 L H pl D2 m data ps rows hs nums s) (Y : Ex [it] s s') (l : ∃ o fs, s.heap.get? it = some o ∧ o.data = .fields fs) (h0 : s0.heap.get? it = none) : Pre w mg mb s0 L H pl D2 m data ps rows hs nums s' := by
  obtain ⟨ob, fs, eb, hb⟩ := l
  have no : ∀ a o, s.heap.get? a = some o → (∀ fs, o.data ≠ .fields fs) → a ∉ [it] := fun a o e h m => by
    rw [List.mem_singleton.mp m, eb] at e; cases e; exact h _ hb
  have nl : ∀ b xs, s.heap.PlainList b xs → b ∉ [it] := fun b xs ⟨n, e⟩ => no _ _ e (by simp)
  have nL : L ∉ [it] := by
    obtain ⟨o, es, ep, ho, hd, _⟩ := X.F.N
    exact no _ _ ho (by rw [hd]; simp)
  have nc : L + 1 ∉ [it] := by
    obtain ⟨o, e, d⟩ := X.cell
    exact no _ _ e (by rw [d]; simp)
  exact ⟨X.F.goN Y nL (by simpa using h0), X.mp, X.mh, X.mn, X.plain.exQ Y (fun b hb xs l => nl _ _ l hb), PlainList.ex Y X.hl X.hiH (nl _ _ X.hl), X.hiH, X.tl.ex Y fun Z dZ row t _ => by
    obtain ⟨ys, ⟨n, e⟩, _, e2⟩ := t
    exact ⟨no _ _ e (by simp), no _ _ e2 (by simp)⟩, PlainList.ex Y X.n2 X.hi2 (nl _ _ X.n2), X.hi2, X.nHp, X.n2H, X.n2p, X.new, IsCell.ex Y X.cell X.hic nc, X.hic, X.cnew, X.ne⟩
end Pre
end Mine

namespace Mine
variable {w : World} {mg mb : Str → Option Value}
variable {s : Shared} {Q : Value → Shared → Prop} {E : Value → Shared → Prop} {A : Around} {n : Nat}

local macro_rules | `(tactic| walk_at "m go") => `(tactic| first
  | with_reducible refine wpAny_execs_cons ?_
  | with_reducible refine wpAny_Return_some ?_
  | with_reducible refine wpAny_Call_NameR ?_
  | with_reducible refine wpAny_items_cons ?_ (by with_unfolding_all rfl)
  | with_reducible refine wpAny_items_nil ?_
  | with_reducible refine Attribute_name ?_
  | with_reducible refine wpAny_Compare1 ?_ (by with_unfolding_all rfl)
  | with_reducible refine wpAny_isTrue_Compare1 ?_ (by with_unfolding_all rfl)
  | with_reducible refine wpAny_isTrue_Not ?_
  | with_reducible refine wpAny_isTrue_BoolOp ?_
  | with_reducible refine wpAny_allTrue_And_cons ?_
  | with_reducible refine wpAny_allTrue_And_nil ?_
  | with_reducible refine wpAny_allTrue_Or_cons ?_
  | with_reducible refine wpAny_allTrue_Or_nil ?_
  | with_reducible refine wpAny_If ?_
  | ((with_reducible show wpAny _ _ (exec (.Expr _ _) _) _ _ _); refine wpAny_Expr_any ?_)
  | ((with_reducible show wpAny _ _ (eval (.Call (.Attribute _ _ _) _ [] _) _) _ _ _); refine MethodCall_ ?_ (by rfl))
  | with_reducible refine wpAny_truthy_bool ?_
  | with_reducible refine wpAny_execs_nil ?_
  | ((with_reducible show wpAny _ _ (PySem.isTrue (.Call _ _ _ _) _ _) _ _ _); refine wpAny_isTrue_value ?_ (by rfl))
  | ((with_reducible show wpAny _ _ (PySem.isTrue (.Name _ _) _ _) _ _ _); refine wpAny_isTrue_value ?_ (by rfl))
  | with_reducible refine wpAny_Assign_Name ?_ (by with_unfolding_all rfl)
  | with_reducible refine wpAny_Constant_int ?_
  | with_reducible refine wpAny_Constant_str ?_
  | with_reducible refine wpAny_Constant_bool ?_
  | with_reducible refine wpAny_Constant_none ?_
  | ((with_reducible show wpAny _ _ (eval (.Name _ _) _) _ _ _); first
    | refine Fm.ldL ‹Fm _ _ _ _ _ _ _ _› (by rfl) ?_
    | refine Fm.ldL ‹Fm _ _ _ _ _ _ _ _› (by assumption) ?_
    | refine Fm.ldG ‹Fm _ _ _ _ _ _ _ _› (by rfl) ?_
    | (refine Fm.ldB (v := .builtin _) ‹Fm _ _ _ _ _ _ _ _› (by rfl) (by rfl) ?_; try dsimp only)
    | (refine Fm.ldB (v := .type _) ‹Fm _ _ _ _ _ _ _ _› (by rfl) (by rfl) ?_; try dsimp only))
  | ((with_reducible show wpAny _ _ (callWith _ (.builtin _) _ _ _) _ _ _); refine PyProof.Rows.callWith_builtin1 ?_ (by with_unfolding_all rfl) (by with_unfolding_all rfl))
  | ((with_reducible show wpAny _ _ (callWith _ (.type _) _ _ _) _ _ _); refine Mine.callWith_ty ?_ (by with_unfolding_all rfl) (by with_unfolding_all rfl))
  | ((with_reducible show wpAny _ _ (callWith _ (.ref _) _ (backTo _ (starEach [] _)) _) _ _ _); refine callWith_K0 (Fm.G ‹Fm _ _ _ _ _ _ _ _›).K (by rfl) ?_)
  | with_reducible refine wpAny_BinOp (op := .Mod) ?_
  | with_reducible refine wpAny_BinOp (op := .FloorDiv) ?_
  | ((with_reducible show wpAny _ _ (callWith _ (.ref _) _ _ _) _ _ _); refine callWith_K (Fm.G ‹Fm _ _ _ _ _ _ _ _›).K (by rfl) ?_))

def forBody' : Stmt → List Stmt
  | .For _ _ b _ _ => b
  | _ => []
def kBody : List Stmt := forBody' (nth (bodyOf (st1 30)) 4)
section
variable {cd : Value} {fa : Addr} {s0 s' : Shared} {L H pl D2 : Addr} {m m' : Str → Option Value} {data : Data} {ps : List Addr} {rows : List Row} {hs nums : List Value} {tk : Tok}
theorem Ex.in3 {a b c x : Addr} {s s1 s2 : Shared} (Y : Ex [a, b, c] s s1) (Z : Ex [x] s1 s2) (h : x ∈ [a, b, c]) : Ex [a, b, c] s s2 :=
  Y.same (Z.weaken (fun y hy => by rw [List.mem_singleton.mp hy]; exact h) Y.wlo)
theorem kbody {Q : Flow → Shared → Prop} {j : Nat} (r : Rm (n + 40) A) (X : Pre w mg mb s0 L H pl D2 m data ps rows hs nums s) (mk : m "k" = some (.int j tk)) (hj : j < 3) (hl : hs.length ≤ 50) (hpl : ps.length ≤ 50)
    (fin : ∀ s' m' ps' hs', Pre w mg mb s0 L H pl D2 m' (data ++ [(idS j, (1001, idS j) :: rowS j)]) ps' (rows ++ [(1001, idS j) :: rowS j]) hs' nums s' → ps'.length = ps.length + 1 → hs'.length = hs.length + 1 → Ex [L, H, pl] s s' → Q .next s') :
    wpAny (model pw w) A (execs kBody (LE cd fa L)) Q E s := by
  have hrow : rowS j ∈ lawRows := by
    have hj' : (j : Int).toNat < lawRows.length := show (j : Int).toNat < 5 by omega
    unfold rowS
    rw [List.getD_eq_getElem?_getD, List.getElem?_eq_getElem hj']
    exact List.getElem_mem _
  obtain ⟨rv, rz, rt, rn⟩ := rowFacts hrow
  have hi3 : ∀ b ∈ [L, H, pl], Hi b := by
    intro b hb
    simp at hb
    rcases hb with rfl | rfl | rfl
    · exact X.F.hL
    · exact X.hiH
    · exact X.plain.hi
  refine wpAny_execs_cons ?_
  have F := X.F
  repeat walk_at "m go"
  refine cons_ev (mg := mg) (mb := mb) ?_
  refine ids_ev (n := n) (r.mono (by omega)) (X.ex0 (Ex.tok _)).F fun s1 Y1 => ?_
  have Y01 : Ex [] s s1 := (Ex.tok _).of0 Y1
  clear F
  have F := (X.ex0 Y01).F
  repeat walk_at "m go"
  refine ⟨Ex.refl _, j, tk, rfl, by omega, by omega, fun t1 => ?_⟩
  refine ⟨idS j, t1, rfl, F.G, fun s2 Y2 => ?_⟩
  have Y02 := Y01.then0 Y2
  clear F
  have F := (X.ex0 Y02).F
  refine rows_ev F ?_
  repeat walk_at "m go"
  refine ⟨Ex.refl _, j, tk, rfl, by omega, by omega, fun rr => ?_⟩
  refine ⟨rowA j, rowS j, rfl, Ex.refl _, rr, by omega, fun D s3 Y3 fD rD => ?_⟩
  have Y03 := Y02.then0 Y3
  have hiD := F.G.hi fD
  have nDL := F.neL fD
  have X3 := X.ex0 Y03
  have hdH : D ≠ H := fun z => by
    have l := (X.ex0 Y02).hl
    obtain ⟨_, e⟩ := l
    rw [z, e] at fD; cases fD
  have hdp : D ≠ pl := fun z => by
    have l := (X.ex0 Y02).plain.lst
    obtain ⟨_, e⟩ := l
    rw [z, e] at fD; cases fD
  clear F rr
  repeat walk_at "m go"
  refine X3.sta (x := "rows") (by decide) (by decide) (by decide) fun s4 m4 e4 o4 X4 Y4 => ?_
  have mk4 : m4 "k" = some (.int j tk) := (o4 _ (by decide)).trans mk
  have mr4 : m4 "rows" = some (.ref D) := e4
  clear e4 o4
  have Y04 : Ex [L, H, pl] s s4 := (Y03.of0 Y4).weaken (by simp) hi3
  have r4 := rD.ex Y4 hiD.tab (by simpa using nDL)
  have F := X4.F
  have eh := X4.mh
  repeat walk_at "m go"
  refine getMethod_builtin (id := "list.append") X4.hl.isList.typeIs PySem.F.plainAttrs_list PySem.F.slot_list_append PySem.F.type_list_append (fun a e => by cases e; obtain ⟨n, e⟩ := X4.hl; exact ⟨_, e, rfl⟩) ?_
  refine callWith_bi ?_ (by with_unfolding_all rfl) (by with_unfolding_all rfl)
  repeat walk_at "m go"
  refine ⟨F.G.K, law_tags_call (n := n) (r.mono (by omega)) F.G r4 hiD (by simp; omega) fun T dT s5 Y5 fT fdT tg => ?_⟩
  have hiT := F.G.hi fT
  have hidT := F.G.hi fdT
  have ndTL := F.neL fdT
  have X5 := X4.ex0 Y5
  clear F eh
  repeat walk_at "m go"
  refine append_plain X5.hl X5.hiH (by simp; omega) fun s6 Y6 l6 => ?_
  have X6 := X5.appH Y6 (by simpa using l6) tg hiT hidT (by simp; omega) ndTL
  have Y06 := (Y04.then0 Y5).in3 Y6 (by simp)
  have r6 := (r4.ex Y5 hiD.tab (by simp)).ex Y6 hiD.tab (by simpa using hdH)
  have F := X6.F
  have ep := X6.mp
  repeat walk_at "m go"
  refine getMethod_builtin (id := "list.append") X6.plain.lst.isList.typeIs PySem.F.plainAttrs_list PySem.F.slot_list_append PySem.F.type_list_append (fun a e => by cases e; obtain ⟨n, e⟩ := X6.plain.lst; exact ⟨_, e, rfl⟩) ?_
  refine callWith_bi ?_ (by with_unfolding_all rfl) (by with_unfolding_all rfl)
  repeat walk_at "m go"
  refine list_ev ?_
  refine wpAny_items_cons ?_ (by with_unfolding_all rfl)
  refine ids_ev (n := n) (r.mono (by omega)) F fun s7 Y7 => ?_
  clear F ep
  have X7 := X6.ex0 Y7
  have F := X7.F
  repeat walk_at "m go"
  refine ⟨Ex.refl _, j, tk, rfl, by omega, by omega, fun t2 => ?_⟩
  repeat walk_at "m go"
  refine ⟨by simp, fun q s8 Y8 fq pq => ?_⟩
  have X8 := X7.ex0 Y8
  have hiq := F.G.hi fq
  have fq0 := F.new fq
  have nql : q ∉ pl :: ps := fun z => by
    have : ∃ xs, s7.heap.PlainList q xs := by
      rcases List.mem_cons.mp z with rfl | z
      · exact ⟨_, X7.plain.lst⟩
      · have a := X7.plain.parts
        obtain ⟨kr, _, l, t, p, _⟩ := All2.mem a z
        exact ⟨_, p⟩
    obtain ⟨xs, n, e⟩ := this
    rw [fq] at e; cases e
  clear F
  repeat walk_at "m go"
  refine append_plain X8.plain.lst X8.plain.hi (by simp; omega) fun s9 Y9 l9 => ?_
  have r8 := (r6.ex Y7 hiD.tab (by simp)).ex Y8 hiD.tab (by simp)
  have X9 := X8.appP (q := q) Y9 (by simpa using l9) pq r8 hiq hiD (by simp; omega) (by simp) (fun z => nql (by simp [z])) hdp (fun z => nql (by simp [z])) fq0
  repeat walk_at "m go"
  exact fin s9 _ _ _ X9 (by simp) (by simp) (((Y06.then0 Y7).then0 Y8).in3 Y9 (by simp))
end
end Mine

namespace Mine
variable {w : World} {mg mb : Str → Option Value}
variable {s : Shared} {Q : Value → Shared → Prop} {E : Value → Shared → Prop} {A : Around} {n : Nat}

local macro_rules | `(tactic| walk_at "m go") => `(tactic| first
  | with_reducible refine wpAny_execs_cons ?_
  | with_reducible refine wpAny_Return_some ?_
  | with_reducible refine wpAny_Call_NameR ?_
  | with_reducible refine wpAny_items_cons ?_ (by with_unfolding_all rfl)
  | with_reducible refine wpAny_items_nil ?_
  | with_reducible refine Attribute_name ?_
  | with_reducible refine wpAny_Compare1 ?_ (by with_unfolding_all rfl)
  | with_reducible refine wpAny_isTrue_Compare1 ?_ (by with_unfolding_all rfl)
  | with_reducible refine wpAny_isTrue_Not ?_
  | with_reducible refine wpAny_isTrue_BoolOp ?_
  | with_reducible refine wpAny_allTrue_And_cons ?_
  | with_reducible refine wpAny_allTrue_And_nil ?_
  | with_reducible refine wpAny_allTrue_Or_cons ?_
  | with_reducible refine wpAny_allTrue_Or_nil ?_
  | with_reducible refine wpAny_If ?_
  | ((with_reducible show wpAny _ _ (exec (.Expr _ _) _) _ _ _); refine wpAny_Expr_any ?_)
  | ((with_reducible show wpAny _ _ (eval (.Call (.Attribute _ _ _) _ [] _) _) _ _ _); refine MethodCall_ ?_ (by rfl))
  | with_reducible refine wpAny_truthy_bool ?_
  | with_reducible refine wpAny_execs_nil ?_
  | ((with_reducible show wpAny _ _ (PySem.isTrue (.Call _ _ _ _) _ _) _ _ _); refine wpAny_isTrue_value ?_ (by rfl))
  | ((with_reducible show wpAny _ _ (PySem.isTrue (.Name _ _) _ _) _ _ _); refine wpAny_isTrue_value ?_ (by rfl))
  | with_reducible refine wpAny_Assign_Name ?_ (by with_unfolding_all rfl)
  | with_reducible refine wpAny_Constant_int ?_
  | with_reducible refine wpAny_Constant_str ?_
  | with_reducible refine wpAny_Constant_bool ?_
  | with_reducible refine wpAny_Constant_none ?_
  | ((with_reducible show wpAny _ _ (eval (.Name _ _) _) _ _ _); first
    | refine Fm.ldL ‹Fm _ _ _ _ _ _ _ _› (by rfl) ?_
    | refine Fm.ldL ‹Fm _ _ _ _ _ _ _ _› (by assumption) ?_
    | refine Fm.ldG ‹Fm _ _ _ _ _ _ _ _› (by rfl) ?_
    | (refine Fm.ldB (v := .builtin _) ‹Fm _ _ _ _ _ _ _ _› (by rfl) (by rfl) ?_; try dsimp only)
    | (refine Fm.ldB (v := .type _) ‹Fm _ _ _ _ _ _ _ _› (by rfl) (by rfl) ?_; try dsimp only))
  | ((with_reducible show wpAny _ _ (callWith _ (.builtin _) _ _ _) _ _ _); refine PyProof.Rows.callWith_builtin1 ?_ (by with_unfolding_all rfl) (by with_unfolding_all rfl))
  | ((with_reducible show wpAny _ _ (callWith _ (.type _) _ _ _) _ _ _); refine Mine.callWith_ty ?_ (by with_unfolding_all rfl) (by with_unfolding_all rfl))
  | ((with_reducible show wpAny _ _ (callWith _ (.ref _) _ (backTo _ (starEach [] _)) _) _ _ _); refine callWith_K0 (Fm.G ‹Fm _ _ _ _ _ _ _ _›).K (by rfl) ?_)
  | with_reducible refine wpAny_BinOp (op := .Mod) ?_
  | with_reducible refine wpAny_BinOp (op := .FloorDiv) ?_
  | ((with_reducible show wpAny _ _ (callWith _ (.ref _) _ _ _) _ _ _); refine callWith_K (Fm.G ‹Fm _ _ _ _ _ _ _ _›).K (by rfl) ?_))

theorem eq_rows {l b : Addr} {row : Row} (hu : A.in1.units < cLine) (r : RowsAt s.heap l row) (r' : RowsAt s.heap b row) (h : Q (.bool true) s) : wpAny (model pw w) A (compareOp .Eq (.ref l) (.ref b)) Q E s := by
  obtain ⟨xs, pl, a⟩ := r
  obtain ⟨ys, pl', a'⟩ := r'
  have hu0 : A.units < cLine := Nat.lt_of_le_of_lt (Nat.le_succ _) hu
  refine PySem.SeqAt.eq_listAt (e := fun _ => true) pl.isList pl'.isList (by simp [← a.len, ← a'.len]) hu0 (fun j h1 h2 => ?_) (by rw [List.all_eq_true.mpr (fun _ _ => rfl)]; exact h)
  have h1' : j < row.length := by rw [a.len]; simpa using h1
  have e1 := a.get j h1' (by simpa using h1)
  have e2 := a'.get j h1' (by simpa using h2)
  simpa using tups_eq (A := A.in1) hu e1 e2
theorem Off.mono {P P' : List Addr} {s s' : Shared} (o : Off P s s') (h : ∀ b ∈ P', b ∈ P) : Off P' s s' := let ⟨W, Y, hW⟩ := o; ⟨W, Y, fun b hb hp => hW b hb (h b hp)⟩
theorem IntsAre.at : ∀ {vs : List Value} {ns : List Int}, IntsAre vs ns → ∀ v ∈ vs, ∃ i t, v = .int i t
  | _, _, .nil, _, h => nomatch h
  | _, _, .cons i t _, v, h => by
    rcases List.mem_cons.mp h with rfl | h
    · exact ⟨i, t, rfl⟩
    · exact IntsAre.at ‹_› v h
namespace Lp
variable {s0 sT s' : Shared} {L c T dd d pl : Addr} {P P' M : List Addr} {m : Str → Option Value} {cv : Option Value} {data pd : Data} {kvs : List (Str × Value)} {ps : List Addr}
theorem rebase (X : Lp w mg mb s0 sT L c T dd d P m cv data kvs pl pd ps s) : Lp w mg mb s0 s L c T dd d P m cv data kvs pl pd ps s := { X with off := Off.refl }
/-- more is left alone -/
theorem grow (X : Lp w mg mb s0 sT L c T dd d P m cv data kvs pl pd ps s) (Y : Ex [] s s') (fr : ∀ b ∈ M, s.heap.get? b = none) (ex : ∀ b ∈ M, ∃ o, s'.heap.get? b = some o) (h1 : ∀ b ∈ P', b ∈ M ∨ b ∈ P) (h2 : ∀ b ∈ P, b ∈ P') (hh : P'.headD 0 = P.headD 0) : Lp w mg mb s0 s' L c T dd d P' m cv data kvs pl pd ps s' := by
  have X' := X.ex0 Y
  have no : ∀ b, (∃ o, s.heap.get? b = some o) → b ∉ M := fun b ⟨o, e⟩ z => by rw [fr b z] at e; cases e
  have nN : (∃ o, s.heap.get? L = some o) ∧ (∃ o, s.heap.get? c = some o) := ⟨let ⟨o, _, _, e, _⟩ := X.F.N; ⟨o, e⟩, let ⟨o, e, _⟩ := X.cell; ⟨o, e⟩⟩
  refine ⟨X'.F, X'.mt, X'.mp, by rw [hh]; exact X'.mh, ((X.full.more M fr).ex0 Y).less (fun b hb => ?_), X'.plain, X'.cell, X'.hic, fun b hb z => ?_, fun b hb => ?_, fun b o e => h2 b (X.old b o e), fun z => ?_, fun z => ?_, Off.refl⟩
  · simp only [List.mem_cons, List.mem_append] at hb ⊢
    rcases hb with h | h | h
    · exact .inr (.inl h)
    · exact .inr (.inr (.inl h))
    · rcases h1 b h with h | h
      · exact .inl h
      · exact .inr (.inr (.inr h))
  · rcases h1 b z with h | h
    · obtain ⟨xs, n, e⟩ := X.lists b hb
      exact no b ⟨_, e⟩ h
    · exact X.nP b hb h
  · rcases h1 b hb with h | h
    · exact ex b h
    · exact X'.ex b h
  · rcases h1 _ z with h | h
    · exact no _ nN.1 h
    · exact X.nL h
  · rcases h1 _ z with h | h
    · exact no _ nN.2 h
    · exact X.nc h
theorem exIt {it : Addr} (X : Lp w mg mb s0 sT L c T dd d P m cv data kvs pl pd ps s) (Y : Ex [it] s s') (l : ∃ o fs, s.heap.get? it = some o ∧ o.data = .fields fs) (h0 : s0.heap.get? it = none) : Lp w mg mb s0 s' L c T dd d P m cv data kvs pl pd ps s' := by
  have f' := X.full.exF Y l
  obtain ⟨ob, fs, eb, hb⟩ := l
  have no : ∀ a o, s.heap.get? a = some o → (∀ fs, o.data ≠ .fields fs) → a ∉ [it] := fun a o e h m => by
    rw [List.mem_singleton.mp m, eb] at e; cases e; exact h _ hb
  have nl : ∀ b xs, s.heap.PlainList b xs → b ∉ [it] := fun b xs ⟨n, e⟩ => no _ _ e (by simp)
  have nL : L ∉ [it] := by
    obtain ⟨o, es, ep, ho, hd, _⟩ := X.F.N
    exact no _ _ ho (by rw [hd]; simp)
  have nc : c ∉ [it] := by
    obtain ⟨o, e, d⟩ := X.cell
    exact no _ _ e (by rw [d]; simp)
  exact ⟨X.F.goN Y nL (by simpa using h0), X.mt, X.mp, X.mh, f', X.plain.exQ Y (fun b hb xs l => nl _ _ l hb), IsCell.ex Y X.cell X.hic nc, X.hic, X.nP, fun b hb => Y.there' (X.ex b hb), X.old, X.nL, X.nc, Off.refl⟩
end Lp
end Mine

namespace Mine
variable {w : World} {mg mb : Str → Option Value}
variable {s : Shared} {Q : Value → Shared → Prop} {E : Value → Shared → Prop} {A : Around} {n : Nat}

local macro_rules | `(tactic| walk_at "m go") => `(tactic| first
  | with_reducible refine wpAny_execs_cons ?_
  | with_reducible refine wpAny_Return_some ?_
  | with_reducible refine wpAny_Call_NameR ?_
  | with_reducible refine wpAny_items_cons ?_ (by with_unfolding_all rfl)
  | with_reducible refine wpAny_items_nil ?_
  | with_reducible refine Attribute_name ?_
  | with_reducible refine wpAny_Compare1 ?_ (by with_unfolding_all rfl)
  | with_reducible refine wpAny_isTrue_Compare1 ?_ (by with_unfolding_all rfl)
  | with_reducible refine wpAny_isTrue_Not ?_
  | with_reducible refine wpAny_isTrue_BoolOp ?_
  | with_reducible refine wpAny_allTrue_And_cons ?_
  | with_reducible refine wpAny_allTrue_And_nil ?_
  | with_reducible refine wpAny_allTrue_Or_cons ?_
  | with_reducible refine wpAny_allTrue_Or_nil ?_
  | with_reducible refine wpAny_If ?_
  | ((with_reducible show wpAny _ _ (exec (.Expr _ _) _) _ _ _); refine wpAny_Expr_any ?_)
  | ((with_reducible show wpAny _ _ (eval (.Call (.Attribute _ _ _) _ [] _) _) _ _ _); refine MethodCall_ ?_ (by rfl))
  | with_reducible refine wpAny_truthy_bool ?_
  | with_reducible refine wpAny_execs_nil ?_
  | ((with_reducible show wpAny _ _ (PySem.isTrue (.Call _ _ _ _) _ _) _ _ _); refine wpAny_isTrue_value ?_ (by rfl))
  | ((with_reducible show wpAny _ _ (PySem.isTrue (.Name _ _) _ _) _ _ _); refine wpAny_isTrue_value ?_ (by rfl))
  | with_reducible refine wpAny_Assign_Name ?_ (by with_unfolding_all rfl)
  | with_reducible refine wpAny_Constant_int ?_
  | with_reducible refine wpAny_Constant_str ?_
  | with_reducible refine wpAny_Constant_bool ?_
  | with_reducible refine wpAny_Constant_none ?_
  | ((with_reducible show wpAny _ _ (eval (.Name _ _) _) _ _ _); first
    | refine Fm.ldL ‹Fm _ _ _ _ _ _ _ _› (by rfl) ?_
    | refine Fm.ldL ‹Fm _ _ _ _ _ _ _ _› (by assumption) ?_
    | refine Fm.ldG ‹Fm _ _ _ _ _ _ _ _› (by rfl) ?_
    | (refine Fm.ldB (v := .builtin _) ‹Fm _ _ _ _ _ _ _ _› (by rfl) (by rfl) ?_; try dsimp only)
    | (refine Fm.ldB (v := .type _) ‹Fm _ _ _ _ _ _ _ _› (by rfl) (by rfl) ?_; try dsimp only))
  | ((with_reducible show wpAny _ _ (callWith _ (.builtin _) _ _ _) _ _ _); refine PyProof.Rows.callWith_builtin1 ?_ (by with_unfolding_all rfl) (by with_unfolding_all rfl))
  | ((with_reducible show wpAny _ _ (callWith _ (.type _) _ _ _) _ _ _); refine Mine.callWith_ty ?_ (by with_unfolding_all rfl) (by with_unfolding_all rfl))
  | ((with_reducible show wpAny _ _ (callWith _ (.ref _) _ (backTo _ (starEach [] _)) _) _ _ _); refine callWith_K0 (Fm.G ‹Fm _ _ _ _ _ _ _ _›).K (by rfl) ?_)
  | with_reducible refine wpAny_BinOp (op := .Mod) ?_
  | with_reducible refine wpAny_BinOp (op := .FloorDiv) ?_
  | ((with_reducible show wpAny _ _ (callWith _ (.ref _) _ _ _) _ _ _); refine callWith_K (Fm.G ‹Fm _ _ _ _ _ _ _ _›).K (by rfl) ?_))

section
variable {cd : Value} {fa L T dd d pl H X0 dX0 D2 : Addr} {s0 sT s' : Shared} {old : List Addr} {m : Str → Option Value} {data : Data} {kvs : List (Str × Value)} {ps : List Addr} {cv : Option Value} {nums hs : List Value} {ns : List Int}
theorem law_rest {Q : Flow → Shared → Prop} (r : Rm (n + 40) A) (hA : A.frames = some [LE cd fa L]) (X : Lp w mg mb s0 sT L (L + 1) T dd d (H :: X0 :: dX0 :: old) m cv data kvs pl data ps s) (ok : DataOk 0 data)
    (mn : m "numbers" = some (.ref D2)) (n2 : s.heap.PlainList D2 nums.toArray) (hints : IntsAre nums ns) (h17 : 17 ≤ nums.length) (h100 : nums.length ≤ 200)
    (hl : s.heap.PlainList H hs.toArray) (hiH : Hi H) (hsl : hs.length ≤ 3) (hd : hs = [] ∨ ∃ rest, hs = .ref X0 :: rest ∧ TagsAt s.heap X0 dX0 ((1001, idS 0) :: rowS 0) ∧ Hi X0 ∧ Hi dX0)
    (fin : ∀ s', Ex [] s0 s' → Q (.ret (.bool true)) s') : wpAny (model pw w) A (execs ((bodyOf (st1 30)).drop 6) (LE cd fa L)) Q (fun _ _ => False) s := by
  have hu : A.in1.units < cLine := by have := r.un; show A.units + 1 < 9900; omega
  have F := X.F
  refine wpAny_execs_cons ?_
  refine for_seq2 (mg := mg) (mb := mb) r.hh ?_
  refine wpAny_Subscript_list_slice ?_
  repeat walk_at "m go"
  rw [evalPart_some]
  refine wpAny_Constant_int ?_
  rw [evalPart_some]
  refine wpAny_Constant_int ?_
  refine ⟨D2, nums.toArray, some 1, some 17, rfl, n2.isList, by rw [sizeLine_eq]; simp; omega, .int 1 _, .int 17 _, ?_⟩
  have hpick : slicePick nums.toArray (some 1) (some 17) none = ((nums.drop 1).take 16).toArray := by
    have := slicePick_run nums.toArray 1 17 (by simpa using h17) (by omega)
    simpa using this
  rw [hpick]
  have hmem : ∀ v ∈ (nums.drop 1).take 16, ∃ i t, v = .int i t := fun v hv => IntsAre.at hints v (List.mem_of_mem_drop (List.mem_of_mem_take hv))
  have hlen16 : ((nums.drop 1).take 16).length = 16 := by simp; omega
  generalize (nums.drop 1).take 16 = xs at hmem hlen16
  have fl : s.heap.get? (s.heap.objs.size + 1) = none := by
    cases e : s.heap.get? (s.heap.objs.size + 1) with
    | none => rfl
    | some o => exact absurd (Nat.lt_trans (Nat.lt_succ_self _) (Heap.lt_size e)) (Nat.lt_irrefl _)
  have el : ((s.heap.push { cls := .type "slice", data := .fields #[.int 1 s.toks, .int 17 (s.toks + 1), .none] }).push { cls := .type "list", data := .seq xs.toArray }).get? (s.heap.objs.size + 1) = some { cls := .type "list", data := .seq xs.toArray } := by
    have := Heap.get?_push_size (s.heap.push { cls := .type "slice", data := .fields #[.int 1 s.toks, .int 17 (s.toks + 1), .none] }) (o := { cls := .type "list", data := .seq xs.toArray }) rfl
    rw [Heap.size_push] at this
    exact this
  have Y1 : Ex [] s { s with heap := (s.heap.push { cls := .type "slice", data := .fields #[.int 1 s.toks, .int 17 (s.toks + 1), .none] }).push { cls := .type "list", data := .seq xs.toArray }, toks := s.toks + 1 + 1 } :=
    (Ex.push (s := s) { cls := .type "slice", data := .fields #[.int 1 s.toks, .int 17 (s.toks + 1), .none] } (s.toks + 1 + 1)).then0 (Ex.push (s := { s with heap := s.heap.push { cls := .type "slice", data := .fields #[.int 1 s.toks, .int 17 (s.toks + 1), .none] }, toks := s.toks + 1 + 1 }) { cls := .type "list", data := .seq xs.toArray } (s.toks + 1 + 1))
  have hil := F.G.hi fl
  generalize s.heap.objs.size + 1 = l at fl el hil ⊢
  generalize hs1 : ({ s with heap := (s.heap.push { cls := .type "slice", data := .fields #[.int 1 s.toks, .int 17 (s.toks + 1), .none] }).push { cls := .type "list", data := .seq xs.toArray }, toks := s.toks + 1 + 1 } : Shared) = s1 at Y1
  have el1 : s1.heap.get? l = some { cls := .type "list", data := .seq xs.toArray } := by rw [← hs1]; exact el
  clear el
  have X1 := X.grow (M := [l]) (P' := H :: l :: X0 :: dX0 :: old) Y1 (by simpa using fl) (by simp [el1]) (by simp only [List.mem_cons, List.not_mem_nil, or_false]; intro b h; rcases h with h | h | h | h | h <;> simp [h]) (by simp only [List.mem_cons]; intro b h; rcases h with h | h | h | h <;> simp [h]) rfl
  refine ⟨l, xs, rfl, .inl ⟨0, ?_⟩, hil, ?_, ?_⟩
  · exact el1
  · exact X1.F.G
  intro it s2 Y2 fit fld hiit
  have Y2' : Ex [] s1 s2 := Y2
  have fit1 : s1.heap.get? it = none := fit
  clear Y2 fit hs1
  have it0 : s0.heap.get? it = none := X1.F.new fit1
  have X2 := X1.grow (M := [it]) (P' := H :: it :: l :: X0 :: dX0 :: old) Y2' (by simpa using fit1) (by obtain ⟨o, fs, e, _⟩ := fld; simp [e]) (by simp only [List.mem_cons, List.not_mem_nil, or_false]; intro b h; rcases h with h | h | h | h | h | h <;> simp [h]) (by simp only [List.mem_cons]; intro b h; rcases h with h | h | h | h | h <;> simp [h]) rfl
  have itP : it ∉ H :: X0 :: dX0 :: old := fun z => by
    obtain ⟨o, e⟩ := X.ex it z
    obtain ⟨o', e'⟩ := Y1.there _ _ e
    rw [fit1] at e'; cases e'
  have off2 : Off (H :: X0 :: dX0 :: old) s s2 := Off.refl.step (Y1.then0 Y2') (by simp)
  clear F
  refine ⟨fun rem s' => ∃ m cv data kvs pl ps i, Lp w mg mb s0 s' L (L + 1) T dd d (H :: it :: l :: X0 :: dX0 :: old) m cv data kvs pl data ps s' ∧ DataOk i data ∧ i + rem.length = 16 ∧ Off (H :: X0 :: dX0 :: old) s s', ?_, ?_, ?_, ?_⟩
  · exact ⟨m, cv, data, kvs, pl, ps, 0, X2, ok, by simpa using hlen16, off2⟩
  · rintro rem s3 s4 ⟨m, cv, data, kvs, pl, ps, i, X3, ok3, hi, off3⟩ Y fl3
    exact ⟨m, cv, data, kvs, pl, ps, i, X3.exIt Y fl3 it0, ok3, hi, off3.step Y (by simpa using itP)⟩
  · rintro a pre rem s3 hxs ⟨m, cv, data, kvs, pl, ps, i, X3, ok3, hi, off3⟩
    obtain ⟨num, tn, rfl⟩ := hmem a (by rw [hxs]; simp)
    refine wpAny_assign_Name (X3.st (x := "number") (by decide) (by decide) fun s4 X4 Y4 => ?_)
    refine turn_ev (n := n) r hA X4 ok3 (by omega) (if_pos rfl) fun s5 m5 cv5 data5 kvs5 pl5 ps5 X5 ok5 => ?_
    have o5 := X5.off
    refine ⟨⟨m5, cv5, data5, kvs5, pl5, ps5, i + 1, X5.rebase, ok5, by simp at hi; omega, off3.trans (o5.mono ?_)⟩, ?_⟩
    · simp only [List.mem_cons]; intro b h; rcases h with h | h | h | h <;> simp [h]
    · obtain ⟨W, Y, hW⟩ := o5
      exact ⟨W, Y, fun z => hW _ z (by simp), fun z => hW _ z (by simp)⟩
  · rintro s3 ⟨m, cv, data, kvs, pl, ps, i, X3, ok3, hi, off3⟩
    have hl3 := off3.list hl hiH (by simp)
    have F := X3.F
    have eh : m "handed" = some (.ref H) := X3.mh
    have e := X3.mt
    have e' := X3.mp
    have hlen : data.length ≤ 50 := by have := ok3.1; simp at hi; omega
    have fk := X3.full.len
    have fp := X3.plain.parts.len
    have e0 : ((kvs.length : Int) == ((ps.map Value.ref).toArray.size : Int)) = true := by simp; omega
    refine wpAny_execs_cons ?_
    refine wpAny_Return_some ?_
    refine wpAny_IfExp ?_
    repeat walk_at "m go"
    refine truthy_lst hl3 (by omega) fun s4 Y4 => ?_
    have X4 := X3.ex0 Y4
    clear F
    have F := X4.F
    rcases hd with rfl | ⟨rest, rfl, tg, hX0, hdX0⟩
    · rw [if_neg (by simp)]
      repeat walk_at "m go"
      refine told_len (n := n) (r.mono (by omega)) F.G X4.full.told fun t5 s5 Y5 => ?_
      have X5 := X4.ex0 Y5
      clear F
      have F := X5.F
      repeat walk_at "m go"
      refine list_lenH X5.plain.lst (by simp; omega) fun t6 s6 Y6 => ?_
      refine PySem.P.eq_int ?_
      rw [e0]
      exact fin s6 (X5.ex0 Y6).F.X
    · rw [if_pos (by rfl)]
      refine wpAny_And2 ?_
      repeat walk_at "m go"
      refine told_len (n := n) (r.mono (by omega)) F.G X4.full.told fun t5 s5 Y5 => ?_
      have X5 := X4.ex0 Y5
      clear F
      have F := X5.F
      repeat walk_at "m go"
      refine list_lenH X5.plain.lst (by simp; omega) fun t6 s6 Y6 => ?_
      have X6 := X5.ex0 Y6
      clear F
      have F := X6.F
      refine PySem.P.eq_int ?_
      rw [e0]
      refine wpAny_truthy_bool ?_
      rw [if_pos rfl]
      have Y36 := (Y4.then0 Y5).then0 Y6
      have hl6 := PlainList.ex Y36 hl3 hiH (by simp)
      have tg6 := (off3.tags tg hX0 hdX0 (by simp) (by simp)).ex Y36 hX0 hdX0 (by simp) (by simp)
      repeat walk_at "m go"
      refine sub_lst ?_
      repeat walk_at "m go"
      refine ⟨H, _, .ref X0, rfl, hl6, by omega, by omega, by simp, ?_⟩
      have Y67 : Ex [] s6 { s6 with toks := s6.toks + 1 + 1 } := Ex.tok _
      have X7 := X6.ex0 (Ex.tok (s6.toks + 1))
      clear F
      have F := X7.F
      repeat walk_at "m go"
      obtain ⟨ts, hts, hta⟩ := tg6.lst
      refine ⟨F.G.K, law_pairs_call (n := n) (r.mono (by omega)) F.G hts hta hX0 (by simp [rowS, lawRows]) fun D s8 Y8 fD rD => ?_⟩
      have hiD := F.G.hi fD
      have X8 := X7.ex0 Y8
      clear F
      refine cons_ev (mg := mg) (mb := mb) ?_
      have F := X8.F
      repeat walk_at "m go"
      refine ⟨"P", _, rfl, (X8.ex0 (Ex.tok (s8.toks + 1 + 1))).F.G, fun s9 Y9 => ?_⟩
      have Y89 : Ex [] s8 s9 := (Ex.tok (s8.toks + 1 + 1)).of0 Y9
      have X9 := X8.ex0 Y89
      clear F
      have F := X9.F
      refine rows_ev F ?_
      repeat walk_at "m go"
      refine ⟨Ex.tok _, 0, _, rfl, by omega, by omega, fun rr => ?_⟩
      have Y9t : Ex [] s9 { s9 with toks := s9.toks + 1 } := Ex.tok _
      refine ⟨rowA 0, rowS 0, rfl, Ex.tok _, rr, by simp [rowS, lawRows], fun D3 s10 Y10 fD3 rD3 => ?_⟩
      have X10 := (X9.ex0 Y9t).ex0 Y10
      have rD10 := (rD.ex Y89 hiD.tab (by simp)).ex (Y9t.then0 Y10) hiD.tab (by simp)
      exact eq_rows hu rD10 rD3 (fin s10 X10.F.X)
end
end Mine

namespace Mine
variable {w : World} {mg mb : Str → Option Value}
variable {s : Shared} {Q : Value → Shared → Prop} {E : Value → Shared → Prop} {A : Around} {n : Nat}

local macro_rules | `(tactic| walk_at "m go") => `(tactic| first
  | with_reducible refine wpAny_execs_cons ?_
  | with_reducible refine wpAny_Return_some ?_
  | with_reducible refine wpAny_Call_NameR ?_
  | with_reducible refine wpAny_items_cons ?_ (by with_unfolding_all rfl)
  | with_reducible refine wpAny_items_nil ?_
  | with_reducible refine Attribute_name ?_
  | with_reducible refine wpAny_Compare1 ?_ (by with_unfolding_all rfl)
  | with_reducible refine wpAny_isTrue_Compare1 ?_ (by with_unfolding_all rfl)
  | with_reducible refine wpAny_isTrue_Not ?_
  | with_reducible refine wpAny_isTrue_BoolOp ?_
  | with_reducible refine wpAny_allTrue_And_cons ?_
  | with_reducible refine wpAny_allTrue_And_nil ?_
  | with_reducible refine wpAny_allTrue_Or_cons ?_
  | with_reducible refine wpAny_allTrue_Or_nil ?_
  | with_reducible refine wpAny_If ?_
  | ((with_reducible show wpAny _ _ (exec (.Expr _ _) _) _ _ _); refine wpAny_Expr_any ?_)
  | ((with_reducible show wpAny _ _ (eval (.Call (.Attribute _ _ _) _ [] _) _) _ _ _); refine MethodCall_ ?_ (by rfl))
  | with_reducible refine wpAny_truthy_bool ?_
  | with_reducible refine wpAny_execs_nil ?_
  | ((with_reducible show wpAny _ _ (PySem.isTrue (.Call _ _ _ _) _ _) _ _ _); refine wpAny_isTrue_value ?_ (by rfl))
  | ((with_reducible show wpAny _ _ (PySem.isTrue (.Name _ _) _ _) _ _ _); refine wpAny_isTrue_value ?_ (by rfl))
  | with_reducible refine wpAny_Assign_Name ?_ (by with_unfolding_all rfl)
  | with_reducible refine wpAny_Constant_int ?_
  | with_reducible refine wpAny_Constant_str ?_
  | with_reducible refine wpAny_Constant_bool ?_
  | with_reducible refine wpAny_Constant_none ?_
  | ((with_reducible show wpAny _ _ (eval (.Name _ _) _) _ _ _); first
    | refine Fm.ldL ‹Fm _ _ _ _ _ _ _ _› (by rfl) ?_
    | refine Fm.ldL ‹Fm _ _ _ _ _ _ _ _› (by assumption) ?_
    | refine Fm.ldG ‹Fm _ _ _ _ _ _ _ _› (by rfl) ?_
    | (refine Fm.ldB (v := .builtin _) ‹Fm _ _ _ _ _ _ _ _› (by rfl) (by rfl) ?_; try dsimp only)
    | (refine Fm.ldB (v := .type _) ‹Fm _ _ _ _ _ _ _ _› (by rfl) (by rfl) ?_; try dsimp only))
  | ((with_reducible show wpAny _ _ (callWith _ (.builtin _) _ _ _) _ _ _); refine PyProof.Rows.callWith_builtin1 ?_ (by with_unfolding_all rfl) (by with_unfolding_all rfl))
  | ((with_reducible show wpAny _ _ (callWith _ (.type _) _ _ _) _ _ _); refine Mine.callWith_ty ?_ (by with_unfolding_all rfl) (by with_unfolding_all rfl))
  | ((with_reducible show wpAny _ _ (callWith _ (.ref _) _ (backTo _ (starEach [] _)) _) _ _ _); refine callWith_K0 (Fm.G ‹Fm _ _ _ _ _ _ _ _›).K (by rfl) ?_)
  | with_reducible refine wpAny_BinOp (op := .Mod) ?_
  | with_reducible refine wpAny_BinOp (op := .FloorDiv) ?_
  | ((with_reducible show wpAny _ _ (callWith _ (.ref _) _ _ _) _ _ _); refine callWith_K (Fm.G ‹Fm _ _ _ _ _ _ _ _›).K (by rfl) ?_))

theorem list_copyI {l : Addr} {xs : Array Value} (hl : s.heap.IsList l xs) (hz : xs.size ≤ 1000) (h : ∀ D s', Ex [] s s' → s.heap.get? D = none → s'.heap.PlainList D xs → Q (.ref D) s') : wpAny (model pw w) A (call (.type "list") [.ref l]) Q E s := by
  obtain ⟨o, e, hc, n, hd⟩ := hl
  exact call_list_seq l (.inl rfl) e hc hd (fun h' c' hk hD => h _ _ (Ex.of_keep (tk := s.toks) hk) (get_size _) ⟨c', hD⟩) (by rw [sizeLine_eq]; omega)
theorem IntsAre.append : ∀ {xs ys : List Value} {ns ms : List Int}, IntsAre xs ns → IntsAre ys ms → IntsAre (xs ++ ys) (ns ++ ms)
  | _, _, _, _, .nil, h => h
  | _, _, _, _, .cons i t h, h' => .cons i t (IntsAre.append h h')
theorem more_at {h : Heap} (K : (Kf w.params).In h) : ∃ ys ms, h.PlainList 490 (List.toArray ys) ∧ IntsAre ys ms ∧ ys.length = 17 := by
  have e := K 490 _ (by rfl)
  exact ⟨_, _, ⟨0, e⟩, intsAre_of (by rfl), rfl⟩
theorem Fm.sta {Q : Unit → Shared → Prop} {s₀ : Shared} {L : Addr} {m : Str → Option Value} {V : List Addr} {env : Env} {x : Str} {v : Value} (F : Fm w mg mb s₀ L m V s)
    (h : ∀ s' m', m' x = some v → (∀ y, y ≠ x → m' y = m y) → Fm w mg mb s₀ L m' V s' → Ex [L] s s' → Q () s')
    (he : env.locals = L := by rfl) (hl : env.kindOf x = some .local := by rfl) (hk : env.scope.kind = .function := by rfl) : wpAny (model pw w) A (storeName env x v) Q E s :=
  F.st (fun s' F' Y => h s' _ (if_pos rfl) (fun y hy => if_neg hy) F' Y) he hl hk
def oldA (s0 : Shared) : List Addr := (List.range s0.heap.objs.size).filter fun b => (s0.heap.get? b).isSome
theorem oldA_mem {s0 : Shared} {b : Addr} : b ∈ oldA s0 ↔ ∃ o, s0.heap.get? b = some o := by
  unfold oldA
  rw [List.mem_filter, List.mem_range, Option.isSome_iff_exists]
  exact ⟨fun h => h.2, fun ⟨o, e⟩ => ⟨Heap.lt_size e, o, e⟩⟩
def datK (j : Nat) : Data := (List.range j).map fun (i : Nat) => (idS (i : Int), (1001, idS (i : Int)) :: rowS (i : Int))
theorem datK_succ (j : Nat) : datK (j + 1) = datK j ++ [(idS (j : Int), (1001, idS (j : Int)) :: rowS (j : Int))] := by
  unfold datK
  rw [List.range_succ, List.map_append]
  rfl
theorem datK_facts {j : Nat} (h : j ≤ 2) : ((datK j).map (·.1)).Nodup ∧ DataOk 0 (datK j) := by
  have hj : j = 0 ∨ j = 1 ∨ j = 2 := by omega
  rcases hj with rfl | rfl | rfl
  · exact ⟨by decide +kernel, by simp [datK], by simp [datK]⟩
  · refine ⟨by decide +kernel, by simp [datK], fun kr hkr => ?_⟩
    simp [datK] at hkr
    subst hkr
    exact ⟨by decide +kernel, by decide +kernel, _, _, rfl, rfl⟩
  · refine ⟨by decide +kernel, by simp [datK], fun kr hkr => ?_⟩
    simp [datK, List.range_succ] at hkr
    rcases hkr with rfl | rfl
    · exact ⟨by decide +kernel, by decide +kernel, _, _, rfl, rfl⟩
    · exact ⟨by decide +kernel, by decide +kernel, _, _, rfl, rfl⟩
section
variable {cd : Value} {fa L T dd d pl H X0 dX0 D2 sc : Addr} {s0 sT s' : Shared} {m : Str → Option Value} {data : Data} {kvs : List (Str × Value)} {ps : List Addr} {rows : List Row} {nums hs xs : List Value} {ns : List Int}
theorem Pre.nps (X : Pre w mg mb s0 L H pl D2 m data ps rows hs nums s) : H ∉ pl :: ps := by
  intro z
  rcases List.mem_cons.mp z with z | z
  · exact X.nHp z
  · have a := X.plain.parts
    obtain ⟨kr, _, l, t, ⟨n, e⟩, _⟩ := All2.mem a z
    obtain ⟨n', e'⟩ := X.hl
    rw [e] at e'
    simp at e'
    obtain ⟨e', _⟩ := e'
    have tl := X.tl
    rw [← e'] at tl
    cases tl with
    | cons h _ => obtain ⟨_, _, e, _⟩ := h; cases e
theorem lp_of (X : Pre w mg mb s0 L H pl D2 m data ps rows hs nums s) (mt : m "told" = some (.ref T)) (f : Full w s T dd d (L :: (L + 1) :: H :: X0 :: dX0 :: oldA s0) data kvs)
    (hd : (X0 = H ∧ dX0 = H) ∨ ∃ row, TagsAt s.heap X0 dX0 row ∧ dX0 ≠ L) : Lp w mg mb s0 s L (L + 1) T dd d (H :: X0 :: dX0 :: oldA s0) m none data kvs pl data ps s := by
  have lists : ∀ b ∈ pl :: ps, ∃ xs, s.heap.PlainList b xs := by
    intro b hb
    rcases List.mem_cons.mp hb with rfl | hb
    · exact ⟨_, X.plain.lst⟩
    · have a := X.plain.parts
      obtain ⟨kr, _, l, t, p, _⟩ := All2.mem a hb
      exact ⟨_, p⟩
  have hXs : ∀ b ∈ [X0, dX0], (∃ o, s.heap.get? b = some o) ∧ b ≠ L ∧ b ≠ L + 1 ∧ ∀ c ∈ pl :: ps, c ≠ b := by
    rcases hd with ⟨h1, h2⟩ | ⟨row, t, hn⟩
    · intro b hb
      have : b = H := by simpa [h1, h2] using hb
      rw [this]
      obtain ⟨n, e⟩ := X.hl
      exact ⟨⟨_, e⟩, fun z => Ns.notList X.F.N (z ▸ X.hl), fun z => IsCell.notList X.cell (z ▸ X.hl), fun c hc z => X.nps (z ▸ hc)⟩
    · have t' := t
      obtain ⟨us, ⟨n, e⟩, _, e2⟩ := t'
      obtain ⟨oc, ec, dc⟩ := X.cell
      intro b hb
      simp at hb
      rcases hb with rfl | rfl
      · exact ⟨⟨_, e⟩, Ns.ne_seq X.F.N ⟨_, n, e, rfl⟩, (fun z => by rw [z, ec] at e; cases e; cases dc), fun c hc z => by obtain ⟨xs, l⟩ := lists c hc; exact (t.notList l).1 z.symm⟩
      · exact ⟨⟨_, e2⟩, hn, (fun z => by rw [z, ec] at e2; cases e2; cases dc), fun c hc z => by obtain ⟨xs, l⟩ := lists c hc; exact (t.notList l).2 z.symm⟩
  refine ⟨X.F, mt, X.mp, X.mh, f, X.plain, X.cell, X.hic, fun b hb z => ?_, fun b hb => ?_, fun b o e => ?_, fun z => ?_, fun z => ?_, Off.refl⟩
  · simp only [List.mem_cons] at z
    rcases z with rfl | z | z | z
    · exact X.nps hb
    · exact (hXs X0 (by simp)).2.2.2 b hb z
    · exact (hXs dX0 (by simp)).2.2.2 b hb z
    · obtain ⟨o, e⟩ := oldA_mem.mp z
      rw [X.new b (by simp only [List.mem_cons] at hb ⊢; exact .inr hb)] at e; cases e
  · simp only [List.mem_cons] at hb
    rcases hb with rfl | rfl | rfl | hb
    · obtain ⟨n, e⟩ := X.hl; exact ⟨_, e⟩
    · exact (hXs _ (by simp)).1
    · exact (hXs _ (by simp)).1
    · exact X.F.X.there' (oldA_mem.mp hb)
  · simp only [List.mem_cons]
    exact .inr (.inr (.inr (oldA_mem.mpr ⟨o, e⟩)))
  · simp only [List.mem_cons] at z
    rcases z with z | z | z | z
    · exact Ns.notList X.F.N (z ▸ X.hl)
    · exact (hXs X0 (by simp)).2.1 z.symm
    · exact (hXs dX0 (by simp)).2.1 z.symm
    · obtain ⟨o, e⟩ := oldA_mem.mp z
      rw [X.F.f] at e; cases e
  · simp only [List.mem_cons] at z
    rcases z with z | z | z | z
    · exact IsCell.notList X.cell (z ▸ X.hl)
    · exact (hXs X0 (by simp)).2.2.1 z.symm
    · exact (hXs dX0 (by simp)).2.2.1 z.symm
    · obtain ⟨o, e⟩ := oldA_mem.mp z
      rw [X.cnew] at e; cases e
end
end Mine

namespace Mine
variable {w : World} {mg mb : Str → Option Value}
variable {s : Shared} {Q : Value → Shared → Prop} {E : Value → Shared → Prop} {A : Around} {n : Nat}

local macro_rules | `(tactic| walk_at "m go") => `(tactic| first
  | with_reducible refine wpAny_execs_cons ?_
  | with_reducible refine wpAny_Return_some ?_
  | with_reducible refine wpAny_Call_NameR ?_
  | with_reducible refine wpAny_items_cons ?_ (by with_unfolding_all rfl)
  | with_reducible refine wpAny_items_nil ?_
  | with_reducible refine Attribute_name ?_
  | with_reducible refine wpAny_Compare1 ?_ (by with_unfolding_all rfl)
  | with_reducible refine wpAny_isTrue_Compare1 ?_ (by with_unfolding_all rfl)
  | with_reducible refine wpAny_isTrue_Not ?_
  | with_reducible refine wpAny_isTrue_BoolOp ?_
  | with_reducible refine wpAny_allTrue_And_cons ?_
  | with_reducible refine wpAny_allTrue_And_nil ?_
  | with_reducible refine wpAny_allTrue_Or_cons ?_
  | with_reducible refine wpAny_allTrue_Or_nil ?_
  | with_reducible refine wpAny_If ?_
  | ((with_reducible show wpAny _ _ (exec (.Expr _ _) _) _ _ _); refine wpAny_Expr_any ?_)
  | ((with_reducible show wpAny _ _ (eval (.Call (.Attribute _ _ _) _ [] _) _) _ _ _); refine MethodCall_ ?_ (by rfl))
  | with_reducible refine wpAny_truthy_bool ?_
  | with_reducible refine wpAny_execs_nil ?_
  | ((with_reducible show wpAny _ _ (PySem.isTrue (.Call _ _ _ _) _ _) _ _ _); refine wpAny_isTrue_value ?_ (by rfl))
  | ((with_reducible show wpAny _ _ (PySem.isTrue (.Name _ _) _ _) _ _ _); refine wpAny_isTrue_value ?_ (by rfl))
  | with_reducible refine wpAny_Assign_Name ?_ (by with_unfolding_all rfl)
  | with_reducible refine wpAny_Constant_int ?_
  | with_reducible refine wpAny_Constant_str ?_
  | with_reducible refine wpAny_Constant_bool ?_
  | with_reducible refine wpAny_Constant_none ?_
  | ((with_reducible show wpAny _ _ (eval (.Name _ _) _) _ _ _); first
    | refine Fm.ldL ‹Fm _ _ _ _ _ _ _ _› (by rfl) ?_
    | refine Fm.ldL ‹Fm _ _ _ _ _ _ _ _› (by assumption) ?_
    | refine Fm.ldG ‹Fm _ _ _ _ _ _ _ _› (by rfl) ?_
    | (refine Fm.ldB (v := .builtin _) ‹Fm _ _ _ _ _ _ _ _› (by rfl) (by rfl) ?_; try dsimp only)
    | (refine Fm.ldB (v := .type _) ‹Fm _ _ _ _ _ _ _ _› (by rfl) (by rfl) ?_; try dsimp only))
  | ((with_reducible show wpAny _ _ (callWith _ (.builtin _) _ _ _) _ _ _); refine PyProof.Rows.callWith_builtin1 ?_ (by with_unfolding_all rfl) (by with_unfolding_all rfl))
  | ((with_reducible show wpAny _ _ (callWith _ (.type _) _ _ _) _ _ _); refine Mine.callWith_ty ?_ (by with_unfolding_all rfl) (by with_unfolding_all rfl))
  | ((with_reducible show wpAny _ _ (callWith _ (.ref _) _ (backTo _ (starEach [] _)) _) _ _ _); refine callWith_K0 (Fm.G ‹Fm _ _ _ _ _ _ _ _›).K (by rfl) ?_)
  | with_reducible refine wpAny_BinOp (op := .Mod) ?_
  | with_reducible refine wpAny_BinOp (op := .FloorDiv) ?_
  | ((with_reducible show wpAny _ _ (callWith _ (.ref _) _ _ _) _ _ _); refine callWith_K (Fm.G ‹Fm _ _ _ _ _ _ _ _›).K (by rfl) ?_))

section
variable {cd : Value} {fa L T dd d pl H X0 dX0 D2 sc : Addr} {s0 sT s' : Shared} {m : Str → Option Value} {data : Data} {kvs : List (Str × Value)} {ps : List Addr} {rows : List Row} {nums hs xs : List Value} {ns : List Int}
theorem law_told {Q : Flow → Shared → Prop} {j : Nat} (r : Rm (n + 40) A) (hA : A.frames = some [LE cd fa L]) (X : Pre w mg mb s0 L H pl D2 m (datK j) ps ((datK j).map (·.2)) hs nums s) (hj : j ≤ 2) (hh : hs.length = j) (hints : IntsAre nums ns) (h17 : 17 ≤ nums.length) (h100 : nums.length ≤ 200)
    (fin : ∀ s', Ex [] s0 s' → Q (.ret (.bool true)) s') : wpAny (model pw w) A (execs ((bodyOf (st1 30)).drop 5) (LE cd fa L)) Q (fun _ _ => False) s := by
  obtain ⟨hn, hok⟩ := datK_facts hj
  have F := X.F
  have eh := X.mh
  have oldN : ∀ b ∈ oldA s0, ∃ o, s.heap.get? b = some o := fun b hb => F.X.there' (oldA_mem.mp hb)
  have hLc : (∃ o, s.heap.get? L = some o) ∧ (∃ o, s.heap.get? (L + 1) = some o) := ⟨let ⟨o, _, _, e, _⟩ := F.N; ⟨o, e⟩, let ⟨o, e, _⟩ := X.cell; ⟨o, e⟩⟩
  have hHH : ∃ o, s.heap.get? H = some o := let ⟨n, e⟩ := X.hl; ⟨_, e⟩
  refine wpAny_execs_cons ?_
  refine wpAny_Assign_Name ?_ (by with_unfolding_all rfl)
  refine wpAny_IfExp ?_
  repeat walk_at "m go"
  refine truthy_lst X.hl (by omega) fun s1 Y1 => ?_
  have X1 := X.ex0 Y1
  clear F
  have F := X1.F
  cases hs with
  | nil =>
    have hj0 : j = 0 := by simpa using hh.symm
    subst hj0
    rw [if_neg (by simp)]
    repeat walk_at "m go"
    refine xdata_empty (n := n) (N := L :: (L + 1) :: H :: H :: H :: oldA s0) (r.mono (by omega)) F.G ?_ fun T dd d s2 Y2 _ _ _ f2 => ?_
    · intro b hb
      refine Y1.there' ?_
      simp only [List.mem_cons] at hb
      rcases hb with rfl | rfl | rfl | rfl | rfl | hb
      · exact hLc.1
      · exact hLc.2
      · exact hHH
      · exact hHH
      · exact hHH
      · exact oldN b hb
    have X2 := X1.ex0 Y2
    clear F
    refine X2.sta (x := "told") (by decide) (by decide) (by decide) fun s3 m3 e3 o3 X3 Y3 => ?_
    have lp := lp_of X3 e3 (f2.exN Y3 (by simp)) (.inl ⟨rfl, rfl⟩)
    exact law_rest r hA lp hok X3.mn X3.n2 hints h17 h100 X3.hl X3.hiH (by simp) (.inl rfl) fin
  | cons v hs =>
    rw [if_pos (by rfl)]
    have tl := X.tl
    have hj1 : j ≠ 0 := fun z => by rw [z] at hh; simp at hh
    obtain ⟨i, rfl⟩ : ∃ i, j = i + 1 := ⟨j - 1, by omega⟩
    have hd0 : ∃ rest, (datK (i + 1)).map (·.2) = ((1001, idS 0) :: rowS 0) :: rest := by
      unfold datK
      rw [List.range_succ_eq_map]
      exact ⟨_, rfl⟩
    obtain ⟨rest, er⟩ := hd0
    rw [er] at tl
    cases tl with
    | cons h0 _ =>
    obtain ⟨X0, dX0, rfl, tg, hX0, hdX0, _, ndL⟩ := h0
    have tgx := tg
    obtain ⟨us, ⟨nu, eu⟩, _, ed⟩ := tgx
    repeat walk_at "m go"
    refine ⟨F.G.K, xdata_of (n := n) (N := L :: (L + 1) :: H :: X0 :: dX0 :: oldA s0) (r.mono (by omega)) F.G X1.hl X1.hiH X1.tl.tags ?_ ?_ ?_ fun T dd d kvs s2 Y2 _ _ _ f2 => ?_⟩
    · rw [List.length_map]
      have := hok.1
      omega
    · intro b hb
      refine Y1.there' ?_
      simp only [List.mem_cons] at hb
      rcases hb with rfl | rfl | rfl | rfl | rfl | hb
      · exact hLc.1
      · exact hLc.2
      · exact hHH
      · exact ⟨_, eu⟩
      · exact ⟨_, ed⟩
      · exact oldN b hb
    · intro row hm
      obtain ⟨kr, hkr, rfl⟩ := List.mem_map.mp hm
      exact (hok.2 kr hkr).2.1
    rw [putAll_same hn fun kr hkr => (hok.2 kr hkr).2.2] at f2
    have X2 := X1.ex0 Y2
    clear F eh
    repeat walk_at "m go"
    refine X2.sta (x := "told") (by decide) (by decide) (by decide) fun s3 m3 e3 o3 X3 Y3 => ?_
    have nX0L : X0 ≠ L := Ns.ne_seq X.F.N ⟨_, nu, eu, rfl⟩
    have tg3 := ((tg.ex Y1 hX0 hdX0 (by simp) (by simp)).ex Y2 hX0 hdX0 (by simp) (by simp)).ex Y3 hX0 hdX0 (by simpa using nX0L) (by simpa using ndL)
    have lp := lp_of X3 e3 (f2.exN Y3 (by simp)) (.inr ⟨_, tg3, ndL⟩)
    exact law_rest r hA lp hok X3.mn X3.n2 hints h17 h100 X3.hl X3.hiH (by simp at hh ⊢; omega) (.inr ⟨hs, rfl, tg3, hX0, hdX0⟩) fin
end
end Mine

namespace Mine
variable {w : World} {mg mb : Str → Option Value}
variable {s : Shared} {Q : Value → Shared → Prop} {E : Value → Shared → Prop} {A : Around} {n : Nat}

local macro_rules | `(tactic| walk_at "m go") => `(tactic| first
  | with_reducible refine wpAny_execs_cons ?_
  | with_reducible refine wpAny_Return_some ?_
  | with_reducible refine wpAny_Call_NameR ?_
  | with_reducible refine wpAny_items_cons ?_ (by with_unfolding_all rfl)
  | with_reducible refine wpAny_items_nil ?_
  | with_reducible refine Attribute_name ?_
  | with_reducible refine wpAny_Compare1 ?_ (by with_unfolding_all rfl)
  | with_reducible refine wpAny_isTrue_Compare1 ?_ (by with_unfolding_all rfl)
  | with_reducible refine wpAny_isTrue_Not ?_
  | with_reducible refine wpAny_isTrue_BoolOp ?_
  | with_reducible refine wpAny_allTrue_And_cons ?_
  | with_reducible refine wpAny_allTrue_And_nil ?_
  | with_reducible refine wpAny_allTrue_Or_cons ?_
  | with_reducible refine wpAny_allTrue_Or_nil ?_
  | with_reducible refine wpAny_If ?_
  | ((with_reducible show wpAny _ _ (exec (.Expr _ _) _) _ _ _); refine wpAny_Expr_any ?_)
  | ((with_reducible show wpAny _ _ (eval (.Call (.Attribute _ _ _) _ [] _) _) _ _ _); refine MethodCall_ ?_ (by rfl))
  | with_reducible refine wpAny_truthy_bool ?_
  | with_reducible refine wpAny_execs_nil ?_
  | ((with_reducible show wpAny _ _ (PySem.isTrue (.Call _ _ _ _) _ _) _ _ _); refine wpAny_isTrue_value ?_ (by rfl))
  | ((with_reducible show wpAny _ _ (PySem.isTrue (.Name _ _) _ _) _ _ _); refine wpAny_isTrue_value ?_ (by rfl))
  | with_reducible refine wpAny_Assign_Name ?_ (by with_unfolding_all rfl)
  | with_reducible refine wpAny_Constant_int ?_
  | with_reducible refine wpAny_Constant_str ?_
  | with_reducible refine wpAny_Constant_bool ?_
  | with_reducible refine wpAny_Constant_none ?_
  | ((with_reducible show wpAny _ _ (eval (.Name _ _) _) _ _ _); first
    | refine Fm.ldL ‹Fm _ _ _ _ _ _ _ _› (by rfl) ?_
    | refine Fm.ldL ‹Fm _ _ _ _ _ _ _ _› (by assumption) ?_
    | refine Fm.ldG ‹Fm _ _ _ _ _ _ _ _› (by rfl) ?_
    | (refine Fm.ldB (v := .builtin _) ‹Fm _ _ _ _ _ _ _ _› (by rfl) (by rfl) ?_; try dsimp only)
    | (refine Fm.ldB (v := .type _) ‹Fm _ _ _ _ _ _ _ _› (by rfl) (by rfl) ?_; try dsimp only))
  | ((with_reducible show wpAny _ _ (callWith _ (.builtin _) _ _ _) _ _ _); refine PyProof.Rows.callWith_builtin1 ?_ (by with_unfolding_all rfl) (by with_unfolding_all rfl))
  | ((with_reducible show wpAny _ _ (callWith _ (.type _) _ _ _) _ _ _); refine Mine.callWith_ty ?_ (by with_unfolding_all rfl) (by with_unfolding_all rfl))
  | ((with_reducible show wpAny _ _ (callWith _ (.ref _) _ (backTo _ (starEach [] _)) _) _ _ _); refine callWith_K0 (Fm.G ‹Fm _ _ _ _ _ _ _ _›).K (by rfl) ?_)
  | with_reducible refine wpAny_BinOp (op := .Mod) ?_
  | with_reducible refine wpAny_BinOp (op := .FloorDiv) ?_
  | ((with_reducible show wpAny _ _ (callWith _ (.ref _) _ _ _) _ _ _); refine callWith_K (Fm.G ‹Fm _ _ _ _ _ _ _ _›).K (by rfl) ?_))

section
variable {cd : Value} {fa L T dd d pl H X0 dX0 D2 sc : Addr} {s0 sT s' : Shared} {m : Str → Option Value} {data : Data} {kvs : List (Str × Value)} {ps : List Addr} {rows : List Row} {nums hs xs : List Value} {ns : List Int}
theorem law_body {Q : Flow → Shared → Prop} (r : Rm (n + 40) A) (hA : A.frames = some [LE cd fa L]) (F : Fm w mg mb s0 L m [] s) (ms : m "script" = some (.ref sc)) (hsc : s.heap.IsList sc xs.toArray) (hx : IntsAre xs ns) (hz : xs.length ≤ 63)
    (cell : s.heap.IsCell (L + 1) none) (hic : Hi (L + 1)) (cnew : s0.heap.get? (L + 1) = none)
    (fin : ∀ s', Ex [] s0 s' → Q (.ret (.bool true)) s') : wpAny (model pw w) A (execs (bodyOf (st1 30)) (LE cd fa L)) Q (fun _ _ => False) s := by
  have ncL : L + 1 ≠ L := Nat.succ_ne_self L
  refine wpAny_execs_cons ?_
  refine wpAny_Assign_Name ?_ (by with_unfolding_all rfl)
  refine wpAny_BinOp ?_
  repeat walk_at "m go"
  refine list_copyI hsc (by simp; omega) fun D1 s1 Y1 fD1 p1 => ?_
  replace F := F.go Y1
  repeat walk_at "m go"
  obtain ⟨ys, mns, p490, hy, hyl⟩ := more_at F.G.K
  refine list_add p1 p490 (by omega) fun D2 s2 Y2 fD2 p2 => ?_
  have hi2 := F.G.hi fD2
  have nD2L := F.neL fD2
  replace F := F.go Y2
  have hints := hx.append hy
  have h17 : 17 ≤ (xs ++ ys).length := by simp; omega
  have h100 : (xs ++ ys).length ≤ 200 := by simp; omega
  generalize xs ++ ys = nums at p2 hints h17 h100
  generalize ns ++ mns = nn at hints
  have c2 : s2.heap.IsCell (L + 1) none := IsCell.ex (Y1.then0 Y2) cell hic (by simp)
  repeat walk_at "m go"
  refine F.sta (x := "numbers") fun s3 m3 mn3 o3 F3 Y3 => ?_
  clear F
  have p3 := PlainList.ex Y3 p2 hi2 (by simpa using nD2L)
  have c3 := IsCell.ex Y3 c2 hic (by simpa using ncL)
  obtain ⟨v0, rest, hnums⟩ : ∃ v0 rest, nums = v0 :: rest := by
    cases nums with
    | nil => simp at h17
    | cons v r => exact ⟨v, r, rfl⟩
  obtain ⟨n0, t0, hv0⟩ := IntsAre.at hints v0 (by rw [hnums]; exact .head _)
  repeat walk_at "m go"
  refine sub_lst ?_
  repeat walk_at "m go"
  refine ⟨D2, _, v0, rfl, p3, by omega, by omega, by rw [hnums]; rfl, ?_⟩
  rw [hv0]
  refine (F3.go (Ex.tok (s3.toks + 1))).sta (x := "first") fun s4 m4 mf4 o4 F4 Y4 => ?_
  clear F3
  have Y34 : Ex [L] s3 s4 := (Ex.tok (s3.toks + 1)).of0 Y4
  have mn4 : m4 "numbers" = some (.ref D2) := (o4 _ (by decide)).trans mn3
  have p4 := PlainList.ex Y34 p3 hi2 (by simpa using nD2L)
  have c4 := IsCell.ex Y34 c3 hic (by simpa using ncL)
  refine wpAny_execs_cons ?_
  refine wpAny_Assign_Name ?_ (by with_unfolding_all rfl)
  refine list_ev (wpAny_items_nil ⟨by simp, fun pl s5 Y5 fpl ppl => ?_⟩)
  have hipl := F4.G.hi fpl
  have nplL := F4.neL fpl
  have pl0 := F4.new fpl
  have n2p : D2 ≠ pl := fun z => by obtain ⟨_, e⟩ := p4; rw [z, fpl] at e; cases e
  refine (F4.go Y5).sta (x := "plain") fun s6 m6 mp6 o6 F6 Y6 => ?_
  clear F4
  have Y46 : Ex [L] s4 s6 := Y5.of0 Y6
  have mn6 : m6 "numbers" = some (.ref D2) := (o6 _ (by decide)).trans mn4
  have mf6 : m6 "first" = some (.int n0 t0) := (o6 _ (by decide)).trans mf4
  have p6 := PlainList.ex Y46 p4 hi2 (by simpa using nD2L)
  have c6 := IsCell.ex Y46 c4 hic (by simpa using ncL)
  have pl6 := PlainList.ex Y6 ppl hipl (by simpa using nplL)
  refine wpAny_execs_cons ?_
  refine wpAny_Assign_Name ?_ (by with_unfolding_all rfl)
  refine list_ev (wpAny_items_nil ⟨by simp, fun H s7 Y7 fH pH => ?_⟩)
  have hiH := F6.G.hi fH
  have nHL := F6.neL fH
  have H0 := F6.new fH
  have n2H : D2 ≠ H := fun z => by obtain ⟨_, e⟩ := p6; rw [z, fH] at e; cases e
  have nHp : H ≠ pl := fun z => by obtain ⟨_, e⟩ := pl6; rw [← z, fH] at e; cases e
  refine (F6.go Y7).sta (x := "handed") fun s8 m8 mh8 o8 F8 Y8 => ?_
  clear F6
  have Y68 : Ex [L] s6 s8 := Y7.of0 Y8
  have mn8 : m8 "numbers" = some (.ref D2) := (o8 _ (by decide)).trans mn6
  have mf8 : m8 "first" = some (.int n0 t0) := (o8 _ (by decide)).trans mf6
  have mp8 : m8 "plain" = some (.ref pl) := (o8 _ (by decide)).trans mp6
  have p8 := PlainList.ex Y68 p6 hi2 (by simpa using nD2L)
  have c8 := IsCell.ex Y68 c6 hic (by simpa using ncL)
  have pl8 := PlainList.ex Y68 pl6 hipl (by simpa using nplL)
  have h8 := PlainList.ex Y8 pH hiH (by simpa using nHL)
  have X8 : Pre w mg mb s0 L H pl D2 m8 (datK 0) [] ((datK 0).map (·.2)) [] nums s8 :=
    ⟨F8, mp8, mh8, mn8, ⟨pl8, hipl, .nil, List.nodup_nil⟩, h8, hiH, .nil, p8, hi2, nHp, n2H, n2p, by simp [H0, pl0], c8, hic, cnew, by simp [datK]⟩
  have bd := fmod_bd n0 (b := 3) (by decide)
  refine wpAny_execs_cons ?_
  refine for_range (mg := mg) (mb := mb) r.hh ?_
  repeat walk_at "m go"
  refine PyProof.Rows.mod_int (by decide) ?_
  generalize n0.fmod 3 = b at bd
  refine wpAny_items_nil ?_
  refine call_range_1 ?_
  have Y9 : Ex [] s8 { s8 with heap := s8.heap.push { cls := .type "range", data := .fields #[.int 0 (s8.toks + 1 + 1), .int b (s8.toks + 1), .int 1 (s8.toks + 1 + 1 + 1)] }, toks := s8.toks + 1 + 1 + 1 + 1 } := Ex.push _ _
  have X9 := X8.ex0 Y9
  refine ⟨_, b, _, _, _, rfl, IsRange.new _ _ _ _ _ _ _, bd.1, by omega, X9.F.G, fun it s10 Y10 fit => ?_⟩
  have it0 := X9.F.new fit
  have nit : ∀ a ∈ [L, H, pl], a ≠ it := by
    have hh : ∀ a ∈ [L, H, pl], ∃ o, s8.heap.get? a = some o := by
      intro a ha
      simp at ha
      rcases ha with rfl | rfl | rfl
      · obtain ⟨o, _, _, e, _⟩ := X8.F.N; exact ⟨o, e⟩
      · obtain ⟨_, e⟩ := h8; exact ⟨_, e⟩
      · obtain ⟨_, e⟩ := pl8; exact ⟨_, e⟩
    intro a ha z
    obtain ⟨o, e⟩ := hh a ha
    obtain ⟨o', e'⟩ := Y9.there _ _ e
    rw [z, fit] at e'; cases e'
  clear F8
  refine ⟨fun j s' => ∃ m ps hs, Pre w mg mb s0 L H pl D2 m (datK j) ps ((datK j).map (·.2)) hs nums s' ∧ ps.length = j ∧ hs.length = j, ⟨m8, [], [], X9.ex0 Y10, rfl, rfl⟩, ?_, ?_, ?_⟩
  · rintro j s11 s12 ⟨m, ps, hs, X, h1, h2⟩ Y fl
    exact ⟨m, ps, hs, X.exIt Y fl it0, h1, h2⟩
  · rintro j tk s11 hj ⟨m, ps, hs, X, h1, h2⟩
    refine wpAny_assign_Name (X.sta (x := "k") (by decide) (by decide) (by decide) fun s12 m12 mk12 o12 X12 Y12 => ?_)
    refine kbody (n := n) r X12 mk12 (by omega) (by omega) (by omega) fun s13 m13 ps13 hs13 X13 l1 l2 Y13 => ?_
    have e1 := datK_succ j
    refine ⟨rfl, ⟨m13, ps13, hs13, ?_, by omega, by omega⟩, L :: [L, H, pl], ?_, ?_⟩
    · rw [e1, List.map_append]
      exact X13
    · exact Y12.trans Y13
    · intro z
      rcases List.mem_cons.mp z with z | z
      · exact nit L (by simp) z.symm
      · exact nit it z rfl
  · rintro s11 ⟨m, ps, hs, X, h1, h2⟩
    exact law_told r hA X (by omega) h2 hints h17 h100 fin
end
end Mine

namespace Mine
variable {w : World} {mg mb : Str → Option Value}
variable {s : Shared} {Q : Value → Shared → Prop} {E : Value → Shared → Prop} {A : Around} {n : Nat}

local macro_rules | `(tactic| walk_at "m go") => `(tactic| first
  | with_reducible refine wpAny_execs_cons ?_
  | with_reducible refine wpAny_Return_some ?_
  | with_reducible refine wpAny_Call_NameR ?_
  | with_reducible refine wpAny_items_cons ?_ (by with_unfolding_all rfl)
  | with_reducible refine wpAny_items_nil ?_
  | with_reducible refine Attribute_name ?_
  | with_reducible refine wpAny_Compare1 ?_ (by with_unfolding_all rfl)
  | with_reducible refine wpAny_isTrue_Compare1 ?_ (by with_unfolding_all rfl)
  | with_reducible refine wpAny_isTrue_Not ?_
  | with_reducible refine wpAny_isTrue_BoolOp ?_
  | with_reducible refine wpAny_allTrue_And_cons ?_
  | with_reducible refine wpAny_allTrue_And_nil ?_
  | with_reducible refine wpAny_allTrue_Or_cons ?_
  | with_reducible refine wpAny_allTrue_Or_nil ?_
  | with_reducible refine wpAny_If ?_
  | ((with_reducible show wpAny _ _ (exec (.Expr _ _) _) _ _ _); refine wpAny_Expr_any ?_)
  | ((with_reducible show wpAny _ _ (eval (.Call (.Attribute _ _ _) _ [] _) _) _ _ _); refine MethodCall_ ?_ (by rfl))
  | with_reducible refine wpAny_truthy_bool ?_
  | with_reducible refine wpAny_execs_nil ?_
  | ((with_reducible show wpAny _ _ (PySem.isTrue (.Call _ _ _ _) _ _) _ _ _); refine wpAny_isTrue_value ?_ (by rfl))
  | ((with_reducible show wpAny _ _ (PySem.isTrue (.Name _ _) _ _) _ _ _); refine wpAny_isTrue_value ?_ (by rfl))
  | with_reducible refine wpAny_Assign_Name ?_ (by with_unfolding_all rfl)
  | with_reducible refine wpAny_Constant_int ?_
  | with_reducible refine wpAny_Constant_str ?_
  | with_reducible refine wpAny_Constant_bool ?_
  | with_reducible refine wpAny_Constant_none ?_
  | ((with_reducible show wpAny _ _ (eval (.Name _ _) _) _ _ _); first
    | refine Fm.ldL ‹Fm _ _ _ _ _ _ _ _› (by rfl) ?_
    | refine Fm.ldL ‹Fm _ _ _ _ _ _ _ _› (by assumption) ?_
    | refine Fm.ldG ‹Fm _ _ _ _ _ _ _ _› (by rfl) ?_
    | (refine Fm.ldB (v := .builtin _) ‹Fm _ _ _ _ _ _ _ _› (by rfl) (by rfl) ?_; try dsimp only)
    | (refine Fm.ldB (v := .type _) ‹Fm _ _ _ _ _ _ _ _› (by rfl) (by rfl) ?_; try dsimp only))
  | ((with_reducible show wpAny _ _ (callWith _ (.builtin _) _ _ _) _ _ _); refine PyProof.Rows.callWith_builtin1 ?_ (by with_unfolding_all rfl) (by with_unfolding_all rfl))
  | ((with_reducible show wpAny _ _ (callWith _ (.type _) _ _ _) _ _ _); refine Mine.callWith_ty ?_ (by with_unfolding_all rfl) (by with_unfolding_all rfl))
  | ((with_reducible show wpAny _ _ (callWith _ (.ref _) _ (backTo _ (starEach [] _)) _) _ _ _); refine callWith_K0 (Fm.G ‹Fm _ _ _ _ _ _ _ _›).K (by rfl) ?_)
  | with_reducible refine wpAny_BinOp (op := .Mod) ?_
  | with_reducible refine wpAny_BinOp (op := .FloorDiv) ?_
  | ((with_reducible show wpAny _ _ (callWith _ (.ref _) _ _ _) _ _ _); refine callWith_K (Fm.G ‹Fm _ _ _ _ _ _ _ _›).K (by rfl) ?_))

theorem Ex.all {s s' : Shared} (Y : Ex [] s s') {a : Addr} {o : Obj} (e : s.heap.get? a = some o) (ht : tabA a = false) : s'.heap.get? a = some o := by
  obtain ⟨sl, h, q⟩ := Y.keep a o e ht (by simp)
  rw [q trivial] at h
  exact h
theorem tab_was {h h' : Heap} {c P : Addr} (h0 : h.TableAt c P #[]) (t : TabOk h' c P) {o : Obj} (e : h.get? P = some o) : asItWas h h' P o := by
  obtain ⟨ps, _, ht⟩ := t
  have e0 := h0.2
  rw [e] at e0
  cases e0
  exact .inr (.inl ⟨h0.isCodeTable, rfl, #[], ps, rfl, by simpa using ht.2⟩)
theorem oldK_of {s s' : Shared} (Y : Ex [] s s') (T : Tabs s.heap) (h1 : s.heap.TableAt 333 329 #[]) (h2 : s.heap.TableAt 340 336 #[]) (h3 : s.heap.TableAt 398 394 #[]) : OldK s.heap s'.heap := by
  have T' := Y.tabs T
  refine ⟨fun b o e => ?_, fun b o e => Y.there b o e⟩
  cases ht : tabA b with
  | false => exact .inl (Y.all e ht)
  | true =>
    have hb : b = 329 ∨ b = 336 ∨ b = 394 := by
      unfold tabA at ht
      simp only [Bool.or_eq_true, beq_iff_eq] at ht
      exact or_assoc.mp ht
    rcases hb with rfl | rfl | rfl
    · exact tab_was h1 T'.t1 e
    · exact tab_was h2 T'.t2 e
    · exact tab_was h3 T'.t3 e
theorem law_call {fa sc : Addr} {o : Obj} {fd : FuncData} {xs : List Value} {ns : List Int} {R : Result → Shared → Prop} (G : Gd w mg mb s) (ho : s.heap.get? fa = some o) (hd : o.data = .func fd)
    (hs : fd.scope = scopeOf (st1 30)) (hg : fd.globals = mainGlobals) (hq : fd.qualname = "law") (hb : fd.builtins = builtinsNs) (hbody : fd.body = .stmts (bodyOf (st1 30))) (hclo : fd.closure = [])
    (hcd : s.heap.CodeRec fd.code fd.qualname) (hbind : bindArgs fd ⟨[.ref sc], []⟩ = pure [(("script" : Str), Value.ref sc)]) (hsc : s.heap.IsList sc xs.toArray) (hx : IntsAre xs ns) (hz : xs.length ≤ 63)
    (h : ∀ s', Ex [] s s' → R (.ok (.ret (.bool true))) s') : codeAny (model pw w) callerA (.call (.ref fa) ⟨[.ref sc], []⟩) R s := by
  have hE : callEnvC fd s.heap.objs.size fa = LE fd.code fa s.heap.objs.size := by
    unfold callEnvC LE
    rw [hs, hg, hq, hb]
  have r : Rm 40 (callerA.deeper (LE fd.code fa s.heap.objs.size)) := Rm.deeper (n := 40) ⟨rfl, by decide, by decide⟩
  refine codeAny_call_cells (by decide) ho hd G.noLimit hcd hbody hbind hclo (fun x hx => ?_) (fun s₁ x => ?_) (by rw [hs]; rfl) (by rw [hs]; rfl) (by rw [hs]; rfl)
  · rw [List.mem_singleton.mp hx, hs]
    exact .inl (by rfl)
  rw [hE] at x ⊢
  obtain ⟨h', tk, e⟩ := x.toInCall.same
  have X : Ex [] s s₁ := by
    have hk := x.toInCall.keep
    rw [e] at hk ⊢
    exact Ex.of_keep hk
  have fL : s.heap.get? s.heap.objs.size = none := get_size _
  have hc1 : (LE fd.code fa s.heap.objs.size).cells.lookup ("word" : Str) = some (s.heap.objs.size + 1) := by rfl
  have cell : s₁.heap.IsCell (s.heap.objs.size + 1) none := x.cell "word" _ hc1
  have fc : s.heap.get? (s.heap.objs.size + 1) = none := by
    cases q : s.heap.get? (s.heap.objs.size + 1) with
    | none => rfl
    | some o => exact absurd (Nat.lt_trans (Nat.lt_succ_self _) (Heap.lt_size q)) (Nat.lt_irrefl _)
  have F : Fm w mg mb s s.heap.objs.size _ [] s₁ := ⟨G.ex X, x.toInCall.ns, X, fL, G.hi fL⟩
  have hk : ∀ b o, s.heap.get? b = some o → s₁.heap.get? b = some o := x.toInCall.keep
  refine wpAny_mono (law_body (n := 0) (sc := sc) (xs := xs) (ns := ns) r (Around.frames_deeper rfl) F (by rfl) (let ⟨o, a, b⟩ := hsc; ⟨o, hk _ _ a, b⟩) hx hz cell (G.hi fc) fc fun s' Y => ?_) (fun f s' z => z) fun _ _ z => z.elim
  exact h s' Y
theorem tabOk0 {h : Heap} {c P : Addr} (h1 : h.IsCode c P #[]) (h2 : h.TableAt c P #[]) : TabOk h c P := ⟨_, h1, h2⟩
theorem triples_nil : TriplesOk [] := by first | trivial | exact .nil | (unfold TriplesOk; simp)
theorem IntsAre.lenLaw : ∀ {vs : List Value} {ns : List Int}, IntsAre vs ns → vs.length = ns.length
  | _, _, .nil => rfl
  | _, _, .cons _ _ h => by rw [List.length_cons, List.length_cons, Mine.IntsAre.lenLaw h]
end Mine

namespace Mine
def subF (K' : Frag) : Frag → Prop
  | [] => True
  | p :: r => K'.lookup p.1 = some p.2 ∧ subF K' r
theorem subF_of {K' : Frag} : ∀ {K : Frag}, subF K' K → ∀ p ∈ K, K'.lookup p.1 = some p.2
  | [], _, _, h => nomatch h
  | _ :: _, ⟨e, r⟩, p, h => by
    rcases List.mem_cons.mp h with rfl | h
    · exact e
    · exact subF_of r p h
theorem In_of_sub {K K' : Frag} {h : Heap} (X : K'.In h) (sub : subF K' K) : K.In h := fun a o e => X a o (subF_of sub _ (lookup_mem e))
end Mine
open Mine

set_option maxRecDepth 100000 in
set_option maxHeartbeats 8000000 in
theorem PySem.Challenge.cw_et5013_01_holds : PySem.Challenge.rw_et5013_01.Holds := by
  w_on
  o_law
  x_head
  case hw => w_witness2
  k_fill
  intro w s₀ s₁ mg mb G Y fa o pm cd doc dV kV ho hd hcd hD hmg hg args vals as hpre hlay hrd hwl hlo
  have KX := kIn_of Y
  refine Ground.open G ?_
  intro T B D TE TW
  have he := Dflts.none hD rfl
  subst he
  have hK : (Kf w.params).In s₁.heap := by
    refine In_of_sub KX ?_
    repeat' (first | exact trivial | refine And.intro rfl ?_)
  have e1 := KX 329 _ (by rfl)
  have e2 := KX 336 _ (by rfl)
  have e3 := KX 394 _ (by rfl)
  have c1 := KX 333 _ (by rfl)
  have c2 := KX 340 _ (by rfl)
  have c3 := KX 398 _ (by rfl)
  have t1 : s₁.heap.TableAt 333 329 #[] := ⟨⟨_, _, c1, rfl, rfl, rfl⟩, e1⟩
  have t2 : s₁.heap.TableAt 340 336 #[] := ⟨⟨_, _, c2, rfl, rfl, rfl⟩, e2⟩
  have t3 : s₁.heap.TableAt 398 394 #[] := ⟨⟨_, _, c3, rfl, rfl, rfl⟩, e3⟩
  have i1 : s₁.heap.IsCode 333 329 #[] := ⟨_, _, _, _, _, _, _, _, _, _, c1, rfl, rfl, rfl, rfl, rfl, rfl, e1, rfl, triples_nil, by decide⟩
  have i2 : s₁.heap.IsCode 340 336 #[] := ⟨_, _, _, _, _, _, _, _, _, _, c2, rfl, rfl, rfl, rfl, rfl, rfl, e2, rfl, triples_nil, by decide⟩
  have i3 : s₁.heap.IsCode 398 394 #[] := ⟨_, _, _, _, _, _, _, _, _, _, c3, rfl, rfl, rfl, rfl, rfl, rfl, e3, rfl, triples_nil, by decide⟩
  have G0 : Gd w mg mb s₁ := ⟨hK, T.g, T.b, fun x v e => mg_of hK T.g e, fun x e => mg_none_of hK T.g e, T.builtins, ⟨tabOk0 i1 t1, tabOk0 i2 t2, tabOk0 i3 t3⟩, by rw [hg]; exact AllBare.empty⟩
  wrow_args hpre hlay hrd hwl hlo
  rename_i hL ra w1 r0 hI hr hc1 hc2
  show wpAny _ _ (call (.ref fa) [.ref _]) _ _ _
  refine wpAny_call (law_call G0 ho hd rfl rfl rfl rfl rfl rfl hcd (by rfl) hL hI (by rw [Mine.IntsAre.lenLaw hI]; omega) fun s' Z => ?_)
  exact ⟨.inl ⟨_, _, [], rfl, fun _ => rfl, ReadsW.bool true, by first | rfl | wrow_post, fun _ => ⟨List.nodup_nil, fun _ hm => nomatch hm⟩⟩, oldK_of Z G0.tabs t1 t2 t3, Z.os, Z.bare G0.bare⟩
