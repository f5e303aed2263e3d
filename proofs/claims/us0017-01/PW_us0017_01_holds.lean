import PyProof.Rows.All
import Wide.All
import OpenK.AllK
import Wide.FinOn
import PySem.Challenge.RW_us0017_01
section
open PySem PySem.W PySem.Calls
set_option Elab.async false
set_option maxRecDepth 100000
namespace Mine
noncomputable def stmtAt (i : Nat) : PySem.Stmt := PySem.Challenge.rw_us0017_01.prog.main.body.getD i (.Pass default)
noncomputable def fnD (i : Nat) (gl : Nat) (dV kV pm cd : Value) (bl : Nat) : Data := match stmtAt i with
  | .FunctionDef name args body _ _ _ scope _ _ _ => .func { name, qualname := name, params := args, body := .stmts body, scope, globals := gl, closure := [], defaults := dV, kwdefaults := kV, doc := .none, pyModule := pm, annotations := none, code := cd, closureTuple := .none, builtins := bl }
  | _ => .plain
noncomputable def pairsOf : List (Option PySem.Expr) → List PySem.Expr → List (Int × PySem.Str)
  | some (.Constant (.int i) _ _) :: ks, .Constant (.str x) _ _ :: vs => (i, x) :: pairsOf ks vs
  | _, _ => []
noncomputable def dictPairs : PySem.Stmt → List (Int × PySem.Str)
  | .Assign _ (.Dict ks vs _) _ => pairsOf ks vs
  | _ => []
noncomputable def ents (st : Nat) : Nat → List (Int × PySem.Str) → List DictEntry
  | _, [] => []
  | t, (i, x) :: r => ⟨i, .int i t, .str x (t + 1)⟩ :: ents st (t + st) r
noncomputable def b3ps : List (Int × PySem.Str) := dictPairs (stmtAt 17)
noncomputable def chunkAt (i : Nat) : List (Int × PySem.Str) := (b3ps.drop (17 * i)).take 17
noncomputable def entsAt (i : Nat) : List DictEntry := ents (if i < 38 then 3 else 2) (515 + 51 * i) (chunkAt i)
noncomputable def b3upto : Nat → List DictEntry
  | 0 => []
  | n + 1 => b3upto n ++ entsAt n
noncomputable def b3es : Array DictEntry := (b3upto 39).toArray
noncomputable def subO (i : Nat) : Obj := ⟨.type "dict", none, .dict (entsAt i).toArray (entsAt i).length, #[]⟩

noncomputable def o0 (P : Params) : Obj := ⟨(.type "dict"), none, .dict #[⟨PyData.keyHash P (PySem.Str.ofString "__name__"), (.str (PySem.Str.ofString "__name__") 1), (.str (PySem.Str.ofString "builtins") 160)⟩, ⟨PyData.keyHash P (PySem.Str.ofString "__doc__"), (.str (PySem.Str.ofString "__doc__") 2), (.builtin "builtins.__doc__:str#opaque")⟩, ⟨PyData.keyHash P (PySem.Str.ofString "__package__"), (.str (PySem.Str.ofString "__package__") 3), (.builtin "builtins.__package__:str#opaque")⟩, ⟨PyData.keyHash P (PySem.Str.ofString "__loader__"), (.str (PySem.Str.ofString "__loader__") 4), (.builtin "builtins.__loader__:shared#opaque")⟩, ⟨PyData.keyHash P (PySem.Str.ofString "__spec__"), (.str (PySem.Str.ofString "__spec__") 5), (.builtin "builtins.__spec__#opaque")⟩, ⟨PyData.keyHash P (PySem.Str.ofString "__build_class__"), (.str (PySem.Str.ofString "__build_class__") 6), (.builtin "__build_class__")⟩, ⟨PyData.keyHash P (PySem.Str.ofString "__import__"), (.str (PySem.Str.ofString "__import__") 7), (.builtin "__import__")⟩, ⟨PyData.keyHash P (PySem.Str.ofString "abs"), (.str (PySem.Str.ofString "abs") 8), (.builtin "abs")⟩, ⟨PyData.keyHash P (PySem.Str.ofString "all"), (.str (PySem.Str.ofString "all") 9), (.builtin "all")⟩, ⟨PyData.keyHash P (PySem.Str.ofString "any"), (.str (PySem.Str.ofString "any") 10), (.builtin "any")⟩, ⟨PyData.keyHash P (PySem.Str.ofString "ascii"), (.str (PySem.Str.ofString "ascii") 11), (.builtin "ascii")⟩, ⟨PyData.keyHash P (PySem.Str.ofString "bin"), (.str (PySem.Str.ofString "bin") 12), (.builtin "bin")⟩, ⟨PyData.keyHash P (PySem.Str.ofString "breakpoint"), (.str (PySem.Str.ofString "breakpoint") 13), (.builtin "breakpoint")⟩, ⟨PyData.keyHash P (PySem.Str.ofString "callable"), (.str (PySem.Str.ofString "callable") 14), (.builtin "callable")⟩, ⟨PyData.keyHash P (PySem.Str.ofString "chr"), (.str (PySem.Str.ofString "chr") 15), (.builtin "chr")⟩, ⟨PyData.keyHash P (PySem.Str.ofString "compile"), (.str (PySem.Str.ofString "compile") 16), (.builtin "compile")⟩, ⟨PyData.keyHash P (PySem.Str.ofString "delattr"), (.str (PySem.Str.ofString "delattr") 17), (.builtin "delattr")⟩, ⟨PyData.keyHash P (PySem.Str.ofString "dir"), (.str (PySem.Str.ofString "dir") 18), (.builtin "dir")⟩, ⟨PyData.keyHash P (PySem.Str.ofString "divmod"), (.str (PySem.Str.ofString "divmod") 19), (.builtin "divmod")⟩, ⟨PyData.keyHash P (PySem.Str.ofString "eval"), (.str (PySem.Str.ofString "eval") 20), (.builtin "eval")⟩, ⟨PyData.keyHash P (PySem.Str.ofString "exec"), (.str (PySem.Str.ofString "exec") 21), (.builtin "exec")⟩, ⟨PyData.keyHash P (PySem.Str.ofString "format"), (.str (PySem.Str.ofString "format") 22), (.builtin "format")⟩, ⟨PyData.keyHash P (PySem.Str.ofString "getattr"), (.str (PySem.Str.ofString "getattr") 23), (.builtin "getattr")⟩, ⟨PyData.keyHash P (PySem.Str.ofString "globals"), (.str (PySem.Str.ofString "globals") 24), (.builtin "globals")⟩, ⟨PyData.keyHash P (PySem.Str.ofString "hasattr"), (.str (PySem.Str.ofString "hasattr") 25), (.builtin "hasattr")⟩, ⟨PyData.keyHash P (PySem.Str.ofString "hash"), (.str (PySem.Str.ofString "hash") 26), (.builtin "hash")⟩, ⟨PyData.keyHash P (PySem.Str.ofString "hex"), (.str (PySem.Str.ofString "hex") 27), (.builtin "hex")⟩, ⟨PyData.keyHash P (PySem.Str.ofString "id"), (.str (PySem.Str.ofString "id") 28), (.builtin "id")⟩, ⟨PyData.keyHash P (PySem.Str.ofString "input"), (.str (PySem.Str.ofString "input") 29), (.builtin "input")⟩, ⟨PyData.keyHash P (PySem.Str.ofString "isinstance"), (.str (PySem.Str.ofString "isinstance") 30), (.builtin "isinstance")⟩, ⟨PyData.keyHash P (PySem.Str.ofString "issubclass"), (.str (PySem.Str.ofString "issubclass") 31), (.builtin "issubclass")⟩, ⟨PyData.keyHash P (PySem.Str.ofString "iter"), (.str (PySem.Str.ofString "iter") 32), (.builtin "iter")⟩, ⟨PyData.keyHash P (PySem.Str.ofString "aiter"), (.str (PySem.Str.ofString "aiter") 33), (.builtin "aiter")⟩, ⟨PyData.keyHash P (PySem.Str.ofString "len"), (.str (PySem.Str.ofString "len") 34), (.builtin "len")⟩, ⟨PyData.keyHash P (PySem.Str.ofString "locals"), (.str (PySem.Str.ofString "locals") 35), (.builtin "locals")⟩, ⟨PyData.keyHash P (PySem.Str.ofString "max"), (.str (PySem.Str.ofString "max") 36), (.builtin "max")⟩, ⟨PyData.keyHash P (PySem.Str.ofString "min"), (.str (PySem.Str.ofString "min") 37), (.builtin "min")⟩, ⟨PyData.keyHash P (PySem.Str.ofString "next"), (.str (PySem.Str.ofString "next") 38), (.builtin "next")⟩, ⟨PyData.keyHash P (PySem.Str.ofString "anext"), (.str (PySem.Str.ofString "anext") 39), (.builtin "anext")⟩, ⟨PyData.keyHash P (PySem.Str.ofString "oct"), (.str (PySem.Str.ofString "oct") 40), (.builtin "oct")⟩, ⟨PyData.keyHash P (PySem.Str.ofString "ord"), (.str (PySem.Str.ofString "ord") 41), (.builtin "ord")⟩, ⟨PyData.keyHash P (PySem.Str.ofString "pow"), (.str (PySem.Str.ofString "pow") 42), (.builtin "pow")⟩, ⟨PyData.keyHash P (PySem.Str.ofString "print"), (.str (PySem.Str.ofString "print") 43), (.builtin "print")⟩, ⟨PyData.keyHash P (PySem.Str.ofString "repr"), (.str (PySem.Str.ofString "repr") 44), (.builtin "repr")⟩, ⟨PyData.keyHash P (PySem.Str.ofString "round"), (.str (PySem.Str.ofString "round") 45), (.builtin "round")⟩, ⟨PyData.keyHash P (PySem.Str.ofString "setattr"), (.str (PySem.Str.ofString "setattr") 46), (.builtin "setattr")⟩, ⟨PyData.keyHash P (PySem.Str.ofString "sorted"), (.str (PySem.Str.ofString "sorted") 47), (.builtin "sorted")⟩, ⟨PyData.keyHash P (PySem.Str.ofString "sum"), (.str (PySem.Str.ofString "sum") 48), (.builtin "sum")⟩, ⟨PyData.keyHash P (PySem.Str.ofString "vars"), (.str (PySem.Str.ofString "vars") 49), (.builtin "vars")⟩, ⟨PyData.keyHash P (PySem.Str.ofString "None"), (.str (PySem.Str.ofString "None") 50), .none⟩, ⟨PyData.keyHash P (PySem.Str.ofString "Ellipsis"), (.str (PySem.Str.ofString "Ellipsis") 51), .ellipsis⟩, ⟨PyData.keyHash P (PySem.Str.ofString "NotImplemented"), (.str (PySem.Str.ofString "NotImplemented") 52), .notImplemented⟩, ⟨PyData.keyHash P (PySem.Str.ofString "False"), (.str (PySem.Str.ofString "False") 53), (.bool false)⟩, ⟨PyData.keyHash P (PySem.Str.ofString "True"), (.str (PySem.Str.ofString "True") 54), (.bool true)⟩, ⟨PyData.keyHash P (PySem.Str.ofString "bool"), (.str (PySem.Str.ofString "bool") 55), (.type "bool")⟩, ⟨PyData.keyHash P (PySem.Str.ofString "memoryview"), (.str (PySem.Str.ofString "memoryview") 56), (.type "memoryview")⟩, ⟨PyData.keyHash P (PySem.Str.ofString "bytearray"), (.str (PySem.Str.ofString "bytearray") 57), (.type "bytearray")⟩, ⟨PyData.keyHash P (PySem.Str.ofString "bytes"), (.str (PySem.Str.ofString "bytes") 58), (.type "bytes")⟩, ⟨PyData.keyHash P (PySem.Str.ofString "classmethod"), (.str (PySem.Str.ofString "classmethod") 59), (.type "classmethod")⟩, ⟨PyData.keyHash P (PySem.Str.ofString "complex"), (.str (PySem.Str.ofString "complex") 60), (.type "complex")⟩, ⟨PyData.keyHash P (PySem.Str.ofString "dict"), (.str (PySem.Str.ofString "dict") 61), (.type "dict")⟩, ⟨PyData.keyHash P (PySem.Str.ofString "enumerate"), (.str (PySem.Str.ofString "enumerate") 62), (.type "enumerate")⟩, ⟨PyData.keyHash P (PySem.Str.ofString "filter"), (.str (PySem.Str.ofString "filter") 63), (.type "filter")⟩, ⟨PyData.keyHash P (PySem.Str.ofString "float"), (.str (PySem.Str.ofString "float") 64), (.type "float")⟩, ⟨PyData.keyHash P (PySem.Str.ofString "frozenset"), (.str (PySem.Str.ofString "frozenset") 65), (.type "frozenset")⟩, ⟨PyData.keyHash P (PySem.Str.ofString "property"), (.str (PySem.Str.ofString "property") 66), (.type "property")⟩, ⟨PyData.keyHash P (PySem.Str.ofString "int"), (.str (PySem.Str.ofString "int") 67), (.type "int")⟩, ⟨PyData.keyHash P (PySem.Str.ofString "list"), (.str (PySem.Str.ofString "list") 68), (.type "list")⟩, ⟨PyData.keyHash P (PySem.Str.ofString "map"), (.str (PySem.Str.ofString "map") 69), (.type "map")⟩, ⟨PyData.keyHash P (PySem.Str.ofString "object"), (.str (PySem.Str.ofString "object") 70), (.type "object")⟩, ⟨PyData.keyHash P (PySem.Str.ofString "range"), (.str (PySem.Str.ofString "range") 71), (.type "range")⟩, ⟨PyData.keyHash P (PySem.Str.ofString "reversed"), (.str (PySem.Str.ofString "reversed") 72), (.type "reversed")⟩, ⟨PyData.keyHash P (PySem.Str.ofString "set"), (.str (PySem.Str.ofString "set") 73), (.type "set")⟩, ⟨PyData.keyHash P (PySem.Str.ofString "slice"), (.str (PySem.Str.ofString "slice") 74), (.type "slice")⟩, ⟨PyData.keyHash P (PySem.Str.ofString "staticmethod"), (.str (PySem.Str.ofString "staticmethod") 75), (.type "staticmethod")⟩, ⟨PyData.keyHash P (PySem.Str.ofString "str"), (.str (PySem.Str.ofString "str") 76), (.type "str")⟩, ⟨PyData.keyHash P (PySem.Str.ofString "super"), (.str (PySem.Str.ofString "super") 77), (.type "super")⟩, ⟨PyData.keyHash P (PySem.Str.ofString "tuple"), (.str (PySem.Str.ofString "tuple") 78), (.type "tuple")⟩, ⟨PyData.keyHash P (PySem.Str.ofString "type"), (.str (PySem.Str.ofString "type") 79), (.type "type")⟩, ⟨PyData.keyHash P (PySem.Str.ofString "zip"), (.str (PySem.Str.ofString "zip") 80), (.type "zip")⟩, ⟨PyData.keyHash P (PySem.Str.ofString "__debug__"), (.str (PySem.Str.ofString "__debug__") 81), (.bool true)⟩, ⟨PyData.keyHash P (PySem.Str.ofString "BaseException"), (.str (PySem.Str.ofString "BaseException") 82), (.type "BaseException")⟩, ⟨PyData.keyHash P (PySem.Str.ofString "BaseExceptionGroup"), (.str (PySem.Str.ofString "BaseExceptionGroup") 83), (.type "BaseExceptionGroup")⟩, ⟨PyData.keyHash P (PySem.Str.ofString "Exception"), (.str (PySem.Str.ofString "Exception") 84), (.type "Exception")⟩, ⟨PyData.keyHash P (PySem.Str.ofString "GeneratorExit"), (.str (PySem.Str.ofString "GeneratorExit") 85), (.type "GeneratorExit")⟩, ⟨PyData.keyHash P (PySem.Str.ofString "KeyboardInterrupt"), (.str (PySem.Str.ofString "KeyboardInterrupt") 86), (.type "KeyboardInterrupt")⟩, ⟨PyData.keyHash P (PySem.Str.ofString "SystemExit"), (.str (PySem.Str.ofString "SystemExit") 87), (.type "SystemExit")⟩, ⟨PyData.keyHash P (PySem.Str.ofString "ArithmeticError"), (.str (PySem.Str.ofString "ArithmeticError") 88), (.type "ArithmeticError")⟩, ⟨PyData.keyHash P (PySem.Str.ofString "AssertionError"), (.str (PySem.Str.ofString "AssertionError") 89), (.type "AssertionError")⟩, ⟨PyData.keyHash P (PySem.Str.ofString "AttributeError"), (.str (PySem.Str.ofString "AttributeError") 90), (.type "AttributeError")⟩, ⟨PyData.keyHash P (PySem.Str.ofString "BufferError"), (.str (PySem.Str.ofString "BufferError") 91), (.type "BufferError")⟩, ⟨PyData.keyHash P (PySem.Str.ofString "EOFError"), (.str (PySem.Str.ofString "EOFError") 92), (.type "EOFError")⟩, ⟨PyData.keyHash P (PySem.Str.ofString "ImportError"), (.str (PySem.Str.ofString "ImportError") 93), (.type "ImportError")⟩, ⟨PyData.keyHash P (PySem.Str.ofString "LookupError"), (.str (PySem.Str.ofString "LookupError") 94), (.type "LookupError")⟩, ⟨PyData.keyHash P (PySem.Str.ofString "MemoryError"), (.str (PySem.Str.ofString "MemoryError") 95), (.type "MemoryError")⟩, ⟨PyData.keyHash P (PySem.Str.ofString "NameError"), (.str (PySem.Str.ofString "NameError") 96), (.type "NameError")⟩, ⟨PyData.keyHash P (PySem.Str.ofString "OSError"), (.str (PySem.Str.ofString "OSError") 97), (.type "OSError")⟩, ⟨PyData.keyHash P (PySem.Str.ofString "ReferenceError"), (.str (PySem.Str.ofString "ReferenceError") 98), (.type "ReferenceError")⟩, ⟨PyData.keyHash P (PySem.Str.ofString "RuntimeError"), (.str (PySem.Str.ofString "RuntimeError") 99), (.type "RuntimeError")⟩, ⟨PyData.keyHash P (PySem.Str.ofString "StopAsyncIteration"), (.str (PySem.Str.ofString "StopAsyncIteration") 100), (.type "StopAsyncIteration")⟩, ⟨PyData.keyHash P (PySem.Str.ofString "StopIteration"), (.str (PySem.Str.ofString "StopIteration") 101), (.type "StopIteration")⟩, ⟨PyData.keyHash P (PySem.Str.ofString "SyntaxError"), (.str (PySem.Str.ofString "SyntaxError") 102), (.type "SyntaxError")⟩, ⟨PyData.keyHash P (PySem.Str.ofString "SystemError"), (.str (PySem.Str.ofString "SystemError") 103), (.type "SystemError")⟩, ⟨PyData.keyHash P (PySem.Str.ofString "TypeError"), (.str (PySem.Str.ofString "TypeError") 104), (.type "TypeError")⟩, ⟨PyData.keyHash P (PySem.Str.ofString "ValueError"), (.str (PySem.Str.ofString "ValueError") 105), (.type "ValueError")⟩, ⟨PyData.keyHash P (PySem.Str.ofString "Warning"), (.str (PySem.Str.ofString "Warning") 106), (.type "Warning")⟩, ⟨PyData.keyHash P (PySem.Str.ofString "FloatingPointError"), (.str (PySem.Str.ofString "FloatingPointError") 107), (.type "FloatingPointError")⟩, ⟨PyData.keyHash P (PySem.Str.ofString "OverflowError"), (.str (PySem.Str.ofString "OverflowError") 108), (.type "OverflowError")⟩, ⟨PyData.keyHash P (PySem.Str.ofString "ZeroDivisionError"), (.str (PySem.Str.ofString "ZeroDivisionError") 109), (.type "ZeroDivisionError")⟩, ⟨PyData.keyHash P (PySem.Str.ofString "BytesWarning"), (.str (PySem.Str.ofString "BytesWarning") 110), (.type "BytesWarning")⟩, ⟨PyData.keyHash P (PySem.Str.ofString "DeprecationWarning"), (.str (PySem.Str.ofString "DeprecationWarning") 111), (.type "DeprecationWarning")⟩, ⟨PyData.keyHash P (PySem.Str.ofString "EncodingWarning"), (.str (PySem.Str.ofString "EncodingWarning") 112), (.type "EncodingWarning")⟩, ⟨PyData.keyHash P (PySem.Str.ofString "FutureWarning"), (.str (PySem.Str.ofString "FutureWarning") 113), (.type "FutureWarning")⟩, ⟨PyData.keyHash P (PySem.Str.ofString "ImportWarning"), (.str (PySem.Str.ofString "ImportWarning") 114), (.type "ImportWarning")⟩, ⟨PyData.keyHash P (PySem.Str.ofString "PendingDeprecationWarning"), (.str (PySem.Str.ofString "PendingDeprecationWarning") 115), (.type "PendingDeprecationWarning")⟩, ⟨PyData.keyHash P (PySem.Str.ofString "ResourceWarning"), (.str (PySem.Str.ofString "ResourceWarning") 116), (.type "ResourceWarning")⟩, ⟨PyData.keyHash P (PySem.Str.ofString "RuntimeWarning"), (.str (PySem.Str.ofString "RuntimeWarning") 117), (.type "RuntimeWarning")⟩, ⟨PyData.keyHash P (PySem.Str.ofString "SyntaxWarning"), (.str (PySem.Str.ofString "SyntaxWarning") 118), (.type "SyntaxWarning")⟩, ⟨PyData.keyHash P (PySem.Str.ofString "UnicodeWarning"), (.str (PySem.Str.ofString "UnicodeWarning") 119), (.type "UnicodeWarning")⟩, ⟨PyData.keyHash P (PySem.Str.ofString "UserWarning"), (.str (PySem.Str.ofString "UserWarning") 120), (.type "UserWarning")⟩, ⟨PyData.keyHash P (PySem.Str.ofString "BlockingIOError"), (.str (PySem.Str.ofString "BlockingIOError") 121), (.type "BlockingIOError")⟩, ⟨PyData.keyHash P (PySem.Str.ofString "ChildProcessError"), (.str (PySem.Str.ofString "ChildProcessError") 122), (.type "ChildProcessError")⟩, ⟨PyData.keyHash P (PySem.Str.ofString "ConnectionError"), (.str (PySem.Str.ofString "ConnectionError") 123), (.type "ConnectionError")⟩, ⟨PyData.keyHash P (PySem.Str.ofString "FileExistsError"), (.str (PySem.Str.ofString "FileExistsError") 124), (.type "FileExistsError")⟩, ⟨PyData.keyHash P (PySem.Str.ofString "FileNotFoundError"), (.str (PySem.Str.ofString "FileNotFoundError") 125), (.type "FileNotFoundError")⟩, ⟨PyData.keyHash P (PySem.Str.ofString "InterruptedError"), (.str (PySem.Str.ofString "InterruptedError") 126), (.type "InterruptedError")⟩, ⟨PyData.keyHash P (PySem.Str.ofString "IsADirectoryError"), (.str (PySem.Str.ofString "IsADirectoryError") 127), (.type "IsADirectoryError")⟩, ⟨PyData.keyHash P (PySem.Str.ofString "NotADirectoryError"), (.str (PySem.Str.ofString "NotADirectoryError") 128), (.type "NotADirectoryError")⟩, ⟨PyData.keyHash P (PySem.Str.ofString "PermissionError"), (.str (PySem.Str.ofString "PermissionError") 129), (.type "PermissionError")⟩, ⟨PyData.keyHash P (PySem.Str.ofString "ProcessLookupError"), (.str (PySem.Str.ofString "ProcessLookupError") 130), (.type "ProcessLookupError")⟩, ⟨PyData.keyHash P (PySem.Str.ofString "TimeoutError"), (.str (PySem.Str.ofString "TimeoutError") 131), (.type "TimeoutError")⟩, ⟨PyData.keyHash P (PySem.Str.ofString "IndentationError"), (.str (PySem.Str.ofString "IndentationError") 132), (.type "IndentationError")⟩, ⟨PyData.keyHash P (PySem.Str.ofString "_IncompleteInputError"), (.str (PySem.Str.ofString "_IncompleteInputError") 133), (.type "_IncompleteInputError")⟩, ⟨PyData.keyHash P (PySem.Str.ofString "IndexError"), (.str (PySem.Str.ofString "IndexError") 134), (.type "IndexError")⟩, ⟨PyData.keyHash P (PySem.Str.ofString "KeyError"), (.str (PySem.Str.ofString "KeyError") 135), (.type "KeyError")⟩, ⟨PyData.keyHash P (PySem.Str.ofString "ModuleNotFoundError"), (.str (PySem.Str.ofString "ModuleNotFoundError") 136), (.type "ModuleNotFoundError")⟩, ⟨PyData.keyHash P (PySem.Str.ofString "NotImplementedError"), (.str (PySem.Str.ofString "NotImplementedError") 137), (.type "NotImplementedError")⟩, ⟨PyData.keyHash P (PySem.Str.ofString "PythonFinalizationError"), (.str (PySem.Str.ofString "PythonFinalizationError") 138), (.type "PythonFinalizationError")⟩, ⟨PyData.keyHash P (PySem.Str.ofString "RecursionError"), (.str (PySem.Str.ofString "RecursionError") 139), (.type "RecursionError")⟩, ⟨PyData.keyHash P (PySem.Str.ofString "UnboundLocalError"), (.str (PySem.Str.ofString "UnboundLocalError") 140), (.type "UnboundLocalError")⟩, ⟨PyData.keyHash P (PySem.Str.ofString "UnicodeError"), (.str (PySem.Str.ofString "UnicodeError") 141), (.type "UnicodeError")⟩, ⟨PyData.keyHash P (PySem.Str.ofString "BrokenPipeError"), (.str (PySem.Str.ofString "BrokenPipeError") 142), (.type "BrokenPipeError")⟩, ⟨PyData.keyHash P (PySem.Str.ofString "ConnectionAbortedError"), (.str (PySem.Str.ofString "ConnectionAbortedError") 143), (.type "ConnectionAbortedError")⟩, ⟨PyData.keyHash P (PySem.Str.ofString "ConnectionRefusedError"), (.str (PySem.Str.ofString "ConnectionRefusedError") 144), (.type "ConnectionRefusedError")⟩, ⟨PyData.keyHash P (PySem.Str.ofString "ConnectionResetError"), (.str (PySem.Str.ofString "ConnectionResetError") 145), (.type "ConnectionResetError")⟩, ⟨PyData.keyHash P (PySem.Str.ofString "TabError"), (.str (PySem.Str.ofString "TabError") 146), (.type "TabError")⟩, ⟨PyData.keyHash P (PySem.Str.ofString "UnicodeDecodeError"), (.str (PySem.Str.ofString "UnicodeDecodeError") 147), (.type "UnicodeDecodeError")⟩, ⟨PyData.keyHash P (PySem.Str.ofString "UnicodeEncodeError"), (.str (PySem.Str.ofString "UnicodeEncodeError") 148), (.type "UnicodeEncodeError")⟩, ⟨PyData.keyHash P (PySem.Str.ofString "UnicodeTranslateError"), (.str (PySem.Str.ofString "UnicodeTranslateError") 149), (.type "UnicodeTranslateError")⟩, ⟨PyData.keyHash P (PySem.Str.ofString "ExceptionGroup"), (.str (PySem.Str.ofString "ExceptionGroup") 150), (.type "ExceptionGroup")⟩, ⟨PyData.keyHash P (PySem.Str.ofString "EnvironmentError"), (.str (PySem.Str.ofString "EnvironmentError") 151), (.type "OSError")⟩, ⟨PyData.keyHash P (PySem.Str.ofString "IOError"), (.str (PySem.Str.ofString "IOError") 152), (.type "OSError")⟩, ⟨PyData.keyHash P (PySem.Str.ofString "open"), (.str (PySem.Str.ofString "open") 153), (.builtin "open")⟩, ⟨PyData.keyHash P (PySem.Str.ofString "quit"), (.str (PySem.Str.ofString "quit") 154), (.builtin "builtins.quit#opaque")⟩, ⟨PyData.keyHash P (PySem.Str.ofString "exit"), (.str (PySem.Str.ofString "exit") 155), (.builtin "builtins.exit#opaque")⟩, ⟨PyData.keyHash P (PySem.Str.ofString "copyright"), (.str (PySem.Str.ofString "copyright") 156), (.builtin "builtins.copyright#opaque")⟩, ⟨PyData.keyHash P (PySem.Str.ofString "credits"), (.str (PySem.Str.ofString "credits") 157), (.builtin "builtins.credits#opaque")⟩, ⟨PyData.keyHash P (PySem.Str.ofString "license"), (.str (PySem.Str.ofString "license") 158), (.builtin "builtins.license#opaque")⟩, ⟨PyData.keyHash P (PySem.Str.ofString "help"), (.str (PySem.Str.ofString "help") 159), (.builtin "builtins.help#opaque")⟩] 159, #[]⟩
noncomputable def o1 (P : Params) : Obj := ⟨(.type "dict"), none, .dict #[⟨PyData.keyHash P (PySem.Str.ofString "builtins"), (.str (PySem.Str.ofString "builtins") 162), (.ref 4)⟩, ⟨PyData.keyHash P (PySem.Str.ofString "__main__"), (.str (PySem.Str.ofString "__main__") 163), (.ref 5)⟩, ⟨PyData.keyHash P (PySem.Str.ofString "_sre"), (.str (PySem.Str.ofString "_sre") 244), (.ref 12)⟩] 3, #[]⟩
noncomputable def o2 (P : Params) : Obj := ⟨.none, none, .dict #[⟨PyData.keyHash P (PySem.Str.mk #[105, 109, 112, 111, 114, 116, 46, 108, 111, 97, 100, 101, 100, 46, 95, 115, 114, 101]), (.str (PySem.Str.mk #[105, 109, 112, 111, 114, 116, 46, 108, 111, 97, 100, 101, 100, 46, 95, 115, 114, 101]) 183), (.bool true)⟩, ⟨PyData.keyHash P (PySem.Str.ofString "class._frozen_importlib.BuiltinImporter"), (.str (PySem.Str.ofString "class._frozen_importlib.BuiltinImporter") 185), (.ref 14)⟩, ⟨PyData.keyHash P (PySem.Str.mk #[119, 97, 116, 99, 104, 101, 100, 46, 105, 109, 112, 111, 114, 116]), (.str (PySem.Str.mk #[119, 97, 116, 99, 104, 101, 100, 46, 105, 109, 112, 111, 114, 116]) 206), (.ref 18)⟩, ⟨PyData.keyHash P (PySem.Str.ofString "class._frozen_importlib.ModuleSpec"), (.str (PySem.Str.ofString "class._frozen_importlib.ModuleSpec") 216), (.ref 22)⟩, ⟨PyData.keyHash P (PySem.Str.ofString "sys.modules.booked-epoch"), (.str (PySem.Str.ofString "sys.modules.booked-epoch") 245), (.int 3 0)⟩, ⟨PyData.keyHash P (PySem.Str.mk #[105, 109, 112, 111, 114, 116, 46, 108, 97, 116, 101, 114, 45, 108, 97, 105, 100, 46, 95, 115, 114, 101]), (.str (PySem.Str.mk #[105, 109, 112, 111, 114, 116, 46, 108, 97, 116, 101, 114, 45, 108, 97, 105, 100, 46, 95, 115, 114, 101]) 270), (.bool true)⟩, ⟨PyData.keyHash P (PySem.Str.ofString "watched.library"), (.str (PySem.Str.ofString "watched.library") 272), (.ref 27)⟩, ⟨PyData.keyHash P (PySem.Str.ofString "watched.library-objects"), (.str (PySem.Str.ofString "watched.library-objects") 0), (.str (PySem.Str.mk #[12]) 0)⟩, ⟨PyData.keyHash P (PySem.Str.ofString "watched.library-deep._sre"), (.str (PySem.Str.ofString "watched.library-deep._sre") 273), (.str (PySem.Str.mk #[4, 0, 0, 11, 4, 0, 0, 11, 4, 0, 0, 3, 4, 0, 0, 11, 8, 4, 100, 105, 99, 116, 2]) 0)⟩] 9, #[]⟩
noncomputable def o3v0 (P : Params) : Obj := ⟨(.type "dict"), none, .dict #[⟨PyData.keyHash P (PySem.Str.ofString "__name__"), (.str (PySem.Str.ofString "__name__") 165), (.str (PySem.Str.ofString "__main__") 164)⟩, ⟨PyData.keyHash P (PySem.Str.ofString "__doc__"), (.str (PySem.Str.ofString "__doc__") 166), .none⟩, ⟨PyData.keyHash P (PySem.Str.ofString "__package__"), (.str (PySem.Str.ofString "__package__") 167), .none⟩, ⟨PyData.keyHash P (PySem.Str.ofString "__loader__"), (.str (PySem.Str.ofString "__loader__") 168), (.builtin "__main__.__loader__#opaque")⟩, ⟨PyData.keyHash P (PySem.Str.ofString "__spec__"), (.str (PySem.Str.ofString "__spec__") 169), .none⟩, ⟨PyData.keyHash P (PySem.Str.ofString "__annotations__"), (.str (PySem.Str.ofString "__annotations__") 170), (.ref 6)⟩, ⟨PyData.keyHash P (PySem.Str.ofString "__builtins__"), (.str (PySem.Str.ofString "__builtins__") 171), (.ref 4)⟩, ⟨PyData.keyHash P (PySem.Str.ofString "__file__"), (.str (PySem.Str.ofString "__file__") 173), (.str (PySem.Str.ofString "/claim/cut.py") 172)⟩, ⟨PyData.keyHash P (PySem.Str.ofString "__cached__"), (.str (PySem.Str.ofString "__cached__") 174), .none⟩, ⟨PyData.keyHash P (PySem.Str.ofString "_sre"), (.str (PySem.Str.ofString "_sre") 275), (.ref 12)⟩] 10, #[]⟩
noncomputable def o4 (_ : Params) : Obj := ⟨(.type "module"), some 0, .plain, #[]⟩
noncomputable def o5 (_ : Params) : Obj := ⟨(.type "module"), some 3, .plain, #[]⟩
noncomputable def o6 (_ : Params) : Obj := ⟨(.type "dict"), none, .dict #[] 0, #[]⟩
noncomputable def o7 (_ : Params) : Obj := ⟨(.type "tuple"), none, .seq #[] 0, #[]⟩
noncomputable def o8 (_ : Params) : Obj := ⟨.none, none, .fields #[], #[]⟩
noncomputable def o9 (_ : Params) : Obj := ⟨(.type "code"), none, .fields #[(.str (PySem.Str.ofString "<module>") 176), (.str (PySem.Str.ofString "<module>") 177), (.str (PySem.Str.ofString "/claim/cut.py") 178), (.int 1 0), (.int 0 0), (.int 0 0), (.int 0 0), (.int 0 0), (.ref 7), (.bool false), (.int 175 0), (.ref 8), .none, .none, .none, .none, (.int 179 0), (.int 1 0), (.str (PySem.Str.ofString "/claim/cut.py") 180)], #[]⟩
noncomputable def o10 (_ : Params) : Obj := ⟨(.type "frame"), none, .plain, #[(some (.ref 9)), (some (.ref 3)), (some (.ref 3)), none, (some (.str (PySem.Str.ofString "__main__") 164)), none, (some (.ref 0))]⟩
noncomputable def o11v0 (P : Params) : Obj := ⟨(.type "dict"), none, .dict #[⟨PyData.keyHash P (PySem.Str.ofString "__name__"), (.str (PySem.Str.ofString "__name__") 247), (.str (PySem.Str.ofString "_sre") 246)⟩, ⟨PyData.keyHash P (PySem.Str.ofString "__doc__"), (.str (PySem.Str.ofString "__doc__") 248), .none⟩, ⟨PyData.keyHash P (PySem.Str.ofString "__package__"), (.str (PySem.Str.ofString "__package__") 250), (.str (PySem.Str.ofString "") 249)⟩, ⟨PyData.keyHash P (PySem.Str.ofString "__loader__"), (.str (PySem.Str.ofString "__loader__") 251), (.ref 14)⟩, ⟨PyData.keyHash P (PySem.Str.ofString "__spec__"), (.str (PySem.Str.ofString "__spec__") 252), (.ref 26)⟩, ⟨PyData.keyHash P (PySem.Str.ofString "compile"), (.str (PySem.Str.ofString "compile") 253), (.builtin "_sre.compile")⟩, ⟨PyData.keyHash P (PySem.Str.ofString "template"), (.str (PySem.Str.ofString "template") 254), (.builtin "_sre.template")⟩, ⟨PyData.keyHash P (PySem.Str.ofString "getcodesize"), (.str (PySem.Str.ofString "getcodesize") 255), (.builtin "_sre.getcodesize")⟩, ⟨PyData.keyHash P (PySem.Str.ofString "ascii_iscased"), (.str (PySem.Str.ofString "ascii_iscased") 256), (.builtin "_sre.ascii_iscased")⟩, ⟨PyData.keyHash P (PySem.Str.ofString "unicode_iscased"), (.str (PySem.Str.ofString "unicode_iscased") 257), (.builtin "_sre.unicode_iscased")⟩, ⟨PyData.keyHash P (PySem.Str.ofString "ascii_tolower"), (.str (PySem.Str.ofString "ascii_tolower") 258), (.builtin "_sre.ascii_tolower")⟩, ⟨PyData.keyHash P (PySem.Str.ofString "unicode_tolower"), (.str (PySem.Str.ofString "unicode_tolower") 259), (.builtin "_sre.unicode_tolower")⟩, ⟨PyData.keyHash P (PySem.Str.ofString "MAGIC"), (.str (PySem.Str.ofString "MAGIC") 261), (.int 20230612 260)⟩, ⟨PyData.keyHash P (PySem.Str.ofString "CODESIZE"), (.str (PySem.Str.ofString "CODESIZE") 263), (.int 4 262)⟩, ⟨PyData.keyHash P (PySem.Str.ofString "MAXREPEAT"), (.str (PySem.Str.ofString "MAXREPEAT") 265), (.int 4294967295 264)⟩, ⟨PyData.keyHash P (PySem.Str.ofString "MAXGROUPS"), (.str (PySem.Str.ofString "MAXGROUPS") 267), (.int 1073741823 266)⟩, ⟨PyData.keyHash P (PySem.Str.ofString "copyright"), (.str (PySem.Str.ofString "copyright") 269), (.str (PySem.Str.ofString " SRE 2.2.2 Copyright (c) 1997-2002 by Secret Labs AB ") 268)⟩] 17, #[]⟩
noncomputable def o12 (_ : Params) : Obj := ⟨(.type "module"), some 11, .plain, #[]⟩
noncomputable def o13 (P : Params) : Obj := ⟨(.type "dict"), none, .dict #[⟨PyData.keyHash P (PySem.Str.ofString "__module__"), (.str (PySem.Str.ofString "__module__") 189), (.str (PySem.Str.ofString "_frozen_importlib") 186)⟩, ⟨PyData.keyHash P (PySem.Str.ofString "__firstlineno__"), (.str (PySem.Str.ofString "__firstlineno__") 190), (.int 971 187)⟩, ⟨PyData.keyHash P (PySem.Str.ofString "__doc__"), (.str (PySem.Str.ofString "__doc__") 191), (.builtin "_frozen_importlib.BuiltinImporter.__doc__:str#opaque")⟩, ⟨PyData.keyHash P (PySem.Str.ofString "_ORIGIN"), (.str (PySem.Str.ofString "_ORIGIN") 192), (.str (PySem.Str.ofString "built-in") 188)⟩, ⟨PyData.keyHash P (PySem.Str.ofString "find_spec"), (.str (PySem.Str.ofString "find_spec") 193), (.builtin "_frozen_importlib.BuiltinImporter.find_spec#opaque")⟩, ⟨PyData.keyHash P (PySem.Str.ofString "create_module"), (.str (PySem.Str.ofString "create_module") 194), (.builtin "_frozen_importlib.BuiltinImporter.create_module#opaque")⟩, ⟨PyData.keyHash P (PySem.Str.ofString "exec_module"), (.str (PySem.Str.ofString "exec_module") 195), (.builtin "_frozen_importlib.BuiltinImporter.exec_module#opaque")⟩, ⟨PyData.keyHash P (PySem.Str.ofString "get_code"), (.str (PySem.Str.ofString "get_code") 196), (.builtin "_frozen_importlib.BuiltinImporter.get_code#opaque")⟩, ⟨PyData.keyHash P (PySem.Str.ofString "get_source"), (.str (PySem.Str.ofString "get_source") 197), (.builtin "_frozen_importlib.BuiltinImporter.get_source#opaque")⟩, ⟨PyData.keyHash P (PySem.Str.ofString "is_package"), (.str (PySem.Str.ofString "is_package") 198), (.builtin "_frozen_importlib.BuiltinImporter.is_package#opaque")⟩, ⟨PyData.keyHash P (PySem.Str.ofString "load_module"), (.str (PySem.Str.ofString "load_module") 199), (.builtin "_frozen_importlib.BuiltinImporter.load_module#opaque")⟩, ⟨PyData.keyHash P (PySem.Str.ofString "__static_attributes__"), (.str (PySem.Str.ofString "__static_attributes__") 200), (.ref 15)⟩, ⟨PyData.keyHash P (PySem.Str.ofString "__dict__"), (.str (PySem.Str.ofString "__dict__") 202), (.ref 16)⟩, ⟨PyData.keyHash P (PySem.Str.ofString "__weakref__"), (.str (PySem.Str.ofString "__weakref__") 204), (.ref 17)⟩] 14, #[]⟩
noncomputable def o14 (_ : Params) : Obj := ⟨(.type "type"), none, .cls { name := (PySem.Str.ofString "BuiltinImporter"), bases := [(.type "object")], mro := [(.ref 14), (.type "object")], ns := 13, qualname := (PySem.Str.ofString "BuiltinImporter"), hasDict := true, slotNames := [], subclasses := [], abstract := false, collection := none, hasDel := false }, #[]⟩
noncomputable def o15 (_ : Params) : Obj := ⟨(.type "tuple"), none, .seq #[] 0, #[]⟩
noncomputable def o16 (_ : Params) : Obj := ⟨(.type "getset_descriptor"), none, .fields #[(.str (PySem.Str.ofString "__dict__") 201), (.ref 14), (.builtin "function.__dict__"), (.builtin "function.__dict__#set")], #[]⟩
noncomputable def o17 (_ : Params) : Obj := ⟨(.type "getset_descriptor"), none, .fields #[(.str (PySem.Str.ofString "__weakref__") 203), (.ref 14), (.builtin "ExceptionGroup.__weakref__"), .none], #[]⟩
noncomputable def o18 (_ : Params) : Obj := ⟨.none, none, .seq #[(.int 13 0), (.str (PySem.Str.mk #[6, 189, 10, 95, 95, 109, 111, 100, 117, 108, 101, 95, 95, 6, 186, 17, 95, 102, 114, 111, 122, 101, 110, 95, 105, 109, 112, 111, 114, 116, 108, 105, 98, 6, 190, 15, 95, 95, 102, 105, 114, 115, 116, 108, 105, 110, 101, 110, 111, 95, 95, 4, 187, 0, 971, 6, 191, 7, 95, 95, 100, 111, 99, 95, 95, 9, 52, 95, 102, 114, 111, 122, 101, 110, 95, 105, 109, 112, 111, 114, 116, 108, 105, 98, 46, 66, 117, 105, 108, 116, 105, 110, 73, 109, 112, 111, 114, 116, 101, 114, 46, 95, 95, 100, 111, 99, 95, 95, 58, 115, 116, 114, 35, 111, 112, 97, 113, 117, 101, 6, 192, 7, 95, 79, 82, 73, 71, 73, 78, 6, 188, 8, 98, 117, 105, 108, 116, 45, 105, 110, 6, 193, 9, 102, 105, 110, 100, 95, 115, 112, 101, 99, 9, 50, 95, 102, 114, 111, 122, 101, 110, 95, 105, 109, 112, 111, 114, 116, 108, 105, 98, 46, 66, 117, 105, 108, 116, 105, 110, 73, 109, 112, 111, 114, 116, 101, 114, 46, 102, 105, 110, 100, 95, 115, 112, 101, 99, 35, 111, 112, 97, 113, 117, 101, 6, 194, 13, 99, 114, 101, 97, 116, 101, 95, 109, 111, 100, 117, 108, 101, 9, 54, 95, 102, 114, 111, 122, 101, 110, 95, 105, 109, 112, 111, 114, 116, 108, 105, 98, 46, 66, 117, 105, 108, 116, 105, 110, 73, 109, 112, 111, 114, 116, 101, 114, 46, 99, 114, 101, 97, 116, 101, 95, 109, 111, 100, 117, 108, 101, 35, 111, 112, 97, 113, 117, 101, 6, 195, 11, 101, 120, 101, 99, 95, 109, 111, 100, 117, 108, 101, 9, 52, 95, 102, 114, 111, 122, 101, 110, 95, 105, 109, 112, 111, 114, 116, 108, 105, 98, 46, 66, 117, 105, 108, 116, 105, 110, 73, 109, 112, 111, 114, 116, 101, 114, 46, 101, 120, 101, 99, 95, 109, 111, 100, 117, 108, 101, 35, 111, 112, 97, 113, 117, 101, 6, 196, 8, 103, 101, 116, 95, 99, 111, 100, 101, 9, 49, 95, 102, 114, 111, 122, 101, 110, 95, 105, 109, 112, 111, 114, 116, 108, 105, 98, 46, 66, 117, 105, 108, 116, 105, 110, 73, 109, 112, 111, 114, 116, 101, 114, 46, 103, 101, 116, 95, 99, 111, 100, 101, 35, 111, 112, 97, 113, 117, 101, 6, 197, 10, 103, 101, 116, 95, 115, 111, 117, 114, 99, 101, 9, 51, 95, 102, 114, 111, 122, 101, 110, 95, 105, 109, 112, 111, 114, 116, 108, 105, 98, 46, 66, 117, 105, 108, 116, 105, 110, 73, 109, 112, 111, 114, 116, 101, 114, 46, 103, 101, 116, 95, 115, 111, 117, 114, 99, 101, 35, 111, 112, 97, 113, 117, 101, 6, 198, 10, 105, 115, 95, 112, 97, 99, 107, 97, 103, 101, 9, 51, 95, 102, 114, 111, 122, 101, 110, 95, 105, 109, 112, 111, 114, 116, 108, 105, 98, 46, 66, 117, 105, 108, 116, 105, 110, 73, 109, 112, 111, 114, 116, 101, 114, 46, 105, 115, 95, 112, 97, 99, 107, 97, 103, 101, 35, 111, 112, 97, 113, 117, 101, 6, 199, 11, 108, 111, 97, 100, 95, 109, 111, 100, 117, 108, 101, 9, 52, 95, 102, 114, 111, 122, 101, 110, 95, 105, 109, 112, 111, 114, 116, 108, 105, 98, 46, 66, 117, 105, 108, 116, 105, 110, 73, 109, 112, 111, 114, 116, 101, 114, 46, 108, 111, 97, 100, 95, 109, 111, 100, 117, 108, 101, 35, 111, 112, 97, 113, 117, 101, 6, 200, 21, 95, 95, 115, 116, 97, 116, 105, 99, 95, 97, 116, 116, 114, 105, 98, 117, 116, 101, 115, 95, 95, 4, 0, 0, 15, 6, 202, 8, 95, 95, 100, 105, 99, 116, 95, 95, 4, 0, 0, 16, 6, 204, 11, 95, 95, 119, 101, 97, 107, 114, 101, 102, 95, 95, 4, 0, 0, 17]) 0), (.bool true), (.bool true), (.str (PySem.Str.ofString "") 205), (.int 21 0), (.str (PySem.Str.mk #[6, 227, 10, 95, 95, 109, 111, 100, 117, 108, 101, 95, 95, 6, 217, 17, 95, 102, 114, 111, 122, 101, 110, 95, 105, 109, 112, 111, 114, 116, 108, 105, 98, 6, 228, 15, 95, 95, 102, 105, 114, 115, 116, 108, 105, 110, 101, 110, 111, 95, 95, 4, 218, 0, 562, 6, 229, 7, 95, 95, 100, 111, 99, 95, 95, 9, 47, 95, 102, 114, 111, 122, 101, 110, 95, 105, 109, 112, 111, 114, 116, 108, 105, 98, 46, 77, 111, 100, 117, 108, 101, 83, 112, 101, 99, 46, 95, 95, 100, 111, 99, 95, 95, 58, 115, 116, 114, 35, 111, 112, 97, 113, 117, 101, 6, 230, 8, 95, 95, 105, 110, 105, 116, 95, 95, 9, 44, 95, 102, 114, 111, 122, 101, 110, 95, 105, 109, 112, 111, 114, 116, 108, 105, 98, 46, 77, 111, 100, 117, 108, 101, 83, 112, 101, 99, 46, 95, 95, 105, 110, 105, 116, 95, 95, 35, 111, 112, 97, 113, 117, 101, 6, 231, 8, 95, 95, 114, 101, 112, 114, 95, 95, 9, 44, 95, 102, 114, 111, 122, 101, 110, 95, 105, 109, 112, 111, 114, 116, 108, 105, 98, 46, 77, 111, 100, 117, 108, 101, 83, 112, 101, 99, 46, 95, 95, 114, 101, 112, 114, 95, 95, 35, 111, 112, 97, 113, 117, 101, 6, 232, 6, 95, 95, 101, 113, 95, 95, 9, 42, 95, 102, 114, 111, 122, 101, 110, 95, 105, 109, 112, 111, 114, 116, 108, 105, 98, 46, 77, 111, 100, 117, 108, 101, 83, 112, 101, 99, 46, 95, 95, 101, 113, 95, 95, 35, 111, 112, 97, 113, 117, 101, 6, 233, 6, 99, 97, 99, 104, 101, 100, 9, 42, 95, 102, 114, 111, 122, 101, 110, 95, 105, 109, 112, 111, 114, 116, 108, 105, 98, 46, 77, 111, 100, 117, 108, 101, 83, 112, 101, 99, 46, 99, 97, 99, 104, 101, 100, 35, 111, 112, 97, 113, 117, 101, 6, 234, 6, 112, 97, 114, 101, 110, 116, 9, 42, 95, 102, 114, 111, 122, 101, 110, 95, 105, 109, 112, 111, 114, 116, 108, 105, 98, 46, 77, 111, 100, 117, 108, 101, 83, 112, 101, 99, 46, 112, 97, 114, 101, 110, 116, 35, 111, 112, 97, 113, 117, 101, 6, 235, 12, 104, 97, 115, 95, 108, 111, 99, 97, 116, 105, 111, 110, 9, 48, 95, 102, 114, 111, 122, 101, 110, 95, 105, 109, 112, 111, 114, 116, 108, 105, 98, 46, 77, 111, 100, 117, 108, 101, 83, 112, 101, 99, 46, 104, 97, 115, 95, 108, 111, 99, 97, 116, 105, 111, 110, 35, 111, 112, 97, 113, 117, 101, 6, 236, 21, 95, 95, 115, 116, 97, 116, 105, 99, 95, 97, 116, 116, 114, 105, 98, 117, 116, 101, 115, 95, 95, 4, 0, 0, 23, 6, 238, 8, 95, 95, 100, 105, 99, 116, 95, 95, 4, 0, 0, 24, 6, 240, 11, 95, 95, 119, 101, 97, 107, 114, 101, 102, 95, 95, 4, 0, 0, 25, 6, 241, 8, 95, 95, 104, 97, 115, 104, 95, 95, 0]) 0), (.bool true), (.bool true), (.str (PySem.Str.ofString "") 242)] 1, #[]⟩
noncomputable def o19 (_ : Params) : Obj := ⟨(.type "list"), none, .seq #[] 0, #[]⟩
noncomputable def o20 (P : Params) : Obj := ⟨(.type "dict"), none, .dict #[⟨PyData.keyHash P (PySem.Str.ofString "name"), (.str (PySem.Str.ofString "name") 208), (.str (PySem.Str.ofString "_sre") 207)⟩, ⟨PyData.keyHash P (PySem.Str.ofString "loader"), (.str (PySem.Str.ofString "loader") 209), (.ref 14)⟩, ⟨PyData.keyHash P (PySem.Str.ofString "origin"), (.str (PySem.Str.ofString "origin") 210), (.str (PySem.Str.ofString "built-in") 184)⟩, ⟨PyData.keyHash P (PySem.Str.ofString "loader_state"), (.str (PySem.Str.ofString "loader_state") 211), .none⟩, ⟨PyData.keyHash P (PySem.Str.ofString "submodule_search_locations"), (.str (PySem.Str.ofString "submodule_search_locations") 212), .none⟩, ⟨PyData.keyHash P (PySem.Str.ofString "_uninitialized_submodules"), (.str (PySem.Str.ofString "_uninitialized_submodules") 213), (.ref 19)⟩, ⟨PyData.keyHash P (PySem.Str.ofString "_set_fileattr"), (.str (PySem.Str.ofString "_set_fileattr") 214), (.bool false)⟩, ⟨PyData.keyHash P (PySem.Str.ofString "_cached"), (.str (PySem.Str.ofString "_cached") 215), .none⟩, ⟨PyData.keyHash P (PySem.Str.ofString "_initializing"), (.str (PySem.Str.ofString "_initializing") 243), (.bool false)⟩] 9, #[]⟩
noncomputable def o21 (P : Params) : Obj := ⟨(.type "dict"), none, .dict #[⟨PyData.keyHash P (PySem.Str.ofString "__module__"), (.str (PySem.Str.ofString "__module__") 227), (.str (PySem.Str.ofString "_frozen_importlib") 217)⟩, ⟨PyData.keyHash P (PySem.Str.ofString "__firstlineno__"), (.str (PySem.Str.ofString "__firstlineno__") 228), (.int 562 218)⟩, ⟨PyData.keyHash P (PySem.Str.ofString "__doc__"), (.str (PySem.Str.ofString "__doc__") 229), (.builtin "_frozen_importlib.ModuleSpec.__doc__:str#opaque")⟩, ⟨PyData.keyHash P (PySem.Str.ofString "__init__"), (.str (PySem.Str.ofString "__init__") 230), (.builtin "_frozen_importlib.ModuleSpec.__init__#opaque")⟩, ⟨PyData.keyHash P (PySem.Str.ofString "__repr__"), (.str (PySem.Str.ofString "__repr__") 231), (.builtin "_frozen_importlib.ModuleSpec.__repr__#opaque")⟩, ⟨PyData.keyHash P (PySem.Str.ofString "__eq__"), (.str (PySem.Str.ofString "__eq__") 232), (.builtin "_frozen_importlib.ModuleSpec.__eq__#opaque")⟩, ⟨PyData.keyHash P (PySem.Str.ofString "cached"), (.str (PySem.Str.ofString "cached") 233), (.builtin "_frozen_importlib.ModuleSpec.cached#opaque")⟩, ⟨PyData.keyHash P (PySem.Str.ofString "parent"), (.str (PySem.Str.ofString "parent") 234), (.builtin "_frozen_importlib.ModuleSpec.parent#opaque")⟩, ⟨PyData.keyHash P (PySem.Str.ofString "has_location"), (.str (PySem.Str.ofString "has_location") 235), (.builtin "_frozen_importlib.ModuleSpec.has_location#opaque")⟩, ⟨PyData.keyHash P (PySem.Str.ofString "__static_attributes__"), (.str (PySem.Str.ofString "__static_attributes__") 236), (.ref 23)⟩, ⟨PyData.keyHash P (PySem.Str.ofString "__dict__"), (.str (PySem.Str.ofString "__dict__") 238), (.ref 24)⟩, ⟨PyData.keyHash P (PySem.Str.ofString "__weakref__"), (.str (PySem.Str.ofString "__weakref__") 240), (.ref 25)⟩, ⟨PyData.keyHash P (PySem.Str.ofString "__hash__"), (.str (PySem.Str.ofString "__hash__") 241), .none⟩] 13, #[]⟩
noncomputable def o22 (_ : Params) : Obj := ⟨(.type "type"), none, .cls { name := (PySem.Str.ofString "ModuleSpec"), bases := [(.type "object")], mro := [(.ref 22), (.type "object")], ns := 21, qualname := (PySem.Str.ofString "ModuleSpec"), hasDict := true, slotNames := [], subclasses := [], abstract := false, collection := none, hasDel := false }, #[]⟩
noncomputable def o23 (_ : Params) : Obj := ⟨(.type "tuple"), none, .seq #[(.str (PySem.Str.ofString "_cached") 219), (.str (PySem.Str.ofString "_set_fileattr") 220), (.str (PySem.Str.ofString "_uninitialized_submodules") 221), (.str (PySem.Str.ofString "loader") 222), (.str (PySem.Str.ofString "loader_state") 223), (.str (PySem.Str.ofString "name") 224), (.str (PySem.Str.ofString "origin") 225), (.str (PySem.Str.ofString "submodule_search_locations") 226)] 0, #[]⟩
noncomputable def o24 (_ : Params) : Obj := ⟨(.type "getset_descriptor"), none, .fields #[(.str (PySem.Str.ofString "__dict__") 237), (.ref 22), (.builtin "function.__dict__"), (.builtin "function.__dict__#set")], #[]⟩
noncomputable def o25 (_ : Params) : Obj := ⟨(.type "getset_descriptor"), none, .fields #[(.str (PySem.Str.ofString "__weakref__") 239), (.ref 22), (.builtin "ExceptionGroup.__weakref__"), .none], #[]⟩
noncomputable def o26 (_ : Params) : Obj := ⟨(.ref 22), some 20, .plain, #[]⟩
noncomputable def o27 (_ : Params) : Obj := ⟨.none, none, .seq #[(.int 11 0), (.str (PySem.Str.mk #[6, 247, 8, 95, 95, 110, 97, 109, 101, 95, 95, 6, 246, 4, 95, 115, 114, 101, 6, 248, 7, 95, 95, 100, 111, 99, 95, 95, 0, 6, 250, 11, 95, 95, 112, 97, 99, 107, 97, 103, 101, 95, 95, 6, 249, 0, 6, 251, 10, 95, 95, 108, 111, 97, 100, 101, 114, 95, 95, 4, 0, 0, 14, 6, 252, 8, 95, 95, 115, 112, 101, 99, 95, 95, 4, 0, 0, 26, 6, 253, 7, 99, 111, 109, 112, 105, 108, 101, 9, 12, 95, 115, 114, 101, 46, 99, 111, 109, 112, 105, 108, 101, 6, 254, 8, 116, 101, 109, 112, 108, 97, 116, 101, 9, 13, 95, 115, 114, 101, 46, 116, 101, 109, 112, 108, 97, 116, 101, 6, 255, 11, 103, 101, 116, 99, 111, 100, 101, 115, 105, 122, 101, 9, 16, 95, 115, 114, 101, 46, 103, 101, 116, 99, 111, 100, 101, 115, 105, 122, 101, 6, 256, 13, 97, 115, 99, 105, 105, 95, 105, 115, 99, 97, 115, 101, 100, 9, 18, 95, 115, 114, 101, 46, 97, 115, 99, 105, 105, 95, 105, 115, 99, 97, 115, 101, 100, 6, 257, 15, 117, 110, 105, 99, 111, 100, 101, 95, 105, 115, 99, 97, 115, 101, 100, 9, 20, 95, 115, 114, 101, 46, 117, 110, 105, 99, 111, 100, 101, 95, 105, 115, 99, 97, 115, 101, 100, 6, 258, 13, 97, 115, 99, 105, 105, 95, 116, 111, 108, 111, 119, 101, 114, 9, 18, 95, 115, 114, 101, 46, 97, 115, 99, 105, 105, 95, 116, 111, 108, 111, 119, 101, 114, 6, 259, 15, 117, 110, 105, 99, 111, 100, 101, 95, 116, 111, 108, 111, 119, 101, 114, 9, 20, 95, 115, 114, 101, 46, 117, 110, 105, 99, 111, 100, 101, 95, 116, 111, 108, 111, 119, 101, 114, 6, 261, 5, 77, 65, 71, 73, 67, 4, 260, 0, 20230612, 6, 263, 8, 67, 79, 68, 69, 83, 73, 90, 69, 4, 262, 0, 4, 6, 265, 9, 77, 65, 88, 82, 69, 80, 69, 65, 84, 4, 264, 0, 4294967295, 6, 267, 9, 77, 65, 88, 71, 82, 79, 85, 80, 83, 4, 266, 0, 1073741823, 6, 269, 9, 99, 111, 112, 121, 114, 105, 103, 104, 116, 6, 268, 53, 32, 83, 82, 69, 32, 50, 46, 50, 46, 50, 32, 67, 111, 112, 121, 114, 105, 103, 104, 116, 32, 40, 99, 41, 32, 49, 57, 57, 55, 45, 50, 48, 48, 50, 32, 98, 121, 32, 83, 101, 99, 114, 101, 116, 32, 76, 97, 98, 115, 32, 65, 66, 32]) 0), (.bool true), (.bool false), (.str (PySem.Str.ofString "_sre") 271)] 0, #[]⟩
noncomputable def o11 (P : Params) : Obj := ⟨(.type "dict"), none, .dict #[⟨PyData.keyHash P (PySem.Str.ofString "__name__"), (.str (PySem.Str.ofString "__name__") 247), (.str (PySem.Str.ofString "_sre") 246)⟩, ⟨PyData.keyHash P (PySem.Str.ofString "__doc__"), (.str (PySem.Str.ofString "__doc__") 248), .none⟩, ⟨PyData.keyHash P (PySem.Str.ofString "__package__"), (.str (PySem.Str.ofString "__package__") 250), (.str (PySem.Str.ofString "") 249)⟩, ⟨PyData.keyHash P (PySem.Str.ofString "__loader__"), (.str (PySem.Str.ofString "__loader__") 251), (.builtin "off-the-table:_sre.__loader__:shared#opaque")⟩, ⟨PyData.keyHash P (PySem.Str.ofString "__spec__"), (.str (PySem.Str.ofString "__spec__") 252), (.builtin "off-the-table:_sre.__spec__:shared#opaque")⟩, ⟨PyData.keyHash P (PySem.Str.ofString "compile"), (.str (PySem.Str.ofString "compile") 253), (.builtin "_sre.compile")⟩, ⟨PyData.keyHash P (PySem.Str.ofString "template"), (.str (PySem.Str.ofString "template") 254), (.builtin "off-the-table:_sre.template:shared#opaque")⟩, ⟨PyData.keyHash P (PySem.Str.ofString "getcodesize"), (.str (PySem.Str.ofString "getcodesize") 255), (.builtin "off-the-table:_sre.getcodesize:shared#opaque")⟩, ⟨PyData.keyHash P (PySem.Str.ofString "ascii_iscased"), (.str (PySem.Str.ofString "ascii_iscased") 256), (.builtin "off-the-table:_sre.ascii_iscased:shared#opaque")⟩, ⟨PyData.keyHash P (PySem.Str.ofString "unicode_iscased"), (.str (PySem.Str.ofString "unicode_iscased") 257), (.builtin "off-the-table:_sre.unicode_iscased:shared#opaque")⟩, ⟨PyData.keyHash P (PySem.Str.ofString "ascii_tolower"), (.str (PySem.Str.ofString "ascii_tolower") 258), (.builtin "off-the-table:_sre.ascii_tolower:shared#opaque")⟩, ⟨PyData.keyHash P (PySem.Str.ofString "unicode_tolower"), (.str (PySem.Str.ofString "unicode_tolower") 259), (.builtin "off-the-table:_sre.unicode_tolower:shared#opaque")⟩, ⟨PyData.keyHash P (PySem.Str.ofString "MAGIC"), (.str (PySem.Str.ofString "MAGIC") 261), (.int 20230612 260)⟩, ⟨PyData.keyHash P (PySem.Str.ofString "CODESIZE"), (.str (PySem.Str.ofString "CODESIZE") 263), (.int 4 262)⟩, ⟨PyData.keyHash P (PySem.Str.ofString "MAXREPEAT"), (.str (PySem.Str.ofString "MAXREPEAT") 265), (.int 4294967295 264)⟩, ⟨PyData.keyHash P (PySem.Str.ofString "MAXGROUPS"), (.str (PySem.Str.ofString "MAXGROUPS") 267), (.int 1073741823 266)⟩, ⟨PyData.keyHash P (PySem.Str.ofString "copyright"), (.str (PySem.Str.ofString "copyright") 269), (.str (PySem.Str.ofString " SRE 2.2.2 Copyright (c) 1997-2002 by Secret Labs AB ") 268)⟩] 17, #[]⟩
noncomputable def o28 (_ : Params) : Obj := ⟨(.type "tuple"), none, .seq #[] 0, #[]⟩
noncomputable def o29v0 (_ : Params) : Obj := ⟨.none, none, .fields #[], #[]⟩
noncomputable def o30 (_ : Params) : Obj := ⟨(.type "code"), none, .fields #[(.str (PySem.Str.ofString "<module>") 277), (.str (PySem.Str.ofString "<module>") 278), (.str (PySem.Str.ofString "/claim/cut.py") 279), (.int 1 0), (.int 0 0), (.int 0 0), (.int 0 0), (.int 0 0), (.ref 28), (.bool false), (.int 276 0), (.ref 29), .none, .none, .none, .none, (.int 280 0), (.int 1 0), (.str (PySem.Str.ofString "/claim/cut.py") 281)], #[]⟩
noncomputable def o31 (_ : Params) : Obj := ⟨(.type "frame"), none, .plain, #[(some (.ref 30)), (some (.ref 3)), (some (.ref 3)), none, (some (.str (PySem.Str.ofString "__main__") 164)), none, (some (.ref 0))]⟩
noncomputable def o3v1 (P : Params) : Obj := ⟨(.type "dict"), none, .dict #[⟨PyData.keyHash P (PySem.Str.ofString "__name__"), (.str (PySem.Str.ofString "__name__") 165), (.str (PySem.Str.ofString "cpy313.dis") 394)⟩, ⟨PyData.keyHash P (PySem.Str.ofString "__doc__"), (.str (PySem.Str.ofString "__doc__") 166), .none⟩, ⟨PyData.keyHash P (PySem.Str.ofString "__package__"), (.str (PySem.Str.ofString "__package__") 167), .none⟩, ⟨PyData.keyHash P (PySem.Str.ofString "__loader__"), (.str (PySem.Str.ofString "__loader__") 168), (.builtin "__main__.__loader__#opaque")⟩, ⟨PyData.keyHash P (PySem.Str.ofString "__spec__"), (.str (PySem.Str.ofString "__spec__") 169), .none⟩, ⟨PyData.keyHash P (PySem.Str.ofString "__annotations__"), (.str (PySem.Str.ofString "__annotations__") 170), (.ref 6)⟩, ⟨PyData.keyHash P (PySem.Str.ofString "__builtins__"), (.str (PySem.Str.ofString "__builtins__") 171), (.ref 4)⟩, ⟨PyData.keyHash P (PySem.Str.ofString "__file__"), (.str (PySem.Str.ofString "__file__") 173), (.str (PySem.Str.ofString "/claim/cut.py") 172)⟩, ⟨PyData.keyHash P (PySem.Str.ofString "__cached__"), (.str (PySem.Str.ofString "__cached__") 174), .none⟩, ⟨PyData.keyHash P (PySem.Str.ofString "_sre"), (.str (PySem.Str.ofString "_sre") 275), (.ref 12)⟩, ⟨PyData.keyHash P (PySem.Str.ofString "_twin_re_1"), (.str (PySem.Str.ofString "_twin_re_1") 299), (.ref 36)⟩, ⟨PyData.keyHash P (PySem.Str.ofString "_twin_re_2"), (.str (PySem.Str.ofString "_twin_re_2") 341), (.ref 41)⟩, ⟨PyData.keyHash P (PySem.Str.ofString "CRLF"), (.str (PySem.Str.ofString "CRLF") 343), (.str (PySem.Str.mk #[13, 10]) 342)⟩, ⟨PyData.keyHash P (PySem.Str.ofString "quotedata"), (.str (PySem.Str.ofString "quotedata") 350), (.ref 48)⟩, ⟨PyData.keyHash P (PySem.Str.ofString "insort_right"), (.str (PySem.Str.ofString "insort_right") 365), (.ref 57)⟩, ⟨PyData.keyHash P (PySem.Str.ofString "bisect_right"), (.str (PySem.Str.ofString "bisect_right") 379), (.ref 66)⟩, ⟨PyData.keyHash P (PySem.Str.ofString "bisect_left"), (.str (PySem.Str.ofString "bisect_left") 393), (.ref 75)⟩] 17, #[]⟩
noncomputable def o29v1 (_ : Params) : Obj := ⟨.none, none, .fields #[(.int 6 0), (.int 0 0), (.ref 47), (.int 9 0), (.int 0 0), (.ref 56), (.int 15 0), (.int 0 0), (.ref 65), (.int 35 0), (.int 0 0), (.ref 74)], #[]⟩
noncomputable def o32 (_ : Params) : Obj := ⟨(.type "list"), none, .seq #[(.int 14 287), (.int 4 288), (.int 0 289), (.int 1 290), (.int 1 291), (.int 6 292), (.int 1 293), (.int 16 294), (.int 46 295), (.int 1 296)] 0, #[]⟩
noncomputable def o33 (_ : Params) : Obj := ⟨(.type "dict"), none, .dict #[] 0, #[]⟩
noncomputable def o34 (_ : Params) : Obj := ⟨(.type "tuple"), none, .seq #[.none] 0, #[]⟩
noncomputable def o35 (_ : Params) : Obj := ⟨(.type "tuple"), none, .seq #[(.int 14 0), (.int 4 0), (.int 0 0), (.int 1 0), (.int 1 0), (.int 6 0), (.int 1 0), (.int 16 0), (.int 46 0), (.int 1 0)] 0, #[]⟩
noncomputable def o36 (_ : Params) : Obj := ⟨(.type "re.Pattern"), none, .fields #[(.str (PySem.Str.ofString "(?m)^\\.") 285), (.int 40 298), (.int 0 0), .none, .none, (.ref 35), (.int 0 0)], #[]⟩
noncomputable def o37 (_ : Params) : Obj := ⟨(.type "list"), none, .seq #[(.int 14 303), (.int 9 304), (.int 4 305), (.int 1 306), (.int 2 307), (.int 16 308), (.int 10 309), (.int 16 310), (.int 13 311), (.int 0 312), (.int 7 313), (.int 7 314), (.int 16 315), (.int 13 316), (.int 16 317), (.int 10 318), (.int 15 319), (.int 18 320), (.int 5 321), (.int 16 322), (.int 10 323), (.int 15 324), (.int 13 325), (.int 11 326), (.int 16 327), (.int 13 328), (.int 5 329), (.int 5 330), (.int 0 331), (.int 16 332), (.int 10 333), (.int 1 334), (.int 15 335), (.int 2 336), (.int 0 337), (.int 1 338)] 0, #[]⟩
noncomputable def o38 (_ : Params) : Obj := ⟨(.type "dict"), none, .dict #[] 0, #[]⟩
noncomputable def o39 (_ : Params) : Obj := ⟨(.type "tuple"), none, .seq #[.none] 0, #[]⟩
noncomputable def o40 (_ : Params) : Obj := ⟨(.type "tuple"), none, .seq #[(.int 14 0), (.int 9 0), (.int 4 0), (.int 1 0), (.int 2 0), (.int 16 0), (.int 10 0), (.int 16 0), (.int 13 0), (.int 0 0), (.int 7 0), (.int 7 0), (.int 16 0), (.int 13 0), (.int 16 0), (.int 10 0), (.int 15 0), (.int 18 0), (.int 5 0), (.int 16 0), (.int 10 0), (.int 15 0), (.int 13 0), (.int 11 0), (.int 16 0), (.int 13 0), (.int 5 0), (.int 5 0), (.int 0 0), (.int 16 0), (.int 10 0), (.int 1 0), (.int 15 0), (.int 2 0), (.int 0 0), (.int 1 0)] 0, #[]⟩
noncomputable def o41 (_ : Params) : Obj := ⟨(.type "re.Pattern"), none, .fields #[(.str (PySem.Str.ofString "(?:\\r\\n|\\n|\\r(?!\\n))") 301), (.int 32 340), (.int 0 0), .none, .none, (.ref 40), (.int 0 0)], #[]⟩
noncomputable def o42 (_ : Params) : Obj := ⟨(.type "tuple"), none, .seq #[] 0, #[]⟩
noncomputable def o43 (_ : Params) : Obj := ⟨.none, none, .fields #[], #[]⟩
noncomputable def o44 (_ : Params) : Obj := ⟨(.type "tuple"), none, .seq #[(.str (PySem.Str.ofString "data") 347)] 0, #[]⟩
noncomputable def o45 (_ : Params) : Obj := ⟨(.type "tuple"), none, .seq #[] 0, #[]⟩
noncomputable def o46 (_ : Params) : Obj := ⟨.none, none, fnD 5 0 .none .none .none .none 0, #[]⟩
noncomputable def o47 (_ : Params) : Obj := ⟨(.type "code"), none, .fields #[(.str (PySem.Str.ofString "quotedata") 344), (.str (PySem.Str.ofString "quotedata") 345), (.str (PySem.Str.ofString "/claim/cut.py") 346), (.int 6 0), (.int 1 0), (.int 0 0), (.int 0 0), (.int 3 0), (.ref 42), (.bool true), (.int 276 0), (.ref 43), .none, (.ref 44), (.ref 45), (.ref 46), (.int 348 0), (.int 6 0), (.str (PySem.Str.ofString "/claim/cut.py") 349)], #[]⟩
noncomputable def o48 (_ : Params) : Obj := ⟨(.type "function"), none, fnD 5 3 .none .none (.str (PySem.Str.ofString "cpy313.smtplib") 282) (.ref 47) 0, #[]⟩
noncomputable def o49 (_ : Params) : Obj := ⟨(.type "tuple"), none, .seq #[(.int 0 353), .none] 0, #[]⟩
noncomputable def o50 (P : Params) : Obj := ⟨(.type "dict"), none, .dict #[⟨PyData.keyHash P (PySem.Str.ofString "key"), (.str (PySem.Str.ofString "key") 354), .none⟩] 1, #[]⟩
noncomputable def o51 (_ : Params) : Obj := ⟨(.type "tuple"), none, .seq #[] 0, #[]⟩
noncomputable def o52 (_ : Params) : Obj := ⟨.none, none, .fields #[], #[]⟩
noncomputable def o53 (_ : Params) : Obj := ⟨(.type "tuple"), none, .seq #[(.str (PySem.Str.ofString "a") 358), (.str (PySem.Str.ofString "x") 359), (.str (PySem.Str.ofString "lo") 360), (.str (PySem.Str.ofString "hi") 361), (.str (PySem.Str.ofString "key") 362)] 0, #[]⟩
noncomputable def o54 (_ : Params) : Obj := ⟨(.type "tuple"), none, .seq #[] 0, #[]⟩
noncomputable def o55 (_ : Params) : Obj := ⟨.none, none, fnD 7 0 .none .none .none .none 0, #[]⟩
noncomputable def o56 (_ : Params) : Obj := ⟨(.type "code"), none, .fields #[(.str (PySem.Str.ofString "insort_right") 355), (.str (PySem.Str.ofString "insort_right") 356), (.str (PySem.Str.ofString "/claim/cut.py") 357), (.int 9 0), (.int 4 0), (.int 0 0), (.int 1 0), (.int 3 0), (.ref 51), (.bool true), (.int 276 0), (.ref 52), .none, (.ref 53), (.ref 54), (.ref 55), (.int 363 0), (.int 9 0), (.str (PySem.Str.ofString "/claim/cut.py") 364)], #[]⟩
noncomputable def o57 (_ : Params) : Obj := ⟨(.type "function"), none, fnD 7 3 (.ref 49) (.ref 50) (.str (PySem.Str.ofString "cpy313.bisect") 351) (.ref 56) 0, #[]⟩
noncomputable def o58 (_ : Params) : Obj := ⟨(.type "tuple"), none, .seq #[(.int 0 366), .none] 0, #[]⟩
noncomputable def o59 (P : Params) : Obj := ⟨(.type "dict"), none, .dict #[⟨PyData.keyHash P (PySem.Str.ofString "key"), (.str (PySem.Str.ofString "key") 367), .none⟩] 1, #[]⟩
noncomputable def o60 (_ : Params) : Obj := ⟨(.type "tuple"), none, .seq #[] 0, #[]⟩
noncomputable def o61 (_ : Params) : Obj := ⟨.none, none, .fields #[], #[]⟩
noncomputable def o62 (_ : Params) : Obj := ⟨(.type "tuple"), none, .seq #[(.str (PySem.Str.ofString "a") 371), (.str (PySem.Str.ofString "x") 372), (.str (PySem.Str.ofString "lo") 373), (.str (PySem.Str.ofString "hi") 374), (.str (PySem.Str.ofString "key") 375), (.str (PySem.Str.ofString "mid") 376)] 0, #[]⟩
noncomputable def o63 (_ : Params) : Obj := ⟨(.type "tuple"), none, .seq #[] 0, #[]⟩
noncomputable def o64 (_ : Params) : Obj := ⟨.none, none, fnD 8 0 .none .none .none .none 0, #[]⟩
noncomputable def o65 (_ : Params) : Obj := ⟨(.type "code"), none, .fields #[(.str (PySem.Str.ofString "bisect_right") 368), (.str (PySem.Str.ofString "bisect_right") 369), (.str (PySem.Str.ofString "/claim/cut.py") 370), (.int 15 0), (.int 4 0), (.int 0 0), (.int 1 0), (.int 3 0), (.ref 60), (.bool true), (.int 276 0), (.ref 61), .none, (.ref 62), (.ref 63), (.ref 64), (.int 377 0), (.int 15 0), (.str (PySem.Str.ofString "/claim/cut.py") 378)], #[]⟩
noncomputable def o66 (_ : Params) : Obj := ⟨(.type "function"), none, fnD 8 3 (.ref 58) (.ref 59) (.str (PySem.Str.ofString "cpy313.bisect") 351) (.ref 65) 0, #[]⟩
noncomputable def o67 (_ : Params) : Obj := ⟨(.type "tuple"), none, .seq #[(.int 0 380), .none] 0, #[]⟩
noncomputable def o68 (P : Params) : Obj := ⟨(.type "dict"), none, .dict #[⟨PyData.keyHash P (PySem.Str.ofString "key"), (.str (PySem.Str.ofString "key") 381), .none⟩] 1, #[]⟩
noncomputable def o69 (_ : Params) : Obj := ⟨(.type "tuple"), none, .seq #[] 0, #[]⟩
noncomputable def o70 (_ : Params) : Obj := ⟨.none, none, .fields #[], #[]⟩
noncomputable def o71 (_ : Params) : Obj := ⟨(.type "tuple"), none, .seq #[(.str (PySem.Str.ofString "a") 385), (.str (PySem.Str.ofString "x") 386), (.str (PySem.Str.ofString "lo") 387), (.str (PySem.Str.ofString "hi") 388), (.str (PySem.Str.ofString "key") 389), (.str (PySem.Str.ofString "mid") 390)] 0, #[]⟩
noncomputable def o72 (_ : Params) : Obj := ⟨(.type "tuple"), none, .seq #[] 0, #[]⟩
noncomputable def o73 (_ : Params) : Obj := ⟨.none, none, fnD 9 0 .none .none .none .none 0, #[]⟩
noncomputable def o74 (_ : Params) : Obj := ⟨(.type "code"), none, .fields #[(.str (PySem.Str.ofString "bisect_left") 382), (.str (PySem.Str.ofString "bisect_left") 383), (.str (PySem.Str.ofString "/claim/cut.py") 384), (.int 35 0), (.int 4 0), (.int 0 0), (.int 1 0), (.int 3 0), (.ref 69), (.bool true), (.int 276 0), (.ref 70), .none, (.ref 71), (.ref 72), (.ref 73), (.int 391 0), (.int 35 0), (.str (PySem.Str.ofString "/claim/cut.py") 392)], #[]⟩
noncomputable def o75 (_ : Params) : Obj := ⟨(.type "function"), none, fnD 9 3 (.ref 67) (.ref 68) (.str (PySem.Str.ofString "cpy313.bisect") 351) (.ref 74) 0, #[]⟩
noncomputable def o3v2 (P : Params) : Obj := ⟨(.type "dict"), none, .dict #[⟨PyData.keyHash P (PySem.Str.ofString "__name__"), (.str (PySem.Str.ofString "__name__") 165), (.str (PySem.Str.ofString "cpy313.stringprep") 446)⟩, ⟨PyData.keyHash P (PySem.Str.ofString "__doc__"), (.str (PySem.Str.ofString "__doc__") 166), .none⟩, ⟨PyData.keyHash P (PySem.Str.ofString "__package__"), (.str (PySem.Str.ofString "__package__") 167), .none⟩, ⟨PyData.keyHash P (PySem.Str.ofString "__loader__"), (.str (PySem.Str.ofString "__loader__") 168), (.builtin "__main__.__loader__#opaque")⟩, ⟨PyData.keyHash P (PySem.Str.ofString "__spec__"), (.str (PySem.Str.ofString "__spec__") 169), .none⟩, ⟨PyData.keyHash P (PySem.Str.ofString "__annotations__"), (.str (PySem.Str.ofString "__annotations__") 170), (.ref 6)⟩, ⟨PyData.keyHash P (PySem.Str.ofString "__builtins__"), (.str (PySem.Str.ofString "__builtins__") 171), (.ref 4)⟩, ⟨PyData.keyHash P (PySem.Str.ofString "__file__"), (.str (PySem.Str.ofString "__file__") 173), (.str (PySem.Str.ofString "/claim/cut.py") 172)⟩, ⟨PyData.keyHash P (PySem.Str.ofString "__cached__"), (.str (PySem.Str.ofString "__cached__") 174), .none⟩, ⟨PyData.keyHash P (PySem.Str.ofString "_sre"), (.str (PySem.Str.ofString "_sre") 275), (.ref 12)⟩, ⟨PyData.keyHash P (PySem.Str.ofString "_twin_re_1"), (.str (PySem.Str.ofString "_twin_re_1") 299), (.ref 36)⟩, ⟨PyData.keyHash P (PySem.Str.ofString "_twin_re_2"), (.str (PySem.Str.ofString "_twin_re_2") 341), (.ref 41)⟩, ⟨PyData.keyHash P (PySem.Str.ofString "CRLF"), (.str (PySem.Str.ofString "CRLF") 343), (.str (PySem.Str.mk #[13, 10]) 342)⟩, ⟨PyData.keyHash P (PySem.Str.ofString "quotedata"), (.str (PySem.Str.ofString "quotedata") 350), (.ref 48)⟩, ⟨PyData.keyHash P (PySem.Str.ofString "insort_right"), (.str (PySem.Str.ofString "insort_right") 365), (.ref 57)⟩, ⟨PyData.keyHash P (PySem.Str.ofString "bisect_right"), (.str (PySem.Str.ofString "bisect_right") 379), (.ref 66)⟩, ⟨PyData.keyHash P (PySem.Str.ofString "bisect_left"), (.str (PySem.Str.ofString "bisect_left") 393), (.ref 75)⟩, ⟨PyData.keyHash P (PySem.Str.ofString "COMPILER_FLAG_NAMES"), (.str (PySem.Str.ofString "COMPILER_FLAG_NAMES") 426), (.ref 76)⟩, ⟨PyData.keyHash P (PySem.Str.ofString "pretty_flags"), (.str (PySem.Str.ofString "pretty_flags") 436), (.ref 83)⟩, ⟨PyData.keyHash P (PySem.Str.ofString "_parse_varint"), (.str (PySem.Str.ofString "_parse_varint") 445), (.ref 90)⟩] 20, #[]⟩
noncomputable def o29v2 (_ : Params) : Obj := ⟨.none, none, .fields #[(.int 6 0), (.int 0 0), (.ref 47), (.int 9 0), (.int 0 0), (.ref 56), (.int 15 0), (.int 0 0), (.ref 65), (.int 35 0), (.int 0 0), (.ref 74), (.int 57 0), (.int 0 0), (.ref 82), (.int 69 0), (.int 0 0), (.ref 89)], #[]⟩
noncomputable def o76 (_ : Params) : Obj := ⟨(.type "dict"), none, .dict #[⟨1, (.int 1 396), (.str (PySem.Str.ofString "OPTIMIZED") 397)⟩, ⟨2, (.int 2 398), (.str (PySem.Str.ofString "NEWLOCALS") 399)⟩, ⟨4, (.int 4 400), (.str (PySem.Str.ofString "VARARGS") 401)⟩, ⟨8, (.int 8 402), (.str (PySem.Str.ofString "VARKEYWORDS") 403)⟩, ⟨16, (.int 16 404), (.str (PySem.Str.ofString "NESTED") 405)⟩, ⟨32, (.int 32 406), (.str (PySem.Str.ofString "GENERATOR") 407)⟩, ⟨64, (.int 64 408), (.str (PySem.Str.ofString "NOFREE") 409)⟩, ⟨128, (.int 128 410), (.str (PySem.Str.ofString "COROUTINE") 411)⟩, ⟨256, (.int 256 412), (.str (PySem.Str.ofString "ITERABLE_COROUTINE") 413)⟩, ⟨512, (.int 512 414), (.str (PySem.Str.ofString "ASYNC_GENERATOR") 415)⟩] 10, #[]⟩
noncomputable def o77 (_ : Params) : Obj := ⟨(.type "tuple"), none, .seq #[] 0, #[]⟩
noncomputable def o78 (_ : Params) : Obj := ⟨.none, none, .fields #[], #[]⟩
noncomputable def o79 (_ : Params) : Obj := ⟨(.type "tuple"), none, .seq #[(.str (PySem.Str.ofString "flags") 430), (.str (PySem.Str.ofString "names") 431), (.str (PySem.Str.ofString "i") 432), (.str (PySem.Str.ofString "flag") 433)] 0, #[]⟩
noncomputable def o80 (_ : Params) : Obj := ⟨(.type "tuple"), none, .seq #[] 0, #[]⟩
noncomputable def o81 (_ : Params) : Obj := ⟨.none, none, fnD 12 0 .none .none .none .none 0, #[]⟩
noncomputable def o82 (_ : Params) : Obj := ⟨(.type "code"), none, .fields #[(.str (PySem.Str.ofString "pretty_flags") 427), (.str (PySem.Str.ofString "pretty_flags") 428), (.str (PySem.Str.ofString "/claim/cut.py") 429), (.int 57 0), (.int 1 0), (.int 0 0), (.int 0 0), (.int 3 0), (.ref 77), (.bool true), (.int 276 0), (.ref 78), .none, (.ref 79), (.ref 80), (.ref 81), (.int 434 0), (.int 57 0), (.str (PySem.Str.ofString "/claim/cut.py") 435)], #[]⟩
noncomputable def o83 (_ : Params) : Obj := ⟨(.type "function"), none, fnD 12 3 .none .none (.str (PySem.Str.ofString "cpy313.dis") 394) (.ref 82) 0, #[]⟩
noncomputable def o84 (_ : Params) : Obj := ⟨(.type "tuple"), none, .seq #[] 0, #[]⟩
noncomputable def o85 (_ : Params) : Obj := ⟨.none, none, .fields #[], #[]⟩
noncomputable def o86 (_ : Params) : Obj := ⟨(.type "tuple"), none, .seq #[(.str (PySem.Str.ofString "iterator") 440), (.str (PySem.Str.ofString "b") 441), (.str (PySem.Str.ofString "val") 442)] 0, #[]⟩
noncomputable def o87 (_ : Params) : Obj := ⟨(.type "tuple"), none, .seq #[] 0, #[]⟩
noncomputable def o88 (_ : Params) : Obj := ⟨.none, none, fnD 13 0 .none .none .none .none 0, #[]⟩
noncomputable def o89 (_ : Params) : Obj := ⟨(.type "code"), none, .fields #[(.str (PySem.Str.ofString "_parse_varint") 437), (.str (PySem.Str.ofString "_parse_varint") 438), (.str (PySem.Str.ofString "/claim/cut.py") 439), (.int 69 0), (.int 1 0), (.int 0 0), (.int 0 0), (.int 3 0), (.ref 84), (.bool true), (.int 276 0), (.ref 85), .none, (.ref 86), (.ref 87), (.ref 88), (.int 443 0), (.int 69 0), (.str (PySem.Str.ofString "/claim/cut.py") 444)], #[]⟩
noncomputable def o90 (_ : Params) : Obj := ⟨(.type "function"), none, fnD 13 3 .none .none (.str (PySem.Str.ofString "cpy313.dis") 394) (.ref 89) 0, #[]⟩
noncomputable def o3v3 (P : Params) : Obj := ⟨(.type "dict"), none, .dict #[⟨PyData.keyHash P (PySem.Str.ofString "__name__"), (.str (PySem.Str.ofString "__name__") 165), (.str (PySem.Str.ofString "cpy313.stringprep") 446)⟩, ⟨PyData.keyHash P (PySem.Str.ofString "__doc__"), (.str (PySem.Str.ofString "__doc__") 166), .none⟩, ⟨PyData.keyHash P (PySem.Str.ofString "__package__"), (.str (PySem.Str.ofString "__package__") 167), .none⟩, ⟨PyData.keyHash P (PySem.Str.ofString "__loader__"), (.str (PySem.Str.ofString "__loader__") 168), (.builtin "__main__.__loader__#opaque")⟩, ⟨PyData.keyHash P (PySem.Str.ofString "__spec__"), (.str (PySem.Str.ofString "__spec__") 169), .none⟩, ⟨PyData.keyHash P (PySem.Str.ofString "__annotations__"), (.str (PySem.Str.ofString "__annotations__") 170), (.ref 6)⟩, ⟨PyData.keyHash P (PySem.Str.ofString "__builtins__"), (.str (PySem.Str.ofString "__builtins__") 171), (.ref 4)⟩, ⟨PyData.keyHash P (PySem.Str.ofString "__file__"), (.str (PySem.Str.ofString "__file__") 173), (.str (PySem.Str.ofString "/claim/cut.py") 172)⟩, ⟨PyData.keyHash P (PySem.Str.ofString "__cached__"), (.str (PySem.Str.ofString "__cached__") 174), .none⟩, ⟨PyData.keyHash P (PySem.Str.ofString "_sre"), (.str (PySem.Str.ofString "_sre") 275), (.ref 12)⟩, ⟨PyData.keyHash P (PySem.Str.ofString "_twin_re_1"), (.str (PySem.Str.ofString "_twin_re_1") 299), (.ref 36)⟩, ⟨PyData.keyHash P (PySem.Str.ofString "_twin_re_2"), (.str (PySem.Str.ofString "_twin_re_2") 341), (.ref 41)⟩, ⟨PyData.keyHash P (PySem.Str.ofString "CRLF"), (.str (PySem.Str.ofString "CRLF") 343), (.str (PySem.Str.mk #[13, 10]) 342)⟩, ⟨PyData.keyHash P (PySem.Str.ofString "quotedata"), (.str (PySem.Str.ofString "quotedata") 350), (.ref 48)⟩, ⟨PyData.keyHash P (PySem.Str.ofString "insort_right"), (.str (PySem.Str.ofString "insort_right") 365), (.ref 57)⟩, ⟨PyData.keyHash P (PySem.Str.ofString "bisect_right"), (.str (PySem.Str.ofString "bisect_right") 379), (.ref 66)⟩, ⟨PyData.keyHash P (PySem.Str.ofString "bisect_left"), (.str (PySem.Str.ofString "bisect_left") 393), (.ref 75)⟩, ⟨PyData.keyHash P (PySem.Str.ofString "COMPILER_FLAG_NAMES"), (.str (PySem.Str.ofString "COMPILER_FLAG_NAMES") 426), (.ref 76)⟩, ⟨PyData.keyHash P (PySem.Str.ofString "pretty_flags"), (.str (PySem.Str.ofString "pretty_flags") 436), (.ref 83)⟩, ⟨PyData.keyHash P (PySem.Str.ofString "_parse_varint"), (.str (PySem.Str.ofString "_parse_varint") 445), (.ref 90)⟩, ⟨PyData.keyHash P (PySem.Str.ofString "b1_set"), (.str (PySem.Str.ofString "b1_set") 507), (.ref 98)⟩] 21, #[]⟩
noncomputable def o91 (_ : Params) : Obj := ⟨(.type "list"), none, .seq #[(.int 173 448), (.int 847 449), (.int 6150 450), (.int 6155 451), (.int 6156 452), (.int 6157 453), (.int 8203 454), (.int 8204 455), (.int 8205 456), (.int 8288 457), (.int 65279 458)] 0, #[]⟩
noncomputable def o92 (_ : Params) : Obj := ⟨(.type "range"), none, .fields #[(.int 65024 459), (.int 65040 460), (.int 1 461)], #[]⟩
noncomputable def o93 (_ : Params) : Obj := ⟨(.type "list"), none, .seq #[(.int 65024 464), (.int 65025 465), (.int 65026 466), (.int 65027 467), (.int 65028 468), (.int 65029 469), (.int 65030 470), (.int 65031 471), (.int 65032 472), (.int 65033 473), (.int 65034 474), (.int 65035 475), (.int 65036 476), (.int 65037 477), (.int 65038 478), (.int 65039 479)] 18, #[]⟩
noncomputable def o94 (_ : Params) : Obj := ⟨(.type "range_iterator"), none, .fields #[(.int 65040 0), (.int 0 0), (.int 1 0)], #[]⟩
noncomputable def o95 (_ : Params) : Obj := ⟨(.type "tuple"), none, .seq #[] 0, #[]⟩
noncomputable def o96 (_ : Params) : Obj := ⟨(.type "StopIteration"), none, .fields #[(.ref 95), .none, .none, .none, (.bool false), .none], #[]⟩
noncomputable def o97 (_ : Params) : Obj := ⟨(.type "list"), none, .seq #[(.int 173 448), (.int 847 449), (.int 6150 450), (.int 6155 451), (.int 6156 452), (.int 6157 453), (.int 8203 454), (.int 8204 455), (.int 8205 456), (.int 8288 457), (.int 65279 458), (.int 65024 464), (.int 65025 465), (.int 65026 466), (.int 65027 467), (.int 65028 468), (.int 65029 469), (.int 65030 470), (.int 65031 471), (.int 65032 472), (.int 65033 473), (.int 65034 474), (.int 65035 475), (.int 65036 476), (.int 65037 477), (.int 65038 478), (.int 65039 479)] 0, #[]⟩
noncomputable def b1es : Array (Int × Value) := #[(65024, (.int 65024 464)), (65025, (.int 65025 465)), (65026, (.int 65026 466)), (65027, (.int 65027 467)), (65028, (.int 65028 468)), (65029, (.int 65029 469)), (6150, (.int 6150 450)), (65030, (.int 65030 470)), (65031, (.int 65031 471)), (65032, (.int 65032 472)), (65033, (.int 65033 473)), (6155, (.int 6155 451)), (6156, (.int 6156 452)), (6157, (.int 6157 453)), (8203, (.int 8203 454)), (8204, (.int 8204 455)), (8205, (.int 8205 456)), (65034, (.int 65034 474)), (65035, (.int 65035 475)), (65036, (.int 65036 476)), (65037, (.int 65037 477)), (65038, (.int 65038 478)), (65039, (.int 65039 479)), (173, (.int 173 448)), (847, (.int 847 449)), (8288, (.int 8288 457)), (65279, (.int 65279 458))]
noncomputable def o98 (P : Params) : Obj := ⟨(.type "set"), none, .set b1es 29 ⟨127, #[0, 1, 2, 3, 4, 5, 6, 7, 8, 9, 10, 11, 12, 13, 14, 15, 16, 17, 18, 19, 20, 21, 22, 45, 79, 96, 127], #[], 0, !(P.followText "set-order"), 2, true⟩, #[]⟩
noncomputable def o99 (_ : Params) : Obj := ⟨(.type "list_iterator"), none, .fields #[.none, (.int 27 0)], #[]⟩
noncomputable def o100 (_ : Params) : Obj := ⟨(.type "tuple"), none, .seq #[] 0, #[]⟩
noncomputable def o101 (_ : Params) : Obj := ⟨(.type "StopIteration"), none, .fields #[(.ref 100), .none, .none, .none, (.bool false), .none], #[]⟩
noncomputable def o3v4 (P : Params) : Obj := ⟨(.type "dict"), none, .dict #[⟨PyData.keyHash P (PySem.Str.ofString "__name__"), (.str (PySem.Str.ofString "__name__") 165), (.str (PySem.Str.ofString "cpy313.stringprep") 446)⟩, ⟨PyData.keyHash P (PySem.Str.ofString "__doc__"), (.str (PySem.Str.ofString "__doc__") 166), .none⟩, ⟨PyData.keyHash P (PySem.Str.ofString "__package__"), (.str (PySem.Str.ofString "__package__") 167), .none⟩, ⟨PyData.keyHash P (PySem.Str.ofString "__loader__"), (.str (PySem.Str.ofString "__loader__") 168), (.builtin "__main__.__loader__#opaque")⟩, ⟨PyData.keyHash P (PySem.Str.ofString "__spec__"), (.str (PySem.Str.ofString "__spec__") 169), .none⟩, ⟨PyData.keyHash P (PySem.Str.ofString "__annotations__"), (.str (PySem.Str.ofString "__annotations__") 170), (.ref 6)⟩, ⟨PyData.keyHash P (PySem.Str.ofString "__builtins__"), (.str (PySem.Str.ofString "__builtins__") 171), (.ref 4)⟩, ⟨PyData.keyHash P (PySem.Str.ofString "__file__"), (.str (PySem.Str.ofString "__file__") 173), (.str (PySem.Str.ofString "/claim/cut.py") 172)⟩, ⟨PyData.keyHash P (PySem.Str.ofString "__cached__"), (.str (PySem.Str.ofString "__cached__") 174), .none⟩, ⟨PyData.keyHash P (PySem.Str.ofString "_sre"), (.str (PySem.Str.ofString "_sre") 275), (.ref 12)⟩, ⟨PyData.keyHash P (PySem.Str.ofString "_twin_re_1"), (.str (PySem.Str.ofString "_twin_re_1") 299), (.ref 36)⟩, ⟨PyData.keyHash P (PySem.Str.ofString "_twin_re_2"), (.str (PySem.Str.ofString "_twin_re_2") 341), (.ref 41)⟩, ⟨PyData.keyHash P (PySem.Str.ofString "CRLF"), (.str (PySem.Str.ofString "CRLF") 343), (.str (PySem.Str.mk #[13, 10]) 342)⟩, ⟨PyData.keyHash P (PySem.Str.ofString "quotedata"), (.str (PySem.Str.ofString "quotedata") 350), (.ref 48)⟩, ⟨PyData.keyHash P (PySem.Str.ofString "insort_right"), (.str (PySem.Str.ofString "insort_right") 365), (.ref 57)⟩, ⟨PyData.keyHash P (PySem.Str.ofString "bisect_right"), (.str (PySem.Str.ofString "bisect_right") 379), (.ref 66)⟩, ⟨PyData.keyHash P (PySem.Str.ofString "bisect_left"), (.str (PySem.Str.ofString "bisect_left") 393), (.ref 75)⟩, ⟨PyData.keyHash P (PySem.Str.ofString "COMPILER_FLAG_NAMES"), (.str (PySem.Str.ofString "COMPILER_FLAG_NAMES") 426), (.ref 76)⟩, ⟨PyData.keyHash P (PySem.Str.ofString "pretty_flags"), (.str (PySem.Str.ofString "pretty_flags") 436), (.ref 83)⟩, ⟨PyData.keyHash P (PySem.Str.ofString "_parse_varint"), (.str (PySem.Str.ofString "_parse_varint") 445), (.ref 90)⟩, ⟨PyData.keyHash P (PySem.Str.ofString "b1_set"), (.str (PySem.Str.ofString "b1_set") 507), (.ref 98)⟩, ⟨PyData.keyHash P (PySem.Str.ofString "in_table_b1"), (.str (PySem.Str.ofString "in_table_b1") 514), (.ref 108)⟩] 22, #[]⟩
noncomputable def o29v3 (_ : Params) : Obj := ⟨.none, none, .fields #[(.int 6 0), (.int 0 0), (.ref 47), (.int 9 0), (.int 0 0), (.ref 56), (.int 15 0), (.int 0 0), (.ref 65), (.int 35 0), (.int 0 0), (.ref 74), (.int 57 0), (.int 0 0), (.ref 82), (.int 69 0), (.int 0 0), (.ref 89), (.int 79 0), (.int 0 0), (.ref 107)], #[]⟩
noncomputable def o102 (_ : Params) : Obj := ⟨(.type "tuple"), none, .seq #[] 0, #[]⟩
noncomputable def o103 (_ : Params) : Obj := ⟨.none, none, .fields #[], #[]⟩
noncomputable def o104 (_ : Params) : Obj := ⟨(.type "tuple"), none, .seq #[(.str (PySem.Str.ofString "code") 511)] 0, #[]⟩
noncomputable def o105 (_ : Params) : Obj := ⟨(.type "tuple"), none, .seq #[] 0, #[]⟩
noncomputable def o106 (_ : Params) : Obj := ⟨.none, none, fnD 16 0 .none .none .none .none 0, #[]⟩
noncomputable def o107 (_ : Params) : Obj := ⟨(.type "code"), none, .fields #[(.str (PySem.Str.ofString "in_table_b1") 508), (.str (PySem.Str.ofString "in_table_b1") 509), (.str (PySem.Str.ofString "/claim/cut.py") 510), (.int 79 0), (.int 1 0), (.int 0 0), (.int 0 0), (.int 3 0), (.ref 102), (.bool true), (.int 276 0), (.ref 103), .none, (.ref 104), (.ref 105), (.ref 106), (.int 512 0), (.int 79 0), (.str (PySem.Str.ofString "/claim/cut.py") 513)], #[]⟩
noncomputable def o108 (_ : Params) : Obj := ⟨(.type "function"), none, fnD 16 3 .none .none (.str (PySem.Str.ofString "cpy313.stringprep") 446) (.ref 107) 0, #[]⟩
noncomputable def o3v5 (P : Params) : Obj := ⟨(.type "dict"), none, .dict #[⟨PyData.keyHash P (PySem.Str.ofString "__name__"), (.str (PySem.Str.ofString "__name__") 165), (.str (PySem.Str.ofString "cpy313.stringprep") 446)⟩, ⟨PyData.keyHash P (PySem.Str.ofString "__doc__"), (.str (PySem.Str.ofString "__doc__") 166), .none⟩, ⟨PyData.keyHash P (PySem.Str.ofString "__package__"), (.str (PySem.Str.ofString "__package__") 167), .none⟩, ⟨PyData.keyHash P (PySem.Str.ofString "__loader__"), (.str (PySem.Str.ofString "__loader__") 168), (.builtin "__main__.__loader__#opaque")⟩, ⟨PyData.keyHash P (PySem.Str.ofString "__spec__"), (.str (PySem.Str.ofString "__spec__") 169), .none⟩, ⟨PyData.keyHash P (PySem.Str.ofString "__annotations__"), (.str (PySem.Str.ofString "__annotations__") 170), (.ref 6)⟩, ⟨PyData.keyHash P (PySem.Str.ofString "__builtins__"), (.str (PySem.Str.ofString "__builtins__") 171), (.ref 4)⟩, ⟨PyData.keyHash P (PySem.Str.ofString "__file__"), (.str (PySem.Str.ofString "__file__") 173), (.str (PySem.Str.ofString "/claim/cut.py") 172)⟩, ⟨PyData.keyHash P (PySem.Str.ofString "__cached__"), (.str (PySem.Str.ofString "__cached__") 174), .none⟩, ⟨PyData.keyHash P (PySem.Str.ofString "_sre"), (.str (PySem.Str.ofString "_sre") 275), (.ref 12)⟩, ⟨PyData.keyHash P (PySem.Str.ofString "_twin_re_1"), (.str (PySem.Str.ofString "_twin_re_1") 299), (.ref 36)⟩, ⟨PyData.keyHash P (PySem.Str.ofString "_twin_re_2"), (.str (PySem.Str.ofString "_twin_re_2") 341), (.ref 41)⟩, ⟨PyData.keyHash P (PySem.Str.ofString "CRLF"), (.str (PySem.Str.ofString "CRLF") 343), (.str (PySem.Str.mk #[13, 10]) 342)⟩, ⟨PyData.keyHash P (PySem.Str.ofString "quotedata"), (.str (PySem.Str.ofString "quotedata") 350), (.ref 48)⟩, ⟨PyData.keyHash P (PySem.Str.ofString "insort_right"), (.str (PySem.Str.ofString "insort_right") 365), (.ref 57)⟩, ⟨PyData.keyHash P (PySem.Str.ofString "bisect_right"), (.str (PySem.Str.ofString "bisect_right") 379), (.ref 66)⟩, ⟨PyData.keyHash P (PySem.Str.ofString "bisect_left"), (.str (PySem.Str.ofString "bisect_left") 393), (.ref 75)⟩, ⟨PyData.keyHash P (PySem.Str.ofString "COMPILER_FLAG_NAMES"), (.str (PySem.Str.ofString "COMPILER_FLAG_NAMES") 426), (.ref 76)⟩, ⟨PyData.keyHash P (PySem.Str.ofString "pretty_flags"), (.str (PySem.Str.ofString "pretty_flags") 436), (.ref 83)⟩, ⟨PyData.keyHash P (PySem.Str.ofString "_parse_varint"), (.str (PySem.Str.ofString "_parse_varint") 445), (.ref 90)⟩, ⟨PyData.keyHash P (PySem.Str.ofString "b1_set"), (.str (PySem.Str.ofString "b1_set") 507), (.ref 98)⟩, ⟨PyData.keyHash P (PySem.Str.ofString "in_table_b1"), (.str (PySem.Str.ofString "in_table_b1") 514), (.ref 108)⟩, ⟨PyData.keyHash P (PySem.Str.ofString "b3_exceptions"), (.str (PySem.Str.ofString "b3_exceptions") 2465), (.ref 109)⟩] 23, #[]⟩
noncomputable def o109 (_ : Params) : Obj := ⟨.type "dict", none, .dict b3es 650, #[]⟩
noncomputable def o110 (_ : Params) : Obj := subO 1
noncomputable def o111 (_ : Params) : Obj := subO 2
noncomputable def o112 (_ : Params) : Obj := subO 3
noncomputable def o113 (_ : Params) : Obj := subO 4
noncomputable def o114 (_ : Params) : Obj := subO 5
noncomputable def o115 (_ : Params) : Obj := subO 6
noncomputable def o116 (_ : Params) : Obj := subO 7
noncomputable def o117 (_ : Params) : Obj := subO 8
noncomputable def o118 (_ : Params) : Obj := subO 9
noncomputable def o119 (_ : Params) : Obj := subO 10
noncomputable def o120 (_ : Params) : Obj := subO 11
noncomputable def o121 (_ : Params) : Obj := subO 12
noncomputable def o122 (_ : Params) : Obj := subO 13
noncomputable def o123 (_ : Params) : Obj := subO 14
noncomputable def o124 (_ : Params) : Obj := subO 15
noncomputable def o125 (_ : Params) : Obj := subO 16
noncomputable def o126 (_ : Params) : Obj := subO 17
noncomputable def o127 (_ : Params) : Obj := subO 18
noncomputable def o128 (_ : Params) : Obj := subO 19
noncomputable def o129 (_ : Params) : Obj := subO 20
noncomputable def o130 (_ : Params) : Obj := subO 21
noncomputable def o131 (_ : Params) : Obj := subO 22
noncomputable def o132 (_ : Params) : Obj := subO 23
noncomputable def o133 (_ : Params) : Obj := subO 24
noncomputable def o134 (_ : Params) : Obj := subO 25
noncomputable def o135 (_ : Params) : Obj := subO 26
noncomputable def o136 (_ : Params) : Obj := subO 27
noncomputable def o137 (_ : Params) : Obj := subO 28
noncomputable def o138 (_ : Params) : Obj := subO 29
noncomputable def o139 (_ : Params) : Obj := subO 30
noncomputable def o140 (_ : Params) : Obj := subO 31
noncomputable def o141 (_ : Params) : Obj := subO 32
noncomputable def o142 (_ : Params) : Obj := subO 33
noncomputable def o143 (_ : Params) : Obj := subO 34
noncomputable def o144 (_ : Params) : Obj := subO 35
noncomputable def o145 (_ : Params) : Obj := subO 36
noncomputable def o146 (_ : Params) : Obj := subO 37
noncomputable def o147 (_ : Params) : Obj := subO 38
noncomputable def o3 (P : Params) : Obj := ⟨(.type "dict"), none, .dict #[⟨PyData.keyHash P (PySem.Str.ofString "__name__"), (.str (PySem.Str.ofString "__name__") 165), (.str (PySem.Str.ofString "law_us0017_01") 2474)⟩, ⟨PyData.keyHash P (PySem.Str.ofString "__doc__"), (.str (PySem.Str.ofString "__doc__") 166), .none⟩, ⟨PyData.keyHash P (PySem.Str.ofString "__package__"), (.str (PySem.Str.ofString "__package__") 167), .none⟩, ⟨PyData.keyHash P (PySem.Str.ofString "__loader__"), (.str (PySem.Str.ofString "__loader__") 168), (.builtin "__main__.__loader__#opaque")⟩, ⟨PyData.keyHash P (PySem.Str.ofString "__spec__"), (.str (PySem.Str.ofString "__spec__") 169), .none⟩, ⟨PyData.keyHash P (PySem.Str.ofString "__annotations__"), (.str (PySem.Str.ofString "__annotations__") 170), (.ref 6)⟩, ⟨PyData.keyHash P (PySem.Str.ofString "__builtins__"), (.str (PySem.Str.ofString "__builtins__") 171), (.ref 4)⟩, ⟨PyData.keyHash P (PySem.Str.ofString "__file__"), (.str (PySem.Str.ofString "__file__") 173), (.str (PySem.Str.ofString "/claim/cut.py") 172)⟩, ⟨PyData.keyHash P (PySem.Str.ofString "__cached__"), (.str (PySem.Str.ofString "__cached__") 174), .none⟩, ⟨PyData.keyHash P (PySem.Str.ofString "_sre"), (.str (PySem.Str.ofString "_sre") 275), (.ref 12)⟩, ⟨PyData.keyHash P (PySem.Str.ofString "_twin_re_1"), (.str (PySem.Str.ofString "_twin_re_1") 299), (.ref 36)⟩, ⟨PyData.keyHash P (PySem.Str.ofString "_twin_re_2"), (.str (PySem.Str.ofString "_twin_re_2") 341), (.ref 41)⟩, ⟨PyData.keyHash P (PySem.Str.ofString "CRLF"), (.str (PySem.Str.ofString "CRLF") 343), (.str (PySem.Str.mk #[13, 10]) 342)⟩, ⟨PyData.keyHash P (PySem.Str.ofString "quotedata"), (.str (PySem.Str.ofString "quotedata") 350), (.ref 48)⟩, ⟨PyData.keyHash P (PySem.Str.ofString "insort_right"), (.str (PySem.Str.ofString "insort_right") 365), (.ref 57)⟩, ⟨PyData.keyHash P (PySem.Str.ofString "bisect_right"), (.str (PySem.Str.ofString "bisect_right") 379), (.ref 66)⟩, ⟨PyData.keyHash P (PySem.Str.ofString "bisect_left"), (.str (PySem.Str.ofString "bisect_left") 393), (.ref 75)⟩, ⟨PyData.keyHash P (PySem.Str.ofString "COMPILER_FLAG_NAMES"), (.str (PySem.Str.ofString "COMPILER_FLAG_NAMES") 426), (.ref 76)⟩, ⟨PyData.keyHash P (PySem.Str.ofString "pretty_flags"), (.str (PySem.Str.ofString "pretty_flags") 436), (.ref 83)⟩, ⟨PyData.keyHash P (PySem.Str.ofString "_parse_varint"), (.str (PySem.Str.ofString "_parse_varint") 445), (.ref 90)⟩, ⟨PyData.keyHash P (PySem.Str.ofString "b1_set"), (.str (PySem.Str.ofString "b1_set") 507), (.ref 98)⟩, ⟨PyData.keyHash P (PySem.Str.ofString "in_table_b1"), (.str (PySem.Str.ofString "in_table_b1") 514), (.ref 108)⟩, ⟨PyData.keyHash P (PySem.Str.ofString "b3_exceptions"), (.str (PySem.Str.ofString "b3_exceptions") 2465), (.ref 109)⟩, ⟨PyData.keyHash P (PySem.Str.ofString "map_table_b3"), (.str (PySem.Str.ofString "map_table_b3") 2473), (.ref 154)⟩, ⟨PyData.keyHash P (PySem.Str.ofString "_law_ask"), (.str (PySem.Str.ofString "_law_ask") 2486), (.ref 161)⟩, ⟨PyData.keyHash P (PySem.Str.ofString "_law_shelves"), (.str (PySem.Str.ofString "_law_shelves") 2492), (.ref 166)⟩, ⟨PyData.keyHash P (PySem.Str.ofString "_law_words"), (.str (PySem.Str.ofString "_law_words") 2500), (.ref 173)⟩, ⟨PyData.keyHash P (PySem.Str.ofString "_law_heard"), (.str (PySem.Str.ofString "_law_heard") 2513), (.ref 180)⟩, ⟨PyData.keyHash P (PySem.Str.ofString "law"), (.str (PySem.Str.ofString "law") 2519), (.ref 185)⟩] 29, #[]⟩
noncomputable def o29 (_ : Params) : Obj := ⟨.none, none, .fields #[(.int 6 0), (.int 0 0), (.ref 47), (.int 9 0), (.int 0 0), (.ref 56), (.int 15 0), (.int 0 0), (.ref 65), (.int 35 0), (.int 0 0), (.ref 74), (.int 57 0), (.int 0 0), (.ref 82), (.int 69 0), (.int 0 0), (.ref 89), (.int 79 0), (.int 0 0), (.ref 107), (.int 82 0), (.int 0 0), (.ref 153), (.int 88 0), (.int 0 0), (.ref 160), (.int 96 0), (.int 0 0), (.ref 165), (.int 104 0), (.int 0 0), (.ref 172), (.int 111 0), (.int 0 0), (.ref 179), (.int 128 0), (.int 0 0), (.ref 184)], #[]⟩
noncomputable def o148 (_ : Params) : Obj := ⟨(.type "tuple"), none, .seq #[] 0, #[]⟩
noncomputable def o149 (_ : Params) : Obj := ⟨.none, none, .fields #[], #[]⟩
noncomputable def o150 (_ : Params) : Obj := ⟨(.type "tuple"), none, .seq #[(.str (PySem.Str.ofString "code") 2469), (.str (PySem.Str.ofString "r") 2470)] 0, #[]⟩
noncomputable def o151 (_ : Params) : Obj := ⟨(.type "tuple"), none, .seq #[] 0, #[]⟩
noncomputable def o152 (_ : Params) : Obj := ⟨.none, none, fnD 18 0 .none .none .none .none 0, #[]⟩
noncomputable def o153 (_ : Params) : Obj := ⟨(.type "code"), none, .fields #[(.str (PySem.Str.ofString "map_table_b3") 2466), (.str (PySem.Str.ofString "map_table_b3") 2467), (.str (PySem.Str.ofString "/claim/cut.py") 2468), (.int 82 0), (.int 1 0), (.int 0 0), (.int 0 0), (.int 3 0), (.ref 148), (.bool true), (.int 276 0), (.ref 149), .none, (.ref 150), (.ref 151), (.ref 152), (.int 2471 0), (.int 82 0), (.str (PySem.Str.ofString "/claim/cut.py") 2472)], #[]⟩
noncomputable def o154 (_ : Params) : Obj := ⟨(.type "function"), none, fnD 18 3 .none .none (.str (PySem.Str.ofString "cpy313.stringprep") 446) (.ref 153) 0, #[]⟩
noncomputable def o155 (_ : Params) : Obj := ⟨(.type "tuple"), none, .seq #[] 0, #[]⟩
noncomputable def o156 (_ : Params) : Obj := ⟨.none, none, .fields #[], #[]⟩
noncomputable def o157 (_ : Params) : Obj := ⟨(.type "tuple"), none, .seq #[(.str (PySem.Str.ofString "number") 2479), (.str (PySem.Str.ofString "meant") 2480), (.str (PySem.Str.ofString "spelled") 2481), (.str (PySem.Str.ofString "cut") 2482), (.str (PySem.Str.ofString "hidden") 2483)] 0, #[]⟩
noncomputable def o158 (_ : Params) : Obj := ⟨(.type "tuple"), none, .seq #[] 0, #[]⟩
noncomputable def o159 (_ : Params) : Obj := ⟨.none, none, fnD 20 0 .none .none .none .none 0, #[]⟩
noncomputable def o160 (_ : Params) : Obj := ⟨(.type "code"), none, .fields #[(.str (PySem.Str.ofString "_law_ask") 2476), (.str (PySem.Str.ofString "_law_ask") 2477), (.str (PySem.Str.ofString "/claim/cut.py") 2478), (.int 88 0), (.int 1 0), (.int 0 0), (.int 0 0), (.int 3 0), (.ref 155), (.bool true), (.int 276 0), (.ref 156), .none, (.ref 157), (.ref 158), (.ref 159), (.int 2484 0), (.int 88 0), (.str (PySem.Str.ofString "/claim/cut.py") 2485)], #[]⟩
noncomputable def o161 (_ : Params) : Obj := ⟨(.type "function"), none, fnD 20 3 .none .none (.str (PySem.Str.ofString "law_us0017_01") 2474) (.ref 160) 0, #[]⟩
noncomputable def o162 (_ : Params) : Obj := ⟨(.type "tuple"), none, .seq #[] 0, #[]⟩
noncomputable def o163 (_ : Params) : Obj := ⟨.none, none, .fields #[], #[]⟩
noncomputable def o164 (_ : Params) : Obj := ⟨.none, none, fnD 21 0 .none .none .none .none 0, #[]⟩
noncomputable def o165 (_ : Params) : Obj := ⟨(.type "code"), none, .fields #[(.str (PySem.Str.ofString "_law_shelves") 2487), (.str (PySem.Str.ofString "_law_shelves") 2488), (.str (PySem.Str.ofString "/claim/cut.py") 2489), (.int 96 0), (.int 2 0), (.int 0 0), (.int 0 0), (.int 3 0), (.ref 162), (.bool true), (.int 276 0), (.ref 163), .none, .none, .none, (.ref 164), (.int 2490 0), (.int 96 0), (.str (PySem.Str.ofString "/claim/cut.py") 2491)], #[]⟩
noncomputable def o166 (_ : Params) : Obj := ⟨(.type "function"), none, fnD 21 3 .none .none (.str (PySem.Str.ofString "law_us0017_01") 2474) (.ref 165) 0, #[]⟩
noncomputable def o167 (_ : Params) : Obj := ⟨(.type "tuple"), none, .seq #[] 0, #[]⟩
noncomputable def o168 (_ : Params) : Obj := ⟨.none, none, .fields #[], #[]⟩
noncomputable def o169 (_ : Params) : Obj := ⟨(.type "tuple"), none, .seq #[(.str (PySem.Str.ofString "depth") 2496), (.str (PySem.Str.ofString "words") 2497)] 0, #[]⟩
noncomputable def o170 (_ : Params) : Obj := ⟨(.type "tuple"), none, .seq #[] 0, #[]⟩
noncomputable def o171 (_ : Params) : Obj := ⟨.none, none, fnD 22 0 .none .none .none .none 0, #[]⟩
noncomputable def o172 (_ : Params) : Obj := ⟨(.type "code"), none, .fields #[(.str (PySem.Str.ofString "_law_words") 2493), (.str (PySem.Str.ofString "_law_words") 2494), (.str (PySem.Str.ofString "/claim/cut.py") 2495), (.int 104 0), (.int 1 0), (.int 0 0), (.int 0 0), (.int 3 0), (.ref 167), (.bool true), (.int 276 0), (.ref 168), .none, (.ref 169), (.ref 170), (.ref 171), (.int 2498 0), (.int 104 0), (.str (PySem.Str.ofString "/claim/cut.py") 2499)], #[]⟩
noncomputable def o173 (_ : Params) : Obj := ⟨(.type "function"), none, fnD 22 3 .none .none (.str (PySem.Str.ofString "law_us0017_01") 2474) (.ref 172) 0, #[]⟩
noncomputable def o174 (_ : Params) : Obj := ⟨(.type "tuple"), none, .seq #[] 0, #[]⟩
noncomputable def o175 (_ : Params) : Obj := ⟨.none, none, .fields #[], #[]⟩
noncomputable def o176 (_ : Params) : Obj := ⟨(.type "tuple"), none, .seq #[(.str (PySem.Str.ofString "octets") 2504), (.str (PySem.Str.ofString "feed") 2505), (.str (PySem.Str.ofString "stack") 2506), (.str (PySem.Str.ofString "heard") 2507), (.str (PySem.Str.ofString "depth") 2508), (.str (PySem.Str.ofString "told") 2509), (.str (PySem.Str.ofString "turn") 2510)] 0, #[]⟩
noncomputable def o177 (_ : Params) : Obj := ⟨(.type "tuple"), none, .seq #[] 0, #[]⟩
noncomputable def o178 (_ : Params) : Obj := ⟨.none, none, fnD 23 0 .none .none .none .none 0, #[]⟩
noncomputable def o179 (_ : Params) : Obj := ⟨(.type "code"), none, .fields #[(.str (PySem.Str.ofString "_law_heard") 2501), (.str (PySem.Str.ofString "_law_heard") 2502), (.str (PySem.Str.ofString "/claim/cut.py") 2503), (.int 111 0), (.int 1 0), (.int 0 0), (.int 0 0), (.int 3 0), (.ref 174), (.bool true), (.int 276 0), (.ref 175), .none, (.ref 176), (.ref 177), (.ref 178), (.int 2511 0), (.int 111 0), (.str (PySem.Str.ofString "/claim/cut.py") 2512)], #[]⟩
noncomputable def o180 (_ : Params) : Obj := ⟨(.type "function"), none, fnD 23 3 .none .none (.str (PySem.Str.ofString "law_us0017_01") 2474) (.ref 179) 0, #[]⟩
noncomputable def o181 (_ : Params) : Obj := ⟨(.type "tuple"), none, .seq #[] 0, #[]⟩
noncomputable def o182 (_ : Params) : Obj := ⟨.none, none, .fields #[], #[]⟩
noncomputable def o183 (_ : Params) : Obj := ⟨.none, none, fnD 24 0 .none .none .none .none 0, #[]⟩
noncomputable def o184 (_ : Params) : Obj := ⟨(.type "code"), none, .fields #[(.str (PySem.Str.ofString "law") 2514), (.str (PySem.Str.ofString "law") 2515), (.str (PySem.Str.ofString "/claim/cut.py") 2516), (.int 128 0), (.int 1 0), (.int 0 0), (.int 0 0), (.int 3 0), (.ref 181), (.bool true), (.int 276 0), (.ref 182), .none, .none, .none, (.ref 183), (.int 2517 0), (.int 128 0), (.str (PySem.Str.ofString "/claim/cut.py") 2518)], #[]⟩
noncomputable def o185 (_ : Params) : Obj := ⟨(.type "function"), none, fnD 24 3 .none .none (.str (PySem.Str.ofString "law_us0017_01") 2474) (.ref 184) 0, #[]⟩
noncomputable def KF (P : Params) : Frag := (nat_lit 0, o0 P) :: (nat_lit 1, o1 P) :: (nat_lit 2, o2 P) :: (nat_lit 3, o3 P) :: (nat_lit 4, o4 P) :: (nat_lit 5, o5 P) :: (nat_lit 6, o6 P) :: (nat_lit 7, o7 P) :: (nat_lit 8, o8 P) :: (nat_lit 9, o9 P) :: (nat_lit 10, o10 P) :: (nat_lit 11, o11 P) :: (nat_lit 12, o12 P) :: (nat_lit 13, o13 P) :: (nat_lit 14, o14 P) :: (nat_lit 15, o15 P) :: (nat_lit 16, o16 P) :: (nat_lit 17, o17 P) :: (nat_lit 18, o18 P) :: (nat_lit 19, o19 P) :: (nat_lit 20, o20 P) :: (nat_lit 21, o21 P) :: (nat_lit 22, o22 P) :: (nat_lit 23, o23 P) :: (nat_lit 24, o24 P) :: (nat_lit 25, o25 P) :: (nat_lit 26, o26 P) :: (nat_lit 27, o27 P) :: (nat_lit 28, o28 P) :: (nat_lit 29, o29 P) :: (nat_lit 30, o30 P) :: (nat_lit 31, o31 P) :: (nat_lit 32, o32 P) :: (nat_lit 33, o33 P) :: (nat_lit 34, o34 P) :: (nat_lit 35, o35 P) :: (nat_lit 36, o36 P) :: (nat_lit 37, o37 P) :: (nat_lit 38, o38 P) :: (nat_lit 39, o39 P) :: (nat_lit 40, o40 P) :: (nat_lit 41, o41 P) :: (nat_lit 42, o42 P) :: (nat_lit 43, o43 P) :: (nat_lit 44, o44 P) :: (nat_lit 45, o45 P) :: (nat_lit 46, o46 P) :: (nat_lit 47, o47 P) :: (nat_lit 48, o48 P) :: (nat_lit 49, o49 P) :: (nat_lit 50, o50 P) :: (nat_lit 51, o51 P) :: (nat_lit 52, o52 P) :: (nat_lit 53, o53 P) :: (nat_lit 54, o54 P) :: (nat_lit 55, o55 P) :: (nat_lit 56, o56 P) :: (nat_lit 57, o57 P) :: (nat_lit 58, o58 P) :: (nat_lit 59, o59 P) :: (nat_lit 60, o60 P) :: (nat_lit 61, o61 P) :: (nat_lit 62, o62 P) :: (nat_lit 63, o63 P) :: (nat_lit 64, o64 P) :: (nat_lit 65, o65 P) :: (nat_lit 66, o66 P) :: (nat_lit 67, o67 P) :: (nat_lit 68, o68 P) :: (nat_lit 69, o69 P) :: (nat_lit 70, o70 P) :: (nat_lit 71, o71 P) :: (nat_lit 72, o72 P) :: (nat_lit 73, o73 P) :: (nat_lit 74, o74 P) :: (nat_lit 75, o75 P) :: (nat_lit 76, o76 P) :: (nat_lit 77, o77 P) :: (nat_lit 78, o78 P) :: (nat_lit 79, o79 P) :: (nat_lit 80, o80 P) :: (nat_lit 81, o81 P) :: (nat_lit 82, o82 P) :: (nat_lit 83, o83 P) :: (nat_lit 84, o84 P) :: (nat_lit 85, o85 P) :: (nat_lit 86, o86 P) :: (nat_lit 87, o87 P) :: (nat_lit 88, o88 P) :: (nat_lit 89, o89 P) :: (nat_lit 90, o90 P) :: (nat_lit 91, o91 P) :: (nat_lit 92, o92 P) :: (nat_lit 93, o93 P) :: (nat_lit 94, o94 P) :: (nat_lit 95, o95 P) :: (nat_lit 96, o96 P) :: (nat_lit 97, o97 P) :: (nat_lit 98, o98 P) :: (nat_lit 99, o99 P) :: (nat_lit 100, o100 P) :: (nat_lit 101, o101 P) :: (nat_lit 102, o102 P) :: (nat_lit 103, o103 P) :: (nat_lit 104, o104 P) :: (nat_lit 105, o105 P) :: (nat_lit 106, o106 P) :: (nat_lit 107, o107 P) :: (nat_lit 108, o108 P) :: (nat_lit 109, o109 P) :: (nat_lit 110, o110 P) :: (nat_lit 111, o111 P) :: (nat_lit 112, o112 P) :: (nat_lit 113, o113 P) :: (nat_lit 114, o114 P) :: (nat_lit 115, o115 P) :: (nat_lit 116, o116 P) :: (nat_lit 117, o117 P) :: (nat_lit 118, o118 P) :: (nat_lit 119, o119 P) :: (nat_lit 120, o120 P) :: (nat_lit 121, o121 P) :: (nat_lit 122, o122 P) :: (nat_lit 123, o123 P) :: (nat_lit 124, o124 P) :: (nat_lit 125, o125 P) :: (nat_lit 126, o126 P) :: (nat_lit 127, o127 P) :: (nat_lit 128, o128 P) :: (nat_lit 129, o129 P) :: (nat_lit 130, o130 P) :: (nat_lit 131, o131 P) :: (nat_lit 132, o132 P) :: (nat_lit 133, o133 P) :: (nat_lit 134, o134 P) :: (nat_lit 135, o135 P) :: (nat_lit 136, o136 P) :: (nat_lit 137, o137 P) :: (nat_lit 138, o138 P) :: (nat_lit 139, o139 P) :: (nat_lit 140, o140 P) :: (nat_lit 141, o141 P) :: (nat_lit 142, o142 P) :: (nat_lit 143, o143 P) :: (nat_lit 144, o144 P) :: (nat_lit 145, o145 P) :: (nat_lit 146, o146 P) :: (nat_lit 147, o147 P) :: (nat_lit 148, o148 P) :: (nat_lit 149, o149 P) :: (nat_lit 150, o150 P) :: (nat_lit 151, o151 P) :: (nat_lit 152, o152 P) :: (nat_lit 153, o153 P) :: (nat_lit 154, o154 P) :: (nat_lit 155, o155 P) :: (nat_lit 156, o156 P) :: (nat_lit 157, o157 P) :: (nat_lit 158, o158 P) :: (nat_lit 159, o159 P) :: (nat_lit 160, o160 P) :: (nat_lit 161, o161 P) :: (nat_lit 162, o162 P) :: (nat_lit 163, o163 P) :: (nat_lit 164, o164 P) :: (nat_lit 165, o165 P) :: (nat_lit 166, o166 P) :: (nat_lit 167, o167 P) :: (nat_lit 168, o168 P) :: (nat_lit 169, o169 P) :: (nat_lit 170, o170 P) :: (nat_lit 171, o171 P) :: (nat_lit 172, o172 P) :: (nat_lit 173, o173 P) :: (nat_lit 174, o174 P) :: (nat_lit 175, o175 P) :: (nat_lit 176, o176 P) :: (nat_lit 177, o177 P) :: (nat_lit 178, o178 P) :: (nat_lit 179, o179 P) :: (nat_lit 180, o180 P) :: (nat_lit 181, o181 P) :: (nat_lit 182, o182 P) :: (nat_lit 183, o183 P) :: (nat_lit 184, o184 P) :: (nat_lit 185, o185 P) :: []
noncomputable def trY (P : Params) : BT := (.node (o0 P) (.node (o1 P) (.node (o3v0 P) (.node (o7 P) (.node (o15 P) .nil .nil) (.node (o23 P) .nil .nil)) (.node (o11v0 P) (.node (o19 P) .nil .nil) (.node (o27 P) .nil .nil))) (.node (o5 P) (.node (o9 P) (.node (o17 P) .nil .nil) (.node (o25 P) .nil .nil)) (.node (o13 P) (.node (o21 P) .nil .nil) .nil))) (.node (o2 P) (.node (o4 P) (.node (o8 P) (.node (o16 P) .nil .nil) (.node (o24 P) .nil .nil)) (.node (o12 P) (.node (o20 P) .nil .nil) .nil)) (.node (o6 P) (.node (o10 P) (.node (o18 P) .nil .nil) (.node (o26 P) .nil .nil)) (.node (o14 P) (.node (o22 P) .nil .nil) .nil))))
noncomputable def hpY (P : Params) : Heap := ⟨#[o0 P, o1 P, o2 P, o3v0 P, o4 P, o5 P, o6 P, o7 P, o8 P, o9 P, o10 P, o11v0 P, o12 P, o13 P, o14 P, o15 P, o16 P, o17 P, o18 P, o19 P, o20 P, o21 P, o22 P, o23 P, o24 P, o25 P, o26 P, o27 P], {}⟩
noncomputable def trZ (P : Params) : BT := (.node (o0 P) (.node (o1 P) (.node (o3v0 P) (.node (o7 P) (.node (o15 P) .nil .nil) (.node (o23 P) .nil .nil)) (.node (o11 P) (.node (o19 P) .nil .nil) (.node (o27 P) .nil .nil))) (.node (o5 P) (.node (o9 P) (.node (o17 P) .nil .nil) (.node (o25 P) .nil .nil)) (.node (o13 P) (.node (o21 P) .nil .nil) .nil))) (.node (o2 P) (.node (o4 P) (.node (o8 P) (.node (o16 P) .nil .nil) (.node (o24 P) .nil .nil)) (.node (o12 P) (.node (o20 P) .nil .nil) .nil)) (.node (o6 P) (.node (o10 P) (.node (o18 P) .nil .nil) (.node (o26 P) .nil .nil)) (.node (o14 P) (.node (o22 P) .nil .nil) .nil))))
noncomputable def hpZ (P : Params) : Heap := ⟨#[o0 P, o1 P, o2 P, o3v0 P, o4 P, o5 P, o6 P, o7 P, o8 P, o9 P, o10 P, o11 P, o12 P, o13 P, o14 P, o15 P, o16 P, o17 P, o18 P, o19 P, o20 P, o21 P, o22 P, o23 P, o24 P, o25 P, o26 P, o27 P], {}⟩
noncomputable def trA (P : Params) : BT := (.node (o0 P) (.node (o1 P) (.node (o3v0 P) (.node (o7 P) (.node (o15 P) (.node (o31 P) .nil .nil) .nil) (.node (o23 P) .nil .nil)) (.node (o11 P) (.node (o19 P) .nil .nil) (.node (o27 P) .nil .nil))) (.node (o5 P) (.node (o9 P) (.node (o17 P) .nil .nil) (.node (o25 P) .nil .nil)) (.node (o13 P) (.node (o21 P) .nil .nil) (.node (o29v0 P) .nil .nil)))) (.node (o2 P) (.node (o4 P) (.node (o8 P) (.node (o16 P) .nil .nil) (.node (o24 P) .nil .nil)) (.node (o12 P) (.node (o20 P) .nil .nil) (.node (o28 P) .nil .nil))) (.node (o6 P) (.node (o10 P) (.node (o18 P) .nil .nil) (.node (o26 P) .nil .nil)) (.node (o14 P) (.node (o22 P) .nil .nil) (.node (o30 P) .nil .nil)))))
noncomputable def hpA (P : Params) : Heap := ⟨#[o0 P, o1 P, o2 P, o3v0 P, o4 P, o5 P, o6 P, o7 P, o8 P, o9 P, o10 P, o11 P, o12 P, o13 P, o14 P, o15 P, o16 P, o17 P, o18 P, o19 P, o20 P, o21 P, o22 P, o23 P, o24 P, o25 P, o26 P, o27 P, o28 P, o29v0 P, o30 P, o31 P], {}⟩
noncomputable def trB (P : Params) : BT := (.node (o0 P) (.node (o1 P) (.node (o3v0 P) (.node (o7 P) (.node (o15 P) (.node (o31 P) .nil .nil) .nil) (.node (o23 P) .nil .nil)) (.node (o11 P) (.node (o19 P) .nil .nil) (.node (o27 P) .nil .nil))) (.node (o5 P) (.node (o9 P) (.node (o17 P) .nil .nil) (.node (o25 P) .nil .nil)) (.node (o13 P) (.node (o21 P) .nil .nil) (.node (o29v0 P) .nil .nil)))) (.node (o2 P) (.node (o4 P) (.node (o8 P) (.node (o16 P) .nil .nil) (.node (o24 P) .nil .nil)) (.node (o12 P) (.node (o20 P) .nil .nil) (.node (o28 P) .nil .nil))) (.node (o6 P) (.node (o10 P) (.node (o18 P) .nil .nil) (.node (o26 P) .nil .nil)) (.node (o14 P) (.node (o22 P) .nil .nil) (.node (o30 P) .nil .nil)))))
noncomputable def trG9 (P : Params) : BT := (.node (o0 P) (.node (o1 P) (.node (o3v1 P) (.node (o7 P) (.node (o15 P) (.node (o31 P) (.node (o63 P) .nil .nil) .nil) (.node (o47 P) .nil .nil)) (.node (o23 P) (.node (o39 P) (.node (o71 P) .nil .nil) .nil) (.node (o55 P) .nil .nil))) (.node (o11 P) (.node (o19 P) (.node (o35 P) (.node (o67 P) .nil .nil) .nil) (.node (o51 P) .nil .nil)) (.node (o27 P) (.node (o43 P) (.node (o75 P) .nil .nil) .nil) (.node (o59 P) .nil .nil)))) (.node (o5 P) (.node (o9 P) (.node (o17 P) (.node (o33 P) (.node (o65 P) .nil .nil) .nil) (.node (o49 P) .nil .nil)) (.node (o25 P) (.node (o41 P) (.node (o73 P) .nil .nil) .nil) (.node (o57 P) .nil .nil))) (.node (o13 P) (.node (o21 P) (.node (o37 P) (.node (o69 P) .nil .nil) .nil) (.node (o53 P) .nil .nil)) (.node (o29v1 P) (.node (o45 P) .nil .nil) (.node (o61 P) .nil .nil))))) (.node (o2 P) (.node (o4 P) (.node (o8 P) (.node (o16 P) (.node (o32 P) (.node (o64 P) .nil .nil) .nil) (.node (o48 P) .nil .nil)) (.node (o24 P) (.node (o40 P) (.node (o72 P) .nil .nil) .nil) (.node (o56 P) .nil .nil))) (.node (o12 P) (.node (o20 P) (.node (o36 P) (.node (o68 P) .nil .nil) .nil) (.node (o52 P) .nil .nil)) (.node (o28 P) (.node (o44 P) .nil .nil) (.node (o60 P) .nil .nil)))) (.node (o6 P) (.node (o10 P) (.node (o18 P) (.node (o34 P) (.node (o66 P) .nil .nil) .nil) (.node (o50 P) .nil .nil)) (.node (o26 P) (.node (o42 P) (.node (o74 P) .nil .nil) .nil) (.node (o58 P) .nil .nil))) (.node (o14 P) (.node (o22 P) (.node (o38 P) (.node (o70 P) .nil .nil) .nil) (.node (o54 P) .nil .nil)) (.node (o30 P) (.node (o46 P) .nil .nil) (.node (o62 P) .nil .nil))))))
noncomputable def trG13 (P : Params) : BT := (.node (o0 P) (.node (o1 P) (.node (o3v2 P) (.node (o7 P) (.node (o15 P) (.node (o31 P) (.node (o63 P) .nil .nil) .nil) (.node (o47 P) (.node (o79 P) .nil .nil) .nil)) (.node (o23 P) (.node (o39 P) (.node (o71 P) .nil .nil) .nil) (.node (o55 P) (.node (o87 P) .nil .nil) .nil))) (.node (o11 P) (.node (o19 P) (.node (o35 P) (.node (o67 P) .nil .nil) .nil) (.node (o51 P) (.node (o83 P) .nil .nil) .nil)) (.node (o27 P) (.node (o43 P) (.node (o75 P) .nil .nil) .nil) (.node (o59 P) .nil .nil)))) (.node (o5 P) (.node (o9 P) (.node (o17 P) (.node (o33 P) (.node (o65 P) .nil .nil) .nil) (.node (o49 P) (.node (o81 P) .nil .nil) .nil)) (.node (o25 P) (.node (o41 P) (.node (o73 P) .nil .nil) .nil) (.node (o57 P) (.node (o89 P) .nil .nil) .nil))) (.node (o13 P) (.node (o21 P) (.node (o37 P) (.node (o69 P) .nil .nil) .nil) (.node (o53 P) (.node (o85 P) .nil .nil) .nil)) (.node (o29v2 P) (.node (o45 P) (.node (o77 P) .nil .nil) .nil) (.node (o61 P) .nil .nil))))) (.node (o2 P) (.node (o4 P) (.node (o8 P) (.node (o16 P) (.node (o32 P) (.node (o64 P) .nil .nil) .nil) (.node (o48 P) (.node (o80 P) .nil .nil) .nil)) (.node (o24 P) (.node (o40 P) (.node (o72 P) .nil .nil) .nil) (.node (o56 P) (.node (o88 P) .nil .nil) .nil))) (.node (o12 P) (.node (o20 P) (.node (o36 P) (.node (o68 P) .nil .nil) .nil) (.node (o52 P) (.node (o84 P) .nil .nil) .nil)) (.node (o28 P) (.node (o44 P) (.node (o76 P) .nil .nil) .nil) (.node (o60 P) .nil .nil)))) (.node (o6 P) (.node (o10 P) (.node (o18 P) (.node (o34 P) (.node (o66 P) .nil .nil) .nil) (.node (o50 P) (.node (o82 P) .nil .nil) .nil)) (.node (o26 P) (.node (o42 P) (.node (o74 P) .nil .nil) .nil) (.node (o58 P) (.node (o90 P) .nil .nil) .nil))) (.node (o14 P) (.node (o22 P) (.node (o38 P) (.node (o70 P) .nil .nil) .nil) (.node (o54 P) (.node (o86 P) .nil .nil) .nil)) (.node (o30 P) (.node (o46 P) (.node (o78 P) .nil .nil) .nil) (.node (o62 P) .nil .nil))))))
noncomputable def trG14 (P : Params) : BT := (.node (o0 P) (.node (o1 P) (.node (o3v3 P) (.node (o7 P) (.node (o15 P) (.node (o31 P) (.node (o63 P) .nil .nil) (.node (o95 P) .nil .nil)) (.node (o47 P) (.node (o79 P) .nil .nil) .nil)) (.node (o23 P) (.node (o39 P) (.node (o71 P) .nil .nil) .nil) (.node (o55 P) (.node (o87 P) .nil .nil) .nil))) (.node (o11 P) (.node (o19 P) (.node (o35 P) (.node (o67 P) .nil .nil) (.node (o99 P) .nil .nil)) (.node (o51 P) (.node (o83 P) .nil .nil) .nil)) (.node (o27 P) (.node (o43 P) (.node (o75 P) .nil .nil) .nil) (.node (o59 P) (.node (o91 P) .nil .nil) .nil)))) (.node (o5 P) (.node (o9 P) (.node (o17 P) (.node (o33 P) (.node (o65 P) .nil .nil) (.node (o97 P) .nil .nil)) (.node (o49 P) (.node (o81 P) .nil .nil) .nil)) (.node (o25 P) (.node (o41 P) (.node (o73 P) .nil .nil) .nil) (.node (o57 P) (.node (o89 P) .nil .nil) .nil))) (.node (o13 P) (.node (o21 P) (.node (o37 P) (.node (o69 P) .nil .nil) (.node (o101 P) .nil .nil)) (.node (o53 P) (.node (o85 P) .nil .nil) .nil)) (.node (o29v2 P) (.node (o45 P) (.node (o77 P) .nil .nil) .nil) (.node (o61 P) (.node (o93 P) .nil .nil) .nil))))) (.node (o2 P) (.node (o4 P) (.node (o8 P) (.node (o16 P) (.node (o32 P) (.node (o64 P) .nil .nil) (.node (o96 P) .nil .nil)) (.node (o48 P) (.node (o80 P) .nil .nil) .nil)) (.node (o24 P) (.node (o40 P) (.node (o72 P) .nil .nil) .nil) (.node (o56 P) (.node (o88 P) .nil .nil) .nil))) (.node (o12 P) (.node (o20 P) (.node (o36 P) (.node (o68 P) .nil .nil) (.node (o100 P) .nil .nil)) (.node (o52 P) (.node (o84 P) .nil .nil) .nil)) (.node (o28 P) (.node (o44 P) (.node (o76 P) .nil .nil) .nil) (.node (o60 P) (.node (o92 P) .nil .nil) .nil)))) (.node (o6 P) (.node (o10 P) (.node (o18 P) (.node (o34 P) (.node (o66 P) .nil .nil) (.node (o98 P) .nil .nil)) (.node (o50 P) (.node (o82 P) .nil .nil) .nil)) (.node (o26 P) (.node (o42 P) (.node (o74 P) .nil .nil) .nil) (.node (o58 P) (.node (o90 P) .nil .nil) .nil))) (.node (o14 P) (.node (o22 P) (.node (o38 P) (.node (o70 P) .nil .nil) .nil) (.node (o54 P) (.node (o86 P) .nil .nil) .nil)) (.node (o30 P) (.node (o46 P) (.node (o78 P) .nil .nil) .nil) (.node (o62 P) (.node (o94 P) .nil .nil) .nil))))))
noncomputable def trG15 (P : Params) : BT := (.node (o0 P) (.node (o1 P) (.node (o3v4 P) (.node (o7 P) (.node (o15 P) (.node (o31 P) (.node (o63 P) .nil .nil) (.node (o95 P) .nil .nil)) (.node (o47 P) (.node (o79 P) .nil .nil) .nil)) (.node (o23 P) (.node (o39 P) (.node (o71 P) .nil .nil) (.node (o103 P) .nil .nil)) (.node (o55 P) (.node (o87 P) .nil .nil) .nil))) (.node (o11 P) (.node (o19 P) (.node (o35 P) (.node (o67 P) .nil .nil) (.node (o99 P) .nil .nil)) (.node (o51 P) (.node (o83 P) .nil .nil) .nil)) (.node (o27 P) (.node (o43 P) (.node (o75 P) .nil .nil) (.node (o107 P) .nil .nil)) (.node (o59 P) (.node (o91 P) .nil .nil) .nil)))) (.node (o5 P) (.node (o9 P) (.node (o17 P) (.node (o33 P) (.node (o65 P) .nil .nil) (.node (o97 P) .nil .nil)) (.node (o49 P) (.node (o81 P) .nil .nil) .nil)) (.node (o25 P) (.node (o41 P) (.node (o73 P) .nil .nil) (.node (o105 P) .nil .nil)) (.node (o57 P) (.node (o89 P) .nil .nil) .nil))) (.node (o13 P) (.node (o21 P) (.node (o37 P) (.node (o69 P) .nil .nil) (.node (o101 P) .nil .nil)) (.node (o53 P) (.node (o85 P) .nil .nil) .nil)) (.node (o29v3 P) (.node (o45 P) (.node (o77 P) .nil .nil) .nil) (.node (o61 P) (.node (o93 P) .nil .nil) .nil))))) (.node (o2 P) (.node (o4 P) (.node (o8 P) (.node (o16 P) (.node (o32 P) (.node (o64 P) .nil .nil) (.node (o96 P) .nil .nil)) (.node (o48 P) (.node (o80 P) .nil .nil) .nil)) (.node (o24 P) (.node (o40 P) (.node (o72 P) .nil .nil) (.node (o104 P) .nil .nil)) (.node (o56 P) (.node (o88 P) .nil .nil) .nil))) (.node (o12 P) (.node (o20 P) (.node (o36 P) (.node (o68 P) .nil .nil) (.node (o100 P) .nil .nil)) (.node (o52 P) (.node (o84 P) .nil .nil) .nil)) (.node (o28 P) (.node (o44 P) (.node (o76 P) .nil .nil) (.node (o108 P) .nil .nil)) (.node (o60 P) (.node (o92 P) .nil .nil) .nil)))) (.node (o6 P) (.node (o10 P) (.node (o18 P) (.node (o34 P) (.node (o66 P) .nil .nil) (.node (o98 P) .nil .nil)) (.node (o50 P) (.node (o82 P) .nil .nil) .nil)) (.node (o26 P) (.node (o42 P) (.node (o74 P) .nil .nil) (.node (o106 P) .nil .nil)) (.node (o58 P) (.node (o90 P) .nil .nil) .nil))) (.node (o14 P) (.node (o22 P) (.node (o38 P) (.node (o70 P) .nil .nil) (.node (o102 P) .nil .nil)) (.node (o54 P) (.node (o86 P) .nil .nil) .nil)) (.node (o30 P) (.node (o46 P) (.node (o78 P) .nil .nil) .nil) (.node (o62 P) (.node (o94 P) .nil .nil) .nil))))))
noncomputable def trG16 (P : Params) : BT := (.node (o0 P) (.node (o1 P) (.node (o3v5 P) (.node (o7 P) (.node (o15 P) (.node (o31 P) (.node (o63 P) (.node (o127 P) .nil .nil) .nil) (.node (o95 P) .nil .nil)) (.node (o47 P) (.node (o79 P) (.node (o143 P) .nil .nil) .nil) (.node (o111 P) .nil .nil))) (.node (o23 P) (.node (o39 P) (.node (o71 P) (.node (o135 P) .nil .nil) .nil) (.node (o103 P) .nil .nil)) (.node (o55 P) (.node (o87 P) .nil .nil) (.node (o119 P) .nil .nil)))) (.node (o11 P) (.node (o19 P) (.node (o35 P) (.node (o67 P) (.node (o131 P) .nil .nil) .nil) (.node (o99 P) .nil .nil)) (.node (o51 P) (.node (o83 P) (.node (o147 P) .nil .nil) .nil) (.node (o115 P) .nil .nil))) (.node (o27 P) (.node (o43 P) (.node (o75 P) (.node (o139 P) .nil .nil) .nil) (.node (o107 P) .nil .nil)) (.node (o59 P) (.node (o91 P) .nil .nil) (.node (o123 P) .nil .nil))))) (.node (o5 P) (.node (o9 P) (.node (o17 P) (.node (o33 P) (.node (o65 P) (.node (o129 P) .nil .nil) .nil) (.node (o97 P) .nil .nil)) (.node (o49 P) (.node (o81 P) (.node (o145 P) .nil .nil) .nil) (.node (o113 P) .nil .nil))) (.node (o25 P) (.node (o41 P) (.node (o73 P) (.node (o137 P) .nil .nil) .nil) (.node (o105 P) .nil .nil)) (.node (o57 P) (.node (o89 P) .nil .nil) (.node (o121 P) .nil .nil)))) (.node (o13 P) (.node (o21 P) (.node (o37 P) (.node (o69 P) (.node (o133 P) .nil .nil) .nil) (.node (o101 P) .nil .nil)) (.node (o53 P) (.node (o85 P) .nil .nil) (.node (o117 P) .nil .nil))) (.node (o29v3 P) (.node (o45 P) (.node (o77 P) (.node (o141 P) .nil .nil) .nil) (.node (o109 P) .nil .nil)) (.node (o61 P) (.node (o93 P) .nil .nil) (.node (o125 P) .nil .nil)))))) (.node (o2 P) (.node (o4 P) (.node (o8 P) (.node (o16 P) (.node (o32 P) (.node (o64 P) (.node (o128 P) .nil .nil) .nil) (.node (o96 P) .nil .nil)) (.node (o48 P) (.node (o80 P) (.node (o144 P) .nil .nil) .nil) (.node (o112 P) .nil .nil))) (.node (o24 P) (.node (o40 P) (.node (o72 P) (.node (o136 P) .nil .nil) .nil) (.node (o104 P) .nil .nil)) (.node (o56 P) (.node (o88 P) .nil .nil) (.node (o120 P) .nil .nil)))) (.node (o12 P) (.node (o20 P) (.node (o36 P) (.node (o68 P) (.node (o132 P) .nil .nil) .nil) (.node (o100 P) .nil .nil)) (.node (o52 P) (.node (o84 P) .nil .nil) (.node (o116 P) .nil .nil))) (.node (o28 P) (.node (o44 P) (.node (o76 P) (.node (o140 P) .nil .nil) .nil) (.node (o108 P) .nil .nil)) (.node (o60 P) (.node (o92 P) .nil .nil) (.node (o124 P) .nil .nil))))) (.node (o6 P) (.node (o10 P) (.node (o18 P) (.node (o34 P) (.node (o66 P) (.node (o130 P) .nil .nil) .nil) (.node (o98 P) .nil .nil)) (.node (o50 P) (.node (o82 P) (.node (o146 P) .nil .nil) .nil) (.node (o114 P) .nil .nil))) (.node (o26 P) (.node (o42 P) (.node (o74 P) (.node (o138 P) .nil .nil) .nil) (.node (o106 P) .nil .nil)) (.node (o58 P) (.node (o90 P) .nil .nil) (.node (o122 P) .nil .nil)))) (.node (o14 P) (.node (o22 P) (.node (o38 P) (.node (o70 P) (.node (o134 P) .nil .nil) .nil) (.node (o102 P) .nil .nil)) (.node (o54 P) (.node (o86 P) .nil .nil) (.node (o118 P) .nil .nil))) (.node (o30 P) (.node (o46 P) (.node (o78 P) (.node (o142 P) .nil .nil) .nil) (.node (o110 P) .nil .nil)) (.node (o62 P) (.node (o94 P) .nil .nil) (.node (o126 P) .nil .nil)))))))
noncomputable def trX (P : Params) : BT := (.node (o0 P) (.node (o1 P) (.node (o3v4 P) (.node (o7 P) (.node (o15 P) (.node (o31 P) (.node (o63 P) (.node (o127 P) .nil .nil) .nil) (.node (o95 P) .nil .nil)) (.node (o47 P) (.node (o79 P) (.node (o143 P) .nil .nil) .nil) (.node (o111 P) .nil .nil))) (.node (o23 P) (.node (o39 P) (.node (o71 P) (.node (o135 P) .nil .nil) .nil) (.node (o103 P) .nil .nil)) (.node (o55 P) (.node (o87 P) .nil .nil) (.node (o119 P) .nil .nil)))) (.node (o11 P) (.node (o19 P) (.node (o35 P) (.node (o67 P) (.node (o131 P) .nil .nil) .nil) (.node (o99 P) .nil .nil)) (.node (o51 P) (.node (o83 P) (.node (o147 P) .nil .nil) .nil) (.node (o115 P) .nil .nil))) (.node (o27 P) (.node (o43 P) (.node (o75 P) (.node (o139 P) .nil .nil) .nil) (.node (o107 P) .nil .nil)) (.node (o59 P) (.node (o91 P) .nil .nil) (.node (o123 P) .nil .nil))))) (.node (o5 P) (.node (o9 P) (.node (o17 P) (.node (o33 P) (.node (o65 P) (.node (o129 P) .nil .nil) .nil) (.node (o97 P) .nil .nil)) (.node (o49 P) (.node (o81 P) (.node (o145 P) .nil .nil) .nil) (.node (o113 P) .nil .nil))) (.node (o25 P) (.node (o41 P) (.node (o73 P) (.node (o137 P) .nil .nil) .nil) (.node (o105 P) .nil .nil)) (.node (o57 P) (.node (o89 P) .nil .nil) (.node (o121 P) .nil .nil)))) (.node (o13 P) (.node (o21 P) (.node (o37 P) (.node (o69 P) (.node (o133 P) .nil .nil) .nil) (.node (o101 P) .nil .nil)) (.node (o53 P) (.node (o85 P) .nil .nil) (.node (o117 P) .nil .nil))) (.node (o29v3 P) (.node (o45 P) (.node (o77 P) (.node (o141 P) .nil .nil) .nil) (.node (o109 P) .nil .nil)) (.node (o61 P) (.node (o93 P) .nil .nil) (.node (o125 P) .nil .nil)))))) (.node (o2 P) (.node (o4 P) (.node (o8 P) (.node (o16 P) (.node (o32 P) (.node (o64 P) (.node (o128 P) .nil .nil) .nil) (.node (o96 P) .nil .nil)) (.node (o48 P) (.node (o80 P) (.node (o144 P) .nil .nil) .nil) (.node (o112 P) .nil .nil))) (.node (o24 P) (.node (o40 P) (.node (o72 P) (.node (o136 P) .nil .nil) .nil) (.node (o104 P) .nil .nil)) (.node (o56 P) (.node (o88 P) .nil .nil) (.node (o120 P) .nil .nil)))) (.node (o12 P) (.node (o20 P) (.node (o36 P) (.node (o68 P) (.node (o132 P) .nil .nil) .nil) (.node (o100 P) .nil .nil)) (.node (o52 P) (.node (o84 P) .nil .nil) (.node (o116 P) .nil .nil))) (.node (o28 P) (.node (o44 P) (.node (o76 P) (.node (o140 P) .nil .nil) .nil) (.node (o108 P) .nil .nil)) (.node (o60 P) (.node (o92 P) .nil .nil) (.node (o124 P) .nil .nil))))) (.node (o6 P) (.node (o10 P) (.node (o18 P) (.node (o34 P) (.node (o66 P) (.node (o130 P) .nil .nil) .nil) (.node (o98 P) .nil .nil)) (.node (o50 P) (.node (o82 P) (.node (o146 P) .nil .nil) .nil) (.node (o114 P) .nil .nil))) (.node (o26 P) (.node (o42 P) (.node (o74 P) (.node (o138 P) .nil .nil) .nil) (.node (o106 P) .nil .nil)) (.node (o58 P) (.node (o90 P) .nil .nil) (.node (o122 P) .nil .nil)))) (.node (o14 P) (.node (o22 P) (.node (o38 P) (.node (o70 P) (.node (o134 P) .nil .nil) .nil) (.node (o102 P) .nil .nil)) (.node (o54 P) (.node (o86 P) .nil .nil) (.node (o118 P) .nil .nil))) (.node (o30 P) (.node (o46 P) (.node (o78 P) (.node (o142 P) .nil .nil) .nil) (.node (o110 P) .nil .nil)) (.node (o62 P) (.node (o94 P) .nil .nil) (.node (o126 P) .nil .nil)))))))
noncomputable def trG23 (P : Params) : BT := (.node (o0 P) (.node (o1 P) (.node (o3 P) (.node (o7 P) (.node (o15 P) (.node (o31 P) (.node (o63 P) (.node (o127 P) .nil .nil) .nil) (.node (o95 P) (.node (o159 P) .nil .nil) .nil)) (.node (o47 P) (.node (o79 P) (.node (o143 P) .nil .nil) .nil) (.node (o111 P) (.node (o175 P) .nil .nil) .nil))) (.node (o23 P) (.node (o39 P) (.node (o71 P) (.node (o135 P) .nil .nil) .nil) (.node (o103 P) (.node (o167 P) .nil .nil) .nil)) (.node (o55 P) (.node (o87 P) (.node (o151 P) .nil .nil) .nil) (.node (o119 P) (.node (o183 P) .nil .nil) .nil)))) (.node (o11 P) (.node (o19 P) (.node (o35 P) (.node (o67 P) (.node (o131 P) .nil .nil) .nil) (.node (o99 P) (.node (o163 P) .nil .nil) .nil)) (.node (o51 P) (.node (o83 P) (.node (o147 P) .nil .nil) .nil) (.node (o115 P) (.node (o179 P) .nil .nil) .nil))) (.node (o27 P) (.node (o43 P) (.node (o75 P) (.node (o139 P) .nil .nil) .nil) (.node (o107 P) (.node (o171 P) .nil .nil) .nil)) (.node (o59 P) (.node (o91 P) (.node (o155 P) .nil .nil) .nil) (.node (o123 P) .nil .nil))))) (.node (o5 P) (.node (o9 P) (.node (o17 P) (.node (o33 P) (.node (o65 P) (.node (o129 P) .nil .nil) .nil) (.node (o97 P) (.node (o161 P) .nil .nil) .nil)) (.node (o49 P) (.node (o81 P) (.node (o145 P) .nil .nil) .nil) (.node (o113 P) (.node (o177 P) .nil .nil) .nil))) (.node (o25 P) (.node (o41 P) (.node (o73 P) (.node (o137 P) .nil .nil) .nil) (.node (o105 P) (.node (o169 P) .nil .nil) .nil)) (.node (o57 P) (.node (o89 P) (.node (o153 P) .nil .nil) .nil) (.node (o121 P) (.node (o185 P) .nil .nil) .nil)))) (.node (o13 P) (.node (o21 P) (.node (o37 P) (.node (o69 P) (.node (o133 P) .nil .nil) .nil) (.node (o101 P) (.node (o165 P) .nil .nil) .nil)) (.node (o53 P) (.node (o85 P) (.node (o149 P) .nil .nil) .nil) (.node (o117 P) (.node (o181 P) .nil .nil) .nil))) (.node (o29 P) (.node (o45 P) (.node (o77 P) (.node (o141 P) .nil .nil) .nil) (.node (o109 P) (.node (o173 P) .nil .nil) .nil)) (.node (o61 P) (.node (o93 P) (.node (o157 P) .nil .nil) .nil) (.node (o125 P) .nil .nil)))))) (.node (o2 P) (.node (o4 P) (.node (o8 P) (.node (o16 P) (.node (o32 P) (.node (o64 P) (.node (o128 P) .nil .nil) .nil) (.node (o96 P) (.node (o160 P) .nil .nil) .nil)) (.node (o48 P) (.node (o80 P) (.node (o144 P) .nil .nil) .nil) (.node (o112 P) (.node (o176 P) .nil .nil) .nil))) (.node (o24 P) (.node (o40 P) (.node (o72 P) (.node (o136 P) .nil .nil) .nil) (.node (o104 P) (.node (o168 P) .nil .nil) .nil)) (.node (o56 P) (.node (o88 P) (.node (o152 P) .nil .nil) .nil) (.node (o120 P) (.node (o184 P) .nil .nil) .nil)))) (.node (o12 P) (.node (o20 P) (.node (o36 P) (.node (o68 P) (.node (o132 P) .nil .nil) .nil) (.node (o100 P) (.node (o164 P) .nil .nil) .nil)) (.node (o52 P) (.node (o84 P) (.node (o148 P) .nil .nil) .nil) (.node (o116 P) (.node (o180 P) .nil .nil) .nil))) (.node (o28 P) (.node (o44 P) (.node (o76 P) (.node (o140 P) .nil .nil) .nil) (.node (o108 P) (.node (o172 P) .nil .nil) .nil)) (.node (o60 P) (.node (o92 P) (.node (o156 P) .nil .nil) .nil) (.node (o124 P) .nil .nil))))) (.node (o6 P) (.node (o10 P) (.node (o18 P) (.node (o34 P) (.node (o66 P) (.node (o130 P) .nil .nil) .nil) (.node (o98 P) (.node (o162 P) .nil .nil) .nil)) (.node (o50 P) (.node (o82 P) (.node (o146 P) .nil .nil) .nil) (.node (o114 P) (.node (o178 P) .nil .nil) .nil))) (.node (o26 P) (.node (o42 P) (.node (o74 P) (.node (o138 P) .nil .nil) .nil) (.node (o106 P) (.node (o170 P) .nil .nil) .nil)) (.node (o58 P) (.node (o90 P) (.node (o154 P) .nil .nil) .nil) (.node (o122 P) .nil .nil)))) (.node (o14 P) (.node (o22 P) (.node (o38 P) (.node (o70 P) (.node (o134 P) .nil .nil) .nil) (.node (o102 P) (.node (o166 P) .nil .nil) .nil)) (.node (o54 P) (.node (o86 P) (.node (o150 P) .nil .nil) .nil) (.node (o118 P) (.node (o182 P) .nil .nil) .nil))) (.node (o30 P) (.node (o46 P) (.node (o78 P) (.node (o142 P) .nil .nil) .nil) (.node (o110 P) (.node (o174 P) .nil .nil) .nil)) (.node (o62 P) (.node (o94 P) (.node (o158 P) .nil .nil) .nil) (.node (o126 P) .nil .nil)))))))
noncomputable def trF (P : Params) : BT := (.node (o0 P) (.node (o1 P) (.node (o3 P) (.node (o7 P) (.node (o15 P) (.node (o31 P) (.node (o63 P) (.node (o127 P) .nil .nil) .nil) (.node (o95 P) (.node (o159 P) .nil .nil) .nil)) (.node (o47 P) (.node (o79 P) (.node (o143 P) .nil .nil) .nil) (.node (o111 P) (.node (o175 P) .nil .nil) .nil))) (.node (o23 P) (.node (o39 P) (.node (o71 P) (.node (o135 P) .nil .nil) .nil) (.node (o103 P) (.node (o167 P) .nil .nil) .nil)) (.node (o55 P) (.node (o87 P) (.node (o151 P) .nil .nil) .nil) (.node (o119 P) (.node (o183 P) .nil .nil) .nil)))) (.node (o11 P) (.node (o19 P) (.node (o35 P) (.node (o67 P) (.node (o131 P) .nil .nil) .nil) (.node (o99 P) (.node (o163 P) .nil .nil) .nil)) (.node (o51 P) (.node (o83 P) (.node (o147 P) .nil .nil) .nil) (.node (o115 P) (.node (o179 P) .nil .nil) .nil))) (.node (o27 P) (.node (o43 P) (.node (o75 P) (.node (o139 P) .nil .nil) .nil) (.node (o107 P) (.node (o171 P) .nil .nil) .nil)) (.node (o59 P) (.node (o91 P) (.node (o155 P) .nil .nil) .nil) (.node (o123 P) .nil .nil))))) (.node (o5 P) (.node (o9 P) (.node (o17 P) (.node (o33 P) (.node (o65 P) (.node (o129 P) .nil .nil) .nil) (.node (o97 P) (.node (o161 P) .nil .nil) .nil)) (.node (o49 P) (.node (o81 P) (.node (o145 P) .nil .nil) .nil) (.node (o113 P) (.node (o177 P) .nil .nil) .nil))) (.node (o25 P) (.node (o41 P) (.node (o73 P) (.node (o137 P) .nil .nil) .nil) (.node (o105 P) (.node (o169 P) .nil .nil) .nil)) (.node (o57 P) (.node (o89 P) (.node (o153 P) .nil .nil) .nil) (.node (o121 P) (.node (o185 P) .nil .nil) .nil)))) (.node (o13 P) (.node (o21 P) (.node (o37 P) (.node (o69 P) (.node (o133 P) .nil .nil) .nil) (.node (o101 P) (.node (o165 P) .nil .nil) .nil)) (.node (o53 P) (.node (o85 P) (.node (o149 P) .nil .nil) .nil) (.node (o117 P) (.node (o181 P) .nil .nil) .nil))) (.node (o29 P) (.node (o45 P) (.node (o77 P) (.node (o141 P) .nil .nil) .nil) (.node (o109 P) (.node (o173 P) .nil .nil) .nil)) (.node (o61 P) (.node (o93 P) (.node (o157 P) .nil .nil) .nil) (.node (o125 P) .nil .nil)))))) (.node (o2 P) (.node (o4 P) (.node (o8 P) (.node (o16 P) (.node (o32 P) (.node (o64 P) (.node (o128 P) .nil .nil) .nil) (.node (o96 P) (.node (o160 P) .nil .nil) .nil)) (.node (o48 P) (.node (o80 P) (.node (o144 P) .nil .nil) .nil) (.node (o112 P) (.node (o176 P) .nil .nil) .nil))) (.node (o24 P) (.node (o40 P) (.node (o72 P) (.node (o136 P) .nil .nil) .nil) (.node (o104 P) (.node (o168 P) .nil .nil) .nil)) (.node (o56 P) (.node (o88 P) (.node (o152 P) .nil .nil) .nil) (.node (o120 P) (.node (o184 P) .nil .nil) .nil)))) (.node (o12 P) (.node (o20 P) (.node (o36 P) (.node (o68 P) (.node (o132 P) .nil .nil) .nil) (.node (o100 P) (.node (o164 P) .nil .nil) .nil)) (.node (o52 P) (.node (o84 P) (.node (o148 P) .nil .nil) .nil) (.node (o116 P) (.node (o180 P) .nil .nil) .nil))) (.node (o28 P) (.node (o44 P) (.node (o76 P) (.node (o140 P) .nil .nil) .nil) (.node (o108 P) (.node (o172 P) .nil .nil) .nil)) (.node (o60 P) (.node (o92 P) (.node (o156 P) .nil .nil) .nil) (.node (o124 P) .nil .nil))))) (.node (o6 P) (.node (o10 P) (.node (o18 P) (.node (o34 P) (.node (o66 P) (.node (o130 P) .nil .nil) .nil) (.node (o98 P) (.node (o162 P) .nil .nil) .nil)) (.node (o50 P) (.node (o82 P) (.node (o146 P) .nil .nil) .nil) (.node (o114 P) (.node (o178 P) .nil .nil) .nil))) (.node (o26 P) (.node (o42 P) (.node (o74 P) (.node (o138 P) .nil .nil) .nil) (.node (o106 P) (.node (o170 P) .nil .nil) .nil)) (.node (o58 P) (.node (o90 P) (.node (o154 P) .nil .nil) .nil) (.node (o122 P) .nil .nil)))) (.node (o14 P) (.node (o22 P) (.node (o38 P) (.node (o70 P) (.node (o134 P) .nil .nil) .nil) (.node (o102 P) (.node (o166 P) .nil .nil) .nil)) (.node (o54 P) (.node (o86 P) (.node (o150 P) .nil .nil) .nil) (.node (o118 P) (.node (o182 P) .nil .nil) .nil))) (.node (o30 P) (.node (o46 P) (.node (o78 P) (.node (o142 P) .nil .nil) .nil) (.node (o110 P) (.node (o174 P) .nil .nil) .nil)) (.node (o62 P) (.node (o94 P) (.node (o158 P) .nil .nil) .nil) (.node (o126 P) .nil .nil)))))))
noncomputable def hpF (P : Params) : Heap := ⟨#[o0 P, o1 P, o2 P, o3 P, o4 P, o5 P, o6 P, o7 P, o8 P, o9 P, o10 P, o11 P, o12 P, o13 P, o14 P, o15 P, o16 P, o17 P, o18 P, o19 P, o20 P, o21 P, o22 P, o23 P, o24 P, o25 P, o26 P, o27 P, o28 P, o29 P, o30 P, o31 P, o32 P, o33 P, o34 P, o35 P, o36 P, o37 P, o38 P, o39 P, o40 P, o41 P, o42 P, o43 P, o44 P, o45 P, o46 P, o47 P, o48 P, o49 P, o50 P, o51 P, o52 P, o53 P, o54 P, o55 P, o56 P, o57 P, o58 P, o59 P, o60 P, o61 P, o62 P, o63 P, o64 P, o65 P, o66 P, o67 P, o68 P, o69 P, o70 P, o71 P, o72 P, o73 P, o74 P, o75 P, o76 P, o77 P, o78 P, o79 P, o80 P, o81 P, o82 P, o83 P, o84 P, o85 P, o86 P, o87 P, o88 P, o89 P, o90 P, o91 P, o92 P, o93 P, o94 P, o95 P, o96 P, o97 P, o98 P, o99 P, o100 P, o101 P, o102 P, o103 P, o104 P, o105 P, o106 P, o107 P, o108 P, o109 P, o110 P, o111 P, o112 P, o113 P, o114 P, o115 P, o116 P, o117 P, o118 P, o119 P, o120 P, o121 P, o122 P, o123 P, o124 P, o125 P, o126 P, o127 P, o128 P, o129 P, o130 P, o131 P, o132 P, o133 P, o134 P, o135 P, o136 P, o137 P, o138 P, o139 P, o140 P, o141 P, o142 P, o143 P, o144 P, o145 P, o146 P, o147 P, o148 P, o149 P, o150 P, o151 P, o152 P, o153 P, o154 P, o155 P, o156 P, o157 P, o158 P, o159 P, o160 P, o161 P, o162 P, o163 P, o164 P, o165 P, o166 P, o167 P, o168 P, o169 P, o170 P, o171 P, o172 P, o173 P, o174 P, o175 P, o176 P, o177 P, o178 P, o179 P, o180 P, o181 P, o182 P, o183 P, o184 P, o185 P], {}⟩
end Mine
end
section
open PySem PySem.W PyProof.Rows PySem.Calls
set_option Elab.async false
set_option maxRecDepth 100000
set_option maxHeartbeats 0
namespace Mine
abbrev pw : Program := PySem.Challenge.pw_us0017_01
noncomputable abbrev segRunQ := @PySem.W.Fast.tw10110043849684766642
noncomputable abbrev tableQ := PySem.W.Fast.tw14364793385576792824
noncomputable abbrev execsQ := PySem.W.Fast.tw12563942051412417395
noncomputable abbrev topGoQ := @PySem.W.Fast.tw15667345088766844465
noncomputable abbrev topRunQ := @PySem.W.Fast.tw14082659384304107361
noncomputable abbrev segQ := @PySem.W.Fast.tw14374325043358763698
theorem segRun_Q : @segRunT = @segRunQ := PySem.W.Fast.te10110043849684766642
theorem table_Q : treeTable = tableQ := PySem.W.Fast.te14364793385576792824
theorem execs_Q : execs = execsQ := PySem.W.Fast.te12563942051412417395
theorem topGo_Q : @topGo = @topGoQ := PySem.W.Fast.te15667345088766844465
theorem topRun_Q : @topRun = @topRunQ := PySem.W.Fast.te14082659384304107361
theorem seg_Q : @segRun = @segQ := PySem.W.Fast.te14374325043358763698
noncomputable def bodyB : List PySem.Stmt := behindTheImports pw
noncomputable def envB : Env := { scope := pw.main.scope, locals := mainNs, globals := mainNs, cells := [], code := .ref 30, frame := some 31 }
noncomputable def codeB : Code := .body bodyB envB
abbrev qB : Pos := ⟨0, 0, 0, 0⟩
abbrev annB : Option Value := some (.ref 6)
abbrev frB : List Frame := [topFrame qB]
abbrev noDraw : Drawn := ⟨0, 0, 0, 0⟩
noncomputable def atT (t : Params → BT) (n k : Nat) (w : World) (os : OsState) : SharedT := ⟨t w.params, n, {}, #[], noDraw, k, os⟩
noncomputable def atH (h : Params → Heap) (k : Nat) (w : World) (os : OsState) : Shared := ⟨h w.params, #[], noDraw, k, os⟩
noncomputable def pieceQ (l : List PySem.Stmt) (p : Pos) : Thread := ⟨(execsQ l envB).wrap doneF deadEnd id id, codeB, p, frB⟩
theorem piece_Q (l : List PySem.Stmt) (p : Pos) : piecesOf l envB codeB p frB = pieceQ l p := by
  show Thread.mk _ _ _ _ = Thread.mk _ _ _ _
  rw [execs_Q]
theorem g9 (w : World) (os : OsState) : segRunQ tableQ pw w 28 annB 1 332 (atT trB 32 282 w os) (pieceQ (bodyB.take 10) ⟨0, 0, 0, 0⟩) = some (.next, atT trG9 76 396 w os, codeB, ⟨55, 0, 55, 8⟩) := by
  kernel_rfl
noncomputable def G13 (w : World) : Prop := ∀ os : OsState, segRunQ tableQ pw w 28 annB 1 213 (atT trG9 76 396 w os) (pieceQ ((bodyB.drop 10).take 4) ⟨55, 0, 55, 8⟩) = some (.next, atT trG13 91 448 w os, codeB, ⟨77, 0, 77, 8⟩)
theorem g13 (w : World) : G13 w := byRow2 "special-get-raises" (P := G13) (fun w => by unfold G13; intro os; kernel_rfl) (fun w => by unfold G13; intro os; kernel_rfl) w
noncomputable def G14 (w : World) : Prop := ∀ os : OsState, segRunQ tableQ pw w 28 annB 1 999 (atT trG13 91 448 w os) (pieceQ ((bodyB.drop 14).take 1) ⟨77, 0, 77, 8⟩) = some (.next, atT trG14 102 508 w os, codeB, ⟨78, 0, 78, 6⟩)
theorem g14 (w : World) : G14 w := byRow2 "set-order" (P := G14) (fun w => byRow2 "special-get-raises" (P := fun w => G14 (w.withFollow "set-order" false)) (fun w => by unfold G14; intro os; kernel_rfl) (fun w => by unfold G14; intro os; kernel_rfl) w) (fun w => byRow2 "special-get-raises" (P := fun w => G14 (w.withFollow "set-order" true)) (fun w => by unfold G14; intro os; kernel_rfl) (fun w => by unfold G14; intro os; kernel_rfl) w) w
theorem g15 (w : World) (os : OsState) : segRunQ tableQ pw w 28 annB 1 30 (atT trG14 102 508 w os) (pieceQ ((bodyB.drop 15).take 1) ⟨78, 0, 78, 6⟩) = some (.next, atT trG15 109 515 w os, codeB, ⟨79, 0, 80, 30⟩) := by
  kernel_rfl
theorem g23 (w : World) (os : OsState) : segRunQ tableQ pw w 28 annB 1 190 (atT trG16 148 2466 w os) (pieceQ ((bodyB.drop 17).take 7) ⟨81, 0, 81, 13⟩) = some (.next, atT trG23 186 2520 w os, codeB, ⟨128, 0, 173, 38⟩) := by
  kernel_rfl
end Mine
end
section
open PySem PySem.W PyProof.Rows PySem.Calls
set_option Elab.async false
set_option maxRecDepth 100000
set_option maxHeartbeats 0
namespace Mine
noncomputable abbrev denQ := @PySem.W.Fast.tw11892475500146522536
theorem den_Q : @denote = @denQ := PySem.W.Fast.te11892475500146522536
theorem gA (w : World) (os : OsState) : topGoQ tableQ pw w 28 annB 12 (atH hpZ 276 w os) (topStub pw) = some (atH hpA 282 w os, ⟨denQ tableQ codeB, codeB, ⟨0, 0, 0, 0⟩, frB⟩) := by
  kernel_rfl
theorem gB (w : World) (os : OsState) : segRun treeTable pw w 28 annB 1 1 (atH hpA 282 w os) (blockOf bodyB envB codeB ⟨0, 0, 0, 0⟩ frB) = some (.next, (atT trB 32 282 w os).abs, codeB, ⟨0, 0, 0, 0⟩) := by
  kernel_rfl
theorem gF (w : World) (os : OsState) : topRun treeTable pw w 28 annB 2 (atT trG23 186 2520 w os).abs ⟨doneF .next, codeB, ⟨128, 0, 173, 38⟩, frB⟩ = some (atH hpF 2520 w os) := by
  kernel_rfl
theorem gSize (w : World) : ((hpZ w.params).isNs mainGlobals && (#[] : Array GenState).size == 0, (hpZ w.params).objs.size, (hpZ w.params).nsMap mainGlobals "__annotations__") = (true, 28, annB) := by
  kernel_rfl
noncomputable abbrev impQ := @PySem.W.Fast.tw10274390034422433532
theorem imp_Q : @importEnds = @impQ := PySem.W.Fast.te10274390034422433532
theorem gY (w : World) : impQ tableQ (opening pw) w 6000 (start (opening pw)).1 (start (opening pw)).2 = some ⟨hpY w.params, #[], noDraw, 276, (start (opening pw)).1.os⟩ := by
  kernel_rfl
theorem gZ (w : World) : (fun os => (fenceModules? pw ⟨hpY w.params, #[], noDraw, 276, os⟩).map (fun s => (s.heap, s.gens, s.drawn, s.toks))) = fun _ => some (hpZ w.params, #[], noDraw, 276) := by
  kernel_rfl
end Mine
end
section
open PySem PySem.W PyProof.Rows PySem.Calls
set_option Elab.async false
set_option maxRecDepth 100000
set_option maxHeartbeats 0
namespace Mine
noncomputable def qV : Program := view pw [0, 1, 4, 5, 6, 10, 12, 13, 14, 16, 18, 19, 20, 21, 22, 23, 24]
noncomputable def looseL : List PySem.Str := ["_twin_re_1", "_twin_re_2", "insort_right", "bisect_right", "bisect_left", "COMPILER_FLAG_NAMES", "b1_set", "b3_exceptions"]
noncomputable def rowL : RowW := OpenRow.toRowW (OpenLaw.row PySem.Challenge.rw_us0017_01)
noncomputable def XtL (s : Shared) : Bool := xlAt qV [] s && recOk (RowW.records rowL) s
noncomputable abbrev seenQ := @PySem.W.Fast.tw4187177175401517315
theorem seen_Q : @openSeen = @seenQ := PySem.W.Fast.te4187177175401517315
noncomputable abbrev modsQ := PySem.W.Fast.tw5923862056798008813
theorem mods_Q : importedModules = modsQ := PySem.W.Fast.te5923862056798008813
theorem gL1 (w : World) (os : OsState) : (staticsOk (importedModules pw.main.body) (hpZ w.params) (hpF w.params) && namesBound pw (hpF w.params) && gensDone (atH hpF 2520 w os) && laidKept (hpZ w.params) (hpF w.params)) = true := by
  kernel_rfl
theorem gL2 (w : World) (os : OsState) : seenQ qV looseL (modsQ pw.main.body) XtL true (atH hpF 2520 w os) = openGood qV looseL := by
  kernel_rfl
end Mine
end
section
open PySem PySem.W PyProof.Rows PySem.Calls
set_option Elab.async false
set_option maxRecDepth 100000
set_option maxHeartbeats 0
namespace Mine
section
variable {w : World} {α β : Type}
theorem segGo_add : ∀ {n m : Nat} {s s' : Shared} {t t' : Thread} {r}, segGo treeTable pw w 28 annB 1 n s t = some (s', t') → segGo treeTable pw w 28 annB 1 m s' t' = r → segGo treeTable pw w 28 annB 1 (n + m) s t = r
  | 0, m, s, s', t, t', r, h, k => by
    obtain ⟨rfl, rfl⟩ : s = s' ∧ t = t' := by simpa [segGo] using h
    rw [Nat.zero_add]; exact k
  | n + 1, m, s, s', t, t', r, h, k => by
    rw [show n + 1 + m = n + m + 1 by omega]
    unfold segGo at h ⊢
    cases he : endAt 1 t with
    | some f => rw [he] at h; cases h
    | none =>
      rw [he] at h
      cases hk : stepOk 28 annB t with
      | false => rw [hk] at h; cases h
      | true =>
        rw [hk] at h
        cases hs : step (denote treeTable) pw w s t with
        | halt o s₂ => rw [hs] at h; cases h
        | go s₂ t₂ => rw [hs] at h; exact segGo_add h k
noncomputable def RunW (w : World) {α : Type} (n : Nat) (x : Sem α) (s : Shared) (p : Pos) (a : α) (s' : Shared) (p' : Pos) : Prop :=
  ∀ (K : α → Sem Fin) (H : Value → Sem Fin) (gd : Bool → Bool) (lv : List Value → List Value),
    segGo treeTable pw w 28 annB 1 n s ⟨x.wrap K H gd lv, codeB, p, frB⟩ = some (s', ⟨K a, codeB, p', frB⟩)
theorem RunW.pure {a : α} {s : Shared} {p : Pos} : RunW w 0 (Pure.pure a : Sem α) s p a s p := fun _ _ _ _ => rfl
theorem RunW.wrap {n m : Nat} {x : Sem α} {K' : α → Sem β} {H' : Value → Sem β} {gd' lv'} {s s' s'' : Shared} {p p' p'' : Pos} {a : α} {b : β} (h : RunW w n x s p a s' p') (k : RunW w m (K' a) s' p' b s'' p'') : RunW w (n + m) (x.wrap K' H' gd' lv') s p b s'' p'' := by
  intro K H gd lv
  rw [Sem.wrap_wrap]
  exact segGo_add (h _ _ _ _) (k K H gd lv)
theorem RunW.bind {n m : Nat} {x : Sem α} {f : α → Sem β} {s s' s'' : Shared} {p p' p'' : Pos} {a : α} {b : β} (h : RunW w n x s p a s' p') (k : RunW w m (f a) s' p' b s'' p'') : RunW w (n + m) (x >>= f) s p b s'' p'' := by
  rw [Sem.bind_eq_wrap']; exact h.wrap k
theorem RunW.holding {n : Nat} {x : Sem α} {vs : List Value} {s s' : Shared} {p p' : Pos} {a : α} (h : RunW w n x s p a s' p') : RunW w n (holding vs x) s p a s' p' := by
  unfold PySem.holding
  split
  · exact h
  · rw [Sem.keep_eq_wrap]
    exact Nat.add_zero n ▸ h.wrap RunW.pure
theorem RunW.onRaise {n : Nat} {x : Sem α} {f : Value → Sem Unit} {s s' : Shared} {p p' : Pos} {a : α} (h : RunW w n x s p a s' p') : RunW w n (x.onRaise f) s p a s' p' := by
  rw [Sem.onRaise_eq_wrap]
  exact Nat.add_zero n ▸ h.wrap RunW.pure
theorem RunW.at {s : Shared} {p q : Pos} : RunW w 1 (standAt q) s p () s q := by
  intro K H gd lv
  rfl
theorem RunW.rule {s : Shared} {p : Pos} {t : String} : RunW w 1 (rule t) s p () s p := by
  intro K H gd lv
  rfl
theorem RunW.fresh {s : Shared} {p : Pos} : RunW w 1 fresh s p s.toks { s with toks := s.toks + 1 } p := by
  intro K H gd lv
  obtain ⟨h, g, d, t, o⟩ := s
  rfl
theorem RunW.ask {f : Setting → Sem β} {n : Nat} {s s' : Shared} {p p' : Pos} {b : β} (h : ∀ st : Setting, RunW w n (f st) s p b s' p') : RunW w (1 + n) (ask >>= f) s p b s' p' := by
  intro K H gd lv
  rw [Sem.bind_eq_wrap', Sem.wrap_wrap, Nat.add_comm]
  unfold segGo
  show segGo treeTable pw w 28 annB 1 n s ⟨(f _).wrap K H gd lv, codeB, p, frB⟩ = _
  exact h _ K H gd lv
theorem RunW.load {s : Shared} {p : Pos} {a : Addr} {part : Option Value} {o : Obj} (h : s.heap.get? a = some o) : RunW w 1 (loadPart a part) s p o s p := by
  intro K H gd lv
  unfold segGo
  show (match step (denote treeTable) pw w s ⟨Sem.load a part fun x => K x, codeB, p, frB⟩ with | .go s' t' => _ | .halt _ _ => _) = _
  obtain ⟨hp, g, d, t, os⟩ := s
  have e : step (denote treeTable) pw w ⟨hp, g, d, t, os⟩ ⟨Sem.load a part fun x => K x, codeB, p, frB⟩ = .go ⟨hp, g, d, t, os⟩ ⟨K o, codeB, p, frB⟩ := by
    simp only [step]
    rw [show hp.get? a = some o from h]
  rw [e]; rfl
theorem RunW.update {s : Shared} {p : Pos} {a : Addr} {part : Option Value} {f : Obj → Obj} (ha : Nat.ble 28 a = true) (h : (s.heap.get? a).isSome = true) : RunW w 1 (updatePart a part f) s p () { s with heap := s.heap.update a f } p := by
  intro K H gd lv
  unfold segGo
  have ok : stepOk 28 annB ⟨Sem.update a part f fun x => K x, codeB, p, frB⟩ = true := by
    show (true && (Nat.ble 28 a || a == mainNs || a == cStatics || annB == some (.ref a))) = true
    rw [ha]; rfl
  show (match stepOk 28 annB ⟨Sem.update a part f fun x => K x, codeB, p, frB⟩ with | false => none | true => match step (denote treeTable) pw w s ⟨Sem.update a part f fun x => K x, codeB, p, frB⟩ with | .go s' t' => _ | .halt _ _ => _) = _
  rw [ok]
  obtain ⟨hp, g, d, t, os⟩ := s
  have e : step (denote treeTable) pw w ⟨hp, g, d, t, os⟩ ⟨Sem.update a part f fun x => K x, codeB, p, frB⟩ = .go ⟨hp.update a f, g, d, t, os⟩ ⟨K (), codeB, p, frB⟩ := by
    simp only [step]
    rw [show (hp.get? a).isSome = true from h]; rfl
  rw [e]; rfl
theorem RunW.alloc {s : Shared} {p : Pos} {o : Obj} : RunW w 1 (alloc o) s p s.heap.objs.size { s with heap := s.heap.push o } p := by
  intro K H gd lv
  obtain ⟨h, g, d, t, os⟩ := s
  rfl
theorem call_hash (k : Int) (t : Tok) (s : Shared) (p : Pos) : RunW w 4 (call (.builtin "int.__hash__") [.int k t]) s p (.int (rawHash k) s.toks) { s with toks := s.toks + 1 } p := by
  intro K H gd lv
  obtain ⟨h, g, d, tk, os⟩ := s
  kernel_rfl
theorem special_hash (k : Int) (t : Tok) : specialOf (.int k t) "__hash__" = pure (some (.builtin "int.__hash__")) := by
  show (pure (Value.type "int") >>= fun t => typeLookup t "__hash__") = _
  rw [pure_bind, PySem.F.slot_int_hash.lookup]
theorem RunW.ite {c : Prop} [Decidable c] {n : Nat} {x y : Sem α} {s s' : Shared} {p p' : Pos} {a : α} (h1 : RunW w n x s p a s' p') (h2 : RunW w n y s p a s' p') : RunW w n (if c then x else y) s p a s' p' := by
  split
  · exact h1
  · exact h2
theorem RunW.tryCatch {n : Nat} {x : Sem α} {f : Value → Sem α} {s s' : Shared} {p p' : Pos} {a : α} (h : RunW w n x s p a s' p') : RunW w n (x.tryCatch f) s p a s' p' := by
  rw [Sem.tryCatch_eq_wrap]
  exact Nat.add_zero n ▸ h.wrap RunW.pure
theorem RunW.pre {n : Nat} {x : Sem α} {f : α → Sem β} {s s' : Shared} {p p' : Pos} {a : α} {b : β} (e : x = Pure.pure a) (h : RunW w n (f a) s p b s' p') : RunW w n (x >>= f) s p b s' p' := by
  rw [e, pure_bind]; exact h
theorem hash_run (k : Int) (t : Tok) (s : Shared) (p : Pos) : RunW w 5 (pyHash (.int k t)) s p (hashInt k) { s with toks := s.toks + 1 } p := by
  have hr := rawHash_range k
  unfold pyHash
  refine RunW.pre (a := ()) ?_ ?_
  · rw [cRoomFor, if_neg (by show ¬ ([Value.int k t].any Value.onHeap = true); exact Bool.false_ne_true)]
  refine RunW.pre (special_hash k t) ?_
  show RunW w 5 (if (some (Value.builtin "int.__hash__") == some Value.none) = true then _ else _) _ _ _ _ _
  rw [if_neg (by rw [beq_builtin_none]; exact Bool.false_ne_true)]
  refine RunW.pre (special_hash k t) ?_
  show RunW w 5 (callSpecialIfBoundUnlessNone? (.int k t) "__hash__" _ >>= _) _ _ _ _ _
  refine RunW.bind (n := 5) (m := 0) (a := some (.int (rawHash k) s.toks)) (s' := { s with toks := s.toks + 1 }) (p' := p) ?_ ?_
  · simp only [callSpecialIfBoundUnlessNone?, bindSpecialIfBound?]
    refine RunW.holding ?_
    refine RunW.bind (n := 1) (m := 4) (a := some (.builtin "int.__hash__", [.int k t])) (s' := s) (p' := p) ?_ ?_
    · refine RunW.pre (special_hash k t) ?_
      simp only [PySem.F.slot_int_hash.bind]
      refine RunW.ask (n := 0) fun st => ?_
      refine RunW.ite RunW.pure (RunW.tryCatch RunW.pure)
    · show RunW w 4 (if (Value.builtin "int.__hash__" == Value.none) = true then _ else _) _ _ _ _ _
      rw [if_neg (by exact Bool.false_ne_true)]
      exact RunW.bind (n := 4) (m := 0) (call_hash k t s p) RunW.pure
  · show RunW w 0 (if (decide (-(2 : Int) ^ 63 ≤ rawHash k) && decide (rawHash k < 2 ^ 63)) = true then _ else _) _ _ _ _ _
    rw [if_pos (by rw [decide_eq_true hr.1, decide_eq_true hr.2]; rfl)]
    exact RunW.pure
end
end Mine
end
section
open PySem PySem.W PyProof.Rows PySem.Calls
set_option Elab.async false
set_option maxRecDepth 100000
set_option maxHeartbeats 0
namespace Mine
section
variable {w : World} {α β : Type}
noncomputable def dO (E : List DictEntry) (ep : Nat) : Obj := ⟨.type "dict", none, .dict E.toArray ep, #[]⟩
theorem setTo_get {h : Heap} {d : Addr} {o : Obj} {E : List DictEntry} {ep : Nat} (e : h.get? d = some o) : (h.update d (fun _ => dO E ep)).get? d = some (dO E ep) :=
  Heap.get?_update_self _ e rfl
theorem upd_upd {h : Heap} {d : Addr} {f g : Obj → Obj} : (h.update d f).update d g = h.update d (fun o => g (f o)) := by
  obtain ⟨os, l⟩ := h
  show Heap.mk _ _ = Heap.mk _ _
  congr 1
  apply Array.ext_getElem?
  intro i
  simp only [Array.getElem?_modify]
  split
  · rw [Option.map_map]; rfl
  · rfl
theorem upd_same {h : Heap} {d : Addr} {o : Obj} (e : h.get? d = some o) : h.update d (fun _ => o) = h := by
  obtain ⟨os, l⟩ := h
  show Heap.mk _ _ = Heap.mk _ _
  congr 1
  apply Array.ext_getElem?
  intro i
  rw [Array.getElem?_modify]
  split
  · rename_i hi
    subst hi
    have := (Heap.get?_some_iff.mp e).1
    rw [show os[d]? = some o from this]; rfl
  · rfl
theorem upd_congr {h : Heap} {d : Addr} {o : Obj} {f g : Obj → Obj} (e : h.get? d = some o) (fg : f o = g o) : h.update d f = h.update d g := by
  obtain ⟨os, l⟩ := h
  show Heap.mk _ _ = Heap.mk _ _
  congr 1
  apply Array.ext_getElem?
  intro i
  simp only [Array.getElem?_modify]
  split
  · rename_i hi
    subst hi
    have := (Heap.get?_some_iff.mp e).1
    rw [show os[d]? = some o from this]; simp [fg]
  · rfl
theorem push_upd {h : Heap} {o o' : Obj} : (h.push o).update h.objs.size (fun _ => o') = h.push o' := by
  obtain ⟨os, l⟩ := h
  show Heap.mk _ _ = Heap.mk _ _
  congr 1
  apply Array.ext_getElem?
  intro i
  rw [Array.getElem?_modify, Array.getElem?_push, Array.getElem?_push]
  by_cases hi : i = os.size
  · subst hi; simp
  · rw [if_neg (Ne.symm hi), if_neg hi, if_neg hi]
theorem find_run {s : Shared} {p : Pos} {d : Addr} {E : List DictEntry} {ep : Nat} {k : Int} {t : Tok} {h : Int} (hd : s.heap.get? d = some (dO E ep)) (hn : ∀ e ∈ E, e.hash ≠ h) : RunW w 1 (dictFind d (.int k t) h) s p none s p := by
  unfold dictFind
  refine RunW.holding ?_
  refine RunW.bind (n := 1) (m := 0) (a := E.toArray) (s' := s) (p' := p) ?_ ?_
  · unfold dictEntries
    exact RunW.bind (n := 1) (m := 0) (RunW.load hd) RunW.pure
  have e : placesWithHash E.toArray.size (fun i => E.toArray[i]?.map (·.hash)) h = [] := by
    unfold placesWithHash
    rw [List.filter_eq_nil_iff]
    intro i hi
    have hi' : i < E.length := by simpa using hi
    have := hn E[i] (List.getElem_mem hi')
    simp [hi', this]
  dsimp only
  rw [e]
  exact RunW.pure
theorem set_run {s : Shared} {p : Pos} {d : Addr} {E : List DictEntry} {ep : Nat} {k : Int} {t : Tok} {v : Value} (h28 : Nat.ble 28 d = true) (hd : s.heap.get? d = some (dO E ep)) (hn : ∀ e ∈ E, e.hash ≠ hashInt k) (hl : E.length ≤ 2000) :
    RunW w 5 (dictSetHashed d (.int k t) (hashInt k) v) s p () { s with heap := s.heap.update d (fun _ => dO (E ++ [⟨hashInt k, .int k t, v⟩]) (ep + 1)) } p := by
  unfold dictSetHashed
  refine RunW.holding ?_
  refine RunW.bind (n := 1) (m := 4) (find_run hd hn) ?_
  refine RunW.bind (n := 1) (m := 3) RunW.rule ?_
  unfold updateDictKeys
  refine RunW.bind (n := 1) (m := 2) (RunW.load hd) ?_
  have e1 : s.heap.update d (Obj.mapDictKeys (·.push ⟨hashInt k, .int k t, v⟩)) = s.heap.update d (fun _ => dO (E ++ [⟨hashInt k, .int k t, v⟩]) (ep + 1)) :=
    upd_congr hd (by unfold dO Obj.mapDictKeys; simp)
  refine RunW.bind (n := 1) (m := 1) (RunW.update h28 (by rw [hd]; rfl)) ?_
  unfold lookBehind
  rw [e1]
  refine RunW.bind (n := 1) (m := 0) (RunW.load (setTo_get hd)) ?_
  have e2 : (dO (E ++ [⟨hashInt k, .int k t, v⟩]) (ep + 1)).data.pastItsLine = none := by
    unfold dO Data.pastItsLine
    dsimp only
    rw [if_neg (by rw [sizeLine_eq]; simp; omega)]
  rw [e2]
  exact RunW.pure
theorem dset_run {s : Shared} {p : Pos} {d : Addr} {E : List DictEntry} {ep : Nat} {k : Int} {t : Tok} {v : Value} (h28 : Nat.ble 28 d = true) (hd : s.heap.get? d = some (dO E ep)) (hn : ∀ e ∈ E, e.hash ≠ hashInt k) (hl : E.length ≤ 2000) :
    RunW w 10 (dictSet d (.int k t) v) s p () { s with heap := s.heap.update d (fun _ => dO (E ++ [⟨hashInt k, .int k t, v⟩]) (ep + 1)), toks := s.toks + 1 } p := by
  unfold dictSet
  refine RunW.holding ?_
  exact RunW.bind (n := 5) (m := 5) (hash_run k t s p) (set_run (s := { s with toks := s.toks + 1 }) h28 hd hn hl)
theorem key_run {s : Shared} {p : Pos} {i : Int} : RunW w 1 (mkInt i) s p (.int i s.toks) { s with toks := s.toks + 1 } p :=
  RunW.bind (n := 1) (m := 0) RunW.fresh RunW.pure
theorem val_run {s : Shared} {p q : Pos} {x : PySem.Str} : RunW w 2 (mkText x >>= fun y => standAt q >>= fun _ => pure y) s p (.str x s.toks) { s with toks := s.toks + 1 } q :=
  RunW.bind (n := 1) (m := 1) (RunW.bind (n := 1) (m := 0) RunW.fresh RunW.pure) (RunW.bind (n := 1) (m := 0) RunW.at RunW.pure)
noncomputable def pairsS (q : Pos) (l : List (Int × PySem.Str)) : List (Sem Value × Sem Value) := l.map fun p => (mkInt p.1, mkText p.2 >>= fun y => standAt q >>= fun _ => pure y)
noncomputable def Up : Int → List (Int × PySem.Str) → Bool
  | _, [] => true
  | b, (i, _) :: r => decide (b < i) && decide (i < 2 ^ 60) && Up i r
noncomputable def lastK : Int → List (Int × PySem.Str) → Int
  | b, [] => b
  | _, (i, _) :: r => lastK i r
noncomputable def LowE (E : List DictEntry) (b : Int) : Prop := ∀ e ∈ E, e.hash ≤ b
theorem rawHash_small {i : Int} (h0 : 0 ≤ i) (h1 : i < 2 ^ 60) : hashInt i = i := by
  obtain ⟨n, rfl⟩ := Int.eq_ofNat_of_zero_le h0
  have hn : n % (2 ^ 61 - 1) = n := Nat.mod_eq_of_lt (by omega)
  have hz : ((n : Int) % ((2 ^ 61 - 1 : Nat) : Int)) = (n : Int) := by
    rw [← Int.natCast_emod, hn]
  have e : rawHash (n : Int) = n := by
    unfold rawHash
    dsimp only
    rw [Int.natAbs_natCast, hz]
    have h2 : ¬ ((n : Int) < 0) := by omega
    rw [if_neg h2]
    have h3 : ((n : Int) == -1) = false := by
      rw [beq_eq_false_iff_ne]; omega
    rw [h3]; rfl
  unfold hashInt
  have h3 : ((n : Int) == -1) = false := by
    rw [beq_eq_false_iff_ne]; omega
  rw [e, h3]; rfl
theorem LowE.snoc {E : List DictEntry} {b i : Int} {e : DictEntry} (h : LowE E b) (hi : b < i) (he : e.hash = i) : LowE (E ++ [e]) i := by
  intro x hx
  rcases List.mem_append.mp hx with hx | hx
  · exact Int.le_of_lt (Int.lt_of_le_of_lt (h x hx) hi)
  · rw [List.mem_singleton.mp hx, he]; exact Int.le_refl _
theorem fill_run {d : Addr} {q : Pos} (h28 : Nat.ble 28 d = true) : ∀ (l : List (Int × PySem.Str)) (E : List DictEntry) (ep : Nat) (b : Int) (s : Shared), s.heap.get? d = some (dO E ep) → LowE E b → 0 ≤ b → Up b l = true → E.length + l.length ≤ 2000 →
    RunW w (13 * l.length) (forIn (pairsS q l) PUnit.unit fun (x : Sem Value × Sem Value) (_ : PUnit) => (do let kv ← x.1; let vv ← holding [kv] x.2; holding [kv, vv] (dictSet d kv vv); pure (ForInStep.yield PUnit.unit) : Sem (ForInStep PUnit))) s q PUnit.unit
      { s with heap := s.heap.update d (fun _ => dO (E ++ ents 3 s.toks l) (ep + l.length)), toks := s.toks + 3 * l.length } q
  | [], E, ep, b, s, hd, _, _, _, _ => by
    have e : s.heap.update d (fun _ => dO (E ++ ents 3 s.toks []) (ep + 0)) = s.heap := by
      rw [show E ++ ents 3 s.toks [] = E from List.append_nil E]; exact upd_same hd
    rw [show ({ s with heap := s.heap.update d (fun _ => dO (E ++ ents 3 s.toks []) (ep + ([] : List (Int × PySem.Str)).length)), toks := s.toks + 3 * ([] : List (Int × PySem.Str)).length } : Shared) = s from by
      show ({ s with heap := s.heap.update d (fun _ => dO (E ++ ents 3 s.toks []) (ep + 0)), toks := s.toks } : Shared) = s
      rw [e]]
    exact RunW.pure
  | (i, x) :: r, E, ep, b, s, hd, hE, hb, hu, hl => by
    unfold Up at hu
    simp only [Bool.and_eq_true, decide_eq_true_eq] at hu
    obtain ⟨⟨u1, u2⟩, u3⟩ := hu
    have hh : hashInt i = i := rawHash_small (by omega) u2
    show RunW w _ (forIn ((mkInt i, mkText x >>= fun y => standAt q >>= fun _ => pure y) :: pairsS q r) PUnit.unit _) _ _ _ _ _
    rw [List.forIn_cons]
    have e13 : 13 * ((i, x) :: r).length = 13 + 13 * r.length := by rw [List.length_cons]; omega
    rw [e13]
    let s3 : Shared := { s with heap := s.heap.update d (fun _ => dO (E ++ [⟨i, .int i s.toks, .str x (s.toks + 1)⟩]) (ep + 1)), toks := s.toks + 3 }
    refine RunW.bind (n := 13) (m := 13 * r.length) (a := ForInStep.yield PUnit.unit) (s' := s3) (p' := q) ?_ ?_
    · refine RunW.bind (n := 1) (m := 12) key_run ?_
      refine RunW.bind (n := 2) (m := 10) (RunW.holding val_run) ?_
      refine RunW.bind (n := 10) (m := 0) (a := ()) (RunW.holding ?_) RunW.pure
      have := dset_run (w := w) (s := { s with toks := s.toks + 1 + 1 }) (p := q) (d := d) (k := i) (t := s.toks) (v := .str x (s.toks + 1)) h28 hd (fun e he => by rw [hh]; have := hE e he; omega) (by simp only [List.length_cons] at hl; omega)
      rw [hh] at this
      exact this
    · dsimp only
      have ih := fill_run (q := q) h28 r (E ++ [⟨i, .int i s.toks, .str x (s.toks + 1)⟩]) (ep + 1) i s3 (setTo_get hd) (hE.snoc u1 rfl) (by omega) u3 (by simp only [List.length_cons, List.length_append, List.length_nil] at hl ⊢; omega)
      have e : ({ s3 with heap := s3.heap.update d (fun _ => dO (E ++ [⟨i, .int i s.toks, .str x (s.toks + 1)⟩] ++ ents 3 s3.toks r) (ep + 1 + r.length)), toks := s3.toks + 3 * r.length } : Shared) =
          { s with heap := s.heap.update d (fun _ => dO (E ++ ents 3 s.toks ((i, x) :: r)) (ep + ((i, x) :: r).length)), toks := s.toks + 3 * ((i, x) :: r).length } := by
        show Shared.mk ((s.heap.update d _).update d _) _ _ _ _ = Shared.mk _ _ _ _ _
        rw [upd_upd]
        congr 1
        · congr 1
          funext _
          rw [List.append_assoc, List.length_cons, Nat.add_assoc, Nat.add_comm 1]
          rfl
        · show s.toks + 3 + 3 * r.length = _
          rw [List.length_cons]; omega
      rw [← e]; exact ih
end
end Mine
end
section
open PySem PySem.W PyProof.Rows PySem.Calls
set_option Elab.async false
set_option maxRecDepth 100000
set_option maxHeartbeats 0
namespace Mine
section
variable {w : World} {α β : Type}
theorem obj_nil : ({ cls := .type "dict", data := .dict #[] } : Obj) = dO [] 0 := rfl
theorem push_get (h : Heap) (E : List DictEntry) (ep : Nat) : (h.push (dO E ep)).get? h.objs.size = some (dO E ep) := Heap.get?_push_size _ rfl
theorem LowE.nil (b : Int) : LowE [] b := fun _ h => nomatch h
theorem sub_long {s : Shared} {q : Pos} {l : List (Int × PySem.Str)} (h28 : Nat.ble 28 s.heap.objs.size = true) (hl : 15 < l.length) (hl2 : l.length ≤ 2000) (hu : Up 0 l = true) :
    RunW w (2 + 13 * l.length) (subDict (pairsS q l)) s q s.heap.objs.size { s with heap := s.heap.push (dO (ents 3 s.toks l) l.length), toks := s.toks + 3 * l.length } q := by
  unfold subDict
  rw [show 2 + 13 * l.length = 1 + (1 + 13 * l.length) by omega]
  refine RunW.bind (n := 1) (m := 1 + 13 * l.length) RunW.alloc ?_
  rw [obj_nil]
  refine RunW.bind (n := 1 + 13 * l.length) (m := 0) (a := ()) (s' := { s with heap := s.heap.push (dO (ents 3 s.toks l) l.length), toks := s.toks + 3 * l.length }) (p' := q) (RunW.holding ?_) RunW.pure
  rw [if_neg (by unfold pairsS; rw [List.length_map]; omega)]
  refine RunW.bind (n := 1) (m := 13 * l.length) RunW.rule ?_
  have := fill_run (w := w) (q := q) h28 l [] 0 0 { s with heap := s.heap.push (dO [] 0) } (push_get _ _ _) (LowE.nil 0) (Int.le_refl _) hu (by simpa using hl2)
  rw [show (({ s with heap := s.heap.push (dO [] 0) } : Shared).heap.update s.heap.objs.size (fun _ => dO ([] ++ ents 3 s.toks l) (0 + l.length))) = s.heap.push (dO (ents 3 s.toks l) l.length) from by
    rw [List.nil_append, Nat.zero_add]; exact push_upd] at this
  exact RunW.bind (n := 13 * l.length) (m := 0) this RunW.pure
noncomputable def vals2 : Nat → List (Int × PySem.Str) → List (Value × Value)
  | _, [] => []
  | t, (i, x) :: r => (.int i t, .str x (t + 1)) :: vals2 (t + 2) r
theorem vals2_len : ∀ (t : Nat) (l : List (Int × PySem.Str)), (vals2 t l).length = l.length
  | _, [] => rfl
  | t, _ :: r => by unfold vals2; rw [List.length_cons, List.length_cons, vals2_len]
theorem evals_run {q : Pos} : ∀ (l : List (Int × PySem.Str)) (s : Shared), RunW w (3 * l.length) (evalPairs (pairsS q l)) s q (vals2 s.toks l) { s with toks := s.toks + 2 * l.length } q
  | [], s => RunW.pure
  | (i, x) :: r, s => by
    show RunW w _ (evalPairs ((mkInt i, mkText x >>= fun y => standAt q >>= fun _ => pure y) :: pairsS q r)) _ _ _ _ _
    rw [evalPairs]
    rw [show 3 * ((i, x) :: r).length = 1 + (2 + (3 * r.length + 0)) by rw [List.length_cons]; omega]
    refine RunW.bind key_run ?_
    refine RunW.bind (RunW.holding val_run) ?_
    have ih := evals_run (q := q) r { s with toks := s.toks + 1 + 1 }
    refine RunW.bind (RunW.holding ih) ?_
    have e : ({ s with toks := s.toks + 1 + 1 + 2 * r.length } : Shared) = { s with toks := s.toks + 2 * ((i, x) :: r).length } := by
      rw [List.length_cons, show s.toks + 1 + 1 + 2 * r.length = s.toks + 2 * (r.length + 1) by omega]
    show RunW w 0 _ { s with toks := s.toks + 1 + 1 + 2 * r.length } _ _ _ _
    rw [e]
    exact RunW.pure
theorem store_run {d : Addr} {q : Pos} (h28 : Nat.ble 28 d = true) : ∀ (l : List (Int × PySem.Str)) (t : Nat) (E : List DictEntry) (ep : Nat) (b : Int) (s : Shared), s.heap.get? d = some (dO E ep) → LowE E b → 0 ≤ b → Up b l = true → E.length + l.length ≤ 2000 →
    RunW w (10 * l.length) (forIn (vals2 t l) PUnit.unit fun (x : Value × Value) (_ : PUnit) => (do dictSet d x.1 x.2; pure (ForInStep.yield PUnit.unit) : Sem (ForInStep PUnit))) s q PUnit.unit
      { s with heap := s.heap.update d (fun _ => dO (E ++ ents 2 t l) (ep + l.length)), toks := s.toks + l.length } q
  | [], t, E, ep, b, s, hd, _, _, _, _ => by
    have e : s.heap.update d (fun _ => dO (E ++ ents 2 t []) (ep + 0)) = s.heap := by
      rw [show E ++ ents 2 t [] = E from List.append_nil E]; exact upd_same hd
    rw [show ({ s with heap := s.heap.update d (fun _ => dO (E ++ ents 2 t []) (ep + ([] : List (Int × PySem.Str)).length)), toks := s.toks + ([] : List (Int × PySem.Str)).length } : Shared) = s from by
      show ({ s with heap := s.heap.update d (fun _ => dO (E ++ ents 2 t []) (ep + 0)), toks := s.toks } : Shared) = s
      rw [e]]
    exact RunW.pure
  | (i, x) :: r, t, E, ep, b, s, hd, hE, hb, hu, hl => by
    unfold Up at hu
    simp only [Bool.and_eq_true, decide_eq_true_eq] at hu
    obtain ⟨⟨u1, u2⟩, u3⟩ := hu
    have hh : hashInt i = i := rawHash_small (by omega) u2
    unfold vals2
    rw [List.forIn_cons]
    rw [show 10 * ((i, x) :: r).length = 10 + 10 * r.length by rw [List.length_cons]; omega]
    let s3 : Shared := { s with heap := s.heap.update d (fun _ => dO (E ++ [⟨i, .int i t, .str x (t + 1)⟩]) (ep + 1)), toks := s.toks + 1 }
    refine RunW.bind (n := 10) (m := 10 * r.length) (a := ForInStep.yield PUnit.unit) (s' := s3) (p' := q) ?_ ?_
    · refine RunW.bind (n := 10) (m := 0) (a := ()) ?_ RunW.pure
      have := dset_run (w := w) (s := s) (p := q) (d := d) (k := i) (t := t) (v := .str x (t + 1)) h28 hd (fun e he => by rw [hh]; have := hE e he; omega) (by simp only [List.length_cons] at hl; omega)
      rw [hh] at this
      exact this
    · dsimp only
      have ih := store_run (q := q) h28 r (t + 2) (E ++ [⟨i, .int i t, .str x (t + 1)⟩]) (ep + 1) i s3 (setTo_get hd) (hE.snoc u1 rfl) (by omega) u3 (by simp only [List.length_cons, List.length_append, List.length_nil] at hl ⊢; omega)
      have e : ({ s3 with heap := s3.heap.update d (fun _ => dO (E ++ [⟨i, .int i t, .str x (t + 1)⟩] ++ ents 2 (t + 2) r) (ep + 1 + r.length)), toks := s3.toks + r.length } : Shared) =
          { s with heap := s.heap.update d (fun _ => dO (E ++ ents 2 t ((i, x) :: r)) (ep + ((i, x) :: r).length)), toks := s.toks + ((i, x) :: r).length } := by
        show Shared.mk ((s.heap.update d _).update d _) _ _ _ _ = Shared.mk _ _ _ _ _
        rw [upd_upd]
        congr 1
        · congr 1
          funext _
          rw [List.append_assoc, List.length_cons, Nat.add_assoc, Nat.add_comm 1]
          rfl
        · show s.toks + 1 + r.length = _
          rw [List.length_cons]; omega
      rw [← e]; exact ih
theorem sub_short {s : Shared} {q : Pos} {l : List (Int × PySem.Str)} (h28 : Nat.ble 28 s.heap.objs.size = true) (hl : l.length ≤ 15) (hu : Up 0 l = true) :
    RunW w (1 + 13 * l.length) (subDict (pairsS q l)) s q s.heap.objs.size { s with heap := s.heap.push (dO (ents 2 s.toks l) l.length), toks := s.toks + 3 * l.length } q := by
  unfold subDict
  refine RunW.bind (n := 1) (m := 13 * l.length) RunW.alloc ?_
  rw [obj_nil]
  refine RunW.bind (n := 13 * l.length) (m := 0) (a := ()) (s' := { s with heap := s.heap.push (dO (ents 2 s.toks l) l.length), toks := s.toks + 3 * l.length }) (p' := q) (RunW.holding ?_) RunW.pure
  rw [if_pos (by unfold pairsS; rw [List.length_map]; exact hl)]
  rw [show 13 * l.length = 3 * l.length + 10 * l.length by omega]
  refine RunW.bind (evals_run (q := q) l { s with heap := s.heap.push (dO [] 0) }) ?_
  have := store_run (w := w) (q := q) h28 l s.toks [] 0 0 { s with heap := s.heap.push (dO [] 0), toks := s.toks + 2 * l.length } (push_get _ _ _) (LowE.nil 0) (Int.le_refl _) hu (by simp; omega)
  rw [show (({ s with heap := s.heap.push (dO [] 0), toks := s.toks + 2 * l.length } : Shared).heap.update s.heap.objs.size (fun _ => dO ([] ++ ents 2 s.toks l) (0 + l.length))) = s.heap.push (dO (ents 2 s.toks l) l.length) from by
    rw [List.nil_append, Nat.zero_add]; exact push_upd] at this
  have e : s.toks + 2 * l.length + l.length = s.toks + 3 * l.length := by omega
  rw [show ({ s with heap := s.heap.push (dO [] 0), toks := s.toks + 2 * l.length } : Shared).toks + l.length = s.toks + 3 * l.length from e] at this
  exact RunW.holding (RunW.bind (n := 10 * l.length) (m := 0) this RunW.pure)
end
end Mine
end
section
open PySem PySem.W PyProof.Rows PySem.Calls
set_option Elab.async false
set_option maxRecDepth 100000
set_option maxHeartbeats 0
namespace Mine
section
variable {w : World} {α β : Type}
noncomputable def UpE : Int → List DictEntry → Prop
  | _, [] => True
  | b, e :: r => b < e.hash ∧ (∃ t, e.key = .int e.hash t) ∧ UpE e.hash r
theorem ents_UpE (st : Nat) : ∀ (l : List (Int × PySem.Str)) (b : Int) (t : Nat), Up b l = true → UpE b (ents st t l)
  | [], _, _, _ => trivial
  | (i, x) :: r, b, t, h => by
    unfold Up at h
    simp only [Bool.and_eq_true, decide_eq_true_eq] at h
    exact ⟨h.1.1, ⟨t, rfl⟩, ents_UpE st r i (t + st) h.2⟩
theorem put_run {s : Shared} {p : Pos} {d : Addr} {E : List DictEntry} {ep : Nat} {k h : Int} {t : Tok} {v : Value} (h28 : Nat.ble 28 d = true) (hd : s.heap.get? d = some (dO E ep)) (hn : ∀ e ∈ E, e.hash ≠ h) (hl : E.length ≤ 2000) :
    RunW w 4 (dictPut d h (.int k t) v) s p () { s with heap := s.heap.update d (fun _ => dO (E ++ [⟨h, .int k t, v⟩]) (ep + 1)) } p := by
  unfold dictPut
  refine RunW.bind (n := 1) (m := 3) (find_run hd hn) ?_
  unfold updateDictKeys
  refine RunW.bind (n := 1) (m := 2) (RunW.load hd) ?_
  have e1 : s.heap.update d (Obj.mapDictKeys (·.push ⟨h, .int k t, v⟩)) = s.heap.update d (fun _ => dO (E ++ [⟨h, .int k t, v⟩]) (ep + 1)) :=
    upd_congr hd (by unfold dO Obj.mapDictKeys; simp)
  refine RunW.bind (n := 1) (m := 1) (RunW.update h28 (by rw [hd]; rfl)) ?_
  unfold lookBehind
  rw [e1]
  refine RunW.bind (n := 1) (m := 0) (RunW.load (setTo_get hd)) ?_
  have e2 : (dO (E ++ [⟨h, .int k t, v⟩]) (ep + 1)).data.pastItsLine = none := by
    unfold dO Data.pastItsLine
    dsimp only
    rw [if_neg (by rw [sizeLine_eq]; simp; omega)]
  rw [e2]
  exact RunW.pure
theorem entries_run {s : Shared} {p : Pos} {d : Addr} {part : Option Value} {E : List DictEntry} {ep : Nat} (hd : s.heap.get? d = some (dO E ep)) : RunW w 1 (dictEntries d part) s p E.toArray s p := by
  unfold dictEntries
  exact RunW.bind (n := 1) (m := 0) (RunW.load hd) RunW.pure
theorem epoch_run {s : Shared} {p : Pos} {d : Addr} {part : Option Value} {E : List DictEntry} {ep : Nat} (hd : s.heap.get? d = some (dO E ep)) : RunW w 1 (dictEpoch d part) s p ep s p := by
  unfold dictEpoch
  exact RunW.bind (n := 1) (m := 0) (RunW.load hd) RunW.pure
theorem merge_loop {d a : Addr} {q : Pos} (h28 : Nat.ble 28 d = true) (hda : d ≠ a) {F : List DictEntry} {epF : Nat} {f : Nat → PUnit → Sem (ForInStep PUnit)}
    (hf : ∀ (s : Shared) (i : Nat) (e : DictEntry) (E : List DictEntry) (ep : Nat) (t : Tok), F[i]? = some e → e.key = .int e.hash t → s.heap.get? a = some (dO F epF) → s.heap.get? d = some (dO E ep) → (∀ x ∈ E, x.hash ≠ e.hash) → E.length ≤ 2000 →
      RunW w 6 (f i PUnit.unit) s q (.yield PUnit.unit) { s with heap := s.heap.update d (fun _ => dO (E ++ [e]) (ep + 1)) } q) :
    ∀ (r : List DictEntry) (i : Nat) (E : List DictEntry) (ep : Nat) (b : Int) (s : Shared), F.drop i = r → s.heap.get? a = some (dO F epF) → s.heap.get? d = some (dO E ep) → LowE E b → UpE b r → E.length + r.length ≤ 2000 →
    RunW w (6 * r.length) (forIn (List.range' i r.length) PUnit.unit f) s q PUnit.unit { s with heap := s.heap.update d (fun _ => dO (E ++ r) (ep + r.length)) } q
  | [], i, E, ep, b, s, _, _, hd, _, _, _ => by
    have e : s.heap.update d (fun _ => dO (E ++ []) (ep + 0)) = s.heap := by
      rw [List.append_nil]; exact upd_same hd
    rw [show ({ s with heap := s.heap.update d (fun _ => dO (E ++ []) (ep + ([] : List DictEntry).length)) } : Shared) = s from by
      show ({ s with heap := s.heap.update d (fun _ => dO (E ++ []) (ep + 0)) } : Shared) = s
      rw [e]]
    exact RunW.pure
  | e :: r, i, E, ep, b, s, hr, ha, hd, hE, hu, hl => by
    obtain ⟨u1, ⟨t, u2⟩, u3⟩ := hu
    have hi : F[i]? = some e := by
      have := congrArg (fun l => l[0]?) hr
      simpa using this
    have hr' : F.drop (i + 1) = r := by rw [← List.drop_drop, hr]; rfl
    rw [List.length_cons, List.range'_succ, List.forIn_cons, show 6 * (r.length + 1) = 6 + 6 * r.length by omega]
    let s3 : Shared := { s with heap := s.heap.update d (fun _ => dO (E ++ [e]) (ep + 1)) }
    refine RunW.bind (n := 6) (m := 6 * r.length) (a := ForInStep.yield PUnit.unit) (s' := s3) (p' := q) ?_ ?_
    · exact hf s i e E ep t hi u2 ha hd (fun x hx => by have := hE x hx; omega) (by simp only [List.length_cons] at hl; omega)
    · dsimp only
      have ih := merge_loop h28 hda hf r (i + 1) (E ++ [e]) (ep + 1) e.hash s3 hr' ((Heap.get?_update_other _ _ hda).trans ha) (setTo_get hd) (hE.snoc u1 rfl) u3 (by simp only [List.length_cons, List.length_append, List.length_nil] at hl ⊢; omega)
      have e : ({ s3 with heap := s3.heap.update d (fun _ => dO (E ++ [e] ++ r) (ep + 1 + r.length)) } : Shared) = { s with heap := s.heap.update d (fun _ => dO (E ++ e :: r) (ep + (r.length + 1))) } := by
        show Shared.mk ((s.heap.update d _).update d _) _ _ _ _ = Shared.mk _ _ _ _ _
        rw [upd_upd]
        congr 2
        funext _
        rw [List.append_assoc, Nat.add_assoc, Nat.add_comm 1]
        rfl
      rw [← e]; exact ih
theorem special_iter {s : Shared} {p : Pos} {a : Addr} {F : List DictEntry} {epF : Nat} (ha : s.heap.get? a = some (dO F epF)) : RunW w 1 (specialOf (.ref a) "__iter__") s p (some (.builtin "dict.__iter__")) s p := by
  unfold specialOf
  refine RunW.bind (n := 1) (m := 0) (a := .type "dict") (s' := s) (p' := p) ?_ ?_
  · exact RunW.bind (n := 1) (m := 0) (RunW.load ha) RunW.pure
  · rw [PySem.F.slot_dict_iter.lookup]; exact RunW.pure
theorem sub_dict : isSubtype (.type "dict") (.type "dict") = pure true := by
  rw [isSubtype_type]; kernel_rfl
theorem merge_run {s : Shared} {q : Pos} {d a : Addr} {E F : List DictEntry} {ep epF : Nat} {b : Int} (h28 : Nat.ble 28 d = true) (hda : d ≠ a) (hs : (a == sysModules) = false) (hne : E ≠ []) (ha : s.heap.get? a = some (dO F epF)) (hd : s.heap.get? d = some (dO E ep)) (hE : LowE E b) (hu : UpE b F) (hl : E.length + F.length ≤ 2000) :
    RunW w (5 + 6 * F.length) (mergeMapping d (.ref a) false) s q () { s with heap := s.heap.update d (fun _ => dO (E ++ F) (ep + F.length)) } q := by
  unfold mergeMapping
  rw [show 5 + 6 * F.length = 1 + (1 + (1 + (1 + (1 + 6 * F.length)))) by omega]
  refine RunW.bind (n := 1) (a := true) (s' := s) (p' := q) ?_ ?_
  · unfold PySem.isInstance
    refine RunW.bind (n := 1) (m := 0) (a := .type "dict") (s' := s) (p' := q) (RunW.bind (n := 1) (m := 0) (RunW.load ha) RunW.pure) ?_
    rw [sub_dict]
    exact RunW.pure
  rw [if_pos rfl]
  refine RunW.bind (n := 1) (special_iter ha) ?_
  refine RunW.pre (a := true) (by rfl) ?_
  dsimp only
  rw [if_neg (by rw [hs]; exact Bool.false_ne_true)]
  refine RunW.bind (n := 1) (entries_run hd) ?_
  rw [if_neg (by simpa using hne)]
  refine RunW.bind (n := 1) (entries_run ha) ?_
  refine RunW.bind (n := 1) (epoch_run ha) ?_
  rw [List.range_eq_range', List.size_toArray]
  refine RunW.bind (n := 6 * F.length) (m := 0) (merge_loop (w := w) (q := q) h28 hda (F := F) (epF := epF) ?_ F 0 E ep b s rfl ha hd hE hu hl) RunW.pure
  intro s i e E ep t hi hk ha hd hn hl
  refine RunW.bind (n := 1) (m := 5) (entries_run ha) ?_
  rw [List.getElem?_toArray, hi]
  dsimp only
  rw [hk]
  have he : e = ⟨e.hash, .int e.hash t, e.val⟩ := by
    obtain ⟨a1, a2, a3⟩ := e
    simp only at hk
    rw [hk]
  refine RunW.bind (n := 4) (m := 1) (a := ()) (s' := { s with heap := s.heap.update d (fun _ => dO (E ++ [e]) (ep + 1)) }) (p' := q) (RunW.holding ?_) ?_
  · rw [if_neg Bool.false_ne_true]
    have := put_run (w := w) (p := q) (k := e.hash) (t := t) (v := e.val) h28 hd hn hl
    rw [← he] at this
    exact this
  · refine RunW.bind (n := 1) (m := 0) (epoch_run ((Heap.get?_update_other _ _ hda).trans ha)) ?_
    rw [if_neg (by simp)]
    exact RunW.pure
end
end Mine
end
section
open PySem PySem.W PyProof.Rows PySem.Calls
set_option Elab.async false
set_option maxRecDepth 100000
set_option maxHeartbeats 0
namespace Mine
section
variable {w : World} {q : Pos}
abbrev itG (p : Sem Value × Sem Value) : Option (Sem Value) × Sem Value := (some p.1, p.2)
abbrev FSt := Option Addr × List (Sem Value × Sem Value)
theorem gather0 {f : Option (Sem Value) × Sem Value → FSt → Sem (ForInStep FSt)} (hg : ∀ p main run, run.length + 1 < 17 → f (itG p) (main, run) = pure (.yield (main, run ++ [p])))
    (h0 : ∀ p pre n (s : Shared) a s', pre.length + 1 = 17 → RunW w n (subDict (pre ++ [p])) s q a s' q → RunW w n (f (itG p) (none, pre)) s q (.yield (some a, [])) s' q)
    {rest : List (Option (Sem Value) × Sem Value)} {n m : Nat} {s s1 s2 : Shared} {a : Addr} {r : FSt} : ∀ (c pre : List (Sem Value × Sem Value)), pre.length + c.length = 17 → c ≠ [] → RunW w n (subDict (pre ++ c)) s q a s1 q → RunW w m (forIn rest ((some a, []) : FSt) f) s1 q r s2 q →
      RunW w (n + m) (forIn (c.map itG ++ rest) ((none, pre) : FSt) f) s q r s2 q
  | [], _, _, h, _, _ => absurd rfl h
  | [p], pre, hl, _, hs, hr => by
    rw [List.map_cons, List.map_nil, List.cons_append, List.nil_append, List.forIn_cons]
    exact RunW.bind (h0 p pre n s a s1 (by simpa using hl) hs) hr
  | p :: p2 :: c, pre, hl, _, hs, hr => by
    rw [List.map_cons, List.cons_append, List.forIn_cons, hg p none pre (by simp at hl; omega), pure_bind]
    exact gather0 hg h0 (p2 :: c) (pre ++ [p]) (by simp at hl ⊢; omega) (List.cons_ne_nil _ _) (by simpa using hs) hr
theorem gatherD {f : Option (Sem Value) × Sem Value → FSt → Sem (ForInStep FSt)} (hg : ∀ p main run, run.length + 1 < 17 → f (itG p) (main, run) = pure (.yield (main, run ++ [p])))
    (hd : ∀ p pre d n1 n2 (s : Shared) a s1 s2, pre.length + 1 = 17 → RunW w n1 (subDict (pre ++ [p])) s q a s1 q → RunW w n2 (mergeMapping d (.ref a) false) s1 q () s2 q → RunW w (n1 + n2) (f (itG p) (some d, pre)) s q (.yield (some d, [])) s2 q)
    {rest : List (Option (Sem Value) × Sem Value)} {n1 n2 m : Nat} {s s1 s2 s3 : Shared} {a d : Addr} {r : FSt} : ∀ (c pre : List (Sem Value × Sem Value)), pre.length + c.length = 17 → c ≠ [] → RunW w n1 (subDict (pre ++ c)) s q a s1 q → RunW w n2 (mergeMapping d (.ref a) false) s1 q () s2 q → RunW w m (forIn rest ((some d, []) : FSt) f) s2 q r s3 q →
      RunW w (n1 + n2 + m) (forIn (c.map itG ++ rest) ((some d, pre) : FSt) f) s q r s3 q
  | [], _, _, h, _, _, _ => absurd rfl h
  | [p], pre, hl, _, hs, hm, hr => by
    rw [List.map_cons, List.map_nil, List.cons_append, List.nil_append, List.forIn_cons]
    exact RunW.bind (hd p pre d n1 n2 s a s1 s2 (by simpa using hl) hs hm) hr
  | p :: p2 :: c, pre, hl, _, hs, hm, hr => by
    rw [List.map_cons, List.cons_append, List.forIn_cons, hg p (some d) pre (by simp at hl; omega), pure_bind]
    exact gatherD hg hd (p2 :: c) (pre ++ [p]) (by simp at hl ⊢; omega) (List.cons_ne_nil _ _) (by simpa using hs) hm hr
theorem gatherE {f : Option (Sem Value) × Sem Value → FSt → Sem (ForInStep FSt)} (hg : ∀ p main run, run.length + 1 < 17 → f (itG p) (main, run) = pure (.yield (main, run ++ [p]))) {main : Option Addr} :
    ∀ (c pre : List (Sem Value × Sem Value)), pre.length + c.length < 17 → forIn (c.map itG) ((main, pre) : FSt) f = pure (main, pre ++ c)
  | [], pre, _ => by simp
  | p :: c, pre, hl => by
    rw [List.map_cons, List.forIn_cons, hg p main pre (by simp at hl; omega), pure_bind]
    have := gatherE hg (main := main) c (pre ++ [p]) (by simp at hl ⊢; omega)
    simpa using this
theorem upd_size {h : Heap} {d : Addr} {f : Obj → Obj} : (h.update d f).objs.size = h.objs.size := by
  obtain ⟨os, l⟩ := h
  show (os.modify d f).size = os.size
  exact Array.size_modify
noncomputable def hpJ (h : Heap) : Nat → Heap
  | 0 => h
  | 1 => h.push (dO (entsAt 0) 17)
  | j + 2 => ((hpJ h (j + 1)).push (dO (entsAt (j + 1)) 17)).update 109 (fun _ => dO (b3upto (j + 2)) (17 * (j + 2)))
noncomputable def stJ (s : Shared) (j : Nat) : Shared := { s with heap := hpJ s.heap j, toks := s.toks + 51 * j }
theorem stJ_toks (s : Shared) (j : Nat) : (stJ s j).toks = s.toks + 51 * j := rfl
theorem stJ_size (s : Shared) : ∀ j, (stJ s j).heap.objs.size = s.heap.objs.size + j
  | 0 => rfl
  | 1 => by show (s.heap.push _).objs.size = _; rw [Heap.size_push]
  | j + 2 => by
    show (((hpJ s.heap (j + 1)).push _).update 109 _).objs.size = _
    rw [upd_size, Heap.size_push, show (hpJ s.heap (j + 1)).objs.size = _ from stJ_size s (j + 1)]; rfl
theorem b3upto_one : b3upto 1 = entsAt 0 := by
  show [] ++ entsAt 0 = _
  rfl
theorem stJ_get (s : Shared) (hs : s.heap.objs.size = 109) : ∀ j, 1 ≤ j → (stJ s j).heap.get? 109 = some (dO (b3upto j) (17 * j))
  | 1, _ => by
    show (s.heap.push _).get? 109 = _
    rw [← hs, b3upto_one]; exact push_get _ _ _
  | j + 2, _ => by
    refine Heap.get?_update_self _ (o := dO (b3upto (j + 1)) (17 * (j + 1))) ?_ rfl
    exact Heap.get?_push_of_some _ (stJ_get s hs (j + 1) (by omega))
noncomputable def lowB (j : Nat) : Int := match chunkAt j with
  | (i, _) :: _ => i - 1
  | [] => 0
noncomputable def okJ (j : Nat) : Bool := (chunkAt j).length == (if j < 38 then 17 else 4) && Up 0 (chunkAt j) && Up (lowB j) (chunkAt j) && decide (0 ≤ lowB j) && (b3upto j).all (fun e => decide (e.hash ≤ lowB j)) && (b3upto j).length == 17 * j
theorem ok_all : ∀ j < 39, okJ j = true := by decide +kernel
structure OkJ (j : Nat) : Prop where
  len : (chunkAt j).length = if j < 38 then 17 else 4
  up0 : Up 0 (chunkAt j) = true
  up : Up (lowB j) (chunkAt j) = true
  b0 : 0 ≤ lowB j
  low : LowE (b3upto j) (lowB j)
  tot : (b3upto j).length = 17 * j
theorem ok_at (j : Nat) (h : j < 39) : OkJ j := by
  have := ok_all j h
  unfold okJ at this
  simp only [Bool.and_eq_true, beq_iff_eq, decide_eq_true_eq, List.all_eq_true] at this
  obtain ⟨⟨⟨⟨⟨a, b⟩, c⟩, d⟩, e⟩, f⟩ := this
  exact ⟨a, b, c, d, e, f⟩
theorem ents_len (st : Nat) : ∀ (l : List (Int × PySem.Str)) (t : Nat), (ents st t l).length = l.length
  | [], _ => rfl
  | _ :: r, t => by unfold ents; rw [List.length_cons, List.length_cons, ents_len st r]
theorem chunk_sub {s : Shared} (hs : s.heap.objs.size = 109) (ht : s.toks = 515) (j : Nat) (h1 : 1 ≤ j) (h2 : j < 38) :
    RunW w 223 (subDict (pairsS q (chunkAt j))) (stJ s j) q (109 + j) { stJ s j with heap := (stJ s j).heap.push (dO (entsAt j) 17), toks := s.toks + 51 * (j + 1) } q := by
  have ok := ok_at j (by omega)
  have hl : (chunkAt j).length = 17 := by rw [ok.len, if_pos h2]
  have e := sub_long (w := w) (q := q) (s := stJ s j) (l := chunkAt j) (by rw [stJ_size, hs]; exact Nat.ble_eq_true_of_le (by omega)) (by omega) (by omega) ok.up0
  rw [hl, stJ_size, hs, stJ_toks] at e
  have e2 : ents 3 (s.toks + 51 * j) (chunkAt j) = entsAt j := by
    unfold entsAt; rw [if_pos h2, ht]
  rw [e2, show s.toks + 51 * j + 3 * 17 = s.toks + 51 * (j + 1) by omega] at e
  exact e
theorem chunk_merge {s : Shared} (hs : s.heap.objs.size = 109) (j : Nat) (h1 : 1 ≤ j) (h2 : j < 38) :
    RunW w 107 (mergeMapping 109 (.ref (109 + j)) false) { stJ s j with heap := (stJ s j).heap.push (dO (entsAt j) 17), toks := s.toks + 51 * (j + 1) } q () (stJ s (j + 1)) q := by
  have ok := ok_at j (by omega)
  have hl : (entsAt j).length = 17 := by unfold entsAt; rw [ents_len, ok.len, if_pos h2]
  obtain ⟨k, rfl⟩ : ∃ k, j = k + 1 := ⟨j - 1, by omega⟩
  have e := merge_run (w := w) (q := q) (s := { stJ s (k + 1) with heap := (stJ s (k + 1)).heap.push (dO (entsAt (k + 1)) 17), toks := s.toks + 51 * (k + 1 + 1) }) (d := 109) (a := 109 + (k + 1)) (E := b3upto (k + 1)) (F := entsAt (k + 1)) (ep := 17 * (k + 1)) (epF := 17) (b := lowB (k + 1))
    rfl (by show (109 : Nat) ≠ 109 + (k + 1); omega) (beq_eq_false_iff_ne.mpr (by show (109 + (k + 1) : Nat) ≠ 1; omega)) (fun h => by have := ok.tot; rw [h] at this; simp at this)
    (by have := push_get (stJ s (k + 1)).heap (entsAt (k + 1)) 17; rw [stJ_size, hs] at this; exact this)
    (Heap.get?_push_of_some _ (stJ_get s hs (k + 1) (by omega))) ok.low (ents_UpE _ _ _ _ ok.up) (by rw [ok.tot, hl]; omega)
  rw [hl] at e
  exact e
theorem drop_chunk (j : Nat) : b3ps.drop (17 * j) = chunkAt j ++ b3ps.drop (17 * (j + 1)) := by
  unfold chunkAt
  rw [show 17 * (j + 1) = 17 * j + 17 by omega, ← List.drop_drop]
  exact (List.take_append_drop 17 _).symm
theorem pairsS_append (a b : List (Int × PySem.Str)) : pairsS q (a ++ b) = pairsS q a ++ pairsS q b := List.map_append
theorem pairsS_len (a : List (Int × PySem.Str)) : (pairsS q a).length = a.length := List.length_map _
theorem loop_run {f : Option (Sem Value) × Sem Value → FSt → Sem (ForInStep FSt)} (hg : ∀ p main run, run.length + 1 < 17 → f (itG p) (main, run) = pure (.yield (main, run ++ [p])))
    (hd : ∀ p pre d n1 n2 (s : Shared) a s1 s2, pre.length + 1 = 17 → RunW w n1 (subDict (pre ++ [p])) s q a s1 q → RunW w n2 (mergeMapping d (.ref a) false) s1 q () s2 q → RunW w (n1 + n2) (f (itG p) (some d, pre)) s q (.yield (some d, [])) s2 q)
    {s : Shared} (hs : s.heap.objs.size = 109) (ht : s.toks = 515) : ∀ (k j : Nat), j + k = 38 → 1 ≤ j →
      RunW w (330 * k) (forIn ((pairsS q (b3ps.drop (17 * j))).map itG) ((some 109, []) : FSt) f) (stJ s j) q (some 109, pairsS q (chunkAt 38)) (stJ s 38) q
  | 0, j, e, _ => by
    obtain rfl : j = 38 := by omega
    have hl : (chunkAt 38).length = 4 := (ok_at 38 (by omega)).len
    have e2 : b3ps.drop (17 * 38) = chunkAt 38 := by
      have := drop_chunk 38
      rw [this, show b3ps.drop (17 * (38 + 1)) = [] from by decide +kernel, List.append_nil]
    rw [e2]
    have := gatherE hg (main := some 109) (pairsS q (chunkAt 38)) [] (by rw [pairsS_len, hl]; decide)
    rw [this]
    exact RunW.pure
  | k + 1, j, e, h1 => by
    have hl : (chunkAt j).length = 17 := by rw [(ok_at j (by omega)).len, if_pos (by omega)]
    rw [drop_chunk j, pairsS_append, List.map_append, show 330 * (k + 1) = 223 + 107 + 330 * k by omega]
    refine gatherD hg hd (pairsS q (chunkAt j)) [] (by rw [pairsS_len, hl]; rfl) (fun h => ?_) (chunk_sub hs ht j h1 (by omega)) (chunk_merge hs j h1 (by omega)) (loop_run hg hd hs ht k (j + 1) (by omega) (by omega))
    have := congrArg List.length h
    rw [pairsS_len, hl] at this
    cases this
end
end Mine
end
section
open PySem PySem.W PyProof.Rows PySem.Calls
set_option Elab.async false
set_option maxRecDepth 100000
set_option maxHeartbeats 0
namespace Mine
section
variable {w : World} {q : Pos}
noncomputable def stL (s : Shared) (j : Nat) : Shared := { s with heap := ((hpJ s.heap j).push (dO (entsAt j) 4)).update 109 (fun _ => dO (b3upto (j + 1)) (17 * j + 4)), toks := s.toks + 51 * j + 12 }
theorem last_sub {s : Shared} (hs : s.heap.objs.size = 109) (ht : s.toks = 515) (j : Nat) (hj : j = 38) :
    RunW w 53 (subDict (pairsS q (chunkAt j))) (stJ s j) q (109 + j) { stJ s j with heap := (stJ s j).heap.push (dO (entsAt j) 4), toks := s.toks + 51 * j + 12 } q := by
  have ok := ok_at j (by omega)
  have hl : (chunkAt j).length = 4 := by rw [ok.len, if_neg (by omega)]
  have e := sub_short (w := w) (q := q) (s := stJ s j) (l := chunkAt j) (by rw [stJ_size, hs]; exact Nat.ble_eq_true_of_le (by omega)) (by omega) ok.up0
  rw [hl, stJ_size, hs, stJ_toks] at e
  have e2 : ents 2 (s.toks + 51 * j) (chunkAt j) = entsAt j := by
    unfold entsAt; rw [if_neg (by omega), ht]
  rw [e2] at e
  exact e
theorem last_merge {s : Shared} (hs : s.heap.objs.size = 109) (j : Nat) (hj : j = 38) :
    RunW w 29 (mergeMapping 109 (.ref (109 + j)) false) { stJ s j with heap := (stJ s j).heap.push (dO (entsAt j) 4), toks := s.toks + 51 * j + 12 } q () (stL s j) q := by
  have ok := ok_at j (by omega)
  have hl : (entsAt j).length = 4 := by unfold entsAt; rw [ents_len, ok.len, if_neg (by omega)]
  have e := merge_run (w := w) (q := q) (s := { stJ s j with heap := (stJ s j).heap.push (dO (entsAt j) 4), toks := s.toks + 51 * j + 12 }) (d := 109) (a := 109 + j) (E := b3upto j) (F := entsAt j) (ep := 17 * j) (epF := 4) (b := lowB j)
    rfl (by show (109 : Nat) ≠ 109 + j; omega) (beq_eq_false_iff_ne.mpr (by show (109 + j : Nat) ≠ 1; omega)) (fun h => by have := ok.tot; rw [h] at this; simp at this; omega)
    (by have := push_get (stJ s j).heap (entsAt j) 4; rw [stJ_size, hs] at this; exact this)
    (Heap.get?_push_of_some _ (stJ_get s hs j (by omega))) ok.low (ents_UpE _ _ _ _ ok.up) (by rw [ok.tot, hl]; omega)
  rw [hl] at e
  exact e
theorem first_sub {s : Shared} (hs : s.heap.objs.size = 109) (ht : s.toks = 515) (j : Nat) (hj : j = 0) : RunW w 223 (subDict (pairsS q (chunkAt j))) s q 109 { s with heap := s.heap.push (dO (entsAt j) 17), toks := s.toks + 51 } q := by
  have ok := ok_at j (by omega)
  have hl : (chunkAt j).length = 17 := by rw [ok.len, if_pos (by omega)]
  have e := sub_long (w := w) (q := q) (s := s) (l := chunkAt j) (by rw [hs]; rfl) (by omega) (by omega) ok.up0
  rw [hl, hs] at e
  have e2 : ents 3 s.toks (chunkAt j) = entsAt j := by
    unfold entsAt; rw [if_pos (by omega), ht, hj]
  rw [e2] at e
  exact e
theorem isEmpty_snoc {α : Type} (l : List α) (x : α) : ¬ ((l ++ [x]).isEmpty = true) := by cases l <;> simp
theorem dict_run {s : Shared} (hs : s.heap.objs.size = 109) (ht : s.toks = 515) (j : Nat) (hj : j = 38) (hR : ∀ {f : Option (Sem Value) × Sem Value → FSt → Sem (ForInStep FSt)}, (∀ p main run, run.length + 1 < 17 → f (itG p) (main, run) = pure (.yield (main, run ++ [p]))) →
    (∀ p pre d n1 n2 (s : Shared) a s1 s2, pre.length + 1 = 17 → RunW w n1 (subDict (pre ++ [p])) s q a s1 q → RunW w n2 (mergeMapping d (.ref a) false) s1 q () s2 q → RunW w (n1 + n2) (f (itG p) (some d, pre)) s q (.yield (some d, [])) s2 q) →
    RunW w (330 * 37) (forIn ((pairsS q (b3ps.drop (17 * 1))).map itG) ((some 109, []) : FSt) f) (stJ s 1) q (some 109, pairsS q (chunkAt j)) (stJ s j) q) :
    RunW w (223 + 330 * 37 + (53 + 29)) (dictDisplay ((pairsS q b3ps).map itG)) s q (.ref 109) (stL s j) q := by
  unfold dictDisplay
  dsimp only
  have ok0 := ok_at 0 (by omega)
  have hl0 : (chunkAt 0).length = 17 := by rw [ok0.len, if_pos (by omega)]
  have ok := ok_at j (by omega)
  have hl : (chunkAt j).length = 4 := by rw [ok.len, if_neg (by omega)]
  refine RunW.bind (n := 223 + 330 * 37) (m := 53 + 29) (a := (some 109, pairsS q (chunkAt j))) (s' := stJ s j) (p' := q) ?_ ?_
  · rw [show (pairsS q b3ps).map itG = (pairsS q (chunkAt 0)).map itG ++ (pairsS q (b3ps.drop (17 * 1))).map itG from by
      rw [← List.map_append, ← pairsS_append, ← drop_chunk 0]; rfl]
    refine gather0 ?_ ?_ (pairsS q (chunkAt 0)) [] (by rw [pairsS_len, hl0]; rfl) (fun h => ?_) (first_sub hs ht 0 rfl) (hR ?_ ?_)
    · intro p main run h
      have : ((run ++ [(p.1, p.2)]).length == 17) = false := by rw [beq_eq_false_iff_ne]; simp; omega
      show (if ((run ++ [(p.1, p.2)]).length == 17) = true then _ else _) = _
      rw [this, if_neg Bool.false_ne_true]
    · intro p pre n s a s' h hr
      have : ((pre ++ [(p.1, p.2)]).length == 17) = true := by rw [beq_iff_eq]; simp; omega
      show RunW w n (if ((pre ++ [(p.1, p.2)]).length == 17) = true then _ else _) _ _ _ _ _
      rw [this, if_pos rfl]
      refine RunW.bind (n := n) (m := 0) (a := some a) (s' := s') (p' := q) ?_ RunW.pure
      rw [if_neg (isEmpty_snoc _ _)]
      exact RunW.bind (n := n) (m := 0) hr RunW.pure
    · have := congrArg List.length h
      rw [pairsS_len, hl0] at this
      cases this
    · intro p main run h
      have : ((run ++ [(p.1, p.2)]).length == 17) = false := by rw [beq_eq_false_iff_ne]; simp; omega
      show (if ((run ++ [(p.1, p.2)]).length == 17) = true then _ else _) = _
      rw [this, if_neg Bool.false_ne_true]
    · intro p pre d n1 n2 s a s1 s2 h hr hm
      have : ((pre ++ [(p.1, p.2)]).length == 17) = true := by rw [beq_iff_eq]; simp; omega
      show RunW w (n1 + n2) (if ((pre ++ [(p.1, p.2)]).length == 17) = true then _ else _) _ _ _ _ _
      rw [this, if_pos rfl]
      refine RunW.bind (n := n1 + n2) (m := 0) (a := some d) (s' := s2) (p' := q) ?_ RunW.pure
      rw [if_neg (isEmpty_snoc _ _)]
      exact RunW.bind (n := n1) (m := n2) (RunW.holding hr) (RunW.bind (n := n2) (m := 0) (RunW.onRaise (RunW.holding hm)) RunW.pure)
  · dsimp only
    refine RunW.bind (n := 53 + 29) (m := 0) (a := some 109) (s' := stL s j) (p' := q) ?_ RunW.pure
    have hne : ¬ ((pairsS q (chunkAt j)).isEmpty = true) := by
      intro h
      have := congrArg List.length (List.isEmpty_iff.mp h)
      rw [pairsS_len, hl] at this
      cases this
    rw [if_neg hne]
    refine RunW.bind (n := 53) (m := 29) (RunW.holding (last_sub hs ht j hj)) ?_
    exact RunW.bind (n := 29) (m := 0) (RunW.onRaise (RunW.holding (last_merge hs j hj))) RunW.pure
end
end Mine
end
section
open PySem PySem.W PyProof.Rows PySem.Calls
set_option Elab.async false
set_option maxRecDepth 100000
set_option maxHeartbeats 0
namespace Mine
noncomputable def asT : PySem.Stmt → List PySem.Expr
  | .Assign ts _ _ => ts
  | _ => []
noncomputable def asV : PySem.Stmt → PySem.Expr
  | .Assign _ v _ => v
  | _ => default
noncomputable def asP : PySem.Stmt → Pos
  | .Assign _ _ p => p
  | _ => default
noncomputable def dcK : PySem.Expr → List (Option PySem.Expr)
  | .Dict ks _ _ => ks
  | _ => []
noncomputable def dcV : PySem.Expr → List PySem.Expr
  | .Dict _ vs _ => vs
  | _ => []
noncomputable def dcP : PySem.Expr → Pos
  | .Dict _ _ p => p
  | _ => default
noncomputable abbrev s17 : PySem.Stmt := stmtAt 17
noncomputable abbrev v17 : PySem.Expr := asV s17
theorem s17_eq : stmtAt 17 = .Assign (asT s17) (.Dict (dcK v17) (dcV v17) (dcP v17)) (asP s17) := by kernel_rfl
noncomputable def okP : List (Option PySem.Expr) → List PySem.Expr → Bool
  | [], [] => true
  | some (.Constant (.int _) _ _) :: ks, .Constant (.str _) _ _ :: vs => okP ks vs
  | _, _ => false
theorem items_eq (env : Env) (q : Pos) (ks : List (Option PySem.Expr)) (vs : List PySem.Expr) (h : okP ks vs = true) :
    (evalEachOpt ks env).zip ((evalEach vs env).map fun v => do let x ← v; standAt q; pure x) = (pairsS q (pairsOf ks vs)).map itG := by
  induction ks generalizing vs with
  | nil => cases vs with
    | nil => rfl
    | cons _ _ => simp [okP] at h
  | cons k ks ih => cases vs with
    | nil => unfold okP at h; split at h <;> simp_all
    | cons v vs =>
      unfold okP at h
      split at h
      · simp_all
      · rename_i e1 e2
        cases e1; cases e2
        show _ :: _ = _ :: _
        congr 1
        exact ih _ h
      · cases h
theorem ok17 : okP (dcK v17) (dcV v17) = true := by decide +kernel
theorem ps17 : pairsOf (dcK v17) (dcV v17) = b3ps := by
  show _ = dictPairs (stmtAt 17)
  rw [s17_eq]; rfl
theorem hX (P : Params) : ((hpJ (absHeap (trG15 P) 109 {}) 38).push (dO (entsAt 38) 4)).update 109 (fun _ => dO (b3upto 39) (17 * 38 + 4)) = absHeap (trX P) 148 {} := by kernel_rfl
theorem noSwap : swapsWithSole (asT s17) (.Dict (dcK v17) (dcV v17) (dcP v17)) (asP s17).line envB = pure false := by kernel_rfl
theorem tail_run (w : World) (os : OsState) : RunW w 7 (swappedStores (asT s17) (.Dict (dcK v17) (dcV v17) (dcP v17)) envB >>= fun sw => assignStores envB (.ref 109) sw ((assignEach (asT s17) envB).map (·.2))) (atT trX 148 2465 w os).abs (dcP v17) .next (atT trG16 148 2466 w os).abs ⟨81, 0, 81, 13⟩ := by
  intro K H gd lv
  kernel_rfl
theorem exec16 (w : World) (os : OsState) : RunW w 12524 (exec (stmtAt 17) envB) (atT trG15 109 515 w os).abs ⟨79, 0, 80, 30⟩ .next (atT trG16 148 2466 w os).abs ⟨81, 0, 81, 13⟩ := by
  rw [s17_eq, arm_exec_Assign]
  refine RunW.bind (n := 1) (m := 12523) RunW.at ?_
  refine RunW.pre noSwap ?_
  rw [if_neg Bool.false_ne_true]
  refine RunW.bind (n := 12516) (m := 7) (a := .ref 109) (s' := (atT trX 148 2465 w os).abs) (p' := dcP v17) ?_ (tail_run w os)
  rw [arm_eval_Dict, items_eq _ _ _ _ ok17, ps17]
  refine RunW.bind (n := 1) (m := 12515) RunW.at ?_
  have hs : (atT trG15 109 515 w os).abs.heap.objs.size = 109 := absHeap_size _ _ _
  have := dict_run (w := w) (q := dcP v17) hs rfl 38 rfl (fun hg hd => loop_run hg hd hs rfl 37 1 rfl (Nat.le_refl _))
  have e : stL (atT trG15 109 515 w os).abs 38 = (atT trX 148 2465 w os).abs := by
    show Shared.mk (((hpJ (absHeap (trG15 w.params) 109 {}) 38).push (dO (entsAt 38) 4)).update 109 (fun _ => dO (b3upto (38 + 1)) (17 * 38 + 4))) _ _ _ _ = Shared.mk (absHeap (trX w.params) 148 {}) _ _ _ _
    rw [hX]; rfl
  rw [e] at this
  exact this
end Mine
end
section
open PySem PySem.W PyProof.Rows PySem.Calls
set_option Elab.async false
set_option maxRecDepth 100000
set_option maxHeartbeats 0
namespace Mine
theorem unQ {w : World} {n : Nat} {s s' : SharedT} {l : List PySem.Stmt} {p p' : Pos} (h : segRunQ tableQ pw w 28 annB 1 n s (pieceQ l p) = some (.next, s', codeB, p')) :
    segRun treeTable pw w 28 annB 1 n s.abs (piecesOf l envB codeB p frB) = some (.next, s'.abs, codeB, p') :=
  segRun_of (by rw [segRun_Q, table_Q, piece_Q]; exact h)
theorem l16 : (bodyB.drop 16).take 1 = [stmtAt 17] := by kernel_rfl
theorem g16 (w : World) (os : OsState) : segRun treeTable pw w 28 annB 1 12525 (atT trG15 109 515 w os).abs (piecesOf ((bodyB.drop 16).take 1) envB codeB ⟨79, 0, 80, 30⟩ frB) = some (.next, (atT trG16 148 2466 w os).abs, codeB, ⟨81, 0, 81, 13⟩) := by
  rw [l16]
  show segRun treeTable pw w 28 annB 1 12525 _ ⟨(execs [stmtAt 17] envB).wrap doneF deadEnd id id, codeB, ⟨79, 0, 80, 30⟩, frB⟩ = _
  rw [execs_cons_wrap]
  exact seg_go (n := 12524) (N := 1) (exec16 w os _ _ _ _) rfl
theorem bodyB_eq : bodyB = bodyB.take 10 ++ ((bodyB.drop 10).take 4 ++ ((bodyB.drop 14).take 1 ++ ((bodyB.drop 15).take 1 ++ ((bodyB.drop 16).take 1 ++ ((bodyB.drop 17).take 7 ++ []))))) := by kernel_rfl
theorem gA' (w : World) (os : OsState) : topGo treeTable pw w 28 annB 12 (atH hpZ 276 w os) (topStub pw) = some (atH hpA 282 w os, ⟨denote treeTable codeB, codeB, ⟨0, 0, 0, 0⟩, frB⟩) := by
  rw [topGo_Q, den_Q, table_Q]; exact gA w os
theorem runAll (w : World) (os : OsState) : topRun treeTable pw w 28 annB (12 + (1 + (332 + (213 + (999 + (30 + (12525 + (190 + 2)))))))) (atH hpZ 276 w os) (topStub pw) = some (atH hpF 2520 w os) := by
  refine go_top (gA' w os) ?_
  refine piece_block (gB w os) ?_
  rw [bodyB_eq]
  have k := piece_nil (env := envB) (gF w os)
  refine piece_app (unQ (g9 w os)) ?_
  refine piece_app (unQ (g13 w os)) ?_
  refine piece_app (unQ (g14 w os)) ?_
  refine piece_app (unQ (g15 w os)) ?_
  refine piece_app (g16 w os) ?_
  exact piece_app (unQ (g23 w os)) k
theorem gY' (w : World) : importEnds treeTable (opening pw) w 6000 (start (opening pw)).1 (start (opening pw)).2 = some ⟨hpY w.params, #[], noDraw, 276, (start (opening pw)).1.os⟩ := by
  rw [imp_Q, table_Q]; exact gY w
noncomputable def KFas : List Addr := List.range 186
theorem KF_as : ∀ P, KFas = (KF P).map (·.1) := fun P => by kernel_rfl
noncomputable def hookK : Hook := kHook KF KFas KF_as
theorem gHook (w : World) (os : OsState) : hookK.obs (atH hpF 2520 w os) = hookK.val w := by kernel_rfl
theorem gSeen (w : World) (os : OsState) : openSeen qV looseL (importedModules pw.main.body) XtL true (atH hpF 2520 w os) = openGood qV looseL := by
  rw [seen_Q, mods_Q]; exact gL2 w os
theorem left : LeftO pw qV looseL XtL hookK.obs hookK.val 28692 :=
  LeftO.of_pieces (H₀ := hpZ) (H₁ := hpF) (gs₀ := #[]) (gs₁ := #[]) (d₀ := noDraw) (d₁ := noDraw) (k₀ := 276) (k₁ := 2520) (m₀ := 28) (ann := annB) (M := 12 + (1 + (332 + (213 + (999 + (30 + (12525 + (190 + 2))))))))
    (open_cut (M := 6000) (He := hpY) (H₀ := hpZ) (ge := #[]) (g₀ := #[]) (de := noDraw) (d₀ := noDraw) (ke := 276) (k₀ := 276) gY' (by decide +kernel) gZ)
    gSize runAll (by decide +kernel) (fun w => by
      funext os
      exact Prod.ext (gL1 w os) (Prod.ext (gSeen w os) (gHook w os)))
end Mine
end
section
open PySem PySem.W PyProof.Rows PySem.Calls
set_option Elab.async false
set_option maxRecDepth 100000
set_option maxHeartbeats 0
namespace Mine
theorem look1 : sreFenced pw.main = true := by rw [PySem.W.Fast.te11788848310118352699]; kernel_rfl
theorem look2 : ((moduleNames pw.main.body).isEmpty || lookedIntoSs (moduleNames pw.main.body) pw.main.body) = true := by rw [PySem.W.Fast.te12862048085361865435]; kernel_rfl
theorem look3 : namesResolve pw = true := by rw [PySem.W.Fast.te8377067652309620493]; kernel_rfl
theorem look4 : (pw.boundNames.all (fun n => !worldNames.contains n)) = true := by kernel_rfl
theorem look5 : noRoadLSs { strict := !(importedModules pw.main.body).all cThrough.contains, foot := none, bare := (["vars", "dir", "locals"] : List Str).filter (readsOut pw pw.main.body) } pw.main.body = true := by
  rw [PySem.W.Fast.te8326940854005059898, PySem.W.Fast.te13343964577679436407]; kernel_rfl
theorem look6 : (namesMeet pw pw.main.body fun _ n => attrL n) = true := by rw [PySem.W.Fast.te17119622794617984870]; kernel_rfl
theorem looks : looksOpen (PySem.Challenge.rw_us0017_01.row).prog = true := by
  show looksOpen pw = true
  unfold looksOpen
  exact Bool.and_eq_true_iff.mpr ⟨Bool.and_eq_true_iff.mpr ⟨Bool.and_eq_true_iff.mpr ⟨Bool.and_eq_true_iff.mpr ⟨Bool.and_eq_true_iff.mpr ⟨look1, look2⟩, look3⟩, look4⟩, look5⟩, look6⟩
theorem said0 : OpenLaw.wellSaid PySem.Challenge.rw_us0017_01 = true := by
  unfold OpenLaw.wellSaid OpenRow.wellSaid OpenRow.partSaid
  repeat' (with_reducible refine Bool.and_eq_true_iff.mpr ⟨?_, ?_⟩)
  all_goals first | (with_reducible exact looks) | kernel_rfl
end Mine
end
section
open PySem PySem.Sre
set_option Elab.async false
namespace Mine
noncomputable def Reach (n : Nat) (m m' : M) : Prop := ∀ k, M.runFor (n + k) m = M.runFor k m'
theorem Reach.one {m m' : M} (h : m.outcome = none) (e : m.step = m') : Reach 1 m m' := fun k => by
  rw [show 1 + k = k + 1 by omega, M.runFor, h, ← e]; rfl
theorem Reach.trans {a b : Nat} {m m' m'' : M} (h : Reach a m m') (h' : Reach b m' m'') : Reach (a + b) m m'' := fun k => by
  rw [show a + b + k = a + (b + k) by omega, h, h']
theorem Reach.refl {m : M} : Reach 0 m m := fun k => by rw [Nat.zero_add]
theorem run_done {m : M} (h : m.outcome.isSome = true) : ∀ k, M.runFor k m = m
  | 0 => rfl
  | k + 1 => by rw [M.runFor, if_pos h]
theorem step_exec {m : M} (h : m.outcome = none) (ha : m.answer = none) (hp : m.pc < m.code.size) : m.step = m.exec := by
  unfold M.step
  rw [h, ha]
  simp [hp]
theorem step_back {m : M} {yes : Bool} {f : Sre.Frame} {rest : List Sre.Frame} (h : m.outcome = none) (ha : m.answer = some yes) (hf : m.frames = f :: rest) :
    m.step = M.resume { m with answer := none, frames := rest, weight := m.weight - (1 + f.kept.marks.size), pc := f.pc, pos := f.pos, outermost := f.outermost } f yes := by
  unfold M.step
  rw [h, ha, hf]
  simp
theorem step_end {m : M} {yes : Bool} (h : m.outcome = none) (ha : m.answer = some yes) (hf : m.frames = []) :
    m.step = { m with outcome := some (if yes then .matched else .failed) } := by
  unfold M.step
  rw [h, ha, hf]
  simp
theorem resume_start {m : M} {f : Sre.Frame} (hw : f.wait = .nextStart) : M.resume m f false = if f.pos < m.lastStart then M.attemptFrom { m with mustAdvance := false } (f.pos + 1) false else m.say false := by
  unfold M.resume; rw [hw]; rfl
theorem exec_at {m : M} (b : Bool) (h : m.code.getD m.pc 0 = 6) (hb : m.isAt (m.code.getD (m.pc + 1) 0) = .ok b) :
    m.exec = if b then { m with seen := (m.seen.add 6).add (43 + m.code.getD (m.pc + 1) 0), pc := m.pc + 2 } else { m with seen := (m.seen.add 6).add (43 + m.code.getD (m.pc + 1) 0), answer := some false } := by
  unfold M.exec
  have e0 : m.word 0 = 6 := h
  rw [e0]
  show (match M.isAt { m with seen := m.seen.add 6 } (m.code.getD (m.pc + 1) 0) with | .error why => _ | .ok yes => _) = _
  have e1 : M.isAt { m with seen := m.seen.add 6 } (m.code.getD (m.pc + 1) 0) = .ok b := hb
  rw [e1]
  cases b <;> rfl
theorem exec_lit {m : M} (b : Bool) (h : m.code.getD m.pc 0 = 16) (hb : (decide (m.pos < m.lim) && m.text.getD m.pos 0 == m.code.getD (m.pc + 1) 0) = b) :
    m.exec = if b then { m with seen := m.seen.add 16, pc := m.pc + 2, pos := m.pos + 1 } else { m with seen := m.seen.add 16, answer := some false } := by
  unfold M.exec
  have e0 : m.word 0 = 16 := h
  rw [e0]
  show (if m.pos ≥ m.lim then _ else _) = _
  by_cases hp : m.pos ≥ m.lim
  · rw [if_pos hp]
    have : b = false := by rw [← hb, decide_eq_false (by omega)]; rfl
    subst this; rfl
  · rw [if_neg hp]
    have hlt : decide (m.pos < m.lim) = true := decide_eq_true (by omega)
    rw [hlt, Bool.true_and] at hb
    have ea : accepts m.code m.pc (m.text.getD m.pos 0) (m.seen.add 16) = .ok (b, m.seen.add 16) := by
      unfold accepts
      rw [h]
      show Except.ok (m.text.getD m.pos 0 == m.code.getD (m.pc + 1) 0, m.seen.add 16) = _
      rw [hb]
    show (match accepts m.code m.pc (m.text.getD m.pos 0) (m.seen.add 16) with | .error why => _ | .ok (false, seen) => _ | .ok (true, seen) => _) = _
    rw [ea]
    have ew : itemWidth m.code m.pc = 2 := by unfold itemWidth; rw [h]; rfl
    cases b
    · rfl
    · show { m with seen := m.seen.add 16, pc := m.pc + itemWidth m.code m.pc, pos := m.pos + 1 } = _
      rw [ew]; rfl
theorem exec_success {m : M} (h : m.code.getD m.pc 0 = 1) (hw : m.wholeText = false) (hm : m.mustAdvance = false) : m.exec = { m with seen := m.seen.add 1, handed := m.pos, answer := some true } := by
  unfold M.exec
  have e0 : m.word 0 = 1 := h
  rw [e0]
  show (if (m.outermost && ((m.wholeText && m.pos != m.lim) || (m.mustAdvance && m.pos == m.start))) = true then _ else _) = _
  rw [hw, hm]
  simp [M.say]
noncomputable def c1 : Array Nat := #[14, 4, 0, 1, 1, 6, 1, 16, 46, 1]
noncomputable def st1 (T : Array Nat) (p : Nat) (first : Bool) (seen : Seen) : M :=
  { code := c1, text := T, lim := T.size, start := p, lastStart := T.size, pc := 5, pos := p, handed := p, outermost := first, marks := #[],
    frames := [{ wait := .nextStart, pc := 5, pos := p, outermost := first }], weight := 1, seen := seen }
noncomputable def bol (T : Array Nat) (p : Nat) : Bool := p == 0 || T.getD (p - 1) 0 == 10
noncomputable def hit1 (T : Array Nat) (p : Nat) : Bool := bol T p && T.getD p 0 == 46
theorem sre1_start (T : Array Nat) (p : Nat) (h : p < T.size) : forSearch c1 T 0 p T.size false = st1 T p true (({} : Seen).add 14) := by
  unfold forSearch
  show (if p > T.size || T.size - p < 1 then _ else _) = _
  rw [if_neg (by simp; omega)]
  rfl
theorem sre1_no (T : Array Nat) (p : Nat) (first : Bool) (seen : Seen) (h : p ≤ T.size) (hn : (decide (p < T.size) && hit1 T p) = false) :
    ∃ n, n ≤ 3 ∧ ∃ m', Reach n (st1 T p first seen) m' ∧ if p < T.size then ∃ seen', m' = st1 T (p + 1) false seen' else m'.outcome = none ∧ m'.answer = some false ∧ m'.frames = [] := by
  have back : ∀ m : M, m.outcome = none → m.answer = some false → m.frames = [({ wait := .nextStart, pc := 5, pos := p, outermost := first } : Sre.Frame)] → m.code = c1 → m.text = T → m.lim = T.size → m.lastStart = T.size → m.mustAdvance = false → m.marks = #[] → m.loops = #[] → m.inner = none → m.wholeText = false → m.weight = 1 →
      ∃ m', Reach 1 m m' ∧ if p < T.size then ∃ seen', m' = st1 T (p + 1) false seen' else m'.outcome = none ∧ m'.answer = some false ∧ m'.frames = [] := by
    intro m h1 h2 h3 h4 h5 h6 h7 h8 h9 h10 h11 h12 h13
    refine ⟨_, Reach.one h1 (step_back h1 h2 h3), ?_⟩
    obtain ⟨code, text, lim, start, lastStart, wholeText, mustAdvance, pc, pos, handed, outermost, marks, lastmark, lastindex, loops, inner, frames, weight, answer, seen, outcome⟩ := m
    dsimp only at h1 h2 h3 h4 h5 h6 h7 h8 h9 h10 h11 h12 h13
    subst h1 h2 h3 h4 h5 h6 h7 h8 h9 h10 h11 h12 h13
    rw [resume_start rfl]
    dsimp only
    by_cases hp : p < text.size
    · rw [if_pos hp, if_pos hp]
      exact ⟨seen, rfl⟩
    · rw [if_neg hp, if_neg hp]
      exact ⟨rfl, rfl, rfl⟩
  cases hb : bol T p with
  | false =>
    have e1 : (st1 T p first seen).step = { st1 T p first seen with seen := (seen.add 6).add 44, answer := some false } := by
      rw [step_exec rfl rfl (by show 5 < 10; decide), exec_at (m := st1 T p first seen) false rfl (by show Except.ok (bol T p) = _; rw [hb])]
      rfl
    obtain ⟨m', r, q⟩ := back { st1 T p first seen with seen := (seen.add 6).add 44, answer := some false } rfl rfl rfl rfl rfl rfl rfl rfl rfl rfl rfl rfl rfl
    exact ⟨2, by omega, m', (Reach.one rfl e1).trans r, q⟩
  | true =>
    have e1 : (st1 T p first seen).step = { st1 T p first seen with seen := (seen.add 6).add 44, pc := 7 } := by
      rw [step_exec rfl rfl (by show 5 < 10; decide), exec_at (m := st1 T p first seen) true rfl (by show Except.ok (bol T p) = _; rw [hb])]
      rfl
    have hl : (decide (p < T.size) && T.getD p 0 == 46) = false := by
      unfold hit1 at hn; rw [hb, Bool.true_and] at hn; exact hn
    have e2 : M.step { st1 T p first seen with seen := (seen.add 6).add 44, pc := 7 } = { st1 T p first seen with seen := ((seen.add 6).add 44).add 16, pc := 7, answer := some false } := by
      rw [step_exec rfl rfl (by show 7 < 10; decide), exec_lit (m := { st1 T p first seen with seen := (seen.add 6).add 44, pc := 7 }) false rfl hl]
      rfl
    obtain ⟨m', r, q⟩ := back { st1 T p first seen with seen := ((seen.add 6).add 44).add 16, pc := 7, answer := some false } rfl rfl rfl rfl rfl rfl rfl rfl rfl rfl rfl rfl rfl
    exact ⟨3, by omega, m', ((Reach.one rfl e1).trans (Reach.one rfl e2)).trans r, q⟩
theorem sre1_yes (T : Array Nat) (p : Nat) (first : Bool) (seen : Seen) (h : p < T.size) (hy : hit1 T p = true) :
    ∃ m', Reach 5 (st1 T p first seen) m' ∧ (∃ s, m'.outcome = some s ∧ s = .matched) ∧ m'.start = p ∧ m'.handed = p + 1 := by
  unfold hit1 at hy
  rw [Bool.and_eq_true] at hy
  have e1 : (st1 T p first seen).step = { st1 T p first seen with seen := (seen.add 6).add 44, pc := 7 } := by
    rw [step_exec rfl rfl (by show 5 < 10; decide), exec_at (m := st1 T p first seen) true rfl (by show Except.ok (bol T p) = _; rw [hy.1])]
    rfl
  have e2 : M.step { st1 T p first seen with seen := (seen.add 6).add 44, pc := 7 } = { st1 T p first seen with seen := ((seen.add 6).add 44).add 16, pc := 9, pos := p + 1 } := by
    rw [step_exec rfl rfl (by show 7 < 10; decide), exec_lit (m := { st1 T p first seen with seen := (seen.add 6).add 44, pc := 7 }) true rfl (by show (decide (p < T.size) && T.getD p 0 == 46) = true; rw [hy.2, decide_eq_true h]; rfl)]
    rfl
  have e3 : M.step { st1 T p first seen with seen := ((seen.add 6).add 44).add 16, pc := 9, pos := p + 1 } = { st1 T p first seen with seen := (((seen.add 6).add 44).add 16).add 1, pc := 9, pos := p + 1, handed := p + 1, answer := some true } := by
    rw [step_exec rfl rfl (by show 9 < 10; decide), exec_success (m := { st1 T p first seen with seen := ((seen.add 6).add 44).add 16, pc := 9, pos := p + 1 }) rfl rfl rfl]
  have e4 : M.step { st1 T p first seen with seen := (((seen.add 6).add 44).add 16).add 1, pc := 9, pos := p + 1, handed := p + 1, answer := some true } = { st1 T p first seen with seen := (((seen.add 6).add 44).add 16).add 1, handed := p + 1, answer := some true, frames := [], weight := 0 } := by
    exact step_back (yes := true) (f := { wait := .nextStart, pc := 5, pos := p, outermost := first }) (rest := []) rfl rfl rfl
  refine ⟨_, ((((Reach.one rfl e1).trans (Reach.one rfl e2)).trans (Reach.one rfl e3)).trans (Reach.one rfl e4)).trans (Reach.one rfl (step_end (yes := true) rfl rfl rfl)), ⟨_, rfl, rfl⟩, rfl, rfl⟩
theorem sre1_go (T : Array Nat) : ∀ (d p : Nat) (first : Bool) (seen : Seen), p + d = T.size →
    ∃ n, n ≤ 3 * d + 5 ∧ ∃ m', Reach n (st1 T p first seen) m' ∧
      ((∃ q, p ≤ q ∧ q < T.size ∧ hit1 T q = true ∧ (∀ i, p ≤ i → i < q → hit1 T i = false) ∧ m'.outcome = some .matched ∧ m'.start = q ∧ m'.handed = q + 1) ∨
       ((∀ i, p ≤ i → i < T.size → hit1 T i = false) ∧ m'.outcome = some .failed))
  | 0, p, first, seen, h => by
    obtain ⟨n, hn, m', r, q⟩ := sre1_no T p first seen (by omega) (by rw [decide_eq_false (by omega)]; rfl)
    rw [if_neg (by omega)] at q
    refine ⟨n + 1, by omega, _, r.trans (Reach.one q.1 (step_end q.1 q.2.1 q.2.2)), .inr ⟨fun i h1 h2 => by omega, rfl⟩⟩
  | d + 1, p, first, seen, h => by
    cases hy : hit1 T p with
    | true =>
      obtain ⟨m', r, ⟨s, o, rfl⟩, a, b⟩ := sre1_yes T p first seen (by omega) hy
      exact ⟨5, by omega, m', r, .inl ⟨p, Nat.le_refl _, by omega, hy, fun i h1 h2 => by omega, o, a, b⟩⟩
    | false =>
      obtain ⟨n, hn, m', r, q⟩ := sre1_no T p first seen (by omega) (by rw [hy, Bool.and_false])
      rw [if_pos (by omega)] at q
      obtain ⟨seen', rfl⟩ := q
      obtain ⟨n2, hn2, m2, r2, q2⟩ := sre1_go T d (p + 1) false seen' (by omega)
      refine ⟨n + n2, by omega, m2, r.trans r2, ?_⟩
      rcases q2 with ⟨q, h1, h2, h3, h4, h5⟩ | ⟨h1, h2⟩
      · refine .inl ⟨q, by omega, h2, h3, fun i a b => ?_, h5⟩
        by_cases e : i = p
        · rw [e]; exact hy
        · exact h4 i (by omega) b
      · refine .inr ⟨fun i a b => ?_, h2⟩
        by_cases e : i = p
        · rw [e]; exact hy
        · exact h1 i (by omega) b
theorem sre1 (T : Array Nat) (p : Nat) (h : p ≤ T.size) :
    ∃ n, n ≤ 3 * T.size + 5 ∧ ∃ m', Reach n (forSearch c1 T 0 p T.size false) m' ∧
      ((∃ q, p ≤ q ∧ q < T.size ∧ hit1 T q = true ∧ (∀ i, p ≤ i → i < q → hit1 T i = false) ∧ m'.outcome = some .matched ∧ m'.start = q ∧ m'.handed = q + 1) ∨
       ((∀ i, p ≤ i → i < T.size → hit1 T i = false) ∧ m'.outcome = some .failed)) := by
  by_cases hp : p < T.size
  · rw [sre1_start T p hp]
    obtain ⟨n, hn, r⟩ := sre1_go T (T.size - p) p true (({} : Seen).add 14) (by omega)
    exact ⟨n, by omega, r⟩
  · obtain rfl : p = T.size := by omega
    obtain ⟨m, e, h1, h2⟩ : ∃ m : M, forSearch c1 T 0 T.size T.size false = m.say false ∧ m.outcome = none ∧ m.frames = [] := by
      unfold forSearch
      exact ⟨_, if_pos (show (decide (T.size > T.size) || decide (T.size - T.size < 1)) = true by simp), rfl, rfl⟩
    rw [e]
    exact ⟨1, by omega, _, Reach.one (m := m.say false) h1 (step_end (m := m.say false) (yes := false) h1 rfl h2), .inr ⟨fun i a b => by omega, rfl⟩⟩
end Mine
end
section
open PySem PySem.Sre
set_option Elab.async false
namespace Mine
theorem exec_jump {m : M} (h : m.code.getD m.pc 0 = 15) : m.exec = { m with seen := m.seen.add 15, pc := m.pc + 1 + m.code.getD (m.pc + 1) 0 } := by
  unfold M.exec
  have e0 : m.word 0 = 15 := h
  rw [e0]; rfl
theorem exec_branch {m : M} (h : m.code.getD m.pc 0 = 7) : m.exec = M.alternative { m with seen := m.seen.add 7 } (m.pc + 1) (M.keep m m.inner.isSome) := by
  unfold M.exec
  have e0 : m.word 0 = 7 := h
  rw [e0]; rfl
theorem exec_assert_not {m : M} (h : m.code.getD m.pc 0 = 5) (h2 : m.code.getD (m.pc + 2) 0 = 0) :
    m.exec = M.attempt { m with seen := m.seen.add 5 } { M.frame m .lookNot with kept := M.keep m (true && m.inner.isSome) } (m.pc + 3) m.pos false := by
  unfold M.exec
  have e0 : m.word 0 = 5 := h
  rw [e0]
  show (if m.pos < m.word 2 then _ else _) = _
  have e2 : m.word 2 = 0 := h2
  rw [e2, if_neg (Nat.not_lt_zero _)]
  show M.attempt _ _ _ (m.pos - m.word 2) false = _
  rw [e2]; rfl
theorem resume_branch_no {m : M} {f : Sre.Frame} (hw : f.wait = .nextBranch) : M.resume m f false = (m.putBack f.kept).alternative (f.pc + m.code.getD f.pc 0) f.kept := by
  unfold M.resume; rw [hw]; rfl
theorem resume_look_no {m : M} {f : Sre.Frame} (hw : f.wait = .lookNot) : M.resume m f false = { m.putBack f.kept with pc := m.pc + 1 + m.word 1 } := by
  unfold M.resume; rw [hw]; rfl
noncomputable def c2 : Array Nat := #[14, 9, 4, 1, 2, 16, 10, 16, 13, 0, 7, 7, 16, 13, 16, 10, 15, 18, 5, 16, 10, 15, 13, 11, 16, 13, 5, 5, 0, 16, 10, 1, 15, 2, 0, 1]
noncomputable def k0 : Sre.Kept := { lastmark := -1, lastindex := -1, whole := false, marks := #[] }
noncomputable def fs (q : Nat) (first : Bool) : Sre.Frame := { wait := .nextStart, pc := 10, pos := q, outermost := first }
noncomputable def fb (a q : Nat) (first : Bool) : Sre.Frame := { wait := .nextBranch, pc := a, pos := q, outermost := first, kept := k0 }
noncomputable def fl (a q : Nat) (first : Bool) : Sre.Frame := { wait := .lookNot, pc := a, pos := q, outermost := first, kept := k0 }
noncomputable def st2 (T : Array Nat) (start : Nat) (pc pos handed : Nat) (out : Bool) (frames : List Sre.Frame) (answer : Option Bool) (seen : Seen) : M :=
  { code := c2, text := T, lim := T.size, start := start, lastStart := T.size, pc := pc, pos := pos, handed := handed, outermost := out, marks := #[], frames := frames, weight := frames.length, answer := answer, seen := seen }
noncomputable def hit2 (T : Array Nat) (p : Nat) : Bool := T.getD p 0 == 10 || T.getD p 0 == 13
section
variable (T : Array Nat) (q : Nat) (first : Bool)
theorem s2_branch (seen : Seen) (hd : Nat) : M.step (st2 T q 10 q hd first [fs q first] none seen) = st2 T q 12 q q first [fb 11 q first, fs q first] none (seen.add 7) := by
  rw [step_exec rfl rfl (by show 10 < 36; decide), exec_branch rfl]; rfl
theorem s2_lit (b : Bool) (c pc p hd : Nat) (out : Bool) (fr : List Sre.Frame) (seen : Seen) (hpc : pc < 36) (h : c2.getD pc 0 = 16) (hc : c2.getD (pc + 1) 0 = c) (hb : (decide (p < T.size) && T.getD p 0 == c) = b) :
    M.step (st2 T q pc p hd out fr none seen) = if b then st2 T q (pc + 2) (p + 1) hd out fr none (seen.add 16) else st2 T q pc p hd out fr (some false) (seen.add 16) := by
  rw [step_exec rfl rfl hpc, exec_lit (m := st2 T q pc p hd out fr none seen) b h (by rw [← hb, ← hc]; rfl)]
  rfl
theorem s2_jump (pc p hd : Nat) (out : Bool) (fr : List Sre.Frame) (seen : Seen) (hpc : pc < 36) (h : c2.getD pc 0 = 15) (to : Nat) (ht : pc + 1 + c2.getD (pc + 1) 0 = to) :
    M.step (st2 T q pc p hd out fr none seen) = st2 T q to p hd out fr none (seen.add 15) := by
  rw [step_exec rfl rfl hpc, exec_jump (m := st2 T q pc p hd out fr none seen) h, ← ht]
  rfl
theorem s2_success (p hd : Nat) (out : Bool) (fr : List Sre.Frame) (seen : Seen) :
    M.step (st2 T q 35 p hd out fr none seen) = st2 T q 35 p p out fr (some true) (seen.add 1) := by
  rw [step_exec rfl rfl (by show 35 < 36; decide), exec_success (m := st2 T q 35 p hd out fr none seen) rfl rfl rfl]
  rfl
theorem s2_yes_branch (a pc p hd : Nat) (out : Bool) (fr : List Sre.Frame) (seen : Seen) :
    M.step (st2 T q pc p hd out (fb a q first :: fr) (some true) seen) = st2 T q a q hd first fr (some true) seen := by
  rw [step_back (yes := true) (f := fb a q first) (rest := fr) rfl rfl rfl]
  show M.say _ true = _
  unfold M.say st2
  congr 1
theorem s2_yes_start (pc p hd : Nat) (out : Bool) (seen : Seen) :
    M.step (st2 T q pc p hd out [fs q first] (some true) seen) = st2 T q 10 q hd first [] (some true) seen := by
  rw [step_back (yes := true) (f := fs q first) (rest := []) rfl rfl rfl]
  rfl
theorem s2_no_branch (a a' pc p hd : Nat) (out : Bool) (fr : List Sre.Frame) (seen : Seen) (ha : a + c2.getD a 0 = a') (h0 : (c2.getD a' 0 == 0) = false) (hsz : fr.length < 100) :
    M.step (st2 T q pc p hd out (fb a q first :: fr) (some false) seen) = st2 T q (a' + 1) q q first (fb a' q first :: fr) none seen := by
  rw [step_back (yes := false) (f := fb a q first) (rest := fr) rfl rfl rfl, resume_branch_no rfl]
  show M.alternative _ (a + c2.getD a 0) _ = _
  rw [ha]
  unfold M.alternative
  show (if (c2.getD a' 0 == 0) = true then _ else _) = _
  rw [h0, if_neg (by decide)]
  unfold M.attempt
  have hw : (List.length (fb a q first :: fr)) - (1 + (#[] : Array (Option Nat)).size) = fr.length := by simp
  show (if (List.length (fb a q first :: fr)) - (1 + (#[] : Array (Option Nat)).size) + 1 + 0 > 16777216 then _ else _) = _
  rw [hw, if_neg (by omega)]
  unfold st2
  congr 1
theorem s2_assert (pc p hd : Nat) (out : Bool) (fr : List Sre.Frame) (seen : Seen) (hpc : pc < 36) (h : c2.getD pc 0 = 5) (h2 : c2.getD (pc + 2) 0 = 0) (hsz : fr.length < 100) :
    M.step (st2 T q pc p hd out fr none seen) = st2 T q (pc + 3) p p false (fl pc p out :: fr) none (seen.add 5) := by
  rw [step_exec rfl rfl hpc, exec_assert_not (m := st2 T q pc p hd out fr none seen) h h2]
  unfold M.attempt
  show (if fr.length + 1 + 0 > 16777216 then _ else _) = _
  rw [if_neg (by omega)]
  rfl
theorem s2_no_look (a p pc p' hd : Nat) (out o : Bool) (fr : List Sre.Frame) (seen : Seen) (to : Nat) (ht : a + 1 + c2.getD (a + 1) 0 = to) :
    M.step (st2 T q pc p' hd out (fl a p o :: fr) (some false) seen) = st2 T q to p hd o fr none seen := by
  rw [step_back (yes := false) (f := fl a p o) (rest := fr) rfl rfl rfl, resume_look_no rfl, ← ht]
  unfold st2
  show M.mk _ _ _ _ _ _ _ _ _ _ _ _ _ _ _ _ _ _ _ _ _ = _
  congr 1
end
theorem Reach.cons {n : Nat} {m m' m'' : M} (h : m.outcome = none) (e : m.step = m') (r : Reach n m' m'') : Reach (n + 1) m m'' := by
  rw [Nat.add_comm]; exact (Reach.one h e).trans r
theorem sre2_end (T : Array Nat) (q p hd : Nat) (first : Bool) (a : Nat) (seen : Seen) : ∃ m', Reach 4 (st2 T q 35 p hd first [fb a q first, fs q first] none seen) m' ∧ m'.outcome = some .matched ∧ m'.start = q ∧ m'.handed = p :=
  ⟨_, Reach.cons rfl (s2_success T q p hd first _ seen) (Reach.cons rfl (s2_yes_branch T q first a 35 p p first _ _) (Reach.cons rfl (s2_yes_start T q first _ _ _ _ _) (Reach.cons rfl (step_end (yes := true) rfl rfl rfl) Reach.refl))), rfl, rfl, rfl⟩
theorem sre2_match (T : Array Nat) (q hd : Nat) (first : Bool) (seen : Seen) (h : q < T.size) (hh : hit2 T q = true) :
    ∃ n, n ≤ 20 ∧ ∃ m', Reach n (st2 T q 10 q hd first [fs q first] none seen) m' ∧ m'.outcome = some .matched ∧ m'.start = q ∧ m'.handed = (if T.getD q 0 == 13 && (decide (q + 1 < T.size) && T.getD (q + 1) 0 == 10) then q + 2 else q + 1) := by
  by_cases h13 : T.getD q 0 = 13
  · have b13 : (decide (q < T.size) && T.getD q 0 == 13) = true := by rw [h13, decide_eq_true h]; rfl
    have b10 : (decide (q < T.size) && T.getD q 0 == 10) = false := by rw [h13]; simp
    have e13 : (T.getD q 0 == 13) = true := by rw [h13]; rfl
    cases b2 : (decide (q + 1 < T.size) && T.getD (q + 1) 0 == 10) with
    | true =>
      obtain ⟨m', r, a, b, c⟩ := sre2_end T q (q + 2) q first 11 (((((seen.add 7)).add 16).add 16).add 15)
      refine ⟨8, by omega, m', ?_, a, b, by rw [e13, c]; rfl⟩
      refine Reach.cons rfl (s2_branch T q first seen hd) (Reach.cons rfl (s2_lit T q true 13 12 q q first _ _ (by decide) rfl rfl b13) (Reach.cons rfl (s2_lit T q true 10 14 (q + 1) q first _ _ (by decide) rfl rfl b2) (Reach.cons rfl (s2_jump T q 16 (q + 2) q first _ _ (by decide) rfl 35 rfl) r)))
    | false =>
      have hd2 : ∀ seen, ∃ m', Reach 4 (st2 T q 35 (q + 1) (q + 1) first [fb 23 q first, fs q first] none seen) m' ∧ m'.outcome = some .matched ∧ m'.start = q ∧ m'.handed = q + 1 := fun seen => sre2_end T q (q + 1) (q + 1) first 23 seen
      have key : ∀ m0, (∃ m', Reach 15 m0 m' ∧ m'.outcome = some .matched ∧ m'.start = q ∧ m'.handed = q + 1) → ∃ n, n ≤ 20 ∧ ∃ m', Reach n m0 m' ∧ m'.outcome = some .matched ∧ m'.start = q ∧ m'.handed = (if T.getD q 0 == 13 && false then q + 2 else q + 1) := fun m0 ⟨m', r, a, b, c⟩ => ⟨15, by omega, m', r, a, b, by rw [Bool.and_false, c]; rfl⟩
      refine key _ ?_
      obtain ⟨m', r, a, b, c⟩ := hd2 _
      exact ⟨m', Reach.cons rfl (s2_branch T q first seen hd) (Reach.cons rfl (s2_lit T q true 13 12 q q first _ _ (by decide) rfl rfl b13) (Reach.cons rfl (s2_lit T q false 10 14 (q + 1) q first _ _ (by decide) rfl rfl b2)
        (Reach.cons rfl (s2_no_branch T q first 11 18 14 (q + 1) q first [fs q first] _ rfl rfl (by show 1 < 100; decide)) (Reach.cons rfl (s2_lit T q false 10 19 q q first _ _ (by decide) rfl rfl b10)
        (Reach.cons rfl (s2_no_branch T q first 18 23 19 q q first [fs q first] _ rfl rfl (by show 1 < 100; decide)) (Reach.cons rfl (s2_lit T q true 13 24 q q first _ _ (by decide) rfl rfl b13)
        (Reach.cons rfl (s2_assert T q 26 (q + 1) q first _ _ (by decide) rfl rfl (by show 2 < 100; decide)) (Reach.cons rfl (s2_lit T q false 10 29 (q + 1) (q + 1) false _ _ (by decide) rfl rfl b2)
        (Reach.cons rfl (s2_no_look T q 26 (q + 1) 29 (q + 1) (q + 1) false first _ _ 32 rfl) (Reach.cons rfl (s2_jump T q 32 (q + 1) (q + 1) first _ _ (by decide) rfl 35 rfl) r)))))))))), a, b, c⟩
  · have h10 : T.getD q 0 = 10 := by
      unfold hit2 at hh; simp only [Bool.or_eq_true, beq_iff_eq] at hh
      rcases hh with h | h
      · exact h
      · exact absurd h h13
    have b13 : (decide (q < T.size) && T.getD q 0 == 13) = false := by rw [h10]; simp
    have b10 : (decide (q < T.size) && T.getD q 0 == 10) = true := by rw [h10, decide_eq_true h]; rfl
    have e13 : (T.getD q 0 == 13) = false := by rw [h10]; rfl
    obtain ⟨m', r, a, b, c⟩ := sre2_end T q (q + 1) q first 18 _
    exact ⟨9, by omega, m', Reach.cons rfl (s2_branch T q first seen hd) (Reach.cons rfl (s2_lit T q false 13 12 q q first _ _ (by decide) rfl rfl b13)
      (Reach.cons rfl (s2_no_branch T q first 11 18 12 q q first [fs q first] _ rfl rfl (by show 1 < 100; decide)) (Reach.cons rfl (s2_lit T q true 10 19 q q first _ _ (by decide) rfl rfl b10) (Reach.cons rfl (s2_jump T q 21 (q + 1) q first _ _ (by decide) rfl 35 rfl) r)))), a, b, by rw [e13, c]; rfl⟩
end Mine
end
section
open PySem PySem.Sre
set_option Elab.async false
namespace Mine
theorem inSet2 (c : Nat) (seen : Seen) : ∃ seen', inSet c2 c c2.size 5 true seen = .ok (c == 10 || c == 13, seen') := by
  by_cases h1 : (c == 10) = true
  · refine ⟨seen.add 16, ?_⟩
    show (if (c == 10) = true then _ else _) = _
    rw [if_pos h1, h1]; rfl
  · by_cases h2 : (c == 13) = true
    · refine ⟨(seen.add 16).add 16, ?_⟩
      show (if (c == 10) = true then _ else (if (c == 13) = true then _ else _)) = _
      rw [if_neg h1, if_pos h2, h2, Bool.or_true]; rfl
    · refine ⟨((seen.add 16).add 16).add 0, ?_⟩
      show (if (c == 10) = true then _ else (if (c == 13) = true then _ else _)) = _
      rw [if_neg h1, if_neg h2, Bool.not_eq_true _ |>.mp h1, Bool.not_eq_true _ |>.mp h2]
      rfl
theorem admitted2 (T : Array Nat) (m : M) (hc : m.code = c2) (ht : m.text = T) (hl : m.lim = T.size) : ∀ (fuel s : Nat) (seen : Seen), T.size < fuel + s →
    (∃ q seen', s ≤ q ∧ q < T.size ∧ hit2 T q = true ∧ (∀ i, s ≤ i → i < q → hit2 T i = false) ∧ M.admitted m fuel s seen = .ok (some q, seen')) ∨
    (∃ seen', (∀ i, s ≤ i → i < T.size → hit2 T i = false) ∧ M.admitted m fuel s seen = .ok (none, seen'))
  | 0, s, seen, h => .inr ⟨seen, fun i a b => by omega, rfl⟩
  | fuel + 1, s, seen, h => by
    unfold M.admitted
    rw [hl]
    by_cases hs : s ≥ T.size
    · rw [if_pos hs]
      exact .inr ⟨seen, fun i a b => by omega, rfl⟩
    · rw [if_neg hs, hc, ht]
      obtain ⟨seen', e⟩ := inSet2 (T.getD s 0) seen
      rw [e]
      cases hh : hit2 T s with
      | true =>
        have hh' : (T.getD s 0 == 10 || T.getD s 0 == 13) = true := hh
        rw [hh']
        exact .inl ⟨s, seen', Nat.le_refl _, by omega, hh, fun i a b => by omega, rfl⟩
      | false =>
        have hh' : (T.getD s 0 == 10 || T.getD s 0 == 13) = false := hh
        rw [hh']
        rcases admitted2 T m hc ht hl fuel (s + 1) seen' (by omega) with ⟨q, seen2, a, b, c, d, e⟩ | ⟨seen2, a, b⟩
        · refine .inl ⟨q, seen2, by omega, b, c, fun i x y => ?_, e⟩
          by_cases ei : i = s
          · rw [ei]; exact hh
          · exact d i (by omega) y
        · refine .inr ⟨seen2, fun i x y => ?_, b⟩
          by_cases ei : i = s
          · rw [ei]; exact hh
          · exact a i (by omega) y
noncomputable def nxt2 (T : Array Nat) (q : Nat) : Nat := if T.getD q 0 == 13 && (decide (q + 1 < T.size) && T.getD (q + 1) 0 == 10) then q + 2 else q + 1
noncomputable def SearchOK (code T : Array Nat) (hit : Nat → Bool) (nxt : Nat → Nat) : Prop := ∀ s, s ≤ T.size → ∃ n, n ≤ 3 * T.size + 30 ∧ ∃ m', Reach n (forSearch code T 0 s T.size false) m' ∧
  ((∃ q, s ≤ q ∧ q < T.size ∧ hit q = true ∧ (∀ i, s ≤ i → i < q → hit i = false) ∧ m'.outcome = some .matched ∧ m'.start = q ∧ m'.handed = nxt q) ∨
   ((∀ i, s ≤ i → i < T.size → hit i = false) ∧ m'.outcome = some .failed))
theorem search1 (T : Array Nat) : SearchOK c1 T (hit1 T) (fun q => q + 1) := fun s h => by
  obtain ⟨n, hn, r⟩ := sre1 T s h
  exact ⟨n, by omega, r⟩
theorem search2 (T : Array Nat) : SearchOK c2 T (hit2 T) (nxt2 T) := fun s h => by
  by_cases hs : s < T.size
  · have e : ∃ m : M, m.code = c2 ∧ m.text = T ∧ m.lim = T.size ∧ (∀ q seen, M.attemptAt { m with mustAdvance := false, seen := seen } q true = st2 T q 10 q q true [fs q true] none seen) ∧ (∀ seen, (M.say { m with seen := seen } false).outcome = none ∧ (M.say { m with seen := seen } false).frames = []) ∧
        forSearch c2 T 0 s T.size false = (match M.admitted m (T.size + 1 - s) s (({} : Seen).add 14) with | .ok (some q, seen) => M.attemptAt { m with mustAdvance := false, seen := seen } q true | .ok (none, seen) => M.say { m with seen := seen } false | .error why => m.stick why) := by
      unfold forSearch
      refine ⟨_, ?_, ?_, ?_, ?_, ?_, (if_neg (show ¬ (decide (s > T.size) || decide (T.size - s < 1)) = true by simp; omega)).trans rfl⟩
      · rfl
      · rfl
      · rfl
      · intro q seen; rfl
      · intro seen; exact ⟨rfl, rfl⟩
    obtain ⟨m, hc, ht, hl, ha, hn, e⟩ := e
    rw [e]
    rcases admitted2 T m hc ht hl (T.size + 1 - s) s (({} : Seen).add 14) (by omega) with ⟨q, seen', a, b, c, d, e'⟩ | ⟨seen', a, e'⟩
    · rw [e']
      show ∃ n, n ≤ _ ∧ ∃ m', Reach n (M.attemptAt { m with mustAdvance := false, seen := seen' } q true) m' ∧ _
      rw [ha q seen']
      obtain ⟨n, hn', m', r, o, x, y⟩ := sre2_match T q q true seen' b c
      exact ⟨n, by omega, m', r, .inl ⟨q, a, b, c, d, o, x, y⟩⟩
    · rw [e']
      show ∃ n, n ≤ _ ∧ ∃ m', Reach n (M.say { m with seen := seen' } false) m' ∧ _
      exact ⟨1, by omega, _, Reach.one (hn seen').1 (step_end (m := M.say { m with seen := seen' } false) (yes := false) (hn seen').1 rfl (hn seen').2), .inr ⟨a, rfl⟩⟩
  · obtain rfl : s = T.size := by omega
    obtain ⟨m, e, h1, h2⟩ : ∃ m : M, forSearch c2 T 0 T.size T.size false = m.say false ∧ m.outcome = none ∧ m.frames = [] := by
      unfold forSearch
      exact ⟨_, if_pos (show (decide (T.size > T.size) || decide (T.size - T.size < 1)) = true by simp), rfl, rfl⟩
    rw [e]
    exact ⟨1, by omega, _, Reach.one (m := m.say false) h1 (step_end (m := m.say false) (yes := false) h1 rfl h2), .inr ⟨fun i a b => by omega, rfl⟩⟩
section
variable {M' : Model} {A : Around} {E : Value → Shared → Prop} {s : Shared}
open Builtin.Re
theorem run_add : ∀ (a b : Nat) (m : M), M.runFor (a + b) m = M.runFor b (M.runFor a m)
  | 0, b, m => by rw [Nat.zero_add]; rfl
  | a + 1, b, m => by
    rw [show a + 1 + b = (a + b) + 1 by omega, M.runFor, M.runFor]
    by_cases h : m.outcome.isSome = true
    · rw [if_pos h, if_pos h, run_done h]
    · rw [if_neg h, if_neg h]; exact run_add a b _
theorem drive_ok {Q : M → Shared → Prop} : ∀ (turns : Nat) (m m' : M) (n : Nat), n ≤ 4 * turns → 0 < turns → Reach n m m' → m'.outcome.isSome = true → Q m' s → wpAny M' A (reDrive turns m) Q E s
  | 0, _, _, _, _, h0, _, _, _ => by omega
  | turns + 1, m, m', n, hn, _, r, ho, hq => by
    unfold reDrive
    show wpAny M' A (if (m.runFor 4).outcome.isSome = true then pure (m.runFor 4) else (do rule "sre.turn"; reDrive turns (m.runFor 4))) Q E s
    have hend : M.runFor n m = m' := by have := r 0; rw [Nat.add_zero] at this; rw [this]; exact run_done ho 0
    by_cases hi : (m.runFor 4).outcome.isSome = true
    · rw [if_pos hi]
      have : m.runFor 4 = m' := by
        by_cases h4 : n ≤ 4
        · have := r (4 - n)
          rw [show n + (4 - n) = 4 by omega] at this
          rw [this]; exact run_done ho _
        · rw [← hend, show n = 4 + (n - 4) by omega, run_add, run_done hi]
      rw [this]
      exact wpAny_pure hq
    · rw [if_neg hi]
      have h4 : 4 < n := by
        rcases Nat.lt_or_ge 4 n with h | h
        · exact h
        · exfalso
          have := r (4 - n)
          rw [show n + (4 - n) = 4 by omega, run_done ho] at this
          rw [this] at hi; exact hi ho
      refine wpAny_bind (wpAny_rule ?_)
      refine drive_ok turns (m.runFor 4) m' (n - 4) (by omega) (by omega) (fun k => ?_) ho hq
      rw [← run_add, show 4 + (n - 4 + k) = n + k by omega]
      exact r k
theorem runToEnd_ok {Q : Option M → Shared → Prop} {m m' : M} {n : Nat} (hn : n ≤ 2 ^ 65) (r : Reach n m m') (h : (m'.outcome = some .matched ∧ Q (some m') s) ∨ (m'.outcome = some .failed ∧ Q none s)) : wpAny M' A (reRunToEnd m) Q E s := by
  unfold reRunToEnd
  refine wpAny_bind (drive_ok (2 ^ 64) m m' n (by omega) (by decide) r (by rcases h with ⟨h, _⟩ | ⟨h, _⟩ <;> rw [h] <;> rfl) ?_)
  refine wpAny_bind (wpAny_mono (wpAny_forIn_list (s := s) _ (fun _ _ s' => s' = s) (fun _ s' => s' = s) ?_ (fun _ _ x => x) _ _ rfl) ?_ fun _ _ x => x)
  · intro x rest b s' e
    split
    · exact wpAny_bind (wpAny_rule (wpAny_pure e))
    · exact wpAny_pure e
  · intro _ s' e
    subst e
    rcases h with ⟨h, q⟩ | ⟨h, q⟩
    · rw [h]; exact wpAny_pure q
    · rw [h]; exact wpAny_pure q
end
end Mine
end
section
open PySem PySem.Sre PyProof.Rows
set_option Elab.async false
set_option maxRecDepth 100000
namespace Mine
theorem entry_subloop : entryFor table "re.Pattern.sub.loop" = some Builtin.«re.Pattern.sub.loop» := entryFor_of_fast (by kernel_rfl)
theorem entry_sub : entryFor table "re.Pattern.sub" = some Builtin.«re.Pattern.sub» := entryFor_of_fast (by kernel_rfl)
open Builtin.Re
noncomputable def PatAt (h : Heap) (pa tup : Addr) (code : Array Nat) : Prop := ∃ po fs to n items, h.get? pa = some po ∧ po.cls = .type "re.Pattern" ∧ po.data = .fields fs ∧ fs.getD 5 .none = .ref tup ∧ reRawNat (fs.getD 6 .none) = 0 ∧ reRawNat (fs.getD 2 .none) = 0 ∧ h.get? tup = some to ∧ to.data = .seq items n ∧ (items.map reRawOf).map (·.toNat) = code
inductive SubR (T : Array Nat) (hit : Nat → Bool) (nxt : Nat → Nat) (rp : List Nat) : Nat → List Nat → Prop
  | done {p : Nat} : T.size ≤ p → SubR T hit nxt rp p []
  | hit {p : Nat} {out : List Nat} : p < T.size → hit p = true → SubR T hit nxt rp (nxt p) out → SubR T hit nxt rp p (rp ++ out)
  | keep {p : Nat} {out : List Nat} : p < T.size → hit p = false → SubR T hit nxt rp (p + 1) out → SubR T hit nxt rp p (T.getD p 0 :: out)
theorem slice_cons (T : Array Nat) {p q : Nat} (h : p < q) (hq : q ≤ T.size) : (T.extract p q).toList = T.getD p 0 :: (T.extract (p + 1) q).toList := by
  have hp : p < T.size := by omega
  simp only [Array.toList_extract]
  rw [List.extract_eq_drop_take, List.extract_eq_drop_take, show q - p = (q - (p + 1)) + 1 by omega, ← List.getElem_cons_drop (as := T.toList) (i := p) (by simpa using hp), List.take_succ_cons]
  simp [Array.getD, hp]
theorem SubR.found {T : Array Nat} {hit : Nat → Bool} {nxt : Nat → Nat} {rp : List Nat} : ∀ (d p q : Nat) (out : List Nat), p + d = q → q < T.size → hit q = true → (∀ i, p ≤ i → i < q → hit i = false) → SubR T hit nxt rp p out →
    ∃ rest, out = (T.extract p q).toList ++ (rp ++ rest) ∧ SubR T hit nxt rp (nxt q) rest
  | 0, p, q, out, e, hq, hh, hn, r => by
    obtain rfl : p = q := by omega
    cases r with
    | done h => omega
    | hit _ _ r => exact ⟨_, by simp, r⟩
    | keep _ h _ => rw [hh] at h; cases h
  | d + 1, p, q, out, e, hq, hh, hn, r => by
    have hp := hn p (Nat.le_refl _) (by omega)
    cases r with
    | done h => omega
    | hit _ h _ => rw [hp] at h; cases h
    | keep _ _ r =>
      obtain ⟨rest, rfl, r'⟩ := SubR.found d (p + 1) q _ (by omega) hq hh (fun i a b => hn i (by omega) b) r
      exact ⟨rest, by rw [slice_cons T (p := p) (q := q) (by omega) (by omega)]; rfl, r'⟩
theorem SubR.end {T : Array Nat} {hit : Nat → Bool} {nxt : Nat → Nat} {rp : List Nat} : ∀ (d p : Nat) (out : List Nat), p + d = T.size → (∀ i, p ≤ i → i < T.size → hit i = false) → SubR T hit nxt rp p out → out = (T.extract p T.size).toList
  | 0, p, out, e, hn, r => by
    cases r with
    | done h => rw [show p = T.size by omega]; simp
    | hit h _ _ => omega
    | keep h _ _ => omega
  | d + 1, p, out, e, hn, r => by
    have hp := hn p (Nat.le_refl _) (by omega)
    cases r with
    | done h => omega
    | hit _ h _ => rw [hp] at h; cases h
    | keep _ _ r =>
      rw [SubR.end d (p + 1) _ (by omega) (fun i a b => hn i (by omega) b) r, slice_cons T (p := p) (q := T.size) (by omega) (Nat.le_refl _)]
noncomputable def flatS (ss : List PySem.Str) : List Nat := ss.flatMap (·.cps.toList)
theorem join_flat : ∀ ss : List PySem.Str, PySem.Str.join ⟨#[]⟩ ss = ⟨(flatS ss).toArray⟩
  | [] => rfl
  | [x] => by simp [PySem.Str.join, flatS]
  | x :: y :: r => by
    show x ++ ⟨#[]⟩ ++ PySem.Str.join ⟨#[]⟩ (y :: r) = _
    rw [join_flat (y :: r)]
    show (⟨(x.cps ++ #[]) ++ (flatS (y :: r)).toArray⟩ : PySem.Str) = ⟨(flatS (x :: y :: r)).toArray⟩
    congr 1
    apply Array.toList_inj.mp
    simp [flatS]
theorem sum_flat : ∀ ss : List PySem.Str, (ss.map (·.length)).sum = (flatS ss).length
  | [] => rfl
  | x :: r => by
    rw [List.map_cons, List.sum_cons, sum_flat r]
    simp [flatS]; rfl
section
variable {prog : Program} {w : World} {A : Around} {E : Value → Shared → Prop} {s : Shared}
theorem wholeTarget_ok {pa tup : Addr} {code : Array Nat} {x : PySem.Str} {t : Tok} {Q : ReTarget → Shared → Prop} (P : PatAt s.heap pa tup code) (h : Q ⟨.ref pa, .str x t, code, x.cps, 0, 0, 0, x.cps.size⟩ s) :
    wpAny (model prog w) A (reWholeTarget (.ref pa) (.str x t)) Q E s := by
  obtain ⟨po, fs, to, n, items, hp, _, hd, h5, h6, h2, ht, htd, hc⟩ := P
  unfold reWholeTarget
  refine wpAny_bind (wpAny_fieldsOf hp hd ?_)
  refine wpAny_bind (wpAny_pure (a := (x.cps, 0)) ?_)
  dsimp only
  rw [h6]
  show wpAny _ _ (reNoCollectionInside (.str x t) 0 >>= fun _ => _) _ _ _
  refine wpAny_bind (wpAny_pure (a := PUnit.unit) ?_)
  rw [h5, h2]
  refine wpAny_bind ?_
  unfold reRawItems
  refine wpAny_bind (wpAny_seqItems ht htd (wpAny_pure (wpAny_pure ?_)))
  show Q ⟨.ref pa, .str x t, (items.map reRawOf).map (·.toNat), x.cps, 0, 0, 0, x.cps.size⟩ s
  rw [hc]; exact h
theorem strs_push {items : Array Value} {ss : List PySem.Str} (h : StrsAre items.toList ss) (y : PySem.Str) (t : Tok) : StrsAre (items.push (.str y t)).toList (ss ++ [y]) := by
  rw [Array.toList_push]
  generalize items.toList = l at h
  induction h with
  | nil => exact .cons _ _ .nil
  | cons z u _ ih => exact .cons z u ih
theorem push_ok {l : Addr} {o : Obj} {items : Array Value} {n : Nat} {v : Value} {Q : Unit → Shared → Prop} (ho : s.heap.get? l = some o) (hc : o.cls = .type "list") (hd : o.data = .seq items n) (hz : items.size ≤ sizeLine)
    (h : ∀ h' o' n', h'.get? l = some o' → o'.cls = .type "list" → o'.data = .seq (items.push v) n' → Heap.SameBut l s.heap h' → Q () { s with heap := h' }) : wpAny (model prog w) A (updateSeq l (·.push v)) Q E s := by
  refine wpAny_updateSeq ho hd ?_ (hz := hz) (_hz' := by rw [Array.size_push]; omega)
  obtain ⟨n', e⟩ := Obj.data_mapSeq hd (·.push v)
  exact h _ _ n' (Heap.get?_update_self _ ho (Obj.isFreed_of_seq e)) ((Obj.cls_mapSeq ..).trans hc) e (Heap.SameBut.update ..)
theorem PatAt.keeps {h h' : Heap} {pa tup l : Addr} {code : Array Nat} (P : PatAt h pa tup code) (hs : Heap.SameBut l h h') (h1 : pa ≠ l) (h2 : tup ≠ l) : PatAt h' pa tup code := by
  obtain ⟨po, fs, to, n, items, hp, r1, r2, r3, r4, r5, ht, r⟩ := P
  exact ⟨po, fs, to, n, items, (hs.2 pa h1).trans hp, r1, r2, r3, r4, r5, (hs.2 tup h2).trans ht, r⟩
theorem subLoop {code T : Array Nat} {hit : Nat → Bool} {nxt : Nat → Nat} {rp : PySem.Str} {x : PySem.Str} {t tr : Tok} {pa tup l : Addr} {total : List Nat} {R : Result → Shared → Prop} (hx : x.cps = T) (SO : SearchOK code T hit nxt) (hn : ∀ q, q < T.size → hit q = true → q < nxt q ∧ nxt q ≤ T.size)
    (hT : T.size ≤ 100000) (htot : total.length ≤ 100000) (hpl : pa ≠ l) (htl : tup ≠ l) :
    ∀ (d done k : Nat) (s : Shared) (o : Obj) (items : Array Value) (n : Nat) (ss : List PySem.Str) (rest : List Nat), d + done = T.size → PatAt s.heap pa tup code → s.heap.get? l = some o → o.cls = .type "list" → o.data = .seq items n → StrsAre items.toList ss → ss.length ≤ 2 * done → total = flatS ss ++ rest → SubR T hit nxt rp.cps.toList done rest →
      (∀ h' tk t', (∀ b ob, b ≠ l → s.heap.get? b = some ob → h'.get? b = some ob) → R (.ok (.ret (.str ⟨total.toArray⟩ t'))) { s with heap := h', toks := tk }) →
      codeAny (model prog w) A (.builtin "re.Pattern.sub.loop" ⟨[.ref pa, .str x t, .str rp tr, rawInt 0, rawInt 0, rawInt k, rawInt done, rawInt done, .bool false, .ref l, .bool false], []⟩) R s := by
  intro d
  induction d using Nat.strongRecOn with
  | _ d ih =>
  intro done k s o items n ss rest hd P ho hc hdat hss hlen htotal hsub hR
  refine codeAny_builtin entry_subloop ?_
  unfold Builtin.«re.Pattern.sub.loop»
  show wpAny _ _ (reWholeTarget (.ref pa) (.str x t) >>= _) _ _ _
  refine wpAny_bind (wholeTarget_ok P ?_)
  show wpAny _ _ (reNextFound ⟨.ref pa, .str x t, code, x.cps, 0, 0, 0, x.cps.size⟩ (done : Int).toNat false >>= _) _ _ _
  rw [hx, Int.toNat_natCast]
  obtain ⟨nn, hnn, m', r, res⟩ := SO done (by omega)
  have hpos : (2 : Nat) ^ 65 > 1000000 := by decide
  refine wpAny_bind (runToEnd_ok (n := nn) (by omega) r ?_)
  have hisz : items.size = ss.length := by rw [← hss.length]; simp
  have hsl : sizeLine ≥ 1000000 := by rw [sizeLine_eq]; decide
  rcases res with ⟨q, hq1, hq2, hq3, hq4, ho', hst, hha⟩ | ⟨hno, ho'⟩
  · refine .inl ⟨ho', ?_⟩
    obtain ⟨rest', rfl, hsub'⟩ := SubR.found (q - done) done q rest (by omega) hq2 hq3 hq4 hsub
    obtain ⟨hn1, hn2⟩ := hn q hq2 hq3
    dsimp only
    rw [hst, hha]
    have ef : (nxt q == q) = false := by simp; omega
    rw [ef]
    have tail : ∀ (h₁ : Heap) (tk₁ : Nat) (o₁ : Obj) (items₁ : Array Value) (n₁ : Nat) (ss₁ : List PySem.Str), h₁.get? l = some o₁ → o₁.cls = .type "list" → o₁.data = .seq items₁ n₁ → StrsAre items₁.toList ss₁ → ss₁.length ≤ ss.length + 1 → flatS ss₁ = flatS ss ++ (T.extract done q).toList → PatAt h₁ pa tup code → (∀ b ob, b ≠ l → s.heap.get? b = some ob → h₁.get? b = some ob) →
        wpAny (model prog w) (A.under (.builtin "re.Pattern.sub.loop" ⟨[.ref pa, .str x t, .str rp tr, rawInt 0, rawInt 0, rawInt k, rawInt done, rawInt done, .bool false, .ref l, .bool false], []⟩))
          (do
            let item ← (pure (Value.str rp tr) : Sem Value)
            if (item != Value.none) = true then do
              updateSeq l fun x => x.push item
              again (.builtin "re.Pattern.sub.loop" ⟨[.ref pa, .str x t, .str rp tr, rawInt 0, rawInt 0, rawInt (k + 1), rawInt (nxt q), rawInt (nxt q), .bool false, .ref l, .bool false], []⟩)
            else again (.builtin "re.Pattern.sub.loop" ⟨[.ref pa, .str x t, .str rp tr, rawInt 0, rawInt 0, rawInt (k + 1), rawInt (nxt q), rawInt (nxt q), .bool false, .ref l, .bool false], []⟩))
          (fun fin s' => match fin with | .done f => R (.ok f) s' | .again c' => c'.quiet = true ∧ codeAny (model prog w) A c' R s') (fun e s' => R (.error e) s') { s with heap := h₁, toks := tk₁ } := by
      intro h₁ tk₁ o₁ items₁ n₁ ss₁ g1 g2 g3 g4 g5 g6 g7 g8
      refine wpAny_bind (wpAny_pure ?_)
      rw [if_pos (show (Value.str rp tr != Value.none) = true by rfl)]
      have hi1 : items₁.size = ss₁.length := by rw [← g4.length]; simp
      refine wpAny_bind (push_ok g1 g2 g3 (by omega) ?_)
      intro h₂ o₂ n₂ g9 g10 g11 g12
      refine wpAny_pure ⟨Code.quiet_builtin _ (by decide +kernel), ?_⟩
      refine ih (T.size - nxt q) (by omega) (nxt q) (k + 1) _ o₂ _ n₂ (ss₁ ++ [rp]) rest' (by omega) (g7.keeps g12 hpl htl) g9 g10 g11 (strs_push g4 rp tr) (by rw [List.length_append, List.length_singleton]; omega) ?_ hsub' ?_
      · rw [htotal]
        show _ = List.flatMap _ _ ++ _
        rw [List.flatMap_append]
        show _ = flatS ss₁ ++ _ ++ _
        rw [g6]; simp
      · intro h' tk t' hk
        exact hR h' tk t' fun b ob hb e => hk b ob hb ((g12.2 b hb).trans (g8 b ob hb e))
    by_cases hlt : done < q
    · rw [if_pos hlt]
      refine wpAny_bind ?_
      show wpAny _ _ (mkStr ⟨T.extract done q⟩) _ _ _
      refine wpAny_mkStr ?_ (by show (T.extract done q).size ≤ sizeLine; rw [Array.size_extract]; omega)
      refine wpAny_bind (push_ok (s := { s with toks := s.toks + 1 }) ho hc hdat (by omega) ?_)
      intro h₁ o₁ n₁ g1 g2 g3 g4
      refine tail h₁ _ o₁ _ n₁ (ss ++ [⟨T.extract done q⟩]) g1 g2 g3 (strs_push hss _ _) (by simp) ?_ (P.keeps g4 hpl htl) fun b ob hb e => (g4.2 b hb).trans e
      show List.flatMap _ _ = _
      rw [List.flatMap_append]; simp [flatS]
    · rw [if_neg hlt]
      obtain rfl : done = q := by omega
      exact tail s.heap s.toks o items n ss ho hc hdat hss (by omega) (by simp) P fun _ _ _ e => e
  · refine .inr ⟨ho', ?_⟩
    have hrest := SubR.end d done rest (by omega) hno hsub
    dsimp only
    have tail : ∀ (h₁ : Heap) (tk₁ : Nat) (o₁ : Obj) (items₁ : Array Value) (n₁ : Nat) (ss₁ : List PySem.Str), h₁.get? l = some o₁ → o₁.cls = .type "list" → o₁.data = .seq items₁ n₁ → StrsAre items₁.toList ss₁ → ss₁.length ≤ ss.length + 1 → flatS ss₁ = total → (∀ b ob, b ≠ l → s.heap.get? b = some ob → h₁.get? b = some ob) →
        wpAny (model prog w) (A.under (.builtin "re.Pattern.sub.loop" ⟨[.ref pa, .str x t, .str rp tr, rawInt 0, rawInt 0, rawInt k, rawInt done, rawInt done, .bool false, .ref l, .bool false], []⟩))
          (do
            let joiner ← reSlice T 0 0 0
            let its ← seqItems? (.ref l)
            if (its.getD #[]).isEmpty = true then do
              let text ← (pure joiner : Sem Value)
              if false = true then do
                ret (← holding [text] do newTuple [text, ← mkInt k])
              else ret text
            else do
              let text ← call (.builtin "str.join") [joiner, .ref l]
              if false = true then do
                ret (← holding [text] do newTuple [text, ← mkInt k])
              else ret text)
          (fun fin s' => match fin with | .done f => R (.ok f) s' | .again c' => c'.quiet = true ∧ codeAny (model prog w) A c' R s') (fun e s' => R (.error e) s') { s with heap := h₁, toks := tk₁ } := by
      intro h₁ tk₁ o₁ items₁ n₁ ss₁ g1 g2 g3 g4 g5 g6 g8
      refine wpAny_bind ?_
      show wpAny _ _ (mkStr ⟨T.extract 0 0⟩) _ _ _
      refine wpAny_mkStr ?_ (by show (T.extract 0 0).size ≤ sizeLine; simp)
      refine wpAny_bind (wpAny_seqItems g1 g3 ?_)
      show wpAny _ _ (if items₁.isEmpty = true then _ else _) _ _ _
      have ej : (⟨T.extract 0 0⟩ : PySem.Str) = ⟨#[]⟩ := by congr 1; apply Array.toList_inj.mp; simp
      rw [ej]
      by_cases he : items₁.isEmpty = true
      · rw [if_pos he]
        have : ss₁ = [] := by
          have h0 : items₁.toList = [] := by simpa using he
          rw [h0] at g4; cases g4; rfl
        subst this
        refine wpAny_bind (wpAny_pure (wpAny_pure ?_))
        have := hR h₁ (tk₁ + 1) tk₁ g8
        rw [← g6] at this
        exact this
      · rw [if_neg he]
        refine wpAny_bind (join_listW ⟨o₁, g1, g2, n₁, g3⟩ g4 (by decide) ?_ ?_)
        · rw [sum_flat, g6]; omega
        · intro t' k'
          show wpAny _ _ (ret _) _ _ _
          refine wpAny_pure ?_
          have := hR h₁ k' t' g8
          rw [← g6, ← join_flat, ← StrLaws.glued_eq_join] at this
          exact this
    by_cases hlt : done < T.size
    · rw [if_pos hlt]
      refine wpAny_bind ?_
      show wpAny _ _ (mkStr ⟨T.extract done T.size⟩) _ _ _
      refine wpAny_mkStr ?_ (by show (T.extract done T.size).size ≤ sizeLine; rw [Array.size_extract]; omega)
      refine wpAny_bind (push_ok (s := { s with toks := s.toks + 1 }) ho hc hdat (by omega) ?_)
      intro h₁ o₁ n₁ g1 g2 g3 g4
      refine tail h₁ _ o₁ _ n₁ (ss ++ [⟨T.extract done T.size⟩]) g1 g2 g3 (strs_push hss _ _) (by simp) ?_ fun b ob hb e => (g4.2 b hb).trans e
      rw [htotal, hrest]
      show List.flatMap _ _ = _
      rw [List.flatMap_append]; simp [flatS]
    · rw [if_neg hlt]
      refine tail s.heap s.toks o items n ss ho hc hdat hss (by omega) ?_ fun _ _ _ e => e
      rw [htotal, hrest, show done = T.size by omega]; simp
end
end Mine
end
section
open PySem PySem.Sre
set_option Elab.async false
namespace Mine
noncomputable def textOf (e : List Nat) (rows : List (List Nat)) : List Nat := rows.flatMap (· ++ e)
theorem textOf_cons (e r : List Nat) (rows : List (List Nat)) : textOf e (r :: rows) = r ++ (e ++ textOf e rows) := by
  simp [textOf]
theorem at_pre {T : Array Nat} {pre rest : List Nat} {c : Nat} (h : T.toList = pre ++ c :: rest) : T.getD pre.length 0 = c ∧ pre.length < T.size := by
  have hs : T.size = pre.length + (rest.length + 1) := by rw [← Array.length_toList, h]; simp
  refine ⟨?_, by omega⟩
  rw [Array.getD_eq_getD_getElem?, ← Array.getElem?_toList, h]
  simp
theorem end_pre {T : Array Nat} {pre : List Nat} (h : T.toList = pre) : T.size ≤ pre.length := by rw [← h]; simp
theorem keepRow {T : Array Nat} {hit : Nat → Bool} {nxt : Nat → Nat} {rp : List Nat} : ∀ (r pre rest out : List Nat), T.toList = pre ++ (r ++ rest) → (∀ i, i < r.length → hit (pre.length + i) = false) → SubR T hit nxt rp (pre.length + r.length) out → SubR T hit nxt rp pre.length (r ++ out)
  | [], pre, rest, out, h, _, s => by simpa using s
  | c :: r, pre, rest, out, h, hn, s => by
    obtain ⟨e1, e2⟩ := at_pre (c := c) (rest := r ++ rest) (by simpa using h)
    have s' : SubR T hit nxt rp ((pre ++ [c]).length) (r ++ out) := by
      refine keepRow r (pre ++ [c]) rest out (by simpa using h) (fun i hi => ?_) ?_
      · have := hn (i + 1) (by simp; omega)
        rw [List.length_append, List.length_singleton, show pre.length + 1 + i = pre.length + (i + 1) by omega]; exact this
      · rw [List.length_append, List.length_singleton]
        simpa [Nat.add_assoc, Nat.add_comm 1] using s
    have := SubR.keep (nxt := nxt) (rp := rp) e2 (by have := hn 0 (by simp); simpa using this) (by simpa using s')
    rw [e1] at this
    exact this
theorem at_row {T : Array Nat} : ∀ (r pre rest : List Nat), T.toList = pre ++ (r ++ rest) → ∀ i, (hi : i < r.length) → T.getD (pre.length + i) 0 = r[i]
  | c :: r, pre, rest, h, 0, _ => (at_pre (c := c) (rest := r ++ rest) (by simpa using h)).1
  | c :: r, pre, rest, h, i + 1, hi => by
    have := at_row r (pre ++ [c]) rest (by simpa using h) i (by simpa using hi)
    rw [List.length_append, List.length_singleton, show pre.length + 1 + i = pre.length + (i + 1) by omega] at this
    simpa using this
theorem sub2_text {T : Array Nat} {e : List Nat} (he : e = [10] ∨ e = [13] ∨ e = [13, 10]) : ∀ (rows : List (List Nat)) (pre : List Nat), T.toList = pre ++ textOf e rows → (∀ r ∈ rows, ∀ c ∈ r, c ≠ 10 ∧ c ≠ 13) →
    SubR T (hit2 T) (nxt2 T) [13, 10] pre.length (textOf [13, 10] rows)
  | [], pre, h, _ => .done (end_pre (by simpa [textOf] using h))
  | r :: rows, pre, h, hr => by
    rw [textOf_cons] at h ⊢
    have hrr := hr r List.mem_cons_self
    refine keepRow r pre (e ++ textOf e rows) _ h (fun i hi => ?_) ?_
    · have e1 := at_row r pre _ h i hi
      have := hrr r[i] (List.getElem_mem _)
      unfold hit2
      rw [e1]; simp [this.1, this.2]
    · have ih := sub2_text he rows (pre ++ r ++ e) (by rw [h]; simp) (fun x hx => hr x (List.mem_cons_of_mem _ hx))
      have hl : (pre ++ r).length = pre.length + r.length := List.length_append
      rw [← hl]
      rcases he with rfl | rfl | rfl
      · obtain ⟨e1, e2⟩ := at_pre (T := T) (pre := pre ++ r) (c := 10) (rest := textOf [10] rows) (by rw [h]; simp)
        refine SubR.hit (out := textOf [13, 10] rows) e2 (by unfold hit2; rw [e1]; rfl) ?_
        have : nxt2 T (pre ++ r).length = (pre ++ r ++ [10]).length := by unfold nxt2; rw [e1]; simp [Nat.add_assoc]
        rw [this]; exact ih
      · obtain ⟨e1, e2⟩ := at_pre (T := T) (pre := pre ++ r) (c := 13) (rest := textOf [13] rows) (by rw [h]; simp)
        refine SubR.hit (out := textOf [13, 10] rows) e2 (by unfold hit2; rw [e1]; rfl) ?_
        have hno : (decide ((pre ++ r).length + 1 < T.size) && T.getD ((pre ++ r).length + 1) 0 == 10) = false := by
          cases rows with
          | nil =>
            have : T.size = (pre ++ r).length + 1 := by rw [← Array.length_toList, h]; simp [textOf]; omega
            rw [decide_eq_false (by omega)]; rfl
          | cons r2 rows2 =>
            rw [textOf_cons] at h
            cases r2 with
            | nil =>
              obtain ⟨e3, _⟩ := at_pre (T := T) (pre := pre ++ r ++ [13]) (c := 13) (rest := textOf [13] rows2) (by rw [h]; simp)
              rw [List.length_append (as := pre ++ r), List.length_singleton] at e3
              rw [e3]; simp
            | cons c r2 =>
              obtain ⟨e3, _⟩ := at_pre (T := T) (pre := pre ++ r ++ [13]) (c := c) (rest := r2 ++ ([13] ++ textOf [13] rows2)) (by rw [h]; simp)
              rw [List.length_append (as := pre ++ r), List.length_singleton] at e3
              rw [e3]
              have := (hr (c :: r2) (List.mem_cons_of_mem _ List.mem_cons_self) c List.mem_cons_self).1
              simp [this]
        have : nxt2 T (pre ++ r).length = (pre ++ r ++ [13]).length := by unfold nxt2; rw [hno, Bool.and_false]; simp [Nat.add_assoc]
        rw [this]; exact ih
      · obtain ⟨e1, e2⟩ := at_pre (T := T) (pre := pre ++ r) (c := 13) (rest := 10 :: textOf [13, 10] rows) (by rw [h]; simp)
        obtain ⟨e3, e4⟩ := at_pre (T := T) (pre := pre ++ r ++ [13]) (c := 10) (rest := textOf [13, 10] rows) (by rw [h]; simp)
        rw [List.length_append (as := pre ++ r), List.length_singleton] at e3 e4
        refine SubR.hit (out := textOf [13, 10] rows) e2 (by unfold hit2; rw [e1]; rfl) ?_
        have : nxt2 T (pre ++ r).length = (pre ++ r ++ [13, 10]).length := by unfold nxt2; rw [e1, e3, decide_eq_true e4]; simp [Nat.add_assoc]
        rw [this]; exact ih
theorem sub1_text {T : Array Nat} : ∀ (rows : List (List Nat)) (pre : List Nat), T.toList = pre ++ textOf [13, 10] (rows.map (46 :: ·)) → (pre = [] ∨ ∃ p, pre = p ++ [10]) → (∀ r ∈ rows, ∀ c ∈ r, c ≠ 10) →
    SubR T (hit1 T) (fun q => q + 1) [46, 46] pre.length (textOf [13, 10] (rows.map (46 :: 46 :: ·)))
  | [], pre, h, _, _ => .done (end_pre (by simpa [textOf] using h))
  | r :: rows, pre, h, hp, hr => by
    rw [List.map_cons, textOf_cons] at h ⊢
    have hrr := hr r List.mem_cons_self
    obtain ⟨e1, e2⟩ := at_pre (T := T) (pre := pre) (c := 46) (rest := r ++ ([13, 10] ++ textOf [13, 10] (rows.map (46 :: ·)))) (by rw [h]; simp)
    have hb : bol T pre.length = true := by
      unfold bol
      rcases hp with rfl | ⟨p, rfl⟩
      · rfl
      · obtain ⟨e3, _⟩ := at_pre (T := T) (pre := p) (c := 10) (rest := 46 :: r ++ ([13, 10] ++ textOf [13, 10] (rows.map (46 :: ·)))) (by rw [h]; simp)
        rw [List.length_append, List.length_singleton, Nat.add_sub_cancel, e3]; simp
    have hnb : ∀ i, i < (r ++ [13, 10]).length → hit1 T ((pre ++ [46]).length + i) = false := by
      intro i hi
      have h' : T.toList = (pre ++ [46]) ++ ((r ++ [13, 10]) ++ textOf [13, 10] (rows.map (46 :: ·))) := by rw [h]; simp
      unfold hit1 bol
      cases i with
      | zero =>
        have : (pre ++ [46]).length + 0 - 1 = pre.length := by simp
        rw [this, e1]; simp
      | succ i =>
        have e5 := at_row (r ++ [13, 10]) (pre ++ [46]) _ h' i (by omega)
        have e6 := at_row (r ++ [13, 10]) (pre ++ [46]) _ h' (i + 1) hi
        have : (pre ++ [46]).length + (i + 1) - 1 = (pre ++ [46]).length + i := by omega
        rw [this, e5, e6]
        by_cases hir : i < r.length
        · rw [List.getElem_append_left hir]
          have := hrr r[i] (List.getElem_mem _)
          simp [this]
        · have hl : (r ++ [13, 10]).length = r.length + 2 := by simp
          obtain rfl : i = r.length := by omega
          simp
    have ih := sub1_text rows (pre ++ 46 :: (r ++ [13, 10])) (by rw [h]; simp) (.inr ⟨pre ++ 46 :: (r ++ [13]), by simp⟩) (fun x hx => hr x (List.mem_cons_of_mem _ hx))
    have k := keepRow (T := T) (hit := hit1 T) (nxt := fun q => q + 1) (rp := [46, 46]) (r ++ [13, 10]) (pre ++ [46]) (textOf [13, 10] (rows.map (46 :: ·))) (textOf [13, 10] (rows.map (46 :: 46 :: ·))) (by rw [h]; simp) hnb (by
      have : (pre ++ [46]).length + (r ++ [13, 10]).length = (pre ++ 46 :: (r ++ [13, 10])).length := by simp; omega
      rw [this]; exact ih)
    have z := SubR.hit (T := T) (hit := hit1 T) (nxt := fun q => q + 1) (rp := [46, 46]) e2 (by unfold hit1; rw [hb, e1]; rfl) (by simpa using k)
    simpa using z
end Mine
end
section
open PySem PySem.StrLaws PySem.Builtin PySem.Builtin.Str
set_option Elab.async false
namespace Mine
noncomputable def crlf : PySem.Str := ⟨#[13, 10]⟩
theorem occ_skip {x y : PySem.Str} {hi limit a : Nat} {l : List Nat} {st : Array Nat × Nat} (h : ¬ (((st.fst.size < limit ∧ st.snd ≤ a) ∧ a + y.length ≤ hi) ∧ subAt x y a = true)) :
    (forIn (a :: l) st (occBody x y hi limit)).run = (forIn l st (occBody x y hi limit)).run := by
  rw [List.forIn_cons]
  unfold occBody
  rw [if_neg h]
  rfl
theorem occ_take {x y : PySem.Str} {hi limit a : Nat} {l : List Nat} {st : Array Nat × Nat} (h : ((st.fst.size < limit ∧ st.snd ≤ a) ∧ a + y.length ≤ hi) ∧ subAt x y a = true) :
    (forIn (a :: l) st (occBody x y hi limit)).run = (forIn l (st.fst.push a, a + y.length) (occBody x y hi limit)).run := by
  rw [List.forIn_cons]
  unfold occBody
  rw [if_pos h]
  rfl
theorem subAt_head {x : PySem.Str} {a : Nat} (h : subAt x crlf a = true) : x.cps.getD a 0 = 13 := by
  unfold subAt at h
  have e : x.cps.extract a (a + 2) = #[13, 10] := eq_of_beq h
  have e : x.cps.extract a (a + 2) = #[13, 10] := e
  have := congrArg (fun z : Array Nat => z.toList[0]?) e
  simp only [Array.toList_extract, List.extract_eq_drop_take] at this
  rw [Array.getD_eq_getD_getElem?, ← Array.getElem?_toList]
  rw [Nat.add_sub_cancel_left] at this
  simp [List.getElem?_take, List.getElem?_drop] at this
  rw [Array.getElem?_toList, this]; rfl
theorem subAt_here {x : PySem.Str} {pre rest : List Nat} (h : x.cps.toList = pre ++ 13 :: 10 :: rest) : subAt x crlf pre.length = true ∧ pre.length + 2 ≤ x.length := by
  have hl : x.length = pre.length + (rest.length + 2) := by
    show x.cps.size = _
    rw [← Array.length_toList, h]; simp
  refine ⟨?_, by omega⟩
  unfold subAt
  have : x.cps.extract pre.length (pre.length + crlf.length) = #[13, 10] := by
    apply Array.toList_inj.mp
    rw [Array.toList_extract, h, List.extract_eq_drop_take]
    show List.take (pre.length + 2 - pre.length) (List.drop pre.length _) = _
    rw [Nat.add_sub_cancel_left, List.drop_left]; rfl
  rw [this]; rfl
noncomputable def cutsOf : List (List Nat) → Nat → List Nat
  | [], _ => []
  | r :: rows, p => (p + r.length) :: cutsOf rows (p + r.length + 2)
theorem occ_row {x : PySem.Str} {limit : Nat} : ∀ (r pre rest : List Nat) (n : Nat) (st : Array Nat × Nat), x.cps.toList = pre ++ (r ++ rest) → (∀ c ∈ r, c ≠ 13) →
    (forIn (List.range' pre.length (r.length + n)) st (occBody x crlf x.length limit)).run = (forIn (List.range' (pre.length + r.length) n) st (occBody x crlf x.length limit)).run
  | [], pre, rest, n, st, h, _ => by simp
  | c :: r, pre, rest, n, st, h, hc => by
    rw [List.length_cons, show r.length + 1 + n = (r.length + n) + 1 by omega, List.range'_succ]
    rw [occ_skip (fun hh => by
      have h1 := subAt_head hh.2
      have h2 := (at_pre (T := x.cps) (pre := pre) (c := c) (rest := r ++ rest) (by simpa using h)).1
      exact hc c List.mem_cons_self (h2.symm.trans h1))]
    have := occ_row (limit := limit) r (pre ++ [c]) rest n st (by simpa using h) (fun z hz => hc z (List.mem_cons_of_mem _ hz))
    rw [List.length_append, List.length_singleton] at this
    rw [this, show pre.length + 1 + r.length = pre.length + (r.length + 1) by omega]
theorem occ_rows {x : PySem.Str} : ∀ (rows : List (List Nat)) (pre : List Nat) (found : Array Nat) (free : Nat), x.cps.toList = pre ++ textOf [13, 10] rows → (∀ r ∈ rows, ∀ c ∈ r, c ≠ 13) → free ≤ pre.length → found.size ≤ pre.length →
    (forIn (List.range' pre.length (x.length + 1 - pre.length)) (found, free) (occBody x crlf x.length (x.length + 1))).run.fst.toList = found.toList ++ cutsOf rows pre.length
  | [], pre, found, free, h, _, _, _ => by
    have hl : x.length = pre.length := by
      show x.cps.size = _
      rw [← Array.length_toList, h]; simp [textOf]
    rw [show x.length + 1 - pre.length = 0 + 1 by omega, List.range'_succ, occ_skip (fun hh => by
      have := hh.1.2
      have h2 : crlf.length = 2 := rfl
      omega)]
    simp [cutsOf]
  | r :: rows, pre, found, free, h, hr, hf, hs => by
    rw [textOf_cons] at h
    have hl : x.length = pre.length + (r.length + (2 + (textOf [13, 10] rows).length)) := by
      show x.cps.size = _
      rw [← Array.length_toList, h]; simp; omega
    obtain ⟨n, hn⟩ : ∃ n, x.length + 1 - pre.length = r.length + (n + 1 + 1) ∧ n = x.length + 1 - (pre ++ (r ++ [13, 10])).length := ⟨x.length + 1 - (pre ++ (r ++ [13, 10])).length, by simp; omega, rfl⟩
    rw [hn.1, occ_row r pre _ (n + 1 + 1) (found, free) h (hr r List.mem_cons_self), List.range'_succ]
    obtain ⟨s1, s2⟩ := subAt_here (x := x) (pre := pre ++ r) (rest := textOf [13, 10] rows) (by rw [h]; simp)
    rw [List.length_append] at s1 s2
    rw [occ_take (x := x) (y := crlf) ⟨⟨⟨by show found.size < _; omega, by show free ≤ _; omega⟩, s2⟩, s1⟩, List.range'_succ]
    rw [occ_skip (fun hh => by
      have h1 : (pre.length + r.length) + crlf.length ≤ pre.length + r.length + 1 := hh.1.1.2
      have h2 : crlf.length = 2 := rfl
      omega)]
    have ih := occ_rows rows (pre ++ (r ++ [13, 10])) (found.push (pre.length + r.length)) (pre.length + r.length + crlf.length) (by rw [h]; simp) (fun z hz => hr z (List.mem_cons_of_mem _ hz)) (by show pre.length + r.length + 2 ≤ _; simp; omega) (by simp; omega)
    have e : (pre ++ (r ++ [13, 10])).length = pre.length + r.length + 1 + 1 := by simp; omega
    rw [e] at ih
    rw [hn.2, e, ih]
    simp [cutsOf]
theorem parts_rows {x : PySem.Str} : ∀ (rows : List (List Nat)) (pre : List Nat), x.cps.toList = pre ++ textOf [13, 10] rows →
    partsFrom x 2 pre.length (cutsOf rows pre.length) = rows.map (fun r => (⟨r.toArray⟩ : PySem.Str)) ++ [⟨#[]⟩]
  | [], pre, h => by
    have hl : x.length = pre.length := by
      show x.cps.size = _
      rw [← Array.length_toList, h]; simp [textOf]
    show [strSub x pre.length x.length] = _
    rw [hl]
    have : strSub x pre.length pre.length = ⟨#[]⟩ := by
      unfold strSub; congr 1; apply Array.toList_inj.mp; simp
    rw [this]; rfl
  | r :: rows, pre, h => by
    rw [textOf_cons] at h
    show strSub x pre.length (pre.length + r.length) :: partsFrom x 2 (pre.length + r.length + 2) (cutsOf rows (pre.length + r.length + 2)) = _
    have ih := parts_rows rows (pre ++ (r ++ [13, 10])) (by rw [h]; simp)
    have e : (pre ++ (r ++ [13, 10])).length = pre.length + r.length + 2 := by simp; omega
    rw [e] at ih
    rw [ih]
    have e1 : strSub x pre.length (pre.length + r.length) = ⟨r.toArray⟩ := by
      unfold strSub
      congr 1
      apply Array.toList_inj.mp
      rw [Array.toList_extract, h, List.extract_eq_drop_take, Nat.add_sub_cancel_left, List.drop_left, List.take_left]
    rw [e1]; rfl
theorem split_rows (rows : List (List Nat)) (hr : ∀ r ∈ rows, ∀ c ∈ r, c ≠ 13) (hne : rows ≠ []) : Txt.split ⟨(textOf [13, 10] rows).toArray⟩ crlf = rows.map (fun r => (⟨r.toArray⟩ : PySem.Str)) ++ [⟨#[]⟩] := by
  have hx : (⟨(textOf [13, 10] rows).toArray⟩ : PySem.Str).cps.toList = [] ++ textOf [13, 10] rows := rfl
  have ho : occurrences ⟨(textOf [13, 10] rows).toArray⟩ crlf 0 (⟨(textOf [13, 10] rows).toArray⟩ : PySem.Str).length ((⟨(textOf [13, 10] rows).toArray⟩ : PySem.Str).length + 1) = cutsOf rows 0 := by
    rw [occ_eq]
    have := occ_rows rows [] #[] 0 hx hr (Nat.le_refl _) (Nat.le_refl _)
    simpa using this
  unfold Txt.split
  rw [ho]
  obtain ⟨r, rows', rfl⟩ : ∃ r rows', rows = r :: rows' := by
    cases rows with
    | nil => exact absurd rfl hne
    | cons r rows' => exact ⟨r, rows', rfl⟩
  have hl : 2 ≤ (⟨(textOf [13, 10] (r :: rows')).toArray⟩ : PySem.Str).length := by
    show 2 ≤ (textOf [13, 10] (r :: rows')).toArray.size
    rw [textOf_cons]; simp; omega
  have hk : Builtin.Str.strKind crlf = 1 := by decide +kernel
  have hk2 : ∀ z : PySem.Str, 1 ≤ Builtin.Str.strKind z := fun z => by
    unfold Builtin.Str.strKind
    split
    · omega
    · split <;> omega
  rw [if_neg (by
    rw [hk]
    have := hk2 ⟨(textOf [13, 10] (r :: rows')).toArray⟩
    have h2 : crlf.length = 2 := rfl
    simp only [Bool.or_eq_true, decide_eq_true_eq, not_or]
    omega), if_neg (by simp [cutsOf])]
  rw [show crlf.length = 2 from rfl, partsBetween_eq]
  exact parts_rows (r :: rows') [] hx
end Mine
end
section
open PySem
set_option Elab.async false
namespace Mine
theorem join_cps : ∀ l : List PySem.Str, (PySem.Str.join ⟨#[]⟩ l).cps.toList = l.flatMap (·.cps.toList)
  | [] => rfl
  | [x] => by simp [PySem.Str.join]
  | x :: y :: r => by
    show (((x.cps ++ (#[] : Array Nat)) ++ (PySem.Str.join ⟨#[]⟩ (y :: r)).cps)).toList = _
    rw [Array.toList_append, Array.toList_append, join_cps (y :: r)]
    simp
theorem join_text (rs : List PySem.Str) (z : PySem.Str) : (Txt.join ⟨#[]⟩ (rs.map (fun r => r ++ z))).cps.toList = textOf z.cps.toList (rs.map (·.cps.toList)) := by
  have hj : Txt.join ⟨#[]⟩ (rs.map (fun r => r ++ z)) = PySem.Str.join ⟨#[]⟩ (rs.map (fun r => r ++ z)) := StrLaws.glued_eq_join _ _
  rw [hj, join_cps]
  clear hj
  induction rs with
  | nil => rfl
  | cons r rs ih =>
    simp only [List.map_cons, List.flatMap_cons, textOf] at ih ⊢
    rw [ih]
    show ((r.cps ++ z.cps).toList) ++ _ = _
    simp
theorem textOf_len (e : List Nat) (k : Nat) : ∀ (rows : List (List Nat)), (∀ r ∈ rows, r.length ≤ k) → (textOf e rows).length ≤ rows.length * (k + e.length)
  | [], _ => by simp [textOf]
  | r :: rows, h => by
    rw [textOf_cons, List.length_append, List.length_append, List.length_cons, Nat.succ_mul]
    have := textOf_len e k rows fun x hx => h x (List.mem_cons_of_mem _ hx)
    have := h r List.mem_cons_self
    omega
theorem quote_facts (rs : List PySem.Str) (z : PySem.Str) (hz : z.cps.toList = [10] ∨ z.cps.toList = [13] ∨ z.cps.toList = [13, 10]) (hl : rs.length ≤ 8) (hrr : ∀ r ∈ rs, r.length ≤ 20 ∧ ∃ cs, r.cps.toList = 46 :: cs ∧ ∀ c ∈ cs, c ≠ 10 ∧ c ≠ 13) :
    ∃ x : PySem.Str, ∃ mid out : List Nat, Txt.join ⟨#[]⟩ (rs.map (fun r => r ++ z)) = x ∧ x.cps.size ≤ 1000 ∧ mid.length ≤ 2000 ∧ out.length ≤ 4000 ∧ SubR x.cps (hit2 x.cps) (nxt2 x.cps) [13, 10] 0 mid ∧ SubR mid.toArray (hit1 mid.toArray) (fun q => q + 1) [46, 46] 0 out ∧
      Txt.split ⟨out.toArray⟩ crlf = (rs.map fun r => (⟨(46 :: r.cps.toList).toArray⟩ : PySem.Str)) ++ [⟨#[]⟩] := by
  have htail : ∀ r ∈ rs, 46 :: r.cps.toList.tail = r.cps.toList := fun r hr => by
    obtain ⟨cs, e, _⟩ := (hrr r hr).2
    rw [e]; rfl
  have hrows : rs.map (·.cps.toList) = (rs.map (fun r => r.cps.toList.tail)).map (46 :: ·) := by
    rw [List.map_map]
    exact List.map_congr_left fun r hr => (htail r hr).symm
  have hno : ∀ r ∈ rs.map (·.cps.toList), ∀ c ∈ r, c ≠ 10 ∧ c ≠ 13 := by
    intro r hr c hc
    obtain ⟨x, hx, rfl⟩ := List.mem_map.mp hr
    obtain ⟨cs, e, h⟩ := (hrr x hx).2
    rw [e] at hc
    rcases List.mem_cons.mp hc with rfl | hc
    · decide
    · exact h c hc
  have hnt : ∀ r ∈ rs.map (fun r => r.cps.toList.tail), ∀ c ∈ r, c ≠ 10 := by
    intro r hr c hc
    obtain ⟨x, hx, rfl⟩ := List.mem_map.mp hr
    obtain ⟨cs, e, h⟩ := (hrr x hx).2
    rw [e] at hc
    exact (h c hc).1
  have hlen : ∀ r ∈ rs.map (·.cps.toList), r.length ≤ 20 := by
    intro r hr
    obtain ⟨x, hx, rfl⟩ := List.mem_map.mp hr
    rw [Array.length_toList]; exact (hrr x hx).1
  have hzl : z.cps.toList.length ≤ 2 := by rcases hz with h | h | h <;> rw [h] <;> decide
  have hx := join_text rs z
  have hxs : (textOf z.cps.toList (rs.map (·.cps.toList))).length ≤ 176 := by
    have h1 := textOf_len z.cps.toList 20 _ hlen
    rw [List.length_map] at h1
    refine Nat.le_trans h1 (Nat.le_trans (Nat.mul_le_mul hl (Nat.add_le_add_left hzl 20)) (by decide))
  have hms : (textOf [13, 10] (rs.map (·.cps.toList))).length ≤ 176 := by
    have h1 := textOf_len [13, 10] 20 _ hlen
    rw [List.length_map] at h1
    exact Nat.le_trans h1 (Nat.le_trans (Nat.mul_le_mul_right _ hl) (by decide))
  have hout : (rs.map (fun r => r.cps.toList.tail)).map (46 :: 46 :: ·) = rs.map (fun r => 46 :: r.cps.toList) := by
    rw [List.map_map]
    exact List.map_congr_left fun r hr => by show 46 :: 46 :: r.cps.toList.tail = _; rw [htail r hr]
  have hos : (textOf [13, 10] (rs.map (fun r => 46 :: r.cps.toList))).length ≤ 184 := by
    have h1 := textOf_len [13, 10] 21 (rs.map (fun r => 46 :: r.cps.toList)) (by
      intro r hr
      obtain ⟨x, hx, rfl⟩ := List.mem_map.mp hr
      rw [List.length_cons, Array.length_toList]
      have := (hrr x hx).1
      exact Nat.succ_le_succ this)
    rw [List.length_map] at h1
    exact Nat.le_trans h1 (Nat.le_trans (Nat.mul_le_mul_right _ hl) (by decide))
  refine ⟨_, textOf [13, 10] (rs.map (·.cps.toList)), textOf [13, 10] (rs.map (fun r => 46 :: r.cps.toList)), rfl, ?_, by omega, by omega, ?_, ?_, ?_⟩
  · rw [← Array.length_toList, hx]; omega
  · exact sub2_text hz (rs.map (·.cps.toList)) [] hx hno
  · rw [← hout]
    exact sub1_text (rs.map (fun r => r.cps.toList.tail)) [] (by rw [← hrows]) (.inl rfl) hnt
  · by_cases hne : rs = []
    · subst hne
      decide +kernel
    · rw [split_rows _ (by
        intro r hr c hc
        obtain ⟨x, hx, rfl⟩ := List.mem_map.mp hr
        rcases List.mem_cons.mp hc with rfl | hc
        · decide
        · exact (hno _ (List.mem_map_of_mem hx) c hc).2) (by simpa using hne), List.map_map]
      rfl
end Mine
end
section
open PySem PySem.Sre PyProof.Rows
set_option Elab.async false
set_option maxRecDepth 100000
namespace Mine
theorem plainAttrs_pat : PlainAttrs "re.Pattern" :=
  ⟨⟨"object.__getattribute__", by rw [typeLookup_type, builtinLookup_eq_fast]; kernel_rfl, by decide +kernel⟩, by rw [typeLookup_type, builtinLookup_eq_fast]; kernel_rfl⟩
theorem slot_sub : Slot "re.Pattern" "sub" "re.Pattern.sub" :=
  .of (owner := "re.Pattern") (n := "sub") (by rw [typeLookup_type, builtinLookup_eq_fast]; kernel_rfl) (by decide +kernel) (by decide +kernel) (by decide +kernel)
    (by first | exact .inl (by decide +kernel) | exact .inr (by decide +kernel)) (by rw [isSubtype_type]; kernel_rfl)
theorem type_sub : typeOf (.builtin "re.Pattern.sub") = pure (.type "method_descriptor") := by show builtinType _ = _; rw [builtinType_eq_fast]; kernel_rfl
theorem args_sub (a b c : Value) : argsOk "re.Pattern.sub" ⟨[a, b, c], []⟩ := by unfold argsOk; kernel_rfl
theorem noCall_str : typeLookup (.type "str") "__call__" = pure none := by rw [typeLookup_type, builtinLookup_eq_fast]; kernel_rfl
open Builtin.Re
section
variable {prog : Program} {w : World} {A : Around} {E : Value → Shared → Prop} {s : Shared}
theorem named_sub (a b : Value) : reNamed "re.Pattern.sub" "sub" ["repl", "string", "count"] 2 [a, b] [] = pure [some a, some b, none] := by rfl
theorem getMethod_pat {pa tup : Addr} {code : Array Nat} {pl : Sem Bool} {Q : Value × List Value → Shared → Prop} (P : PatAt s.heap pa tup code) (hd : ∀ o, s.heap.get? pa = some o → o.dict = none) (h : Q (.builtin "re.Pattern.sub", [.ref pa]) s) :
    wpAny (model prog w) A (getMethod (.ref pa) (PySem.Str.ofString "sub") pl) Q E s := by
  obtain ⟨po, fs, to, n, items, hp, hc, _⟩ := id P
  exact getMethod_builtin ⟨po, hp, hc⟩ plainAttrs_pat slot_sub type_sub (fun a e => by cases e; exact ⟨po, hp, hd po hp⟩) h
theorem sub_call {code T : Array Nat} {hit : Nat → Bool} {nxt : Nat → Nat} {rp x : PySem.Str} {t tr : Tok} {pa tup : Addr} {total : List Nat} {Q : Value → Shared → Prop} (P : PatAt s.heap pa tup code) (hx : x.cps = T) (SO : SearchOK code T hit nxt) (hn : ∀ q, q < T.size → hit q = true → q < nxt q ∧ nxt q ≤ T.size)
    (hT : T.size ≤ 100000) (htot : total.length ≤ 100000) (hb : rp.cps.contains 92 = false) (hsub : SubR T hit nxt rp.cps.toList 0 total)
    (hQ : ∀ h' tk t', (∀ b ob, s.heap.get? b = some ob → h'.get? b = some ob) → Q (.str ⟨total.toArray⟩ t') { s with heap := h', toks := tk }) :
    wpAny (model prog w) A (call (.builtin "re.Pattern.sub") [.ref pa, .str rp tr, .str x t]) Q E s := by
  obtain ⟨po, fs, to, n, items, hp, hc, r1, r2, r3, r4, hto, r5⟩ := id P
  refine wpAny_call (codeAny_call_builtin slot_sub.plain entry_sub (slot_sub.check _ _ _ _ _ _ _ _ ⟨po, hp, hc⟩ (args_sub _ _ _) ?_))
  unfold Builtin.«re.Pattern.sub» reSubstitute
  show wpAny _ _ (reNamed "re.Pattern.sub" "sub" ["repl", "string", "count"] 2 [.str rp tr, .str x t] [] >>= _) _ _ _
  rw [named_sub]
  refine wpAny_bind (wpAny_pure ?_)
  refine wpAny_bind (wpAny_pure (a := (0 : Int)) ?_)
  refine wpAny_bind (wpAny_specialOf (typeIs_str _ _ _) noCall_str ?_)
  dsimp only
  rw [if_neg (show ¬ ((none : Option Value).isSome = true) by decide)]
  refine wpAny_bind (wpAny_pure (a := some rp) ?_)
  dsimp only
  refine wpAny_bind (wpAny_pure ?_)
  rw [hb, if_neg (show ¬ ((none : Option Value).isSome = true) by decide), if_pos (show (!false) = true by rfl)]
  refine wpAny_bind (wpAny_pure ?_)
  dsimp only
  refine wpAny_bind (wpAny_holding (wholeTarget_ok P ?_))
  rw [if_neg (show ¬ (((0 : Int) == 1) = true) by decide)]
  refine wpAny_bind (wpAny_newObj_type ?_ (by size_fits))
  refine wpAny_pure ⟨Code.quiet_builtin _ (by decide +kernel), ?_⟩
  have hne : pa ≠ s.heap.objs.size := Nat.ne_of_lt (Heap.lt_size hp)
  have hnt : tup ≠ s.heap.objs.size := Nat.ne_of_lt (Heap.lt_size hto)
  refine subLoop (total := total) (code := code) (tup := tup) hx SO hn hT htot hne hnt T.size 0 0 _ _ #[] 0 [] total (by omega) ?_ (Heap.get?_push_size _ rfl) rfl rfl .nil (by simp) rfl hsub ?_
  · exact ⟨po, fs, to, n, items, Heap.get?_push_of_some _ hp, hc, r1, r2, r3, r4, Heap.get?_push_of_some _ hto, r5⟩
  · intro h' tk t' hk
    exact hQ h' tk t' fun b ob e => hk b ob (Nat.ne_of_lt (Heap.lt_size e)) (Heap.get?_push_of_some _ e)
end
end Mine
end
section
open PySem PySem.W PyProof.Rows PySem.Calls
set_option Elab.async false
set_option maxRecDepth 100000
set_option maxHeartbeats 0
namespace Mine
variable {w : World} {A A₀ : Around} {base h₀ : Heap} {outer : List Env} {env : Env} {L : Addr} {m mg mb : PySem.Str → Option Value} {news : List (Addr × Obj)} {s : Shared} {p : Program} {loose : List PySem.Str} {mean : ExcName → Option Value} {Q : Value → Shared → Prop} {E : Value → Shared → Prop}
section
variable {prog : Program} {K : Frag} {a : Addr} {es : Array DictEntry} {n : Nat}
noncomputable def KeysInt : List DictEntry → Prop
  | [] => True
  | e :: r => (∃ k t, e.key = .int k t ∧ e.hash = hashInt k) ∧ KeysInt r
theorem KeysInt.all {l : List DictEntry} (h : KeysInt l) : ∀ e ∈ l, ∃ k t, e.key = .int k t ∧ e.hash = hashInt k := by
  induction l with
  | nil => intro e he; exact absurd he List.not_mem_nil
  | cons a l ih =>
    intro e he
    rcases List.mem_cons.mp he with he | he
    · subst he; exact h.1
    · exact ih h.2 e he
noncomputable def keyIntB (e : DictEntry) : Bool := match e.key with | .int k _ => e.hash == hashInt k | _ => false
theorem keysInt_of : ∀ {l : List DictEntry}, l.all keyIntB = true → KeysInt l
  | [], _ => trivial
  | ⟨hh, k, v⟩ :: r, h => by
    simp only [List.all_cons, Bool.and_eq_true] at h
    refine ⟨?_, keysInt_of h.2⟩
    cases k <;> simp_all [keyIntB]
theorem intMap_K {h : Heap} (X : K.In h) (hl : K.lookup a = some ⟨.type "dict", none, .dict es n, #[]⟩) (hk : KeysInt es.toList) : h.MapOf (intKind prog w) a (fun k => findBy Value.isInt es k) :=
  ⟨_, es, n, X _ _ hl, ⟨rfl, rfl, rfl⟩, rfl, fun e he => by
    obtain ⟨x, t, e1, e2⟩ := hk.all e (Array.mem_toList_iff.mpr he)
    exact ⟨x, by rw [e1]; exact intKind_is prog w x t, e2⟩, fun _ => rfl⟩
theorem getMethod_dictK {pl : Sem Bool} {Q : Value × List Value → Shared → Prop} (F : Fr h₀ L s.heap m) (X₀ : K.In h₀) (hl : K.lookup a = some ⟨.type "dict", none, .dict es n, #[]⟩) (hk : es.toList.all keyIntB = true)
    (h : Q (.builtin "dict.get", [.ref a]) s) : wpAny (model prog w) A (getMethod (.ref a) (PySem.Str.ofString "get") pl) Q E s :=
  have hm := intMap_K (prog := prog) (w := w) (X₀.keeps F.keep) hl (keysInt_of hk)
  getMethod_builtin hm.typeIs PySem.F.plainAttrs_dict PySem.F.slot_dict_get PySem.F.type_dict_get hm.noDict h
theorem get_dictK {i : Int} {t : Tok} {Q : Value → Shared → Prop} (F : Fr h₀ L s.heap m) (X₀ : K.In h₀) (hl : K.lookup a = some ⟨.type "dict", none, .dict es n, #[]⟩) (hk : es.toList.all keyIntB = true) (lo : (a == sysModules) = false)
    (h : Q ((findBy Value.isInt es i).getD .none) { s with toks := s.toks + 1 }) : wpAny (model prog w) A (call (.builtin "dict.get") [.ref a, .int i t]) Q E s := by
  have hm := intMap_K (prog := prog) (w := w) (X₀.keeps F.keep) hl (keysInt_of hk)
  exact call_meetsIn PySem.F.slot_dict_get hm.typeIs PySem.F.entry_dict_get (PySem.F.args_dict_get_2 _ _) (meets_dict_get (intKind prog w) a (intKind_is prog w i t) lo) ⟨_, hm, h⟩
noncomputable def elemIntB (e : Int × Value) : Bool := match e.2 with | .int k _ => e.1 == hashInt k | _ => false
noncomputable def intOfV (v : Value) : Int := match v with | .int k _ => k | _ => 0
theorem setOf_K {h : Heap} {es : Array (Int × Value)} {ep : Nat} {t : SetTable} (X : K.In h) (hl : K.lookup a = some ⟨.type "set", none, .set es ep t, #[]⟩) (hk : es.toList.all elemIntB = true) (hf : t.fits es.size = true) (hn : es.size < scanBound) :
    h.SetOf (intKind prog w) a (fun k => es.toList.any fun e => intOfV e.2 == k) es.size := by
  have hall : ∀ e ∈ es.toList, ∃ k t, e.2 = .int k t ∧ e.1 = hashInt k := fun e he => by
    have := List.all_eq_true.mp hk e he
    obtain ⟨a, v⟩ := e
    cases v <;> simp_all [elemIntB]
  refine ⟨_, es, ep, t, X _ _ hl, ⟨rfl, rfl, rfl⟩, rfl, fun e he => ?_, fun k => ?_, hn, hf, rfl⟩
  · obtain ⟨k, t, h1, h2⟩ := hall e he
    exact ⟨⟨k, by rw [h1]; exact intKind_is prog w k t, h2⟩, by rw [h1]; rfl⟩
  · rw [List.any_eq_true]
    constructor
    · rintro ⟨e, he, hq⟩
      obtain ⟨k', t, h1, h2⟩ := hall e he
      refine ⟨e, he, ?_⟩
      rw [h1] at hq ⊢
      have : k' = k := by simpa [intOfV] using hq
      subst this
      exact intKind_is prog w k' t
    · rintro ⟨e, he, hq⟩
      refine ⟨e, he, ?_⟩
      obtain ⟨t, ht⟩ := Value.isInt_shape hq
      rw [ht]; simp [intOfV]
theorem in_setK {i : Int} {tk : Tok} {es : Array (Int × Value)} {ep : Nat} {t : SetTable} {Q : Value → Shared → Prop} (F : Fr h₀ L s.heap m) (X₀ : K.In h₀) (hl : K.lookup a = some ⟨.type "set", none, .set es ep t, #[]⟩) (hk : es.toList.all elemIntB = true) (hf : t.fits es.size = true) (hn : es.size < scanBound)
    (h : Q (.bool (es.toList.any fun e => intOfV e.2 == i)) { s with toks := s.toks + 1 }) : wpAny (model prog w) A (compareOp .In (.int i tk) (.ref a)) Q E s :=
  wpAny_inSet_of (knd := intKind prog w) (k := i) (intKind_is prog w i tk) rfl (setOf_K (X₀.keeps F.keep) hl hk hf hn) h
noncomputable def valStrB (e : DictEntry) : Bool := match e.val with | .str _ _ => true | _ => false
theorem get_dictKs {i : Int} {t : Tok} {Q : Value → Shared → Prop} (F : Fr h₀ L s.heap m) (X₀ : K.In h₀) (hl : K.lookup a = some ⟨.type "dict", none, .dict es n, #[]⟩) (hk : es.toList.all keyIntB = true) (hs : es.toList.all valStrB = true) (lo : (a == sysModules) = false)
    (h1 : ∀ x tk, findBy Value.isInt es i = some (.str x tk) → Q (.str x tk) { s with toks := s.toks + 1 }) (h2 : findBy Value.isInt es i = none → Q .none { s with toks := s.toks + 1 }) : wpAny (model prog w) A (call (.builtin "dict.get") [.ref a, .int i t]) Q E s := by
  refine get_dictK F X₀ hl hk lo ?_
  cases q : findBy Value.isInt es i with
  | none => exact h2 q
  | some v =>
    obtain ⟨e, he, rfl⟩ : ∃ e, es.find? (fun e => Value.isInt i e.key) = some e ∧ e.val = v := by
      unfold findBy at q
      exact Option.map_eq_some_iff.mp q
    have := List.all_eq_true.mp hs e (Array.mem_toList_iff.mpr (Array.mem_of_find?_eq_some he))
    cases hv : e.val with
    | str x tk => exact h1 x tk (by rw [q, hv])
    | _ => simp [valStrB, hv] at this
end
section
variable {prog : Program}
noncomputable def Stop (P : Prop) : Prop := P
theorem Stop.go {P : Prop} (h : Stop P) : P := h
structure CutEnd (R : Shared → Prop) (fl : Flow) (s' : Shared) : Prop where
  nx : fl = .next
  r : R s'
theorem cut_stmt {M : Model} {st : PySem.Stmt} {rest : List PySem.Stmt} {Qf : Flow → Shared → Prop} (R : Shared → Prop) (h1 : wpAny M A (exec st env) (CutEnd R) E s)
    (h2 : ∀ s', R s' → wpAny M A (execs rest env) Qf E s') : wpAny M A (execs (st :: rest) env) Qf E s :=
  wpAny_execs_cons (wpAny_mono h1 (fun fl s' ⟨e, r⟩ => by subst e; exact h2 s' r) fun _ _ x => x)
theorem hide {P : Prop} (h : ∀ G : Prop, (P → G) → G) : P := h P id
theorem cut_G {M : Model} {st : PySem.Stmt} {rest : List PySem.Stmt} {Qf : Flow → Shared → Prop} (R : Shared → Prop) (h1 : wpAny M A (exec st env) (CutEnd R) E s)
    (h2 : ∀ G : Shared → Prop, (∀ s', wpAny M A (execs rest env) Qf E s' → G s') → ∀ s', R s' → G s') : wpAny M A (execs (st :: rest) env) Qf E s :=
  cut_stmt R h1 (h2 _ fun _ h => h)
theorem cutK_2_2 {τ0 τ1 : Type} {M : Model} {A : Around} {env : Env} {E : Value → Shared → Prop} {st : PySem.Stmt} {rest : List PySem.Stmt} {Qf : Flow → Shared → Prop} {h0 : Heap} {g : Array GenState} {d : Drawn} {t0 : Nat} {o : OsState} {hp : τ0 → τ1 → Heap} {tk : τ0 → τ1 → Nat} {P0 P1 : τ0 → τ1 → Prop}
    (h1 : wpAny M A (exec st env) (CutEnd fun s' => ∃ a0 a1, s' = { (Shared.mk h0 g d t0 o : Shared) with heap := hp a0 a1, toks := tk a0 a1 } ∧ P0 a0 a1 ∧ P1 a0 a1) E ⟨h0, g, d, t0, o⟩)
    (h2 : ∀ a0 a1, P0 a0 a1 → P1 a0 a1 → wpAny M A (execs rest env) Qf E ⟨hp a0 a1, g, d, tk a0 a1, o⟩) : wpAny M A (execs (st :: rest) env) Qf E ⟨h0, g, d, t0, o⟩ :=
  cut_stmt _ h1 (fun s' h => by obtain ⟨a0, a1, rfl, p0, p1⟩ := h; exact h2 _ _ p0 p1)
theorem cutK_3_2 {τ0 τ1 τ2 : Type} {M : Model} {A : Around} {env : Env} {E : Value → Shared → Prop} {st : PySem.Stmt} {rest : List PySem.Stmt} {Qf : Flow → Shared → Prop} {h0 : Heap} {g : Array GenState} {d : Drawn} {t0 : Nat} {o : OsState} {hp : τ0 → τ1 → τ2 → Heap} {tk : τ0 → τ1 → τ2 → Nat} {P0 P1 : τ0 → τ1 → τ2 → Prop}
    (h1 : wpAny M A (exec st env) (CutEnd fun s' => ∃ a0 a1 a2, s' = { (Shared.mk h0 g d t0 o : Shared) with heap := hp a0 a1 a2, toks := tk a0 a1 a2 } ∧ P0 a0 a1 a2 ∧ P1 a0 a1 a2) E ⟨h0, g, d, t0, o⟩)
    (h2 : ∀ a0 a1 a2, P0 a0 a1 a2 → P1 a0 a1 a2 → wpAny M A (execs rest env) Qf E ⟨hp a0 a1 a2, g, d, tk a0 a1 a2, o⟩) : wpAny M A (execs (st :: rest) env) Qf E ⟨h0, g, d, t0, o⟩ :=
  cut_stmt _ h1 (fun s' h => by obtain ⟨a0, a1, a2, rfl, p0, p1⟩ := h; exact h2 _ _ _ p0 p1)
theorem cutK_3_3 {τ0 τ1 τ2 : Type} {M : Model} {A : Around} {env : Env} {E : Value → Shared → Prop} {st : PySem.Stmt} {rest : List PySem.Stmt} {Qf : Flow → Shared → Prop} {h0 : Heap} {g : Array GenState} {d : Drawn} {t0 : Nat} {o : OsState} {hp : τ0 → τ1 → τ2 → Heap} {tk : τ0 → τ1 → τ2 → Nat} {P0 P1 P2 : τ0 → τ1 → τ2 → Prop}
    (h1 : wpAny M A (exec st env) (CutEnd fun s' => ∃ a0 a1 a2, s' = { (Shared.mk h0 g d t0 o : Shared) with heap := hp a0 a1 a2, toks := tk a0 a1 a2 } ∧ P0 a0 a1 a2 ∧ P1 a0 a1 a2 ∧ P2 a0 a1 a2) E ⟨h0, g, d, t0, o⟩)
    (h2 : ∀ a0 a1 a2, P0 a0 a1 a2 → P1 a0 a1 a2 → P2 a0 a1 a2 → wpAny M A (execs rest env) Qf E ⟨hp a0 a1 a2, g, d, tk a0 a1 a2, o⟩) : wpAny M A (execs (st :: rest) env) Qf E ⟨h0, g, d, t0, o⟩ :=
  cut_stmt _ h1 (fun s' h => by obtain ⟨a0, a1, a2, rfl, p0, p1, p2⟩ := h; exact h2 _ _ _ p0 p1 p2)
theorem cutK_4_2 {τ0 τ1 τ2 τ3 : Type} {M : Model} {A : Around} {env : Env} {E : Value → Shared → Prop} {st : PySem.Stmt} {rest : List PySem.Stmt} {Qf : Flow → Shared → Prop} {h0 : Heap} {g : Array GenState} {d : Drawn} {t0 : Nat} {o : OsState} {hp : τ0 → τ1 → τ2 → τ3 → Heap} {tk : τ0 → τ1 → τ2 → τ3 → Nat} {P0 P1 : τ0 → τ1 → τ2 → τ3 → Prop}
    (h1 : wpAny M A (exec st env) (CutEnd fun s' => ∃ a0 a1 a2 a3, s' = { (Shared.mk h0 g d t0 o : Shared) with heap := hp a0 a1 a2 a3, toks := tk a0 a1 a2 a3 } ∧ P0 a0 a1 a2 a3 ∧ P1 a0 a1 a2 a3) E ⟨h0, g, d, t0, o⟩)
    (h2 : ∀ a0 a1 a2 a3, P0 a0 a1 a2 a3 → P1 a0 a1 a2 a3 → wpAny M A (execs rest env) Qf E ⟨hp a0 a1 a2 a3, g, d, tk a0 a1 a2 a3, o⟩) : wpAny M A (execs (st :: rest) env) Qf E ⟨h0, g, d, t0, o⟩ :=
  cut_stmt _ h1 (fun s' h => by obtain ⟨a0, a1, a2, a3, rfl, p0, p1⟩ := h; exact h2 _ _ _ _ p0 p1)
theorem cutK_4_3 {τ0 τ1 τ2 τ3 : Type} {M : Model} {A : Around} {env : Env} {E : Value → Shared → Prop} {st : PySem.Stmt} {rest : List PySem.Stmt} {Qf : Flow → Shared → Prop} {h0 : Heap} {g : Array GenState} {d : Drawn} {t0 : Nat} {o : OsState} {hp : τ0 → τ1 → τ2 → τ3 → Heap} {tk : τ0 → τ1 → τ2 → τ3 → Nat} {P0 P1 P2 : τ0 → τ1 → τ2 → τ3 → Prop}
    (h1 : wpAny M A (exec st env) (CutEnd fun s' => ∃ a0 a1 a2 a3, s' = { (Shared.mk h0 g d t0 o : Shared) with heap := hp a0 a1 a2 a3, toks := tk a0 a1 a2 a3 } ∧ P0 a0 a1 a2 a3 ∧ P1 a0 a1 a2 a3 ∧ P2 a0 a1 a2 a3) E ⟨h0, g, d, t0, o⟩)
    (h2 : ∀ a0 a1 a2 a3, P0 a0 a1 a2 a3 → P1 a0 a1 a2 a3 → P2 a0 a1 a2 a3 → wpAny M A (execs rest env) Qf E ⟨hp a0 a1 a2 a3, g, d, tk a0 a1 a2 a3, o⟩) : wpAny M A (execs (st :: rest) env) Qf E ⟨h0, g, d, t0, o⟩ :=
  cut_stmt _ h1 (fun s' h => by obtain ⟨a0, a1, a2, a3, rfl, p0, p1, p2⟩ := h; exact h2 _ _ _ _ p0 p1 p2)
theorem cutK_4_5 {τ0 τ1 τ2 τ3 : Type} {M : Model} {A : Around} {env : Env} {E : Value → Shared → Prop} {st : PySem.Stmt} {rest : List PySem.Stmt} {Qf : Flow → Shared → Prop} {h0 : Heap} {g : Array GenState} {d : Drawn} {t0 : Nat} {o : OsState} {hp : τ0 → τ1 → τ2 → τ3 → Heap} {tk : τ0 → τ1 → τ2 → τ3 → Nat} {P0 P1 P2 P3 P4 : τ0 → τ1 → τ2 → τ3 → Prop}
    (h1 : wpAny M A (exec st env) (CutEnd fun s' => ∃ a0 a1 a2 a3, s' = { (Shared.mk h0 g d t0 o : Shared) with heap := hp a0 a1 a2 a3, toks := tk a0 a1 a2 a3 } ∧ P0 a0 a1 a2 a3 ∧ P1 a0 a1 a2 a3 ∧ P2 a0 a1 a2 a3 ∧ P3 a0 a1 a2 a3 ∧ P4 a0 a1 a2 a3) E ⟨h0, g, d, t0, o⟩)
    (h2 : ∀ a0 a1 a2 a3, P0 a0 a1 a2 a3 → P1 a0 a1 a2 a3 → P2 a0 a1 a2 a3 → P3 a0 a1 a2 a3 → P4 a0 a1 a2 a3 → wpAny M A (execs rest env) Qf E ⟨hp a0 a1 a2 a3, g, d, tk a0 a1 a2 a3, o⟩) : wpAny M A (execs (st :: rest) env) Qf E ⟨h0, g, d, t0, o⟩ :=
  cut_stmt _ h1 (fun s' h => by obtain ⟨a0, a1, a2, a3, rfl, p0, p1, p2, p3, p4⟩ := h; exact h2 _ _ _ _ p0 p1 p2 p3 p4)
theorem cutK_4_6 {τ0 τ1 τ2 τ3 : Type} {M : Model} {A : Around} {env : Env} {E : Value → Shared → Prop} {st : PySem.Stmt} {rest : List PySem.Stmt} {Qf : Flow → Shared → Prop} {h0 : Heap} {g : Array GenState} {d : Drawn} {t0 : Nat} {o : OsState} {hp : τ0 → τ1 → τ2 → τ3 → Heap} {tk : τ0 → τ1 → τ2 → τ3 → Nat} {P0 P1 P2 P3 P4 P5 : τ0 → τ1 → τ2 → τ3 → Prop}
    (h1 : wpAny M A (exec st env) (CutEnd fun s' => ∃ a0 a1 a2 a3, s' = { (Shared.mk h0 g d t0 o : Shared) with heap := hp a0 a1 a2 a3, toks := tk a0 a1 a2 a3 } ∧ P0 a0 a1 a2 a3 ∧ P1 a0 a1 a2 a3 ∧ P2 a0 a1 a2 a3 ∧ P3 a0 a1 a2 a3 ∧ P4 a0 a1 a2 a3 ∧ P5 a0 a1 a2 a3) E ⟨h0, g, d, t0, o⟩)
    (h2 : ∀ a0 a1 a2 a3, P0 a0 a1 a2 a3 → P1 a0 a1 a2 a3 → P2 a0 a1 a2 a3 → P3 a0 a1 a2 a3 → P4 a0 a1 a2 a3 → P5 a0 a1 a2 a3 → wpAny M A (execs rest env) Qf E ⟨hp a0 a1 a2 a3, g, d, tk a0 a1 a2 a3, o⟩) : wpAny M A (execs (st :: rest) env) Qf E ⟨h0, g, d, t0, o⟩ :=
  cut_stmt _ h1 (fun s' h => by obtain ⟨a0, a1, a2, a3, rfl, p0, p1, p2, p3, p4, p5⟩ := h; exact h2 _ _ _ _ p0 p1 p2 p3 p4 p5)
theorem cutK_4_7 {τ0 τ1 τ2 τ3 : Type} {M : Model} {A : Around} {env : Env} {E : Value → Shared → Prop} {st : PySem.Stmt} {rest : List PySem.Stmt} {Qf : Flow → Shared → Prop} {h0 : Heap} {g : Array GenState} {d : Drawn} {t0 : Nat} {o : OsState} {hp : τ0 → τ1 → τ2 → τ3 → Heap} {tk : τ0 → τ1 → τ2 → τ3 → Nat} {P0 P1 P2 P3 P4 P5 P6 : τ0 → τ1 → τ2 → τ3 → Prop}
    (h1 : wpAny M A (exec st env) (CutEnd fun s' => ∃ a0 a1 a2 a3, s' = { (Shared.mk h0 g d t0 o : Shared) with heap := hp a0 a1 a2 a3, toks := tk a0 a1 a2 a3 } ∧ P0 a0 a1 a2 a3 ∧ P1 a0 a1 a2 a3 ∧ P2 a0 a1 a2 a3 ∧ P3 a0 a1 a2 a3 ∧ P4 a0 a1 a2 a3 ∧ P5 a0 a1 a2 a3 ∧ P6 a0 a1 a2 a3) E ⟨h0, g, d, t0, o⟩)
    (h2 : ∀ a0 a1 a2 a3, P0 a0 a1 a2 a3 → P1 a0 a1 a2 a3 → P2 a0 a1 a2 a3 → P3 a0 a1 a2 a3 → P4 a0 a1 a2 a3 → P5 a0 a1 a2 a3 → P6 a0 a1 a2 a3 → wpAny M A (execs rest env) Qf E ⟨hp a0 a1 a2 a3, g, d, tk a0 a1 a2 a3, o⟩) : wpAny M A (execs (st :: rest) env) Qf E ⟨h0, g, d, t0, o⟩ :=
  cut_stmt _ h1 (fun s' h => by obtain ⟨a0, a1, a2, a3, rfl, p0, p1, p2, p3, p4, p5, p6⟩ := h; exact h2 _ _ _ _ p0 p1 p2 p3 p4 p5 p6)
theorem cutK_5_3 {τ0 τ1 τ2 τ3 τ4 : Type} {M : Model} {A : Around} {env : Env} {E : Value → Shared → Prop} {st : PySem.Stmt} {rest : List PySem.Stmt} {Qf : Flow → Shared → Prop} {h0 : Heap} {g : Array GenState} {d : Drawn} {t0 : Nat} {o : OsState} {hp : τ0 → τ1 → τ2 → τ3 → τ4 → Heap} {tk : τ0 → τ1 → τ2 → τ3 → τ4 → Nat} {P0 P1 P2 : τ0 → τ1 → τ2 → τ3 → τ4 → Prop}
    (h1 : wpAny M A (exec st env) (CutEnd fun s' => ∃ a0 a1 a2 a3 a4, s' = { (Shared.mk h0 g d t0 o : Shared) with heap := hp a0 a1 a2 a3 a4, toks := tk a0 a1 a2 a3 a4 } ∧ P0 a0 a1 a2 a3 a4 ∧ P1 a0 a1 a2 a3 a4 ∧ P2 a0 a1 a2 a3 a4) E ⟨h0, g, d, t0, o⟩)
    (h2 : ∀ a0 a1 a2 a3 a4, P0 a0 a1 a2 a3 a4 → P1 a0 a1 a2 a3 a4 → P2 a0 a1 a2 a3 a4 → wpAny M A (execs rest env) Qf E ⟨hp a0 a1 a2 a3 a4, g, d, tk a0 a1 a2 a3 a4, o⟩) : wpAny M A (execs (st :: rest) env) Qf E ⟨h0, g, d, t0, o⟩ :=
  cut_stmt _ h1 (fun s' h => by obtain ⟨a0, a1, a2, a3, a4, rfl, p0, p1, p2⟩ := h; exact h2 _ _ _ _ _ p0 p1 p2)
theorem cutK_5_4 {τ0 τ1 τ2 τ3 τ4 : Type} {M : Model} {A : Around} {env : Env} {E : Value → Shared → Prop} {st : PySem.Stmt} {rest : List PySem.Stmt} {Qf : Flow → Shared → Prop} {h0 : Heap} {g : Array GenState} {d : Drawn} {t0 : Nat} {o : OsState} {hp : τ0 → τ1 → τ2 → τ3 → τ4 → Heap} {tk : τ0 → τ1 → τ2 → τ3 → τ4 → Nat} {P0 P1 P2 P3 : τ0 → τ1 → τ2 → τ3 → τ4 → Prop}
    (h1 : wpAny M A (exec st env) (CutEnd fun s' => ∃ a0 a1 a2 a3 a4, s' = { (Shared.mk h0 g d t0 o : Shared) with heap := hp a0 a1 a2 a3 a4, toks := tk a0 a1 a2 a3 a4 } ∧ P0 a0 a1 a2 a3 a4 ∧ P1 a0 a1 a2 a3 a4 ∧ P2 a0 a1 a2 a3 a4 ∧ P3 a0 a1 a2 a3 a4) E ⟨h0, g, d, t0, o⟩)
    (h2 : ∀ a0 a1 a2 a3 a4, P0 a0 a1 a2 a3 a4 → P1 a0 a1 a2 a3 a4 → P2 a0 a1 a2 a3 a4 → P3 a0 a1 a2 a3 a4 → wpAny M A (execs rest env) Qf E ⟨hp a0 a1 a2 a3 a4, g, d, tk a0 a1 a2 a3 a4, o⟩) : wpAny M A (execs (st :: rest) env) Qf E ⟨h0, g, d, t0, o⟩ :=
  cut_stmt _ h1 (fun s' h => by obtain ⟨a0, a1, a2, a3, a4, rfl, p0, p1, p2, p3⟩ := h; exact h2 _ _ _ _ _ p0 p1 p2 p3)
theorem cutK_5_5 {τ0 τ1 τ2 τ3 τ4 : Type} {M : Model} {A : Around} {env : Env} {E : Value → Shared → Prop} {st : PySem.Stmt} {rest : List PySem.Stmt} {Qf : Flow → Shared → Prop} {h0 : Heap} {g : Array GenState} {d : Drawn} {t0 : Nat} {o : OsState} {hp : τ0 → τ1 → τ2 → τ3 → τ4 → Heap} {tk : τ0 → τ1 → τ2 → τ3 → τ4 → Nat} {P0 P1 P2 P3 P4 : τ0 → τ1 → τ2 → τ3 → τ4 → Prop}
    (h1 : wpAny M A (exec st env) (CutEnd fun s' => ∃ a0 a1 a2 a3 a4, s' = { (Shared.mk h0 g d t0 o : Shared) with heap := hp a0 a1 a2 a3 a4, toks := tk a0 a1 a2 a3 a4 } ∧ P0 a0 a1 a2 a3 a4 ∧ P1 a0 a1 a2 a3 a4 ∧ P2 a0 a1 a2 a3 a4 ∧ P3 a0 a1 a2 a3 a4 ∧ P4 a0 a1 a2 a3 a4) E ⟨h0, g, d, t0, o⟩)
    (h2 : ∀ a0 a1 a2 a3 a4, P0 a0 a1 a2 a3 a4 → P1 a0 a1 a2 a3 a4 → P2 a0 a1 a2 a3 a4 → P3 a0 a1 a2 a3 a4 → P4 a0 a1 a2 a3 a4 → wpAny M A (execs rest env) Qf E ⟨hp a0 a1 a2 a3 a4, g, d, tk a0 a1 a2 a3 a4, o⟩) : wpAny M A (execs (st :: rest) env) Qf E ⟨h0, g, d, t0, o⟩ :=
  cut_stmt _ h1 (fun s' h => by obtain ⟨a0, a1, a2, a3, a4, rfl, p0, p1, p2, p3, p4⟩ := h; exact h2 _ _ _ _ _ p0 p1 p2 p3 p4)
theorem cutK_5_6 {τ0 τ1 τ2 τ3 τ4 : Type} {M : Model} {A : Around} {env : Env} {E : Value → Shared → Prop} {st : PySem.Stmt} {rest : List PySem.Stmt} {Qf : Flow → Shared → Prop} {h0 : Heap} {g : Array GenState} {d : Drawn} {t0 : Nat} {o : OsState} {hp : τ0 → τ1 → τ2 → τ3 → τ4 → Heap} {tk : τ0 → τ1 → τ2 → τ3 → τ4 → Nat} {P0 P1 P2 P3 P4 P5 : τ0 → τ1 → τ2 → τ3 → τ4 → Prop}
    (h1 : wpAny M A (exec st env) (CutEnd fun s' => ∃ a0 a1 a2 a3 a4, s' = { (Shared.mk h0 g d t0 o : Shared) with heap := hp a0 a1 a2 a3 a4, toks := tk a0 a1 a2 a3 a4 } ∧ P0 a0 a1 a2 a3 a4 ∧ P1 a0 a1 a2 a3 a4 ∧ P2 a0 a1 a2 a3 a4 ∧ P3 a0 a1 a2 a3 a4 ∧ P4 a0 a1 a2 a3 a4 ∧ P5 a0 a1 a2 a3 a4) E ⟨h0, g, d, t0, o⟩)
    (h2 : ∀ a0 a1 a2 a3 a4, P0 a0 a1 a2 a3 a4 → P1 a0 a1 a2 a3 a4 → P2 a0 a1 a2 a3 a4 → P3 a0 a1 a2 a3 a4 → P4 a0 a1 a2 a3 a4 → P5 a0 a1 a2 a3 a4 → wpAny M A (execs rest env) Qf E ⟨hp a0 a1 a2 a3 a4, g, d, tk a0 a1 a2 a3 a4, o⟩) : wpAny M A (execs (st :: rest) env) Qf E ⟨h0, g, d, t0, o⟩ :=
  cut_stmt _ h1 (fun s' h => by obtain ⟨a0, a1, a2, a3, a4, rfl, p0, p1, p2, p3, p4, p5⟩ := h; exact h2 _ _ _ _ _ p0 p1 p2 p3 p4 p5)
theorem cutK_5_7 {τ0 τ1 τ2 τ3 τ4 : Type} {M : Model} {A : Around} {env : Env} {E : Value → Shared → Prop} {st : PySem.Stmt} {rest : List PySem.Stmt} {Qf : Flow → Shared → Prop} {h0 : Heap} {g : Array GenState} {d : Drawn} {t0 : Nat} {o : OsState} {hp : τ0 → τ1 → τ2 → τ3 → τ4 → Heap} {tk : τ0 → τ1 → τ2 → τ3 → τ4 → Nat} {P0 P1 P2 P3 P4 P5 P6 : τ0 → τ1 → τ2 → τ3 → τ4 → Prop}
    (h1 : wpAny M A (exec st env) (CutEnd fun s' => ∃ a0 a1 a2 a3 a4, s' = { (Shared.mk h0 g d t0 o : Shared) with heap := hp a0 a1 a2 a3 a4, toks := tk a0 a1 a2 a3 a4 } ∧ P0 a0 a1 a2 a3 a4 ∧ P1 a0 a1 a2 a3 a4 ∧ P2 a0 a1 a2 a3 a4 ∧ P3 a0 a1 a2 a3 a4 ∧ P4 a0 a1 a2 a3 a4 ∧ P5 a0 a1 a2 a3 a4 ∧ P6 a0 a1 a2 a3 a4) E ⟨h0, g, d, t0, o⟩)
    (h2 : ∀ a0 a1 a2 a3 a4, P0 a0 a1 a2 a3 a4 → P1 a0 a1 a2 a3 a4 → P2 a0 a1 a2 a3 a4 → P3 a0 a1 a2 a3 a4 → P4 a0 a1 a2 a3 a4 → P5 a0 a1 a2 a3 a4 → P6 a0 a1 a2 a3 a4 → wpAny M A (execs rest env) Qf E ⟨hp a0 a1 a2 a3 a4, g, d, tk a0 a1 a2 a3 a4, o⟩) : wpAny M A (execs (st :: rest) env) Qf E ⟨h0, g, d, t0, o⟩ :=
  cut_stmt _ h1 (fun s' h => by obtain ⟨a0, a1, a2, a3, a4, rfl, p0, p1, p2, p3, p4, p5, p6⟩ := h; exact h2 _ _ _ _ _ p0 p1 p2 p3 p4 p5 p6)
theorem cutK_6_4 {τ0 τ1 τ2 τ3 τ4 τ5 : Type} {M : Model} {A : Around} {env : Env} {E : Value → Shared → Prop} {st : PySem.Stmt} {rest : List PySem.Stmt} {Qf : Flow → Shared → Prop} {h0 : Heap} {g : Array GenState} {d : Drawn} {t0 : Nat} {o : OsState} {hp : τ0 → τ1 → τ2 → τ3 → τ4 → τ5 → Heap} {tk : τ0 → τ1 → τ2 → τ3 → τ4 → τ5 → Nat} {P0 P1 P2 P3 : τ0 → τ1 → τ2 → τ3 → τ4 → τ5 → Prop}
    (h1 : wpAny M A (exec st env) (CutEnd fun s' => ∃ a0 a1 a2 a3 a4 a5, s' = { (Shared.mk h0 g d t0 o : Shared) with heap := hp a0 a1 a2 a3 a4 a5, toks := tk a0 a1 a2 a3 a4 a5 } ∧ P0 a0 a1 a2 a3 a4 a5 ∧ P1 a0 a1 a2 a3 a4 a5 ∧ P2 a0 a1 a2 a3 a4 a5 ∧ P3 a0 a1 a2 a3 a4 a5) E ⟨h0, g, d, t0, o⟩)
    (h2 : ∀ a0 a1 a2 a3 a4 a5, P0 a0 a1 a2 a3 a4 a5 → P1 a0 a1 a2 a3 a4 a5 → P2 a0 a1 a2 a3 a4 a5 → P3 a0 a1 a2 a3 a4 a5 → wpAny M A (execs rest env) Qf E ⟨hp a0 a1 a2 a3 a4 a5, g, d, tk a0 a1 a2 a3 a4 a5, o⟩) : wpAny M A (execs (st :: rest) env) Qf E ⟨h0, g, d, t0, o⟩ :=
  cut_stmt _ h1 (fun s' h => by obtain ⟨a0, a1, a2, a3, a4, a5, rfl, p0, p1, p2, p3⟩ := h; exact h2 _ _ _ _ _ _ p0 p1 p2 p3)
theorem cutK_6_5 {τ0 τ1 τ2 τ3 τ4 τ5 : Type} {M : Model} {A : Around} {env : Env} {E : Value → Shared → Prop} {st : PySem.Stmt} {rest : List PySem.Stmt} {Qf : Flow → Shared → Prop} {h0 : Heap} {g : Array GenState} {d : Drawn} {t0 : Nat} {o : OsState} {hp : τ0 → τ1 → τ2 → τ3 → τ4 → τ5 → Heap} {tk : τ0 → τ1 → τ2 → τ3 → τ4 → τ5 → Nat} {P0 P1 P2 P3 P4 : τ0 → τ1 → τ2 → τ3 → τ4 → τ5 → Prop}
    (h1 : wpAny M A (exec st env) (CutEnd fun s' => ∃ a0 a1 a2 a3 a4 a5, s' = { (Shared.mk h0 g d t0 o : Shared) with heap := hp a0 a1 a2 a3 a4 a5, toks := tk a0 a1 a2 a3 a4 a5 } ∧ P0 a0 a1 a2 a3 a4 a5 ∧ P1 a0 a1 a2 a3 a4 a5 ∧ P2 a0 a1 a2 a3 a4 a5 ∧ P3 a0 a1 a2 a3 a4 a5 ∧ P4 a0 a1 a2 a3 a4 a5) E ⟨h0, g, d, t0, o⟩)
    (h2 : ∀ a0 a1 a2 a3 a4 a5, P0 a0 a1 a2 a3 a4 a5 → P1 a0 a1 a2 a3 a4 a5 → P2 a0 a1 a2 a3 a4 a5 → P3 a0 a1 a2 a3 a4 a5 → P4 a0 a1 a2 a3 a4 a5 → wpAny M A (execs rest env) Qf E ⟨hp a0 a1 a2 a3 a4 a5, g, d, tk a0 a1 a2 a3 a4 a5, o⟩) : wpAny M A (execs (st :: rest) env) Qf E ⟨h0, g, d, t0, o⟩ :=
  cut_stmt _ h1 (fun s' h => by obtain ⟨a0, a1, a2, a3, a4, a5, rfl, p0, p1, p2, p3, p4⟩ := h; exact h2 _ _ _ _ _ _ p0 p1 p2 p3 p4)
theorem cutK_7_6 {τ0 τ1 τ2 τ3 τ4 τ5 τ6 : Type} {M : Model} {A : Around} {env : Env} {E : Value → Shared → Prop} {st : PySem.Stmt} {rest : List PySem.Stmt} {Qf : Flow → Shared → Prop} {h0 : Heap} {g : Array GenState} {d : Drawn} {t0 : Nat} {o : OsState} {hp : τ0 → τ1 → τ2 → τ3 → τ4 → τ5 → τ6 → Heap} {tk : τ0 → τ1 → τ2 → τ3 → τ4 → τ5 → τ6 → Nat} {P0 P1 P2 P3 P4 P5 : τ0 → τ1 → τ2 → τ3 → τ4 → τ5 → τ6 → Prop}
    (h1 : wpAny M A (exec st env) (CutEnd fun s' => ∃ a0 a1 a2 a3 a4 a5 a6, s' = { (Shared.mk h0 g d t0 o : Shared) with heap := hp a0 a1 a2 a3 a4 a5 a6, toks := tk a0 a1 a2 a3 a4 a5 a6 } ∧ P0 a0 a1 a2 a3 a4 a5 a6 ∧ P1 a0 a1 a2 a3 a4 a5 a6 ∧ P2 a0 a1 a2 a3 a4 a5 a6 ∧ P3 a0 a1 a2 a3 a4 a5 a6 ∧ P4 a0 a1 a2 a3 a4 a5 a6 ∧ P5 a0 a1 a2 a3 a4 a5 a6) E ⟨h0, g, d, t0, o⟩)
    (h2 : ∀ a0 a1 a2 a3 a4 a5 a6, P0 a0 a1 a2 a3 a4 a5 a6 → P1 a0 a1 a2 a3 a4 a5 a6 → P2 a0 a1 a2 a3 a4 a5 a6 → P3 a0 a1 a2 a3 a4 a5 a6 → P4 a0 a1 a2 a3 a4 a5 a6 → P5 a0 a1 a2 a3 a4 a5 a6 → wpAny M A (execs rest env) Qf E ⟨hp a0 a1 a2 a3 a4 a5 a6, g, d, tk a0 a1 a2 a3 a4 a5 a6, o⟩) : wpAny M A (execs (st :: rest) env) Qf E ⟨h0, g, d, t0, o⟩ :=
  cut_stmt _ h1 (fun s' h => by obtain ⟨a0, a1, a2, a3, a4, a5, a6, rfl, p0, p1, p2, p3, p4, p5⟩ := h; exact h2 _ _ _ _ _ _ _ p0 p1 p2 p3 p4 p5)
theorem cutK_7_7 {τ0 τ1 τ2 τ3 τ4 τ5 τ6 : Type} {M : Model} {A : Around} {env : Env} {E : Value → Shared → Prop} {st : PySem.Stmt} {rest : List PySem.Stmt} {Qf : Flow → Shared → Prop} {h0 : Heap} {g : Array GenState} {d : Drawn} {t0 : Nat} {o : OsState} {hp : τ0 → τ1 → τ2 → τ3 → τ4 → τ5 → τ6 → Heap} {tk : τ0 → τ1 → τ2 → τ3 → τ4 → τ5 → τ6 → Nat} {P0 P1 P2 P3 P4 P5 P6 : τ0 → τ1 → τ2 → τ3 → τ4 → τ5 → τ6 → Prop}
    (h1 : wpAny M A (exec st env) (CutEnd fun s' => ∃ a0 a1 a2 a3 a4 a5 a6, s' = { (Shared.mk h0 g d t0 o : Shared) with heap := hp a0 a1 a2 a3 a4 a5 a6, toks := tk a0 a1 a2 a3 a4 a5 a6 } ∧ P0 a0 a1 a2 a3 a4 a5 a6 ∧ P1 a0 a1 a2 a3 a4 a5 a6 ∧ P2 a0 a1 a2 a3 a4 a5 a6 ∧ P3 a0 a1 a2 a3 a4 a5 a6 ∧ P4 a0 a1 a2 a3 a4 a5 a6 ∧ P5 a0 a1 a2 a3 a4 a5 a6 ∧ P6 a0 a1 a2 a3 a4 a5 a6) E ⟨h0, g, d, t0, o⟩)
    (h2 : ∀ a0 a1 a2 a3 a4 a5 a6, P0 a0 a1 a2 a3 a4 a5 a6 → P1 a0 a1 a2 a3 a4 a5 a6 → P2 a0 a1 a2 a3 a4 a5 a6 → P3 a0 a1 a2 a3 a4 a5 a6 → P4 a0 a1 a2 a3 a4 a5 a6 → P5 a0 a1 a2 a3 a4 a5 a6 → P6 a0 a1 a2 a3 a4 a5 a6 → wpAny M A (execs rest env) Qf E ⟨hp a0 a1 a2 a3 a4 a5 a6, g, d, tk a0 a1 a2 a3 a4 a5 a6, o⟩) : wpAny M A (execs (st :: rest) env) Qf E ⟨h0, g, d, t0, o⟩ :=
  cut_stmt _ h1 (fun s' h => by obtain ⟨a0, a1, a2, a3, a4, a5, a6, rfl, p0, p1, p2, p3, p4, p5, p6⟩ := h; exact h2 _ _ _ _ _ _ _ p0 p1 p2 p3 p4 p5 p6)
theorem cutK_8_9 {τ0 τ1 τ2 τ3 τ4 τ5 τ6 τ7 : Type} {M : Model} {A : Around} {env : Env} {E : Value → Shared → Prop} {st : PySem.Stmt} {rest : List PySem.Stmt} {Qf : Flow → Shared → Prop} {h0 : Heap} {g : Array GenState} {d : Drawn} {t0 : Nat} {o : OsState} {hp : τ0 → τ1 → τ2 → τ3 → τ4 → τ5 → τ6 → τ7 → Heap} {tk : τ0 → τ1 → τ2 → τ3 → τ4 → τ5 → τ6 → τ7 → Nat} {P0 P1 P2 P3 P4 P5 P6 P7 P8 : τ0 → τ1 → τ2 → τ3 → τ4 → τ5 → τ6 → τ7 → Prop}
    (h1 : wpAny M A (exec st env) (CutEnd fun s' => ∃ a0 a1 a2 a3 a4 a5 a6 a7, s' = { (Shared.mk h0 g d t0 o : Shared) with heap := hp a0 a1 a2 a3 a4 a5 a6 a7, toks := tk a0 a1 a2 a3 a4 a5 a6 a7 } ∧ P0 a0 a1 a2 a3 a4 a5 a6 a7 ∧ P1 a0 a1 a2 a3 a4 a5 a6 a7 ∧ P2 a0 a1 a2 a3 a4 a5 a6 a7 ∧ P3 a0 a1 a2 a3 a4 a5 a6 a7 ∧ P4 a0 a1 a2 a3 a4 a5 a6 a7 ∧ P5 a0 a1 a2 a3 a4 a5 a6 a7 ∧ P6 a0 a1 a2 a3 a4 a5 a6 a7 ∧ P7 a0 a1 a2 a3 a4 a5 a6 a7 ∧ P8 a0 a1 a2 a3 a4 a5 a6 a7) E ⟨h0, g, d, t0, o⟩)
    (h2 : ∀ a0 a1 a2 a3 a4 a5 a6 a7, P0 a0 a1 a2 a3 a4 a5 a6 a7 → P1 a0 a1 a2 a3 a4 a5 a6 a7 → P2 a0 a1 a2 a3 a4 a5 a6 a7 → P3 a0 a1 a2 a3 a4 a5 a6 a7 → P4 a0 a1 a2 a3 a4 a5 a6 a7 → P5 a0 a1 a2 a3 a4 a5 a6 a7 → P6 a0 a1 a2 a3 a4 a5 a6 a7 → P7 a0 a1 a2 a3 a4 a5 a6 a7 → P8 a0 a1 a2 a3 a4 a5 a6 a7 → wpAny M A (execs rest env) Qf E ⟨hp a0 a1 a2 a3 a4 a5 a6 a7, g, d, tk a0 a1 a2 a3 a4 a5 a6 a7, o⟩) : wpAny M A (execs (st :: rest) env) Qf E ⟨h0, g, d, t0, o⟩ :=
  cut_stmt _ h1 (fun s' h => by obtain ⟨a0, a1, a2, a3, a4, a5, a6, a7, rfl, p0, p1, p2, p3, p4, p5, p6, p7, p8⟩ := h; exact h2 _ _ _ _ _ _ _ _ p0 p1 p2 p3 p4 p5 p6 p7 p8)
noncomputable def AllAt (P : Nat → Value → Prop) : Nat → List Value → Prop
  | _, [] => True
  | n, v :: vs => P n v ∧ AllAt P (n + 1) vs
theorem AllAt.get {P : Nat → Value → Prop} : ∀ {vs : List Value} {n : Nat}, AllAt P n vs → ∀ i (hi : i < vs.length), P (n + i) vs[i]
  | _ :: _, _, h, 0, _ => h.1
  | v :: vs, n, h, i + 1, hi => by
    have := h.2.get i (by simpa using hi)
    rw [show n + (i + 1) = n + 1 + i by omega]
    simpa using this
theorem item_cases {value slice : PySem.Expr} {l : Addr} {vs : List Value} {n : Nat} {k : Int} {u : Tok} {Q : Value → Shared → Prop} (N : News h₀ L s.heap news) (hm : (l, PySem.W.listOf vs.toArray n) ∈ news)
    (h0 : 0 ≤ k) (h1 : k < vs.length) (hb : vs.length ≤ 64) (h : AllAt (fun i v => k = (i : Int) → Q v s) 0 vs)
    (hs : subscripted slice false (.ref l) (.int k u) = operate [.ref l, .int k u] (getItem (.ref l) (.int k u)) := by with_unfolding_all rfl) :
    wpAny (model prog w) A (subscriptTail value slice (.ref l) (.int k u)) Q E s :=
  have hL : s.heap.IsList l vs.toArray := ⟨_, (N _ hm).1, rfl, n, rfl⟩
  have hk : k.toNat < vs.length := by omega
  tail_any hL.typeIs slot_list_getitem.lookup (wpAny_getItem_list hL h0 (by omega) (by simp [hk]) (h.get k.toNat hk (by omega))) hs
theorem newsSub {h : Heap} {a b : List (Addr × Obj)} (N : News h₀ L h b) (hs : ∀ p ∈ a, p ∈ b) : News h₀ L h a := fun p hp => N p (hs p hp)
theorem strIs {o : Option Value} {x y : PySem.Str} {t : Tok} (h : o = some (.str x t)) (e : x = y) : ∃ t, o = some (.str y t) := ⟨t, by rw [h, e]⟩
theorem intIs {o : Option Value} {x y : Int} {t : Tok} (h : o = some (.int x t)) (e : x = y) : ∃ t, o = some (.int y t) := ⟨t, by rw [h, e]⟩
theorem list_rangeN {r : Addr} {a b c : Int} {t u v : Tok} {n : Nat} {Q : Value → Shared → Prop} (hh : A.handled = none) (F : Fr h₀ L s.heap m) (N : News h₀ L s.heap news)
    (hr : IsRange s.heap r a b c t u v) (hsmall : Builtin.Range.small a b c = true) (hn : Builtin.Range.rangeSize a b c = (n : Int)) (hlen : n ≤ 2 ^ 24)
    (hQ : ∀ D e h' tk (ys : List Value), Fr h₀ L h' m → News h₀ L h' ((D, PySem.W.listOf ys.toArray e) :: news) → (∀ p ∈ news, p.1 < D) → IntsAre ys (rangeInts a c n) → Q (.ref D) { s with heap := h', toks := tk }) :
    wpAny (model prog w) A (call (.type "list") [.ref r]) Q E s :=
  list_rangeD hh F N hr hsmall hn hlen fun h' tk ys F' N' _ h0 _ hp hc => by
    have hne := hp.ne_locals F'
    obtain ⟨⟨e, he⟩, _⟩ := hp
    refine hQ _ e h' tk ys F' ?_ (fun p hp => Heap.lt_size (N p hp).1) (IntsAre.ofCarried hc)
    intro p hp
    rcases List.mem_cons.mp hp with rfl | hp
    · exact ⟨he, hne, h0⟩
    · exact N' p hp
theorem add_listsN {l b : Addr} {xs ys : List Value} {e f : Nat} {Q : Value → Shared → Prop} (F : Fr h₀ L s.heap m) (N : News h₀ L s.heap news) (hl : (l, PySem.W.listOf xs.toArray e) ∈ news) (hb : (b, PySem.W.listOf ys.toArray f) ∈ news)
    (hsz : xs.length + ys.length ≤ sizeLine)
    (h : ∀ D h', Fr h₀ L h' m → News h₀ L h' ((D, PySem.W.listOf (xs ++ ys).toArray 0) :: news) → (∀ p ∈ news, p.1 < D) → Q (.ref D) { s with heap := h' }) :
    wpAny (model prog w) A (binaryOp .Add (.ref l) (.ref b)) Q E s :=
  add_lists (vs := xs) (ws := ys) (hsz := hsz) F N ⟨_, (N _ hl).1, rfl, e, rfl⟩ ⟨_, (N _ hb).1, rfl, f, rfl⟩ fun h' F' N' => h _ h' F' N' (fun p hp => Heap.lt_size (N p hp).1)
theorem item_intsN {value slice : PySem.Expr} {l : Addr} {vs : List Value} {ns : List Int} {n : Nat} {k : Int} {u : Tok} {Q : Value → Shared → Prop} (N : News h₀ L s.heap news) (hm : (l, PySem.W.listOf vs.toArray n) ∈ news) (hi : IntsAre vs ns)
    (h0 : 0 ≤ k) (h1 : k < ns.length) (hb : ns.length ≤ 1000) (h : ∀ t, Q (.int (ns.getD k.toNat 0) t) s)
    (hs : subscripted slice false (.ref l) (.int k u) = operate [.ref l, .int k u] (getItem (.ref l) (.int k u)) := by with_unfolding_all rfl) :
    wpAny (model prog w) A (subscriptTail value slice (.ref l) (.int k u)) Q E s := by
  have hL : s.heap.IsList l vs.toArray := ⟨_, (N _ hm).1, rfl, n, rfl⟩
  obtain ⟨t, hx⟩ := hi.get k.toNat _ (ints_getD h0 h1)
  exact tail_any hL.typeIs slot_list_getitem.lookup (wpAny_getItem_list hL h0 (by omega) (by simpa using hx) (h t)) hs
theorem isListN {h : Heap} {l : Addr} {vs : List Value} {n : Nat} (N : News h₀ L h news) (hm : (l, PySem.W.listOf vs.toArray n) ∈ news) : h.IsList l vs.toArray := ⟨_, (N _ hm).1, rfl, n, rfl⟩
theorem len_intsN {l : Addr} {vs : List Value} {ns : List Int} {n : Nat} {Q : Value → Shared → Prop} (N : News h₀ L s.heap news) (hm : (l, PySem.W.listOf vs.toArray n) ∈ news) (hi : IntsAre vs ns) (hb : ns.length ≤ 1000)
    (h : Q (.int ns.length (s.toks + 1)) { s with toks := s.toks + 1 + 1 }) : wpAny (model prog w) A (call (.builtin "len") [.ref l]) Q E s := by
  have e : vs.length = ns.length := by have := hi.length; omega
  refine len_list (isListN N hm) (by simp; omega) ?_
  rw [List.size_toArray, e]; exact h
theorem While_J {test : PySem.Expr} {body : List PySem.Stmt} {pos : Pos} {Qf : Flow → Shared → Prop} (J : Nat → (PySem.Str → Option Value) → List (Addr × Obj) → Prop) {n₀ : Nat}
    (F : Fr h₀ L s.heap m) (N : News h₀ L s.heap news) (hJ : J n₀ m news)
    (turn : ∀ n m₁ news₁ h₁ tk₁, Fr h₀ L h₁ m₁ → News h₀ L h₁ news₁ → J n m₁ news₁ →
      wpAny (model prog w) A (isTrue test env (eval test env)) (fun b s₂ =>
        if b = true then wpAny (model prog w) A (execs body env) (WhileStep2 h₀ L s J Qf n) (fun _ _ => False) s₂ else Qf .next s₂) (fun _ _ => False) { s with heap := h₁, toks := tk₁ }) :
    wpAny (model prog w) A (exec (.While test body [] pos) env) Qf E s :=
  wpAny_mono (While_inv2 (E := fun _ _ => False) J F N hJ turn (fun _ _ h => h.elim)) (fun _ _ x => x) (fun _ _ x => x.elim)
theorem frDeeper {e : Env} {l : List Env} (h : A.frames = some l) : (A.deeper e).frames = some (e :: l) := by
  show A.frames.map (e :: ·) = _
  rw [h]; rfl
theorem roomDeeper {e : Env} {k : Nat} (h : A.depth < k) : (A.deeper e).depth < k + 1 := Nat.succ_lt_succ h
end
section
open PySem.Spec
variable {prog : Program}
noncomputable def TurnJ (h₀ : Heap) (L : Addr) (s₁ : Shared) (I : Addr) (oI : Obj) (J : (PySem.Str → Option Value) → List (Addr × Obj) → Prop) (Qr : Value → Shared → Prop) (Qb : Shared → Prop) (f : Flow) (s₂ : Shared) : Prop :=
  match f with
  | .ret v => Qr v s₂
  | .brk => Qb s₂
  | _ => ∃ h' tk m' news', s₂ = { s₁ with heap := h', toks := tk } ∧ Fr h₀ L h' m' ∧ News h₀ L h' ((I, oI) :: news') ∧ (∀ p ∈ news', p.1 ≠ I) ∧ J m' news'
theorem TurnJ.intro {s₁ : Shared} {I : Addr} {oI : Obj} {J : (PySem.Str → Option Value) → List (Addr × Obj) → Prop} {Qr : Value → Shared → Prop} {Qb : Shared → Prop} {h' : Heap} {tk : Nat} {m' : PySem.Str → Option Value} {all : List (Addr × Obj)}
    (F : Fr h₀ L h' m') (N : News h₀ L h' all) (news' : List (Addr × Obj)) (hI : (I, oI) ∈ all) (sub : ∀ p ∈ news', p ∈ all) (off : ∀ p ∈ news', p.1 ≠ I) (r : J m' news') :
    TurnJ h₀ L s₁ I oI J Qr Qb .next { s₁ with heap := h', toks := tk } := ⟨h', tk, m', news', rfl, F, fun p hp => by
      rcases List.mem_cons.mp hp with rfl | hp
      · exact N _ hI
      · exact N _ (sub p hp), off, r⟩
theorem forLoop_J {R : Result → Shared → Prop} {target : PySem.Expr} {body orelse : List PySem.Stmt} {I : Addr} {fp : List Addr} {n : Nat} {P : Nat → Value → Prop} {St : Nat → Heap → Prop} (ob : Addr → Obj)
    (W : Walks prog w A I fp [I] n P St) (ht : ∀ v, letOwnedTupleGo target (.ref I) v = pure ())
    (J : Nat → (PySem.Str → Option Value) → List (Addr × Obj) → Prop) (hfp : ∀ i m news, J i m news → ∀ b ∈ fp, b ≠ I → (b, ob b) ∈ news)
    (hI : ∀ i h, St i h → ∃ o, h.get? I = some o) (hLI : L ≠ I) (hI₀ : h₀.get? I = none) (hst : St 0 s.heap) (F : Fr h₀ L s.heap m) (N : News h₀ L s.heap news) (off : ∀ p ∈ news, p.1 ≠ I) (h0 : J 0 m news)
    (turn : ∀ i v m₁ news₁ oI h tk, i < n → P i v → J i m₁ news₁ → Fr h₀ L h m₁ → News h₀ L h ((I, oI) :: news₁) → (∀ p ∈ news₁, p.1 ≠ I) →
      wpAny (model prog w) A (assign target env v) (fun _ s₂ => wpAny (model prog w) A (execs body env) (TurnJ h₀ L s I oI (J (i + 1)) (fun v s' => R (.ok (.ret v)) s') (fun s' => R (.ok .next) s')) (fun _ _ => False) s₂) (fun _ _ => False) { s with heap := h, toks := tk })
    (fin : ∀ h tk m₁ news₁, Fr h₀ L h m₁ → News h₀ L h news₁ → J n m₁ news₁ → wpAny (model prog w) A (execs orelse env) (fun f s₃ => R (.ok f) s₃) (fun _ _ => False) { s with heap := h, toks := tk }) :
    codeAny (model prog w) A (.forLoop target (.ref I) body orelse env) R s := by
  refine codeAny_forLoop_any
    (fun k s' => ∃ h' tk m' news' i, s' = { s with heap := h', toks := tk } ∧ St i h' ∧ Fr h₀ L h' m' ∧ News h₀ L h' news' ∧ (∀ p ∈ news', p.1 ≠ I) ∧ J i m' news' ∧ i ≤ n ∧ k = n + 1 - i) ?_ (n + 1)
    ⟨s.heap, s.toks, m, news, 0, rfl, hst, F, N, off, h0, Nat.zero_le _, rfl⟩
  rintro k s' ⟨h', tk, m', news', i, rfl, hst', F', N', off', hJ, hi, rfl⟩
  by_cases hlt : i < n
  · refine W.item i _ _ _ hlt hst' fun v h₁ tk₁ hP hst₁ hk₁ => ?_
    have F₁ : Fr h₀ L h₁ m' := LCg.fr_but F' hk₁ hLI hI₀
    have N₁ : News h₀ L h₁ news' := LCg.news_but N' hk₁ off'
    obtain ⟨oI, hoI⟩ := hI _ _ hst₁
    have N₂ : News h₀ L h₁ ((I, oI) :: news') := fun p hp => by
      rcases List.mem_cons.mp hp with rfl | hp
      · exact ⟨hoI, Ne.symm hLI, hI₀⟩
      · exact N₁ p hp
    show wpAny (model prog w) A (letOwnedTupleGo target (.ref I) v) _ _ _
    refine wpAny_of_eq (ht v) ?_
    refine wpAny_mono (turn i v m' news' oI h₁ tk₁ hlt hP hJ F₁ N₂ off') (fun _ s₂ h₂ => ?_) fun _ _ x => x.elim
    refine wpAny_mono h₂ (fun f s₃ h₃ => ?_) fun _ _ x => x.elim
    have key : (∃ h' tk m' news', s₃ = { s with heap := h', toks := tk } ∧ Fr h₀ L h' m' ∧ News h₀ L h' ((I, oI) :: news') ∧ (∀ p ∈ news', p.1 ≠ I) ∧ J (i + 1) m' news') → ∃ k, k < n + 1 - i ∧ ∃ h' tk m' news' i, s₃ = { s with heap := h', toks := tk } ∧ St i h' ∧ Fr h₀ L h' m' ∧ News h₀ L h' news' ∧ (∀ p ∈ news', p.1 ≠ I) ∧ J i m' news' ∧ i ≤ n ∧ k = n + 1 - i := by
      rintro ⟨hp₃, tk₃, m₃, news₃, rfl, F₃, N₃, off₃, hJ₃⟩
      refine ⟨n + 1 - (i + 1), by omega, hp₃, tk₃, m₃, news₃, i + 1, rfl, ?_, F₃, fun p hp => N₃ p (List.mem_cons_of_mem _ hp), off₃, hJ₃, hlt, rfl⟩
      refine W.frame _ _ _ hst₁ fun b hb o e => ?_
      by_cases hbI : b = I
      · subst hbI
        rw [hoI] at e; cases e
        exact (N₃ _ List.mem_cons_self).1
      · have e1 := (N₁ _ (hfp _ _ _ hJ b hb hbI)).1
        have e2 := (N₃ _ (List.mem_cons_of_mem _ (hfp _ _ _ hJ₃ b hb hbI))).1
        show hp₃.get? b = some o
        have e1' : h₁.get? b = some (ob b) := e1
        rw [e1'] at e; cases e
        exact e2
    cases f with
    | ret v => exact h₃
    | brk => exact h₃
    | next => exact key h₃
    | cont => exact key h₃
  · have hin : i = n := by omega
    subst hin
    refine W.done _ _ _ hst' fun h₁ tk₁ hk₁ => ?_
    exact wpAny_mono (fin h₁ tk₁ m' news' (LCg.fr_but F' hk₁ hLI hI₀) (LCg.news_but N' hk₁ off') hJ) (fun _ _ x => x) fun _ _ x => x.elim
noncomputable def ForRun (prog : Program) (w : World) (A : Around) (target : PySem.Expr) (body orelse : List PySem.Stmt) (env : Env) (Q : Flow → Shared → Prop) (x : Value) (s₁ : Shared) : Prop :=
  wpAny (model prog w) A (pyIter x) (fun it s₂ => codeAny (model prog w) A (.forLoop target it body orelse env) (fun r s' => match r with | .ok f => Q f s' | .error e => cameBackBy (model prog w) A env (fun _ _ => False) e s') s₂) (fun _ _ => False) s₁
theorem For_cut {target iter : PySem.Expr} {body orelse : List PySem.Stmt} {pos : Pos} {Q : Flow → Shared → Prop}
    (h : wpAny (model prog w) A (eval iter env) (ForRun prog w A target body orelse env Q) (fun _ _ => False) s)
    (hs : ∀ x, foldedSetIterable iter env x = pure x := by intro _; rfl) :
    wpAny (model prog w) A (exec (.For target iter body orelse pos) env) Q E s :=
  wpAny_mono (wpAny_For (E := fun _ _ => False) (wpAny_mono h (fun _ _ x => x) fun _ _ x => x) hs) (fun _ _ x => x) fun _ _ x => x.elim
theorem ForRun.range {target : PySem.Expr} {body orelse : List PySem.Stmt} {Q : Flow → Shared → Prop} {r : Addr} {a b : Int} {t u v : Tok} {n : Nat} (J : Nat → (PySem.Str → Option Value) → List (Addr × Obj) → Prop)
    (hh : A.handled = none) (ht : ∀ I v, letOwnedTupleGo target (.ref I) v = pure ()) (hr : IsRange s.heap r a b 1 t u v) (hsmall : Builtin.Range.small a b 1 = true) (hn : Builtin.Range.rangeSize a b 1 = (n : Int)) (F : Fr h₀ L s.heap m) (N : News h₀ L s.heap news) (h0 : J 0 m news)
    (turn : ∀ i t I m₁ news₁ oI h tk, i < n → J i m₁ news₁ → Fr h₀ L h m₁ → News h₀ L h ((I, oI) :: news₁) → (∀ p ∈ news₁, p.1 ≠ I) →
      wpAny (model prog w) A (assign target env (.int (a + (i : Int)) t)) (fun _ s₂ => wpAny (model prog w) A (execs body env) (TurnJ h₀ L s I oI (J (i + 1)) (fun v s' => Q (.ret v) s') (fun s' => Q .next s')) (fun _ _ => False) s₂) (fun _ _ => False) { s with heap := h, toks := tk })
    (fin : ∀ h tk m₁ news₁, Fr h₀ L h m₁ → News h₀ L h news₁ → J n m₁ news₁ → wpAny (model prog w) A (execs orelse env) Q (fun _ _ => False) { s with heap := h, toks := tk }) :
    ForRun prog w A target body orelse env Q (.ref r) s := by
  refine wpAny_pyIter_range hr hsmall ?_
  have W := LCg.range_walks (prog := prog) (w := w) (A := A) (I := s.heap.objs.size) hh a n
  refine forLoop_J (fun _ => PySem.W.listOf #[] 0) W (ht _) J (fun _ _ _ _ b hb hne => absurd (List.mem_singleton.mp hb) hne) (fun _ _ st => ⟨_, st⟩) (Nat.ne_of_lt F.ns.lt) (next_is_new F) (by show IsRangeIter _ _ _ _ _; rw [hn]; simpa using Heap.get?_push_size _ rfl)
    (F.push _) (fun p hp => ⟨Heap.get?_push_of_some _ (N p hp).1, (N p hp).2⟩) (fun p hp => Nat.ne_of_lt (Heap.lt_size (N p hp).1)) h0 ?_ ?_
  · rintro i v m₁ news₁ oI h tk hi ⟨t, rfl⟩ hJ F₁ N₁ off₁
    exact turn i t _ m₁ news₁ oI h tk hi hJ F₁ N₁ off₁
  · exact fun h tk m₁ news₁ F₁ N₁ hJ => fin h tk m₁ news₁ F₁ N₁ hJ
theorem ForRun.list {target : PySem.Expr} {body orelse : List PySem.Stmt} {Q : Flow → Shared → Prop} {l : Addr} {vs : List Value} {k : Nat} (J : Nat → (PySem.Str → Option Value) → List (Addr × Obj) → Prop)
    (hh : A.handled = none) (ht : ∀ I v, letOwnedTupleGo target (.ref I) v = pure ()) (hJl : ∀ i m news, J i m news → (l, PySem.W.listOf vs.toArray k) ∈ news) (F : Fr h₀ L s.heap m) (N : News h₀ L s.heap news) (h0 : J 0 m news)
    (turn : ∀ i v I m₁ news₁ oI h tk, i < vs.length → vs[i]? = some v → J i m₁ news₁ → Fr h₀ L h m₁ → News h₀ L h ((I, oI) :: news₁) → (∀ p ∈ news₁, p.1 ≠ I) →
      wpAny (model prog w) A (assign target env v) (fun _ s₂ => wpAny (model prog w) A (execs body env) (TurnJ h₀ L s I oI (J (i + 1)) (fun v s' => Q (.ret v) s') (fun s' => Q .next s')) (fun _ _ => False) s₂) (fun _ _ => False) { s with heap := h, toks := tk })
    (fin : ∀ h tk m₁ news₁, Fr h₀ L h m₁ → News h₀ L h news₁ → J vs.length m₁ news₁ → wpAny (model prog w) A (execs orelse env) Q (fun _ _ => False) { s with heap := h, toks := tk }) :
    ForRun prog w A target body orelse env Q (.ref l) s := by
  have hL : s.heap.IsList l vs.toArray := ⟨_, (N _ (hJl _ _ _ h0)).1, rfl, k, rfl⟩
  have hlt : l < s.heap.objs.size := Heap.lt_size (N _ (hJl _ _ _ h0)).1
  refine wpAny_pyIter_list hL ?_
  have W := Walks.list (prog := prog) (w := w) (A := A) hh s.heap.objs.size l (Nat.ne_of_lt hlt) vs.toArray
  have W' : Walks prog w A s.heap.objs.size [s.heap.objs.size, l] [s.heap.objs.size] vs.length (fun i v => vs[i]? = some v) (fun i h => h.IsListIter s.heap.objs.size l i ∧ h.IsList l vs.toArray) := by
    have e : (fun (i : Nat) (v : Value) => vs.toArray[i]? = some v) = (fun (i : Nat) (v : Value) => vs[i]? = some v) := by funext i v; simp
    rw [e] at W; simpa using W
  refine forLoop_J (fun _ => PySem.W.listOf vs.toArray k) W' (ht _) J (fun i m' news' hJ b hb hne => ?_) (fun _ _ st => ⟨_, st.1.choose_spec.1⟩) (Nat.ne_of_lt F.ns.lt) (next_is_new F) ⟨⟨_, Heap.get?_push_size _ rfl, rfl, rfl⟩, hL.at fun o e => Heap.get?_push_of_some _ e⟩
    (F.push _) (fun p hp => ⟨Heap.get?_push_of_some _ (N p hp).1, (N p hp).2⟩) (fun p hp => Nat.ne_of_lt (Heap.lt_size (N p hp).1)) h0 ?_ ?_
  · rcases List.mem_cons.mp hb with rfl | hb
    · exact absurd rfl hne
    · rw [List.mem_singleton.mp hb]; exact hJl _ _ _ hJ
  · intro i v m₁ news₁ oI h tk hi hv hJ F₁ N₁ off₁
    exact turn i v _ m₁ news₁ oI h tk hi hv hJ F₁ N₁ off₁
  · exact fun h tk m₁ news₁ F₁ N₁ hJ => fin h tk m₁ news₁ F₁ N₁ hJ
theorem ForRun.str {target : PySem.Expr} {body orelse : List PySem.Stmt} {Q : Flow → Shared → Prop} {x : PySem.Str} {t : Tok} (J : Nat → (PySem.Str → Option Value) → List (Addr × Obj) → Prop)
    (hh : A.handled = none) (ht : ∀ I v, letOwnedTupleGo target (.ref I) v = pure ()) (F : Fr h₀ L s.heap m) (N : News h₀ L s.heap news) (h0 : J 0 m news)
    (turn : ∀ i c u I m₁ news₁ oI h tk, i < x.cps.size → x.cps[i]? = some c → J i m₁ news₁ → Fr h₀ L h m₁ → News h₀ L h ((I, oI) :: news₁) → (∀ p ∈ news₁, p.1 ≠ I) →
      wpAny (model prog w) A (assign target env (.str ⟨#[c]⟩ u)) (fun _ s₂ => wpAny (model prog w) A (execs body env) (TurnJ h₀ L s I oI (J (i + 1)) (fun v s' => Q (.ret v) s') (fun s' => Q .next s')) (fun _ _ => False) s₂) (fun _ _ => False) { s with heap := h, toks := tk })
    (fin : ∀ h tk m₁ news₁, Fr h₀ L h m₁ → News h₀ L h news₁ → J x.cps.size m₁ news₁ → wpAny (model prog w) A (execs orelse env) Q (fun _ _ => False) { s with heap := h, toks := tk }) :
    ForRun prog w A target body orelse env Q (.str x t) s := by
  have main : ∀ (o : Obj) (St : Nat → Heap → Prop), Walks prog w A s.heap.objs.size [s.heap.objs.size] [s.heap.objs.size] x.cps.size (SignAt x) St → (∀ i h, St i h → ∃ o, h.get? s.heap.objs.size = some o) → St 0 (s.heap.push o) →
      codeAny (model prog w) A (.forLoop target (.ref s.heap.objs.size) body orelse env) (fun r s' => match r with | .ok f => Q f s' | .error e => cameBackBy (model prog w) A env (fun _ _ => False) e s') { s with heap := s.heap.push o } := by
    intro o St W hI hst
    refine forLoop_J (fun _ => PySem.W.listOf #[] 0) W (ht _) J (fun _ _ _ _ b hb hne => absurd (List.mem_singleton.mp hb) hne) hI (Nat.ne_of_lt F.ns.lt) (next_is_new F) hst
      (F.push _) (fun p hp => ⟨Heap.get?_push_of_some _ (N p hp).1, (N p hp).2⟩) (fun p hp => Nat.ne_of_lt (Heap.lt_size (N p hp).1)) h0 ?_ ?_
    · rintro i v m₁ news₁ oI h tk hi ⟨c, u, hc, rfl⟩ hJ F₁ N₁ off₁
      exact turn i c u _ m₁ news₁ oI h tk hi hc hJ F₁ N₁ off₁
    · exact fun h tk m₁ news₁ F₁ N₁ hJ => fin h tk m₁ news₁ F₁ N₁ hJ
  unfold ForRun
  cases ha : x.cps.all (· < 128)
  · exact wpAny_pyIter_wide ha (main _ _ (Walks.strWide hh _ x t) (fun _ _ st => ⟨_, st.choose_spec.1⟩) ⟨_, Heap.get?_push_size _ rfl, rfl, rfl⟩)
  · exact wpAny_pyIter_ascii ha (main _ _ (Walks.strAscii hh _ x t) (fun _ _ st => ⟨_, st.choose_spec.1⟩) ⟨_, Heap.get?_push_size _ rfl, rfl, rfl⟩)
theorem letGo_Name {x : PySem.Str} {px : Pos} : ∀ I v, letOwnedTupleGo (.Name x px) (.ref I) v = pure () := fun _ _ => rfl
theorem compRest_J {elt : PySem.Expr} {x : PySem.Str} {scope : Scope} {cl : List (PySem.Str × Addr)} {S : List (Addr × Obj) → Prop} {P : Nat → Value → Prop} {Fin : List Value → List (Addr × Obj) → Prop} {n : Nat}
    (J : Nat → List Value → List (Addr × Obj) → Prop)
    (turn : ∀ i ys news v I oI C oC D m₂ h tk (E' : Value → Shared → Prop), i < n → J i ys news → P i v → LCg.NsObj oC m₂ → m₂ x = some v → Fr h₀ L h m → News h₀ L h ((I, oI) :: (C, oC) :: (D, LCg.lst ys) :: news) → LCg.Off3 I C D news → ((@Ne Nat I C) ∧ (@Ne Nat I D) ∧ (@Ne Nat C D)) →
      wpAny (model prog w) A (eval elt (compEnvC scope cl C env)) (LCg.CompEnd h₀ L m { s with heap := h, toks := tk } I oI C oC D (LCg.lst ys) S (fun y news' => J (i + 1) (ys ++ [y]) news')) E' { s with heap := h, toks := tk })
    (h0 : J 0 [] news) (fin : ∀ ys news, J n ys news → Fin ys news) : LCg.CompRest prog w A h₀ L m env elt x scope cl s S P Fin n 0 [] news := by
  have key : ∀ (j i : Nat) (ys : List Value) (news), i + j = n → J i ys news → LCg.CompRest prog w A h₀ L m env elt x scope cl s S P Fin j i ys news := by
    intro j
    induction j with
    | zero => intro i ys news hi hJ; obtain rfl : i = n := by omega
              exact LCg.CompRest.zero (fin _ _ hJ)
    | succ j ih =>
      intro i ys news hi hJ
      refine LCg.CompRest.succ fun v I oI C oC D m₂ h tk E' hP hC hx F N off ne => ?_
      refine wpAny_mono (turn i ys news v I oI C oC D m₂ h tk E' (by omega) hJ hP hC hx F N off ne) (fun y s₂ hq => ?_) fun _ _ e => e
      obtain ⟨h', tk', nw, e, F', N', off', hS, hJ'⟩ := hq
      exact ⟨h', tk', nw, e, F', N', off', hS, ih (i + 1) _ _ (by omega) hJ'⟩
  exact key n 0 [] news (by omega) h0
theorem compRestT_J {ct elt : PySem.Expr} {x : PySem.Str} {scope : Scope} {cl : List (PySem.Str × Addr)} {S : List (Addr × Obj) → Prop} {P : Nat → Value → Prop} {Fin : List Value → List (Addr × Obj) → Prop} {n : Nat}
    (J : Nat → List Value → List (Addr × Obj) → Prop)
    (turn : ∀ i ys news v I oI C oC D m₂ h tk (E' : Value → Shared → Prop), i < n → J i ys news → P i v → LCg.NsObj oC m₂ → m₂ x = some v → Fr h₀ L h m → News h₀ L h ((I, oI) :: (C, oC) :: (D, LCg.lst ys) :: news) → LCg.Off3 I C D news → ((@Ne Nat I C) ∧ (@Ne Nat I D) ∧ (@Ne Nat C D)) →
      wpAny (model prog w) A (isTrue ct (compEnvC scope cl C env) (eval ct (compEnvC scope cl C env))) (fun ok s' => if ok = true then
        wpAny (model prog w) A (eval elt (compEnvC scope cl C env)) (LCg.CompEnd h₀ L m { s with heap := h, toks := tk } I oI C oC D (LCg.lst ys) S (fun y news' => J (i + 1) (ys ++ [y]) news')) E' s'
        else LCg.CompEnd h₀ L m { s with heap := h, toks := tk } I oI C oC D (LCg.lst ys) S (fun _ news' => J (i + 1) ys news') Value.none s') E' { s with heap := h, toks := tk })
    (h0 : J 0 [] news) (fin : ∀ ys news, J n ys news → Fin ys news) : LCt.CompRestT prog w A h₀ L m env ct elt x scope cl s S P Fin n 0 [] news := by
  have key : ∀ (j i : Nat) (ys : List Value) (news), i + j = n → J i ys news → LCt.CompRestT prog w A h₀ L m env ct elt x scope cl s S P Fin j i ys news := by
    intro j
    induction j with
    | zero => intro i ys news hi hJ; obtain rfl : i = n := by omega
              exact LCt.CompRestT.zero (fin _ _ hJ)
    | succ j ih =>
      intro i ys news hi hJ
      refine LCt.CompRestT.succ fun v I oI C oC D m₂ h tk E' hP hC hx F N off ne => ?_
      refine wpAny_mono (turn i ys news v I oI C oC D m₂ h tk E' (by omega) hJ hP hC hx F N off ne) (fun b s₂ hq => ?_) fun _ _ e => e
      cases b with
      | true =>
        simp only [if_true] at hq ⊢
        refine wpAny_mono hq (fun y s₃ hr => ?_) fun _ _ e => e
        obtain ⟨h', tk', nw, e, F', N', off', hS, hJ'⟩ := hr
        exact ⟨h', tk', nw, e, F', N', off', hS, ih (i + 1) _ _ (by omega) hJ'⟩
      | false =>
        simp only [Bool.false_eq_true, if_false] at hq ⊢
        obtain ⟨h', tk', nw, e, F', N', off', hS, hJ'⟩ := hq
        exact ⟨h', tk', nw, e, F', N', off', hS, ih (i + 1) _ _ (by omega) hJ'⟩
  exact key n 0 [] news (by omega) h0
noncomputable def CompSrcS (prog : Program) (w : World) (A : Around) (h₀ : Heap) (L : Addr) (m : PySem.Str → Option Value) (env : Env) (ct elt : PySem.Expr) (x : PySem.Str) (scope : Scope) (cl : List (PySem.Str × Addr)) (Fin : Shared → List Value → List (Addr × Obj) → Prop) (xv : Value) (s₁ : Shared) : Prop :=
  ∃ xs t news, xv = .str xs t ∧ A.handled = none ∧ Fr h₀ L s₁.heap m ∧ News h₀ L s₁.heap news ∧ xs.cps.size ≤ sizeLine ∧
    ∀ s₂ : Shared, (∃ h, s₂ = { s₁ with heap := h }) → LCt.CompRestT prog w A h₀ L m env ct elt x scope cl s₂ (fun _ => True) (SignAt xs) (Fin s₂) xs.cps.size 0 [] news
theorem ListComp_TS {ct elt iter : PySem.Expr} {x : PySem.Str} {px : Pos} {scope : Scope} {cl : List (PySem.Str × Addr)} {pos : Pos} {Q : Value → Shared → Prop} (F₀ : Fr h₀ L s.heap m)
    (hclos : closureFor scope env = pure cl) (hcell : ∀ y ∈ scope.names, y.2 ≠ .cell) (hkind : scope.kind = .function)
    (hnames : ∀ y ∈ scope.names, y.2 = .local → scope.names.lookup y.1 = some .local) (hx : scope.names.lookup x = some .local)
    (h : wpAny (model prog w) A (eval iter env) (CompSrcS prog w A h₀ L m env ct elt x scope cl (fun s₂ => LCg.FinE h₀ L m s₂ Q)) E s)
    (hs : ∀ x, foldedSetIterable iter env x = pure x := by intro _; rfl) :
    wpAny (model prog w) A (eval (.ListComp elt [⟨.Name x px, iter, [ct], 0⟩] scope pos) env) Q E s := by
  rw [eval_ListComp]
  refine wpAny_comprehension_free (use := none) rfl hs hclos hkind hnames (wpAny_mono h (fun xv s₁ h₁ => ?_) fun _ _ e => e)
  obtain ⟨xs, t, news, rfl, hh, F, N, hsz, R⟩ := h₁
  have main : ∀ (o : Obj) (St : Nat → Heap → Prop), Walks prog w A s₁.heap.objs.size [s₁.heap.objs.size] [s₁.heap.objs.size] xs.cps.size (SignAt xs) St → (∀ i h, St i h → ∃ o, h.get? s₁.heap.objs.size = some o) → St 0 (s₁.heap.push o) →
      wpAny (model prog w) A (newList []) (fun acc s₃ => wpAny (model prog w) A (newFunctionEnv scope env.globals cl [] env.qual none .none (some env)) (fun cenv s₄ =>
        codeAny (model prog w) A (.compStart (.ListComp elt [⟨.Name x px, iter, [ct], 0⟩] scope pos) 0 (.ref s₁.heap.objs.size) acc { cenv with scope := relabel scope env }) (compPost (model prog w) A E none Q acc cenv.locals) s₄) E s₃) E { s₁ with heap := s₁.heap.push o } := by
    intro o St W hI hst
    refine LCt.block_T W hsz hI (fun i h h' o' nw st e e' _ _ _ => W.frame _ _ _ st fun b hb o'' eb => ?_) hcell hkind hx hst (fun b hb => ?_)
      (F.keeps fun _ _ e => Heap.get?_push_of_some _ e) (N.grown fun _ _ e => Heap.get?_push_of_some _ e) (Nat.ne_of_lt F.ns.lt) (next_is_new F) (fun p hp => Nat.ne_of_lt (Heap.lt_size (N p hp).1)) trivial (R _ ⟨_, rfl⟩) ?_
    · rw [List.mem_singleton.mp hb] at eb ⊢
      rw [e] at eb; cases eb; exact e'
    · rw [List.mem_singleton.mp hb]
      show s₁.heap.objs.size < (s₁.heap.push _).objs.size
      rw [Heap.size_push]; exact Nat.lt_succ_self _
    · intro D C h tk m' ys news' F' N' o1 hn hC₀ hD₀ hCL hDL hCD offC fin
      refine ⟨m', hn, fun h'' hs'' => fin D h'' tk (F'.change hs'' hCL hC₀) (fun p hp => ?_) o1⟩
      refine ⟨hs''.extBut _ _ ?_ (N' p hp).1, (N' p hp).2⟩
      rcases List.mem_cons.mp hp with rfl | hp
      · exact Ne.symm hCD
      · exact offC p hp
  cases ha : xs.cps.all (· < 128)
  · exact wpAny_pyIter_wide ha (main _ _ (Walks.strWide hh _ xs t) (fun _ _ st => ⟨_, st.choose_spec.1⟩) ⟨_, Heap.get?_push_size _ rfl, rfl, rfl⟩)
  · exact wpAny_pyIter_ascii ha (main _ _ (Walks.strAscii hh _ xs t) (fun _ _ st => ⟨_, st.choose_spec.1⟩) ⟨_, Heap.get?_push_size _ rfl, rfl, rfl⟩)
end

section
variable {prog : Program} {K : Frag} {a : Addr} {es : Array DictEntry} {n : Nat}
theorem get_dictEx {i : Int} {t t' : Tok} {x y : PySem.Str} {Q : Value → Shared → Prop} (F : Fr h₀ L s.heap m) (X₀ : K.In h₀) (hl : K.lookup a = some ⟨.type "dict", none, .dict es n, #[]⟩) (hk : es.toList.all keyIntB = true) (lo : (a == sysModules) = false)
    (e : ∃ t, findBy Value.isInt es i = some (.str x t)) (h : ∀ t, Q (.str x t) { s with toks := s.toks + 1 }) : wpAny (model prog w) A (call (.builtin "dict.get") [.ref a, .int i t, .str y t']) Q E s := by
  have hm := intMap_K (prog := prog) (w := w) (X₀.keeps F.keep) hl (keysInt_of hk)
  obtain ⟨tt, e⟩ := e
  refine call_meetsIn PySem.F.slot_dict_get hm.typeIs PySem.F.entry_dict_get (PySem.F.args_dict_get_3 _ _ _) (meets_dict_get_default (intKind prog w) a (intKind_is prog w i t) lo _) ⟨_, hm, ?_⟩
  show Q ((findBy Value.isInt es i).getD _) _
  rw [e]; exact h tt
theorem join_N {l : Addr} {vs : List Value} {ys : List PySem.Str} {n : Nat} {x : PySem.Str} {t : Tok} {Q : Value → Shared → Prop} (N : News h₀ L s.heap news) (hm : (l, PySem.W.listOf vs.toArray n) ∈ news) (hi : StrsAre vs ys)
    (hsep : x.length ≤ 16) (hw : (ys.map (·.length)).sum + ys.length ≤ 1048576) (h : ∀ t' k, Q (.str (Txt.join x ys) t') { s with toks := k }) : wpAny (model prog w) A (call (.builtin "str.join") [.str x t, .ref l]) Q E s :=
  join_listW (isListN N hm) hi hsep hw h
theorem bitAnd_zero (y : Int) : Builtin.bitAnd 0 y = 0 := by
  unfold Builtin.bitAnd
  by_cases h : 0 ≤ y <;> simp [h]
theorem StrsAre.snoc {vs : List Value} {ys : List PySem.Str} (h : StrsAre vs ys) (y : PySem.Str) (t : Tok) : StrsAre (vs ++ [.str y t]) (ys ++ [y]) := by
  induction h with
  | nil => exact .cons _ _ .nil
  | cons z u _ ih => exact .cons z u ih
end
section
open PySem.Spec
variable {prog : Program}
theorem nx_item {it l : Addr} {i : Nat} {items : Array Value} {x : Value} {Q : Option Value → Shared → Prop} (hit : s.heap.IsListIter it l i)
    (hl : s.heap.IsList l items) (hx : items[i]? = some x) (hQ : ∀ h', h'.IsListIter it l (i + 1) → Heap.SameBut it s.heap h' → Q (some x) { s with heap := h' }) :
    wpAny (model prog w) A (callSpecial? (.ref it) (PySem.Str.ofString "__next__")) Q E s := by
  obtain ⟨o, ho, hc, hd⟩ := id hit
  obtain ⟨ol, hol, _, nl, hdl⟩ := hl
  refine wpAny_callSpecial?_slot (name := PySem.Str.ofString "__next__") hit.typeIs slot_listiter_next
    (wpAny_call_entry slot_listiter_next hit.typeIs entry_listiter_next ?_ (args_listiter_next _))
  show wpAny _ _ (field (.ref it) 0 >>= _) _ _ s
  refine wpAny_bind (wpAny_field ho hd (x := .ref l) rfl ?_)
  show wpAny _ _ (if (Value.ref l == Value.none) = true then _ else _) _ _ s
  rw [if_neg (show ¬ ((Value.ref l == Value.none) = true) from Bool.false_ne_true)]
  show wpAny _ _ (field (.ref it) 1 >>= _) _ _ s
  refine wpAny_bind (wpAny_field ho hd (x := .int i 0) rfl ?_)
  show wpAny _ _ (seqItems? (.ref l) >>= _) _ _ s
  refine wpAny_bind (wpAny_seqItems hol hdl ?_)
  simp only [Int.toNat_natCast, hx]
  refine wpAny_bind (wpAny_setField ho hd (by simp) (wpAny_pure ⟨x, rfl, (hQ _ ?_ (Heap.SameBut.update ..))⟩))
  exact ⟨_, Heap.get?_update_self _ ho (Obj.isFreed_of_fields (Obj.data_mapFields hd _)), (Obj.cls_mapFields ..).trans hc, by
    rw [Obj.data_mapFields hd]; simp [rawInt]⟩
theorem nx_end {it l : Addr} {i : Nat} {items : Array Value} {Q : Option Value → Shared → Prop} (hh : A.handled = none) (hit : s.heap.IsListIter it l i)
    (hl : s.heap.IsList l items) (hx : items[i]? = none) (hE : ∀ h₁ o₁ h' e, Heap.SameBut it s.heap h₁ → h₁.get? it = some o₁ → Heap.MadeExcOf h₁ h' e (.type "StopIteration") [] → E (.ref e) { s with heap := h' }) :
    wpAny (model prog w) A (callSpecial? (.ref it) (PySem.Str.ofString "__next__")) Q E s := by
  obtain ⟨o, ho, hc, hd⟩ := id hit
  obtain ⟨ol, hol, _, nl, hdl⟩ := hl
  refine wpAny_callSpecial?_slot (name := PySem.Str.ofString "__next__") hit.typeIs slot_listiter_next
    (wpAny_call_entry slot_listiter_next hit.typeIs entry_listiter_next ?_ (args_listiter_next _))
  show wpAny _ _ (field (.ref it) 0 >>= _) _ _ s
  refine wpAny_bind (wpAny_field ho hd (x := .ref l) rfl ?_)
  show wpAny _ _ (if (Value.ref l == Value.none) = true then _ else _) _ _ s
  rw [if_neg (show ¬ ((Value.ref l == Value.none) = true) from Bool.false_ne_true)]
  show wpAny _ _ (field (.ref it) 1 >>= _) _ _ s
  refine wpAny_bind (wpAny_field ho hd (x := .int i 0) rfl ?_)
  show wpAny _ _ (seqItems? (.ref l) >>= _) _ _ s
  refine wpAny_bind (wpAny_seqItems hol hdl ?_)
  simp only [Int.toNat_natCast, hx]
  refine wpAny_bind (wpAny_rule (wpAny_bind (wpAny_setField ho hd (by simp) ?_)))
  show wpAny _ _ (newExc (.type "StopIteration") [] >>= _) _ _ _
  refine wpAny_bind ?_
  simp only [newExc, newTuple]
  refine wpAny_bind (wpAny_newObj_type ?_ (by size_fits))
  refine wpAny_bind (m := firstArgMember _ _) (wpAny_of_eq (a := Value.none) (by first | rfl | (simp only [firstArgMember]; rfl)) ?_)
  refine wpAny_newObj_type ?_ (by size_fits)
  simp only [raiseNew]
  refine wpAny_bind (wpAny_handled ?_)
  rw [show A.in1.handled = none from hh]
  refine wpAny_bind (wpAny_pure (wpAny_throw ?_))
  have hs := Heap.SameBut.update (h := s.heap) (a := it) (f := Obj.mapFields (·.setIfInBounds 0 Value.none))
  refine hE _ _ _ _ hs (Heap.get?_update_self _ ho (Obj.isFreed_of_fields (Obj.data_mapFields hd _))) ⟨fun b o q => Heap.get?_push_of_some _ (Heap.get?_push_of_some _ q), ?_, _, Heap.get?_push_size _ rfl, ?_, Heap.get?_push_of_some _ (Heap.get?_push_size _ rfl)⟩
  · exact Heap.get?_none_of_le (by simp [Heap.size_push])
  · exact Heap.get?_none_of_le (Nat.le_refl _)
noncomputable def LIt (o : Obj) (l : Addr) (i : Nat) : Prop := o.cls = .type "list_iterator" ∧ o.data = .fields #[.ref l, .int i 0]
theorem next_item {it l : Addr} {o : Obj} {g : Obj → List (Addr × Obj)} {i n : Nat} {vs : List Value} {x : Value} {Q : Value → Shared → Prop} (F : Fr h₀ L s.heap m) (N : News h₀ L s.heap news) (U : UpdF it o news g) (hi : LIt o l i) (hm : (l, PySem.W.listOf vs.toArray n) ∈ news) (hx : vs[i]? = some x)
    (h : ∀ h' o', Fr h₀ L h' m → News h₀ L h' (g o') → LIt o' l (i + 1) → Q x { s with heap := h' }) : wpAny (model prog w) A (call (.builtin "next") [.ref it]) Q E s := by
  obtain ⟨pre, post, hl, hg, a, b⟩ := U.split
  have hmem : (it, o) ∈ news := by rw [hl]; exact List.mem_append_right _ (.head _)
  have hit : s.heap.IsListIter it l i := ⟨o, (N _ hmem).1, hi.1, hi.2⟩
  refine call_function_entry (by decide +kernel) (by decide +kernel) kdk_entry_next (kdk_args_next _) ?_
  unfold Builtin.«next»
  refine wpAny_bind (m := someArgs "next" 1 2 _) (wpAny_of_eq (a := [Value.ref it]) (by first | rfl | kernel_rfl!) ?_)
  dsimp only
  refine wpAny_bind (wpAny_specialOf (name := PySem.Str.ofString "__next__") hit.typeIs slot_listiter_next.lookup ?_)
  refine wpAny_ite_split (fun hab => absurd hab (by decide)) (fun _ => ?_)
  refine wpAny_bind (nx_item hit (isListN N hm) (by simpa using hx) fun h' hit' hs => ?_)
  obtain ⟨o', ho', hc', hd'⟩ := hit'
  have hm' := N _ hmem
  exact wpAny_pure ⟨_, rfl, h h' o' (F.change hs hm'.2.1 hm'.2.2) (hg o' ▸ (show News h₀ L s.heap (pre ++ (it, o) :: post) from hl ▸ N).setIn a b hs ho') ⟨hc', hd'⟩⟩
theorem next_end {it l : Addr} {o : Obj} {g : Obj → List (Addr × Obj)} {i n : Nat} {vs : List Value} {Q : Value → Shared → Prop} (hh : A.handled = none) (F : Fr h₀ L s.heap m) (N : News h₀ L s.heap news) (U : UpdF it o news g) (hi : LIt o l i) (hm : (l, PySem.W.listOf vs.toArray n) ∈ news) (hx : vs[i]? = none)
    (hE : ∀ h₁ o₁ h' e, Fr h₀ L h₁ m → News h₀ L h₁ (g o₁) → Heap.MadeExcOf h₁ h' e (.type "StopIteration") [] → E (.ref e) { s with heap := h' }) : wpAny (model prog w) A (call (.builtin "next") [.ref it]) Q E s := by
  obtain ⟨pre, post, hl, hg, a, b⟩ := U.split
  have hmem : (it, o) ∈ news := by rw [hl]; exact List.mem_append_right _ (.head _)
  have hit : s.heap.IsListIter it l i := ⟨o, (N _ hmem).1, hi.1, hi.2⟩
  refine call_function_entry (by decide +kernel) (by decide +kernel) kdk_entry_next (kdk_args_next _) ?_
  unfold Builtin.«next»
  refine wpAny_bind (m := someArgs "next" 1 2 _) (wpAny_of_eq (a := [Value.ref it]) (by first | rfl | kernel_rfl!) ?_)
  dsimp only
  refine wpAny_bind (wpAny_specialOf (name := PySem.Str.ofString "__next__") hit.typeIs slot_listiter_next.lookup ?_)
  refine wpAny_ite_split (fun hab => absurd hab (by decide)) (fun _ => ?_)
  refine wpAny_bind (nx_end hh hit (isListN N hm) (by simpa using hx) fun h₁ o₁ h' e hs ho hx => ?_)
  have hm' := N _ hmem
  exact hE h₁ o₁ h' e (F.change hs hm'.2.1 hm'.2.2) (hg o₁ ▸ (show News h₀ L s.heap (pre ++ (it, o) :: post) from hl ▸ N).setIn a b hs ho) hx
theorem iter_list {l : Addr} {n : Nat} {vs : List Value} {Q : Value → Shared → Prop} (F : Fr h₀ L s.heap m) (N : News h₀ L s.heap news) (hm : (l, PySem.W.listOf vs.toArray n) ∈ news)
    (h : ∀ I h' o, Fr h₀ L h' m → News h₀ L h' ((I, o) :: news) → (∀ p ∈ news, p.1 < I) → LIt o l 0 → Q (.ref I) { s with heap := h' }) : wpAny (model prog w) A (call (.builtin "iter") [.ref l]) Q E s := by
  refine call_function_entry (by decide +kernel) (by decide +kernel) kdk_entry_iter (kdk_args_iter _) ?_
  unfold Builtin.«iter»
  refine wpAny_bind (m := someArgs "iter" 1 2 _) (wpAny_of_eq (a := [Value.ref l]) (by first | rfl | kernel_rfl!) ?_)
  show wpAny _ _ (pyIter (.ref l) >>= _) _ _ _
  refine wpAny_bind (wpAny_pyIter_list (isListN N hm) ?_)
  exact wpAny_pure ⟨_, rfl, h _ _ _ (F.push _) (News.push F N _ rfl) (fun q hq => Heap.lt_size (N q hq).1) ⟨rfl, rfl⟩⟩
end
section
open PySem.Spec
variable {prog : Program}
theorem While_X {test : PySem.Expr} {body : List PySem.Stmt} {pos : Pos} {Qf : Flow → Shared → Prop} (J : Nat → (PySem.Str → Option Value) → List (Addr × Obj) → Prop) {n₀ : Nat}
    (F : Fr h₀ L s.heap m) (N : News h₀ L s.heap news) (hJ : J n₀ m news)
    (turn : ∀ n m₁ news₁ h₁ tk₁, Fr h₀ L h₁ m₁ → News h₀ L h₁ news₁ → J n m₁ news₁ →
      wpAny (model prog w) A (isTrue test env (eval test env)) (fun b s₂ =>
        if b = true then wpAny (model prog w) A (execs body env) (WhileStep2 h₀ L s J Qf n) (notedBy (model prog w) A env (cameBackBy (model prog w) A env E)) s₂ else Qf .next s₂) (notedBy (model prog w) A env (cameBackBy (model prog w) A env E)) { s with heap := h₁, toks := tk₁ }) :
    wpAny (model prog w) A (exec (.While test body [] pos) env) Qf E s := by
  refine wpAny_While (codeAny_whileLoop (fun n s' => ∃ h₁ tk₁ m₁ news₁, s' = { s with heap := h₁, toks := tk₁ } ∧ Fr h₀ L h₁ m₁ ∧ News h₀ L h₁ news₁ ∧ J n m₁ news₁) ?_ n₀ ⟨s.heap, s.toks, m, news, rfl, F, N, hJ⟩)
  rintro n s' ⟨h₁, tk₁, m₁, news₁, rfl, F₁, N₁, J₁⟩
  refine wpAny_mono (turn n m₁ news₁ h₁ tk₁ F₁ N₁ J₁) (fun b s₂ h₂ => ?_) fun _ _ x => x
  cases b with
  | false =>
    simp only [Bool.false_eq_true, if_false] at h₂ ⊢
    exact wpAny_execs_nil h₂
  | true =>
    simp only [if_true] at h₂ ⊢
    refine wpAny_mono h₂ (fun f s₃ h₃ => ?_) fun _ _ x => x
    cases f with
    | next =>
      obtain ⟨h', tk, m₂, news₂, n', rfl, F₂, N₂, hn, J₂⟩ := h₃
      exact ⟨n', hn, h', tk, m₂, news₂, rfl, F₂, N₂, J₂⟩
    | cont =>
      obtain ⟨h', tk, m₂, news₂, n', rfl, F₂, N₂, hn, J₂⟩ := h₃
      exact ⟨n', hn, h', tk, m₂, news₂, rfl, F₂, N₂, J₂⟩
    | brk => exact h₃
    | ret v => exact h₃
theorem setFlight_againW {M : Model} {base : Heap} {l : List Env} {e L : Addr} {cls a0 : Value} {Q : Unit → Shared → Prop} (R : Heap.HeldW base l e cls a0 L s.heap)
    (h : ∀ h', Heap.HeldW base l e cls a0 L h' → s.heap.UpToSlots h' → Q () { s with heap := h' }) : wpAny M A (setFlight (.ref e) (some L)) Q E s := by
  obtain ⟨hkb, hen, hl, oe, vs, T, oT, ts, he, hcls, hd, h1, hnT, hTe, hT, hdT, h3⟩ := R
  have hsz3 : 3 < ts.size := (Array.getElem?_eq_some_iff.mp h3).1
  have other : ∀ b, b ≠ T → (s.heap.update T (Obj.mapFields (·.setIfInBounds 3 ((some L).elim Value.none fun f => rawInt f)))).get? b = s.heap.get? b :=
    fun b hb => Heap.get?_update_other _ _ (Ne.symm hb)
  have noRecord : ∀ b o, s.heap.get? b = some o → (∀ vs, o.data ≠ .fields vs) → b ≠ T := fun b o hb hnf q => by
    rw [q, hT] at hb; injection hb with hb; subst hb; exact hnf ts hdT
  unfold setFlight
  refine wpAny_bind (wpAny_field he hd h1 ?_)
  rw [if_pos (show (Value.ref T != Value.none) = true from by simp)]
  refine wpAny_setField hT hdT hsz3 (h _ ⟨fun b o hbo => (other b fun q => by rw [q, hnT] at hbo; cases hbo).trans (hkb b o hbo), hen,
    hl.of_keeps fun b o hb hnf => ⟨o, (other b (noRecord b o hb hnf)).trans hb, rfl⟩, ?_⟩ fun b o hb hnf => ⟨o.slots, (other b (noRecord b o hb hnf)).trans hb⟩)
  exact ⟨oe, vs, T, _, _, (other e (Ne.symm hTe)).trans he, hcls, hd, h1, hnT, hTe, Heap.get?_update_self _ hT (Obj.isFreed_of_fields (Obj.data_mapFields hdT _)), Obj.data_mapFields hdT _, by simp [hsz3]⟩
section
variable {s' : Shared} {g g₀ G : Heap} {a e t : Addr} {name : PySem.Str} {scope : Scope} {cd : Value} {vs : List Value} {b₀ : PySem.Stmt} {suite : List PySem.Stmt} {pos np : Pos} {rest : List ExceptHandler} {Qf : Flow → Shared → Prop} {K : Frag} {x : PySem.Str} {X T' : String}
theorem caught_W (R : RaisedS base G (envOf name scope L a cd :: outer) e (.type X) t vs news s'.heap) (F : Fr g L G m) (K₀ : Below A₀ base outer g) (hsm : G.UpToSlots s'.heap) (XB : K.In base) (TB : Top p loose mean mg mb base)
    (D : KtsDicts (outer.filterMap (·.frame)) g)
    (ex : nsIn K mainGlobals x = some none) (hv : bootBuiltins x = some (.type T')) (hn' : x ≠ "__name__")
    (hexc : isSubtype (.type T') (.type "BaseException") = pure true) (hnt : isSubtype (.type ((Manifest.find? T').elim "type" fun y => y.metatype)) (.type "tuple") = pure false) (hsub : isSubtype (.type X) (.type T') = pure true)
    (k : ∀ h' g', KtsTurn (outer.filterMap (·.frame)) g g' → Fr g' L h' m → News g' L h' news → Below A₀ base outer g' → K.In g' → Top p loose mean mg mb g' →
      wpAny (model prog w) ((A₀.deeper (envOf name scope L a cd)).mark (some (.ref e))) (execs (b₀ :: suite) (envOf name scope L a cd)) Qf (fun _ _ => False) { s' with heap := h' })
    (hk : scope.kind = .function := by rfl) (hx : (envOf name scope L a cd).kindOf x = some .globalImplicit := by rfl) (hd : (x == ("__debug__" : PySem.Str)) = false := by decide) :
    notedBy (model prog w) (A₀.deeper (envOf name scope L a cd)) (envOf name scope L a cd) (cameBackBy (model prog w) (A₀.deeper (envOf name scope L a cd)) (envOf name scope L a cd)
      (fun e s₁ => wpAny (model prog w) (A₀.deeper (envOf name scope L a cd)) (noteFrame e (envOf name scope L a cd))
      (fun _ s₂ => wpAny (model prog w) (A₀.deeper (envOf name scope L a cd)) (setFlight e none) (fun _ s₃ =>
        wpAny (model prog w) (A₀.deeper (envOf name scope L a cd)) (handleBy e (envOf name scope L a cd) (.ExceptHandler (some (.Name x np)) none (b₀ :: suite) pos :: rest)) Qf E s₃) E s₂) E s₁)) (.ref e) s' := by
  obtain ⟨⟨B, hB, hBG, hl, hfl, hnew⟩, htup⟩ := R
  have hL : B.get? L = none := by
    obtain ⟨_, ⟨L', _, hf, hn', _⟩, _⟩ := hfl.2.2.1
    obtain rfl : L = L' := Option.some.inj hf
    exact hn'
  unfold notedBy
  refine wpAny_looks_onW (Around.frames_deeper K₀.stack) rfl hfl fun h₁ hheld₁ hsm₁ => ?_
  unfold cameBackBy
  obtain ⟨_, _, _, oe, ws, TT, oT, ts, he, hc, hdd, hh1, _⟩ := id hheld₁
  refine wpAny_bind (wpAny_field he hdd hh1 ?_)
  rw [if_neg (show ¬ ((Value.ref TT == Value.none) = true) from by simp)]
  show wpAny (model prog w) (A₀.deeper (envOf name scope L a cd)) (setFlight (.ref e) (some L)) _ _ _
  refine setFlight_againW hheld₁ fun h₂ hheld₂ hsm₂ => ?_
  refine wpAny_noteFrame_againW rfl hheld₂.2.2.2 ?_
  refine wpAny_landsW hheld₂ fun h₅ hheld hsm₅' => ?_
  have hsm₅ := (hsm₁.trans hsm₂).trans hsm₅'
  obtain ⟨g₅, T₅, F₅, K₅⟩ := kts_ground K₀ F hBG hheld.1 (hsm.trans hsm₅)
  have X₅ : K.In g₅ := XB.keeps K₅.stays
  have P₅ : TopRead p loose mg mb g₅ := topRead_of (TB.keeps K₅.stays)
  obtain ⟨ob, hob, hobc⟩ := hheld.there
  refine wpAny_handleBy_builtin (X := X) (T := T') (b := true) hexc hnt hsub (name_B F₅ X₅ P₅ ex hv hn' ⟨rfl, ⟨ob, hob, hobc⟩, ?_⟩ hk hx hd)
  refine lands_againW hheld fun h₆ hfl₆ hsm₆ => ?_
  obtain ⟨g₆, T₆, F₆, K₆⟩ := kts_ground K₀ F hBG hfl₆.1 ((hsm.trans hsm₅).trans hsm₆)
  have Nl : News g₆ L h₆ news := fun q hq => ⟨hfl₆.1 _ _ (hl q hq).1, (fun z => by have := (hl q hq).1; rw [z, hL] at this; cases this), T₆.none_ _ (kts_none F.keep (hl q hq).2.1)⟩
  exact wpAny_mono (k h₆ g₆ T₆ F₆ Nl K₆ (XB.keeps K₆.stays) (TB.keeps K₆.stays)) (fun _ _ x => x) fun _ _ x => x.elim
end
noncomputable def LeaveX (fs : List Addr) (h₀ : Heap) (L : Addr) (m : PySem.Str → Option Value) (g : Heap) (R : Result → Shared → Prop) (v : Value) (s' : Shared) : Prop := LeaveS0 fs h₀ L m g R v s'
section
variable {K : Frag} {R : Result → Shared → Prop} {name qual : PySem.Str} {params : Arguments} {body : List PySem.Stmt} {scope : Scope} {dV kV doc pm cdv ct oc : Value} {an od : Option Addr} {osl : Array (Option Value)} {f : Addr} {args : Args} {binds : List (PySem.Str × Value)}
theorem code_defX0 (B : Below A₀ base [] h₀) (F : Fr h₀ L s.heap m) (X₀ : K.In h₀) (N : News h₀ L s.heap news) (T : Top p loose mean mg mb h₀) (hA : A.frames = some [env]) (hf : env.frame = some L) (hke : env.scope.kind = .function)
    (ho : K.lookup f = some ⟨oc, od, .func (fnOf name qual params body scope dV kV doc pm an cdv ct), osl⟩) (hcd : codeIn K cdv qual = true) (hroom : A.depth < recursionLimit)
    (hbind : BindsTo s (fnOf name qual params body scope dV kV doc pm an cdv ct) args binds) (hloc : ∀ y ∈ binds, scope.names.lookup y.1 = some .local)
    (h : ∀ g L' h₁, Fr h₀ L g m → Fr g L' h₁ (fun y => binds.reverse.lookup y) → News g L' h₁ news → Below A base [env] g → K.In g → Top p loose mean mg mb g → KtsDicts ([env].filterMap (·.frame)) g →
      wpAny (model prog w) (A.deeper (envOf qual scope L' f cdv)) (execs body (envOf qual scope L' f cdv))
        (fun fl s' => LeaveX ([env].filterMap (·.frame)) h₀ L m g R (match fl with | .ret v => v | _ => .none) s')
        (fun e s' => wpAny (model prog w) (A.deeper (envOf qual scope L' f cdv)) (leaving (envOf qual scope L' f cdv) e) (fun _ s'' => R (.error e) s'') (fun e' s'' => R (.error e') s'') s')
        { s with heap := h₁, toks := s.toks + binds.length })
    (hco : scope.isCoroutine = false) (hgen : scope.isGenerator = false) (hk : scope.kind = .function)
    (hcell : ∀ x ∈ scope.names, x.2 ≠ .cell) : codeAny (model prog w) A (.call (.ref f) args) R s := by
  have X := X₀.keeps F.keep
  refine codeAny_call_def (fd := fnOf name qual params body scope dV kV doc pm an cdv ct) (body := body) (binds := binds) hroom (X _ _ ho) rfl (T.nolimit.keeps F.keep) (codeRec_of X hcd) rfl hbind hcell hloc (fun h₁ hns hk₁ => ?_) hco hgen hk
  obtain ⟨FG, BG, st, _⟩ := groundX (R := R) B F N hA hf hke
  obtain ⟨oL, es, ep, hL, hLd, hLk, hLf⟩ := F.ns
  have nL : L ∉ news.map (·.1) := fun q => by
    obtain ⟨p, hp, e⟩ := List.mem_map.mp q
    exact (N p hp).2.1 e
  have hLg := hideAll_get (news.map (·.1)) hL nL
  have hmem : ∀ b ∈ [env].filterMap (·.frame), b = L := fun b hb => by
    obtain ⟨env', he, hf'⟩ := List.mem_filterMap.mp hb
    rw [List.mem_singleton.mp he, hf] at hf'
    exact (Option.some.inj hf').symm
  refine wpAny_mono (h _ s.heap.objs.size h₁ FG ⟨hns, fun b o e => hk₁ b o (of_hideAll _ e), Nat.le_of_eq (hideAll_size _ _)⟩
    (fun p hp => ⟨hk₁ _ _ (N p hp).1, Nat.ne_of_lt (Heap.lt_size (N p hp).1), hideAll_none _ (List.mem_map_of_mem hp)⟩) BG (X₀.keeps st) (T.keeps st) (fun b hb => by
      rw [hmem b hb]; exact ⟨oL, es, ep, hLg, hLd⟩)) (fun fl s' hl => ?_) fun _ _ y => y
  obtain ⟨g', L', m', news', T', F', N', k⟩ := hl
  have nL₀ : h₀.get? L = none := kts_self F
  obtain ⟨sl, hs⟩ := T'.up hLg
  refine k ⟨⟨_, es, ep, F'.keep _ _ hs, hLd, hLk, hLf⟩, fun b o e => F'.keep b o (T'.other b o (st b o e) (fun q => by
    rw [hmem b q, nL₀] at e; cases e)), F.above⟩ fun p hp => ⟨(N' p hp).1, fun q => ?_, ?_⟩
  · have := (N' p hp).2.2; rw [q, hs] at this; cases this
  · cases q : h₀.get? p.1 with
    | none => rfl
    | some o =>
      obtain ⟨sl', hs'⟩ := T'.up (st _ _ q)
      have := (N' p hp).2.2
      rw [hs'] at this
      cases this
end
end
section
local macro_rules | `(tactic| k_room) => `(tactic| ((try simp only [depth_under_make, depth_under_kw, depth_in1, depth_deeper, depth_caller]); first | decide | (have hrl : recursionLimit = 1000 := rfl; omega) ))
local macro_rules | `(tactic| walk_at "compareOp In int ref") => `(tactic| (k_here; k_dflt (refine' in_setK ?F ?X ?l ?k ?f ?n ?_; (case F => k_asm); (case X => k_asm); (case l => k_is); (case k => decide +kernel); (case f => rfl); (case n => decide +kernel); k_whole)))
local macro_rules | `(tactic| walk_at "getMethod ref") => `(tactic| (k_here; k_dflt (refine' getMethod_dictK ?F ?X ?l ?k ?_; (case F => k_asm); (case X => k_asm); (case l => k_is); (case k => decide +kernel); k_whole)))
local macro_rules | `(tactic| walk_at "call builtin:dict.get") => `(tactic| (k_here; k_dflt (refine' get_dictKs ?F ?X ?l ?k ?s ?n ?_ ?_; (case F => k_asm); (case X => k_asm); (case l => k_is); (case k => decide +kernel); (case s => decide +kernel); (case n => decide +kernel); (all_goals k_whole); (all_goals intros))))
local macro_rules | `(tactic| walk_at "eval Name") => `(tactic| (k_here; k_dflt (refine' ld ?k1 ?k2 ?_; (case k1 => k_asm); (case k2 => assumption); k_whole)))
local macro_rules | `(tactic| walk_at "subscriptTail Name BinOp ref int") => `(tactic| (k_here; k_dflt (refine' item_cases ?N ?m ?a ?b ?c ?_ ?hs; (case hs => with_unfolding_all rfl); (case N => k_asm); (case m => k_mem); (case a => omega); (case b => (simp only [List.length_cons, List.length_nil]; omega)); (case c => exact Nat.le_of_ble_eq_true rfl); k_whole); (simp only [AllAt]); (repeat' (first | exact trivial | refine ⟨fun _ => ?_, ?_⟩))))
local macro_rules | `(tactic| walk_at "k_tl") => `(tactic| (intro p hp; repeat (first | exact hp | refine List.Mem.tail _ ?_)))
local macro_rules | `(tactic| walk_at "m_mem") => `(tactic| (with_reducible first | assumption | exact List.Mem.head _ | (refine List.Mem.tail _ ?_; walk_at "m_mem")))
local macro_rules | `(tactic| walk_at "call builtin:len") => `(tactic| (k_here; k_dflt (refine' len_intsN ?N ?m ?i ?b ?_; (case N => k_asm); (case m => walk_at "m_mem"); (case i => assumption); (case b => omega); k_whole)))
local macro_rules | `(tactic| walk_at "subscriptTail Name Name ref int") => `(tactic| (k_here; k_dflt (refine' item_intsN ?N ?m ?i ?a ?b ?c ?_ ?hs; (case hs => with_unfolding_all rfl); (case N => k_asm); (case m => walk_at "m_mem"); (case i => assumption); (case a => omega); (case b => omega); (case c => omega); k_whole); intro _))
local macro_rules | `(tactic| walk_at "exec While") => `(tactic| (refine Stop.go ?_))
local macro_rules | `(tactic| walk_at "exec While Compare cons nil") => `(tactic| (refine Stop.go ?_))
noncomputable def meantS (n : Int) : PySem.Str := (["ff", "fi", "ss", "st", "tel"] : List PySem.Str).getD (n.fmod 5).toNat ""
noncomputable def spellT : List (List PySem.Str) := [["ff", "ﬀ", "F𝐹"], ["fi", "ﬁ", "𝐅I"], ["ss", "ß", "Sſ"], ["st", "ﬅ", "ﬆ"], ["tel", "℡", "T𝐄L"]]
noncomputable def spellS (n : Int) : PySem.Str := (spellT.getD (n.fmod 5).toNat []).getD ((n.fdiv 5).fmod 3).toNat ""
theorem spellT_len (i j : Nat) : ((spellT.getD i []).getD j "").length ≤ 3 := by
  have h : ∀ i < 5, ∀ j < 3, ((spellT.getD i []).getD j "").length ≤ 3 := by decide +kernel
  have h' : ∀ i < 5, (spellT.getD i []).length ≤ 3 := by decide +kernel
  by_cases hi : i < 5
  · by_cases hj : j < 3
    · exact h i hi j hj
    · rw [List.getD_eq_getElem?_getD, List.getElem?_eq_none (by have := h' i hi; omega)]; exact Nat.zero_le _
  · rw [List.getD_eq_getElem?_getD (l := spellT), List.getElem?_eq_none (by show 5 ≤ i; omega)]; exact Nat.zero_le _
noncomputable def hidL : List Int := [173, 847, 6150, 6155, 6156, 6157, 8203, 8204, 8205, 8288, 65279] ++ rangeInts 65024 1 16
theorem hid_bounds (k : Nat) : 0 ≤ hidL.getD k 0 ∧ hidL.getD k 0 ≤ 1114111 := by
  have h : ∀ k < 27, 0 ≤ hidL.getD k 0 ∧ hidL.getD k 0 ≤ 1114111 := by decide +kernel
  by_cases hk : k < 27
  · exact h k hk
  · rw [List.getD_eq_getElem?_getD, List.getElem?_eq_none (by show 27 ≤ k; omega)]; exact ⟨by decide, by decide⟩
theorem spell_len (n : Int) : (spellS n).length ≤ 3 := spellT_len _ _
noncomputable def hidS (n : Int) : PySem.Str := ⟨#[(hidL.getD ((n.fdiv 60).fmod 27).toNat 0).toNat]⟩
noncomputable def spelled2 (n : Int) : PySem.Str := if 0 < (n.fdiv 15).fmod 4 then Txt.slice (spellS n) none (some ((n.fdiv 15).fmod 4 - 1)) ++ hidS n ++ Txt.slice (spellS n) (some ((n.fdiv 15).fmod 4 - 1)) none else spellS n
abbrev tupOf (vs : List Value) : Obj := { cls := .type "tuple", data := .seq vs.toArray }
theorem T_ask (B : Below A₀ base outer h₀) (F : Fr h₀ L s.heap m) (X₀ : (KF w.params).In h₀) (N : News h₀ L s.heap news) (T : Top p loose mean mg mb h₀) (hA : A.frames = some (env :: outer)) (hf : env.frame = some L) (hke : env.scope.kind = .function)
  (hroom : A.depth < 350) (hh : A.handled = none) (n : Int) (tk : Tok) (h0 : 0 ≤ n) (h6 : n < 1000000)
  (hQ : ∀ a h' tk' t1 t2, Fr h₀ L h' m → News h₀ L h' ((a, tupOf [.str (spelled2 n) t1, .str (meantS n) t2]) :: news) → (∀ p ∈ news, p.1 < a) → Q (.ref a) { s with heap := h', toks := tk' }) :
  wpAny (model PySem.Challenge.rw_us0017_01.prog w) A (call (.ref 161) [.int n tk]) Q E s := by
  revert X₀; k_fill; intro X₀
  refine wpAny_call ?_
  refine' code_def B F X₀ N T hA hf hke ?k6 ?k7 ?k8 ?k9 ?kB ?_ ?c2 ?c3 ?c4 ?c5; (case k6 => k_is); (case k7 => k_is); (case k8 => k_room); (case k9 => first | exact BindsTo.of_eq rfl | exact binds_K (by k_in) rfl (by k_is) rfl rfl rfl); (case c5 => decide); (case kB => exact locs rfl); (case c2 => exact rfl); (case c3 => exact rfl); (case c4 => exact rfl)
  intro g' L' h' FG' F' N' B' X' T'
  (try dsimp only)
  (try generalize s.toks + List.length _ = tk₀)
  (try k_fold)
  have e1 : n.fmod 5 = n % 5 := Int.fmod_eq_emod_of_nonneg _ (by omega)
  have e2 : (n.fdiv 5).fmod 3 = n.fdiv 5 % 3 := Int.fmod_eq_emod_of_nonneg _ (by omega)
  have b1 : 0 ≤ n.fmod 5 ∧ n.fmod 5 < 5 := by omega
  have b2 : 0 ≤ (n.fdiv 5).fmod 3 ∧ (n.fdiv 5).fmod 3 < 3 := by omega
  refine cut_G (fun s' => ∃ h₂ tk₂ m₂, s' = { s with heap := h₂, toks := tk₂ } ∧ Fr g' L' h₂ m₂ ∧ News g' L' h₂ news ∧ m₂ "number" = some (.int n tk) ∧ ∃ t, m₂ "meant" = some (.str (meantS n) t)) ?_ ?_
  · repeat walk1
    all_goals (repeat walk1)
    all_goals ((rename (Int.fmod n 5 = ((_ : Nat) : Int)) => hx); (rename Fr _ _ _ _ => kF); (rename News _ _ _ _ => kN); exact ⟨rfl, _, _, _, rfl, kF, newsSub kN (by walk_at "k_tl"), rfl, strIs rfl (by simp only [meantS, hx]; rfl)⟩)
  intro goalG intoG; rintro _ ⟨h₂, tk₂, m₂, rfl, F₂, N₂, v1, t, v2⟩; refine intoG ⟨h₂, s.gens, s.drawn, tk₂, s.os⟩ ?_; clear intoG goalG
  clear F' N'
  with_reducible refine cut_G (fun s' => ∃ h₃ tk₃ m₃, s' = { s with heap := h₃, toks := tk₃ } ∧ Fr g' L' h₃ m₃ ∧ News g' L' h₃ news ∧ m₃ "number" = some (.int n tk) ∧ m₃ "meant" = some (.str (meantS n) t) ∧ ∃ t', m₃ "spelled" = some (.str (spellS n) t')) ?_ ?_
  · repeat walk1
    all_goals (repeat walk1)
    all_goals (repeat walk1)
    all_goals ((rename (Int.fmod n 5 = ((_ : Nat) : Int)) => hx); (rename (Int.fmod (Int.fdiv n 5) 3 = ((_ : Nat) : Int)) => hy); (rename Fr _ _ _ _ => kF); (rename News _ _ _ _ => kN); exact ⟨rfl, _, _, _, rfl, kF, newsSub kN (by walk_at "k_tl"), v1, v2, strIs rfl (by simp only [spellS, hx, hy]; rfl)⟩)
  intro goalG intoG; rintro _ ⟨h₃, tk₃, m₃, rfl, F₃, N₃, v1, v2, t', v3⟩; refine intoG ⟨h₃, s.gens, s.drawn, tk₃, s.os⟩ ?_; clear intoG goalG
  clear F₂ N₂
  with_reducible refine cut_G (fun s' => ∃ h₄ tk₄ m₄, s' = { s with heap := h₄, toks := tk₄ } ∧ Fr g' L' h₄ m₄ ∧ News g' L' h₄ news ∧ m₄ "number" = some (.int n tk) ∧ m₄ "meant" = some (.str (meantS n) t) ∧ m₄ "spelled" = some (.str (spellS n) t') ∧ ∃ t, m₄ "cut" = some (.int ((n.fdiv 15).fmod 4) t)) ?_ ?_
  · repeat walk1
    (rename Fr _ _ _ _ => kF); (rename News _ _ _ _ => kN)
    exact ⟨rfl, _, _, _, rfl, kF, kN, v1, v2, v3, intIs rfl rfl⟩
  intro goalG intoG; rintro _ ⟨h₄, tk₄, m₄, rfl, F₄, N₄, v1, v2, v3, t₄, v4⟩; refine intoG ⟨h₄, s.gens, s.drawn, tk₄, s.os⟩ ?_; clear intoG goalG
  clear F₃ N₃
  have hsl : (spellS n).length ≤ 3 := spell_len n
  have e3 : (n.fdiv 15).fmod 4 = n.fdiv 15 % 4 := Int.fmod_eq_emod_of_nonneg _ (by omega)
  have e4 : (n.fdiv 60).fmod 27 = n.fdiv 60 % 27 := Int.fmod_eq_emod_of_nonneg _ (by omega)
  have b3 : 0 ≤ (n.fdiv 15).fmod 4 ∧ (n.fdiv 15).fmod 4 < 4 := by omega
  have b4 : 0 ≤ (n.fdiv 60).fmod 27 ∧ (n.fdiv 60).fmod 27 < 27 := by omega
  with_reducible refine cut_G (fun s' => ∃ h₅ tk₅ m₅, s' = { s with heap := h₅, toks := tk₅ } ∧ Fr g' L' h₅ m₅ ∧ News g' L' h₅ news ∧ m₅ "meant" = some (.str (meantS n) t) ∧ ∃ t, m₅ "spelled" = some (.str (spelled2 n) t)) ?_ ?_
  · repeat walk1
    · rename_i aR aF aN aK
      dsimp only at aR
      refine list_rangeN (n := 16) hh aF aN aR (by decide) (by decide) (by decide) ?_
      intro D e hD tkD ys FD ND ltD hys
      clear aR aF aN aK
      repeat walk1
      refine chr_of_range (hid_bounds _).1 (hid_bounds _).2 ?_
      repeat walk1
      (rename Fr _ _ _ _ => kF); (rename News _ _ _ _ => kN)
      exact ⟨rfl, _, _, _, rfl, kF, newsSub kN (by walk_at "k_tl"), v2, strIs rfl (by (rename 0 < _ => hc); unfold spelled2; rw [if_pos hc]; rfl)⟩
    · repeat walk1
      exact ⟨rfl, _, _, _, rfl, F₄, N₄, v2, t', by (rename ¬ 0 < _ => hc); unfold spelled2; rw [if_neg hc]; exact v3⟩
  intro goalG intoG; rintro _ ⟨h₅, tk₅, m₅, rfl, F₅, N₅, v2, t₅, v3⟩; refine intoG ⟨h₅, s.gens, s.drawn, tk₅, s.os⟩ ?_; clear intoG goalG
  clear F₄ N₄
  repeat walk1
  (rename Fr h₀ _ _ _ => kF); (rename News h₀ _ _ _ => kN)
  exact hQ _ _ _ _ _ kF kN (by assumption)
noncomputable def b1S (c : Nat) : Bool := b1es.toList.any fun e => intOfV e.2 == (c : Int)
theorem T_b1 (B : Below A₀ base outer h₀) (F : Fr h₀ L s.heap m) (X₀ : (KF w.params).In h₀) (N : News h₀ L s.heap news) (T : Top p loose mean mg mb h₀) (hA : A.frames = some (env :: outer)) (hf : env.frame = some L) (hke : env.scope.kind = .function)
  (hroom : A.depth < 350) (hh : A.handled = none) (c : Nat) (tk : Tok) (hQ : ∀ h' tk', Fr h₀ L h' m → News h₀ L h' news → Q (.bool (b1S c)) { s with heap := h', toks := tk' }) :
  wpAny (model PySem.Challenge.rw_us0017_01.prog w) A (call (.ref 108) [.str ⟨#[c]⟩ tk]) Q E s := by
  revert X₀; k_fill; intro X₀
  refine wpAny_call ?_
  refine' code_def B F X₀ N T hA hf hke ?k6 ?k7 ?k8 ?k9 ?kB ?_ ?c2 ?c3 ?c4 ?c5; (case k6 => k_is); (case k7 => k_is); (case k8 => k_room); (case k9 => first | exact BindsTo.of_eq rfl | exact binds_K (by k_in) rfl (by k_is) rfl rfl rfl); (case c5 => decide); (case kB => exact locs rfl); (case c2 => exact rfl); (case c3 => exact rfl); (case c4 => exact rfl)
  intro g' L' h' FG' F' N' B' X' T'
  (try dsimp only)
  (try generalize s.toks + List.length _ = tk₀)
  (try k_fold)
  k_steps
  exact hQ _ _ (by assumption) (by assumption)
noncomputable def b3S (c : Nat) : PySem.Str := match findBy Value.isInt b3es c with
  | some (.str x _) => x
  | _ => PySem.Txt.lower ⟨#[c]⟩
theorem b3S_some {c : Nat} {x : PySem.Str} {t : Tok} (h : findBy Value.isInt b3es (c : Int) = some (.str x t)) : b3S c = x := by unfold b3S; rw [h]
theorem b3S_none {c : Nat} (h : findBy Value.isInt b3es (c : Int) = none) : b3S c = PySem.Txt.lower ⟨#[c]⟩ := by unfold b3S; rw [h]
theorem T_b3 (B : Below A₀ base outer h₀) (F : Fr h₀ L s.heap m) (X₀ : (KF w.params).In h₀) (N : News h₀ L s.heap news) (T : Top p loose mean mg mb h₀) (hA : A.frames = some (env :: outer)) (hf : env.frame = some L) (hke : env.scope.kind = .function)
  (hroom : A.depth < 350) (hh : A.handled = none) (c : Nat) (tk : Tok) (hQ : ∀ h' tk' t, Fr h₀ L h' m → News h₀ L h' news → Q (.str (b3S c) t) { s with heap := h', toks := tk' }) :
  wpAny (model PySem.Challenge.rw_us0017_01.prog w) A (call (.ref 154) [.str ⟨#[c]⟩ tk]) Q E s := by
  revert X₀; k_fill; intro X₀
  refine wpAny_call ?_
  refine' code_def B F X₀ N T hA hf hke ?k6 ?k7 ?k8 ?k9 ?kB ?_ ?c2 ?c3 ?c4 ?c5; (case k6 => k_is); (case k7 => k_is); (case k8 => k_room); (case k9 => first | exact BindsTo.of_eq rfl | exact binds_K (by k_in) rfl (by k_is) rfl rfl rfl); (case c5 => decide); (case kB => exact locs rfl); (case c2 => exact rfl); (case c3 => exact rfl); (case c4 => exact rfl)
  intro g' L' h' FG' F' N' B' X' T'
  (try dsimp only)
  (try generalize s.toks + List.length _ = tk₀)
  (try k_fold)
  k_steps
  · (rename findBy _ _ _ = _ => hx); (rename Fr h₀ _ _ _ => kF); (rename News h₀ _ _ _ => kN)
    rw [b3S_some hx] at hQ
    exact hQ _ _ _ kF kN
  · dsimp only
    refine SCL.lower (x := ⟨#[c]⟩) (by show 1 ≤ 5592405; omega) ?_
    intro _
    k_steps
    (rename findBy _ _ _ = _ => hx); (rename Fr h₀ _ _ _ => kF); (rename News h₀ _ _ _ => kN)
    rw [b3S_none hx] at hQ
    exact hQ _ _ _ kF kN
noncomputable def Sorted (ns : List Int) : Prop := ∀ i j, i ≤ j → j < ns.length → ns.getD i 0 ≤ ns.getD j 0
theorem mid_facts {lo hi : Nat} (h : (lo : Int) < (hi : Int)) : lo ≤ (((lo : Int) + hi).fdiv 2).toNat ∧ (((lo : Int) + hi).fdiv 2).toNat < hi ∧ 0 ≤ ((lo : Int) + hi).fdiv 2 ∧ ((lo : Int) + hi).fdiv 2 < hi := by
  have e : ((lo : Int) + hi).fdiv 2 = (lo + hi) / 2 := Int.fdiv_eq_ediv_of_nonneg _ (by omega)
  omega
theorem T_bl (B : Below A₀ base outer h₀) (F : Fr h₀ L s.heap m) (X₀ : (KF w.params).In h₀) (N : News h₀ L s.heap news) (T : Top p loose mean mg mb h₀) (hA : A.frames = some (env :: outer)) (hf : env.frame = some L) (hke : env.scope.kind = .function)
  (hroom : A.depth < 360) (hh : A.handled = none) (a : Addr) (vs : List Value) (ns : List Int) (ep : Nat) (x : Int) (tkx : Tok) (hm : (a, PySem.W.listOf vs.toArray ep) ∈ news) (hi : IntsAre vs ns) (hlen : ns.length ≤ 100) (hs : Sorted ns)
  (hQ : ∀ h' tk' t (r : Nat), Fr h₀ L h' m → News h₀ L h' news → r ≤ ns.length → (∀ i : Nat, i < r → ns.getD i 0 < x) → (∀ i : Nat, r ≤ i → i < ns.length → x ≤ ns.getD i 0) → Q (.int r t) { s with heap := h', toks := tk' }) :
  wpAny (model PySem.Challenge.rw_us0017_01.prog w) A (call (.ref 75) [.ref a, .int x tkx]) Q E s := by
  revert X₀; k_fill; intro X₀
  refine wpAny_call ?_
  refine' code_def B F X₀ N T hA hf hke ?k6 ?k7 ?k8 ?k9 ?kB ?_ ?c2 ?c3 ?c4 ?c5; (case k6 => k_is); (case k7 => k_is); (case k8 => k_room); (case k9 => exact kp_binds (binds := [("a", .ref a), ("x", .int x tkx), ("lo", .int 0 380), ("hi", .none), ("key", .none)]) (by k_in) (fun _ => rfl)); (case c5 => decide); (case kB => exact locs rfl); (case c2 => exact rfl); (case c3 => exact rfl); (case c4 => exact rfl)
  intro g' L' h' FG' F' N' B' X' T'
  (try dsimp only)
  (try generalize s.toks + List.length _ = tk₀)
  (try k_fold)
  repeat walk1
  unfold Stop
  (rename Fr g' _ _ _ => kF)
  refine While_J (fun n m₁ news₁ => news₁ = news ∧ ∃ lo hi : Nat, n = hi - lo ∧ lo ≤ hi ∧ hi ≤ ns.length ∧ (∀ i : Nat, i < lo → ns.getD i 0 < x) ∧ (∀ i : Nat, hi ≤ i → i < ns.length → x ≤ ns.getD i 0) ∧ (∃ t, m₁ "lo" = some (.int (lo : Int) t)) ∧ (∃ t, m₁ "hi" = some (.int (hi : Int) t)) ∧ m₁ "a" = some (.ref a) ∧ m₁ "x" = some (.int x tkx)) (n₀ := ns.length) kF (by assumption) ⟨rfl, 0, ns.length, rfl, Nat.zero_le _, Nat.le_refl _, fun i h => absurd h (Nat.not_lt_zero _), fun i h1 h2 => absurd h1 (Nat.not_le_of_lt h2), ⟨_, rfl⟩, ⟨_, rfl⟩, rfl, rfl⟩ ?_
  clear kF
  rintro n m₁ news₁ h₁ tk₁ F₁ N₁ inv; refine hide ?_; intro goalG intoG; obtain ⟨hn, lo, hi', en, b1, b2, c1, c2, ⟨t1, v1⟩, ⟨t2, v2⟩, v3, v4⟩ := inv; refine intoG ?_; clear intoG goalG
  rw [hn] at N₁
  walk1
  walk1
  walk1
  walk1
  walk1
  walk1
  · rename_i hc
    have hmid := mid_facts hc
    repeat walk1
    · (rename Fr g' _ _ _ => kF); (rename News g' _ _ _ => kN); (rename List.getD _ _ _ < x => hx)
      dsimp only [WhileStep2]
      exact ⟨_, _, _, _, hi' - ((((lo : Int) + hi').fdiv 2).toNat + 1), rfl, kF, kN, by omega, rfl, (((lo : Int) + hi').fdiv 2).toNat + 1, hi', rfl, by omega, b2,
        fun i h => Int.lt_of_le_of_lt (hs i _ (by omega) (by omega)) hx, c2, intIs rfl (by omega), ⟨_, v2⟩, v3, v4⟩
    · repeat walk1
      (rename Fr g' _ _ _ => kF); (rename News g' _ _ _ => kN); (rename ¬ List.getD _ _ _ < x => hx)
      dsimp only [WhileStep2]
      exact ⟨_, _, _, _, (((lo : Int) + hi').fdiv 2).toNat - lo, rfl, kF, kN, by omega, rfl, lo, (((lo : Int) + hi').fdiv 2).toNat, rfl, by omega, by omega,
        c1, fun i h1 h2 => Int.le_trans (Int.not_lt.mp hx) (hs _ i h1 h2), ⟨_, v1⟩, intIs rfl (by omega), v3, v4⟩
  · rename_i hc
    repeat walk1
    (rename Fr h₀ _ _ _ => kF); (rename News h₀ _ _ _ => kN)
    exact hQ _ _ _ lo kF kN (by omega) c1 (fun i h1 h2 => c2 i (by omega) h2)
theorem T_br (B : Below A₀ base outer h₀) (F : Fr h₀ L s.heap m) (X₀ : (KF w.params).In h₀) (N : News h₀ L s.heap news) (T : Top p loose mean mg mb h₀) (hA : A.frames = some (env :: outer)) (hf : env.frame = some L) (hke : env.scope.kind = .function)
  (hroom : A.depth < 360) (hh : A.handled = none) (a : Addr) (vs : List Value) (ns : List Int) (ep : Nat) (x : Int) (tkx : Tok) (hm : (a, PySem.W.listOf vs.toArray ep) ∈ news) (hi : IntsAre vs ns) (hlen : ns.length ≤ 100) (hs : Sorted ns)
  (hQ : ∀ h' tk' t (r : Nat), Fr h₀ L h' m → News h₀ L h' news → r ≤ ns.length → (∀ i : Nat, i < r → ns.getD i 0 ≤ x) → (∀ i : Nat, r ≤ i → i < ns.length → x < ns.getD i 0) → Q (.int r t) { s with heap := h', toks := tk' }) :
  wpAny (model PySem.Challenge.rw_us0017_01.prog w) A (call (.ref 66) [.ref a, .int x tkx]) Q E s := by
  revert X₀; k_fill; intro X₀
  refine wpAny_call ?_
  refine' code_def B F X₀ N T hA hf hke ?k6 ?k7 ?k8 ?k9 ?kB ?_ ?c2 ?c3 ?c4 ?c5; (case k6 => k_is); (case k7 => k_is); (case k8 => k_room); (case k9 => exact kp_binds (binds := [("a", .ref a), ("x", .int x tkx), ("lo", .int 0 366), ("hi", .none), ("key", .none)]) (by k_in) (fun _ => rfl)); (case c5 => decide); (case kB => exact locs rfl); (case c2 => exact rfl); (case c3 => exact rfl); (case c4 => exact rfl)
  intro g' L' h' FG' F' N' B' X' T'
  (try dsimp only)
  (try generalize s.toks + List.length _ = tk₀)
  (try k_fold)
  repeat walk1
  unfold Stop
  (rename Fr g' _ _ _ => kF)
  refine While_J (fun n m₁ news₁ => news₁ = news ∧ ∃ lo hi : Nat, n = hi - lo ∧ lo ≤ hi ∧ hi ≤ ns.length ∧ (∀ i : Nat, i < lo → ns.getD i 0 ≤ x) ∧ (∀ i : Nat, hi ≤ i → i < ns.length → x < ns.getD i 0) ∧ (∃ t, m₁ "lo" = some (.int (lo : Int) t)) ∧ (∃ t, m₁ "hi" = some (.int (hi : Int) t)) ∧ m₁ "a" = some (.ref a) ∧ m₁ "x" = some (.int x tkx)) (n₀ := ns.length) kF (by assumption) ⟨rfl, 0, ns.length, rfl, Nat.zero_le _, Nat.le_refl _, fun i h => absurd h (Nat.not_lt_zero _), fun i h1 h2 => absurd h1 (Nat.not_le_of_lt h2), ⟨_, rfl⟩, ⟨_, rfl⟩, rfl, rfl⟩ ?_
  clear kF
  rintro n m₁ news₁ h₁ tk₁ F₁ N₁ inv; refine hide ?_; intro goalG intoG; obtain ⟨hn, lo, hi', en, b1, b2, c1, c2, ⟨t1, v1⟩, ⟨t2, v2⟩, v3, v4⟩ := inv; refine intoG ?_; clear intoG goalG
  rw [hn] at N₁
  walk1
  walk1
  walk1
  walk1
  walk1
  walk1
  · rename_i hc
    have hmid := mid_facts hc
    repeat walk1
    · (rename Fr g' _ _ _ => kF); (rename News g' _ _ _ => kN); (rename x < List.getD _ _ _ => hx)
      dsimp only [WhileStep2]
      exact ⟨_, _, _, _, (((lo : Int) + hi').fdiv 2).toNat - lo, rfl, kF, kN, by omega, rfl, lo, (((lo : Int) + hi').fdiv 2).toNat, rfl, by omega, by omega,
        c1, fun i h1 h2 => Int.lt_of_lt_of_le hx (hs _ i h1 h2), ⟨_, v1⟩, intIs rfl (by omega), v3, v4⟩
    · repeat walk1
      (rename Fr g' _ _ _ => kF); (rename News g' _ _ _ => kN); (rename ¬ x < List.getD _ _ _ => hx)
      dsimp only [WhileStep2]
      exact ⟨_, _, _, _, hi' - ((((lo : Int) + hi').fdiv 2).toNat + 1), rfl, kF, kN, by omega, rfl, (((lo : Int) + hi').fdiv 2).toNat + 1, hi', rfl, by omega, b2,
        fun i h => Int.le_trans (hs i _ (by omega) (by omega)) (Int.not_lt.mp hx), c2, intIs rfl (by omega), ⟨_, v2⟩, v3, v4⟩
  · rename_i hc
    repeat walk1
    (rename Fr h₀ _ _ _ => kF); (rename News h₀ _ _ _ => kN)
    exact hQ _ _ _ lo kF kN (by omega) c1 (fun i h1 h2 => c2 i (by omega) h2)
theorem T_br4 (B : Below A₀ base outer h₀) (F : Fr h₀ L s.heap m) (X₀ : (KF w.params).In h₀) (N : News h₀ L s.heap news) (T : Top p loose mean mg mb h₀) (hA : A.frames = some (env :: outer)) (hf : env.frame = some L) (hke : env.scope.kind = .function)
  (hroom : A.depth < 360) (hh : A.handled = none) (a : Addr) (vs : List Value) (ns : List Int) (ep : Nat) (x : Int) (tkx tkl : Tok) (hm : (a, PySem.W.listOf vs.toArray ep) ∈ news) (hi : IntsAre vs ns) (hlen : ns.length ≤ 100) (hs : Sorted ns)
  (hQ : ∀ h' tk' t (r : Nat), Fr h₀ L h' m → News h₀ L h' news → r ≤ ns.length → (∀ i : Nat, i < r → ns.getD i 0 ≤ x) → (∀ i : Nat, r ≤ i → i < ns.length → x < ns.getD i 0) → Q (.int r t) { s with heap := h', toks := tk' }) :
  wpAny (model PySem.Challenge.rw_us0017_01.prog w) A (call (.ref 66) [.ref a, .int x tkx, .int 0 tkl, .none]) Q E s := by
  revert X₀; k_fill; intro X₀
  refine wpAny_call ?_
  refine' code_def B F X₀ N T hA hf hke ?k6 ?k7 ?k8 ?k9 ?kB ?_ ?c2 ?c3 ?c4 ?c5; (case k6 => k_is); (case k7 => k_is); (case k8 => k_room); (case k9 => exact kp_binds (binds := [("a", .ref a), ("x", .int x tkx), ("lo", .int 0 tkl), ("hi", .none), ("key", .none)]) (by k_in) (fun _ => rfl)); (case c5 => decide); (case kB => exact locs rfl); (case c2 => exact rfl); (case c3 => exact rfl); (case c4 => exact rfl)
  intro g' L' h' FG' F' N' B' X' T'
  (try dsimp only)
  (try generalize s.toks + List.length _ = tk₀)
  (try k_fold)
  repeat walk1
  unfold Stop
  (rename Fr g' _ _ _ => kF)
  refine While_J (fun n m₁ news₁ => news₁ = news ∧ ∃ lo hi : Nat, n = hi - lo ∧ lo ≤ hi ∧ hi ≤ ns.length ∧ (∀ i : Nat, i < lo → ns.getD i 0 ≤ x) ∧ (∀ i : Nat, hi ≤ i → i < ns.length → x < ns.getD i 0) ∧ (∃ t, m₁ "lo" = some (.int (lo : Int) t)) ∧ (∃ t, m₁ "hi" = some (.int (hi : Int) t)) ∧ m₁ "a" = some (.ref a) ∧ m₁ "x" = some (.int x tkx)) (n₀ := ns.length) kF (by assumption) ⟨rfl, 0, ns.length, rfl, Nat.zero_le _, Nat.le_refl _, fun i h => absurd h (Nat.not_lt_zero _), fun i h1 h2 => absurd h1 (Nat.not_le_of_lt h2), ⟨_, rfl⟩, ⟨_, rfl⟩, rfl, rfl⟩ ?_
  clear kF
  rintro n m₁ news₁ h₁ tk₁ F₁ N₁ inv; refine hide ?_; intro goalG intoG; obtain ⟨hn, lo, hi', en, b1, b2, c1, c2, ⟨t1, v1⟩, ⟨t2, v2⟩, v3, v4⟩ := inv; refine intoG ?_; clear intoG goalG
  rw [hn] at N₁
  walk1
  walk1
  walk1
  walk1
  walk1
  walk1
  · rename_i hc
    have hmid := mid_facts hc
    repeat walk1
    · (rename Fr g' _ _ _ => kF); (rename News g' _ _ _ => kN); (rename x < List.getD _ _ _ => hx)
      dsimp only [WhileStep2]
      exact ⟨_, _, _, _, (((lo : Int) + hi').fdiv 2).toNat - lo, rfl, kF, kN, by omega, rfl, lo, (((lo : Int) + hi').fdiv 2).toNat, rfl, by omega, by omega,
        c1, fun i h1 h2 => Int.lt_of_lt_of_le hx (hs _ i h1 h2), ⟨_, v1⟩, intIs rfl (by omega), v3, v4⟩
    · repeat walk1
      (rename Fr g' _ _ _ => kF); (rename News g' _ _ _ => kN); (rename ¬ x < List.getD _ _ _ => hx)
      dsimp only [WhileStep2]
      exact ⟨_, _, _, _, hi' - ((((lo : Int) + hi').fdiv 2).toNat + 1), rfl, kF, kN, by omega, rfl, (((lo : Int) + hi').fdiv 2).toNat + 1, hi', rfl, by omega, b2,
        fun i h => Int.le_trans (hs i _ (by omega) (by omega)) (Int.not_lt.mp hx), c2, intIs rfl (by omega), ⟨_, v2⟩, v3, v4⟩
  · rename_i hc
    repeat walk1
    (rename Fr h₀ _ _ _ => kF); (rename News h₀ _ _ _ => kN)
    exact hQ _ _ _ lo kF kN (by omega) c1 (fun i h1 h2 => c2 i (by omega) h2)
theorem T_ins {rest : List (Addr × Obj)} (B : Below A₀ base outer h₀) (F : Fr h₀ L s.heap m) (X₀ : (KF w.params).In h₀) (N : News h₀ L s.heap news) (T : Top p loose mean mg mb h₀) (hA : A.frames = some (env :: outer)) (hf : env.frame = some L) (hke : env.scope.kind = .function)
  (hroom : A.depth < 350) (hh : A.handled = none) (a : Addr) (vs : List Value) (ns : List Int) (ep : Nat) (x : Int) (tkx : Tok) (hm : news = (a, PySem.W.listOf vs.toArray ep) :: rest) (hne : ∀ p ∈ rest, p.1 ≠ a) (hi : IntsAre vs ns) (hlen : ns.length ≤ 100) (hs : Sorted ns)
  (hQ : ∀ h' tk' (r : Nat) vs' ep', Fr h₀ L h' m → News h₀ L h' ((a, PySem.W.listOf vs'.toArray ep') :: rest) → IntsAre vs' (ns.take r ++ x :: ns.drop r) → r ≤ ns.length → (∀ i : Nat, i < r → ns.getD i 0 ≤ x) → (∀ i : Nat, r ≤ i → i < ns.length → x < ns.getD i 0) → Q .none { s with heap := h', toks := tk' }) :
  wpAny (model PySem.Challenge.rw_us0017_01.prog w) A (call (.ref 57) [.ref a, .int x tkx]) Q E s := by
  subst hm
  revert X₀; k_fill; intro X₀
  refine wpAny_call ?_
  refine' code_def B F X₀ N T hA hf hke ?k6 ?k7 ?k8 ?k9 ?kB ?_ ?c2 ?c3 ?c4 ?c5; (case k6 => k_is); (case k7 => k_is); (case k8 => k_room); (case k9 => exact kp_binds (binds := [("a", .ref a), ("x", .int x tkx), ("lo", .int 0 353), ("hi", .none), ("key", .none)]) (by k_in) (fun _ => rfl)); (case c5 => decide); (case kB => exact locs rfl); (case c2 => exact rfl); (case c3 => exact rfl); (case c4 => exact rfl)
  intro g' L' h' FG' F' N' B' X' T'
  (try dsimp only)
  (try generalize s.toks + List.length _ = tk₀)
  (try k_fold)
  repeat walk1
  refine T_br4 B' (by assumption) X' (by assumption) T' (frDeeper hA) rfl rfl (Nat.lt_trans (roomDeeper hroom) (by decide)) hh a vs ns ep x tkx _ (List.Mem.head _) hi hlen hs ?_
  intro h₂ tk₂ t₂ r F₂ N₂ hr c1 c2
  clear F' N'
  repeat walk1
  (rename Fr g' _ _ _ => kF); (rename News g' _ _ _ => kN)
  have el : vs.length = ns.length := by have := hi.length; omega
  have ek : kl_ins vs (r : Int) (.int x tkx) = vs.take r ++ .int x tkx :: vs.drop r := by
    unfold kl_ins
    have e1 : (if (r : Int) < 0 then ((r : Int) + (vs.length : Int)).toNat else min (r : Int).toNat vs.length) = r := by
      rw [if_neg (by omega)]; omega
    rw [e1]
  refine kl_insert kF kN (by simp [Builtin.List.listFitsIndex]; omega) rfl (Upd.head hne) (by show vs.length ≤ 2 ^ 24; omega) ?_
  intro h₃ F₃ N₃
  clear kF kN
  repeat walk1
  (rename Fr h₀ _ _ _ => kF); (rename News h₀ _ _ _ => kN)
  refine hQ _ _ r _ _ kF kN ?_ hr c1 c2
  show IntsAre (kl_ins vs (r : Int) (.int x tkx)) _
  rw [ek]
  exact (hi.take r).append (.cons x tkx (hi.drop r))
noncomputable def wordsS (d : Int) : PySem.Str := (["OPTIMIZED, NEWLOCALS, VARARGS, VARKEYWORDS, NESTED", "0x0", "OPTIMIZED", "OPTIMIZED, NEWLOCALS", "OPTIMIZED, NEWLOCALS, VARARGS", "OPTIMIZED, NEWLOCALS, VARARGS, VARKEYWORDS"] : List PySem.Str).getD d.toNat ""
theorem T_words (B : Below A₀ base outer h₀) (F : Fr h₀ L s.heap m) (X₀ : (KF w.params).In h₀) (N : News h₀ L s.heap news) (T : Top p loose mean mg mb h₀) (hA : A.frames = some (env :: outer)) (hf : env.frame = some L) (hke : env.scope.kind = .function)
  (hroom : A.depth < 350) (hh : A.handled = none) (d : Int) (tk : Tok) (hd : 0 ≤ d ∧ d ≤ 5)
  (hQ : ∀ h' tk' t, Fr h₀ L h' m → News h₀ L h' news → Q (.str (wordsS d) t) { s with heap := h', toks := tk' }) :
  wpAny (model PySem.Challenge.rw_us0017_01.prog w) A (call (.ref 173) [.int d tk]) Q E s := by
  revert X₀; k_fill; intro X₀
  refine wpAny_call ?_
  refine' code_def B F X₀ N T hA hf hke ?k6 ?k7 ?k8 ?k9 ?kB ?_ ?c2 ?c3 ?c4 ?c5; (case k6 => k_is); (case k7 => k_is); (case k8 => k_room); (case k9 => first | exact BindsTo.of_eq rfl | exact binds_K (by k_in) rfl (by k_is) rfl rfl rfl); (case c5 => decide); (case kB => exact locs rfl); (case c2 => exact rfl); (case c3 => exact rfl); (case c4 => exact rfl)
  intro g' L' h' FG' F' N' B' X' T'
  (try dsimp only)
  (try generalize s.toks + List.length _ = tk₀)
  (try k_fold)
  have hd6 : d = 0 ∨ d = 1 ∨ d = 2 ∨ d = 3 ∨ d = 4 ∨ d = 5 := by omega
  refine cut_G (fun s' => ∃ h₂ tk₂ m₂ l vs, s' = { s with heap := h₂, toks := tk₂ } ∧ Fr g' L' h₂ m₂ ∧ (News g' L' h₂ ((l, PySem.W.listOf vs.toArray 0) :: news) ∧ (∀ p ∈ news, p.1 < l) ∧ m₂ "depth" = some (.int d tk) ∧ m₂ "words" = some (.ref l)) ∧ ∃ t1 t2 t3 t4 t5, vs = [.str "OPTIMIZED" t1, .str "NEWLOCALS" t2, .str "VARARGS" t3, .str "VARKEYWORDS" t4, .str "NESTED" t5]) ?_ ?_
  · repeat walk1
    (rename Fr _ _ _ _ => kF); (rename News _ _ _ _ => kN)
    exact ⟨rfl, _, _, _, _, _, rfl, kF, ⟨kN, by assumption, rfl, rfl⟩, _, _, _, _, _, rfl⟩
  intro goalG intoG; rintro _ ⟨h₂, tk₂, m₂, l, vs, rfl, F₂, ⟨N₂, ltl, v1, v2⟩, t1, t2, t3, t4, t5, rfl⟩; refine intoG ⟨h₂, s.gens, s.drawn, tk₂, s.os⟩ ?_; clear intoG goalG
  clear F' N'
  rcases hd6 with rfl | rfl | rfl | rfl | rfl | rfl
  all_goals (repeat walk1)
  all_goals (rename Fr h₀ _ _ _ => kF)
  all_goals (rename News h₀ _ _ _ => kN)
  all_goals first
    | exact hQ _ _ _ kF (newsSub kN (by walk_at "k_tl"))
    | (have e : wordsS _ = Txt.join _ _ := (by decide +kernel); rw [e] at hQ; exact hQ _ _ _ kF (newsSub kN (by walk_at "k_tl")))
section
local macro_rules | `(tactic| walk_at "exec For") => `(tactic| (refine Stop.go ?_))
local macro_rules | `(tactic| walk_at "exec For Name Call") => `(tactic| (refine Stop.go ?_))
local macro_rules | `(tactic| walk_at "exec For Name Call cons nil") => `(tactic| (refine Stop.go ?_))
local macro_rules | `(tactic| walk_at "exec For Name Name") => `(tactic| (refine Stop.go ?_))
local macro_rules | `(tactic| walk_at "exec For Name Name cons nil") => `(tactic| (refine Stop.go ?_))
local macro_rules | `(tactic| walk_at "eval ListComp") => `(tactic| (refine Stop.go ?_))
local macro_rules | `(tactic| walk_at "exec Assign cons ListComp") => `(tactic| (refine Stop.go ?_))
local macro_rules | `(tactic| k_all) => `(tactic| exact fun p hp => Nat.ne_of_lt ((by assumption : ∀ p ∈ _, p.1 < _) p hp))
local macro_rules | `(tactic| walk_at "call builtin:list.append") => `(tactic| (k_here; k_dflt (refine' append_K ?k1 ?k2 ?k3 ?_ ?z; (case k1 => k_asm); (case k2 => k_asm); (case k3 => k_upd); (case z => (rw [sizeLine_eq, List.size_toArray]; omega)); k_whole); intro h' F' N'; (try k_sweep)))
local macro_rules | `(tactic| walk_at "loadName") => `(tactic| (k_here; k_dflt (refine' wpAny_loadName_local ?a ?b ?k1 ?k2 ?_; (case a => rfl); (case b => rfl); (case k1 => exact Fr.ns (by k_asm)); (case k2 => assumption); k_whole)))
local macro_rules | `(tactic| k_all) => `(tactic| exact (by assumption : ∀ p ∈ _, p.1 ≠ _))
section
local macro_rules | `(tactic| walk_at "pad 0") => `(tactic| skip)
local macro_rules | `(tactic| walk_at "pad 1") => `(tactic| skip)
local macro_rules | `(tactic| walk_at "pad 2") => `(tactic| skip)
noncomputable def flagWords : List PySem.Str := ["OPTIMIZED", "NEWLOCALS", "VARARGS", "VARKEYWORDS", "NESTED"]
noncomputable def flagsS (d : Nat) : PySem.Str := Txt.join ", " (if d = 0 then ["0x0"] else flagWords.take d)
theorem bits_on : ∀ d : Nat, d < 6 → ∀ i : Nat, i < 6 → i < d → Builtin.bitAnd (2 ^ d - 2 ^ i) (1 * 2 ^ (0 + (i : Int)).toNat) ≠ 0 := by decide +kernel
local macro_rules | `(tactic| walk_at "call builtin:dict.get") => `(tactic| (refine Stop.go ?_))
theorem bits_end : ∀ d : Nat, d < 6 → ∀ i : Nat, i < 6 → i < d → (2 : Int) ^ d - 2 ^ (i + 1) = 0 → d = i + 1 := by decide +kernel
theorem bits_xor : ∀ d : Nat, d < 6 → ∀ i : Nat, i < 6 → i < d → Builtin.bitXor (2 ^ d - 2 ^ i) (1 * 2 ^ (0 + (i : Int)).toNat) = 2 ^ d - 2 ^ (i + 1) := by decide +kernel
theorem T_flags (B : Below A₀ base outer h₀) (F : Fr h₀ L s.heap m) (X₀ : (KF w.params).In h₀) (N : News h₀ L s.heap news) (T : Top p loose mean mg mb h₀) (hA : A.frames = some (env :: outer)) (hf : env.frame = some L) (hke : env.scope.kind = .function)
  (hroom : A.depth < 350) (hh : A.handled = none) (d : Nat) (hd : d ≤ 5) (tkx : Tok)
  (hQ : ∀ h' tk' t, Fr h₀ L h' m → News h₀ L h' news → Q (.str (flagsS d) t) { s with heap := h', toks := tk' }) :
  wpAny (model PySem.Challenge.rw_us0017_01.prog w) A (call (.ref 83) [.int ((2 : Int) ^ d - 1) tkx]) Q E s := by
  revert X₀; k_fill; intro X₀
  refine wpAny_call ?_
  refine' code_def B F X₀ N T hA hf hke ?k6 ?k7 ?k8 ?k9 ?kB ?_ ?c2 ?c3 ?c4 ?c5; (case k6 => k_is); (case k7 => k_is); (case k8 => k_room); (case k9 => first | exact BindsTo.of_eq rfl | exact binds_K (by k_in) rfl (by k_is) rfl rfl rfl); (case c5 => decide); (case kB => exact locs rfl); (case c2 => exact rfl); (case c3 => exact rfl); (case c4 => exact rfl)
  intro g' L' h' FG' F' N' B' X' T'
  (try dsimp only)
  (try generalize s.toks + List.length _ = tk₀)
  (try k_fold)
  refine cut_G (fun s' => ∃ h₂ tk₂ m₂ l, s' = { s with heap := h₂, toks := tk₂ } ∧ Fr g' L' h₂ m₂ ∧ News g' L' h₂ ((l, PySem.W.listOf #[] 0) :: news) ∧ (∀ p ∈ news, p.1 < l) ∧ m₂ "names" = some (.ref l) ∧ m₂ "flags" = some (.int ((2 : Int) ^ d - 1) tkx)) ?_ ?_
  · repeat walk1
    (rename Fr _ _ _ _ => kF); (rename News _ _ _ _ => kN)
    exact ⟨rfl, _, _, _, _, rfl, kF, kN, by assumption, rfl, rfl⟩
  intro goalG intoG; rintro _ ⟨h₂, tk₂, m₂, l, rfl, F₂, N₂, hlt, v1, v2⟩; refine intoG ⟨h₂, s.gens, s.drawn, tk₂, s.os⟩ ?_; clear intoG goalG
  clear F' N'
  refine cut_G (fun s' => ∃ h₂ tk₂ m₂ vs ep, s' = { s with heap := h₂, toks := tk₂ } ∧ Fr g' L' h₂ m₂ ∧ News g' L' h₂ ((l, PySem.W.listOf vs.toArray ep) :: news) ∧ m₂ "names" = some (.ref l) ∧ StrsAre vs (if d = 0 then ["0x0"] else flagWords.take d)) ?_ ?_
  · refine For_cut ?_
    repeat walk1
    (rename Fr _ _ _ _ => kF); (rename News _ _ _ _ => kN)
    refine ForRun.range (n := 32) (fun i m₁ news₁ => m₁ "names" = some (.ref l) ∧ (∃ t, m₁ "flags" = some (.int (if d = 0 then 0 else 2 ^ d - 2 ^ i) t)) ∧ (d = 0 ∨ i < d) ∧ ∃ vs n, news₁ = (l, PySem.W.listOf vs.toArray n) :: news ∧ StrsAre vs (if d = 0 then [] else flagWords.take i)) hh letGo_Name (by assumption) rfl rfl kF kN ⟨v1, intIs v2 (by split <;> simp_all), by omega, [], 0, rfl, by split <;> exact .nil⟩ ?_ ?_
    · clear kF kN v1 v2
      rintro i t I m₁ news₁ oI h tk hi inv F₁ N₁ off; refine hide ?_; intro goalG intoG; obtain ⟨w1, ⟨t', w2⟩, hd', vs, n, rfl, hs⟩ := inv; refine intoG ?_; clear intoG goalG
      repeat walk1
      · (rename Builtin.bitAnd _ _ ≠ 0 => hb)
        obtain ⟨hd0, hid⟩ : d ≠ 0 ∧ i < d := by
          rcases hd' with h | h
          · subst h; exact absurd (bitAnd_zero _) hb
          · exact ⟨by omega, h⟩
        rw [if_neg hd0] at w2 hs
        have hvl : vs.length = i := by rw [hs.length, List.length_take]; exact Nat.min_eq_left (show i ≤ 5 by omega)
        have hIl : @Ne Nat l I := off _ (List.Mem.head _)
        have hi5 : i = 0 ∨ i = 1 ∨ i = 2 ∨ i = 3 ∨ i = 4 := by omega
        refine P.hex_of_int (hsz := by rcases hi5 with rfl | rfl | rfl | rfl | rfl <;> decide +kernel) ?_
        repeat walk1
        unfold Stop
        (rename Fr g' _ _ _ => kF)
        refine get_dictEx (x := flagWords.getD i "") kF X' (by k_is) (by decide +kernel) (by decide +kernel) (by rcases hi5 with rfl | rfl | rfl | rfl | rfl <;> exact ⟨_, rfl⟩) ?_
        intro tw
        repeat walk1
        · (rename Builtin.bitXor _ _ ≠ 0 => hx)
          rw [bits_xor d (by omega) i (by omega) hid] at hx
          have hid2 : i + 1 < d := by
            rcases Nat.lt_or_ge (i + 1) d with h | h
            · exact h
            · obtain rfl : d = i + 1 := by omega
              exact absurd (Int.sub_self _) hx
          (rename Fr g' _ _ _ => kF); (rename News g' _ _ _ => kN)
          refine TurnJ.intro kF kN _ (List.Mem.head _) (fun p hp => List.Mem.tail _ hp) ?_ ⟨w1, intIs rfl (by rw [if_neg hd0]; exact bits_xor d (by omega) i (by omega) hid), .inr hid2, vs ++ [_], n + 1, by rw [List.push_toArray], ?_⟩
          · intro p hp
            rcases List.mem_cons.mp hp with rfl | hp
            · exact hIl
            · exact off _ (List.Mem.tail _ hp)
          · rw [if_neg hd0]
            have := StrsAre.snoc hs (flagWords.getD i "") tw
            rcases hi5 with rfl | rfl | rfl | rfl | rfl <;> exact this
        · (rename Builtin.bitXor _ _ = 0 => hx)
          rw [bits_xor d (by omega) i (by omega) hid] at hx
          obtain rfl : d = i + 1 := bits_end d (by omega) i (by omega) hid hx
          (rename Fr g' _ _ _ => kF); (rename News g' _ _ _ => kN)
          refine wpAny_execs_cons (wpAny_Break ?_)
          refine ⟨rfl, _, _, _, vs ++ [.str (flagWords.getD i "") tw], n + 1, rfl, kF, ?_, w1, ?_⟩
          · rw [← List.push_toArray]; exact newsSub kN fun p hp => List.Mem.tail _ hp
          · rw [if_neg (by omega)]
            have := StrsAre.snoc hs (flagWords.getD i "") tw
            rcases hi5 with rfl | rfl | rfl | rfl | rfl <;> exact this
      · (rename Builtin.bitAnd _ _ = 0 => hb)
        obtain rfl : d = 0 := by
          rcases hd' with h | h
          · exact h
          · exfalso
            rw [if_neg (by omega)] at hb
            exact bits_on d (by omega) i (by omega) h hb
        repeat walk1
        (rename Fr g' _ _ _ => kF); (rename News g' _ _ _ => kN)
        exact TurnJ.intro kF kN _ (List.Mem.head _) (fun p hp => List.Mem.tail _ hp) off ⟨w1, intIs w2 rfl, .inl rfl, vs, n, rfl, hs⟩
    · clear kF kN v1 v2
      rintro h tk m₁ news₁ F₁ N₁ inv; refine hide ?_; intro goalG intoG; obtain ⟨w1, ⟨t', w2⟩, hd', vs, n, rfl, hs⟩ := inv; refine intoG ?_; clear intoG goalG
      obtain rfl : d = 0 := by omega
      simp only [if_true] at w2 hs
      repeat walk1
      (rename Fr g' _ _ _ => kF); (rename News g' _ _ _ => kN)
      obtain rfl : vs = [] := by cases hs; rfl
      exact ⟨rfl, _, _, _, _, _, rfl, kF, kN, w1, .cons _ _ .nil⟩
  intro goalG intoG; rintro _ ⟨h₃, tk₃, m₃, vs, ep, rfl, F₃, N₃, v1, hs⟩; refine intoG ⟨h₃, s.gens, s.drawn, tk₃, s.os⟩ ?_; clear intoG goalG
  repeat walk1
  have hd6 : d = 0 ∨ d = 1 ∨ d = 2 ∨ d = 3 ∨ d = 4 ∨ d = 5 := by omega
  refine join_N N₃ (List.Mem.head _) hs (by decide) (by rcases hd6 with rfl | rfl | rfl | rfl | rfl | rfl <;> decide +kernel) ?_
  intro t' k'
  show qk (.ret (.str (flagsS d) t')) _
  repeat walk1
  (rename Fr h₀ _ _ _ => kF); (rename News h₀ _ _ _ => kN)
  exact hQ _ _ _ kF (newsSub kN (by walk_at "k_tl"))
end
theorem pat_of {K : Frag} {h : Heap} {pa tup : Addr} {fs items : Array Value} {n : Nat} {code : Array Nat} (X : K.In h) (h1 : K.lookup pa = some ⟨.type "re.Pattern", none, .fields fs, #[]⟩) (h2 : K.lookup tup = some ⟨.type "tuple", none, .seq items n, #[]⟩)
    (e5 : fs.getD 5 .none = .ref tup) (e6 : Builtin.Re.reRawNat (fs.getD 6 .none) = 0) (e2 : Builtin.Re.reRawNat (fs.getD 2 .none) = 0) (ec : (items.map Builtin.Re.reRawOf).map (·.toNat) = code) : PatAt h pa tup code ∧ ∀ o, h.get? pa = some o → o.dict = none :=
  ⟨⟨_, fs, _, n, items, X _ _ h1, rfl, rfl, e5, e6, e2, X _ _ h2, rfl, ec⟩, fun o e => by rw [X _ _ h1] at e; cases e; rfl⟩
theorem PatAt.up {h h' : Heap} {pa tup : Addr} {code : Array Nat} (P : PatAt h pa tup code) (k : ∀ b o, h.get? b = some o → h'.get? b = some o) : PatAt h' pa tup code := by
  obtain ⟨po, fs, to, n, items, hp, r1, r2, r3, r4, r5, ht, r⟩ := P
  exact ⟨po, fs, to, n, items, k _ _ hp, r1, r2, r3, r4, r5, k _ _ ht, r⟩
theorem nxt2_ok (T : Array Nat) : ∀ q, q < T.size → hit2 T q = true → q < nxt2 T q ∧ nxt2 T q ≤ T.size := by
  intro q h _
  unfold nxt2
  by_cases hc : (T.getD q 0 == 13 && (decide (q + 1 < T.size) && T.getD (q + 1) 0 == 10)) = true
  · rw [if_pos hc]
    simp only [Bool.and_eq_true, decide_eq_true_eq] at hc
    omega
  · rw [if_neg hc]; omega
theorem T_quote (B : Below A₀ base outer h₀) (F : Fr h₀ L s.heap m) (X₀ : (KF w.params).In h₀) (N : News h₀ L s.heap news) (T : Top p loose mean mg mb h₀) (hA : A.frames = some (env :: outer)) (hf : env.frame = some L) (hke : env.scope.kind = .function)
  (hroom : A.depth < 350) (hh : A.handled = none) (x : PySem.Str) (tkx : Tok) (mid out : List Nat) (hx : x.cps.size ≤ 1000) (hm : mid.length ≤ 2000) (ho : out.length ≤ 4000)
  (h2 : SubR x.cps (hit2 x.cps) (nxt2 x.cps) [13, 10] 0 mid) (h1 : SubR mid.toArray (hit1 mid.toArray) (fun q => q + 1) [46, 46] 0 out)
  (hQ : ∀ h' tk' t, Fr h₀ L h' m → News h₀ L h' news → Q (.str ⟨out.toArray⟩ t) { s with heap := h', toks := tk' }) :
  wpAny (model PySem.Challenge.rw_us0017_01.prog w) A (call (.ref 48) [.str x tkx]) Q E s := by
  revert X₀; k_fill; intro X₀
  refine wpAny_call ?_
  refine' code_def B F X₀ N T hA hf hke ?k6 ?k7 ?k8 ?k9 ?kB ?_ ?c2 ?c3 ?c4 ?c5; (case k6 => k_is); (case k7 => k_is); (case k8 => k_room); (case k9 => first | exact BindsTo.of_eq rfl | exact binds_K (by k_in) rfl (by k_is) rfl rfl rfl); (case c5 => decide); (case kB => exact locs rfl); (case c2 => exact rfl); (case c3 => exact rfl); (case c4 => exact rfl)
  intro g' L' h' FG' F' N' B' X' T'
  (try dsimp only)
  (try generalize s.toks + List.length _ = tk₀)
  (try k_fold)
  have p36 : PatAt g' 36 35 c1 ∧ ∀ o, g'.get? 36 = some o → o.dict = none := pat_of X' (by k_is) (by k_is) (by rfl) (by rfl) (by rfl) (by decide +kernel)
  have p41 : PatAt g' 41 40 c2 ∧ ∀ o, g'.get? 41 = some o → o.dict = none := pat_of X' (by k_is) (by k_is) (by rfl) (by rfl) (by rfl) (by decide +kernel)
  repeat walk1
  (rename Fr g' _ _ _ => kF)
  refine getMethod_pat (p36.1.up kF.keep) (fun o e => ?_) ?_
  · obtain ⟨po, _, _, _, _, hp, _⟩ := p36.1
    rw [kF.keep _ _ hp] at e; cases e; exact p36.2 _ hp
  repeat walk1
  refine getMethod_pat (p41.1.up kF.keep) (fun o e => ?_) ?_
  · obtain ⟨po, _, _, _, _, hp, _⟩ := p41.1
    have e' : h'.get? 41 = some o := e
    rw [kF.keep _ _ hp] at e'; cases e'; exact p41.2 _ hp
  repeat walk1
  refine sub_call (p41.1.up kF.keep) rfl (search2 x.cps) (nxt2_ok x.cps) (by omega) (by omega) (by decide +kernel) h2 ?_
  intro h₂ tk₂ t₂ k₂
  have F₂ := kF.keeps k₂
  have N₂ : News g' L' h₂ news := News.grown N' k₂
  clear kF
  repeat walk1
  refine sub_call (p36.1.up F₂.keep) rfl (search1 mid.toArray) (fun q hq _ => ⟨Nat.lt_succ_self q, hq⟩) (by simp; omega) (by omega) (by decide +kernel) h1 ?_
  intro h₃ tk₃ t₃ k₃
  have F₃ := F₂.keeps k₃
  have N₃ : News g' L' h₃ news := News.grown N₂ k₃
  clear F₂ N₂
  repeat walk1
  (rename Fr h₀ _ _ _ => kF); (rename News h₀ _ _ _ => kN)
  exact hQ _ _ _ kF kN
section
local macro_rules | `(tactic| walk_at "pad 0") => `(tactic| skip)
local macro_rules | `(tactic| walk_at "pad 1") => `(tactic| skip)
local macro_rules | `(tactic| walk_at "pad 2") => `(tactic| skip)
local macro_rules | `(tactic| walk_at "pad 3") => `(tactic| skip)
local macro_rules | `(tactic| walk_at "pad 4") => `(tactic| skip)
theorem bit63 : ∀ b : Nat, b < 64 → Builtin.bitAnd (b : Int) 63 = b := by decide +kernel
theorem bit64 : ∀ b : Nat, b < 64 → Builtin.bitAnd (b : Int) 64 = 0 := by decide +kernel
theorem bitor64 : ∀ b : Nat, b < 64 → Builtin.bitOr 64 (b : Int) = 64 + b := by decide +kernel
theorem UpdF.again {d : Addr} {o o' : Obj} {l : List (Addr × Obj)} {g : Obj → List (Addr × Obj)} (U : UpdF d o l g) : UpdF d o' (g o') g := by
  induction U with
  | head h => exact .head h
  | tail h _ ih => exact .tail h ih
theorem UpdF.memo {d : Addr} {o o' : Obj} {l : List (Addr × Obj)} {g : Obj → List (Addr × Obj)} (U : UpdF d o l g) {p : Addr × Obj} (hp : p ∈ l) (hne : p.1 ≠ d) : p ∈ g o' := by
  induction U with
  | head h => rcases List.mem_cons.mp hp with rfl | hp
              · exact absurd rfl hne
              · exact List.mem_cons_of_mem _ hp
  | tail h _ ih => rcases List.mem_cons.mp hp with rfl | hp
                   · exact List.mem_cons_self
                   · exact List.mem_cons_of_mem _ (ih hp)
theorem UpdF.self {d : Addr} {o : Obj} {l : List (Addr × Obj)} {g : Obj → List (Addr × Obj)} (U : UpdF d o l g) : (d, o) ∈ l := by
  induction U with
  | head h => exact List.mem_cons_self
  | tail h _ ih => exact List.mem_cons_of_mem _ ih
local macro_rules | `(tactic| walk_at "call builtin:next") => `(tactic| (refine Stop.go ?_))
theorem T_var1 {g : Obj → List (Addr × Obj)} (B : Below A₀ base outer h₀) (F : Fr h₀ L s.heap m) (X₀ : (KF w.params).In h₀) (N : News h₀ L s.heap news) (T : Top p loose mean mg mb h₀) (hA : A.frames = some (env :: outer)) (hf : env.frame = some L) (hke : env.scope.kind = .function)
  (hroom : A.depth < 360) (hh : A.handled = none) (a l : Addr) (o : Obj) (i n : Nat) (vs : List Value) (b : Nat) (t : Tok) (U : UpdF a o news g) (hi : LIt o l i) (hm : (l, PySem.W.listOf vs.toArray n) ∈ news) (hx : vs[i]? = some (.int b t)) (hb : b < 64)
  (hQ : ∀ h' tk' t o', Fr h₀ L h' m → News h₀ L h' (g o') → LIt o' l (i + 1) → Q (.int b t) { s with heap := h', toks := tk' }) :
  wpAny (model PySem.Challenge.rw_us0017_01.prog w) A (call (.ref 90) [.ref a]) Q E s := by
  revert X₀; k_fill; intro X₀
  refine wpAny_call ?_
  refine' code_def B F X₀ N T hA hf hke ?k6 ?k7 ?k8 ?k9 ?kB ?_ ?c2 ?c3 ?c4 ?c5; (case k6 => k_is); (case k7 => k_is); (case k8 => k_room); (case k9 => first | exact BindsTo.of_eq rfl | exact binds_K (by k_in) rfl (by k_is) rfl rfl rfl); (case c5 => decide); (case kB => exact locs rfl); (case c2 => exact rfl); (case c3 => exact rfl); (case c4 => exact rfl)
  intro g' L' h' FG' F' N' B' X' T'
  (try dsimp only)
  (try generalize s.toks + List.length _ = tk₀)
  (try k_fold)
  repeat walk1
  unfold Stop
  (rename Fr g' _ _ _ => kF); (rename News g' _ _ _ => kN)
  refine next_item kF kN U hi hm hx ?_
  intro h₂ o₂ F₂ N₂ hi₂
  repeat walk1
  unfold Stop
  (rename Fr g' _ _ _ => kF); (rename News g' _ _ _ => kN)
  refine While_J (fun n m₁ news₁ => news₁ = g o₂ ∧ (m₁ "b" = some (.int b t)) ∧ (∃ t, m₁ "val" = some (.int b t))) (n₀ := 0) kF kN ⟨rfl, rfl, intIs rfl (bit63 b hb)⟩ ?_
  rintro n m₁ news₁ h₁ tk₁ F₁ N₁ ⟨rfl, v1, ⟨t2, v2⟩⟩
  iterate 7 walk1
  · exact absurd (bit64 b hb) (by assumption)
  · dsimp only
    repeat walk1
    (rename Fr h₀ _ _ _ => kF); (rename News h₀ _ _ _ => kN)
    exact hQ _ _ _ _ kF kN hi₂
theorem T_var2 {g : Obj → List (Addr × Obj)} (B : Below A₀ base outer h₀) (F : Fr h₀ L s.heap m) (X₀ : (KF w.params).In h₀) (N : News h₀ L s.heap news) (T : Top p loose mean mg mb h₀) (hA : A.frames = some (env :: outer)) (hf : env.frame = some L) (hke : env.scope.kind = .function)
  (hroom : A.depth < 360) (hh : A.handled = none) (a l : Addr) (o : Obj) (i n : Nat) (vs : List Value) (b : Nat) (t t' : Tok) (U : UpdF a o news g) (hi : LIt o l i) (hm : (l, PySem.W.listOf vs.toArray n) ∈ news) (hx : vs[i]? = some (.int 65 t)) (hx2 : vs[i + 1]? = some (.int b t')) (hb : b < 64)
  (hQ : ∀ h' tk' t o', Fr h₀ L h' m → News h₀ L h' (g o') → LIt o' l (i + 2) → Q (.int (64 + b) t) { s with heap := h', toks := tk' }) :
  wpAny (model PySem.Challenge.rw_us0017_01.prog w) A (call (.ref 90) [.ref a]) Q E s := by
  have hla : l ≠ a := by
    rintro rfl
    have h1 := (N _ hm).1
    have h2 := (N _ (UpdF.self U)).1
    rw [h1] at h2
    have h3 := congrArg (fun o : Option Obj => o.map (·.cls)) h2
    simp [hi.1] at h3
  revert X₀; k_fill; intro X₀
  refine wpAny_call ?_
  refine' code_def B F X₀ N T hA hf hke ?k6 ?k7 ?k8 ?k9 ?kB ?_ ?c2 ?c3 ?c4 ?c5; (case k6 => k_is); (case k7 => k_is); (case k8 => k_room); (case k9 => first | exact BindsTo.of_eq rfl | exact binds_K (by k_in) rfl (by k_is) rfl rfl rfl); (case c5 => decide); (case kB => exact locs rfl); (case c2 => exact rfl); (case c3 => exact rfl); (case c4 => exact rfl)
  intro g' L' h' FG' F' N' B' X' T'
  (try dsimp only)
  (try generalize s.toks + List.length _ = tk₀)
  (try k_fold)
  repeat walk1
  unfold Stop
  (rename Fr g' _ _ _ => kF); (rename News g' _ _ _ => kN)
  refine next_item kF kN U hi hm hx ?_
  intro h₂ o₂ F₂ N₂ hi₂
  repeat walk1
  unfold Stop
  (rename Fr g' _ _ _ => kF); (rename News g' _ _ _ => kN)
  refine While_J (fun n m₁ news₁ => (n = 1 ∧ news₁ = g o₂ ∧ (∃ t, m₁ "b" = some (.int 65 t)) ∧ (∃ t, m₁ "val" = some (.int 1 t)) ∧ m₁ "iterator" = some (.ref a)) ∨ (n = 0 ∧ (∃ o₃, news₁ = g o₃ ∧ LIt o₃ l (i + 2)) ∧ (∃ t, m₁ "b" = some (.int b t)) ∧ (∃ t, m₁ "val" = some (.int (64 + b) t)))) (n₀ := 1) kF kN (.inl ⟨rfl, rfl, ⟨_, rfl⟩, intIs rfl (by rfl), rfl⟩) ?_
  rintro n m₁ news₁ h₁ tk₁ F₁ N₁ (⟨rfl, rfl, ⟨t1, v1⟩, ⟨t2, v2⟩, v3⟩ | ⟨rfl, ⟨o₃, rfl, hi₃⟩, ⟨t1, v1⟩, ⟨t2, v2⟩⟩)
  · iterate 7 walk1
    · repeat walk1
      unfold Stop
      (rename Fr g' _ _ _ => kF); (rename News g' _ _ _ => kN)
      refine next_item kF kN (UpdF.again U) hi₂ (UpdF.memo U hm hla) hx2 ?_
      intro h₃ o₃ F₃ N₃ hi₃
      repeat walk1
      (rename Fr g' _ _ _ => kF); (rename News g' _ _ _ => kN)
      dsimp only [WhileStep2]
      exact ⟨_, _, _, _, 0, rfl, kF, kN, by omega, .inr ⟨rfl, ⟨o₃, rfl, hi₃⟩, ⟨_, rfl⟩, intIs rfl (by rw [bit63 b hb]; exact bitor64 b hb)⟩⟩
  · iterate 7 walk1
    · exact absurd (bit64 b hb) (by assumption)
    · dsimp only
      repeat walk1
      (rename Fr h₀ _ _ _ => kF); (rename News h₀ _ _ _ => kN)
      exact hQ _ _ _ _ kF kN hi₃
theorem T_varE {g : Obj → List (Addr × Obj)} (B : Below A₀ base outer h₀) (F : Fr h₀ L s.heap m) (X₀ : (KF w.params).In h₀) (N : News h₀ L s.heap news) (T : Top p loose mean mg mb h₀) (hA : A.frames = some (env :: outer)) (hf : env.frame = some L) (hke : env.scope.kind = .function)
  (hroom : A.depth < 360) (hh : A.handled = none) (a l : Addr) (o : Obj) (i n : Nat) (vs : List Value) (U : UpdF a o news g) (hi : LIt o l i) (hm : (l, PySem.W.listOf vs.toArray n) ∈ news) (hx : vs[i]? = none)
  (hE : ∀ h' g₁ tk' o' e t, Fr h₀ L g₁ m → RaisedS base g₁ (env :: outer) e (.type "StopIteration") t [] (g o') h' → Heap.UpToSlots g₁ h' → E (.ref e) { s with heap := h', toks := tk' }) :
  wpAny (model PySem.Challenge.rw_us0017_01.prog w) A (call (.ref 90) [.ref a]) Q E s := by
  revert X₀; k_fill; intro X₀
  refine wpAny_call ?_
  refine' code_def B F X₀ N T hA hf hke ?k6 ?k7 ?k8 ?k9 ?kB ?_ ?c2 ?c3 ?c4 ?c5; (case k6 => k_is); (case k7 => k_is); (case k8 => k_room); (case k9 => first | exact BindsTo.of_eq rfl | exact binds_K (by k_in) rfl (by k_is) rfl rfl rfl); (case c5 => decide); (case kB => exact locs rfl); (case c2 => exact rfl); (case c3 => exact rfl); (case c4 => exact rfl)
  intro g' L' h' FG' F' N' B' X' T'
  (try dsimp only)
  (try generalize s.toks + List.length _ = tk₀)
  (try k_fold)
  repeat walk1
  unfold Stop
  (rename Fr g' _ _ _ => kF); (rename News g' _ _ _ => kN)
  refine next_end hh kF kN U hi hm hx ?_
  intro h₁ o₁ h₂ e F₁ N₁ hx
  refine leave_raiseS B' hx F₁ N₁ ?_
  intro h₃ t R _ up
  exact hE h₃ g' _ o₁ e t FG' R up
end
section
local macro_rules | `(tactic| walk_at "pad 0") => `(tactic| skip)
local macro_rules | `(tactic| walk_at "pad 1") => `(tactic| skip)
local macro_rules | `(tactic| walk_at "pad 2") => `(tactic| skip)
local macro_rules | `(tactic| walk_at "pad 3") => `(tactic| skip)
local macro_rules | `(tactic| walk_at "pad 4") => `(tactic| skip)
local macro_rules | `(tactic| walk_at "pad 5") => `(tactic| skip)
local macro_rules | `(tactic| walk_at "pad 6") => `(tactic| skip)
noncomputable def encI (it : Nat × List Nat) : List Int := if it.1 = 0 then 0 :: (it.2.length : Int) :: it.2.flatMap (fun c => [65, ((c - 64 : Nat) : Int)]) else [(it.1 : Int)]
noncomputable def encT (it : Nat × List Nat) : List Int := if it.1 = 0 then (it.2.length : Int) :: it.2.flatMap (fun c => [65, ((c - 64 : Nat) : Int)]) else []
theorem encI_head (it : Nat × List Nat) : encI it = (it.1 : Int) :: encT it := by
  unfold encI encT
  by_cases h : it.1 = 0 <;> simp [h]
noncomputable def encL (l : List (Nat × List Nat)) : List Int := l.flatMap encI
noncomputable def tellS (st : List PySem.Str) (it : Nat × List Nat) : PySem.Str := if it.1 = 0 then ⟨it.2.toArray⟩ else st.getD (it.1 - 1) ""
noncomputable def restS (st : List PySem.Str) (it : Nat × List Nat) : List PySem.Str := if it.1 = 0 then st else st.eraseIdx (it.1 - 1)
noncomputable def hrd : List PySem.Str → List (Nat × List Nat) → List PySem.Str
  | _, [] => []
  | st, it :: r => tellS st it :: hrd (tellS st it :: restS st it) r
noncomputable def OkI : List PySem.Str → List (Nat × List Nat) → Prop
  | _, [] => True
  | st, it :: r => (it.1 ≤ st.length ∧ it.1 < 64 ∧ it.2.length < 64 ∧ ∀ c ∈ it.2, 64 ≤ c ∧ c < 128) ∧ OkI (tellS st it :: restS st it) r
theorem ints_next {vs : List Value} {i : Nat} {x : Int} {r : List Int} (h : IntsAre (vs.drop i) (x :: r)) : ∃ t, vs[i]? = some (.int x t) ∧ IntsAre (vs.drop (i + 1)) r := by
  generalize hd : vs.drop i = d at h
  cases h with
  | cons _ t h =>
    refine ⟨t, ?_, ?_⟩
    · rw [show vs[i]? = (vs.drop i)[0]? by simp, hd]; rfl
    · rw [← List.drop_drop, hd]; exact h
theorem ints_out {vs : List Value} {i : Nat} (h : IntsAre (vs.drop i) []) : vs[i]? = none := by
  generalize hd : vs.drop i = d at h
  cases h
  rw [show vs[i]? = (vs.drop i)[0]? by simp, hd]; rfl
local macro_rules | `(tactic| walk_at "exec Try") => `(tactic| (refine Stop.go ?_))
theorem kl_cut_at : ∀ (l : List Value) (k : Nat) (h : k < l.length), kl_cut l k = some (l.take k, l[k], l.drop (k + 1))
  | x :: r, 0, _ => rfl
  | x :: r, k + 1, h => by
    unfold kl_cut
    rw [kl_cut_at r k (by simpa using h)]; rfl
theorem strs_at : ∀ {vs : List Value} {ys : List PySem.Str} (h : StrsAre vs ys) (k : Nat) (hk : k < vs.length), ∃ t, vs[k] = .str (ys.getD k "") t
  | _, _, .cons y t h, 0, _ => ⟨t, rfl⟩
  | _, _, .cons y t h, k + 1, hk => by
    obtain ⟨t', e⟩ := strs_at h k (by simpa using hk)
    exact ⟨t', by simpa using e⟩
theorem strs_erase : ∀ {vs : List Value} {ys : List PySem.Str} (h : StrsAre vs ys) (k : Nat), StrsAre (vs.take k ++ vs.drop (k + 1)) (ys.eraseIdx k)
  | _, _, .nil, k => by simp; exact .nil
  | _, _, .cons y t h, 0 => by simpa using h
  | _, _, .cons y t h, k + 1 => by simpa using StrsAre.cons y t (strs_erase h k)
theorem seqIndex_nat {k n : Nat} (h : k < n) : seqIndex? (k : Int) n = some k := by
  unfold seqIndex?
  have h1 : ¬ ((k : Int) < 0) := by omega
  have h2 : (k : Int) < n := by omega
  simp [h1, h2]
theorem notTuple_stop : isSubtype (.type ((Manifest.find? "StopIteration").elim "type" fun x => x.metatype)) (.type "tuple") = pure false := by
  rw [show ((Manifest.find? "StopIteration").elim "type" fun x => x.metatype) = "type" from by kernel_rfl, isSubtype_type]; kernel_rfl
theorem T_heard (B : Below A₀ base [] h₀) (F : Fr h₀ L s.heap m) (X₀ : (KF w.params).In h₀) (N : News h₀ L s.heap news) (T : Top p loose mean mg mb h₀) (hA : A.frames = some [env]) (hf : env.frame = some L) (hke : env.scope.kind = .function)
  (hroom : A.depth < 350) (hh : A.handled = none) (XB : (KF w.params).In base) (TB : Top p loose mean mg mb base) (lo : Addr) (no : Nat) (vs : List Value) (items : List (Nat × List Nat)) (hm : (lo, PySem.W.listOf vs.toArray no) ∈ news) (hi : IntsAre vs (encL items)) (ok : OkI [] items) (hlen : items.length ≤ 64)
  (hQ : ∀ h' tk' l ws e, Fr h₀ L h' m → News h₀ L h' ((l, PySem.W.listOf ws.toArray e) :: news) → StrsAre ws (hrd [] items) → Q (.ref l) { s with heap := h', toks := tk' }) :
  wpAny (model PySem.Challenge.rw_us0017_01.prog w) A (call (.ref 180) [.ref lo]) Q E s := by
  revert X₀; k_fill; intro X₀
  refine wpAny_call ?_
  refine' code_defX0 B F X₀ N T hA hf hke ?k6 ?k7 ?k8 ?k9 ?kB ?_ ?c2 ?c3 ?c4 ?c5; (case k6 => k_is); (case k7 => k_is); (case k8 => k_room); (case k9 => first | exact BindsTo.of_eq rfl | exact binds_K (by k_in) rfl (by k_is) rfl rfl rfl); (case c5 => decide); (case kB => exact locs rfl); (case c2 => exact rfl); (case c3 => exact rfl); (case c4 => exact rfl)
  intro g' L' h' FG' F' N' B' X' T' D'
  (try dsimp only)
  (try generalize s.toks + List.length _ = tk₀)
  (try k_fold)
  refine cutK_5_5 (?_ : wpAny _ _ _ (CutEnd (fun s' => ∃ h₂ tk₂ m₂ I o, s' = { s with heap := h₂, toks := tk₂ } ∧ Fr g' L' h₂ m₂ ∧ News g' L' h₂ ((I, o) :: news) ∧ (∀ p ∈ news, p.1 < I) ∧ LIt o lo 0 ∧ m₂ "feed" = some (.ref I))) _ _) ?_
  · repeat walk1
    refine iter_list (by assumption) (by assumption) hm ?_
    intro I h₂ o F₂ N₂ hI hit
    repeat walk1
    (rename Fr _ _ _ _ => kF); (rename News _ _ _ _ => kN)
    exact ⟨rfl, _, _, _, _, _, rfl, kF, kN, hI, hit, rfl⟩
  intro h₂ tk₂ m₂ I o F₂ N₂ hI hit v1
  clear F' N'
  with_reducible refine cutK_4_5 (?_ : wpAny _ _ _ (CutEnd (fun s' => ∃ h₃ tk₃ m₃ ls, s' = { s with heap := h₃, toks := tk₃ } ∧ Fr g' L' h₃ m₃ ∧ News g' L' h₃ ((ls, PySem.W.listOf #[] 0) :: (I, o) :: news) ∧ @LT.lt Nat _ I ls ∧ m₃ "feed" = some (.ref I) ∧ m₃ "stack" = some (.ref ls))) _ _) ?_
  · repeat walk1
    (rename Fr _ _ _ _ => kF); (rename News _ _ _ _ => kN)
    exact ⟨rfl, _, _, _, _, rfl, kF, kN, by first | omega | exact (by assumption : ∀ p ∈ (I, o) :: news, p.1 < _) _ (.head _), v1, rfl⟩
  intro h₃ tk₃ m₃ ls F₃ N₃ hls v1 v2
  clear F₂ N₂
  with_reducible refine cutK_4_6 (?_ : wpAny _ _ _ (CutEnd (fun s' => ∃ h₃ tk₃ m₃ lh, s' = { s with heap := h₃, toks := tk₃ } ∧ Fr g' L' h₃ m₃ ∧ News g' L' h₃ ((lh, PySem.W.listOf #[] 0) :: (ls, PySem.W.listOf #[] 0) :: (I, o) :: news) ∧ @LT.lt Nat _ ls lh ∧ m₃ "feed" = some (.ref I) ∧ m₃ "stack" = some (.ref ls) ∧ m₃ "heard" = some (.ref lh))) _ _) ?_
  · repeat walk1
    (rename Fr _ _ _ _ => kF); (rename News _ _ _ _ => kN)
    exact ⟨rfl, _, _, _, _, rfl, kF, kN, by first | omega | exact (by assumption : ∀ p ∈ (ls, _) :: (I, o) :: news, p.1 < _) _ (.head _), v1, v2, rfl⟩
  intro h₄ tk₄ m₄ lh F₄ N₄ hlh v1 v2 v3
  clear F₃ N₃
  have hnI : ∀ p ∈ news, p.1 ≠ I := fun p hp => Nat.ne_of_lt (hI p hp)
  have hns : ∀ p ∈ news, p.1 < ls := fun p hp => Nat.lt_trans (hI p hp) hls
  have hnh : ∀ p ∈ news, p.1 < lh := fun p hp => Nat.lt_trans (hns p hp) hlh
  have hIh : @LT.lt Nat _ I lh := Nat.lt_trans hls hlh
  have upd : ∀ (o : Obj) (a b : Obj), UpdF I o ((lh, a) :: (ls, b) :: (I, o) :: news) (fun o' => (lh, a) :: (ls, b) :: (I, o') :: news) := fun o a b => .tail (Nat.ne_of_gt hIh) (.tail (Nat.ne_of_gt hls) (.head hnI))
  repeat walk1
  unfold Stop
  refine wpAny_Try_except ?_
  repeat walk1
  unfold Stop
  (rename Fr _ _ _ _ => kF); (rename News _ _ _ _ => kN)
  refine While_X (n₀ := items.length) (fun n m₁ news₁ => ∃ i rest st hd sv hv o es eh, n = rest.length ∧ news₁ = (lh, PySem.W.listOf hv.toArray eh) :: (ls, PySem.W.listOf sv.toArray es) :: (I, o) :: news ∧ LIt o lo i ∧ IntsAre (vs.drop i) (encL rest) ∧ StrsAre sv st ∧ StrsAre hv hd ∧ OkI st rest ∧ hd ++ hrd st rest = hrd [] items ∧ st.length ≤ hd.length ∧ hd.length + rest.length = items.length ∧ m₁ "feed" = some (.ref I) ∧ m₁ "stack" = some (.ref ls) ∧ m₁ "heard" = some (.ref lh)) kF kN ⟨0, items, [], [], [], [], o, 0, 0, rfl, rfl, hit, hi, .nil, .nil, ok, rfl, Nat.le_refl _, by simp, v1, v2, v3⟩ ?_
  rintro n m₁ news₁ h₁ tk₁ F₁ N₁ inv; refine hide ?_; intro goalG intoG; obtain inv := inv; refine intoG ?_; clear intoG goalG; refine hide ?_; intro goalG intoG; obtain ⟨i, rest, st, hd, sv, hv, o, es, eh, rfl, rfl, hit, hin, hst, hhd, okr, htot, hsl, hhl, w1, w2, w3⟩ := inv; refine intoG ?_; clear intoG goalG
  clear kF kN
  iterate 4 walk1
  cases rest with
  | nil =>
    repeat walk1
    (rename Fr g' _ _ _ => kF); (rename News g' _ _ _ => kN)
    refine T_varE B' kF X' kN T' (frDeeper hA) rfl rfl (Nat.lt_trans (roomDeeper hroom) (by decide)) hh I lo o i no vs (upd o _ _) hit (.tail _ (.tail _ (.tail _ hm))) (ints_out hin) ?_
    intro h' g₁ tk' o' e t FG R up
    refine caught_W (T' := "StopIteration") R FG B' up XB TB D' (by k_is) PyProof.Rows.Boot.«StopIteration» (by decide) (by rw [isSubtype_type]; kernel_rfl) notTuple_stop (by rw [isSubtype_type]; kernel_rfl) ?_
    intro h₅ g₅ T₅ F₅ N₅ B₅ X₅ P₅
    repeat walk1
    (rename Fr h₀ _ _ _ => kF); (rename News h₀ _ _ _ => kN)
    refine hQ _ _ _ hv eh kF (newsSub kN ?_) ?_
    · intro p hp
      rcases List.mem_cons.mp hp with rfl | hp
      · exact .head _
      · exact .tail _ (.tail _ (.tail _ hp))
    · rw [← htot]; simpa [hrd] using hhd
  | cons it r =>
    obtain ⟨⟨ok1, ok2, ok3, ok4⟩, okr'⟩ := okr
    obtain ⟨dt, cs⟩ := it
    dsimp only at ok1 ok2 ok3 ok4
    obtain ⟨t0, hx0, hin1⟩ : ∃ t, vs[i]? = some (.int (dt : Nat) t) ∧ IntsAre (vs.drop (i + 1)) (encT (dt, cs) ++ encL r) := ints_next (by
      have e : encL ((dt, cs) :: r) = (dt : Int) :: (encT (dt, cs) ++ encL r) := by
        show encI (dt, cs) ++ encL r = _
        rw [encI_head]; rfl
      rw [← e]; exact hin)
    with_reducible refine cutK_5_7 (?_ : wpAny _ _ _ (CutEnd (fun s' => ∃ h₂ tk₂ m₂ o₂ t, s' = { s with heap := h₂, toks := tk₂ } ∧ Fr g' L' h₂ m₂ ∧ News g' L' h₂ ((lh, PySem.W.listOf hv.toArray eh) :: (ls, PySem.W.listOf sv.toArray es) :: (I, o₂) :: news) ∧ LIt o₂ lo (i + 1) ∧ m₂ "depth" = some (.int dt t) ∧ m₂ "feed" = some (.ref I) ∧ m₂ "stack" = some (.ref ls) ∧ m₂ "heard" = some (.ref lh))) _ _) ?_
    · repeat walk1
      (rename Fr g' _ _ _ => kF); (rename News g' _ _ _ => kN)
      refine T_var1 B' kF X' kN T' (frDeeper hA) rfl rfl (Nat.lt_trans (roomDeeper hroom) (by decide)) hh I lo o i no vs dt t0 (upd o _ _) hit (.tail _ (.tail _ (.tail _ hm))) hx0 ok2 ?_
      intro h₂ tk₂ t₂ o₂ F₂ N₂ hit₂
      repeat walk1
      (rename Fr g' _ _ _ => kF); (rename News g' _ _ _ => kN)
      exact ⟨rfl, _, _, _, _, _, rfl, kF, kN, hit₂, rfl, w1, w2, w3⟩
    intro h₂ tk₂ m₂ o₂ t₂ F₂ N₂ hit₂ u0 u1 u2 u3
    clear F₁ N₁
    with_reducible refine cutK_4_7 (?_ : wpAny _ _ _ (CutEnd (fun s' => ∃ h₂ tk₂ m₂ t, s' = { s with heap := h₂, toks := tk₂ } ∧ Fr g' L' h₂ m₂ ∧ News g' L' h₂ ((lh, PySem.W.listOf hv.toArray eh) :: (ls, PySem.W.listOf sv.toArray es) :: (I, o₂) :: news) ∧ m₂ "told" = some (.str "" t) ∧ m₂ "depth" = some (.int dt t₂) ∧ m₂ "feed" = some (.ref I) ∧ m₂ "stack" = some (.ref ls) ∧ m₂ "heard" = some (.ref lh))) _ _) ?_
    · repeat walk1
      (rename Fr g' _ _ _ => kF); (rename News g' _ _ _ => kN)
      exact ⟨rfl, _, _, _, _, rfl, kF, kN, rfl, u0, u1, u2, u3⟩
    intro h₃ tk₃ m₃ t₃ F₃ N₃ u4 u0 u1 u2 u3
    clear F₂ N₂
    with_reducible refine cutK_8_9 (?_ : wpAny _ _ _ (CutEnd (fun s' => ∃ h₂ tk₂ m₂ o₂ i' sv' es' t, s' = { s with heap := h₂, toks := tk₂ } ∧ Fr g' L' h₂ m₂ ∧ News g' L' h₂ ((lh, PySem.W.listOf hv.toArray eh) :: (ls, PySem.W.listOf sv'.toArray es') :: (I, o₂) :: news) ∧ LIt o₂ lo i' ∧ IntsAre (vs.drop i') (encL r) ∧ StrsAre sv' (restS st (dt, cs)) ∧ m₂ "told" = some (.str (tellS st (dt, cs)) t) ∧ m₂ "feed" = some (.ref I) ∧ m₂ "stack" = some (.ref ls) ∧ m₂ "heard" = some (.ref lh))) _ _) ?_
    · by_cases hd0 : dt = 0
      · subst hd0
        obtain ⟨t5, hx1, hin2⟩ : ∃ t, vs[i + 1]? = some (.int (cs.length : Nat) t) ∧ IntsAre (vs.drop (i + 2)) (cs.flatMap (fun c => [65, ((c - 64 : Nat) : Int)]) ++ encL r) := ints_next hin1
        repeat walk1
        unfold Stop
        refine For_cut ?_
        repeat walk1
        (rename Fr g' _ _ _ => kF); (rename News g' _ _ _ => kN)
        refine T_var1 B' kF X' kN T' (frDeeper hA) rfl rfl (Nat.lt_trans (roomDeeper hroom) (by decide)) hh I lo o₂ (i + 1) no vs cs.length t5 (upd o₂ _ _) hit₂ (.tail _ (.tail _ (.tail _ hm))) hx1 ok3 ?_
        intro h₄ tk₄ t₄ o₄ F₄ N₄ hit₄
        repeat walk1
        (rename Fr g' _ _ _ => kF); (rename News g' _ _ _ => kN)
        refine ForRun.range (n := cs.length) (fun k m₁ news₁ => ∃ o₅, news₁ = (lh, PySem.W.listOf hv.toArray eh) :: (ls, PySem.W.listOf sv.toArray es) :: (I, o₅) :: news ∧ LIt o₅ lo (i + 2 + 2 * k) ∧ IntsAre (vs.drop (i + 2 + 2 * k)) ((cs.drop k).flatMap (fun c => [65, ((c - 64 : Nat) : Int)]) ++ encL r) ∧ (∃ t, m₁ "told" = some (.str ⟨(cs.take k).toArray⟩ t)) ∧ m₁ "feed" = some (.ref I) ∧ m₁ "stack" = some (.ref ls) ∧ m₁ "heard" = some (.ref lh)) hh letGo_Name (by assumption) (small_one (by decide) (by decide) (by omega) (by omega)) (by rw [rangeSize_nat]; omega) kF kN ⟨o₄, rfl, hit₄, hin2, ⟨_, u4⟩, u1, u2, u3⟩ ?_ ?_
        · clear kF kN
          rintro k t II m₁ news₁ oII h₅ tk₅ hk inv F₅ N₅ off; refine hide ?_; intro goalG intoG; obtain ⟨o₅, rfl, hit₅, hin₅, ⟨t₅, x4⟩, x1, x2, x3⟩ := inv; refine intoG ?_; clear intoG goalG
          have hII : @Ne Nat I II := off (I, o₅) (.tail _ (.tail _ (.head _)))
          have ecs : cs.drop k = cs[k] :: cs.drop (k + 1) := List.drop_eq_getElem_cons hk
          have hc := ok4 cs[k] (List.getElem_mem _)
          rw [ecs, List.flatMap_cons] at hin₅
          obtain ⟨t6, hx6, hin6⟩ := ints_next hin₅
          obtain ⟨t7, hx7, hin7⟩ := ints_next hin6
          repeat walk1
          (rename Fr g' _ _ _ => kF); (rename News g' _ _ _ => kN)
          refine T_var2 B' kF X' kN T' (frDeeper hA) rfl rfl (Nat.lt_trans (roomDeeper hroom) (by decide)) hh I lo o₅ _ no vs (cs[k] - 64) t6 t7 (.tail (Ne.symm hII) (upd o₅ _ _)) hit₅ (.tail _ (.tail _ (.tail _ (.tail _ hm)))) hx6 hx7 (by omega) ?_
          intro h₆ tk₆ t₈ o₆ F₆ N₆ hit₆
          repeat walk1
          refine SBL.add (hsz := ?_) ?_
          rotate_left
          · show (List.take k cs).toArray.size + 1 ≤ sizeLine
            rw [sizeLine_eq, List.size_toArray, List.length_take]; omega
          intro t9 k9 _
          repeat walk1
          (rename Fr g' _ _ _ => kF); (rename News g' _ _ _ => kN)
          refine TurnJ.intro kF kN _ (List.Mem.head _) (fun p hp => List.Mem.tail _ hp) ?_ ⟨o₆, rfl, hit₆, hin7, strIs rfl ?_, x1, x2, x3⟩
          · intro p hp
            rcases List.mem_cons.mp hp with rfl | hp
            · exact off (lh, PySem.W.listOf hv.toArray eh) (.head _)
            rcases List.mem_cons.mp hp with rfl | hp
            · exact off (ls, PySem.W.listOf sv.toArray es) (.tail _ (.head _))
            rcases List.mem_cons.mp hp with rfl | hp
            · exact hII
            · exact off _ (.tail _ (.tail _ (.tail _ hp)))
          · have e1 : ((64 : Int) + ((cs[k] - 64 : Nat) : Int)).toNat = cs[k] := by omega
            rw [e1]
            show (⟨(List.take k cs).toArray ++ #[cs[k]]⟩ : PySem.Str) = ⟨(List.take (k + 1) cs).toArray⟩
            rw [List.take_succ_eq_append_getElem hk]
            simp
        · clear kF kN
          rintro h₅ tk₅ m₁ news₁ F₅ N₅ inv; refine hide ?_; intro goalG intoG; obtain ⟨o₅, rfl, hit₅, hin₅, ⟨t₅, x4⟩, x1, x2, x3⟩ := inv; refine intoG ?_; clear intoG goalG
          repeat walk1
          (rename Fr g' _ _ _ => kF); (rename News g' _ _ _ => kN)
          rw [List.drop_length] at hin₅
          rw [List.take_length] at x4
          refine ⟨rfl, _, _, _, o₅, _, sv, es, t₅, rfl, kF, kN, hit₅, hin₅, ?_, ?_, x1, x2, x3⟩
          · exact hst
          · exact x4
      · have hk : dt - 1 < sv.length := by rw [hst.length]; omega
        repeat walk1
        (rename Fr g' _ _ _ => kF); (rename News g' _ _ _ => kN)
        have hk1 : ((dt : Int) - 1) = ((dt - 1 : Nat) : Int) := by omega
        rw [hk1]
        refine kl_popAt kF kN (by simp [Builtin.List.listFitsIndex]; omega) (k := dt - 1) ?_ (kl_cut_at sv (dt - 1) hk) (Upd.tail (Nat.ne_of_gt hlh) (Upd.head ?_)) ?_ ?_
        · rw [List.size_toArray]; exact seqIndex_nat hk
        · intro p hp
          rcases List.mem_cons.mp hp with rfl | hp
          · exact Nat.ne_of_lt hls
          · exact Nat.ne_of_lt (hns p hp)
        · have := hst.length
          show sv.length ≤ sizeLine
          rw [sizeLine_eq]; omega
        obtain ⟨t6, e6⟩ := strs_at hst (dt - 1) hk
        rw [e6]
        intro h₅ F₅ N₅
        clear kF kN
        repeat walk1
        (rename Fr g' _ _ _ => kF); (rename News g' _ _ _ => kN)
        refine ⟨rfl, _, _, _, o₂, i + 1, _, _, t6, rfl, kF, kN, hit₂, ?_, ?_, ?_, u1, u2, u3⟩
        · simpa [encT, hd0] using hin1
        · show StrsAre _ (if dt = 0 then st else st.eraseIdx (dt - 1))
          rw [if_neg hd0]
          exact strs_erase hst (dt - 1)
        · show some _ = _
          simp only [tellS, if_neg hd0]
    intro h₄ tk₄ m₄' o₄ i' sv' es' t₄ F₄ N₄ hit₄ hin₄ hst₄ u4 u1 u2 u3
    clear F₃ N₃
    repeat walk1
    (rename Fr g' _ _ _ => kF); (rename News g' _ _ _ => kN)
    have hsv := hst₄.length
    have hhv := hhd.length
    have hr1 : (restS st (dt, cs)).length ≤ st.length := by
      unfold restS
      split
      · exact Nat.le_refl _
      · rw [List.length_eraseIdx]; split <;> omega
    simp only [List.length_cons] at hhl
    refine kl_insert (l := .str (tellS st (dt, cs)) t₄ :: sv') kF kN (by decide) (by simp [kl_ins]) (Upd.tail (Nat.ne_of_gt hlh) (Upd.head (by
      intro p hp
      rcases List.mem_cons.mp hp with rfl | hp
      · exact Nat.ne_of_lt hls
      · exact Nat.ne_of_lt (hns p hp)))) (by show sv'.length ≤ sizeLine; rw [sizeLine_eq]; omega) ?_
    intro h₅ F₅ N₅
    clear kF kN
    repeat walk1
    (rename Fr g' _ _ _ => kF); (rename News g' _ _ _ => kN)
    dsimp only [WhileStep2]
    refine ⟨_, _, _, _, r.length, rfl, kF, kN, by simp, i', r, tellS st (dt, cs) :: restS st (dt, cs), hd ++ [tellS st (dt, cs)], .str (tellS st (dt, cs)) t₄ :: sv', hv ++ [.str (tellS st (dt, cs)) t₄], o₄, es' + 1, eh + 1, rfl, ?_, hit₄, hin₄, .cons _ _ hst₄, StrsAre.snoc hhd _ _, okr', ?_, ?_, ?_, u1, u2, u3⟩
    · rw [List.push_toArray]
    · rw [← htot]; simp [hrd]
    · simp; omega
    · simp; omega
end
section
local macro_rules | `(tactic| walk_at "eval Name") => `(tactic| (k_here; k_dflt (first
  | (refine' nameX_L ?k1 ?k2 ?_ ?a ?b ?c; (case a => rfl); (case b => rfl); (case c => decide); (case k1 => k_asm); (case k2 => assumption); k_whole)
  | (refine' nameX_C ?N ?hc ?hm ?hd ?_ ?a ?b ?c; (case a => rfl); (case b => rfl); (case c => decide); (case N => k_asm); (case hc => rfl); (case hm => walk_at "m_mem"); (case hd => assumption); k_whole))))
local macro_rules | `(tactic| walk_at "eval Name") => `(tactic| (k_here; (with_reducible show wpAny _ _ (eval (Expr.Name _ _) (compEnvC _ _ _ _)) _ _ _); k_dflt (first | refine kcf_cell (by k_asm) (by rfl) (by k_mem) (by k_asm) ?_ | refine LCgL.ld_own (by k_asm) (by k_mem) (by assumption) (by assumption) ?_ | refine LCgL.ld_global (by k_asm) (by k_asm) (by k_asm) (by k_is) ?_ | refine LCgL.ld_built (by k_asm) (by k_asm) (by k_asm) (by k_is) (by boot_by_name) (by decide) ?_)))
theorem law_unpack {K : Frag} {name name₂ qual qual₂ : PySem.Str} {params params₂ : Arguments} {body body₂ : List PySem.Stmt} {scope scope₂ : Scope} {dV kV doc pm cdv ct oc dV₂ kV₂ doc₂ pm₂ cdv₂ ct₂ oc₂ : Value} {an od an₂ od₂ : Option Addr} {osl osl₂ : Array (Option Value)} {P : List PySem.Stmt → Scope → PySem.Str → Value → Prop}
    (e : K.lookup 185 = some ⟨oc, od, .func (fnOf name qual params body scope dV kV doc pm an cdv ct), osl⟩) (hK : K.lookup 185 = some ⟨oc₂, od₂, .func (fnOf name₂ qual₂ params₂ body₂ scope₂ dV₂ kV₂ doc₂ pm₂ an₂ cdv₂ ct₂), osl₂⟩) (h : P body scope qual cdv) : P body₂ scope₂ qual₂ cdv₂ := by
  cases e.symm.trans hK
  exact h
section
variable {K : Frag} {name qual : PySem.Str} {params : Arguments} {body : List PySem.Stmt} {scope : Scope} {dV kV doc pm cdv ct oc : Value} {an od : Option Addr} {osl : Array (Option Value)}
noncomputable def getBody (_ : K.lookup 185 = some ⟨oc, od, .func (fnOf name qual params body scope dV kV doc pm an cdv ct), osl⟩) : List PySem.Stmt := body
noncomputable def getScope (_ : K.lookup 185 = some ⟨oc, od, .func (fnOf name qual params body scope dV kV doc pm an cdv ct), osl⟩) : Scope := scope
noncomputable def getQual (_ : K.lookup 185 = some ⟨oc, od, .func (fnOf name qual params body scope dV kV doc pm an cdv ct), osl⟩) : PySem.Str := qual
noncomputable def getCd (_ : K.lookup 185 = some ⟨oc, od, .func (fnOf name qual params body scope dV kV doc pm an cdv ct), osl⟩) : Value := cdv
end
theorem warm {w : World} {h : Heap} (X : (KF w.params).In h) : PySem.Challenge.rw_us0017_01.prog = PySem.Challenge.rw_us0017_01.prog := by
  revert X; k_fill; intro _; rfl
noncomputable def lawL (P : Params) : List PySem.Stmt := getBody (K := KF P) (by k_is)
noncomputable def lawS (P : Params) : Scope := getScope (K := KF P) (by k_is)
noncomputable def lawQ (P : Params) : PySem.Str := getQual (K := KF P) (by k_is)
noncomputable def lawC (P : Params) : Value := getCd (K := KF P) (by k_is)
theorem law_at (P : Params) : ∃ oc od name params dV kV doc pm an ct osl, (KF P).lookup 185 = some ⟨oc, od, .func (fnOf name (lawQ P) params (lawL P) (lawS P) dV kV doc pm an (lawC P) ct), osl⟩ :=
  ⟨_, _, _, _, _, _, _, _, _, _, _, by dsimp only [lawQ, lawL, lawS, lawC, getBody, getScope, getQual, getCd]; k_is⟩
theorem law_unpackL {w : World} {name₂ qual₂ : PySem.Str} {params₂ : Arguments} {body₂ : List PySem.Stmt} {scope₂ : Scope} {dV₂ kV₂ doc₂ pm₂ cdv₂ ct₂ oc₂ : Value} {an₂ od₂ : Option Addr} {osl₂ : Array (Option Value)} {P : List PySem.Stmt → Scope → PySem.Str → Value → Prop}
    (hK : (KF w.params).lookup 185 = some ⟨oc₂, od₂, .func (fnOf name₂ qual₂ params₂ body₂ scope₂ dV₂ kV₂ doc₂ pm₂ an₂ cdv₂ ct₂), osl₂⟩) (h : P (lawL w.params) (lawS w.params) (lawQ w.params) (lawC w.params)) : P body₂ scope₂ qual₂ cdv₂ := by
  obtain ⟨_, _, _, _, _, _, _, _, _, _, _, e⟩ := law_at w.params
  exact law_unpack e hK h
theorem law_1 {A₀ : Around} {h₀ : Heap} {L : Addr} {m mg mb : PySem.Str → Option Value} {news : List (Addr × Obj)} {p : Program} {loose : List PySem.Str} {mean : ExcName → Option Value} {name qual : PySem.Str} {params : Arguments} {body : List PySem.Stmt} {scope : Scope} {dV kV doc pm cdv ct oc : Value} {an od : Option Addr} {osl : Array (Option Value)}
  (B : Below A₀ h₀ [] h₀) (F : Fr h₀ L s.heap m) (X₀ : (KF w.params).In h₀) (N : News h₀ L s.heap news) (T : Top p loose mean mg mb h₀) (hroom : A₀.depth < 340) (hh : A₀.handled = none)
  (hK : (KF w.params).lookup 185 = some ⟨oc, od, .func (fnOf name qual params body scope dV kV doc pm an cdv ct), osl⟩) (l : Addr) (vs : List Value) (ns : List Int) (hl : h₀.IsList l vs.toArray) (hi : IntsAre vs ns) (hlen : ns.length ≤ 63) (hv : m "script" = some (.ref l)) :
  wpAny (model PySem.Challenge.rw_us0017_01.prog w) (A₀.deeper (envOfC qual scope L 185 cdv)) (exec (body.getD 0 (.Pass default)) (envOfC qual scope L 185 cdv)) (CutEnd fun s' => ∃ h₂ tk₂ m₂ d ws e, s' = { s with heap := h₂, toks := tk₂ } ∧ Fr h₀ L h₂ m₂ ∧ News h₀ L h₂ ((d, PySem.W.listOf (ws : List Value).toArray e) :: news) ∧ m₂ "drawn" = some (.ref d) ∧ IntsAre ws ((ns.take 8).map (fun x => x % 1000000))) E s := by
  revert X₀; k_fill; intro X₀
  revert F N
  refine law_unpackL (P := fun body scope qual cdv => Fr h₀ L s.heap m → News h₀ L s.heap news → wpAny (model PySem.Challenge.rw_us0017_01.prog w) (A₀.deeper (envOfC qual scope L 185 cdv)) (exec (body.getD 0 (.Pass default)) (envOfC qual scope L 185 cdv)) (CutEnd fun s' => ∃ h₂ tk₂ m₂ d ws e, s' = { s with heap := h₂, toks := tk₂ } ∧ Fr h₀ L h₂ m₂ ∧ News h₀ L h₂ ((d, PySem.W.listOf (ws : List Value).toArray e) :: news) ∧ m₂ "drawn" = some (.ref d) ∧ IntsAre ws ((ns.take 8).map (fun x => x % 1000000))) E s) hK ?_
  intro F N
  clear hK
  (try dsimp only [lawL, lawS, lawQ, lawC, getBody, getScope, getQual, getCd, List.getD, List.getElem?_cons_zero, List.getElem?_cons_succ, Option.getD])
  (try k_fold)
  repeat walk1
  unfold Stop
  refine LCg.Assign_ListComp_U F rfl (by with_unfolding_all rfl) (by with_unfolding_all rfl) (by decide) (by rfl) (by decide) (by rfl) (by rfl) (by rfl) ?_
  repeat walk1
  (rename Fr _ _ _ _ => kF); (rename News _ _ _ _ => kN); (rename IntsAre _ (List.take _ _) => hws)
  have hwl := hws.length
  have htl : (List.take (Int.toNat 8) ns).length ≤ 8 := List.length_take_le _ _
  refine LCg.CompSrc.ledger hh kF kN (.head _) (by rw [List.size_toArray, sizeLine_eq]; omega) ?_
  intro gg
  refine compRest_J (fun i ys nw => nw = _ ∧ IntsAre ys (((ns.take 8).take i).map (fun x => x % 1000000))) ?_ ⟨rfl, .nil⟩ ?_
  · clear kF kN
    rintro i ys nw v I oI C oC D m₄ h₆ tk₆ E' hi' ⟨rfl, hys⟩ hP hNs hx F₆ N₆ off3 ne3
    obtain ⟨k, t, rfl, hk⟩ := IntsAre.at hws i v (by simpa using hP)
    repeat walk1
    refine LCg.CompEnd.intro F₆ N₆ _ (fun p hp => hp) off3 (.inr ⟨_, .head _, rfl, _, rfl⟩) ⟨rfl, ?_⟩
    have hk' : (ns.take 8)[i]? = some k := hk
    rw [List.take_add_one, hk', List.map_append]
    have e1 : k.fmod 1000000 = k % 1000000 := Int.fmod_eq_emod_of_nonneg _ (by decide)
    exact IntsAre.append hys (show IntsAre _ [k % 1000000] from e1 ▸ IntsAre.cons (k.fmod 1000000) _ .nil)
  · rintro ys nw ⟨rfl, hys⟩ D h₇ tk₇ F₇ N₇ off1
    have e1 : (ns.take 8).take (List.toArray _).size = ns.take 8 := List.take_of_length_le (by rw [List.size_toArray, hwl]; exact Nat.le_refl _)
    rw [e1] at hys
    exact ⟨rfl, _, _, _, D, ys, _, rfl, F₇, newsSub N₇ (fun p hp => by
      rcases List.mem_cons.mp hp with rfl | hp
      · exact .head _
      · exact .tail _ (.tail _ hp)), rfl, hys⟩
section
local macro_rules | `(tactic| walk_at "pad 0") => `(tactic| skip)
local macro_rules | `(tactic| walk_at "pad 1") => `(tactic| skip)
local macro_rules | `(tactic| walk_at "pad 2") => `(tactic| skip)
local macro_rules | `(tactic| walk_at "pad 3") => `(tactic| skip)
local macro_rules | `(tactic| walk_at "pad 4") => `(tactic| skip)
local macro_rules | `(tactic| walk_at "pad 5") => `(tactic| skip)
local macro_rules | `(tactic| walk_at "pad 6") => `(tactic| skip)
noncomputable def fillL : List Int := [5, 42, 113, 562, 10, 9, 1593, 0]
local macro_rules | `(tactic| walk_at "subscriptTail List cons Slice ref ref") => `(tactic| (k_here; k_dflt (refine kba_turn (value' := PySem.Expr.Name (PySem.Str.ofString "_") ⟨0, 0, 0, 0⟩) (fun _ => rfl) ?_)))
local macro_rules | `(tactic| walk_at "subscriptTail Name Slice ref ref") => `(tactic| (refine Stop.go ?_))
theorem law_2 {A₀ : Around} {h₀ : Heap} {L : Addr} {m mg mb : PySem.Str → Option Value} {news : List (Addr × Obj)} {p : Program} {loose : List PySem.Str} {mean : ExcName → Option Value} {name qual : PySem.Str} {params : Arguments} {body : List PySem.Stmt} {scope : Scope} {dV kV doc pm cdv ct oc : Value} {an od : Option Addr} {osl : Array (Option Value)}
  (B : Below A₀ h₀ [] h₀) (F : Fr h₀ L s.heap m) (X₀ : (KF w.params).In h₀) (N : News h₀ L s.heap news) (T : Top p loose mean mg mb h₀) (hroom : A₀.depth < 340) (hh : A₀.handled = none)
  (hK : (KF w.params).lookup 185 = some ⟨oc, od, .func (fnOf name qual params body scope dV kV doc pm an cdv ct), osl⟩) (d : Addr) (ws : List Value) (ds : List Int) (e : Nat) (hd : (d, PySem.W.listOf ws.toArray e) ∈ news) (hi : IntsAre ws ds) (hlen : ds.length ≤ 8) (hv : m "drawn" = some (.ref d)) :
  wpAny (model PySem.Challenge.rw_us0017_01.prog w) (A₀.deeper (envOfC qual scope L 185 cdv)) (exec (body.getD 1 (.Pass default)) (envOfC qual scope L 185 cdv)) (CutEnd fun s' => ∃ h₂ tk₂ m₂ d ws e, s' = { s with heap := h₂, toks := tk₂ } ∧ Fr h₀ L h₂ m₂ ∧ News h₀ L h₂ ((d, PySem.W.listOf (ws : List Value).toArray e) :: news) ∧ (∀ p ∈ news, p.1 < d) ∧ m₂ "drawn" = some (.ref d) ∧ IntsAre ws (ds ++ fillL.drop ds.length)) E s := by
  revert X₀; k_fill; intro X₀
  revert F N
  refine law_unpackL (P := fun body scope qual cdv => Fr h₀ L s.heap m → News h₀ L s.heap news → wpAny (model PySem.Challenge.rw_us0017_01.prog w) (A₀.deeper (envOfC qual scope L 185 cdv)) (exec (body.getD 1 (.Pass default)) (envOfC qual scope L 185 cdv)) (CutEnd fun s' => ∃ h₂ tk₂ m₂ d ws e, s' = { s with heap := h₂, toks := tk₂ } ∧ Fr h₀ L h₂ m₂ ∧ News h₀ L h₂ ((d, PySem.W.listOf (ws : List Value).toArray e) :: news) ∧ (∀ p ∈ news, p.1 < d) ∧ m₂ "drawn" = some (.ref d) ∧ IntsAre ws (ds ++ fillL.drop ds.length)) E s) hK ?_
  intro F N
  clear hK
  (try dsimp only [lawL, lawS, lawQ, lawC, getBody, getScope, getQual, getCd, List.getD, List.getElem?_cons_zero, List.getElem?_cons_succ, Option.getD])
  (try k_fold)
  repeat walk1
  (rename News _ _ _ _ => kN)
  refine len_intsN kN (.tail _ hd) hi (by omega) ?_
  repeat walk1
  unfold Stop
  (rename Fr _ _ _ _ => kF₀); (rename News _ _ _ _ => kN₀)
  refine kmk_slice_ints (ns := fillL) kF₀ kN₀ (News.isList kN₀ (.head _)) (IsPart.int _ _) IsPart.none ?i (kmk_from ?i (Int.natCast_nonneg _)) rfl ?_ (by with_unfolding_all rfl) (fun _ => by with_unfolding_all rfl) (by show 8 ≤ sizeLine; rw [sizeLine_eq]; decide)
  case i => exact .cons _ _ (.cons _ _ (.cons _ _ (.cons _ _ (.cons _ _ (.cons _ _ (.cons _ _ (.cons _ _ .nil)))))))
  intro D₀ ws₀ h₀' F₀ N₀ l₀ hws _ _
  (try k_lt l₀)
  repeat walk1
  (rename Fr _ _ _ _ => kF); (rename News _ _ _ _ => kN)
  rw [Int.toNat_natCast] at hws
  have hwl := hws.length
  have hdl := hi.length
  refine add_listsN kF kN (.tail _ (.tail _ hd)) (.head _) (by rw [sizeLine_eq, hwl, hdl, List.length_drop, show fillL.length = 8 from rfl]; omega) ?_
  intro D h₈ F₈ N₈ lt₈
  repeat walk1
  (rename Fr _ _ _ _ => kF₂); (rename News _ _ _ _ => kN₂)
  exact ⟨rfl, _, _, _, D, _, 0, rfl, kF₂, newsSub kN₂ (fun p hp => by
    rcases List.mem_cons.mp hp with rfl | hp
    · exact .head _
    · exact .tail _ (.tail _ (.tail _ hp))), fun p hp => lt₈ p (.tail _ (.tail _ hp)), rfl, hi.append hws⟩
end
section
local macro_rules | `(tactic| walk_at "pad 0") => `(tactic| skip)
local macro_rules | `(tactic| walk_at "pad 1") => `(tactic| skip)
local macro_rules | `(tactic| walk_at "pad 2") => `(tactic| skip)
local macro_rules | `(tactic| walk_at "pad 3") => `(tactic| skip)
local macro_rules | `(tactic| walk_at "pad 4") => `(tactic| skip)
local macro_rules | `(tactic| walk_at "pad 5") => `(tactic| skip)
local macro_rules | `(tactic| walk_at "pad 6") => `(tactic| skip)
local macro_rules | `(tactic| walk_at "pad 7") => `(tactic| skip)
local macro_rules | `(tactic| walk_at "pad 8") => `(tactic| skip)
local macro_rules | `(tactic| walk_at "pad 9") => `(tactic| skip)
noncomputable def shStep (size : Nat) (shelf : List PySem.Str) (x : PySem.Str) : List PySem.Str := (x :: shelf.filter (fun y => y != x)).take size
noncomputable def shelfAt (ns : List PySem.Str) (size k : Nat) : List PySem.Str := (ns.take k).foldl (shStep size) []
theorem shStep_le (size : Nat) (l : List PySem.Str) (x : PySem.Str) : (shStep size l x).length ≤ size := by
  unfold shStep; exact List.length_take_le _ _
theorem foldl_le (size : Nat) : ∀ (xs l : List PySem.Str), l.length ≤ size → (xs.foldl (shStep size) l).length ≤ size
  | [], _, h => h
  | x :: xs, l, _ => foldl_le size xs _ (shStep_le size l x)
theorem shelf_le (ns : List PySem.Str) (size k : Nat) (h : size ≤ 5) : (shelfAt ns size k).length ≤ 8 := Nat.le_trans (foldl_le size _ _ (Nat.zero_le _)) (by omega)
theorem shelf_succ (ns : List PySem.Str) (size : Nat) {i : Nat} {y : PySem.Str} (h : ns[i]? = some y) : shelfAt ns size (i + 1) = (y :: (shelfAt ns size i).filter (fun z => z != y)).take size := by
  unfold shelfAt
  rw [List.take_add_one, h, List.foldl_append]; rfl
theorem strs_take : ∀ {vs : List Value} {ys : List PySem.Str} (h : StrsAre vs ys) (k : Nat), StrsAre (vs.take k) (ys.take k)
  | _, _, .nil, _ => by simp; exact .nil
  | _, _, .cons y t h, 0 => .nil
  | _, _, .cons y t h, k + 1 => .cons y t (strs_take h k)
noncomputable def ShelfOK (blk : List (Addr × Obj)) (refs : List Value) (ns : List PySem.Str) (size : Nat) : Prop := refs.length = 9 ∧ ∀ k, k ≤ 8 → ∃ b ws e, refs[k]? = some (.ref b) ∧ (b, PySem.W.listOf (ws : List Value).toArray e) ∈ blk ∧ StrsAre ws (shelfAt ns size k)
theorem strs_get : ∀ {vs : List Value} {ys : List PySem.Str} (h : StrsAre vs ys) {i : Nat} {v : Value}, vs[i]? = some v → ∃ t y, ys[i]? = some y ∧ v = .str y t
  | _, _, .cons y t h, 0, v, e => ⟨t, y, rfl, (Option.some.inj e).symm⟩
  | _, _, .cons y t h, i + 1, v, e => strs_get h (by simpa using e)
local macro_rules | `(tactic| walk_at "subscriptTail Name Slice ref ref") => `(tactic| (refine Stop.go ?_))
theorem T_shelf (B : Below A₀ base outer h₀) (F : Fr h₀ L s.heap m) (X₀ : (KF w.params).In h₀) (N : News h₀ L s.heap news) (T : Top p loose mean mg mb h₀) (hA : A.frames = some (env :: outer)) (hf : env.frame = some L) (hke : env.scope.kind = .function)
  (hroom : A.depth < 350) (hh : A.handled = none) (a : Addr) (vs : List Value) (ns : List PySem.Str) (ep : Nat) (size : Nat) (tkx : Tok) (hm : (a, PySem.W.listOf vs.toArray ep) ∈ news) (hi : StrsAre vs ns) (hlen : ns.length = 8) (hs : 1 ≤ size ∧ size ≤ 5)
  (hQ : ∀ h' tk' st refs n blk B, Fr h₀ L h' m → News h₀ L h' ((st, PySem.W.listOf (refs : List Value).toArray n) :: (blk ++ news)) → (∀ p ∈ news, p.1 < B) → (∀ q ∈ (st, PySem.W.listOf refs.toArray n) :: blk, @LT.lt Nat _ B q.1) → ShelfOK blk refs ns size → Q (.ref st) { s with heap := h', toks := tk' }) :
  wpAny (model PySem.Challenge.rw_us0017_01.prog w) A (call (.ref 166) [.ref a, .int (size : Int) tkx]) Q E s := by
  revert X₀; k_fill; intro X₀
  refine wpAny_call ?_
  refine' code_defC B F X₀ N T hA hf hke ?k6 ?k7 ?k8 ?k9 ?kB ?kD ?_ ?c2 ?c3 ?c4; (case k6 => k_is); (case k7 => k_is); (case k8 => k_room); (case k9 => first | exact BindsTo.of_eq rfl | exact binds_K (by k_in) rfl (by k_is) rfl rfl rfl); (case kB => exact rfl); (case kD => decide +kernel); (case c2 => exact rfl); (case c3 => exact rfl); (case c4 => exact rfl)
  intro g' L' h' tk₀ cells' FG' F' N' Y' B' X' T' l1; (try k_lt l1); (obtain ⟨oc, hce, dc⟩ := PyProof.Rows.CellsAre.one Y'; subst hce); (try simp only [List.cons_append, List.nil_append] at N'); (try dsimp only); (try k_fold)
  refine cut_G (fun s' => ∃ h₂ tk₂ m₂ l, s' = { s with heap := h₂, toks := tk₂ } ∧ Fr g' L' h₂ m₂ ∧ News g' L' h₂ ((l, PySem.W.listOf #[] 0) :: (L' + 1, oc) :: news) ∧ @LT.lt Nat _ (L' + 1) l ∧ m₂ "shelf" = some (.ref l) ∧ m₂ "names" = some (.ref a) ∧ m₂ "size" = some (.int (size : Int) tkx)) ?_ ?_
  · repeat walk1
    (rename Fr _ _ _ _ => kF); (rename News _ _ _ _ => kN)
    exact ⟨rfl, _, _, _, _, rfl, kF, kN, by omega, rfl, rfl, rfl⟩
  intro goalG intoG; rintro _ ⟨h₂, tk₂, m₂, l, rfl, F₂, N₂, hl, v1, v2, v3⟩; refine intoG ⟨h₂, s.gens, s.drawn, tk₂, s.os⟩ ?_; clear intoG goalG
  clear F' N'
  with_reducible refine cut_G (fun s' => ∃ h₂ tk₂ m₂ st, s' = { s with heap := h₂, toks := tk₂ } ∧ Fr g' L' h₂ m₂ ∧ News g' L' h₂ ((st, PySem.W.listOf #[.ref l] 0) :: (l, PySem.W.listOf #[] 0) :: (L' + 1, oc) :: news) ∧ @LT.lt Nat _ l st ∧ m₂ "shelf" = some (.ref l) ∧ m₂ "states" = some (.ref st) ∧ m₂ "names" = some (.ref a) ∧ m₂ "size" = some (.int (size : Int) tkx)) ?_ ?_
  · repeat walk1
    (rename Fr _ _ _ _ => kF); (rename News _ _ _ _ => kN)
    exact ⟨rfl, _, _, _, _, rfl, kF, kN, by omega, v1, rfl, v2, v3⟩
  intro goalG intoG; rintro _ ⟨h₃, tk₃, m₃, st, rfl, F₃, N₃, hst, v1, v4, v2, v3⟩; refine intoG ⟨h₃, s.gens, s.drawn, tk₃, s.os⟩ ?_; clear intoG goalG
  clear F₂ N₂
  have hn1 : ∀ p ∈ news, p.1 < L' + 1 := fun p hp => Nat.lt_succ_of_lt (l1 p hp)
  have hnl : ∀ p ∈ news, p.1 < l := fun p hp => Nat.lt_trans (hn1 p hp) hl
  have hns : ∀ p ∈ news, p.1 < st := fun p hp => Nat.lt_trans (hnl p hp) hst
  repeat walk1
  unfold Stop
  refine For_cut ?_
  repeat walk1
  (rename Fr _ _ _ _ => kF); (rename News _ _ _ _ => kN)
  refine ForRun.list (vs := vs) (k := ep) (fun i m news₁ => ∃ oc v refs n blk cur cws ce, news₁ = (L' + 1, oc) :: (st, PySem.W.listOf (refs : List Value).toArray n) :: (blk ++ news) ∧ oc.data = .cell v ∧ refs.length = i + 1 ∧ (∀ p ∈ blk, p.1 ≠ st ∧ p.1 ≠ L' + 1 ∧ @LT.lt Nat _ L' p.1) ∧ m "shelf" = some (.ref cur) ∧ (cur, PySem.W.listOf (cws : List Value).toArray ce) ∈ blk ∧ StrsAre cws (shelfAt ns size i) ∧ m "states" = some (.ref st) ∧ m "names" = some (.ref a) ∧ m "size" = some (.int (size : Int) tkx) ∧
    ∀ k, k ≤ i → ∃ b ws e, refs[k]? = some (.ref b) ∧ (b, PySem.W.listOf (ws : List Value).toArray e) ∈ blk ∧ StrsAre ws (shelfAt ns size k)) hh letGo_Name ?_ kF (newsSub (b := _) kN (?_ : ∀ p ∈ (L' + 1, oc) :: (st, PySem.W.listOf #[.ref l] 0) :: ([(l, PySem.W.listOf #[] 0)] ++ news), p ∈ _)) ?_ ?_ ?_
  · rintro i m news₁ ⟨oc, v, refs, n, blk, cur, cws, ce, rfl, _⟩
    exact .tail _ (.tail _ (List.mem_append_right _ hm))
  · intro p hp
    simp only [List.mem_cons, List.cons_append, List.nil_append] at hp ⊢
    rcases hp with h | h | h | h
    · exact .inr (.inr (.inl h))
    · exact .inl h
    · exact .inr (.inl h)
    · exact .inr (.inr (.inr h))
  · refine ⟨oc, _, [.ref l], 0, [(l, PySem.W.listOf #[] 0)], l, [], 0, rfl, dc, rfl, ?_, v1, List.mem_singleton.mpr rfl, .nil, v4, v2, v3, ?_⟩
    · intro p hp
      rw [List.mem_singleton.mp hp]
      exact ⟨Nat.ne_of_lt hst, Nat.ne_of_gt hl, Nat.lt_of_succ_lt hl⟩
    · intro k hk
      obtain rfl : k = 0 := Nat.le_zero.mp hk
      exact ⟨l, [], 0, rfl, List.mem_singleton.mpr rfl, .nil⟩
  · clear kF kN
    rintro i v I m₁ news₁ oI h₄ tk₄ hlt hv inv F₄ N₄ off; refine hide ?_; intro goalG intoG; obtain ⟨oc, cv, refs, n, blk, cur, cws, ce, rfl, hoc, hrl, hbo, hcur, hcs, hcs', w2, w3, w4, hk⟩ := inv; refine intoG ?_; clear intoG goalG
    obtain ⟨tv, y, hy, rfl⟩ := strs_get hi hv
    have hI1 : I ≠ L' + 1 := fun e => off _ (.head _) e.symm
    have hb1 : ∀ p ∈ (st, PySem.W.listOf refs.toArray n) :: (blk ++ news), p.1 ≠ L' + 1 := by
      intro p hp
      rcases List.mem_cons.mp hp with rfl | hp
      · exact Nat.ne_of_gt (Nat.lt_trans hl hst)
      · rcases List.mem_append.mp hp with hp | hp
        · exact (hbo p hp).2.1
        · exact Nat.ne_of_lt (hn1 p hp)
    refine wpAny_assign_Name (storeX_C F₄ N₄ rfl (.tail hI1 (.head hb1)) hoc ?_)
    intro h₅ oc₂ F₅ N₅ hoc₂
    clear F₄ N₄
    have hsl := shelf_le ns size i hs.2
    with_reducible refine cut_G (fun s' => ∃ h₂ tk₂ m₂ d vd ed, s' = { s with heap := h₂, toks := tk₂ } ∧ Fr g' L' h₂ m₂ ∧ News g' L' h₂ ((d, PySem.W.listOf (vd : List Value).toArray ed) :: (I, oI) :: (L' + 1, oc₂) :: (st, PySem.W.listOf (refs : List Value).toArray n) :: (blk ++ news)) ∧ @LT.lt Nat _ st d ∧ StrsAre vd (y :: (shelfAt ns size i).filter (fun z => z != y)) ∧ m₂ "shelf" = some (.ref d) ∧ m₂ "states" = some (.ref st) ∧ m₂ "names" = some (.ref a) ∧ m₂ "size" = some (.int (size : Int) tkx)) ?_ ?_
    · repeat walk1
      unfold Stop
      (rename Fr g' _ _ _ => kF); (rename News g' _ _ _ => kN)
      refine LCt.ListComp_T kF (by with_unfolding_all rfl) (by decide) (by rfl) (by decide) (by rfl) ?_
      repeat walk1
      (rename Fr g' _ _ _ => kF); (rename News g' _ _ _ => kN)
      refine LCt.CompSrcT.ledger hh kF kN (its := cws.toArray) (k := ce) (by repeat (first | exact List.mem_append_left _ hcs | apply List.Mem.tail)) (by rw [List.size_toArray, hcs'.length, sizeLine_eq]; omega) ?_
      intro gg
      refine compRestT_J (fun k ys nw => nw = _ ∧ StrsAre ys (((shelfAt ns size i).take k).filter (fun z => z != y))) ?_ ⟨rfl, .nil⟩ ?_
      · clear kF kN
        rintro k ys nw v II oII C oC D m₄ h₆ tk₆ E' hk ⟨rfl, hys⟩ hP hNs hx F₆ N₆ off3 ne3
        obtain ⟨tz, z, hz, rfl⟩ := strs_get hcs' (by simpa using hP)
        repeat walk1
        · rename_i hc
          refine LCg.CompEnd.intro F₆ N₆ _ (fun p hp => hp) off3 (.inr ⟨_, by repeat (first | exact List.mem_append_left _ hcs | apply List.Mem.tail), rfl, _, rfl⟩) ⟨rfl, ?_⟩
          rw [List.take_add_one, hz, List.filter_append]
          simpa [hc] using StrsAre.snoc hys z tz
        · rename_i hc
          refine LCg.CompEnd.intro F₆ N₆ _ (fun p hp => hp) off3 (.inr ⟨_, by repeat (first | exact List.mem_append_left _ hcs | apply List.Mem.tail), rfl, _, rfl⟩) ⟨rfl, ?_⟩
          rw [List.take_add_one, hz, List.filter_append]
          simpa [hc] using hys
      · clear kF kN
        rintro ys nw ⟨rfl, hys⟩ D h₇ tk₇ F₇ N₇ off1
        repeat walk1
        (rename Fr g' _ _ _ => kF); (rename News g' _ _ _ => kN)
        have hyl := hys.length
        have hfl : (List.filter (fun z => z != y) (List.take cws.toArray.size (shelfAt ns size i))).length ≤ 8 := Nat.le_trans (List.length_filter_le _ _) (Nat.le_trans (List.length_take_le' _ _) hsl)
        refine add_listsN kF kN (.tail _ (.head _)) (.head _) (by simp only [List.length_cons, List.length_nil]; rw [sizeLine_eq]; omega) ?_
        intro D₂ h₈ F₈ N₈ hlt₈
        repeat walk1
        (rename Fr g' _ _ _ => kF₂); (rename News g' _ _ _ => kN₂)
        have e1 : List.take cws.toArray.size (shelfAt ns size i) = shelfAt ns size i := List.take_of_length_le (by rw [List.size_toArray, hcs'.length]; exact Nat.le_refl _)
        rw [e1] at hys
        exact ⟨rfl, _, _, _, D₂, _, 0, rfl, kF₂, newsSub kN₂ (fun p hp => by
          rcases List.mem_cons.mp hp with rfl | hp
          · exact .head _
          · exact .tail _ (.tail _ (.tail _ hp))), hlt₈ (st, PySem.W.listOf refs.toArray n) (.tail _ (.tail _ (.tail _ (.tail _ (.head _))))), .cons y tv hys, rfl, w2, w3, w4⟩
    intro goalG intoG; rintro _ ⟨h₆, tk₆, m₆, d, vd, ed, rfl, F₆, N₆, hsd, hvd, u1, u2, u3, u4⟩; refine intoG ⟨h₆, s.gens, s.drawn, tk₆, s.os⟩ ?_; clear intoG goalG
    clear F₅ N₅
    repeat walk1
    unfold Stop
    refine kms_slice_lit (zs := vd.take size) (by k_asm) (by k_asm) (isListN (by k_asm) (.head _)) (by kmk_part) (by kmk_part) (by unfold kms_pick kms_lo kms_hi; dsimp only; rw [if_neg (by omega)]; simp) ?_ (by with_unfolding_all rfl) (by kmk_pure) ?_
    rotate_left
    · have := hvd.length
      have hfl : (List.filter (fun z => z != y) (shelfAt ns size i)).length ≤ 8 := Nat.le_trans (List.length_filter_le _ _) hsl
      simp only [List.length_cons] at this
      rw [List.size_toArray, sizeLine_eq]; omega
    intro D₃ h₉ F₉ N₉ lt₉
    have hD3 : @LT.lt Nat _ st D₃ := lt₉ (st, PySem.W.listOf refs.toArray n) (.tail _ (.tail _ (.tail _ (.head _))))
    have hIst : @Ne Nat st I := off (st, PySem.W.listOf refs.toArray n) (.tail _ (.head _))
    have hL1 : @LT.lt Nat _ (L' + 1) st := Nat.lt_trans hl hst
    have hbn : ∀ p ∈ blk ++ news, p.1 ≠ st := by
      intro p hp
      rcases List.mem_append.mp hp with hp | hp
      · exact (hbo p hp).1
      · exact Nat.ne_of_lt (hns p hp)
    have hil : i < 8 := by rw [← hlen, ← hi.length]; exact hlt
    clear F₆ N₆
    repeat walk1
    (rename Fr g' _ _ _ => kF); (rename News g' _ _ _ => kN)
    refine append_K kF kN (.tail (Nat.ne_of_gt hD3) (.tail (Nat.ne_of_gt hsd) (.tail (Ne.symm hIst) (.tail (Nat.ne_of_lt hL1) (.head hbn))))) ?_ (by rw [sizeLine_eq, List.size_toArray]; omega)
    intro h₁₀ F₁₀ N₁₀
    clear kF kN
    repeat walk1
    (rename Fr g' _ _ _ => kF); (rename News g' _ _ _ => kN)
    refine TurnJ.intro kF kN ((L' + 1, oc₂) :: (st, PySem.W.listOf (refs ++ [Value.ref D₃]).toArray (n + 1)) :: (((D₃, PySem.W.listOf (vd.take size).toArray 0) :: blk) ++ news)) (.tail _ (.tail _ (.head _))) ?_ ?_ ⟨oc₂, some (.str y tv), refs ++ [Value.ref D₃], n + 1, (D₃, PySem.W.listOf (vd.take size).toArray 0) :: blk, D₃, vd.take size, 0, rfl, hoc₂, by simp [hrl], ?_, rfl, .head _, ?_, u2, u3, u4, ?_⟩
    · intro p hp
      rw [← List.push_toArray] at hp
      simp only [List.mem_cons, List.cons_append] at hp ⊢
      rcases hp with h | h | h | h
      · exact .inr (.inr (.inr (.inl h)))
      · exact .inr (.inr (.inr (.inr (.inl h))))
      · exact .inl h
      · exact .inr (.inr (.inr (.inr (.inr h))))
    · intro p hp
      simp only [List.mem_cons, List.cons_append] at hp
      rcases hp with rfl | rfl | rfl | h
      · exact fun e => hI1 e.symm
      · exact hIst
      · exact Nat.ne_of_gt (lt₉ (I, oI) (.tail _ (.head _)))
      · exact off p (.tail _ (.tail _ h))
    · intro p hp
      rcases List.mem_cons.mp hp with rfl | hp
      · exact ⟨Nat.ne_of_gt hD3, Nat.ne_of_gt (Nat.lt_trans hL1 hD3), Nat.lt_of_succ_lt (Nat.lt_trans hL1 hD3)⟩
      · exact hbo p hp
    · rw [shelf_succ ns size hy]; exact strs_take hvd size
    · intro k hki
      by_cases he : k = i + 1
      · subst he
        exact ⟨D₃, vd.take size, 0, by rw [List.getElem?_append_right (by omega), hrl]; simp, .head _, by rw [shelf_succ ns size hy]; exact strs_take hvd size⟩
      · obtain ⟨b, ws, e, h1, h2, h3⟩ := hk k (by omega)
        exact ⟨b, ws, e, by rw [List.getElem?_append_left (by omega)]; exact h1, .tail _ h2, h3⟩
  · clear kF kN
    rintro h₄ tk₄ m₁ news₁ F₄ N₄ inv; refine hide ?_; intro goalG intoG; obtain ⟨oc, cv, refs, n, blk, cur, cws, ce, rfl, hoc, hrl, hbo, hcur, hcs, hcs', w2, w3, w4, hk⟩ := inv; refine intoG ?_; clear intoG goalG
    have hvl : vs.length = 8 := by rw [hi.length, hlen]
    repeat walk1
    (rename Fr h₀ _ _ _ => kF); (rename News h₀ _ _ _ => kN)
    refine hQ _ _ st refs n blk L' kF (newsSub kN fun p hp => .tail _ hp) l1 ?_ ⟨by rw [hrl, hvl], fun k hk8 => hk k (by rw [hvl]; exact hk8)⟩
    intro q hq
    rcases List.mem_cons.mp hq with rfl | hq
    · exact Nat.lt_of_succ_lt (Nat.lt_trans hl hst)
    · exact (hbo q hq).2.2
end
end
end
end
noncomputable def subSts : PySem.Stmt → List PySem.Stmt
  | .For _ _ b _ _ => b
  | _ => []
noncomputable def setM (m : PySem.Str → Option Value) (x : PySem.Str) (v : Value) : PySem.Str → Option Value := fun z => if z = x then some v else m z
theorem off1_mem {D : Addr} (l : List (Addr × Obj)) : LCg.Off1 D l → ∀ p ∈ l, @Ne Nat p.1 D := by
  induction l with
  | nil => exact fun _ _ hp => nomatch hp
  | cons x r ih =>
    intro h p hp
    cases hp with
    | head => exact h.1
    | tail _ hp => exact ih h.2 p hp
theorem updF_self {d : Addr} {o : Obj} {l : List (Addr × Obj)} {g : Obj → List (Addr × Obj)} (U : UpdF d o l g) : (d, o) ∈ l := by
  induction U with
  | head h => exact List.mem_cons_self
  | tail h _ ih => exact List.mem_cons_of_mem _ ih
noncomputable def ShelvesOK (nw : List (Addr × Obj)) (refs : List Value) (ns : List PySem.Str) (n : Nat) : Prop := refs.length = n ∧ ∀ j, j < n → ∃ st rs e, refs[j]? = some (.ref st) ∧ (st, PySem.W.listOf (rs : List Value).toArray e) ∈ nw ∧ ShelfOK nw rs ns (j + 1)
theorem ShelfOK.mono {a b : List (Addr × Obj)} {refs : List Value} {ns : List PySem.Str} {size : Nat} (h : ShelfOK a refs ns size) (hs : ∀ p ∈ a, p ∈ b) : ShelfOK b refs ns size :=
  ⟨h.1, fun k hk => let ⟨x, ws, e, h1, h2, h3⟩ := h.2 k hk; ⟨x, ws, e, h1, hs _ h2, h3⟩⟩
theorem ShelvesOK.mono {a b : List (Addr × Obj)} {refs : List Value} {ns : List PySem.Str} {n : Nat} (h : ShelvesOK a refs ns n) (hs : ∀ p ∈ a, p ∈ b) : ShelvesOK b refs ns n :=
  ⟨h.1, fun j hj => let ⟨x, ws, e, h1, h2, h3⟩ := h.2 j hj; ⟨x, ws, e, h1, hs _ h2, h3.mono hs⟩⟩
theorem ShelvesOK.snoc {a b : List (Addr × Obj)} {refs rs : List Value} {ns : List PySem.Str} {n : Nat} {st : Addr} {e : Nat} (h : ShelvesOK a refs ns n) (hs : ∀ p ∈ a, p ∈ b) (h1 : (st, PySem.W.listOf rs.toArray e) ∈ b) (h2 : ShelfOK b rs ns (n + 1)) : ShelvesOK b (refs ++ [.ref st]) ns (n + 1) :=
  ⟨by simp [h.1], fun j hj => by
    by_cases hjn : j < n
    · obtain ⟨x, ws, e, g1, g2, g3⟩ := h.2 j hjn
      exact ⟨x, ws, e, by rw [List.getElem?_append_left (by rw [h.1]; exact hjn)]; exact g1, hs _ g2, g3.mono hs⟩
    · obtain rfl : j = n := by omega
      exact ⟨st, rs, e, by rw [← h.1]; simp, h1, h2⟩⟩
theorem off1_of_lt {B : Addr} : ∀ {l : List (Addr × Obj)}, (∀ p ∈ l, @Ne Nat p.1 B) → LCg.Off1 B l
  | [], _ => trivial
  | _ :: _, h => ⟨h _ (.head _), off1_of_lt fun p hp => h p (.tail _ hp)⟩
theorem off3_mem {I C D : Addr} {l : List (Addr × Obj)} (h : LCg.Off3 I C D l) : ∀ p ∈ l, @Ne Nat p.1 I ∧ @Ne Nat p.1 C ∧ @Ne Nat p.1 D := fun p hp => h.mem p hp
theorem off3_of {I C D : Addr} : ∀ {l : List (Addr × Obj)}, (∀ p ∈ l, @Ne Nat p.1 I ∧ @Ne Nat p.1 C ∧ @Ne Nat p.1 D) → LCg.Off3 I C D l
  | [], _ => trivial
  | _ :: _, h => ⟨h _ (.head _), off3_of fun p hp => h p (.tail _ hp)⟩
theorem news_ne {h₀ h : Heap} {L a b : Addr} {o o' : Obj} {news : List (Addr × Obj)} (N : News h₀ L h news) (ha : (a, o) ∈ news) (hb : (b, o') ∈ news) (hne : o ≠ o') : @Ne Nat a b := by
  intro e
  have h1 := (N _ ha).1
  have h2 := (N _ hb).1
  have e' : a = b := e
  dsimp only at h1 h2
  rw [e', h2] at h1
  exact hne (Option.some.inj h1).symm
theorem list_at {l : List PySem.Stmt} {d : PySem.Stmt} : l = (List.range l.length).map (fun i => l.getD i d) := by
  refine List.ext_getElem (by rw [List.length_map, List.length_range]) fun i h1 h2 => ?_
  rw [List.getElem_map, List.getElem_range, List.getD_eq_getElem?_getD, List.getElem?_eq_getElem h1]; rfl
theorem list20 {l : List PySem.Stmt} {d : PySem.Stmt} (h : l.length = 20) : l = [l.getD 0 d, l.getD 1 d, l.getD 2 d, l.getD 3 d, l.getD 4 d, l.getD 5 d, l.getD 6 d, l.getD 7 d, l.getD 8 d, l.getD 9 d, l.getD 10 d, l.getD 11 d, l.getD 12 d, l.getD 13 d, l.getD 14 d, l.getD 15 d, l.getD 16 d, l.getD 17 d, l.getD 18 d, l.getD 19 d] := by
  have e := list_at (l := l) (d := d)
  rw [h] at e
  exact e
theorem list12 {l : List PySem.Stmt} {d : PySem.Stmt} (h : l.length = 12) : l = [l.getD 0 d, l.getD 1 d, l.getD 2 d, l.getD 3 d, l.getD 4 d, l.getD 5 d, l.getD 6 d, l.getD 7 d, l.getD 8 d, l.getD 9 d, l.getD 10 d, l.getD 11 d] := by
  have e := list_at (l := l) (d := d)
  rw [h] at e
  exact e
theorem updF_app {d : Addr} {o : Obj} {l : List (Addr × Obj)} {g : Obj → List (Addr × Obj)} (U : UpdF d o l g) : ∀ {b : List (Addr × Obj)}, (∀ p ∈ b, @Ne Nat p.1 d) → UpdF d o (b ++ l) (fun o' => b ++ g o')
  | [], _ => U
  | x :: b, h => .tail (h x (.head _)) (updF_app U fun p hp => h p (.tail _ hp))
theorem updOf {D : Addr} {o o' : Obj} {l : List (Addr × Obj)} {g : Obj → List (Addr × Obj)} (U : UpdF D o l g) : Upd D o o' l (g o') := by
  induction U with
  | head h => exact Upd.head h
  | tail h _ ih => exact Upd.tail h ih
theorem isStrOf_at (k : PySem.Str) : ∀ {vs : List Value} {ns : List PySem.Str}, StrsAre vs ns → ∀ (j : Nat) (h1 : j < vs.length) (h2 : j < ns.length), isStrOf k vs[j] = (ns[j] == k)
  | _, _, .nil, _, h, _ => by simp at h
  | _, _, .cons y t h, 0, _, _ => rfl
  | _, _, .cons y t h, j + 1, h1, h2 => isStrOf_at k h j (by simpa using h1) (by simpa using h2)
theorem ne_of_lt_idxS {k : PySem.Str} : ∀ {ns : List PySem.Str} {j : Nat}, j < ns.idxOf k → ∀ (h2 : j < ns.length), (ns[j] == k) = false := by
  intro ns j h h2
  exact List.not_of_lt_findIdx h
section
open PySem.SeqAt MeetsSeq MeetsSeq2 MeetsSeq3
variable {prog : Program}
theorem index_strs {l : Addr} {vs : List Value} {ns : List PySem.Str} {n : Nat} {k : PySem.Str} {t : Tok} {Q : Value → Shared → Prop} (N : News h₀ L s.heap news) (hm : (l, PySem.W.listOf vs.toArray n) ∈ news) (hi : StrsAre vs ns)
    (hlay : ns.length ≤ 1000) (hk : k ∈ ns) (h : Q (.int (ns.idxOf k : Nat) s.toks) { s with toks := s.toks + 1 }) :
    wpAny (model prog w) A (call (.builtin "list.index") [.ref l, .str k t]) Q E s := by
  have hl := isListN N hm
  obtain ⟨⟨cls, dd, data, sl⟩, ho, hc, n', hd⟩ := id hl
  simp only at hc hd
  subst hc hd
  have hlen := hi.length
  have hj : ns.idxOf k < ns.length := List.idxOf_lt_length_iff.mpr hk
  refine call_meets PySem.F.slot_list_index ⟨_, ho, rfl⟩ PySem.F.entry_list_index (PySem.F.args_list_index_2 _ _)
    (PySem.SeqAt.list_indexAt l vs.toArray n' dd sl (.str k t) (isStrOf k) (ns.idxOf k) (by simpa [hlen] using hj) (by omega) ?_ ?_) ⟨ho, fun y hy => (eq_isStrOf k t hi y (by simpa using hy)).at _ _, h⟩
  · show isStrOf k vs[ns.idxOf k] = true
    rw [isStrOf_at k hi _ (by omega) hj]
    simpa using List.getElem_idxOf hj
  · intro j hjs hlt
    show isStrOf k vs[j] = false
    rw [isStrOf_at k hi j (by simpa using hjs) (by omega)]
    exact ne_of_lt_idxS hlt _
theorem item_strsN {value slice : PySem.Expr} {l : Addr} {vs : List Value} {ns : List PySem.Str} {n : Nat} {k : Nat} {u : Tok} {y : PySem.Str} {Q : Value → Shared → Prop} (N : News h₀ L s.heap news) (hm : (l, PySem.W.listOf vs.toArray n) ∈ news) (hi : StrsAre vs ns)
    (hk : k < 1000) (hy : ns[k]? = some y) (h : ∀ t', Q (.str y t') s)
    (hs : subscripted slice false (.ref l) (.int (k : Int) u) = operate [.ref l, .int (k : Int) u] (getItem (.ref l) (.int (k : Int) u)) := by with_unfolding_all rfl) (hg : ∀ r, letTemporaryGo value (.ref l) r = pure () := by intro _; with_unfolding_all rfl) :
    wpAny (model prog w) A (subscriptTail value slice (.ref l) (.int (k : Int) u)) Q E s := by
  have hl : k < ns.length := (List.getElem?_eq_some_iff.mp hy).1
  refine item_strsA (isListN N hm) hi (by omega) (by omega) (by omega) ?_ hs hg
  intro t'
  have e : ns.getD (k : Int).toNat PySem.Str.empty = y := by rw [Int.toNat_natCast]; simp [List.getD, hy]
  rw [e]; exact h t'
theorem item_refsN {value slice : PySem.Expr} {l : Addr} {vs : List Value} {n : Nat} {k : Nat} {u : Tok} {y : Value} {Q : Value → Shared → Prop} (N : News h₀ L s.heap news) (hm : (l, PySem.W.listOf vs.toArray n) ∈ news)
    (hk : k < 1000) (hy : vs[k]? = some y) (h : Q y s)
    (hs : subscripted slice false (.ref l) (.int (k : Int) u) = operate [.ref l, .int (k : Int) u] (getItem (.ref l) (.int (k : Int) u)) := by with_unfolding_all rfl) (hg : ∀ r, letTemporaryGo value (.ref l) r = pure () := by intro _; with_unfolding_all rfl) :
    wpAny (model prog w) A (subscriptTail value slice (.ref l) (.int (k : Int) u)) Q E s :=
  item_listL (isListN N hm) (by omega) (by omega) (by rw [Int.toNat_natCast]; exact hy) h hs hg
theorem len_listN {l : Addr} {vs : List Value} {n : Nat} {k : Nat} {Q : Value → Shared → Prop} (N : News h₀ L s.heap news) (hm : (l, PySem.W.listOf vs.toArray n) ∈ news) (hb : vs.length = k) (hk : k ≤ 1000)
    (h : ∀ t tk, Q (.int (k : Int) t) { s with toks := tk }) : wpAny (model prog w) A (call (.builtin "len") [.ref l]) Q E s := by
  refine len_list (isListN N hm) (by rw [List.size_toArray]; omega) ?_
  rw [List.size_toArray, hb]; exact h _ _
end
theorem pick_to (l : List Value) (k : Nat) : kms_pick l none (some (k : Int)) = l.take k := by
  unfold kms_pick kms_lo kms_hi
  dsimp only
  rw [if_neg (by omega)]
  simp
theorem pick_from (l : List Value) (k : Nat) : kms_pick l (some (k : Int)) none = l.drop k := by
  unfold kms_pick kms_lo kms_hi
  dsimp only
  rw [if_neg (by omega), Int.toNat_natCast]
  rcases Nat.le_total k l.length with h | h
  · rw [Nat.min_eq_left h]
    exact List.take_of_length_le (by rw [List.length_drop]; exact Nat.le_refl _)
  · rw [Nat.min_eq_right h, Nat.sub_self, List.take_zero, List.drop_of_length_le h]
theorem pick_last (l : List Value) (k : Nat) (h : l.length = k + 1) : kms_pick l none (some (-1)) = l.take k := by
  unfold kms_pick kms_lo kms_hi
  dsimp only
  rw [if_pos (by omega)]
  simp
  omega
theorem strs_app : ∀ {vs us : List Value} {ys zs : List PySem.Str}, StrsAre vs ys → StrsAre us zs → StrsAre (vs ++ us) (ys ++ zs)
  | _, _, _, _, .nil, h => h
  | _, _, _, _, .cons y t h, k => .cons y t (strs_app h k)
theorem strs_drop : ∀ {vs : List Value} {ys : List PySem.Str} (h : StrsAre vs ys) (k : Nat), StrsAre (vs.drop k) (ys.drop k)
  | _, _, h, 0 => h
  | _, _, .nil, k + 1 => by simp; exact .nil
  | _, _, .cons y t h, k + 1 => strs_drop h k
theorem join_room {l : List PySem.Str} {z : PySem.Str} (hl : l.length ≤ 8) (hz : z.cps.toList = [10] ∨ z.cps.toList = [13] ∨ z.cps.toList = [13, 10]) (h : ∀ r ∈ l, r.length ≤ 20) : ((l.map (fun r => r ++ z)).map (·.length)).sum + (l.map (fun r => r ++ z)).length ≤ 1048576 := by
  have hzl : z.cps.size ≤ 2 := by
    rw [← Array.length_toList]
    rcases hz with h | h | h <;> rw [h] <;> decide
  have h1 : ∀ (l : List PySem.Str), (∀ r ∈ l, r.length ≤ 20) → ((l.map (fun r => r ++ z)).map (·.length)).sum ≤ l.length * 22 := by
    intro l
    induction l with
    | nil => intro _; simp
    | cons r l ih =>
      intro h
      have h2 := ih fun x hx => h x (List.mem_cons_of_mem _ hx)
      have h3 : r.cps.size ≤ 20 := h r List.mem_cons_self
      simp only [List.map_cons, List.sum_cons, List.length_cons, Nat.succ_mul]
      have e : (r ++ z).length = r.cps.size + z.cps.size := by
        show (r.cps ++ z.cps).size = _
        simp
      rw [e]; omega
  have h4 := h1 l h
  rw [List.length_map]
  omega
noncomputable def dotsS (n : Nat) : PySem.Str := ⟨(List.replicate n 46).toArray⟩
theorem ss_canLay : ∀ ns : List PySem.Str, ns.all PyData.strOk = true → PyData.canLayAll0 (ns.map PyData.str) = true
  | [], _ => rfl
  | a :: r, h => by
    rw [List.all_cons, Bool.and_eq_true] at h
    simp [PyData.canLayAll0, PyData.canLay0, ss_canLay r h.2, h.1]
theorem ss_depth : ∀ ns : List PySem.Str, PyData.depthAll (ns.map PyData.str) = 0
  | [] => rfl
  | _ :: r => by simp [PyData.depthAll, PyData.depth, ss_depth r]
theorem ss_shaped (ns : List PySem.Str) (h : ns.all PyData.strOk = true) : SeqAt.shaped (.list (ns.map PyData.str)) = true := by
  simp [SeqAt.shaped, PyData.canLay0, PyData.depth, ss_canLay ns h, ss_depth]
theorem ss_sameAll : ∀ ns ms : List PySem.Str, PySem.Spec.sameAll (ns.map PyData.str) (ms.map PyData.str) = decide (ns = ms)
  | [], [] => by simp [PySem.Spec.sameAll]
  | [], _ :: _ => by simp [PySem.Spec.sameAll]
  | _ :: _, [] => by simp [PySem.Spec.sameAll]
  | a :: r, b :: t => by
    simp only [List.map_cons, PySem.Spec.sameAll, PySem.Spec.same, ss_sameAll r t]
    by_cases h : a = b <;> by_cases h' : r = t <;> simp [h, h']
theorem ss_same (ns ms : List PySem.Str) : PySem.Spec.same (.list (ns.map PyData.str)) (.list (ms.map PyData.str)) = decide (ns = ms) := by
  simp only [PySem.Spec.same]; exact ss_sameAll ns ms
theorem ss_carried : ∀ {vs : List Value} {ns : List PySem.Str}, StrsAre vs ns → CarriedAll vs (ns.map PyData.str)
  | _, _, .nil => .nil
  | _, _, .cons y t r => .cons (.str y t) (ss_carried r)
section
variable {prog : Program}
theorem eq_strsK {a b : Addr} {xs ys : List Value} {ns ms : List PySem.Str} {Q : Value → Shared → Prop} (ha : s.heap.IsList a xs.toArray) (hb : s.heap.IsList b ys.toArray) (hi : StrsAre xs ns) (hj : StrsAre ys ms) (ok : ns.all PyData.strOk = true) (ok' : ms.all PyData.strOk = true) (hu : A.units + 64 < cLine) (h : Q (.bool (decide (ns = ms))) s) :
    wpAny (model prog w) A (compareOp .Eq (.ref a) (.ref b)) Q E s :=
  eq_dataH_same (reads_newData ha (ss_carried hi)) (reads_newData hb (ss_carried hj)) (ss_shaped _ ok) (ss_shaped _ ok') hu (SeqAt.noMix_of_shape (.list .str) rfl _ _ (list_map_has fun _ => rfl) (list_map_has fun _ => rfl)) (by rw [ss_same]; exact h)
theorem ne_strsK {a b : Addr} {xs ys : List Value} {ns ms : List PySem.Str} {Q : Value → Shared → Prop} (ha : s.heap.IsList a xs.toArray) (hb : s.heap.IsList b ys.toArray) (hi : StrsAre xs ns) (hj : StrsAre ys ms) (ok : ns.all PyData.strOk = true) (ok' : ms.all PyData.strOk = true) (hu : A.units + 64 < cLine) (h : Q (.bool (!decide (ns = ms))) s) :
    wpAny (model prog w) A (compareOp .NotEq (.ref a) (.ref b)) Q E s :=
  ne_dataH_same (reads_newData ha (ss_carried hi)) (reads_newData hb (ss_carried hj)) (ss_shaped _ ok) (ss_shaped _ ok') hu (SeqAt.noMix_of_shape (.list .str) rfl _ _ (list_map_has fun _ => rfl) (list_map_has fun _ => rfl)) (by rw [ss_same]; exact h)
end
section
local macro_rules | `(tactic| k_room) => `(tactic| ((try simp only [depth_under_make, depth_under_kw, depth_in1, depth_deeper, depth_caller]); first | decide | (have hrl : recursionLimit = 1000 := rfl; omega) ))
local macro_rules | `(tactic| walk_at "compareOp In int ref") => `(tactic| (k_here; k_dflt (refine' in_setK ?F ?X ?l ?k ?f ?n ?_; (case F => k_asm); (case X => k_asm); (case l => k_is); (case k => decide +kernel); (case f => rfl); (case n => decide +kernel); k_whole)))
local macro_rules | `(tactic| walk_at "getMethod ref") => `(tactic| (k_here; k_dflt (refine' getMethod_dictK ?F ?X ?l ?k ?_; (case F => k_asm); (case X => k_asm); (case l => k_is); (case k => decide +kernel); k_whole)))
local macro_rules | `(tactic| walk_at "call builtin:dict.get") => `(tactic| (k_here; k_dflt (refine' get_dictKs ?F ?X ?l ?k ?s ?n ?_ ?_; (case F => k_asm); (case X => k_asm); (case l => k_is); (case k => decide +kernel); (case s => decide +kernel); (case n => decide +kernel); (all_goals k_whole); (all_goals intros))))
local macro_rules | `(tactic| walk_at "eval Name") => `(tactic| (k_here; k_dflt (refine' ld ?k1 ?k2 ?_; (case k1 => k_asm); (case k2 => assumption); k_whole)))
local macro_rules | `(tactic| walk_at "subscriptTail Name BinOp ref int") => `(tactic| (k_here; k_dflt (refine' item_cases ?N ?m ?a ?b ?c ?_ ?hs; (case hs => with_unfolding_all rfl); (case N => k_asm); (case m => k_mem); (case a => omega); (case b => (simp only [List.length_cons, List.length_nil]; omega)); (case c => exact Nat.le_of_ble_eq_true rfl); k_whole); (simp only [AllAt]); (repeat' (first | exact trivial | refine ⟨fun _ => ?_, ?_⟩))))
local macro_rules | `(tactic| walk_at "k_tl") => `(tactic| (intro p hp; repeat (first | exact hp | refine List.Mem.tail _ ?_)))
local macro_rules | `(tactic| walk_at "m_mem") => `(tactic| (with_reducible first | assumption | exact List.Mem.head _ | (refine List.Mem.tail _ ?_; walk_at "m_mem")))
local macro_rules | `(tactic| walk_at "call builtin:len") => `(tactic| (k_here; k_dflt (refine' len_intsN ?N ?m ?i ?b ?_; (case N => k_asm); (case m => walk_at "m_mem"); (case i => assumption); (case b => omega); k_whole)))
local macro_rules | `(tactic| walk_at "subscriptTail Name Name ref int") => `(tactic| (k_here; k_dflt (refine' item_intsN ?N ?m ?i ?a ?b ?c ?_ ?hs; (case hs => with_unfolding_all rfl); (case N => k_asm); (case m => walk_at "m_mem"); (case i => assumption); (case a => omega); (case b => omega); (case c => omega); k_whole); intro _))
local macro_rules | `(tactic| walk_at "exec While") => `(tactic| (refine Stop.go ?_))
local macro_rules | `(tactic| walk_at "exec While Compare cons nil") => `(tactic| (refine Stop.go ?_))
section
local macro_rules | `(tactic| walk_at "exec For") => `(tactic| (refine Stop.go ?_))
local macro_rules | `(tactic| walk_at "exec For Name Call") => `(tactic| (refine Stop.go ?_))
local macro_rules | `(tactic| walk_at "exec For Name Call cons nil") => `(tactic| (refine Stop.go ?_))
local macro_rules | `(tactic| walk_at "exec For Name Name") => `(tactic| (refine Stop.go ?_))
local macro_rules | `(tactic| walk_at "exec For Name Name cons nil") => `(tactic| (refine Stop.go ?_))
local macro_rules | `(tactic| walk_at "eval ListComp") => `(tactic| (refine Stop.go ?_))
local macro_rules | `(tactic| walk_at "exec Assign cons ListComp") => `(tactic| (refine Stop.go ?_))
local macro_rules | `(tactic| k_all) => `(tactic| exact fun p hp => Nat.ne_of_lt ((by assumption : ∀ p ∈ _, p.1 < _) p hp))
local macro_rules | `(tactic| walk_at "call builtin:list.append") => `(tactic| (k_here; k_dflt (refine' append_K ?k1 ?k2 ?k3 ?_ ?z; (case k1 => k_asm); (case k2 => k_asm); (case k3 => k_upd); (case z => (rw [sizeLine_eq, List.size_toArray]; omega)); k_whole); intro h' F' N'; (try k_sweep)))
local macro_rules | `(tactic| walk_at "loadName") => `(tactic| (k_here; k_dflt (refine' wpAny_loadName_local ?a ?b ?k1 ?k2 ?_; (case a => rfl); (case b => rfl); (case k1 => exact Fr.ns (by k_asm)); (case k2 => assumption); k_whole)))
local macro_rules | `(tactic| k_all) => `(tactic| exact (by assumption : ∀ p ∈ _, p.1 ≠ _))
section
local macro_rules | `(tactic| walk_at "eval Name") => `(tactic| (k_here; k_dflt (first
  | (refine' nameX_L ?k1 ?k2 ?_ ?a ?b ?c; (case a => rfl); (case b => rfl); (case c => decide); (case k1 => k_asm); (case k2 => assumption); k_whole)
  | (refine' nameX_C ?N ?hc ?hm ?hd ?_ ?a ?b ?c; (case a => rfl); (case b => rfl); (case c => decide); (case N => k_asm); (case hc => rfl); (case hm => walk_at "m_mem"); (case hd => assumption); k_whole))))
local macro_rules | `(tactic| walk_at "eval Name") => `(tactic| (k_here; (with_reducible show wpAny _ _ (eval (Expr.Name _ _) (compEnvC _ _ _ _)) _ _ _); k_dflt (first | refine kcf_cell (by k_asm) (by rfl) (by k_mem) (by k_asm) ?_ | refine LCgL.ld_own (by k_asm) (by k_mem) (by assumption) (by assumption) ?_ | refine LCgL.ld_global (by k_asm) (by k_asm) (by k_asm) (by k_is) ?_ | refine LCgL.ld_built (by k_asm) (by k_asm) (by k_asm) (by k_is) (by boot_by_name) (by decide) ?_)))
theorem law_3 {oc1 : Obj} {cv : Option Value} {g : Obj → List (Addr × Obj)} {A₀ : Around} {h₀ : Heap} {L : Addr} {m mg mb : PySem.Str → Option Value} {news : List (Addr × Obj)} {p : Program} {loose : List PySem.Str} {mean : ExcName → Option Value} {name qual : PySem.Str} {params : Arguments} {body : List PySem.Stmt} {scope : Scope} {dV kV doc pm cdv ct oc : Value} {an od : Option Addr} {osl : Array (Option Value)}
  (B : Below A₀ h₀ [] h₀) (F : Fr h₀ L s.heap m) (X₀ : (KF w.params).In h₀) (N : News h₀ L s.heap news) (T : Top p loose mean mg mb h₀) (hroom : A₀.depth < 340) (hh : A₀.handled = none)
  (hK : (KF w.params).lookup 185 = some ⟨oc, od, .func (fnOf name qual params body scope dV kV doc pm an cdv ct), osl⟩) (U : UpdF (L + 1) oc1 news g) (hdc : oc1.data = .cell cv) (d : Addr) (ws : List Value) (ds : List Int) (e : Nat) (hd : (d, PySem.W.listOf ws.toArray e) ∈ news) (hi : IntsAre ws ds) (hlen : ds.length = 8) (hb : ∀ x ∈ ds, 0 ≤ x ∧ x < 1000000) (hv : m "drawn" = some (.ref d)) :
  wpAny (model PySem.Challenge.rw_us0017_01.prog w) (A₀.deeper (envOfC qual scope L 185 cdv)) (exec (body.getD 2 (.Pass default)) (envOfC qual scope L 185 cdv)) (CutEnd fun s' => ∃ h₂ tk₂ D ys n oc2, s' = { s with heap := h₂, toks := tk₂ } ∧ Fr h₀ L h₂ m ∧ News h₀ L h₂ ((D, PySem.W.listOf (ys : List Value).toArray n) :: g oc2) ∧ LCg.Off1 D news ∧ oc2.data = .cell (some (.ref D)) ∧ StrsAre ys (ds.map meantS)) E s := by
  revert X₀; k_fill; intro X₀
  revert F N
  refine law_unpackL (P := fun body scope qual cdv => Fr h₀ L s.heap m → News h₀ L s.heap news → wpAny (model PySem.Challenge.rw_us0017_01.prog w) (A₀.deeper (envOfC qual scope L 185 cdv)) (exec (body.getD 2 (.Pass default)) (envOfC qual scope L 185 cdv)) (CutEnd fun s' => ∃ h₂ tk₂ D ys n oc2, s' = { s with heap := h₂, toks := tk₂ } ∧ Fr h₀ L h₂ m ∧ News h₀ L h₂ ((D, PySem.W.listOf (ys : List Value).toArray n) :: g oc2) ∧ LCg.Off1 D news ∧ oc2.data = .cell (some (.ref D)) ∧ StrsAre ys (ds.map meantS)) E s) hK ?_
  intro F N
  clear hK
  (try dsimp only [lawL, lawS, lawQ, lawC, getBody, getScope, getQual, getCd, List.getD, List.getElem?_cons_zero, List.getElem?_cons_succ, Option.getD])
  (try k_fold)
  repeat walk1
  unfold Stop
  refine wpAny_Assign_Name ?_
  refine LCg.ListComp_U F (by with_unfolding_all rfl) (by decide) (by rfl) (by decide) (by rfl) ?_
  repeat walk1
  have hwl := hi.length
  refine LCg.CompSrc.ledger hh F N hd (by rw [List.size_toArray, sizeLine_eq]; omega) ?_
  intro gg
  refine compRest_J (fun i ys nw => nw = news ∧ StrsAre ys ((ds.take i).map meantS)) ?_ ⟨rfl, .nil⟩ ?_
  · rintro i ys nw v I oI C oC D m₄ h₆ tk₆ E' hi' ⟨rfl, hys⟩ hP hNs hx F₆ N₆ off3 ne3
    obtain ⟨k, t, rfl, hk⟩ := IntsAre.at hi i v (by simpa using hP)
    have hkb := hb k (List.mem_of_getElem? hk)
    repeat walk1
    refine T_ask B F₆ X₀ N₆ T (frDeeper B.stack) rfl rfl (Nat.lt_trans (roomDeeper hroom) (by decide)) hh k t hkb.1 hkb.2 ?_
    intro a h₈ tk₈ t1 t2 F₈ N₈ lt₈
    repeat walk1
    refine LCg.CompEnd.intro F₈ N₈ _ (fun p hp => .tail _ hp) off3 (.inr ⟨_, hd, rfl, _, rfl⟩) ⟨rfl, ?_⟩
    rw [List.take_add_one, hk, List.map_append]
    exact StrsAre.snoc hys _ _
  · rintro ys nw ⟨rfl, hys⟩ D h₇ tk₇ F₇ N₇ off1
    have e1 : ds.take ws.toArray.size = ds := List.take_of_length_le (by rw [List.size_toArray, hwl]; exact Nat.le_refl _)
    rw [e1] at hys
    have hne : @Ne Nat D (L + 1) := Ne.symm (off1_mem _ off1 _ (updF_self U))
    refine storeX_C F₇ N₇ rfl (.tail hne U) hdc ?_
    intro h₈ oc2 F₈ N₈ hd2
    exact ⟨rfl, _, _, D, ys, _, oc2, rfl, F₈, N₈, off1, hd2, hys⟩
theorem law_4 {oc3 oc1 : Obj} {cv : Option Value} {g : Obj → List (Addr × Obj)} {A₀ : Around} {h₀ : Heap} {L : Addr} {m mg mb : PySem.Str → Option Value} {news : List (Addr × Obj)} {p : Program} {loose : List PySem.Str} {mean : ExcName → Option Value} {name qual : PySem.Str} {params : Arguments} {body : List PySem.Stmt} {scope : Scope} {dV kV doc pm cdv ct oc : Value} {an od : Option Addr} {osl : Array (Option Value)}
  (B : Below A₀ h₀ [] h₀) (F : Fr h₀ L s.heap m) (X₀ : (KF w.params).In h₀) (N : News h₀ L s.heap news) (T : Top p loose mean mg mb h₀) (hroom : A₀.depth < 340) (hh : A₀.handled = none)
  (hK : (KF w.params).lookup 185 = some ⟨oc, od, .func (fnOf name qual params body scope dV kV doc pm an cdv ct), osl⟩) (U : UpdF (L + 3) oc3 news g) (hdc : oc3.data = .cell cv) (nm : Addr) (h1 : (L + 1, oc1) ∈ news) (h1d : oc1.data = .cell (some (.ref nm))) (ys : List Value) (ns : List PySem.Str) (e : Nat) (hn : (nm, PySem.W.listOf ys.toArray e) ∈ news) (hi : StrsAre ys ns) (hlen : ns.length = 8) :
  wpAny (model PySem.Challenge.rw_us0017_01.prog w) (A₀.deeper (envOfC qual scope L 185 cdv)) (exec (body.getD 3 (.Pass default)) (envOfC qual scope L 185 cdv)) (CutEnd fun s' => ∃ h₂ tk₂ D rs blk n o2, s' = { s with heap := h₂, toks := tk₂ } ∧ Fr h₀ L h₂ m ∧ News h₀ L h₂ ((D, PySem.W.listOf (rs : List Value).toArray n) :: (blk ++ g o2)) ∧ (∀ p ∈ blk ++ news, @Ne Nat p.1 D) ∧ (∀ p ∈ blk, ∀ q ∈ news, @Ne Nat p.1 q.1) ∧ o2.data = .cell (some (.ref D)) ∧ ShelvesOK blk rs ns 5) E s := by
  revert X₀; k_fill; intro X₀
  revert F N
  refine law_unpackL (P := fun body scope qual cdv => Fr h₀ L s.heap m → News h₀ L s.heap news → wpAny (model PySem.Challenge.rw_us0017_01.prog w) (A₀.deeper (envOfC qual scope L 185 cdv)) (exec (body.getD 3 (.Pass default)) (envOfC qual scope L 185 cdv)) (CutEnd fun s' => ∃ h₂ tk₂ D rs blk n o2, s' = { s with heap := h₂, toks := tk₂ } ∧ Fr h₀ L h₂ m ∧ News h₀ L h₂ ((D, PySem.W.listOf (rs : List Value).toArray n) :: (blk ++ g o2)) ∧ (∀ p ∈ blk ++ news, @Ne Nat p.1 D) ∧ (∀ p ∈ blk, ∀ q ∈ news, @Ne Nat p.1 q.1) ∧ o2.data = .cell (some (.ref D)) ∧ ShelvesOK blk rs ns 5) E s) hK ?_
  intro F N
  clear hK
  (try dsimp only [lawL, lawS, lawQ, lawC, getBody, getScope, getQual, getCd, List.getD, List.getElem?_cons_zero, List.getElem?_cons_succ, Option.getD])
  (try k_fold)

  repeat walk1
  unfold Stop
  refine wpAny_Assign_Name ?_
  refine LCg.ListComp_U F (by with_unfolding_all rfl) (by decide) (by rfl) (by decide) (by rfl) ?_
  repeat walk1
  (rename Fr _ _ _ _ => kF); (rename News _ _ _ _ => kN)
  refine LCg.CompSrc.range (n := 5) hh kF kN (by assumption) (by decide +kernel) (by decide +kernel) (by rw [sizeLine_eq]; omega) ?_
  intro gg
  refine compRest_J (fun i vs nw => ∃ blk, nw = blk ++ news ∧ (∀ p ∈ blk, ∀ q ∈ news, @Ne Nat p.1 q.1) ∧ ShelvesOK blk vs ns i) ?_ ⟨[], rfl, fun _ hp => (nomatch hp), rfl, fun j hj => (nomatch hj)⟩ ?_
  · rintro i vs nw v I oI C oC D m₄ h₆ tk₆ E' hi' ⟨blk, rfl, hdis, hsh⟩ ⟨t, rfl⟩ hNs hx F₆ N₆ off3 ne3
    have h1' : (L + 1, oc1) ∈ blk ++ news := List.mem_append_right _ h1
    have hn' : (nm, PySem.W.listOf ys.toArray e) ∈ blk ++ news := List.mem_append_right _ hn
    have ei : (1 : Int) + (i : Int) = ((i + 1 : Nat) : Int) := by omega
    rw [ei] at hx
    iterate 5 (walk1)
    refine lcf_cell (c := L + 1) (o := oc1) N₆ (by rfl) (.tail _ (.tail _ (.tail _ h1'))) h1d ?_ (by rfl) (by rfl)
    iterate 4 walk1
    refine T_shelf B F₆ X₀ N₆ T (frDeeper B.stack) rfl rfl (Nat.lt_trans (roomDeeper hroom) (by decide)) hh nm ys ns e (i + 1) t (.tail _ (.tail _ (.tail _ hn'))) hi hlen ⟨by omega, by omega⟩ ?_
    intro h₈ tk₈ st refs n blk' BB F₈ N₈ lo hi8 hok
    repeat walk1
    have hmono : ∀ p ∈ blk', p ∈ (st, PySem.W.listOf refs.toArray n) :: blk' := fun p hp => .tail _ hp
    have hB : ∀ p ∈ blk ++ news, @LT.lt Nat _ p.1 BB := fun p hp => lo p (.tail _ (.tail _ (.tail _ hp)))
    refine LCg.CompEnd.intro F₈ N₈ ((st, PySem.W.listOf refs.toArray n) :: (blk' ++ (blk ++ news))) ?_ (off3_of ?_) trivial ⟨(st, PySem.W.listOf refs.toArray n) :: (blk' ++ blk), by simp, ?_, hsh.snoc (b := (st, PySem.W.listOf refs.toArray n) :: (blk' ++ blk)) (fun p hp => .tail _ (List.mem_append_right _ hp)) (.head _) (hok.mono fun p hp => .tail _ (List.mem_append_left _ hp))⟩
    · intro p hp
      simp only [List.mem_cons, List.mem_append] at hp ⊢
      rcases hp with h | h | h | h | h | h | h
      · exact .inr (.inr (.inl h))
      · exact .inr (.inr (.inr (.inl h)))
      · exact .inr (.inr (.inr (.inr (.inl h))))
      · exact .inl h
      · exact .inr (.inl h)
      · exact .inr (.inr (.inr (.inr (.inr (.inl h)))))
      · exact .inr (.inr (.inr (.inr (.inr (.inr h)))))
    · intro p hp
      rw [← List.cons_append] at hp
      rcases List.mem_append.mp hp with h | h
      · have h2 := hi8 p h
        exact ⟨Nat.ne_of_gt (Nat.lt_trans (lo _ (.head _)) h2), Nat.ne_of_gt (Nat.lt_trans (lo _ (.tail _ (.head _))) h2), Nat.ne_of_gt (Nat.lt_trans (lo _ (.tail _ (.tail _ (.head _)))) h2)⟩
      · exact off3_mem off3 p h
    · intro p hp q hq
      rw [← List.cons_append] at hp
      rcases List.mem_append.mp hp with h | h
      · exact Nat.ne_of_gt (Nat.lt_trans (hB q (List.mem_append_right _ hq)) (hi8 p h))
      · exact hdis p h q hq
  · rintro rs nw ⟨blk, rfl, hdis, hsh⟩ D h₇ tk₇ F₇ N₇ off1
    have hoff := off1_mem _ off1
    have hne : @Ne Nat D (L + 3) := Ne.symm (hoff _ (List.mem_append_right _ (updF_self U)))
    have hb3 : ∀ p ∈ blk, @Ne Nat p.1 (L + 3) := fun p hp => hdis p hp _ (updF_self U)
    refine storeX_C F₇ N₇ rfl (.tail hne (updF_app U hb3)) hdc ?_
    intro h₈ oc2 F₈ N₈ hd2
    exact ⟨rfl, _, _, D, rs, blk, _, oc2, rfl, F₈, N₈, hoff, hdis, hd2, hsh⟩
section
local macro_rules | `(tactic| walk_at "call ref") => `(tactic| (refine Stop.go ?_))
local macro_rules | `(tactic| k_mem) => `(tactic| (with_reducible first | assumption | exact List.mem_cons_self | (refine List.mem_cons_of_mem _ ?_; k_mem)))
local macro_rules | `(tactic| walk_at "m_mem") => `(tactic| k_mem)
local macro_rules | `(tactic| k_upd) => `(tactic| exact updOf (by assumption))
local macro_rules | `(tactic| walk_at "subscriptTail Name Name ref int") => `(tactic| (k_here; k_dflt (refine' item_strsN ?N ?m ?i ?a ?b ?_ ?hs; (case hs => with_unfolding_all rfl); (case N => k_asm); (case m => walk_at "m_mem"); (case i => assumption); (case a => omega); (case b => assumption); k_whole); intro _))
local macro_rules | `(tactic| walk_at "compareOp In str ref") => `(tactic| (k_here; k_dflt (refine' in_list_strs ?l ?i ?_; (case l => (refine' isListN ?N ?m; (case N => k_asm); (case m => walk_at "m_mem"))); (case i => assumption); k_whole)))
local macro_rules | `(tactic| walk_at "call builtin:list.index") => `(tactic| (k_here; k_dflt (refine' index_strs ?N ?m ?i ?l ?k ?_; (case N => k_asm); (case m => walk_at "m_mem"); (case i => assumption); (case l => omega); (case k => assumption); k_whole)))
local macro_rules | `(tactic| walk_at "compareOp NotEq ref ref") => `(tactic| (refine Stop.go ?_))
local macro_rules | `(tactic| walk_at "compareOp Eq ref ref") => `(tactic| (refine Stop.go ?_))
theorem law_e4  {A₀ : Around} {h₀ : Heap} {L : Addr} {m mg mb : PySem.Str → Option Value} {news : List (Addr × Obj)} {p : Program} {loose : List PySem.Str} {mean : ExcName → Option Value} {name qual : PySem.Str} {params : Arguments} {body : List PySem.Stmt} {scope : Scope} {dV kV doc pm cdv ct oc : Value} {an od : Option Addr} {osl : Array (Option Value)}
  (B : Below A₀ h₀ [] h₀) (F : Fr h₀ L s.heap m) (X₀ : (KF w.params).In h₀) (N : News h₀ L s.heap news) (T : Top p loose mean mg mb h₀) (hroom : A₀.depth < 340) (hh : A₀.handled = none)
  (hK : (KF w.params).lookup 185 = some ⟨oc, od, .func (fnOf name qual params body scope dV kV doc pm an cdv ct), osl⟩)  :
  wpAny (model PySem.Challenge.rw_us0017_01.prog w) (A₀.deeper (envOfC qual scope L 185 cdv)) (exec (body.getD 4 (.Pass default)) (envOfC qual scope L 185 cdv)) (CutEnd fun s' => ∃ h₂ tk₂ D, s' = { s with heap := h₂, toks := tk₂ } ∧ Fr h₀ L h₂ (setM m "lasts" (.ref D)) ∧ News h₀ L h₂ ((D, PySem.W.listOf #[] 0) :: news) ∧ (∀ p ∈ news, @LT.lt Nat _ p.1 D)) E s := by
  revert X₀; k_fill; intro X₀
  revert F N
  refine law_unpackL (P := fun body scope qual cdv => Fr h₀ L s.heap m → News h₀ L s.heap news → wpAny (model PySem.Challenge.rw_us0017_01.prog w) (A₀.deeper (envOfC qual scope L 185 cdv)) (exec (body.getD 4 (.Pass default)) (envOfC qual scope L 185 cdv)) (CutEnd fun s' => ∃ h₂ tk₂ D, s' = { s with heap := h₂, toks := tk₂ } ∧ Fr h₀ L h₂ (setM m "lasts" (.ref D)) ∧ News h₀ L h₂ ((D, PySem.W.listOf #[] 0) :: news) ∧ (∀ p ∈ news, @LT.lt Nat _ p.1 D)) E s) hK ?_
  intro F N
  clear hK
  (try dsimp only [lawL, lawS, lawQ, lawC, getBody, getScope, getQual, getCd, List.getD, List.getElem?_cons_zero, List.getElem?_cons_succ, Option.getD])
  (try k_fold)

  repeat walk1
  exact ⟨rfl, _, _, _, rfl, by assumption, by assumption, by assumption⟩
theorem law_e6  {A₀ : Around} {h₀ : Heap} {L : Addr} {m mg mb : PySem.Str → Option Value} {news : List (Addr × Obj)} {p : Program} {loose : List PySem.Str} {mean : ExcName → Option Value} {name qual : PySem.Str} {params : Arguments} {body : List PySem.Stmt} {scope : Scope} {dV kV doc pm cdv ct oc : Value} {an od : Option Addr} {osl : Array (Option Value)}
  (B : Below A₀ h₀ [] h₀) (F : Fr h₀ L s.heap m) (X₀ : (KF w.params).In h₀) (N : News h₀ L s.heap news) (T : Top p loose mean mg mb h₀) (hroom : A₀.depth < 340) (hh : A₀.handled = none)
  (hK : (KF w.params).lookup 185 = some ⟨oc, od, .func (fnOf name qual params body scope dV kV doc pm an cdv ct), osl⟩)  :
  wpAny (model PySem.Challenge.rw_us0017_01.prog w) (A₀.deeper (envOfC qual scope L 185 cdv)) (exec (body.getD 6 (.Pass default)) (envOfC qual scope L 185 cdv)) (CutEnd fun s' => ∃ h₂ tk₂ D, s' = { s with heap := h₂, toks := tk₂ } ∧ Fr h₀ L h₂ (setM m "rows" (.ref D)) ∧ News h₀ L h₂ ((D, PySem.W.listOf #[] 0) :: news) ∧ (∀ p ∈ news, @LT.lt Nat _ p.1 D)) E s := by
  revert X₀; k_fill; intro X₀
  revert F N
  refine law_unpackL (P := fun body scope qual cdv => Fr h₀ L s.heap m → News h₀ L s.heap news → wpAny (model PySem.Challenge.rw_us0017_01.prog w) (A₀.deeper (envOfC qual scope L 185 cdv)) (exec (body.getD 6 (.Pass default)) (envOfC qual scope L 185 cdv)) (CutEnd fun s' => ∃ h₂ tk₂ D, s' = { s with heap := h₂, toks := tk₂ } ∧ Fr h₀ L h₂ (setM m "rows" (.ref D)) ∧ News h₀ L h₂ ((D, PySem.W.listOf #[] 0) :: news) ∧ (∀ p ∈ news, @LT.lt Nat _ p.1 D)) E s) hK ?_
  intro F N
  clear hK
  (try dsimp only [lawL, lawS, lawQ, lawC, getBody, getScope, getQual, getCd, List.getD, List.getElem?_cons_zero, List.getElem?_cons_succ, Option.getD])
  (try k_fold)

  repeat walk1
  exact ⟨rfl, _, _, _, rfl, by assumption, by assumption, by assumption⟩
theorem law_e7  {A₀ : Around} {h₀ : Heap} {L : Addr} {m mg mb : PySem.Str → Option Value} {news : List (Addr × Obj)} {p : Program} {loose : List PySem.Str} {mean : ExcName → Option Value} {name qual : PySem.Str} {params : Arguments} {body : List PySem.Stmt} {scope : Scope} {dV kV doc pm cdv ct oc : Value} {an od : Option Addr} {osl : Array (Option Value)}
  (B : Below A₀ h₀ [] h₀) (F : Fr h₀ L s.heap m) (X₀ : (KF w.params).In h₀) (N : News h₀ L s.heap news) (T : Top p loose mean mg mb h₀) (hroom : A₀.depth < 340) (hh : A₀.handled = none)
  (hK : (KF w.params).lookup 185 = some ⟨oc, od, .func (fnOf name qual params body scope dV kV doc pm an cdv ct), osl⟩)  :
  wpAny (model PySem.Challenge.rw_us0017_01.prog w) (A₀.deeper (envOfC qual scope L 185 cdv)) (exec (body.getD 7 (.Pass default)) (envOfC qual scope L 185 cdv)) (CutEnd fun s' => ∃ h₂ tk₂ D, s' = { s with heap := h₂, toks := tk₂ } ∧ Fr h₀ L h₂ (setM m "depths" (.ref D)) ∧ News h₀ L h₂ ((D, PySem.W.listOf #[] 0) :: news) ∧ (∀ p ∈ news, @LT.lt Nat _ p.1 D)) E s := by
  revert X₀; k_fill; intro X₀
  revert F N
  refine law_unpackL (P := fun body scope qual cdv => Fr h₀ L s.heap m → News h₀ L s.heap news → wpAny (model PySem.Challenge.rw_us0017_01.prog w) (A₀.deeper (envOfC qual scope L 185 cdv)) (exec (body.getD 7 (.Pass default)) (envOfC qual scope L 185 cdv)) (CutEnd fun s' => ∃ h₂ tk₂ D, s' = { s with heap := h₂, toks := tk₂ } ∧ Fr h₀ L h₂ (setM m "depths" (.ref D)) ∧ News h₀ L h₂ ((D, PySem.W.listOf #[] 0) :: news) ∧ (∀ p ∈ news, @LT.lt Nat _ p.1 D)) E s) hK ?_
  intro F N
  clear hK
  (try dsimp only [lawL, lawS, lawQ, lawC, getBody, getScope, getQual, getCd, List.getD, List.getElem?_cons_zero, List.getElem?_cons_succ, Option.getD])
  (try k_fold)

  repeat walk1
  exact ⟨rfl, _, _, _, rfl, by assumption, by assumption, by assumption⟩
theorem law_e8  {A₀ : Around} {h₀ : Heap} {L : Addr} {m mg mb : PySem.Str → Option Value} {news : List (Addr × Obj)} {p : Program} {loose : List PySem.Str} {mean : ExcName → Option Value} {name qual : PySem.Str} {params : Arguments} {body : List PySem.Stmt} {scope : Scope} {dV kV doc pm cdv ct oc : Value} {an od : Option Addr} {osl : Array (Option Value)}
  (B : Below A₀ h₀ [] h₀) (F : Fr h₀ L s.heap m) (X₀ : (KF w.params).In h₀) (N : News h₀ L s.heap news) (T : Top p loose mean mg mb h₀) (hroom : A₀.depth < 340) (hh : A₀.handled = none)
  (hK : (KF w.params).lookup 185 = some ⟨oc, od, .func (fnOf name qual params body scope dV kV doc pm an cdv ct), osl⟩)  :
  wpAny (model PySem.Challenge.rw_us0017_01.prog w) (A₀.deeper (envOfC qual scope L 185 cdv)) (exec (body.getD 8 (.Pass default)) (envOfC qual scope L 185 cdv)) (CutEnd fun s' => ∃ h₂ tk₂ D, s' = { s with heap := h₂, toks := tk₂ } ∧ Fr h₀ L h₂ (setM m "octets" (.ref D)) ∧ News h₀ L h₂ ((D, PySem.W.listOf #[] 0) :: news) ∧ (∀ p ∈ news, @LT.lt Nat _ p.1 D)) E s := by
  revert X₀; k_fill; intro X₀
  revert F N
  refine law_unpackL (P := fun body scope qual cdv => Fr h₀ L s.heap m → News h₀ L s.heap news → wpAny (model PySem.Challenge.rw_us0017_01.prog w) (A₀.deeper (envOfC qual scope L 185 cdv)) (exec (body.getD 8 (.Pass default)) (envOfC qual scope L 185 cdv)) (CutEnd fun s' => ∃ h₂ tk₂ D, s' = { s with heap := h₂, toks := tk₂ } ∧ Fr h₀ L h₂ (setM m "octets" (.ref D)) ∧ News h₀ L h₂ ((D, PySem.W.listOf #[] 0) :: news) ∧ (∀ p ∈ news, @LT.lt Nat _ p.1 D)) E s) hK ?_
  intro F N
  clear hK
  (try dsimp only [lawL, lawS, lawQ, lawC, getBody, getScope, getQual, getCd, List.getD, List.getElem?_cons_zero, List.getElem?_cons_succ, Option.getD])
  (try k_fold)

  repeat walk1
  exact ⟨rfl, _, _, _, rfl, by assumption, by assumption, by assumption⟩
theorem law_e5  {A₀ : Around} {h₀ : Heap} {L : Addr} {m mg mb : PySem.Str → Option Value} {news : List (Addr × Obj)} {p : Program} {loose : List PySem.Str} {mean : ExcName → Option Value} {name qual : PySem.Str} {params : Arguments} {body : List PySem.Stmt} {scope : Scope} {dV kV doc pm cdv ct oc : Value} {an od : Option Addr} {osl : Array (Option Value)}
  (B : Below A₀ h₀ [] h₀) (F : Fr h₀ L s.heap m) (X₀ : (KF w.params).In h₀) (N : News h₀ L s.heap news) (T : Top p loose mean mg mb h₀) (hroom : A₀.depth < 340) (hh : A₀.handled = none)
  (hK : (KF w.params).lookup 185 = some ⟨oc, od, .func (fnOf name qual params body scope dV kV doc pm an cdv ct), osl⟩)  :
  wpAny (model PySem.Challenge.rw_us0017_01.prog w) (A₀.deeper (envOfC qual scope L 185 cdv)) (exec (body.getD 5 (.Pass default)) (envOfC qual scope L 185 cdv)) (CutEnd fun s' => ∃ h₂ tk₂ D o, s' = { s with heap := h₂, toks := tk₂ } ∧ Fr h₀ L h₂ (setM m "latest" (.ref D)) ∧ News h₀ L h₂ ((D, o) :: news) ∧ (∀ p ∈ news, @LT.lt Nat _ p.1 D) ∧ (D == sysModules) = false ∧ o.IsDictOf (PySem.strKind PySem.Challenge.rw_us0017_01.prog w) []) E s := by
  revert X₀; k_fill; intro X₀
  revert F N
  refine law_unpackL (P := fun body scope qual cdv => Fr h₀ L s.heap m → News h₀ L s.heap news → wpAny (model PySem.Challenge.rw_us0017_01.prog w) (A₀.deeper (envOfC qual scope L 185 cdv)) (exec (body.getD 5 (.Pass default)) (envOfC qual scope L 185 cdv)) (CutEnd fun s' => ∃ h₂ tk₂ D o, s' = { s with heap := h₂, toks := tk₂ } ∧ Fr h₀ L h₂ (setM m "latest" (.ref D)) ∧ News h₀ L h₂ ((D, o) :: news) ∧ (∀ p ∈ news, @LT.lt Nat _ p.1 D) ∧ (D == sysModules) = false ∧ o.IsDictOf (PySem.strKind PySem.Challenge.rw_us0017_01.prog w) []) E s) hK ?_
  intro F N
  clear hK
  (try dsimp only [lawL, lawS, lawQ, lawC, getBody, getScope, getQual, getCd, List.getD, List.getElem?_cons_zero, List.getElem?_cons_succ, Option.getD])
  (try k_fold)

  repeat walk1
  exact ⟨rfl, _, _, _, _, rfl, by assumption, by assumption, by assumption, by assumption, by assumption⟩
theorem lb_1 {oc1 ock oca : Obj} {A₀ : Around} {h₀ : Heap} {L : Addr} {m mg mb : PySem.Str → Option Value} {news : List (Addr × Obj)} {p : Program} {loose : List PySem.Str} {mean : ExcName → Option Value} {name qual : PySem.Str} {params : Arguments} {body : List PySem.Stmt} {scope : Scope} {dV kV doc pm cdv ct oc : Value} {an od : Option Addr} {osl : Array (Option Value)}
  (B : Below A₀ h₀ [] h₀) (F : Fr h₀ L s.heap m) (X₀ : (KF w.params).In h₀) (N : News h₀ L s.heap news) (T : Top p loose mean mg mb h₀) (hroom : A₀.depth < 340) (hh : A₀.handled = none)
  (hK : (KF w.params).lookup 185 = some ⟨oc, od, .func (fnOf name qual params body scope dV kV doc pm an cdv ct), osl⟩) (kk : Nat) (tkk : Tok) (hk4 : (L + 4, ock) ∈ news) (hk4d : ock.data = .cell (some (.int (kk : Int) tkk))) (hkk : kk < 8) (ya : PySem.Str) (ta : Tok) (ha5 : (L + 5, oca) ∈ news) (ha5d : oca.data = .cell (some (.str ya ta))) (nm : Addr) (h1 : (L + 1, oc1) ∈ news) (h1d : oc1.data = .cell (some (.ref nm))) (ys : List Value) (ns : List PySem.Str) (e : Nat) (hn : (nm, PySem.W.listOf ys.toArray e) ∈ news) (hi : StrsAre ys ns) (hlen : ns.length = 8) (hx : ns[kk]? = some ya) :
  wpAny (model PySem.Challenge.rw_us0017_01.prog w) (A₀.deeper (envOfC qual scope L 185 cdv)) (exec ((subSts (body.getD 9 (.Pass default))).getD 1 (.Pass default)) (envOfC qual scope L 185 cdv)) (CutEnd fun s' => ∃ h₂ tk₂, s' = { s with heap := h₂, toks := tk₂ } ∧ Fr h₀ L h₂ m ∧ News h₀ L h₂ news) E s := by
  revert X₀; k_fill; intro X₀
  revert F N
  refine law_unpackL (P := fun body scope qual cdv => Fr h₀ L s.heap m → News h₀ L s.heap news → wpAny (model PySem.Challenge.rw_us0017_01.prog w) (A₀.deeper (envOfC qual scope L 185 cdv)) (exec ((subSts (body.getD 9 (.Pass default))).getD 1 (.Pass default)) (envOfC qual scope L 185 cdv)) (CutEnd fun s' => ∃ h₂ tk₂, s' = { s with heap := h₂, toks := tk₂ } ∧ Fr h₀ L h₂ m ∧ News h₀ L h₂ news) E s) hK ?_
  intro F N
  clear hK
  (try dsimp only [subSts, lawL, lawS, lawQ, lawC, getBody, getScope, getQual, getCd, List.getD, List.getElem?_cons_zero, List.getElem?_cons_succ, Option.getD])
  (try k_fold)

  repeat walk1
  · rename_i hb; simp at hb
  · repeat walk1
    show CutEnd _ Flow.next _
    exact ⟨rfl, _, _, rfl, by assumption, by assumption⟩
theorem lb_10 {ock oca oc3 : Obj} {A₀ : Around} {h₀ : Heap} {L : Addr} {m mg mb : PySem.Str → Option Value} {news : List (Addr × Obj)} {p : Program} {loose : List PySem.Str} {mean : ExcName → Option Value} {name qual : PySem.Str} {params : Arguments} {body : List PySem.Stmt} {scope : Scope} {dV kV doc pm cdv ct oc : Value} {an od : Option Addr} {osl : Array (Option Value)}
  (B : Below A₀ h₀ [] h₀) (F : Fr h₀ L s.heap m) (X₀ : (KF w.params).In h₀) (N : News h₀ L s.heap news) (T : Top p loose mean mg mb h₀) (hroom : A₀.depth < 340) (hh : A₀.handled = none)
  (hK : (KF w.params).lookup 185 = some ⟨oc, od, .func (fnOf name qual params body scope dV kV doc pm an cdv ct), osl⟩) (kk : Nat) (tkk : Tok) (hk4 : (L + 4, ock) ∈ news) (hk4d : ock.data = .cell (some (.int (kk : Int) tkk))) (hkk : kk < 8) (ya : PySem.Str) (ta : Tok) (ha5 : (L + 5, oca) ∈ news) (ha5d : oca.data = .cell (some (.str ya ta))) (sh : Addr) (refs : List Value) (ns : List PySem.Str) (es : Nat) (h3 : (L + 3, oc3) ∈ news) (h3d : oc3.data = .cell (some (.ref sh))) (hsh : (sh, PySem.W.listOf refs.toArray es) ∈ news) (hok : ShelvesOK news refs ns 5) :
  wpAny (model PySem.Challenge.rw_us0017_01.prog w) (A₀.deeper (envOfC qual scope L 185 cdv)) (exec ((subSts (body.getD 9 (.Pass default))).getD 10 (.Pass default)) (envOfC qual scope L 185 cdv)) (CutEnd fun s' => ∃ t, ∃ h₂ tk₂, s' = { s with heap := h₂, toks := tk₂ } ∧ Fr h₀ L h₂ (setM m "lacking" (.int ((((List.range 5).filter (fun z => !((shelfAt ns (z + 1) kk).any (· == ya)))).map (fun z => (2 : Int) ^ z)).sum) t)) ∧ News h₀ L h₂ news) E s := by
  revert X₀; k_fill; intro X₀
  revert F N
  refine law_unpackL (P := fun body scope qual cdv => Fr h₀ L s.heap m → News h₀ L s.heap news → wpAny (model PySem.Challenge.rw_us0017_01.prog w) (A₀.deeper (envOfC qual scope L 185 cdv)) (exec ((subSts (body.getD 9 (.Pass default))).getD 10 (.Pass default)) (envOfC qual scope L 185 cdv)) (CutEnd fun s' => ∃ t, ∃ h₂ tk₂, s' = { s with heap := h₂, toks := tk₂ } ∧ Fr h₀ L h₂ (setM m "lacking" (.int ((((List.range 5).filter (fun z => !((shelfAt ns (z + 1) kk).any (· == ya)))).map (fun z => (2 : Int) ^ z)).sum) t)) ∧ News h₀ L h₂ news) E s) hK ?_
  intro F N
  clear hK
  (try dsimp only [subSts, lawL, lawS, lawQ, lawC, getBody, getScope, getQual, getCd, List.getD, List.getElem?_cons_zero, List.getElem?_cons_succ, Option.getD])
  (try k_fold)

  repeat walk1
  unfold Stop
  refine LCt.ListComp_T F (by with_unfolding_all rfl) (by decide) (by rfl) (by decide) (by rfl) ?_
  repeat walk1
  (rename Fr _ _ _ _ => kF); (rename News _ _ _ _ => kN)
  refine LCt.CompSrcT.range (n := 5) hh kF kN (by assumption) (by decide +kernel) (by decide +kernel) (by rw [sizeLine_eq]; omega) ?_
  intro gg
  refine compRestT_J (fun i vs nw => nw = news ∧ IntsAre vs (((List.range i).filter (fun z => !((shelfAt ns (z + 1) kk).any (· == ya)))).map (fun z => (2 : Int) ^ z))) ?_ ⟨rfl, .nil⟩ ?_
  · clear kF kN
    rintro i vs nw v I oI C oC D m₄ h₆ tk₆ E' hi' ⟨rfl, hys⟩ ⟨t, rfl⟩ hNs hx F₆ N₆ off3 ne3
    obtain ⟨st, rs, e, hr1, hr2, hr3⟩ := hok.2 i hi'
    obtain ⟨b, ws, e', hb1, hb2, hb3⟩ := hr3.2 kk (by omega)
    have ei : (0 : Int) + (i : Int) = (i : Int) := by omega
    rw [ei] at hx
    repeat walk1
    refine item_refsN (k := i) (by assumption) (.tail _ (.tail _ (.tail _ hsh))) (by omega) hr1 ?_
    repeat walk1
    refine item_refsN (k := kk) (by assumption) (.tail _ (.tail _ (.tail _ hr2))) (by omega) hb1 ?_
    repeat walk1
    refine notin_list_strs (isListN (by assumption) (.tail _ (.tail _ (.tail _ hb2)))) hb3 ?_
    repeat walk1
    · rename_i hc
      refine LCg.CompEnd.intro F₆ N₆ _ (fun p hp => hp) off3 trivial ⟨rfl, ?_⟩
      rw [List.range_succ, List.filter_append, List.map_append]
      simpa [hc] using hys
    · rename_i hc
      repeat walk1
      refine LCg.CompEnd.intro F₆ N₆ _ (fun p hp => hp) off3 trivial ⟨rfl, ?_⟩
      rw [List.range_succ, List.filter_append, List.map_append]
      have e1 : (List.filter (fun z => !((shelfAt ns (z + 1) kk).any (· == ya))) [i]).map (fun z => (2 : Int) ^ z) = [1 * 2 ^ (i : Int).toNat] := by
        simp only [List.filter_cons, List.filter_nil, hc, Bool.not_false, if_true, List.map_cons, List.map_nil, Int.toNat_natCast, Int.one_mul]
      rw [e1]
      exact IntsAre.append hys (.cons _ _ .nil)
  · rintro ys nw ⟨rfl, hys⟩ D h₇ tk₇ F₇ N₇ off1
    walk1
    refine LSm.sum_ints F₇ N₇ hh (isListN N₇ (.head _)) hys ?_
    intro h₈ tk₈ t₈ F₈ N₈
    repeat walk1
    (rename Fr _ _ _ _ => kF); (rename News _ _ _ _ => kN)
    exact ⟨rfl, _, _, _, rfl, kF, newsSub kN fun p hp => .tail _ hp⟩
theorem lb_11  {A₀ : Around} {h₀ : Heap} {L : Addr} {m mg mb : PySem.Str → Option Value} {news : List (Addr × Obj)} {p : Program} {loose : List PySem.Str} {mean : ExcName → Option Value} {name qual : PySem.Str} {params : Arguments} {body : List PySem.Stmt} {scope : Scope} {dV kV doc pm cdv ct oc : Value} {an od : Option Addr} {osl : Array (Option Value)}
  (B : Below A₀ h₀ [] h₀) (F : Fr h₀ L s.heap m) (X₀ : (KF w.params).In h₀) (N : News h₀ L s.heap news) (T : Top p loose mean mg mb h₀) (hroom : A₀.depth < 340) (hh : A₀.handled = none)
  (hK : (KF w.params).lookup 185 = some ⟨oc, od, .func (fnOf name qual params body scope dV kV doc pm an cdv ct), osl⟩) (d : Nat) (hd5 : d ≤ 5) (tl : Tok) (hml : m "lacking" = some (.int ((2 : Int) ^ d - 1) tl)) (wd : Int) (hw : 0 ≤ wd ∧ wd ≤ 5) (td : Tok) (hm1 : m "dots" = some (.int wd td)) (hfw : flagsS d = wordsS wd) :
  wpAny (model PySem.Challenge.rw_us0017_01.prog w) (A₀.deeper (envOfC qual scope L 185 cdv)) (exec ((subSts (body.getD 9 (.Pass default))).getD 11 (.Pass default)) (envOfC qual scope L 185 cdv)) (CutEnd fun s' => ∃ h₂ tk₂, s' = { s with heap := h₂, toks := tk₂ } ∧ Fr h₀ L h₂ m ∧ News h₀ L h₂ news) E s := by
  revert X₀; k_fill; intro X₀
  revert F N
  refine law_unpackL (P := fun body scope qual cdv => Fr h₀ L s.heap m → News h₀ L s.heap news → wpAny (model PySem.Challenge.rw_us0017_01.prog w) (A₀.deeper (envOfC qual scope L 185 cdv)) (exec ((subSts (body.getD 9 (.Pass default))).getD 11 (.Pass default)) (envOfC qual scope L 185 cdv)) (CutEnd fun s' => ∃ h₂ tk₂, s' = { s with heap := h₂, toks := tk₂ } ∧ Fr h₀ L h₂ m ∧ News h₀ L h₂ news) E s) hK ?_
  intro F N
  clear hK
  (try dsimp only [subSts, lawL, lawS, lawQ, lawC, getBody, getScope, getQual, getCd, List.getD, List.getElem?_cons_zero, List.getElem?_cons_succ, Option.getD])
  (try k_fold)

  repeat walk1
  unfold Stop
  refine T_flags B (by assumption) X₀ (by assumption) T (frDeeper B.stack) rfl rfl (Nat.lt_trans (roomDeeper hroom) (by decide)) hh d hd5 tl ?_
  intro h₁ tk₁ t₁ F₁ N₁
  repeat walk1
  unfold Stop
  refine T_words B F₁ X₀ N₁ T (frDeeper B.stack) rfl rfl (Nat.lt_trans (roomDeeper hroom) (by decide)) hh wd td hw ?_
  intro h₂ tk₂ t₂ F₂ N₂
  rw [hfw]
  repeat walk1
  · rename_i hb; simp at hb
  · repeat walk1
    show CutEnd _ Flow.next _
    exact ⟨rfl, _, _, rfl, by assumption, by assumption⟩
theorem lb_12 {ock oce : Obj} {cv : Option Value} {g : Obj → List (Addr × Obj)} {A₀ : Around} {h₀ : Heap} {L : Addr} {m mg mb : PySem.Str → Option Value} {news : List (Addr × Obj)} {p : Program} {loose : List PySem.Str} {mean : ExcName → Option Value} {name qual : PySem.Str} {params : Arguments} {body : List PySem.Stmt} {scope : Scope} {dV kV doc pm cdv ct oc : Value} {an od : Option Addr} {osl : Array (Option Value)}
  (B : Below A₀ h₀ [] h₀) (F : Fr h₀ L s.heap m) (X₀ : (KF w.params).In h₀) (N : News h₀ L s.heap news) (T : Top p loose mean mg mb h₀) (hroom : A₀.depth < 340) (hh : A₀.handled = none)
  (hK : (KF w.params).lookup 185 = some ⟨oc, od, .func (fnOf name qual params body scope dV kV doc pm an cdv ct), osl⟩) (kk : Nat) (tkk : Tok) (hk4 : (L + 4, ock) ∈ news) (hk4d : ock.data = .cell (some (.int (kk : Int) tkk))) (hkk : kk < 8) (U : UpdF (L + 6) oce news g) (hdc : oce.data = .cell cv) (d : Addr) (ws : List Value) (ds : List Int) (e : Nat) (hd : (d, PySem.W.listOf ws.toArray e) ∈ news) (hi : IntsAre ws ds) (hlen : ds.length = 8) (hb : ∀ x ∈ ds, 0 ≤ x ∧ x < 1000000) (hv : m "drawn" = some (.ref d)) :
  wpAny (model PySem.Challenge.rw_us0017_01.prog w) (A₀.deeper (envOfC qual scope L 185 cdv)) (exec ((subSts (body.getD 9 (.Pass default))).getD 12 (.Pass default)) (envOfC qual scope L 185 cdv)) (CutEnd fun s' => ∃ h₂ tk₂ o2 t2 z, s' = { s with heap := h₂, toks := tk₂ } ∧ Fr h₀ L h₂ m ∧ News h₀ L h₂ (g o2) ∧ o2.data = .cell (some (.str z t2)) ∧ (z.cps.toList = [10] ∨ z.cps.toList = [13] ∨ z.cps.toList = [13, 10])) E s := by
  revert X₀; k_fill; intro X₀
  revert F N
  refine law_unpackL (P := fun body scope qual cdv => Fr h₀ L s.heap m → News h₀ L s.heap news → wpAny (model PySem.Challenge.rw_us0017_01.prog w) (A₀.deeper (envOfC qual scope L 185 cdv)) (exec ((subSts (body.getD 9 (.Pass default))).getD 12 (.Pass default)) (envOfC qual scope L 185 cdv)) (CutEnd fun s' => ∃ h₂ tk₂ o2 t2 z, s' = { s with heap := h₂, toks := tk₂ } ∧ Fr h₀ L h₂ m ∧ News h₀ L h₂ (g o2) ∧ o2.data = .cell (some (.str z t2)) ∧ (z.cps.toList = [10] ∨ z.cps.toList = [13] ∨ z.cps.toList = [13, 10])) E s) hK ?_
  intro F N
  clear hK
  (try dsimp only [subSts, lawL, lawS, lawQ, lawC, getBody, getScope, getQual, getCd, List.getD, List.getElem?_cons_zero, List.getElem?_cons_succ, Option.getD])
  (try k_fold)

  have hx3 : 0 ≤ (ds.getD (kk : Int).toNat 0 + (kk : Int)).fmod 3 ∧ (ds.getD (kk : Int).toNat 0 + (kk : Int)).fmod 3 < 3 := ⟨Int.fmod_nonneg_of_pos _ (by decide), Int.fmod_lt_of_pos _ (by decide)⟩
  repeat walk1
  all_goals
    (rename Fr _ _ _ _ => kF); (rename News _ _ _ _ => kN)
    (rename (∀ p, p ∈ news → _) => hne)
    have hne' := Nat.ne_of_gt (hne _ (updF_self U))
    repeat walk1
    refine storeX_C kF kN rfl (.tail hne' U) hdc ?_
    intro h₈ oc2 F₈ N₈ hd2
    refine ⟨rfl, _, _, oc2, _, _, rfl, F₈, newsSub N₈ (fun p hp => .tail _ hp), hd2, ?_⟩
  · exact .inl (by decide)
  · exact .inr (.inl (by decide))
  · exact .inr (.inr (by decide))
theorem lb_13 {oce : Obj} {A₀ : Around} {h₀ : Heap} {L : Addr} {m mg mb : PySem.Str → Option Value} {news : List (Addr × Obj)} {p : Program} {loose : List PySem.Str} {mean : ExcName → Option Value} {name qual : PySem.Str} {params : Arguments} {body : List PySem.Stmt} {scope : Scope} {dV kV doc pm cdv ct oc : Value} {an od : Option Addr} {osl : Array (Option Value)}
  (B : Below A₀ h₀ [] h₀) (F : Fr h₀ L s.heap m) (X₀ : (KF w.params).In h₀) (N : News h₀ L s.heap news) (T : Top p loose mean mg mb h₀) (hroom : A₀.depth < 340) (hh : A₀.handled = none)
  (hK : (KF w.params).lookup 185 = some ⟨oc, od, .func (fnOf name qual params body scope dV kV doc pm an cdv ct), osl⟩) (rw_ : Addr) (rv : List Value) (rs : List PySem.Str) (er : Nat) (hrw : (rw_, PySem.W.listOf rv.toArray er) ∈ news) (hir : StrsAre rv rs) (hrl : rs.length ≤ 8) (hmrw : m "rows" = some (.ref rw_)) (sp : Nat) (tsp : Tok) (hmsp : m "spot" = some (.int (sp : Int) tsp)) (z : PySem.Str) (tz : Tok) (he6 : (L + 6, oce) ∈ news) (he6d : oce.data = .cell (some (.str z tz))) (hz : z.cps.toList = [10] ∨ z.cps.toList = [13] ∨ z.cps.toList = [13, 10]) (hspl : sp ≤ rs.length) (hrr : ∀ r ∈ rs, r.length ≤ 20 ∧ ∃ cs, r.cps.toList = 46 :: cs ∧ ∀ c ∈ cs, c ≠ 10 ∧ c ≠ 13) :
  wpAny (model PySem.Challenge.rw_us0017_01.prog w) (A₀.deeper (envOfC qual scope L 185 cdv)) (exec ((subSts (body.getD 9 (.Pass default))).getD 13 (.Pass default)) (envOfC qual scope L 185 cdv)) (CutEnd fun s' => ∃ h₂ tk₂ D sv e2, s' = { s with heap := h₂, toks := tk₂ } ∧ Fr h₀ L h₂ (setM m "sent" (.ref D)) ∧ News h₀ L h₂ ((D, PySem.W.listOf (sv : List Value).toArray e2) :: news) ∧ (∀ p ∈ news, @LT.lt Nat _ p.1 D) ∧ StrsAre sv (((rs.take sp).map fun r => (⟨(46 :: r.cps.toList).toArray⟩ : PySem.Str)) ++ [⟨#[]⟩])) E s := by
  revert X₀; k_fill; intro X₀
  revert F N
  refine law_unpackL (P := fun body scope qual cdv => Fr h₀ L s.heap m → News h₀ L s.heap news → wpAny (model PySem.Challenge.rw_us0017_01.prog w) (A₀.deeper (envOfC qual scope L 185 cdv)) (exec ((subSts (body.getD 9 (.Pass default))).getD 13 (.Pass default)) (envOfC qual scope L 185 cdv)) (CutEnd fun s' => ∃ h₂ tk₂ D sv e2, s' = { s with heap := h₂, toks := tk₂ } ∧ Fr h₀ L h₂ (setM m "sent" (.ref D)) ∧ News h₀ L h₂ ((D, PySem.W.listOf (sv : List Value).toArray e2) :: news) ∧ (∀ p ∈ news, @LT.lt Nat _ p.1 D) ∧ StrsAre sv (((rs.take sp).map fun r => (⟨(46 :: r.cps.toList).toArray⟩ : PySem.Str)) ++ [⟨#[]⟩])) E s) hK ?_
  intro F N
  clear hK
  (try dsimp only [subSts, lawL, lawS, lawQ, lawC, getBody, getScope, getQual, getCd, List.getD, List.getElem?_cons_zero, List.getElem?_cons_succ, Option.getD])
  (try k_fold)

  repeat walk1
  unfold Stop
  refine LCg.ListComp_U F (by with_unfolding_all rfl) (by decide) (by rfl) (by decide) (by rfl) ?_
  repeat walk1
  refine kms_slice_lit (zs := rv.take sp) (by assumption) (by assumption) (isListN (by assumption) hrw) (by kmk_part) (by kmk_part) (pick_to _ _) ?_ (by with_unfolding_all rfl) (by kmk_pure) (by rw [List.size_toArray, hir.length, sizeLine_eq]; omega)
  intro D₁ h₁ F₁ N₁ l₁
  repeat walk1
  have hrvl := hir.length
  refine LCg.CompSrc.ledger hh F₁ N₁ (.head _) (by rw [List.size_toArray, sizeLine_eq, List.length_take]; omega) ?_
  intro gg
  refine compRest_J (fun i ys nw => nw = _ ∧ StrsAre ys (((rs.take sp).take i).map (fun r => r ++ z))) ?_ ⟨rfl, .nil⟩ ?_
  · rintro i ys nw v I oI C oC D m₄ h₆ tk₆ E' hi' ⟨rfl, hys⟩ hP hNs hx F₆ N₆ off3 ne3
    obtain ⟨t, y, hy, rfl⟩ := strs_get (strs_take hir sp) (by simpa using hP)
    have hyl := (hrr y (List.mem_of_mem_take (List.mem_of_getElem? hy))).1
    have hzl : z.length ≤ 2 := by
      show z.cps.size ≤ 2
      rw [← Array.length_toList]
      rcases hz with h | h | h <;> rw [h] <;> decide
    iterate 2 walk1
    refine lcf_cell (c := L + 6) (o := oce) N₆ (by rfl) (.tail _ (.tail _ (.tail _ (.tail _ (he6))))) he6d ?_ (by rfl) (by rfl)
    walk1
    (rename Fr _ _ _ _ => kF); (rename News _ _ _ _ => kN)
    refine LCg.CompEnd.intro kF kN _ (fun p hp => hp) off3 (.inr ⟨_, .head _, rfl, _, rfl⟩) ⟨rfl, ?_⟩
    rw [List.take_add_one, hy, List.map_append]
    exact StrsAre.snoc hys _ _
  · rintro ys nw ⟨rfl, hys⟩ D h₇ tk₇ F₇ N₇ off1
    walk1
    have etk : (rs.take sp).take (rv.take sp).toArray.size = rs.take sp := List.take_of_length_le (by rw [List.size_toArray, (strs_take hir sp).length]; exact Nat.le_refl _)
    rw [etk] at hys
    have htl : (rs.take sp).length ≤ 8 := Nat.le_trans (List.length_take_le' _ _) hrl
    have htr : ∀ r ∈ rs.take sp, r.length ≤ 20 ∧ ∃ cs, r.cps.toList = 46 :: cs ∧ ∀ c ∈ cs, c ≠ 10 ∧ c ≠ 13 := fun r hr => hrr r (List.mem_of_mem_take hr)
    obtain ⟨x, mid, out, hx, hs1, hs2, hs3, q2, q1, hsplit⟩ := quote_facts (rs.take sp) z hz htl htr
    refine join_N N₇ (.head _) hys (by decide) (join_room htl hz fun r hr => (htr r hr).1) ?_
    intro t₉ k₉
    have hx' : Txt.join (PySem.Str.ofString "") ((rs.take sp).map (fun r => r ++ z)) = x := hx
    rw [hx']
    repeat walk1
    unfold Stop
    refine T_quote B (by assumption) X₀ (by assumption) T (frDeeper B.stack) rfl rfl (Nat.lt_trans (roomDeeper hroom) (by decide)) hh x _ mid out hs1 hs2 hs3 q2 q1 ?_
    intro h₁₀ tk₁₀ t₁₀ F₁₀ N₁₀
    have hlt : ∀ p ∈ news, @LT.lt Nat _ p.1 h₁₀.objs.size := fun p hp => Heap.lt_size (N₁₀ p (.tail _ (.tail _ hp))).1
    repeat walk1
    (rename StrsAre (strValues _) _ => hsv)
    have hE : ∀ (l : List (PySem.Str × Tok)), l.map (·.1) = Txt.split { cps := out.toArray } (PySem.Str.ofString "\r\n") → l.map (·.1) = (List.map (fun r => (⟨(46 :: r.cps.toList).toArray⟩ : PySem.Str)) (List.take sp rs)) ++ [⟨#[]⟩] := fun l e => e.trans hsplit
    (rename List.map _ _ = Txt.split _ _ => heq)
    rw [hE _ heq] at hsv
    (rename Fr _ _ _ _ => kF); (rename News _ _ _ _ => kN)
    exact ⟨rfl, _, _, _, _, 0, rfl, kF, newsSub kN (fun p hp => by
      rcases List.mem_cons.mp hp with rfl | hp
      · exact .head _
      · exact .tail _ (.tail _ (.tail _ hp))), hlt, hsv⟩
theorem lb_14 {oca : Obj} {A₀ : Around} {h₀ : Heap} {L : Addr} {m mg mb : PySem.Str → Option Value} {news : List (Addr × Obj)} {p : Program} {loose : List PySem.Str} {mean : ExcName → Option Value} {name qual : PySem.Str} {params : Arguments} {body : List PySem.Stmt} {scope : Scope} {dV kV doc pm cdv ct oc : Value} {an od : Option Addr} {osl : Array (Option Value)}
  (B : Below A₀ h₀ [] h₀) (F : Fr h₀ L s.heap m) (X₀ : (KF w.params).In h₀) (N : News h₀ L s.heap news) (T : Top p loose mean mg mb h₀) (hroom : A₀.depth < 340) (hh : A₀.handled = none)
  (hK : (KF w.params).lookup 185 = some ⟨oc, od, .func (fnOf name qual params body scope dV kV doc pm an cdv ct), osl⟩) (ya : PySem.Str) (ta : Tok) (ha5 : (L + 5, oca) ∈ news) (ha5d : oca.data = .cell (some (.str ya ta))) (rw_ : Addr) (rv : List Value) (rs : List PySem.Str) (er : Nat) (hrw : (rw_, PySem.W.listOf rv.toArray er) ∈ news) (hir : StrsAre rv rs) (hrl : rs.length ≤ 8) (hmrw : m "rows" = some (.ref rw_)) (sp : Nat) (tsp : Tok) (hmsp : m "spot" = some (.int (sp : Int) tsp)) (se : Addr) (sv : List Value) (ss : List PySem.Str) (esn : Nat) (hse : (se, PySem.W.listOf sv.toArray esn) ∈ news) (his : StrsAre sv (ss ++ [⟨#[]⟩])) (hsl : ss.length ≤ 8) (hmse : m "sent" = some (.ref se)) (hyl : ya.length ≤ 100) (hspl : sp ≤ 8) :
  wpAny (model PySem.Challenge.rw_us0017_01.prog w) (A₀.deeper (envOfC qual scope L 185 cdv)) (exec ((subSts (body.getD 9 (.Pass default))).getD 14 (.Pass default)) (envOfC qual scope L 185 cdv)) (CutEnd fun s' => ∃ h₂ tk₂ D nv e2, s' = { s with heap := h₂, toks := tk₂ } ∧ Fr h₀ L h₂ (setM m "rows" (.ref D)) ∧ News h₀ L h₂ ((D, PySem.W.listOf (nv : List Value).toArray e2) :: news) ∧ (∀ p ∈ news, @LT.lt Nat _ p.1 D) ∧ StrsAre nv (("." ++ ya) :: (ss ++ rs.drop (sp + 1)))) E s := by
  revert X₀; k_fill; intro X₀
  revert F N
  refine law_unpackL (P := fun body scope qual cdv => Fr h₀ L s.heap m → News h₀ L s.heap news → wpAny (model PySem.Challenge.rw_us0017_01.prog w) (A₀.deeper (envOfC qual scope L 185 cdv)) (exec ((subSts (body.getD 9 (.Pass default))).getD 14 (.Pass default)) (envOfC qual scope L 185 cdv)) (CutEnd fun s' => ∃ h₂ tk₂ D nv e2, s' = { s with heap := h₂, toks := tk₂ } ∧ Fr h₀ L h₂ (setM m "rows" (.ref D)) ∧ News h₀ L h₂ ((D, PySem.W.listOf (nv : List Value).toArray e2) :: news) ∧ (∀ p ∈ news, @LT.lt Nat _ p.1 D) ∧ StrsAre nv (("." ++ ya) :: (ss ++ rs.drop (sp + 1)))) E s) hK ?_
  intro F N
  clear hK
  (try dsimp only [subSts, lawL, lawS, lawQ, lawC, getBody, getScope, getQual, getCd, List.getD, List.getElem?_cons_zero, List.getElem?_cons_succ, Option.getD])
  (try k_fold)

  have his' := his.length
  have hirl := hir.length
  rw [List.length_append] at his'
  repeat walk1
  refine kms_slice_lit (zs := sv.take ss.length) (by assumption) (by assumption) (isListN (by assumption) (.tail _ hse)) (by kmk_part) (by kmk_part) (pick_last _ _ his') ?_ (by with_unfolding_all rfl) (by kmk_pure) (by rw [List.size_toArray, his', sizeLine_eq]; simp; omega)
  intro D₁ h₁ F₁ N₁ l₁
  repeat walk1
  refine add_listsN F₁ N₁ (.tail _ (.head _)) (.head _) (by rw [sizeLine_eq, List.length_take]; simp only [List.length_cons, List.length_nil]; omega) ?_
  intro D₂ h₂ F₂ N₂ l₂
  repeat walk1
  refine kms_slice_lit (zs := rv.drop (sp + 1)) (by assumption) (by assumption) (isListN (by assumption) (.tail _ (.tail _ (.tail _ hrw)))) (by kmk_part) (by kmk_part) (pick_from _ (sp + 1)) ?_ (by with_unfolding_all rfl) (by kmk_pure) (by rw [List.size_toArray, hirl, sizeLine_eq]; omega)
  intro D₃ h₃ F₃ N₃ l₃
  repeat walk1
  refine add_listsN F₃ N₃ (.tail _ (.head _)) (.head _) (by rw [sizeLine_eq, List.length_append, List.length_take, List.length_drop]; simp only [List.length_cons, List.length_nil]; omega) ?_
  intro D₄ h₄ F₄ N₄ l₄
  repeat walk1
  (rename Fr _ _ _ _ => kF); (rename News _ _ _ _ => kN)
  refine ⟨rfl, _, _, D₄, ?nv, 0, rfl, kF, newsSub kN ?n1, ?n2, ?n3⟩
  case n1 =>
    intro p hp
    rcases List.mem_cons.mp hp with rfl | hp
    · exact .head _
    · repeat (first | exact hp | refine List.Mem.tail _ ?_)
  case n2 =>
    intro p hp
    exact l₄ p (by repeat (first | exact hp | refine List.Mem.tail _ ?_))
  case n3 =>
    have h1 := strs_take his ss.length
    rw [List.take_left] at h1
    have h2 : ((("." : PySem.Str) ++ ya) :: (ss ++ rs.drop (sp + 1))) = [("." : PySem.Str) ++ ya] ++ ss ++ rs.drop (sp + 1) := by simp
    rw [h2]
    exact strs_app (strs_app (.cons _ _ .nil) h1) (strs_drop hir (sp + 1))
theorem lb_15 {ock oc3 ocw : Obj} {cv : Option Value} {g : Obj → List (Addr × Obj)} {A₀ : Around} {h₀ : Heap} {L : Addr} {m mg mb : PySem.Str → Option Value} {news : List (Addr × Obj)} {p : Program} {loose : List PySem.Str} {mean : ExcName → Option Value} {name qual : PySem.Str} {params : Arguments} {body : List PySem.Stmt} {scope : Scope} {dV kV doc pm cdv ct oc : Value} {an od : Option Addr} {osl : Array (Option Value)}
  (B : Below A₀ h₀ [] h₀) (F : Fr h₀ L s.heap m) (X₀ : (KF w.params).In h₀) (N : News h₀ L s.heap news) (T : Top p loose mean mg mb h₀) (hroom : A₀.depth < 340) (hh : A₀.handled = none)
  (hK : (KF w.params).lookup 185 = some ⟨oc, od, .func (fnOf name qual params body scope dV kV doc pm an cdv ct), osl⟩) (kk : Nat) (tkk : Tok) (hk4 : (L + 4, ock) ∈ news) (hk4d : ock.data = .cell (some (.int (kk : Int) tkk))) (hkk : kk < 8) (sh : Addr) (refs : List Value) (ns : List PySem.Str) (es : Nat) (h3 : (L + 3, oc3) ∈ news) (h3d : oc3.data = .cell (some (.ref sh))) (hsh : (sh, PySem.W.listOf refs.toArray es) ∈ news) (bb : List (Addr × Obj)) (hbb : ∀ p ∈ bb, p ∈ news) (hok : ShelvesOK bb refs ns 5) (U : UpdF (L + 7) ocw news g) (hdc : ocw.data = .cell cv) :
  wpAny (model PySem.Challenge.rw_us0017_01.prog w) (A₀.deeper (envOfC qual scope L 185 cdv)) (exec ((subSts (body.getD 9 (.Pass default))).getD 15 (.Pass default)) (envOfC qual scope L 185 cdv)) (CutEnd fun s' => ∃ h₂ tk₂ o2 b ws e2, s' = { s with heap := h₂, toks := tk₂ } ∧ Fr h₀ L h₂ m ∧ News h₀ L h₂ (g o2) ∧ o2.data = .cell (some (.ref b)) ∧ (b, PySem.W.listOf (ws : List Value).toArray e2) ∈ bb ∧ StrsAre ws (shelfAt ns 5 (kk + 1))) E s := by
  revert X₀; k_fill; intro X₀
  revert F N
  refine law_unpackL (P := fun body scope qual cdv => Fr h₀ L s.heap m → News h₀ L s.heap news → wpAny (model PySem.Challenge.rw_us0017_01.prog w) (A₀.deeper (envOfC qual scope L 185 cdv)) (exec ((subSts (body.getD 9 (.Pass default))).getD 15 (.Pass default)) (envOfC qual scope L 185 cdv)) (CutEnd fun s' => ∃ h₂ tk₂ o2 b ws e2, s' = { s with heap := h₂, toks := tk₂ } ∧ Fr h₀ L h₂ m ∧ News h₀ L h₂ (g o2) ∧ o2.data = .cell (some (.ref b)) ∧ (b, PySem.W.listOf (ws : List Value).toArray e2) ∈ bb ∧ StrsAre ws (shelfAt ns 5 (kk + 1))) E s) hK ?_
  intro F N
  clear hK
  (try dsimp only [subSts, lawL, lawS, lawQ, lawC, getBody, getScope, getQual, getCd, List.getD, List.getElem?_cons_zero, List.getElem?_cons_succ, Option.getD])
  (try k_fold)

  obtain ⟨st, rs, e, hr1, hr2, hr3⟩ := hok.2 4 (by decide)
  obtain ⟨b, ws, e', hb1, hb2, hb3⟩ := hr3.2 (kk + 1) (by omega)
  repeat walk1
  refine item_refsN (k := 4) (by assumption) hsh (by omega) hr1 ?_
  repeat walk1
  refine item_refsN (k := kk + 1) (by assumption) (hbb _ hr2) (by omega) hb1 ?_
  repeat walk1
  (rename Fr _ _ _ _ => kF); (rename News _ _ _ _ => kN)
  refine storeX_C kF kN rfl U hdc ?_
  intro h₈ oc2 F₈ N₈ hd2
  exact ⟨rfl, _, _, oc2, b, ws, _, rfl, F₈, N₈, hd2, hb2, hb3⟩
theorem lb_16 {ocw : Obj} {A₀ : Around} {h₀ : Heap} {L : Addr} {m mg mb : PySem.Str → Option Value} {news : List (Addr × Obj)} {p : Program} {loose : List PySem.Str} {mean : ExcName → Option Value} {name qual : PySem.Str} {params : Arguments} {body : List PySem.Stmt} {scope : Scope} {dV kV doc pm cdv ct oc : Value} {an od : Option Addr} {osl : Array (Option Value)}
  (B : Below A₀ h₀ [] h₀) (F : Fr h₀ L s.heap m) (X₀ : (KF w.params).In h₀) (N : News h₀ L s.heap news) (T : Top p loose mean mg mb h₀) (hroom : A₀.depth < 340) (hh : A₀.handled = none)
  (hK : (KF w.params).lookup 185 = some ⟨oc, od, .func (fnOf name qual params body scope dV kV doc pm an cdv ct), osl⟩) (hun : A₀.units < 100) (rw_ : Addr) (rv : List Value) (rs : List PySem.Str) (er : Nat) (hrw : (rw_, PySem.W.listOf rv.toArray er) ∈ news) (hir : StrsAre rv rs) (hrl : rs.length ≤ 8) (hmrw : m "rows" = some (.ref rw_)) (hw7 : (L + 7, ocw) ∈ news) (b : Addr) (ws : List Value) (W : List PySem.Str) (eW : Nat) (hw7d : ocw.data = .cell (some (.ref b))) (hb : (b, PySem.W.listOf ws.toArray eW) ∈ news) (hiW : StrsAre ws W) (hsok : rs.all PyData.strOk = true) (hWl : W.length ≤ 8) (hWs : ∀ y ∈ W, y.length ≤ 20) (hrs : rs = (List.range W.length).map (fun i => dotsS (i + 1) ++ W.getD i "")) :
  wpAny (model PySem.Challenge.rw_us0017_01.prog w) (A₀.deeper (envOfC qual scope L 185 cdv)) (exec ((subSts (body.getD 9 (.Pass default))).getD 16 (.Pass default)) (envOfC qual scope L 185 cdv)) (CutEnd fun s' => ∃ h₂ tk₂, s' = { s with heap := h₂, toks := tk₂ } ∧ Fr h₀ L h₂ m ∧ News h₀ L h₂ news) E s := by
  revert X₀; k_fill; intro X₀
  revert F N
  refine law_unpackL (P := fun body scope qual cdv => Fr h₀ L s.heap m → News h₀ L s.heap news → wpAny (model PySem.Challenge.rw_us0017_01.prog w) (A₀.deeper (envOfC qual scope L 185 cdv)) (exec ((subSts (body.getD 9 (.Pass default))).getD 16 (.Pass default)) (envOfC qual scope L 185 cdv)) (CutEnd fun s' => ∃ h₂ tk₂, s' = { s with heap := h₂, toks := tk₂ } ∧ Fr h₀ L h₂ m ∧ News h₀ L h₂ news) E s) hK ?_
  intro F N
  clear hK
  (try dsimp only [subSts, lawL, lawS, lawQ, lawC, getBody, getScope, getQual, getCd, List.getD, List.getElem?_cons_zero, List.getElem?_cons_succ, Option.getD])
  (try k_fold)

  have hrg : ∀ n : Nat, n < 9 → Builtin.Range.small 0 (n : Int) 1 = true ∧ Builtin.Range.rangeSize 0 (n : Int) 1 = (n : Int) := by decide +kernel
  have hW9 := hrg W.length (by omega)
  repeat walk1
  unfold Stop
  refine LCg.ListComp_U F (by with_unfolding_all rfl) (by decide) (by rfl) (by decide) (by rfl) ?_
  repeat walk1
  refine len_listN (k := W.length) (by assumption) hb hiW.length (by omega) ?_
  intro t₀ tk₀
  repeat walk1
  (rename Fr _ _ _ _ => kF); (rename News _ _ _ _ => kN)
  refine LCg.CompSrc.range (n := W.length) hh kF kN (by assumption) hW9.1 hW9.2 (by rw [sizeLine_eq]; omega) ?_
  intro gg
  refine compRest_J (fun i ys nw => nw = news ∧ StrsAre ys ((List.range i).map (fun i => dotsS (i + 1) ++ W.getD i ""))) ?_ ⟨rfl, .nil⟩ ?_
  · clear kF kN
    rintro i vs nw v I oI C oC D m₄ h₆ tk₆ E' hi' ⟨rfl, hys⟩ ⟨t, rfl⟩ hNs hx F₆ N₆ off3 ne3
    have ei : (0 : Int) + (i : Int) = (i : Int) := by omega
    rw [ei] at hx
    have hWi : W[i]? = some (W.getD i "") := by simp [List.getD, hi']
    have hWil := hWs _ (List.mem_of_getElem? hWi)
    repeat walk1
    refine LCg.CompEnd.intro (by assumption) (by assumption) _ (fun p hp => hp) off3 trivial ⟨rfl, ?_⟩
    rw [List.range_succ, List.map_append]
    have hrep : ∀ n : Nat, n < 8 → Txt.mul (PySem.Str.ofString ".") ((n : Int) + 1) = dotsS (n + 1) := by decide +kernel
    rw [hrep i (by omega)]
    exact StrsAre.snoc hys _ _
  · rintro ys nw ⟨rfl, hys⟩ D h₇ tk₇ F₇ N₇ off1
    rw [← hrs] at hys
    repeat walk1
    unfold Stop
    refine ne_strsK (isListN N₇ (.tail _ hrw)) (isListN N₇ (.head _)) hir hys hsok hsok (by show A₀.units + 3 + 64 < 9900; omega) ?_
    rw [decide_eq_true rfl]
    repeat walk1
    (rename Fr _ _ _ _ => kF); (rename News _ _ _ _ => kN)
    show CutEnd _ Flow.next _
    exact ⟨rfl, _, _, rfl, kF, newsSub kN fun p hp => .tail _ hp⟩
theorem lb_17 {g : Obj → List (Addr × Obj)} {A₀ : Around} {h₀ : Heap} {L : Addr} {m mg mb : PySem.Str → Option Value} {news : List (Addr × Obj)} {p : Program} {loose : List PySem.Str} {mean : ExcName → Option Value} {name qual : PySem.Str} {params : Arguments} {body : List PySem.Stmt} {scope : Scope} {dV kV doc pm cdv ct oc : Value} {an od : Option Addr} {osl : Array (Option Value)}
  (B : Below A₀ h₀ [] h₀) (F : Fr h₀ L s.heap m) (X₀ : (KF w.params).In h₀) (N : News h₀ L s.heap news) (T : Top p loose mean mg mb h₀) (hroom : A₀.depth < 340) (hh : A₀.handled = none)
  (hK : (KF w.params).lookup 185 = some ⟨oc, od, .func (fnOf name qual params body scope dV kV doc pm an cdv ct), osl⟩) (dp : Int) (te : Tok) (hm2 : m "depth" = some (.int dp te)) (de : Addr) (dv : List Value) (dl : List Int) (ed : Nat) (hid : IntsAre dv dl) (hdl : dl.length ≤ 20) (hso : Sorted dl) (hmde : m "depths" = some (.ref de)) (U : UpdF de (PySem.W.listOf dv.toArray ed) news g) :
  wpAny (model PySem.Challenge.rw_us0017_01.prog w) (A₀.deeper (envOfC qual scope L 185 cdv)) (exec ((subSts (body.getD 9 (.Pass default))).getD 17 (.Pass default)) (envOfC qual scope L 185 cdv)) (CutEnd fun s' => ∃ h₂ tk₂ dv2 e2, ∃ r : Nat, s' = { s with heap := h₂, toks := tk₂ } ∧ Fr h₀ L h₂ m ∧ News h₀ L h₂ (g (PySem.W.listOf (dv2 : List Value).toArray e2)) ∧ IntsAre dv2 (dl.take r ++ (if 0 < dp then dp else 6) :: dl.drop r) ∧ r ≤ dl.length ∧ (∀ i : Nat, i < r → dl.getD i 0 ≤ (if 0 < dp then dp else 6)) ∧ (∀ i : Nat, r ≤ i → i < dl.length → (if 0 < dp then dp else 6) < dl.getD i 0)) E s := by
  revert X₀; k_fill; intro X₀
  revert F N
  refine law_unpackL (P := fun body scope qual cdv => Fr h₀ L s.heap m → News h₀ L s.heap news → wpAny (model PySem.Challenge.rw_us0017_01.prog w) (A₀.deeper (envOfC qual scope L 185 cdv)) (exec ((subSts (body.getD 9 (.Pass default))).getD 17 (.Pass default)) (envOfC qual scope L 185 cdv)) (CutEnd fun s' => ∃ h₂ tk₂ dv2 e2, ∃ r : Nat, s' = { s with heap := h₂, toks := tk₂ } ∧ Fr h₀ L h₂ m ∧ News h₀ L h₂ (g (PySem.W.listOf (dv2 : List Value).toArray e2)) ∧ IntsAre dv2 (dl.take r ++ (if 0 < dp then dp else 6) :: dl.drop r) ∧ r ≤ dl.length ∧ (∀ i : Nat, i < r → dl.getD i 0 ≤ (if 0 < dp then dp else 6)) ∧ (∀ i : Nat, r ≤ i → i < dl.length → (if 0 < dp then dp else 6) < dl.getD i 0)) E s) hK ?_
  intro F N
  clear hK
  (try dsimp only [subSts, lawL, lawS, lawQ, lawC, getBody, getScope, getQual, getCd, List.getD, List.getElem?_cons_zero, List.getElem?_cons_succ, Option.getD])
  (try k_fold)

  obtain ⟨pre, post, rfl, hg, ha, hb⟩ := U.split
  have hpp : ∀ p ∈ pre ++ post, p.1 ≠ de := fun p hp => (List.mem_append.mp hp).elim (ha p) (hb p)
  have to1 : ∀ p ∈ (de, PySem.W.listOf dv.toArray ed) :: (pre ++ post), p ∈ pre ++ (de, PySem.W.listOf dv.toArray ed) :: post := by
    intro p hp
    simp only [List.mem_cons, List.mem_append] at hp ⊢
    rcases hp with h | h | h
    · exact .inr (.inl h)
    · exact .inl h
    · exact .inr (.inr h)
  have to2 : ∀ o, ∀ p ∈ pre ++ (de, o) :: post, p ∈ (de, o) :: (pre ++ post) := by
    intro o p hp
    simp only [List.mem_cons, List.mem_append] at hp ⊢
    rcases hp with h | h | h
    · exact .inr (.inl h)
    · exact .inl h
    · exact .inr (.inr h)
  repeat walk1
  · have ed6 : (if 0 < dp then dp else 6) = dp := if_pos (by omega)
    repeat walk1
    unfold Stop
    (rename Fr _ _ _ _ => kF); (rename News _ _ _ _ => kN)
    have kN' := newsSub kN to1
    refine T_ins B (by exact kF) X₀ (by exact kN') T (frDeeper B.stack) rfl rfl (Nat.lt_trans (roomDeeper hroom) (by decide)) hh de dv dl ed dp te rfl hpp hid (by omega) hso ?_
    intro h₁ tk₁ r dv' e' F₁ N₁ hi₁ hr1 hr2 hr3
    repeat walk1
    show CutEnd _ Flow.next _
    exact ⟨rfl, _, _, _, _, r, rfl, F₁, hg _ ▸ newsSub N₁ (to2 _), by rw [ed6]; exact hi₁, hr1, by rw [ed6]; exact hr2, by rw [ed6]; exact hr3⟩
  · have ed6 : (if 0 < dp then dp else 6) = 6 := if_neg (by omega)
    repeat walk1
    unfold Stop
    (rename Fr _ _ _ _ => kF); (rename News _ _ _ _ => kN)
    have kN' := newsSub kN to1
    refine T_ins B (by exact kF) X₀ (by exact kN') T (frDeeper B.stack) rfl rfl (Nat.lt_trans (roomDeeper hroom) (by decide)) hh de dv dl ed 6 _ rfl hpp hid (by omega) hso ?_
    intro h₁ tk₁ r dv' e' F₁ N₁ hi₁ hr1 hr2 hr3
    repeat walk1
    show CutEnd _ Flow.next _
    exact ⟨rfl, _, _, _, _, r, rfl, F₁, hg _ ▸ newsSub N₁ (to2 _), by rw [ed6]; exact hi₁, hr1, by rw [ed6]; exact hr2, by rw [ed6]; exact hr3⟩
theorem lb_18 {g : Obj → List (Addr × Obj)} {A₀ : Around} {h₀ : Heap} {L : Addr} {m mg mb : PySem.Str → Option Value} {news : List (Addr × Obj)} {p : Program} {loose : List PySem.Str} {mean : ExcName → Option Value} {name qual : PySem.Str} {params : Arguments} {body : List PySem.Stmt} {scope : Scope} {dV kV doc pm cdv ct oc : Value} {an od : Option Addr} {osl : Array (Option Value)}
  (B : Below A₀ h₀ [] h₀) (F : Fr h₀ L s.heap m) (X₀ : (KF w.params).In h₀) (N : News h₀ L s.heap news) (T : Top p loose mean mg mb h₀) (hroom : A₀.depth < 340) (hh : A₀.handled = none)
  (hK : (KF w.params).lookup 185 = some ⟨oc, od, .func (fnOf name qual params body scope dV kV doc pm an cdv ct), osl⟩) (dp : Int) (te : Tok) (hm2 : m "depth" = some (.int dp te)) (ot : Addr) (ov : List Value) (eo : Nat) (hol : ov.length ≤ 1000) (hmot : m "octets" = some (.ref ot)) (U : UpdF ot (PySem.W.listOf ov.toArray eo) news g) :
  wpAny (model PySem.Challenge.rw_us0017_01.prog w) (A₀.deeper (envOfC qual scope L 185 cdv)) (exec ((subSts (body.getD 9 (.Pass default))).getD 18 (.Pass default)) (envOfC qual scope L 185 cdv)) (CutEnd fun s' => ∃ h₂ tk₂ e2, s' = { s with heap := h₂, toks := tk₂ } ∧ Fr h₀ L h₂ m ∧ News h₀ L h₂ (g (PySem.W.listOf (ov ++ [Value.int dp te]).toArray e2))) E s := by
  revert X₀; k_fill; intro X₀
  revert F N
  refine law_unpackL (P := fun body scope qual cdv => Fr h₀ L s.heap m → News h₀ L s.heap news → wpAny (model PySem.Challenge.rw_us0017_01.prog w) (A₀.deeper (envOfC qual scope L 185 cdv)) (exec ((subSts (body.getD 9 (.Pass default))).getD 18 (.Pass default)) (envOfC qual scope L 185 cdv)) (CutEnd fun s' => ∃ h₂ tk₂ e2, s' = { s with heap := h₂, toks := tk₂ } ∧ Fr h₀ L h₂ m ∧ News h₀ L h₂ (g (PySem.W.listOf (ov ++ [Value.int dp te]).toArray e2))) E s) hK ?_
  intro F N
  clear hK
  (try dsimp only [subSts, lawL, lawS, lawQ, lawC, getBody, getScope, getQual, getCd, List.getD, List.getElem?_cons_zero, List.getElem?_cons_succ, Option.getD])
  (try k_fold)

  have hmu := updF_self U
  repeat walk1
  (rename Fr _ _ _ _ => kF); (rename News _ _ _ _ => kN)
  rw [List.push_toArray] at kN
  show CutEnd _ Flow.next _
  exact ⟨rfl, _, _, _, rfl, kF, kN⟩
section
local macro_rules | `(tactic| walk_at "pad 0") => `(tactic| skip)
local macro_rules | `(tactic| walk_at "pad 1") => `(tactic| skip)
local macro_rules | `(tactic| walk_at "pad 2") => `(tactic| skip)
local macro_rules | `(tactic| walk_at "pad 3") => `(tactic| skip)
local macro_rules | `(tactic| walk_at "binaryOp Add ref ref") => `(tactic| (refine Stop.go ?_))
theorem lb_19n {oca : Obj} {g : Obj → List (Addr × Obj)} {A₀ : Around} {h₀ : Heap} {L : Addr} {m mg mb : PySem.Str → Option Value} {news : List (Addr × Obj)} {p : Program} {loose : List PySem.Str} {mean : ExcName → Option Value} {name qual : PySem.Str} {params : Arguments} {body : List PySem.Stmt} {scope : Scope} {dV kV doc pm cdv ct oc : Value} {an od : Option Addr} {osl : Array (Option Value)}
  (B : Below A₀ h₀ [] h₀) (F : Fr h₀ L s.heap m) (X₀ : (KF w.params).In h₀) (N : News h₀ L s.heap news) (T : Top p loose mean mg mb h₀) (hroom : A₀.depth < 340) (hh : A₀.handled = none)
  (hK : (KF w.params).lookup 185 = some ⟨oc, od, .func (fnOf name qual params body scope dV kV doc pm an cdv ct), osl⟩) (te : Tok) (hm2 : m "depth" = some (.int 0 te)) (ya : PySem.Str) (ta : Tok) (ha5 : (L + 5, oca) ∈ news) (ha5d : oca.data = .cell (some (.str ya ta))) (hyl : ya.length ≤ 20) (hyc : ∀ c ∈ ya.cps.toList, 64 ≤ c ∧ c < 128) (ot : Addr) (ov : List Value) (ol : List Int) (eo : Nat) (hio : IntsAre ov ol) (hol : ov.length ≤ 1000) (hmot : m "octets" = some (.ref ot)) (U : UpdF ot (PySem.W.listOf ov.toArray eo) news g) :
  wpAny (model PySem.Challenge.rw_us0017_01.prog w) (A₀.deeper (envOfC qual scope L 185 cdv)) (exec ((subSts (body.getD 9 (.Pass default))).getD 19 (.Pass default)) (envOfC qual scope L 185 cdv)) (CutEnd fun s' => ∃ h₂ tk₂ D ov2 e2 m₂, s' = { s with heap := h₂, toks := tk₂ } ∧ Fr h₀ L h₂ m₂ ∧ m₂ "octets" = some (.ref D) ∧ (∀ x : PySem.Str, x ≠ "octets" → x ≠ "sign" → m₂ x = m x) ∧ (∃ gg, News h₀ L h₂ ((D, PySem.W.listOf (ov2 : List Value).toArray e2) :: gg) ∧ (∀ p ∈ news, p.1 ≠ ot → p ∈ gg) ∧ (∀ p ∈ news, p.1 ≠ ot → @Ne Nat p.1 D)) ∧ IntsAre ov2 (ol ++ (ya.cps.size : Int) :: ya.cps.toList.flatMap (fun c => [65, ((c - 64 : Nat) : Int)]))) E s := by
  revert X₀; k_fill; intro X₀
  revert F N
  refine law_unpackL (P := fun body scope qual cdv => Fr h₀ L s.heap m → News h₀ L s.heap news → wpAny (model PySem.Challenge.rw_us0017_01.prog w) (A₀.deeper (envOfC qual scope L 185 cdv)) (exec ((subSts (body.getD 9 (.Pass default))).getD 19 (.Pass default)) (envOfC qual scope L 185 cdv)) (CutEnd fun s' => ∃ h₂ tk₂ D ov2 e2 m₂, s' = { s with heap := h₂, toks := tk₂ } ∧ Fr h₀ L h₂ m₂ ∧ m₂ "octets" = some (.ref D) ∧ (∀ x : PySem.Str, x ≠ "octets" → x ≠ "sign" → m₂ x = m x) ∧ (∃ gg, News h₀ L h₂ ((D, PySem.W.listOf (ov2 : List Value).toArray e2) :: gg) ∧ (∀ p ∈ news, p.1 ≠ ot → p ∈ gg) ∧ (∀ p ∈ news, p.1 ≠ ot → @Ne Nat p.1 D)) ∧ IntsAre ov2 (ol ++ (ya.cps.size : Int) :: ya.cps.toList.flatMap (fun c => [65, ((c - 64 : Nat) : Int)]))) E s) hK ?_
  intro F N
  clear hK
  (try dsimp only [subSts, lawL, lawS, lawQ, lawC, getBody, getScope, getQual, getCd, List.getD, List.getElem?_cons_zero, List.getElem?_cons_succ, Option.getD])
  (try k_fold)

  have hmu := updF_self U
  have hne5 : @Ne Nat (L + 5) ot := news_ne N ha5 hmu (by intro e; rw [e] at ha5d; cases ha5d)
  obtain ⟨pre, post, hn, hg, ha, hb⟩ := U.split
  have hoff : ∀ p ∈ pre ++ post, @Ne Nat p.1 ot := fun p hp => (List.mem_append.mp hp).elim (ha p) (hb p)
  have hrest : ∀ p ∈ pre ++ post, p ∈ news := fun p hp => by
    rw [hn]
    rcases List.mem_append.mp hp with h | h
    · exact List.mem_append_left _ h
    · exact List.mem_append_right _ (.tail _ h)
  have hback : ∀ p ∈ news, p.1 ≠ ot → p ∈ pre ++ post := fun p hp hne => by
    rw [hn] at hp
    rcases List.mem_append.mp hp with h | h
    · exact List.mem_append_left _ h
    · rcases List.mem_cons.mp h with rfl | h
      · exact absurd rfl hne
      · exact List.mem_append_right _ h
  repeat walk1
  unfold Stop
  (rename Fr _ _ _ _ => kF); (rename News _ _ _ _ => kN)
  have hA : (L + 5, oca) ∈ pre ++ post := hback _ ha5 hne5
  rw [hg, List.push_toArray] at kN
  have kN1 : News h₀ L _ ((ot, PySem.W.listOf (ov ++ [Value.int (ya.length : Int) _]).toArray (eo + 1)) :: (pre ++ post)) := newsSub kN (by
    intro p hp
    rcases List.mem_cons.mp hp with rfl | hp
    · exact List.mem_append_right _ (.head _)
    · rcases List.mem_append.mp hp with h | h
      · exact List.mem_append_left _ h
      · exact List.mem_append_right _ (.tail _ h))
  clear kN
  have hovl := hio.length
  refine For_cut ?_
  repeat walk1
  refine ForRun.str (fun i m' news' => ∃ D ov2 e2, news' = (D, PySem.W.listOf (ov2 : List Value).toArray e2) :: (pre ++ post) ∧ (∀ p ∈ pre ++ post, @Ne Nat p.1 D) ∧ m' "octets" = some (.ref D) ∧ (∀ x : PySem.Str, x ≠ "octets" → x ≠ "sign" → m' x = m x) ∧ ov2.length = ov.length + 1 + 2 * i ∧ IntsAre ov2 (ol ++ (ya.cps.size : Int) :: (ya.cps.toList.take i).flatMap (fun c => [65, ((c - 64 : Nat) : Int)]))) hh letGo_Name kF kN1 ?_ ?_ ?_
  · exact ⟨ot, _, _, rfl, hoff, hmot, fun _ _ _ => rfl, by simp, IntsAre.append hio (.cons _ _ .nil)⟩
  · clear kF kN1
    rintro i c u I m₁ news₁ oI h₄ tk₄ hlt hc inv F₄ N₄ off; refine hide ?_; intro goalG intoG; obtain ⟨D, ov2, e2, rfl, hD, hmo, hmr, hl2, hi2⟩ := inv; refine intoG ?_; clear intoG goalG
    have hcb := hyc c (by rw [← Array.getElem?_toList] at hc; exact List.mem_of_getElem? hc)
    have hil : i < 20 := Nat.lt_of_lt_of_le hlt hyl
    have c1 : (64 : Int) + (c : Int).fdiv 64 = 65 := by
      have : (c : Int).fdiv 64 = (c : Int) / 64 := Int.fdiv_eq_ediv_of_nonneg _ (by decide)
      omega
    have c2 : (c : Int).fmod 64 = ((c - 64 : Nat) : Int) := by
      have : (c : Int).fmod 64 = (c : Int) % 64 := Int.fmod_eq_emod_of_nonneg _ (by decide)
      omega
    repeat walk1
    unfold Stop
    (rename Fr _ _ _ _ => kF); (rename News _ _ _ _ => kN)
    refine add_listsN kF kN (.tail _ (.tail _ (.head _))) (.head _) (by rw [sizeLine_eq]; simp only [List.length_cons, List.length_nil]; omega) ?_
    intro D₃ h₈ F₈ N₈ lt₈
    repeat walk1
    (rename Fr _ _ _ _ => kF); (rename News _ _ _ _ => kN)
    have hr8 : ∀ p ∈ pre ++ post, @Ne Nat p.1 D₃ := fun p hp => Nat.ne_of_lt (lt₈ p (.tail _ (.tail _ (.tail _ hp))))
    refine TurnJ.intro kF kN ((D₃, PySem.W.listOf (ov2 ++ [Value.int (64 + (c : Int).fdiv 64) ?ta, Value.int ((c : Int).fmod 64) ?tb]).toArray 0) :: (pre ++ post)) (.tail _ (.tail _ (.head _))) ?g1 ?g2 ⟨D₃, _, 0, rfl, hr8, rfl, ?g3, ?g4, ?g5⟩
    case g1 =>
      intro p hp
      rcases List.mem_cons.mp hp with rfl | hp
      · exact .head _
      · exact .tail _ (.tail _ (.tail _ (.tail _ hp)))
    case g2 =>
      intro p hp
      rcases List.mem_cons.mp hp with rfl | hp
      · exact Nat.ne_of_gt (lt₈ (I, oI) (.tail _ (.head _)))
      · exact off p (.tail _ hp)
    case g3 =>
      intro x h1 h2
      show (if x = _ then _ else if x = _ then _ else m₁ x) = m x
      rw [if_neg h1, if_neg h2]
      exact hmr x h1 h2
    case g4 =>
      simp only [List.length_append, List.length_cons, List.length_nil]
      omega
    case g5 =>
      rw [List.take_add_one, Array.getElem?_toList, hc, List.flatMap_append, ← List.cons_append, ← List.append_assoc]
      refine IntsAre.append hi2 ?_
      rw [c1, c2]
      exact .cons _ _ (.cons _ _ .nil)
  · clear kF kN1
    rintro h₄ tk₄ m₁ news₁ F₄ N₄ inv; refine hide ?_; intro goalG intoG; obtain ⟨D, ov2, e2, rfl, hD, hmo, hmr, hl2, hi2⟩ := inv; refine intoG ?_; clear intoG goalG
    rw [List.take_of_length_le (by rw [Array.length_toList]; exact Nat.le_refl _)] at hi2
    repeat walk1
    show CutEnd _ Flow.next _
    exact ⟨rfl, _, _, D, ov2, _, m₁, rfl, by assumption, hmo, hmr, ⟨_, by assumption, hback, fun p hp hne => hD p (hback p hp hne)⟩, hi2⟩
end
theorem lb_19z  {A₀ : Around} {h₀ : Heap} {L : Addr} {m mg mb : PySem.Str → Option Value} {news : List (Addr × Obj)} {p : Program} {loose : List PySem.Str} {mean : ExcName → Option Value} {name qual : PySem.Str} {params : Arguments} {body : List PySem.Stmt} {scope : Scope} {dV kV doc pm cdv ct oc : Value} {an od : Option Addr} {osl : Array (Option Value)}
  (B : Below A₀ h₀ [] h₀) (F : Fr h₀ L s.heap m) (X₀ : (KF w.params).In h₀) (N : News h₀ L s.heap news) (T : Top p loose mean mg mb h₀) (hroom : A₀.depth < 340) (hh : A₀.handled = none)
  (hK : (KF w.params).lookup 185 = some ⟨oc, od, .func (fnOf name qual params body scope dV kV doc pm an cdv ct), osl⟩) (dp : Int) (te : Tok) (hm2 : m "depth" = some (.int dp te)) (hdp : 0 < dp) :
  wpAny (model PySem.Challenge.rw_us0017_01.prog w) (A₀.deeper (envOfC qual scope L 185 cdv)) (exec ((subSts (body.getD 9 (.Pass default))).getD 19 (.Pass default)) (envOfC qual scope L 185 cdv)) (CutEnd fun s' => ∃ h₂ tk₂, s' = { s with heap := h₂, toks := tk₂ } ∧ Fr h₀ L h₂ m ∧ News h₀ L h₂ news) E s := by
  revert X₀; k_fill; intro X₀
  revert F N
  refine law_unpackL (P := fun body scope qual cdv => Fr h₀ L s.heap m → News h₀ L s.heap news → wpAny (model PySem.Challenge.rw_us0017_01.prog w) (A₀.deeper (envOfC qual scope L 185 cdv)) (exec ((subSts (body.getD 9 (.Pass default))).getD 19 (.Pass default)) (envOfC qual scope L 185 cdv)) (CutEnd fun s' => ∃ h₂ tk₂, s' = { s with heap := h₂, toks := tk₂ } ∧ Fr h₀ L h₂ m ∧ News h₀ L h₂ news) E s) hK ?_
  intro F N
  clear hK
  (try dsimp only [subSts, lawL, lawS, lawQ, lawC, getBody, getScope, getQual, getCd, List.getD, List.getElem?_cons_zero, List.getElem?_cons_succ, Option.getD])
  (try k_fold)

  repeat walk1
  · exfalso; omega
  · repeat walk1
    show CutEnd _ Flow.next _
    exact ⟨rfl, _, _, rfl, by assumption, by assumption⟩
theorem lb_2  {A₀ : Around} {h₀ : Heap} {L : Addr} {m mg mb : PySem.Str → Option Value} {news : List (Addr × Obj)} {p : Program} {loose : List PySem.Str} {mean : ExcName → Option Value} {name qual : PySem.Str} {params : Arguments} {body : List PySem.Stmt} {scope : Scope} {dV kV doc pm cdv ct oc : Value} {an od : Option Addr} {osl : Array (Option Value)}
  (B : Below A₀ h₀ [] h₀) (F : Fr h₀ L s.heap m) (X₀ : (KF w.params).In h₀) (N : News h₀ L s.heap news) (T : Top p loose mean mg mb h₀) (hroom : A₀.depth < 340) (hh : A₀.handled = none)
  (hK : (KF w.params).lookup 185 = some ⟨oc, od, .func (fnOf name qual params body scope dV kV doc pm an cdv ct), osl⟩)  :
  wpAny (model PySem.Challenge.rw_us0017_01.prog w) (A₀.deeper (envOfC qual scope L 185 cdv)) (exec ((subSts (body.getD 9 (.Pass default))).getD 2 (.Pass default)) (envOfC qual scope L 185 cdv)) (CutEnd fun s' => ∃ t, ∃ h₂ tk₂, s' = { s with heap := h₂, toks := tk₂ } ∧ Fr h₀ L h₂ (setM m "depth" (.int 0 t)) ∧ News h₀ L h₂ news) E s := by
  revert X₀; k_fill; intro X₀
  revert F N
  refine law_unpackL (P := fun body scope qual cdv => Fr h₀ L s.heap m → News h₀ L s.heap news → wpAny (model PySem.Challenge.rw_us0017_01.prog w) (A₀.deeper (envOfC qual scope L 185 cdv)) (exec ((subSts (body.getD 9 (.Pass default))).getD 2 (.Pass default)) (envOfC qual scope L 185 cdv)) (CutEnd fun s' => ∃ t, ∃ h₂ tk₂, s' = { s with heap := h₂, toks := tk₂ } ∧ Fr h₀ L h₂ (setM m "depth" (.int 0 t)) ∧ News h₀ L h₂ news) E s) hK ?_
  intro F N
  clear hK
  (try dsimp only [subSts, lawL, lawS, lawQ, lawC, getBody, getScope, getQual, getCd, List.getD, List.getElem?_cons_zero, List.getElem?_cons_succ, Option.getD])
  (try k_fold)

  repeat walk1
  exact ⟨rfl, _, _, _, rfl, by assumption, by assumption⟩
theorem lb_3n {oca odl : Obj} {A₀ : Around} {h₀ : Heap} {L : Addr} {m mg mb : PySem.Str → Option Value} {news : List (Addr × Obj)} {p : Program} {loose : List PySem.Str} {mean : ExcName → Option Value} {name qual : PySem.Str} {params : Arguments} {body : List PySem.Stmt} {scope : Scope} {dV kV doc pm cdv ct oc : Value} {an od : Option Addr} {osl : Array (Option Value)}
  (B : Below A₀ h₀ [] h₀) (F : Fr h₀ L s.heap m) (X₀ : (KF w.params).In h₀) (N : News h₀ L s.heap news) (T : Top p loose mean mg mb h₀) (hroom : A₀.depth < 340) (hh : A₀.handled = none)
  (hK : (KF w.params).lookup 185 = some ⟨oc, od, .func (fnOf name qual params body scope dV kV doc pm an cdv ct), osl⟩) (ya : PySem.Str) (ta : Tok) (ha5 : (L + 5, oca) ∈ news) (ha5d : oca.data = .cell (some (.str ya ta))) (lt : Addr) (kvs : List (PySem.Str × Value)) (hlt : (lt, odl) ∈ news) (hltd : odl.IsDictOf (PySem.strKind PySem.Challenge.rw_us0017_01.prog w) kvs) (hmlt : m "latest" = some (.ref lt)) (lo : (lt == sysModules) = false) (hno : valueAt kvs ya = none) :
  wpAny (model PySem.Challenge.rw_us0017_01.prog w) (A₀.deeper (envOfC qual scope L 185 cdv)) (exec ((subSts (body.getD 9 (.Pass default))).getD 3 (.Pass default)) (envOfC qual scope L 185 cdv)) (CutEnd fun s' => ∃ h₂ tk₂, s' = { s with heap := h₂, toks := tk₂ } ∧ Fr h₀ L h₂ m ∧ News h₀ L h₂ news) E s := by
  revert X₀; k_fill; intro X₀
  revert F N
  refine law_unpackL (P := fun body scope qual cdv => Fr h₀ L s.heap m → News h₀ L s.heap news → wpAny (model PySem.Challenge.rw_us0017_01.prog w) (A₀.deeper (envOfC qual scope L 185 cdv)) (exec ((subSts (body.getD 9 (.Pass default))).getD 3 (.Pass default)) (envOfC qual scope L 185 cdv)) (CutEnd fun s' => ∃ h₂ tk₂, s' = { s with heap := h₂, toks := tk₂ } ∧ Fr h₀ L h₂ m ∧ News h₀ L h₂ news) E s) hK ?_
  intro F N
  clear hK
  (try dsimp only [subSts, lawL, lawS, lawQ, lawC, getBody, getScope, getQual, getCd, List.getD, List.getElem?_cons_zero, List.getElem?_cons_succ, Option.getD])
  (try k_fold)

  repeat walk1
  refine kda_in (by assumption) hlt hltd lo (strKind_is _ w ya ta) false (by rw [hno]; rfl) ?_
  repeat walk1
  show CutEnd _ Flow.next _
  exact ⟨rfl, _, _, rfl, by assumption, by assumption⟩
theorem lb_3o {oca odl : Obj} {g : Obj → List (Addr × Obj)} {A₀ : Around} {h₀ : Heap} {L : Addr} {m mg mb : PySem.Str → Option Value} {news : List (Addr × Obj)} {p : Program} {loose : List PySem.Str} {mean : ExcName → Option Value} {name qual : PySem.Str} {params : Arguments} {body : List PySem.Stmt} {scope : Scope} {dV kV doc pm cdv ct oc : Value} {an od : Option Addr} {osl : Array (Option Value)}
  (B : Below A₀ h₀ [] h₀) (F : Fr h₀ L s.heap m) (X₀ : (KF w.params).In h₀) (N : News h₀ L s.heap news) (T : Top p loose mean mg mb h₀) (hroom : A₀.depth < 340) (hh : A₀.handled = none)
  (hK : (KF w.params).lookup 185 = some ⟨oc, od, .func (fnOf name qual params body scope dV kV doc pm an cdv ct), osl⟩) (ya : PySem.Str) (ta : Tok) (ha5 : (L + 5, oca) ∈ news) (ha5d : oca.data = .cell (some (.str ya ta))) (lt : Addr) (kvs : List (PySem.Str × Value)) (hlt : (lt, odl) ∈ news) (hltd : odl.IsDictOf (PySem.strKind PySem.Challenge.rw_us0017_01.prog w) kvs) (hmlt : m "latest" = some (.ref lt)) (la : Addr) (lv : List Value) (ls : List Int) (el : Nat) (hil : IntsAre lv ls) (hls : ls.length ≤ 8) (hmla : m "lasts" = some (.ref la)) (U : UpdF la (PySem.W.listOf lv.toArray el) news g) (hso : Sorted ls) (v : Int) (tv : Tok) (hvm : ∃ j, j < ls.length ∧ ls.getD j 0 = v) (lo : (lt == sysModules) = false) (hyes : valueAt kvs ya = some (.int v tv)) :
  wpAny (model PySem.Challenge.rw_us0017_01.prog w) (A₀.deeper (envOfC qual scope L 185 cdv)) (exec ((subSts (body.getD 9 (.Pass default))).getD 3 (.Pass default)) (envOfC qual scope L 185 cdv)) (CutEnd fun s' => ∃ h₂ tk₂ t1 t2 e2, ∃ r : Nat, s' = { s with heap := h₂, toks := tk₂ } ∧ Fr h₀ L h₂ (setM (setM m "spot" (.int (r : Int) t1)) "depth" (.int ((ls.length : Int) - r) t2)) ∧ News h₀ L h₂ (g (PySem.W.listOf (lv.take r ++ lv.drop (r + 1)).toArray e2)) ∧ r < ls.length ∧ (∀ i : Nat, i < r → ls.getD i 0 < v) ∧ (∀ i : Nat, r ≤ i → i < ls.length → v ≤ ls.getD i 0)) E s := by
  revert X₀; k_fill; intro X₀
  revert F N
  refine law_unpackL (P := fun body scope qual cdv => Fr h₀ L s.heap m → News h₀ L s.heap news → wpAny (model PySem.Challenge.rw_us0017_01.prog w) (A₀.deeper (envOfC qual scope L 185 cdv)) (exec ((subSts (body.getD 9 (.Pass default))).getD 3 (.Pass default)) (envOfC qual scope L 185 cdv)) (CutEnd fun s' => ∃ h₂ tk₂ t1 t2 e2, ∃ r : Nat, s' = { s with heap := h₂, toks := tk₂ } ∧ Fr h₀ L h₂ (setM (setM m "spot" (.int (r : Int) t1)) "depth" (.int ((ls.length : Int) - r) t2)) ∧ News h₀ L h₂ (g (PySem.W.listOf (lv.take r ++ lv.drop (r + 1)).toArray e2)) ∧ r < ls.length ∧ (∀ i : Nat, i < r → ls.getD i 0 < v) ∧ (∀ i : Nat, r ≤ i → i < ls.length → v ≤ ls.getD i 0)) E s) hK ?_
  intro F N
  clear hK
  (try dsimp only [subSts, lawL, lawS, lawQ, lawC, getBody, getScope, getQual, getCd, List.getD, List.getElem?_cons_zero, List.getElem?_cons_succ, Option.getD])
  (try k_fold)

  have hmu := updF_self U
  repeat walk1
  refine kda_in (by assumption) hlt hltd lo (strKind_is _ w ya ta) true (by rw [hyes]; rfl) ?_
  repeat walk1
  refine kda_item (by assumption) hlt hltd (strKind_is _ w ya ta) hyes ?_
  repeat walk1
  unfold Stop
  refine T_bl B (by assumption) X₀ (by assumption) T (frDeeper B.stack) rfl rfl (Nat.lt_trans (roomDeeper hroom) (by decide)) hh la lv ls el v tv hmu hil (by omega) hso ?_
  intro h₁ tk₁ t₁ r F₁ N₁ hr1 hr2 hr3
  have hlv := hil.length
  have hrl : r < ls.length := by
    obtain ⟨j, hj, e⟩ := hvm
    rcases Nat.lt_or_ge r ls.length with h | h
    · exact h
    · have := hr2 j (by omega); omega
  repeat walk1
  (rename Fr _ _ _ _ => kF); (rename News _ _ _ _ => kN)
  refine kl_popAt (k := r) kF kN (by simp [Builtin.List.listFitsIndex]; omega) ?_ (kl_cut_at lv r (by omega)) (updOf U) ?_ ?_
  · rw [List.size_toArray]
    exact seqIndex_nat (by omega)
  · show lv.length ≤ 2 ^ 24; omega
  intro h₂ F₂ N₂
  repeat walk1
  show CutEnd _ Flow.next _
  exact ⟨rfl, _, _, _, _, _, r, rfl, F₂, N₂, hrl, hr2, hr3⟩
theorem lb_4 {ock : Obj} {g : Obj → List (Addr × Obj)} {A₀ : Around} {h₀ : Heap} {L : Addr} {m mg mb : PySem.Str → Option Value} {news : List (Addr × Obj)} {p : Program} {loose : List PySem.Str} {mean : ExcName → Option Value} {name qual : PySem.Str} {params : Arguments} {body : List PySem.Stmt} {scope : Scope} {dV kV doc pm cdv ct oc : Value} {an od : Option Addr} {osl : Array (Option Value)}
  (B : Below A₀ h₀ [] h₀) (F : Fr h₀ L s.heap m) (X₀ : (KF w.params).In h₀) (N : News h₀ L s.heap news) (T : Top p loose mean mg mb h₀) (hroom : A₀.depth < 340) (hh : A₀.handled = none)
  (hK : (KF w.params).lookup 185 = some ⟨oc, od, .func (fnOf name qual params body scope dV kV doc pm an cdv ct), osl⟩) (kk : Nat) (tkk : Tok) (hk4 : (L + 4, ock) ∈ news) (hk4d : ock.data = .cell (some (.int (kk : Int) tkk))) (hkk : kk < 8) (la : Addr) (lv : List Value) (ls : List Int) (el : Nat) (hil : IntsAre lv ls) (hls : ls.length ≤ 8) (hmla : m "lasts" = some (.ref la)) (U : UpdF la (PySem.W.listOf lv.toArray el) news g) :
  wpAny (model PySem.Challenge.rw_us0017_01.prog w) (A₀.deeper (envOfC qual scope L 185 cdv)) (exec ((subSts (body.getD 9 (.Pass default))).getD 4 (.Pass default)) (envOfC qual scope L 185 cdv)) (CutEnd fun s' => ∃ h₂ tk₂ e2 t2, s' = { s with heap := h₂, toks := tk₂ } ∧ Fr h₀ L h₂ m ∧ News h₀ L h₂ (g (PySem.W.listOf (lv ++ [Value.int (kk : Int) t2]).toArray e2))) E s := by
  revert X₀; k_fill; intro X₀
  revert F N
  refine law_unpackL (P := fun body scope qual cdv => Fr h₀ L s.heap m → News h₀ L s.heap news → wpAny (model PySem.Challenge.rw_us0017_01.prog w) (A₀.deeper (envOfC qual scope L 185 cdv)) (exec ((subSts (body.getD 9 (.Pass default))).getD 4 (.Pass default)) (envOfC qual scope L 185 cdv)) (CutEnd fun s' => ∃ h₂ tk₂ e2 t2, s' = { s with heap := h₂, toks := tk₂ } ∧ Fr h₀ L h₂ m ∧ News h₀ L h₂ (g (PySem.W.listOf (lv ++ [Value.int (kk : Int) t2]).toArray e2))) E s) hK ?_
  intro F N
  clear hK
  (try dsimp only [subSts, lawL, lawS, lawQ, lawC, getBody, getScope, getQual, getCd, List.getD, List.getElem?_cons_zero, List.getElem?_cons_succ, Option.getD])
  (try k_fold)

  have hmu := updF_self U
  repeat walk1
  (rename Fr _ _ _ _ => kF); (rename News _ _ _ _ => kN)
  rw [List.push_toArray] at kN
  show CutEnd _ Flow.next _
  exact ⟨rfl, _, _, _, _, rfl, kF, kN⟩
theorem lb_5 {ock oca odl : Obj} {g : Obj → List (Addr × Obj)} {A₀ : Around} {h₀ : Heap} {L : Addr} {m mg mb : PySem.Str → Option Value} {news : List (Addr × Obj)} {p : Program} {loose : List PySem.Str} {mean : ExcName → Option Value} {name qual : PySem.Str} {params : Arguments} {body : List PySem.Stmt} {scope : Scope} {dV kV doc pm cdv ct oc : Value} {an od : Option Addr} {osl : Array (Option Value)}
  (B : Below A₀ h₀ [] h₀) (F : Fr h₀ L s.heap m) (X₀ : (KF w.params).In h₀) (N : News h₀ L s.heap news) (T : Top p loose mean mg mb h₀) (hroom : A₀.depth < 340) (hh : A₀.handled = none)
  (hK : (KF w.params).lookup 185 = some ⟨oc, od, .func (fnOf name qual params body scope dV kV doc pm an cdv ct), osl⟩) (kk : Nat) (tkk : Tok) (hk4 : (L + 4, ock) ∈ news) (hk4d : ock.data = .cell (some (.int (kk : Int) tkk))) (hkk : kk < 8) (ya : PySem.Str) (ta : Tok) (ha5 : (L + 5, oca) ∈ news) (ha5d : oca.data = .cell (some (.str ya ta))) (lt : Addr) (kvs : List (PySem.Str × Value)) (U : UpdF lt odl news g) (hltd : odl.IsDictOf (PySem.strKind PySem.Challenge.rw_us0017_01.prog w) kvs) (hkl : kvs.length ≤ 100) (hmlt : m "latest" = some (.ref lt)) :
  wpAny (model PySem.Challenge.rw_us0017_01.prog w) (A₀.deeper (envOfC qual scope L 185 cdv)) (exec ((subSts (body.getD 9 (.Pass default))).getD 5 (.Pass default)) (envOfC qual scope L 185 cdv)) (CutEnd fun s' => ∃ h₂ tk₂ o2 t2, s' = { s with heap := h₂, toks := tk₂ } ∧ Fr h₀ L h₂ m ∧ News h₀ L h₂ (g o2) ∧ o2.IsDictOf (PySem.strKind PySem.Challenge.rw_us0017_01.prog w) (stored kvs ya (.int (kk : Int) t2))) E s := by
  revert X₀; k_fill; intro X₀
  revert F N
  refine law_unpackL (P := fun body scope qual cdv => Fr h₀ L s.heap m → News h₀ L s.heap news → wpAny (model PySem.Challenge.rw_us0017_01.prog w) (A₀.deeper (envOfC qual scope L 185 cdv)) (exec ((subSts (body.getD 9 (.Pass default))).getD 5 (.Pass default)) (envOfC qual scope L 185 cdv)) (CutEnd fun s' => ∃ h₂ tk₂ o2 t2, s' = { s with heap := h₂, toks := tk₂ } ∧ Fr h₀ L h₂ m ∧ News h₀ L h₂ (g o2) ∧ o2.IsDictOf (PySem.strKind PySem.Challenge.rw_us0017_01.prog w) (stored kvs ya (.int (kk : Int) t2))) E s) hK ?_
  intro F N
  clear hK
  (try dsimp only [subSts, lawL, lawS, lawQ, lawC, getBody, getScope, getQual, getCd, List.getD, List.getElem?_cons_zero, List.getElem?_cons_succ, Option.getD])
  (try k_fold)

  have hmu := updF_self U
  repeat walk1
  refine kda_set (by assumption) (by assumption) U hltd (strKind_is _ w ya ta) (by rw [sizeLine_eq]; omega) ?_
  intro h₁ o₁ F₁ N₁ hd₁
  repeat walk1
  exact ⟨rfl, _, _, _, _, rfl, by assumption, by assumption, hd₁⟩
theorem lb_6  {A₀ : Around} {h₀ : Heap} {L : Addr} {m mg mb : PySem.Str → Option Value} {news : List (Addr × Obj)} {p : Program} {loose : List PySem.Str} {mean : ExcName → Option Value} {name qual : PySem.Str} {params : Arguments} {body : List PySem.Stmt} {scope : Scope} {dV kV doc pm cdv ct oc : Value} {an od : Option Addr} {osl : Array (Option Value)}
  (B : Below A₀ h₀ [] h₀) (F : Fr h₀ L s.heap m) (X₀ : (KF w.params).In h₀) (N : News h₀ L s.heap news) (T : Top p loose mean mg mb h₀) (hroom : A₀.depth < 340) (hh : A₀.handled = none)
  (hK : (KF w.params).lookup 185 = some ⟨oc, od, .func (fnOf name qual params body scope dV kV doc pm an cdv ct), osl⟩) (rw_ : Addr) (rv : List Value) (rs : List PySem.Str) (er : Nat) (hrw : (rw_, PySem.W.listOf rv.toArray er) ∈ news) (hir : StrsAre rv rs) (hrl : rs.length ≤ 8) (hmrw : m "rows" = some (.ref rw_)) (hsz : ∀ r ∈ rs, r.length ≤ 20) :
  wpAny (model PySem.Challenge.rw_us0017_01.prog w) (A₀.deeper (envOfC qual scope L 185 cdv)) (exec ((subSts (body.getD 9 (.Pass default))).getD 6 (.Pass default)) (envOfC qual scope L 185 cdv)) (CutEnd fun s' => ∃ h₂ tk₂ D bv e2, s' = { s with heap := h₂, toks := tk₂ } ∧ Fr h₀ L h₂ (setM m "bare" (.ref D)) ∧ News h₀ L h₂ ((D, PySem.W.listOf (bv : List Value).toArray e2) :: news) ∧ (∀ p ∈ news, @Ne Nat p.1 D) ∧ StrsAre bv (rs.map fun r => Txt.lstripChars r ".")) E s := by
  revert X₀; k_fill; intro X₀
  revert F N
  refine law_unpackL (P := fun body scope qual cdv => Fr h₀ L s.heap m → News h₀ L s.heap news → wpAny (model PySem.Challenge.rw_us0017_01.prog w) (A₀.deeper (envOfC qual scope L 185 cdv)) (exec ((subSts (body.getD 9 (.Pass default))).getD 6 (.Pass default)) (envOfC qual scope L 185 cdv)) (CutEnd fun s' => ∃ h₂ tk₂ D bv e2, s' = { s with heap := h₂, toks := tk₂ } ∧ Fr h₀ L h₂ (setM m "bare" (.ref D)) ∧ News h₀ L h₂ ((D, PySem.W.listOf (bv : List Value).toArray e2) :: news) ∧ (∀ p ∈ news, @Ne Nat p.1 D) ∧ StrsAre bv (rs.map fun r => Txt.lstripChars r ".")) E s) hK ?_
  intro F N
  clear hK
  (try dsimp only [subSts, lawL, lawS, lawQ, lawC, getBody, getScope, getQual, getCd, List.getD, List.getElem?_cons_zero, List.getElem?_cons_succ, Option.getD])
  (try k_fold)

  repeat walk1
  unfold Stop
  refine LCg.Assign_ListComp_U F rfl (by with_unfolding_all rfl) (by with_unfolding_all rfl) (by decide) (by rfl) (by decide) (by rfl) (by rfl) (by rfl) ?_
  repeat walk1
  (rename Fr _ _ _ _ => kF); (rename News _ _ _ _ => kN)
  refine LCg.CompSrc.ledger hh kF kN hrw (by rw [List.size_toArray, hir.length, sizeLine_eq]; omega) ?_
  intro gg
  refine compRest_J (fun i ys nw => nw = news ∧ StrsAre ys ((rs.take i).map fun r => Txt.lstripChars r ".")) ?_ ⟨rfl, .nil⟩ ?_
  · clear kF kN
    rintro i ys nw v I oI C oC D m₄ h₆ tk₆ E' hi' ⟨rfl, hys⟩ hP hNs hx F₆ N₆ off3 ne3
    obtain ⟨t, y, hy, rfl⟩ := strs_get hir (by simpa using hP)
    have hyl := hsz y (List.mem_of_getElem? hy)
    repeat walk1
    refine LCg.CompEnd.intro F₆ N₆ _ (fun p hp => hp) off3 (.inr ⟨_, hrw, rfl, _, rfl⟩) ⟨rfl, ?_⟩
    rw [List.take_add_one, hy, List.map_append]
    exact StrsAre.snoc hys _ _
  · rintro ys nw ⟨rfl, hys⟩ D h₇ tk₇ F₇ N₇ off1
    have e1 : rs.take rv.toArray.size = rs := List.take_of_length_le (by rw [List.size_toArray, hir.length]; exact Nat.le_refl _)
    rw [e1] at hys
    exact ⟨rfl, _, _, D, ys, _, rfl, F₇, N₇, off1_mem _ off1, hys⟩
theorem lb_7 {oca : Obj} {A₀ : Around} {h₀ : Heap} {L : Addr} {m mg mb : PySem.Str → Option Value} {news : List (Addr × Obj)} {p : Program} {loose : List PySem.Str} {mean : ExcName → Option Value} {name qual : PySem.Str} {params : Arguments} {body : List PySem.Stmt} {scope : Scope} {dV kV doc pm cdv ct oc : Value} {an od : Option Addr} {osl : Array (Option Value)}
  (B : Below A₀ h₀ [] h₀) (F : Fr h₀ L s.heap m) (X₀ : (KF w.params).In h₀) (N : News h₀ L s.heap news) (T : Top p loose mean mg mb h₀) (hroom : A₀.depth < 340) (hh : A₀.handled = none)
  (hK : (KF w.params).lookup 185 = some ⟨oc, od, .func (fnOf name qual params body scope dV kV doc pm an cdv ct), osl⟩) (ya : PySem.Str) (ta : Tok) (ha5 : (L + 5, oca) ∈ news) (ha5d : oca.data = .cell (some (.str ya ta))) (rw_ : Addr) (rv : List Value) (rs : List PySem.Str) (er : Nat) (hrw : (rw_, PySem.W.listOf rv.toArray er) ∈ news) (hir : StrsAre rv rs) (hrl : rs.length ≤ 8) (hmrw : m "rows" = some (.ref rw_)) (ba : Addr) (bv : List Value) (bs : List PySem.Str) (eb : Nat) (hba : (ba, PySem.W.listOf bv.toArray eb) ∈ news) (hib : StrsAre bv bs) (hbl : bs.length = rs.length) (hmba : m "bare" = some (.ref ba)) :
  wpAny (model PySem.Challenge.rw_us0017_01.prog w) (A₀.deeper (envOfC qual scope L 185 cdv)) (exec ((subSts (body.getD 9 (.Pass default))).getD 7 (.Pass default)) (envOfC qual scope L 185 cdv)) (CutEnd fun s' => ∃ t, ∃ h₂ tk₂, s' = { s with heap := h₂, toks := tk₂ } ∧ Fr h₀ L h₂ (setM m "spot" (.int ((bs.idxOf ya : Nat) : Int) t)) ∧ News h₀ L h₂ news) E s := by
  revert X₀; k_fill; intro X₀
  revert F N
  refine law_unpackL (P := fun body scope qual cdv => Fr h₀ L s.heap m → News h₀ L s.heap news → wpAny (model PySem.Challenge.rw_us0017_01.prog w) (A₀.deeper (envOfC qual scope L 185 cdv)) (exec ((subSts (body.getD 9 (.Pass default))).getD 7 (.Pass default)) (envOfC qual scope L 185 cdv)) (CutEnd fun s' => ∃ t, ∃ h₂ tk₂, s' = { s with heap := h₂, toks := tk₂ } ∧ Fr h₀ L h₂ (setM m "spot" (.int ((bs.idxOf ya : Nat) : Int) t)) ∧ News h₀ L h₂ news) E s) hK ?_
  intro F N
  clear hK
  (try dsimp only [subSts, lawL, lawS, lawQ, lawC, getBody, getScope, getQual, getCd, List.getD, List.getElem?_cons_zero, List.getElem?_cons_succ, Option.getD])
  (try k_fold)

  repeat walk1
  · have hmem : ya ∈ bs := by
      have h := ‹List.any bs _ = true›
      simpa using h
    refine index_strs (by assumption) hba hib (by omega) hmem ?_
    repeat walk1
    exact ⟨rfl, _, _, _, rfl, by assumption, by assumption⟩
  · have hno : ya ∉ bs := by
      have h : ∀ x ∈ bs, ¬ x = ya := by
        have h := ‹List.any bs _ = false›
        simpa using h
      exact fun hm => h ya hm rfl
    have e : rs.length = bs.idxOf ya := by rw [List.idxOf_eq_length hno, hbl]
    repeat walk1
    refine len_listN (k := bs.idxOf ya) (by assumption) hrw (by rw [hir.length, e]) (by omega) ?_
    intro t tk
    repeat walk1
    exact ⟨rfl, _, _, _, rfl, by assumption, by assumption⟩
theorem lb_8 {oca : Obj} {A₀ : Around} {h₀ : Heap} {L : Addr} {m mg mb : PySem.Str → Option Value} {news : List (Addr × Obj)} {p : Program} {loose : List PySem.Str} {mean : ExcName → Option Value} {name qual : PySem.Str} {params : Arguments} {body : List PySem.Stmt} {scope : Scope} {dV kV doc pm cdv ct oc : Value} {an od : Option Addr} {osl : Array (Option Value)}
  (B : Below A₀ h₀ [] h₀) (F : Fr h₀ L s.heap m) (X₀ : (KF w.params).In h₀) (N : News h₀ L s.heap news) (T : Top p loose mean mg mb h₀) (hroom : A₀.depth < 340) (hh : A₀.handled = none)
  (hK : (KF w.params).lookup 185 = some ⟨oc, od, .func (fnOf name qual params body scope dV kV doc pm an cdv ct), osl⟩) (ya : PySem.Str) (ta : Tok) (ha5 : (L + 5, oca) ∈ news) (ha5d : oca.data = .cell (some (.str ya ta))) (rw_ : Addr) (rv : List Value) (rs : List PySem.Str) (er : Nat) (hrw : (rw_, PySem.W.listOf rv.toArray er) ∈ news) (hir : StrsAre rv rs) (hrl : rs.length ≤ 8) (hmrw : m "rows" = some (.ref rw_)) (ba : Addr) (bv : List Value) (bs : List PySem.Str) (eb : Nat) (hba : (ba, PySem.W.listOf bv.toArray eb) ∈ news) (hib : StrsAre bv bs) (hbl : bs.length = rs.length) (hmba : m "bare" = some (.ref ba)) (sp : Nat) (tsp : Tok) (hmsp : m "spot" = some (.int (sp : Int) tsp)) (dp : Int) (hd1 : ya ∈ bs → ∃ r, rs[sp]? = some r ∧ r.length ≤ 100 ∧ (r.length : Int) - (ya.length : Int) = dp) (hd0 : ya ∉ bs → dp = 0)  (hyl : ya.length ≤ 100) :
  wpAny (model PySem.Challenge.rw_us0017_01.prog w) (A₀.deeper (envOfC qual scope L 185 cdv)) (exec ((subSts (body.getD 9 (.Pass default))).getD 8 (.Pass default)) (envOfC qual scope L 185 cdv)) (CutEnd fun s' => ∃ t, ∃ h₂ tk₂, s' = { s with heap := h₂, toks := tk₂ } ∧ Fr h₀ L h₂ (setM m "dots" (.int dp t)) ∧ News h₀ L h₂ news) E s := by
  revert X₀; k_fill; intro X₀
  revert F N
  refine law_unpackL (P := fun body scope qual cdv => Fr h₀ L s.heap m → News h₀ L s.heap news → wpAny (model PySem.Challenge.rw_us0017_01.prog w) (A₀.deeper (envOfC qual scope L 185 cdv)) (exec ((subSts (body.getD 9 (.Pass default))).getD 8 (.Pass default)) (envOfC qual scope L 185 cdv)) (CutEnd fun s' => ∃ t, ∃ h₂ tk₂, s' = { s with heap := h₂, toks := tk₂ } ∧ Fr h₀ L h₂ (setM m "dots" (.int dp t)) ∧ News h₀ L h₂ news) E s) hK ?_
  intro F N
  clear hK
  (try dsimp only [subSts, lawL, lawS, lawQ, lawC, getBody, getScope, getQual, getCd, List.getD, List.getElem?_cons_zero, List.getElem?_cons_succ, Option.getD])
  (try k_fold)

  repeat walk1
  · have hmem : ya ∈ bs := by
      have h := ‹List.any bs _ = true›
      simpa using h
    obtain ⟨r, hr, hrl', e⟩ := hd1 hmem
    have hsp := (List.getElem?_eq_some_iff.mp hr).1
    refine item_strsN (by assumption) hrw hir (by omega) hr ?_
    intro t'
    subst e
    repeat walk1
    exact ⟨rfl, _, _, _, rfl, by assumption, by assumption⟩
  · have hno : ya ∉ bs := by
      have h : ∀ x ∈ bs, ¬ x = ya := by
        have h := ‹List.any bs _ = false›
        simpa using h
      exact fun hm => h ya hm rfl
    have e := hd0 hno
    subst e
    repeat walk1
    exact ⟨rfl, _, _, _, rfl, by assumption, by assumption⟩
theorem lb_9  {A₀ : Around} {h₀ : Heap} {L : Addr} {m mg mb : PySem.Str → Option Value} {news : List (Addr × Obj)} {p : Program} {loose : List PySem.Str} {mean : ExcName → Option Value} {name qual : PySem.Str} {params : Arguments} {body : List PySem.Stmt} {scope : Scope} {dV kV doc pm cdv ct oc : Value} {an od : Option Addr} {osl : Array (Option Value)}
  (B : Below A₀ h₀ [] h₀) (F : Fr h₀ L s.heap m) (X₀ : (KF w.params).In h₀) (N : News h₀ L s.heap news) (T : Top p loose mean mg mb h₀) (hroom : A₀.depth < 340) (hh : A₀.handled = none)
  (hK : (KF w.params).lookup 185 = some ⟨oc, od, .func (fnOf name qual params body scope dV kV doc pm an cdv ct), osl⟩) (dp : Int) (td te : Tok) (hm1 : m "dots" = some (.int dp td)) (hm2 : m "depth" = some (.int dp te)) :
  wpAny (model PySem.Challenge.rw_us0017_01.prog w) (A₀.deeper (envOfC qual scope L 185 cdv)) (exec ((subSts (body.getD 9 (.Pass default))).getD 9 (.Pass default)) (envOfC qual scope L 185 cdv)) (CutEnd fun s' => ∃ h₂ tk₂, s' = { s with heap := h₂, toks := tk₂ } ∧ Fr h₀ L h₂ m ∧ News h₀ L h₂ news) E s := by
  revert X₀; k_fill; intro X₀
  revert F N
  refine law_unpackL (P := fun body scope qual cdv => Fr h₀ L s.heap m → News h₀ L s.heap news → wpAny (model PySem.Challenge.rw_us0017_01.prog w) (A₀.deeper (envOfC qual scope L 185 cdv)) (exec ((subSts (body.getD 9 (.Pass default))).getD 9 (.Pass default)) (envOfC qual scope L 185 cdv)) (CutEnd fun s' => ∃ h₂ tk₂, s' = { s with heap := h₂, toks := tk₂ } ∧ Fr h₀ L h₂ m ∧ News h₀ L h₂ news) E s) hK ?_
  intro F N
  clear hK
  (try dsimp only [subSts, lawL, lawS, lawQ, lawC, getBody, getScope, getQual, getCd, List.getD, List.getElem?_cons_zero, List.getElem?_cons_succ, Option.getD])
  (try k_fold)

  repeat walk1
  · rename_i hb; simp at hb
  · repeat walk1
    show CutEnd _ Flow.next _
    exact ⟨rfl, _, _, rfl, by assumption, by assumption⟩
theorem ll_11 {oc1 : Obj} {A₀ : Around} {h₀ : Heap} {L : Addr} {m mg mb : PySem.Str → Option Value} {news : List (Addr × Obj)} {p : Program} {loose : List PySem.Str} {mean : ExcName → Option Value} {name qual : PySem.Str} {params : Arguments} {body : List PySem.Stmt} {scope : Scope} {dV kV doc pm cdv ct oc : Value} {an od : Option Addr} {osl : Array (Option Value)}
  (B : Below A₀ h₀ [] h₀) (F : Fr h₀ L s.heap m) (X₀ : (KF w.params).In h₀) (N : News h₀ L s.heap news) (T : Top p loose mean mg mb h₀) (hroom : A₀.depth < 340) (hh : A₀.handled = none)
  (hK : (KF w.params).lookup 185 = some ⟨oc, od, .func (fnOf name qual params body scope dV kV doc pm an cdv ct), osl⟩) (hun : A₀.units < 100) (nm : Addr) (h1 : (L + 1, oc1) ∈ news) (h1d : oc1.data = .cell (some (.ref nm))) (ys : List Value) (ns : List PySem.Str) (en : Nat) (hn : (nm, PySem.W.listOf ys.toArray en) ∈ news) (hi : StrsAre ys ns) (hlen : ns.length = 8) (hsok : ns.all PyData.strOk = true) (lo : Addr) (no : Nat) (vs : List Value) (items : List (Nat × List Nat)) (hm : (lo, PySem.W.listOf vs.toArray no) ∈ news) (hio : IntsAre vs (encL items)) (ok : OkI [] items) (hil : items.length ≤ 64) (hh8 : hrd [] items = ns) (hmot : m "octets" = some (.ref lo)) :
  wpAny (model PySem.Challenge.rw_us0017_01.prog w) (A₀.deeper (envOfC qual scope L 185 cdv)) (exec (body.getD 11 (.Pass default)) (envOfC qual scope L 185 cdv)) (fun f s' => f = .ret (.bool true) ∧ ∃ h₂ tk₂, s' = { s with heap := h₂, toks := tk₂ } ∧ Fr h₀ L h₂ m ∧ News h₀ L h₂ news) E s := by
  revert X₀; k_fill; intro X₀
  revert F N
  refine law_unpackL (P := fun body scope qual cdv => Fr h₀ L s.heap m → News h₀ L s.heap news → wpAny (model PySem.Challenge.rw_us0017_01.prog w) (A₀.deeper (envOfC qual scope L 185 cdv)) (exec (body.getD 11 (.Pass default)) (envOfC qual scope L 185 cdv)) (fun f s' => f = .ret (.bool true) ∧ ∃ h₂ tk₂, s' = { s with heap := h₂, toks := tk₂ } ∧ Fr h₀ L h₂ m ∧ News h₀ L h₂ news) E s) hK ?_
  intro F N
  clear hK
  (try dsimp only [lawL, lawS, lawQ, lawC, getBody, getScope, getQual, getCd, List.getD, List.getElem?_cons_zero, List.getElem?_cons_succ, Option.getD])
  (try k_fold)
  repeat walk1
  unfold Stop
  refine T_heard B (by assumption) X₀ (by assumption) T (frDeeper B.stack) rfl rfl (Nat.lt_trans (roomDeeper hroom) (by decide)) hh X₀ T lo no vs items hm hio ok hil ?_
  intro h₁ tk₁ l ws e₁ F₁ N₁ hws
  rw [hh8] at hws
  repeat walk1
  unfold Stop
  refine eq_strsK (isListN N₁ (.head _)) (isListN N₁ (.tail _ hn)) hws hi hsok hsok (by show A₀.units + 3 + 64 < 9900; omega) ?_
  rw [decide_eq_true rfl]
  repeat walk1
  · exact F₁
  · exact newsSub N₁ fun p hp => .tail _ hp
theorem ls_0 {oc1 oc2 oc3 : Obj} {A₀ : Around} {h₀ : Heap} {L : Addr} {m mg mb : PySem.Str → Option Value} {news : List (Addr × Obj)} {p : Program} {loose : List PySem.Str} {mean : ExcName → Option Value} {name qual : PySem.Str} {params : Arguments} {body : List PySem.Stmt} {scope : Scope} {dV kV doc pm cdv ct oc : Value} {an od : Option Addr} {osl : Array (Option Value)}
  (B : Below A₀ h₀ [] h₀) (F : Fr h₀ L s.heap m) (X₀ : (KF w.params).In h₀) (N : News h₀ L s.heap news) (T : Top p loose mean mg mb h₀) (hroom : A₀.depth < 340) (hh : A₀.handled = none)
  (hK : (KF w.params).lookup 185 = some ⟨oc, od, .func (fnOf name qual params body scope dV kV doc pm an cdv ct), osl⟩) (sh : Addr) (refs : List Value) (ns : List PySem.Str) (es : Nat) (h3 : (L + 3, oc3) ∈ news) (h3d : oc3.data = .cell (some (.ref sh))) (hsh : (sh, PySem.W.listOf refs.toArray es) ∈ news) (hok : ShelvesOK news refs ns 5) (nm : Addr) (h1 : (L + 1, oc1) ∈ news) (h1d : oc1.data = .cell (some (.ref nm))) (ys : List Value) (en : Nat) (hn : (nm, PySem.W.listOf ys.toArray en) ∈ news) (hi : StrsAre ys ns) (hlen : ns.length = 8) (sz : Nat) (tsz : Tok) (h2 : (L + 2, oc2) ∈ news) (h2d : oc2.data = .cell (some (.int (sz : Int) tsz))) (hsz : 1 ≤ sz ∧ sz ≤ 5) :
  wpAny (model PySem.Challenge.rw_us0017_01.prog w) (A₀.deeper (envOfC qual scope L 185 cdv)) (exec ((subSts (body.getD 10 (.Pass default))).getD 0 (.Pass default)) (envOfC qual scope L 185 cdv)) (CutEnd fun s' => ∃ t, ∃ h₂ tk₂, s' = { s with heap := h₂, toks := tk₂ } ∧ Fr h₀ L h₂ (setM m "failed" (.int ((((List.range 8).filter (fun k => !((shelfAt ns sz k).any (· == ns.getD k "")))).length : Nat) : Int) t)) ∧ News h₀ L h₂ news) E s := by
  revert X₀; k_fill; intro X₀
  revert F N
  refine law_unpackL (P := fun body scope qual cdv => Fr h₀ L s.heap m → News h₀ L s.heap news → wpAny (model PySem.Challenge.rw_us0017_01.prog w) (A₀.deeper (envOfC qual scope L 185 cdv)) (exec ((subSts (body.getD 10 (.Pass default))).getD 0 (.Pass default)) (envOfC qual scope L 185 cdv)) (CutEnd fun s' => ∃ t, ∃ h₂ tk₂, s' = { s with heap := h₂, toks := tk₂ } ∧ Fr h₀ L h₂ (setM m "failed" (.int ((((List.range 8).filter (fun k => !((shelfAt ns sz k).any (· == ns.getD k "")))).length : Nat) : Int) t)) ∧ News h₀ L h₂ news) E s) hK ?_
  intro F N
  clear hK
  (try dsimp only [subSts, lawL, lawS, lawQ, lawC, getBody, getScope, getQual, getCd, List.getD, List.getElem?_cons_zero, List.getElem?_cons_succ, Option.getD])
  (try k_fold)


  repeat walk1
  unfold Stop
  refine LCt.ListComp_T F (by with_unfolding_all rfl) (by decide) (by rfl) (by decide) (by rfl) ?_
  repeat walk1
  (rename Fr _ _ _ _ => kF); (rename News _ _ _ _ => kN)
  refine LCt.CompSrcT.range (n := 8) hh kF kN (by assumption) (by decide +kernel) (by decide +kernel) (by rw [sizeLine_eq]; omega) ?_
  intro gg
  refine compRestT_J (fun i vs nw => nw = news ∧ vs.length = ((List.range i).filter (fun k => !((shelfAt ns sz k).any (· == ns.getD k "")))).length) ?_ ⟨rfl, rfl⟩ ?_
  · clear kF kN
    rintro i vs nw v I oI C oC D m₄ h₆ tk₆ E' hi' ⟨rfl, hys⟩ ⟨t, rfl⟩ hNs hx F₆ N₆ off3 ne3
    obtain ⟨st, rs, e, hr1, hr2, hr3⟩ := hok.2 (sz - 1) (by omega)
    rw [show sz - 1 + 1 = sz by omega] at hr3
    obtain ⟨b, ws, e', hb1, hb2, hb3⟩ := hr3.2 i (by omega)
    have ei : (0 : Int) + (i : Int) = (i : Int) := by omega
    rw [ei] at hx
    have hNi : ns[i]? = some (ns.getD i "") := by simp [List.getD, hlen, hi']
    iterate 12 walk1
    have es : (sz : Int) - 1 = ((sz - 1 : Nat) : Int) := by omega
    rw [es]
    refine item_refsN (k := sz - 1) (by assumption) (.tail _ (.tail _ (.tail _ hsh))) (by omega) hr1 ?_
    iterate 2 walk1
    refine item_refsN (k := i) (by assumption) (.tail _ (.tail _ (.tail _ hr2))) (by omega) hb1 ?_
    repeat walk1
    refine notin_list_strs (isListN (by assumption) (.tail _ (.tail _ (.tail _ hb2)))) hb3 ?_
    repeat walk1
    · rename_i hc
      refine LCg.CompEnd.intro F₆ N₆ _ (fun p hp => hp) off3 trivial ⟨rfl, ?_⟩
      rw [List.range_succ, List.filter_append, List.length_append, ← hys]
      simp only [List.filter_cons, List.filter_nil, hc, Bool.not_true, Bool.false_eq_true, if_false, List.length_nil, Nat.add_zero]
    · rename_i hc
      repeat walk1
      refine LCg.CompEnd.intro F₆ N₆ _ (fun p hp => hp) off3 trivial ⟨rfl, ?_⟩
      rw [List.range_succ, List.filter_append, List.length_append, List.length_append, ← hys]
      simp only [List.filter_cons, List.filter_nil, hc, Bool.not_false, if_true, List.length_cons, List.length_nil]
  · rintro ys nw ⟨rfl, hys⟩ D h₇ tk₇ F₇ N₇ off1
    have hfl : ((List.range 8).filter (fun k => !((shelfAt ns sz k).any (· == ns.getD k "")))).length ≤ 8 := Nat.le_trans (List.length_filter_le _ _) (by decide)
    walk1
    refine len_listN (vs := ys) N₇ (.head _) hys (by omega) ?_
    intro t₉ tk₉
    repeat walk1
    (rename Fr _ _ _ _ => kF); (rename News _ _ _ _ => kN)
    exact ⟨rfl, _, _, _, rfl, kF, newsSub kN fun p hp => .tail _ hp⟩
theorem ls_1 {oc2 : Obj} {A₀ : Around} {h₀ : Heap} {L : Addr} {m mg mb : PySem.Str → Option Value} {news : List (Addr × Obj)} {p : Program} {loose : List PySem.Str} {mean : ExcName → Option Value} {name qual : PySem.Str} {params : Arguments} {body : List PySem.Stmt} {scope : Scope} {dV kV doc pm cdv ct oc : Value} {an od : Option Addr} {osl : Array (Option Value)}
  (B : Below A₀ h₀ [] h₀) (F : Fr h₀ L s.heap m) (X₀ : (KF w.params).In h₀) (N : News h₀ L s.heap news) (T : Top p loose mean mg mb h₀) (hroom : A₀.depth < 340) (hh : A₀.handled = none)
  (hK : (KF w.params).lookup 185 = some ⟨oc, od, .func (fnOf name qual params body scope dV kV doc pm an cdv ct), osl⟩) (sz : Nat) (tsz : Tok) (h2 : (L + 2, oc2) ∈ news) (h2d : oc2.data = .cell (some (.int (sz : Int) tsz))) (hsz : 1 ≤ sz ∧ sz ≤ 5) (de : Addr) (dv : List Value) (dl : List Int) (ed : Nat) (hde : (de, PySem.W.listOf dv.toArray ed) ∈ news) (hid : IntsAre dv dl) (hdl : dl.length ≤ 20) (hso : Sorted dl) (hmde : m "depths" = some (.ref de)) (fl : Int) (tf : Tok) (hmf : m "failed" = some (.int fl tf)) (hcount : ∀ r : Nat, r ≤ dl.length → (∀ i : Nat, i < r → dl.getD i 0 ≤ (sz : Int)) → (∀ i : Nat, r ≤ i → i < dl.length → (sz : Int) < dl.getD i 0) → (dl.length : Int) - (r : Int) = fl) :
  wpAny (model PySem.Challenge.rw_us0017_01.prog w) (A₀.deeper (envOfC qual scope L 185 cdv)) (exec ((subSts (body.getD 10 (.Pass default))).getD 1 (.Pass default)) (envOfC qual scope L 185 cdv)) (CutEnd fun s' => ∃ h₂ tk₂, s' = { s with heap := h₂, toks := tk₂ } ∧ Fr h₀ L h₂ m ∧ News h₀ L h₂ news) E s := by
  revert X₀; k_fill; intro X₀
  revert F N
  refine law_unpackL (P := fun body scope qual cdv => Fr h₀ L s.heap m → News h₀ L s.heap news → wpAny (model PySem.Challenge.rw_us0017_01.prog w) (A₀.deeper (envOfC qual scope L 185 cdv)) (exec ((subSts (body.getD 10 (.Pass default))).getD 1 (.Pass default)) (envOfC qual scope L 185 cdv)) (CutEnd fun s' => ∃ h₂ tk₂, s' = { s with heap := h₂, toks := tk₂ } ∧ Fr h₀ L h₂ m ∧ News h₀ L h₂ news) E s) hK ?_
  intro F N
  clear hK
  (try dsimp only [subSts, lawL, lawS, lawQ, lawC, getBody, getScope, getQual, getCd, List.getD, List.getElem?_cons_zero, List.getElem?_cons_succ, Option.getD])
  (try k_fold)

  repeat walk1
  unfold Stop
  refine T_br B (by assumption) X₀ (by assumption) T (frDeeper B.stack) rfl rfl (Nat.lt_trans (roomDeeper hroom) (by decide)) hh de dv dl ed sz tsz hde hid (by omega) hso ?_
  intro h₁ tk₁ t₁ r F₁ N₁ hr1 hr2 hr3
  have hc := hcount r hr1 hr2 hr3
  subst hc
  repeat walk1
  · rename_i hb; simp at hb
  · repeat walk1
    show CutEnd _ Flow.next _
    exact ⟨rfl, _, _, rfl, by assumption, by assumption⟩
end
end
end
end
end Mine
end
section
open PySem
set_option Elab.async false
namespace Mine
theorem filter_take_take (x : PySem.Str) : ∀ (l : List PySem.Str) (s : Nat), l.Nodup → ((l.take (s + 1)).filter (fun z => z != x)).take s = (l.filter (fun z => z != x)).take s
  | [], s, _ => by simp
  | y :: l, s, h => by
    rw [List.nodup_cons] at h
    by_cases e : y = x
    · subst e
      have hn : ∀ m : List PySem.Str, (∀ z ∈ m, z ≠ y) → m.filter (fun z => z != y) = m := fun m hm => List.filter_eq_self.mpr fun z hz => by simpa using hm z hz
      have h1 : ∀ z ∈ l, z ≠ y := fun z hz e => h.1 (e ▸ hz)
      simp only [List.take_succ_cons, List.filter_cons, bne_self_eq_false, Bool.false_eq_true, if_false]
      rw [hn _ (fun z hz => h1 z (List.mem_of_mem_take hz)), hn _ h1, List.take_take, Nat.min_self]
    · have hb : (y != x) = true := by simpa using e
      cases s with
      | zero => simp
      | succ s =>
        simp only [List.take_succ_cons, List.filter_cons, hb, if_true]
        rw [filter_take_take x l s h.2]
theorem shStep_take (s : Nat) (l : List PySem.Str) (x : PySem.Str) (hs : 1 ≤ s) (h5 : s ≤ 5) (hl : l.Nodup) : shStep s (l.take s) x = (shStep 5 l x).take s := by
  obtain ⟨t, rfl⟩ : ∃ t, s = t + 1 := ⟨s - 1, by omega⟩
  unfold shStep
  rw [List.take_take, Nat.min_eq_left h5, List.take_succ_cons, List.take_succ_cons, filter_take_take x l t hl]
theorem shStep_nodup (s : Nat) (l : List PySem.Str) (x : PySem.Str) (hl : l.Nodup) : (shStep s l x).Nodup := by
  unfold shStep
  refine List.Nodup.sublist (List.take_sublist _ _) ?_
  rw [List.nodup_cons]
  exact ⟨fun h => by simpa using (List.mem_filter.mp h).2, hl.sublist (List.filter_sublist)⟩
theorem fold_nodup (s : Nat) : ∀ (xs l : List PySem.Str), l.Nodup → (xs.foldl (shStep s) l).Nodup
  | [], _, h => h
  | x :: xs, l, h => fold_nodup s xs _ (shStep_nodup s l x h)
theorem fold_take (s : Nat) (hs : 1 ≤ s) (h5 : s ≤ 5) : ∀ (xs l : List PySem.Str), l.Nodup → xs.foldl (shStep s) (l.take s) = (xs.foldl (shStep 5) l).take s
  | [], _, _ => rfl
  | x :: xs, l, h => by
    show xs.foldl (shStep s) (shStep s (l.take s) x) = (xs.foldl (shStep 5) (shStep 5 l x)).take s
    rw [shStep_take s l x hs h5 h]
    exact fold_take s hs h5 xs _ (shStep_nodup 5 l x h)
theorem shelf_take (ns : List PySem.Str) (s k : Nat) (hs : 1 ≤ s) (h5 : s ≤ 5) : shelfAt ns s k = (shelfAt ns 5 k).take s := by
  have := fold_take s hs h5 (ns.take k) [] List.nodup_nil
  rw [List.take_nil] at this
  exact this
theorem shelf_nodup (ns : List PySem.Str) (s k : Nat) : (shelfAt ns s k).Nodup := fold_nodup s _ [] List.nodup_nil
end Mine
end
section
open PySem
set_option Elab.async false
namespace Mine
theorem nodup_le : ∀ (l F : List PySem.Str), l.Nodup → (∀ z ∈ l, z ∈ F) → l.length ≤ F.length
  | [], _, _, _ => Nat.zero_le _
  | x :: l, F, h, hF => by
    rw [List.nodup_cons] at h
    have hx := hF x List.mem_cons_self
    have := nodup_le l (F.erase x) h.2 fun z hz => (List.mem_erase_of_ne (by rintro rfl; exact h.1 hz)).mpr (hF z (List.mem_cons_of_mem _ hz))
    rw [List.length_erase_of_mem hx] at this
    have : 0 < F.length := List.length_pos_of_mem hx
    simp only [List.length_cons]; omega
noncomputable def fiveS : List PySem.Str := ["ff", "fi", "ss", "st", "tel"]
theorem wide_step (W : List PySem.Str) (x : PySem.Str) (hn : W.Nodup) (hW : ∀ z ∈ W, z ∈ fiveS) (hx : x ∈ fiveS) : shStep 5 W x = x :: W.filter (fun z => z != x) := by
  unfold shStep
  refine List.take_of_length_le ?_
  have h1 : (x :: W.filter (fun z => z != x)).Nodup := by
    rw [List.nodup_cons]
    exact ⟨fun h => by simpa using (List.mem_filter.mp h).2, hn.sublist (List.filter_sublist)⟩
  exact nodup_le _ fiveS h1 fun z hz => by
    rcases List.mem_cons.mp hz with rfl | hz
    · exact hx
    · exact hW z (List.mem_filter.mp hz).1
theorem filter_erase : ∀ (W : List PySem.Str) (i : Nat) (x : PySem.Str), W.Nodup → W[i]? = some x → W.filter (fun z => z != x) = W.take i ++ W.drop (i + 1)
  | y :: W, 0, x, h, e => by
    rw [List.nodup_cons] at h
    obtain rfl : y = x := by simpa using e
    simp only [List.filter_cons, bne_self_eq_false, Bool.false_eq_true, if_false, List.take_zero, List.nil_append, List.drop_succ_cons, List.drop_zero]
    exact List.filter_eq_self.mpr fun z hz => by
      have : z ≠ y := by rintro rfl; exact h.1 hz
      simpa using this
  | y :: W, i + 1, x, h, e => by
    rw [List.nodup_cons] at h
    have e' : W[i]? = some x := by simpa using e
    have hb : (y != x) = true := by
      have : x ∈ W := List.mem_of_getElem? e'
      have h2 : y ≠ x := by rintro rfl; exact h.1 this
      simpa using h2
    simp only [List.filter_cons, hb, if_true, List.take_succ_cons, List.drop_succ_cons, List.cons_append]
    rw [filter_erase W i x h.2 e']
theorem filter_new (W : List PySem.Str) (x : PySem.Str) (h : x ∉ W) : W.filter (fun z => z != x) = W :=
  List.filter_eq_self.mpr fun z hz => by
    have : z ≠ x := by rintro rfl; exact h hz
    simpa using this
theorem wide_mem (ns : List PySem.Str) (hns : ∀ z ∈ ns, z ∈ fiveS) : ∀ k, ∀ z ∈ shelfAt ns 5 k, z ∈ fiveS := by
  have key : ∀ (xs l : List PySem.Str), (∀ z ∈ xs, z ∈ fiveS) → (∀ z ∈ l, z ∈ fiveS) → ∀ z ∈ xs.foldl (shStep 5) l, z ∈ fiveS := by
    intro xs
    induction xs with
    | nil => intro l _ h; exact h
    | cons x xs ih =>
      intro l hx hl
      refine ih _ (fun z hz => hx z (List.mem_cons_of_mem _ hz)) fun z hz => ?_
      have := List.mem_of_mem_take hz
      rcases List.mem_cons.mp this with rfl | h
      · exact hx _ List.mem_cons_self
      · exact hl z (List.mem_filter.mp h).1
  exact fun k => key _ [] (fun z hz => hns z (List.mem_of_mem_take hz)) (by simp)
theorem wide_old (ns : List PySem.Str) (hns : ∀ z ∈ ns, z ∈ fiveS) {k i : Nat} {x : PySem.Str} (hk : ns[k]? = some x) (hi : (shelfAt ns 5 k)[i]? = some x) :
    shelfAt ns 5 (k + 1) = x :: ((shelfAt ns 5 k).take i ++ (shelfAt ns 5 k).drop (i + 1)) := by
  have h := wide_step (shelfAt ns 5 k) x (shelf_nodup ns 5 k) (wide_mem ns hns k) (hns x (List.mem_of_getElem? hk))
  rw [filter_erase _ i x (shelf_nodup ns 5 k) hi] at h
  rw [← h]
  unfold shelfAt
  rw [List.take_add_one, hk, List.foldl_append]; rfl
theorem wide_new (ns : List PySem.Str) (hns : ∀ z ∈ ns, z ∈ fiveS) {k : Nat} {x : PySem.Str} (hk : ns[k]? = some x) (hi : x ∉ shelfAt ns 5 k) :
    shelfAt ns 5 (k + 1) = x :: shelfAt ns 5 k := by
  have h := wide_step (shelfAt ns 5 k) x (shelf_nodup ns 5 k) (wide_mem ns hns k) (hns x (List.mem_of_getElem? hk))
  rw [filter_new _ x hi] at h
  rw [← h]
  unfold shelfAt
  rw [List.take_add_one, hk, List.foldl_append]; rfl
theorem lack_old {W : List PySem.Str} {i : Nat} {x : PySem.Str} (hn : W.Nodup) (hi : W[i]? = some x) (s : Nat) : x ∈ W.take s ↔ i < s := by
  constructor
  · intro h
    obtain ⟨j, e⟩ := List.mem_iff_getElem?.mp h
    rw [List.getElem?_take] at e
    split at e
    · rename_i hj
      have hjl : j < W.length := (List.getElem?_eq_some_iff.mp e).1
      have : j = i := (List.getElem?_inj hjl hn).mp (e.trans hi.symm)
      omega
    · cases e
  · intro h
    exact List.mem_of_getElem? (i := i) (by rw [List.getElem?_take_of_lt h]; exact hi)
end Mine
end
section
open PySem
set_option Elab.async false
set_option maxRecDepth 100000
namespace Mine
noncomputable def foldL (l : List Nat) : PySem.Str := Txt.join ⟨#[]⟩ ((l.filter (fun c => !b1S c)).map b3S)
theorem base_all : ∀ i : Nat, i < 5 → ∀ j : Nat, j < 3 → foldL ((spellT.getD i []).getD j "").cps.toList = (["ff", "fi", "ss", "st", "tel"] : List PySem.Str).getD i "" := by
  unfold foldL b1S b3S
  decide +kernel
theorem hid_all : ∀ k : Nat, k < 27 → b1S (hidL.getD k 0).toNat = true := by
  unfold b1S
  decide +kernel
theorem slices_all : ∀ i : Nat, i < 5 → ∀ j : Nat, j < 3 → ∀ c : Nat, c < 3 → (Txt.slice ((spellT.getD i []).getD j "") none (some (c : Int))).cps.toList ++ (Txt.slice ((spellT.getD i []).getD j "") (some (c : Int)) none).cps.toList = ((spellT.getD i []).getD j "").cps.toList := by
  decide +kernel
theorem foldL_skip (l1 l2 : List Nat) (h : Nat) (hb : b1S h = true) : foldL (l1 ++ h :: l2) = foldL (l1 ++ l2) := by
  unfold foldL
  rw [List.filter_append, List.filter_append, List.filter_cons, hb]
  rfl
theorem spelled_meant (n : Int) : foldL (spelled2 n).cps.toList = meantS n := by
  have b1 : (n.fmod 5).toNat < 5 := by have := Int.fmod_lt_of_pos n (show (0 : Int) < 5 by decide); have := Int.fmod_nonneg_of_pos n (show (0 : Int) < 5 by decide); omega
  have b2 : ((n.fdiv 5).fmod 3).toNat < 3 := by have := Int.fmod_lt_of_pos (n.fdiv 5) (show (0 : Int) < 3 by decide); have := Int.fmod_nonneg_of_pos (n.fdiv 5) (show (0 : Int) < 3 by decide); omega
  have b3 : ((n.fdiv 60).fmod 27).toNat < 27 := by have := Int.fmod_lt_of_pos (n.fdiv 60) (show (0 : Int) < 27 by decide); have := Int.fmod_nonneg_of_pos (n.fdiv 60) (show (0 : Int) < 27 by decide); omega
  have b4 := Int.fmod_lt_of_pos (n.fdiv 15) (show (0 : Int) < 4 by decide)
  unfold spelled2
  split
  · rename_i hc
    obtain ⟨c, hc2, ec⟩ : ∃ c : Nat, c < 3 ∧ (n.fdiv 15).fmod 4 - 1 = (c : Int) := ⟨((n.fdiv 15).fmod 4 - 1).toNat, by omega, by omega⟩
    rw [ec]
    show foldL (((Txt.slice (spellS n) none (some (c : Int))).cps ++ (hidS n).cps) ++ (Txt.slice (spellS n) (some (c : Int)) none).cps).toList = _
    have e : ((Txt.slice (spellS n) none (some (c : Int))).cps ++ (hidS n).cps ++ (Txt.slice (spellS n) (some (c : Int)) none).cps).toList = (Txt.slice (spellS n) none (some (c : Int))).cps.toList ++ (hidL.getD ((n.fdiv 60).fmod 27).toNat 0).toNat :: (Txt.slice (spellS n) (some (c : Int)) none).cps.toList := by
      simp [hidS]
    rw [e, foldL_skip _ _ _ (hid_all _ b3)]
    have e2 : (Txt.slice (spellS n) none (some (c : Int))).cps.toList ++ (Txt.slice (spellS n) (some (c : Int)) none).cps.toList = (spellS n).cps.toList := slices_all _ b1 _ b2 c hc2
    rw [e2]
    exact base_all _ b1 _ b2
  · exact base_all _ b1 _ b2
end Mine
end
section
open PySem
set_option Elab.async false
set_option maxRecDepth 100000
namespace Mine
theorem base_small : ∀ i : Nat, i < 5 → ∀ j : Nat, j < 3 → ((spellT.getD i []).getD j "").cps.toList.length ≤ 3 := by decide +kernel
theorem spelled_small (n : Int) : (spelled2 n).cps.size ≤ 4 := by
  have b1 : (n.fmod 5).toNat < 5 := by have := Int.fmod_lt_of_pos n (show (0 : Int) < 5 by decide); have := Int.fmod_nonneg_of_pos n (show (0 : Int) < 5 by decide); omega
  have b2 : ((n.fdiv 5).fmod 3).toNat < 3 := by have := Int.fmod_lt_of_pos (n.fdiv 5) (show (0 : Int) < 3 by decide); have := Int.fmod_nonneg_of_pos (n.fdiv 5) (show (0 : Int) < 3 by decide); omega
  have b4 := Int.fmod_lt_of_pos (n.fdiv 15) (show (0 : Int) < 4 by decide)
  have h3 := base_small _ b1 _ b2
  rw [← Array.length_toList]
  unfold spelled2
  split
  · rename_i hc
    obtain ⟨c, hc2, ec⟩ : ∃ c : Nat, c < 3 ∧ (n.fdiv 15).fmod 4 - 1 = (c : Int) := ⟨((n.fdiv 15).fmod 4 - 1).toNat, by omega, by omega⟩
    rw [ec]
    show (((Txt.slice (spellS n) none (some (c : Int))).cps ++ (hidS n).cps) ++ (Txt.slice (spellS n) (some (c : Int)) none).cps).toList.length ≤ 4
    have e2 : (Txt.slice (spellS n) none (some (c : Int))).cps.toList ++ (Txt.slice (spellS n) (some (c : Int)) none).cps.toList = (spellS n).cps.toList := slices_all _ b1 _ b2 c hc2
    have e3 := congrArg List.length e2
    have h4 : (spellS n).cps.toList.length ≤ 3 := h3
    have h5 : (hidS n).cps.toList.length = 1 := rfl
    simp only [List.length_append, Array.toList_append] at e3 ⊢
    omega
  · exact Nat.le_trans h3 (by decide)
theorem meant_small (n : Int) : (meantS n).length ≤ 3 := by
  have b1 : (n.fmod 5).toNat < 5 := by have := Int.fmod_lt_of_pos n (show (0 : Int) < 5 by decide); have := Int.fmod_nonneg_of_pos n (show (0 : Int) < 5 by decide); omega
  have h : ∀ i : Nat, i < 5 → ((["ff", "fi", "ss", "st", "tel"] : List PySem.Str).getD i "").length ≤ 3 := by decide +kernel
  exact h _ b1
theorem fold_room (n : Int) : (((((spelled2 n).cps.toList).filter (fun c => !b1S c)).map b3S).map (·.length)).sum + ((((spelled2 n).cps.toList).filter (fun c => !b1S c)).map b3S).length ≤ 1048576 := by
  have h1 : Txt.join ⟨#[]⟩ ((((spelled2 n).cps.toList).filter (fun c => !b1S c)).map b3S) = meantS n := spelled_meant n
  have h2 := size_glued ⟨#[]⟩ ((((spelled2 n).cps.toList).filter (fun c => !b1S c)).map b3S)
  have h3 := meant_small n
  have h4 : (Builtin.Str.glued ⟨#[]⟩ ((((spelled2 n).cps.toList).filter (fun c => !b1S c)).map b3S)).length ≤ 3 := by
    have h5 : Builtin.Str.glued ⟨#[]⟩ ((((spelled2 n).cps.toList).filter (fun c => !b1S c)).map b3S) = meantS n := h1
    rw [h5]; exact h3
  have h6 : ((((spelled2 n).cps.toList).filter (fun c => !b1S c)).map b3S).length ≤ 4 := by
    rw [List.length_map]
    refine Nat.le_trans (List.length_filter_le _ _) ?_
    rw [Array.length_toList]; exact spelled_small n
  have h7 : (⟨#[]⟩ : PySem.Str).length = 0 := rfl
  rw [h7, Nat.mul_zero, Nat.add_zero] at h2
  omega
end Mine
end
section
open PySem PySem.W PyProof.Rows
set_option Elab.async false
set_option maxRecDepth 100000
namespace Mine
abbrev Prs := List (PySem.Str × Nat)
noncomputable def keysP (P : Prs) : List PySem.Str := P.map (·.1)
noncomputable def lastsP (P : Prs) : List Int := (P.map (fun p => (p.2 : Int))).reverse
structure PInv (ns : List PySem.Str) (k : Nat) (P : Prs) : Prop where
  keys : shelfAt ns 5 k = keysP P
  desc : P.Pairwise (fun a b => b.2 < a.2)
  lt : ∀ p ∈ P, p.2 < k
theorem pinv0 (ns : List PySem.Str) : PInv ns 0 [] := ⟨rfl, .nil, fun _ h => (nomatch h)⟩
theorem split_key {P : Prs} {x : PySem.Str} (hn : (keysP P).Nodup) (h : x ∈ keysP P) : ∃ A v B, P = A ++ (x, v) :: B ∧ x ∉ keysP A ∧ x ∉ keysP B := by
  obtain ⟨⟨y, v⟩, hp, rfl⟩ := List.mem_map.mp h
  obtain ⟨A, B, rfl⟩ := List.append_of_mem hp
  unfold keysP at hn
  rw [List.map_append, List.map_cons, List.nodup_append] at hn
  obtain ⟨_, h2, h3⟩ := hn
  rw [List.nodup_cons] at h2
  exact ⟨A, v, B, rfl, fun hA => h3 _ hA _ List.mem_cons_self rfl, h2.1⟩
theorem lastsP_split (A B : Prs) (x : PySem.Str) (v : Nat) : lastsP (A ++ (x, v) :: B) = lastsP B ++ (v : Int) :: lastsP A := by
  unfold lastsP
  simp
theorem lastsP_app (A B : Prs) : lastsP (A ++ B) = lastsP B ++ lastsP A := by
  unfold lastsP; simp
theorem lastsP_len (P : Prs) : (lastsP P).length = P.length := by unfold lastsP; simp
theorem lastsP_sorted {P : Prs} (h : P.Pairwise (fun a b => b.2 < a.2)) : Sorted (lastsP P) := by
  have hp : (lastsP P).Pairwise (fun a b => a ≤ b) := by
    unfold lastsP
    rw [List.pairwise_reverse, List.pairwise_map]
    exact h.imp fun hab => by omega
  intro i j hij hj
  rcases Nat.lt_or_ge i j with hlt | hge
  · have := List.pairwise_iff_getElem.mp hp i j (by omega) hj hlt
    rw [List.getD_eq_getElem?_getD, List.getD_eq_getElem?_getD, List.getElem?_eq_getElem (by omega), List.getElem?_eq_getElem hj]
    exact this
  · obtain rfl : i = j := by omega
    exact Int.le_refl _
theorem spot_is {A B : Prs} {x : PySem.Str} {v r : Nat} (h : (A ++ (x, v) :: B).Pairwise (fun a b => b.2 < a.2)) (hr : r < (lastsP (A ++ (x, v) :: B)).length)
    (h1 : ∀ i : Nat, i < r → (lastsP (A ++ (x, v) :: B)).getD i 0 < (v : Int)) (h2 : ∀ i : Nat, r ≤ i → i < (lastsP (A ++ (x, v) :: B)).length → (v : Int) ≤ (lastsP (A ++ (x, v) :: B)).getD i 0) : r = B.length := by
  rw [lastsP_split] at h1 h2 hr
  have hl := lastsP_len B
  rcases Nat.lt_trichotomy r B.length with hlt | he | hgt
  · exfalso
    have h3 := h2 r (Nat.le_refl _) hr
    rw [List.getD_eq_getElem?_getD, List.getElem?_append_left (by omega)] at h3
    have hm : (lastsP B)[r]? = some ((lastsP B)[r]'(by omega)) := List.getElem?_eq_getElem _
    rw [hm, Option.getD_some] at h3
    have hmem : (lastsP B)[r]'(by omega) ∈ lastsP B := List.getElem_mem _
    unfold lastsP at hmem
    rw [List.mem_reverse, List.mem_map] at hmem
    obtain ⟨p, hp, e⟩ := hmem
    have h4 := (List.pairwise_append.mp h).2.1
    rw [List.pairwise_cons] at h4
    have h5 := h4.1 p hp
    have h5' : p.2 < v := h5
    have e' : (lastsP B)[r]'(by omega) = (p.2 : Int) := e.symm
    omega
  · exact he
  · exfalso
    have h3 := h1 B.length hgt
    rw [List.getD_eq_getElem?_getD, List.getElem?_append_right (by omega), hl, Nat.sub_self] at h3
    simp at h3
theorem pinv_old {ns : List PySem.Str} {k v : Nat} {x : PySem.Str} {A B : Prs} (hns : ∀ z ∈ ns, z ∈ fiveS) (hk : ns[k]? = some x) (h : PInv ns k (A ++ (x, v) :: B)) : PInv ns (k + 1) ((x, k) :: (A ++ B)) := by
  refine ⟨?_, ?_, ?_⟩
  · have e : shelfAt ns 5 k = keysP A ++ x :: keysP B := by rw [h.keys]; unfold keysP; simp
    have hl : (keysP A).length = A.length := by unfold keysP; simp
    rw [wide_old ns hns (i := (keysP A).length) hk (by rw [e, List.getElem?_append_right (Nat.le_refl _), Nat.sub_self]; rfl), e, List.take_left]
    have e2 : (keysP A ++ x :: keysP B).drop ((keysP A).length + 1) = keysP B := by
      rw [← List.drop_drop, List.drop_left]; rfl
    rw [e2]
    unfold keysP; simp
  · rw [List.pairwise_cons]
    have hd := List.pairwise_append.mp h.desc
    refine ⟨fun p hp => ?_, ?_⟩
    · exact h.lt p (by
        rcases List.mem_append.mp hp with hp | hp
        · exact List.mem_append_left _ hp
        · exact List.mem_append_right _ (List.mem_cons_of_mem _ hp))
    · rw [List.pairwise_append]
      exact ⟨hd.1, (List.pairwise_cons.mp hd.2.1).2, fun a ha b hb => hd.2.2 a ha b (List.mem_cons_of_mem _ hb)⟩
  · intro p hp
    rcases List.mem_cons.mp hp with rfl | hp
    · exact Nat.lt_succ_self _
    · have := h.lt p (by
        rcases List.mem_append.mp hp with hp | hp
        · exact List.mem_append_left _ hp
        · exact List.mem_append_right _ (List.mem_cons_of_mem _ hp))
      omega
theorem pinv_new {ns : List PySem.Str} {k : Nat} {x : PySem.Str} {P : Prs} (hns : ∀ z ∈ ns, z ∈ fiveS) (hk : ns[k]? = some x) (h : PInv ns k P) (hx : x ∉ keysP P) : PInv ns (k + 1) ((x, k) :: P) := by
  refine ⟨?_, ?_, ?_⟩
  · rw [wide_new ns hns hk (by rw [h.keys]; exact hx), h.keys]; rfl
  · rw [List.pairwise_cons]
    exact ⟨fun p hp => h.lt p hp, h.desc⟩
  · intro p hp
    rcases List.mem_cons.mp hp with rfl | hp
    · exact Nat.lt_succ_self _
    · have := h.lt p hp; omega
theorem pinv_len {ns : List PySem.Str} {k : Nat} {P : Prs} (hns : ∀ z ∈ ns, z ∈ fiveS) (h : PInv ns k P) : P.length ≤ 5 := by
  have h1 := shelf_nodup ns 5 k
  have h2 := wide_mem ns hns k
  rw [h.keys] at h1 h2
  have := nodup_le (keysP P) fiveS h1 h2
  have e : (keysP P).length = P.length := by unfold keysP; simp
  have e5 : fiveS.length = 5 := rfl
  omega
structure DInv (kvs : List (PySem.Str × Value)) (k : Nat) (P : Prs) : Prop where
  out : ∀ y, y ∉ keysP P → valueAt kvs y = none
  inn : ∀ p ∈ P, ∃ t, valueAt kvs p.1 = some (.int (p.2 : Int) t)
  len : kvs.length ≤ k
theorem find_map_other (y x : PySem.Str) (v : Value) (h : y ≠ x) : ∀ kvs : List (PySem.Str × Value), valueAt (kvs.map (fun kv => if kv.1 = x then (kv.1, v) else kv)) y = valueAt kvs y
  | [] => rfl
  | (a, u) :: r => by
    have ih := find_map_other y x v h r
    unfold valueAt at ih ⊢
    rw [List.map_cons]
    by_cases ha : a = x
    · subst ha
      rw [if_pos rfl, List.find?_cons, List.find?_cons]
      have : decide (a = y) = false := decide_eq_false (fun e => h e.symm)
      simp only [this]
      exact ih
    · rw [if_neg ha, List.find?_cons, List.find?_cons]
      by_cases hy : a = y
      · simp only [decide_eq_true hy]
      · simp only [decide_eq_false hy]
        exact ih
theorem find_map_same (x : PySem.Str) (v : Value) : ∀ kvs : List (PySem.Str × Value), kvs.any (fun kv => kv.1 = x) = true → valueAt (kvs.map (fun kv => if kv.1 = x then (kv.1, v) else kv)) x = some v
  | [], h => by simp at h
  | (a, u) :: r, h => by
    unfold valueAt
    rw [List.map_cons]
    by_cases ha : a = x
    · subst ha
      rw [if_pos rfl, List.find?_cons]
      simp
    · rw [if_neg ha, List.find?_cons]
      have hd : decide (a = x) = false := decide_eq_false ha
      rw [List.any_cons] at h
      simp only [hd, Bool.false_or] at h
      simp only [hd]
      have := find_map_same x v r h
      unfold valueAt at this
      exact this
theorem valueAt_app (kvs : List (PySem.Str × Value)) (x y : PySem.Str) (v : Value) (h : ¬ kvs.any (fun kv => kv.1 = x) = true) : valueAt (kvs ++ [(x, v)]) y = if y = x then some v else valueAt kvs y := by
  unfold valueAt
  rw [List.find?_append]
  by_cases e : y = x
  · subst e
    have hn : kvs.find? (fun kv => decide (kv.1 = y)) = none := by
      rw [List.find?_eq_none]
      intro kv hkv hk
      exact h (List.any_eq_true.mpr ⟨kv, hkv, hk⟩)
    rw [hn, if_pos rfl]
    simp
  · rw [if_neg e]
    have e' : decide (x = y) = false := decide_eq_false fun q => e q.symm
    cases hf : kvs.find? (fun kv => decide (kv.1 = y)) with
    | some z => rfl
    | none => simp [e']
theorem valueAt_put (kvs : List (PySem.Str × Value)) (x y : PySem.Str) (v : Value) : valueAt (stored kvs x v) y = if y = x then some v else valueAt kvs y := by
  unfold stored
  by_cases h : kvs.any (fun kv => kv.1 = x) = true
  · rw [if_pos h]
    by_cases e : y = x
    · subst e
      rw [if_pos rfl]
      exact find_map_same y v kvs h
    · rw [if_neg e]
      exact find_map_other y x v e kvs
  · rw [if_neg h]
    exact valueAt_app kvs x y v h
theorem dinv_step {kvs : List (PySem.Str × Value)} {k : Nat} {P P' : Prs} {x : PySem.Str} {t : Tok} (h : DInv kvs k P) (h1 : ∀ p ∈ P', p ∈ P) (h2 : ∀ y, y ∈ keysP P → y = x ∨ y ∈ keysP P') (h3 : x ∉ keysP P') : DInv (stored kvs x (.int (k : Int) t)) (k + 1) ((x, k) :: P') := by
  refine ⟨fun y hy => ?_, fun p hp => ?_, ?_⟩
  · have hy' : ¬ (y = x ∨ y ∈ keysP P') := by
      rintro (e | e)
      · exact hy (by subst e; exact List.mem_cons_self)
      · exact hy (List.mem_cons_of_mem _ e)
    rw [valueAt_put, if_neg fun e => hy' (.inl e)]
    exact h.out y fun hm => hy' (h2 y hm)
  · rcases List.mem_cons.mp hp with rfl | hp
    · exact ⟨t, by rw [valueAt_put, if_pos rfl]⟩
    · have e' : p.1 ≠ x := fun e => h3 (by rw [← e]; exact List.mem_map_of_mem (f := fun (p : PySem.Str × Nat) => p.1) hp)
      rw [valueAt_put, if_neg e']
      exact h.inn p (h1 p hp)
  · have := stored_length_le kvs x (.int (k : Int) t)
    have := h.len
    omega
theorem dinv0 : DInv [] 0 [] := ⟨fun _ _ => rfl, fun _ h => (nomatch h), Nat.le_refl _⟩
noncomputable def rowsF : Nat → List PySem.Str → List PySem.Str
  | _, [] => []
  | j, y :: r => (dotsS j ++ y) :: rowsF (j + 1) r
theorem rowsF_len : ∀ (l : List PySem.Str) (j : Nat), (rowsF j l).length = l.length
  | [], _ => rfl
  | _ :: l, j => by simp [rowsF, rowsF_len l (j + 1)]
theorem rowsF_app : ∀ (A B : List PySem.Str) (j : Nat), rowsF j (A ++ B) = rowsF j A ++ rowsF (j + A.length) B
  | [], B, j => rfl
  | a :: A, B, j => by
    rw [List.cons_append, rowsF, rowsF, rowsF_app A B (j + 1), List.cons_append, List.length_cons]
    have : j + 1 + A.length = j + (A.length + 1) := by omega
    rw [this]
theorem rowsF_range : ∀ (l : List PySem.Str) (j : Nat), rowsF (j + 1) l = (List.range l.length).map (fun i => dotsS (j + i + 1) ++ l.getD i "")
  | [], _ => rfl
  | a :: l, j => by
    rw [rowsF, rowsF_range l (j + 1), List.length_cons, List.range_succ_eq_map, List.map_cons, List.map_map]
    congr 1
    refine List.map_congr_left fun i _ => ?_
    show dotsS (j + 1 + i + 1) ++ l.getD i "" = dotsS (j + (i + 1) + 1) ++ (a :: l).getD (i + 1) ""
    rw [List.getD_cons_succ]
    have : j + 1 + i + 1 = j + (i + 1) + 1 := by omega
    rw [this]
theorem five_facts : ∀ y ∈ fiveS, (∀ j < 8, Txt.lstripChars (dotsS j ++ y) "." = y ∧ (⟨(46 :: (dotsS j ++ y).cps.toList).toArray⟩ : PySem.Str) = dotsS (j + 1) ++ y ∧ (dotsS j ++ y).length = j + y.length ∧ PyData.strOk (dotsS j ++ y) = true ∧ (∀ c ∈ (dotsS j ++ y).cps.toList, c ≠ 10 ∧ c ≠ 13)) ∧ y.length ≤ 3 ∧ (∀ c ∈ y.cps.toList, 64 ≤ c ∧ c < 128) ∧ PyData.strOk y = true ∧ 0 < y.length := by decide +kernel
theorem rowsF_bare : ∀ (l : List PySem.Str) (j : Nat), (∀ y ∈ l, y ∈ fiveS) → j + l.length ≤ 8 → (rowsF j l).map (fun r => Txt.lstripChars r ".") = l
  | [], _, _, _ => rfl
  | a :: l, j, h, hj => by
    rw [rowsF, List.map_cons, rowsF_bare l (j + 1) (fun y hy => h y (List.mem_cons_of_mem _ hy)) (by simp only [List.length_cons] at hj; omega)]
    rw [((five_facts a (h a List.mem_cons_self)).1 j (by simp only [List.length_cons] at hj; omega)).1]
theorem rowsF_more : ∀ (l : List PySem.Str) (j : Nat), (∀ y ∈ l, y ∈ fiveS) → j + l.length ≤ 8 → (rowsF j l).map (fun r => (⟨(46 :: r.cps.toList).toArray⟩ : PySem.Str)) = rowsF (j + 1) l
  | [], _, _, _ => rfl
  | a :: l, j, h, hj => by
    rw [rowsF, rowsF, List.map_cons, rowsF_more l (j + 1) (fun y hy => h y (List.mem_cons_of_mem _ hy)) (by simp only [List.length_cons] at hj; omega)]
    rw [((five_facts a (h a List.mem_cons_self)).1 j (by simp only [List.length_cons] at hj; omega)).2.1]
theorem rowsF_mem : ∀ (l : List PySem.Str) (j : Nat), (∀ y ∈ l, y ∈ fiveS) → j + l.length ≤ 8 → ∀ r ∈ rowsF j l, ∃ i y, j ≤ i ∧ i < 8 ∧ y ∈ fiveS ∧ r = dotsS i ++ y
  | [], _, _, _, _, hr => (nomatch hr)
  | a :: l, j, h, hj, r, hr => by
    simp only [List.length_cons] at hj
    rw [rowsF] at hr
    rcases List.mem_cons.mp hr with rfl | hr
    · exact ⟨j, a, Nat.le_refl _, by omega, h a List.mem_cons_self, rfl⟩
    · obtain ⟨i, y, h1, h2, h3, h4⟩ := rowsF_mem l (j + 1) (fun y hy => h y (List.mem_cons_of_mem _ hy)) (by omega) r hr
      exact ⟨i, y, by omega, h2, h3, h4⟩
end Mine
end
section
open PySem PySem.W PyProof.Rows
set_option Elab.async false
set_option maxRecDepth 100000
namespace Mine
noncomputable def depN (ns : List PySem.Str) (j : Nat) : Nat := if ns.getD j "" ∈ shelfAt ns 5 j then (shelfAt ns 5 j).idxOf (ns.getD j "") + 1 else 0
noncomputable def depI (ns : List PySem.Str) (j : Nat) : Int := if 0 < depN ns j then (depN ns j : Int) else 6
noncomputable def itemN (ns : List PySem.Str) (j : Nat) : Nat × List Nat := if depN ns j = 0 then (0, (ns.getD j "").cps.toList) else (depN ns j, [])
noncomputable def itemsN (ns : List PySem.Str) (k : Nat) : List (Nat × List Nat) := (List.range k).map (itemN ns)
theorem getD_of {ns : List PySem.Str} {k : Nat} {x : PySem.Str} (h : ns[k]? = some x) : ns.getD k "" = x := by simp [List.getD, h]
theorem idx_split {A B : List PySem.Str} {x : PySem.Str} (h : x ∉ A) : (A ++ x :: B).idxOf x = A.length := by
  rw [List.idxOf_append, if_neg h, List.idxOf_cons_self]; simp
theorem keysP_split (A B : Prs) (x : PySem.Str) (v : Nat) : keysP (A ++ (x, v) :: B) = keysP A ++ x :: keysP B := by unfold keysP; simp
theorem keysP_len (A : Prs) : (keysP A).length = A.length := by unfold keysP; simp
theorem dep_old {ns : List PySem.Str} {k v : Nat} {x : PySem.Str} {A B : Prs} (h : PInv ns k (A ++ (x, v) :: B)) (hk : ns[k]? = some x) (hA : x ∉ keysP A) : depN ns k = A.length + 1 := by
  unfold depN
  rw [getD_of hk, h.keys, keysP_split, if_pos (by simp), idx_split hA, keysP_len]
theorem dep_new {ns : List PySem.Str} {k : Nat} {x : PySem.Str} {P : Prs} (h : PInv ns k P) (hk : ns[k]? = some x) (hx : x ∉ keysP P) : depN ns k = 0 := by
  unfold depN
  rw [getD_of hk, h.keys, if_neg hx]
theorem any_mem (l : List PySem.Str) (x : PySem.Str) : l.any (· == x) = decide (x ∈ l) := by
  by_cases h : x ∈ l
  · rw [decide_eq_true h, List.any_eq_true]; exact ⟨x, h, by simp⟩
  · rw [decide_eq_false h, List.any_eq_false]
    intro y hy e
    have : y = x := by simpa using e
    exact h (this ▸ hy)
theorem sum_flags : ∀ d : Nat, d < 6 → (((List.range 5).filter (fun z => decide (z < d))).map (fun z => (2 : Int) ^ z)).sum = (2 : Int) ^ d - 1 := by decide +kernel
theorem lack_sum {ns : List PySem.Str} {k d : Nat} {x : PySem.Str} (hd : d ≤ 5) (h : ∀ z : Nat, z < 5 → (x ∈ shelfAt ns (z + 1) k ↔ d ≤ z)) : (((List.range 5).filter (fun z => !((shelfAt ns (z + 1) k).any (· == x)))).map (fun z => (2 : Int) ^ z)).sum = (2 : Int) ^ d - 1 := by
  rw [← sum_flags d (by omega)]
  congr 2
  refine List.filter_congr fun z hz => ?_
  have hz5 := List.mem_range.mp hz
  rw [any_mem]
  by_cases hzd : d ≤ z
  · rw [decide_eq_true ((h z hz5).mpr hzd), decide_eq_false (by omega)]; rfl
  · rw [decide_eq_false fun q => hzd ((h z hz5).mp q), decide_eq_true (by omega)]; rfl
theorem shelf_in {ns : List PySem.Str} {s k i : Nat} {x : PySem.Str} (hs : 1 ≤ s ∧ s ≤ 5) (hi : (shelfAt ns 5 k)[i]? = some x) : x ∈ shelfAt ns s k ↔ i < s := by
  rw [shelf_take ns s k hs.1 hs.2]
  exact lack_old (shelf_nodup ns 5 k) hi s
theorem shelf_out {ns : List PySem.Str} {s k : Nat} {x : PySem.Str} (hs : 1 ≤ s ∧ s ≤ 5) (hx : x ∉ shelfAt ns 5 k) : x ∉ shelfAt ns s k := by
  rw [shelf_take ns s k hs.1 hs.2]
  exact fun h => hx (List.mem_of_mem_take h)
theorem flags_words : (∀ a : Nat, a < 5 → flagsS a = wordsS ((a : Int) + 1)) ∧ flagsS 5 = wordsS 0 := by decide +kernel
theorem idx_at {l : List PySem.Str} {x : PySem.Str} (h : x ∈ l) : l[l.idxOf x]? = some x := by
  have hl := List.idxOf_lt_length_iff.mpr h
  rw [List.getElem?_eq_getElem hl, List.getElem_idxOf hl]
theorem deep_iff (ns : List PySem.Str) (sz j : Nat) (hs : 1 ≤ sz ∧ sz ≤ 5) : ((sz : Int) < depI ns j) ↔ ns.getD j "" ∉ shelfAt ns sz j := by
  unfold depI depN
  by_cases h : ns.getD j "" ∈ shelfAt ns 5 j
  · rw [if_pos h, if_pos (Nat.succ_pos _), shelf_in hs (idx_at h)]
    omega
  · rw [if_neg h, if_neg (Nat.lt_irrefl 0)]
    have := shelf_out hs h
    constructor
    · intro _; exact this
    · intro _; omega
theorem count_is {ns : List PySem.Str} {dl : List Int} {sz r : Nat} (hs : 1 ≤ sz ∧ sz ≤ 5) (hp : dl.Perm ((List.range 8).map (depI ns))) (hr : r ≤ dl.length) (h1 : ∀ i : Nat, i < r → dl.getD i 0 ≤ (sz : Int)) (h2 : ∀ i : Nat, r ≤ i → i < dl.length → (sz : Int) < dl.getD i 0) :
    (dl.length : Int) - (r : Int) = (((List.range 8).filter (fun k => !((shelfAt ns sz k).any (· == ns.getD k "")))).length : Nat) := by
  have e1 : (dl.filter (fun v => decide ((sz : Int) < v))).length = dl.length - r := by
    have hd : dl = dl.take r ++ dl.drop r := (List.take_append_drop r dl).symm
    have ht : (dl.take r).filter (fun v => decide ((sz : Int) < v)) = [] := by
      rw [List.filter_eq_nil_iff]
      intro v hv hvv
      obtain ⟨i, hi, rfl⟩ := List.getElem_of_mem hv
      rw [List.length_take] at hi
      have := h1 i (by omega)
      rw [List.getElem_take] at hvv
      rw [List.getD_eq_getElem?_getD, List.getElem?_eq_getElem (by omega), Option.getD_some] at this
      have h3 := of_decide_eq_true hvv
      omega
    have hdr : (dl.drop r).filter (fun v => decide ((sz : Int) < v)) = dl.drop r := by
      rw [List.filter_eq_self]
      intro v hv
      obtain ⟨i, hi, rfl⟩ := List.getElem_of_mem hv
      rw [List.length_drop] at hi
      have := h2 (r + i) (by omega) (by omega)
      rw [List.getElem_drop]
      rw [List.getD_eq_getElem?_getD, List.getElem?_eq_getElem (by omega), Option.getD_some] at this
      exact decide_eq_true this
    have e : dl.filter (fun v => decide ((sz : Int) < v)) = dl.drop r := by
      conv => lhs; rw [hd]
      rw [List.filter_append, ht, hdr, List.nil_append]
    rw [e, List.length_drop]
  have e2 := (hp.filter (fun v => decide ((sz : Int) < v))).length_eq
  rw [List.filter_map, List.length_map] at e2
  have e3 : (List.range 8).filter ((fun v => decide ((sz : Int) < v)) ∘ depI ns) = (List.range 8).filter (fun k => !((shelfAt ns sz k).any (· == ns.getD k ""))) := by
    refine List.filter_congr fun j _ => ?_
    show decide ((sz : Int) < depI ns j) = _
    rw [any_mem]
    by_cases h : ns.getD j "" ∈ shelfAt ns sz j
    · rw [decide_eq_true h, decide_eq_false fun q => (deep_iff ns sz j hs).mp q h]; rfl
    · rw [decide_eq_false h, decide_eq_true ((deep_iff ns sz j hs).mpr h)]; rfl
  rw [e3] at e2
  omega
theorem sorted_pw {l : List Int} : Sorted l ↔ l.Pairwise (fun a b => a ≤ b) := by
  constructor
  · intro h
    rw [List.pairwise_iff_getElem]
    intro i j hi hj hij
    have := h i j (by omega) hj
    rw [List.getD_eq_getElem?_getD, List.getD_eq_getElem?_getD, List.getElem?_eq_getElem hi, List.getElem?_eq_getElem hj] at this
    exact this
  · intro hp i j hij hj
    rcases Nat.lt_or_ge i j with hlt | hge
    · have := List.pairwise_iff_getElem.mp hp i j (by omega) hj hlt
      rw [List.getD_eq_getElem?_getD, List.getD_eq_getElem?_getD, List.getElem?_eq_getElem (by omega), List.getElem?_eq_getElem hj]
      exact this
    · obtain rfl : i = j := by omega
      exact Int.le_refl _
theorem sorted_ins {l : List Int} {v : Int} {r : Nat} (h : Sorted l) (hr : r ≤ l.length) (h1 : ∀ i : Nat, i < r → l.getD i 0 ≤ v) (h2 : ∀ i : Nat, r ≤ i → i < l.length → v < l.getD i 0) : Sorted (l.take r ++ v :: l.drop r) := by
  rw [sorted_pw] at h ⊢
  have hd : l = l.take r ++ l.drop r := (List.take_append_drop r l).symm
  rw [hd, List.pairwise_append] at h
  have ht : ∀ a ∈ l.take r, a ≤ v := by
    intro a ha
    obtain ⟨i, hi, rfl⟩ := List.getElem_of_mem ha
    rw [List.length_take] at hi
    have := h1 i (by omega)
    rw [List.getD_eq_getElem?_getD, List.getElem?_eq_getElem (by omega), Option.getD_some] at this
    rw [List.getElem_take]; exact this
  have hdr : ∀ b ∈ l.drop r, v ≤ b := by
    intro b hb
    obtain ⟨i, hi, rfl⟩ := List.getElem_of_mem hb
    rw [List.length_drop] at hi
    have := h2 (r + i) (by omega) (by omega)
    rw [List.getD_eq_getElem?_getD, List.getElem?_eq_getElem (by omega), Option.getD_some] at this
    rw [List.getElem_drop]; omega
  rw [List.pairwise_append, List.pairwise_cons]
  refine ⟨h.1, ⟨hdr, h.2.1⟩, fun a ha b hb => ?_⟩
  rcases List.mem_cons.mp hb with rfl | hb
  · exact ht a ha
  · exact h.2.2 a ha b hb
theorem perm_ins {l l' : List Int} {v : Int} {r : Nat} (h : l.Perm l') : (l.take r ++ v :: l.drop r).Perm (l' ++ [v]) := by
  refine List.perm_middle.trans ?_
  rw [List.take_append_drop]
  exact (h.cons v).trans (List.perm_append_singleton v l').symm
theorem deps_succ (ns : List PySem.Str) (k : Nat) : (List.range (k + 1)).map (depI ns) = (List.range k).map (depI ns) ++ [depI ns k] := by
  rw [List.range_succ, List.map_append]; rfl
theorem items_succ (ns : List PySem.Str) (k : Nat) : encL (itemsN ns (k + 1)) = encL (itemsN ns k) ++ encI (itemN ns k) := by
  unfold itemsN encL
  rw [List.range_succ, List.map_append, List.flatMap_append]; simp
theorem enc_old {ns : List PySem.Str} {k d : Nat} (h : depN ns k = d + 1) : encI (itemN ns k) = [((d + 1 : Nat) : Int)] := by
  have hit : itemN ns k = (d + 1, []) := by unfold itemN; rw [if_neg (by omega), h]
  rw [hit]
  unfold encI
  rw [if_neg (Nat.succ_ne_zero _)]
theorem enc_new {ns : List PySem.Str} {k : Nat} {x : PySem.Str} (h : depN ns k = 0) (hx : ns[k]? = some x) : encI (itemN ns k) = [0] ++ (x.cps.size : Int) :: x.cps.toList.flatMap (fun c => [65, ((c - 64 : Nat) : Int)]) := by
  unfold itemN encI
  rw [if_pos h, getD_of hx]
  show 0 :: ((x.cps.toList.length : Nat) : Int) :: _ = _
  rw [Array.length_toList]; rfl
theorem heard_from (ns : List PySem.Str) (hns : ∀ z ∈ ns, z ∈ fiveS) (hl : ns.length = 8) : ∀ n j : Nat, j + n = 8 → OkI (shelfAt ns 5 j) ((List.range' j n).map (itemN ns)) ∧ hrd (shelfAt ns 5 j) ((List.range' j n).map (itemN ns)) = ns.drop j
  | 0, j, h => by
    obtain rfl : j = 8 := by omega
    refine ⟨trivial, ?_⟩
    rw [List.drop_of_length_le (by omega)]; rfl
  | n + 1, j, h => by
    have hj : j < ns.length := by omega
    obtain ⟨ih1, ih2⟩ := heard_from ns hns hl n (j + 1) (by omega)
    have hx : ns[j]? = some (ns[j]) := List.getElem?_eq_getElem hj
    have hg := getD_of hx
    have hx5 := hns _ (List.getElem_mem hj)
    have hf := five_facts _ hx5
    rw [List.range'_succ, List.map_cons, List.drop_eq_getElem_cons hj]
    have hW5 : (shelfAt ns 5 j).length ≤ 5 := by
      have := nodup_le (shelfAt ns 5 j) fiveS (shelf_nodup ns 5 j) (wide_mem ns hns j)
      exact this
    by_cases hm : ns[j] ∈ shelfAt ns 5 j
    · have hd : depN ns j = (shelfAt ns 5 j).idxOf ns[j] + 1 := by unfold depN; rw [hg, if_pos hm]
      have hil := List.idxOf_lt_length_iff.mpr hm
      have hit : itemN ns j = ((shelfAt ns 5 j).idxOf ns[j] + 1, []) := by unfold itemN; rw [if_neg (by omega), hd]
      have ht : tellS (shelfAt ns 5 j) (itemN ns j) = ns[j] := by
        rw [hit]; unfold tellS
        rw [if_neg (Nat.succ_ne_zero _)]
        show (shelfAt ns 5 j).getD ((shelfAt ns 5 j).idxOf ns[j] + 1 - 1) "" = _
        rw [Nat.add_sub_cancel]
        exact getD_of (idx_at hm)
      have hr : restS (shelfAt ns 5 j) (itemN ns j) = (shelfAt ns 5 j).take ((shelfAt ns 5 j).idxOf ns[j]) ++ (shelfAt ns 5 j).drop ((shelfAt ns 5 j).idxOf ns[j] + 1) := by
        rw [hit]; unfold restS
        rw [if_neg (Nat.succ_ne_zero _)]
        show (shelfAt ns 5 j).eraseIdx ((shelfAt ns 5 j).idxOf ns[j] + 1 - 1) = _
        rw [Nat.add_sub_cancel, List.eraseIdx_eq_take_drop_succ]
      have hn : tellS (shelfAt ns 5 j) (itemN ns j) :: restS (shelfAt ns 5 j) (itemN ns j) = shelfAt ns 5 (j + 1) := by
        rw [ht, hr, wide_old ns hns hx (idx_at hm)]
      refine ⟨⟨⟨?_, ?_, ?_, ?_⟩, hn ▸ ih1⟩, ?_⟩
      · rw [hit]; exact hil
      · rw [hit]; show (shelfAt ns 5 j).idxOf ns[j] + 1 < 64; omega
      · rw [hit]; show ([] : List Nat).length < 64; decide
      · rw [hit]; intro c hc; exact nomatch hc
      · show tellS _ _ :: hrd (tellS (shelfAt ns 5 j) (itemN ns j) :: restS (shelfAt ns 5 j) (itemN ns j)) _ = _
        rw [hn, ih2, ht]
    · have hd : depN ns j = 0 := by unfold depN; rw [hg, if_neg hm]
      have hit : itemN ns j = (0, (ns[j]).cps.toList) := by unfold itemN; rw [if_pos hd, hg]
      have ht : tellS (shelfAt ns 5 j) (itemN ns j) = ns[j] := by
        rw [hit]; rfl
      have hr : restS (shelfAt ns 5 j) (itemN ns j) = shelfAt ns 5 j := by rw [hit]; rfl
      have hn : tellS (shelfAt ns 5 j) (itemN ns j) :: restS (shelfAt ns 5 j) (itemN ns j) = shelfAt ns 5 (j + 1) := by
        rw [ht, hr, wide_new ns hns hx hm]
      have hl3 : (ns[j]).cps.size ≤ 3 := hf.2.1
      refine ⟨⟨⟨?_, ?_, ?_, ?_⟩, hn ▸ ih1⟩, ?_⟩
      · rw [hit]; exact Nat.zero_le _
      · rw [hit]; show 0 < 64; decide
      · rw [hit]; show (ns[j]).cps.toList.length < 64; rw [Array.length_toList]; omega
      · rw [hit]; exact hf.2.2.1
      · show tellS _ _ :: hrd (tellS (shelfAt ns 5 j) (itemN ns j) :: restS (shelfAt ns 5 j) (itemN ns j)) _ = _
        rw [hn, ih2, ht]
theorem heard_all (ns : List PySem.Str) (hns : ∀ z ∈ ns, z ∈ fiveS) (hl : ns.length = 8) : OkI [] (itemsN ns 8) ∧ hrd [] (itemsN ns 8) = ns := by
  have h := heard_from ns hns hl 8 0 rfl
  rw [← List.range_eq_range'] at h
  exact h
theorem meant_five (n : Int) : meantS n ∈ fiveS := by
  have b1 : (n.fmod 5).toNat < 5 := by have := Int.fmod_lt_of_pos n (show (0 : Int) < 5 by decide); have := Int.fmod_nonneg_of_pos n (show (0 : Int) < 5 by decide); omega
  have h : ∀ i : Nat, i < 5 → (["ff", "fi", "ss", "st", "tel"] : List PySem.Str).getD i "" ∈ fiveS := by decide +kernel
  exact h _ b1
theorem ints_take : ∀ {vs : List Value} {ys : List Int} (h : IntsAre vs ys) (k : Nat), IntsAre (vs.take k) (ys.take k)
  | _, _, .nil, _ => by simp; exact .nil
  | _, _, .cons y t h, 0 => .nil
  | _, _, .cons y t h, k + 1 => .cons y t (ints_take h k)
theorem ints_drop : ∀ {vs : List Value} {ys : List Int} (h : IntsAre vs ys) (k : Nat), IntsAre (vs.drop k) (ys.drop k)
  | _, _, h, 0 => h
  | _, _, .nil, k + 1 => by simp; exact .nil
  | _, _, .cons y t h, k + 1 => ints_drop h k
theorem lastsP_pop (A B : Prs) (x : PySem.Str) (v : Nat) : (lastsP (A ++ (x, v) :: B)).take B.length ++ (lastsP (A ++ (x, v) :: B)).drop (B.length + 1) = lastsP (A ++ B) := by
  rw [lastsP_split, lastsP_app, ← lastsP_len B, List.take_left, ← List.drop_drop, List.drop_left]
  rfl
theorem lastsP_cons (P : Prs) (x : PySem.Str) (k : Nat) : lastsP ((x, k) :: P) = lastsP P ++ [(k : Int)] := by unfold lastsP; simp
end Mine
end
section
open PySem PySem.W PyProof.Rows
set_option Elab.async false
set_option maxRecDepth 100000
namespace Mine
structure TF (ns : List PySem.Str) (k : Nat) (y : PySem.Str) (P P1 : Prs) (kvs : List (PySem.Str × Value)) : Prop where
  inv : PInv ns (k + 1) ((y, k) :: P1)
  dic : ∀ t, DInv (stored kvs y (.int (k : Int) t)) (k + 1) ((y, k) :: P1)
  sp : (keysP P).idxOf y ≤ (keysP P).length
  rows : (("." : PySem.Str) ++ y) :: ((((rowsF 1 (keysP P)).take ((keysP P).idxOf y)).map fun r => (⟨(46 :: r.cps.toList).toArray⟩ : PySem.Str)) ++ (rowsF 1 (keysP P)).drop ((keysP P).idxOf y + 1)) = rowsF 1 (keysP ((y, k) :: P1))
  hd1 : y ∈ keysP P → ∃ r, (rowsF 1 (keysP P))[(keysP P).idxOf y]? = some r ∧ r.length ≤ 100 ∧ (r.length : Int) - (y.length : Int) = (depN ns k : Int)
  hd0 : y ∉ keysP P → (depN ns k : Int) = 0
  lack : ∃ dd : Nat, dd ≤ 5 ∧ (((List.range 5).filter (fun z => !((shelfAt ns (z + 1) k).any (· == y)))).map (fun z => (2 : Int) ^ z)).sum = (2 : Int) ^ dd - 1 ∧ flagsS dd = wordsS (depN ns k : Int)
  dep5 : depN ns k ≤ 5
theorem dots1 : dotsS 1 = ("." : PySem.Str) := by decide +kernel
theorem rows_cons (y : PySem.Str) (l : List PySem.Str) : rowsF 1 (y :: l) = (("." : PySem.Str) ++ y) :: rowsF 2 l := by
  rw [rowsF, dots1]
theorem tf_old {ns : List PySem.Str} {k v : Nat} {y : PySem.Str} {A B : Prs} {kvs : List (PySem.Str × Value)} (hns : ∀ z ∈ ns, z ∈ fiveS) (hk : ns[k]? = some y) (h : PInv ns k (A ++ (y, v) :: B)) (hD : DInv kvs k (A ++ (y, v) :: B)) (hA : y ∉ keysP A) (hB : y ∉ keysP B) :
    TF ns k y (A ++ (y, v) :: B) (A ++ B) kvs := by
  have hl5 := pinv_len hns h
  have hd := dep_old h hk hA
  have hLl : (A ++ (y, v) :: B).length = A.length + B.length + 1 := by simp; omega
  have hidx : (keysP (A ++ (y, v) :: B)).idxOf y = A.length := by rw [keysP_split, idx_split hA, keysP_len]
  have hmem5 : ∀ z ∈ keysP (A ++ (y, v) :: B), z ∈ fiveS := by rw [← h.keys]; exact wide_mem ns hns k
  have hy5 := hns _ (List.mem_of_getElem? hk)
  have hrow : rowsF 1 (keysP (A ++ (y, v) :: B)) = rowsF 1 (keysP A) ++ (dotsS (A.length + 1) ++ y) :: rowsF (A.length + 2) (keysP B) := by
    rw [keysP_split, rowsF_app, rowsF, keysP_len, Nat.add_comm 1 A.length]
  have hla : (rowsF 1 (keysP A)).length = A.length := by rw [rowsF_len, keysP_len]
  have hmA : ∀ z ∈ keysP A, z ∈ fiveS := fun z hz => hmem5 z (by rw [keysP_split]; exact List.mem_append_left _ hz)
  refine ⟨pinv_old hns hk h, fun t => ?_, ?_, ?_, fun _ => ?_, fun q => ?_, ?_, ?_⟩
  · refine dinv_step hD (fun p hp => ?_) (fun z hz => ?_) ?_
    · rcases List.mem_append.mp hp with hp | hp
      · exact List.mem_append_left _ hp
      · exact List.mem_append_right _ (List.mem_cons_of_mem _ hp)
    · rw [keysP_split] at hz
      rcases List.mem_append.mp hz with hz | hz
      · exact .inr (by unfold keysP at hz ⊢; rw [List.map_append]; exact List.mem_append_left _ hz)
      · rcases List.mem_cons.mp hz with e | hz
        · exact .inl e
        · exact .inr (by unfold keysP at hz ⊢; rw [List.map_append]; exact List.mem_append_right _ hz)
    · unfold keysP at hA hB ⊢
      rw [List.map_append]
      intro q
      rcases List.mem_append.mp q with q | q
      · exact hA q
      · exact hB q
  · rw [hidx, keysP_len, hLl]; omega
  · rw [hidx, hrow]
    have e1 : (rowsF 1 (keysP A) ++ (dotsS (A.length + 1) ++ y) :: rowsF (A.length + 2) (keysP B)).take A.length = rowsF 1 (keysP A) := by
      rw [← hla]; exact List.take_left
    have e2 : (rowsF 1 (keysP A) ++ (dotsS (A.length + 1) ++ y) :: rowsF (A.length + 2) (keysP B)).drop (A.length + 1) = rowsF (A.length + 2) (keysP B) := by
      rw [← List.drop_drop]
      have : (rowsF 1 (keysP A) ++ (dotsS (A.length + 1) ++ y) :: rowsF (A.length + 2) (keysP B)).drop A.length = (dotsS (A.length + 1) ++ y) :: rowsF (A.length + 2) (keysP B) := by
        rw [← hla]; exact List.drop_left
      rw [this]; rfl
    rw [e1, e2, rowsF_more (keysP A) 1 hmA (by rw [keysP_len]; omega)]
    have e3 : keysP ((y, k) :: (A ++ B)) = y :: (keysP A ++ keysP B) := by unfold keysP; simp
    rw [e3, rows_cons, rowsF_app, keysP_len, Nat.add_comm 2 A.length]
  · rw [hidx, hrow]
    refine ⟨dotsS (A.length + 1) ++ y, ?_, ?_, ?_⟩
    · rw [List.getElem?_append_right (by omega), hla, Nat.sub_self]; rfl
    · have hf := (five_facts y hy5).1 (A.length + 1) (by omega)
      rw [hf.2.2.1]
      have := (five_facts y hy5).2.1
      omega
    · have hf := (five_facts y hy5).1 (A.length + 1) (by omega)
      rw [hf.2.2.1, hd]
      omega
  · exact absurd (by rw [keysP_split]; simp) q
  · refine ⟨A.length, by omega, lack_sum (by omega) fun z hz => ?_, ?_⟩
    · have hi : (shelfAt ns 5 k)[A.length]? = some y := by
        rw [h.keys, keysP_split, List.getElem?_append_right (by rw [keysP_len]; exact Nat.le_refl _), keysP_len, Nat.sub_self]; rfl
      rw [shelf_in ⟨by omega, by omega⟩ hi]
      omega
    · rw [hd]; exact flags_words.1 A.length (by omega)
  · omega
theorem tf_new {ns : List PySem.Str} {k : Nat} {y : PySem.Str} {P : Prs} {kvs : List (PySem.Str × Value)} (hns : ∀ z ∈ ns, z ∈ fiveS) (hk : ns[k]? = some y) (h : PInv ns k P) (hD : DInv kvs k P) (hx : y ∉ keysP P) :
    TF ns k y P P kvs := by
  have hl5 := pinv_len hns h
  have hd := dep_new h hk hx
  have hmem5 : ∀ z ∈ keysP P, z ∈ fiveS := by rw [← h.keys]; exact wide_mem ns hns k
  have hidx : (keysP P).idxOf y = (keysP P).length := List.idxOf_eq_length hx
  refine ⟨pinv_new hns hk h hx, fun t => dinv_step hD (fun p hp => hp) (fun z hz => .inr hz) hx, by rw [hidx]; exact Nat.le_refl _, ?_, fun q => absurd q hx, fun _ => by rw [hd]; rfl, ?_, by omega⟩
  · rw [hidx, List.take_of_length_le (by rw [rowsF_len]; exact Nat.le_refl _), List.drop_of_length_le (by rw [rowsF_len]; omega), rowsF_more _ 1 hmem5 (by rw [keysP_len]; omega), List.append_nil]
    exact (rows_cons y (keysP P)).symm
  · refine ⟨5, by omega, lack_sum (by omega) fun z hz => ?_, by rw [hd]; exact flags_words.2⟩
    have := shelf_out (ns := ns) (s := z + 1) (k := k) (x := y) ⟨by omega, by omega⟩ (by rw [h.keys]; exact hx)
    constructor
    · intro q; exact absurd q this
    · intro q; omega
theorem rows_facts {ns : List PySem.Str} {k : Nat} {P : Prs} (hns : ∀ z ∈ ns, z ∈ fiveS) (h : PInv ns k P) :
    (rowsF 1 (keysP P)).length ≤ 8 ∧ (∀ r ∈ rowsF 1 (keysP P), r.length ≤ 20) ∧ (rowsF 1 (keysP P)).map (fun r => Txt.lstripChars r ".") = keysP P ∧ (∀ r ∈ rowsF 1 (keysP P), r.length ≤ 20 ∧ ∃ cs, r.cps.toList = 46 :: cs ∧ ∀ c ∈ cs, c ≠ 10 ∧ c ≠ 13) ∧ (rowsF 1 (keysP P)).all PyData.strOk = true := by
  have hl5 := pinv_len hns h
  have hmem5 : ∀ z ∈ keysP P, z ∈ fiveS := by rw [← h.keys]; exact wide_mem ns hns k
  have hlk : (keysP P).length ≤ 5 := by rw [keysP_len]; exact hl5
  have hm := rowsF_mem (keysP P) 1 hmem5 (by omega)
  have h20 : ∀ r ∈ rowsF 1 (keysP P), r.length ≤ 20 := by
    intro r hr
    obtain ⟨i, y, h1, h2, h3, rfl⟩ := hm r hr
    rw [((five_facts y h3).1 i h2).2.2.1]
    have := (five_facts y h3).2.1
    omega
  refine ⟨by rw [rowsF_len]; omega, h20, rowsF_bare _ 1 hmem5 (by omega), fun r hr => ⟨h20 r hr, ?_⟩, ?_⟩
  · obtain ⟨i, y, h1, h2, h3, rfl⟩ := hm r hr
    obtain ⟨j, rfl⟩ : ∃ j, i = j + 1 := ⟨i - 1, by omega⟩
    have hf := (five_facts y h3).1 (j + 1) h2
    have hf0 := (five_facts y h3).1 j (by omega)
    refine ⟨(dotsS j ++ y).cps.toList, ?_, hf0.2.2.2.2⟩
    have e := congrArg (fun z : PySem.Str => z.cps.toList) hf0.2.1
    exact e.symm
  · rw [List.all_eq_true]
    intro r hr
    obtain ⟨i, y, h1, h2, h3, rfl⟩ := hm r hr
    exact ((five_facts y h3).1 i h2).2.2.2.1
theorem rows_same {ns : List PySem.Str} {k : Nat} {P : Prs} (h : PInv ns k P) : rowsF 1 (keysP P) = (List.range (shelfAt ns 5 k).length).map (fun i => dotsS (i + 1) ++ (shelfAt ns 5 k).getD i "") := by
  rw [h.keys]
  have := rowsF_range (keysP P) 0
  simpa using this
end Mine
end
section
open PySem PySem.W PyProof.Rows PySem.Calls
set_option Elab.async false
set_option maxRecDepth 100000
set_option maxHeartbeats 0
namespace Mine
variable {w : World} {A A₀ : Around} {base h₀ : Heap} {outer : List Env} {env : Env} {L : Addr} {m mg mb : PySem.Str → Option Value} {news : List (Addr × Obj)} {s : Shared} {p : Program} {loose : List PySem.Str} {mean : ExcName → Option Value} {Q : Value → Shared → Prop} {E : Value → Shared → Prop}
noncomputable def led (L la lt de ot rw_ : Addr) (ock oca oce ocw ola od ode oot orw : Obj) (base : List (Addr × Obj)) : List (Addr × Obj) :=
  (L + 4, ock) :: (L + 5, oca) :: (L + 6, oce) :: (L + 7, ocw) :: (la, ola) :: (lt, od) :: (de, ode) :: (ot, oot) :: (rw_, orw) :: base
structure Dst (L la lt de ot rw_ : Addr) (base : List (Addr × Obj)) : Prop where
  l4 : ∀ a ∈ [la, lt, de, ot, rw_], @Ne Nat a (L + 4) ∧ @Ne Nat a (L + 5) ∧ @Ne Nat a (L + 6) ∧ @Ne Nat a (L + 7)
  nd : [la, lt, de, ot, rw_].Nodup
  b4 : ∀ p ∈ base, @Ne Nat p.1 (L + 4) ∧ @Ne Nat p.1 (L + 5) ∧ @Ne Nat p.1 (L + 6) ∧ @Ne Nat p.1 (L + 7)
  bs : ∀ p ∈ base, ∀ a ∈ [la, lt, de, ot, rw_], @Ne Nat p.1 a
theorem apc {a : Addr} {x : Addr × Obj} {l : List (Addr × Obj)} (h : @Ne Nat x.1 a) (k : ∀ p ∈ l, @Ne Nat p.1 a) : ∀ p ∈ x :: l, @Ne Nat p.1 a := fun p hp => by
  rcases List.mem_cons.mp hp with rfl | hp
  · exact h
  · exact k p hp
theorem mem_led {L la lt de ot rw_ : Addr} {ock oca oce ocw ola od ode oot orw : Obj} {base : List (Addr × Obj)} {p : Addr × Obj} (h : p ∈ base) : p ∈ led L la lt de ot rw_ ock oca oce ocw ola od ode oot orw base := by
  unfold led
  exact .tail _ (.tail _ (.tail _ (.tail _ (.tail _ (.tail _ (.tail _ (.tail _ (.tail _ h))))))))
theorem Dst.nes {L la lt de ot rw_ : Addr} {base : List (Addr × Obj)} (D : Dst L la lt de ot rw_ base) : (@Ne Nat la lt ∧ @Ne Nat la de ∧ @Ne Nat la ot ∧ @Ne Nat la rw_) ∧ (@Ne Nat lt de ∧ @Ne Nat lt ot ∧ @Ne Nat lt rw_) ∧ (@Ne Nat de ot ∧ @Ne Nat de rw_) ∧ @Ne Nat ot rw_ := by
  have h := D.nd
  simp only [List.nodup_cons, List.mem_cons, List.not_mem_nil, or_false, not_or, List.nodup_nil, and_true, not_false_eq_true] at h
  obtain ⟨⟨a1, a2, a3, a4⟩, ⟨a5, a6, a7⟩, ⟨a8, a9⟩, a10⟩ := h
  exact ⟨⟨a1, a2, a3, a4⟩, ⟨a5, a6, a7⟩, ⟨a8, a9⟩, a10⟩
theorem lne (L : Nat) {i j : Nat} (h : i ≠ j) : @Ne Nat (L + i) (L + j) := fun e => h (Nat.add_left_cancel e)
theorem upd_k4 {L la lt de ot rw_ : Addr} {ock oca oce ocw ola od ode oot orw : Obj} {base : List (Addr × Obj)} (D : Dst L la lt de ot rw_ base) :
    UpdF (L + 4) ock (led L la lt de ot rw_ ock oca oce ocw ola od ode oot orw base) (fun o => led L la lt de ot rw_ o oca oce ocw ola od ode oot orw base) := by
  obtain ⟨⟨n1, n2, n3, n4⟩, ⟨n5, n6, n7⟩, ⟨n8, n9⟩, n10⟩ := D.nes
  obtain ⟨a1, a2, a3, a4⟩ := D.l4 la (.head _)
  obtain ⟨b1, b2, b3, b4⟩ := D.l4 lt (.tail _ (.head _))
  obtain ⟨c1, c2, c3, c4⟩ := D.l4 de (.tail _ (.tail _ (.head _)))
  obtain ⟨d1, d2, d3, d4⟩ := D.l4 ot (.tail _ (.tail _ (.tail _ (.head _))))
  obtain ⟨e1, e2, e3, e4⟩ := D.l4 rw_ (.tail _ (.tail _ (.tail _ (.tail _ (.head _)))))
  exact .head (apc (lne L (by decide : (5 : Nat) ≠ 4)) (apc (lne L (by decide : (6 : Nat) ≠ 4)) (apc (lne L (by decide : (7 : Nat) ≠ 4)) (apc a1 (apc b1 (apc c1 (apc d1 (apc e1 (fun p hp => by have hb := D.b4 p hp; exact hb.1)))))))))
theorem upd_k5 {L la lt de ot rw_ : Addr} {ock oca oce ocw ola od ode oot orw : Obj} {base : List (Addr × Obj)} (D : Dst L la lt de ot rw_ base) :
    UpdF (L + 5) oca (led L la lt de ot rw_ ock oca oce ocw ola od ode oot orw base) (fun o => led L la lt de ot rw_ ock o oce ocw ola od ode oot orw base) := by
  obtain ⟨⟨n1, n2, n3, n4⟩, ⟨n5, n6, n7⟩, ⟨n8, n9⟩, n10⟩ := D.nes
  obtain ⟨a1, a2, a3, a4⟩ := D.l4 la (.head _)
  obtain ⟨b1, b2, b3, b4⟩ := D.l4 lt (.tail _ (.head _))
  obtain ⟨c1, c2, c3, c4⟩ := D.l4 de (.tail _ (.tail _ (.head _)))
  obtain ⟨d1, d2, d3, d4⟩ := D.l4 ot (.tail _ (.tail _ (.tail _ (.head _))))
  obtain ⟨e1, e2, e3, e4⟩ := D.l4 rw_ (.tail _ (.tail _ (.tail _ (.tail _ (.head _)))))
  exact .tail (lne L (by decide : (4 : Nat) ≠ 5)) (.head (apc (lne L (by decide : (6 : Nat) ≠ 5)) (apc (lne L (by decide : (7 : Nat) ≠ 5)) (apc a2 (apc b2 (apc c2 (apc d2 (apc e2 (fun p hp => by have hb := D.b4 p hp; exact hb.2.1)))))))))
theorem upd_k6 {L la lt de ot rw_ : Addr} {ock oca oce ocw ola od ode oot orw : Obj} {base : List (Addr × Obj)} (D : Dst L la lt de ot rw_ base) :
    UpdF (L + 6) oce (led L la lt de ot rw_ ock oca oce ocw ola od ode oot orw base) (fun o => led L la lt de ot rw_ ock oca o ocw ola od ode oot orw base) := by
  obtain ⟨⟨n1, n2, n3, n4⟩, ⟨n5, n6, n7⟩, ⟨n8, n9⟩, n10⟩ := D.nes
  obtain ⟨a1, a2, a3, a4⟩ := D.l4 la (.head _)
  obtain ⟨b1, b2, b3, b4⟩ := D.l4 lt (.tail _ (.head _))
  obtain ⟨c1, c2, c3, c4⟩ := D.l4 de (.tail _ (.tail _ (.head _)))
  obtain ⟨d1, d2, d3, d4⟩ := D.l4 ot (.tail _ (.tail _ (.tail _ (.head _))))
  obtain ⟨e1, e2, e3, e4⟩ := D.l4 rw_ (.tail _ (.tail _ (.tail _ (.tail _ (.head _)))))
  exact .tail (lne L (by decide : (4 : Nat) ≠ 6)) (.tail (lne L (by decide : (5 : Nat) ≠ 6)) (.head (apc (lne L (by decide : (7 : Nat) ≠ 6)) (apc a3 (apc b3 (apc c3 (apc d3 (apc e3 (fun p hp => by have hb := D.b4 p hp; exact hb.2.2.1)))))))))
theorem upd_k7 {L la lt de ot rw_ : Addr} {ock oca oce ocw ola od ode oot orw : Obj} {base : List (Addr × Obj)} (D : Dst L la lt de ot rw_ base) :
    UpdF (L + 7) ocw (led L la lt de ot rw_ ock oca oce ocw ola od ode oot orw base) (fun o => led L la lt de ot rw_ ock oca oce o ola od ode oot orw base) := by
  obtain ⟨⟨n1, n2, n3, n4⟩, ⟨n5, n6, n7⟩, ⟨n8, n9⟩, n10⟩ := D.nes
  obtain ⟨a1, a2, a3, a4⟩ := D.l4 la (.head _)
  obtain ⟨b1, b2, b3, b4⟩ := D.l4 lt (.tail _ (.head _))
  obtain ⟨c1, c2, c3, c4⟩ := D.l4 de (.tail _ (.tail _ (.head _)))
  obtain ⟨d1, d2, d3, d4⟩ := D.l4 ot (.tail _ (.tail _ (.tail _ (.head _))))
  obtain ⟨e1, e2, e3, e4⟩ := D.l4 rw_ (.tail _ (.tail _ (.tail _ (.tail _ (.head _)))))
  exact .tail (lne L (by decide : (4 : Nat) ≠ 7)) (.tail (lne L (by decide : (5 : Nat) ≠ 7)) (.tail (lne L (by decide : (6 : Nat) ≠ 7)) (.head (apc a4 (apc b4 (apc c4 (apc d4 (apc e4 (fun p hp => by have hb := D.b4 p hp; exact hb.2.2.2)))))))))
theorem upd_la {L la lt de ot rw_ : Addr} {ock oca oce ocw ola od ode oot orw : Obj} {base : List (Addr × Obj)} (D : Dst L la lt de ot rw_ base) :
    UpdF (la) ola (led L la lt de ot rw_ ock oca oce ocw ola od ode oot orw base) (fun o => led L la lt de ot rw_ ock oca oce ocw o od ode oot orw base) := by
  obtain ⟨⟨n1, n2, n3, n4⟩, ⟨n5, n6, n7⟩, ⟨n8, n9⟩, n10⟩ := D.nes
  obtain ⟨a1, a2, a3, a4⟩ := D.l4 la (.head _)
  obtain ⟨b1, b2, b3, b4⟩ := D.l4 lt (.tail _ (.head _))
  obtain ⟨c1, c2, c3, c4⟩ := D.l4 de (.tail _ (.tail _ (.head _)))
  obtain ⟨d1, d2, d3, d4⟩ := D.l4 ot (.tail _ (.tail _ (.tail _ (.head _))))
  obtain ⟨e1, e2, e3, e4⟩ := D.l4 rw_ (.tail _ (.tail _ (.tail _ (.tail _ (.head _)))))
  exact .tail a1.symm (.tail a2.symm (.tail a3.symm (.tail a4.symm (.head (apc n1.symm (apc n2.symm (apc n3.symm (apc n4.symm (fun p hp => D.bs p hp _ (by simp))))))))))
theorem upd_lt {L la lt de ot rw_ : Addr} {ock oca oce ocw ola od ode oot orw : Obj} {base : List (Addr × Obj)} (D : Dst L la lt de ot rw_ base) :
    UpdF (lt) od (led L la lt de ot rw_ ock oca oce ocw ola od ode oot orw base) (fun o => led L la lt de ot rw_ ock oca oce ocw ola o ode oot orw base) := by
  obtain ⟨⟨n1, n2, n3, n4⟩, ⟨n5, n6, n7⟩, ⟨n8, n9⟩, n10⟩ := D.nes
  obtain ⟨a1, a2, a3, a4⟩ := D.l4 la (.head _)
  obtain ⟨b1, b2, b3, b4⟩ := D.l4 lt (.tail _ (.head _))
  obtain ⟨c1, c2, c3, c4⟩ := D.l4 de (.tail _ (.tail _ (.head _)))
  obtain ⟨d1, d2, d3, d4⟩ := D.l4 ot (.tail _ (.tail _ (.tail _ (.head _))))
  obtain ⟨e1, e2, e3, e4⟩ := D.l4 rw_ (.tail _ (.tail _ (.tail _ (.tail _ (.head _)))))
  exact .tail b1.symm (.tail b2.symm (.tail b3.symm (.tail b4.symm (.tail n1 (.head (apc n5.symm (apc n6.symm (apc n7.symm (fun p hp => D.bs p hp _ (by simp))))))))))
theorem upd_de {L la lt de ot rw_ : Addr} {ock oca oce ocw ola od ode oot orw : Obj} {base : List (Addr × Obj)} (D : Dst L la lt de ot rw_ base) :
    UpdF (de) ode (led L la lt de ot rw_ ock oca oce ocw ola od ode oot orw base) (fun o => led L la lt de ot rw_ ock oca oce ocw ola od o oot orw base) := by
  obtain ⟨⟨n1, n2, n3, n4⟩, ⟨n5, n6, n7⟩, ⟨n8, n9⟩, n10⟩ := D.nes
  obtain ⟨a1, a2, a3, a4⟩ := D.l4 la (.head _)
  obtain ⟨b1, b2, b3, b4⟩ := D.l4 lt (.tail _ (.head _))
  obtain ⟨c1, c2, c3, c4⟩ := D.l4 de (.tail _ (.tail _ (.head _)))
  obtain ⟨d1, d2, d3, d4⟩ := D.l4 ot (.tail _ (.tail _ (.tail _ (.head _))))
  obtain ⟨e1, e2, e3, e4⟩ := D.l4 rw_ (.tail _ (.tail _ (.tail _ (.tail _ (.head _)))))
  exact .tail c1.symm (.tail c2.symm (.tail c3.symm (.tail c4.symm (.tail n2 (.tail n5 (.head (apc n8.symm (apc n9.symm (fun p hp => D.bs p hp _ (by simp))))))))))
theorem upd_ot {L la lt de ot rw_ : Addr} {ock oca oce ocw ola od ode oot orw : Obj} {base : List (Addr × Obj)} (D : Dst L la lt de ot rw_ base) :
    UpdF (ot) oot (led L la lt de ot rw_ ock oca oce ocw ola od ode oot orw base) (fun o => led L la lt de ot rw_ ock oca oce ocw ola od ode o orw base) := by
  obtain ⟨⟨n1, n2, n3, n4⟩, ⟨n5, n6, n7⟩, ⟨n8, n9⟩, n10⟩ := D.nes
  obtain ⟨a1, a2, a3, a4⟩ := D.l4 la (.head _)
  obtain ⟨b1, b2, b3, b4⟩ := D.l4 lt (.tail _ (.head _))
  obtain ⟨c1, c2, c3, c4⟩ := D.l4 de (.tail _ (.tail _ (.head _)))
  obtain ⟨d1, d2, d3, d4⟩ := D.l4 ot (.tail _ (.tail _ (.tail _ (.head _))))
  obtain ⟨e1, e2, e3, e4⟩ := D.l4 rw_ (.tail _ (.tail _ (.tail _ (.tail _ (.head _)))))
  exact .tail d1.symm (.tail d2.symm (.tail d3.symm (.tail d4.symm (.tail n3 (.tail n6 (.tail n8 (.head (apc n10.symm (fun p hp => D.bs p hp _ (by simp))))))))))
theorem Dst.newRw {L la lt de ot rw_ rw' : Addr} {base : List (Addr × Obj)} {ock oca oce ocw ola od ode oot orw : Obj} (D : Dst L la lt de ot rw_ base) (h : ∀ p ∈ led L la lt de ot rw_ ock oca oce ocw ola od ode oot orw base, @Ne Nat p.1 rw') : Dst L la lt de ot rw' base := by
  have h4 : @Ne Nat (L + 4) rw' := h (L + 4, ock) (.head _)
  have h5 : @Ne Nat (L + 5) rw' := h (L + 5, oca) (.tail _ (.head _))
  have h6 : @Ne Nat (L + 6) rw' := h (L + 6, oce) (.tail _ (.tail _ (.head _)))
  have h7 : @Ne Nat (L + 7) rw' := h (L + 7, ocw) (.tail _ (.tail _ (.tail _ (.head _))))
  have ha : @Ne Nat la rw' := h (la, ola) (.tail _ (.tail _ (.tail _ (.tail _ (.head _)))))
  have hb : @Ne Nat lt rw' := h (lt, od) (.tail _ (.tail _ (.tail _ (.tail _ (.tail _ (.head _))))))
  have hc : @Ne Nat de rw' := h (de, ode) (.tail _ (.tail _ (.tail _ (.tail _ (.tail _ (.tail _ (.head _)))))))
  have hd : @Ne Nat ot rw' := h (ot, oot) (.tail _ (.tail _ (.tail _ (.tail _ (.tail _ (.tail _ (.tail _ (.head _))))))))
  obtain ⟨⟨n1, n2, n3, n4⟩, ⟨n5, n6, n7⟩, ⟨n8, n9⟩, n10⟩ := D.nes
  refine ⟨?_, ?_, D.b4, ?_⟩
  · intro a hm
    rcases List.mem_cons.mp hm with rfl | hm
    · exact D.l4 _ (by repeat (first | exact List.Mem.head _ | refine List.Mem.tail _ ?_))
    rcases List.mem_cons.mp hm with rfl | hm
    · exact D.l4 _ (by repeat (first | exact List.Mem.head _ | refine List.Mem.tail _ ?_))
    rcases List.mem_cons.mp hm with rfl | hm
    · exact D.l4 _ (by repeat (first | exact List.Mem.head _ | refine List.Mem.tail _ ?_))
    rcases List.mem_cons.mp hm with rfl | hm
    · exact D.l4 _ (by repeat (first | exact List.Mem.head _ | refine List.Mem.tail _ ?_))
    rcases List.mem_cons.mp hm with rfl | hm
    · exact ⟨h4.symm, h5.symm, h6.symm, h7.symm⟩
    exact nomatch hm
  · simp only [List.nodup_cons, List.mem_cons, List.not_mem_nil, or_false, not_or, List.nodup_nil, and_true, not_false_eq_true]
    exact ⟨⟨n1, n2, n3, ha⟩, ⟨n5, n6, hb⟩, ⟨n8, hc⟩, hd⟩
  · intro p hp a hm
    rcases List.mem_cons.mp hm with rfl | hm
    · exact D.bs p hp _ (by repeat (first | exact List.Mem.head _ | refine List.Mem.tail _ ?_))
    rcases List.mem_cons.mp hm with rfl | hm
    · exact D.bs p hp _ (by repeat (first | exact List.Mem.head _ | refine List.Mem.tail _ ?_))
    rcases List.mem_cons.mp hm with rfl | hm
    · exact D.bs p hp _ (by repeat (first | exact List.Mem.head _ | refine List.Mem.tail _ ?_))
    rcases List.mem_cons.mp hm with rfl | hm
    · exact D.bs p hp _ (by repeat (first | exact List.Mem.head _ | refine List.Mem.tail _ ?_))
    rcases List.mem_cons.mp hm with rfl | hm
    · exact h p (mem_led hp)
    exact nomatch hm

theorem Dst.newOt {L la lt de ot rw_ ot' : Addr} {base : List (Addr × Obj)} {ock oca oce ocw ola od ode oot orw : Obj} (D : Dst L la lt de ot rw_ base) (h : ∀ p ∈ led L la lt de ot rw_ ock oca oce ocw ola od ode oot orw base, p.1 ≠ ot → @Ne Nat p.1 ot') : Dst L la lt de ot' rw_ base := by
  obtain ⟨⟨n1, n2, n3, n4⟩, ⟨n5, n6, n7⟩, ⟨n8, n9⟩, n10⟩ := D.nes
  obtain ⟨d1, d2, d3, d4⟩ := D.l4 ot (by repeat (first | exact List.Mem.head _ | refine List.Mem.tail _ ?_))
  have h4 : @Ne Nat (L + 4) ot' := h (L + 4, ock) (.head _) d1.symm
  have h5 : @Ne Nat (L + 5) ot' := h (L + 5, oca) (.tail _ (.head _)) d2.symm
  have h6 : @Ne Nat (L + 6) ot' := h (L + 6, oce) (.tail _ (.tail _ (.head _))) d3.symm
  have h7 : @Ne Nat (L + 7) ot' := h (L + 7, ocw) (.tail _ (.tail _ (.tail _ (.head _)))) d4.symm
  have ha : @Ne Nat la ot' := h (la, ola) (.tail _ (.tail _ (.tail _ (.tail _ (.head _))))) n3
  have hb : @Ne Nat lt ot' := h (lt, od) (.tail _ (.tail _ (.tail _ (.tail _ (.tail _ (.head _)))))) n6
  have hc : @Ne Nat de ot' := h (de, ode) (.tail _ (.tail _ (.tail _ (.tail _ (.tail _ (.tail _ (.head _))))))) n8
  have hd : @Ne Nat rw_ ot' := h (rw_, orw) (.tail _ (.tail _ (.tail _ (.tail _ (.tail _ (.tail _ (.tail _ (.tail _ (.head _))))))))) n10.symm
  refine ⟨?_, ?_, D.b4, ?_⟩
  · intro a hm
    rcases List.mem_cons.mp hm with rfl | hm
    · exact D.l4 _ (by repeat (first | exact List.Mem.head _ | refine List.Mem.tail _ ?_))
    rcases List.mem_cons.mp hm with rfl | hm
    · exact D.l4 _ (by repeat (first | exact List.Mem.head _ | refine List.Mem.tail _ ?_))
    rcases List.mem_cons.mp hm with rfl | hm
    · exact D.l4 _ (by repeat (first | exact List.Mem.head _ | refine List.Mem.tail _ ?_))
    rcases List.mem_cons.mp hm with rfl | hm
    · exact ⟨h4.symm, h5.symm, h6.symm, h7.symm⟩
    rcases List.mem_cons.mp hm with rfl | hm
    · exact D.l4 _ (by repeat (first | exact List.Mem.head _ | refine List.Mem.tail _ ?_))
    exact nomatch hm
  · simp only [List.nodup_cons, List.mem_cons, List.not_mem_nil, or_false, not_or, List.nodup_nil, and_true, not_false_eq_true]
    exact ⟨⟨n1, n2, ha, n4⟩, ⟨n5, hb, n7⟩, ⟨hc, n9⟩, hd.symm⟩
  · intro p hp a hm
    rcases List.mem_cons.mp hm with rfl | hm
    · exact D.bs p hp _ (by repeat (first | exact List.Mem.head _ | refine List.Mem.tail _ ?_))
    rcases List.mem_cons.mp hm with rfl | hm
    · exact D.bs p hp _ (by repeat (first | exact List.Mem.head _ | refine List.Mem.tail _ ?_))
    rcases List.mem_cons.mp hm with rfl | hm
    · exact D.bs p hp _ (by repeat (first | exact List.Mem.head _ | refine List.Mem.tail _ ?_))
    rcases List.mem_cons.mp hm with rfl | hm
    · exact h p (mem_led hp) (D.bs p hp _ (by repeat (first | exact List.Mem.head _ | refine List.Mem.tail _ ?_)))
    rcases List.mem_cons.mp hm with rfl | hm
    · exact D.bs p hp _ (by repeat (first | exact List.Mem.head _ | refine List.Mem.tail _ ?_))
    exact nomatch hm

noncomputable def MSt (w : World) (L : Addr) (ns : List PySem.Str) (d : Addr) (base : List (Addr × Obj)) (ock : Obj) (k : Nat) (m : PySem.Str → Option Value) (news : List (Addr × Obj)) : Prop :=
  ∃ la lt de ot rw_ oca oce ocw od lv el dv ed ov eo rv er ca ce cw kvs P dl,
    news = led L la lt de ot rw_ ock oca oce ocw (PySem.W.listOf (lv : List Value).toArray el) od (PySem.W.listOf (dv : List Value).toArray ed) (PySem.W.listOf (ov : List Value).toArray eo) (PySem.W.listOf (rv : List Value).toArray er) base ∧
    Dst L la lt de ot rw_ base ∧ (oca.data = .cell ca ∧ oce.data = .cell ce ∧ ocw.data = .cell cw) ∧
    (m "drawn" = some (.ref d) ∧ m "lasts" = some (.ref la) ∧ m "latest" = some (.ref lt) ∧ m "rows" = some (.ref rw_) ∧ m "depths" = some (.ref de) ∧ m "octets" = some (.ref ot)) ∧
    PInv ns k P ∧ IntsAre lv (lastsP P) ∧ od.IsDictOf (PySem.strKind PySem.Challenge.rw_us0017_01.prog w) kvs ∧ DInv kvs k P ∧ (lt == sysModules) = false ∧
    StrsAre rv (rowsF 1 (keysP P)) ∧ (IntsAre dv dl ∧ Sorted dl ∧ dl.Perm ((List.range k).map (depI ns))) ∧ IntsAre ov (encL (itemsN ns k))
theorem enc_len (ns : List PySem.Str) (hns : ∀ z ∈ ns, z ∈ fiveS) : ∀ k : Nat, k ≤ ns.length → (encL (itemsN ns k)).length ≤ 8 * k
  | 0, _ => Nat.le_refl _
  | k + 1, hk => by
    rw [items_succ, List.length_append]
    have ih := enc_len ns hns k (by omega)
    have hx : ns[k]? = some (ns[k]) := List.getElem?_eq_getElem (by omega)
    have hf := (five_facts _ (hns _ (List.getElem_mem (show k < ns.length by omega)))).2.1
    have h8 : (encI (itemN ns k)).length ≤ 8 := by
      by_cases hd : depN ns k = 0
      · rw [enc_new hd hx]
        have hfl : ∀ l : List Nat, (l.flatMap (fun c => [(65 : Int), ((c - 64 : Nat) : Int)])).length = 2 * l.length := by
          intro l
          induction l with
          | nil => rfl
          | cons a l ih => rw [List.flatMap_cons, List.length_append, ih, List.length_cons]; simp only [List.length_cons, List.length_nil]; omega
        have hf' : (ns[k]).cps.size ≤ 3 := hf
        simp only [List.length_append, List.length_cons, List.length_nil, hfl, Array.length_toList]
        omega
      · obtain ⟨d, e⟩ : ∃ d, depN ns k = d + 1 := ⟨depN ns k - 1, by omega⟩
        rw [enc_old e]
        simp only [List.length_cons, List.length_nil]; omega
    omega
theorem setM_ne {m : PySem.Str → Option Value} {x y : PySem.Str} {v : Value} {r : Option Value} (h : m y = r) (hne : y ≠ x) : setM m x v y = r := by
  unfold setM; rw [if_neg hne]; exact h
theorem setM_eq {m : PySem.Str → Option Value} {x : PySem.Str} {v : Value} : setM m x v x = some v := by
  unfold setM; rw [if_pos rfl]
structure M6 (m : PySem.Str → Option Value) (d la lt rw_ de ot : Addr) : Prop where
  dr : m "drawn" = some (.ref d)
  la : m "lasts" = some (.ref la)
  lt : m "latest" = some (.ref lt)
  rw_ : m "rows" = some (.ref rw_)
  de : m "depths" = some (.ref de)
  ot : m "octets" = some (.ref ot)
theorem M6.set {m : PySem.Str → Option Value} {d la lt rw_ de ot : Addr} (M : M6 m d la lt rw_ de ot) (x : PySem.Str) (v : Value) (h : ∀ y ∈ (["drawn", "lasts", "latest", "rows", "depths", "octets"] : List PySem.Str), y ≠ x) : M6 (setM m x v) d la lt rw_ de ot :=
  ⟨setM_ne M.dr (h _ (by simp)), setM_ne M.la (h _ (by simp)), setM_ne M.lt (h _ (by simp)), setM_ne M.rw_ (h _ (by simp)), setM_ne M.de (h _ (by simp)), setM_ne M.ot (h _ (by simp))⟩
theorem M6.setRows {m : PySem.Str → Option Value} {d la lt rw_ de ot rw' : Addr} (M : M6 m d la lt rw_ de ot) : M6 (setM m "rows" (.ref rw')) d la lt rw' de ot :=
  ⟨setM_ne M.dr (by decide +kernel), setM_ne M.la (by decide +kernel), setM_ne M.lt (by decide +kernel), setM_eq, setM_ne M.de (by decide +kernel), setM_ne M.ot (by decide +kernel)⟩
theorem n_depth : ∀ y ∈ (["drawn", "lasts", "latest", "rows", "depths", "octets"] : List PySem.Str), y ≠ "depth" := by decide +kernel
theorem n_spot : ∀ y ∈ (["drawn", "lasts", "latest", "rows", "depths", "octets"] : List PySem.Str), y ≠ "spot" := by decide +kernel
theorem n_bare : ∀ y ∈ (["drawn", "lasts", "latest", "rows", "depths", "octets"] : List PySem.Str), y ≠ "bare" := by decide +kernel
theorem n_dots : ∀ y ∈ (["drawn", "lasts", "latest", "rows", "depths", "octets"] : List PySem.Str), y ≠ "dots" := by decide +kernel
theorem n_lacking : ∀ y ∈ (["drawn", "lasts", "latest", "rows", "depths", "octets"] : List PySem.Str), y ≠ "lacking" := by decide +kernel
theorem n_sent : ∀ y ∈ (["drawn", "lasts", "latest", "rows", "depths", "octets"] : List PySem.Str), y ≠ "sent" := by decide +kernel
theorem n_failed : ∀ y ∈ (["drawn", "lasts", "latest", "rows", "depths", "octets"] : List PySem.Str), y ≠ "failed" := by decide +kernel
theorem led_k4 {L la lt de ot rw_ : Addr} {ock oca oce ocw ola od ode oot orw : Obj} {base : List (Addr × Obj)} : (L + 4, ock) ∈ led L la lt de ot rw_ ock oca oce ocw ola od ode oot orw base := .head _
theorem led_k5 {L la lt de ot rw_ : Addr} {ock oca oce ocw ola od ode oot orw : Obj} {base : List (Addr × Obj)} : (L + 5, oca) ∈ led L la lt de ot rw_ ock oca oce ocw ola od ode oot orw base := .tail _ (.head _)
theorem led_k6 {L la lt de ot rw_ : Addr} {ock oca oce ocw ola od ode oot orw : Obj} {base : List (Addr × Obj)} : (L + 6, oce) ∈ led L la lt de ot rw_ ock oca oce ocw ola od ode oot orw base := .tail _ (.tail _ (.head _))
theorem led_k7 {L la lt de ot rw_ : Addr} {ock oca oce ocw ola od ode oot orw : Obj} {base : List (Addr × Obj)} : (L + 7, ocw) ∈ led L la lt de ot rw_ ock oca oce ocw ola od ode oot orw base := .tail _ (.tail _ (.tail _ (.head _)))
theorem led_la {L la lt de ot rw_ : Addr} {ock oca oce ocw ola od ode oot orw : Obj} {base : List (Addr × Obj)} : (la, ola) ∈ led L la lt de ot rw_ ock oca oce ocw ola od ode oot orw base := .tail _ (.tail _ (.tail _ (.tail _ (.head _))))
theorem led_lt {L la lt de ot rw_ : Addr} {ock oca oce ocw ola od ode oot orw : Obj} {base : List (Addr × Obj)} : (lt, od) ∈ led L la lt de ot rw_ ock oca oce ocw ola od ode oot orw base := .tail _ (.tail _ (.tail _ (.tail _ (.tail _ (.head _)))))
theorem led_de {L la lt de ot rw_ : Addr} {ock oca oce ocw ola od ode oot orw : Obj} {base : List (Addr × Obj)} : (de, ode) ∈ led L la lt de ot rw_ ock oca oce ocw ola od ode oot orw base := .tail _ (.tail _ (.tail _ (.tail _ (.tail _ (.tail _ (.head _))))))
theorem led_ot {L la lt de ot rw_ : Addr} {ock oca oce ocw ola od ode oot orw : Obj} {base : List (Addr × Obj)} : (ot, oot) ∈ led L la lt de ot rw_ ock oca oce ocw ola od ode oot orw base := .tail _ (.tail _ (.tail _ (.tail _ (.tail _ (.tail _ (.tail _ (.head _)))))))
theorem led_rw {L la lt de ot rw_ : Addr} {ock oca oce ocw ola od ode oot orw : Obj} {base : List (Addr × Obj)} : (rw_, orw) ∈ led L la lt de ot rw_ ock oca oce ocw ola od ode oot orw base := .tail _ (.tail _ (.tail _ (.tail _ (.tail _ (.tail _ (.tail _ (.tail _ (.head _))))))))
theorem led_newRw {L la lt de ot rw_ : Addr} {ock oca oce ocw ola od ode oot orw : Obj} {base : List (Addr × Obj)} {rw' : Addr} {orw' : Obj} {p : Addr × Obj} (h : p ∈ led L la lt de ot rw' ock oca oce ocw ola od ode oot orw' base) : p = (rw', orw') ∨ p ∈ led L la lt de ot rw_ ock oca oce ocw ola od ode oot orw base := by
  unfold led at h
  rcases List.mem_cons.mp h with rfl | h
  · exact .inr led_k4
  rcases List.mem_cons.mp h with rfl | h
  · exact .inr led_k5
  rcases List.mem_cons.mp h with rfl | h
  · exact .inr led_k6
  rcases List.mem_cons.mp h with rfl | h
  · exact .inr led_k7
  rcases List.mem_cons.mp h with rfl | h
  · exact .inr led_la
  rcases List.mem_cons.mp h with rfl | h
  · exact .inr led_lt
  rcases List.mem_cons.mp h with rfl | h
  · exact .inr led_de
  rcases List.mem_cons.mp h with rfl | h
  · exact .inr led_ot
  rcases List.mem_cons.mp h with rfl | h
  · exact .inl rfl
  exact .inr (mem_led h)
theorem led_newOt {L la lt de ot rw_ : Addr} {ock oca oce ocw ola od ode oot orw : Obj} {base : List (Addr × Obj)} {ot' : Addr} {oot' : Obj} {p : Addr × Obj} (D : Dst L la lt de ot rw_ base) (h : p ∈ led L la lt de ot' rw_ ock oca oce ocw ola od ode oot' orw base) : p = (ot', oot') ∨ (p ∈ led L la lt de ot rw_ ock oca oce ocw ola od ode oot orw base ∧ p.1 ≠ ot) := by
  obtain ⟨⟨n1, n2, n3, n4⟩, ⟨n5, n6, n7⟩, ⟨n8, n9⟩, n10⟩ := D.nes
  obtain ⟨d1, d2, d3, d4⟩ := D.l4 ot (.tail _ (.tail _ (.tail _ (.head _))))
  unfold led at h
  rcases List.mem_cons.mp h with rfl | h
  · exact .inr ⟨led_k4, d1.symm⟩
  rcases List.mem_cons.mp h with rfl | h
  · exact .inr ⟨led_k5, d2.symm⟩
  rcases List.mem_cons.mp h with rfl | h
  · exact .inr ⟨led_k6, d3.symm⟩
  rcases List.mem_cons.mp h with rfl | h
  · exact .inr ⟨led_k7, d4.symm⟩
  rcases List.mem_cons.mp h with rfl | h
  · exact .inr ⟨led_la, n3⟩
  rcases List.mem_cons.mp h with rfl | h
  · exact .inr ⟨led_lt, n6⟩
  rcases List.mem_cons.mp h with rfl | h
  · exact .inr ⟨led_de, n8⟩
  rcases List.mem_cons.mp h with rfl | h
  · exact .inl rfl
  rcases List.mem_cons.mp h with rfl | h
  · exact .inr ⟨led_rw, n10.symm⟩
  exact .inr ⟨mem_led h, D.bs p h _ (by repeat (first | exact List.Mem.head _ | refine List.Mem.tail _ ?_))⟩
section
local macro_rules | `(tactic| k_room) => `(tactic| ((try simp only [depth_under_make, depth_under_kw, depth_in1, depth_deeper, depth_caller]); first | decide | (have hrl : recursionLimit = 1000 := rfl; omega) ))
local macro_rules | `(tactic| walk_at "compareOp In int ref") => `(tactic| (k_here; k_dflt (refine' in_setK ?F ?X ?l ?k ?f ?n ?_; (case F => k_asm); (case X => k_asm); (case l => k_is); (case k => decide +kernel); (case f => rfl); (case n => decide +kernel); k_whole)))
local macro_rules | `(tactic| walk_at "getMethod ref") => `(tactic| (k_here; k_dflt (refine' getMethod_dictK ?F ?X ?l ?k ?_; (case F => k_asm); (case X => k_asm); (case l => k_is); (case k => decide +kernel); k_whole)))
local macro_rules | `(tactic| walk_at "call builtin:dict.get") => `(tactic| (k_here; k_dflt (refine' get_dictKs ?F ?X ?l ?k ?s ?n ?_ ?_; (case F => k_asm); (case X => k_asm); (case l => k_is); (case k => decide +kernel); (case s => decide +kernel); (case n => decide +kernel); (all_goals k_whole); (all_goals intros))))
local macro_rules | `(tactic| walk_at "eval Name") => `(tactic| (k_here; k_dflt (refine' ld ?k1 ?k2 ?_; (case k1 => k_asm); (case k2 => assumption); k_whole)))
local macro_rules | `(tactic| walk_at "subscriptTail Name BinOp ref int") => `(tactic| (k_here; k_dflt (refine' item_cases ?N ?m ?a ?b ?c ?_ ?hs; (case hs => with_unfolding_all rfl); (case N => k_asm); (case m => k_mem); (case a => omega); (case b => (simp only [List.length_cons, List.length_nil]; omega)); (case c => exact Nat.le_of_ble_eq_true rfl); k_whole); (simp only [AllAt]); (repeat' (first | exact trivial | refine ⟨fun _ => ?_, ?_⟩))))
local macro_rules | `(tactic| walk_at "k_tl") => `(tactic| (intro p hp; repeat (first | exact hp | refine List.Mem.tail _ ?_)))
local macro_rules | `(tactic| walk_at "m_mem") => `(tactic| (with_reducible first | assumption | exact List.Mem.head _ | (refine List.Mem.tail _ ?_; walk_at "m_mem")))
local macro_rules | `(tactic| walk_at "call builtin:len") => `(tactic| (k_here; k_dflt (refine' len_intsN ?N ?m ?i ?b ?_; (case N => k_asm); (case m => walk_at "m_mem"); (case i => assumption); (case b => omega); k_whole)))
local macro_rules | `(tactic| walk_at "subscriptTail Name Name ref int") => `(tactic| (k_here; k_dflt (refine' item_intsN ?N ?m ?i ?a ?b ?c ?_ ?hs; (case hs => with_unfolding_all rfl); (case N => k_asm); (case m => walk_at "m_mem"); (case i => assumption); (case a => omega); (case b => omega); (case c => omega); k_whole); intro _))
local macro_rules | `(tactic| walk_at "exec While") => `(tactic| (refine Stop.go ?_))
local macro_rules | `(tactic| walk_at "exec While Compare cons nil") => `(tactic| (refine Stop.go ?_))
section
local macro_rules | `(tactic| walk_at "exec For") => `(tactic| (refine Stop.go ?_))
local macro_rules | `(tactic| walk_at "exec For Name Call") => `(tactic| (refine Stop.go ?_))
local macro_rules | `(tactic| walk_at "exec For Name Call cons nil") => `(tactic| (refine Stop.go ?_))
local macro_rules | `(tactic| walk_at "exec For Name Name") => `(tactic| (refine Stop.go ?_))
local macro_rules | `(tactic| walk_at "exec For Name Name cons nil") => `(tactic| (refine Stop.go ?_))
local macro_rules | `(tactic| walk_at "eval ListComp") => `(tactic| (refine Stop.go ?_))
local macro_rules | `(tactic| walk_at "exec Assign cons ListComp") => `(tactic| (refine Stop.go ?_))
local macro_rules | `(tactic| k_all) => `(tactic| exact fun p hp => Nat.ne_of_lt ((by assumption : ∀ p ∈ _, p.1 < _) p hp))
local macro_rules | `(tactic| walk_at "call builtin:list.append") => `(tactic| (k_here; k_dflt (refine' append_K ?k1 ?k2 ?k3 ?_ ?z; (case k1 => k_asm); (case k2 => k_asm); (case k3 => k_upd); (case z => (rw [sizeLine_eq, List.size_toArray]; omega)); k_whole); intro h' F' N'; (try k_sweep)))
local macro_rules | `(tactic| walk_at "loadName") => `(tactic| (k_here; k_dflt (refine' wpAny_loadName_local ?a ?b ?k1 ?k2 ?_; (case a => rfl); (case b => rfl); (case k1 => exact Fr.ns (by k_asm)); (case k2 => assumption); k_whole)))
local macro_rules | `(tactic| k_all) => `(tactic| exact (by assumption : ∀ p ∈ _, p.1 ≠ _))
section
local macro_rules | `(tactic| walk_at "eval Name") => `(tactic| (k_here; k_dflt (first
  | (refine' nameX_L ?k1 ?k2 ?_ ?a ?b ?c; (case a => rfl); (case b => rfl); (case c => decide); (case k1 => k_asm); (case k2 => assumption); k_whole)
  | (refine' nameX_C ?N ?hc ?hm ?hd ?_ ?a ?b ?c; (case a => rfl); (case b => rfl); (case c => decide); (case N => k_asm); (case hc => rfl); (case hm => walk_at "m_mem"); (case hd => assumption); k_whole))))
local macro_rules | `(tactic| walk_at "eval Name") => `(tactic| (k_here; (with_reducible show wpAny _ _ (eval (Expr.Name _ _) (compEnvC _ _ _ _)) _ _ _); k_dflt (first | refine kcf_cell (by k_asm) (by rfl) (by k_mem) (by k_asm) ?_ | refine LCgL.ld_own (by k_asm) (by k_mem) (by assumption) (by assumption) ?_ | refine LCgL.ld_global (by k_asm) (by k_asm) (by k_asm) (by k_is) ?_ | refine LCgL.ld_built (by k_asm) (by k_asm) (by k_asm) (by k_is) (by boot_by_name) (by decide) ?_)))
section
local macro_rules | `(tactic| walk_at "call ref") => `(tactic| (refine Stop.go ?_))
local macro_rules | `(tactic| k_mem) => `(tactic| (with_reducible first | assumption | exact List.mem_cons_self | (refine List.mem_cons_of_mem _ ?_; k_mem)))
local macro_rules | `(tactic| walk_at "m_mem") => `(tactic| k_mem)
local macro_rules | `(tactic| k_upd) => `(tactic| exact updOf (by assumption))
local macro_rules | `(tactic| walk_at "subscriptTail Name Name ref int") => `(tactic| (k_here; k_dflt (refine' item_strsN ?N ?m ?i ?a ?b ?_ ?hs; (case hs => with_unfolding_all rfl); (case N => k_asm); (case m => walk_at "m_mem"); (case i => assumption); (case a => omega); (case b => assumption); k_whole); intro _))
local macro_rules | `(tactic| walk_at "compareOp In str ref") => `(tactic| (k_here; k_dflt (refine' in_list_strs ?l ?i ?_; (case l => (refine' isListN ?N ?m; (case N => k_asm); (case m => walk_at "m_mem"))); (case i => assumption); k_whole)))
local macro_rules | `(tactic| walk_at "call builtin:list.index") => `(tactic| (k_here; k_dflt (refine' index_strs ?N ?m ?i ?l ?k ?_; (case N => k_asm); (case m => walk_at "m_mem"); (case i => assumption); (case l => omega); (case k => assumption); k_whole)))
local macro_rules | `(tactic| walk_at "compareOp NotEq ref ref") => `(tactic| (refine Stop.go ?_))
local macro_rules | `(tactic| walk_at "compareOp Eq ref ref") => `(tactic| (refine Stop.go ?_))
noncomputable def SBody (w : World) (A₀ : Around) (h₀ : Heap) (L : Addr) (ns : List PySem.Str) (de ot : Addr) (keep : List (Addr × Obj)) (env : Env) (sts : List PySem.Stmt) : Prop :=
  ∀ (s : Shared) (E : Value → Shared → Prop) (m : PySem.Str → Option Value) (news : List (Addr × Obj)) (oc2 : Obj) (sz : Nat) (tsz : Tok), Fr h₀ L s.heap m → News h₀ L s.heap news → (∀ p ∈ keep, p ∈ news) → 1 ≤ sz ∧ sz ≤ 5 → (L + 2, oc2) ∈ news → oc2.data = .cell (some (.int (sz : Int) tsz)) → m "depths" = some (.ref de) → m "octets" = some (.ref ot) →
    wpAny (model PySem.Challenge.rw_us0017_01.prog w) (A₀.deeper env) (execs sts env) (CutEnd fun s' => ∃ h₂ tk₂ m₂, s' = { s with heap := h₂, toks := tk₂ } ∧ Fr h₀ L h₂ m₂ ∧ News h₀ L h₂ news ∧ m₂ "depths" = some (.ref de) ∧ m₂ "octets" = some (.ref ot)) E s
theorem list2 {l : List PySem.Stmt} {d : PySem.Stmt} (h : l.length = 2) : l = [l.getD 0 d, l.getD 1 d] := by
  match l, h with
  | [_, _], _ => rfl
theorem size_body {A₀ : Around} {h₀ : Heap} {L : Addr} {m mg mb : PySem.Str → Option Value} {news : List (Addr × Obj)} {p : Program} {loose : List PySem.Str} {mean : ExcName → Option Value} {name qual : PySem.Str} {params : Arguments} {body : List PySem.Stmt} {scope : Scope} {dV kV doc pm cdv ct oc : Value} {an od : Option Addr} {osl : Array (Option Value)}
  (B : Below A₀ h₀ [] h₀) (F : Fr h₀ L s.heap m) (X₀ : (KF w.params).In h₀) (N : News h₀ L s.heap news) (T : Top p loose mean mg mb h₀) (hroom : A₀.depth < 340) (hh : A₀.handled = none)
  (hK : (KF w.params).lookup 185 = some ⟨oc, od, .func (fnOf name qual params body scope dV kV doc pm an cdv ct), osl⟩) {keep : List (Addr × Obj)} {oc1 oc3 : Obj} (ns : List PySem.Str) (hlen : ns.length = 8)
   (nm : Addr) (h1 : (L + 1, oc1) ∈ keep) (h1d : oc1.data = .cell (some (.ref nm))) (ys : List Value) (en : Nat) (hn : (nm, PySem.W.listOf ys.toArray en) ∈ keep) (hiy : StrsAre ys ns)
   (sh : Addr) (refs : List Value) (es : Nat) (h3 : (L + 3, oc3) ∈ keep) (h3d : oc3.data = .cell (some (.ref sh))) (hsh : (sh, PySem.W.listOf refs.toArray es) ∈ keep) (hok : ShelvesOK keep refs ns 5)
   (de ot : Addr) (dv : List Value) (dl : List Int) (ed : Nat) (hde : (de, PySem.W.listOf dv.toArray ed) ∈ keep) (hid : IntsAre dv dl) (hso : Sorted dl) (hperm : dl.Perm ((List.range 8).map (depI ns))) :
   SBody w A₀ h₀ L ns de ot keep (envOfC qual scope L 185 cdv) (subSts (body.getD 10 (.Pass default))) := by
  clear F N
  intro s E m news oc2 sz tsz F N hkeep hsz h2 h2d hmde hmot
  revert X₀; k_fill; intro X₀
  have h22 : (subSts (body.getD 10 (.Pass default))).length = 2 := law_unpackL (P := fun body _ _ _ => (subSts (body.getD 10 (.Pass default))).length = 2) hK (by rfl)
  rw [list2 (d := .Pass default) h22]
  have hdl : dl.length = 8 := by rw [hperm.length_eq]; simp
  with_reducible refine cut_stmt _ (ls_0 B (by exact F) X₀ (by exact N) T hroom hh hK sh refs ns es (hkeep _ h3) h3d (hkeep _ hsh) (hok.mono hkeep) nm (hkeep _ h1) h1d ys en (hkeep _ hn) hiy hlen sz tsz h2 h2d hsz) ?_
  rintro _ ⟨t, h₁, tk₁, rfl, F₁, N₁⟩
  with_reducible refine cut_stmt _ (ls_1 B (by exact F₁) X₀ (by exact N₁) T hroom hh hK sz tsz h2 h2d hsz de dv dl ed (hkeep _ hde) hid (by omega) hso (setM_ne hmde (by decide +kernel)) _ t setM_eq (fun r hr g1 g2 => count_is hsz hperm hr g1 g2)) ?_
  rintro _ ⟨h₂, tk₂, rfl, F₂, N₂⟩
  exact wpAny_execs_nil ⟨rfl, _, _, _, rfl, F₂, N₂, setM_ne hmde (by decide +kernel), setM_ne hmot (by decide +kernel)⟩
theorem law_10 {A₀ : Around} {h₀ : Heap} {L : Addr} {m mg mb : PySem.Str → Option Value} {news : List (Addr × Obj)} {p : Program} {loose : List PySem.Str} {mean : ExcName → Option Value} {name qual : PySem.Str} {params : Arguments} {body : List PySem.Stmt} {scope : Scope} {dV kV doc pm cdv ct oc : Value} {an od : Option Addr} {osl : Array (Option Value)}
  (B : Below A₀ h₀ [] h₀) (F : Fr h₀ L s.heap m) (X₀ : (KF w.params).In h₀) (N : News h₀ L s.heap news) (T : Top p loose mean mg mb h₀) (hroom : A₀.depth < 340) (hh : A₀.handled = none)
  (hK : (KF w.params).lookup 185 = some ⟨oc, od, .func (fnOf name qual params body scope dV kV doc pm an cdv ct), osl⟩) {keep : List (Addr × Obj)} {oc2 : Obj} {cv : Option Value} {g : Obj → List (Addr × Obj)} (U : UpdF (L + 2) oc2 news g) (h2d : oc2.data = .cell cv) (ns : List PySem.Str) (de ot : Addr) (hkeep : ∀ p ∈ keep, p ∈ news ∧ p.1 ≠ L + 2) (hmde : m "depths" = some (.ref de)) (hmot : m "octets" = some (.ref ot))
   (SB : SBody w A₀ h₀ L ns de ot keep (envOfC qual scope L 185 cdv) (subSts (body.getD 10 (.Pass default)))) :
   wpAny (model PySem.Challenge.rw_us0017_01.prog w) (A₀.deeper (envOfC qual scope L 185 cdv)) (exec (body.getD 10 (.Pass default)) (envOfC qual scope L 185 cdv)) (CutEnd fun s' => ∃ h₂ tk₂ m₂, s' = { s with heap := h₂, toks := tk₂ } ∧ Fr h₀ L h₂ m₂ ∧ News h₀ L h₂ keep ∧ m₂ "octets" = some (.ref ot)) E s := by
  revert X₀; k_fill; intro X₀
  revert F N SB
  refine law_unpackL (P := fun body scope qual cdv => Fr h₀ L s.heap m → News h₀ L s.heap news → SBody w A₀ h₀ L ns de ot keep (envOfC qual scope L 185 cdv) (subSts (body.getD 10 (.Pass default))) → wpAny (model PySem.Challenge.rw_us0017_01.prog w) (A₀.deeper (envOfC qual scope L 185 cdv)) (exec (body.getD 10 (.Pass default)) (envOfC qual scope L 185 cdv)) (CutEnd fun s' => ∃ h₂ tk₂ m₂, s' = { s with heap := h₂, toks := tk₂ } ∧ Fr h₀ L h₂ m₂ ∧ News h₀ L h₂ keep ∧ m₂ "octets" = some (.ref ot)) E s) hK ?_
  intro F N SB
  clear hK
  (try dsimp only [subSts, lawL, lawS, lawQ, lawC, getBody, getScope, getQual, getCd, List.getD, List.getElem?_cons_zero, List.getElem?_cons_succ, Option.getD] at SB)
  (try dsimp only [subSts, lawL, lawS, lawQ, lawC, getBody, getScope, getQual, getCd, List.getD, List.getElem?_cons_zero, List.getElem?_cons_succ, Option.getD])
  (try k_fold)
  repeat walk1
  unfold Stop
  refine For_cut ?_
  repeat walk1
  (rename Fr _ _ _ _ => kF); (rename News _ _ _ _ => kN)
  have hgself : ∀ o, (L + 2, o) ∈ g o := fun o => updF_self (UpdF.again U)
  have hgk : ∀ o, ∀ p ∈ keep, p ∈ g o := fun o p hp => UpdF.memo U (hkeep p hp).1 (hkeep p hp).2
  have hg0 : g oc2 = news := by
    obtain ⟨pre, post, e, hg, _⟩ := U.split
    rw [hg, ← e]
  refine ForRun.range (n := 5) (fun i m' news' => ∃ oc, (∃ cv, oc.data = .cell cv) ∧ news' = g oc ∧ m' "depths" = some (.ref de) ∧ m' "octets" = some (.ref ot)) hh letGo_Name (by assumption) (by decide +kernel) (by decide +kernel) kF kN ⟨oc2, ⟨_, h2d⟩, hg0.symm, hmde, hmot⟩ ?_ ?_
  · clear kF kN
    rintro i t I m₁ news₁ oI h₄ tk₄ hlt ⟨oc, ⟨cv, hoc⟩, rfl, hd1, ho1⟩ F₄ N₄ off
    have hI2 : @Ne Nat I (L + 2) := Ne.symm (off (L + 2, oc) (hgself oc))
    refine wpAny_assign_Name (storeX_C F₄ N₄ rfl (.tail hI2 (UpdF.again U)) hoc ?_)
    intro h₅ oc₂ F₅ N₅ hoc₂
    have ei : (1 : Int) + (i : Int) = ((i + 1 : Nat) : Int) := by omega
    rw [ei] at hoc₂
    refine wpAny_mono (SB _ _ m₁ _ oc₂ (i + 1) t (by exact F₅) (by exact N₅) (fun p hp => .tail _ (hgk oc₂ p hp)) ⟨by omega, by omega⟩ (.tail _ (hgself oc₂)) hoc₂ hd1 ho1) (fun f s' hq => ?_) (fun _ _ h => h)
    obtain ⟨rfl, h₆, tk₆, m₂, rfl, F₆, N₆, hd2, ho2⟩ := hq
    refine TurnJ.intro F₆ N₆ (g oc₂) (.head _) (fun p hp => .tail _ hp) (fun p hp => ?_) ⟨oc₂, ⟨_, hoc₂⟩, rfl, hd2, ho2⟩
    by_cases hp2 : p.1 = L + 2
    · rw [hp2]; exact Ne.symm hI2
    · exact off p (UpdF.memo (UpdF.again (o' := oc₂) U) hp hp2)
  · clear kF kN
    rintro h₄ tk₄ m₁ news₁ F₄ N₄ ⟨oc, hoc, rfl, hd1, ho1⟩
    exact wpAny_execs_nil ⟨rfl, _, _, _, rfl, F₄, newsSub N₄ (hgk oc), ho1⟩
noncomputable def MBody (w : World) (A₀ : Around) (h₀ : Heap) (L : Addr) (ns : List PySem.Str) (d : Addr) (base : List (Addr × Obj)) (env : Env) (sts : List PySem.Stmt) : Prop :=
  ∀ (s : Shared) (E : Value → Shared → Prop) (m : PySem.Str → Option Value) (news : List (Addr × Obj)) (p : Addr × Obj) (ock : Obj) (kk : Nat) (tkk : Tok), Fr h₀ L s.heap m → News h₀ L s.heap news → kk < 8 → ock.data = .cell (some (.int (kk : Int) tkk)) → MSt w L ns d (p :: base) ock kk m news →
    wpAny (model PySem.Challenge.rw_us0017_01.prog w) (A₀.deeper env) (execs sts env) (CutEnd fun s' => ∃ h₂ tk₂ m₂ news₂, s' = { s with heap := h₂, toks := tk₂ } ∧ Fr h₀ L h₂ m₂ ∧ News h₀ L h₂ news₂ ∧ MSt w L ns d (p :: base) ock (kk + 1) m₂ news₂) E s
theorem Dst.more {L la lt de ot rw_ : Addr} {base : List (Addr × Obj)} {ock oca oce ocw ola od ode oot orw : Obj} (D : Dst L la lt de ot rw_ base) {q : Addr × Obj} (h : ∀ p ∈ led L la lt de ot rw_ ock oca oce ocw ola od ode oot orw base, @Ne Nat p.1 q.1) : Dst L la lt de ot rw_ (q :: base) := by
  refine ⟨D.l4, D.nd, fun p hp => ?_, fun p hp a ha => ?_⟩
  · rcases List.mem_cons.mp hp with rfl | hp
    · exact ⟨(h _ led_k4).symm, (h _ led_k5).symm, (h _ led_k6).symm, (h _ led_k7).symm⟩
    · exact D.b4 p hp
  · rcases List.mem_cons.mp hp with rfl | hp
    · simp only [List.mem_cons, List.not_mem_nil, or_false] at ha
      rcases ha with rfl | rfl | rfl | rfl | rfl
      · exact (h _ led_la).symm
      · exact (h _ led_lt).symm
      · exact (h _ led_de).symm
      · exact (h _ led_ot).symm
      · exact (h _ led_rw).symm
    · exact D.bs p hp a ha
theorem Dst.less {L la lt de ot rw_ : Addr} {base : List (Addr × Obj)} {q : Addr × Obj} (D : Dst L la lt de ot rw_ (q :: base)) : Dst L la lt de ot rw_ base := ⟨D.l4, D.nd, fun p hp => D.b4 p (.tail _ hp), fun p hp => D.bs p (.tail _ hp)⟩
theorem led_split {L la lt de ot rw_ : Addr} {base : List (Addr × Obj)} {ock oca oce ocw ola od ode oot orw : Obj} {p : Addr × Obj} (h : p ∈ led L la lt de ot rw_ ock oca oce ocw ola od ode oot orw base) : p ∈ led L la lt de ot rw_ ock oca oce ocw ola od ode oot orw [] ∨ p ∈ base :=
  List.mem_append.mp (show p ∈ led L la lt de ot rw_ ock oca oce ocw ola od ode oot orw [] ++ base from h)
theorem led_join {L la lt de ot rw_ : Addr} {base : List (Addr × Obj)} {ock oca oce ocw ola od ode oot orw : Obj} {p : Addr × Obj} (h : p ∈ led L la lt de ot rw_ ock oca oce ocw ola od ode oot orw []) : p ∈ led L la lt de ot rw_ ock oca oce ocw ola od ode oot orw base :=
  show p ∈ led L la lt de ot rw_ ock oca oce ocw ola od ode oot orw [] ++ base from List.mem_append_left base h
theorem led_more {L la lt de ot rw_ : Addr} {base : List (Addr × Obj)} {ock oca oce ocw ola od ode oot orw : Obj} {q p : Addr × Obj} (h : p ∈ led L la lt de ot rw_ ock oca oce ocw ola od ode oot orw (q :: base)) : p ∈ q :: led L la lt de ot rw_ ock oca oce ocw ola od ode oot orw base := by
  rcases led_split h with h | h
  · exact .tail _ (led_join h)
  rcases List.mem_cons.mp h with rfl | h
  · exact .head _
  exact .tail _ (mem_led h)
theorem led_less {L la lt de ot rw_ : Addr} {base : List (Addr × Obj)} {ock oca oce ocw ola od ode oot orw : Obj} {q p : Addr × Obj} (h : p ∈ led L la lt de ot rw_ ock oca oce ocw ola od ode oot orw base) : p ∈ led L la lt de ot rw_ ock oca oce ocw ola od ode oot orw (q :: base) := by
  rcases led_split h with h | h
  · exact led_join h
  exact mem_led (.tail _ h)
theorem MSt.into {d I : Addr} {oI ock : Obj} {ns : List PySem.Str} {base : List (Addr × Obj)} {k : Nat} (M : MSt w L ns d base ock k m news) (off : ∀ p ∈ news, p.1 ≠ I) :
    ∃ g, UpdF (L + 4) ock ((I, oI) :: news) g ∧ ∀ o, ∃ news₂, (∀ p ∈ news₂, p ∈ g o) ∧ MSt w L ns d ((I, oI) :: base) o k m news₂ := by
  refine hide ?_; intro goalG intoG; obtain ⟨la, lt, de, ot, rw_, oca, oce, ocw, od, lv, el, dv, ed, ov, eo, rv, er, ca, ce, cw, kvs, P, dl, rfl, D, r⟩ := M; refine intoG ?_; clear intoG goalG
  have off' : ∀ p ∈ led L la lt de ot rw_ ock oca oce ocw (PySem.W.listOf lv.toArray el) od (PySem.W.listOf dv.toArray ed) (PySem.W.listOf ov.toArray eo) (PySem.W.listOf rv.toArray er) base, @Ne Nat p.1 (I, oI).1 := off
  exact ⟨_, .tail (Ne.symm (off _ led_k4)) (upd_k4 D), fun o => ⟨_, fun p hp => led_more hp, la, lt, de, ot, rw_, oca, oce, ocw, od, lv, el, dv, ed, ov, eo, rv, er, ca, ce, cw, kvs, P, dl, rfl, D.more off', r⟩⟩
theorem MSt.out {d I : Addr} {oI ock : Obj} {ns : List PySem.Str} {base : List (Addr × Obj)} {k : Nat} (M : MSt w L ns d ((I, oI) :: base) ock k m news) (hb : ∀ p ∈ base, p.1 ≠ I) :
    (I, oI) ∈ news ∧ ∃ news', (∀ p ∈ news', p ∈ news) ∧ (∀ p ∈ news', p.1 ≠ I) ∧ MSt w L ns d base ock k m news' := by
  refine hide ?_; intro goalG intoG; obtain ⟨la, lt, de, ot, rw_, oca, oce, ocw, od, lv, el, dv, ed, ov, eo, rv, er, ca, ce, cw, kvs, P, dl, rfl, D, r⟩ := M; refine intoG ?_; clear intoG goalG
  obtain ⟨c1, c2, c3, c4⟩ := D.b4 (I, oI) (.head _)
  have bs := D.bs (I, oI) (.head _)
  refine ⟨mem_led (.head _), _, fun p hp => led_less hp, fun p hp => ?_, la, lt, de, ot, rw_, oca, oce, ocw, od, lv, el, dv, ed, ov, eo, rv, er, ca, ce, cw, kvs, P, dl, rfl, D.less, r⟩
  unfold led at hp
  rcases List.mem_cons.mp hp with rfl | hp
  · exact Ne.symm c1
  rcases List.mem_cons.mp hp with rfl | hp
  · exact Ne.symm c2
  rcases List.mem_cons.mp hp with rfl | hp
  · exact Ne.symm c3
  rcases List.mem_cons.mp hp with rfl | hp
  · exact Ne.symm c4
  rcases List.mem_cons.mp hp with rfl | hp
  · exact Ne.symm (bs _ (by repeat (first | exact List.Mem.head _ | refine List.Mem.tail _ ?_)))
  rcases List.mem_cons.mp hp with rfl | hp
  · exact Ne.symm (bs _ (by repeat (first | exact List.Mem.head _ | refine List.Mem.tail _ ?_)))
  rcases List.mem_cons.mp hp with rfl | hp
  · exact Ne.symm (bs _ (by repeat (first | exact List.Mem.head _ | refine List.Mem.tail _ ?_)))
  rcases List.mem_cons.mp hp with rfl | hp
  · exact Ne.symm (bs _ (by repeat (first | exact List.Mem.head _ | refine List.Mem.tail _ ?_)))
  rcases List.mem_cons.mp hp with rfl | hp
  · exact Ne.symm (bs _ (by repeat (first | exact List.Mem.head _ | refine List.Mem.tail _ ?_)))
  exact hb p hp
theorem law_9 {A₀ : Around} {h₀ : Heap} {L : Addr} {m mg mb : PySem.Str → Option Value} {news : List (Addr × Obj)} {p : Program} {loose : List PySem.Str} {mean : ExcName → Option Value} {name qual : PySem.Str} {params : Arguments} {body : List PySem.Stmt} {scope : Scope} {dV kV doc pm cdv ct oc : Value} {an od : Option Addr} {osl : Array (Option Value)}
  (B : Below A₀ h₀ [] h₀) (F : Fr h₀ L s.heap m) (X₀ : (KF w.params).In h₀) (N : News h₀ L s.heap news) (T : Top p loose mean mg mb h₀) (hroom : A₀.depth < 340) (hh : A₀.handled = none)
  (hK : (KF w.params).lookup 185 = some ⟨oc, od, .func (fnOf name qual params body scope dV kV doc pm an cdv ct), osl⟩) {base : List (Addr × Obj)} {ock : Obj} {cv : Option Value} (d : Addr) (nst : List PySem.Str) (hkd : ock.data = .cell cv) (M : MSt w L nst d base ock 0 m news)
   (MB : MBody w A₀ h₀ L nst d base (envOfC qual scope L 185 cdv) (subSts (body.getD 9 (.Pass default)))) :
   wpAny (model PySem.Challenge.rw_us0017_01.prog w) (A₀.deeper (envOfC qual scope L 185 cdv)) (exec (body.getD 9 (.Pass default)) (envOfC qual scope L 185 cdv)) (CutEnd fun s' => ∃ h₂ tk₂ m₂ news₂ ock', s' = { s with heap := h₂, toks := tk₂ } ∧ Fr h₀ L h₂ m₂ ∧ News h₀ L h₂ news₂ ∧ MSt w L nst d base ock' 8 m₂ news₂) E s := by
  revert X₀; k_fill; intro X₀
  revert F N MB
  refine law_unpackL (P := fun body scope qual cdv => Fr h₀ L s.heap m → News h₀ L s.heap news → MBody w A₀ h₀ L nst d base (envOfC qual scope L 185 cdv) (subSts (body.getD 9 (.Pass default))) → wpAny (model PySem.Challenge.rw_us0017_01.prog w) (A₀.deeper (envOfC qual scope L 185 cdv)) (exec (body.getD 9 (.Pass default)) (envOfC qual scope L 185 cdv)) (CutEnd fun s' => ∃ h₂ tk₂ m₂ news₂ ock', s' = { s with heap := h₂, toks := tk₂ } ∧ Fr h₀ L h₂ m₂ ∧ News h₀ L h₂ news₂ ∧ MSt w L nst d base ock' 8 m₂ news₂) E s) hK ?_
  intro F N MB
  clear hK
  (try dsimp only [subSts, lawL, lawS, lawQ, lawC, getBody, getScope, getQual, getCd, List.getD, List.getElem?_cons_zero, List.getElem?_cons_succ, Option.getD] at MB)
  (try dsimp only [subSts, lawL, lawS, lawQ, lawC, getBody, getScope, getQual, getCd, List.getD, List.getElem?_cons_zero, List.getElem?_cons_succ, Option.getD])
  (try k_fold)
  repeat walk1
  unfold Stop
  refine For_cut ?_
  repeat walk1
  (rename Fr _ _ _ _ => kF); (rename News _ _ _ _ => kN)
  refine ForRun.range (n := 8) (fun i m' news' => ∃ ock, (∃ cv, ock.data = .cell cv) ∧ MSt w L nst d base ock i m' news') hh letGo_Name (by assumption) (by decide +kernel) (by decide +kernel) kF kN ⟨ock, ⟨_, hkd⟩, M⟩ ?_ ?_
  · clear kF kN
    rintro i t I m₁ news₁ oI h₄ tk₄ hlt ⟨oc, ⟨cv, hoc⟩, M⟩ F₄ N₄ off
    have hbI : ∀ p ∈ base, p.1 ≠ I := by
      obtain ⟨_, _, _, _, _, _, _, _, _, _, _, _, _, _, _, _, _, _, _, _, _, _, _, rfl, _⟩ := id M
      exact fun p hp => off p (mem_led hp)
    obtain ⟨g, U, hg⟩ := M.into (oI := oI) off
    refine wpAny_assign_Name (storeX_C F₄ N₄ rfl U hoc ?_)
    intro h₅ oc₂ F₅ N₅ hoc₂
    obtain ⟨news₂, hs, M₂⟩ := hg oc₂
    have ei : (0 : Int) + (i : Int) = (i : Int) := by omega
    rw [ei] at hoc₂
    refine wpAny_mono (MB _ _ m₁ news₂ (I, oI) oc₂ i t (by exact F₅) (by exact newsSub N₅ hs) hlt hoc₂ M₂) (fun f s' hq => ?_) (fun _ _ h => h)
    obtain ⟨rfl, h₆, tk₆, m₂, news₃, rfl, F₆, N₆, M₆⟩ := hq
    obtain ⟨hI, news', hs', hoff, M₇⟩ := M₆.out hbI
    exact TurnJ.intro F₆ N₆ news' hI hs' hoff ⟨oc₂, ⟨_, hoc₂⟩, M₇⟩
  · clear kF kN
    rintro h₄ tk₄ m₁ news₁ F₄ N₄ ⟨oc, hoc, M⟩
    exact wpAny_execs_nil ⟨rfl, _, _, _, _, oc, rfl, F₄, N₄, M⟩
theorem lb_0 {ock oca : Obj} {cv : Option Value} {g : Obj → List (Addr × Obj)} {A₀ : Around} {h₀ : Heap} {L : Addr} {m mg mb : PySem.Str → Option Value} {news : List (Addr × Obj)} {p : Program} {loose : List PySem.Str} {mean : ExcName → Option Value} {name qual : PySem.Str} {params : Arguments} {body : List PySem.Stmt} {scope : Scope} {dV kV doc pm cdv ct oc : Value} {an od : Option Addr} {osl : Array (Option Value)}
  (B : Below A₀ h₀ [] h₀) (F : Fr h₀ L s.heap m) (X₀ : (KF w.params).In h₀) (N : News h₀ L s.heap news) (T : Top p loose mean mg mb h₀) (hroom : A₀.depth < 340) (hh : A₀.handled = none)
  (hK : (KF w.params).lookup 185 = some ⟨oc, od, .func (fnOf name qual params body scope dV kV doc pm an cdv ct), osl⟩) (kk : Nat) (tkk : Tok) (hk4 : (L + 4, ock) ∈ news) (hk4d : ock.data = .cell (some (.int (kk : Int) tkk))) (hkk : kk < 8) (U : UpdF (L + 5) oca news g) (hdc : oca.data = .cell cv) (d : Addr) (ws : List Value) (ds : List Int) (e : Nat) (hd : (d, PySem.W.listOf ws.toArray e) ∈ news) (hi : IntsAre ws ds) (hlen : ds.length = 8) (hb : ∀ x ∈ ds, 0 ≤ x ∧ x < 1000000) (hv : m "drawn" = some (.ref d)) (x : Int) (hx : ds[kk]? = some x) :
  wpAny (model PySem.Challenge.rw_us0017_01.prog w) (A₀.deeper (envOfC qual scope L 185 cdv)) (exec ((subSts (body.getD 9 (.Pass default))).getD 0 (.Pass default)) (envOfC qual scope L 185 cdv)) (CutEnd fun s' => ∃ h₂ tk₂ o2 t2, s' = { s with heap := h₂, toks := tk₂ } ∧ Fr h₀ L h₂ m ∧ News h₀ L h₂ (g o2) ∧ o2.data = .cell (some (.str (meantS x) t2))) E s := by
  revert X₀; k_fill; intro X₀
  revert F N
  refine law_unpackL (P := fun body scope qual cdv => Fr h₀ L s.heap m → News h₀ L s.heap news → wpAny (model PySem.Challenge.rw_us0017_01.prog w) (A₀.deeper (envOfC qual scope L 185 cdv)) (exec ((subSts (body.getD 9 (.Pass default))).getD 0 (.Pass default)) (envOfC qual scope L 185 cdv)) (CutEnd fun s' => ∃ h₂ tk₂ o2 t2, s' = { s with heap := h₂, toks := tk₂ } ∧ Fr h₀ L h₂ m ∧ News h₀ L h₂ (g o2) ∧ o2.data = .cell (some (.str (meantS x) t2))) E s) hK ?_
  intro F N
  clear hK
  (try dsimp only [subSts, lawL, lawS, lawQ, lawC, getBody, getScope, getQual, getCd, List.getD, List.getElem?_cons_zero, List.getElem?_cons_succ, Option.getD])
  (try k_fold)

  repeat walk1
  unfold Stop
  refine ListComp_TS (by assumption) (by with_unfolding_all rfl) (by decide) (by rfl) (by decide) (by rfl) ?_
  have ex : ds.getD ((kk : Int)).toNat 0 = x := by rw [Int.toNat_natCast]; simp [List.getD, hx]
  have hxb := hb x (List.mem_of_getElem? hx)
  repeat walk1
  unfold Stop
  rw [ex]
  refine T_ask B (by assumption) X₀ (by assumption) T (frDeeper B.stack) rfl rfl (Nat.lt_trans (roomDeeper hroom) (by decide)) hh x _ hxb.1 hxb.2 ?_
  intro a h₁ tk₁ t1 t2 F₁ N₁ l1
  repeat walk1
  refine ⟨spelled2 x, _, _, rfl, hh, (by assumption), (by assumption), (by rw [sizeLine_eq]; exact Nat.le_trans (spelled_small x) (by decide)), ?_⟩
  rintro _ ⟨gg, rfl⟩
  refine compRestT_J (fun i vs nw => nw = _ ∧ StrsAre vs ((((spelled2 x).cps.toList.take i).filter (fun c => !b1S c)).map b3S)) ?_ ⟨rfl, .nil⟩ ?_
  · rintro i vs nw v I oI C oC D m₄ h₆ tk₆ E' hi' ⟨rfl, hys⟩ ⟨c, u, hc, rfl⟩ hNs hxx F₆ N₆ off3 ne3
    repeat walk1
    unfold Stop
    refine T_b1 B (by assumption) X₀ (by assumption) T (frDeeper B.stack) rfl rfl (Nat.lt_trans (roomDeeper hroom) (by decide)) hh c u ?_
    intro h₇ tk₇ F₇ N₇
    repeat walk1
    · unfold Stop
      refine T_b3 B (by assumption) X₀ (by assumption) T (frDeeper B.stack) rfl rfl (Nat.lt_trans (roomDeeper hroom) (by decide)) hh c u ?_
      intro h₈ tk₈ t₈ F₈ N₈
      repeat walk1
      have hb1 : b1S c = false := by
        have h := ‹(b1S c == false) = true›
        simpa using h
      refine LCg.CompEnd.intro F₈ N₈ _ (fun p hp => hp) off3 trivial ⟨rfl, ?_⟩
      rw [List.take_add_one, Array.getElem?_toList, hc, List.filter_append, List.map_append]
      have e1 : (List.filter (fun c => !b1S c) (some c).toList).map b3S = [b3S c] := by
        show (List.filter (fun c => !b1S c) [c]).map b3S = [b3S c]
        simp only [List.filter_cons, List.filter_nil, hb1, Bool.not_false, if_true, List.map_cons, List.map_nil]
      rw [e1]
      exact StrsAre.snoc hys _ _
    · have hb1 : b1S c = true := by
        have h := ‹(b1S c == false) = false›
        simpa using h
      refine LCg.CompEnd.intro F₇ N₇ _ (fun p hp => hp) off3 trivial ⟨rfl, ?_⟩
      rw [List.take_add_one, Array.getElem?_toList, hc, List.filter_append, List.map_append]
      have e1 : (List.filter (fun c => !b1S c) (some c).toList).map b3S = [] := by
        show (List.filter (fun c => !b1S c) [c]).map b3S = []
        simp only [List.filter_cons, List.filter_nil, hb1, Bool.not_true, Bool.false_eq_true, if_false, List.map_nil]
      rw [e1, List.append_nil]
      exact hys
  · rintro ys nw ⟨rfl, hys⟩ D h₇ tk₇ F₇ N₇ off1
    rw [List.take_of_length_le (by rw [Array.length_toList]; exact Nat.le_refl _)] at hys
    repeat walk1
    refine join_N N₇ (.head _) hys (by decide) (fold_room x) ?_
    intro t₉ k₉
    have hx' : Txt.join (PySem.Str.ofString "") ((((spelled2 x).cps.toList).filter (fun c => !b1S c)).map b3S) = meantS x := spelled_meant x
    rw [hx']
    repeat walk1
    (rename Fr _ _ _ _ => kF); (rename News _ _ _ _ => kN)
    have hne1 : @Ne Nat D (L + 5) := Ne.symm (off1_mem _ off1 _ (.tail _ (updF_self U)))
    have hne2 : @Ne Nat a (L + 5) := Nat.ne_of_gt (l1 _ (updF_self U))
    refine storeX_C kF kN rfl (.tail hne1 (.tail hne2 U)) hdc ?_
    intro h₈ oc2 F₈ N₈ hd2
    exact ⟨rfl, _, _, oc2, _, rfl, F₈, newsSub N₈ (fun p hp => .tail _ (.tail _ hp)), hd2⟩
end
end
end
theorem main_body {A₀ : Around} {h₀ : Heap} {L : Addr} {m mg mb : PySem.Str → Option Value} {news : List (Addr × Obj)} {p : Program} {loose : List PySem.Str} {mean : ExcName → Option Value} {name qual : PySem.Str} {params : Arguments} {body : List PySem.Stmt} {scope : Scope} {dV kV doc pm cdv ct oc : Value} {an od : Option Addr} {osl : Array (Option Value)}
  (B : Below A₀ h₀ [] h₀) (F : Fr h₀ L s.heap m) (X₀ : (KF w.params).In h₀) (N : News h₀ L s.heap news) (T : Top p loose mean mg mb h₀) (hroom : A₀.depth < 340) (hh : A₀.handled = none)
  (hK : (KF w.params).lookup 185 = some ⟨oc, od, .func (fnOf name qual params body scope dV kV doc pm an cdv ct), osl⟩) (hun : A₀.units < 100) {base : List (Addr × Obj)} {oc1 oc3 ock : Obj}
   (d : Addr) (ws : List Value) (ds : List Int) (ed0 : Nat) (hd : (d, PySem.W.listOf ws.toArray ed0) ∈ base) (hi : IntsAre ws ds) (hlen : ds.length = 8) (hb : ∀ x ∈ ds, 0 ≤ x ∧ x < 1000000)
   (nm : Addr) (h1 : (L + 1, oc1) ∈ base) (h1d : oc1.data = .cell (some (.ref nm))) (ys : List Value) (en : Nat) (hn : (nm, PySem.W.listOf ys.toArray en) ∈ base) (hiy : StrsAre ys (ds.map meantS))
   (sh : Addr) (refs : List Value) (es : Nat) (h3 : (L + 3, oc3) ∈ base) (h3d : oc3.data = .cell (some (.ref sh))) (hsh : (sh, PySem.W.listOf refs.toArray es) ∈ base) (hok : ShelvesOK base refs (ds.map meantS) 5)
   (kk : Nat) (tkk : Tok) (hkk : kk < 8) (hkd : ock.data = .cell (some (.int (kk : Int) tkk))) (M : MSt w L (ds.map meantS) d base ock kk m news) :
   wpAny (model PySem.Challenge.rw_us0017_01.prog w) (A₀.deeper (envOfC qual scope L 185 cdv)) (execs (subSts (body.getD 9 (.Pass default))) (envOfC qual scope L 185 cdv)) (CutEnd fun s' => ∃ h₂ tk₂ m₂ news₂, s' = { s with heap := h₂, toks := tk₂ } ∧ Fr h₀ L h₂ m₂ ∧ News h₀ L h₂ news₂ ∧ MSt w L (ds.map meantS) d base ock (kk + 1) m₂ news₂) E s := by
  revert X₀; k_fill; intro X₀
  have h20 : (subSts (body.getD 9 (.Pass default))).length = 20 := law_unpackL (P := fun body _ _ _ => (subSts (body.getD 9 (.Pass default))).length = 20) hK (by rfl)
  rw [list20 (d := .Pass default) h20]
  have hns : ∀ z ∈ ds.map meantS, z ∈ fiveS := by
    intro z hz
    obtain ⟨n, _, rfl⟩ := List.mem_map.mp hz
    exact meant_five n
  have hlens : (ds.map meantS).length = 8 := by rw [List.length_map]; exact hlen
  refine hide ?_; intro goalG intoG; obtain ⟨la, lt, de, ot, rw_, oca, oce, ocw, od, lv, el, dv, edd, ov, eo, rv, er, ca, ce, cw, kvs, P, dl, rfl, D, ⟨da, dce, dw⟩, ⟨v1, v2, v3, v4, v5, v6⟩, PI, hil, hod, DI, lo, hir, ⟨hid, hso, hperm⟩, hio⟩ := M; refine intoG ?_; clear intoG goalG
  have M : M6 m d la lt rw_ de ot := ⟨v1, v2, v3, v4, v5, v6⟩
  clear v1 v2 v3 v4 v5 v6
  have hkd8 : kk < ds.length := by omega
  obtain ⟨x, hx⟩ : ∃ x, ds[kk]? = some x := ⟨_, List.getElem?_eq_getElem hkd8⟩
  have hy : (ds.map meantS)[kk]? = some (meantS x) := by rw [List.getElem?_map, hx]; rfl
  generalize hns' : ds.map meantS = ns at *
  generalize hyx : meantS x = y at *
  have hf5 := five_facts y (hns _ (List.mem_of_getElem? hy))
  have hrf := rows_facts hns PI
  have hP5 := pinv_len hns PI
  with_reducible refine cutK_4_3 (lb_0 B (by exact F) X₀ (by exact N) T hroom hh hK kk tkk led_k4 hkd hkk (upd_k5 D) da d ws ds ed0 (mem_led hd) hi hlen hb M.dr x hx) ?_
  intro h₁ tk₁ oca t2 F₁ N₁ da
  clear F N
  rw [hyx] at da
  replace N₁ : News h₀ L h₁ (led L la lt de ot rw_ ock oca oce ocw (PySem.W.listOf (lv : List Value).toArray el) od (PySem.W.listOf (dv : List Value).toArray edd) (PySem.W.listOf (ov : List Value).toArray eo) (PySem.W.listOf (rv : List Value).toArray er) base) := N₁
  with_reducible refine cutK_2_2 (lb_1 B (by exact F₁) X₀ (by exact N₁) T hroom hh hK kk tkk led_k4 hkd hkk y t2 led_k5 da nm (mem_led h1) h1d ys ns en (mem_led hn) hiy hlens hy) ?_
  intro h₂ tk₂ F₂ N₂
  clear F₁ N₁
  with_reducible refine cutK_3_2 (lb_2 B (by exact F₂) X₀ (by exact N₂) T hroom hh hK) ?_
  intro td h₃ tk₃ F₃ N₃
  clear F₂ N₂
  have M₃ := M.set "depth" (.int 0 td) n_depth
  with_reducible refine cutK_7_7 (?_ : wpAny _ _ _ (CutEnd (fun s' => ∃ h₂ tk₂ m₂ td lv1 el1 P1, s' = { s with heap := h₂, toks := tk₂ } ∧ Fr h₀ L h₂ m₂ ∧ News h₀ L h₂ (led L la lt de ot rw_ ock oca oce ocw (PySem.W.listOf (lv1 : List Value).toArray el1) od (PySem.W.listOf (dv : List Value).toArray edd) (PySem.W.listOf (ov : List Value).toArray eo) (PySem.W.listOf (rv : List Value).toArray er) base) ∧ M6 m₂ d la lt rw_ de ot ∧ m₂ "depth" = some (.int (depN ns kk : Int) td) ∧ IntsAre lv1 (lastsP P1) ∧ TF ns kk y P P1 kvs ∧ P1.length ≤ 5)) _ _) ?_
  · by_cases hin : y ∈ keysP P
    · have hnd : (keysP P).Nodup := by rw [← PI.keys]; exact shelf_nodup ns 5 kk
      obtain ⟨A, v, Bp, rfl, hA, hB⟩ := split_key hnd hin
      obtain ⟨tv, hv⟩ := DI.inn (y, v) (by simp)
      have hll := lastsP_len (A ++ (y, v) :: Bp)
      have hAB : (A ++ (y, v) :: Bp).length = A.length + Bp.length + 1 := by simp; omega
      have hvm : ∃ j : Nat, j < (lastsP (A ++ (y, v) :: Bp)).length ∧ (lastsP (A ++ (y, v) :: Bp)).getD j 0 = (v : Int) := by
        refine ⟨Bp.length, by omega, ?_⟩
        rw [lastsP_split, List.getD_eq_getElem?_getD, List.getElem?_append_right (by rw [lastsP_len]; exact Nat.le_refl _), lastsP_len, Nat.sub_self]
        rfl
      refine wpAny_mono (lb_3o B (by exact F₃) X₀ (by exact N₃) T hroom hh hK y t2 led_k5 da lt kvs led_lt hod M₃.lt la lv _ el hil (by rw [lastsP_len]; omega) M₃.la (upd_la D) (lastsP_sorted PI.desc) v tv hvm lo hv) (fun f s' hq => ?_) (fun _ _ h => h)
      obtain ⟨e, h₄, tk₄, t3, t4, e2, r, rfl, F₄, N₄, hr1, hr2, hr3⟩ := hq
      have hr := spot_is PI.desc hr1 hr2 hr3
      subst hr
      refine ⟨e, h₄, tk₄, _, t4, _, e2, A ++ Bp, rfl, F₄, N₄, (M₃.set "spot" _ n_spot).set "depth" _ n_depth, ?_, ?_, tf_old hns hy PI DI hA hB, ?_⟩
      · have ed : ((lastsP (A ++ (y, v) :: Bp)).length : Int) - (Bp.length : Int) = (depN ns kk : Int) := by rw [dep_old PI hy hA]; omega
        rw [← ed]
        exact setM_eq
      · rw [← lastsP_pop A Bp y v]
        exact IntsAre.append (ints_take hil Bp.length) (ints_drop hil (Bp.length + 1))
      · rw [List.length_append]; omega
    · have hv := DI.out y hin
      refine wpAny_mono (lb_3n B (by exact F₃) X₀ (by exact N₃) T hroom hh hK y t2 led_k5 da lt kvs led_lt hod M₃.lt lo hv) (fun f s' hq => ?_) (fun _ _ h => h)
      obtain ⟨e, h₄, tk₄, rfl, F₄, N₄⟩ := hq
      refine ⟨e, h₄, tk₄, _, td, lv, el, P, rfl, F₄, N₄, M₃, ?_, hil, tf_new hns hy PI DI hin, hP5⟩
      rw [dep_new PI hy hin]
      exact setM_eq
  intro h₄ tk₄ m₄ td' lv1 el1 P1 F₄ N₄ M₄ hdep hil1 TF₁ hP1
  clear F₃ N₃
  with_reducible refine cutK_4_2 (lb_4 B (by exact F₄) X₀ (by exact N₄) T hroom hh hK kk tkk led_k4 hkd hkk la lv1 (lastsP P1) el1 hil1 (by rw [lastsP_len]; omega) M₄.la (upd_la D)) ?_
  intro h₅ tk₅ e5 t5 F₅ N₅
  clear F₄ N₄
  replace N₅ : News h₀ L h₅ (led L la lt de ot rw_ ock oca oce ocw (PySem.W.listOf ((lv1 ++ [Value.int (kk : Int) t5]) : List Value).toArray e5) od (PySem.W.listOf (dv : List Value).toArray edd) (PySem.W.listOf (ov : List Value).toArray eo) (PySem.W.listOf (rv : List Value).toArray er) base) := N₅
  with_reducible refine cutK_4_3 (lb_5 B (by exact F₅) X₀ (by exact N₅) T hroom hh hK kk tkk led_k4 hkd hkk y t2 led_k5 da lt kvs (upd_lt D) hod (by have := DI.len; omega) M₄.lt) ?_
  intro h₆ tk₆ od' t6 F₆ N₆ hod'
  clear F₅ N₅
  replace N₆ : News h₀ L h₆ (led L la lt de ot rw_ ock oca oce ocw (PySem.W.listOf ((lv1 ++ [Value.int (kk : Int) t5]) : List Value).toArray e5) od' (PySem.W.listOf (dv : List Value).toArray edd) (PySem.W.listOf (ov : List Value).toArray eo) (PySem.W.listOf (rv : List Value).toArray er) base) := N₆
  have DI' := TF₁.dic t6
  with_reducible refine cutK_5_4 (lb_6 B (by exact F₆) X₀ (by exact N₆) T hroom hh hK rw_ rv _ er led_rw hir hrf.1 M₄.rw_ hrf.2.1) ?_
  intro h₇ tk₇ ba bv e7 F₇ N₇ hba hib
  clear F₆ N₆
  rw [hrf.2.2.1] at hib
  have M₇ := M₄.set "bare" (.ref ba) n_bare
  have hdep₇ := setM_ne (x := "bare") (v := .ref ba) hdep (by decide +kernel)
  with_reducible refine cutK_3_2 (lb_7 B (by exact F₇) X₀ (by exact N₇) T hroom hh hK y t2 (List.Mem.tail _ led_k5) da rw_ rv _ er (List.Mem.tail _ led_rw) hir hrf.1 M₇.rw_ ba bv (keysP P) e7 (List.Mem.head _) hib (by rw [rowsF_len]) setM_eq) ?_
  intro t8 h₈ tk₈ F₈ N₈
  clear F₇ N₇
  have M₈ := M₇.set "spot" (.int (((keysP P).idxOf y : Nat) : Int) t8) n_spot
  have hdep₈ := setM_ne (x := "spot") (v := .int (((keysP P).idxOf y : Nat) : Int) t8) hdep₇ (by decide +kernel)
  with_reducible refine cutK_3_2 (lb_8 B (by exact F₈) X₀ (by exact N₈) T hroom hh hK y t2 (List.Mem.tail _ led_k5) da rw_ rv _ er (List.Mem.tail _ led_rw) hir hrf.1 M₈.rw_ ba bv (keysP P) e7 (List.Mem.head _) hib (by rw [rowsF_len]) (setM_ne setM_eq (by decide +kernel)) ((keysP P).idxOf y) t8 setM_eq (depN ns kk : Int) TF₁.hd1 TF₁.hd0 (by have := hf5.2.1; omega)) ?_
  intro t9 h₉ tk₉ F₉ N₉
  clear F₈ N₈
  have M₉ := M₈.set "dots" (.int (depN ns kk : Int) t9) n_dots
  have hdep₉ := setM_ne (x := "dots") (v := .int (depN ns kk : Int) t9) hdep₈ (by decide +kernel)
  have hsp₉ := setM_ne (x := "dots") (v := .int (depN ns kk : Int) t9) (setM_eq (m := setM m₄ "bare" (.ref ba)) (x := "spot") (v := .int (((keysP P).idxOf y : Nat) : Int) t8)) (by decide +kernel)
  have N₉' := newsSub N₉ (fun p hp => List.Mem.tail _ hp)
  clear N₉
  replace N₉' : News h₀ L h₉ (led L la lt de ot rw_ ock oca oce ocw (PySem.W.listOf ((lv1 ++ [Value.int (kk : Int) t5]) : List Value).toArray e5) od' (PySem.W.listOf (dv : List Value).toArray edd) (PySem.W.listOf (ov : List Value).toArray eo) (PySem.W.listOf (rv : List Value).toArray er) base) := N₉'
  with_reducible refine cutK_2_2 (lb_9 B (by exact F₉) X₀ (by exact N₉') T hroom hh hK (depN ns kk : Int) t9 td' setM_eq hdep₉) ?_
  intro hA tkA FA NA
  clear F₉ N₉'
  with_reducible refine cutK_3_2 (lb_10 B (by exact FA) X₀ (by exact NA) T hroom hh hK kk tkk led_k4 hkd hkk y t2 led_k5 da sh refs ns es (mem_led h3) h3d (mem_led hsh) (hok.mono fun p hp => mem_led hp)) ?_
  intro tB hB tkB FB NB
  clear FA NA
  obtain ⟨dd, hdd, hsum, hfw⟩ := TF₁.lack
  rw [hsum] at FB
  have MB := M₉.set "lacking" (.int ((2 : Int) ^ dd - 1) tB) n_lacking
  have hdepB := setM_ne (x := "lacking") (v := .int ((2 : Int) ^ dd - 1) tB) hdep₉ (by decide +kernel)
  have hspB := setM_ne (x := "lacking") (v := .int ((2 : Int) ^ dd - 1) tB) hsp₉ (by decide +kernel)
  with_reducible refine cutK_2_2 (lb_11 B (by exact FB) X₀ (by exact NB) T hroom hh hK dd hdd tB setM_eq (depN ns kk : Int) ⟨by omega, by have := TF₁.dep5; omega⟩ t9 (setM_ne setM_eq (by decide +kernel)) hfw) ?_
  intro hC tkC FC NC
  clear FB NB
  with_reducible refine cutK_5_4 (lb_12 B (by exact FC) X₀ (by exact NC) T hroom hh hK kk tkk led_k4 hkd hkk (upd_k6 D) dce d ws ds ed0 (mem_led hd) hi hlen hb MB.dr) ?_
  intro hD tkD oce' tz z FD ND dce' hz
  clear FC NC
  replace ND : News h₀ L hD (led L la lt de ot rw_ ock oca oce' ocw (PySem.W.listOf ((lv1 ++ [Value.int (kk : Int) t5]) : List Value).toArray e5) od' (PySem.W.listOf (dv : List Value).toArray edd) (PySem.W.listOf (ov : List Value).toArray eo) (PySem.W.listOf (rv : List Value).toArray er) base) := ND
  with_reducible refine cutK_5_4 (lb_13 B (by exact FD) X₀ (by exact ND) T hroom hh hK rw_ rv _ er led_rw hir hrf.1 MB.rw_ ((keysP P).idxOf y) t8 hspB z tz led_k6 dce' hz (by rw [rowsF_len]; exact TF₁.sp) hrf.2.2.2.1) ?_
  intro hE tkE se sv e13 FE NE hse his
  clear FD ND
  have ME := MB.set "sent" (.ref se) n_sent
  have hdepE := setM_ne (x := "sent") (v := .ref se) hdepB (by decide +kernel)
  have hspE := setM_ne (x := "sent") (v := .ref se) hspB (by decide +kernel)
  have hsp8 : (keysP P).idxOf y ≤ 8 := Nat.le_trans TF₁.sp (by rw [keysP_len]; omega)
  with_reducible refine cutK_5_4 (lb_14 B (by exact FE) X₀ (by exact NE) T hroom hh hK y t2 (List.Mem.tail _ led_k5) da rw_ rv _ er (List.Mem.tail _ led_rw) hir hrf.1 ME.rw_ ((keysP P).idxOf y) t8 hspE se sv _ e13 (List.Mem.head _) his (by rw [List.length_map]; exact Nat.le_trans (List.length_take_le' _ _) hrf.1) setM_eq (by have := hf5.2.1; omega) hsp8) ?_
  intro hF tkF rw' nv e14 FF NF hrw' hin
  clear FE NE
  rw [TF₁.rows] at hin
  have MF := ME.setRows (rw' := rw')
  have hdepF := setM_ne (x := "rows") (v := .ref rw') hdepE (by decide +kernel)
  have D' := D.newRw (fun p hp => Nat.ne_of_lt (hrw' p (.tail _ hp)))
  have NF' : News h₀ L hF (led L la lt de ot rw' ock oca oce' ocw (PySem.W.listOf ((lv1 ++ [Value.int (kk : Int) t5]) : List Value).toArray e5) od' (PySem.W.listOf (dv : List Value).toArray edd) (PySem.W.listOf (ov : List Value).toArray eo) (PySem.W.listOf (nv : List Value).toArray e14) base) := newsSub NF (fun p hp => by
    rcases led_newRw hp with rfl | hp
    · exact .head _
    · exact .tail _ (.tail _ hp))
  clear NF
  with_reducible refine cutK_6_5 (lb_15 B (by exact FF) X₀ (by exact NF') T hroom hh hK kk tkk led_k4 hkd hkk sh refs ns es (mem_led h3) h3d (mem_led hsh) base (fun p hp => mem_led hp) hok (upd_k7 D') dw) ?_
  intro hG tkG ocw' b wsW e15 FG NG dw' hbm hiW
  clear FF NF'
  replace NG : News h₀ L hG (led L la lt de ot rw' ock oca oce' ocw' (PySem.W.listOf ((lv1 ++ [Value.int (kk : Int) t5]) : List Value).toArray e5) od' (PySem.W.listOf (dv : List Value).toArray edd) (PySem.W.listOf (ov : List Value).toArray eo) (PySem.W.listOf (nv : List Value).toArray e14) base) := NG
  have hrf' := rows_facts hns TF₁.inv
  have hW5 : (shelfAt ns 5 (kk + 1)).length ≤ 5 := by rw [TF₁.inv.keys, keysP_len]; exact pinv_len hns TF₁.inv
  with_reducible refine cutK_2_2 (lb_16 B (by exact FG) X₀ (by exact NG) T hroom hh hK hun rw' nv _ e14 led_rw hin hrf'.1 MF.rw_ led_k7 b wsW (shelfAt ns 5 (kk + 1)) e15 dw' (mem_led hbm) hiW hrf'.2.2.2.2 (by omega) (fun z hz => Nat.le_trans (five_facts z (wide_mem ns hns (kk + 1) z hz)).2.1 (by decide)) (rows_same TF₁.inv)) ?_
  intro hH tkH FH NH
  clear FG NG
  have hdll : dl.length = kk := by rw [hperm.length_eq, List.length_map, List.length_range]
  with_reducible refine cutK_5_6 (lb_17 B (by exact FH) X₀ (by exact NH) T hroom hh hK (depN ns kk : Int) td' hdepF de dv dl edd hid (by omega) hso MF.de (upd_de D')) ?_
  intro hI tkI dv2 e17 r FI NI hid' hr1 hr2 hr3
  clear FH NH
  replace NI : News h₀ L hI (led L la lt de ot rw' ock oca oce' ocw' (PySem.W.listOf ((lv1 ++ [Value.int (kk : Int) t5]) : List Value).toArray e5) od' (PySem.W.listOf (dv2 : List Value).toArray e17) (PySem.W.listOf (ov : List Value).toArray eo) (PySem.W.listOf (nv : List Value).toArray e14) base) := NI
  have hdI : (if (0 : Int) < (depN ns kk : Int) then (depN ns kk : Int) else 6) = depI ns kk := by
    unfold depI
    by_cases h : 0 < depN ns kk
    · rw [if_pos h, if_pos (by omega)]
    · rw [if_neg h, if_neg (by omega)]
  rw [hdI] at hid' hr2 hr3
  have hso' := sorted_ins hso hr1 hr2 hr3
  have hperm' : (dl.take r ++ depI ns kk :: dl.drop r).Perm ((List.range (kk + 1)).map (depI ns)) := by
    rw [deps_succ]; exact perm_ins hperm
  have hovl : ov.length ≤ 64 := by
    have h1 := hio.length
    have h2 := enc_len ns hns kk (by omega)
    omega
  with_reducible refine cutK_3_2 (lb_18 B (by exact FI) X₀ (by exact NI) T hroom hh hK (depN ns kk : Int) td' hdepF ot ov eo (by omega) MF.ot (upd_ot D')) ?_
  intro hJ tkJ e18 FJ NJ
  clear FI NI
  replace NJ : News h₀ L hJ (led L la lt de ot rw' ock oca oce' ocw' (PySem.W.listOf ((lv1 ++ [Value.int (kk : Int) t5]) : List Value).toArray e5) od' (PySem.W.listOf (dv2 : List Value).toArray e17) (PySem.W.listOf ((ov ++ [Value.int (depN ns kk : Int) td']) : List Value).toArray e18) (PySem.W.listOf (nv : List Value).toArray e14) base) := NJ
  have hio' : IntsAre (ov ++ [Value.int (depN ns kk : Int) td']) (encL (itemsN ns kk) ++ [(depN ns kk : Int)]) := IntsAre.append hio (.cons _ _ .nil)
  have hlast : IntsAre (lv1 ++ [Value.int (kk : Int) t5]) (lastsP ((y, kk) :: P1)) := by
    rw [lastsP_cons]; exact IntsAre.append hil1 (.cons _ _ .nil)
  by_cases hz0 : depN ns kk = 0
  · have hdep0 : setM (setM (setM (setM (setM (setM m₄ "bare" (.ref ba)) "spot" (.int (((keysP P).idxOf y : Nat) : Int) t8)) "dots" (.int (depN ns kk : Int) t9)) "lacking" (.int ((2 : Int) ^ dd - 1) tB)) "sent" (.ref se)) "rows" (.ref rw') "depth" = some (.int 0 td') := by
      rw [hdepF, hz0]; rfl
    with_reducible refine cutK_6_5 (lb_19n B (by exact FJ) X₀ (by exact NJ) T hroom hh hK td' hdep0 y t2 led_k5 da (by have := hf5.2.1; omega) hf5.2.2.1 ot _ _ e18 hio' (by rw [List.length_append, List.length_cons, List.length_nil]; omega) MF.ot (upd_ot D')) ?_
    intro hK₂ tkK ot' ov2 e19 m₉ FK mo mr cj3 hio2; refine hide ?_; intro goalG intoG; obtain ⟨gg, NK, hgg, hot'⟩ := cj3; refine intoG ?_; clear intoG goalG
    clear FJ NJ
    have D'' := D'.newOt hot'
    refine wpAny_execs_nil ⟨rfl, hK₂, tkK, m₉, _, rfl, FK, newsSub NK (fun p hp => ?_), la, lt, de, ot', rw', oca, oce', ocw', od', _, e5, dv2, e17, ov2, e19, nv, e14, _, _, _, stored kvs y (.int (kk : Int) t6), (y, kk) :: P1, _, rfl, D'', ⟨da, dce', dw'⟩, ⟨(mr _ (by decide +kernel) (by decide +kernel)).trans MF.dr, (mr _ (by decide +kernel) (by decide +kernel)).trans MF.la, (mr _ (by decide +kernel) (by decide +kernel)).trans MF.lt, (mr _ (by decide +kernel) (by decide +kernel)).trans MF.rw_, (mr _ (by decide +kernel) (by decide +kernel)).trans MF.de, mo⟩, TF₁.inv, hlast, hod', DI', lo, hin, ⟨hid', hso', hperm'⟩, ?_⟩
    · rcases led_newOt D' hp with rfl | ⟨hp, hne⟩
      · exact .head _
      · exact .tail _ (hgg p hp hne)
    · rw [items_succ, enc_new hz0 hy, ← List.append_assoc]
      rw [hz0] at hio2
      exact hio2
  · with_reducible refine cutK_2_2 (lb_19z B (by exact FJ) X₀ (by exact NJ) T hroom hh hK (depN ns kk : Int) td' hdepF (by omega)) ?_
    intro hK₂ tkK FK NK
    clear FJ NJ
    refine wpAny_execs_nil ⟨rfl, hK₂, tkK, _, _, rfl, FK, NK, la, lt, de, ot, rw', oca, oce', ocw', od', _, e5, dv2, e17, _, e18, nv, e14, _, _, _, stored kvs y (.int (kk : Int) t6), (y, kk) :: P1, _, rfl, D', ⟨da, dce', dw'⟩, ⟨MF.dr, MF.la, MF.lt, MF.rw_, MF.de, MF.ot⟩, TF₁.inv, hlast, hod', DI', lo, hin, ⟨hid', hso', hperm'⟩, ?_⟩
    obtain ⟨d1, e1⟩ : ∃ d1, depN ns kk = d1 + 1 := ⟨depN ns kk - 1, by omega⟩
    rw [items_succ, enc_old e1, ← e1]
    exact hio'
theorem fill_ok : ∀ x ∈ fillL, 0 ≤ x ∧ x < 1000000 := by decide
theorem far4 {L d : Nat} (h : L + 7 < d) : d ≠ L + 4 ∧ d ≠ L + 5 ∧ d ≠ L + 6 ∧ d ≠ L + 7 := by omega
theorem far3 {L d : Nat} (h : L + 7 < d) : d ≠ L + 1 ∧ d ≠ L + 3 := by omega
theorem dst_init {L la lt de ot rw_ : Nat} {base : List (Addr × Obj)} (g1 : L + 7 < la) (g2 : la < lt) (g3 : lt < rw_) (g4 : rw_ < de) (g5 : de < ot)
    (hb : ∀ p ∈ base, @Ne Nat p.1 (L + 4) ∧ @Ne Nat p.1 (L + 5) ∧ @Ne Nat p.1 (L + 6) ∧ @Ne Nat p.1 (L + 7)) (gb : ∀ p ∈ base, @LT.lt Nat _ p.1 la) : Dst L la lt de ot rw_ base := by
  have hall : ∀ a ∈ [la, lt, de, ot, rw_], la ≤ a := by
    intro a ha
    simp only [List.mem_cons, List.not_mem_nil, or_false] at ha
    omega
  refine ⟨fun a ha => far4 (Nat.lt_of_lt_of_le g1 (hall a ha)), ?_, hb, fun p hp a ha => Nat.ne_of_lt (Nat.lt_of_lt_of_le (gb p hp) (hall a ha))⟩
  have h1 : ∀ a ∈ [lt, de, ot, rw_], la ≠ a := by intro a ha; simp only [List.mem_cons, List.not_mem_nil, or_false] at ha; omega
  have h2 : ∀ a ∈ [de, ot, rw_], lt ≠ a := by intro a ha; simp only [List.mem_cons, List.not_mem_nil, or_false] at ha; omega
  have h3 : ∀ a ∈ [ot, rw_], de ≠ a := by intro a ha; simp only [List.mem_cons, List.not_mem_nil, or_false] at ha; omega
  have h4 : ∀ a ∈ [rw_], ot ≠ a := by intro a ha; simp only [List.mem_cons, List.not_mem_nil, or_false] at ha; omega
  exact .cons h1 (.cons h2 (.cons h3 (.cons h4 (.cons (fun _ h => nomatch h) .nil))))
theorem law_all {A₀ : Around} {h₀ : Heap} {L : Addr} {m mg mb : PySem.Str → Option Value} {news : List (Addr × Obj)} {p : Program} {loose : List PySem.Str} {mean : ExcName → Option Value} {name qual : PySem.Str} {params : Arguments} {body : List PySem.Stmt} {scope : Scope} {dV kV doc pm cdv ct oc : Value} {an od : Option Addr} {osl : Array (Option Value)}
  (B : Below A₀ h₀ [] h₀) (F : Fr h₀ L s.heap m) (X₀ : (KF w.params).In h₀) (N : News h₀ L s.heap news) (T : Top p loose mean mg mb h₀) (hroom : A₀.depth < 340) (hh : A₀.handled = none)
  (hK : (KF w.params).lookup 185 = some ⟨oc, od, .func (fnOf name qual params body scope dV kV doc pm an cdv ct), osl⟩) (hun : A₀.units < 100) {o1 o2 o3 o4 o5 o6 o7 : Obj} {c1 c2 c3 c4 c5 c6 c7 : Option Value} (hnews : news = [(L + 7, o7), (L + 6, o6), (L + 5, o5), (L + 4, o4), (L + 3, o3), (L + 2, o2), (L + 1, o1)])
   (d1 : o1.data = .cell c1) (d2 : o2.data = .cell c2) (d3 : o3.data = .cell c3) (d4 : o4.data = .cell c4) (d5 : o5.data = .cell c5) (d6 : o6.data = .cell c6) (d7 : o7.data = .cell c7)
   (l : Addr) (vs : List Value) (ns0 : List Int) (hl : h₀.IsList l vs.toArray) (hi : IntsAre vs ns0) (hlen : ns0.length ≤ 63) (hv : m "script" = some (.ref l)) :
   wpAny (model PySem.Challenge.rw_us0017_01.prog w) (A₀.deeper (envOfC qual scope L 185 cdv)) (execs body (envOfC qual scope L 185 cdv)) (fun f s' => f = .ret (.bool true) ∧ ∃ h₂ tk₂ m₂ news₂, s' = { s with heap := h₂, toks := tk₂ } ∧ Fr h₀ L h₂ m₂ ∧ News h₀ L h₂ news₂) E s := by
  revert X₀; k_fill; intro X₀
  have h12 : body.length = 12 := law_unpackL (P := fun body _ _ _ => body.length = 12) hK (by rfl)
  rw [list12 (d := .Pass default) h12]
  subst hnews
  with_reducible refine cutK_6_4 (law_1 B (by exact F) X₀ (by exact N) T hroom hh hK l vs ns0 hl hi hlen hv) ?_
  intro h₁ tk₁ m₁ d₀ ws e₁ F₁ N₁ hm₁ hi₁
  clear F N
  with_reducible refine cutK_6_5 (law_2 B (by exact F₁) X₀ (by exact N₁) T hroom hh hK d₀ ws _ e₁ (List.Mem.head _) hi₁ (by rw [List.length_map]; exact List.length_take_le _ _) hm₁) ?_
  intro h₂ tk₂ m₂ d ws₂ e₂ F₂ N₂ lt₂ hm₂ hi₂
  clear F₁ N₁
  obtain ⟨ds, hds, hdl, hdb⟩ : ∃ ds, ds = (ns0.take 8).map (fun x => x % 1000000) ++ fillL.drop ((ns0.take 8).map (fun x => x % 1000000)).length ∧ ds.length = 8 ∧ ∀ x ∈ ds, 0 ≤ x ∧ x < 1000000 := by
    refine ⟨_, rfl, ?_, fun x hx => ?_⟩
    · have h8 : ((ns0.take 8).map (fun x => x % 1000000)).length ≤ 8 := by rw [List.length_map]; exact List.length_take_le _ _
      have hf8 : fillL.length = 8 := rfl
      rw [List.length_append, List.length_drop, hf8]; omega
    · rcases List.mem_append.mp hx with hx | hx
      · obtain ⟨z, _, rfl⟩ := List.mem_map.mp hx
        omega
      · exact fill_ok x (List.mem_of_mem_drop hx)
  rw [← hds] at hi₂
  have hd7 : @LT.lt Nat _ (L + 7) d := lt₂ (L + 7, o7) (.tail _ (.head _))
  replace N₂ : News h₀ L h₂ ((d, PySem.W.listOf ws₂.toArray e₂) :: [(L + 7, o7), (L + 6, o6), (L + 5, o5), (L + 4, o4), (L + 3, o3), (L + 2, o2), (L + 1, o1)]) := newsSub N₂ (fun p hp => by
    rcases List.mem_cons.mp hp with rfl | hp
    · exact .head _
    · exact .tail _ (.tail _ hp))
  have U3 : UpdF (L + 1) o1 ((d, PySem.W.listOf ws₂.toArray e₂) :: [(L + 7, o7), (L + 6, o6), (L + 5, o5), (L + 4, o4), (L + 3, o3), (L + 2, o2), (L + 1, o1)]) (fun o => (d, PySem.W.listOf ws₂.toArray e₂) :: [(L + 7, o7), (L + 6, o6), (L + 5, o5), (L + 4, o4), (L + 3, o3), (L + 2, o2), (L + 1, o)]) :=
    .tail (far3 hd7).1 (.tail (lne L (by decide : (7 : Nat) ≠ 1)) (.tail (lne L (by decide : (6 : Nat) ≠ 1)) (.tail (lne L (by decide : (5 : Nat) ≠ 1)) (.tail (lne L (by decide : (4 : Nat) ≠ 1)) (.tail (lne L (by decide : (3 : Nat) ≠ 1)) (.tail (lne L (by decide : (2 : Nat) ≠ 1)) (.head (fun _ h => (nomatch h)))))))))
  with_reducible refine cutK_6_5 (law_3 B (by exact F₂) X₀ (by exact N₂) T hroom hh hK U3 d1 d ws₂ ds e₂ (List.Mem.head _) hi₂ hdl hdb hm₂) ?_
  intro h₃ tk₃ nm ys e₃ o1' F₃ N₃ off₃ d1' hiy
  clear F₂ N₂
  have off3 := off1_mem _ off₃
  have hn1 : @Ne Nat (L + 1) nm := off3 (L + 1, o1) (by repeat (first | exact List.Mem.head _ | refine List.Mem.tail _ ?_))
  have hn2 : @Ne Nat (L + 2) nm := off3 (L + 2, o2) (by repeat (first | exact List.Mem.head _ | refine List.Mem.tail _ ?_))
  have hn3 : @Ne Nat (L + 3) nm := off3 (L + 3, o3) (by repeat (first | exact List.Mem.head _ | refine List.Mem.tail _ ?_))
  have hn4 : @Ne Nat (L + 4) nm := off3 (L + 4, o4) (by repeat (first | exact List.Mem.head _ | refine List.Mem.tail _ ?_))
  have hn5 : @Ne Nat (L + 5) nm := off3 (L + 5, o5) (by repeat (first | exact List.Mem.head _ | refine List.Mem.tail _ ?_))
  have hn6 : @Ne Nat (L + 6) nm := off3 (L + 6, o6) (by repeat (first | exact List.Mem.head _ | refine List.Mem.tail _ ?_))
  have hn7 : @Ne Nat (L + 7) nm := off3 (L + 7, o7) (by repeat (first | exact List.Mem.head _ | refine List.Mem.tail _ ?_))
  replace N₃ : News h₀ L h₃ ((nm, PySem.W.listOf ys.toArray e₃) :: (d, PySem.W.listOf ws₂.toArray e₂) :: [(L + 7, o7), (L + 6, o6), (L + 5, o5), (L + 4, o4), (L + 3, o3), (L + 2, o2), (L + 1, o1')]) := N₃
  have U4 : UpdF (L + 3) o3 ((nm, PySem.W.listOf ys.toArray e₃) :: (d, PySem.W.listOf ws₂.toArray e₂) :: [(L + 7, o7), (L + 6, o6), (L + 5, o5), (L + 4, o4), (L + 3, o3), (L + 2, o2), (L + 1, o1')]) (fun o => (nm, PySem.W.listOf ys.toArray e₃) :: (d, PySem.W.listOf ws₂.toArray e₂) :: [(L + 7, o7), (L + 6, o6), (L + 5, o5), (L + 4, o4), (L + 3, o), (L + 2, o2), (L + 1, o1')]) :=
    .tail hn3.symm (.tail (far3 hd7).2 (.tail (lne L (by decide : (7 : Nat) ≠ 3)) (.tail (lne L (by decide : (6 : Nat) ≠ 3)) (.tail (lne L (by decide : (5 : Nat) ≠ 3)) (.tail (lne L (by decide : (4 : Nat) ≠ 3)) (.head (apc (lne L (by decide : (2 : Nat) ≠ 3)) (apc (lne L (by decide : (1 : Nat) ≠ 3)) (fun _ h => (nomatch h))))))))))
  have hns : ∀ z ∈ ds.map meantS, z ∈ fiveS := by
    intro z hz
    obtain ⟨n, _, rfl⟩ := List.mem_map.mp hz
    exact meant_five n
  have hlens : (ds.map meantS).length = 8 := by rw [List.length_map]; exact hdl
  with_reducible refine cutK_7_6 (law_4 B (by exact F₃) X₀ (by exact N₃) T hroom hh hK U4 d3 nm (by simp) d1' ys _ e₃ (List.Mem.head _) hiy hlens) ?_
  intro h₄ tk₄ sh refs blk e₄ o3' F₄ N₄ offD hdis d3' hok
  clear F₃ N₃
  replace N₄ : News h₀ L h₄ ((sh, PySem.W.listOf refs.toArray e₄) :: (blk ++ (nm, PySem.W.listOf ys.toArray e₃) :: (d, PySem.W.listOf ws₂.toArray e₂) :: [(L + 7, o7), (L + 6, o6), (L + 5, o5), (L + 4, o4), (L + 3, o3'), (L + 2, o2), (L + 1, o1')])) := N₄
  with_reducible refine cutK_3_3 (law_e4 B (by exact F₄) X₀ (by exact N₄) T hroom hh hK) ?_
  intro h₅ tk₅ la F₅ N₅ l5
  clear F₄ N₄
  with_reducible refine cutK_4_5 (law_e5 B (by exact F₅) X₀ (by exact N₅) T hroom hh hK) ?_
  intro h₆ tk₆ lt od F₆ N₆ l6 lo hod
  clear F₅ N₅
  with_reducible refine cutK_3_3 (law_e6 B (by exact F₆) X₀ (by exact N₆) T hroom hh hK) ?_
  intro h₇ tk₇ rw_ F₇ N₇ l7
  clear F₆ N₆
  with_reducible refine cutK_3_3 (law_e7 B (by exact F₇) X₀ (by exact N₇) T hroom hh hK) ?_
  intro h₈ tk₈ de F₈ N₈ l8
  clear F₇ N₇
  with_reducible refine cutK_3_3 (law_e8 B (by exact F₈) X₀ (by exact N₈) T hroom hh hK) ?_
  intro h₉ tk₉ ot F₉ N₉ l9
  clear F₈ N₈
  have M0 : M6 (setM (setM (setM (setM (setM m₂ "lasts" (.ref la)) "latest" (.ref lt)) "rows" (.ref rw_)) "depths" (.ref de)) "octets" (.ref ot)) d la lt rw_ de ot :=
    ⟨setM_ne (setM_ne (setM_ne (setM_ne (setM_ne hm₂ (by decide +kernel)) (by decide +kernel)) (by decide +kernel)) (by decide +kernel)) (by decide +kernel),
     setM_ne (setM_ne (setM_ne (setM_ne setM_eq (by decide +kernel)) (by decide +kernel)) (by decide +kernel)) (by decide +kernel),
     setM_ne (setM_ne (setM_ne setM_eq (by decide +kernel)) (by decide +kernel)) (by decide +kernel),
     setM_ne (setM_ne setM_eq (by decide +kernel)) (by decide +kernel), setM_ne setM_eq (by decide +kernel), setM_eq⟩
  generalize setM (setM (setM (setM (setM m₂ "lasts" (.ref la)) "latest" (.ref lt)) "rows" (.ref rw_)) "depths" (.ref de)) "octets" (.ref ot) = mm at M0 F₉
  generalize hnsd : ds.map meantS = ns at *
  have hbase : ∃ base : List (Addr × Obj), base = (sh, PySem.W.listOf refs.toArray e₄) :: (nm, PySem.W.listOf ys.toArray e₃) :: (d, PySem.W.listOf ws₂.toArray e₂) :: (L + 3, o3') :: (L + 2, o2) :: (L + 1, o1') :: blk := ⟨_, rfl⟩
  obtain ⟨base, hbase⟩ := hbase
  have b1 : (sh, PySem.W.listOf refs.toArray e₄) ∈ base := by rw [hbase]; exact .head _
  have b2 : (nm, PySem.W.listOf ys.toArray e₃) ∈ base := by rw [hbase]; exact .tail _ (.head _)
  have b3 : (d, PySem.W.listOf ws₂.toArray e₂) ∈ base := by rw [hbase]; exact .tail _ (.tail _ (.head _))
  have b4 : (L + 3, o3') ∈ base := by rw [hbase]; exact .tail _ (.tail _ (.tail _ (.head _)))
  have b5 : (L + 2, o2) ∈ base := by rw [hbase]; exact .tail _ (.tail _ (.tail _ (.tail _ (.head _))))
  have b6 : (L + 1, o1') ∈ base := by rw [hbase]; exact .tail _ (.tail _ (.tail _ (.tail _ (.tail _ (.head _)))))
  have b7 : ∀ p ∈ blk, p ∈ base := fun p hp => by rw [hbase]; exact .tail _ (.tail _ (.tail _ (.tail _ (.tail _ (.tail _ hp)))))
  have inb : ∀ p ∈ base, p ∈ (sh, PySem.W.listOf refs.toArray e₄) :: (blk ++ (nm, PySem.W.listOf ys.toArray e₃) :: (d, PySem.W.listOf ws₂.toArray e₂) :: [(L + 7, o7), (L + 6, o6), (L + 5, o5), (L + 4, o4), (L + 3, o3'), (L + 2, o2), (L + 1, o1')]) := by
    intro p hp
    rw [hbase] at hp
    rcases List.mem_cons.mp hp with rfl | hp
    · exact .head _
    rcases List.mem_cons.mp hp with rfl | hp
    · exact .tail _ (List.mem_append_right _ (.head _))
    rcases List.mem_cons.mp hp with rfl | hp
    · exact .tail _ (List.mem_append_right _ (.tail _ (.head _)))
    rcases List.mem_cons.mp hp with rfl | hp
    · exact .tail _ (List.mem_append_right _ (by repeat (first | exact List.Mem.head _ | refine List.Mem.tail _ ?_)))
    rcases List.mem_cons.mp hp with rfl | hp
    · exact .tail _ (List.mem_append_right _ (by repeat (first | exact List.Mem.head _ | refine List.Mem.tail _ ?_)))
    rcases List.mem_cons.mp hp with rfl | hp
    · exact .tail _ (List.mem_append_right _ (by repeat (first | exact List.Mem.head _ | refine List.Mem.tail _ ?_)))
    exact .tail _ (List.mem_append_left _ hp)
  have hblk : ∀ p ∈ blk, (@Ne Nat p.1 (L + 4) ∧ @Ne Nat p.1 (L + 5) ∧ @Ne Nat p.1 (L + 6) ∧ @Ne Nat p.1 (L + 7)) ∧ @Ne Nat p.1 (L + 2) := fun p hp =>
    ⟨⟨hdis p hp (L + 4, o4) (by repeat (first | exact List.Mem.head _ | refine List.Mem.tail _ ?_)), hdis p hp (L + 5, o5) (by repeat (first | exact List.Mem.head _ | refine List.Mem.tail _ ?_)), hdis p hp (L + 6, o6) (by repeat (first | exact List.Mem.head _ | refine List.Mem.tail _ ?_)), hdis p hp (L + 7, o7) (by repeat (first | exact List.Mem.head _ | refine List.Mem.tail _ ?_))⟩, hdis p hp (L + 2, o2) (by repeat (first | exact List.Mem.head _ | refine List.Mem.tail _ ?_))⟩
  have hs4 : @Ne Nat (L + 4) sh := offD (L + 4, o4) (List.mem_append_right _ (by repeat (first | exact List.Mem.head _ | refine List.Mem.tail _ ?_)))
  have hs5 : @Ne Nat (L + 5) sh := offD (L + 5, o5) (List.mem_append_right _ (by repeat (first | exact List.Mem.head _ | refine List.Mem.tail _ ?_)))
  have hs6 : @Ne Nat (L + 6) sh := offD (L + 6, o6) (List.mem_append_right _ (by repeat (first | exact List.Mem.head _ | refine List.Mem.tail _ ?_)))
  have hs7 : @Ne Nat (L + 7) sh := offD (L + 7, o7) (List.mem_append_right _ (by repeat (first | exact List.Mem.head _ | refine List.Mem.tail _ ?_)))
  have hs2 : @Ne Nat (L + 2) sh := offD (L + 2, o2) (List.mem_append_right _ (by repeat (first | exact List.Mem.head _ | refine List.Mem.tail _ ?_)))
  have g1 : @LT.lt Nat _ (L + 7) la := l5 (L + 7, o7) (.tail _ (List.mem_append_right _ (by repeat (first | exact List.Mem.head _ | refine List.Mem.tail _ ?_))))
  have g2 : @LT.lt Nat _ la lt := l6 _ (.head _)
  have g3 : @LT.lt Nat _ lt rw_ := l7 _ (.head _)
  have g4 : @LT.lt Nat _ rw_ de := l8 _ (.head _)
  have g5 : @LT.lt Nat _ de ot := l9 _ (.head _)
  have gb : ∀ p ∈ base, @LT.lt Nat _ p.1 la := fun p hp => l5 p (inb p hp)
  have D : Dst L la lt de ot rw_ base := by
    refine dst_init g1 g2 g3 g4 g5 (fun p hp => ?_) gb
    rw [hbase] at hp
    rcases List.mem_cons.mp hp with rfl | hp
    · exact ⟨hs4.symm, hs5.symm, hs6.symm, hs7.symm⟩
    rcases List.mem_cons.mp hp with rfl | hp
    · exact ⟨hn4.symm, hn5.symm, hn6.symm, hn7.symm⟩
    rcases List.mem_cons.mp hp with rfl | hp
    · exact far4 hd7
    rcases List.mem_cons.mp hp with rfl | hp
    · exact ⟨lne L (by decide), lne L (by decide), lne L (by decide), lne L (by decide)⟩
    rcases List.mem_cons.mp hp with rfl | hp
    · exact ⟨lne L (by decide), lne L (by decide), lne L (by decide), lne L (by decide)⟩
    rcases List.mem_cons.mp hp with rfl | hp
    · exact ⟨lne L (by decide), lne L (by decide), lne L (by decide), lne L (by decide)⟩
    exact (hblk p hp).1
  have hledsub : ∀ p ∈ led L la lt de ot rw_ o4 o5 o6 o7 (PySem.W.listOf ([] : List Value).toArray 0) od (PySem.W.listOf ([] : List Value).toArray 0) (PySem.W.listOf ([] : List Value).toArray 0) (PySem.W.listOf ([] : List Value).toArray 0) base, p ∈ (ot, PySem.W.listOf #[] 0) :: (de, PySem.W.listOf #[] 0) :: (rw_, PySem.W.listOf #[] 0) :: (lt, od) :: (la, PySem.W.listOf #[] 0) :: (sh, PySem.W.listOf refs.toArray e₄) :: (blk ++ (nm, PySem.W.listOf ys.toArray e₃) :: (d, PySem.W.listOf ws₂.toArray e₂) :: [(L + 7, o7), (L + 6, o6), (L + 5, o5), (L + 4, o4), (L + 3, o3'), (L + 2, o2), (L + 1, o1')]) := by
    intro p hp
    unfold led at hp
    have hcell : ∀ q, q ∈ [(L + 7, o7), (L + 6, o6), (L + 5, o5), (L + 4, o4), (L + 3, o3'), (L + 2, o2), (L + 1, o1')] → q ∈ (ot, PySem.W.listOf #[] 0) :: (de, PySem.W.listOf #[] 0) :: (rw_, PySem.W.listOf #[] 0) :: (lt, od) :: (la, PySem.W.listOf #[] 0) :: (sh, PySem.W.listOf refs.toArray e₄) :: (blk ++ (nm, PySem.W.listOf ys.toArray e₃) :: (d, PySem.W.listOf ws₂.toArray e₂) :: [(L + 7, o7), (L + 6, o6), (L + 5, o5), (L + 4, o4), (L + 3, o3'), (L + 2, o2), (L + 1, o1')]) :=
      fun q hq => .tail _ (.tail _ (.tail _ (.tail _ (.tail _ (.tail _ (List.mem_append_right _ (.tail _ (.tail _ hq))))))))
    rcases List.mem_cons.mp hp with rfl | hp
    · exact hcell _ (by repeat (first | exact List.Mem.head _ | refine List.Mem.tail _ ?_))
    rcases List.mem_cons.mp hp with rfl | hp
    · exact hcell _ (by repeat (first | exact List.Mem.head _ | refine List.Mem.tail _ ?_))
    rcases List.mem_cons.mp hp with rfl | hp
    · exact hcell _ (by repeat (first | exact List.Mem.head _ | refine List.Mem.tail _ ?_))
    rcases List.mem_cons.mp hp with rfl | hp
    · exact hcell _ (by repeat (first | exact List.Mem.head _ | refine List.Mem.tail _ ?_))
    rcases List.mem_cons.mp hp with rfl | hp
    · exact .tail _ (.tail _ (.tail _ (.tail _ (.head _))))
    rcases List.mem_cons.mp hp with rfl | hp
    · exact .tail _ (.tail _ (.tail _ (.head _)))
    rcases List.mem_cons.mp hp with rfl | hp
    · exact .tail _ (.head _)
    rcases List.mem_cons.mp hp with rfl | hp
    · exact .head _
    rcases List.mem_cons.mp hp with rfl | hp
    · exact .tail _ (.tail _ (.head _))
    exact .tail _ (.tail _ (.tail _ (.tail _ (.tail _ (inb p hp)))))
  have M1 : MSt w L ns d base o4 0 mm (led L la lt de ot rw_ o4 o5 o6 o7 (PySem.W.listOf ([] : List Value).toArray 0) od (PySem.W.listOf ([] : List Value).toArray 0) (PySem.W.listOf ([] : List Value).toArray 0) (PySem.W.listOf ([] : List Value).toArray 0) base) :=
    ⟨la, lt, de, ot, rw_, o5, o6, o7, od, [], 0, [], 0, [], 0, [], 0, c5, c6, c7, [], [], [], rfl, D, ⟨d5, d6, d7⟩, ⟨M0.dr, M0.la, M0.lt, M0.rw_, M0.de, M0.ot⟩, pinv0 ns, .nil, hod, dinv0, lo, .nil, ⟨.nil, fun i j _ hj => absurd hj (Nat.not_lt_zero _), List.Perm.refl _⟩, .nil⟩
  have N9 := newsSub N₉ hledsub
  clear N₉
  have hokb : ShelvesOK base refs ns 5 := hok.mono b7
  have MB : MBody w A₀ h₀ L ns d base (envOfC qual scope L 185 cdv) (subSts (body.getD 9 (.Pass default))) := by
    intro s E m news p ock kk tkk F N hkk hkd M
    subst hnsd
    exact main_body B F X₀ N T hroom hh hK hun d ws₂ ds e₂ (.tail _ b3) hi₂ hdl hdb nm (.tail _ b6) d1' ys e₃ (.tail _ b2) hiy sh refs e₄ (.tail _ b4) d3' (.tail _ b1) (hokb.mono fun p hp => .tail _ hp) kk tkk hkk hkd M
  with_reducible refine cutK_5_3 (law_9 B (by exact F₉) X₀ (by exact N9) T hroom hh hK d ns d4 M1 MB) ?_
  intro hA tkA mA newsA o4' FA NA MA
  clear F₉ N9
  refine hide ?_; intro goalG intoG; obtain ⟨la', lt', de', ot', rw', oca, oce, ocw, od', lv, el, dv, ed, ov, eo, rv, er, ca, ce, cw, kvs, P, dl, rfl, D', _, ⟨_, _, _, _, v5, v6⟩, _, _, _, _, _, _, ⟨hid, hso, hperm⟩, hio⟩ := MA; refine intoG ?_; clear intoG goalG
  have hkeep : ∃ keep : List (Addr × Obj), keep = (de', PySem.W.listOf dv.toArray ed) :: (ot', PySem.W.listOf ov.toArray eo) :: (sh, PySem.W.listOf refs.toArray e₄) :: (nm, PySem.W.listOf ys.toArray e₃) :: (L + 3, o3') :: (L + 1, o1') :: blk := ⟨_, rfl⟩
  obtain ⟨keep, hkeep⟩ := hkeep
  have k1 : (de', PySem.W.listOf dv.toArray ed) ∈ keep := by rw [hkeep]; exact .head _
  have k2 : (ot', PySem.W.listOf ov.toArray eo) ∈ keep := by rw [hkeep]; exact .tail _ (.head _)
  have k3 : (sh, PySem.W.listOf refs.toArray e₄) ∈ keep := by rw [hkeep]; exact .tail _ (.tail _ (.head _))
  have k4 : (nm, PySem.W.listOf ys.toArray e₃) ∈ keep := by rw [hkeep]; exact .tail _ (.tail _ (.tail _ (.head _)))
  have k5 : (L + 3, o3') ∈ keep := by rw [hkeep]; exact .tail _ (.tail _ (.tail _ (.tail _ (.head _))))
  have k6 : (L + 1, o1') ∈ keep := by rw [hkeep]; exact .tail _ (.tail _ (.tail _ (.tail _ (.tail _ (.head _)))))
  have k7 : ∀ p ∈ blk, p ∈ keep := fun p hp => by rw [hkeep]; exact .tail _ (.tail _ (.tail _ (.tail _ (.tail _ (.tail _ hp)))))
  have hk2 : ∀ p ∈ keep, @Ne Nat p.1 (L + 2) := by
    intro p hp
    rw [hkeep] at hp
    rcases List.mem_cons.mp hp with rfl | hp
    · exact Ne.symm (D'.bs (L + 2, o2) b5 _ (by repeat (first | exact List.Mem.head _ | refine List.Mem.tail _ ?_)))
    rcases List.mem_cons.mp hp with rfl | hp
    · exact Ne.symm (D'.bs (L + 2, o2) b5 _ (by repeat (first | exact List.Mem.head _ | refine List.Mem.tail _ ?_)))
    rcases List.mem_cons.mp hp with rfl | hp
    · exact hs2.symm
    rcases List.mem_cons.mp hp with rfl | hp
    · exact hn2.symm
    rcases List.mem_cons.mp hp with rfl | hp
    · exact lne L (by decide)
    rcases List.mem_cons.mp hp with rfl | hp
    · exact lne L (by decide)
    exact (hblk p hp).2
  have hkl : ∀ p ∈ (L + 2, o2) :: keep, p ∈ led L la' lt' de' ot' rw' o4' oca oce ocw (PySem.W.listOf lv.toArray el) od' (PySem.W.listOf dv.toArray ed) (PySem.W.listOf ov.toArray eo) (PySem.W.listOf rv.toArray er) base := by
    intro p hp
    rw [hkeep] at hp
    rcases List.mem_cons.mp hp with rfl | hp
    · exact mem_led b5
    rcases List.mem_cons.mp hp with rfl | hp
    · exact led_de
    rcases List.mem_cons.mp hp with rfl | hp
    · exact led_ot
    rcases List.mem_cons.mp hp with rfl | hp
    · exact mem_led b1
    rcases List.mem_cons.mp hp with rfl | hp
    · exact mem_led b2
    rcases List.mem_cons.mp hp with rfl | hp
    · exact mem_led b4
    rcases List.mem_cons.mp hp with rfl | hp
    · exact mem_led b6
    exact mem_led (b7 p hp)
  have NA' := newsSub NA hkl
  clear NA
  have hokk : ShelvesOK keep refs ns 5 := hok.mono k7
  have SB : SBody w A₀ h₀ L ns de' ot' keep (envOfC qual scope L 185 cdv) (subSts (body.getD 10 (.Pass default))) := size_body (s := { s with heap := hA, toks := tkA }) B FA X₀ NA' T hroom hh hK ns hlens nm k6 d1' ys e₃ k4 hiy sh refs e₄ k5 d3' k3 hokk de' ot' dv dl ed k1 hid hso hperm
  with_reducible refine cutK_3_3 (law_10 (keep := keep) B (by exact FA) X₀ (by exact NA') T hroom hh hK (.head hk2) d2 ns de' ot' (fun p hp => ⟨List.Mem.tail _ hp, hk2 p hp⟩) v5 v6 SB) ?_
  intro hB tkB mB FB NB ho
  clear FA NA'
  have hsok : ns.all PyData.strOk = true := by
    rw [List.all_eq_true]
    exact fun z hz => (five_facts z (hns z hz)).2.2.2.1
  have hhd := heard_all ns hns hlens
  refine wpAny_execs_cons (wpAny_mono (ll_11 B (by exact FB) X₀ (by exact NB) T hroom hh hK hun nm k6 d1' ys ns e₃ k4 hiy hlens hsok ot' eo ov (itemsN ns 8) k2 hio hhd.1 (by unfold itemsN; simp) hhd.2 ho) (fun f s' hq => ?_) (fun _ _ h => h))
  obtain ⟨rfl, hC, tkC, rfl, FC, NC⟩ := hq
  exact ⟨rfl, hC, tkC, mB, keep, rfl, FC, NC⟩
end
end Mine
end
open PySem PySem.W PyProof.Rows PySem.Calls
set_option Elab.async false
set_option maxRecDepth 100000
set_option maxHeartbeats 0
namespace Mine
theorem refIn {a b : Addr} (h : some (Value.ref a) = some (Value.ref b)) : a = b := by
  cases h
  rfl
def codeD : Data → Value
  | .func f => f.code
  | _ => .none
theorem codeIn {o o' : Obj} {d : Data} {c c' : Value} (h : some o = some o') (hd : o.data = d) (hc : codeD o'.data = c') (hc' : codeD d = c := by rfl) : c = c' := by
  cases h
  rw [← hc', ← hc, hd]
theorem topK : PySem.Challenge.rw_us0017_01.Holds := by
  w_on; refine holds_law said0 fun said => ?_
  refine holds_open (q := qV) (loose := looseL) (Xt := XtL) (XP := XL qV []) (Yf := hookK.obs) (Ya := hookK.val) (YP := hookK.says) (N := 28692) left (Hook.of hookK) (Hook.keeps hookK) (fun s e => xl_of s (Bool.and_eq_true_iff.mp e).1) XL.keeps (by rfl) (by rfl) (by rfl) (fun s e => recFacts_of (Bool.and_eq_true_iff.mp e).2) (by rfl) (by assumption) (by decide +kernel) ⟨rfl, rfl, rfl, rfl, rfl, by decide +kernel⟩ ?hw ?hc
  case hw => w_witness2
  case hc =>
    k_fill
    intro w s₀ s₁ mg mb G Y fa o pm cd doc dV kV ho hd hcd hD hmg hg args vals as hpre hlay hrd hwl hlo
    have KX := kIn_of Y
    revert KX; k_fill; intro KX
    have e185 : mg (PySem.Str.ofString "law") = some (Value.ref 185) := mg_of KX G.T.g (by k_is)
    have efa : fa = 185 := refIn (hmg.symm.trans e185)
    subst efa
    have ecd : cd = Value.ref 184 := codeIn (ho.symm.trans (KX _ _ (by k_is))) hd rfl
    subst ecd
    clear e185
    refine Ground.open G ?_
    intro T B D TE TW
    try (refine guard_noD D (by decide +kernel) ?_; clear D)
    clear hmg
    wrow_args hpre hlay hrd hwl hlo
    first | refine callC_kw (enter_call ?_) | refine enter_call ?_ | refine callC_kw (enter_callW ?_) | refine enter_callW ?_
    w_top on
    have K0 := below_caller (Top.heap T)
    w_call any ho hd hcd hD T F
    refine' wpAny_mono (law_all ?B ?F ?X ?N ?T ?r ?h ?K ?u rfl ?d1 ?d2 ?d3 ?d4 ?d5 ?d6 ?d7 _ _ _ ?l ?i ?n ?v) ?post (fun _ _ h => h)
    case B => assumption
    case F => assumption
    case X => assumption
    case N => assumption
    case T => assumption
    case r => decide
    case h => rfl
    case u => decide
    case d1 => assumption
    case d2 => assumption
    case d3 => assumption
    case d4 => assumption
    case d5 => assumption
    case d6 => assumption
    case d7 => assumption
    case l => assumption
    case i => assumption
    case n => omega
    case v => rfl
    case K => k_is
    case post =>
      rintro f s' ⟨rfl, h₂, tk₂, m₂, news₂, rfl, F₂, N₂⟩
      refine GoodW.toG (goodW_bool F₂ (by assumption) (raisesW_false ?_) ?_)
      · wrow_none_raised
      · wrow_post
end Mine
theorem PySem.Challenge.cw_us0017_01_holds : PySem.Challenge.rw_us0017_01.Holds := by
  exact Mine.topK
