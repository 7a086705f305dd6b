import PyProof.Rows.All
import Wide.All
import OpenK.AllK
import Wide.FinOn
import PySem.Challenge.RW_wf0107_01
set_option Elab.async false
noncomputable section
open PySem PySem.Spec PySem.Calls PyProof.Rows PyProof.V PySem.W
set_option Elab.async false
set_option linter.unusedVariables false
set_option maxRecDepth 100000
namespace Mine

abbrev Pg : Program := PySem.Challenge.pw_wf0107_01

/-- a def of the text: where it stands, and its tree -/
structure FnRec where
  addr : Addr
  name : Str
  params : Arguments
  body : List Stmt
  scope : Scope
noncomputable def fnRec (i : Nat) (a : Addr) : FnRec := match Pg.main.body[i]? with
  | some (.FunctionDef name args body _ _ _ scope _ _ _) => ⟨a, name, args, body, scope⟩
  | _ => ⟨a, Str.ofString "", ⟨[], [], none, [], [], none, []⟩, [], Pg.main.scope⟩
noncomputable def clsBody : List Stmt := match Pg.main.body[18]? with | some (Stmt.ClassDef _ _ _ b _ _ _ _ _ _ _) => b | _ => []
/-- a method of the class: its tree -/
noncomputable def mRec (i : Nat) (a : Addr) : FnRec := match clsBody[i]? with
  | some (.FunctionDef name args body _ _ _ scope _ _ _) => ⟨a, name, args, body, scope⟩
  | _ => ⟨a, Str.ofString "", ⟨[], [], none, [], [], none, []⟩, [], Pg.main.scope⟩
abbrev cs (l : List Nat) : Str := ⟨⟨l⟩⟩
noncomputable def z0 (P : Params) : Obj := ⟨(.type "dict"), none, (.dict (Array.mk [⟨PyData.keyHash P (cs [95, 95, 110, 97, 109, 101, 95, 95]), (.str (cs [95, 95, 110, 97, 109, 101, 95, 95]) 1), (.str (cs [98, 117, 105, 108, 116, 105, 110, 115]) 160)⟩, ⟨PyData.keyHash P (cs [95, 95, 100, 111, 99, 95, 95]), (.str (cs [95, 95, 100, 111, 99, 95, 95]) 2), (.builtin "builtins.__doc__:str#opaque")⟩, ⟨PyData.keyHash P (cs [95, 95, 112, 97, 99, 107, 97, 103, 101, 95, 95]), (.str (cs [95, 95, 112, 97, 99, 107, 97, 103, 101, 95, 95]) 3), (.builtin "builtins.__package__:str#opaque")⟩, ⟨PyData.keyHash P (cs [95, 95, 108, 111, 97, 100, 101, 114, 95, 95]), (.str (cs [95, 95, 108, 111, 97, 100, 101, 114, 95, 95]) 4), (.builtin "builtins.__loader__:shared#opaque")⟩, ⟨PyData.keyHash P (cs [95, 95, 115, 112, 101, 99, 95, 95]), (.str (cs [95, 95, 115, 112, 101, 99, 95, 95]) 5), (.builtin "builtins.__spec__#opaque")⟩, ⟨PyData.keyHash P (cs [95, 95, 98, 117, 105, 108, 100, 95, 99, 108, 97, 115, 115, 95, 95]), (.str (cs [95, 95, 98, 117, 105, 108, 100, 95, 99, 108, 97, 115, 115, 95, 95]) 6), (.builtin "__build_class__")⟩, ⟨PyData.keyHash P (cs [95, 95, 105, 109, 112, 111, 114, 116, 95, 95]), (.str (cs [95, 95, 105, 109, 112, 111, 114, 116, 95, 95]) 7), (.builtin "__import__")⟩, ⟨PyData.keyHash P (cs [97, 98, 115]), (.str (cs [97, 98, 115]) 8), (.builtin "abs")⟩, ⟨PyData.keyHash P (cs [97, 108, 108]), (.str (cs [97, 108, 108]) 9), (.builtin "all")⟩, ⟨PyData.keyHash P (cs [97, 110, 121]), (.str (cs [97, 110, 121]) 10), (.builtin "any")⟩, ⟨PyData.keyHash P (cs [97, 115, 99, 105, 105]), (.str (cs [97, 115, 99, 105, 105]) 11), (.builtin "ascii")⟩, ⟨PyData.keyHash P (cs [98, 105, 110]), (.str (cs [98, 105, 110]) 12), (.builtin "bin")⟩, ⟨PyData.keyHash P (cs [98, 114, 101, 97, 107, 112, 111, 105, 110, 116]), (.str (cs [98, 114, 101, 97, 107, 112, 111, 105, 110, 116]) 13), (.builtin "breakpoint")⟩, ⟨PyData.keyHash P (cs [99, 97, 108, 108, 97, 98, 108, 101]), (.str (cs [99, 97, 108, 108, 97, 98, 108, 101]) 14), (.builtin "callable")⟩, ⟨PyData.keyHash P (cs [99, 104, 114]), (.str (cs [99, 104, 114]) 15), (.builtin "chr")⟩, ⟨PyData.keyHash P (cs [99, 111, 109, 112, 105, 108, 101]), (.str (cs [99, 111, 109, 112, 105, 108, 101]) 16), (.builtin "compile")⟩, ⟨PyData.keyHash P (cs [100, 101, 108, 97, 116, 116, 114]), (.str (cs [100, 101, 108, 97, 116, 116, 114]) 17), (.builtin "delattr")⟩, ⟨PyData.keyHash P (cs [100, 105, 114]), (.str (cs [100, 105, 114]) 18), (.builtin "dir")⟩, ⟨PyData.keyHash P (cs [100, 105, 118, 109, 111, 100]), (.str (cs [100, 105, 118, 109, 111, 100]) 19), (.builtin "divmod")⟩, ⟨PyData.keyHash P (cs [101, 118, 97, 108]), (.str (cs [101, 118, 97, 108]) 20), (.builtin "eval")⟩, ⟨PyData.keyHash P (cs [101, 120, 101, 99]), (.str (cs [101, 120, 101, 99]) 21), (.builtin "exec")⟩, ⟨PyData.keyHash P (cs [102, 111, 114, 109, 97, 116]), (.str (cs [102, 111, 114, 109, 97, 116]) 22), (.builtin "format")⟩, ⟨PyData.keyHash P (cs [103, 101, 116, 97, 116, 116, 114]), (.str (cs [103, 101, 116, 97, 116, 116, 114]) 23), (.builtin "getattr")⟩, ⟨PyData.keyHash P (cs [103, 108, 111, 98, 97, 108, 115]), (.str (cs [103, 108, 111, 98, 97, 108, 115]) 24), (.builtin "globals")⟩, ⟨PyData.keyHash P (cs [104, 97, 115, 97, 116, 116, 114]), (.str (cs [104, 97, 115, 97, 116, 116, 114]) 25), (.builtin "hasattr")⟩, ⟨PyData.keyHash P (cs [104, 97, 115, 104]), (.str (cs [104, 97, 115, 104]) 26), (.builtin "hash")⟩, ⟨PyData.keyHash P (cs [104, 101, 120]), (.str (cs [104, 101, 120]) 27), (.builtin "hex")⟩, ⟨PyData.keyHash P (cs [105, 100]), (.str (cs [105, 100]) 28), (.builtin "id")⟩, ⟨PyData.keyHash P (cs [105, 110, 112, 117, 116]), (.str (cs [105, 110, 112, 117, 116]) 29), (.builtin "input")⟩, ⟨PyData.keyHash P (cs [105, 115, 105, 110, 115, 116, 97, 110, 99, 101]), (.str (cs [105, 115, 105, 110, 115, 116, 97, 110, 99, 101]) 30), (.builtin "isinstance")⟩, ⟨PyData.keyHash P (cs [105, 115, 115, 117, 98, 99, 108, 97, 115, 115]), (.str (cs [105, 115, 115, 117, 98, 99, 108, 97, 115, 115]) 31), (.builtin "issubclass")⟩, ⟨PyData.keyHash P (cs [105, 116, 101, 114]), (.str (cs [105, 116, 101, 114]) 32), (.builtin "iter")⟩, ⟨PyData.keyHash P (cs [97, 105, 116, 101, 114]), (.str (cs [97, 105, 116, 101, 114]) 33), (.builtin "aiter")⟩, ⟨PyData.keyHash P (cs [108, 101, 110]), (.str (cs [108, 101, 110]) 34), (.builtin "len")⟩, ⟨PyData.keyHash P (cs [108, 111, 99, 97, 108, 115]), (.str (cs [108, 111, 99, 97, 108, 115]) 35), (.builtin "locals")⟩, ⟨PyData.keyHash P (cs [109, 97, 120]), (.str (cs [109, 97, 120]) 36), (.builtin "max")⟩, ⟨PyData.keyHash P (cs [109, 105, 110]), (.str (cs [109, 105, 110]) 37), (.builtin "min")⟩, ⟨PyData.keyHash P (cs [110, 101, 120, 116]), (.str (cs [110, 101, 120, 116]) 38), (.builtin "next")⟩, ⟨PyData.keyHash P (cs [97, 110, 101, 120, 116]), (.str (cs [97, 110, 101, 120, 116]) 39), (.builtin "anext")⟩, ⟨PyData.keyHash P (cs [111, 99, 116]), (.str (cs [111, 99, 116]) 40), (.builtin "oct")⟩, ⟨PyData.keyHash P (cs [111, 114, 100]), (.str (cs [111, 114, 100]) 41), (.builtin "ord")⟩, ⟨PyData.keyHash P (cs [112, 111, 119]), (.str (cs [112, 111, 119]) 42), (.builtin "pow")⟩, ⟨PyData.keyHash P (cs [112, 114, 105, 110, 116]), (.str (cs [112, 114, 105, 110, 116]) 43), (.builtin "print")⟩, ⟨PyData.keyHash P (cs [114, 101, 112, 114]), (.str (cs [114, 101, 112, 114]) 44), (.builtin "repr")⟩, ⟨PyData.keyHash P (cs [114, 111, 117, 110, 100]), (.str (cs [114, 111, 117, 110, 100]) 45), (.builtin "round")⟩, ⟨PyData.keyHash P (cs [115, 101, 116, 97, 116, 116, 114]), (.str (cs [115, 101, 116, 97, 116, 116, 114]) 46), (.builtin "setattr")⟩, ⟨PyData.keyHash P (cs [115, 111, 114, 116, 101, 100]), (.str (cs [115, 111, 114, 116, 101, 100]) 47), (.builtin "sorted")⟩, ⟨PyData.keyHash P (cs [115, 117, 109]), (.str (cs [115, 117, 109]) 48), (.builtin "sum")⟩, ⟨PyData.keyHash P (cs [118, 97, 114, 115]), (.str (cs [118, 97, 114, 115]) 49), (.builtin "vars")⟩, ⟨PyData.keyHash P (cs [78, 111, 110, 101]), (.str (cs [78, 111, 110, 101]) 50), .none⟩, ⟨PyData.keyHash P (cs [69, 108, 108, 105, 112, 115, 105, 115]), (.str (cs [69, 108, 108, 105, 112, 115, 105, 115]) 51), .ellipsis⟩, ⟨PyData.keyHash P (cs [78, 111, 116, 73, 109, 112, 108, 101, 109, 101, 110, 116, 101, 100]), (.str (cs [78, 111, 116, 73, 109, 112, 108, 101, 109, 101, 110, 116, 101, 100]) 52), .notImplemented⟩, ⟨PyData.keyHash P (cs [70, 97, 108, 115, 101]), (.str (cs [70, 97, 108, 115, 101]) 53), (.bool false)⟩, ⟨PyData.keyHash P (cs [84, 114, 117, 101]), (.str (cs [84, 114, 117, 101]) 54), (.bool true)⟩, ⟨PyData.keyHash P (cs [98, 111, 111, 108]), (.str (cs [98, 111, 111, 108]) 55), (.type "bool")⟩, ⟨PyData.keyHash P (cs [109, 101, 109, 111, 114, 121, 118, 105, 101, 119]), (.str (cs [109, 101, 109, 111, 114, 121, 118, 105, 101, 119]) 56), (.type "memoryview")⟩, ⟨PyData.keyHash P (cs [98, 121, 116, 101, 97, 114, 114, 97, 121]), (.str (cs [98, 121, 116, 101, 97, 114, 114, 97, 121]) 57), (.type "bytearray")⟩, ⟨PyData.keyHash P (cs [98, 121, 116, 101, 115]), (.str (cs [98, 121, 116, 101, 115]) 58), (.type "bytes")⟩, ⟨PyData.keyHash P (cs [99, 108, 97, 115, 115, 109, 101, 116, 104, 111, 100]), (.str (cs [99, 108, 97, 115, 115, 109, 101, 116, 104, 111, 100]) 59), (.type "classmethod")⟩, ⟨PyData.keyHash P (cs [99, 111, 109, 112, 108, 101, 120]), (.str (cs [99, 111, 109, 112, 108, 101, 120]) 60), (.type "complex")⟩, ⟨PyData.keyHash P (cs [100, 105, 99, 116]), (.str (cs [100, 105, 99, 116]) 61), (.type "dict")⟩, ⟨PyData.keyHash P (cs [101, 110, 117, 109, 101, 114, 97, 116, 101]), (.str (cs [101, 110, 117, 109, 101, 114, 97, 116, 101]) 62), (.type "enumerate")⟩, ⟨PyData.keyHash P (cs [102, 105, 108, 116, 101, 114]), (.str (cs [102, 105, 108, 116, 101, 114]) 63), (.type "filter")⟩, ⟨PyData.keyHash P (cs [102, 108, 111, 97, 116]), (.str (cs [102, 108, 111, 97, 116]) 64), (.type "float")⟩, ⟨PyData.keyHash P (cs [102, 114, 111, 122, 101, 110, 115, 101, 116]), (.str (cs [102, 114, 111, 122, 101, 110, 115, 101, 116]) 65), (.type "frozenset")⟩, ⟨PyData.keyHash P (cs [112, 114, 111, 112, 101, 114, 116, 121]), (.str (cs [112, 114, 111, 112, 101, 114, 116, 121]) 66), (.type "property")⟩, ⟨PyData.keyHash P (cs [105, 110, 116]), (.str (cs [105, 110, 116]) 67), (.type "int")⟩, ⟨PyData.keyHash P (cs [108, 105, 115, 116]), (.str (cs [108, 105, 115, 116]) 68), (.type "list")⟩, ⟨PyData.keyHash P (cs [109, 97, 112]), (.str (cs [109, 97, 112]) 69), (.type "map")⟩, ⟨PyData.keyHash P (cs [111, 98, 106, 101, 99, 116]), (.str (cs [111, 98, 106, 101, 99, 116]) 70), (.type "object")⟩, ⟨PyData.keyHash P (cs [114, 97, 110, 103, 101]), (.str (cs [114, 97, 110, 103, 101]) 71), (.type "range")⟩, ⟨PyData.keyHash P (cs [114, 101, 118, 101, 114, 115, 101, 100]), (.str (cs [114, 101, 118, 101, 114, 115, 101, 100]) 72), (.type "reversed")⟩, ⟨PyData.keyHash P (cs [115, 101, 116]), (.str (cs [115, 101, 116]) 73), (.type "set")⟩, ⟨PyData.keyHash P (cs [115, 108, 105, 99, 101]), (.str (cs [115, 108, 105, 99, 101]) 74), (.type "slice")⟩, ⟨PyData.keyHash P (cs [115, 116, 97, 116, 105, 99, 109, 101, 116, 104, 111, 100]), (.str (cs [115, 116, 97, 116, 105, 99, 109, 101, 116, 104, 111, 100]) 75), (.type "staticmethod")⟩, ⟨PyData.keyHash P (cs [115, 116, 114]), (.str (cs [115, 116, 114]) 76), (.type "str")⟩, ⟨PyData.keyHash P (cs [115, 117, 112, 101, 114]), (.str (cs [115, 117, 112, 101, 114]) 77), (.type "super")⟩, ⟨PyData.keyHash P (cs [116, 117, 112, 108, 101]), (.str (cs [116, 117, 112, 108, 101]) 78), (.type "tuple")⟩, ⟨PyData.keyHash P (cs [116, 121, 112, 101]), (.str (cs [116, 121, 112, 101]) 79), (.type "type")⟩, ⟨PyData.keyHash P (cs [122, 105, 112]), (.str (cs [122, 105, 112]) 80), (.type "zip")⟩, ⟨PyData.keyHash P (cs [95, 95, 100, 101, 98, 117, 103, 95, 95]), (.str (cs [95, 95, 100, 101, 98, 117, 103, 95, 95]) 81), (.bool true)⟩, ⟨PyData.keyHash P (cs [66, 97, 115, 101, 69, 120, 99, 101, 112, 116, 105, 111, 110]), (.str (cs [66, 97, 115, 101, 69, 120, 99, 101, 112, 116, 105, 111, 110]) 82), (.type "BaseException")⟩, ⟨PyData.keyHash P (cs [66, 97, 115, 101, 69, 120, 99, 101, 112, 116, 105, 111, 110, 71, 114, 111, 117, 112]), (.str (cs [66, 97, 115, 101, 69, 120, 99, 101, 112, 116, 105, 111, 110, 71, 114, 111, 117, 112]) 83), (.type "BaseExceptionGroup")⟩, ⟨PyData.keyHash P (cs [69, 120, 99, 101, 112, 116, 105, 111, 110]), (.str (cs [69, 120, 99, 101, 112, 116, 105, 111, 110]) 84), (.type "Exception")⟩, ⟨PyData.keyHash P (cs [71, 101, 110, 101, 114, 97, 116, 111, 114, 69, 120, 105, 116]), (.str (cs [71, 101, 110, 101, 114, 97, 116, 111, 114, 69, 120, 105, 116]) 85), (.type "GeneratorExit")⟩, ⟨PyData.keyHash P (cs [75, 101, 121, 98, 111, 97, 114, 100, 73, 110, 116, 101, 114, 114, 117, 112, 116]), (.str (cs [75, 101, 121, 98, 111, 97, 114, 100, 73, 110, 116, 101, 114, 114, 117, 112, 116]) 86), (.type "KeyboardInterrupt")⟩, ⟨PyData.keyHash P (cs [83, 121, 115, 116, 101, 109, 69, 120, 105, 116]), (.str (cs [83, 121, 115, 116, 101, 109, 69, 120, 105, 116]) 87), (.type "SystemExit")⟩, ⟨PyData.keyHash P (cs [65, 114, 105, 116, 104, 109, 101, 116, 105, 99, 69, 114, 114, 111, 114]), (.str (cs [65, 114, 105, 116, 104, 109, 101, 116, 105, 99, 69, 114, 114, 111, 114]) 88), (.type "ArithmeticError")⟩, ⟨PyData.keyHash P (cs [65, 115, 115, 101, 114, 116, 105, 111, 110, 69, 114, 114, 111, 114]), (.str (cs [65, 115, 115, 101, 114, 116, 105, 111, 110, 69, 114, 114, 111, 114]) 89), (.type "AssertionError")⟩, ⟨PyData.keyHash P (cs [65, 116, 116, 114, 105, 98, 117, 116, 101, 69, 114, 114, 111, 114]), (.str (cs [65, 116, 116, 114, 105, 98, 117, 116, 101, 69, 114, 114, 111, 114]) 90), (.type "AttributeError")⟩, ⟨PyData.keyHash P (cs [66, 117, 102, 102, 101, 114, 69, 114, 114, 111, 114]), (.str (cs [66, 117, 102, 102, 101, 114, 69, 114, 114, 111, 114]) 91), (.type "BufferError")⟩, ⟨PyData.keyHash P (cs [69, 79, 70, 69, 114, 114, 111, 114]), (.str (cs [69, 79, 70, 69, 114, 114, 111, 114]) 92), (.type "EOFError")⟩, ⟨PyData.keyHash P (cs [73, 109, 112, 111, 114, 116, 69, 114, 114, 111, 114]), (.str (cs [73, 109, 112, 111, 114, 116, 69, 114, 114, 111, 114]) 93), (.type "ImportError")⟩, ⟨PyData.keyHash P (cs [76, 111, 111, 107, 117, 112, 69, 114, 114, 111, 114]), (.str (cs [76, 111, 111, 107, 117, 112, 69, 114, 114, 111, 114]) 94), (.type "LookupError")⟩, ⟨PyData.keyHash P (cs [77, 101, 109, 111, 114, 121, 69, 114, 114, 111, 114]), (.str (cs [77, 101, 109, 111, 114, 121, 69, 114, 114, 111, 114]) 95), (.type "MemoryError")⟩, ⟨PyData.keyHash P (cs [78, 97, 109, 101, 69, 114, 114, 111, 114]), (.str (cs [78, 97, 109, 101, 69, 114, 114, 111, 114]) 96), (.type "NameError")⟩, ⟨PyData.keyHash P (cs [79, 83, 69, 114, 114, 111, 114]), (.str (cs [79, 83, 69, 114, 114, 111, 114]) 97), (.type "OSError")⟩, ⟨PyData.keyHash P (cs [82, 101, 102, 101, 114, 101, 110, 99, 101, 69, 114, 114, 111, 114]), (.str (cs [82, 101, 102, 101, 114, 101, 110, 99, 101, 69, 114, 114, 111, 114]) 98), (.type "ReferenceError")⟩, ⟨PyData.keyHash P (cs [82, 117, 110, 116, 105, 109, 101, 69, 114, 114, 111, 114]), (.str (cs [82, 117, 110, 116, 105, 109, 101, 69, 114, 114, 111, 114]) 99), (.type "RuntimeError")⟩, ⟨PyData.keyHash P (cs [83, 116, 111, 112, 65, 115, 121, 110, 99, 73, 116, 101, 114, 97, 116, 105, 111, 110]), (.str (cs [83, 116, 111, 112, 65, 115, 121, 110, 99, 73, 116, 101, 114, 97, 116, 105, 111, 110]) 100), (.type "StopAsyncIteration")⟩, ⟨PyData.keyHash P (cs [83, 116, 111, 112, 73, 116, 101, 114, 97, 116, 105, 111, 110]), (.str (cs [83, 116, 111, 112, 73, 116, 101, 114, 97, 116, 105, 111, 110]) 101), (.type "StopIteration")⟩, ⟨PyData.keyHash P (cs [83, 121, 110, 116, 97, 120, 69, 114, 114, 111, 114]), (.str (cs [83, 121, 110, 116, 97, 120, 69, 114, 114, 111, 114]) 102), (.type "SyntaxError")⟩, ⟨PyData.keyHash P (cs [83, 121, 115, 116, 101, 109, 69, 114, 114, 111, 114]), (.str (cs [83, 121, 115, 116, 101, 109, 69, 114, 114, 111, 114]) 103), (.type "SystemError")⟩, ⟨PyData.keyHash P (cs [84, 121, 112, 101, 69, 114, 114, 111, 114]), (.str (cs [84, 121, 112, 101, 69, 114, 114, 111, 114]) 104), (.type "TypeError")⟩, ⟨PyData.keyHash P (cs [86, 97, 108, 117, 101, 69, 114, 114, 111, 114]), (.str (cs [86, 97, 108, 117, 101, 69, 114, 114, 111, 114]) 105), (.type "ValueError")⟩, ⟨PyData.keyHash P (cs [87, 97, 114, 110, 105, 110, 103]), (.str (cs [87, 97, 114, 110, 105, 110, 103]) 106), (.type "Warning")⟩, ⟨PyData.keyHash P (cs [70, 108, 111, 97, 116, 105, 110, 103, 80, 111, 105, 110, 116, 69, 114, 114, 111, 114]), (.str (cs [70, 108, 111, 97, 116, 105, 110, 103, 80, 111, 105, 110, 116, 69, 114, 114, 111, 114]) 107), (.type "FloatingPointError")⟩, ⟨PyData.keyHash P (cs [79, 118, 101, 114, 102, 108, 111, 119, 69, 114, 114, 111, 114]), (.str (cs [79, 118, 101, 114, 102, 108, 111, 119, 69, 114, 114, 111, 114]) 108), (.type "OverflowError")⟩, ⟨PyData.keyHash P (cs [90, 101, 114, 111, 68, 105, 118, 105, 115, 105, 111, 110, 69, 114, 114, 111, 114]), (.str (cs [90, 101, 114, 111, 68, 105, 118, 105, 115, 105, 111, 110, 69, 114, 114, 111, 114]) 109), (.type "ZeroDivisionError")⟩, ⟨PyData.keyHash P (cs [66, 121, 116, 101, 115, 87, 97, 114, 110, 105, 110, 103]), (.str (cs [66, 121, 116, 101, 115, 87, 97, 114, 110, 105, 110, 103]) 110), (.type "BytesWarning")⟩, ⟨PyData.keyHash P (cs [68, 101, 112, 114, 101, 99, 97, 116, 105, 111, 110, 87, 97, 114, 110, 105, 110, 103]), (.str (cs [68, 101, 112, 114, 101, 99, 97, 116, 105, 111, 110, 87, 97, 114, 110, 105, 110, 103]) 111), (.type "DeprecationWarning")⟩, ⟨PyData.keyHash P (cs [69, 110, 99, 111, 100, 105, 110, 103, 87, 97, 114, 110, 105, 110, 103]), (.str (cs [69, 110, 99, 111, 100, 105, 110, 103, 87, 97, 114, 110, 105, 110, 103]) 112), (.type "EncodingWarning")⟩, ⟨PyData.keyHash P (cs [70, 117, 116, 117, 114, 101, 87, 97, 114, 110, 105, 110, 103]), (.str (cs [70, 117, 116, 117, 114, 101, 87, 97, 114, 110, 105, 110, 103]) 113), (.type "FutureWarning")⟩, ⟨PyData.keyHash P (cs [73, 109, 112, 111, 114, 116, 87, 97, 114, 110, 105, 110, 103]), (.str (cs [73, 109, 112, 111, 114, 116, 87, 97, 114, 110, 105, 110, 103]) 114), (.type "ImportWarning")⟩, ⟨PyData.keyHash P (cs [80, 101, 110, 100, 105, 110, 103, 68, 101, 112, 114, 101, 99, 97, 116, 105, 111, 110, 87, 97, 114, 110, 105, 110, 103]), (.str (cs [80, 101, 110, 100, 105, 110, 103, 68, 101, 112, 114, 101, 99, 97, 116, 105, 111, 110, 87, 97, 114, 110, 105, 110, 103]) 115), (.type "PendingDeprecationWarning")⟩, ⟨PyData.keyHash P (cs [82, 101, 115, 111, 117, 114, 99, 101, 87, 97, 114, 110, 105, 110, 103]), (.str (cs [82, 101, 115, 111, 117, 114, 99, 101, 87, 97, 114, 110, 105, 110, 103]) 116), (.type "ResourceWarning")⟩, ⟨PyData.keyHash P (cs [82, 117, 110, 116, 105, 109, 101, 87, 97, 114, 110, 105, 110, 103]), (.str (cs [82, 117, 110, 116, 105, 109, 101, 87, 97, 114, 110, 105, 110, 103]) 117), (.type "RuntimeWarning")⟩, ⟨PyData.keyHash P (cs [83, 121, 110, 116, 97, 120, 87, 97, 114, 110, 105, 110, 103]), (.str (cs [83, 121, 110, 116, 97, 120, 87, 97, 114, 110, 105, 110, 103]) 118), (.type "SyntaxWarning")⟩, ⟨PyData.keyHash P (cs [85, 110, 105, 99, 111, 100, 101, 87, 97, 114, 110, 105, 110, 103]), (.str (cs [85, 110, 105, 99, 111, 100, 101, 87, 97, 114, 110, 105, 110, 103]) 119), (.type "UnicodeWarning")⟩, ⟨PyData.keyHash P (cs [85, 115, 101, 114, 87, 97, 114, 110, 105, 110, 103]), (.str (cs [85, 115, 101, 114, 87, 97, 114, 110, 105, 110, 103]) 120), (.type "UserWarning")⟩, ⟨PyData.keyHash P (cs [66, 108, 111, 99, 107, 105, 110, 103, 73, 79, 69, 114, 114, 111, 114]), (.str (cs [66, 108, 111, 99, 107, 105, 110, 103, 73, 79, 69, 114, 114, 111, 114]) 121), (.type "BlockingIOError")⟩, ⟨PyData.keyHash P (cs [67, 104, 105, 108, 100, 80, 114, 111, 99, 101, 115, 115, 69, 114, 114, 111, 114]), (.str (cs [67, 104, 105, 108, 100, 80, 114, 111, 99, 101, 115, 115, 69, 114, 114, 111, 114]) 122), (.type "ChildProcessError")⟩, ⟨PyData.keyHash P (cs [67, 111, 110, 110, 101, 99, 116, 105, 111, 110, 69, 114, 114, 111, 114]), (.str (cs [67, 111, 110, 110, 101, 99, 116, 105, 111, 110, 69, 114, 114, 111, 114]) 123), (.type "ConnectionError")⟩, ⟨PyData.keyHash P (cs [70, 105, 108, 101, 69, 120, 105, 115, 116, 115, 69, 114, 114, 111, 114]), (.str (cs [70, 105, 108, 101, 69, 120, 105, 115, 116, 115, 69, 114, 114, 111, 114]) 124), (.type "FileExistsError")⟩, ⟨PyData.keyHash P (cs [70, 105, 108, 101, 78, 111, 116, 70, 111, 117, 110, 100, 69, 114, 114, 111, 114]), (.str (cs [70, 105, 108, 101, 78, 111, 116, 70, 111, 117, 110, 100, 69, 114, 114, 111, 114]) 125), (.type "FileNotFoundError")⟩, ⟨PyData.keyHash P (cs [73, 110, 116, 101, 114, 114, 117, 112, 116, 101, 100, 69, 114, 114, 111, 114]), (.str (cs [73, 110, 116, 101, 114, 114, 117, 112, 116, 101, 100, 69, 114, 114, 111, 114]) 126), (.type "InterruptedError")⟩, ⟨PyData.keyHash P (cs [73, 115, 65, 68, 105, 114, 101, 99, 116, 111, 114, 121, 69, 114, 114, 111, 114]), (.str (cs [73, 115, 65, 68, 105, 114, 101, 99, 116, 111, 114, 121, 69, 114, 114, 111, 114]) 127), (.type "IsADirectoryError")⟩, ⟨PyData.keyHash P (cs [78, 111, 116, 65, 68, 105, 114, 101, 99, 116, 111, 114, 121, 69, 114, 114, 111, 114]), (.str (cs [78, 111, 116, 65, 68, 105, 114, 101, 99, 116, 111, 114, 121, 69, 114, 114, 111, 114]) 128), (.type "NotADirectoryError")⟩, ⟨PyData.keyHash P (cs [80, 101, 114, 109, 105, 115, 115, 105, 111, 110, 69, 114, 114, 111, 114]), (.str (cs [80, 101, 114, 109, 105, 115, 115, 105, 111, 110, 69, 114, 114, 111, 114]) 129), (.type "PermissionError")⟩, ⟨PyData.keyHash P (cs [80, 114, 111, 99, 101, 115, 115, 76, 111, 111, 107, 117, 112, 69, 114, 114, 111, 114]), (.str (cs [80, 114, 111, 99, 101, 115, 115, 76, 111, 111, 107, 117, 112, 69, 114, 114, 111, 114]) 130), (.type "ProcessLookupError")⟩, ⟨PyData.keyHash P (cs [84, 105, 109, 101, 111, 117, 116, 69, 114, 114, 111, 114]), (.str (cs [84, 105, 109, 101, 111, 117, 116, 69, 114, 114, 111, 114]) 131), (.type "TimeoutError")⟩, ⟨PyData.keyHash P (cs [73, 110, 100, 101, 110, 116, 97, 116, 105, 111, 110, 69, 114, 114, 111, 114]), (.str (cs [73, 110, 100, 101, 110, 116, 97, 116, 105, 111, 110, 69, 114, 114, 111, 114]) 132), (.type "IndentationError")⟩, ⟨PyData.keyHash P (cs [95, 73, 110, 99, 111, 109, 112, 108, 101, 116, 101, 73, 110, 112, 117, 116, 69, 114, 114, 111, 114]), (.str (cs [95, 73, 110, 99, 111, 109, 112, 108, 101, 116, 101, 73, 110, 112, 117, 116, 69, 114, 114, 111, 114]) 133), (.type "_IncompleteInputError")⟩, ⟨PyData.keyHash P (cs [73, 110, 100, 101, 120, 69, 114, 114, 111, 114]), (.str (cs [73, 110, 100, 101, 120, 69, 114, 114, 111, 114]) 134), (.type "IndexError")⟩, ⟨PyData.keyHash P (cs [75, 101, 121, 69, 114, 114, 111, 114]), (.str (cs [75, 101, 121, 69, 114, 114, 111, 114]) 135), (.type "KeyError")⟩, ⟨PyData.keyHash P (cs [77, 111, 100, 117, 108, 101, 78, 111, 116, 70, 111, 117, 110, 100, 69, 114, 114, 111, 114]), (.str (cs [77, 111, 100, 117, 108, 101, 78, 111, 116, 70, 111, 117, 110, 100, 69, 114, 114, 111, 114]) 136), (.type "ModuleNotFoundError")⟩, ⟨PyData.keyHash P (cs [78, 111, 116, 73, 109, 112, 108, 101, 109, 101, 110, 116, 101, 100, 69, 114, 114, 111, 114]), (.str (cs [78, 111, 116, 73, 109, 112, 108, 101, 109, 101, 110, 116, 101, 100, 69, 114, 114, 111, 114]) 137), (.type "NotImplementedError")⟩, ⟨PyData.keyHash P (cs [80, 121, 116, 104, 111, 110, 70, 105, 110, 97, 108, 105, 122, 97, 116, 105, 111, 110, 69, 114, 114, 111, 114]), (.str (cs [80, 121, 116, 104, 111, 110, 70, 105, 110, 97, 108, 105, 122, 97, 116, 105, 111, 110, 69, 114, 114, 111, 114]) 138), (.type "PythonFinalizationError")⟩, ⟨PyData.keyHash P (cs [82, 101, 99, 117, 114, 115, 105, 111, 110, 69, 114, 114, 111, 114]), (.str (cs [82, 101, 99, 117, 114, 115, 105, 111, 110, 69, 114, 114, 111, 114]) 139), (.type "RecursionError")⟩, ⟨PyData.keyHash P (cs [85, 110, 98, 111, 117, 110, 100, 76, 111, 99, 97, 108, 69, 114, 114, 111, 114]), (.str (cs [85, 110, 98, 111, 117, 110, 100, 76, 111, 99, 97, 108, 69, 114, 114, 111, 114]) 140), (.type "UnboundLocalError")⟩, ⟨PyData.keyHash P (cs [85, 110, 105, 99, 111, 100, 101, 69, 114, 114, 111, 114]), (.str (cs [85, 110, 105, 99, 111, 100, 101, 69, 114, 114, 111, 114]) 141), (.type "UnicodeError")⟩, ⟨PyData.keyHash P (cs [66, 114, 111, 107, 101, 110, 80, 105, 112, 101, 69, 114, 114, 111, 114]), (.str (cs [66, 114, 111, 107, 101, 110, 80, 105, 112, 101, 69, 114, 114, 111, 114]) 142), (.type "BrokenPipeError")⟩, ⟨PyData.keyHash P (cs [67, 111, 110, 110, 101, 99, 116, 105, 111, 110, 65, 98, 111, 114, 116, 101, 100, 69, 114, 114, 111, 114]), (.str (cs [67, 111, 110, 110, 101, 99, 116, 105, 111, 110, 65, 98, 111, 114, 116, 101, 100, 69, 114, 114, 111, 114]) 143), (.type "ConnectionAbortedError")⟩, ⟨PyData.keyHash P (cs [67, 111, 110, 110, 101, 99, 116, 105, 111, 110, 82, 101, 102, 117, 115, 101, 100, 69, 114, 114, 111, 114]), (.str (cs [67, 111, 110, 110, 101, 99, 116, 105, 111, 110, 82, 101, 102, 117, 115, 101, 100, 69, 114, 114, 111, 114]) 144), (.type "ConnectionRefusedError")⟩, ⟨PyData.keyHash P (cs [67, 111, 110, 110, 101, 99, 116, 105, 111, 110, 82, 101, 115, 101, 116, 69, 114, 114, 111, 114]), (.str (cs [67, 111, 110, 110, 101, 99, 116, 105, 111, 110, 82, 101, 115, 101, 116, 69, 114, 114, 111, 114]) 145), (.type "ConnectionResetError")⟩, ⟨PyData.keyHash P (cs [84, 97, 98, 69, 114, 114, 111, 114]), (.str (cs [84, 97, 98, 69, 114, 114, 111, 114]) 146), (.type "TabError")⟩, ⟨PyData.keyHash P (cs [85, 110, 105, 99, 111, 100, 101, 68, 101, 99, 111, 100, 101, 69, 114, 114, 111, 114]), (.str (cs [85, 110, 105, 99, 111, 100, 101, 68, 101, 99, 111, 100, 101, 69, 114, 114, 111, 114]) 147), (.type "UnicodeDecodeError")⟩, ⟨PyData.keyHash P (cs [85, 110, 105, 99, 111, 100, 101, 69, 110, 99, 111, 100, 101, 69, 114, 114, 111, 114]), (.str (cs [85, 110, 105, 99, 111, 100, 101, 69, 110, 99, 111, 100, 101, 69, 114, 114, 111, 114]) 148), (.type "UnicodeEncodeError")⟩, ⟨PyData.keyHash P (cs [85, 110, 105, 99, 111, 100, 101, 84, 114, 97, 110, 115, 108, 97, 116, 101, 69, 114, 114, 111, 114]), (.str (cs [85, 110, 105, 99, 111, 100, 101, 84, 114, 97, 110, 115, 108, 97, 116, 101, 69, 114, 114, 111, 114]) 149), (.type "UnicodeTranslateError")⟩, ⟨PyData.keyHash P (cs [69, 120, 99, 101, 112, 116, 105, 111, 110, 71, 114, 111, 117, 112]), (.str (cs [69, 120, 99, 101, 112, 116, 105, 111, 110, 71, 114, 111, 117, 112]) 150), (.type "ExceptionGroup")⟩, ⟨PyData.keyHash P (cs [69, 110, 118, 105, 114, 111, 110, 109, 101, 110, 116, 69, 114, 114, 111, 114]), (.str (cs [69, 110, 118, 105, 114, 111, 110, 109, 101, 110, 116, 69, 114, 114, 111, 114]) 151), (.type "OSError")⟩, ⟨PyData.keyHash P (cs [73, 79, 69, 114, 114, 111, 114]), (.str (cs [73, 79, 69, 114, 114, 111, 114]) 152), (.type "OSError")⟩, ⟨PyData.keyHash P (cs [111, 112, 101, 110]), (.str (cs [111, 112, 101, 110]) 153), (.builtin "open")⟩, ⟨PyData.keyHash P (cs [113, 117, 105, 116]), (.str (cs [113, 117, 105, 116]) 154), (.builtin "builtins.quit#opaque")⟩, ⟨PyData.keyHash P (cs [101, 120, 105, 116]), (.str (cs [101, 120, 105, 116]) 155), (.builtin "builtins.exit#opaque")⟩, ⟨PyData.keyHash P (cs [99, 111, 112, 121, 114, 105, 103, 104, 116]), (.str (cs [99, 111, 112, 121, 114, 105, 103, 104, 116]) 156), (.builtin "builtins.copyright#opaque")⟩, ⟨PyData.keyHash P (cs [99, 114, 101, 100, 105, 116, 115]), (.str (cs [99, 114, 101, 100, 105, 116, 115]) 157), (.builtin "builtins.credits#opaque")⟩, ⟨PyData.keyHash P (cs [108, 105, 99, 101, 110, 115, 101]), (.str (cs [108, 105, 99, 101, 110, 115, 101]) 158), (.builtin "builtins.license#opaque")⟩, ⟨PyData.keyHash P (cs [104, 101, 108, 112]), (.str (cs [104, 101, 108, 112]) 159), (.builtin "builtins.help#opaque")⟩]) 159), (Array.mk [])⟩
noncomputable def z1 (P : Params) : Obj := ⟨(.type "dict"), none, (.dict (Array.mk [⟨PyData.keyHash P (cs [98, 117, 105, 108, 116, 105, 110, 115]), (.str (cs [98, 117, 105, 108, 116, 105, 110, 115]) 162), (.ref 4)⟩, ⟨PyData.keyHash P (cs [95, 95, 109, 97, 105, 110, 95, 95]), (.str (cs [95, 95, 109, 97, 105, 110, 95, 95]) 163), (.ref 5)⟩, ⟨PyData.keyHash P (cs [95, 115, 114, 101]), (.str (cs [95, 115, 114, 101]) 244), (.ref 12)⟩]) 3), (Array.mk [])⟩
noncomputable def z2 (P : Params) : Obj := ⟨.none, none, (.dict (Array.mk [⟨PyData.keyHash P (cs [105, 109, 112, 111, 114, 116, 46, 108, 111, 97, 100, 101, 100, 46, 95, 115, 114, 101]), (.str (cs [105, 109, 112, 111, 114, 116, 46, 108, 111, 97, 100, 101, 100, 46, 95, 115, 114, 101]) 183), (.bool true)⟩, ⟨PyData.keyHash P (cs [99, 108, 97, 115, 115, 46, 95, 102, 114, 111, 122, 101, 110, 95, 105, 109, 112, 111, 114, 116, 108, 105, 98, 46, 66, 117, 105, 108, 116, 105, 110, 73, 109, 112, 111, 114, 116, 101, 114]), (.str (cs [99, 108, 97, 115, 115, 46, 95, 102, 114, 111, 122, 101, 110, 95, 105, 109, 112, 111, 114, 116, 108, 105, 98, 46, 66, 117, 105, 108, 116, 105, 110, 73, 109, 112, 111, 114, 116, 101, 114]) 185), (.ref 14)⟩, ⟨PyData.keyHash P (cs [119, 97, 116, 99, 104, 101, 100, 46, 105, 109, 112, 111, 114, 116]), (.str (cs [119, 97, 116, 99, 104, 101, 100, 46, 105, 109, 112, 111, 114, 116]) 206), (.ref 18)⟩, ⟨PyData.keyHash P (cs [99, 108, 97, 115, 115, 46, 95, 102, 114, 111, 122, 101, 110, 95, 105, 109, 112, 111, 114, 116, 108, 105, 98, 46, 77, 111, 100, 117, 108, 101, 83, 112, 101, 99]), (.str (cs [99, 108, 97, 115, 115, 46, 95, 102, 114, 111, 122, 101, 110, 95, 105, 109, 112, 111, 114, 116, 108, 105, 98, 46, 77, 111, 100, 117, 108, 101, 83, 112, 101, 99]) 216), (.ref 22)⟩, ⟨PyData.keyHash P (cs [115, 121, 115, 46, 109, 111, 100, 117, 108, 101, 115, 46, 98, 111, 111, 107, 101, 100, 45, 101, 112, 111, 99, 104]), (.str (cs [115, 121, 115, 46, 109, 111, 100, 117, 108, 101, 115, 46, 98, 111, 111, 107, 101, 100, 45, 101, 112, 111, 99, 104]) 245), (.int 3 0)⟩, ⟨PyData.keyHash P (cs [105, 109, 112, 111, 114, 116, 46, 108, 97, 116, 101, 114, 45, 108, 97, 105, 100, 46, 95, 115, 114, 101]), (.str (cs [105, 109, 112, 111, 114, 116, 46, 108, 97, 116, 101, 114, 45, 108, 97, 105, 100, 46, 95, 115, 114, 101]) 270), (.bool true)⟩, ⟨PyData.keyHash P (cs [119, 97, 116, 99, 104, 101, 100, 46, 108, 105, 98, 114, 97, 114, 121]), (.str (cs [119, 97, 116, 99, 104, 101, 100, 46, 108, 105, 98, 114, 97, 114, 121]) 272), (.ref 27)⟩, ⟨PyData.keyHash P (cs [119, 97, 116, 99, 104, 101, 100, 46, 108, 105, 98, 114, 97, 114, 121, 45, 111, 98, 106, 101, 99, 116, 115]), (.str (cs [119, 97, 116, 99, 104, 101, 100, 46, 108, 105, 98, 114, 97, 114, 121, 45, 111, 98, 106, 101, 99, 116, 115]) 0), (.str (cs [12]) 0)⟩, ⟨PyData.keyHash P (cs [119, 97, 116, 99, 104, 101, 100, 46, 108, 105, 98, 114, 97, 114, 121, 45, 100, 101, 101, 112, 46, 95, 115, 114, 101]), (.str (cs [119, 97, 116, 99, 104, 101, 100, 46, 108, 105, 98, 114, 97, 114, 121, 45, 100, 101, 101, 112, 46, 95, 115, 114, 101]) 273), (.str (cs [4, 0, 0, 11, 4, 0, 0, 11, 4, 0, 0, 3, 4, 0, 0, 11, 8, 4, 100, 105, 99, 116, 2]) 0)⟩]) 9), (Array.mk [])⟩
noncomputable def z3 (P : Params) : Obj := ⟨(.type "dict"), none, (.dict (Array.mk [⟨PyData.keyHash P (cs [95, 95, 110, 97, 109, 101, 95, 95]), (.str (cs [95, 95, 110, 97, 109, 101, 95, 95]) 165), (.str (cs [95, 95, 109, 97, 105, 110, 95, 95]) 164)⟩, ⟨PyData.keyHash P (cs [95, 95, 100, 111, 99, 95, 95]), (.str (cs [95, 95, 100, 111, 99, 95, 95]) 166), .none⟩, ⟨PyData.keyHash P (cs [95, 95, 112, 97, 99, 107, 97, 103, 101, 95, 95]), (.str (cs [95, 95, 112, 97, 99, 107, 97, 103, 101, 95, 95]) 167), .none⟩, ⟨PyData.keyHash P (cs [95, 95, 108, 111, 97, 100, 101, 114, 95, 95]), (.str (cs [95, 95, 108, 111, 97, 100, 101, 114, 95, 95]) 168), (.builtin "__main__.__loader__#opaque")⟩, ⟨PyData.keyHash P (cs [95, 95, 115, 112, 101, 99, 95, 95]), (.str (cs [95, 95, 115, 112, 101, 99, 95, 95]) 169), .none⟩, ⟨PyData.keyHash P (cs [95, 95, 97, 110, 110, 111, 116, 97, 116, 105, 111, 110, 115, 95, 95]), (.str (cs [95, 95, 97, 110, 110, 111, 116, 97, 116, 105, 111, 110, 115, 95, 95]) 170), (.ref 6)⟩, ⟨PyData.keyHash P (cs [95, 95, 98, 117, 105, 108, 116, 105, 110, 115, 95, 95]), (.str (cs [95, 95, 98, 117, 105, 108, 116, 105, 110, 115, 95, 95]) 171), (.ref 4)⟩, ⟨PyData.keyHash P (cs [95, 95, 102, 105, 108, 101, 95, 95]), (.str (cs [95, 95, 102, 105, 108, 101, 95, 95]) 173), (.str (cs [47, 99, 108, 97, 105, 109, 47, 99, 117, 116, 46, 112, 121]) 172)⟩, ⟨PyData.keyHash P (cs [95, 95, 99, 97, 99, 104, 101, 100, 95, 95]), (.str (cs [95, 95, 99, 97, 99, 104, 101, 100, 95, 95]) 174), .none⟩, ⟨PyData.keyHash P (cs [95, 115, 114, 101]), (.str (cs [95, 115, 114, 101]) 275), (.ref 12)⟩]) 10), (Array.mk [])⟩
noncomputable def z4 (P : Params) : Obj := ⟨(.type "module"), (some 0), .plain, (Array.mk [])⟩
noncomputable def z5 (P : Params) : Obj := ⟨(.type "module"), (some 3), .plain, (Array.mk [])⟩
noncomputable def z6 (P : Params) : Obj := ⟨(.type "dict"), none, (.dict (Array.mk []) 0), (Array.mk [])⟩
noncomputable def z7 (P : Params) : Obj := ⟨(.type "tuple"), none, (.seq (Array.mk []) 0), (Array.mk [])⟩
noncomputable def z8 (P : Params) : Obj := ⟨.none, none, (.fields (Array.mk [])), (Array.mk [])⟩
noncomputable def z9 (P : Params) : Obj := ⟨(.type "code"), none, (.fields (Array.mk [(.str (cs [60, 109, 111, 100, 117, 108, 101, 62]) 176), (.str (cs [60, 109, 111, 100, 117, 108, 101, 62]) 177), (.str (cs [47, 99, 108, 97, 105, 109, 47, 99, 117, 116, 46, 112, 121]) 178), (.int 1 0), (.int 0 0), (.int 0 0), (.int 0 0), (.int 0 0), (.ref 7), (.bool false), (.int 175 0), (.ref 8), .none, .none, .none, .none, (.int 179 0), (.int 1 0), (.str (cs [47, 99, 108, 97, 105, 109, 47, 99, 117, 116, 46, 112, 121]) 180)])), (Array.mk [])⟩
noncomputable def z10 (P : Params) : Obj := ⟨(.type "frame"), none, .plain, (Array.mk [(some (.ref 9)), (some (.ref 3)), (some (.ref 3)), none, (some (.str (cs [95, 95, 109, 97, 105, 110, 95, 95]) 164)), none, (some (.ref 0))])⟩
noncomputable def z11 (P : Params) : Obj := ⟨(.type "dict"), none, (.dict (Array.mk [⟨PyData.keyHash P (cs [95, 95, 110, 97, 109, 101, 95, 95]), (.str (cs [95, 95, 110, 97, 109, 101, 95, 95]) 247), (.str (cs [95, 115, 114, 101]) 246)⟩, ⟨PyData.keyHash P (cs [95, 95, 100, 111, 99, 95, 95]), (.str (cs [95, 95, 100, 111, 99, 95, 95]) 248), .none⟩, ⟨PyData.keyHash P (cs [95, 95, 112, 97, 99, 107, 97, 103, 101, 95, 95]), (.str (cs [95, 95, 112, 97, 99, 107, 97, 103, 101, 95, 95]) 250), (.str (cs []) 249)⟩, ⟨PyData.keyHash P (cs [95, 95, 108, 111, 97, 100, 101, 114, 95, 95]), (.str (cs [95, 95, 108, 111, 97, 100, 101, 114, 95, 95]) 251), (.builtin "off-the-table:_sre.__loader__:shared#opaque")⟩, ⟨PyData.keyHash P (cs [95, 95, 115, 112, 101, 99, 95, 95]), (.str (cs [95, 95, 115, 112, 101, 99, 95, 95]) 252), (.builtin "off-the-table:_sre.__spec__:shared#opaque")⟩, ⟨PyData.keyHash P (cs [99, 111, 109, 112, 105, 108, 101]), (.str (cs [99, 111, 109, 112, 105, 108, 101]) 253), (.builtin "_sre.compile")⟩, ⟨PyData.keyHash P (cs [116, 101, 109, 112, 108, 97, 116, 101]), (.str (cs [116, 101, 109, 112, 108, 97, 116, 101]) 254), (.builtin "off-the-table:_sre.template:shared#opaque")⟩, ⟨PyData.keyHash P (cs [103, 101, 116, 99, 111, 100, 101, 115, 105, 122, 101]), (.str (cs [103, 101, 116, 99, 111, 100, 101, 115, 105, 122, 101]) 255), (.builtin "off-the-table:_sre.getcodesize:shared#opaque")⟩, ⟨PyData.keyHash P (cs [97, 115, 99, 105, 105, 95, 105, 115, 99, 97, 115, 101, 100]), (.str (cs [97, 115, 99, 105, 105, 95, 105, 115, 99, 97, 115, 101, 100]) 256), (.builtin "off-the-table:_sre.ascii_iscased:shared#opaque")⟩, ⟨PyData.keyHash P (cs [117, 110, 105, 99, 111, 100, 101, 95, 105, 115, 99, 97, 115, 101, 100]), (.str (cs [117, 110, 105, 99, 111, 100, 101, 95, 105, 115, 99, 97, 115, 101, 100]) 257), (.builtin "off-the-table:_sre.unicode_iscased:shared#opaque")⟩, ⟨PyData.keyHash P (cs [97, 115, 99, 105, 105, 95, 116, 111, 108, 111, 119, 101, 114]), (.str (cs [97, 115, 99, 105, 105, 95, 116, 111, 108, 111, 119, 101, 114]) 258), (.builtin "off-the-table:_sre.ascii_tolower:shared#opaque")⟩, ⟨PyData.keyHash P (cs [117, 110, 105, 99, 111, 100, 101, 95, 116, 111, 108, 111, 119, 101, 114]), (.str (cs [117, 110, 105, 99, 111, 100, 101, 95, 116, 111, 108, 111, 119, 101, 114]) 259), (.builtin "off-the-table:_sre.unicode_tolower:shared#opaque")⟩, ⟨PyData.keyHash P (cs [77, 65, 71, 73, 67]), (.str (cs [77, 65, 71, 73, 67]) 261), (.int 20230612 260)⟩, ⟨PyData.keyHash P (cs [67, 79, 68, 69, 83, 73, 90, 69]), (.str (cs [67, 79, 68, 69, 83, 73, 90, 69]) 263), (.int 4 262)⟩, ⟨PyData.keyHash P (cs [77, 65, 88, 82, 69, 80, 69, 65, 84]), (.str (cs [77, 65, 88, 82, 69, 80, 69, 65, 84]) 265), (.int 4294967295 264)⟩, ⟨PyData.keyHash P (cs [77, 65, 88, 71, 82, 79, 85, 80, 83]), (.str (cs [77, 65, 88, 71, 82, 79, 85, 80, 83]) 267), (.int 1073741823 266)⟩, ⟨PyData.keyHash P (cs [99, 111, 112, 121, 114, 105, 103, 104, 116]), (.str (cs [99, 111, 112, 121, 114, 105, 103, 104, 116]) 269), (.str (cs [32, 83, 82, 69, 32, 50, 46, 50, 46, 50, 32, 67, 111, 112, 121, 114, 105, 103, 104, 116, 32, 40, 99, 41, 32, 49, 57, 57, 55, 45, 50, 48, 48, 50, 32, 98, 121, 32, 83, 101, 99, 114, 101, 116, 32, 76, 97, 98, 115, 32, 65, 66, 32]) 268)⟩]) 17), (Array.mk [])⟩
noncomputable def z12 (P : Params) : Obj := ⟨(.type "module"), (some 11), .plain, (Array.mk [])⟩
noncomputable def z13 (P : Params) : Obj := ⟨(.type "dict"), none, (.dict (Array.mk [⟨PyData.keyHash P (cs [95, 95, 109, 111, 100, 117, 108, 101, 95, 95]), (.str (cs [95, 95, 109, 111, 100, 117, 108, 101, 95, 95]) 189), (.str (cs [95, 102, 114, 111, 122, 101, 110, 95, 105, 109, 112, 111, 114, 116, 108, 105, 98]) 186)⟩, ⟨PyData.keyHash P (cs [95, 95, 102, 105, 114, 115, 116, 108, 105, 110, 101, 110, 111, 95, 95]), (.str (cs [95, 95, 102, 105, 114, 115, 116, 108, 105, 110, 101, 110, 111, 95, 95]) 190), (.int 971 187)⟩, ⟨PyData.keyHash P (cs [95, 95, 100, 111, 99, 95, 95]), (.str (cs [95, 95, 100, 111, 99, 95, 95]) 191), (.builtin "_frozen_importlib.BuiltinImporter.__doc__:str#opaque")⟩, ⟨PyData.keyHash P (cs [95, 79, 82, 73, 71, 73, 78]), (.str (cs [95, 79, 82, 73, 71, 73, 78]) 192), (.str (cs [98, 117, 105, 108, 116, 45, 105, 110]) 188)⟩, ⟨PyData.keyHash P (cs [102, 105, 110, 100, 95, 115, 112, 101, 99]), (.str (cs [102, 105, 110, 100, 95, 115, 112, 101, 99]) 193), (.builtin "_frozen_importlib.BuiltinImporter.find_spec#opaque")⟩, ⟨PyData.keyHash P (cs [99, 114, 101, 97, 116, 101, 95, 109, 111, 100, 117, 108, 101]), (.str (cs [99, 114, 101, 97, 116, 101, 95, 109, 111, 100, 117, 108, 101]) 194), (.builtin "_frozen_importlib.BuiltinImporter.create_module#opaque")⟩, ⟨PyData.keyHash P (cs [101, 120, 101, 99, 95, 109, 111, 100, 117, 108, 101]), (.str (cs [101, 120, 101, 99, 95, 109, 111, 100, 117, 108, 101]) 195), (.builtin "_frozen_importlib.BuiltinImporter.exec_module#opaque")⟩, ⟨PyData.keyHash P (cs [103, 101, 116, 95, 99, 111, 100, 101]), (.str (cs [103, 101, 116, 95, 99, 111, 100, 101]) 196), (.builtin "_frozen_importlib.BuiltinImporter.get_code#opaque")⟩, ⟨PyData.keyHash P (cs [103, 101, 116, 95, 115, 111, 117, 114, 99, 101]), (.str (cs [103, 101, 116, 95, 115, 111, 117, 114, 99, 101]) 197), (.builtin "_frozen_importlib.BuiltinImporter.get_source#opaque")⟩, ⟨PyData.keyHash P (cs [105, 115, 95, 112, 97, 99, 107, 97, 103, 101]), (.str (cs [105, 115, 95, 112, 97, 99, 107, 97, 103, 101]) 198), (.builtin "_frozen_importlib.BuiltinImporter.is_package#opaque")⟩, ⟨PyData.keyHash P (cs [108, 111, 97, 100, 95, 109, 111, 100, 117, 108, 101]), (.str (cs [108, 111, 97, 100, 95, 109, 111, 100, 117, 108, 101]) 199), (.builtin "_frozen_importlib.BuiltinImporter.load_module#opaque")⟩, ⟨PyData.keyHash P (cs [95, 95, 115, 116, 97, 116, 105, 99, 95, 97, 116, 116, 114, 105, 98, 117, 116, 101, 115, 95, 95]), (.str (cs [95, 95, 115, 116, 97, 116, 105, 99, 95, 97, 116, 116, 114, 105, 98, 117, 116, 101, 115, 95, 95]) 200), (.ref 15)⟩, ⟨PyData.keyHash P (cs [95, 95, 100, 105, 99, 116, 95, 95]), (.str (cs [95, 95, 100, 105, 99, 116, 95, 95]) 202), (.ref 16)⟩, ⟨PyData.keyHash P (cs [95, 95, 119, 101, 97, 107, 114, 101, 102, 95, 95]), (.str (cs [95, 95, 119, 101, 97, 107, 114, 101, 102, 95, 95]) 204), (.ref 17)⟩]) 14), (Array.mk [])⟩
noncomputable def z14 (P : Params) : Obj := ⟨(.type "type"), none, (.cls ⟨(cs [66, 117, 105, 108, 116, 105, 110, 73, 109, 112, 111, 114, 116, 101, 114]), [(.type "object")], [(.ref 14), (.type "object")], 13, (cs [66, 117, 105, 108, 116, 105, 110, 73, 109, 112, 111, 114, 116, 101, 114]), true, [], [], false, none, false⟩), (Array.mk [])⟩
noncomputable def z15 (P : Params) : Obj := ⟨(.type "tuple"), none, (.seq (Array.mk []) 0), (Array.mk [])⟩
noncomputable def z16 (P : Params) : Obj := ⟨(.type "getset_descriptor"), none, (.fields (Array.mk [(.str (cs [95, 95, 100, 105, 99, 116, 95, 95]) 201), (.ref 14), (.builtin "function.__dict__"), (.builtin "function.__dict__#set")])), (Array.mk [])⟩
noncomputable def z17 (P : Params) : Obj := ⟨(.type "getset_descriptor"), none, (.fields (Array.mk [(.str (cs [95, 95, 119, 101, 97, 107, 114, 101, 102, 95, 95]) 203), (.ref 14), (.builtin "ExceptionGroup.__weakref__"), .none])), (Array.mk [])⟩
noncomputable def z18 (P : Params) : Obj := ⟨.none, none, (.seq (Array.mk [(.int 13 0), (.str (cs [6, 189, 10, 95, 95, 109, 111, 100, 117, 108, 101, 95, 95, 6, 186, 17, 95, 102, 114, 111, 122, 101, 110, 95, 105, 109, 112, 111, 114, 116, 108, 105, 98, 6, 190, 15, 95, 95, 102, 105, 114, 115, 116, 108, 105, 110, 101, 110, 111, 95, 95, 4, 187, 0, 971, 6, 191, 7, 95, 95, 100, 111, 99, 95, 95, 9, 52, 95, 102, 114, 111, 122, 101, 110, 95, 105, 109, 112, 111, 114, 116, 108, 105, 98, 46, 66, 117, 105, 108, 116, 105, 110, 73, 109, 112, 111, 114, 116, 101, 114, 46, 95, 95, 100, 111, 99, 95, 95, 58, 115, 116, 114, 35, 111, 112, 97, 113, 117, 101, 6, 192, 7, 95, 79, 82, 73, 71, 73, 78, 6, 188, 8, 98, 117, 105, 108, 116, 45, 105, 110, 6, 193, 9, 102, 105, 110, 100, 95, 115, 112, 101, 99, 9, 50, 95, 102, 114, 111, 122, 101, 110, 95, 105, 109, 112, 111, 114, 116, 108, 105, 98, 46, 66, 117, 105, 108, 116, 105, 110, 73, 109, 112, 111, 114, 116, 101, 114, 46, 102, 105, 110, 100, 95, 115, 112, 101, 99, 35, 111, 112, 97, 113, 117, 101, 6, 194, 13, 99, 114, 101, 97, 116, 101, 95, 109, 111, 100, 117, 108, 101, 9, 54, 95, 102, 114, 111, 122, 101, 110, 95, 105, 109, 112, 111, 114, 116, 108, 105, 98, 46, 66, 117, 105, 108, 116, 105, 110, 73, 109, 112, 111, 114, 116, 101, 114, 46, 99, 114, 101, 97, 116, 101, 95, 109, 111, 100, 117, 108, 101, 35, 111, 112, 97, 113, 117, 101, 6, 195, 11, 101, 120, 101, 99, 95, 109, 111, 100, 117, 108, 101, 9, 52, 95, 102, 114, 111, 122, 101, 110, 95, 105, 109, 112, 111, 114, 116, 108, 105, 98, 46, 66, 117, 105, 108, 116, 105, 110, 73, 109, 112, 111, 114, 116, 101, 114, 46, 101, 120, 101, 99, 95, 109, 111, 100, 117, 108, 101, 35, 111, 112, 97, 113, 117, 101, 6, 196, 8, 103, 101, 116, 95, 99, 111, 100, 101, 9, 49, 95, 102, 114, 111, 122, 101, 110, 95, 105, 109, 112, 111, 114, 116, 108, 105, 98, 46, 66, 117, 105, 108, 116, 105, 110, 73, 109, 112, 111, 114, 116, 101, 114, 46, 103, 101, 116, 95, 99, 111, 100, 101, 35, 111, 112, 97, 113, 117, 101, 6, 197, 10, 103, 101, 116, 95, 115, 111, 117, 114, 99, 101, 9, 51, 95, 102, 114, 111, 122, 101, 110, 95, 105, 109, 112, 111, 114, 116, 108, 105, 98, 46, 66, 117, 105, 108, 116, 105, 110, 73, 109, 112, 111, 114, 116, 101, 114, 46, 103, 101, 116, 95, 115, 111, 117, 114, 99, 101, 35, 111, 112, 97, 113, 117, 101, 6, 198, 10, 105, 115, 95, 112, 97, 99, 107, 97, 103, 101, 9, 51, 95, 102, 114, 111, 122, 101, 110, 95, 105, 109, 112, 111, 114, 116, 108, 105, 98, 46, 66, 117, 105, 108, 116, 105, 110, 73, 109, 112, 111, 114, 116, 101, 114, 46, 105, 115, 95, 112, 97, 99, 107, 97, 103, 101, 35, 111, 112, 97, 113, 117, 101, 6, 199, 11, 108, 111, 97, 100, 95, 109, 111, 100, 117, 108, 101, 9, 52, 95, 102, 114, 111, 122, 101, 110, 95, 105, 109, 112, 111, 114, 116, 108, 105, 98, 46, 66, 117, 105, 108, 116, 105, 110, 73, 109, 112, 111, 114, 116, 101, 114, 46, 108, 111, 97, 100, 95, 109, 111, 100, 117, 108, 101, 35, 111, 112, 97, 113, 117, 101, 6, 200, 21, 95, 95, 115, 116, 97, 116, 105, 99, 95, 97, 116, 116, 114, 105, 98, 117, 116, 101, 115, 95, 95, 4, 0, 0, 15, 6, 202, 8, 95, 95, 100, 105, 99, 116, 95, 95, 4, 0, 0, 16, 6, 204, 11, 95, 95, 119, 101, 97, 107, 114, 101, 102, 95, 95, 4, 0, 0, 17]) 0), (.bool true), (.bool true), (.str (cs []) 205), (.int 21 0), (.str (cs [6, 227, 10, 95, 95, 109, 111, 100, 117, 108, 101, 95, 95, 6, 217, 17, 95, 102, 114, 111, 122, 101, 110, 95, 105, 109, 112, 111, 114, 116, 108, 105, 98, 6, 228, 15, 95, 95, 102, 105, 114, 115, 116, 108, 105, 110, 101, 110, 111, 95, 95, 4, 218, 0, 562, 6, 229, 7, 95, 95, 100, 111, 99, 95, 95, 9, 47, 95, 102, 114, 111, 122, 101, 110, 95, 105, 109, 112, 111, 114, 116, 108, 105, 98, 46, 77, 111, 100, 117, 108, 101, 83, 112, 101, 99, 46, 95, 95, 100, 111, 99, 95, 95, 58, 115, 116, 114, 35, 111, 112, 97, 113, 117, 101, 6, 230, 8, 95, 95, 105, 110, 105, 116, 95, 95, 9, 44, 95, 102, 114, 111, 122, 101, 110, 95, 105, 109, 112, 111, 114, 116, 108, 105, 98, 46, 77, 111, 100, 117, 108, 101, 83, 112, 101, 99, 46, 95, 95, 105, 110, 105, 116, 95, 95, 35, 111, 112, 97, 113, 117, 101, 6, 231, 8, 95, 95, 114, 101, 112, 114, 95, 95, 9, 44, 95, 102, 114, 111, 122, 101, 110, 95, 105, 109, 112, 111, 114, 116, 108, 105, 98, 46, 77, 111, 100, 117, 108, 101, 83, 112, 101, 99, 46, 95, 95, 114, 101, 112, 114, 95, 95, 35, 111, 112, 97, 113, 117, 101, 6, 232, 6, 95, 95, 101, 113, 95, 95, 9, 42, 95, 102, 114, 111, 122, 101, 110, 95, 105, 109, 112, 111, 114, 116, 108, 105, 98, 46, 77, 111, 100, 117, 108, 101, 83, 112, 101, 99, 46, 95, 95, 101, 113, 95, 95, 35, 111, 112, 97, 113, 117, 101, 6, 233, 6, 99, 97, 99, 104, 101, 100, 9, 42, 95, 102, 114, 111, 122, 101, 110, 95, 105, 109, 112, 111, 114, 116, 108, 105, 98, 46, 77, 111, 100, 117, 108, 101, 83, 112, 101, 99, 46, 99, 97, 99, 104, 101, 100, 35, 111, 112, 97, 113, 117, 101, 6, 234, 6, 112, 97, 114, 101, 110, 116, 9, 42, 95, 102, 114, 111, 122, 101, 110, 95, 105, 109, 112, 111, 114, 116, 108, 105, 98, 46, 77, 111, 100, 117, 108, 101, 83, 112, 101, 99, 46, 112, 97, 114, 101, 110, 116, 35, 111, 112, 97, 113, 117, 101, 6, 235, 12, 104, 97, 115, 95, 108, 111, 99, 97, 116, 105, 111, 110, 9, 48, 95, 102, 114, 111, 122, 101, 110, 95, 105, 109, 112, 111, 114, 116, 108, 105, 98, 46, 77, 111, 100, 117, 108, 101, 83, 112, 101, 99, 46, 104, 97, 115, 95, 108, 111, 99, 97, 116, 105, 111, 110, 35, 111, 112, 97, 113, 117, 101, 6, 236, 21, 95, 95, 115, 116, 97, 116, 105, 99, 95, 97, 116, 116, 114, 105, 98, 117, 116, 101, 115, 95, 95, 4, 0, 0, 23, 6, 238, 8, 95, 95, 100, 105, 99, 116, 95, 95, 4, 0, 0, 24, 6, 240, 11, 95, 95, 119, 101, 97, 107, 114, 101, 102, 95, 95, 4, 0, 0, 25, 6, 241, 8, 95, 95, 104, 97, 115, 104, 95, 95, 0]) 0), (.bool true), (.bool true), (.str (cs []) 242)]) 1), (Array.mk [])⟩
noncomputable def z19 (P : Params) : Obj := ⟨(.type "list"), none, (.seq (Array.mk []) 0), (Array.mk [])⟩
noncomputable def z20 (P : Params) : Obj := ⟨(.type "dict"), none, (.dict (Array.mk [⟨PyData.keyHash P (cs [110, 97, 109, 101]), (.str (cs [110, 97, 109, 101]) 208), (.str (cs [95, 115, 114, 101]) 207)⟩, ⟨PyData.keyHash P (cs [108, 111, 97, 100, 101, 114]), (.str (cs [108, 111, 97, 100, 101, 114]) 209), (.ref 14)⟩, ⟨PyData.keyHash P (cs [111, 114, 105, 103, 105, 110]), (.str (cs [111, 114, 105, 103, 105, 110]) 210), (.str (cs [98, 117, 105, 108, 116, 45, 105, 110]) 184)⟩, ⟨PyData.keyHash P (cs [108, 111, 97, 100, 101, 114, 95, 115, 116, 97, 116, 101]), (.str (cs [108, 111, 97, 100, 101, 114, 95, 115, 116, 97, 116, 101]) 211), .none⟩, ⟨PyData.keyHash P (cs [115, 117, 98, 109, 111, 100, 117, 108, 101, 95, 115, 101, 97, 114, 99, 104, 95, 108, 111, 99, 97, 116, 105, 111, 110, 115]), (.str (cs [115, 117, 98, 109, 111, 100, 117, 108, 101, 95, 115, 101, 97, 114, 99, 104, 95, 108, 111, 99, 97, 116, 105, 111, 110, 115]) 212), .none⟩, ⟨PyData.keyHash P (cs [95, 117, 110, 105, 110, 105, 116, 105, 97, 108, 105, 122, 101, 100, 95, 115, 117, 98, 109, 111, 100, 117, 108, 101, 115]), (.str (cs [95, 117, 110, 105, 110, 105, 116, 105, 97, 108, 105, 122, 101, 100, 95, 115, 117, 98, 109, 111, 100, 117, 108, 101, 115]) 213), (.ref 19)⟩, ⟨PyData.keyHash P (cs [95, 115, 101, 116, 95, 102, 105, 108, 101, 97, 116, 116, 114]), (.str (cs [95, 115, 101, 116, 95, 102, 105, 108, 101, 97, 116, 116, 114]) 214), (.bool false)⟩, ⟨PyData.keyHash P (cs [95, 99, 97, 99, 104, 101, 100]), (.str (cs [95, 99, 97, 99, 104, 101, 100]) 215), .none⟩, ⟨PyData.keyHash P (cs [95, 105, 110, 105, 116, 105, 97, 108, 105, 122, 105, 110, 103]), (.str (cs [95, 105, 110, 105, 116, 105, 97, 108, 105, 122, 105, 110, 103]) 243), (.bool false)⟩]) 9), (Array.mk [])⟩
noncomputable def z21 (P : Params) : Obj := ⟨(.type "dict"), none, (.dict (Array.mk [⟨PyData.keyHash P (cs [95, 95, 109, 111, 100, 117, 108, 101, 95, 95]), (.str (cs [95, 95, 109, 111, 100, 117, 108, 101, 95, 95]) 227), (.str (cs [95, 102, 114, 111, 122, 101, 110, 95, 105, 109, 112, 111, 114, 116, 108, 105, 98]) 217)⟩, ⟨PyData.keyHash P (cs [95, 95, 102, 105, 114, 115, 116, 108, 105, 110, 101, 110, 111, 95, 95]), (.str (cs [95, 95, 102, 105, 114, 115, 116, 108, 105, 110, 101, 110, 111, 95, 95]) 228), (.int 562 218)⟩, ⟨PyData.keyHash P (cs [95, 95, 100, 111, 99, 95, 95]), (.str (cs [95, 95, 100, 111, 99, 95, 95]) 229), (.builtin "_frozen_importlib.ModuleSpec.__doc__:str#opaque")⟩, ⟨PyData.keyHash P (cs [95, 95, 105, 110, 105, 116, 95, 95]), (.str (cs [95, 95, 105, 110, 105, 116, 95, 95]) 230), (.builtin "_frozen_importlib.ModuleSpec.__init__#opaque")⟩, ⟨PyData.keyHash P (cs [95, 95, 114, 101, 112, 114, 95, 95]), (.str (cs [95, 95, 114, 101, 112, 114, 95, 95]) 231), (.builtin "_frozen_importlib.ModuleSpec.__repr__#opaque")⟩, ⟨PyData.keyHash P (cs [95, 95, 101, 113, 95, 95]), (.str (cs [95, 95, 101, 113, 95, 95]) 232), (.builtin "_frozen_importlib.ModuleSpec.__eq__#opaque")⟩, ⟨PyData.keyHash P (cs [99, 97, 99, 104, 101, 100]), (.str (cs [99, 97, 99, 104, 101, 100]) 233), (.builtin "_frozen_importlib.ModuleSpec.cached#opaque")⟩, ⟨PyData.keyHash P (cs [112, 97, 114, 101, 110, 116]), (.str (cs [112, 97, 114, 101, 110, 116]) 234), (.builtin "_frozen_importlib.ModuleSpec.parent#opaque")⟩, ⟨PyData.keyHash P (cs [104, 97, 115, 95, 108, 111, 99, 97, 116, 105, 111, 110]), (.str (cs [104, 97, 115, 95, 108, 111, 99, 97, 116, 105, 111, 110]) 235), (.builtin "_frozen_importlib.ModuleSpec.has_location#opaque")⟩, ⟨PyData.keyHash P (cs [95, 95, 115, 116, 97, 116, 105, 99, 95, 97, 116, 116, 114, 105, 98, 117, 116, 101, 115, 95, 95]), (.str (cs [95, 95, 115, 116, 97, 116, 105, 99, 95, 97, 116, 116, 114, 105, 98, 117, 116, 101, 115, 95, 95]) 236), (.ref 23)⟩, ⟨PyData.keyHash P (cs [95, 95, 100, 105, 99, 116, 95, 95]), (.str (cs [95, 95, 100, 105, 99, 116, 95, 95]) 238), (.ref 24)⟩, ⟨PyData.keyHash P (cs [95, 95, 119, 101, 97, 107, 114, 101, 102, 95, 95]), (.str (cs [95, 95, 119, 101, 97, 107, 114, 101, 102, 95, 95]) 240), (.ref 25)⟩, ⟨PyData.keyHash P (cs [95, 95, 104, 97, 115, 104, 95, 95]), (.str (cs [95, 95, 104, 97, 115, 104, 95, 95]) 241), .none⟩]) 13), (Array.mk [])⟩
noncomputable def z22 (P : Params) : Obj := ⟨(.type "type"), none, (.cls ⟨(cs [77, 111, 100, 117, 108, 101, 83, 112, 101, 99]), [(.type "object")], [(.ref 22), (.type "object")], 21, (cs [77, 111, 100, 117, 108, 101, 83, 112, 101, 99]), true, [], [], false, none, false⟩), (Array.mk [])⟩
noncomputable def z23 (P : Params) : Obj := ⟨(.type "tuple"), none, (.seq (Array.mk [(.str (cs [95, 99, 97, 99, 104, 101, 100]) 219), (.str (cs [95, 115, 101, 116, 95, 102, 105, 108, 101, 97, 116, 116, 114]) 220), (.str (cs [95, 117, 110, 105, 110, 105, 116, 105, 97, 108, 105, 122, 101, 100, 95, 115, 117, 98, 109, 111, 100, 117, 108, 101, 115]) 221), (.str (cs [108, 111, 97, 100, 101, 114]) 222), (.str (cs [108, 111, 97, 100, 101, 114, 95, 115, 116, 97, 116, 101]) 223), (.str (cs [110, 97, 109, 101]) 224), (.str (cs [111, 114, 105, 103, 105, 110]) 225), (.str (cs [115, 117, 98, 109, 111, 100, 117, 108, 101, 95, 115, 101, 97, 114, 99, 104, 95, 108, 111, 99, 97, 116, 105, 111, 110, 115]) 226)]) 0), (Array.mk [])⟩
noncomputable def z24 (P : Params) : Obj := ⟨(.type "getset_descriptor"), none, (.fields (Array.mk [(.str (cs [95, 95, 100, 105, 99, 116, 95, 95]) 237), (.ref 22), (.builtin "function.__dict__"), (.builtin "function.__dict__#set")])), (Array.mk [])⟩
noncomputable def z25 (P : Params) : Obj := ⟨(.type "getset_descriptor"), none, (.fields (Array.mk [(.str (cs [95, 95, 119, 101, 97, 107, 114, 101, 102, 95, 95]) 239), (.ref 22), (.builtin "ExceptionGroup.__weakref__"), .none])), (Array.mk [])⟩
noncomputable def z26 (P : Params) : Obj := ⟨(.ref 22), (some 20), .plain, (Array.mk [])⟩
noncomputable def z27 (P : Params) : Obj := ⟨.none, none, (.seq (Array.mk [(.int 11 0), (.str (cs [6, 247, 8, 95, 95, 110, 97, 109, 101, 95, 95, 6, 246, 4, 95, 115, 114, 101, 6, 248, 7, 95, 95, 100, 111, 99, 95, 95, 0, 6, 250, 11, 95, 95, 112, 97, 99, 107, 97, 103, 101, 95, 95, 6, 249, 0, 6, 251, 10, 95, 95, 108, 111, 97, 100, 101, 114, 95, 95, 4, 0, 0, 14, 6, 252, 8, 95, 95, 115, 112, 101, 99, 95, 95, 4, 0, 0, 26, 6, 253, 7, 99, 111, 109, 112, 105, 108, 101, 9, 12, 95, 115, 114, 101, 46, 99, 111, 109, 112, 105, 108, 101, 6, 254, 8, 116, 101, 109, 112, 108, 97, 116, 101, 9, 13, 95, 115, 114, 101, 46, 116, 101, 109, 112, 108, 97, 116, 101, 6, 255, 11, 103, 101, 116, 99, 111, 100, 101, 115, 105, 122, 101, 9, 16, 95, 115, 114, 101, 46, 103, 101, 116, 99, 111, 100, 101, 115, 105, 122, 101, 6, 256, 13, 97, 115, 99, 105, 105, 95, 105, 115, 99, 97, 115, 101, 100, 9, 18, 95, 115, 114, 101, 46, 97, 115, 99, 105, 105, 95, 105, 115, 99, 97, 115, 101, 100, 6, 257, 15, 117, 110, 105, 99, 111, 100, 101, 95, 105, 115, 99, 97, 115, 101, 100, 9, 20, 95, 115, 114, 101, 46, 117, 110, 105, 99, 111, 100, 101, 95, 105, 115, 99, 97, 115, 101, 100, 6, 258, 13, 97, 115, 99, 105, 105, 95, 116, 111, 108, 111, 119, 101, 114, 9, 18, 95, 115, 114, 101, 46, 97, 115, 99, 105, 105, 95, 116, 111, 108, 111, 119, 101, 114, 6, 259, 15, 117, 110, 105, 99, 111, 100, 101, 95, 116, 111, 108, 111, 119, 101, 114, 9, 20, 95, 115, 114, 101, 46, 117, 110, 105, 99, 111, 100, 101, 95, 116, 111, 108, 111, 119, 101, 114, 6, 261, 5, 77, 65, 71, 73, 67, 4, 260, 0, 20230612, 6, 263, 8, 67, 79, 68, 69, 83, 73, 90, 69, 4, 262, 0, 4, 6, 265, 9, 77, 65, 88, 82, 69, 80, 69, 65, 84, 4, 264, 0, 4294967295, 6, 267, 9, 77, 65, 88, 71, 82, 79, 85, 80, 83, 4, 266, 0, 1073741823, 6, 269, 9, 99, 111, 112, 121, 114, 105, 103, 104, 116, 6, 268, 53, 32, 83, 82, 69, 32, 50, 46, 50, 46, 50, 32, 67, 111, 112, 121, 114, 105, 103, 104, 116, 32, 40, 99, 41, 32, 49, 57, 57, 55, 45, 50, 48, 48, 50, 32, 98, 121, 32, 83, 101, 99, 114, 101, 116, 32, 76, 97, 98, 115, 32, 65, 66, 32]) 0), (.bool true), (.bool false), (.str (cs [95, 115, 114, 101]) 271)]) 0), (Array.mk [])⟩
noncomputable def zLife : Life := ⟨[], [], [], 0, [], [], false, Array.mk [], [], 0, false, false, false, 0, [2000, 10, 10], false, 0, true, [], [], 0, false⟩
noncomputable def y3 (P : Params) : Obj := ⟨(.type "dict"), none, (.dict (Array.mk [⟨PyData.keyHash P (cs [95, 95, 110, 97, 109, 101, 95, 95]), (.str (cs [95, 95, 110, 97, 109, 101, 95, 95]) 165), (.str (cs [99, 112, 121, 51, 49, 51, 46, 115, 116, 114, 105, 110, 103, 112, 114, 101, 112]) 343)⟩, ⟨PyData.keyHash P (cs [95, 95, 100, 111, 99, 95, 95]), (.str (cs [95, 95, 100, 111, 99, 95, 95]) 166), .none⟩, ⟨PyData.keyHash P (cs [95, 95, 112, 97, 99, 107, 97, 103, 101, 95, 95]), (.str (cs [95, 95, 112, 97, 99, 107, 97, 103, 101, 95, 95]) 167), .none⟩, ⟨PyData.keyHash P (cs [95, 95, 108, 111, 97, 100, 101, 114, 95, 95]), (.str (cs [95, 95, 108, 111, 97, 100, 101, 114, 95, 95]) 168), (.builtin "__main__.__loader__#opaque")⟩, ⟨PyData.keyHash P (cs [95, 95, 115, 112, 101, 99, 95, 95]), (.str (cs [95, 95, 115, 112, 101, 99, 95, 95]) 169), .none⟩, ⟨PyData.keyHash P (cs [95, 95, 97, 110, 110, 111, 116, 97, 116, 105, 111, 110, 115, 95, 95]), (.str (cs [95, 95, 97, 110, 110, 111, 116, 97, 116, 105, 111, 110, 115, 95, 95]) 170), (.ref 6)⟩, ⟨PyData.keyHash P (cs [95, 95, 98, 117, 105, 108, 116, 105, 110, 115, 95, 95]), (.str (cs [95, 95, 98, 117, 105, 108, 116, 105, 110, 115, 95, 95]) 171), (.ref 4)⟩, ⟨PyData.keyHash P (cs [95, 95, 102, 105, 108, 101, 95, 95]), (.str (cs [95, 95, 102, 105, 108, 101, 95, 95]) 173), (.str (cs [47, 99, 108, 97, 105, 109, 47, 99, 117, 116, 46, 112, 121]) 172)⟩, ⟨PyData.keyHash P (cs [95, 95, 99, 97, 99, 104, 101, 100, 95, 95]), (.str (cs [95, 95, 99, 97, 99, 104, 101, 100, 95, 95]) 174), .none⟩, ⟨PyData.keyHash P (cs [95, 115, 114, 101]), (.str (cs [95, 115, 114, 101]) 275), (.ref 12)⟩, ⟨PyData.keyHash P (cs [95, 119, 97, 108, 108]), (.str (cs [95, 119, 97, 108, 108]) 288), (.ref 38)⟩, ⟨PyData.keyHash P (cs [95, 105, 116, 101, 114, 95, 101, 115, 99, 97, 112, 101, 100, 95, 99, 104, 97, 114, 115]), (.str (cs [95, 105, 116, 101, 114, 95, 101, 115, 99, 97, 112, 101, 100, 95, 99, 104, 97, 114, 115]) 300), (.ref 45)⟩, ⟨PyData.keyHash P (cs [95, 115, 116, 114, 105, 112, 95, 113, 117, 111, 116, 101, 100, 95, 114, 101, 97, 108, 110, 97, 109, 101, 115]), (.str (cs [95, 115, 116, 114, 105, 112, 95, 113, 117, 111, 116, 101, 100, 95, 114, 101, 97, 108, 110, 97, 109, 101, 115]) 312), (.ref 52)⟩, ⟨PyData.keyHash P (cs [95, 99, 104, 101, 99, 107, 95, 112, 97, 114, 101, 110, 116, 104, 101, 115, 105, 115]), (.str (cs [95, 99, 104, 101, 99, 107, 95, 112, 97, 114, 101, 110, 116, 104, 101, 115, 105, 115]) 322), (.ref 59)⟩, ⟨PyData.keyHash P (cs [114, 103, 98, 95, 116, 111, 95, 104, 115, 118]), (.str (cs [114, 103, 98, 95, 116, 111, 95, 104, 115, 118]) 342), (.ref 66)⟩, ⟨PyData.keyHash P (cs [98, 49, 95, 115, 101, 116]), (.str (cs [98, 49, 95, 115, 101, 116]) 404), (.ref 74)⟩, ⟨PyData.keyHash P (cs [105, 110, 95, 116, 97, 98, 108, 101, 95, 98, 49]), (.str (cs [105, 110, 95, 116, 97, 98, 108, 101, 95, 98, 49]) 411), (.ref 84)⟩]) 17), (Array.mk [])⟩
noncomputable def y28 (P : Params) : Obj := ⟨(.type "tuple"), none, (.seq (Array.mk []) 0), (Array.mk [])⟩
noncomputable def y29 (P : Params) : Obj := ⟨.none, none, (.fields (Array.mk [(.int 2 0), (.int 0 0), (.ref 37), (.int 6 0), (.int 0 0), (.ref 44), (.int 19 0), (.int 0 0), (.ref 51), (.int 37 0), (.int 0 0), (.ref 58), (.int 49 0), (.int 0 0), (.ref 65), (.int 70 0), (.int 0 0), (.ref 83)])), (Array.mk [])⟩
noncomputable def y30 (P : Params) : Obj := ⟨(.type "code"), none, (.fields (Array.mk [(.str (cs [60, 109, 111, 100, 117, 108, 101, 62]) 277), (.str (cs [60, 109, 111, 100, 117, 108, 101, 62]) 278), (.str (cs [47, 99, 108, 97, 105, 109, 47, 99, 117, 116, 46, 112, 121]) 279), (.int 1 0), (.int 0 0), (.int 0 0), (.int 0 0), (.int 0 0), (.ref 28), (.bool false), (.int 276 0), (.ref 29), .none, .none, .none, .none, (.int 280 0), (.int 1 0), (.str (cs [47, 99, 108, 97, 105, 109, 47, 99, 117, 116, 46, 112, 121]) 281)])), (Array.mk [])⟩
noncomputable def y31 (P : Params) : Obj := ⟨(.type "frame"), none, .plain, (Array.mk [(some (.ref 30)), (some (.ref 3)), (some (.ref 3)), none, (some (.str (cs [95, 95, 109, 97, 105, 110, 95, 95]) 164)), none, (some (.ref 0))])⟩
noncomputable def y32 (P : Params) : Obj := ⟨(.type "tuple"), none, (.seq (Array.mk []) 0), (Array.mk [])⟩
noncomputable def y33 (P : Params) : Obj := ⟨.none, none, (.fields (Array.mk [])), (Array.mk [])⟩
noncomputable def y34 (P : Params) : Obj := ⟨(.type "tuple"), none, (.seq (Array.mk [(.str (cs [107]) 285)]) 0), (Array.mk [])⟩
noncomputable def y35 (P : Params) : Obj := ⟨(.type "tuple"), none, (.seq (Array.mk []) 0), (Array.mk [])⟩
noncomputable def y36 (P : Params) : Obj := ⟨.none, none, (.func ⟨(cs [95, 119, 97, 108, 108]), (cs [95, 119, 97, 108, 108]), (fnRec 1 0).params, (.stmts (fnRec 1 0).body), (fnRec 1 0).scope, 0, [], .none, .none, .none, .none, none, .none, .none, 0⟩), (Array.mk [])⟩
noncomputable def y37 (P : Params) : Obj := ⟨(.type "code"), none, (.fields (Array.mk [(.str (cs [95, 119, 97, 108, 108]) 282), (.str (cs [95, 119, 97, 108, 108]) 283), (.str (cs [47, 99, 108, 97, 105, 109, 47, 99, 117, 116, 46, 112, 121]) 284), (.int 2 0), (.int 1 0), (.int 0 0), (.int 0 0), (.int 3 0), (.ref 32), (.bool true), (.int 276 0), (.ref 33), .none, (.ref 34), (.ref 35), (.ref 36), (.int 286 0), (.int 2 0), (.str (cs [47, 99, 108, 97, 105, 109, 47, 99, 117, 116, 46, 112, 121]) 287)])), (Array.mk [])⟩
noncomputable def y38 (P : Params) : Obj := ⟨(.type "function"), none, (.func ⟨(cs [95, 119, 97, 108, 108]), (cs [95, 119, 97, 108, 108]), (fnRec 1 0).params, (.stmts (fnRec 1 0).body), (fnRec 1 0).scope, 3, [], .none, .none, .none, (.str (cs [95, 95, 109, 97, 105, 110, 95, 95]) 164), none, (.ref 37), .none, 0⟩), (Array.mk [])⟩
noncomputable def y39 (P : Params) : Obj := ⟨(.type "tuple"), none, (.seq (Array.mk []) 0), (Array.mk [])⟩
noncomputable def y40 (P : Params) : Obj := ⟨.none, none, (.fields (Array.mk [])), (Array.mk [])⟩
noncomputable def y41 (P : Params) : Obj := ⟨(.type "tuple"), none, (.seq (Array.mk [(.str (cs [97, 100, 100, 114]) 294), (.str (cs [112, 111, 115]) 295), (.str (cs [101, 115, 99, 97, 112, 101]) 296), (.str (cs [99, 104]) 297)]) 0), (Array.mk [])⟩
noncomputable def y42 (P : Params) : Obj := ⟨(.type "tuple"), none, (.seq (Array.mk []) 0), (Array.mk [])⟩
noncomputable def y43 (P : Params) : Obj := ⟨.none, none, (.func ⟨(cs [95, 105, 116, 101, 114, 95, 101, 115, 99, 97, 112, 101, 100, 95, 99, 104, 97, 114, 115]), (cs [95, 105, 116, 101, 114, 95, 101, 115, 99, 97, 112, 101, 100, 95, 99, 104, 97, 114, 115]), (fnRec 3 0).params, (.stmts (fnRec 3 0).body), (fnRec 3 0).scope, 0, [], .none, .none, .none, .none, none, .none, .none, 0⟩), (Array.mk [])⟩
noncomputable def y44 (P : Params) : Obj := ⟨(.type "code"), none, (.fields (Array.mk [(.str (cs [95, 105, 116, 101, 114, 95, 101, 115, 99, 97, 112, 101, 100, 95, 99, 104, 97, 114, 115]) 291), (.str (cs [95, 105, 116, 101, 114, 95, 101, 115, 99, 97, 112, 101, 100, 95, 99, 104, 97, 114, 115]) 292), (.str (cs [47, 99, 108, 97, 105, 109, 47, 99, 117, 116, 46, 112, 121]) 293), (.int 6 0), (.int 1 0), (.int 0 0), (.int 0 0), (.int 35 0), (.ref 39), (.bool true), (.int 276 0), (.ref 40), .none, (.ref 41), (.ref 42), (.ref 43), (.int 298 0), (.int 6 0), (.str (cs [47, 99, 108, 97, 105, 109, 47, 99, 117, 116, 46, 112, 121]) 299)])), (Array.mk [])⟩
noncomputable def y45 (P : Params) : Obj := ⟨(.type "function"), none, (.func ⟨(cs [95, 105, 116, 101, 114, 95, 101, 115, 99, 97, 112, 101, 100, 95, 99, 104, 97, 114, 115]), (cs [95, 105, 116, 101, 114, 95, 101, 115, 99, 97, 112, 101, 100, 95, 99, 104, 97, 114, 115]), (fnRec 3 0).params, (.stmts (fnRec 3 0).body), (fnRec 3 0).scope, 3, [], .none, .none, .none, (.str (cs [99, 112, 121, 51, 49, 51, 46, 101, 109, 97, 105, 108, 46, 117, 116, 105, 108, 115]) 289), none, (.ref 44), .none, 0⟩), (Array.mk [])⟩
noncomputable def y46 (P : Params) : Obj := ⟨(.type "tuple"), none, (.seq (Array.mk []) 0), (Array.mk [])⟩
noncomputable def y47 (P : Params) : Obj := ⟨.none, none, (.fields (Array.mk [])), (Array.mk [])⟩
noncomputable def y48 (P : Params) : Obj := ⟨(.type "tuple"), none, (.seq (Array.mk [(.str (cs [97, 100, 100, 114]) 304), (.str (cs [115, 116, 97, 114, 116]) 305), (.str (cs [111, 112, 101, 110, 95, 112, 111, 115]) 306), (.str (cs [114, 101, 115, 117, 108, 116]) 307), (.str (cs [112, 111, 115]) 308), (.str (cs [99, 104]) 309)]) 0), (Array.mk [])⟩
noncomputable def y49 (P : Params) : Obj := ⟨(.type "tuple"), none, (.seq (Array.mk []) 0), (Array.mk [])⟩
noncomputable def y50 (P : Params) : Obj := ⟨.none, none, (.func ⟨(cs [95, 115, 116, 114, 105, 112, 95, 113, 117, 111, 116, 101, 100, 95, 114, 101, 97, 108, 110, 97, 109, 101, 115]), (cs [95, 115, 116, 114, 105, 112, 95, 113, 117, 111, 116, 101, 100, 95, 114, 101, 97, 108, 110, 97, 109, 101, 115]), (fnRec 4 0).params, (.stmts (fnRec 4 0).body), (fnRec 4 0).scope, 0, [], .none, .none, .none, .none, none, .none, .none, 0⟩), (Array.mk [])⟩
noncomputable def y51 (P : Params) : Obj := ⟨(.type "code"), none, (.fields (Array.mk [(.str (cs [95, 115, 116, 114, 105, 112, 95, 113, 117, 111, 116, 101, 100, 95, 114, 101, 97, 108, 110, 97, 109, 101, 115]) 301), (.str (cs [95, 115, 116, 114, 105, 112, 95, 113, 117, 111, 116, 101, 100, 95, 114, 101, 97, 108, 110, 97, 109, 101, 115]) 302), (.str (cs [47, 99, 108, 97, 105, 109, 47, 99, 117, 116, 46, 112, 121]) 303), (.int 19 0), (.int 1 0), (.int 0 0), (.int 0 0), (.int 3 0), (.ref 46), (.bool true), (.int 276 0), (.ref 47), .none, (.ref 48), (.ref 49), (.ref 50), (.int 310 0), (.int 19 0), (.str (cs [47, 99, 108, 97, 105, 109, 47, 99, 117, 116, 46, 112, 121]) 311)])), (Array.mk [])⟩
noncomputable def y52 (P : Params) : Obj := ⟨(.type "function"), none, (.func ⟨(cs [95, 115, 116, 114, 105, 112, 95, 113, 117, 111, 116, 101, 100, 95, 114, 101, 97, 108, 110, 97, 109, 101, 115]), (cs [95, 115, 116, 114, 105, 112, 95, 113, 117, 111, 116, 101, 100, 95, 114, 101, 97, 108, 110, 97, 109, 101, 115]), (fnRec 4 0).params, (.stmts (fnRec 4 0).body), (fnRec 4 0).scope, 3, [], .none, .none, .none, (.str (cs [99, 112, 121, 51, 49, 51, 46, 101, 109, 97, 105, 108, 46, 117, 116, 105, 108, 115]) 289), none, (.ref 51), .none, 0⟩), (Array.mk [])⟩
noncomputable def y53 (P : Params) : Obj := ⟨(.type "tuple"), none, (.seq (Array.mk []) 0), (Array.mk [])⟩
noncomputable def y54 (P : Params) : Obj := ⟨.none, none, (.fields (Array.mk [])), (Array.mk [])⟩
noncomputable def y55 (P : Params) : Obj := ⟨(.type "tuple"), none, (.seq (Array.mk [(.str (cs [97, 100, 100, 114]) 316), (.str (cs [111, 112, 101, 110, 115]) 317), (.str (cs [112, 111, 115]) 318), (.str (cs [99, 104]) 319)]) 0), (Array.mk [])⟩
noncomputable def y56 (P : Params) : Obj := ⟨(.type "tuple"), none, (.seq (Array.mk []) 0), (Array.mk [])⟩
noncomputable def y57 (P : Params) : Obj := ⟨.none, none, (.func ⟨(cs [95, 99, 104, 101, 99, 107, 95, 112, 97, 114, 101, 110, 116, 104, 101, 115, 105, 115]), (cs [95, 99, 104, 101, 99, 107, 95, 112, 97, 114, 101, 110, 116, 104, 101, 115, 105, 115]), (fnRec 5 0).params, (.stmts (fnRec 5 0).body), (fnRec 5 0).scope, 0, [], .none, .none, .none, .none, none, .none, .none, 0⟩), (Array.mk [])⟩
noncomputable def y58 (P : Params) : Obj := ⟨(.type "code"), none, (.fields (Array.mk [(.str (cs [95, 99, 104, 101, 99, 107, 95, 112, 97, 114, 101, 110, 116, 104, 101, 115, 105, 115]) 313), (.str (cs [95, 99, 104, 101, 99, 107, 95, 112, 97, 114, 101, 110, 116, 104, 101, 115, 105, 115]) 314), (.str (cs [47, 99, 108, 97, 105, 109, 47, 99, 117, 116, 46, 112, 121]) 315), (.int 37 0), (.int 1 0), (.int 0 0), (.int 0 0), (.int 3 0), (.ref 53), (.bool true), (.int 276 0), (.ref 54), .none, (.ref 55), (.ref 56), (.ref 57), (.int 320 0), (.int 37 0), (.str (cs [47, 99, 108, 97, 105, 109, 47, 99, 117, 116, 46, 112, 121]) 321)])), (Array.mk [])⟩
noncomputable def y59 (P : Params) : Obj := ⟨(.type "function"), none, (.func ⟨(cs [95, 99, 104, 101, 99, 107, 95, 112, 97, 114, 101, 110, 116, 104, 101, 115, 105, 115]), (cs [95, 99, 104, 101, 99, 107, 95, 112, 97, 114, 101, 110, 116, 104, 101, 115, 105, 115]), (fnRec 5 0).params, (.stmts (fnRec 5 0).body), (fnRec 5 0).scope, 3, [], .none, .none, .none, (.str (cs [99, 112, 121, 51, 49, 51, 46, 101, 109, 97, 105, 108, 46, 117, 116, 105, 108, 115]) 289), none, (.ref 58), .none, 0⟩), (Array.mk [])⟩
noncomputable def y60 (P : Params) : Obj := ⟨(.type "tuple"), none, (.seq (Array.mk []) 0), (Array.mk [])⟩
noncomputable def y61 (P : Params) : Obj := ⟨.none, none, (.fields (Array.mk [])), (Array.mk [])⟩
noncomputable def y62 (P : Params) : Obj := ⟨(.type "tuple"), none, (.seq (Array.mk [(.str (cs [114]) 328), (.str (cs [103]) 329), (.str (cs [98]) 330), (.str (cs [109, 97, 120, 99]) 331), (.str (cs [109, 105, 110, 99]) 332), (.str (cs [114, 97, 110, 103, 101, 99]) 333), (.str (cs [118]) 334), (.str (cs [115]) 335), (.str (cs [114, 99]) 336), (.str (cs [103, 99]) 337), (.str (cs [98, 99]) 338), (.str (cs [104]) 339)]) 0), (Array.mk [])⟩
noncomputable def y63 (P : Params) : Obj := ⟨(.type "tuple"), none, (.seq (Array.mk []) 0), (Array.mk [])⟩
noncomputable def y64 (P : Params) : Obj := ⟨.none, none, (.func ⟨(cs [114, 103, 98, 95, 116, 111, 95, 104, 115, 118]), (cs [114, 103, 98, 95, 116, 111, 95, 104, 115, 118]), (fnRec 7 0).params, (.stmts (fnRec 7 0).body), (fnRec 7 0).scope, 0, [], .none, .none, .none, .none, none, .none, .none, 0⟩), (Array.mk [])⟩
noncomputable def y65 (P : Params) : Obj := ⟨(.type "code"), none, (.fields (Array.mk [(.str (cs [114, 103, 98, 95, 116, 111, 95, 104, 115, 118]) 325), (.str (cs [114, 103, 98, 95, 116, 111, 95, 104, 115, 118]) 326), (.str (cs [47, 99, 108, 97, 105, 109, 47, 99, 117, 116, 46, 112, 121]) 327), (.int 49 0), (.int 3 0), (.int 0 0), (.int 0 0), (.int 3 0), (.ref 60), (.bool true), (.int 276 0), (.ref 61), .none, (.ref 62), (.ref 63), (.ref 64), (.int 340 0), (.int 49 0), (.str (cs [47, 99, 108, 97, 105, 109, 47, 99, 117, 116, 46, 112, 121]) 341)])), (Array.mk [])⟩
noncomputable def y66 (P : Params) : Obj := ⟨(.type "function"), none, (.func ⟨(cs [114, 103, 98, 95, 116, 111, 95, 104, 115, 118]), (cs [114, 103, 98, 95, 116, 111, 95, 104, 115, 118]), (fnRec 7 0).params, (.stmts (fnRec 7 0).body), (fnRec 7 0).scope, 3, [], .none, .none, .none, (.str (cs [99, 112, 121, 51, 49, 51, 46, 99, 111, 108, 111, 114, 115, 121, 115]) 323), none, (.ref 65), .none, 0⟩), (Array.mk [])⟩
noncomputable def y67 (P : Params) : Obj := ⟨(.type "list"), none, (.seq (Array.mk [(.int 173 345), (.int 847 346), (.int 6150 347), (.int 6155 348), (.int 6156 349), (.int 6157 350), (.int 8203 351), (.int 8204 352), (.int 8205 353), (.int 8288 354), (.int 65279 355)]) 0), (Array.mk [])⟩
noncomputable def y68 (P : Params) : Obj := ⟨(.type "range"), none, (.fields (Array.mk [(.int 65024 356), (.int 65040 357), (.int 1 358)])), (Array.mk [])⟩
noncomputable def y69 (P : Params) : Obj := ⟨(.type "list"), none, (.seq (Array.mk [(.int 65024 361), (.int 65025 362), (.int 65026 363), (.int 65027 364), (.int 65028 365), (.int 65029 366), (.int 65030 367), (.int 65031 368), (.int 65032 369), (.int 65033 370), (.int 65034 371), (.int 65035 372), (.int 65036 373), (.int 65037 374), (.int 65038 375), (.int 65039 376)]) 18), (Array.mk [])⟩
noncomputable def y70 (P : Params) : Obj := ⟨(.type "range_iterator"), none, (.fields (Array.mk [(.int 65040 0), (.int 0 0), (.int 1 0)])), (Array.mk [])⟩
noncomputable def y71 (P : Params) : Obj := ⟨(.type "tuple"), none, (.seq (Array.mk []) 0), (Array.mk [])⟩
noncomputable def y72 (P : Params) : Obj := ⟨(.type "StopIteration"), none, (.fields (Array.mk [(.ref 71), .none, .none, .none, (.bool false), .none])), (Array.mk [])⟩
noncomputable def y73 (P : Params) : Obj := ⟨(.type "list"), none, (.seq (Array.mk [(.int 173 345), (.int 847 346), (.int 6150 347), (.int 6155 348), (.int 6156 349), (.int 6157 350), (.int 8203 351), (.int 8204 352), (.int 8205 353), (.int 8288 354), (.int 65279 355), (.int 65024 361), (.int 65025 362), (.int 65026 363), (.int 65027 364), (.int 65028 365), (.int 65029 366), (.int 65030 367), (.int 65031 368), (.int 65032 369), (.int 65033 370), (.int 65034 371), (.int 65035 372), (.int 65036 373), (.int 65037 374), (.int 65038 375), (.int 65039 376)]) 0), (Array.mk [])⟩
noncomputable def y74 (P : Params) : Obj := ⟨(.type "set"), none, (.set (Array.mk [(65024, (.int 65024 361)), (65025, (.int 65025 362)), (65026, (.int 65026 363)), (65027, (.int 65027 364)), (65028, (.int 65028 365)), (65029, (.int 65029 366)), (6150, (.int 6150 347)), (65030, (.int 65030 367)), (65031, (.int 65031 368)), (65032, (.int 65032 369)), (65033, (.int 65033 370)), (6155, (.int 6155 348)), (6156, (.int 6156 349)), (6157, (.int 6157 350)), (8203, (.int 8203 351)), (8204, (.int 8204 352)), (8205, (.int 8205 353)), (65034, (.int 65034 371)), (65035, (.int 65035 372)), (65036, (.int 65036 373)), (65037, (.int 65037 374)), (65038, (.int 65038 375)), (65039, (.int 65039 376)), (173, (.int 173 345)), (847, (.int 847 346)), (8288, (.int 8288 354)), (65279, (.int 65279 355))]) 29 ⟨127, (Array.mk [0, 1, 2, 3, 4, 5, 6, 7, 8, 9, 10, 11, 12, 13, 14, 15, 16, 17, 18, 19, 20, 21, 22, 45, 79, 96, 127]), (Array.mk []), 0, (!P.followText "set-order"), 2, true⟩), (Array.mk [])⟩
noncomputable def y75 (P : Params) : Obj := ⟨(.type "list_iterator"), none, (.fields (Array.mk [.none, (.int 27 0)])), (Array.mk [])⟩
noncomputable def y76 (P : Params) : Obj := ⟨(.type "tuple"), none, (.seq (Array.mk []) 0), (Array.mk [])⟩
noncomputable def y77 (P : Params) : Obj := ⟨(.type "StopIteration"), none, (.fields (Array.mk [(.ref 76), .none, .none, .none, (.bool false), .none])), (Array.mk [])⟩
noncomputable def y78 (P : Params) : Obj := ⟨(.type "tuple"), none, (.seq (Array.mk []) 0), (Array.mk [])⟩
noncomputable def y79 (P : Params) : Obj := ⟨.none, none, (.fields (Array.mk [])), (Array.mk [])⟩
noncomputable def y80 (P : Params) : Obj := ⟨(.type "tuple"), none, (.seq (Array.mk [(.str (cs [99, 111, 100, 101]) 408)]) 0), (Array.mk [])⟩
noncomputable def y81 (P : Params) : Obj := ⟨(.type "tuple"), none, (.seq (Array.mk []) 0), (Array.mk [])⟩
noncomputable def y82 (P : Params) : Obj := ⟨.none, none, (.func ⟨(cs [105, 110, 95, 116, 97, 98, 108, 101, 95, 98, 49]), (cs [105, 110, 95, 116, 97, 98, 108, 101, 95, 98, 49]), (fnRec 10 0).params, (.stmts (fnRec 10 0).body), (fnRec 10 0).scope, 0, [], .none, .none, .none, .none, none, .none, .none, 0⟩), (Array.mk [])⟩
noncomputable def y83 (P : Params) : Obj := ⟨(.type "code"), none, (.fields (Array.mk [(.str (cs [105, 110, 95, 116, 97, 98, 108, 101, 95, 98, 49]) 405), (.str (cs [105, 110, 95, 116, 97, 98, 108, 101, 95, 98, 49]) 406), (.str (cs [47, 99, 108, 97, 105, 109, 47, 99, 117, 116, 46, 112, 121]) 407), (.int 70 0), (.int 1 0), (.int 0 0), (.int 0 0), (.int 3 0), (.ref 78), (.bool true), (.int 276 0), (.ref 79), .none, (.ref 80), (.ref 81), (.ref 82), (.int 409 0), (.int 70 0), (.str (cs [47, 99, 108, 97, 105, 109, 47, 99, 117, 116, 46, 112, 121]) 410)])), (Array.mk [])⟩
noncomputable def y84 (P : Params) : Obj := ⟨(.type "function"), none, (.func ⟨(cs [105, 110, 95, 116, 97, 98, 108, 101, 95, 98, 49]), (cs [105, 110, 95, 116, 97, 98, 108, 101, 95, 98, 49]), (fnRec 10 0).params, (.stmts (fnRec 10 0).body), (fnRec 10 0).scope, 3, [], .none, .none, .none, (.str (cs [99, 112, 121, 51, 49, 51, 46, 115, 116, 114, 105, 110, 103, 112, 114, 101, 112]) 343), none, (.ref 83), .none, 0⟩), (Array.mk [])⟩
noncomputable def x29 (P : Params) : Obj := ⟨.none, none, (.fields (Array.mk [])), (Array.mk [])⟩
noncomputable def aL (P : Params) : List Obj := [z0 P, z1 P, z2 P, z3 P, z4 P, z5 P, z6 P, z7 P, z8 P, z9 P, z10 P, z11 P, z12 P, z13 P, z14 P, z15 P, z16 P, z17 P, z18 P, z19 P, z20 P, z21 P, z22 P, z23 P, z24 P, z25 P, z26 P, z27 P, y28 P, x29 P, y30 P, y31 P]
noncomputable def zL (P : Params) : List Obj := [z0 P, z1 P, z2 P, z3 P, z4 P, z5 P, z6 P, z7 P, z8 P, z9 P, z10 P, z11 P, z12 P, z13 P, z14 P, z15 P, z16 P, z17 P, z18 P, z19 P, z20 P, z21 P, z22 P, z23 P, z24 P, z25 P, z26 P, z27 P]
noncomputable def yL (P : Params) : List Obj := [z0 P, z1 P, z2 P, y3 P, z4 P, z5 P, z6 P, z7 P, z8 P, z9 P, z10 P, z11 P, z12 P, z13 P, z14 P, z15 P, z16 P, z17 P, z18 P, z19 P, z20 P, z21 P, z22 P, z23 P, z24 P, z25 P, z26 P, z27 P, y28 P, y29 P, y30 P, y31 P, y32 P, y33 P, y34 P, y35 P, y36 P, y37 P, y38 P, y39 P, y40 P, y41 P, y42 P, y43 P, y44 P, y45 P, y46 P, y47 P, y48 P, y49 P, y50 P, y51 P, y52 P, y53 P, y54 P, y55 P, y56 P, y57 P, y58 P, y59 P, y60 P, y61 P, y62 P, y63 P, y64 P, y65 P, y66 P, y67 P, y68 P, y69 P, y70 P, y71 P, y72 P, y73 P, y74 P, y75 P, y76 P, y77 P, y78 P, y79 P, y80 P, y81 P, y82 P, y83 P, y84 P]
-- toks 276 412 lifeSame true
noncomputable def v3 (P : Params) : Obj := ⟨(.type "dict"), none, (.dict (Array.mk [⟨PyData.keyHash P (cs [95, 95, 110, 97, 109, 101, 95, 95]), (.str (cs [95, 95, 110, 97, 109, 101, 95, 95]) 165), (.str (cs [108, 97, 119, 95, 119, 102, 48, 49, 48, 55, 95, 48, 49]) 2634)⟩, ⟨PyData.keyHash P (cs [95, 95, 100, 111, 99, 95, 95]), (.str (cs [95, 95, 100, 111, 99, 95, 95]) 166), .none⟩, ⟨PyData.keyHash P (cs [95, 95, 112, 97, 99, 107, 97, 103, 101, 95, 95]), (.str (cs [95, 95, 112, 97, 99, 107, 97, 103, 101, 95, 95]) 167), .none⟩, ⟨PyData.keyHash P (cs [95, 95, 108, 111, 97, 100, 101, 114, 95, 95]), (.str (cs [95, 95, 108, 111, 97, 100, 101, 114, 95, 95]) 168), (.builtin "__main__.__loader__#opaque")⟩, ⟨PyData.keyHash P (cs [95, 95, 115, 112, 101, 99, 95, 95]), (.str (cs [95, 95, 115, 112, 101, 99, 95, 95]) 169), .none⟩, ⟨PyData.keyHash P (cs [95, 95, 97, 110, 110, 111, 116, 97, 116, 105, 111, 110, 115, 95, 95]), (.str (cs [95, 95, 97, 110, 110, 111, 116, 97, 116, 105, 111, 110, 115, 95, 95]) 170), (.ref 6)⟩, ⟨PyData.keyHash P (cs [95, 95, 98, 117, 105, 108, 116, 105, 110, 115, 95, 95]), (.str (cs [95, 95, 98, 117, 105, 108, 116, 105, 110, 115, 95, 95]) 171), (.ref 4)⟩, ⟨PyData.keyHash P (cs [95, 95, 102, 105, 108, 101, 95, 95]), (.str (cs [95, 95, 102, 105, 108, 101, 95, 95]) 173), (.str (cs [47, 99, 108, 97, 105, 109, 47, 99, 117, 116, 46, 112, 121]) 172)⟩, ⟨PyData.keyHash P (cs [95, 95, 99, 97, 99, 104, 101, 100, 95, 95]), (.str (cs [95, 95, 99, 97, 99, 104, 101, 100, 95, 95]) 174), .none⟩, ⟨PyData.keyHash P (cs [95, 115, 114, 101]), (.str (cs [95, 115, 114, 101]) 275), (.ref 12)⟩, ⟨PyData.keyHash P (cs [95, 119, 97, 108, 108]), (.str (cs [95, 119, 97, 108, 108]) 288), (.ref 38)⟩, ⟨PyData.keyHash P (cs [95, 105, 116, 101, 114, 95, 101, 115, 99, 97, 112, 101, 100, 95, 99, 104, 97, 114, 115]), (.str (cs [95, 105, 116, 101, 114, 95, 101, 115, 99, 97, 112, 101, 100, 95, 99, 104, 97, 114, 115]) 300), (.ref 45)⟩, ⟨PyData.keyHash P (cs [95, 115, 116, 114, 105, 112, 95, 113, 117, 111, 116, 101, 100, 95, 114, 101, 97, 108, 110, 97, 109, 101, 115]), (.str (cs [95, 115, 116, 114, 105, 112, 95, 113, 117, 111, 116, 101, 100, 95, 114, 101, 97, 108, 110, 97, 109, 101, 115]) 312), (.ref 52)⟩, ⟨PyData.keyHash P (cs [95, 99, 104, 101, 99, 107, 95, 112, 97, 114, 101, 110, 116, 104, 101, 115, 105, 115]), (.str (cs [95, 99, 104, 101, 99, 107, 95, 112, 97, 114, 101, 110, 116, 104, 101, 115, 105, 115]) 322), (.ref 59)⟩, ⟨PyData.keyHash P (cs [114, 103, 98, 95, 116, 111, 95, 104, 115, 118]), (.str (cs [114, 103, 98, 95, 116, 111, 95, 104, 115, 118]) 342), (.ref 66)⟩, ⟨PyData.keyHash P (cs [98, 49, 95, 115, 101, 116]), (.str (cs [98, 49, 95, 115, 101, 116]) 404), (.ref 74)⟩, ⟨PyData.keyHash P (cs [105, 110, 95, 116, 97, 98, 108, 101, 95, 98, 49]), (.str (cs [105, 110, 95, 116, 97, 98, 108, 101, 95, 98, 49]) 411), (.ref 84)⟩, ⟨PyData.keyHash P (cs [98, 51, 95, 101, 120, 99, 101, 112, 116, 105, 111, 110, 115]), (.str (cs [98, 51, 95, 101, 120, 99, 101, 112, 116, 105, 111, 110, 115]) 2362), (.ref 85)⟩, ⟨PyData.keyHash P (cs [109, 97, 112, 95, 116, 97, 98, 108, 101, 95, 98, 51]), (.str (cs [109, 97, 112, 95, 116, 97, 98, 108, 101, 95, 98, 51]) 2370), (.ref 130)⟩, ⟨PyData.keyHash P (cs [116, 115, 112, 101, 99, 105, 97, 108, 115]), (.str (cs [116, 115, 112, 101, 99, 105, 97, 108, 115]) 2406), (.ref 135)⟩, ⟨PyData.keyHash P (cs [95, 110, 97, 109, 101, 95, 100, 105, 115, 97, 108, 108, 111, 119, 101, 100, 95, 114, 101]), (.str (cs [95, 110, 97, 109, 101, 95, 100, 105, 115, 97, 108, 108, 111, 119, 101, 100, 95, 114, 101]) 2432), (.ref 140)⟩, ⟨PyData.keyHash P (cs [95, 118, 97, 108, 117, 101, 95, 100, 105, 115, 97, 108, 108, 111, 119, 101, 100, 95, 114, 101]), (.str (cs [95, 118, 97, 108, 117, 101, 95, 100, 105, 115, 97, 108, 108, 111, 119, 101, 100, 95, 114, 101]) 2466), (.ref 145)⟩, ⟨PyData.keyHash P (cs [95, 102, 111, 114, 109, 97, 116, 112, 97, 114, 97, 109]), (.str (cs [95, 102, 111, 114, 109, 97, 116, 112, 97, 114, 97, 109]) 2476), (.ref 153)⟩, ⟨PyData.keyHash P (cs [72, 101, 97, 100, 101, 114, 115]), (.str (cs [72, 101, 97, 100, 101, 114, 115]) 2633), (.ref 274)⟩, ⟨PyData.keyHash P (cs [95, 108, 97, 119, 95, 115, 105, 103, 110, 115]), (.str (cs [95, 108, 97, 119, 95, 115, 105, 103, 110, 115]) 2641), (.ref 283)⟩, ⟨PyData.keyHash P (cs [95, 108, 97, 119, 95, 114, 117, 108, 101]), (.str (cs [95, 108, 97, 119, 95, 114, 117, 108, 101]) 2655), (.ref 290)⟩, ⟨PyData.keyHash P (cs [95, 108, 97, 119, 95, 98, 121, 95, 109, 97, 105, 108]), (.str (cs [95, 108, 97, 119, 95, 98, 121, 95, 109, 97, 105, 108]) 2671), (.ref 297)⟩, ⟨PyData.keyHash P (cs [95, 108, 97, 119, 95, 98, 121, 95, 119, 104, 101, 101, 108]), (.str (cs [95, 108, 97, 119, 95, 98, 121, 95, 119, 104, 101, 101, 108]) 2687), (.ref 304)⟩, ⟨PyData.keyHash P (cs [95, 108, 97, 119, 95, 114, 111, 119, 115]), (.str (cs [95, 108, 97, 119, 95, 114, 111, 119, 115]) 2693), (.ref 309)⟩, ⟨PyData.keyHash P (cs [108, 97, 119]), (.str (cs [108, 97, 119]) 2699), (.ref 314)⟩]) 30), (Array.mk [])⟩
noncomputable def v29 (P : Params) : Obj := ⟨.none, none, (.fields (Array.mk [(.int 2 0), (.int 0 0), (.ref 37), (.int 6 0), (.int 0 0), (.ref 44), (.int 19 0), (.int 0 0), (.ref 51), (.int 37 0), (.int 0 0), (.ref 58), (.int 49 0), (.int 0 0), (.ref 65), (.int 70 0), (.int 0 0), (.ref 83), (.int 73 0), (.int 0 0), (.ref 129), (.int 82 0), (.int 0 0), (.ref 152), (.int 91 0), (.int 0 0), (.ref 159), (.int 174 0), (.int 0 0), (.ref 282), (.int 179 0), (.int 0 0), (.ref 289), (.int 194 0), (.int 0 0), (.ref 296), (.int 216 0), (.int 0 0), (.ref 303), (.int 231 0), (.int 0 0), (.ref 308), (.int 236 0), (.int 0 0), (.ref 313)])), (Array.mk [])⟩
noncomputable def v124 (P : Params) : Obj := ⟨(.type "tuple"), none, (.seq (Array.mk []) 0), (Array.mk [])⟩
noncomputable def v125 (P : Params) : Obj := ⟨.none, none, (.fields (Array.mk [])), (Array.mk [])⟩
noncomputable def v126 (P : Params) : Obj := ⟨(.type "tuple"), none, (.seq (Array.mk [(.str (cs [99, 111, 100, 101]) 2366), (.str (cs [114]) 2367)]) 0), (Array.mk [])⟩
noncomputable def v127 (P : Params) : Obj := ⟨(.type "tuple"), none, (.seq (Array.mk []) 0), (Array.mk [])⟩
noncomputable def v128 (P : Params) : Obj := ⟨.none, none, (.func ⟨(cs [109, 97, 112, 95, 116, 97, 98, 108, 101, 95, 98, 51]), (cs [109, 97, 112, 95, 116, 97, 98, 108, 101, 95, 98, 51]), (fnRec 12 0).params, (.stmts (fnRec 12 0).body), (fnRec 12 0).scope, 0, [], .none, .none, .none, .none, none, .none, .none, 0⟩), (Array.mk [])⟩
noncomputable def v129 (P : Params) : Obj := ⟨(.type "code"), none, (.fields (Array.mk [(.str (cs [109, 97, 112, 95, 116, 97, 98, 108, 101, 95, 98, 51]) 2363), (.str (cs [109, 97, 112, 95, 116, 97, 98, 108, 101, 95, 98, 51]) 2364), (.str (cs [47, 99, 108, 97, 105, 109, 47, 99, 117, 116, 46, 112, 121]) 2365), (.int 73 0), (.int 1 0), (.int 0 0), (.int 0 0), (.int 3 0), (.ref 124), (.bool true), (.int 276 0), (.ref 125), .none, (.ref 126), (.ref 127), (.ref 128), (.int 2368 0), (.int 73 0), (.str (cs [47, 99, 108, 97, 105, 109, 47, 99, 117, 116, 46, 112, 121]) 2369)])), (Array.mk [])⟩
noncomputable def v130 (P : Params) : Obj := ⟨(.type "function"), none, (.func ⟨(cs [109, 97, 112, 95, 116, 97, 98, 108, 101, 95, 98, 51]), (cs [109, 97, 112, 95, 116, 97, 98, 108, 101, 95, 98, 51]), (fnRec 12 0).params, (.stmts (fnRec 12 0).body), (fnRec 12 0).scope, 3, [], .none, .none, .none, (.str (cs [99, 112, 121, 51, 49, 51, 46, 115, 116, 114, 105, 110, 103, 112, 114, 101, 112]) 343), none, (.ref 129), .none, 0⟩), (Array.mk [])⟩
noncomputable def v131 (P : Params) : Obj := ⟨(.type "list"), none, (.seq (Array.mk [(.int 14 2376), (.int 14 2377), (.int 4 2378), (.int 1 2379), (.int 1 2380), (.int 9 2381), (.int 0 2382), (.int 4227896069 2383), (.int 939524097 2384), (.int 0 2385), (.int 0 2386), (.int 0 2387), (.int 0 2388), (.int 0 2389), (.int 0 2390), (.int 13 2391), (.int 11 2392), (.int 9 2393), (.int 0 2394), (.int 4227896069 2395), (.int 939524097 2396), (.int 0 2397), (.int 0 2398), (.int 0 2399), (.int 0 2400), (.int 0 2401), (.int 0 2402), (.int 1 2403)]) 0), (Array.mk [])⟩
noncomputable def v132 (P : Params) : Obj := ⟨(.type "dict"), none, (.dict (Array.mk []) 0), (Array.mk [])⟩
noncomputable def v133 (P : Params) : Obj := ⟨(.type "tuple"), none, (.seq (Array.mk [.none]) 0), (Array.mk [])⟩
noncomputable def v134 (P : Params) : Obj := ⟨(.type "tuple"), none, (.seq (Array.mk [(.int 14 0), (.int 14 0), (.int 4 0), (.int 1 0), (.int 1 0), (.int 9 0), (.int 0 0), (.int 4227896069 0), (.int 939524097 0), (.int 0 0), (.int 0 0), (.int 0 0), (.int 0 0), (.int 0 0), (.int 0 0), (.int 13 0), (.int 11 0), (.int 9 0), (.int 0 0), (.int 4227896069 0), (.int 939524097 0), (.int 0 0), (.int 0 0), (.int 0 0), (.int 0 0), (.int 0 0), (.int 0 0), (.int 1 0)]) 0), (Array.mk [])⟩
noncomputable def v135 (P : Params) : Obj := ⟨(.type "re.Pattern"), none, (.fields (Array.mk [(.str (cs [91, 32, 92, 40, 92, 41, 60, 62, 64, 44, 59, 58, 92, 92, 34, 47, 92, 91, 92, 93, 92, 63, 61, 93]) 2374), (.int 32 2405), (.int 0 0), .none, .none, (.ref 134), (.int 0 0)])), (Array.mk [])⟩
noncomputable def v136 (P : Params) : Obj := ⟨(.type "list"), none, (.seq (Array.mk [(.int 14 2410), (.int 10 2411), (.int 4 2412), (.int 1 2413), (.int 1 2414), (.int 22 2415), (.int 0 2416), (.int 31 2417), (.int 16 2418), (.int 127 2419), (.int 0 2420), (.int 13 2421), (.int 7 2422), (.int 22 2423), (.int 0 2424), (.int 31 2425), (.int 16 2426), (.int 127 2427), (.int 0 2428), (.int 1 2429)]) 0), (Array.mk [])⟩
noncomputable def v137 (P : Params) : Obj := ⟨(.type "dict"), none, (.dict (Array.mk []) 0), (Array.mk [])⟩
noncomputable def v138 (P : Params) : Obj := ⟨(.type "tuple"), none, (.seq (Array.mk [.none]) 0), (Array.mk [])⟩
noncomputable def v139 (P : Params) : Obj := ⟨(.type "tuple"), none, (.seq (Array.mk [(.int 14 0), (.int 10 0), (.int 4 0), (.int 1 0), (.int 1 0), (.int 22 0), (.int 0 0), (.int 31 0), (.int 16 0), (.int 127 0), (.int 0 0), (.int 13 0), (.int 7 0), (.int 22 0), (.int 0 0), (.int 31 0), (.int 16 0), (.int 127 0), (.int 0 0), (.int 1 0)]) 0), (Array.mk [])⟩
noncomputable def v140 (P : Params) : Obj := ⟨(.type "re.Pattern"), none, (.fields (Array.mk [(.str (cs [91, 92, 120, 48, 48, 45, 92, 120, 49, 70, 92, 120, 55, 70, 93]) 2408), (.int 32 2431), (.int 0 0), .none, .none, (.ref 139), (.int 0 0)])), (Array.mk [])⟩
noncomputable def v141 (P : Params) : Obj := ⟨(.type "list"), none, (.seq (Array.mk [(.int 14 2436), (.int 14 2437), (.int 4 2438), (.int 1 2439), (.int 1 2440), (.int 9 2441), (.int 4294966783 2442), (.int 0 2443), (.int 0 2444), (.int 2147483648 2445), (.int 0 2446), (.int 0 2447), (.int 0 2448), (.int 0 2449), (.int 0 2450), (.int 13 2451), (.int 11 2452), (.int 9 2453), (.int 4294966783 2454), (.int 0 2455), (.int 0 2456), (.int 2147483648 2457), (.int 0 2458), (.int 0 2459), (.int 0 2460), (.int 0 2461), (.int 0 2462), (.int 1 2463)]) 0), (Array.mk [])⟩
noncomputable def v142 (P : Params) : Obj := ⟨(.type "dict"), none, (.dict (Array.mk []) 0), (Array.mk [])⟩
noncomputable def v143 (P : Params) : Obj := ⟨(.type "tuple"), none, (.seq (Array.mk [.none]) 0), (Array.mk [])⟩
noncomputable def v144 (P : Params) : Obj := ⟨(.type "tuple"), none, (.seq (Array.mk [(.int 14 0), (.int 14 0), (.int 4 0), (.int 1 0), (.int 1 0), (.int 9 0), (.int 4294966783 0), (.int 0 0), (.int 0 0), (.int 2147483648 0), (.int 0 0), (.int 0 0), (.int 0 0), (.int 0 0), (.int 0 0), (.int 13 0), (.int 11 0), (.int 9 0), (.int 4294966783 0), (.int 0 0), (.int 0 0), (.int 2147483648 0), (.int 0 0), (.int 0 0), (.int 0 0), (.int 0 0), (.int 0 0), (.int 1 0)]) 0), (Array.mk [])⟩
noncomputable def v145 (P : Params) : Obj := ⟨(.type "re.Pattern"), none, (.fields (Array.mk [(.str (cs [91, 92, 120, 48, 48, 45, 92, 120, 48, 56, 92, 120, 48, 65, 45, 92, 120, 49, 70, 92, 120, 55, 70, 93]) 2434), (.int 32 2465), (.int 0 0), .none, .none, (.ref 144), (.int 0 0)])), (Array.mk [])⟩
noncomputable def v146 (P : Params) : Obj := ⟨(.type "tuple"), none, (.seq (Array.mk [.none, (.int 1 2467)]) 0), (Array.mk [])⟩
noncomputable def v147 (P : Params) : Obj := ⟨(.type "tuple"), none, (.seq (Array.mk []) 0), (Array.mk [])⟩
noncomputable def v148 (P : Params) : Obj := ⟨.none, none, (.fields (Array.mk [])), (Array.mk [])⟩
noncomputable def v149 (P : Params) : Obj := ⟨(.type "tuple"), none, (.seq (Array.mk [(.str (cs [112, 97, 114, 97, 109]) 2471), (.str (cs [118, 97, 108, 117, 101]) 2472), (.str (cs [113, 117, 111, 116, 101]) 2473)]) 0), (Array.mk [])⟩
noncomputable def v150 (P : Params) : Obj := ⟨(.type "tuple"), none, (.seq (Array.mk []) 0), (Array.mk [])⟩
noncomputable def v151 (P : Params) : Obj := ⟨.none, none, (.func ⟨(cs [95, 102, 111, 114, 109, 97, 116, 112, 97, 114, 97, 109]), (cs [95, 102, 111, 114, 109, 97, 116, 112, 97, 114, 97, 109]), (fnRec 17 0).params, (.stmts (fnRec 17 0).body), (fnRec 17 0).scope, 0, [], .none, .none, .none, .none, none, .none, .none, 0⟩), (Array.mk [])⟩
noncomputable def v152 (P : Params) : Obj := ⟨(.type "code"), none, (.fields (Array.mk [(.str (cs [95, 102, 111, 114, 109, 97, 116, 112, 97, 114, 97, 109]) 2468), (.str (cs [95, 102, 111, 114, 109, 97, 116, 112, 97, 114, 97, 109]) 2469), (.str (cs [47, 99, 108, 97, 105, 109, 47, 99, 117, 116, 46, 112, 121]) 2470), (.int 82 0), (.int 3 0), (.int 0 0), (.int 0 0), (.int 3 0), (.ref 147), (.bool true), (.int 276 0), (.ref 148), .none, (.ref 149), (.ref 150), (.ref 151), (.int 2474 0), (.int 82 0), (.str (cs [47, 99, 108, 97, 105, 109, 47, 99, 117, 116, 46, 112, 121]) 2475)])), (Array.mk [])⟩
noncomputable def v153 (P : Params) : Obj := ⟨(.type "function"), none, (.func ⟨(cs [95, 102, 111, 114, 109, 97, 116, 112, 97, 114, 97, 109]), (cs [95, 102, 111, 114, 109, 97, 116, 112, 97, 114, 97, 109]), (fnRec 17 0).params, (.stmts (fnRec 17 0).body), (fnRec 17 0).scope, 3, [], (.ref 146), .none, .none, (.str (cs [99, 112, 121, 51, 49, 51, 46, 119, 115, 103, 105, 114, 101, 102, 46, 104, 101, 97, 100, 101, 114, 115]) 2371), none, (.ref 152), .none, 0⟩), (Array.mk [])⟩
noncomputable def v154 (P : Params) : Obj := ⟨(.type "tuple"), none, (.seq (Array.mk []) 0), (Array.mk [])⟩
noncomputable def v155 (P : Params) : Obj := ⟨(.type "builtin_function_or_method"), none, (.fields (Array.mk [(.builtin "type.__prepare__"), (.type "type")])), (Array.mk [])⟩
noncomputable def v156 (P : Params) : Obj := ⟨(.type "dict"), none, (.dict (Array.mk [⟨PyData.keyHash P (cs [95, 95, 109, 111, 100, 117, 108, 101, 95, 95]), (.str (cs [95, 95, 109, 111, 100, 117, 108, 101, 95, 95]) 2484), (.str (cs [99, 112, 121, 51, 49, 51, 46, 119, 115, 103, 105, 114, 101, 102, 46, 104, 101, 97, 100, 101, 114, 115]) 2371)⟩, ⟨PyData.keyHash P (cs [95, 95, 113, 117, 97, 108, 110, 97, 109, 101, 95, 95]), (.str (cs [95, 95, 113, 117, 97, 108, 110, 97, 109, 101, 95, 95]) 2486), (.str (cs [72, 101, 97, 100, 101, 114, 115]) 2485)⟩, ⟨PyData.keyHash P (cs [95, 95, 102, 105, 114, 115, 116, 108, 105, 110, 101, 110, 111, 95, 95]), (.str (cs [95, 95, 102, 105, 114, 115, 116, 108, 105, 110, 101, 110, 111, 95, 95]) 2488), (.int 91 2487)⟩, ⟨PyData.keyHash P (cs [95, 95, 105, 110, 105, 116, 95, 95]), (.str (cs [95, 95, 105, 110, 105, 116, 95, 95]) 2498), (.ref 168)⟩, ⟨PyData.keyHash P (cs [95, 99, 111, 110, 118, 101, 114, 116, 95, 115, 116, 114, 105, 110, 103, 95, 116, 121, 112, 101]), (.str (cs [95, 99, 111, 110, 118, 101, 114, 116, 95, 115, 116, 114, 105, 110, 103, 95, 116, 121, 112, 101]) 2508), (.ref 175)⟩, ⟨PyData.keyHash P (cs [95, 95, 108, 101, 110, 95, 95]), (.str (cs [95, 95, 108, 101, 110, 95, 95]) 2515), (.ref 182)⟩, ⟨PyData.keyHash P (cs [95, 95, 115, 101, 116, 105, 116, 101, 109, 95, 95]), (.str (cs [95, 95, 115, 101, 116, 105, 116, 101, 109, 95, 95]) 2524), (.ref 189)⟩, ⟨PyData.keyHash P (cs [95, 95, 100, 101, 108, 105, 116, 101, 109, 95, 95]), (.str (cs [95, 95, 100, 101, 108, 105, 116, 101, 109, 95, 95]) 2530), (.ref 194)⟩, ⟨PyData.keyHash P (cs [95, 95, 103, 101, 116, 105, 116, 101, 109, 95, 95]), (.str (cs [95, 95, 103, 101, 116, 105, 116, 101, 109, 95, 95]) 2538), (.ref 201)⟩, ⟨PyData.keyHash P (cs [95, 95, 99, 111, 110, 116, 97, 105, 110, 115, 95, 95]), (.str (cs [95, 95, 99, 111, 110, 116, 97, 105, 110, 115, 95, 95]) 2546), (.ref 208)⟩, ⟨PyData.keyHash P (cs [103, 101, 116, 95, 97, 108, 108]), (.str (cs [103, 101, 116, 95, 97, 108, 108]) 2552), (.ref 213)⟩, ⟨PyData.keyHash P (cs [103, 101, 116]), (.str (cs [103, 101, 116]) 2563), (.ref 221)⟩, ⟨PyData.keyHash P (cs [107, 101, 121, 115]), (.str (cs [107, 101, 121, 115]) 2569), (.ref 226)⟩, ⟨PyData.keyHash P (cs [118, 97, 108, 117, 101, 115]), (.str (cs [118, 97, 108, 117, 101, 115]) 2575), (.ref 231)⟩, ⟨PyData.keyHash P (cs [105, 116, 101, 109, 115]), (.str (cs [105, 116, 101, 109, 115]) 2582), (.ref 238)⟩, ⟨PyData.keyHash P (cs [95, 95, 114, 101, 112, 114, 95, 95]), (.str (cs [95, 95, 114, 101, 112, 114, 95, 95]) 2589), (.ref 245)⟩, ⟨PyData.keyHash P (cs [95, 95, 115, 116, 114, 95, 95]), (.str (cs [95, 95, 115, 116, 114, 95, 95]) 2595), (.ref 250)⟩, ⟨PyData.keyHash P (cs [95, 95, 98, 121, 116, 101, 115, 95, 95]), (.str (cs [95, 95, 98, 121, 116, 101, 115, 95, 95]) 2602), (.ref 257)⟩, ⟨PyData.keyHash P (cs [115, 101, 116, 100, 101, 102, 97, 117, 108, 116]), (.str (cs [115, 101, 116, 100, 101, 102, 97, 117, 108, 116]) 2611), (.ref 264)⟩, ⟨PyData.keyHash P (cs [97, 100, 100, 95, 104, 101, 97, 100, 101, 114]), (.str (cs [97, 100, 100, 95, 104, 101, 97, 100, 101, 114]) 2624), (.ref 271)⟩, ⟨PyData.keyHash P (cs [95, 95, 115, 116, 97, 116, 105, 99, 95, 97, 116, 116, 114, 105, 98, 117, 116, 101, 115, 95, 95]), (.str (cs [95, 95, 115, 116, 97, 116, 105, 99, 95, 97, 116, 116, 114, 105, 98, 117, 116, 101, 115, 95, 95]) 2626), (.ref 272)⟩]) 21), (Array.mk [])⟩
noncomputable def v157 (P : Params) : Obj := ⟨(.type "tuple"), none, (.seq (Array.mk []) 0), (Array.mk [])⟩
noncomputable def v158 (P : Params) : Obj := ⟨.none, none, (.fields (Array.mk [(.int 93 0), (.int 4 0), (.ref 167), (.int 103 0), (.int 4 0), (.ref 174), (.int 111 0), (.int 4 0), (.ref 181), (.int 114 0), (.int 4 0), (.ref 188), (.int 118 0), (.int 4 0), (.ref 193), (.int 122 0), (.int 4 0), (.ref 200), (.int 125 0), (.int 4 0), (.ref 207), (.int 128 0), (.int 4 0), (.ref 212), (.int 132 0), (.int 4 0), (.ref 220), (.int 139 0), (.int 4 0), (.ref 225), (.int 142 0), (.int 4 0), (.ref 230), (.int 145 0), (.int 4 0), (.ref 237), (.int 148 0), (.int 4 0), (.ref 244), (.int 151 0), (.int 4 0), (.ref 249), (.int 154 0), (.int 4 0), (.ref 256), (.int 157 0), (.int 4 0), (.ref 263), (.int 160 0), (.int 4 0), (.ref 270)])), (Array.mk [])⟩
noncomputable def v159 (P : Params) : Obj := ⟨(.type "code"), none, (.fields (Array.mk [(.str (cs [72, 101, 97, 100, 101, 114, 115]) 2479), (.str (cs [72, 101, 97, 100, 101, 114, 115]) 2480), (.str (cs [47, 99, 108, 97, 105, 109, 47, 99, 117, 116, 46, 112, 121]) 2481), (.int 91 0), (.int 0 0), (.int 0 0), (.int 0 0), (.int 0 0), (.ref 157), (.bool false), (.int 276 0), (.ref 158), .none, .none, .none, .none, (.int 2482 0), (.int 91 0), (.str (cs [47, 99, 108, 97, 105, 109, 47, 99, 117, 116, 46, 112, 121]) 2483)])), (Array.mk [])⟩
noncomputable def v160 (P : Params) : Obj := ⟨(.type "frame"), none, .plain, (Array.mk [(some (.ref 159)), (some (.ref 3)), (some (.ref 156)), none, (some (.str (cs [99, 112, 121, 51, 49, 51, 46, 119, 115, 103, 105, 114, 101, 102, 46, 104, 101, 97, 100, 101, 114, 115]) 2371)), none, (some (.ref 0))])⟩
noncomputable def v161 (P : Params) : Obj := ⟨(.type "tuple"), none, (.seq (Array.mk [.none]) 0), (Array.mk [])⟩
noncomputable def v162 (P : Params) : Obj := ⟨(.type "tuple"), none, (.seq (Array.mk []) 0), (Array.mk [])⟩
noncomputable def v163 (P : Params) : Obj := ⟨.none, none, (.fields (Array.mk [])), (Array.mk [])⟩
noncomputable def v164 (P : Params) : Obj := ⟨(.type "tuple"), none, (.seq (Array.mk [(.str (cs [115, 101, 108, 102]) 2492), (.str (cs [104, 101, 97, 100, 101, 114, 115]) 2493), (.str (cs [107]) 2494), (.str (cs [118]) 2495)]) 0), (Array.mk [])⟩
noncomputable def v165 (P : Params) : Obj := ⟨(.type "tuple"), none, (.seq (Array.mk []) 0), (Array.mk [])⟩
noncomputable def v166 (P : Params) : Obj := ⟨.none, none, (.func ⟨(cs [95, 95, 105, 110, 105, 116, 95, 95]), (cs [72, 101, 97, 100, 101, 114, 115, 46, 95, 95, 105, 110, 105, 116, 95, 95]), (mRec 0 0).params, (.stmts (mRec 0 0).body), (mRec 0 0).scope, 0, [], .none, .none, .none, .none, none, .none, .none, 0⟩), (Array.mk [])⟩
noncomputable def v167 (P : Params) : Obj := ⟨(.type "code"), none, (.fields (Array.mk [(.str (cs [95, 95, 105, 110, 105, 116, 95, 95]) 2489), (.str (cs [72, 101, 97, 100, 101, 114, 115, 46, 95, 95, 105, 110, 105, 116, 95, 95]) 2490), (.str (cs [47, 99, 108, 97, 105, 109, 47, 99, 117, 116, 46, 112, 121]) 2491), (.int 93 0), (.int 2 0), (.int 0 0), (.int 0 0), (.int 3 0), (.ref 162), (.bool true), (.int 276 0), (.ref 163), .none, (.ref 164), (.ref 165), (.ref 166), (.int 2496 0), (.int 93 0), (.str (cs [47, 99, 108, 97, 105, 109, 47, 99, 117, 116, 46, 112, 121]) 2497)])), (Array.mk [])⟩
noncomputable def v168 (P : Params) : Obj := ⟨(.type "function"), none, (.func ⟨(cs [95, 95, 105, 110, 105, 116, 95, 95]), (cs [72, 101, 97, 100, 101, 114, 115, 46, 95, 95, 105, 110, 105, 116, 95, 95]), (mRec 0 0).params, (.stmts (mRec 0 0).body), (mRec 0 0).scope, 3, [], (.ref 161), .none, .none, (.str (cs [99, 112, 121, 51, 49, 51, 46, 119, 115, 103, 105, 114, 101, 102, 46, 104, 101, 97, 100, 101, 114, 115]) 2371), none, (.ref 167), .none, 0⟩), (Array.mk [])⟩
noncomputable def v169 (P : Params) : Obj := ⟨(.type "tuple"), none, (.seq (Array.mk []) 0), (Array.mk [])⟩
noncomputable def v170 (P : Params) : Obj := ⟨.none, none, (.fields (Array.mk [])), (Array.mk [])⟩
noncomputable def v171 (P : Params) : Obj := ⟨(.type "tuple"), none, (.seq (Array.mk [(.str (cs [115, 101, 108, 102]) 2502), (.str (cs [118, 97, 108, 117, 101]) 2503), (.str (cs [110, 97, 109, 101]) 2504), (.str (cs [114, 101, 103, 101, 120]) 2505)]) 0), (Array.mk [])⟩
noncomputable def v172 (P : Params) : Obj := ⟨(.type "tuple"), none, (.seq (Array.mk []) 0), (Array.mk [])⟩
noncomputable def v173 (P : Params) : Obj := ⟨.none, none, (.func ⟨(cs [95, 99, 111, 110, 118, 101, 114, 116, 95, 115, 116, 114, 105, 110, 103, 95, 116, 121, 112, 101]), (cs [72, 101, 97, 100, 101, 114, 115, 46, 95, 99, 111, 110, 118, 101, 114, 116, 95, 115, 116, 114, 105, 110, 103, 95, 116, 121, 112, 101]), (mRec 1 0).params, (.stmts (mRec 1 0).body), (mRec 1 0).scope, 0, [], .none, .none, .none, .none, none, .none, .none, 0⟩), (Array.mk [])⟩
noncomputable def v174 (P : Params) : Obj := ⟨(.type "code"), none, (.fields (Array.mk [(.str (cs [95, 99, 111, 110, 118, 101, 114, 116, 95, 115, 116, 114, 105, 110, 103, 95, 116, 121, 112, 101]) 2499), (.str (cs [72, 101, 97, 100, 101, 114, 115, 46, 95, 99, 111, 110, 118, 101, 114, 116, 95, 115, 116, 114, 105, 110, 103, 95, 116, 121, 112, 101]) 2500), (.str (cs [47, 99, 108, 97, 105, 109, 47, 99, 117, 116, 46, 112, 121]) 2501), (.int 103 0), (.int 2 0), (.int 0 0), (.int 1 0), (.int 3 0), (.ref 169), (.bool true), (.int 276 0), (.ref 170), .none, (.ref 171), (.ref 172), (.ref 173), (.int 2506 0), (.int 103 0), (.str (cs [47, 99, 108, 97, 105, 109, 47, 99, 117, 116, 46, 112, 121]) 2507)])), (Array.mk [])⟩
noncomputable def v175 (P : Params) : Obj := ⟨(.type "function"), none, (.func ⟨(cs [95, 99, 111, 110, 118, 101, 114, 116, 95, 115, 116, 114, 105, 110, 103, 95, 116, 121, 112, 101]), (cs [72, 101, 97, 100, 101, 114, 115, 46, 95, 99, 111, 110, 118, 101, 114, 116, 95, 115, 116, 114, 105, 110, 103, 95, 116, 121, 112, 101]), (mRec 1 0).params, (.stmts (mRec 1 0).body), (mRec 1 0).scope, 3, [], .none, .none, .none, (.str (cs [99, 112, 121, 51, 49, 51, 46, 119, 115, 103, 105, 114, 101, 102, 46, 104, 101, 97, 100, 101, 114, 115]) 2371), none, (.ref 174), .none, 0⟩), (Array.mk [])⟩
noncomputable def v176 (P : Params) : Obj := ⟨(.type "tuple"), none, (.seq (Array.mk []) 0), (Array.mk [])⟩
noncomputable def v177 (P : Params) : Obj := ⟨.none, none, (.fields (Array.mk [])), (Array.mk [])⟩
noncomputable def v178 (P : Params) : Obj := ⟨(.type "tuple"), none, (.seq (Array.mk [(.str (cs [115, 101, 108, 102]) 2512)]) 0), (Array.mk [])⟩
noncomputable def v179 (P : Params) : Obj := ⟨(.type "tuple"), none, (.seq (Array.mk []) 0), (Array.mk [])⟩
noncomputable def v180 (P : Params) : Obj := ⟨.none, none, (.func ⟨(cs [95, 95, 108, 101, 110, 95, 95]), (cs [72, 101, 97, 100, 101, 114, 115, 46, 95, 95, 108, 101, 110, 95, 95]), (mRec 2 0).params, (.stmts (mRec 2 0).body), (mRec 2 0).scope, 0, [], .none, .none, .none, .none, none, .none, .none, 0⟩), (Array.mk [])⟩
noncomputable def v181 (P : Params) : Obj := ⟨(.type "code"), none, (.fields (Array.mk [(.str (cs [95, 95, 108, 101, 110, 95, 95]) 2509), (.str (cs [72, 101, 97, 100, 101, 114, 115, 46, 95, 95, 108, 101, 110, 95, 95]) 2510), (.str (cs [47, 99, 108, 97, 105, 109, 47, 99, 117, 116, 46, 112, 121]) 2511), (.int 111 0), (.int 1 0), (.int 0 0), (.int 0 0), (.int 3 0), (.ref 176), (.bool true), (.int 276 0), (.ref 177), .none, (.ref 178), (.ref 179), (.ref 180), (.int 2513 0), (.int 111 0), (.str (cs [47, 99, 108, 97, 105, 109, 47, 99, 117, 116, 46, 112, 121]) 2514)])), (Array.mk [])⟩
noncomputable def v182 (P : Params) : Obj := ⟨(.type "function"), none, (.func ⟨(cs [95, 95, 108, 101, 110, 95, 95]), (cs [72, 101, 97, 100, 101, 114, 115, 46, 95, 95, 108, 101, 110, 95, 95]), (mRec 2 0).params, (.stmts (mRec 2 0).body), (mRec 2 0).scope, 3, [], .none, .none, .none, (.str (cs [99, 112, 121, 51, 49, 51, 46, 119, 115, 103, 105, 114, 101, 102, 46, 104, 101, 97, 100, 101, 114, 115]) 2371), none, (.ref 181), .none, 0⟩), (Array.mk [])⟩
noncomputable def v183 (P : Params) : Obj := ⟨(.type "tuple"), none, (.seq (Array.mk []) 0), (Array.mk [])⟩
noncomputable def v184 (P : Params) : Obj := ⟨.none, none, (.fields (Array.mk [])), (Array.mk [])⟩
noncomputable def v185 (P : Params) : Obj := ⟨(.type "tuple"), none, (.seq (Array.mk [(.str (cs [115, 101, 108, 102]) 2519), (.str (cs [110, 97, 109, 101]) 2520), (.str (cs [118, 97, 108]) 2521)]) 0), (Array.mk [])⟩
noncomputable def v186 (P : Params) : Obj := ⟨(.type "tuple"), none, (.seq (Array.mk []) 0), (Array.mk [])⟩
noncomputable def v187 (P : Params) : Obj := ⟨.none, none, (.func ⟨(cs [95, 95, 115, 101, 116, 105, 116, 101, 109, 95, 95]), (cs [72, 101, 97, 100, 101, 114, 115, 46, 95, 95, 115, 101, 116, 105, 116, 101, 109, 95, 95]), (mRec 3 0).params, (.stmts (mRec 3 0).body), (mRec 3 0).scope, 0, [], .none, .none, .none, .none, none, .none, .none, 0⟩), (Array.mk [])⟩
noncomputable def v188 (P : Params) : Obj := ⟨(.type "code"), none, (.fields (Array.mk [(.str (cs [95, 95, 115, 101, 116, 105, 116, 101, 109, 95, 95]) 2516), (.str (cs [72, 101, 97, 100, 101, 114, 115, 46, 95, 95, 115, 101, 116, 105, 116, 101, 109, 95, 95]) 2517), (.str (cs [47, 99, 108, 97, 105, 109, 47, 99, 117, 116, 46, 112, 121]) 2518), (.int 114 0), (.int 3 0), (.int 0 0), (.int 0 0), (.int 3 0), (.ref 183), (.bool true), (.int 276 0), (.ref 184), .none, (.ref 185), (.ref 186), (.ref 187), (.int 2522 0), (.int 114 0), (.str (cs [47, 99, 108, 97, 105, 109, 47, 99, 117, 116, 46, 112, 121]) 2523)])), (Array.mk [])⟩
noncomputable def v189 (P : Params) : Obj := ⟨(.type "function"), none, (.func ⟨(cs [95, 95, 115, 101, 116, 105, 116, 101, 109, 95, 95]), (cs [72, 101, 97, 100, 101, 114, 115, 46, 95, 95, 115, 101, 116, 105, 116, 101, 109, 95, 95]), (mRec 3 0).params, (.stmts (mRec 3 0).body), (mRec 3 0).scope, 3, [], .none, .none, .none, (.str (cs [99, 112, 121, 51, 49, 51, 46, 119, 115, 103, 105, 114, 101, 102, 46, 104, 101, 97, 100, 101, 114, 115]) 2371), none, (.ref 188), .none, 0⟩), (Array.mk [])⟩
noncomputable def v190 (P : Params) : Obj := ⟨(.type "tuple"), none, (.seq (Array.mk []) 0), (Array.mk [])⟩
noncomputable def v191 (P : Params) : Obj := ⟨.none, none, (.fields (Array.mk [])), (Array.mk [])⟩
noncomputable def v192 (P : Params) : Obj := ⟨.none, none, (.func ⟨(cs [95, 95, 100, 101, 108, 105, 116, 101, 109, 95, 95]), (cs [72, 101, 97, 100, 101, 114, 115, 46, 95, 95, 100, 101, 108, 105, 116, 101, 109, 95, 95]), (mRec 4 0).params, (.stmts (mRec 4 0).body), (mRec 4 0).scope, 0, [], .none, .none, .none, .none, none, .none, .none, 0⟩), (Array.mk [])⟩
noncomputable def v193 (P : Params) : Obj := ⟨(.type "code"), none, (.fields (Array.mk [(.str (cs [95, 95, 100, 101, 108, 105, 116, 101, 109, 95, 95]) 2525), (.str (cs [72, 101, 97, 100, 101, 114, 115, 46, 95, 95, 100, 101, 108, 105, 116, 101, 109, 95, 95]) 2526), (.str (cs [47, 99, 108, 97, 105, 109, 47, 99, 117, 116, 46, 112, 121]) 2527), (.int 118 0), (.int 2 0), (.int 0 0), (.int 0 0), (.int 3 0), (.ref 190), (.bool true), (.int 276 0), (.ref 191), .none, .none, .none, (.ref 192), (.int 2528 0), (.int 118 0), (.str (cs [47, 99, 108, 97, 105, 109, 47, 99, 117, 116, 46, 112, 121]) 2529)])), (Array.mk [])⟩
noncomputable def v194 (P : Params) : Obj := ⟨(.type "function"), none, (.func ⟨(cs [95, 95, 100, 101, 108, 105, 116, 101, 109, 95, 95]), (cs [72, 101, 97, 100, 101, 114, 115, 46, 95, 95, 100, 101, 108, 105, 116, 101, 109, 95, 95]), (mRec 4 0).params, (.stmts (mRec 4 0).body), (mRec 4 0).scope, 3, [], .none, .none, .none, (.str (cs [99, 112, 121, 51, 49, 51, 46, 119, 115, 103, 105, 114, 101, 102, 46, 104, 101, 97, 100, 101, 114, 115]) 2371), none, (.ref 193), .none, 0⟩), (Array.mk [])⟩
noncomputable def v195 (P : Params) : Obj := ⟨(.type "tuple"), none, (.seq (Array.mk []) 0), (Array.mk [])⟩
noncomputable def v196 (P : Params) : Obj := ⟨.none, none, (.fields (Array.mk [])), (Array.mk [])⟩
noncomputable def v197 (P : Params) : Obj := ⟨(.type "tuple"), none, (.seq (Array.mk [(.str (cs [115, 101, 108, 102]) 2534), (.str (cs [110, 97, 109, 101]) 2535)]) 0), (Array.mk [])⟩
noncomputable def v198 (P : Params) : Obj := ⟨(.type "tuple"), none, (.seq (Array.mk []) 0), (Array.mk [])⟩
noncomputable def v199 (P : Params) : Obj := ⟨.none, none, (.func ⟨(cs [95, 95, 103, 101, 116, 105, 116, 101, 109, 95, 95]), (cs [72, 101, 97, 100, 101, 114, 115, 46, 95, 95, 103, 101, 116, 105, 116, 101, 109, 95, 95]), (mRec 5 0).params, (.stmts (mRec 5 0).body), (mRec 5 0).scope, 0, [], .none, .none, .none, .none, none, .none, .none, 0⟩), (Array.mk [])⟩
noncomputable def v200 (P : Params) : Obj := ⟨(.type "code"), none, (.fields (Array.mk [(.str (cs [95, 95, 103, 101, 116, 105, 116, 101, 109, 95, 95]) 2531), (.str (cs [72, 101, 97, 100, 101, 114, 115, 46, 95, 95, 103, 101, 116, 105, 116, 101, 109, 95, 95]) 2532), (.str (cs [47, 99, 108, 97, 105, 109, 47, 99, 117, 116, 46, 112, 121]) 2533), (.int 122 0), (.int 2 0), (.int 0 0), (.int 0 0), (.int 3 0), (.ref 195), (.bool true), (.int 276 0), (.ref 196), .none, (.ref 197), (.ref 198), (.ref 199), (.int 2536 0), (.int 122 0), (.str (cs [47, 99, 108, 97, 105, 109, 47, 99, 117, 116, 46, 112, 121]) 2537)])), (Array.mk [])⟩
noncomputable def v201 (P : Params) : Obj := ⟨(.type "function"), none, (.func ⟨(cs [95, 95, 103, 101, 116, 105, 116, 101, 109, 95, 95]), (cs [72, 101, 97, 100, 101, 114, 115, 46, 95, 95, 103, 101, 116, 105, 116, 101, 109, 95, 95]), (mRec 5 0).params, (.stmts (mRec 5 0).body), (mRec 5 0).scope, 3, [], .none, .none, .none, (.str (cs [99, 112, 121, 51, 49, 51, 46, 119, 115, 103, 105, 114, 101, 102, 46, 104, 101, 97, 100, 101, 114, 115]) 2371), none, (.ref 200), .none, 0⟩), (Array.mk [])⟩
noncomputable def v202 (P : Params) : Obj := ⟨(.type "tuple"), none, (.seq (Array.mk []) 0), (Array.mk [])⟩
noncomputable def v203 (P : Params) : Obj := ⟨.none, none, (.fields (Array.mk [])), (Array.mk [])⟩
noncomputable def v204 (P : Params) : Obj := ⟨(.type "tuple"), none, (.seq (Array.mk [(.str (cs [115, 101, 108, 102]) 2542), (.str (cs [110, 97, 109, 101]) 2543)]) 0), (Array.mk [])⟩
noncomputable def v205 (P : Params) : Obj := ⟨(.type "tuple"), none, (.seq (Array.mk []) 0), (Array.mk [])⟩
noncomputable def v206 (P : Params) : Obj := ⟨.none, none, (.func ⟨(cs [95, 95, 99, 111, 110, 116, 97, 105, 110, 115, 95, 95]), (cs [72, 101, 97, 100, 101, 114, 115, 46, 95, 95, 99, 111, 110, 116, 97, 105, 110, 115, 95, 95]), (mRec 6 0).params, (.stmts (mRec 6 0).body), (mRec 6 0).scope, 0, [], .none, .none, .none, .none, none, .none, .none, 0⟩), (Array.mk [])⟩
noncomputable def v207 (P : Params) : Obj := ⟨(.type "code"), none, (.fields (Array.mk [(.str (cs [95, 95, 99, 111, 110, 116, 97, 105, 110, 115, 95, 95]) 2539), (.str (cs [72, 101, 97, 100, 101, 114, 115, 46, 95, 95, 99, 111, 110, 116, 97, 105, 110, 115, 95, 95]) 2540), (.str (cs [47, 99, 108, 97, 105, 109, 47, 99, 117, 116, 46, 112, 121]) 2541), (.int 125 0), (.int 2 0), (.int 0 0), (.int 0 0), (.int 3 0), (.ref 202), (.bool true), (.int 276 0), (.ref 203), .none, (.ref 204), (.ref 205), (.ref 206), (.int 2544 0), (.int 125 0), (.str (cs [47, 99, 108, 97, 105, 109, 47, 99, 117, 116, 46, 112, 121]) 2545)])), (Array.mk [])⟩
noncomputable def v208 (P : Params) : Obj := ⟨(.type "function"), none, (.func ⟨(cs [95, 95, 99, 111, 110, 116, 97, 105, 110, 115, 95, 95]), (cs [72, 101, 97, 100, 101, 114, 115, 46, 95, 95, 99, 111, 110, 116, 97, 105, 110, 115, 95, 95]), (mRec 6 0).params, (.stmts (mRec 6 0).body), (mRec 6 0).scope, 3, [], .none, .none, .none, (.str (cs [99, 112, 121, 51, 49, 51, 46, 119, 115, 103, 105, 114, 101, 102, 46, 104, 101, 97, 100, 101, 114, 115]) 2371), none, (.ref 207), .none, 0⟩), (Array.mk [])⟩
noncomputable def v209 (P : Params) : Obj := ⟨(.type "tuple"), none, (.seq (Array.mk []) 0), (Array.mk [])⟩
noncomputable def v210 (P : Params) : Obj := ⟨.none, none, (.fields (Array.mk [])), (Array.mk [])⟩
noncomputable def v211 (P : Params) : Obj := ⟨.none, none, (.func ⟨(cs [103, 101, 116, 95, 97, 108, 108]), (cs [72, 101, 97, 100, 101, 114, 115, 46, 103, 101, 116, 95, 97, 108, 108]), (mRec 7 0).params, (.stmts (mRec 7 0).body), (mRec 7 0).scope, 0, [], .none, .none, .none, .none, none, .none, .none, 0⟩), (Array.mk [])⟩
noncomputable def v212 (P : Params) : Obj := ⟨(.type "code"), none, (.fields (Array.mk [(.str (cs [103, 101, 116, 95, 97, 108, 108]) 2547), (.str (cs [72, 101, 97, 100, 101, 114, 115, 46, 103, 101, 116, 95, 97, 108, 108]) 2548), (.str (cs [47, 99, 108, 97, 105, 109, 47, 99, 117, 116, 46, 112, 121]) 2549), (.int 128 0), (.int 2 0), (.int 0 0), (.int 0 0), (.int 3 0), (.ref 209), (.bool true), (.int 276 0), (.ref 210), .none, .none, .none, (.ref 211), (.int 2550 0), (.int 128 0), (.str (cs [47, 99, 108, 97, 105, 109, 47, 99, 117, 116, 46, 112, 121]) 2551)])), (Array.mk [])⟩
noncomputable def v213 (P : Params) : Obj := ⟨(.type "function"), none, (.func ⟨(cs [103, 101, 116, 95, 97, 108, 108]), (cs [72, 101, 97, 100, 101, 114, 115, 46, 103, 101, 116, 95, 97, 108, 108]), (mRec 7 0).params, (.stmts (mRec 7 0).body), (mRec 7 0).scope, 3, [], .none, .none, .none, (.str (cs [99, 112, 121, 51, 49, 51, 46, 119, 115, 103, 105, 114, 101, 102, 46, 104, 101, 97, 100, 101, 114, 115]) 2371), none, (.ref 212), .none, 0⟩), (Array.mk [])⟩
noncomputable def v214 (P : Params) : Obj := ⟨(.type "tuple"), none, (.seq (Array.mk [.none]) 0), (Array.mk [])⟩
noncomputable def v215 (P : Params) : Obj := ⟨(.type "tuple"), none, (.seq (Array.mk []) 0), (Array.mk [])⟩
noncomputable def v216 (P : Params) : Obj := ⟨.none, none, (.fields (Array.mk [])), (Array.mk [])⟩
noncomputable def v217 (P : Params) : Obj := ⟨(.type "tuple"), none, (.seq (Array.mk [(.str (cs [115, 101, 108, 102]) 2556), (.str (cs [110, 97, 109, 101]) 2557), (.str (cs [100, 101, 102, 97, 117, 108, 116]) 2558), (.str (cs [107]) 2559), (.str (cs [118]) 2560)]) 0), (Array.mk [])⟩
noncomputable def v218 (P : Params) : Obj := ⟨(.type "tuple"), none, (.seq (Array.mk []) 0), (Array.mk [])⟩
noncomputable def v219 (P : Params) : Obj := ⟨.none, none, (.func ⟨(cs [103, 101, 116]), (cs [72, 101, 97, 100, 101, 114, 115, 46, 103, 101, 116]), (mRec 8 0).params, (.stmts (mRec 8 0).body), (mRec 8 0).scope, 0, [], .none, .none, .none, .none, none, .none, .none, 0⟩), (Array.mk [])⟩
noncomputable def v220 (P : Params) : Obj := ⟨(.type "code"), none, (.fields (Array.mk [(.str (cs [103, 101, 116]) 2553), (.str (cs [72, 101, 97, 100, 101, 114, 115, 46, 103, 101, 116]) 2554), (.str (cs [47, 99, 108, 97, 105, 109, 47, 99, 117, 116, 46, 112, 121]) 2555), (.int 132 0), (.int 3 0), (.int 0 0), (.int 0 0), (.int 3 0), (.ref 215), (.bool true), (.int 276 0), (.ref 216), .none, (.ref 217), (.ref 218), (.ref 219), (.int 2561 0), (.int 132 0), (.str (cs [47, 99, 108, 97, 105, 109, 47, 99, 117, 116, 46, 112, 121]) 2562)])), (Array.mk [])⟩
noncomputable def v221 (P : Params) : Obj := ⟨(.type "function"), none, (.func ⟨(cs [103, 101, 116]), (cs [72, 101, 97, 100, 101, 114, 115, 46, 103, 101, 116]), (mRec 8 0).params, (.stmts (mRec 8 0).body), (mRec 8 0).scope, 3, [], (.ref 214), .none, .none, (.str (cs [99, 112, 121, 51, 49, 51, 46, 119, 115, 103, 105, 114, 101, 102, 46, 104, 101, 97, 100, 101, 114, 115]) 2371), none, (.ref 220), .none, 0⟩), (Array.mk [])⟩
noncomputable def v222 (P : Params) : Obj := ⟨(.type "tuple"), none, (.seq (Array.mk []) 0), (Array.mk [])⟩
noncomputable def v223 (P : Params) : Obj := ⟨.none, none, (.fields (Array.mk [])), (Array.mk [])⟩
noncomputable def v224 (P : Params) : Obj := ⟨.none, none, (.func ⟨(cs [107, 101, 121, 115]), (cs [72, 101, 97, 100, 101, 114, 115, 46, 107, 101, 121, 115]), (mRec 9 0).params, (.stmts (mRec 9 0).body), (mRec 9 0).scope, 0, [], .none, .none, .none, .none, none, .none, .none, 0⟩), (Array.mk [])⟩
noncomputable def v225 (P : Params) : Obj := ⟨(.type "code"), none, (.fields (Array.mk [(.str (cs [107, 101, 121, 115]) 2564), (.str (cs [72, 101, 97, 100, 101, 114, 115, 46, 107, 101, 121, 115]) 2565), (.str (cs [47, 99, 108, 97, 105, 109, 47, 99, 117, 116, 46, 112, 121]) 2566), (.int 139 0), (.int 1 0), (.int 0 0), (.int 0 0), (.int 3 0), (.ref 222), (.bool true), (.int 276 0), (.ref 223), .none, .none, .none, (.ref 224), (.int 2567 0), (.int 139 0), (.str (cs [47, 99, 108, 97, 105, 109, 47, 99, 117, 116, 46, 112, 121]) 2568)])), (Array.mk [])⟩
noncomputable def v226 (P : Params) : Obj := ⟨(.type "function"), none, (.func ⟨(cs [107, 101, 121, 115]), (cs [72, 101, 97, 100, 101, 114, 115, 46, 107, 101, 121, 115]), (mRec 9 0).params, (.stmts (mRec 9 0).body), (mRec 9 0).scope, 3, [], .none, .none, .none, (.str (cs [99, 112, 121, 51, 49, 51, 46, 119, 115, 103, 105, 114, 101, 102, 46, 104, 101, 97, 100, 101, 114, 115]) 2371), none, (.ref 225), .none, 0⟩), (Array.mk [])⟩
noncomputable def v227 (P : Params) : Obj := ⟨(.type "tuple"), none, (.seq (Array.mk []) 0), (Array.mk [])⟩
noncomputable def v228 (P : Params) : Obj := ⟨.none, none, (.fields (Array.mk [])), (Array.mk [])⟩
noncomputable def v229 (P : Params) : Obj := ⟨.none, none, (.func ⟨(cs [118, 97, 108, 117, 101, 115]), (cs [72, 101, 97, 100, 101, 114, 115, 46, 118, 97, 108, 117, 101, 115]), (mRec 10 0).params, (.stmts (mRec 10 0).body), (mRec 10 0).scope, 0, [], .none, .none, .none, .none, none, .none, .none, 0⟩), (Array.mk [])⟩
noncomputable def v230 (P : Params) : Obj := ⟨(.type "code"), none, (.fields (Array.mk [(.str (cs [118, 97, 108, 117, 101, 115]) 2570), (.str (cs [72, 101, 97, 100, 101, 114, 115, 46, 118, 97, 108, 117, 101, 115]) 2571), (.str (cs [47, 99, 108, 97, 105, 109, 47, 99, 117, 116, 46, 112, 121]) 2572), (.int 142 0), (.int 1 0), (.int 0 0), (.int 0 0), (.int 3 0), (.ref 227), (.bool true), (.int 276 0), (.ref 228), .none, .none, .none, (.ref 229), (.int 2573 0), (.int 142 0), (.str (cs [47, 99, 108, 97, 105, 109, 47, 99, 117, 116, 46, 112, 121]) 2574)])), (Array.mk [])⟩
noncomputable def v231 (P : Params) : Obj := ⟨(.type "function"), none, (.func ⟨(cs [118, 97, 108, 117, 101, 115]), (cs [72, 101, 97, 100, 101, 114, 115, 46, 118, 97, 108, 117, 101, 115]), (mRec 10 0).params, (.stmts (mRec 10 0).body), (mRec 10 0).scope, 3, [], .none, .none, .none, (.str (cs [99, 112, 121, 51, 49, 51, 46, 119, 115, 103, 105, 114, 101, 102, 46, 104, 101, 97, 100, 101, 114, 115]) 2371), none, (.ref 230), .none, 0⟩), (Array.mk [])⟩
noncomputable def v232 (P : Params) : Obj := ⟨(.type "tuple"), none, (.seq (Array.mk []) 0), (Array.mk [])⟩
noncomputable def v233 (P : Params) : Obj := ⟨.none, none, (.fields (Array.mk [])), (Array.mk [])⟩
noncomputable def v234 (P : Params) : Obj := ⟨(.type "tuple"), none, (.seq (Array.mk [(.str (cs [115, 101, 108, 102]) 2579)]) 0), (Array.mk [])⟩
noncomputable def v235 (P : Params) : Obj := ⟨(.type "tuple"), none, (.seq (Array.mk []) 0), (Array.mk [])⟩
noncomputable def v236 (P : Params) : Obj := ⟨.none, none, (.func ⟨(cs [105, 116, 101, 109, 115]), (cs [72, 101, 97, 100, 101, 114, 115, 46, 105, 116, 101, 109, 115]), (mRec 11 0).params, (.stmts (mRec 11 0).body), (mRec 11 0).scope, 0, [], .none, .none, .none, .none, none, .none, .none, 0⟩), (Array.mk [])⟩
noncomputable def v237 (P : Params) : Obj := ⟨(.type "code"), none, (.fields (Array.mk [(.str (cs [105, 116, 101, 109, 115]) 2576), (.str (cs [72, 101, 97, 100, 101, 114, 115, 46, 105, 116, 101, 109, 115]) 2577), (.str (cs [47, 99, 108, 97, 105, 109, 47, 99, 117, 116, 46, 112, 121]) 2578), (.int 145 0), (.int 1 0), (.int 0 0), (.int 0 0), (.int 3 0), (.ref 232), (.bool true), (.int 276 0), (.ref 233), .none, (.ref 234), (.ref 235), (.ref 236), (.int 2580 0), (.int 145 0), (.str (cs [47, 99, 108, 97, 105, 109, 47, 99, 117, 116, 46, 112, 121]) 2581)])), (Array.mk [])⟩
noncomputable def v238 (P : Params) : Obj := ⟨(.type "function"), none, (.func ⟨(cs [105, 116, 101, 109, 115]), (cs [72, 101, 97, 100, 101, 114, 115, 46, 105, 116, 101, 109, 115]), (mRec 11 0).params, (.stmts (mRec 11 0).body), (mRec 11 0).scope, 3, [], .none, .none, .none, (.str (cs [99, 112, 121, 51, 49, 51, 46, 119, 115, 103, 105, 114, 101, 102, 46, 104, 101, 97, 100, 101, 114, 115]) 2371), none, (.ref 237), .none, 0⟩), (Array.mk [])⟩
noncomputable def v239 (P : Params) : Obj := ⟨(.type "tuple"), none, (.seq (Array.mk []) 0), (Array.mk [])⟩
noncomputable def v240 (P : Params) : Obj := ⟨.none, none, (.fields (Array.mk [])), (Array.mk [])⟩
noncomputable def v241 (P : Params) : Obj := ⟨(.type "tuple"), none, (.seq (Array.mk [(.str (cs [115, 101, 108, 102]) 2586)]) 0), (Array.mk [])⟩
noncomputable def v242 (P : Params) : Obj := ⟨(.type "tuple"), none, (.seq (Array.mk []) 0), (Array.mk [])⟩
noncomputable def v243 (P : Params) : Obj := ⟨.none, none, (.func ⟨(cs [95, 95, 114, 101, 112, 114, 95, 95]), (cs [72, 101, 97, 100, 101, 114, 115, 46, 95, 95, 114, 101, 112, 114, 95, 95]), (mRec 12 0).params, (.stmts (mRec 12 0).body), (mRec 12 0).scope, 0, [], .none, .none, .none, .none, none, .none, .none, 0⟩), (Array.mk [])⟩
noncomputable def v244 (P : Params) : Obj := ⟨(.type "code"), none, (.fields (Array.mk [(.str (cs [95, 95, 114, 101, 112, 114, 95, 95]) 2583), (.str (cs [72, 101, 97, 100, 101, 114, 115, 46, 95, 95, 114, 101, 112, 114, 95, 95]) 2584), (.str (cs [47, 99, 108, 97, 105, 109, 47, 99, 117, 116, 46, 112, 121]) 2585), (.int 148 0), (.int 1 0), (.int 0 0), (.int 0 0), (.int 3 0), (.ref 239), (.bool true), (.int 276 0), (.ref 240), .none, (.ref 241), (.ref 242), (.ref 243), (.int 2587 0), (.int 148 0), (.str (cs [47, 99, 108, 97, 105, 109, 47, 99, 117, 116, 46, 112, 121]) 2588)])), (Array.mk [])⟩
noncomputable def v245 (P : Params) : Obj := ⟨(.type "function"), none, (.func ⟨(cs [95, 95, 114, 101, 112, 114, 95, 95]), (cs [72, 101, 97, 100, 101, 114, 115, 46, 95, 95, 114, 101, 112, 114, 95, 95]), (mRec 12 0).params, (.stmts (mRec 12 0).body), (mRec 12 0).scope, 3, [], .none, .none, .none, (.str (cs [99, 112, 121, 51, 49, 51, 46, 119, 115, 103, 105, 114, 101, 102, 46, 104, 101, 97, 100, 101, 114, 115]) 2371), none, (.ref 244), .none, 0⟩), (Array.mk [])⟩
noncomputable def v246 (P : Params) : Obj := ⟨(.type "tuple"), none, (.seq (Array.mk []) 0), (Array.mk [])⟩
noncomputable def v247 (P : Params) : Obj := ⟨.none, none, (.fields (Array.mk [])), (Array.mk [])⟩
noncomputable def v248 (P : Params) : Obj := ⟨.none, none, (.func ⟨(cs [95, 95, 115, 116, 114, 95, 95]), (cs [72, 101, 97, 100, 101, 114, 115, 46, 95, 95, 115, 116, 114, 95, 95]), (mRec 13 0).params, (.stmts (mRec 13 0).body), (mRec 13 0).scope, 0, [], .none, .none, .none, .none, none, .none, .none, 0⟩), (Array.mk [])⟩
noncomputable def v249 (P : Params) : Obj := ⟨(.type "code"), none, (.fields (Array.mk [(.str (cs [95, 95, 115, 116, 114, 95, 95]) 2590), (.str (cs [72, 101, 97, 100, 101, 114, 115, 46, 95, 95, 115, 116, 114, 95, 95]) 2591), (.str (cs [47, 99, 108, 97, 105, 109, 47, 99, 117, 116, 46, 112, 121]) 2592), (.int 151 0), (.int 1 0), (.int 0 0), (.int 0 0), (.int 3 0), (.ref 246), (.bool true), (.int 276 0), (.ref 247), .none, .none, .none, (.ref 248), (.int 2593 0), (.int 151 0), (.str (cs [47, 99, 108, 97, 105, 109, 47, 99, 117, 116, 46, 112, 121]) 2594)])), (Array.mk [])⟩
noncomputable def v250 (P : Params) : Obj := ⟨(.type "function"), none, (.func ⟨(cs [95, 95, 115, 116, 114, 95, 95]), (cs [72, 101, 97, 100, 101, 114, 115, 46, 95, 95, 115, 116, 114, 95, 95]), (mRec 13 0).params, (.stmts (mRec 13 0).body), (mRec 13 0).scope, 3, [], .none, .none, .none, (.str (cs [99, 112, 121, 51, 49, 51, 46, 119, 115, 103, 105, 114, 101, 102, 46, 104, 101, 97, 100, 101, 114, 115]) 2371), none, (.ref 249), .none, 0⟩), (Array.mk [])⟩
noncomputable def v251 (P : Params) : Obj := ⟨(.type "tuple"), none, (.seq (Array.mk []) 0), (Array.mk [])⟩
noncomputable def v252 (P : Params) : Obj := ⟨.none, none, (.fields (Array.mk [])), (Array.mk [])⟩
noncomputable def v253 (P : Params) : Obj := ⟨(.type "tuple"), none, (.seq (Array.mk [(.str (cs [115, 101, 108, 102]) 2599)]) 0), (Array.mk [])⟩
noncomputable def v254 (P : Params) : Obj := ⟨(.type "tuple"), none, (.seq (Array.mk []) 0), (Array.mk [])⟩
noncomputable def v255 (P : Params) : Obj := ⟨.none, none, (.func ⟨(cs [95, 95, 98, 121, 116, 101, 115, 95, 95]), (cs [72, 101, 97, 100, 101, 114, 115, 46, 95, 95, 98, 121, 116, 101, 115, 95, 95]), (mRec 14 0).params, (.stmts (mRec 14 0).body), (mRec 14 0).scope, 0, [], .none, .none, .none, .none, none, .none, .none, 0⟩), (Array.mk [])⟩
noncomputable def v256 (P : Params) : Obj := ⟨(.type "code"), none, (.fields (Array.mk [(.str (cs [95, 95, 98, 121, 116, 101, 115, 95, 95]) 2596), (.str (cs [72, 101, 97, 100, 101, 114, 115, 46, 95, 95, 98, 121, 116, 101, 115, 95, 95]) 2597), (.str (cs [47, 99, 108, 97, 105, 109, 47, 99, 117, 116, 46, 112, 121]) 2598), (.int 154 0), (.int 1 0), (.int 0 0), (.int 0 0), (.int 3 0), (.ref 251), (.bool true), (.int 276 0), (.ref 252), .none, (.ref 253), (.ref 254), (.ref 255), (.int 2600 0), (.int 154 0), (.str (cs [47, 99, 108, 97, 105, 109, 47, 99, 117, 116, 46, 112, 121]) 2601)])), (Array.mk [])⟩
noncomputable def v257 (P : Params) : Obj := ⟨(.type "function"), none, (.func ⟨(cs [95, 95, 98, 121, 116, 101, 115, 95, 95]), (cs [72, 101, 97, 100, 101, 114, 115, 46, 95, 95, 98, 121, 116, 101, 115, 95, 95]), (mRec 14 0).params, (.stmts (mRec 14 0).body), (mRec 14 0).scope, 3, [], .none, .none, .none, (.str (cs [99, 112, 121, 51, 49, 51, 46, 119, 115, 103, 105, 114, 101, 102, 46, 104, 101, 97, 100, 101, 114, 115]) 2371), none, (.ref 256), .none, 0⟩), (Array.mk [])⟩
noncomputable def v258 (P : Params) : Obj := ⟨(.type "tuple"), none, (.seq (Array.mk []) 0), (Array.mk [])⟩
noncomputable def v259 (P : Params) : Obj := ⟨.none, none, (.fields (Array.mk [])), (Array.mk [])⟩
noncomputable def v260 (P : Params) : Obj := ⟨(.type "tuple"), none, (.seq (Array.mk [(.str (cs [115, 101, 108, 102]) 2606), (.str (cs [110, 97, 109, 101]) 2607), (.str (cs [118, 97, 108, 117, 101]) 2608)]) 0), (Array.mk [])⟩
noncomputable def v261 (P : Params) : Obj := ⟨(.type "tuple"), none, (.seq (Array.mk []) 0), (Array.mk [])⟩
noncomputable def v262 (P : Params) : Obj := ⟨.none, none, (.func ⟨(cs [115, 101, 116, 100, 101, 102, 97, 117, 108, 116]), (cs [72, 101, 97, 100, 101, 114, 115, 46, 115, 101, 116, 100, 101, 102, 97, 117, 108, 116]), (mRec 15 0).params, (.stmts (mRec 15 0).body), (mRec 15 0).scope, 0, [], .none, .none, .none, .none, none, .none, .none, 0⟩), (Array.mk [])⟩
noncomputable def v263 (P : Params) : Obj := ⟨(.type "code"), none, (.fields (Array.mk [(.str (cs [115, 101, 116, 100, 101, 102, 97, 117, 108, 116]) 2603), (.str (cs [72, 101, 97, 100, 101, 114, 115, 46, 115, 101, 116, 100, 101, 102, 97, 117, 108, 116]) 2604), (.str (cs [47, 99, 108, 97, 105, 109, 47, 99, 117, 116, 46, 112, 121]) 2605), (.int 157 0), (.int 3 0), (.int 0 0), (.int 0 0), (.int 3 0), (.ref 258), (.bool true), (.int 276 0), (.ref 259), .none, (.ref 260), (.ref 261), (.ref 262), (.int 2609 0), (.int 157 0), (.str (cs [47, 99, 108, 97, 105, 109, 47, 99, 117, 116, 46, 112, 121]) 2610)])), (Array.mk [])⟩
noncomputable def v264 (P : Params) : Obj := ⟨(.type "function"), none, (.func ⟨(cs [115, 101, 116, 100, 101, 102, 97, 117, 108, 116]), (cs [72, 101, 97, 100, 101, 114, 115, 46, 115, 101, 116, 100, 101, 102, 97, 117, 108, 116]), (mRec 15 0).params, (.stmts (mRec 15 0).body), (mRec 15 0).scope, 3, [], .none, .none, .none, (.str (cs [99, 112, 121, 51, 49, 51, 46, 119, 115, 103, 105, 114, 101, 102, 46, 104, 101, 97, 100, 101, 114, 115]) 2371), none, (.ref 263), .none, 0⟩), (Array.mk [])⟩
noncomputable def v265 (P : Params) : Obj := ⟨(.type "tuple"), none, (.seq (Array.mk []) 0), (Array.mk [])⟩
noncomputable def v266 (P : Params) : Obj := ⟨.none, none, (.fields (Array.mk [])), (Array.mk [])⟩
noncomputable def v267 (P : Params) : Obj := ⟨(.type "tuple"), none, (.seq (Array.mk [(.str (cs [115, 101, 108, 102]) 2615), (.str (cs [95, 110, 97, 109, 101]) 2616), (.str (cs [95, 118, 97, 108, 117, 101]) 2617), (.str (cs [95, 112, 97, 114, 97, 109, 115]) 2618), (.str (cs [112, 97, 114, 116, 115]) 2619), (.str (cs [107]) 2620), (.str (cs [118]) 2621)]) 0), (Array.mk [])⟩
noncomputable def v268 (P : Params) : Obj := ⟨(.type "tuple"), none, (.seq (Array.mk []) 0), (Array.mk [])⟩
noncomputable def v269 (P : Params) : Obj := ⟨.none, none, (.func ⟨(cs [97, 100, 100, 95, 104, 101, 97, 100, 101, 114]), (cs [72, 101, 97, 100, 101, 114, 115, 46, 97, 100, 100, 95, 104, 101, 97, 100, 101, 114]), (mRec 16 0).params, (.stmts (mRec 16 0).body), (mRec 16 0).scope, 0, [], .none, .none, .none, .none, none, .none, .none, 0⟩), (Array.mk [])⟩
noncomputable def v270 (P : Params) : Obj := ⟨(.type "code"), none, (.fields (Array.mk [(.str (cs [97, 100, 100, 95, 104, 101, 97, 100, 101, 114]) 2612), (.str (cs [72, 101, 97, 100, 101, 114, 115, 46, 97, 100, 100, 95, 104, 101, 97, 100, 101, 114]) 2613), (.str (cs [47, 99, 108, 97, 105, 109, 47, 99, 117, 116, 46, 112, 121]) 2614), (.int 160 0), (.int 3 0), (.int 0 0), (.int 0 0), (.int 11 0), (.ref 265), (.bool true), (.int 276 0), (.ref 266), .none, (.ref 267), (.ref 268), (.ref 269), (.int 2622 0), (.int 160 0), (.str (cs [47, 99, 108, 97, 105, 109, 47, 99, 117, 116, 46, 112, 121]) 2623)])), (Array.mk [])⟩
noncomputable def v271 (P : Params) : Obj := ⟨(.type "function"), none, (.func ⟨(cs [97, 100, 100, 95, 104, 101, 97, 100, 101, 114]), (cs [72, 101, 97, 100, 101, 114, 115, 46, 97, 100, 100, 95, 104, 101, 97, 100, 101, 114]), (mRec 16 0).params, (.stmts (mRec 16 0).body), (mRec 16 0).scope, 3, [], .none, .none, .none, (.str (cs [99, 112, 121, 51, 49, 51, 46, 119, 115, 103, 105, 114, 101, 102, 46, 104, 101, 97, 100, 101, 114, 115]) 2371), none, (.ref 270), .none, 0⟩), (Array.mk [])⟩
noncomputable def v272 (P : Params) : Obj := ⟨(.type "tuple"), none, (.seq (Array.mk [(.str (cs [95, 104, 101, 97, 100, 101, 114, 115]) 2625)]) 0), (Array.mk [])⟩
noncomputable def v273 (P : Params) : Obj := ⟨(.type "dict"), none, (.dict (Array.mk [⟨PyData.keyHash P (cs [95, 95, 109, 111, 100, 117, 108, 101, 95, 95]), (.str (cs [95, 95, 109, 111, 100, 117, 108, 101, 95, 95]) 2484), (.str (cs [99, 112, 121, 51, 49, 51, 46, 119, 115, 103, 105, 114, 101, 102, 46, 104, 101, 97, 100, 101, 114, 115]) 2371)⟩, ⟨PyData.keyHash P (cs [95, 95, 102, 105, 114, 115, 116, 108, 105, 110, 101, 110, 111, 95, 95]), (.str (cs [95, 95, 102, 105, 114, 115, 116, 108, 105, 110, 101, 110, 111, 95, 95]) 2488), (.int 91 2487)⟩, ⟨PyData.keyHash P (cs [95, 95, 105, 110, 105, 116, 95, 95]), (.str (cs [95, 95, 105, 110, 105, 116, 95, 95]) 2498), (.ref 168)⟩, ⟨PyData.keyHash P (cs [95, 99, 111, 110, 118, 101, 114, 116, 95, 115, 116, 114, 105, 110, 103, 95, 116, 121, 112, 101]), (.str (cs [95, 99, 111, 110, 118, 101, 114, 116, 95, 115, 116, 114, 105, 110, 103, 95, 116, 121, 112, 101]) 2508), (.ref 175)⟩, ⟨PyData.keyHash P (cs [95, 95, 108, 101, 110, 95, 95]), (.str (cs [95, 95, 108, 101, 110, 95, 95]) 2515), (.ref 182)⟩, ⟨PyData.keyHash P (cs [95, 95, 115, 101, 116, 105, 116, 101, 109, 95, 95]), (.str (cs [95, 95, 115, 101, 116, 105, 116, 101, 109, 95, 95]) 2524), (.ref 189)⟩, ⟨PyData.keyHash P (cs [95, 95, 100, 101, 108, 105, 116, 101, 109, 95, 95]), (.str (cs [95, 95, 100, 101, 108, 105, 116, 101, 109, 95, 95]) 2530), (.ref 194)⟩, ⟨PyData.keyHash P (cs [95, 95, 103, 101, 116, 105, 116, 101, 109, 95, 95]), (.str (cs [95, 95, 103, 101, 116, 105, 116, 101, 109, 95, 95]) 2538), (.ref 201)⟩, ⟨PyData.keyHash P (cs [95, 95, 99, 111, 110, 116, 97, 105, 110, 115, 95, 95]), (.str (cs [95, 95, 99, 111, 110, 116, 97, 105, 110, 115, 95, 95]) 2546), (.ref 208)⟩, ⟨PyData.keyHash P (cs [103, 101, 116, 95, 97, 108, 108]), (.str (cs [103, 101, 116, 95, 97, 108, 108]) 2552), (.ref 213)⟩, ⟨PyData.keyHash P (cs [103, 101, 116]), (.str (cs [103, 101, 116]) 2563), (.ref 221)⟩, ⟨PyData.keyHash P (cs [107, 101, 121, 115]), (.str (cs [107, 101, 121, 115]) 2569), (.ref 226)⟩, ⟨PyData.keyHash P (cs [118, 97, 108, 117, 101, 115]), (.str (cs [118, 97, 108, 117, 101, 115]) 2575), (.ref 231)⟩, ⟨PyData.keyHash P (cs [105, 116, 101, 109, 115]), (.str (cs [105, 116, 101, 109, 115]) 2582), (.ref 238)⟩, ⟨PyData.keyHash P (cs [95, 95, 114, 101, 112, 114, 95, 95]), (.str (cs [95, 95, 114, 101, 112, 114, 95, 95]) 2589), (.ref 245)⟩, ⟨PyData.keyHash P (cs [95, 95, 115, 116, 114, 95, 95]), (.str (cs [95, 95, 115, 116, 114, 95, 95]) 2595), (.ref 250)⟩, ⟨PyData.keyHash P (cs [95, 95, 98, 121, 116, 101, 115, 95, 95]), (.str (cs [95, 95, 98, 121, 116, 101, 115, 95, 95]) 2602), (.ref 257)⟩, ⟨PyData.keyHash P (cs [115, 101, 116, 100, 101, 102, 97, 117, 108, 116]), (.str (cs [115, 101, 116, 100, 101, 102, 97, 117, 108, 116]) 2611), (.ref 264)⟩, ⟨PyData.keyHash P (cs [97, 100, 100, 95, 104, 101, 97, 100, 101, 114]), (.str (cs [97, 100, 100, 95, 104, 101, 97, 100, 101, 114]) 2624), (.ref 271)⟩, ⟨PyData.keyHash P (cs [95, 95, 115, 116, 97, 116, 105, 99, 95, 97, 116, 116, 114, 105, 98, 117, 116, 101, 115, 95, 95]), (.str (cs [95, 95, 115, 116, 97, 116, 105, 99, 95, 97, 116, 116, 114, 105, 98, 117, 116, 101, 115, 95, 95]) 2626), (.ref 272)⟩, ⟨PyData.keyHash P (cs [95, 95, 100, 105, 99, 116, 95, 95]), (.str (cs [95, 95, 100, 105, 99, 116, 95, 95]) 2628), (.ref 275)⟩, ⟨PyData.keyHash P (cs [95, 95, 119, 101, 97, 107, 114, 101, 102, 95, 95]), (.str (cs [95, 95, 119, 101, 97, 107, 114, 101, 102, 95, 95]) 2630), (.ref 276)⟩, ⟨PyData.keyHash P (cs [95, 95, 100, 111, 99, 95, 95]), (.str (cs [95, 95, 100, 111, 99, 95, 95]) 2631), .none⟩]) 4), (Array.mk [])⟩
noncomputable def v274 (P : Params) : Obj := ⟨(.type "type"), none, (.cls ⟨(cs [72, 101, 97, 100, 101, 114, 115]), [(.type "object")], [(.ref 274), (.type "object")], 273, (cs [72, 101, 97, 100, 101, 114, 115]), true, [], [], false, none, false⟩), (Array.mk [none, none, (some (.str (cs [72, 101, 97, 100, 101, 114, 115]) 2477)), (some (.str (cs [72, 101, 97, 100, 101, 114, 115]) 2485)), (some (.builtin "object.__new__")), (some (.bool true))])⟩
noncomputable def v275 (P : Params) : Obj := ⟨(.type "getset_descriptor"), none, (.fields (Array.mk [(.str (cs [95, 95, 100, 105, 99, 116, 95, 95]) 2627), (.ref 274), (.builtin "function.__dict__"), (.builtin "function.__dict__#set")])), (Array.mk [])⟩
noncomputable def v276 (P : Params) : Obj := ⟨(.type "getset_descriptor"), none, (.fields (Array.mk [(.str (cs [95, 95, 119, 101, 97, 107, 114, 101, 102, 95, 95]) 2629), (.ref 274), (.builtin "ExceptionGroup.__weakref__"), .none])), (Array.mk [])⟩
noncomputable def v277 (P : Params) : Obj := ⟨(.type "super"), none, (.fields (Array.mk [(.ref 274), (.ref 274), (.ref 274)])), (Array.mk [])⟩
noncomputable def v278 (P : Params) : Obj := ⟨(.type "builtin_function_or_method"), none, (.fields (Array.mk [(.builtin "object.__init_subclass__"), (.ref 274)])), (Array.mk [])⟩
noncomputable def v279 (P : Params) : Obj := ⟨(.type "tuple"), none, (.seq (Array.mk []) 0), (Array.mk [])⟩
noncomputable def v280 (P : Params) : Obj := ⟨.none, none, (.fields (Array.mk [])), (Array.mk [])⟩
noncomputable def v281 (P : Params) : Obj := ⟨.none, none, (.func ⟨(cs [95, 108, 97, 119, 95, 115, 105, 103, 110, 115]), (cs [95, 108, 97, 119, 95, 115, 105, 103, 110, 115]), (fnRec 20 0).params, (.stmts (fnRec 20 0).body), (fnRec 20 0).scope, 0, [], .none, .none, .none, .none, none, .none, .none, 0⟩), (Array.mk [])⟩
noncomputable def v282 (P : Params) : Obj := ⟨(.type "code"), none, (.fields (Array.mk [(.str (cs [95, 108, 97, 119, 95, 115, 105, 103, 110, 115]) 2636), (.str (cs [95, 108, 97, 119, 95, 115, 105, 103, 110, 115]) 2637), (.str (cs [47, 99, 108, 97, 105, 109, 47, 99, 117, 116, 46, 112, 121]) 2638), (.int 174 0), (.int 1 0), (.int 0 0), (.int 0 0), (.int 3 0), (.ref 279), (.bool true), (.int 276 0), (.ref 280), .none, .none, .none, (.ref 281), (.int 2639 0), (.int 174 0), (.str (cs [47, 99, 108, 97, 105, 109, 47, 99, 117, 116, 46, 112, 121]) 2640)])), (Array.mk [])⟩
noncomputable def v283 (P : Params) : Obj := ⟨(.type "function"), none, (.func ⟨(cs [95, 108, 97, 119, 95, 115, 105, 103, 110, 115]), (cs [95, 108, 97, 119, 95, 115, 105, 103, 110, 115]), (fnRec 20 0).params, (.stmts (fnRec 20 0).body), (fnRec 20 0).scope, 3, [], .none, .none, .none, (.str (cs [108, 97, 119, 95, 119, 102, 48, 49, 48, 55, 95, 48, 49]) 2634), none, (.ref 282), .none, 0⟩), (Array.mk [])⟩
noncomputable def v284 (P : Params) : Obj := ⟨(.type "tuple"), none, (.seq (Array.mk []) 0), (Array.mk [])⟩
noncomputable def v285 (P : Params) : Obj := ⟨.none, none, (.fields (Array.mk [])), (Array.mk [])⟩
noncomputable def v286 (P : Params) : Obj := ⟨(.type "tuple"), none, (.seq (Array.mk [(.str (cs [119, 111, 114, 100]) 2645), (.str (cs [98, 101, 115, 116]) 2646), (.str (cs [108, 101, 97, 115, 116]) 2647), (.str (cs [116, 111, 108, 100]) 2648), (.str (cs [108, 101, 116, 116, 101, 114]) 2649), (.str (cs [116, 111, 112]) 2650), (.str (cs [108, 111, 119]) 2651), (.str (cs [107]) 2652)]) 0), (Array.mk [])⟩
noncomputable def v287 (P : Params) : Obj := ⟨(.type "tuple"), none, (.seq (Array.mk []) 0), (Array.mk [])⟩
noncomputable def v288 (P : Params) : Obj := ⟨.none, none, (.func ⟨(cs [95, 108, 97, 119, 95, 114, 117, 108, 101]), (cs [95, 108, 97, 119, 95, 114, 117, 108, 101]), (fnRec 21 0).params, (.stmts (fnRec 21 0).body), (fnRec 21 0).scope, 0, [], .none, .none, .none, .none, none, .none, .none, 0⟩), (Array.mk [])⟩
noncomputable def v289 (P : Params) : Obj := ⟨(.type "code"), none, (.fields (Array.mk [(.str (cs [95, 108, 97, 119, 95, 114, 117, 108, 101]) 2642), (.str (cs [95, 108, 97, 119, 95, 114, 117, 108, 101]) 2643), (.str (cs [47, 99, 108, 97, 105, 109, 47, 99, 117, 116, 46, 112, 121]) 2644), (.int 179 0), (.int 1 0), (.int 0 0), (.int 0 0), (.int 3 0), (.ref 284), (.bool true), (.int 276 0), (.ref 285), .none, (.ref 286), (.ref 287), (.ref 288), (.int 2653 0), (.int 179 0), (.str (cs [47, 99, 108, 97, 105, 109, 47, 99, 117, 116, 46, 112, 121]) 2654)])), (Array.mk [])⟩
noncomputable def v290 (P : Params) : Obj := ⟨(.type "function"), none, (.func ⟨(cs [95, 108, 97, 119, 95, 114, 117, 108, 101]), (cs [95, 108, 97, 119, 95, 114, 117, 108, 101]), (fnRec 21 0).params, (.stmts (fnRec 21 0).body), (fnRec 21 0).scope, 3, [], .none, .none, .none, (.str (cs [108, 97, 119, 95, 119, 102, 48, 49, 48, 55, 95, 48, 49]) 2634), none, (.ref 289), .none, 0⟩), (Array.mk [])⟩
noncomputable def v291 (P : Params) : Obj := ⟨(.type "tuple"), none, (.seq (Array.mk []) 0), (Array.mk [])⟩
noncomputable def v292 (P : Params) : Obj := ⟨.none, none, (.fields (Array.mk [])), (Array.mk [])⟩
noncomputable def v293 (P : Params) : Obj := ⟨(.type "tuple"), none, (.seq (Array.mk [(.str (cs [119, 111, 114, 100]) 2659), (.str (cs [101, 97, 114, 108, 121]) 2660), (.str (cs [108, 97, 116, 101]) 2661), (.str (cs [112, 105, 101, 99, 101, 115]) 2662), (.str (cs [108, 101, 116, 116, 101, 114]) 2663), (.str (cs [116, 111, 108, 100]) 2664), (.str (cs [107]) 2665), (.str (cs [106]) 2666), (.str (cs [108, 97, 99, 107]) 2667), (.str (cs [119, 104, 111, 108, 101]) 2668)]) 0), (Array.mk [])⟩
noncomputable def v294 (P : Params) : Obj := ⟨(.type "tuple"), none, (.seq (Array.mk []) 0), (Array.mk [])⟩
noncomputable def v295 (P : Params) : Obj := ⟨.none, none, (.func ⟨(cs [95, 108, 97, 119, 95, 98, 121, 95, 109, 97, 105, 108]), (cs [95, 108, 97, 119, 95, 98, 121, 95, 109, 97, 105, 108]), (fnRec 22 0).params, (.stmts (fnRec 22 0).body), (fnRec 22 0).scope, 0, [], .none, .none, .none, .none, none, .none, .none, 0⟩), (Array.mk [])⟩
noncomputable def v296 (P : Params) : Obj := ⟨(.type "code"), none, (.fields (Array.mk [(.str (cs [95, 108, 97, 119, 95, 98, 121, 95, 109, 97, 105, 108]) 2656), (.str (cs [95, 108, 97, 119, 95, 98, 121, 95, 109, 97, 105, 108]) 2657), (.str (cs [47, 99, 108, 97, 105, 109, 47, 99, 117, 116, 46, 112, 121]) 2658), (.int 194 0), (.int 3 0), (.int 0 0), (.int 0 0), (.int 3 0), (.ref 291), (.bool true), (.int 276 0), (.ref 292), .none, (.ref 293), (.ref 294), (.ref 295), (.int 2669 0), (.int 194 0), (.str (cs [47, 99, 108, 97, 105, 109, 47, 99, 117, 116, 46, 112, 121]) 2670)])), (Array.mk [])⟩
noncomputable def v297 (P : Params) : Obj := ⟨(.type "function"), none, (.func ⟨(cs [95, 108, 97, 119, 95, 98, 121, 95, 109, 97, 105, 108]), (cs [95, 108, 97, 119, 95, 98, 121, 95, 109, 97, 105, 108]), (fnRec 22 0).params, (.stmts (fnRec 22 0).body), (fnRec 22 0).scope, 3, [], .none, .none, .none, (.str (cs [108, 97, 119, 95, 119, 102, 48, 49, 48, 55, 95, 48, 49]) 2634), none, (.ref 296), .none, 0⟩), (Array.mk [])⟩
noncomputable def v298 (P : Params) : Obj := ⟨(.type "tuple"), none, (.seq (Array.mk []) 0), (Array.mk [])⟩
noncomputable def v299 (P : Params) : Obj := ⟨.none, none, (.fields (Array.mk [])), (Array.mk [])⟩
noncomputable def v300 (P : Params) : Obj := ⟨(.type "tuple"), none, (.seq (Array.mk [(.str (cs [119, 111, 114, 100]) 2675), (.str (cs [101, 97, 114, 108, 121]) 2676), (.str (cs [108, 97, 116, 101]) 2677), (.str (cs [108, 105, 103, 104, 116, 115]) 2678), (.str (cs [109, 105, 100, 100, 108, 101]) 2679), (.str (cs [116, 111, 108, 100]) 2680), (.str (cs [108, 101, 116, 116, 101, 114]) 2681), (.str (cs [104, 117, 101]) 2682), (.str (cs [115, 104, 97, 114, 101]) 2683), (.str (cs [108, 101, 118, 101, 108]) 2684)]) 0), (Array.mk [])⟩
noncomputable def v301 (P : Params) : Obj := ⟨(.type "tuple"), none, (.seq (Array.mk []) 0), (Array.mk [])⟩
noncomputable def v302 (P : Params) : Obj := ⟨.none, none, (.func ⟨(cs [95, 108, 97, 119, 95, 98, 121, 95, 119, 104, 101, 101, 108]), (cs [95, 108, 97, 119, 95, 98, 121, 95, 119, 104, 101, 101, 108]), (fnRec 23 0).params, (.stmts (fnRec 23 0).body), (fnRec 23 0).scope, 0, [], .none, .none, .none, .none, none, .none, .none, 0⟩), (Array.mk [])⟩
noncomputable def v303 (P : Params) : Obj := ⟨(.type "code"), none, (.fields (Array.mk [(.str (cs [95, 108, 97, 119, 95, 98, 121, 95, 119, 104, 101, 101, 108]) 2672), (.str (cs [95, 108, 97, 119, 95, 98, 121, 95, 119, 104, 101, 101, 108]) 2673), (.str (cs [47, 99, 108, 97, 105, 109, 47, 99, 117, 116, 46, 112, 121]) 2674), (.int 216 0), (.int 3 0), (.int 0 0), (.int 0 0), (.int 3 0), (.ref 298), (.bool true), (.int 276 0), (.ref 299), .none, (.ref 300), (.ref 301), (.ref 302), (.int 2685 0), (.int 216 0), (.str (cs [47, 99, 108, 97, 105, 109, 47, 99, 117, 116, 46, 112, 121]) 2686)])), (Array.mk [])⟩
noncomputable def v304 (P : Params) : Obj := ⟨(.type "function"), none, (.func ⟨(cs [95, 108, 97, 119, 95, 98, 121, 95, 119, 104, 101, 101, 108]), (cs [95, 108, 97, 119, 95, 98, 121, 95, 119, 104, 101, 101, 108]), (fnRec 23 0).params, (.stmts (fnRec 23 0).body), (fnRec 23 0).scope, 3, [], .none, .none, .none, (.str (cs [108, 97, 119, 95, 119, 102, 48, 49, 48, 55, 95, 48, 49]) 2634), none, (.ref 303), .none, 0⟩), (Array.mk [])⟩
noncomputable def v305 (P : Params) : Obj := ⟨(.type "tuple"), none, (.seq (Array.mk []) 0), (Array.mk [])⟩
noncomputable def v306 (P : Params) : Obj := ⟨.none, none, (.fields (Array.mk [])), (Array.mk [])⟩
noncomputable def v307 (P : Params) : Obj := ⟨.none, none, (.func ⟨(cs [95, 108, 97, 119, 95, 114, 111, 119, 115]), (cs [95, 108, 97, 119, 95, 114, 111, 119, 115]), (fnRec 24 0).params, (.stmts (fnRec 24 0).body), (fnRec 24 0).scope, 0, [], .none, .none, .none, .none, none, .none, .none, 0⟩), (Array.mk [])⟩
noncomputable def v308 (P : Params) : Obj := ⟨(.type "code"), none, (.fields (Array.mk [(.str (cs [95, 108, 97, 119, 95, 114, 111, 119, 115]) 2688), (.str (cs [95, 108, 97, 119, 95, 114, 111, 119, 115]) 2689), (.str (cs [47, 99, 108, 97, 105, 109, 47, 99, 117, 116, 46, 112, 121]) 2690), (.int 231 0), (.int 1 0), (.int 0 0), (.int 0 0), (.int 3 0), (.ref 305), (.bool true), (.int 276 0), (.ref 306), .none, .none, .none, (.ref 307), (.int 2691 0), (.int 231 0), (.str (cs [47, 99, 108, 97, 105, 109, 47, 99, 117, 116, 46, 112, 121]) 2692)])), (Array.mk [])⟩
noncomputable def v309 (P : Params) : Obj := ⟨(.type "function"), none, (.func ⟨(cs [95, 108, 97, 119, 95, 114, 111, 119, 115]), (cs [95, 108, 97, 119, 95, 114, 111, 119, 115]), (fnRec 24 0).params, (.stmts (fnRec 24 0).body), (fnRec 24 0).scope, 3, [], .none, .none, .none, (.str (cs [108, 97, 119, 95, 119, 102, 48, 49, 48, 55, 95, 48, 49]) 2634), none, (.ref 308), .none, 0⟩), (Array.mk [])⟩
noncomputable def v310 (P : Params) : Obj := ⟨(.type "tuple"), none, (.seq (Array.mk []) 0), (Array.mk [])⟩
noncomputable def v311 (P : Params) : Obj := ⟨.none, none, (.fields (Array.mk [])), (Array.mk [])⟩
noncomputable def v312 (P : Params) : Obj := ⟨.none, none, (.func ⟨(cs [108, 97, 119]), (cs [108, 97, 119]), (fnRec 25 0).params, (.stmts (fnRec 25 0).body), (fnRec 25 0).scope, 0, [], .none, .none, .none, .none, none, .none, .none, 0⟩), (Array.mk [])⟩
noncomputable def v313 (P : Params) : Obj := ⟨(.type "code"), none, (.fields (Array.mk [(.str (cs [108, 97, 119]) 2694), (.str (cs [108, 97, 119]) 2695), (.str (cs [47, 99, 108, 97, 105, 109, 47, 99, 117, 116, 46, 112, 121]) 2696), (.int 236 0), (.int 1 0), (.int 0 0), (.int 0 0), (.int 3 0), (.ref 310), (.bool true), (.int 276 0), (.ref 311), .none, .none, .none, (.ref 312), (.int 2697 0), (.int 236 0), (.str (cs [47, 99, 108, 97, 105, 109, 47, 99, 117, 116, 46, 112, 121]) 2698)])), (Array.mk [])⟩
noncomputable def v314 (P : Params) : Obj := ⟨(.type "function"), none, (.func ⟨(cs [108, 97, 119]), (cs [108, 97, 119]), (fnRec 25 0).params, (.stmts (fnRec 25 0).body), (fnRec 25 0).scope, 3, [], .none, .none, .none, (.str (cs [108, 97, 119, 95, 119, 102, 48, 49, 48, 55, 95, 48, 49]) 2634), none, (.ref 313), .none, 0⟩), (Array.mk [])⟩
noncomputable def vA (P : Params) : List Obj := [z0 P, z1 P, z2 P, v3 P, z4 P, z5 P, z6 P, z7 P, z8 P, z9 P, z10 P, z11 P, z12 P, z13 P, z14 P, z15 P, z16 P, z17 P, z18 P, z19 P, z20 P, z21 P, z22 P, z23 P, z24 P, z25 P, z26 P, z27 P, y28 P, v29 P, y30 P, y31 P, y32 P, y33 P, y34 P, y35 P, y36 P, y37 P, y38 P, y39 P, y40 P, y41 P, y42 P, y43 P, y44 P, y45 P, y46 P, y47 P, y48 P, y49 P, y50 P, y51 P, y52 P, y53 P, y54 P, y55 P, y56 P, y57 P, y58 P, y59 P, y60 P, y61 P, y62 P, y63 P, y64 P, y65 P, y66 P, y67 P, y68 P, y69 P, y70 P, y71 P, y72 P, y73 P, y74 P, y75 P, y76 P, y77 P, y78 P, y79 P, y80 P, y81 P, y82 P, y83 P, y84 P]
noncomputable def vB (P : Params) : List Obj := [v124 P, v125 P, v126 P, v127 P, v128 P, v129 P, v130 P, v131 P, v132 P, v133 P, v134 P, v135 P, v136 P, v137 P, v138 P, v139 P, v140 P, v141 P, v142 P, v143 P, v144 P, v145 P, v146 P, v147 P, v148 P, v149 P, v150 P, v151 P, v152 P, v153 P, v154 P, v155 P, v156 P, v157 P, v158 P, v159 P, v160 P, v161 P, v162 P, v163 P, v164 P, v165 P, v166 P, v167 P, v168 P, v169 P, v170 P, v171 P, v172 P, v173 P, v174 P, v175 P, v176 P, v177 P, v178 P, v179 P, v180 P, v181 P, v182 P, v183 P, v184 P, v185 P, v186 P, v187 P, v188 P, v189 P, v190 P, v191 P, v192 P, v193 P, v194 P, v195 P, v196 P, v197 P, v198 P, v199 P, v200 P, v201 P, v202 P, v203 P, v204 P, v205 P, v206 P, v207 P, v208 P, v209 P, v210 P, v211 P, v212 P, v213 P, v214 P, v215 P, v216 P, v217 P, v218 P, v219 P, v220 P, v221 P, v222 P, v223 P, v224 P, v225 P, v226 P, v227 P, v228 P, v229 P, v230 P, v231 P, v232 P, v233 P, v234 P, v235 P, v236 P, v237 P, v238 P, v239 P, v240 P, v241 P, v242 P, v243 P, v244 P, v245 P, v246 P, v247 P, v248 P, v249 P, v250 P, v251 P, v252 P, v253 P, v254 P, v255 P, v256 P, v257 P, v258 P, v259 P, v260 P, v261 P, v262 P, v263 P, v264 P, v265 P, v266 P, v267 P, v268 P, v269 P, v270 P, v271 P, v272 P, v273 P, v274 P, v275 P, v276 P, v277 P, v278 P, v279 P, v280 P, v281 P, v282 P, v283 P, v284 P, v285 P, v286 P, v287 P, v288 P, v289 P, v290 P, v291 P, v292 P, v293 P, v294 P, v295 P, v296 P, v297 P, v298 P, v299 P, v300 P, v301 P, v302 P, v303 P, v304 P, v305 P, v306 P, v307 P, v308 P, v309 P, v310 P, v311 P, v312 P, v313 P, v314 P]
-- toks 2700 lifeSame true gens 0
end Mine
end
noncomputable section
open PySem PySem.Spec PySem.Calls PyProof.Rows PyProof.V PySem.W
set_option Elab.async false
set_option linter.unusedVariables false
set_option maxRecDepth 100000
namespace Mine

/-- the values of the walk: plain ones, and a place in the frame's own store -/
inductive PV where
  | none
  | bool (b : Bool)
  | int (i : Int)
  | str (x : Str)
  | flt (b : UInt64)
  | obj (j : Nat)
  | ref (a : Addr)

noncomputable def VR (as : List Addr) : PV → Value → Prop
  | .none, u => u = .none
  | .bool b, u => u = .bool b
  | .int i, u => ∃ t, u = .int i t
  | .str x, u => ∃ t, u = .str x t
  | .flt b, u => ∃ t, u = .float b t
  | .obj j, u => ∃ a, as[j]? = some a ∧ u = .ref a
  | .ref a, u => u = .ref a

noncomputable def PV.plain : PV → Bool
  | .obj _ => false
  | _ => true

theorem VR.as_plain {as bs : List Addr} {v : PV} {u : Value} (hp : v.plain = true) (h : VR as v u) : VR bs v u := by
  cases v <;> first | exact h | cases hp

theorem VR.app {as bs : List Addr} {v : PV} {u : Value} (h : VR as v u) : VR (as ++ bs) v u := by
  cases v <;> try exact h
  obtain ⟨a, ha, rfl⟩ := h
  exact ⟨a, by rw [List.getElem?_append_left (List.getElem?_eq_some_iff.mp ha).1]; exact ha, rfl⟩

/-- two lists related place by place -/
inductive All2 {α β : Type} (R : α → β → Prop) : List α → List β → Prop
  | nil : All2 R [] []
  | cons {a b l m} : R a b → All2 R l m → All2 R (a :: l) (b :: m)

namespace All2
variable {α β : Type} {R : α → β → Prop}
theorem length {l : List α} {m : List β} (h : All2 R l m) : l.length = m.length := by
  induction h with
  | nil => rfl
  | cons _ _ ih => simp [ih]
theorem get {l : List α} {m : List β} (h : All2 R l m) : ∀ {i : Nat} {a : α}, l[i]? = some a → ∃ b, m[i]? = some b ∧ R a b := by
  induction h with
  | nil => intro i a e; simp at e
  | cons hr _ ih =>
    intro i a e
    cases i with
    | zero => simp at e; subst e; exact ⟨_, rfl, hr⟩
    | succ i => simp at e; simpa using ih e
theorem snoc {l : List α} {m : List β} (h : All2 R l m) {a : α} {b : β} (hr : R a b) : All2 R (l ++ [a]) (m ++ [b]) := by
  induction h with
  | nil => exact .cons hr .nil
  | cons h _ ih => exact .cons h ih
theorem append {l l' : List α} {m m' : List β} (h : All2 R l m) (h' : All2 R l' m') : All2 R (l ++ l') (m ++ m') := by
  induction h with
  | nil => exact h'
  | cons h _ ih => exact .cons h ih
theorem set {l : List α} {m : List β} (h : All2 R l m) {a : α} {b : β} (hr : R a b) : ∀ i, All2 R (l.set i a) (m.set i b) := by
  induction h with
  | nil => intro i; exact .nil
  | cons h h' ih =>
    intro i
    cases i with
    | zero => exact .cons hr h'
    | succ i => exact .cons h (ih i)
theorem take {l : List α} {m : List β} (h : All2 R l m) : ∀ i, All2 R (l.take i) (m.take i) := by
  induction h with
  | nil => intro i; simp; exact .nil
  | cons h h' ih =>
    intro i
    cases i with
    | zero => exact .nil
    | succ i => exact .cons h (ih i)
theorem drop {l : List α} {m : List β} (h : All2 R l m) : ∀ i, All2 R (l.drop i) (m.drop i) := by
  induction h with
  | nil => intro i; simp; exact .nil
  | cons h h' ih =>
    intro i
    cases i with
    | zero => exact .cons h h'
    | succ i => exact ih i
end All2

abbrev Loc := List (Str × PV)
inductive PO where
  | list (vs : List PV)
  | tup (vs : List PV)
  | cell (v : Option PV)
  | dict (D : List (Str × Int))
  | inst (j : Nat)
  | attrs (j : Nat)
  | rawd (es : List DictEntry) (n : Nat)
abbrev Sto := List PO

noncomputable def CR (as : List Addr) : Option PV → Option Value → Prop
  | none, c => c = none
  | some v, c => ∃ u, c = some u ∧ VR as v u
theorem CR.app {as bs : List Addr} {v : Option PV} {c : Option Value} (h : CR as v c) : CR (as ++ bs) v c := by
  cases v with
  | none => exact h
  | some v => obtain ⟨u, e, r⟩ := h; exact ⟨u, e, r.app⟩

theorem All2.mono {α β : Type} {R S : α → β → Prop} (h : ∀ a b, R a b → S a b) {l : List α} {m : List β} (x : All2 R l m) : All2 S l m := by
  induction x with
  | nil => exact .nil
  | cons a _ ih => exact .cons (h _ _ a) ih

/-- what stands at an address -/
noncomputable def OH (w : World) (as : List Addr) (h : Heap) (a : Addr) : PO → Prop
  | .list vs => ∃ (us : List Value) (n : Nat), h.get? a = some { cls := .type "list", data := .seq us.toArray n } ∧ All2 (VR as) vs us
  | .tup vs => ∃ (us : List Value) (n : Nat), h.get? a = some { cls := .type "tuple", data := .seq us.toArray n } ∧ All2 (VR as) vs us
  | .cell v => ∃ o c, h.get? a = some o ∧ o.data = .cell c ∧ CR as v c
  | .dict D => (a == sysModules) = false ∧ ∃ kvs : List (Str × Value), h.DictOf (PySem.strKind Pg w) a kvs ∧ All2 (fun (p : Str × Int) (q : Str × Value) => q.1 = p.1 ∧ VR [] (.int p.2) q.2) D kvs
  | .inst j => ∃ d, h.get? a = some (instObj 274 d) ∧ as[j]? = some d
  | .attrs j => ∃ t n hl, h.get? a = some (PySem.W.dictOf [⟨PyData.keyHash w.params "_headers", .str "_headers" t, .ref hl⟩] n) ∧ as[j]? = some hl
  | .rawd es n => h.get? a = some (PySem.W.dictOf es n)

theorem OH.live {w : World} {as : List Addr} {h : Heap} {a : Addr} {o : PO} (x : OH w as h a o) : ∃ ob, h.get? a = some ob := by
  cases o with
  | list vs => obtain ⟨us, n, e, r⟩ := x; exact ⟨_, e⟩
  | tup vs => obtain ⟨us, n, e, r⟩ := x; exact ⟨_, e⟩
  | cell v => obtain ⟨o, c, e, r⟩ := x; exact ⟨_, e⟩
  | dict D => obtain ⟨_, kvs, e, r⟩ := x; obtain ⟨o, e, _⟩ := Heap.dictOf_iff.mp e; exact ⟨_, e⟩
  | inst j => obtain ⟨d, e, r⟩ := x; exact ⟨_, e⟩
  | attrs j => obtain ⟨t, n, hl, e, _⟩ := x; exact ⟨_, e⟩
  | rawd es n => exact ⟨_, x⟩
theorem OH.keeps {w : World} {as : List Addr} {h h' : Heap} {a : Addr} {o : PO} (x : OH w as h a o) (k : ∀ o, h.get? a = some o → h'.get? a = some o) : OH w as h' a o := by
  cases o with
  | list vs => obtain ⟨us, n, e, r⟩ := x; exact ⟨us, n, k _ e, r⟩
  | tup vs => obtain ⟨us, n, e, r⟩ := x; exact ⟨us, n, k _ e, r⟩
  | cell v => obtain ⟨o, c, e, r⟩ := x; exact ⟨o, c, k _ e, r⟩
  | dict D => obtain ⟨z, kvs, e, r⟩ := x; obtain ⟨o, e, q⟩ := Heap.dictOf_iff.mp e; exact ⟨z, kvs, Heap.dictOf_iff.mpr ⟨o, k _ e, q⟩, r⟩
  | inst j => obtain ⟨d, e, r⟩ := x; exact ⟨d, k _ e, r⟩
  | attrs j => obtain ⟨t, n, hl, e, r⟩ := x; exact ⟨t, n, hl, k _ e, r⟩
  | rawd es n => exact k _ x
theorem OH.app {w : World} {as bs : List Addr} {h : Heap} {a : Addr} {o : PO} (x : OH w as h a o) : OH w (as ++ bs) h a o := by
  cases o with
  | list vs => obtain ⟨us, n, e, r⟩ := x; exact ⟨us, n, e, r.mono fun _ _ h => h.app⟩
  | tup vs => obtain ⟨us, n, e, r⟩ := x; exact ⟨us, n, e, r.mono fun _ _ h => h.app⟩
  | cell v => obtain ⟨o, c, e, d, r⟩ := x; exact ⟨o, c, e, d, r.app⟩
  | dict D => exact x
  | inst j => obtain ⟨d, e, r⟩ := x; exact ⟨d, e, by rw [List.getElem?_append_left (List.getElem?_eq_some_iff.mp r).1]; exact r⟩
  | attrs j => obtain ⟨t, n, hl, e, r⟩ := x; exact ⟨t, n, hl, e, by rw [List.getElem?_append_left (List.getElem?_eq_some_iff.mp r).1]; exact r⟩
  | rawd es n => exact x

/-- the builtins that the text calls by name -/
noncomputable def bNames : List Str := ["len", "chr", "ord", "max", "min", "round", "range", "enumerate", "str", "type", "list"]
/-- the text's own names and where they stand -/
noncomputable def gTab : List (Str × Addr) := [("_iter_escaped_chars", 45), ("_strip_quoted_realnames", 52), ("_check_parenthesis", 59), ("rgb_to_hsv", 66), ("b1_set", 74), ("in_table_b1", 84), ("b3_exceptions", 85), ("map_table_b3", 130), ("Headers", 274),
  ("_name_disallowed_re", 140), ("_value_disallowed_re", 145), ("_law_signs", 283), ("_law_rule", 290), ("_law_by_mail", 297), ("_law_by_wheel", 304), ("_law_rows", 309)]

noncomputable def dIter := fnRec 3 45
noncomputable def dStrip := fnRec 4 52
noncomputable def dCheck := fnRec 5 59
noncomputable def dRgb := fnRec 7 66
noncomputable def dInB1 := fnRec 10 84
noncomputable def dMapB3 := fnRec 12 130
noncomputable def dSigns := fnRec 20 283
noncomputable def dRule := fnRec 21 290
noncomputable def dMail := fnRec 22 297
noncomputable def dWheel := fnRec 23 304
noncomputable def dRows := fnRec 24 309
noncomputable def dLaw := fnRec 25 314
noncomputable def fnTab : List FnRec := [dIter, dStrip, dCheck, dRgb, dInB1, dMapB3, dSigns, dRule, dMail, dWheel, dRows, dLaw]


noncomputable def dO (es : Array DictEntry) (n : Nat) : Obj := { cls := .type "dict", data := .dict es n }
/-- an entry of the display -/
noncomputable def EnR (p : Int × Str) (e : DictEntry) : Prop := e.hash = hashInt p.1 ∧ (∃ t, e.key = .int p.1 t) ∧ ∃ t, e.val = .str p.2 t
noncomputable def litOk : List (Option PySem.Expr) → List PySem.Expr → Bool
  | [], [] => true
  | some (.Constant (.int _) _ _) :: ks, .Constant (.str _) _ _ :: vs => litOk ks vs
  | _, _ => false
noncomputable def litPairs : List (Option PySem.Expr) → List PySem.Expr → List (Int × Str)
  | some (.Constant (.int i) _ _) :: ks, .Constant (.str x) _ _ :: vs => (i, x) :: litPairs ks vs
  | _, _ => []
noncomputable def dStmt : Stmt := match Pg.main.body[11]? with | some st => st | _ => .Pass ⟨0, 0, 0, 0⟩
noncomputable def dKeys : List (Option PySem.Expr) := match dStmt with | .Assign _ (.Dict ks _ _) _ => ks | _ => []
noncomputable def dVals : List PySem.Expr := match dStmt with | .Assign _ (.Dict _ vs _) _ => vs | _ => []
noncomputable def dPos : Pos := match dStmt with | .Assign _ (.Dict _ _ p) _ => p | _ => ⟨0, 0, 0, 0⟩
noncomputable def b3ps : List (Int × Str) := litPairs dKeys dVals

/-- what stands behind the top, as written -/
noncomputable def kF (P : Params) : Frag := [(2, z2 P), (74, y74 P), (139, v139 P), (140, v140 P), (144, v144 P), (145, v145 P), (161, v161 P), (167, v167 P), (168, v168 P), (174, v174 P), (175, v175 P), (212, v212 P), (213, v213 P), (270, v270 P), (271, v271 P), (273, v273 P), (274, v274 P)]
/-- what of the top a frame leans on -/
structure TF (w : World) (h : Heap) : Prop where
  g : ∃ mg, h.Ns mainGlobals mg ∧ (∀ x ∈ bNames, mg x = none) ∧ ∀ p ∈ gTab, mg p.1 = some (.ref p.2)
  b : ∃ mb, h.Ns builtinsNs mb ∧ ∀ x : Str, x ≠ "__name__" → mb x = bootBuiltins x
  lim : h.NoLimit
  fn : ∀ d ∈ fnTab, ∃ o pm cd doc, h.get? d.addr = some o ∧ o.data = .func (docDef d.name d.params d.body d.scope pm cd doc) ∧ h.CodeRec cd d.name
  k : (kF w.params).In h
  b3 : ∃ es, h.get? 85 = some (dO es 650) ∧ All2 EnR b3ps es.toList
theorem TF.keeps {w : World} {h h' : Heap} (T : TF w h) (k : ∀ b o, h.get? b = some o → h'.get? b = some o) : TF w h' :=
  ⟨let ⟨mg, a, b⟩ := T.g; ⟨mg, a.keeps k, b⟩, let ⟨mb, a, b⟩ := T.b; ⟨mb, a.keeps k, b⟩, T.lim.keeps k,
    fun d hd => let ⟨o, pm, cd, doc, e, hd', c, o', vs, t, h1, h2, h3, h4⟩ := T.fn d hd; ⟨o, pm, cd, doc, k _ _ e, hd', c, o', vs, t, h1, k _ _ h2, h3, h4⟩, T.k.keeps k, let ⟨es, a, b⟩ := T.b3; ⟨es, k _ _ a, b⟩⟩

structure Cx where
  w : World
  A : Around
  env : Env
  h₀ : Heap
  os : OsState
  lv : Nat
  cls : List (Nat × Addr)

structure Cx.Ok (C : Cx) : Prop where
  hh : C.A.handled = none
  fk : C.env.scope.kind = .function
  gl : C.env.globals = mainGlobals
  bi : C.env.builtins = builtinsNs
  T : TF C.w C.h₀
  dep : C.A.depth + C.lv < recursionLimit
  un : C.A.units + 30 * C.lv + 60 < cLine

structure Rel (C : Cx) (l : Loc) (σ : Sto) (as : List Addr) (s : Shared) : Prop where
  fr : ∃ m, Fr C.h₀ C.env.locals s.heap m ∧ ∀ x v, l.lookup x = some v → ∃ u, m x = some u ∧ VR as v u
  ln : as.length = σ.length
  st : ∀ (j : Nat) (o : PO), σ[j]? = some o → ∃ a, as[j]? = some a ∧ OH C.w as s.heap a o
  fs : ∀ a ∈ as, C.h₀.get? a = none ∧ a ≠ C.env.locals ∧ ∃ o, s.heap.get? a = some o
  nd : as.Nodup
  gn : ∀ x ∈ s.gens, x.bare = true
  os : s.os = C.os
  cs : ∀ p ∈ C.cls, as[p.1]? = some p.2

/-- from s to s' all that stood stands -/
structure Kp (s s' : Shared) : Prop where
  k : ∀ b o, s.heap.get? b = some o → s'.heap.get? b = some o
  g : (∀ x ∈ s.gens, x.bare = true) → ∀ x ∈ s'.gens, x.bare = true
  o : s'.os = s.os
  p : ∀ (i : Nat) x, s.gens[i]? = some x → s'.gens[i]? = some x
theorem Kp.refl (s : Shared) : Kp s s := ⟨fun _ _ e => e, fun h => h, rfl, fun _ _ e => e⟩
theorem Kp.trans {s s₁ s₂ : Shared} (a : Kp s s₁) (b : Kp s₁ s₂) : Kp s s₂ := ⟨fun x o e => b.k x o (a.k x o e), fun h => b.g (a.g h), b.o.trans a.o, fun i x e => b.p i x (a.p i x e)⟩
theorem Kp.toks {s : Shared} {tk : Nat} : Kp s { s with toks := tk } := ⟨fun _ _ e => e, fun h => h, rfl, fun _ _ e => e⟩
theorem Kp.heap {s : Shared} {h' : Heap} {tk : Nat} (hk : ∀ b o, s.heap.get? b = some o → h'.get? b = some o) : Kp s { s with heap := h', toks := tk } := ⟨hk, fun h => h, rfl, fun _ _ e => e⟩
theorem Kp.toks' {s s' : Shared} {tk : Nat} (h : Kp s s') : Kp s { s' with toks := tk } := h.trans .toks
theorem Kp.heap' {s s' : Shared} (h : Kp s s') {h' : Heap} {tk : Nat} (hk : ∀ b o, s'.heap.get? b = some o → h'.get? b = some o) : Kp s { s' with heap := h', toks := tk } := h.trans (.heap hk)

theorem Rel.kp {C : Cx} {l : Loc} {σ : Sto} {as : List Addr} {s s' : Shared} (R : Rel C l σ as s) (K : Kp s s') : Rel C l σ as s' := by
  obtain ⟨⟨m, F, hm⟩, ln, st, fs, nd, gn, os, cs⟩ := R
  exact ⟨⟨m, ⟨F.ns.keeps K.k, fun b o e => K.k b o (F.keep b o e), F.above⟩, hm⟩, ln, fun j o e => let ⟨a, ha, h⟩ := st j o e; ⟨a, ha, h.keeps (K.k a)⟩,
    fun a ha => let ⟨x, y, o, e⟩ := fs a ha; ⟨x, y, o, K.k a o e⟩, nd, K.g gn, K.o.trans os, cs⟩

/-- an expression gives a plain value; what stood stands -/
noncomputable def Ev (C : Cx) (l : Loc) (σ : Sto) (e : Expr) (v : PV) : Prop :=
  ∀ (as : List Addr) (s : Shared) (Q : Value → Shared → Prop) (E : Value → Shared → Prop), Rel C l σ as s → (∀ u s', Kp s s' → VR as v u → Q u s') → wpAny (model Pg C.w) C.A (eval e C.env) Q E s

/-- a test -/
noncomputable def Ts (C : Cx) (l : Loc) (σ : Sto) (e : Expr) (b : Bool) : Prop :=
  ∀ (as : List Addr) (s : Shared) (Q : Bool → Shared → Prop) (E : Value → Shared → Prop), Rel C l σ as s → (∀ s', Kp s s' → Q b s') → wpAny (model Pg C.w) C.A (isTrue e C.env (eval e C.env)) Q E s

/-- a fresh list -/
noncomputable def EvL (C : Cx) (l : Loc) (σ : Sto) (e : Expr) (vs : List PV) : Prop :=
  ∀ (as : List Addr) (s : Shared) (Q : Value → Shared → Prop) (E : Value → Shared → Prop), Rel C l σ as s →
    (∀ a s', Kp s s' → s.heap.get? a = none → OH C.w as s'.heap a (.list vs) → Q (.ref a) s') → wpAny (model Pg C.w) C.A (eval e C.env) Q E s

section
variable {C : Cx} {l : Loc} {σ : Sto}

theorem ev_int {i : Int} {k pos} : Ev C l σ (.Constant (.int i) k pos) (.int i) := fun _ _ _ _ R h => wpAny_Constant_int (h _ _ .toks ⟨_, rfl⟩)
theorem ev_str {x : Str} {k pos} : Ev C l σ (.Constant (.str x) k pos) (.str x) := fun _ _ _ _ R h => Calls.Constant_str (h _ _ .toks ⟨_, rfl⟩)
theorem ev_none {k pos} : Ev C l σ (.Constant .none k pos) .none := fun _ _ _ _ R h => wpAny_pure (h _ _ (.refl _) rfl)
theorem ev_bool {b : Bool} {k pos} : Ev C l σ (.Constant (.bool b) k pos) (.bool b) := fun _ _ _ _ R h => wpAny_pure (h _ _ (.refl _) rfl)

theorem ev_name (O : C.Ok) {x : Str} {pos : Pos} {v : PV} (hv : l.lookup x = some v) (hl : C.env.kindOf x = some .local) (hd : (x == ("__debug__" : Str)) = false := by decide) : Ev C l σ (.Name x pos) v := fun as s Q E R h => by
  obtain ⟨m, F, hm⟩ := R.fr
  obtain ⟨u, hu, hvr⟩ := hm x v hv
  exact wpAny_Name (wpAny_loadName_local O.fk hl F.ns hu (h u s (.refl _) hvr)) hd

/-- a binary operation on two plain values -/
noncomputable def Bin (w : World) (op : Operator) (a b v : PV) : Prop :=
  ∀ (A : Around) (ua ub : Value) (s : Shared) (Q : Value → Shared → Prop) (E : Value → Shared → Prop), VR [] a ua → VR [] b ub → (∀ u tk, VR [] v u → Q u { s with toks := tk }) → wpAny (model Pg w) A (binaryOp op ua ub) Q E s

theorem ev_bin {op : Operator} {e₁ e₂ : Expr} {pos : Pos} {a b v : PV} (h₁ : Ev C l σ e₁ a) (h₂ : Ev C l σ e₂ b) (ho : Bin C.w op a b v) (pa : a.plain = true := by rfl) (pb : b.plain = true := by rfl) (pv : v.plain = true := by rfl) :
    Ev C l σ (.BinOp e₁ op e₂ pos) v := fun as s Q E R h =>
  wpAny_BinOp (h₁ as s _ E R fun ua s₁ R₁ va => h₂ as s₁ _ E (R.kp R₁) fun ub s₂ R₂ vb => ho _ ua ub s₂ _ _ (va.as_plain pa) (vb.as_plain pb) fun u tk hu => h u _ (R₁.trans R₂).toks' (hu.as_plain pv))

theorem Rel.tf (O : C.Ok) {as : List Addr} {s : Shared} (R : Rel C l σ as s) : TF C.w s.heap := by
  obtain ⟨m, F, _⟩ := R.fr
  exact O.T.keeps F.keep

theorem nm_b (O : C.Ok) {x : Str} {pos : Pos} {v : Value} {as : List Addr} {s : Shared} {Q : Value → Shared → Prop} {E : Value → Shared → Prop} (R : Rel C l σ as s) (hx : x ∈ bNames) (hv : bootBuiltins x = some v) (hk : C.env.kindOf x = some .globalImplicit)
    (h : Q v s) (hn : x ≠ "__name__" := by decide) (hd : (x == ("__debug__" : Str)) = false := by decide) : wpAny (model Pg C.w) C.A (eval (.Name x pos) C.env) Q E s := by
  have T := R.tf O
  obtain ⟨mg, g1, g2, _⟩ := T.g
  obtain ⟨mb, b1, b2⟩ := T.b
  exact Calls.Name_function_global O.fk hk (Calls.loadGlobal_builtin (by rw [O.gl]; exact g1) (g2 x hx) (by rw [O.bi]; exact b1) ((b2 x hn).trans hv) h) hd
theorem nm_g (O : C.Ok) {x : Str} {pos : Pos} {a : Addr} {as : List Addr} {s : Shared} {Q : Value → Shared → Prop} {E : Value → Shared → Prop} (R : Rel C l σ as s) (hx : (x, a) ∈ gTab) (hk : C.env.kindOf x = some .globalImplicit)
    (h : Q (.ref a) s) (hd : (x == ("__debug__" : Str)) = false := by decide) : wpAny (model Pg C.w) C.A (eval (.Name x pos) C.env) Q E s := by
  have T := R.tf O
  obtain ⟨mg, g1, _, g3⟩ := T.g
  exact Calls.Name_function_global O.fk hk (Calls.loadGlobal_global (by rw [O.gl]; exact g1) (g3 _ hx) h) hd

/-- a comparison of two plain values -/
noncomputable def Cmp (w : World) (op : CmpOp) (a b : PV) (r : Bool) : Prop :=
  ∀ (A : Around) (ua ub : Value) (s : Shared) (Q : Value → Shared → Prop) (E : Value → Shared → Prop), VR [] a ua → VR [] b ub → Q (.bool r) s → wpAny (model Pg w) A (compareOp op ua ub) Q E s

theorem ev_cmp {op : CmpOp} {e₁ e₂ : Expr} {pos : Pos} {a b : PV} {r : Bool} (h₁ : Ev C l σ e₁ a) (h₂ : Ev C l σ e₂ b) (ho : Cmp C.w op a b r) (pa : a.plain = true := by rfl) (pb : b.plain = true := by rfl)
    (hm : behindInMarks op e₂ = false := by with_unfolding_all rfl) : Ev C l σ (.Compare e₁ [op] [e₂] pos) (.bool r) := fun as s Q E R h =>
  wpAny_Compare1 (h₁ as s _ E R fun ua s₁ R₁ va => h₂ as s₁ _ E (R.kp R₁) fun ub s₂ R₂ vb => ho _ ua ub s₂ _ _ (va.as_plain pa) (vb.as_plain pb) (h _ _ (R₁.trans R₂) rfl)) hm
theorem ts_cmp {op : CmpOp} {e₁ e₂ : Expr} {pos : Pos} {a b : PV} {r : Bool} (h₁ : Ev C l σ e₁ a) (h₂ : Ev C l σ e₂ b) (ho : Cmp C.w op a b r) (pa : a.plain = true := by rfl) (pb : b.plain = true := by rfl)
    (hm : behindInMarks op e₂ = false := by with_unfolding_all rfl) : Ts C l σ (.Compare e₁ [op] [e₂] pos) r := fun as s Q E R h =>
  wpAny_isTrue_Compare1 (h₁ as s _ E R fun ua s₁ R₁ va => h₂ as s₁ _ E (R.kp R₁) fun ub s₂ R₂ vb => ho _ ua ub s₂ _ _ (va.as_plain pa) (vb.as_plain pb) (wpAny_truthy_bool (h _ (R₁.trans R₂)))) hm
theorem ts_plain {e : Expr} {b : Bool} (h₁ : Ev C l σ e (.bool b)) (he : isTrue e C.env (eval e C.env) = (do let v ← eval e C.env; standAt e.pos; holding [v] (truthy v)) := by rfl) : Ts C l σ e b := fun as s Q E R h =>
  PyProof.Rows.isTrue_plain (h₁ as s _ E R fun u s₁ R₁ vu => by cases vu; exact wpAny_truthy_bool (h _ R₁)) he
theorem ts_not {e : Expr} {pos : Pos} {b : Bool} (h₁ : Ts C l σ e b) : Ts C l σ (.UnaryOp .Not e pos) (!b) := fun as s Q E R h => PyProof.Rows.isTrue_not (h₁ as s _ E R fun s' R' => h s' R')
theorem ts_and_nil {pos : Pos} : Ts C l σ (.BoolOp .And [] pos) true := fun _ s _ _ R h => PyProof.Rows.isTrue_and_nil (h s (.refl _))
theorem ts_or_nil {pos : Pos} : Ts C l σ (.BoolOp .Or [] pos) false := fun _ s _ _ R h => PyProof.Rows.isTrue_or_nil (h s (.refl _))
/-- the test of a BoolOp does not look at its own tree -/
theorem bool_whole {op : BoolOp} {es : List Expr} {pos : Pos} {x y : Sem Value} : isTrue (.BoolOp op es pos) C.env x = isTrue (.BoolOp op es pos) C.env y := rfl
theorem ts_and {e : Expr} {es : List Expr} {pos : Pos} {b c : Bool} (h₁ : Ts C l σ e b) (h₂ : b = true → Ts C l σ (.BoolOp .And es pos) c) : Ts C l σ (.BoolOp .And (e :: es) pos) (b && c) := fun as s Q E R h =>
  PyProof.Rows.isTrue_and (h₁ as s _ E R fun s' R' => by
    cases b with
    | true => exact h₂ rfl as s' Q E (R.kp R') fun s₂ K => h s₂ (R'.trans K)
    | false => exact h s' R')
theorem ts_or {e : Expr} {es : List Expr} {pos : Pos} {b c : Bool} (h₁ : Ts C l σ e b) (h₂ : b = false → Ts C l σ (.BoolOp .Or es pos) c) : Ts C l σ (.BoolOp .Or (e :: es) pos) (b || c) := fun as s Q E R h =>
  PyProof.Rows.isTrue_or (h₁ as s _ E R fun s' R' => by
    cases b with
    | true => exact h s' R'
    | false => exact h₂ rfl as s' Q E (R.kp R') fun s₂ K => h s₂ (R'.trans K))

theorem ev_if {t e₁ e₂ : Expr} {pos : Pos} {b : Bool} {v : PV} (ht : Ts C l σ t b) (h₁ : b = true → Ev C l σ e₁ v) (h₂ : b = false → Ev C l σ e₂ v) : Ev C l σ (.IfExp t e₁ e₂ pos) v := fun as s Q E R h =>
  wpAny_IfExp (ht as s _ E R fun s' R' => by
    cases b with
    | true => exact h₁ rfl as s' Q E (R.kp R') fun u s₂ K => h u s₂ (R'.trans K)
    | false => exact h₂ rfl as s' Q E (R.kp R') fun u s₂ K => h u s₂ (R'.trans K))

theorem cmp_eq_str {w : World} {a b : Str} : Cmp w .Eq (.str a) (.str b) (decide (a = b)) := by
  rintro A _ _ s Q E ⟨t, rfl⟩ ⟨u, rfl⟩ h
  refine P.eq_str ?_
  have : (a.cps.toList == b.cps.toList) = decide (a = b) := by
    by_cases e : a = b
    · subst e; simp
    · rw [decide_eq_false e]
      refine beq_eq_false_iff_ne.mpr fun q => e ?_
      exact PySem.Str.ext' (Array.toList_inj.mp q)
  rw [this]; exact h
theorem cmp_ne_str {w : World} {a b : Str} : Cmp w .NotEq (.str a) (.str b) (!decide (a = b)) := by
  rintro A _ _ s Q E ⟨t, rfl⟩ ⟨u, rfl⟩ h
  refine P.ne_str ?_
  have : (a.cps.toList != b.cps.toList) = !decide (a = b) := by
    by_cases e : a = b
    · subst e; simp
    · rw [decide_eq_false e]
      refine bne_iff_ne.mpr fun q => e ?_
      exact PySem.Str.ext' (Array.toList_inj.mp q)
  rw [this]; exact h
theorem cmp_eq_int {w : World} {a b : Int} : Cmp w .Eq (.int a) (.int b) (a == b) := by
  rintro A _ _ s Q E ⟨t, rfl⟩ ⟨u, rfl⟩ h; exact P.eq_int h
theorem cmp_ne_int {w : World} {a b : Int} : Cmp w .NotEq (.int a) (.int b) (a != b) := by
  rintro A _ _ s Q E ⟨t, rfl⟩ ⟨u, rfl⟩ h; exact P.ne_int h
theorem cmp_lt_int {w : World} {a b : Int} : Cmp w .Lt (.int a) (.int b) (decide (a < b)) := by
  rintro A _ _ s Q E ⟨t, rfl⟩ ⟨u, rfl⟩ h; exact P.lt_int h
theorem cmp_gt_int {w : World} {a b : Int} : Cmp w .Gt (.int a) (.int b) (decide (a > b)) := by
  rintro A _ _ s Q E ⟨t, rfl⟩ ⟨u, rfl⟩ h; exact P.gt_int h
theorem cmp_ge_int {w : World} {a b : Int} : Cmp w .GtE (.int a) (.int b) (decide (a ≥ b)) := by
  rintro A _ _ s Q E ⟨t, rfl⟩ ⟨u, rfl⟩ h; exact P.ge_int h
theorem cmp_eq_bool {w : World} {a b : Bool} : Cmp w .Eq (.bool a) (.bool b) (a == b) := by
  rintro A _ _ s Q E rfl rfl h; exact PyProof.Rows.eq_bool h
theorem cmp_is_true {w : World} {a : Bool} : Cmp w .Is (.bool a) (.bool true) a := by
  rintro A _ _ s Q E rfl rfl h
  exact wpAny_is_plain rfl (by cases a <;> exact h)
theorem cmp_is_none_int {w : World} {a : Int} : Cmp w .Is (.int a) .none false := by
  rintro A _ _ s Q E ⟨t, rfl⟩ rfl h
  exact wpAny_is_plain rfl h
theorem cmp_is_none {w : World} : Cmp w .Is .none .none true := by
  rintro A _ _ s Q E rfl rfl h
  exact wpAny_is_plain rfl h
theorem cmp_isnot_none_str {w : World} {a : Str} : Cmp w .IsNot (.str a) .none true := by
  rintro A _ _ s Q E ⟨t, rfl⟩ rfl h
  exact wpAny_isNot_plain rfl h
theorem cmp_isnot_none {w : World} : Cmp w .IsNot .none .none false := by
  rintro A _ _ s Q E rfl rfl h
  exact wpAny_isNot_plain rfl h
theorem cmp_notin_str {w : World} {a b : Str} : Cmp w .NotIn (.str a) (.str b) (!Txt.contains b a) := by
  rintro A _ _ s Q E ⟨t, rfl⟩ ⟨u, rfl⟩ h
  exact SB.notContains h

theorem bin_sub_int {w : World} {a b : Int} : Bin w .Sub (.int a) (.int b) (.int (a - b)) := by
  rintro A _ _ s Q E ⟨t, rfl⟩ ⟨u, rfl⟩ h; exact P.sub_int (h _ _ ⟨_, rfl⟩)
theorem bin_mod_int {w : World} {a b : Int} (hb : b ≠ 0) : Bin w .Mod (.int a) (.int b) (.int (a.fmod b)) := by
  rintro A _ _ s Q E ⟨t, rfl⟩ ⟨u, rfl⟩ h; exact PyProof.Rows.mod_int' hb (h _ _ ⟨_, rfl⟩)
theorem bin_add_str {w : World} {a b : Str} (hs : a.length + b.length ≤ sizeLine) : Bin w .Add (.str a) (.str b) (.str (a ++ b)) := by
  rintro A _ _ s Q E ⟨t, rfl⟩ ⟨u, rfl⟩ h; exact SB.add (fun t' k => h _ _ ⟨_, rfl⟩) hs

/-- a builtin function on plain values; the heap may grow -/
noncomputable def Prim (w : World) (f : Value) (args : List PV) (v : PV) : Prop :=
  ∀ (A : Around) (us : List Value) (s : Shared) (Q : Value → Shared → Prop) (E : Value → Shared → Prop), A.handled = none → All2 (VR []) args us →
    (∀ u h' tk, (∀ b o, s.heap.get? b = some o → h'.get? b = some o) → VR [] v u → Q u { s with heap := h', toks := tk }) → wpAny (model Pg w) A (call f us) Q E s

theorem ev_b1 (O : C.Ok) {x : Str} {np pos : Pos} {e : Expr} {id : String} {a v : PV} (h₁ : Ev C l σ e a) (hp : Prim C.w (.builtin id) [a] v) (hx : x ∈ bNames) (hv : bootBuiltins x = some (.builtin id)) (hk : C.env.kindOf x = some .globalImplicit)
    (hs : starEach [e] C.env = [(false, eval e C.env)] := by rfl) (pa : a.plain = true := by rfl) (pv : v.plain = true := by rfl) (hn : x ≠ "__name__" := by decide) (hd : (x == ("__debug__" : Str)) = false := by decide) :
    Ev C l σ (.Call (.Name x np) [e] [] pos) v := fun as s Q E R h =>
  Call_name1 hs (nm_b O R hx hv hk (callWith_builtin1 (h₁ as s _ E R fun u s₁ R₁ vu => hp _ [u] s₁ _ _ O.hh (.cons (vu.as_plain pa) .nil) fun u' h' tk k v' => h _ _ (R₁.heap' k) (v'.as_plain pv))) hn hd)
theorem ev_t1 (O : C.Ok) {x : Str} {np pos : Pos} {e : Expr} {T : String} {a v : PV} (h₁ : Ev C l σ e a) (hp : Prim C.w (.type T) [a] v) (hx : x ∈ bNames) (hv : bootBuiltins x = some (.type T)) (hk : C.env.kindOf x = some .globalImplicit)
    (hs : starEach [e] C.env = [(false, eval e C.env)] := by rfl) (pa : a.plain = true := by rfl) (pv : v.plain = true := by rfl) (hn : x ≠ "__name__" := by decide) (hd : (x == ("__debug__" : Str)) = false := by decide) :
    Ev C l σ (.Call (.Name x np) [e] [] pos) v := fun as s Q E R h =>
  Call_name1 hs (nm_b O R hx hv hk (PySem.callWith_type1 (h₁ as s _ E R fun u s₁ R₁ vu => hp _ [u] s₁ _ _ O.hh (.cons (vu.as_plain pa) .nil) fun u' h' tk k v' => h _ _ (R₁.heap' k) (v'.as_plain pv))) hn hd)
theorem ev_b2 (O : C.Ok) {x : Str} {np pos : Pos} {e₁ e₂ : Expr} {id : String} {a b v : PV} (h₁ : Ev C l σ e₁ a) (h₂ : Ev C l σ e₂ b) (hp : Prim C.w (.builtin id) [a, b] v) (hx : x ∈ bNames) (hv : bootBuiltins x = some (.builtin id)) (hk : C.env.kindOf x = some .globalImplicit)
    (hs : backTo pos (starEach [e₁, e₂] C.env) = [(false, eval e₁ C.env), (false, eval e₂ C.env)] := by rfl) (pa : a.plain = true := by rfl) (pb : b.plain = true := by rfl) (pv : v.plain = true := by rfl) (hn : x ≠ "__name__" := by decide) (hd : (x == ("__debug__" : Str)) = false := by decide) :
    Ev C l σ (.Call (.Name x np) [e₁, e₂] [] pos) v := fun as s Q E R h =>
  PyProof.Rows.Call_Name hs (nm_b O R hx hv hk (Calls.callWith_builtin rfl (Calls.evalArgs_plain (Calls.spliced_cons (h₁ as s _ E R fun u s₁ R₁ vu => Calls.spliced_cons (h₂ as s₁ _ E (R.kp R₁) fun u₂ s₂ R₂ vu₂ => Calls.spliced_nil
    (hp _ [u, u₂] s₂ _ _ O.hh (.cons (vu.as_plain pa) (.cons (vu₂.as_plain pb) .nil)) fun u' h' tk k v' => h _ _ ((R₁.trans R₂).heap' k) (v'.as_plain pv))))))) hn hd)

theorem prim_len_str {w : World} {x : Str} (hx : x.length < 2 ^ 62) : Prim w (.builtin "len") [.str x] (.int x.length) := by
  rintro A us s Q E _ (_ | ⟨⟨t, rfl⟩, _ | _⟩) h
  exact P.len_str (by omega) (h _ s.heap _ (fun _ _ e => e) ⟨_, rfl⟩)
theorem prim_max2 {w : World} {a b : Int} : Prim w (.builtin "max") [.int a, .int b] (.int (if b > a then b else a)) := by
  rintro A us s Q E hh (_ | ⟨⟨t, rfl⟩, _ | ⟨⟨u, rfl⟩, _ | _⟩⟩) h
  refine max_two_ints hh fun h' tk k => h _ h' tk k ?_
  by_cases c : b > a
  · rw [if_pos c, if_pos c]; exact ⟨_, rfl⟩
  · rw [if_neg c, if_neg c]; exact ⟨_, rfl⟩
theorem prim_min2 {w : World} {a b : Int} : Prim w (.builtin "min") [.int a, .int b] (.int (if b < a then b else a)) := by
  rintro A us s Q E hh (_ | ⟨⟨t, rfl⟩, _ | ⟨⟨u, rfl⟩, _ | _⟩⟩) h
  refine min_two_ints hh fun h' tk k => h _ h' tk k ?_
  by_cases c : b < a
  · rw [if_pos c, if_pos c]; exact ⟨_, rfl⟩
  · rw [if_neg c, if_neg c]; exact ⟨_, rfl⟩
theorem prim_chr {w : World} {i : Int} (hi : (decide (i < 0) || decide (i > 0x10FFFF)) = false) : Prim w (.builtin "chr") [.int i] (.str ⟨#[i.toNat]⟩) := by
  rintro A us s Q E hh (_ | ⟨⟨t, rfl⟩, _ | _⟩) h
  exact P.chr_of_int hi (h _ s.heap _ (fun _ _ e => e) ⟨_, rfl⟩)
theorem prim_ord {w : World} {c : Nat} : Prim w (.builtin "ord") [.str ⟨#[c]⟩] (.int c) := by
  rintro A us s Q E hh (_ | ⟨⟨t, rfl⟩, _ | _⟩) h
  exact P.ord_of_char (h _ s.heap _ (fun _ _ e => e) ⟨_, rfl⟩)

theorem bin_add_int {w : World} {a b : Int} : Bin w .Add (.int a) (.int b) (.int (a + b)) := by
  rintro A _ _ s Q E ⟨t, rfl⟩ ⟨u, rfl⟩ h
  exact P.add_int (h _ _ ⟨_, rfl⟩)
end
end Mine
end
noncomputable section
open PySem PySem.Spec PySem.Calls PyProof.Rows PyProof.V PySem.W
set_option Elab.async false
set_option linter.unusedVariables false
set_option maxRecDepth 100000
namespace Mine

noncomputable def hp (l : List Obj) (life : Life) : Heap := ⟨l.toArray, life⟩
theorem hp_get {l : List Obj} {life : Life} {i : Nat} {es n} (h : l[i]? = some (dO es n)) : (hp l life).get? i = some (dO es n) := by
  unfold Heap.get? hp
  rw [List.getElem?_toArray, h]; rfl
theorem hp_push (l : List Obj) (life : Life) (o : Obj) : (hp l life).push o = hp (l ++ [o]) life := by
  unfold hp Heap.push
  simp
theorem list_mod (f : Obj → Obj) (o : Obj) (post : List Obj) : ∀ pre : List Obj, (pre ++ o :: post).modify pre.length f = pre ++ f o :: post
  | [] => rfl
  | a :: pre => by
    show (a :: (pre ++ o :: post)).modify (pre.length + 1) f = a :: (pre ++ f o :: post)
    rw [List.modify_succ_cons, list_mod f o post pre]
theorem hp_upd {pre post : List Obj} {o : Obj} {life : Life} {f : Obj → Obj} : (hp (pre ++ o :: post) life).update pre.length f = hp (pre ++ f o :: post) life := by
  unfold hp Heap.update
  simp only [List.modify_toArray, list_mod]
theorem hp_size (l : List Obj) (life : Life) : (hp l life).objs.size = l.length := by unfold hp; simp
theorem mid_get {pre post : List Obj} {o : Obj} : (pre ++ o :: post)[pre.length]? = some o := by simp

theorem enr_keys {ps : List (Int × Str)} {l : List DictEntry} (h : All2 EnR ps l) : ∀ e ∈ l, ∃ p ∈ ps, (∃ t, e.key = .int p.1 t) ∧ e.hash = hashInt p.1 := by
  induction h with
  | nil => intro e he; cases he
  | cons hr _ ih =>
    intro e he
    rcases List.mem_cons.mp he with rfl | he
    · exact ⟨_, List.mem_cons_self, hr.2.1, hr.1⟩
    · obtain ⟨p, hp, x⟩ := ih e he; exact ⟨p, List.mem_cons_of_mem _ hp, x⟩
theorem enr_intKeys {ps : List (Int × Str)} {es : Array DictEntry} (h : All2 EnR ps es.toList) : IntKeys es := fun e he => by
  obtain ⟨p, _, ⟨t, a⟩, b⟩ := enr_keys h e (Array.mem_toList_iff.mpr he)
  exact ⟨p.1, t, a, b⟩
theorem enr_new {ps : List (Int × Str)} {es : Array DictEntry} (h : All2 EnR ps es.toList) {k : Int} (hk : k ∉ ps.map Prod.fst) : (es.findIdx? fun e => Value.isInt k e.key) = none := by
  refine Array.findIdx?_eq_none_iff.mpr fun e he => ?_
  obtain ⟨p, hp, ⟨t, a⟩, _⟩ := enr_keys h e (Array.mem_toList_iff.mpr he)
  rw [a]
  exact beq_eq_false_iff_ne.mpr fun q => hk (List.mem_map.mpr ⟨p, hp, q⟩)
theorem enr_size {ps : List (Int × Str)} {es : Array DictEntry} (h : All2 EnR ps es.toList) : es.size = ps.length := by rw [h.length]; simp

section
variable {w : World} {A : Around} {E : Value → Shared → Prop} {s : Shared} {life : Life} {tk : Nat}
/-- the run's state: its objects, its tokens -/
noncomputable def stt (s : Shared) (life : Life) (l : List Obj) (tk : Nat) : Shared := { s with heap := hp l life, toks := tk }

theorem dsetH {pre post : List Obj} {es : Array DictEntry} {n : Nat} {ps : List (Int × Str)} {k : Int} {t : Tok} {v : Value} {Q : Unit → Shared → Prop} (hp' : All2 EnR ps es.toList) (hk : k ∉ ps.map Prod.fst) (hsz : ps.length ≤ 1000)
    (h : Q () (stt s life (pre ++ dO (es.push ⟨hashInt k, .int k t, v⟩) (n + 1) :: post) (tk + 1))) : wpAny (model Pg w) A (dictSet pre.length (.int k t) v) Q E (stt s life (pre ++ dO es n :: post) tk) := by
  have ho : (stt s life (pre ++ dO es n :: post) (tk + 1)).heap.get? pre.length = some (dO es n) := hp_get mid_get
  unfold dictSet
  refine wpAny_holding (wpAny_bind (wpAny_pyHash_int ?_))
  unfold dictSetHashed
  refine wpAny_holding (wpAny_bind (wpAny_dictFind_int (s := stt s life (pre ++ dO es n :: post) (tk + 1)) ho rfl (enr_intKeys hp') ?_))
  rw [enr_new hp' hk]
  refine wpAny_bind (wpAny_rule (wpAny_updateDictKeys (s := stt s life (pre ++ dO es n :: post) (tk + 1)) ho rfl ?_ (by rw [enr_size hp', sizeLine_eq]; omega) (by simp)))
  have e : (stt s life (pre ++ dO es n :: post) (tk + 1)).heap.update pre.length (Obj.mapDictKeys (·.push ⟨hashInt k, .int k t, v⟩)) = hp (pre ++ dO (es.push ⟨hashInt k, .int k t, v⟩) (n + 1) :: post) life := hp_upd
  rw [e]; exact h
theorem dput {pre post : List Obj} {es : Array DictEntry} {n : Nat} {ps : List (Int × Str)} {k : Int} {t : Tok} {v : Value} {Q : Unit → Shared → Prop} (hp' : All2 EnR ps es.toList) (hk : k ∉ ps.map Prod.fst) (hsz : ps.length ≤ 1000)
    (h : Q () (stt s life (pre ++ dO (es.push ⟨hashInt k, .int k t, v⟩) (n + 1) :: post) tk)) : wpAny (model Pg w) A (dictPut pre.length (hashInt k) (.int k t) v) Q E (stt s life (pre ++ dO es n :: post) tk) := by
  have ho : (stt s life (pre ++ dO es n :: post) tk).heap.get? pre.length = some (dO es n) := hp_get mid_get
  unfold dictPut
  refine wpAny_bind (wpAny_dictFind_int (s := stt s life (pre ++ dO es n :: post) tk) ho rfl (enr_intKeys hp') ?_)
  rw [enr_new hp' hk]
  refine wpAny_updateDictKeys (s := stt s life (pre ++ dO es n :: post) tk) ho rfl ?_ (by rw [enr_size hp', sizeLine_eq]; omega) (by simp)
  have e : (stt s life (pre ++ dO es n :: post) tk).heap.update pre.length (Obj.mapDictKeys (·.push ⟨hashInt k, .int k t, v⟩)) = hp (pre ++ dO (es.push ⟨hashInt k, .int k t, v⟩) (n + 1) :: post) life := hp_upd
  rw [e]; exact h

/-- a pair of the display -/
noncomputable def PairOk (w : World) (A : Around) (p : Int × Str) (x : Sem Value × Sem Value) : Prop :=
  (∀ (Q : Value → Shared → Prop) (E : Value → Shared → Prop) (s : Shared), Q (.int p.1 s.toks) { s with toks := s.toks + 1 } → wpAny (model Pg w) A x.1 Q E s) ∧
  (∀ (Q : Value → Shared → Prop) (E : Value → Shared → Prop) (s : Shared), Q (.str p.2 s.toks) { s with toks := s.toks + 1 } → wpAny (model Pg w) A x.2 Q E s)

theorem enr_push {ps : List (Int × Str)} {es : Array DictEntry} (h : All2 EnR ps es.toList) (k : Int) (x : Str) (t u : Tok) : All2 EnR (ps ++ [(k, x)]) (es.push ⟨hashInt k, .int k t, .str x u⟩).toList := by
  rw [Array.toList_push]
  exact h.snoc ⟨rfl, ⟨t, rfl⟩, u, rfl⟩
theorem not_mem_of_nodup {d r : List (Int × Str)} {p : Int × Str} {x : List (Int × Str)} (h : ((d ++ p :: r).map Prod.fst).Nodup) : p.1 ∉ d.map Prod.fst := by
  rw [List.map_append, List.nodup_append] at h
  intro hm
  exact h.2.2 _ hm _ (by simp) rfl

abbrev KV (p : Int × Str) (x : Value × Value) : Prop := (∃ t, x.1 = .int p.1 t) ∧ ∃ t, x.2 = .str p.2 t
theorem pairs_eval : ∀ (ps : List (Int × Str)) (pairs : List (Sem Value × Sem Value)) (s : Shared) (Q : List (Value × Value) → Shared → Prop), All2 (PairOk w A) ps pairs → (∀ vs, All2 KV ps vs → Q vs { s with toks := s.toks + 2 * ps.length }) →
    wpAny (model Pg w) A (evalPairs pairs) Q E s
  | _, _, s, Q, .nil, h => evalPairs_nil (by simpa using h [] .nil)
  | p :: ps, x :: pairs, s, Q, .cons hx hr, h => by
    refine evalPairs_cons (hx.1 _ _ _ (hx.2 _ _ _ (pairs_eval ps pairs _ _ hr fun vs hv => ?_)))
    have := h _ (All2.cons (R := KV) (a := p) (b := (.int p.1 s.toks, .str p.2 (s.toks + 1))) ⟨⟨_, rfl⟩, ⟨_, rfl⟩⟩ hv)
    simp only [List.length_cons] at this
    rw [show s.toks + 2 * (ps.length + 1) = s.toks + 1 + 1 + 2 * ps.length by omega] at this
    exact this

theorem sub_run {l : List Obj} {ps : List (Int × Str)} {pairs : List (Sem Value × Sem Value)} {Q : Addr → Shared → Prop} (hpr : All2 (PairOk w A) ps pairs) (hnd : (ps.map Prod.fst).Nodup) (hsz : ps.length ≤ 1000)
    (h : ∀ es, All2 EnR ps es.toList → Q l.length (stt s life (l ++ [dO es ps.length]) (tk + 3 * ps.length))) : wpAny (model Pg w) A (subDict pairs) Q E (stt s life l tk) := by
  unfold subDict
  refine wpAny_bind (wpAny_alloc ?_)
  have e0 : ({ (stt s life l tk) with heap := (stt s life l tk).heap.push { cls := .type "dict", data := .dict #[] } } : Shared) = stt s life (l ++ [dO #[] 0]) tk := by
    unfold stt; dsimp only; rw [hp_push]; rfl
  have e1 : (stt s life l tk).heap.objs.size = l.length := hp_size l life
  rw [e0, e1]
  refine wpAny_bind (wpAny_holding ?_)
  by_cases hlen : pairs.length ≤ 15
  · rw [if_pos hlen]
    refine wpAny_bind (pairs_eval ps pairs _ _ hpr fun vs hv => wpAny_holding (wpAny_bind ?_))
    refine wpAny_forIn_list _ (fun rest b s' => ∃ d r es, ps = d ++ r ∧ All2 KV r rest ∧ All2 EnR d es.toList ∧ s' = stt s life (l ++ [dO es d.length]) (tk + 2 * ps.length + d.length)) _ ?_ ?_ _ _ ⟨[], ps, #[], rfl, hv, .nil, by simp [stt]⟩
    · rintro ⟨x1, x2⟩ rest b s' ⟨d, r, es, rfl, hr, hes, rfl⟩
      cases hr with
      | @cons p _ r _ hx hr =>
        obtain ⟨⟨t, rfl⟩, u, rfl⟩ := hx
        refine wpAny_bind (dsetH (post := []) hes (not_mem_of_nodup (x := []) hnd) (by simp at hsz; omega) (wpAny_pure ⟨d ++ [p], r, _, by simp, hr, enr_push hes p.1 p.2 t u, ?_⟩))
        simp only [List.length_append, List.length_cons, List.length_nil]; rfl
    · rintro b s' ⟨d, r, es, rfl, hr, hes, rfl⟩
      cases hr
      refine wpAny_pure (wpAny_pure ?_)
      have := h es (by simpa using hes)
      simp only [List.append_nil] at this ⊢
      rw [show tk + 2 * d.length + d.length = tk + 3 * d.length by omega]; exact this
  · rw [if_neg hlen]
    refine wpAny_bind (wpAny_rule (wpAny_bind ?_))
    refine wpAny_forIn_list _ (fun rest b s' => ∃ d r es, ps = d ++ r ∧ All2 (PairOk w A) r rest ∧ All2 EnR d es.toList ∧ s' = stt s life (l ++ [dO es d.length]) (tk + 3 * d.length)) _ ?_ ?_ _ _ ⟨[], ps, #[], rfl, hpr, .nil, by simp⟩
    · rintro ⟨x1, x2⟩ rest b s' ⟨d, r, es, rfl, hr, hes, rfl⟩
      cases hr with
      | @cons p _ r _ hx hr =>
        refine wpAny_bind (hx.1 _ _ _ (wpAny_bind (wpAny_holding (hx.2 _ _ _ (wpAny_bind (wpAny_holding ?_))))))
        refine dsetH (s := s) (tk := tk + 3 * d.length + 1 + 1) (post := []) hes (not_mem_of_nodup (x := []) hnd) (by simp at hsz; omega) (wpAny_pure ⟨d ++ [p], r, _, by simp, hr, enr_push hes p.1 p.2 (tk + 3 * d.length) (tk + 3 * d.length + 1), ?_⟩)
        simp only [List.length_append, List.length_cons, List.length_nil]
        rw [show tk + 3 * (d.length + (0 + 1)) = tk + 3 * d.length + 1 + 1 + 1 by omega]
        rfl
    · rintro b s' ⟨d, r, es, rfl, hr, hes, rfl⟩
      cases hr
      refine wpAny_pure (wpAny_pure ?_)
      have := h es (by simpa using hes)
      simp only [List.append_nil] at this ⊢
      exact this

theorem enr_get {ps : List (Int × Str)} {es : Array DictEntry} (h : All2 EnR ps es.toList) {i : Nat} {p : Int × Str} (hp : ps[i]? = some p) : ∃ t u, es[i]? = some ⟨hashInt p.1, .int p.1 t, .str p.2 u⟩ := by
  obtain ⟨e, he, h1, ⟨t, h2⟩, u, h3⟩ := h.get hp
  rw [Array.getElem?_toList] at he
  refine ⟨t, u, ?_⟩
  rw [he, ← h1, ← h2, ← h3]

theorem merge_run {pre mid : List Obj} {es es2 : Array DictEntry} {n n2 : Nat} {ps ps2 : List (Int × Str)} {Q : Unit → Shared → Prop} (hes : All2 EnR ps es.toList) (hes2 : All2 EnR ps2 es2.toList) (hnd : ((ps ++ ps2).map Prod.fst).Nodup) (hsz : (ps ++ ps2).length ≤ 1000) (hne : ps ≠ []) (hbig : sysModules ≠ (pre ++ dO es n :: mid).length)
    (h : ∀ es3, All2 EnR (ps ++ ps2) es3.toList → Q () (stt s life (pre ++ dO es3 (n + ps2.length) :: mid ++ [dO es2 n2]) tk)) :
    wpAny (model Pg w) A (mergeMapping pre.length (.ref (pre ++ dO es n :: mid).length) false) Q E (stt s life (pre ++ dO es n :: mid ++ [dO es2 n2]) tk) := by
  have gsub : ∀ (es' : Array DictEntry) n', (stt s life (pre ++ dO es' n' :: mid ++ [dO es2 n2]) tk).heap.get? (pre ++ dO es n :: mid).length = some (dO es2 n2) := fun es' n' => by
    refine hp_get ?_
    have : (pre ++ dO es n :: mid).length = (pre ++ dO es' n' :: mid).length := by simp
    rw [this]; simp
  have gmain : ∀ (es' : Array DictEntry) n', (stt s life (pre ++ dO es' n' :: mid ++ [dO es2 n2]) tk).heap.get? pre.length = some (dO es' n') := fun es' n' => hp_get (by simp)
  have T : ∀ (es' : Array DictEntry) n', (stt s life (pre ++ dO es' n' :: mid ++ [dO es2 n2]) tk).TypeIs (.ref (pre ++ dO es n :: mid).length) "dict" := fun es' n' => ⟨_, gsub es' n', rfl⟩
  unfold mergeMapping
  refine wpAny_bind (wpAny_isInstance (T es n) (U := "dict") (b := true) (by rw [isSubtype_type]; kernel_rfl) ?_)
  rw [if_pos rfl]
  refine wpAny_bind (wpAny_specialOf (T es n) F.slot_dict_iter.lookup (wpAny_bind (wpAny_pure ?_)))
  have e0 : ((some (Value.builtin "dict.__iter__") : Option Value) == some (Value.builtin "dict.__iter__")) = true := by decide +kernel
  rw [e0]
  dsimp only
  have e1 : ((pre ++ dO es n :: mid).length == sysModules) = false := beq_eq_false_iff_ne.mpr (Ne.symm hbig)
  rw [if_neg (by rw [e1]; decide)]
  refine wpAny_bind (wpAny_dictEntries (gmain es n) rfl ?_)
  have e2 : es.isEmpty = false := by
    cases ps with
    | nil => exact absurd rfl hne
    | cons p ps =>
      have := enr_size hes
      simp only [Array.isEmpty, this]
      simp
  rw [if_neg (by rw [e2]; decide)]
  refine wpAny_bind (wpAny_dictEntries (gsub es n) rfl (wpAny_bind (wpAny_dictEpoch (gsub es n) rfl ?_)))
  refine wpAny_bind ?_
  refine wpAny_forIn_list _ (fun rest b s' => ∃ i es3, rest = List.range' i (ps2.length - i) ∧ i ≤ ps2.length ∧ All2 EnR (ps ++ ps2.take i) es3.toList ∧ s' = stt s life (pre ++ dO es3 (n + i) :: mid ++ [dO es2 n2]) tk) _ ?_ ?_ _ _
    ⟨0, es, by rw [List.range_eq_range', enr_size hes2]; simp, Nat.zero_le _, by simpa using hes, by simp⟩
  · rintro x rest b s' ⟨i, es3, hr, hi, hes3, rfl⟩
    have hlt : i < ps2.length := by
      rcases Nat.lt_or_ge i ps2.length with h | h
      · exact h
      · rw [show ps2.length - i = 0 by omega] at hr; cases hr
    obtain ⟨m, hm⟩ : ∃ m, ps2.length - i = m + 1 := ⟨ps2.length - i - 1, by omega⟩
    rw [hm, List.range'_succ] at hr
    obtain ⟨rfl, rfl⟩ := List.cons.inj hr
    obtain ⟨t, u, he⟩ := enr_get hes2 (List.getElem?_eq_getElem hlt)
    refine wpAny_bind (wpAny_dictEntries (gsub es3 (n + x)) rfl ?_)
    rw [he]
    refine wpAny_bind (wpAny_holding ?_)
    dsimp only
    rw [if_neg (by decide)]
    have ht : ps2.take (x + 1) = ps2.take x ++ [ps2[x]] := by rw [List.take_add_one, List.getElem?_eq_getElem hlt]; rfl
    have hk : ps2[x].1 ∉ (ps ++ ps2.take x).map Prod.fst := by
      have e : ps ++ ps2 = (ps ++ ps2.take x) ++ ps2[x] :: ps2.drop (x + 1) := by
        rw [List.append_assoc, ← List.drop_eq_getElem_cons hlt, List.take_append_drop]
      rw [e] at hnd
      exact not_mem_of_nodup (x := []) hnd
    have hl : (ps ++ ps2.take x).length ≤ 1000 := by
      rw [List.length_append, List.length_take]; rw [List.length_append] at hsz; omega
    rw [List.append_assoc, List.cons_append]
    refine dput (post := mid ++ [dO es2 n2]) hes3 hk hl ?_
    refine wpAny_bind ?_
    have gs := gsub (es3.push ⟨hashInt ps2[x].1, .int ps2[x].1 t, .str ps2[x].2 u⟩) (n + x + 1)
    rw [List.append_assoc, List.cons_append] at gs
    refine wpAny_dictEpoch gs rfl ?_
    rw [if_neg (by simp)]
    refine wpAny_pure ⟨x + 1, es3.push ⟨hashInt ps2[x].1, .int ps2[x].1 t, .str ps2[x].2 u⟩, ?_, hlt, ?_, ?_⟩
    · rw [show ps2.length - (x + 1) = m by omega]
    · rw [ht, ← List.append_assoc]; exact enr_push hes3 ps2[x].1 ps2[x].2 t u
    · rw [List.append_assoc, List.cons_append]; rfl
  · rintro b s' ⟨i, es3, hr, hi, hes3, rfl⟩
    have : i = ps2.length := by
      have := congrArg List.length hr
      simp at this; omega
    subst this
    exact wpAny_pure (h es3 (by simpa using hes3))

/-- what stands while the display goes -/
noncomputable def DSt (s : Shared) (life : Life) (base : List Obj) (tk₀ : Nat) (fl : List (Int × Str)) (main : Option Addr) (s' : Shared) : Prop :=
  (main = none ∧ fl = [] ∧ s' = stt s life base tk₀) ∨
  (main = some base.length ∧ fl ≠ [] ∧ ∃ es subs, All2 EnR fl es.toList ∧ fl.length ≤ 17 * (subs.length + 1) ∧ 17 * subs.length < fl.length ∧ s' = stt s life (base ++ dO es fl.length :: subs) (tk₀ + 3 * fl.length))

theorem flush_run {base : List Obj} {tk₀ : Nat} {fl rn : List (Int × Str)} {run : List (Sem Value × Sem Value)} {main : Option Addr} {s' : Shared} {Q : Option Addr → Shared → Prop} (hb : sysModules < base.length) (hD : DSt s life base tk₀ fl main s') (h17 : fl.length % 17 = 0) (hr : All2 (PairOk w A) rn run) (hl : rn.length ≤ 17) (h0 : rn ≠ [])
    (hnd : ((fl ++ rn).map Prod.fst).Nodup) (hsz : (fl ++ rn).length ≤ 1000) (h : ∀ s'', DSt s life base tk₀ (fl ++ rn) (some base.length) s'' → Q (some base.length) s'') :
    wpAny (model Pg w) A (match main with
      | none => do return some (← subDict run)
      | some d => do
        let sub ← holding [.ref d] (subDict run)
        (holding [.ref d, .ref sub] (mergeMapping d (.ref sub) false)).onRaise fun x => do let _ ← holding [.ref d, x] (runValue (.builtin "proto.let_go" {}))
        return some d) Q E s' := by
  rcases hD with ⟨rfl, rfl, rfl⟩ | ⟨rfl, hne, es, subs, hes, hb1, hb2, rfl⟩
  · refine wpAny_bind (sub_run hr (by simpa using hnd) (by omega) fun es hes => wpAny_pure (h _ (.inr ⟨rfl, by simpa using h0, es, [], by simpa using hes, by simpa using hl, ?_, ?_⟩)))
    · cases rn with
      | nil => exact absurd rfl h0
      | cons a b => simp
    · simp [List.nil_append]
  · have hnr : (rn.map Prod.fst).Nodup := by rw [List.map_append] at hnd; exact (List.nodup_append.mp hnd).2.1
    refine wpAny_bind (wpAny_holding (sub_run hr hnr (by omega) fun es2 hes2 => ?_))
    refine wpAny_bind (wpAny_onRaise (wpAny_holding (merge_run (s := s) (pre := base) (mid := subs) hes hes2 hnd hsz hne (Nat.ne_of_lt (Nat.lt_of_lt_of_le hb (by simp))) fun es3 hes3 => wpAny_pure (h _ (.inr ⟨rfl, by simp [hne], es3, subs ++ [dO es2 rn.length], hes3, ?_, ?_, ?_⟩)))))
    · simp only [List.length_append, List.length_cons, List.length_nil]; omega
    · have : 0 < rn.length := List.length_pos_iff.mpr h0
      simp only [List.length_append, List.length_cons, List.length_nil]; omega
    · simp only [List.length_append, List.append_assoc, List.cons_append]
      rw [show tk₀ + 3 * (fl.length + rn.length) = tk₀ + 3 * fl.length + 3 * rn.length by omega]

theorem display_run {base : List Obj} {tk₀ : Nat} {ps : List (Int × Str)} {pairs : List (Sem Value × Sem Value)} {Q : Value → Shared → Prop} (hb : sysModules < base.length) (hpr : All2 (PairOk w A) ps pairs) (hnd : (ps.map Prod.fst).Nodup) (hsz : ps.length ≤ 1000) (h0 : ps ≠ [])
    (h : ∀ es subs, All2 EnR ps es.toList → ps.length ≤ 17 * (subs.length + 1) → 17 * subs.length < ps.length → Q (.ref base.length) (stt s life (base ++ dO es ps.length :: subs) (tk₀ + 3 * ps.length))) :
    wpAny (model Pg w) A (dictDisplay (pairs.map fun p => (some p.1, p.2))) Q E (stt s life base tk₀) := by
  unfold dictDisplay
  dsimp only
  refine wpAny_bind ?_
  refine wpAny_forIn_list _ (fun rest b s' => ∃ fl rn r rp, ps = fl ++ rn ++ r ∧ rest = rp.map (fun p => (some p.1, p.2)) ∧ All2 (PairOk w A) r rp ∧ All2 (PairOk w A) rn b.2 ∧ rn.length < 17 ∧ fl.length % 17 = 0 ∧ DSt s life base tk₀ fl b.1 s') _ ?_ ?_ _ _
    ⟨[], [], ps, pairs, rfl, rfl, hpr, .nil, by decide, rfl, .inl ⟨rfl, rfl, rfl⟩⟩
  · rintro ⟨k, v⟩ rest ⟨main, run⟩ s' ⟨fl, rn, r, rp, rfl, hrest, hr, hrun, hl, h17, hD⟩
    dsimp only at hrun hD
    cases hr with
    | nil => cases hrest
    | @cons p x r rp hx hr =>
      obtain ⟨e1, rfl⟩ := List.cons.inj hrest
      obtain ⟨rfl, rfl⟩ := Prod.mk.inj e1
      dsimp only
      have hrun' : All2 (PairOk w A) (rn ++ [p]) (run ++ [(x.1, x.2)]) := hrun.snoc hx
      have hlen : (run ++ [(x.1, x.2)]).length = rn.length + 1 := by rw [← hrun'.length]; simp
      by_cases h16 : rn.length = 16
      · rw [if_pos (by rw [hlen, h16]; rfl), if_neg (by simp)]
        refine wpAny_bind (flush_run hb hD h17 hrun' (by simp; omega) (by simp) ?_ ?_ fun s'' hD' => wpAny_pure ⟨fl ++ (rn ++ [p]), [], r, rp, by simp, rfl, hr, .nil, by simp, ?_, hD'⟩)
        · have : (fl ++ rn ++ p :: r) = (fl ++ (rn ++ [p])) ++ r := by simp
          rw [this, List.map_append] at hnd
          exact (List.nodup_append.mp hnd).1
        · have := hsz
          simp only [List.length_append, List.length_cons] at this ⊢
          simp only [List.length_nil]; omega
        · simp only [List.length_append, List.length_cons, List.length_nil]; omega
      · rw [if_neg (by rw [hlen]; simpa using h16)]
        exact wpAny_pure ⟨fl, rn ++ [p], r, rp, by simp, rfl, hr, hrun', by simp; omega, h17, hD⟩
  · rintro ⟨main, run⟩ s' ⟨fl, rn, r, rp, rfl, hrest, hr, hrun, hl, h17, hD⟩
    dsimp only at hrun hD
    cases hr with
    | cons => cases hrest
    | nil =>
      refine wpAny_bind ?_
      cases hrn : rn with
      | nil =>
        subst hrn
        cases hrun
        rw [if_pos (show ((main, ([] : List (Sem Value × Sem Value))).2.isEmpty = true) from rfl)]
        refine wpAny_pure ?_
        rcases hD with ⟨rfl, rfl, rfl⟩ | ⟨rfl, hne, es, subs, hes, hb1, hb2, rfl⟩
        · exact absurd rfl h0
        · have := h es subs (by simpa using hes) (by simpa using hb1) (by simpa using hb2)
          exact wpAny_pure (by simpa using this)
      | cons p q =>
        have hne : rn ≠ [] := by rw [hrn]; simp
        have hre : ¬((main, run).2.isEmpty = true) := by
          cases hrun with
          | nil => exact absurd rfl hne
          | cons => simp
        rw [if_neg hre]
        refine flush_run hb hD h17 hrun (by omega) hne (by simpa using hnd) (by simpa using hsz) fun s'' hD' => ?_
        rcases hD' with ⟨q, _⟩ | ⟨_, hne', es, subs, hes, hb1, hb2, rfl⟩
        · cases q
        · have := h es subs (by simpa using hes) (by simpa using hb1) (by simpa using hb2)
          exact wpAny_pure (by simpa using this)
end
end Mine
end
noncomputable section
open PySem PySem.Spec PySem.Calls PyProof.Rows PyProof.V PySem.W
set_option Elab.async false
set_option linter.unusedVariables false
set_option maxRecDepth 100000
namespace Mine

noncomputable def incr : Int → List (Int × Str) → Bool
  | _, [] => true
  | i, p :: r => decide (i < p.1) && incr p.1 r
theorem incr_lt : ∀ (i : Int) (l : List (Int × Str)), incr i l = true → (∀ p ∈ l, i < p.1) ∧ (l.map Prod.fst).Nodup
  | _, [], _ => ⟨(fun p h => by cases h), List.nodup_nil⟩
  | i, p :: r, h => by
    simp only [incr, Bool.and_eq_true, decide_eq_true_eq] at h
    obtain ⟨a, b⟩ := incr_lt p.1 r h.2
    refine ⟨fun q hq => ?_, ?_⟩
    · rcases List.mem_cons.mp hq with rfl | hq
      · exact h.1
      · have := a q hq; omega
    · rw [List.map_cons, List.nodup_cons]
      refine ⟨fun hm => ?_, b⟩
      obtain ⟨q, hq, e⟩ := List.mem_map.mp hm
      have := a q hq; omega

theorem lit_shape {w : World} {A : Around} {env : Env} {pos : Pos} : ∀ (ks : List (Option PySem.Expr)) (vs : List PySem.Expr), litOk ks vs = true →
    ∃ pairs : List (Sem Value × Sem Value), (evalEachOpt ks env).zip ((evalEach vs env).map fun v => do let x ← v; standAt pos; pure x) = pairs.map (fun p => (some p.1, p.2)) ∧ All2 (PairOk w A) (litPairs ks vs) pairs
  | ks, vs, h => by
    unfold litOk at h
    split at h
    · exact ⟨[], rfl, .nil⟩
    · rename_i i a b ks x c d vs
      obtain ⟨pairs, e, r⟩ := lit_shape (w := w) (A := A) (env := env) (pos := pos) ks vs h
      refine ⟨(eval (.Constant (.int i) a b) env, do let x ← eval (.Constant (.str x) c d) env; standAt pos; pure x) :: pairs, ?_, .cons ⟨fun Q E s hQ => wpAny_Constant_int (k := a) (pos := b) (env := env) hQ, fun Q E s hQ => wpAny_bind (Calls.Constant_str (wpAny_bind (wpAny_standAt (wpAny_pure hQ))))⟩ r⟩
      rw [List.map_cons, ← e]
      rfl
    · cases h

theorem d_lit : litOk dKeys dVals = true := by decide +kernel
theorem d_incr : incr 0 b3ps = true := by decide +kernel
theorem d_len : b3ps.length = 650 := by decide +kernel

structure WpA {α : Type} (M : Model) (x : Sem α) (Q : α → Shared → Prop) (s : Shared) : Prop where
  run : ∀ A, wpAny M A x Q (fun _ _ => False) s
theorem dict_eval {w : World} {s : Shared} {life : Life} {env : Env} {base : List Obj} {tk : Nat} {Q : Value → Shared → Prop} (hb : sysModules < base.length)
    (h : ∀ es subs, All2 EnR b3ps es.toList → subs.length = 38 → Q (.ref base.length) (stt s life (base ++ dO es 650 :: subs) (tk + 1950))) :
    WpA (model Pg w) (eval (.Dict dKeys dVals dPos) env) Q (stt s life base tk) := by
  constructor
  intro A
  obtain ⟨pairs, e, hp⟩ := lit_shape (w := w) (A := A) (env := env) (pos := dPos) dKeys dVals d_lit
  rw [arm_eval_Dict, e]
  refine wpAny_bind (wpAny_standAt (display_run hb hp (incr_lt _ _ d_incr).2 (by show b3ps.length ≤ 1000; rw [d_len]; decide) (fun q => ?_) fun es subs hes h1 h2 => ?_))
  · have := d_len; rw [show b3ps = litPairs dKeys dVals from rfl, q] at this; cases this
  · rw [show (litPairs dKeys dVals).length = 650 from d_len] at h1 h2 ⊢
    exact h es subs hes (by omega)
end Mine
end
noncomputable section
open PySem PySem.Spec PySem.Calls PyProof.Rows PyProof.V PySem.W
set_option Elab.async false
set_option linter.unusedVariables false
set_option maxRecDepth 100000
namespace Mine
noncomputable def m3 (P : Params) : Obj := ⟨(.type "dict"), none, (.dict (Array.mk [⟨PyData.keyHash P (cs [95, 95, 110, 97, 109, 101, 95, 95]), (.str (cs [95, 95, 110, 97, 109, 101, 95, 95]) 165), (.str (cs [99, 112, 121, 51, 49, 51, 46, 119, 115, 103, 105, 114, 101, 102, 46, 104, 101, 97, 100, 101, 114, 115]) 2371)⟩, ⟨PyData.keyHash P (cs [95, 95, 100, 111, 99, 95, 95]), (.str (cs [95, 95, 100, 111, 99, 95, 95]) 166), .none⟩, ⟨PyData.keyHash P (cs [95, 95, 112, 97, 99, 107, 97, 103, 101, 95, 95]), (.str (cs [95, 95, 112, 97, 99, 107, 97, 103, 101, 95, 95]) 167), .none⟩, ⟨PyData.keyHash P (cs [95, 95, 108, 111, 97, 100, 101, 114, 95, 95]), (.str (cs [95, 95, 108, 111, 97, 100, 101, 114, 95, 95]) 168), (.builtin "__main__.__loader__#opaque")⟩, ⟨PyData.keyHash P (cs [95, 95, 115, 112, 101, 99, 95, 95]), (.str (cs [95, 95, 115, 112, 101, 99, 95, 95]) 169), .none⟩, ⟨PyData.keyHash P (cs [95, 95, 97, 110, 110, 111, 116, 97, 116, 105, 111, 110, 115, 95, 95]), (.str (cs [95, 95, 97, 110, 110, 111, 116, 97, 116, 105, 111, 110, 115, 95, 95]) 170), (.ref 6)⟩, ⟨PyData.keyHash P (cs [95, 95, 98, 117, 105, 108, 116, 105, 110, 115, 95, 95]), (.str (cs [95, 95, 98, 117, 105, 108, 116, 105, 110, 115, 95, 95]) 171), (.ref 4)⟩, ⟨PyData.keyHash P (cs [95, 95, 102, 105, 108, 101, 95, 95]), (.str (cs [95, 95, 102, 105, 108, 101, 95, 95]) 173), (.str (cs [47, 99, 108, 97, 105, 109, 47, 99, 117, 116, 46, 112, 121]) 172)⟩, ⟨PyData.keyHash P (cs [95, 95, 99, 97, 99, 104, 101, 100, 95, 95]), (.str (cs [95, 95, 99, 97, 99, 104, 101, 100, 95, 95]) 174), .none⟩, ⟨PyData.keyHash P (cs [95, 115, 114, 101]), (.str (cs [95, 115, 114, 101]) 275), (.ref 12)⟩, ⟨PyData.keyHash P (cs [95, 119, 97, 108, 108]), (.str (cs [95, 119, 97, 108, 108]) 288), (.ref 38)⟩, ⟨PyData.keyHash P (cs [95, 105, 116, 101, 114, 95, 101, 115, 99, 97, 112, 101, 100, 95, 99, 104, 97, 114, 115]), (.str (cs [95, 105, 116, 101, 114, 95, 101, 115, 99, 97, 112, 101, 100, 95, 99, 104, 97, 114, 115]) 300), (.ref 45)⟩, ⟨PyData.keyHash P (cs [95, 115, 116, 114, 105, 112, 95, 113, 117, 111, 116, 101, 100, 95, 114, 101, 97, 108, 110, 97, 109, 101, 115]), (.str (cs [95, 115, 116, 114, 105, 112, 95, 113, 117, 111, 116, 101, 100, 95, 114, 101, 97, 108, 110, 97, 109, 101, 115]) 312), (.ref 52)⟩, ⟨PyData.keyHash P (cs [95, 99, 104, 101, 99, 107, 95, 112, 97, 114, 101, 110, 116, 104, 101, 115, 105, 115]), (.str (cs [95, 99, 104, 101, 99, 107, 95, 112, 97, 114, 101, 110, 116, 104, 101, 115, 105, 115]) 322), (.ref 59)⟩, ⟨PyData.keyHash P (cs [114, 103, 98, 95, 116, 111, 95, 104, 115, 118]), (.str (cs [114, 103, 98, 95, 116, 111, 95, 104, 115, 118]) 342), (.ref 66)⟩, ⟨PyData.keyHash P (cs [98, 49, 95, 115, 101, 116]), (.str (cs [98, 49, 95, 115, 101, 116]) 404), (.ref 74)⟩, ⟨PyData.keyHash P (cs [105, 110, 95, 116, 97, 98, 108, 101, 95, 98, 49]), (.str (cs [105, 110, 95, 116, 97, 98, 108, 101, 95, 98, 49]) 411), (.ref 84)⟩, ⟨PyData.keyHash P (cs [98, 51, 95, 101, 120, 99, 101, 112, 116, 105, 111, 110, 115]), (.str (cs [98, 51, 95, 101, 120, 99, 101, 112, 116, 105, 111, 110, 115]) 2362), (.ref 85)⟩, ⟨PyData.keyHash P (cs [109, 97, 112, 95, 116, 97, 98, 108, 101, 95, 98, 51]), (.str (cs [109, 97, 112, 95, 116, 97, 98, 108, 101, 95, 98, 51]) 2370), (.ref 130)⟩, ⟨PyData.keyHash P (cs [116, 115, 112, 101, 99, 105, 97, 108, 115]), (.str (cs [116, 115, 112, 101, 99, 105, 97, 108, 115]) 2406), (.ref 135)⟩, ⟨PyData.keyHash P (cs [95, 110, 97, 109, 101, 95, 100, 105, 115, 97, 108, 108, 111, 119, 101, 100, 95, 114, 101]), (.str (cs [95, 110, 97, 109, 101, 95, 100, 105, 115, 97, 108, 108, 111, 119, 101, 100, 95, 114, 101]) 2432), (.ref 140)⟩, ⟨PyData.keyHash P (cs [95, 118, 97, 108, 117, 101, 95, 100, 105, 115, 97, 108, 108, 111, 119, 101, 100, 95, 114, 101]), (.str (cs [95, 118, 97, 108, 117, 101, 95, 100, 105, 115, 97, 108, 108, 111, 119, 101, 100, 95, 114, 101]) 2466), (.ref 145)⟩, ⟨PyData.keyHash P (cs [95, 102, 111, 114, 109, 97, 116, 112, 97, 114, 97, 109]), (.str (cs [95, 102, 111, 114, 109, 97, 116, 112, 97, 114, 97, 109]) 2476), (.ref 153)⟩]) 23), (Array.mk [])⟩
noncomputable def m29 (P : Params) : Obj := ⟨.none, none, (.fields (Array.mk [(.int 2 0), (.int 0 0), (.ref 37), (.int 6 0), (.int 0 0), (.ref 44), (.int 19 0), (.int 0 0), (.ref 51), (.int 37 0), (.int 0 0), (.ref 58), (.int 49 0), (.int 0 0), (.ref 65), (.int 70 0), (.int 0 0), (.ref 83), (.int 73 0), (.int 0 0), (.ref 129), (.int 82 0), (.int 0 0), (.ref 152)])), (Array.mk [])⟩
noncomputable def mA (P : Params) : List Obj := [z0 P, z1 P, z2 P, m3 P, z4 P, z5 P, z6 P, z7 P, z8 P, z9 P, z10 P, z11 P, z12 P, z13 P, z14 P, z15 P, z16 P, z17 P, z18 P, z19 P, z20 P, z21 P, z22 P, z23 P, z24 P, z25 P, z26 P, z27 P, y28 P, m29 P, y30 P, y31 P, y32 P, y33 P, y34 P, y35 P, y36 P, y37 P, y38 P, y39 P, y40 P, y41 P, y42 P, y43 P, y44 P, y45 P, y46 P, y47 P, y48 P, y49 P, y50 P, y51 P, y52 P, y53 P, y54 P, y55 P, y56 P, y57 P, y58 P, y59 P, y60 P, y61 P, y62 P, y63 P, y64 P, y65 P, y66 P, y67 P, y68 P, y69 P, y70 P, y71 P, y72 P, y73 P, y74 P, y75 P, y76 P, y77 P, y78 P, y79 P, y80 P, y81 P, y82 P, y83 P, y84 P]
noncomputable def mB (P : Params) : List Obj := [v124 P, v125 P, v126 P, v127 P, v128 P, v129 P, v130 P, v131 P, v132 P, v133 P, v134 P, v135 P, v136 P, v137 P, v138 P, v139 P, v140 P, v141 P, v142 P, v143 P, v144 P, v145 P, v146 P, v147 P, v148 P, v149 P, v150 P, v151 P, v152 P, v153 P]
-- toks 2477 lifeSame true gens 0 size 154
noncomputable def n3 (P : Params) : Obj := ⟨(.type "dict"), none, (.dict (Array.mk [⟨PyData.keyHash P (cs [95, 95, 110, 97, 109, 101, 95, 95]), (.str (cs [95, 95, 110, 97, 109, 101, 95, 95]) 165), (.str (cs [99, 112, 121, 51, 49, 51, 46, 119, 115, 103, 105, 114, 101, 102, 46, 104, 101, 97, 100, 101, 114, 115]) 2371)⟩, ⟨PyData.keyHash P (cs [95, 95, 100, 111, 99, 95, 95]), (.str (cs [95, 95, 100, 111, 99, 95, 95]) 166), .none⟩, ⟨PyData.keyHash P (cs [95, 95, 112, 97, 99, 107, 97, 103, 101, 95, 95]), (.str (cs [95, 95, 112, 97, 99, 107, 97, 103, 101, 95, 95]) 167), .none⟩, ⟨PyData.keyHash P (cs [95, 95, 108, 111, 97, 100, 101, 114, 95, 95]), (.str (cs [95, 95, 108, 111, 97, 100, 101, 114, 95, 95]) 168), (.builtin "__main__.__loader__#opaque")⟩, ⟨PyData.keyHash P (cs [95, 95, 115, 112, 101, 99, 95, 95]), (.str (cs [95, 95, 115, 112, 101, 99, 95, 95]) 169), .none⟩, ⟨PyData.keyHash P (cs [95, 95, 97, 110, 110, 111, 116, 97, 116, 105, 111, 110, 115, 95, 95]), (.str (cs [95, 95, 97, 110, 110, 111, 116, 97, 116, 105, 111, 110, 115, 95, 95]) 170), (.ref 6)⟩, ⟨PyData.keyHash P (cs [95, 95, 98, 117, 105, 108, 116, 105, 110, 115, 95, 95]), (.str (cs [95, 95, 98, 117, 105, 108, 116, 105, 110, 115, 95, 95]) 171), (.ref 4)⟩, ⟨PyData.keyHash P (cs [95, 95, 102, 105, 108, 101, 95, 95]), (.str (cs [95, 95, 102, 105, 108, 101, 95, 95]) 173), (.str (cs [47, 99, 108, 97, 105, 109, 47, 99, 117, 116, 46, 112, 121]) 172)⟩, ⟨PyData.keyHash P (cs [95, 95, 99, 97, 99, 104, 101, 100, 95, 95]), (.str (cs [95, 95, 99, 97, 99, 104, 101, 100, 95, 95]) 174), .none⟩, ⟨PyData.keyHash P (cs [95, 115, 114, 101]), (.str (cs [95, 115, 114, 101]) 275), (.ref 12)⟩, ⟨PyData.keyHash P (cs [95, 119, 97, 108, 108]), (.str (cs [95, 119, 97, 108, 108]) 288), (.ref 38)⟩, ⟨PyData.keyHash P (cs [95, 105, 116, 101, 114, 95, 101, 115, 99, 97, 112, 101, 100, 95, 99, 104, 97, 114, 115]), (.str (cs [95, 105, 116, 101, 114, 95, 101, 115, 99, 97, 112, 101, 100, 95, 99, 104, 97, 114, 115]) 300), (.ref 45)⟩, ⟨PyData.keyHash P (cs [95, 115, 116, 114, 105, 112, 95, 113, 117, 111, 116, 101, 100, 95, 114, 101, 97, 108, 110, 97, 109, 101, 115]), (.str (cs [95, 115, 116, 114, 105, 112, 95, 113, 117, 111, 116, 101, 100, 95, 114, 101, 97, 108, 110, 97, 109, 101, 115]) 312), (.ref 52)⟩, ⟨PyData.keyHash P (cs [95, 99, 104, 101, 99, 107, 95, 112, 97, 114, 101, 110, 116, 104, 101, 115, 105, 115]), (.str (cs [95, 99, 104, 101, 99, 107, 95, 112, 97, 114, 101, 110, 116, 104, 101, 115, 105, 115]) 322), (.ref 59)⟩, ⟨PyData.keyHash P (cs [114, 103, 98, 95, 116, 111, 95, 104, 115, 118]), (.str (cs [114, 103, 98, 95, 116, 111, 95, 104, 115, 118]) 342), (.ref 66)⟩, ⟨PyData.keyHash P (cs [98, 49, 95, 115, 101, 116]), (.str (cs [98, 49, 95, 115, 101, 116]) 404), (.ref 74)⟩, ⟨PyData.keyHash P (cs [105, 110, 95, 116, 97, 98, 108, 101, 95, 98, 49]), (.str (cs [105, 110, 95, 116, 97, 98, 108, 101, 95, 98, 49]) 411), (.ref 84)⟩, ⟨PyData.keyHash P (cs [98, 51, 95, 101, 120, 99, 101, 112, 116, 105, 111, 110, 115]), (.str (cs [98, 51, 95, 101, 120, 99, 101, 112, 116, 105, 111, 110, 115]) 2362), (.ref 85)⟩, ⟨PyData.keyHash P (cs [109, 97, 112, 95, 116, 97, 98, 108, 101, 95, 98, 51]), (.str (cs [109, 97, 112, 95, 116, 97, 98, 108, 101, 95, 98, 51]) 2370), (.ref 130)⟩, ⟨PyData.keyHash P (cs [116, 115, 112, 101, 99, 105, 97, 108, 115]), (.str (cs [116, 115, 112, 101, 99, 105, 97, 108, 115]) 2406), (.ref 135)⟩, ⟨PyData.keyHash P (cs [95, 110, 97, 109, 101, 95, 100, 105, 115, 97, 108, 108, 111, 119, 101, 100, 95, 114, 101]), (.str (cs [95, 110, 97, 109, 101, 95, 100, 105, 115, 97, 108, 108, 111, 119, 101, 100, 95, 114, 101]) 2432), (.ref 140)⟩, ⟨PyData.keyHash P (cs [95, 118, 97, 108, 117, 101, 95, 100, 105, 115, 97, 108, 108, 111, 119, 101, 100, 95, 114, 101]), (.str (cs [95, 118, 97, 108, 117, 101, 95, 100, 105, 115, 97, 108, 108, 111, 119, 101, 100, 95, 114, 101]) 2466), (.ref 145)⟩, ⟨PyData.keyHash P (cs [95, 102, 111, 114, 109, 97, 116, 112, 97, 114, 97, 109]), (.str (cs [95, 102, 111, 114, 109, 97, 116, 112, 97, 114, 97, 109]) 2476), (.ref 153)⟩, ⟨PyData.keyHash P (cs [72, 101, 97, 100, 101, 114, 115]), (.str (cs [72, 101, 97, 100, 101, 114, 115]) 2633), (.ref 274)⟩]) 24), (Array.mk [])⟩
noncomputable def n29 (P : Params) : Obj := ⟨.none, none, (.fields (Array.mk [(.int 2 0), (.int 0 0), (.ref 37), (.int 6 0), (.int 0 0), (.ref 44), (.int 19 0), (.int 0 0), (.ref 51), (.int 37 0), (.int 0 0), (.ref 58), (.int 49 0), (.int 0 0), (.ref 65), (.int 70 0), (.int 0 0), (.ref 83), (.int 73 0), (.int 0 0), (.ref 129), (.int 82 0), (.int 0 0), (.ref 152), (.int 91 0), (.int 0 0), (.ref 159)])), (Array.mk [])⟩
noncomputable def nA (P : Params) : List Obj := [z0 P, z1 P, z2 P, n3 P, z4 P, z5 P, z6 P, z7 P, z8 P, z9 P, z10 P, z11 P, z12 P, z13 P, z14 P, z15 P, z16 P, z17 P, z18 P, z19 P, z20 P, z21 P, z22 P, z23 P, z24 P, z25 P, z26 P, z27 P, y28 P, n29 P, y30 P, y31 P, y32 P, y33 P, y34 P, y35 P, y36 P, y37 P, y38 P, y39 P, y40 P, y41 P, y42 P, y43 P, y44 P, y45 P, y46 P, y47 P, y48 P, y49 P, y50 P, y51 P, y52 P, y53 P, y54 P, y55 P, y56 P, y57 P, y58 P, y59 P, y60 P, y61 P, y62 P, y63 P, y64 P, y65 P, y66 P, y67 P, y68 P, y69 P, y70 P, y71 P, y72 P, y73 P, y74 P, y75 P, y76 P, y77 P, y78 P, y79 P, y80 P, y81 P, y82 P, y83 P, y84 P]
noncomputable def nB (P : Params) : List Obj := [v124 P, v125 P, v126 P, v127 P, v128 P, v129 P, v130 P, v131 P, v132 P, v133 P, v134 P, v135 P, v136 P, v137 P, v138 P, v139 P, v140 P, v141 P, v142 P, v143 P, v144 P, v145 P, v146 P, v147 P, v148 P, v149 P, v150 P, v151 P, v152 P, v153 P, v154 P, v155 P, v156 P, v157 P, v158 P, v159 P, v160 P, v161 P, v162 P, v163 P, v164 P, v165 P, v166 P, v167 P, v168 P, v169 P, v170 P, v171 P, v172 P, v173 P, v174 P, v175 P, v176 P, v177 P, v178 P, v179 P, v180 P, v181 P, v182 P, v183 P, v184 P, v185 P, v186 P, v187 P, v188 P, v189 P, v190 P, v191 P, v192 P, v193 P, v194 P, v195 P, v196 P, v197 P, v198 P, v199 P, v200 P, v201 P, v202 P, v203 P, v204 P, v205 P, v206 P, v207 P, v208 P, v209 P, v210 P, v211 P, v212 P, v213 P, v214 P, v215 P, v216 P, v217 P, v218 P, v219 P, v220 P, v221 P, v222 P, v223 P, v224 P, v225 P, v226 P, v227 P, v228 P, v229 P, v230 P, v231 P, v232 P, v233 P, v234 P, v235 P, v236 P, v237 P, v238 P, v239 P, v240 P, v241 P, v242 P, v243 P, v244 P, v245 P, v246 P, v247 P, v248 P, v249 P, v250 P, v251 P, v252 P, v253 P, v254 P, v255 P, v256 P, v257 P, v258 P, v259 P, v260 P, v261 P, v262 P, v263 P, v264 P, v265 P, v266 P, v267 P, v268 P, v269 P, v270 P, v271 P, v272 P, v273 P, v274 P, v275 P, v276 P, v277 P, v278 P]
-- toks 2634 lifeSame true gens 0 size 279
noncomputable def l3 (P : Params) : Obj := ⟨(.type "dict"), none, (.dict (Array.mk [⟨PyData.keyHash P (cs [95, 95, 110, 97, 109, 101, 95, 95]), (.str (cs [95, 95, 110, 97, 109, 101, 95, 95]) 165), (.str (cs [99, 112, 121, 51, 49, 51, 46, 115, 116, 114, 105, 110, 103, 112, 114, 101, 112]) 343)⟩, ⟨PyData.keyHash P (cs [95, 95, 100, 111, 99, 95, 95]), (.str (cs [95, 95, 100, 111, 99, 95, 95]) 166), .none⟩, ⟨PyData.keyHash P (cs [95, 95, 112, 97, 99, 107, 97, 103, 101, 95, 95]), (.str (cs [95, 95, 112, 97, 99, 107, 97, 103, 101, 95, 95]) 167), .none⟩, ⟨PyData.keyHash P (cs [95, 95, 108, 111, 97, 100, 101, 114, 95, 95]), (.str (cs [95, 95, 108, 111, 97, 100, 101, 114, 95, 95]) 168), (.builtin "__main__.__loader__#opaque")⟩, ⟨PyData.keyHash P (cs [95, 95, 115, 112, 101, 99, 95, 95]), (.str (cs [95, 95, 115, 112, 101, 99, 95, 95]) 169), .none⟩, ⟨PyData.keyHash P (cs [95, 95, 97, 110, 110, 111, 116, 97, 116, 105, 111, 110, 115, 95, 95]), (.str (cs [95, 95, 97, 110, 110, 111, 116, 97, 116, 105, 111, 110, 115, 95, 95]) 170), (.ref 6)⟩, ⟨PyData.keyHash P (cs [95, 95, 98, 117, 105, 108, 116, 105, 110, 115, 95, 95]), (.str (cs [95, 95, 98, 117, 105, 108, 116, 105, 110, 115, 95, 95]) 171), (.ref 4)⟩, ⟨PyData.keyHash P (cs [95, 95, 102, 105, 108, 101, 95, 95]), (.str (cs [95, 95, 102, 105, 108, 101, 95, 95]) 173), (.str (cs [47, 99, 108, 97, 105, 109, 47, 99, 117, 116, 46, 112, 121]) 172)⟩, ⟨PyData.keyHash P (cs [95, 95, 99, 97, 99, 104, 101, 100, 95, 95]), (.str (cs [95, 95, 99, 97, 99, 104, 101, 100, 95, 95]) 174), .none⟩, ⟨PyData.keyHash P (cs [95, 115, 114, 101]), (.str (cs [95, 115, 114, 101]) 275), (.ref 12)⟩, ⟨PyData.keyHash P (cs [95, 119, 97, 108, 108]), (.str (cs [95, 119, 97, 108, 108]) 288), (.ref 38)⟩, ⟨PyData.keyHash P (cs [95, 105, 116, 101, 114, 95, 101, 115, 99, 97, 112, 101, 100, 95, 99, 104, 97, 114, 115]), (.str (cs [95, 105, 116, 101, 114, 95, 101, 115, 99, 97, 112, 101, 100, 95, 99, 104, 97, 114, 115]) 300), (.ref 45)⟩, ⟨PyData.keyHash P (cs [95, 115, 116, 114, 105, 112, 95, 113, 117, 111, 116, 101, 100, 95, 114, 101, 97, 108, 110, 97, 109, 101, 115]), (.str (cs [95, 115, 116, 114, 105, 112, 95, 113, 117, 111, 116, 101, 100, 95, 114, 101, 97, 108, 110, 97, 109, 101, 115]) 312), (.ref 52)⟩, ⟨PyData.keyHash P (cs [95, 99, 104, 101, 99, 107, 95, 112, 97, 114, 101, 110, 116, 104, 101, 115, 105, 115]), (.str (cs [95, 99, 104, 101, 99, 107, 95, 112, 97, 114, 101, 110, 116, 104, 101, 115, 105, 115]) 322), (.ref 59)⟩, ⟨PyData.keyHash P (cs [114, 103, 98, 95, 116, 111, 95, 104, 115, 118]), (.str (cs [114, 103, 98, 95, 116, 111, 95, 104, 115, 118]) 342), (.ref 66)⟩]) 15), (Array.mk [])⟩
noncomputable def l29 (P : Params) : Obj := ⟨.none, none, (.fields (Array.mk [(.int 2 0), (.int 0 0), (.ref 37), (.int 6 0), (.int 0 0), (.ref 44), (.int 19 0), (.int 0 0), (.ref 51), (.int 37 0), (.int 0 0), (.ref 58), (.int 49 0), (.int 0 0), (.ref 65)])), (Array.mk [])⟩
noncomputable def lL (P : Params) : List Obj := [z0 P, z1 P, z2 P, l3 P, z4 P, z5 P, z6 P, z7 P, z8 P, z9 P, z10 P, z11 P, z12 P, z13 P, z14 P, z15 P, z16 P, z17 P, z18 P, z19 P, z20 P, z21 P, z22 P, z23 P, z24 P, z25 P, z26 P, z27 P, y28 P, l29 P, y30 P, y31 P, y32 P, y33 P, y34 P, y35 P, y36 P, y37 P, y38 P, y39 P, y40 P, y41 P, y42 P, y43 P, y44 P, y45 P, y46 P, y47 P, y48 P, y49 P, y50 P, y51 P, y52 P, y53 P, y54 P, y55 P, y56 P, y57 P, y58 P, y59 P, y60 P, y61 P, y62 P, y63 P, y64 P, y65 P, y66 P]
-- toks 345 lifeSame true gens 0 size 67
end Mine
end
noncomputable section
open PySem PySem.Spec PySem.Calls PyProof.Rows PyProof.V PySem.W
set_option Elab.async false
set_option linter.unusedVariables false
set_option maxRecDepth 100000
namespace Mine

theorem halt_through {den : Code → Sem PySem.Fin} {p : Program} {w : World} {s s' : Shared} {t : Thread} {f : Flow} (h : step den p w s t = .halt (.done f) s') : through t = true := by
  obtain ⟨heap, gens, drawn, toks, os⟩ := s
  obtain ⟨cur, code, pos, stack⟩ := t
  cases cur with
  | pure f => cases f with
    | again c => cases h
    | done f => cases stack with
      | nil => rfl
      | cons F r => cases F <;> cases h
  | raise e => cases stack with
    | nil =>
      have h : finish (.uncaught e) ⟨heap, gens, drawn, toks, os⟩ = _ := h
      unfold finish at h
      split at h <;> cases h
    | cons F r => cases F <;> cases h
  | finish e =>
    have h : (if leftWithCleanup gens = true then Step.halt (.unsupported "lifetime:generator-with-cleanup-left-suspended") ⟨heap, gens, drawn, toks, os⟩ else Step.halt (.ended e) ⟨heap, gens, drawn, toks, os⟩) = _ := h
    split at h <;> cases h
  | load a v k =>
    have h : (match heap.get? a with
    | some o => Step.go ⟨heap, gens, drawn, toks, os⟩ ⟨k o, code, pos, stack⟩
    | none => .halt (.stuck (if a < heap.objs.size then "load: the object has been freed" else "load: no object at this address")) ⟨heap, gens, drawn, toks, os⟩) = _ := h
    split at h <;> cases h
  | update a v g k =>
    have h : (if (heap.get? a).isSome then Step.go ⟨heap.update a g, gens, drawn, toks, os⟩ ⟨k (), code, pos, stack⟩
    else .halt (.stuck "update: no object at this address, or it has been freed") ⟨heap, gens, drawn, toks, os⟩) = _ := h
    split at h <;> cases h
  | choose src n k =>
    have h : (if n = 0 then Step.halt (.stuck "choose 0") ⟨heap, gens, drawn, toks, os⟩
    else .go ⟨heap, gens, drawn.bump src, toks, os⟩ ⟨k (w.draws src (drawn.get src) % n), code, pos, stack⟩) = _ := h
    split at h <;> cases h
  | genState g k => simp only [step] at h; (repeat' split at h) <;> cases h
  | resume g r l k => simp only [step] at h; (repeat' split at h) <;> cases h
  | yield v g l k => simp only [step] at h; (repeat' split at h) <;> cases h
  | _ => cases h
theorem through_calm {t : Thread} (h : through t = true) : t.calm = true := by
  obtain ⟨cur, code, pos, stack⟩ := t
  cases cur with
  | pure f =>
    cases f with
    | done f => rfl
    | again c => simp [through] at h
  | _ => simp [through] at h

section
variable {p : Program} {w : World} {n₀ : Nat} {ann : Option Value}
theorem tr_halts : ∀ (n : Nat) (s : Shared) (t : Thread) (s₁ : Shared), topRun table p w n₀ ann n s t = some s₁ → leftWithCleanup s₁.gens = false →
    ∃ m f, runN (denote table) p w m s t = .halted (.done f) s₁ ∧ ∀ k s' t', runN (denote table) p w k s t = .running s' t' → t'.calm = true
  | 0, _, _, _, h, _ => by simp [topRun] at h
  | n + 1, s, t, s₁, h, hg => by
    unfold topRun at h
    cases ht : through t with
    | true =>
      rw [ht] at h
      obtain rfl : s = s₁ := Option.some.inj h
      have hc := through_calm ht
      obtain ⟨heap, gens, drawn, toks, os⟩ := s
      obtain ⟨cur, code, pos, stack⟩ := t
      simp only [through, Bool.and_eq_true, List.isEmpty_iff] at ht
      obtain ⟨rfl, h2⟩ := ht
      cases cur with
      | pure f =>
        cases f with
        | done f =>
          refine ⟨1, f, ?_, fun k s' t' hk => ?_⟩
          · dsimp only at hg
            simp only [runN, step, finish, hg, Bool.false_eq_true, if_false]
          · cases k with
            | zero => injection hk with _ e; exact e ▸ hc
            | succ k => dsimp only at hg; simp only [runN, step, finish, hg, Bool.false_eq_true, if_false] at hk; cases hk
        | again c => cases h2
      | _ => cases h2
    | false =>
      rw [ht] at h
      cases hk : stepOk n₀ ann t with
      | false => rw [hk] at h; cases h
      | true =>
        rw [hk] at h
        cases hs : step (denote table) p w s t with
        | halt o s' => rw [hs] at h; cases h
        | go s' t' =>
          rw [hs] at h
          obtain ⟨m, f, h1, h2⟩ := tr_halts n s' t' s₁ h hg
          refine ⟨m + 1, f, ?_, fun k s₂ t₂ q => ?_⟩
          · simp only [runN, hs]; exact h1
          · cases k with
            | zero => injection q with _ e; exact e ▸ (Bool.and_eq_true_iff.mp hk).1
            | succ k => simp only [runN, hs] at q; exact h2 k s₂ t₂ q
end

abbrev M' (w : World) : Model := model Pg w
theorem kw_runs {w : World} {n₀ : Nat} {ann : Option Value} {n : Nat} {s s₁ : Shared} {T : Sem PySem.Fin} {c : Code} {p : Pos} {st : List Frame} (h : topRun treeTable Pg w n₀ ann n s ⟨T, c, p, st⟩ = some s₁) (hg : s₁.gens = #[]) :
    ∃ f, Runs (M' w) ⟨c, none, none, [], none⟩ p T st s (.ret (.ok f)) s₁ := by
  rw [← table_eq_tree] at h
  obtain ⟨m, f, h1, h2⟩ := tr_halts n s _ s₁ h (by rw [hg]; simp [leftWithCleanup])
  obtain ⟨s', h3, h4⟩ := runN_calm_runNI (denote table) Pg w h1 h2
  obtain rfl : s' = s₁ := Shared.eq_of_forget_eq h4.symm hg
  exact ⟨f, (halts_iff (M := M' w) (r := .ok f)).mp ⟨m, h3⟩ |>.1⟩

noncomputable def F0 (q : Pos) : Frame := .ret leafOf none false [] (.builtin "claim.caller" {}) q []
noncomputable def onlyNext : Flow → Sem Flow
  | .next => .pure .next
  | _ => .unsupported ""
abbrev Kx (x : Sem Flow) : Sem PySem.Fin := (x >>= onlyNext) >>= fun f => (Sem.pure (PySem.Fin.done f))

theorem kx_wp {w : World} {Γ : PySem.Ctx} {x : Sem Flow} {p : Pos} {s s₁ : Shared} {f : Flow} (h : Runs (M' w) Γ p (Kx x) [] s (.ret (.ok f)) s₁) : Sem.wp (M' w) Γ x (fun g _ t => g = .next ∧ t = s₁) (fun _ _ _ => False) p s := by
  have h' := (Sem.wp_iff_runs (M' w) Γ (Kx x) (fun r t => r = .ok f ∧ t = s₁) p s).mpr ⟨_, _, h, rfl, rfl⟩
  unfold Kx at h'
  rw [Sem.wp_bind', Sem.wp_bind'] at h'
  refine Sem.wp_mono _ _ x (fun g p' t hg => ?_) (fun e p' t he => nomatch he.1) p s h'
  cases g with
  | next => exact ⟨rfl, hg.2⟩
  | _ => exact hg.elim

theorem runs_frame {w : World} {Γ : PySem.Ctx} {T : Sem PySem.Fin} {p q : Pos} {s s₁ : Shared} {f : Flow} (h : Runs (M' w) Γ p T [F0 q] s (.ret (.ok f)) s₁) : Runs (M' w) (Γ.over [F0 q]) p T [] s (.ret (.ok f)) s₁ := by
  unfold F0 at h
  cases h with
  | @segRet _ _ _ k hh g l c₁ p₁ kp fs _ r s₂ _ _ h1 h2 =>
    have : r = .ok f ∧ s₂ = s₁ := by
      cases r with
      | ok g => cases h2; exact ⟨rfl, rfl⟩
      | error e => cases h2
    obtain ⟨rfl, rfl⟩ := this
    exact h1
  | segSuspGen h _ _ _ => cases h
theorem kw {w : World} {n₀ : Nat} {ann : Option Value} {n : Nat} {s s₁ : Shared} {x : Sem Flow} {c : Code} {p q : Pos} (h : topRun treeTable Pg w n₀ ann n s ⟨Kx x, c, p, [F0 q]⟩ = some s₁) (hg : s₁.gens = #[]) :
    Sem.wp (M' w) (Ctx.of c [F0 q]) x (fun g _ t => g = .next ∧ t = s₁) (fun _ _ _ => False) p s := by
  obtain ⟨f, hr⟩ := kw_runs h hg
  exact kx_wp (runs_frame hr)

theorem kw0 {w : World} {n₀ : Nat} {ann : Option Value} {n : Nat} {s s₁ : Shared} {x : Sem Flow} {c : Code} {p : Pos} (h : topRun treeTable Pg w n₀ ann n s ⟨Kx x, c, p, []⟩ = some s₁) (hg : s₁.gens = #[]) :
    Sem.wp (M' w) ⟨c, none, none, [], none⟩ x (fun g _ t => g = .next ∧ t = s₁) (fun _ _ _ => False) p s := by
  obtain ⟨f, hr⟩ := kw_runs h hg
  exact kx_wp hr

/-- a block in two parts -/
theorem wp_execs_app {M : Model} {Γ : PySem.Ctx} {env : Env} {Q : Flow → Pos → Shared → Prop} {E : Value → Pos → Shared → Prop} (r : List Stmt) : ∀ (l : List Stmt) (p : Pos) (s : Shared),
    Sem.wp M Γ (execs l env) (fun g p t => match g with | .next => Sem.wp M Γ (execs r env) Q E p t | g => Q g p t) E p s → Sem.wp M Γ (execs (l ++ r) env) Q E p s
  | [], p, s, h => h
  | st :: l, p, s, h => by
    have e1 : execs (st :: (l ++ r)) env = (exec st env >>= fun f => match f with | .next => execs (l ++ r) env | f => pure f) := rfl
    have e2 : execs (st :: l) env = (exec st env >>= fun f => match f with | .next => execs l env | f => pure f) := rfl
    show Sem.wp M Γ (execs (st :: (l ++ r)) env) Q E p s
    rw [e1, Sem.wp_bind']
    rw [e2, Sem.wp_bind'] at h
    refine Sem.wp_mono _ _ _ (fun g p' t hg => ?_) (fun _ _ _ e => e) p s h
    cases g with
    | next => exact wp_execs_app r l p' t hg
    | _ => exact hg

/-- the run of a thread, by wp -/
theorem run_of_wp {w : World} {x : Sem PySem.Fin} {s : Shared} {c : Code} {p : Pos} {Φ : Shared → Prop} (hz : s.asleep) (h : Sem.wp (M' w) ⟨c, none, none, [], none⟩ x (Sem.finPost (M' w) ⟨c, none, none, [], none⟩ fun r t => r = .ok (.ret .none) ∧ t.gens = #[] ∧ Φ t) (fun _ _ _ => False) p s) :
    ∃ s₁, Φ s₁ ∧ s₁.gens = #[] ∧ s₁.heap.life = s.heap.life ∧ ∃ n t, schedN (denote table) Pg w n (.single s ⟨x, c, p, []⟩) = .running (.single s₁ t) ∧ through t = true := by
  have h' : Sem.wp (M' w) ⟨c, none, none, [], none⟩ x (Sem.finPost (M' w) ⟨c, none, none, [], none⟩ fun r t => (r = .ok (.ret .none) ∧ t.gens = #[] ∧ Φ t) ∧ leftWithCleanup t.gens = false) (fun e _ t => ((.error e : Result) = .ok (.ret .none) ∧ t.gens = #[] ∧ Φ t) ∧ leftWithCleanup t.gens = false) p s := by
    have h0 : Sem.wp (M' w) ⟨c, none, none, [], none⟩ x (Sem.finPost (M' w) ⟨c, none, none, [], none⟩ fun r t => r = .ok (.ret .none) ∧ t.gens = #[] ∧ Φ t) (fun e _ t => (.error e : Result) = .ok (.ret .none) ∧ t.gens = #[] ∧ Φ t) p s := Sem.wp_mono _ _ _ (fun _ _ _ a => a) (fun _ _ _ a => a.elim) p s h
    obtain ⟨r, s', hr, hR⟩ := (Sem.wp_iff_runs (M' w) _ x (fun r t => r = .ok (.ret .none) ∧ t.gens = #[] ∧ Φ t) p s).mp h0
    exact (Sem.wp_iff_runs (M' w) _ x (fun r t => (r = .ok (.ret .none) ∧ t.gens = #[] ∧ Φ t) ∧ leftWithCleanup t.gens = false) p s).mpr ⟨r, s', hr, hR, by rw [hR.2.1]; simp [leftWithCleanup]⟩
  obtain ⟨n, r, s₁, hn, rfl, hg, hΦ⟩ := (wp_iff_halts (M := M' w) (R := fun r t => r = .ok (.ret .none) ∧ t.gens = #[] ∧ Φ t) ..).mp h'
  obtain ⟨s₂, hr, hf, hc⟩ := runNI_real (denote table) Pg w hn (outcomeOf_ends _)
  obtain rfl : s₂ = s₁ := Shared.eq_of_forget_eq hf hg
  have hne : ∀ k s₂, runN (denote table) Pg w k s ⟨x, c, p, []⟩ ≠ .halted (.unsupported "lifetime:generator-with-cleanup-left-suspended") s₂ := by
    intro k s₃ hk
    have a := runN_mono (denote table) Pg w n k s _ _ _ hr
    have b := runN_mono (denote table) Pg w k n s _ _ s₃ hk
    rw [Nat.add_comm, b] at a
    injection a with a1 _
    cases a1
  have hlast : ∀ (n : Nat) (s : Shared) (t : Thread), runN (denote table) Pg w n s t = .halted (.done (.ret .none)) s₂ → ∃ m t₁, runN (denote table) Pg w m s t = .running s₂ t₁ ∧ through t₁ = true := by
    intro n
    induction n with
    | zero => intro s t h; cases h
    | succ n ih =>
      intro s t h
      simp only [runN] at h
      cases hs : step (denote table) Pg w s t with
      | go s' t' =>
        rw [hs] at h
        obtain ⟨m, t₁, h1, h2⟩ := ih s' t' h
        exact ⟨m + 1, t₁, by simp only [runN, hs]; exact h1, h2⟩
      | halt o s' =>
        rw [hs] at h
        injection h with h1 h2
        subst h1 h2
        obtain rfl := step_halt_same _ _ _ s s' t _ hs
        refine ⟨0, t, rfl, ?_⟩
        exact halt_through hs
  obtain ⟨m, t₁, h1, h2⟩ := hlast n s _ hr
  refine ⟨s₂, hΦ, hg, runN_life _ _ _ hr, m, t₁, ?_, h2⟩
  exact (schedN_eq_runN (denote table) Pg w s _ hz ⟨hc, hne⟩ m).trans (congrArg Run.lift h1)
end Mine
end
noncomputable section
open PySem PySem.Spec PySem.Calls PyProof.Rows PyProof.V PySem.W
set_option Elab.async false
set_option linter.unusedVariables false
set_option maxRecDepth 100000
set_option maxHeartbeats 0
namespace Mine
noncomputable def os0 : OsState := (start (opening Pg)).1.os
noncomputable def sZ (w : World) : Shared := ⟨hp (zL w.params) zLife, #[], ⟨0, 0, 0, 0⟩, 276, os0⟩
noncomputable def sA (w : World) : Shared := ⟨hp (aL w.params) zLife, #[], ⟨0, 0, 0, 0⟩, 282, os0⟩
noncomputable def sD (w : World) : Shared := ⟨hp (yL w.params) zLife, #[], ⟨0, 0, 0, 0⟩, 412, os0⟩
noncomputable def sL (w : World) : Shared := ⟨hp (lL w.params) zLife, #[], ⟨0, 0, 0, 0⟩, 345, os0⟩
noncomputable def env0 : Env := { scope := Pg.main.scope, locals := mainNs, globals := mainNs, cells := [], code := .ref 30, frame := some 31 }
noncomputable def bTop : List Stmt := behindTheImports Pg
noncomputable def b1a : List Stmt := bTop.take 8
noncomputable def b1b : List Stmt := (bTop.drop 8).take 2
noncomputable def b2a : List Stmt := (bTop.drop 11).take 6
noncomputable def b2b : List Stmt := (bTop.drop 17).take 1
noncomputable def b2c : List Stmt := bTop.drop 18
noncomputable def b1 : List Stmt := b1a ++ b1b
noncomputable def b2 : List Stmt := b2a ++ (b2b ++ b2c)
noncomputable def xPre : Sem Flow := moduleCode Pg.main >>= fun code => newBodyFrame code mainNs mainNs >>= fun frame => if (code == .ref 30 && frame == 31) = true then pure .next else .unsupported ""
theorem open0 (w : World) : fencedOpening treeTable Pg w 4000 = some (sZ w) := by kernel_rfl
theorem pre0 (w : World) : topRun treeTable Pg w 0 none 100 (sZ w) ⟨Kx xPre, .builtin "claim.caller" {}, default, []⟩ = some (sA w) := by kernel_rfl
theorem b_split : bTop = b1 ++ dStmt :: b2 := by kernel_rfl
end Mine
end
noncomputable section
open PySem PySem.Spec PySem.Calls PyProof.Rows PyProof.V PySem.W
set_option Elab.async false
set_option linter.unusedVariables false
set_option maxRecDepth 100000
set_option maxHeartbeats 0
namespace Mine
noncomputable abbrev tb' : String → Option Builtin := Fast.tw14364793385576792824
abbrev wf (w : World) (b : Bool) : World := w.withFollow "special-get-raises" b
theorem toL1 (w : World) (p q : Pos) : Fast.tw14082659384304107361 tb' Pg w 0 none 2000 (sA w) ⟨Kx (execs b1a env0), .body bTop env0, p, [F0 q]⟩ = some (sL w) := by kernel_rfl
theorem toD1 (w : World) (p q : Pos) : Fast.tw14082659384304107361 tb' Pg (wf w false) 0 none 2000 (sL (wf w false)) ⟨Kx (execs b1b env0), .body bTop env0, p, [F0 q]⟩ = some (sD (wf w false)) := by kernel_rfl
theorem toD2 (w : World) (p q : Pos) : Fast.tw14082659384304107361 tb' Pg (wf w true) 0 none 2000 (sL (wf w true)) ⟨Kx (execs b1b env0), .body bTop env0, p, [F0 q]⟩ = some (sD (wf w true)) := by kernel_rfl
theorem toL (w : World) (p q : Pos) : topRun treeTable Pg w 0 none 2000 (sA w) ⟨Kx (execs b1a env0), .body bTop env0, p, [F0 q]⟩ = some (sL w) := by
  rw [Fast.te14082659384304107361, Fast.te14364793385576792824]
  exact toL1 w p q
theorem toD (w : World) (p q : Pos) : topRun treeTable Pg w 0 none 2000 (sL w) ⟨Kx (execs b1b env0), .body bTop env0, p, [F0 q]⟩ = some (sD w) := by
  have e : wf w (w.params.followText "special-get-raises") = w := World.withFollow_self w "special-get-raises"
  rw [Fast.te14082659384304107361, Fast.te14364793385576792824]
  generalize w.params.followText "special-get-raises" = b at *
  rw [← e]
  cases b
  · exact toD1 w p q
  · exact toD2 w p q
end Mine
end
noncomputable section
open PySem PySem.Spec PySem.Calls PyProof.Rows PyProof.V PySem.W
set_option Elab.async false
set_option linter.unusedVariables false
set_option maxRecDepth 100000
set_option maxHeartbeats 0
namespace Mine
noncomputable def dNp : Pos := match dStmt with | .Assign [.Name _ p] _ _ => p | _ => default
noncomputable def xSuf : Sem Flow := standAt dNp >>= fun _ => bindName env0 "b3_exceptions" (.ref 85) >>= fun _ => execs b2 env0
noncomputable def xSufA : Sem Flow := standAt dNp >>= fun _ => bindName env0 "b3_exceptions" (.ref 85) >>= fun _ => execs b2a env0
noncomputable def sE (w : World) (xs : List Obj) : Shared := ⟨hp (yL w.params ++ xs) zLife, #[], ⟨0, 0, 0, 0⟩, 2362, os0⟩
noncomputable def sM (w : World) (xs : List Obj) : Shared := ⟨hp (mA w.params ++ xs ++ mB w.params) zLife, #[], ⟨0, 0, 0, 0⟩, 2477, os0⟩
noncomputable def sN (w : World) (xs : List Obj) : Shared := ⟨hp (nA w.params ++ xs ++ nB w.params) zLife, #[], ⟨0, 0, 0, 0⟩, 2634, os0⟩
noncomputable def sF (w : World) (xs : List Obj) : Shared := ⟨hp (vA w.params ++ xs ++ vB w.params) zLife, #[], ⟨0, 0, 0, 0⟩, 2700, os0⟩
theorem suf1 (w : World) (p q : Pos) (o0 o1 o2 o3 o4 o5 o6 o7 o8 o9 o10 o11 o12 o13 o14 o15 o16 o17 o18 o19 o20 o21 o22 o23 o24 o25 o26 o27 o28 o29 o30 o31 o32 o33 o34 o35 o36 o37 o38 : Obj) : Fast.tw14082659384304107361 tb' Pg w 0 none 2000 (sE w [o0, o1, o2, o3, o4, o5, o6, o7, o8, o9, o10, o11, o12, o13, o14, o15, o16, o17, o18, o19, o20, o21, o22, o23, o24, o25, o26, o27, o28, o29, o30, o31, o32, o33, o34, o35, o36, o37, o38]) ⟨Kx xSufA, .body bTop env0, p, [F0 q]⟩ = some (sM w [o0, o1, o2, o3, o4, o5, o6, o7, o8, o9, o10, o11, o12, o13, o14, o15, o16, o17, o18, o19, o20, o21, o22, o23, o24, o25, o26, o27, o28, o29, o30, o31, o32, o33, o34, o35, o36, o37, o38]) := by kernel_rfl
theorem suf2 (w : World) (p q : Pos) (o0 o1 o2 o3 o4 o5 o6 o7 o8 o9 o10 o11 o12 o13 o14 o15 o16 o17 o18 o19 o20 o21 o22 o23 o24 o25 o26 o27 o28 o29 o30 o31 o32 o33 o34 o35 o36 o37 o38 : Obj) : Fast.tw14082659384304107361 tb' Pg w 0 none 2000 (sM w [o0, o1, o2, o3, o4, o5, o6, o7, o8, o9, o10, o11, o12, o13, o14, o15, o16, o17, o18, o19, o20, o21, o22, o23, o24, o25, o26, o27, o28, o29, o30, o31, o32, o33, o34, o35, o36, o37, o38]) ⟨Kx (execs b2b env0), .body bTop env0, p, [F0 q]⟩ = some (sN w [o0, o1, o2, o3, o4, o5, o6, o7, o8, o9, o10, o11, o12, o13, o14, o15, o16, o17, o18, o19, o20, o21, o22, o23, o24, o25, o26, o27, o28, o29, o30, o31, o32, o33, o34, o35, o36, o37, o38]) := by kernel_rfl
theorem suf3 (w : World) (p q : Pos) (o0 o1 o2 o3 o4 o5 o6 o7 o8 o9 o10 o11 o12 o13 o14 o15 o16 o17 o18 o19 o20 o21 o22 o23 o24 o25 o26 o27 o28 o29 o30 o31 o32 o33 o34 o35 o36 o37 o38 : Obj) : Fast.tw14082659384304107361 tb' Pg w 0 none 2000 (sN w [o0, o1, o2, o3, o4, o5, o6, o7, o8, o9, o10, o11, o12, o13, o14, o15, o16, o17, o18, o19, o20, o21, o22, o23, o24, o25, o26, o27, o28, o29, o30, o31, o32, o33, o34, o35, o36, o37, o38]) ⟨Kx (execs b2c env0), .body bTop env0, p, [F0 q]⟩ = some (sF w [o0, o1, o2, o3, o4, o5, o6, o7, o8, o9, o10, o11, o12, o13, o14, o15, o16, o17, o18, o19, o20, o21, o22, o23, o24, o25, o26, o27, o28, o29, o30, o31, o32, o33, o34, o35, o36, o37, o38]) := by kernel_rfl
end Mine
end
noncomputable section
open PySem PySem.Spec PySem.Calls PyProof.Rows PyProof.V PySem.W
set_option Elab.async false
set_option linter.all false
set_option maxRecDepth 100000
set_option maxHeartbeats 400000
namespace Mine
theorem len39 {P : List Obj → Prop} (hP : ∀ (o0 o1 o2 o3 o4 o5 o6 o7 o8 o9 o10 o11 o12 o13 o14 o15 o16 o17 o18 o19 o20 o21 o22 o23 o24 o25 o26 o27 o28 o29 o30 o31 o32 o33 o34 o35 o36 o37 o38 : Obj), P [o0, o1, o2, o3, o4, o5, o6, o7, o8, o9, o10, o11, o12, o13, o14, o15, o16, o17, o18, o19, o20, o21, o22, o23, o24, o25, o26, o27, o28, o29, o30, o31, o32, o33, o34, o35, o36, o37, o38]) (xs : List Obj) (h : xs.length = 39) : P xs := by
  obtain ⟨o0, xs, rfl⟩ := List.exists_cons_of_length_eq_add_one (n := 38) h
  replace h : xs.length = 38 := Nat.succ.inj h
  obtain ⟨o1, xs, rfl⟩ := List.exists_cons_of_length_eq_add_one (n := 37) h
  replace h : xs.length = 37 := Nat.succ.inj h
  obtain ⟨o2, xs, rfl⟩ := List.exists_cons_of_length_eq_add_one (n := 36) h
  replace h : xs.length = 36 := Nat.succ.inj h
  obtain ⟨o3, xs, rfl⟩ := List.exists_cons_of_length_eq_add_one (n := 35) h
  replace h : xs.length = 35 := Nat.succ.inj h
  obtain ⟨o4, xs, rfl⟩ := List.exists_cons_of_length_eq_add_one (n := 34) h
  replace h : xs.length = 34 := Nat.succ.inj h
  obtain ⟨o5, xs, rfl⟩ := List.exists_cons_of_length_eq_add_one (n := 33) h
  replace h : xs.length = 33 := Nat.succ.inj h
  obtain ⟨o6, xs, rfl⟩ := List.exists_cons_of_length_eq_add_one (n := 32) h
  replace h : xs.length = 32 := Nat.succ.inj h
  obtain ⟨o7, xs, rfl⟩ := List.exists_cons_of_length_eq_add_one (n := 31) h
  replace h : xs.length = 31 := Nat.succ.inj h
  obtain ⟨o8, xs, rfl⟩ := List.exists_cons_of_length_eq_add_one (n := 30) h
  replace h : xs.length = 30 := Nat.succ.inj h
  obtain ⟨o9, xs, rfl⟩ := List.exists_cons_of_length_eq_add_one (n := 29) h
  replace h : xs.length = 29 := Nat.succ.inj h
  obtain ⟨o10, xs, rfl⟩ := List.exists_cons_of_length_eq_add_one (n := 28) h
  replace h : xs.length = 28 := Nat.succ.inj h
  obtain ⟨o11, xs, rfl⟩ := List.exists_cons_of_length_eq_add_one (n := 27) h
  replace h : xs.length = 27 := Nat.succ.inj h
  obtain ⟨o12, xs, rfl⟩ := List.exists_cons_of_length_eq_add_one (n := 26) h
  replace h : xs.length = 26 := Nat.succ.inj h
  obtain ⟨o13, xs, rfl⟩ := List.exists_cons_of_length_eq_add_one (n := 25) h
  replace h : xs.length = 25 := Nat.succ.inj h
  obtain ⟨o14, xs, rfl⟩ := List.exists_cons_of_length_eq_add_one (n := 24) h
  replace h : xs.length = 24 := Nat.succ.inj h
  obtain ⟨o15, xs, rfl⟩ := List.exists_cons_of_length_eq_add_one (n := 23) h
  replace h : xs.length = 23 := Nat.succ.inj h
  obtain ⟨o16, xs, rfl⟩ := List.exists_cons_of_length_eq_add_one (n := 22) h
  replace h : xs.length = 22 := Nat.succ.inj h
  obtain ⟨o17, xs, rfl⟩ := List.exists_cons_of_length_eq_add_one (n := 21) h
  replace h : xs.length = 21 := Nat.succ.inj h
  obtain ⟨o18, xs, rfl⟩ := List.exists_cons_of_length_eq_add_one (n := 20) h
  replace h : xs.length = 20 := Nat.succ.inj h
  obtain ⟨o19, xs, rfl⟩ := List.exists_cons_of_length_eq_add_one (n := 19) h
  replace h : xs.length = 19 := Nat.succ.inj h
  obtain ⟨o20, xs, rfl⟩ := List.exists_cons_of_length_eq_add_one (n := 18) h
  replace h : xs.length = 18 := Nat.succ.inj h
  obtain ⟨o21, xs, rfl⟩ := List.exists_cons_of_length_eq_add_one (n := 17) h
  replace h : xs.length = 17 := Nat.succ.inj h
  obtain ⟨o22, xs, rfl⟩ := List.exists_cons_of_length_eq_add_one (n := 16) h
  replace h : xs.length = 16 := Nat.succ.inj h
  obtain ⟨o23, xs, rfl⟩ := List.exists_cons_of_length_eq_add_one (n := 15) h
  replace h : xs.length = 15 := Nat.succ.inj h
  obtain ⟨o24, xs, rfl⟩ := List.exists_cons_of_length_eq_add_one (n := 14) h
  replace h : xs.length = 14 := Nat.succ.inj h
  obtain ⟨o25, xs, rfl⟩ := List.exists_cons_of_length_eq_add_one (n := 13) h
  replace h : xs.length = 13 := Nat.succ.inj h
  obtain ⟨o26, xs, rfl⟩ := List.exists_cons_of_length_eq_add_one (n := 12) h
  replace h : xs.length = 12 := Nat.succ.inj h
  obtain ⟨o27, xs, rfl⟩ := List.exists_cons_of_length_eq_add_one (n := 11) h
  replace h : xs.length = 11 := Nat.succ.inj h
  obtain ⟨o28, xs, rfl⟩ := List.exists_cons_of_length_eq_add_one (n := 10) h
  replace h : xs.length = 10 := Nat.succ.inj h
  obtain ⟨o29, xs, rfl⟩ := List.exists_cons_of_length_eq_add_one (n := 9) h
  replace h : xs.length = 9 := Nat.succ.inj h
  obtain ⟨o30, xs, rfl⟩ := List.exists_cons_of_length_eq_add_one (n := 8) h
  replace h : xs.length = 8 := Nat.succ.inj h
  obtain ⟨o31, xs, rfl⟩ := List.exists_cons_of_length_eq_add_one (n := 7) h
  replace h : xs.length = 7 := Nat.succ.inj h
  obtain ⟨o32, xs, rfl⟩ := List.exists_cons_of_length_eq_add_one (n := 6) h
  replace h : xs.length = 6 := Nat.succ.inj h
  obtain ⟨o33, xs, rfl⟩ := List.exists_cons_of_length_eq_add_one (n := 5) h
  replace h : xs.length = 5 := Nat.succ.inj h
  obtain ⟨o34, xs, rfl⟩ := List.exists_cons_of_length_eq_add_one (n := 4) h
  replace h : xs.length = 4 := Nat.succ.inj h
  obtain ⟨o35, xs, rfl⟩ := List.exists_cons_of_length_eq_add_one (n := 3) h
  replace h : xs.length = 3 := Nat.succ.inj h
  obtain ⟨o36, xs, rfl⟩ := List.exists_cons_of_length_eq_add_one (n := 2) h
  replace h : xs.length = 2 := Nat.succ.inj h
  obtain ⟨o37, xs, rfl⟩ := List.exists_cons_of_length_eq_add_one (n := 1) h
  replace h : xs.length = 1 := Nat.succ.inj h
  obtain ⟨o38, xs, rfl⟩ := List.exists_cons_of_length_eq_add_one (n := 0) h
  replace h : xs.length = 0 := Nat.succ.inj h
  obtain rfl := List.eq_nil_of_length_eq_zero h
  exact hP o0 o1 o2 o3 o4 o5 o6 o7 o8 o9 o10 o11 o12 o13 o14 o15 o16 o17 o18 o19 o20 o21 o22 o23 o24 o25 o26 o27 o28 o29 o30 o31 o32 o33 o34 o35 o36 o37 o38
theorem suf_a (w : World) (p q : Pos) : ∀ (xs : List Obj), xs.length = 39 → topRun treeTable Pg w 0 none 2000 (sE w xs) ⟨Kx xSufA, .body bTop env0, p, [F0 q]⟩ = some (sM w xs) := by
  rw [Fast.te14082659384304107361, Fast.te14364793385576792824]
  exact len39 fun o0 o1 o2 o3 o4 o5 o6 o7 o8 o9 o10 o11 o12 o13 o14 o15 o16 o17 o18 o19 o20 o21 o22 o23 o24 o25 o26 o27 o28 o29 o30 o31 o32 o33 o34 o35 o36 o37 o38 => suf1 w p q o0 o1 o2 o3 o4 o5 o6 o7 o8 o9 o10 o11 o12 o13 o14 o15 o16 o17 o18 o19 o20 o21 o22 o23 o24 o25 o26 o27 o28 o29 o30 o31 o32 o33 o34 o35 o36 o37 o38
theorem suf_b (w : World) (p q : Pos) : ∀ (xs : List Obj), xs.length = 39 → topRun treeTable Pg w 0 none 2000 (sM w xs) ⟨Kx (execs b2b env0), .body bTop env0, p, [F0 q]⟩ = some (sN w xs) := by
  rw [Fast.te14082659384304107361, Fast.te14364793385576792824]
  exact len39 fun o0 o1 o2 o3 o4 o5 o6 o7 o8 o9 o10 o11 o12 o13 o14 o15 o16 o17 o18 o19 o20 o21 o22 o23 o24 o25 o26 o27 o28 o29 o30 o31 o32 o33 o34 o35 o36 o37 o38 => suf2 w p q o0 o1 o2 o3 o4 o5 o6 o7 o8 o9 o10 o11 o12 o13 o14 o15 o16 o17 o18 o19 o20 o21 o22 o23 o24 o25 o26 o27 o28 o29 o30 o31 o32 o33 o34 o35 o36 o37 o38
theorem suf_c (w : World) (p q : Pos) : ∀ (xs : List Obj), xs.length = 39 → topRun treeTable Pg w 0 none 2000 (sN w xs) ⟨Kx (execs b2c env0), .body bTop env0, p, [F0 q]⟩ = some (sF w xs) := by
  rw [Fast.te14082659384304107361, Fast.te14364793385576792824]
  exact len39 fun o0 o1 o2 o3 o4 o5 o6 o7 o8 o9 o10 o11 o12 o13 o14 o15 o16 o17 o18 o19 o20 o21 o22 o23 o24 o25 o26 o27 o28 o29 o30 o31 o32 o33 o34 o35 o36 o37 o38 => suf3 w p q o0 o1 o2 o3 o4 o5 o6 o7 o8 o9 o10 o11 o12 o13 o14 o15 o16 o17 o18 o19 o20 o21 o22 o23 o24 o25 o26 o27 o28 o29 o30 o31 o32 o33 o34 o35 o36 o37 o38

structure WpS {α : Type} (M : Model) (Γ : PySem.Ctx) (x : Sem α) (Q : α → Shared → Prop) (p : Pos) (s : Shared) : Prop where
  run : Sem.wp M Γ x (fun v _ t => Q v t) (fun _ _ _ => False) p s
theorem WpA.at {α : Type} {M : Model} {Γ : PySem.Ctx} {x : Sem α} {Q : α → Shared → Prop} {p : Pos} {s : Shared} (h : WpA M x Q s) (hh : Γ.handled = none) : WpS M Γ x Q p s :=
  ⟨h.run ⟨none, frameCount Γ.below + Γ.code.weight, none, none, Γ.units⟩ Γ p ⟨hh, Nat.le_refl _, (fun l hl => nomatch hl), (fun l hl => nomatch hl), Nat.le_refl _⟩⟩
theorem kwS {w : World} {n₀ : Nat} {ann : Option Value} {n : Nat} {s s₁ : Shared} {x : Sem Flow} {c : Code} {p q : Pos} (h : topRun treeTable Pg w n₀ ann n s ⟨Kx x, c, p, [F0 q]⟩ = some s₁) (hg : s₁.gens = #[]) :
    WpS (M' w) (Ctx.of c [F0 q]) x (fun g t => g = .next ∧ t = s₁) p s := ⟨kw h hg⟩
theorem kwS0 {w : World} {n₀ : Nat} {ann : Option Value} {n : Nat} {s s₁ : Shared} {x : Sem Flow} {c : Code} {p : Pos} (h : topRun treeTable Pg w n₀ ann n s ⟨Kx x, c, p, []⟩ = some s₁) (hg : s₁.gens = #[]) :
    WpS (M' w) ⟨c, none, none, [], none⟩ x (fun g t => g = .next ∧ t = s₁) p s := ⟨kw0 h hg⟩
theorem WpS.mono {α : Type} {M : Model} {Γ : PySem.Ctx} {x : Sem α} {Q Q' : α → Shared → Prop} {p : Pos} {s : Shared} (h : WpS M Γ x Q p s) (hq : ∀ v t, Q v t → Q' v t) : WpS M Γ x Q' p s :=
  ⟨Sem.wp_mono _ _ _ (fun v _ t a => hq v t a) (fun _ _ _ e => e) _ _ h.run⟩
theorem WpS.cast {α : Type} {M : Model} {Γ : PySem.Ctx} {x y : Sem α} {Q : α → Shared → Prop} {p : Pos} {s : Shared} (h : WpS M Γ x Q p s) (e : x = y) : WpS M Γ y Q p s := e ▸ h

theorem body_gen {M : Model} {Γ : PySem.Ctx} {env : Env} {l₁ l₂ : List Stmt} {st : Stmt} {nm : Str} {np sp p : Pos} {e : PySem.Expr} {sA sD : Shared} {Ψ : Value → Shared → Prop} {Φ : Shared → Prop}
    (h1 : WpS M Γ (execs l₁ env) (fun g t => g = .next ∧ t = sD) p sA) (hst : st = .Assign [.Name nm np] e sp) (hs : swapsWith e (some (.Name nm np)) sp.line env = pure false)
    (h2 : ∀ p, WpS M Γ (eval e env) Ψ p sD)
    (h3 : ∀ v t p, Ψ v t → WpS M Γ (standAt np >>= fun _ => bindName env nm v >>= fun _ => execs l₂ env) (fun g t => g = .next ∧ Φ t) p t) :
    WpS M Γ (execs (l₁ ++ st :: l₂) env) (fun g t => g = .next ∧ Φ t) p sA := by
  subst hst
  refine ⟨wp_execs_app _ _ _ _ ?_⟩
  refine Sem.wp_mono _ _ _ (fun g p' t hg => ?_) (fun _ _ _ e => e) p _ h1.run
  obtain ⟨rfl, rfl⟩ := hg
  dsimp only
  have e1 : execs (.Assign [.Name nm np] e sp :: l₂) env = (exec (.Assign [.Name nm np] e sp) env >>= fun f => match f with | .next => execs l₂ env | f => pure f) := rfl
  rw [e1, Sem.wp_bind', exec_Assign_Name env nm np e sp hs]
  rw [Sem.wp_bind', Sem.wp_cmd_standAt, Sem.wp_bind']
  refine Sem.wp_mono _ _ _ (fun v p₁ t₁ hv => ?_) (fun _ _ _ e => e) _ _ (h2 _).run
  have h4 := (h3 v t₁ p₁ hv).run
  rw [Sem.wp_bind', Sem.wp_cmd_standAt, Sem.wp_bind'] at h4 ⊢
  refine Sem.wp_mono _ _ _ (fun _ p₂ t hg => ?_) (fun _ _ _ e => e) _ _ h4
  rw [Sem.wp_pure']
  exact hg

theorem app_gen {M : Model} {Γ : PySem.Ctx} {env : Env} {l r : List Stmt} {p : Pos} {s s₁ : Shared} {Q : Flow → Shared → Prop}
    (h1 : WpS M Γ (execs l env) (fun g t => g = .next ∧ t = s₁) p s) (h2 : ∀ p, WpS M Γ (execs r env) Q p s₁) : WpS M Γ (execs (l ++ r) env) Q p s := by
  refine ⟨wp_execs_app _ _ _ _ ?_⟩
  refine Sem.wp_mono _ _ _ (fun g p' t hg => ?_) (fun _ _ _ e => e) p _ h1.run
  obtain ⟨rfl, rfl⟩ := hg
  exact (h2 p').run
theorem suf_app {M : Model} {Γ : PySem.Ctx} {env : Env} {l r : List Stmt} {np p : Pos} {nm : Str} {v : Value} {s s₁ : Shared} {Q : Flow → Shared → Prop}
    (h1 : WpS M Γ (standAt np >>= fun _ => bindName env nm v >>= fun _ => execs l env) (fun g t => g = .next ∧ t = s₁) p s) (h2 : ∀ p, WpS M Γ (execs r env) Q p s₁) :
    WpS M Γ (standAt np >>= fun _ => bindName env nm v >>= fun _ => execs (l ++ r) env) Q p s := by
  have h := h1.run
  refine ⟨?_⟩
  rw [Sem.wp_bind', Sem.wp_cmd_standAt, Sem.wp_bind'] at h ⊢
  refine Sem.wp_mono _ _ _ (fun _ p₂ t hg => ?_) (fun _ _ _ e => e) _ _ h
  refine wp_execs_app _ _ _ _ (Sem.wp_mono _ _ _ (fun g p' t hg => ?_) (fun _ _ _ e => e) _ _ hg)
  obtain ⟨rfl, rfl⟩ := hg
  exact (h2 p').run

theorem top_gen {w : World} {b : List Stmt} {sZ sA : Shared} {Φ : Shared → Prop} (h0 : WpS (M' w) ⟨.builtin "claim.caller" {}, none, none, [], none⟩ xPre (fun g t => g = .next ∧ t = sA) default sZ) (hb : blockStart b env0 = pure ())
    (h1 : ∀ p, WpS (M' w) (Ctx.of (.body b env0) [F0 p]) (execs b env0) (fun f t => f = .next ∧ Φ t) p sA) (hg : ∀ t, Φ t → t.gens = #[]) :
    Sem.wp (M' w) ⟨.builtin "claim.caller" {}, none, none, [], none⟩ (moduleCode Pg.main >>= fun code => newBodyFrame code mainNs mainNs >>= fun frame => run (.body b { scope := Pg.main.scope, locals := mainNs, globals := mainNs, cells := [], code, frame := some frame }) >>= fun _ => ret .none)
      (Sem.finPost (M' w) ⟨.builtin "claim.caller" {}, none, none, [], none⟩ fun r t => r = .ok (.ret .none) ∧ t.gens = #[] ∧ Φ t) (fun _ _ _ => False) default sZ := by
  replace h0 := h0.run
  unfold xPre at h0
  rw [Sem.wp_bind'] at h0 ⊢
  refine Sem.wp_mono _ _ _ (fun code p₁ t₁ h2 => ?_) (fun _ _ _ e => e) _ _ h0
  rw [Sem.wp_bind'] at h2 ⊢
  refine Sem.wp_mono _ _ _ (fun frame p₂ t₂ h3 => ?_) (fun _ _ _ e => e) _ _ h2
  by_cases hc : (code == Value.ref 30 && frame == 31) = true
  · rw [if_pos hc] at h3
    obtain ⟨_, rfl⟩ := h3
    obtain ⟨c1, c2⟩ := Bool.and_eq_true_iff.mp hc
    obtain rfl := eq_of_beq c1
    obtain rfl : frame = 31 := eq_of_beq c2
    rw [Sem.wp_bind', Sem.wp_run, wpCode_iff_wp]
    show Sem.wp (M' w) (Ctx.of (.body b env0) [F0 p₂]) (blockStart b env0 >>= fun _ => ((execs b env0).onRaise (leaving env0)) >>= fun f => (Sem.pure (PySem.Fin.done f) : Sem PySem.Fin)) _ _ p₂ t₂
    rw [hb, Sem.wp_bind', Sem.wp_pure', Sem.wp_bind', Sem.wp_onRaise]
    refine Sem.wp_mono _ _ _ (fun f p₃ t hf => ?_) (fun _ _ _ e => e.elim) _ _ (h1 p₂).run
    obtain ⟨rfl, hΦ⟩ := hf
    exact ⟨rfl, hg t hΦ, hΦ⟩
  · rw [if_neg hc] at h3
    exact h3.elim

theorem dict_gen {w : World} {s : Shared} {life : Life} {base : List Obj} {tk : Nat} {n : Nat} {env : Env} (hn : base.length = n) (hb : sysModules < n) {sD : Shared} {sE : List Obj → Shared} (e1 : stt s life base tk = sD) (e2 : ∀ xs, stt s life (base ++ xs) (tk + 1950) = sE xs) :
    WpA (M' w) (eval (.Dict dKeys dVals dPos) env) (fun v t => ∃ es subs, v = .ref n ∧ All2 EnR b3ps es.toList ∧ subs.length = 38 ∧ t = sE (dO es 650 :: subs)) sD := by
  subst hn e1
  refine dict_eval hb ?_
  intro es subs h1 h2
  refine ⟨es, subs, ?_, h1, h2, ?_⟩
  · rfl
  · exact e2 _

noncomputable def dSp : Pos := match dStmt with | .Assign _ _ p => p | _ => default
theorem d_shape : dStmt = .Assign [.Name "b3_exceptions" dNp] (.Dict dKeys dVals dPos) dSp := by kernel_rfl
theorem d_swap : swapsWith (.Dict dKeys dVals dPos) (some (.Name "b3_exceptions" dNp)) dSp.line env0 = pure false := by kernel_rfl
theorem b_start : blockStart bTop env0 = pure () := by kernel_rfl
noncomputable def Φ (w : World) (t : Shared) : Prop := ∃ es subs, t = sF w (dO es 650 :: subs) ∧ All2 EnR b3ps es.toList ∧ subs.length = 38
theorem yL_len (P : Params) : (yL P).length = 85 := by kernel_rfl
theorem sE_eq (w : World) (xs : List Obj) : stt (sD w) zLife (yL w.params ++ xs) (412 + 1950) = sE w xs := by kernel_rfl
theorem sD_eq (w : World) : stt (sD w) zLife (yL w.params) 412 = sD w := by kernel_rfl
theorem of_handled (c : Code) (q : Pos) : (Ctx.of c [F0 q]).handled = none := rfl
theorem b_big : sysModules < 85 := by decide +kernel
theorem dict_wpA (w : World) : WpA (M' w) (eval (.Dict dKeys dVals dPos) env0) (fun v t => ∃ es subs, v = .ref 85 ∧ All2 EnR b3ps es.toList ∧ subs.length = 38 ∧ t = sE w (dO es 650 :: subs)) (sD w) := dict_gen (yL_len _) b_big (sD_eq w) (sE_eq w)
theorem e_split : execs (b1 ++ dStmt :: b2) env0 = execs bTop env0 := congrArg (fun l => execs l env0) b_split.symm
theorem sD_gens (w : World) : (sD w).gens = #[] := rfl
theorem sA_gens (w : World) : (sA w).gens = #[] := rfl
theorem sL_gens (w : World) : (sL w).gens = #[] := rfl
theorem sM_gens (w : World) (xs : List Obj) : (sM w xs).gens = #[] := rfl
theorem sN_gens (w : World) (xs : List Obj) : (sN w xs).gens = #[] := rfl
theorem e_pre : execs (b1a ++ b1b) env0 = execs b1 env0 := rfl
theorem e_suf : (standAt dNp >>= fun _ => bindName env0 "b3_exceptions" (.ref 85) >>= fun _ => execs (b2a ++ (b2b ++ b2c)) env0) = xSuf := rfl
theorem sF_gens (w : World) (xs : List Obj) : (sF w xs).gens = #[] := rfl
theorem suf_gen {w : World} {Γ : PySem.Ctx} {v : Value} {t : Shared} {p : Pos} (h : ∀ xs, xs.length = 39 → WpS (M' w) Γ xSuf (fun g t => g = .next ∧ t = sF w xs) p (sE w xs)) (hv : ∃ es subs, v = .ref 85 ∧ All2 EnR b3ps es.toList ∧ subs.length = 38 ∧ t = sE w (dO es 650 :: subs)) :
    WpS (M' w) Γ (standAt dNp >>= fun _ => bindName env0 "b3_exceptions" v >>= fun _ => execs b2 env0) (fun g t => g = .next ∧ Φ w t) p t := by
  obtain ⟨es, subs, rfl, h2, h3, rfl⟩ := hv
  have h4 := h (dO es 650 :: subs) (by rw [List.length_cons, h3])
  exact h4.mono fun g t hg => ⟨hg.1, es, subs, hg.2, h2, h3⟩
theorem pre_wp (w : World) (p q : Pos) : WpS (M' w) (Ctx.of (.body bTop env0) [F0 q]) (execs b1 env0) (fun g t => g = .next ∧ t = sD w) p (sA w) :=
  WpS.cast (app_gen (kwS (toL w p q) (sL_gens w)) fun p₁ => kwS (toD w p₁ q) (sD_gens w)) e_pre
theorem suf_wp (w : World) (p q : Pos) (xs : List Obj) (h : xs.length = 39) : WpS (M' w) (Ctx.of (.body bTop env0) [F0 q]) xSuf (fun g t => g = .next ∧ t = sF w xs) p (sE w xs) :=
  WpS.cast (suf_app (kwS (suf_a w p q xs h) (sM_gens w xs)) fun p₁ => app_gen (kwS (suf_b w p₁ q xs h) (sN_gens w xs)) fun p₂ => kwS (suf_c w p₂ q xs h) (sF_gens w xs)) e_suf
theorem body_wp (w : World) (p q : Pos) : WpS (M' w) (Ctx.of (.body bTop env0) [F0 q]) (execs bTop env0) (fun f t => f = .next ∧ Φ w t) p (sA w) := by
  refine WpS.cast ?_ e_split
  exact body_gen (pre_wp w p q) d_shape d_swap (fun p₁ => (dict_wpA w).at (of_handled _ _)) fun v t p₁ hv => suf_gen (fun xs hx => suf_wp w p₁ q xs hx) hv
theorem Φ_gens {w : World} {t : Shared} (h : Φ w t) : t.gens = #[] := by
  obtain ⟨es, subs, h, _⟩ := h
  rw [h]; exact sF_gens _ _
theorem sZ_asleep (w : World) : (sZ w).asleep := ⟨rfl, rfl⟩
theorem top_ran (w : World) : ∃ s₁, Φ w s₁ ∧ ∃ n t, schedN (denote table) Pg w n (.single (sZ w) (topStub Pg)) = .running (.single s₁ t) ∧ through t = true := by
  obtain ⟨s₁, h1, _, _, h2⟩ := run_of_wp (w := w) (s := sZ w) (p := default) (sZ_asleep w) (top_gen (kwS0 (pre0 w) (sA_gens w)) b_start (fun p => body_wp w p p) fun t h => Φ_gens h)
  exact ⟨s₁, h1, h2⟩
end Mine
end
noncomputable section
open PySem PySem.Spec PySem.Calls PyProof.Rows PyProof.V PySem.W
set_option Elab.async false
set_option linter.all false
set_option maxRecDepth 100000
set_option maxHeartbeats 0
namespace Mine
noncomputable def qV : Program := { Pg with main := { Pg.main with body := [Pg.main.body[0]?.getD (.Pass ⟨0,0,0,0⟩), Pg.main.body[25]?.getD (.Pass ⟨0,0,0,0⟩)] } }
noncomputable def looseV : List Str := ["_wall", "_iter_escaped_chars", "_strip_quoted_realnames", "_check_parenthesis", "rgb_to_hsv", "b1_set", "in_table_b1", "b3_exceptions", "map_table_b3", "tspecials", "_name_disallowed_re", "_value_disallowed_re", "_formatparam", "Headers", "_law_signs", "_law_rule", "_law_by_mail", "_law_by_wheel", "_law_rows"]
noncomputable def modsV : List Str := importedModules Pg.main.body
theorem look1 (w : World) (o0 o1 o2 o3 o4 o5 o6 o7 o8 o9 o10 o11 o12 o13 o14 o15 o16 o17 o18 o19 o20 o21 o22 o23 o24 o25 o26 o27 o28 o29 o30 o31 o32 o33 o34 o35 o36 o37 o38 : Obj) : openSeen qV looseV modsV (fun _ => true) true (sF w [o0, o1, o2, o3, o4, o5, o6, o7, o8, o9, o10, o11, o12, o13, o14, o15, o16, o17, o18, o19, o20, o21, o22, o23, o24, o25, o26, o27, o28, o29, o30, o31, o32, o33, o34, o35, o36, o37, o38]) = openGood qV looseV := by kernel_rfl
end Mine
end
noncomputable section
open PySem PySem.Spec PySem.Calls PyProof.Rows PyProof.V PySem.W
set_option Elab.async false
set_option linter.all false
set_option maxRecDepth 100000
set_option maxHeartbeats 800000
namespace Mine
theorem look2 (w : World) (o0 o1 o2 o3 o4 o5 o6 o7 o8 o9 o10 o11 o12 o13 o14 o15 o16 o17 o18 o19 o20 o21 o22 o23 o24 o25 o26 o27 o28 o29 o30 o31 o32 o33 o34 o35 o36 o37 o38 : Obj) : (staticsOk modsV (sZ w).heap (sF w [o0, o1, o2, o3, o4, o5, o6, o7, o8, o9, o10, o11, o12, o13, o14, o15, o16, o17, o18, o19, o20, o21, o22, o23, o24, o25, o26, o27, o28, o29, o30, o31, o32, o33, o34, o35, o36, o37, o38]).heap && namesBound Pg (sF w [o0, o1, o2, o3, o4, o5, o6, o7, o8, o9, o10, o11, o12, o13, o14, o15, o16, o17, o18, o19, o20, o21, o22, o23, o24, o25, o26, o27, o28, o29, o30, o31, o32, o33, o34, o35, o36, o37, o38]).heap && laidKept (sZ w).heap (sF w [o0, o1, o2, o3, o4, o5, o6, o7, o8, o9, o10, o11, o12, o13, o14, o15, o16, o17, o18, o19, o20, o21, o22, o23, o24, o25, o26, o27, o28, o29, o30, o31, o32, o33, o34, o35, o36, o37, o38]).heap) = true := by kernel_rfl
theorem look3 (w : World) (o0 o1 o2 o3 o4 o5 o6 o7 o8 o9 o10 o11 o12 o13 o14 o15 o16 o17 o18 o19 o20 o21 o22 o23 o24 o25 o26 o27 o28 o29 o30 o31 o32 o33 o34 o35 o36 o37 o38 : Obj) : (sF w [o0, o1, o2, o3, o4, o5, o6, o7, o8, o9, o10, o11, o12, o13, o14, o15, o16, o17, o18, o19, o20, o21, o22, o23, o24, o25, o26, o27, o28, o29, o30, o31, o32, o33, o34, o35, o36, o37, o38]).heap.nsMap mainGlobals "law" = some (.ref 314) := by kernel_rfl
theorem look12 (w : World) : ∀ (xs : List Obj), xs.length = 39 → openSeen qV looseV modsV (fun _ => true) true (sF w xs) = openGood qV looseV ∧ (staticsOk modsV (sZ w).heap (sF w xs).heap && namesBound Pg (sF w xs).heap && laidKept (sZ w).heap (sF w xs).heap) = true ∧ (sF w xs).heap.nsMap mainGlobals "law" = some (.ref 314) := len39 fun o0 o1 o2 o3 o4 o5 o6 o7 o8 o9 o10 o11 o12 o13 o14 o15 o16 o17 o18 o19 o20 o21 o22 o23 o24 o25 o26 o27 o28 o29 o30 o31 o32 o33 o34 o35 o36 o37 o38 => ⟨look1 w o0 o1 o2 o3 o4 o5 o6 o7 o8 o9 o10 o11 o12 o13 o14 o15 o16 o17 o18 o19 o20 o21 o22 o23 o24 o25 o26 o27 o28 o29 o30 o31 o32 o33 o34 o35 o36 o37 o38, look2 w o0 o1 o2 o3 o4 o5 o6 o7 o8 o9 o10 o11 o12 o13 o14 o15 o16 o17 o18 o19 o20 o21 o22 o23 o24 o25 o26 o27 o28 o29 o30 o31 o32 o33 o34 o35 o36 o37 o38, look3 w o0 o1 o2 o3 o4 o5 o6 o7 o8 o9 o10 o11 o12 o13 o14 o15 o16 o17 o18 o19 o20 o21 o22 o23 o24 o25 o26 o27 o28 o29 o30 o31 o32 o33 o34 o35 o36 o37 o38⟩

theorem vA_split (P : Params) : vA P = (zL P).set 3 (v3 P) ++ (vA P).drop 28 := by kernel_rfl
theorem zL_len (P : Params) : (zL P).length = 28 := by kernel_rfl
theorem hp_get? (l : List Obj) (life : Life) (b : Addr) (o : Obj) : (hp l life).get? b = some o ↔ l[b]? = some o ∧ ∀ c d s, o ≠ ⟨c, d, .freed, s⟩ := by
  unfold Heap.get? hp
  rw [List.getElem?_toArray]
  cases h : l[b]? with
  | none => simp
  | some x =>
    obtain ⟨c, d, dt, sl⟩ := x
    cases dt <;> simp <;> first | (rintro rfl; exact ⟨_, _, _, rfl⟩) | (rintro rfl; intros; intro q; cases q)
theorem frame (w : World) (xs : List Obj) (b : Addr) (o : Obj) (h : (sZ w).heap.get? b = some o) (hb : b ≠ mainNs) : (sF w xs).heap.get? b = some o := by
  obtain ⟨h1, h2⟩ := (hp_get? _ _ _ _).mp h
  refine (hp_get? _ _ _ _).mpr ⟨?_, h2⟩
  have hlt : b < (zL w.params).length := (List.getElem?_eq_some_iff.mp h1).1
  rw [vA_split, List.append_assoc, List.append_assoc, List.getElem?_append_left (by rw [List.length_set]; exact hlt), List.getElem?_set_ne (show 3 ≠ b from fun q => hb q.symm)]
  exact h1

abbrev rwR : OpenRow := PySem.Challenge.rw_wf0107_01.row
theorem behind (w : World) : (∃ s, AfterRun (opening Pg) w s) ∧ ∀ s, AfterRun (opening Pg) w s → ∃ s₀, fenceModules? Pg s = some s₀ ∧ s₀.gens = #[] ∧ ∃ s₁, TopRan Pg w s₀ s₁ ∧ s₁.asleep ∧ s₁.gens = #[] ∧ s₁.heap.isNs mainGlobals = true ∧
      Ground qV looseV [] (fun _ _ => True) w s₁ (s₁.heap.nsMap mainGlobals) (s₁.heap.nsMap builtinsNs) s₁.heap ∧ Φ w s₁ := by
  obtain ⟨s, h4, h5⟩ := Option.bind_eq_some_iff.mp (open0 w)
  rw [← table_eq_tree] at h4
  have A := AfterImport.of_importEnds h4
  refine ⟨⟨s, A⟩, fun s' hs' => ?_⟩
  obtain rfl : s' = s := AfterImport.unique hs' A
  obtain ⟨s₁, hΦ, hrun⟩ := top_ran w
  obtain ⟨es, subs, rfl, h6, h7⟩ := id hΦ
  obtain ⟨k1, k2, _⟩ := look12 w (dO es 650 :: subs) (by rw [List.length_cons, h7])
  obtain ⟨k2, k3⟩ := Bool.and_eq_true_iff.mp k2
  obtain ⟨k2, k4⟩ := Bool.and_eq_true_iff.mp k2
  obtain ⟨G, g0, g1, g2, g3, g4, g5⟩ := ground_of_open (w := w) (XP := fun _ _ => True) (fun _ _ => trivial) (by decide +kernel) k1
  refine ⟨sZ w, h5, rfl, _, ⟨hrun, rfl, rfl, fun b o hb hn => frame w _ b o hb fun q => hn (.inl q), g2, statics_of_ok k2, g3, g4, g5, ?_, names_of_bound k4, laid_of_kept k3⟩, ⟨rfl, rfl⟩, rfl, g1, G, hΦ⟩
  intro g hg
  rw [sF_gens] at hg
  simp at hg

abbrev CallT : Prop := ∀ (w : World) (s₀ s₁ : Shared), Φ w s₀ → (∀ b o, s₀.heap.get? b = some o → s₁.heap.get? b = some o) → Ground qV looseV [] (fun _ _ => True) w s₀ (s₀.heap.nsMap mainGlobals) (s₀.heap.nsMap builtinsNs) s₁.heap → ∀ (args : List WData) (vs : List Value) (as : List Addr),
  rwR.toRowW.claim.pre args = true → WData.layableAll args = true → Laid [] w s₀ s₁ args vs as →
    wpAny (model Pg w) callerA (PySem.call (.ref 314) vs) (fun v s' => GoodWG rwR.toRowW.claim (classAt s₀.heap) (ExcName.means s₀.heap) args s₁ (.ok (.ret v)) s')
      (fun e s' => GoodWG rwR.toRowW.claim (classAt s₀.heap) (ExcName.means s₀.heap) args s₁ (.error e) s') s₁
theorem law_at {w : World} {s : Shared} (h : Φ w s) : s.heap.nsMap mainGlobals "law" = some (.ref 314) := by
  obtain ⟨es, subs, rfl, _, h7⟩ := h
  exact (look12 w (dO es 650 :: subs) (by rw [List.length_cons, h7])).2.2

theorem pin_law {w : World} {s : Shared} (hg : s.heap.isNs mainGlobals = true) (G : Ground qV looseV [] (fun _ _ => True) w s (s.heap.nsMap mainGlobals) (s.heap.nsMap builtinsNs) s.heap) : isTheDefsW Pg s.heap "law" :=
  pinned_of_view (name := "law") hg G (by rfl) (by rfl) (by rfl)
theorem row_holds (said : rwR.wellSaid = true) (call : CallT) : rwR.Holds := by
  have hw : rwR.toRowW.promised := ⟨[.list [.int 3, .int 1]], by decide +kernel, by decide +kernel⟩
  have ok : (chainsOk qV && opensWell Pg && (frees rwR.toRowW && rwR.within.isEmpty)) = true := by decide +kernel
  obtain ⟨ok, k5⟩ := Bool.and_eq_true_iff.mp ok
  obtain ⟨hch, o1⟩ := Bool.and_eq_true_iff.mp ok
  obtain ⟨k5, k6⟩ := Bool.and_eq_true_iff.mp k5
  obtain ⟨hsame, hu, ha, hap, hm⟩ := frees_parts k5
  refine ⟨said, hw, ⟨⟨rfl, rfl, rfl, rfl, rfl, by decide +kernel⟩, o1, rfl⟩, hw.witness, fun w => ⟨(behind w).1, fun s' hs' => ?_⟩⟩
  obtain ⟨s₀, hf, hg0, s, hT, hz, hgens, hg, G, hΦ⟩ := (behind w).2 s' hs'
  have hT' := hT
  have hwi : rwR.toRowW.claim.within = [] := List.isEmpty_iff.mp k6
  have hi := ident_freeW hu ha hap
  refine ⟨s₀, hf, hg0, s, hT, fun n hn => ?_, (fun x hx => nomatch hx), (fun x hx => nomatch hx), ?_⟩
  · obtain rfl : n = "law" := List.mem_singleton.mp hn
    exact pin_law hg G
  refine ClaimW.callFrom_of_specG (c := rwR.toRowW.claim) hz hgens fun args hpre hlay ord hord => ?_
  obtain ⟨⟨vs, s₁⟩, hlaid⟩ := Option.isSome_iff_exists.mp (layAllW_isSome (P := w.params) (ord := ord) G.has args rwR.toRowW.args s (pre_splitW hpre).1)
  have keeps := layAllW_keeps _ _ _ hlaid
  have hal := layAllW_rest _ _ _ hlaid
  obtain ⟨as, hrd, hin, hold⟩ := reads_layAllW hord _ _ _ hlaid hlay s₁.heap (fun _ _ e => e)
  have L : Laid [] w s s₁ args vs as := ⟨⟨ord, hord, hlaid⟩, hrd, hin, hold, keeps, hal.1.trans hgens, hal.2.2.1⟩
  have G₁ := G.keeps (fun _ _ _ _ _ => trivial) keeps
  have h := call w s s₁ hΦ keeps G₁ args vs as hpre hlay L
  have kps := rwR.keeps
  refine ⟨vs, s₁, hlaid, ?_⟩
  refine wpAny_bind (wpAny_nsGet G₁.T.g ?_)
  have hl : s.heap.nsMap mainGlobals rwR.name = some (.ref 314) := law_at hΦ
  rw [hl]
  refine wpAny_bind (wpAny_mono h (fun v s' g => wpAny_pure ⟨_, rfl, ?_⟩) fun e s' g => ?_)
  · have z := g.laid (c := rwR.toRowW.claim) hsame hwi hi L
    exact ⟨z.1, z.2.1, z.2.2, fun q => ⟨namesKept_of hT' hg _ keeps g.2.1.old, fun x hx => nomatch hx⟩⟩
  · have z := g.laid (c := rwR.toRowW.claim) hsame hwi hi L
    exact ⟨z.1, z.2.1, z.2.2, fun q => ⟨namesKept_of hT' hg _ keeps g.2.1.old, fun x hx => nomatch hx⟩⟩
end Mine
end
noncomputable section
open PySem PySem.Spec PySem.Calls PyProof.Rows PyProof.V PySem.W
set_option Elab.async false
set_option linter.unusedVariables false
set_option maxRecDepth 100000
namespace Mine

noncomputable def upd : Loc → Str → PV → Loc
  | [], x, v => [(x, v)]
  | (y, u) :: r, x, v => if y = x then (x, v) :: r else (y, u) :: upd r x v
theorem lookup_upd (x : Str) (v : PV) (z : Str) : ∀ l : Loc, (upd l x v).lookup z = if z = x then some v else l.lookup z
  | [] => by
    unfold upd
    by_cases h : z = x
    · subst h; simp
    · rw [if_neg h, List.lookup_cons, show (z == x) = false from beq_eq_false_iff_ne.mpr h]
  | (y, u) :: r => by
    unfold upd
    by_cases hy : y = x
    · rw [if_pos hy]
      by_cases h : z = x
      · rw [if_pos h, List.lookup_cons, show (z == x) = true from beq_iff_eq.mpr h]
      · rw [if_neg h, List.lookup_cons, List.lookup_cons, show (z == x) = false from beq_eq_false_iff_ne.mpr h, show (z == y) = false from beq_eq_false_iff_ne.mpr (hy ▸ h)]
    · rw [if_neg hy, List.lookup_cons, List.lookup_cons, lookup_upd x v z r]
      by_cases h2 : z = y
      · have : ¬ z = x := fun h => hy (h2.symm.trans h)
        rw [show (z == y) = true from beq_iff_eq.mpr h2]
        simp only [this, if_false]
      · rw [show (z == y) = false from beq_eq_false_iff_ne.mpr h2]

/-- how a block ends -/
inductive Fl where
  | next
  | brk
  | cont
  | ret (v : PV)

noncomputable def FR (as : List Addr) : Fl → Flow → Prop
  | .next, f => f = .next
  | .brk, f => f = .brk
  | .cont, f => f = .cont
  | .ret v, f => ∃ u, f = .ret u ∧ VR as v u

/-- what a statement may move: the frame's names and its own lists -/
structure Mv (C : Cx) (as : List Addr) (s : Shared) (as' : List Addr) (s' : Shared) : Prop where
  ext : ∃ bs, as' = as ++ bs ∧ ∀ b ∈ bs, s.heap.get? b = none
  keep : ∀ b o, b ≠ C.env.locals → b ∉ as → s.heap.get? b = some o → s'.heap.get? b = some o
  gp : ∀ (i : Nat) x, s.gens[i]? = some x → s'.gens[i]? = some x

section
variable {C : Cx} {l l' : Loc} {σ σ' : Sto} {as as' : List Addr} {s s' : Shared}
theorem Mv.refl : Mv C as s as s := ⟨⟨[], by simp, by simp⟩, fun _ _ _ _ e => e, fun _ _ e => e⟩
theorem Mv.kp (K : Kp s s') : Mv C as s as s' := ⟨⟨[], by simp, by simp⟩, fun b o _ _ e => K.k b o e, K.p⟩
theorem Rel.locals (R : Rel C l σ as s) : ∃ o, s.heap.get? C.env.locals = some o := by
  obtain ⟨m, F, _⟩ := R.fr
  obtain ⟨o, _, _, e, _⟩ := F.ns
  exact ⟨o, e⟩
theorem Mv.trans {as₁ as₂ : List Addr} {s s₁ s₂ : Shared} {l₁ : Loc} {σ₁ : Sto} (a : Mv C as s as₁ s₁) (R₁ : Rel C l₁ σ₁ as₁ s₁) (b : Mv C as₁ s₁ as₂ s₂) : Mv C as s as₂ s₂ := by
  obtain ⟨⟨bs, rfl, fb⟩, ka, ga⟩ := a
  obtain ⟨⟨cs, rfl, fc⟩, kb, gb⟩ := b
  refine ⟨⟨bs ++ cs, by simp, fun x hx => ?_⟩, fun x o h1 h2 e => kb x o h1 (fun hm => ?_) (ka x o h1 h2 e), fun i x e => gb i x (ga i x e)⟩
  · rcases List.mem_append.mp hx with hx | hx
    · exact fb x hx
    · cases e : s.heap.get? x with
      | none => rfl
      | some o =>
        have n := fc x hx
        by_cases h1 : x = C.env.locals
        · obtain ⟨o', e'⟩ := R₁.locals
          rw [← h1, n] at e'; cases e'
        · by_cases h2 : x ∈ as
          · obtain ⟨_, _, o', e'⟩ := R₁.fs x (List.mem_append_left _ h2)
            rw [n] at e'; cases e'
          · rw [ka x o h1 h2 e] at n; cases n
  · rcases List.mem_append.mp hm with hm | hm
    · exact h2 hm
    · rw [fb x hm] at e; cases e

theorem Rel.store (R : Rel C l σ as s) {x : Str} {v : PV} {u : Value} (hv : VR as v u) {m : Str → Option Value} {h' : Heap} {tk : Nat} (F : Fr C.h₀ C.env.locals s.heap m) (hm : ∀ x v, l.lookup x = some v → ∃ u, m x = some u ∧ VR as v u)
    (hn : h'.Ns C.env.locals (fun y => if y = x then some u else m y)) (hs : Heap.SameBut C.env.locals s.heap h') : Rel C (upd l x v) σ as { s with heap := h', toks := tk } := by
  refine ⟨⟨_, F.set hn hs, fun z w hz => ?_⟩, R.ln, fun j o e => ?_, fun a ha => ?_, R.nd, R.gn, R.os, R.cs⟩
  · rw [lookup_upd] at hz
    by_cases h : z = x
    · subst h
      rw [if_pos rfl] at hz ⊢
      cases hz
      exact ⟨u, rfl, hv⟩
    · rw [if_neg h] at hz ⊢
      exact hm z w hz
  · obtain ⟨a, ha, h⟩ := R.st j o e
    exact ⟨a, ha, h.keeps fun o' e' => (hs.2 a (R.fs a (List.mem_of_getElem? ha)).2.1).trans e'⟩
  · obtain ⟨h1, h2, o, e⟩ := R.fs a ha
    exact ⟨h1, h2, o, (hs.2 a h2).trans e⟩

theorem Rel.push (R : Rel C l σ as s) {a : Addr} {o : PO} (K : Kp s s') (hn : s.heap.get? a = none) (ho : OH C.w as s'.heap a o) : Rel C l (σ ++ [o]) (as ++ [a]) s' := by
  have R' := R.kp K
  obtain ⟨m, F, hm⟩ := R.fr
  have hlive : ∃ ob, s'.heap.get? a = some ob := ho.live
  refine ⟨?_, by simp [R.ln], fun j o' e => ?_, fun b hb => ?_, ?_, R'.gn, R'.os, fun p hp => by rw [List.getElem?_append_left (List.getElem?_eq_some_iff.mp (R.cs p hp)).1]; exact R.cs p hp⟩
  · obtain ⟨m', F', hm'⟩ := R'.fr
    exact ⟨m', F', fun x v hx => let ⟨u, hu, hv⟩ := hm' x v hx; ⟨u, hu, hv.app⟩⟩
  · rcases Nat.lt_or_ge j σ.length with hj | hj
    · rw [List.getElem?_append_left hj] at e
      obtain ⟨b, hb, h⟩ := R'.st j o' e
      exact ⟨b, by rw [List.getElem?_append_left (by rw [R.ln]; exact hj)]; exact hb, h.app⟩
    · rw [List.getElem?_append_right hj] at e
      have hj0 : j - σ.length = 0 := by
        rcases Nat.eq_zero_or_pos (j - σ.length) with h | h
        · exact h
        · rw [List.getElem?_eq_none (by simp; omega)] at e; cases e
      rw [hj0] at e
      simp at e
      subst e
      refine ⟨a, ?_, ho.app⟩
      rw [List.getElem?_append_right (by rw [R.ln]; exact hj), R.ln, hj0]; rfl
  · rcases List.mem_append.mp hb with hb | hb
    · exact R'.fs b hb
    · rw [List.mem_singleton.mp hb]
      refine ⟨?_, fun h => ?_, hlive⟩
      · cases e : C.h₀.get? a with
        | none => rfl
        | some o' => rw [F.keep a o' e] at hn; cases hn
      · obtain ⟨o', e'⟩ := R.locals
        rw [← h, hn] at e'; cases e'
  · refine List.nodup_append.mpr ⟨R.nd, by simp, fun x hx y hy => ?_⟩
    rw [List.mem_singleton.mp hy]
    rintro rfl
    obtain ⟨_, _, o', e'⟩ := R.fs x hx
    rw [hn] at e'; cases e'
end

/-- an expression that may make objects; what stood stands -/
structure EvX (C : Cx) (l : Loc) (σ : Sto) (e : Expr) (τ : Sto) (v : PV) : Prop where
  run :
  ∀ (as : List Addr) (s : Shared) (Q : Value → Shared → Prop) (E : Value → Shared → Prop), Rel C l σ as s →
    (∀ u bs s', Kp s s' → Rel C l (σ ++ τ) (as ++ bs) s' → (∀ b ∈ bs, s.heap.get? b = none) → VR (as ++ bs) v u → Q u s') → wpAny (model Pg C.w) C.A (eval e C.env) Q E s
/-- an expression that may make objects and turn the own ones -/
structure EvM (C : Cx) (l : Loc) (σ : Sto) (e : Expr) (σ' : Sto) (v : PV) : Prop where
  run :
  ∀ (as : List Addr) (s : Shared) (Q : Value → Shared → Prop) (E : Value → Shared → Prop), Rel C l σ as s →
    (∀ u as' s', Rel C l σ' as' s' → Mv C as s as' s' → VR as' v u → Q u s') → wpAny (model Pg C.w) C.A (eval e C.env) Q E s
/-- a name is bound -/
noncomputable def St (C : Cx) (x : Str) (l : Loc) (σ : Sto) (v : PV) (l' : Loc) (σ' : Sto) : Prop :=
  ∀ (as : List Addr) (s : Shared) (u : Value) (Q : Unit → Shared → Prop) (E : Value → Shared → Prop), Rel C l σ as s → VR as v u →
    (∀ s', Rel C l' σ' as s' → Mv C as s as s' → Q () s') → wpAny (model Pg C.w) C.A (storeName C.env x u) Q E s

/-- several names, one by one -/
inductive Sts (C : Cx) : List Expr → List PV → Loc → Sto → Loc → Sto → Prop
  | nil {l σ} : Sts C [] [] l σ l σ
  | cons {x p xs v vs l σ l₁ σ₁ l' σ'} : St C x l σ v l₁ σ₁ → Sts C xs vs l₁ σ₁ l' σ' → Sts C (.Name x p :: xs) (v :: vs) l σ l' σ'
section
variable {C : Cx} {l l' : Loc} {σ σ' : Sto} {as : List Addr} {s : Shared}
theorem fresh_size {s s₁ : Shared} (K : Kp s s₁) : s.heap.get? s₁.heap.objs.size = none := by
  cases e : s.heap.get? s₁.heap.objs.size with
  | none => rfl
  | some o' => exact absurd (Heap.lt_size (K.k _ _ e)) (Nat.lt_irrefl _)
theorem Ev.x {e : Expr} {v : PV} (h : Ev C l σ e v) : EvX C l σ e [] v := .mk fun as s Q E R hQ => h as s Q E R fun u s' K vu => hQ u [] s' K (by simpa using R.kp K) (by simp) (by simpa using vu)
theorem EvL.x {e : Expr} {vs : List PV} (h : EvL C l σ e vs) : EvX C l σ e [.list vs] (.obj σ.length) := .mk fun as s Q E R hQ => h as s Q E R fun a s' K hn ho =>
  hQ _ [a] s' K (R.push K hn ho) (by simpa using hn) ⟨a, by rw [← R.ln]; simp, rfl⟩
theorem EvX.m {e : Expr} {τ : Sto} {v : PV} (h : EvX C l σ e τ v) : EvM C l σ e (σ ++ τ) v := .mk fun as s Q E R hQ => h.run as s Q E R fun u bs s' K R' hb vu => hQ u _ s' R' ⟨⟨bs, rfl, hb⟩, fun b o _ _ e => K.k b o e, K.p⟩ vu
theorem Ev.m {e : Expr} {v : PV} (h : Ev C l σ e v) : EvM C l σ e σ v := by have := h.x.m; simpa using this
theorem EvL.m {e : Expr} {vs : List PV} (h : EvL C l σ e vs) : EvM C l σ e (σ ++ [.list vs]) (.obj σ.length) := h.x.m
theorem EvX.plain {e : Expr} {τ : Sto} {v : PV} (h : EvX C l σ e τ v) (hv : v.plain = true) : Ev C l σ e v := fun as s Q E R hQ => h.run as s Q E R fun u bs s' K R' hb vu => hQ u s' K (vu.as_plain hv)

/-- one of the own objects is turned -/
theorem Rel.setObj (R : Rel C l σ as s) {j : Nat} {a : Addr} {o : PO} {h' : Heap} {tk : Nat} (ha : as[j]? = some a) (hs : Heap.SameBut a s.heap h') (ho : OH C.w as h' a o) : Rel C l (σ.set j o) as { s with heap := h', toks := tk } := by
  obtain ⟨⟨m, F, hm⟩, ln, st, fs, nd, gn, os, cs⟩ := R
  have haL := (fs a (List.mem_of_getElem? ha)).2.1
  have hlive : ∃ ob, h'.get? a = some ob := ho.live
  refine ⟨⟨m, ⟨F.ns.sameBut hs (Ne.symm haL), fun b o e => (hs.2 b fun h => ?_).trans (F.keep b o e), F.above⟩, hm⟩, by simp [ln], fun i o' e => ?_, fun b hb => ?_, nd, gn, os, cs⟩
  · rw [h, (fs a (List.mem_of_getElem? ha)).1] at e; cases e
  · by_cases hij : i = j
    · subst hij
      have hlt : i < σ.length := by rw [← ln]; exact (List.getElem?_eq_some_iff.mp ha).1
      rw [List.getElem?_set_self hlt] at e
      cases e
      exact ⟨a, ha, ho⟩
    · rw [List.getElem?_set_ne (Ne.symm hij)] at e
      obtain ⟨b, hb, h⟩ := st i o' e
      refine ⟨b, hb, h.keeps fun o e => (hs.2 b fun hba => hij ?_).trans e⟩
      subst hba
      exact (List.getElem?_inj (List.getElem?_eq_some_iff.mp hb).1 nd).mp (hb.trans ha.symm)
  · obtain ⟨h1, h2, ob, e⟩ := fs b hb
    by_cases hba : b = a
    · subst hba; exact ⟨h1, h2, hlive⟩
    · exact ⟨h1, h2, ob, (hs.2 b hba).trans e⟩
theorem Mv.setObj {j : Nat} {a : Addr} {h' : Heap} {tk : Nat} (ha : as[j]? = some a) (hs : Heap.SameBut a s.heap h') : Mv C as s as { s with heap := h', toks := tk } :=
  ⟨⟨[], by simp, by simp⟩, fun b o hb hm e => (hs.2 b (fun h => hm (h ▸ List.mem_of_getElem? ha))).trans e, fun _ _ e => e⟩

theorem Cx.Ok.hp (O : C.Ok) : (C.env.scope.kind == .class || (C.env.scope.kind == .module && C.env.locals != C.env.globals)) = false := by rw [O.fk]; rfl
theorem st_local (O : C.Ok) {x : Str} {v : PV} (hl : C.env.kindOf x = some .local) : St C x l σ v (upd l x v) σ := fun as s u Q E R hv hQ => by
  obtain ⟨m, F, hm⟩ := R.fr
  refine wpAny_storeName_local hl F.ns (fun h' hn hs' => ?_) O.hp
  exact hQ _ (R.store hv F hm hn hs') ⟨⟨[], by simp, by simp⟩, fun b o hb _ e => (hs'.2 b hb).trans e, fun _ _ e => e⟩
theorem st_cell (O : C.Ok) {x : Str} {v : PV} {a : Addr} {j : Nat} {v₀ : Option PV} (hl : C.env.kindOf x = some .cell) (hc : C.env.cells.lookup x = some a) (hj : (j, a) ∈ C.cls) (h₀ : σ[j]? = some (.cell v₀)) : St C x l σ v l (σ.set j (.cell (some v))) := fun as s u Q E R hv hQ => by
  have ha := R.cs _ hj
  obtain ⟨a', ha', o, c, ho, hd, _⟩ := R.st j _ h₀
  rw [ha] at ha'; cases ha'
  refine wpAny_storeName_cell O.fk hl hc ⟨o, ho, hd⟩ fun h' ⟨o', ho', hd'⟩ hs => ?_
  exact hQ _ (R.setObj (tk := s.toks) ha hs ⟨o', _, ho', hd', u, rfl, hv⟩) (.setObj (tk := s.toks) ha hs)
theorem ev_cell (O : C.Ok) {x : Str} {pos : Pos} {v : PV} {a : Addr} {j : Nat} (hl : C.env.kindOf x = some .cell) (hc : C.env.cells.lookup x = some a) (hj : (j, a) ∈ C.cls) (h₀ : σ[j]? = some (.cell (some v)))
    (hd : (x == ("__debug__" : Str)) = false := by decide) : Ev C l σ (.Name x pos) v := fun as s Q E R h => by
  have ha := R.cs _ hj
  obtain ⟨a', ha', o, c, ho, hdt, u, rfl, hv⟩ := R.st j _ h₀
  rw [ha] at ha'; cases ha'
  exact wpAny_Name (wpAny_loadName_cell O.fk hl hc ⟨o, ho, hdt⟩ (h u s (.refl _) hv)) hd
end

/-- a statement -/
structure Sx (C : Cx) (st : Stmt) (l : Loc) (σ : Sto) (Φ : Fl → Loc → Sto → Prop) : Prop where
  run :
  ∀ (as : List Addr) (s : Shared) (Q : Flow → Shared → Prop) (E : Value → Shared → Prop), Rel C l σ as s →
    (∀ f l' σ' as' s' fl, Φ f l' σ' → Rel C l' σ' as' s' → Mv C as s as' s' → FR as' f fl → Q fl s') → wpAny (model Pg C.w) C.A (exec st C.env) Q E s
/-- a block -/
structure Ex (C : Cx) (sts : List Stmt) (l : Loc) (σ : Sto) (Φ : Fl → Loc → Sto → Prop) : Prop where
  run :
  ∀ (as : List Addr) (s : Shared) (Q : Flow → Shared → Prop) (E : Value → Shared → Prop), Rel C l σ as s →
    (∀ f l' σ' as' s' fl, Φ f l' σ' → Rel C l' σ' as' s' → Mv C as s as' s' → FR as' f fl → Q fl s') → wpAny (model Pg C.w) C.A (execs sts C.env) Q E s

/-- what is wanted behind a statement that goes on -/
noncomputable def Then (C : Cx) (rest : List Stmt) (Φ : Fl → Loc → Sto → Prop) : Fl → Loc → Sto → Prop
  | .next, l, σ => Ex C rest l σ Φ
  | f, l, σ => Φ f l σ

section
variable {C : Cx} {l : Loc} {σ : Sto} {Φ : Fl → Loc → Sto → Prop}
theorem ex_nil (h : Φ .next l σ) : Ex C [] l σ Φ := .mk fun as s Q E R hQ => wpAny_execs_nil (hQ _ _ _ _ _ _ h R .refl rfl)
theorem ex_cons {st : Stmt} {rest : List Stmt} (h : Sx C st l σ (Then C rest Φ)) : Ex C (st :: rest) l σ Φ := .mk fun as s Q E R hQ =>
  wpAny_execs_cons (h.run as s _ E R fun f l₁ σ₁ as₁ s₁ fl h₁ R₁ M₁ F₁ => by
    cases f with
    | next => cases F₁; exact Ex.run (show Ex C rest l₁ σ₁ Φ from h₁) as₁ s₁ Q E R₁ fun f l₂ σ₂ as₂ s₂ fl h₂ R₂ M₂ F₂ => hQ _ _ _ _ _ _ h₂ R₂ (M₁.trans R₁ M₂) F₂
    | brk => cases F₁; exact hQ _ _ _ _ _ _ h₁ R₁ M₁ rfl
    | cont => cases F₁; exact hQ _ _ _ _ _ _ h₁ R₁ M₁ rfl
    | ret v => obtain ⟨u, rfl, hv⟩ := F₁; exact hQ _ _ _ _ _ _ h₁ R₁ M₁ ⟨u, rfl, hv⟩)
theorem Sx.mono {st : Stmt} {Φ' : Fl → Loc → Sto → Prop} (h : Sx C st l σ Φ) (hm : ∀ f l σ, Φ f l σ → Φ' f l σ) : Sx C st l σ Φ' := .mk fun as s Q E R hQ => h.run as s Q E R fun f l' σ' as' s' fl h' => hQ f l' σ' as' s' fl (hm _ _ _ h')
theorem Ex.mono {sts : List Stmt} {Φ' : Fl → Loc → Sto → Prop} (h : Ex C sts l σ Φ) (hm : ∀ f l σ, Φ f l σ → Φ' f l σ) : Ex C sts l σ Φ' := .mk fun as s Q E R hQ => h.run as s Q E R fun f l' σ' as' s' fl h' => hQ f l' σ' as' s' fl (hm _ _ _ h')

/-- the general assignment to a name -/
theorem sx_let {x : Str} {xp pos : Pos} {e : Expr} {v : PV} {σ₁ σ₂ : Sto} {l₂ : Loc} (h : EvM C l σ e σ₁ v) (hst : St C x l σ₁ v l₂ σ₂) (hΦ : Φ .next l₂ σ₂) (hs : swapsWith e (some (.Name x xp)) pos.line C.env = pure false := by rfl) :
    Sx C (.Assign [.Name x xp] e pos) l σ Φ := .mk fun as s Q E R hQ =>
  wpAny_Assign_Name (h.run as s _ E R fun u as₁ s₁ R₁ M₁ v₁ => hst as₁ s₁ u _ E R₁ v₁ fun s₂ R₂ M₂ => hQ _ _ _ _ _ _ hΦ R₂ (M₁.trans R₁ M₂) rfl) hs

theorem sts_run {C : Cx} {xs : List Expr} {vs : List PV} {l l' : Loc} {σ σ' : Sto} (h : Sts C xs vs l σ l' σ') : ∀ (us : List Value) (as : List Addr) (s : Shared) (Q : Unit → Shared → Prop) (E : Value → Shared → Prop), Rel C l σ as s → All2 (VR as) vs us →
    (∀ s', Rel C l' σ' as s' → Mv C as s as s' → Q () s') → wpAny (model Pg C.w) C.A (assignInOrder ((assignEach xs C.env).map (·.2)) us) Q E s := by
  induction h with
  | nil => intro us as s Q E R hu hQ; cases hu; exact PyProof.Rows.assignInOrder_nil (hQ s R .refl)
  | cons hst _ ih =>
    intro us as s Q E R hu hQ
    cases hu with
    | cons hv hvs => exact PyProof.Rows.assignInOrder_cons (wpAny_assign_Name (hst as s _ _ E R hv fun s₁ R₁ M₁ => ih _ as s₁ Q E R₁ hvs fun s' R' M' => hQ s' R' (M₁.trans R₁ M')))
/-- names = a tuple -/
theorem sx_unpack (O : C.Ok) {xs : List Expr} {k : Nat} {tp pos : Pos} {e : Expr} {σ₁ : Sto} {j : Nat} {vs : List PV} (h : EvM C l σ e σ₁ (.obj j)) (hj : σ₁[j]? = some (.tup vs)) {l' : Loc} {σ' : Sto} (hxs : Sts C xs vs l σ₁ l' σ') (hΦ : Φ .next l' σ')
    (hn : (assignEach xs C.env).length = vs.length := by rfl) (hst : (assignEach xs C.env).findIdx? (·.1) = none := by rfl)
    (hs : swapsWithSole [.Tuple xs k tp] e pos.line C.env = pure false := by rfl) (hw : swappedStores [.Tuple xs k tp] e C.env = pure none := by rfl) :
    Sx C (.Assign [.Tuple xs k tp] e pos) l σ Φ := .mk fun as s Q E R hQ =>
  PyProof.Rows.Assign_Tuple (hs := hs) (hw := hw) (h.run as s _ E R fun u as₁ s₁ R₁ M₁ v₁ => by
    obtain ⟨a, ha, rfl⟩ := v₁
    obtain ⟨a', ha', us, n, ho, hus⟩ := R₁.st j _ hj
    rw [ha] at ha'; cases ha'
    refine PyProof.Rows.assign_Tuple_tuple (items := us.toArray) O.hh ⟨_, ho, rfl, n, rfl⟩ (by rw [List.size_toArray, ← hus.length]; exact hn) hst fun h' he => ?_
    have K : Kp s₁ { s₁ with heap := h' } := .heap (tk := s₁.toks) fun b o e => he b o (Nat.ne_of_lt (Heap.lt_size e)) e
    rw [show us.toArray.toList = us from rfl]
    exact sts_run hxs us as₁ _ _ E (R₁.kp K) hus fun s' R' M' => hQ _ _ _ _ _ _ hΦ R' ((M₁.trans R₁ (.kp K)).trans (R₁.kp K) M') rfl)

theorem sx_assign (O : C.Ok) {x : Str} {xp pos : Pos} {e : Expr} {v : PV} (h : Ev C l σ e v) (hΦ : Φ .next (upd l x v) σ) (hl : C.env.kindOf x = some .local) (hs : swapsWith e (some (.Name x xp)) pos.line C.env = pure false := by rfl) :
    Sx C (.Assign [.Name x xp] e pos) l σ Φ := .mk fun as s Q E R hQ =>
  wpAny_Assign_Name (h as s _ E R fun u s₁ K v₁ => by
    have R₁ := R.kp K
    obtain ⟨m, F, hm⟩ := R₁.fr
    refine wpAny_storeName_local hl F.ns (fun h' hn hs' => ?_) O.hp
    exact hQ _ _ _ as _ _ hΦ (R₁.store v₁ F hm hn hs') ⟨⟨[], by simp, by simp⟩, fun b o hb _ e => (hs'.2 b hb).trans (K.k b o e), K.p⟩ rfl) hs

theorem sx_assignL (O : C.Ok) {x : Str} {xp pos : Pos} {e : Expr} {vs : List PV} (h : EvL C l σ e vs) (hΦ : Φ .next (upd l x (.obj σ.length)) (σ ++ [.list vs])) (hl : C.env.kindOf x = some .local)
    (hs : swapsWith e (some (.Name x xp)) pos.line C.env = pure false := by rfl) : Sx C (.Assign [.Name x xp] e pos) l σ Φ := .mk fun as s Q E R hQ =>
  wpAny_Assign_Name (h as s _ E R fun a s₁ K hn₀ ho => by
    have R₁ := R.push K hn₀ ho
    obtain ⟨m, F, hm⟩ := R₁.fr
    refine wpAny_storeName_local hl F.ns (fun h' hn hs' => ?_) O.hp
    exact hQ _ _ _ (as ++ [a]) _ _ hΦ (R₁.store (v := .obj σ.length) ⟨a, by rw [← R.ln]; simp, rfl⟩ F hm hn hs') ⟨⟨[a], rfl, by simpa using hn₀⟩, fun b o hb _ e => (hs'.2 b hb).trans (K.k b o e), K.p⟩ rfl) hs

/-- an operation in place on plain values -/
noncomputable def Inp (w : World) (op : Operator) (a b v : PV) : Prop :=
  ∀ (A : Around) (ua ub : Value) (s : Shared) (Q : Value → Shared → Prop) (E : Value → Shared → Prop), VR [] a ua → VR [] b ub → (∀ u tk, VR [] v u → Q u { s with toks := tk }) → wpAny (model Pg w) A (inplaceOp op ua ub) Q E s
theorem inp_add_int {w : World} {a b : Int} : Inp w .Add (.int a) (.int b) (.int (a + b)) := by
  rintro A _ _ s Q E ⟨t, rfl⟩ ⟨u, rfl⟩ h
  exact P.iadd_int (h _ _ ⟨_, rfl⟩)
theorem inp_sub_int {w : World} {a b : Int} : Inp w .Sub (.int a) (.int b) (.int (a - b)) := by
  rintro A _ _ s Q E ⟨t, rfl⟩ ⟨u, rfl⟩ h
  exact P.isub_int (h _ _ ⟨_, rfl⟩)
theorem sx_aug (O : C.Ok) {x : Str} {xp pos : Pos} {op : Operator} {e : Expr} {a b v : PV} (hx : l.lookup x = some a) (h : Ev C l σ e b) (ho : Inp C.w op a b v) (hΦ : Φ .next (upd l x v) σ) (hl : C.env.kindOf x = some .local)
    (pa : a.plain = true := by rfl) (pb : b.plain = true := by rfl) (pv : v.plain = true := by rfl) : Sx C (.AugAssign (.Name x xp) op e pos) l σ Φ := .mk fun as s Q E R hQ => by
  obtain ⟨m, F, hm⟩ := R.fr
  obtain ⟨ua, hu, va⟩ := hm x a hx
  refine wpAny_AugAssign_Name (wpAny_loadName_local O.fk hl F.ns hu (h as s _ E R fun ub s₁ K vb => ho _ _ _ s₁ _ _ (va.as_plain pa) (vb.as_plain pb) fun u tk vu => ?_))
  have R₁ := R.kp (K.toks' (tk := tk))
  obtain ⟨m₁, F₁, hm₁⟩ := R₁.fr
  refine wpAny_storeName_local hl F₁.ns (fun h' hn hs' => ?_) O.hp
  exact hQ _ _ _ as _ _ hΦ (R₁.store (vu.as_plain pv) F₁ hm₁ hn hs') ⟨⟨[], by simp, by simp⟩, fun b o hb _ e => (hs'.2 b hb).trans (K.k b o e), K.p⟩ rfl

theorem sx_if {t : Expr} {b₁ b₂ : List Stmt} {pos : Pos} {b : Bool} (ht : Ts C l σ t b) (h₁ : b = true → Ex C b₁ l σ Φ) (h₂ : b = false → Ex C b₂ l σ Φ) : Sx C (.If t b₁ b₂ pos) l σ Φ := .mk fun as s Q E R hQ =>
  wpAny_If (ht as s _ E R fun s₁ K => by
    have hQ' : ∀ f l' σ' as' s' fl, Φ f l' σ' → Rel C l' σ' as' s' → Mv C as s₁ as' s' → FR as' f fl → Q fl s' := fun f l' σ' as' s' fl a b c d => hQ f l' σ' as' s' fl a b (Mv.trans (.kp K) (R.kp K) c) d
    cases b with
    | true => exact (h₁ rfl).run as s₁ Q E (R.kp K) hQ'
    | false => exact (h₂ rfl).run as s₁ Q E (R.kp K) hQ')
theorem sx_ret {e : Expr} {pos : Pos} {v : PV} (h : Ev C l σ e v) (hΦ : Φ (.ret v) l σ) : Sx C (.Return (some e) pos) l σ Φ := .mk fun as s Q E R hQ =>
  wpAny_Return_some (h as s _ E R fun u s₁ K vu => hQ _ _ _ as s₁ _ hΦ (R.kp K) (.kp K) ⟨u, rfl, vu⟩)

/-- what a loop's turn hands on -/
noncomputable def Turn (I : Loc → Sto → Prop) (Φ : Fl → Loc → Sto → Prop) : Fl → Loc → Sto → Prop
  | .next, l, σ => I l σ
  | .cont, l, σ => I l σ
  | .brk, l, σ => Φ .next l σ
  | .ret v, l, σ => Φ (.ret v) l σ

theorem Rel.walk {as : List Addr} {s : Shared} (R : Rel C l σ as s) {wr : List Addr} {h' : Heap} {tk : Nat} (hk : ∀ b o, b ∉ wr → s.heap.get? b = some o → h'.get? b = some o)
    (hL : C.env.locals ∉ wr) (ha : ∀ a ∈ as, a ∉ wr) (h0 : ∀ b o, C.h₀.get? b = some o → b ∉ wr) : Rel C l σ as { s with heap := h', toks := tk } := by
  obtain ⟨⟨m, F, hm⟩, ln, st, fs, nd, gn, os, cs⟩ := R
  exact ⟨⟨m, ⟨F.ns.at' fun o e => hk _ o hL e, fun b o e => hk b o (h0 b o e) (F.keep b o e), F.above⟩, hm⟩, ln, fun j o e => let ⟨a, hj, h⟩ := st j o e; ⟨a, hj, h.keeps fun o e => hk a o (ha a (List.mem_of_getElem? hj)) e⟩,
    fun a hm => let ⟨x, y, o, e⟩ := fs a hm; ⟨x, y, o, hk a o (ha a hm) e⟩, nd, gn, os, cs⟩

/-- the loop itself: an iterator that walks, an invariant over the turn's number -/
theorem loop_of_walk (O : C.Ok) {x : Str} {px : Pos} {body : List Stmt} {I : Addr} {fp wr : List Addr} {n : Nat} {P : Nat → Value → Prop} {St : Nat → Heap → Prop} {as : List Addr} {s : Shared}
    {R : Result → Shared → Prop} (W : Walks Pg C.w C.A I fp wr n P St) (hx : C.env.kindOf x = some .local) (R₀ : Rel C l σ as s) (hst : St 0 s.heap) (hLf : C.env.locals ∉ fp) (haf : ∀ a ∈ as, a ∉ fp) (h0 : ∀ b ∈ wr, C.h₀.get? b = none)
    (hlv : ∀ i h, St i h → ∀ b ∈ fp, ∃ o, h.get? b = some o)
    (J : Nat → Loc → Sto → Prop) (hJ : J 0 l σ) (hitem : ∀ i u, i < n → P i u → ∃ v : PV, VR [] v u ∧ v.plain = true ∧ ∀ l σ, J i l σ → Ex C body (upd l x v) σ (Turn (J (i + 1)) Φ))
    (hdone : ∀ l σ, J n l σ → Φ .next l σ)
    (hR : ∀ f l' σ' as' s' fl, Φ f l' σ' → Rel C l' σ' as' s' → (∃ bs, as' = as ++ bs ∧ ∀ b ∈ bs, s.heap.get? b = none) → (∀ b o, b ≠ C.env.locals → b ∉ as → b ∉ fp → s.heap.get? b = some o → s'.heap.get? b = some o) → (∀ (i : Nat) x, s.gens[i]? = some x → s'.gens[i]? = some x) → FR as' f fl → R (.ok fl) s') :
    codeAny (model Pg C.w) C.A (.forLoop (.Name x px) (.ref I) body [] C.env) R s := by
  have hLw : C.env.locals ∉ wr := fun h => hLf (W.sub _ h)
  refine codeAny_forLoop (fun k s' => ∃ i l' σ' as', Rel C l' σ' as' s' ∧ J i l' σ' ∧ St i s'.heap ∧ i ≤ n ∧ k = n + 1 - i ∧ (∃ bs, as' = as ++ bs ∧ ∀ b ∈ bs, s.heap.get? b = none) ∧
      (∀ b o, b ≠ C.env.locals → b ∉ as → b ∉ fp → s.heap.get? b = some o → s'.heap.get? b = some o) ∧ (∀ (i : Nat) x, s.gens[i]? = some x → s'.gens[i]? = some x)) ?_ (n + 1)
    ⟨0, l, σ, as, R₀, hJ, hst, Nat.zero_le _, rfl, ⟨[], by simp, by simp⟩, (fun _ _ _ _ _ e => e), (fun _ _ e => e)⟩
  rintro k s' ⟨i, l', σ', as', R₁, hJ', hst', hi, rfl, ⟨bs, rfl, hbs⟩, hk, hg⟩
  have haf' : ∀ a ∈ as ++ bs, a ∉ fp := fun a ha hf => by
    rcases List.mem_append.mp ha with ha | ha
    · exact haf a ha hf
    · obtain ⟨o, e⟩ := hlv 0 _ hst a hf
      rw [hbs a ha] at e; cases e
  have haw' : ∀ a ∈ as ++ bs, a ∉ wr := fun a ha hw => haf' a ha (W.sub _ hw)
  have h0' : ∀ b o, C.h₀.get? b = some o → b ∉ wr := fun b o e hw => by rw [h0 b hw] at e; cases e
  by_cases hlt : i < n
  · refine W.item i _ _ _ hlt hst' fun u h₁ tk₁ hP hst₁ hk₁ => ?_
    obtain ⟨v, hv, hp, hbody⟩ := hitem i u hlt hP
    have R₂ := R₁.walk (tk := tk₁) hk₁ hLw haw' h0'
    obtain ⟨m, F, hm⟩ := R₂.fr
    refine wpAny_assign_Name (wpAny_storeName_local hx F.ns (fun h₂ hn₂ hs₂ => ?_) O.hp)
    have R₃ := R₂.store (tk := tk₁ + 1) (hv.as_plain hp) F hm hn₂ hs₂
    have hfpk : ∀ b ∈ fp, ∀ o, h₁.get? b = some o → h₂.get? b = some o := fun b hb o e => (hs₂.2 b fun h => hLf (h ▸ hb)).trans e
    have hst₂ : St (i + 1) h₂ := W.frame _ _ _ hst₁ hfpk
    refine (hbody l' σ' hJ').run (as ++ bs) _ _ _ R₃ fun f l₄ σ₄ as₄ s₄ fl h₄ R₄ M₄ F₄ => ?_
    obtain ⟨⟨cs, rfl, hcs⟩, kp₄, gp₄⟩ := M₄
    have hg₄ : ∀ (i : Nat) x, s.gens[i]? = some x → s₄.gens[i]? = some x := fun i x e => gp₄ i x (hg i x e)
    have hcs2 : ∀ b ∈ cs, s.heap.get? b = none := fun b hb => by
      cases e : s.heap.get? b with
      | none => rfl
      | some o =>
        have q : h₂.get? b = none := hcs b hb
        by_cases h1 : b = C.env.locals
        · obtain ⟨o', e'⟩ := R₃.locals
          rw [← h1] at e'
          exact absurd (q.symm.trans e') (by simp)
        · by_cases h2 : b ∈ as
          · obtain ⟨_, _, o', e'⟩ := R₃.fs b (List.mem_append_left _ h2)
            exact absurd (q.symm.trans e') (by simp)
          · by_cases h3 : b ∈ fp
            · obtain ⟨o', e'⟩ := hlv _ _ hst₂ b h3
              rw [q] at e'; cases e'
            · have := (hs₂.2 b h1).trans (hk₁ b o (fun h => h3 (W.sub _ h)) (hk b o h1 h2 h3 e))
              rw [q] at this; cases this
    have hfpc : ∀ b ∈ fp, b ∉ as ++ bs := fun b hb hm => haf' b hm hb
    have hkeep : ∀ b o, b ≠ C.env.locals → b ∉ as → b ∉ fp → s.heap.get? b = some o → s₄.heap.get? b = some o := fun b o h1 h2 h3 e => by
      refine kp₄ b o h1 (fun hm => ?_) ((hs₂.2 b h1).trans (hk₁ b o (fun h => h3 (W.sub _ h)) (hk b o h1 h2 h3 e)))
      rcases List.mem_append.mp hm with hm | hm
      · exact h2 hm
      · rw [hbs b hm] at e; cases e
    have hext : ∃ bs', as ++ bs ++ cs = as ++ bs' ∧ ∀ b ∈ bs', s.heap.get? b = none := ⟨bs ++ cs, by simp, fun b hb => by
      rcases List.mem_append.mp hb with hb | hb
      · exact hbs b hb
      · exact hcs2 b hb⟩
    have hst₄ : St (i + 1) s₄.heap := W.frame _ _ _ hst₂ fun b hb o e => kp₄ b o (fun h => hLf (h ▸ hb)) (hfpc b hb) e
    cases f with
    | next => cases F₄; exact ⟨n + 1 - (i + 1), by omega, i + 1, l₄, σ₄, _, R₄, h₄, hst₄, hlt, rfl, hext, hkeep, hg₄⟩
    | cont => cases F₄; exact ⟨n + 1 - (i + 1), by omega, i + 1, l₄, σ₄, _, R₄, h₄, hst₄, hlt, rfl, hext, hkeep, hg₄⟩
    | brk => cases F₄; exact hR _ _ _ _ _ _ h₄ R₄ hext hkeep hg₄ rfl
    | ret v => obtain ⟨u, rfl, hv⟩ := F₄; exact hR _ _ _ _ _ _ h₄ R₄ hext hkeep hg₄ ⟨u, rfl, hv⟩
  · have hin : i = n := by omega
    subst hin
    refine W.done _ _ _ hst' fun h₁ tk₁ hk₁ => wpAny_execs_nil ?_
    have R₂ := R₁.walk (tk := tk₁) hk₁ hLw haw' h0'
    exact hR _ _ _ _ _ _ (hdone _ _ hJ') R₂ ⟨bs, rfl, hbs⟩ (fun b o h1 h2 h3 e => hk₁ b o (fun h => h3 (W.sub _ h)) (hk b o h1 h2 h3 e)) hg rfl

/-- an iterable's iterator: it walks n turns, each item P -/
noncomputable def EvI (C : Cx) (l : Loc) (σ : Sto) (e : Expr) (n : Nat) (P : Nat → Value → Prop) : Prop :=
  ∀ (as : List Addr) (s : Shared) (Q : Value → Shared → Prop) (E : Value → Shared → Prop), Rel C l σ as s →
    (∀ I s' fp wr St, Kp s s' → Walks Pg C.w C.A I fp wr n P St → St 0 s'.heap → (∀ i h, St i h → ∀ b ∈ fp, ∃ o, h.get? b = some o) → (∀ b ∈ fp, s.heap.get? b = none) → Q (.ref I) s') →
    wpAny (model Pg C.w) C.A (eval e C.env) (fun u s₁ => wpAny (model Pg C.w) C.A (pyIter u) Q E s₁) E s

theorem evi_str (O : C.Ok) {e : Expr} {w : Str} (he : Ev C l σ e (.str w)) : EvI C l σ e w.cps.size (SignAt w) := fun as s Q E R h =>
  he as s _ E R fun u s₁ K vu => by
    obtain ⟨t, rfl⟩ := vu
    have K₁ : ∀ o, Kp s { s₁ with heap := s₁.heap.push o } := fun o => K.heap' (tk := s₁.toks) fun b o' e => Heap.get?_push_of_some _ e
    refine wpAny_pyIter_strU ?_
    cases ha : w.cps.all (· < 128) with
    | true =>
      exact h _ _ _ _ _ (K₁ _) (Walks.strAscii O.hh _ w t) ⟨_, Heap.get?_push_size _ rfl, by simp [strIterType, ha], rfl⟩ (fun i h st b hb => let ⟨o, e, _⟩ := st; ⟨o, (List.mem_singleton.mp hb) ▸ e⟩) (fun b hb => (List.mem_singleton.mp hb) ▸ fresh_size K)
    | false =>
      exact h _ _ _ _ _ (K₁ _) (Walks.strWide O.hh _ w t) ⟨_, Heap.get?_push_size _ rfl, by simp [strIterType, ha], rfl⟩ (fun i h st b hb => let ⟨o, e, _⟩ := st; ⟨o, (List.mem_singleton.mp hb) ▸ e⟩) (fun b hb => (List.mem_singleton.mp hb) ▸ fresh_size K)

theorem evi_range (O : C.Ok) {np pos : Pos} {e : Expr} {N : Int} (he : Ev C l σ e (.int N)) (hk : C.env.kindOf "range" = some .globalImplicit) (h1 : -(2 ^ 62) ≤ N) (h2 : N < 2 ^ 62) (hs : starEach [e] C.env = [(false, eval e C.env)] := by rfl) :
    EvI C l σ (.Call (.Name "range" np) [e] [] pos) N.toNat (fun i v => ∃ t, v = .int (0 + i * 1) t) := fun as s Q E R h =>
  Call_name1 hs (nm_b O R (by decide) (v := .type "range") (by decide +kernel) hk (PySem.callWith_type1 (he as s _ E R fun u s₁ K vu => by
    obtain ⟨t, rfl⟩ := vu
    refine call_range_1 (wpAny_pyIter_range (IsRange.new ..) (small_one (by decide) (by decide) h1 h2) ?_)
    have K₁ : Kp s { s₁ with heap := s₁.heap.push { cls := .type "range", data := .fields #[.int 0 s₁.toks, .int N t, .int 1 (s₁.toks + 1)] }, toks := s₁.toks + 1 + 1 } := K.heap' fun b o' e => Heap.get?_push_of_some _ e
    have K₂ := fun o => K₁.heap' (h' := (s₁.heap.push { cls := .type "range", data := .fields #[.int 0 s₁.toks, .int N t, .int 1 (s₁.toks + 1)] }).push o) (tk := s₁.toks + 1 + 1) fun b o' e => Heap.get?_push_of_some _ e
    have hsz : Builtin.Range.rangeSize 0 N 1 = (N.toNat : Int) := by rw [rangeSize_one]; split <;> omega
    refine h _ _ _ _ _ (K₂ _) (Walks.range O.hh _ 0 1 N.toNat) ?_ (fun i h st b hb => ⟨_, (List.mem_singleton.mp hb) ▸ st⟩) (fun b hb => (List.mem_singleton.mp hb) ▸ fresh_size K₁)
    have e1 : ((0 : Int) + ((0 : Nat) : Int) * 1) = 0 := by simp
    have e2 : ((N.toNat : Int) - ((0 : Nat) : Int)) = Builtin.Range.rangeSize 0 N 1 := by rw [hsz]; simp
    show IsRangeIter _ _ ((0 : Int) + ((0 : Nat) : Int) * 1) ((N.toNat : Int) - ((0 : Nat) : Int)) 1
    rw [e1, e2]
    exact Heap.get?_push_size _ rfl)))

theorem sx_for (O : C.Ok) {x : Str} {px pos : Pos} {it : Expr} {body : List Stmt} {n : Nat} {P : Nat → Value → Prop} (hit : EvI C l σ it n P) (hx : C.env.kindOf x = some .local)
    (J : Nat → Loc → Sto → Prop) (hJ : J 0 l σ) (hitem : ∀ i u, i < n → P i u → ∃ v : PV, VR [] v u ∧ v.plain = true ∧ ∀ l σ, J i l σ → Ex C body (upd l x v) σ (Turn (J (i + 1)) Φ)) (hdone : ∀ l σ, J n l σ → Φ .next l σ)
    (hs : ∀ x, foldedSetIterable it C.env x = pure x := by intro _; rfl) : Sx C (.For (.Name x px) it body [] pos) l σ Φ := .mk fun as s Q E R hQ =>
  wpAny_For (hit as s _ E R fun I s₁ fp wr St K W hst hlv hfp => by
    have R₁ := R.kp K
    refine loop_of_walk O W hx R₁ hst (fun h => ?_) (fun a ha h => ?_) (fun b hb => ?_) hlv J hJ hitem hdone fun f l' σ' as' s' fl h' R' he hk hgk F' => hQ f l' σ' as' s' fl h' R' ⟨?_, fun b o h1 h2 e => hk b o h1 h2 (fun h3 => ?_) (K.k b o e), fun i x e => hgk i x (K.p i x e)⟩ F'
    · obtain ⟨o, e⟩ := R.locals
      rw [hfp _ h] at e; cases e
    · obtain ⟨_, _, o, e⟩ := R.fs a ha
      rw [hfp _ h] at e; cases e
    · obtain ⟨m, F, _⟩ := R.fr
      cases e : C.h₀.get? b with
      | none => rfl
      | some o => have := F.keep b o e; rw [hfp b (W.sub _ hb)] at this; cases this
    · obtain ⟨bs, e, hb⟩ := he
      refine ⟨bs, e, fun b h => ?_⟩
      cases q : s.heap.get? b with
      | none => rfl
      | some o => have := K.k b o q; rw [hb b h] at this; cases this
    · rw [hfp b h3] at e; cases e) hs

theorem sx_for_str (O : C.Ok) {x : Str} {px pos : Pos} {it : Expr} {body : List Stmt} {w : Str} (hit : Ev C l σ it (.str w)) (hx : C.env.kindOf x = some .local)
    (J : Nat → Loc → Sto → Prop) (hJ : J 0 l σ) (hbody : ∀ i c l σ, w.cps[i]? = some c → J i l σ → Ex C body (upd l x (.str ⟨#[c]⟩)) σ (Turn (J (i + 1)) Φ)) (hdone : ∀ l σ, J w.cps.size l σ → Φ .next l σ)
    (hs : ∀ x, foldedSetIterable it C.env x = pure x := by intro _; rfl) : Sx C (.For (.Name x px) it body [] pos) l σ Φ :=
  sx_for O (evi_str O hit) hx J hJ (fun i u hi ⟨c, t, hc, hu⟩ => ⟨.str ⟨#[c]⟩, ⟨t, hu⟩, rfl, fun l σ hj => hbody i c l σ hc hj⟩) hdone hs
theorem sx_for_range (O : C.Ok) {x : Str} {px pos np cp : Pos} {e : Expr} {body : List Stmt} {N : Int} (he : Ev C l σ e (.int N)) (hx : C.env.kindOf x = some .local) (hk : C.env.kindOf "range" = some .globalImplicit) (h1 : -(2 ^ 62) ≤ N) (h2 : N < 2 ^ 62)
    (J : Nat → Loc → Sto → Prop) (hJ : J 0 l σ) (hbody : ∀ i l σ, i < N.toNat → J i l σ → Ex C body (upd l x (.int i)) σ (Turn (J (i + 1)) Φ)) (hdone : ∀ l σ, J N.toNat l σ → Φ .next l σ)
    (hse : starEach [e] C.env = [(false, eval e C.env)] := by rfl) (hs : ∀ x, foldedSetIterable (.Call (.Name "range" np) [e] [] cp) C.env x = pure x := by intro _; rfl) : Sx C (.For (.Name x px) (.Call (.Name "range" np) [e] [] cp) body [] pos) l σ Φ :=
  sx_for O (evi_range O he hk h1 h2 hse) hx J hJ (fun i u hi ⟨t, hu⟩ => ⟨.int i, ⟨t, by rw [hu]; simp⟩, rfl, fun l σ hj => hbody i l σ hi hj⟩) hdone hs

theorem sx_while {test : Expr} {body : List Stmt} {pos : Pos} (J : Nat → Loc → Sto → Prop) (n : Nat) (hJ : J n l σ)
    (turn : ∀ n l σ, J n l σ → ∃ b, Ts C l σ test b ∧ (b = true → Ex C body l σ (Turn (fun l σ => ∃ m, m < n ∧ J m l σ) Φ)) ∧ (b = false → Φ .next l σ)) : Sx C (.While test body [] pos) l σ Φ := .mk fun as s Q E R hQ => by
  refine wpAny_While (codeAny_whileLoop (fun k s' => ∃ l' σ' as', Rel C l' σ' as' s' ∧ J k l' σ' ∧ Mv C as s as' s') ?_ n ⟨l, σ, as, R, hJ, .refl⟩)
  rintro k s' ⟨l', σ', as', R', hJ', M'⟩
  obtain ⟨b, ht, hb, hf⟩ := turn k l' σ' hJ'
  refine ht as' s' _ _ R' fun s₂ K => ?_
  have R₂ := R'.kp K
  have M₂ : Mv C as s as' s₂ := M'.trans R' (.kp K)
  cases b with
  | true =>
    refine (hb rfl).run as' s₂ _ _ R₂ fun f l₃ σ₃ as₃ s₃ fl h₃ R₃ M₃ F₃ => ?_
    have M := M₂.trans R₂ M₃
    cases f with
    | next => cases F₃; obtain ⟨m, hm, hj⟩ := h₃; exact ⟨m, hm, l₃, σ₃, as₃, R₃, hj, M⟩
    | cont => cases F₃; obtain ⟨m, hm, hj⟩ := h₃; exact ⟨m, hm, l₃, σ₃, as₃, R₃, hj, M⟩
    | brk => cases F₃; exact hQ _ _ _ _ _ _ h₃ R₃ M rfl
    | ret v => obtain ⟨u, rfl, hv⟩ := F₃; exact hQ _ _ _ _ _ _ h₃ R₃ M ⟨u, rfl, hv⟩
  | false => exact wpAny_execs_nil (hQ _ _ _ _ _ _ (hf rfl) R₂ M₂ rfl)
end
end Mine
end
noncomputable section
open PySem PySem.Spec PySem.Calls PyProof.Rows PyProof.V PySem.W
set_option Elab.async false
set_option linter.unusedVariables false
set_option maxRecDepth 100000
namespace Mine

theorem All2.as_plain {as bs : List Addr} : ∀ {vs : List PV} {us : List Value}, vs.all PV.plain = true → All2 (VR as) vs us → All2 (VR bs) vs us
  | _, _, _, .nil => .nil
  | _, _, hp, .cons h t => by
    simp only [List.all_cons, Bool.and_eq_true] at hp
    exact .cons (h.as_plain hp.1) (t.as_plain hp.2)

/-- a def's contract: plain values in, one plain value back, nothing that stood is moved -/
noncomputable def FnC (w : World) (lv : Nat) (f : Addr) (args : List PV) (v : PV) : Prop :=
  ∀ (A : Around) (us : List Value) (s : Shared) (Q : Value → Shared → Prop) (E : Value → Shared → Prop), A.handled = none → A.depth + lv < recursionLimit → A.units + 30 * lv + 60 < cLine → TF w s.heap → (∀ x ∈ s.gens, x.bare = true) →
    All2 (VR []) args us → (∀ u s', Kp s s' → VR [] v u → Q u s') → wpAny (model Pg w) A (call (.ref f) us) Q E s

/-- the frame of a plain def that is entered -/
noncomputable def inFrame (w : World) (A : Around) (d : FnRec) (cd : Value) (s : Shared) (lv : Nat) : Cx :=
  ⟨w, A.deeper (envOf d.name d.scope s.heap.objs.size d.addr cd), envOf d.name d.scope s.heap.objs.size d.addr cd, s.heap, s.os, lv, []⟩

theorem fn_enter {w : World} {lv : Nat} (d : FnRec) (hd : d ∈ fnTab) {args : List PV} {v : PV} {l₀ : Loc} (hpl : args.all PV.plain = true) (hv : v.plain = true)
    (hbind : ∀ us pm cd doc, All2 (VR []) args us → ∃ binds, bindArgs (docDef d.name d.params d.body d.scope pm cd doc) ⟨us, []⟩ = pure binds ∧ (∀ x ∈ binds, d.scope.names.lookup x.1 = some .local) ∧
      ∀ x v, l₀.lookup x = some v → ∃ u, binds.reverse.lookup x = some u ∧ VR [] v u)
    (hbody : ∀ (A : Around) (cd : Value) (s : Shared), (inFrame w A d cd s lv).Ok → Ex (inFrame w A d cd s lv) d.body l₀ [] (fun f _ _ => f = .ret v))
    (hco : d.scope.isCoroutine = false := by rfl) (hgen : d.scope.isGenerator = false := by rfl) (hk : d.scope.kind = .function := by rfl) (hcell : ∀ x ∈ d.scope.names, x.2 ≠ .cell := by decide) :
    FnC w (lv + 1) d.addr args v := fun A us s Q E hh hdep hun T hg ha hQ => by
  obtain ⟨o, pm, cd, doc, ho, hdat, hcd⟩ := T.fn d hd
  obtain ⟨binds, hb, hloc, hl₀⟩ := hbind us pm cd doc ha
  refine wpAny_call (call_plain_ret (by omega) ho hdat T.lim hcd hb hloc (fun h₁ F => ?_) hco hgen hk hcell)
  have O : (inFrame w A d cd s lv).Ok := ⟨hh, hk, rfl, rfl, T, by show A.depth + 1 + lv < _; omega, by show A.units + 3 + 30 * lv + 60 < _; omega⟩
  refine (hbody A cd s O).run [] _ _ _ ⟨⟨_, F, fun x v hx => ?_⟩, rfl, (fun j o e => by simp at e), (fun a ha => nomatch ha), .nil, hg, rfl, (fun p hp => nomatch hp)⟩ fun f l' σ' as' s' fl hf R' M' F' => ?_
  · obtain ⟨u, hu, hvr⟩ := hl₀ x v hx
    exact ⟨u, hu, hvr⟩
  · subst hf
    obtain ⟨u, rfl, hu⟩ := F'
    refine hQ u s' ⟨fun b o e => M'.keep b o (Nat.ne_of_lt (Heap.lt_size e)) (by simp) (F.keep b o e), fun _ => R'.gn, R'.os, M'.gp⟩ (hu.as_plain hv)

section
variable {C : Cx} {l : Loc} {σ : Sto}

/-- the arguments, one by one -/
noncomputable def EvAs (C : Cx) (l : Loc) (σ : Sto) (es : List Expr) (vs : List PV) : Prop :=
  ∀ (as : List Addr) (s : Shared) (Q : List Value → Shared → Prop) (E : Value → Shared → Prop), Rel C l σ as s → (∀ us s', Kp s s' → All2 (VR as) vs us → Q us s') →
    wpAny (model Pg C.w) C.A (spliced (es.map fun e => (false, eval e C.env))) Q E s
theorem evas_nil : EvAs C l σ [] [] := fun as s Q E R h => Calls.spliced_nil (h _ _ (.refl _) .nil)
theorem evas_cons {e : Expr} {es : List Expr} {v : PV} {vs : List PV} (h₁ : Ev C l σ e v) (h₂ : EvAs C l σ es vs) : EvAs C l σ (e :: es) (v :: vs) := fun as s Q E R h =>
  Calls.spliced_cons (h₁ as s _ E R fun u s₁ K vu => h₂ as s₁ _ E (R.kp K) fun us s₂ K₂ vus => h _ _ (K.trans K₂) (.cons vu vus))

theorem ev_fn (O : C.Ok) {x : Str} {np pos : Pos} {e : Expr} {es : List Expr} {vs : List PV} {v : PV} {lv : Nat} (d : FnRec) (hd : d ∈ fnTab) (hx : (x, d.addr) ∈ gTab) (hf : FnC C.w lv d.addr vs v) (hlv : lv ≤ C.lv) (ha : EvAs C l σ (e :: es) vs)
    (hk : C.env.kindOf x = some .globalImplicit) (hpl : vs.all PV.plain = true := by rfl) (hv : v.plain = true := by rfl) (hs : backTo pos (starEach (e :: es) C.env) = (e :: es).map (fun e => (false, eval e C.env)) := by rfl) (hdb : (x == ("__debug__" : Str)) = false := by decide) :
    Ev C l σ (.Call (.Name x np) (e :: es) [] pos) v := fun as s Q E R h => by
  refine PyProof.Rows.Call_Name hs (nm_g O R hx hk ?_ hdb)
  obtain ⟨o, pm, cd, doc, ho, hdat, hcd⟩ := (R.tf O).fn d hd
  refine Calls.callWith_function (o := o) (fd := docDef d.name d.params d.body d.scope pm cd doc) (Calls.evalArgs_plain (ha as s _ E R fun us s₁ K vus => ⟨⟨K.k _ _ ho, hdat⟩, ?_⟩))
  have := O.dep
  have := O.un
  exact hf C.A us s₁ Q E O.hh (by omega) (by omega) ((R.kp K).tf O) (R.kp K).gn (vus.as_plain hpl) fun u s₂ K₂ vu => h u s₂ (K.trans K₂) (vu.as_plain hv)

theorem ev_item_list {e₁ e₂ : Expr} {pos : Pos} {j : Nat} {k : Int} {vs : List PV} {v : PV} (h₁ : Ev C l σ e₁ (.obj j)) (hj : σ[j]? = some (.list vs)) (h₂ : Ev C l σ e₂ (.int k)) (h0 : 0 ≤ k) (hfit : k < 2 ^ 63) (hv : vs[k.toNat]? = some v)
    (hs : ∀ a t, subscripted e₂ false (.ref a) (.int k t) = operate [.ref a, .int k t] (getItem (.ref a) (.int k t)) := by intro _ _; with_unfolding_all rfl) : Ev C l σ (.Subscript e₁ e₂ pos) v := fun as s Q E R h =>
  PyProof.Rows.Subscript_ (h₁ as s _ E R fun u s₁ K vu => h₂ as s₁ _ E (R.kp K) fun u₂ s₂ K₂ vu₂ => by
    obtain ⟨a, ha, rfl⟩ := vu
    obtain ⟨t, rfl⟩ := vu₂
    obtain ⟨a', ha', us, n, ho, hus⟩ := (R.kp (K.trans K₂)).st j _ hj
    rw [ha] at ha'; cases ha'
    have hl : s₂.heap.IsList a us.toArray := ⟨_, ho, rfl, n, rfl⟩
    obtain ⟨u, hu, hvu⟩ := hus.get hv
    exact tail_any hl.typeIs slot_list_getitem.lookup (wpAny_getItem_list hl h0 hfit (by simpa using hu) (h u s₂ (K.trans K₂) hvu)) (hs a t))

theorem ev_item_str {e₁ e₂ : Expr} {pos : Pos} {x : Str} {k : Int} {c : Nat} (h₁ : Ev C l σ e₁ (.str x)) (h₂ : Ev C l σ e₂ (.int k)) (h0 : 0 ≤ k) (hfit : k < 2 ^ 63) (hc : x.cps[k.toNat]? = some c)
    (hs : ∀ x t' t, subscripted e₂ false (.str x t') (.int k t) = operate [.str x t', .int k t] (getItem (.str x t') (.int k t)) := by intro _ _ _; with_unfolding_all rfl) : Ev C l σ (.Subscript e₁ e₂ pos) (.str ⟨#[c]⟩) := fun as s Q E R h =>
  PyProof.Rows.Subscript_ (h₁ as s _ E R fun u s₁ K vu => h₂ as s₁ _ E (R.kp K) fun u₂ s₂ K₂ vu₂ => by
    obtain ⟨t', rfl⟩ := vu
    obtain ⟨t, rfl⟩ := vu₂
    refine tail_any (typeIs_str _ _ _) F.slot_str_getitem.lookup (P.getItem_str ?_ ?_ (h _ _ (K.trans K₂).toks' ⟨_, rfl⟩)) (hs x t' t)
    · simp only [Bool.or_eq_false_iff, decide_eq_false_iff_not]; omega
    · have hlt : k.toNat < x.cps.size := (Array.getElem?_eq_some_iff.mp hc).1
      have : seqIndex? k x.length = some k.toNat := by
        have hn : ¬ k < 0 := by omega
        have hl : k < (x.length : Int) := by show k < (x.cps.size : Int); omega
        unfold seqIndex?
        simp [hn, h0, hl]
      rw [this]; exact hc)

theorem evl_list {es : List Expr} {vs : List PV} {pos : Pos} (h₁ : EvAs C l σ es vs) (hsz : vs.length ≤ sizeLine := by exact of_decide_eq_true rfl) (hs : backTo pos (starEach es C.env) = es.map (fun e => (false, eval e C.env)) := by rfl) : EvL C l σ (.List es pos) vs := fun as s Q E R h =>
  PyProof.Rows.List_ (by
    rw [hs]
    refine h₁ as s _ E R fun us s₁ K vus => ?_
    refine wpAny_newObj_type (h _ _ (K.heap' (tk := s₁.toks) fun b o e => Heap.get?_push_of_some _ e) (fresh_size K) ⟨us, 0, Heap.get?_push_size _ rfl, vus⟩) ?_
    show us.toArray.size ≤ sizeLine
    rw [List.size_toArray, ← vus.length]; exact hsz)

/-- list slices of an own list -/
theorem evl_slice_ss {e a b : Expr} {sp pos : Pos} {j : Nat} {vs : List PV} {x y : Nat} (h₁ : Ev C l σ e (.obj j)) (hj : σ[j]? = some (.list vs)) (ha : Ev C l σ a (.int x)) (hb : Ev C l σ b (.int y)) (hy : y ≤ vs.length) (hxy : x ≤ y) (hsz : vs.length ≤ sizeLine)
    (ht : ∀ o r, letTemporaryGo e o r = pure () := by intro _ _; rfl) : EvL C l σ (.Subscript e (.Slice (some a) (some b) none sp) pos) ((vs.drop x).take (y - x)) := fun as s Q E R h =>
  PySem.wpAny_Subscript_Slice (T := "list") slot_list_getitem.lookup (h₁ as s _ E R fun u s₁ K vu => wpAny_Slice (ha as s₁ _ E (R.kp K) fun ux s₂ K₂ vx => hb as s₂ _ E (R.kp (K.trans K₂)) fun uy s₃ K₃ vy => wpAny_pure (by
    obtain ⟨l', hl', rfl⟩ := vu
    obtain ⟨tx, rfl⟩ := vx
    obtain ⟨ty, rfl⟩ := vy
    have K₁₃ := (K.trans K₂).trans K₃
    obtain ⟨a', ha', us, n, ho, hus⟩ := (R.kp K₁₃).st j _ hj
    rw [hl'] at ha'; cases ha'
    have ho' := Heap.get?_push_of_some { cls := .type "slice", data := .fields #[.int x tx, .int y ty, .none] } ho
    have hl : (s₃.heap.push { cls := .type "slice", data := .fields #[.int x tx, .int y ty, .none] }).IsList l' us.toArray := ⟨_, ho', rfl, n, rfl⟩
    refine ⟨hl.typeIs, wpAny_getItem_list_slice hl (Heap.IsSliceOf.new ..) (.int x tx) (.int y ty) .none (by simp) ?_ (by rw [List.size_toArray, ← hus.length]; exact hsz)⟩
    rw [slicePick_run us.toArray x y (by rw [List.size_toArray, ← hus.length]; exact hy) hxy]
    have K₄ := K₁₃.heap' (h' := s₃.heap.push { cls := .type "slice", data := .fields #[.int x tx, .int y ty, .none] }) (tk := s₃.toks) fun b o e => Heap.get?_push_of_some _ e
    refine h _ _ (K₄.heap' (tk := s₃.toks) fun b o e => Heap.get?_push_of_some _ e) (fresh_size K₄) ⟨_, 0, Heap.get?_push_size _ rfl, ?_⟩
    simpa using (hus.drop x).take (y - x)))) ht
theorem evl_slice_ns {e b : Expr} {sp pos : Pos} {j : Nat} {vs : List PV} {y : Nat} (h₁ : Ev C l σ e (.obj j)) (hj : σ[j]? = some (.list vs)) (hb : Ev C l σ b (.int y)) (hsz : vs.length ≤ sizeLine)
    (ht : ∀ o r, letTemporaryGo e o r = pure () := by intro _ _; rfl) : EvL C l σ (.Subscript e (.Slice none (some b) none sp) pos) (vs.take y) := fun as s Q E R h =>
  PySem.wpAny_Subscript_Slice (T := "list") slot_list_getitem.lookup (h₁ as s _ E R fun u s₁ K vu => wpAny_Slice (wpAny_pure (hb as s₁ _ E (R.kp K) fun uy s₃ K₃ vy => wpAny_pure (by
    obtain ⟨l', hl', rfl⟩ := vu
    obtain ⟨ty, rfl⟩ := vy
    have K₁₃ := K.trans K₃
    obtain ⟨a', ha', us, n, ho, hus⟩ := (R.kp K₁₃).st j _ hj
    rw [hl'] at ha'; cases ha'
    have ho' := Heap.get?_push_of_some { cls := .type "slice", data := .fields #[.none, .int y ty, .none] } ho
    have hl : (s₃.heap.push { cls := .type "slice", data := .fields #[.none, .int y ty, .none] }).IsList l' us.toArray := ⟨_, ho', rfl, n, rfl⟩
    refine ⟨hl.typeIs, wpAny_getItem_list_slice hl (Heap.IsSliceOf.new ..) .none (.int y ty) .none (by simp) ?_ (by rw [List.size_toArray, ← hus.length]; exact hsz)⟩
    rw [slicePick_upto' us.toArray y]
    have K₄ := K₁₃.heap' (h' := s₃.heap.push { cls := .type "slice", data := .fields #[.none, .int y ty, .none] }) (tk := s₃.toks) fun b o e => Heap.get?_push_of_some _ e
    refine h _ _ (K₄.heap' (tk := s₃.toks) fun b o e => Heap.get?_push_of_some _ e) (fresh_size K₄) ⟨_, 0, Heap.get?_push_size _ rfl, ?_⟩
    simpa using hus.take y)))) ht

/-- str slices -/
theorem ev_slice_str_ss {e a b : Expr} {sp pos : Pos} {x : Str} {i j : Int} (h₁ : Ev C l σ e (.str x)) (ha : Ev C l σ a (.int i)) (hb : Ev C l σ b (.int j)) (hsz : x.length ≤ sizeLine)
    (ht : ∀ o r, letTemporaryGo e o r = pure () := by intro _ _; rfl) : Ev C l σ (.Subscript e (.Slice (some a) (some b) none sp) pos) (.str (Txt.slice x (some i) (some j))) := fun as s Q E R h =>
  PySem.wpAny_Subscript_Slice (T := "str") F.slot_str_getitem.lookup (h₁ as s _ E R fun u s₁ K vu => wpAny_Slice (ha as s₁ _ E (R.kp K) fun ux s₂ K₂ vx => hb as s₂ _ E (R.kp (K.trans K₂)) fun uy s₃ K₃ vy => wpAny_pure (by
    obtain ⟨t, rfl⟩ := vu
    obtain ⟨tx, rfl⟩ := vx
    obtain ⟨ty, rfl⟩ := vy
    have K₁₃ := (K.trans K₂).trans K₃
    exact ⟨typeIs_str _ _ _, wpAny_getItem_str_slice (l := some (i, tx)) (u := some (j, ty)) (st := none) ⟨_, Heap.get?_push_size _ rfl, rfl, rfl⟩ rfl
      (post_val_or_str ⟨Nat.le_trans (Txt.slice_le x _ _) hsz, fun t' k => h _ _ (K₁₃.heap' fun b o e => Heap.get?_push_of_some _ e) ⟨_, rfl⟩⟩)⟩))) ht
theorem ev_slice_str_sn {e a : Expr} {sp pos : Pos} {x : Str} {i : Int} (h₁ : Ev C l σ e (.str x)) (ha : Ev C l σ a (.int i)) (hsz : x.length ≤ sizeLine)
    (ht : ∀ o r, letTemporaryGo e o r = pure () := by intro _ _; rfl) : Ev C l σ (.Subscript e (.Slice (some a) none none sp) pos) (.str (Txt.slice x (some i) none)) := fun as s Q E R h =>
  PySem.wpAny_Subscript_Slice (T := "str") F.slot_str_getitem.lookup (h₁ as s _ E R fun u s₁ K vu => wpAny_Slice (ha as s₁ _ E (R.kp K) fun ux s₂ K₂ vx => wpAny_pure (wpAny_pure (by
    obtain ⟨t, rfl⟩ := vu
    obtain ⟨tx, rfl⟩ := vx
    have K₁₃ := K.trans K₂
    exact ⟨typeIs_str _ _ _, wpAny_getItem_str_slice (l := some (i, tx)) (u := none) (st := none) ⟨_, Heap.get?_push_size _ rfl, rfl, rfl⟩ rfl
      (post_val_or_str ⟨Nat.le_trans (Txt.slice_le x _ _) hsz, fun t' k => h _ _ (K₁₃.heap' fun b o e => Heap.get?_push_of_some _ e) ⟨_, rfl⟩⟩)⟩)))) ht

theorem strs_of {as : List Addr} {ws : List Str} {us : List Value} (h : All2 (VR as) (ws.map PV.str) us) : ∃ q : List (Str × Tok), us = strValues q ∧ q.map (·.1) = ws := by
  induction ws generalizing us with
  | nil => cases h; exact ⟨[], rfl, rfl⟩
  | cons w ws ih =>
    obtain _ | ⟨⟨t, rfl⟩, h'⟩ := h
    obtain ⟨q, rfl, hq⟩ := ih h'
    exact ⟨(w, t) :: q, rfl, by simp [hq]⟩

/-- sep.join of a fresh list of texts -/
theorem ev_join {o e : Expr} {apos pos : Pos} {sep : Str} {ws : List Str} (ho : Ev C l σ o (.str sep)) (he : EvL C l σ e (ws.map .str)) (hok : JoinOk sep ws = true)
    (hbase : attributeBase o "join" C.env (eval o C.env) = eval o C.env := by rfl) (hs : starEach [e] C.env = [(false, eval e C.env)] := by rfl) (hline : (apos.endLine == pos.line) = true := by rfl) :
    Ev C l σ (.Call (.Attribute o "join" apos) [e] [] pos) (.str (Txt.join sep ws)) := fun as s Q E R h =>
  Call_method1 hbase hs hline (ho as s _ E R fun u s₁ K vu => by
    obtain ⟨t, rfl⟩ := vu
    refine SB.join (he as s₁ _ E (R.kp K) fun a s₂ K₂ hn ho => ?_)
    obtain ⟨us, n, hg, hus⟩ := ho
    obtain ⟨q, rfl, hq⟩ := strs_of hus
    exact ⟨a, q, rfl, ⟨_, hg, rfl, n, rfl⟩, ws, hq, hok, fun t' k => h _ _ (K.trans K₂).toks' ⟨_, rfl⟩⟩)

/-- sep.join of an own list of texts -/
theorem ev_join_obj {o e : Expr} {apos pos : Pos} {sep : Str} {ws : List Str} {j : Nat} (ho : Ev C l σ o (.str sep)) (he : Ev C l σ e (.obj j)) (hj : σ[j]? = some (.list (ws.map .str))) (hok : JoinOk sep ws = true)
    (hbase : attributeBase o "join" C.env (eval o C.env) = eval o C.env := by rfl) (hs : starEach [e] C.env = [(false, eval e C.env)] := by rfl) (hline : (apos.endLine == pos.line) = true := by rfl) :
    Ev C l σ (.Call (.Attribute o "join" apos) [e] [] pos) (.str (Txt.join sep ws)) := fun as s Q E R h =>
  Call_method1 hbase hs hline (ho as s _ E R fun u s₁ K vu => by
    obtain ⟨t, rfl⟩ := vu
    refine SB.join (he as s₁ _ E (R.kp K) fun u s₂ K₂ vu => ?_)
    obtain ⟨a, ha, rfl⟩ := vu
    obtain ⟨a', ha', us, n, hg, hus⟩ := (R.kp (K.trans K₂)).st j _ hj
    rw [ha] at ha'; cases ha'
    obtain ⟨q, rfl, hq⟩ := strs_of hus
    exact ⟨a, q, rfl, ⟨_, hg, rfl, n, rfl⟩, ws, hq, hok, fun t' k => h _ _ (K.trans K₂).toks' ⟨_, rfl⟩⟩)

theorem joinOk_of {sep : Str} {ws : List Str} (h : (ws.map (·.length)).sum + ws.length * sep.length ≤ sizeLine) : JoinOk sep ws = true := by
  unfold JoinOk
  rw [StrLaws.joinTotal]
  simp [Builtin.Str.tooLong]
  exact h

/-- text.count(text) -/
theorem ev_count {o e : Expr} {apos pos : Pos} {x y : Str} (ho : Ev C l σ o (.str x)) (he : Ev C l σ e (.str y))
    (hbase : attributeBase o "count" C.env (eval o C.env) = eval o C.env := by rfl) (hs : starEach [e] C.env = [(false, eval e C.env)] := by rfl) (hline : (apos.endLine == pos.line) = true := by rfl) :
    Ev C l σ (.Call (.Attribute o "count" apos) [e] [] pos) (.int (Txt.count x y)) := fun as s Q E R h =>
  Call_method1 hbase hs hline (ho as s _ E R fun u s₁ K vu => by
    obtain ⟨t, rfl⟩ := vu
    refine SB.count (he as s₁ _ E (R.kp K) fun u s₂ K₂ vu => ?_)
    obtain ⟨t', rfl⟩ := vu
    exact ⟨y, t', rfl, h _ _ (K.trans K₂).toks' ⟨_, rfl⟩⟩)
theorem ev_upper {o : Expr} {apos pos : Pos} {x : Str} (ho : Ev C l σ o (.str x)) (hfit : Builtin.Str.tooLong (Txt.upper x).length = false)
    (hbase : attributeBase o "upper" C.env (eval o C.env) = eval o C.env := by rfl) (hline : (apos.endLine == pos.line) = true := by rfl) :
    Ev C l σ (.Call (.Attribute o "upper" apos) [] [] pos) (.str (Txt.upper x)) := fun as s Q E R h =>
  Call_method0 hbase hline (ho as s _ E R fun u s₁ K vu => by
    obtain ⟨t, rfl⟩ := vu
    exact SB.upper hfit (h _ _ K.toks' ⟨_, rfl⟩))
theorem ev_lower {o : Expr} {apos pos : Pos} {x : Str} (ho : Ev C l σ o (.str x)) (hfit : Builtin.Str.tooLong (Txt.lower x).length = false)
    (hbase : attributeBase o "lower" C.env (eval o C.env) = eval o C.env := by rfl) (hline : (apos.endLine == pos.line) = true := by rfl) :
    Ev C l σ (.Call (.Attribute o "lower" apos) [] [] pos) (.str (Txt.lower x)) := fun as s Q E R h =>
  Call_method0 hbase hline (ho as s _ E R fun u s₁ K vu => by
    obtain ⟨t, rfl⟩ := vu
    exact SB.lower hfit (h _ _ K.toks' ⟨_, rfl⟩))
end

section
variable {C : Cx} {l : Loc} {σ : Sto} {Φ : Fl → Loc → Sto → Prop} {as : List Addr} {s : Shared}

/-- xs[k] = v, xs an own list -/
theorem sx_set_list (O : C.Ok) {e i v : Expr} {ip pos : Pos} {j : Nat} {k : Int} {vs : List PV} {x : PV} (hv : Ev C l σ v x) (he : Ev C l σ e (.obj j)) (hi : Ev C l σ i (.int k)) (hj : σ[j]? = some (.list vs)) (h0 : 0 ≤ k) (hfit : k < 2 ^ 63) (hk : k < vs.length)
    (hΦ : Φ .next l (σ.set j (.list (vs.set k.toNat x)))) (hsw : swapsWith v (some (.Subscript e i ip)) pos.line C.env = pure false := by rfl) : Sx C (.Assign [.Subscript e i ip] v pos) l σ Φ := .mk fun as s Q E R hQ =>
  wpAny_Assign_Subscript (hv as s _ E R fun ux s₁ K vx => he as s₁ _ E (R.kp K) fun ue s₂ K₂ ve => hi as s₂ _ E (R.kp (K.trans K₂)) fun ui s₃ K₃ vi => by
    obtain ⟨a, ha, rfl⟩ := ve
    obtain ⟨t, rfl⟩ := vi
    have K₁₃ := (K.trans K₂).trans K₃
    have R₃ := R.kp K₁₃
    obtain ⟨a', ha', us, n, ho, hus⟩ := R₃.st j _ hj
    rw [ha] at ha'; cases ha'
    refine ki_setAt (n := n) ho h0 hfit (by rw [List.size_toArray, ← hus.length]; exact hk) ?_
    have e1 : Obj.mapSeq (·.setIfInBounds k.toNat ux) { cls := .type "list", data := .seq us.toArray n } = { cls := .type "list", data := .seq (us.set k.toNat ux).toArray n } := by
      simp [Obj.mapSeq]
    have hg : (s₃.heap.update a (Obj.mapSeq (·.setIfInBounds k.toNat ux))).get? a = some { cls := .type "list", data := .seq (us.set k.toNat ux).toArray n } := by
      rw [Heap.get?_update_self _ ho (by rw [e1]; rfl), e1]
    exact hQ _ _ _ as _ _ hΦ (R₃.setObj (tk := s₃.toks) ha (Heap.SameBut.update ..) ⟨_, n, hg, hus.set vx _⟩)
      ⟨⟨[], by simp, by simp⟩, fun b o hb hm e => ((Heap.SameBut.update ..).2 b (fun h => hm (h ▸ List.mem_of_getElem? ha))).trans (K₁₃.k b o e), K₁₃.p⟩ rfl) hsw

/-- xs.append(v), xs an own list -/
theorem sx_append (O : C.Ok) {o e : Expr} {apos cpos pos : Pos} {j : Nat} {vs : List PV} {x : PV} (he : Ev C l σ o (.obj j)) (hv : Ev C l σ e x) (hj : σ[j]? = some (.list vs)) (hsz : vs.length ≤ sizeLine)
    (hΦ : Φ .next l (σ.set j (.list (vs ++ [x])))) (hint : interactive C.env = false := by rfl) (hsw : swapsWith (.Call (.Attribute o "append" apos) [e] [] cpos) none pos.line C.env = pure false := by rfl)
    (hbase : attributeBase o "append" C.env (eval o C.env) = eval o C.env := by rfl)
    (hfew : ((backTo cpos (starEach [e] C.env)).all (fun x => !x.1) && (backToKw cpos (keywordEach [] C.env)).all (fun x => x.1.isSome)
      && decide (([e] : List Expr).length + ([] : List Keyword).length + (if ([] : List Keyword).isEmpty then 0 else 1) < 30)) = true := by rfl)
    (hline : (apos.endLine == cpos.line) = true := by rfl) (htrees : backTo cpos (starEach [e] C.env) = [(false, eval e C.env)] := by rfl) :
    Sx C (.Expr (.Call (.Attribute o "append" apos) [e] [] cpos) pos) l σ Φ := .mk fun as s Q E R hQ =>
  wpAny_Expr (wpAny_Call_append hbase hfew hline htrees (he as s _ E R fun u s₁ K vu => by
    obtain ⟨a, ha, rfl⟩ := vu
    obtain ⟨a', ha', us, n, ho, hus⟩ := (R.kp K).st j _ hj
    rw [ha] at ha'; cases ha'
    refine ⟨a, us.toArray, rfl, ⟨_, n, ho, rfl, rfl, rfl⟩, hv as s₁ _ E (R.kp K) fun ux s₂ K₂ vx => ?_⟩
    have R₂ := R.kp (K.trans K₂)
    obtain ⟨a', ha', us', n', ho', hus'⟩ := R₂.st j _ hj
    rw [ha] at ha'; cases ha'
    refine wpAny_list_append_plain (hsz := by rw [List.size_toArray, ← hus'.length]; exact hsz) ⟨n', ho'⟩ fun h' hpl hs => ?_
    obtain ⟨n₂, hg⟩ := hpl
    have e1 : us'.toArray.push ux = (us' ++ [ux]).toArray := by simp
    rw [e1] at hg
    exact hQ _ _ _ as _ _ hΦ (R₂.setObj (tk := s₂.toks) ha hs ⟨_, n₂, hg, hus'.snoc vx⟩)
      ⟨⟨[], by simp, by simp⟩, fun b o hb hm e => (hs.2 b (fun h => hm (h ▸ List.mem_of_getElem? ha))).trans ((K.trans K₂).k b o e), (K.trans K₂).p⟩ rfl)) hint hsw
end
end Mine
end
noncomputable section
open PySem PySem.Spec PySem.Calls PyProof.Rows PyProof.V PySem.W
set_option Elab.async false
set_option linter.unusedVariables false
set_option maxRecDepth 100000
namespace Mine

/-- a def's contract: a fresh tuple of plain values -/
noncomputable def FnT (w : World) (lv : Nat) (f : Addr) (args : List PV) (vs : List PV) : Prop :=
  ∀ (A : Around) (us : List Value) (s : Shared) (Q : Value → Shared → Prop) (E : Value → Shared → Prop), A.handled = none → A.depth + lv < recursionLimit → A.units + 30 * lv + 60 < cLine → TF w s.heap → (∀ x ∈ s.gens, x.bare = true) →
    All2 (VR []) args us → (∀ a s', Kp s s' → s.heap.get? a = none → OH w [] s'.heap a (.tup vs) → Q (.ref a) s') → wpAny (model Pg w) A (call (.ref f) us) Q E s

theorem fn_enterT {w : World} {lv : Nat} (d : FnRec) (hd : d ∈ fnTab) {args vs : List PV} {l₀ : Loc} (hpl : args.all PV.plain = true) (hv : vs.all PV.plain = true)
    (hbind : ∀ us pm cd doc, All2 (VR []) args us → ∃ binds, bindArgs (docDef d.name d.params d.body d.scope pm cd doc) ⟨us, []⟩ = pure binds ∧ (∀ x ∈ binds, d.scope.names.lookup x.1 = some .local) ∧
      ∀ x v, l₀.lookup x = some v → ∃ u, binds.reverse.lookup x = some u ∧ VR [] v u)
    (hbody : ∀ (A : Around) (cd : Value) (s : Shared), (inFrame w A d cd s lv).Ok → Ex (inFrame w A d cd s lv) d.body l₀ [] (fun f _ σ' => ∃ j, f = .ret (.obj j) ∧ σ'[j]? = some (.tup vs)))
    (hco : d.scope.isCoroutine = false := by rfl) (hgen : d.scope.isGenerator = false := by rfl) (hk : d.scope.kind = .function := by rfl) (hcell : ∀ x ∈ d.scope.names, x.2 ≠ .cell := by decide) :
    FnT w (lv + 1) d.addr args vs := fun A us s Q E hh hdep hun T hg ha hQ => by
  obtain ⟨o, pm, cd, doc, ho, hdat, hcd⟩ := T.fn d hd
  obtain ⟨binds, hb, hloc, hl₀⟩ := hbind us pm cd doc ha
  refine wpAny_call (call_plain_ret (by omega) ho hdat T.lim hcd hb hloc (fun h₁ F => ?_) hco hgen hk hcell)
  have O : (inFrame w A d cd s lv).Ok := ⟨hh, hk, rfl, rfl, T, by show A.depth + 1 + lv < _; omega, by show A.units + 3 + 30 * lv + 60 < _; omega⟩
  refine (hbody A cd s O).run [] _ _ _ ⟨⟨_, F, fun x v hx => ?_⟩, rfl, (fun j o e => by simp at e), (fun a ha => nomatch ha), .nil, hg, rfl, (fun p hp => nomatch hp)⟩ fun f l' σ' as' s' fl hf R' M' F' => ?_
  · obtain ⟨u, hu, hvr⟩ := hl₀ x v hx
    exact ⟨u, hu, hvr⟩
  · obtain ⟨j, rfl, hj⟩ := hf
    obtain ⟨u, rfl, a, ha, rfl⟩ := F'
    obtain ⟨a', ha', us', n, ho', hus'⟩ := R'.st j _ hj
    rw [ha] at ha'; cases ha'
    have hfr := (R'.fs a (List.mem_of_getElem? ha)).1
    exact hQ a s' ⟨fun b o e => M'.keep b o (Nat.ne_of_lt (Heap.lt_size e)) (by simp) (F.keep b o e), fun _ => R'.gn, R'.os, M'.gp⟩ hfr ⟨us', n, ho', hus'.as_plain hv⟩

/-- the names of l are bound so in l' -/
noncomputable def Subs : Loc → Loc → Prop
  | [], _ => True
  | (x, v) :: r, l' => l'.lookup x = some v ∧ Subs r l'
theorem Subs.get : ∀ {l l' : Loc}, Subs l l' → ∀ {x v}, l.lookup x = some v → l'.lookup x = some v
  | (y, u) :: r, l', ⟨h, hr⟩, x, v, e => by
    rw [List.lookup_cons] at e
    cases hb : x == y with
    | true => rw [hb] at e; cases e; rw [beq_iff_eq.mp hb]; exact h
    | false => rw [hb] at e; exact Subs.get hr e
theorem Rel.weak {C : Cx} {l l' : Loc} {σ : Sto} {as : List Addr} {s : Shared} (R : Rel C l' σ as s) (h : Subs l l') : Rel C l σ as s := by
  obtain ⟨⟨m, F, hm⟩, r1, r2, r3, r4, r5, r6, r7⟩ := R
  exact ⟨⟨m, F, fun x v e => hm x v (h.get e)⟩, r1, r2, r3, r4, r5, r6, r7⟩

section
variable {C : Cx} {l : Loc} {σ : Sto} {Φ : Fl → Loc → Sto → Prop}
theorem ex_weak {sts : List Stmt} {l' : Loc} (hs : Subs l' l) (h : Ex C sts l' σ Φ) : Ex C sts l σ Φ := .mk fun as s Q E R hQ => h.run as s Q E (R.weak hs) hQ
theorem sx_weak {st : Stmt} {l' : Loc} (hs : Subs l' l) (h : Sx C st l' σ Φ) : Sx C st l σ Φ := .mk fun as s Q E R hQ => h.run as s Q E (R.weak hs) hQ
theorem ev_if_int {t e₁ e₂ : Expr} {pos : Pos} {b : Bool} {i j : Int} (ht : Ts C l σ t b) (h₁ : Ev C l σ e₁ (.int i)) (h₂ : Ev C l σ e₂ (.int j)) : Ev C l σ (.IfExp t e₁ e₂ pos) (.int (if b then i else j)) :=
  ev_if ht (fun h => by rw [h, if_pos rfl]; exact h₁) (fun h => by rw [h, if_neg (by simp)]; exact h₂)
theorem ev_if_str {t e₁ e₂ : Expr} {pos : Pos} {b : Bool} {i j : Str} (ht : Ts C l σ t b) (h₁ : Ev C l σ e₁ (.str i)) (h₂ : Ev C l σ e₂ (.str j)) : Ev C l σ (.IfExp t e₁ e₂ pos) (.str (if b then i else j)) :=
  ev_if ht (fun h => by rw [h, if_pos rfl]; exact h₁) (fun h => by rw [h, if_neg (by simp)]; exact h₂)
theorem sx_retM {e : Expr} {pos : Pos} {σ' : Sto} {v : PV} (h : EvM C l σ e σ' v) (hΦ : Φ (.ret v) l σ') : Sx C (.Return (some e) pos) l σ Φ := .mk fun as s Q E R hQ =>
  wpAny_Return_some (h.run as s _ E R fun u as₁ s₁ R₁ M₁ vu => hQ _ _ _ _ s₁ _ hΦ R₁ M₁ ⟨u, rfl, vu⟩)
theorem evx_tup {es : List Expr} {k : Nat} {pos : Pos} {vs : List PV} (h : EvAs C l σ es vs) (hs : backTo pos (starEach es C.env) = es.map (fun e => (false, eval e C.env)) := by rfl) (hsz : vs.length ≤ sizeLine := by exact of_decide_eq_true rfl) :
    EvX C l σ (.Tuple es k pos) [.tup vs] (.obj σ.length) := .mk fun as s Q E R hQ => by
  refine PySem.wpAny_Tuple_spliced ?_
  rw [hs]
  refine h as s _ E R fun us s₁ K vus => ⟨by rw [← vus.length]; exact hsz, ?_⟩
  have K' : Kp s { s₁ with heap := s₁.heap.push { cls := .type "tuple", data := .seq us.toArray } } := K.heap' (tk := s₁.toks) fun b o e => Heap.get?_push_of_some _ e
  exact hQ _ [s₁.heap.objs.size] _ K' (R.push K' (fresh_size K) ⟨us, 0, Heap.get?_push_size _ rfl, vus⟩) (by simpa using fresh_size K) ⟨_, by rw [← R.ln]; simp, rfl⟩
theorem evx_fnT (O : C.Ok) {x : Str} {np pos : Pos} {e : Expr} {es : List Expr} {vs ts : List PV} {lv : Nat} (d : FnRec) (hd : d ∈ fnTab) (hx : (x, d.addr) ∈ gTab) (hf : FnT C.w lv d.addr vs ts) (hlv : lv ≤ C.lv) (ha : EvAs C l σ (e :: es) vs)
    (hk : C.env.kindOf x = some .globalImplicit) (hpl : vs.all PV.plain = true := by rfl) (htl : ts.all PV.plain = true := by rfl) (hs : backTo pos (starEach (e :: es) C.env) = (e :: es).map (fun e => (false, eval e C.env)) := by rfl) (hdb : (x == ("__debug__" : Str)) = false := by decide) :
    EvX C l σ (.Call (.Name x np) (e :: es) [] pos) [.tup ts] (.obj σ.length) := .mk fun as s Q E R h => by
  refine PyProof.Rows.Call_Name hs (nm_g O R hx hk ?_ hdb)
  obtain ⟨o, pm, cd, doc, ho, hdat, hcd⟩ := (R.tf O).fn d hd
  refine Calls.callWith_function (o := o) (fd := docDef d.name d.params d.body d.scope pm cd doc) (Calls.evalArgs_plain (ha as s _ E R fun us s₁ K vus => ⟨⟨K.k _ _ ho, hdat⟩, ?_⟩))
  have := O.dep
  have := O.un
  refine hf C.A us s₁ Q E O.hh (by omega) (by omega) ((R.kp K).tf O) (R.kp K).gn (vus.as_plain hpl) fun a s₂ K₂ hn ho₂ => ?_
  obtain ⟨us', n, hg, hus'⟩ := ho₂
  have hn' : s.heap.get? a = none := by
    cases q : s.heap.get? a with
    | none => rfl
    | some o => rw [K.k a o q] at hn; cases hn
  exact h _ [a] s₂ (K.trans K₂) (R.push (K.trans K₂) hn' ⟨us', n, hg, hus'.as_plain htl⟩) (by simpa using hn') ⟨a, by rw [← R.ln]; simp, rfl⟩
end
end Mine
end
noncomputable section
open PySem PySem.Spec PySem.Calls PyProof.Rows PyProof.V PySem.W
set_option Elab.async false
set_option linter.unusedVariables false
set_option maxRecDepth 100000
namespace Mine

noncomputable def fracI (a b : Int) : UInt64 := Float64.ofFrac (decide (a < 0) != decide (b < 0)) a.natAbs b.natAbs
theorem bin_div_int {w : World} {a b : Int} (hb : ¬(b == 0) = true) (hf : ¬Float64.isInf (fracI a b) = true) : Bin w .Div (.int a) (.int b) (.flt (fracI a b)) := by
  rintro A _ _ s Q E ⟨t, rfl⟩ ⟨u, rfl⟩ h
  exact AutoIntOps.truediv_2 hb hf (h _ _ ⟨_, rfl⟩)
theorem bin_sub_flt {w : World} {a b : UInt64} : Bin w .Sub (.flt a) (.flt b) (.flt (Float64.sub a b)) := by
  rintro A _ _ s Q E ⟨t, rfl⟩ ⟨u, rfl⟩ h
  exact AutoFloatOps.sub_0 (h _ _ ⟨_, rfl⟩)
theorem bin_add_flt {w : World} {a b : UInt64} : Bin w .Add (.flt a) (.flt b) (.flt (Float64.add a b)) := by
  rintro A _ _ s Q E ⟨t, rfl⟩ ⟨u, rfl⟩ h
  exact AutoFloatOps.add_0 (h _ _ ⟨_, rfl⟩)
theorem bin_mul_flt {w : World} {a b : UInt64} : Bin w .Mult (.flt a) (.flt b) (.flt (Float64.mul a b)) := by
  rintro A _ _ s Q E ⟨t, rfl⟩ ⟨u, rfl⟩ h
  exact AutoFloatOps.mul_0 (h _ _ ⟨_, rfl⟩)
theorem bin_div_flt {w : World} {a b : UInt64} (hb : ¬Float64.isZero b = true) : Bin w .Div (.flt a) (.flt b) (.flt (Float64.div a b)) := by
  rintro A _ _ s Q E ⟨t, rfl⟩ ⟨u, rfl⟩ h
  exact AutoFloatOps.truediv_1 hb (h _ _ ⟨_, rfl⟩)
theorem bin_mod_flt {w : World} {a b : UInt64} (hb : ¬Float64.isZero b = true) : Bin w .Mod (.flt a) (.flt b) (.flt (Float64.divmod a b).snd) := by
  rintro A _ _ s Q E ⟨t, rfl⟩ ⟨u, rfl⟩ h
  exact AutoFloatOps.mod_1 hb (h _ _ ⟨_, rfl⟩)
theorem bin_mul_fi {w : World} {a : UInt64} {b : Int} (hb : ¬Float64.isInf (Float64.ofInt b) = true) : Bin w .Mult (.flt a) (.int b) (.flt (Float64.mul a (Float64.ofInt b))) := by
  rintro A _ _ s Q E ⟨t, rfl⟩ ⟨u, rfl⟩ h
  exact AutoFloatOps.mul_fi_1 hb (h _ _ ⟨_, rfl⟩)
theorem cmp_gt_fi {w : World} {a : UInt64} {b : Int} : Cmp w .Gt (.flt a) (.int b) (Float64.cmpInt a b == some Ordering.gt) := by
  rintro A _ _ s Q E ⟨t, rfl⟩ ⟨u, rfl⟩ h
  exact gt_fi h
theorem bin_mul_int {w : World} {a b : Int} (hm : IntMulOk a b) : Bin w .Mult (.int a) (.int b) (.int (a * b)) := by
  rintro A _ _ s Q E ⟨t, rfl⟩ ⟨u, rfl⟩ h
  exact PyProof.Rows.mul_int (h _ _ ⟨_, rfl⟩) hm
theorem mulOk_of {x : Str} {n : Int} (hx : x.length ≤ 1) (hn : n.natAbs ≤ 1000) : MulOk x n := by
  refine ⟨?_, fun h1 _ h => ?_, fun h1 _ => ?_⟩
  · simp only [Bool.or_eq_false_iff, decide_eq_false_iff_not]; omega
  · have hle : (1 : Int) ≤ (2 ^ 63 - 1) / n := by
      refine Int.le_ediv_of_mul_le (by omega) ?_
      omega
    have : (x.length : Int) ≤ 1 := by exact_mod_cast hx
    omega
  · unfold Builtin.Str.tooLong
    have h2 : x.length * n.toNat ≤ 1 * 1000 := Nat.mul_le_mul hx (by omega)
    simp only [decide_eq_false_iff_not, sizeLine_eq]
    omega
theorem bin_mul_str {w : World} {x : Str} {n : Int} (hok : MulOk x n) : Bin w .Mult (.str x) (.int n) (.str (Txt.mul x n)) := by
  rintro A _ _ s Q E ⟨t, rfl⟩ ⟨u, rfl⟩ h
  exact SB.mul hok fun t' k => h _ _ ⟨_, rfl⟩

theorem prim_round {w : World} {x : UInt64} (hx : Float64.isFinite x = true) (hn : Float64.isNaN x = false) (hi : Float64.isInf x = false) : Prim w (.builtin "round") [.flt x] (.int (Flt.toInt Float64.nearestOf x)) := by
  rintro A us s Q E hh (_ | ⟨⟨t, rfl⟩, _ | _⟩) h
  exact Flt.call_round_float hh (fun c => by rw [hn] at c; cases c) (fun c => by rw [hi] at c; cases c) fun _ => h _ s.heap _ (fun _ _ e => e) ⟨_, rfl⟩
theorem prim_str_int {w : World} {i : Int} (hi : i.natAbs.log2 < 1920) : Prim w (.type "str") [.int i] (.str (toString i)) := by
  rintro A us s Q E hh (_ | ⟨⟨t, rfl⟩, _ | _⟩) h
  exact P.str_of_int hi (h _ s.heap _ (fun _ _ e => e) ⟨_, rfl⟩)
theorem prim_max3 {w : World} {a b c : Int} : Prim w (.builtin "max") [.int a, .int b, .int c] (.int (if b > a then (if c > b then c else b) else (if c > a then c else a))) := by
  rintro A us s Q E hh (_ | ⟨⟨t, rfl⟩, _ | ⟨⟨u, rfl⟩, _ | ⟨⟨x, rfl⟩, _ | _⟩⟩⟩) h
  refine max_three_ints hh fun h' tk k => h _ h' tk k ?_
  split <;> split <;> exact ⟨_, rfl⟩
theorem prim_min3 {w : World} {a b c : Int} : Prim w (.builtin "min") [.int a, .int b, .int c] (.int (if b < a then (if c < b then c else b) else (if c < a then c else a))) := by
  rintro A us s Q E hh (_ | ⟨⟨t, rfl⟩, _ | ⟨⟨u, rfl⟩, _ | ⟨⟨x, rfl⟩, _ | _⟩⟩⟩) h
  refine min_three_ints hh fun h' tk k => h _ h' tk k ?_
  split <;> split <;> exact ⟨_, rfl⟩

section
variable {C : Cx} {l : Loc} {σ : Sto} {Φ : Fl → Loc → Sto → Prop}
theorem ev_flt {x : UInt64} {k pos} : Ev C l σ (.Constant (.float x) k pos) (.flt x) := fun _ _ _ _ R h => AutoFloatOps.wpAny_Constant_float (h _ _ .toks ⟨_, rfl⟩)
theorem ev_neg {e : Expr} {pos : Pos} {a : Int} (h₁ : Ev C l σ e (.int a)) : Ev C l σ (.UnaryOp .USub e pos) (.int (-a)) := fun as s Q E R h =>
  PyProof.Rows.UnaryOp_ (h₁ as s _ E R fun u s₁ K vu => by obtain ⟨t, rfl⟩ := vu; exact PyProof.Rows.neg_int (h _ _ K.toks' ⟨_, rfl⟩))
theorem ev_b3 (O : C.Ok) {x : Str} {np pos : Pos} {e₁ e₂ e₃ : Expr} {id : String} {a b c v : PV} (h₁ : Ev C l σ e₁ a) (h₂ : Ev C l σ e₂ b) (h₃ : Ev C l σ e₃ c) (hp : Prim C.w (.builtin id) [a, b, c] v) (hx : x ∈ bNames) (hv : bootBuiltins x = some (.builtin id)) (hk : C.env.kindOf x = some .globalImplicit)
    (hs : backTo pos (starEach [e₁, e₂, e₃] C.env) = [(false, eval e₁ C.env), (false, eval e₂ C.env), (false, eval e₃ C.env)] := by rfl) (pa : a.plain = true := by rfl) (pb : b.plain = true := by rfl) (pc : c.plain = true := by rfl) (pv : v.plain = true := by rfl) (hn : x ≠ "__name__" := by decide) (hd : (x == ("__debug__" : Str)) = false := by decide) :
    Ev C l σ (.Call (.Name x np) [e₁, e₂, e₃] [] pos) v := fun as s Q E R h =>
  PyProof.Rows.Call_Name hs (nm_b O R hx hv hk (Calls.callWith_builtin rfl (Calls.evalArgs_plain (Calls.spliced_cons (h₁ as s _ E R fun u s₁ R₁ vu => Calls.spliced_cons (h₂ as s₁ _ E (R.kp R₁) fun u₂ s₂ R₂ vu₂ => Calls.spliced_cons (h₃ as s₂ _ E (R.kp (R₁.trans R₂)) fun u₃ s₃ R₃ vu₃ => Calls.spliced_nil
    (hp _ [u, u₂, u₃] s₃ _ _ O.hh (.cons (vu.as_plain pa) (.cons (vu₂.as_plain pb) (.cons (vu₃.as_plain pc) .nil))) fun u' h' tk k v' => h _ _ (((R₁.trans R₂).trans R₃).heap' k) (v'.as_plain pv)))))))) hn hd)
theorem ev_len_list (O : C.Ok) {np pos : Pos} {e : Expr} {j : Nat} {vs : List PV} (h₁ : Ev C l σ e (.obj j)) (hj : σ[j]? = some (.list vs)) (hsz : vs.length < 2 ^ 62) (hk : C.env.kindOf "len" = some .globalImplicit)
    (hs : starEach [e] C.env = [(false, eval e C.env)] := by rfl) : Ev C l σ (.Call (.Name "len" np) [e] [] pos) (.int vs.length) := fun as s Q E R h =>
  Call_name1 hs (nm_b O R (by decide) (v := .builtin "len") (by decide +kernel) hk (callWith_builtin1 (h₁ as s _ E R fun u s₁ K vu => by
    obtain ⟨a, ha, rfl⟩ := vu
    obtain ⟨a', ha', us, n, ho, hus⟩ := (R.kp K).st j _ hj
    rw [ha] at ha'; cases ha'
    have hl : s₁.heap.IsList a us.toArray := ⟨_, ho, rfl, n, rfl⟩
    refine PyProof.Rows.len_list hl (by rw [List.size_toArray, ← hus.length]; omega) (h _ _ K.toks' ⟨s₁.toks + 1, ?_⟩)
    rw [List.size_toArray, ← hus.length])))
end
end Mine
end
noncomputable section
open PySem PySem.Spec PySem.Calls PyProof.Rows PyProof.V PySem.W
set_option Elab.async false
set_option linter.unusedVariables false
set_option maxRecDepth 100000
namespace Mine

abbrev DRel : (Str × Int) → (Str × Value) → Prop := fun p q => q.1 = p.1 ∧ VR [] (.int p.2) q.2
noncomputable def dset (D : List (Str × Int)) (k : Str) (i : Int) : List (Str × Int) := if D.any (fun p => p.1 = k) then D.map (fun p => if p.1 = k then (p.1, i) else p) else D ++ [(k, i)]
theorem dlook {D : List (Str × Int)} {kvs : List (Str × Value)} (h : All2 DRel D kvs) {k : Str} {i : Int} (hl : D.lookup k = some i) : ∃ u, valueAt kvs k = some u ∧ VR [] (.int i) u := by
  induction h with
  | nil => simp at hl
  | @cons p q D kvs hpq _ ih =>
    obtain ⟨x, n⟩ := p
    obtain ⟨y, v⟩ := q
    obtain ⟨rfl, hv⟩ := hpq
    rw [List.lookup_cons] at hl
    by_cases e : k = y
    · subst e
      simp at hl
      subst hl
      exact ⟨v, by simp [valueAt], hv⟩
    · have hb : (k == y) = false := beq_eq_false_iff_ne.mpr e
      simp only [hb] at hl
      obtain ⟨u, hu, hvu⟩ := ih hl
      refine ⟨u, ?_, hvu⟩
      rw [← hu]
      simp [valueAt, Ne.symm e]
theorem dstored {D : List (Str × Int)} {kvs : List (Str × Value)} (h : All2 DRel D kvs) {k : Str} {i : Int} {v : Value} (hv : VR [] (.int i) v) : All2 DRel (dset D k i) (stored kvs k v) := by
  have hany : D.any (fun p => p.1 = k) = kvs.any (fun p => p.1 = k) := by
    induction h with
    | nil => rfl
    | cons hpq _ ih => simp only [List.any_cons, ih, hpq.1]
  unfold dset stored
  rw [hany]
  split
  · rename_i hc
    clear hc hany
    induction h with
    | nil => exact .nil
    | @cons p q D kvs hpq _ ih =>
      refine .cons ?_ ih
      dsimp only
      by_cases e : p.1 = k
      · rw [if_pos e, if_pos (hpq.1.trans e)]; exact ⟨hpq.1, hv⟩
      · rw [if_neg e, if_neg (fun q => e (hpq.1.symm.trans q))]; exact hpq
  · exact h.snoc ⟨rfl, hv⟩

section
variable {C : Cx} {l : Loc} {σ : Sto} {Φ : Fl → Loc → Sto → Prop}
theorem ev_item_dict {e₁ e₂ : Expr} {pos : Pos} {j : Nat} {k : Str} {D : List (Str × Int)} {i : Int} (h₁ : Ev C l σ e₁ (.obj j)) (hj : σ[j]? = some (.dict D)) (h₂ : Ev C l σ e₂ (.str k)) (hi : D.lookup k = some i)
    (hs : ∀ d t, subscripted e₂ false (.ref d) (.str k t) = operate [.ref d, .str k t] (getItem (.ref d) (.str k t)) := by intro _ _; with_unfolding_all rfl) : Ev C l σ (.Subscript e₁ e₂ pos) (.int i) := fun as s Q E R h =>
  PyProof.Rows.Subscript_ (h₁ as s _ E R fun u s₁ K vu => h₂ as s₁ _ E (R.kp K) fun u₂ s₂ K₂ vu₂ => by
    obtain ⟨a, ha, rfl⟩ := vu
    obtain ⟨t, rfl⟩ := vu₂
    obtain ⟨a', ha', lo, kvs, hd, hkv⟩ := (R.kp (K.trans K₂)).st j _ hj
    rw [ha] at ha'; cases ha'
    obtain ⟨u, hu, hvu⟩ := dlook hkv hi
    exact tail_any hd.typeIs slot_dict_getitem.lookup (wpAny_getItem_of (k := k) (by simp [PySem.strKind, Value.isStrOf]) hd.mapOf hu (h u _ (K.trans K₂).toks' (hvu.as_plain rfl))) (hs a t))
theorem sx_set_dict (O : C.Ok) {e i v : Expr} {ip pos : Pos} {j : Nat} {k : Str} {D : List (Str × Int)} {x : Int} (hv : Ev C l σ v (.int x)) (he : Ev C l σ e (.obj j)) (hi : Ev C l σ i (.str k)) (hj : σ[j]? = some (.dict D)) (hsz : D.length ≤ sizeLine)
    (hΦ : Φ .next l (σ.set j (.dict (dset D k x)))) (hsw : swapsWith v (some (.Subscript e i ip)) pos.line C.env = pure false := by rfl) : Sx C (.Assign [.Subscript e i ip] v pos) l σ Φ := .mk fun as s Q E R hQ =>
  wpAny_Assign_Subscript (hv as s _ E R fun ux s₁ K vx => he as s₁ _ E (R.kp K) fun ue s₂ K₂ ve => hi as s₂ _ E (R.kp (K.trans K₂)) fun ui s₃ K₃ vi => by
    obtain ⟨a, ha, rfl⟩ := ve
    obtain ⟨t, rfl⟩ := vi
    have K₁₃ := (K.trans K₂).trans K₃
    have R₃ := R.kp K₁₃
    obtain ⟨a', ha', lo, kvs, hd, hkv⟩ := R₃.st j _ hj
    rw [ha] at ha'; cases ha'
    refine wpAny_setItem_pairs (k := k) (by simp [PySem.strKind, Value.isStrOf]) hd (fun h' hd' hs => ?_) (by rw [← hkv.length]; exact hsz)
    exact hQ _ _ _ as _ _ hΦ (R₃.setObj (tk := s₃.toks + 1) ha hs ⟨lo, _, hd', dstored hkv (vx.as_plain rfl)⟩)
      ⟨⟨[], by simp, by simp⟩, fun b o hb hm e => (hs.2 b (fun h => hm (h ▸ List.mem_of_getElem? ha))).trans (K₁₃.k b o e), K₁₃.p⟩ rfl) hsw
/-- {a: n, b: m, c: k} -/
theorem evx_dict3 (O : C.Ok) {a b c : Str} {n m k : Int} {p₁ p₂ p₃ q₁ q₂ q₃ pos : Pos} {k₁ k₂ k₃ k₄ k₅ k₆} (hab : a ≠ b) (hac : a ≠ c) (hbc : b ≠ c) :
    EvX C l σ (.Dict [some (.Constant (.str a) k₁ p₁), some (.Constant (.str b) k₂ p₂), some (.Constant (.str c) k₃ p₃)] [.Constant (.int n) k₄ q₁, .Constant (.int m) k₅ q₂, .Constant (.int k) k₆ q₃] pos) [.dict [(a, n), (b, m), (c, k)]] (.obj σ.length) := .mk fun as s Q E R hQ => by
  let kv : Str → Int → Expr → Expr → Sem Value × Sem Value := fun _ _ x y => (eval x C.env, do let x ← eval y C.env; standAt pos; pure x)
  refine wpAny_Dict_pairs (knd := PySem.strKind Pg C.w) (pairs := [(eval (.Constant (.str a) k₁ p₁) C.env, do let x ← eval (.Constant (.int n) k₄ q₁) C.env; standAt pos; pure x), (eval (.Constant (.str b) k₂ p₂) C.env, do let x ← eval (.Constant (.int m) k₅ q₂) C.env; standAt pos; pure x),
    (eval (.Constant (.str c) k₃ p₃) C.env, do let x ← eval (.Constant (.int k) k₆ q₃) C.env; standAt pos; pure x)]) rfl (by simp) (by simp) ?_
  refine evalPairs_cons (Calls.Constant_str (wpAny_bind (wpAny_Constant_int (wpAny_bind (wpAny_standAt (wpAny_pure ?_))))))
  refine evalPairs_cons (Calls.Constant_str (wpAny_bind (wpAny_Constant_int (wpAny_bind (wpAny_standAt (wpAny_pure ?_))))))
  refine evalPairs_cons (Calls.Constant_str (wpAny_bind (wpAny_Constant_int (wpAny_bind (wpAny_standAt (wpAny_pure ?_))))))
  refine evalPairs_nil ⟨[(a, .int n _), (b, .int m _), (c, .int k _)], ⟨by simp [PySem.strKind, Value.isStrOf], rfl, by simp [PySem.strKind, Value.isStrOf], rfl, by simp [PySem.strKind, Value.isStrOf], rfl, trivial⟩, Heap.DictOf.new _, fun h' hd hs => ?_⟩
  have K : ∀ tk, Kp s { s with heap := h', toks := tk } := fun tk => .heap fun b' o e => (hs.2 b' (Nat.ne_of_lt (Heap.lt_size e))).trans (Heap.get?_push_of_some _ e)
  have hfr : s.heap.get? s.heap.objs.size = none := by
    cases e : s.heap.get? s.heap.objs.size with
    | none => rfl
    | some o => exact absurd (Heap.lt_size e) (Nat.lt_irrefl _)
  have hbig : sysModules < s.heap.objs.size := modules_low (R.tf O).lim
  have hmg : merged [] [(a, Value.int n (s.toks + 1)), (b, .int m (s.toks + 1 + 1 + 1)), (c, .int k (s.toks + 1 + 1 + 1 + 1 + 1))] = [(a, Value.int n (s.toks + 1)), (b, .int m (s.toks + 1 + 1 + 1)), (c, .int k (s.toks + 1 + 1 + 1 + 1 + 1))] := by
    simp [merged, stored, hab, hac, hbc]
  have hdr : All2 DRel [(a, n), (b, m), (c, k)] (merged [] [(a, Value.int n (s.toks + 1)), (b, .int m (s.toks + 1 + 1 + 1)), (c, .int k (s.toks + 1 + 1 + 1 + 1 + 1))]) := by
    rw [hmg]
    exact .cons ⟨rfl, _, rfl⟩ (.cons ⟨rfl, _, rfl⟩ (.cons ⟨rfl, _, rfl⟩ .nil))
  refine hQ _ [s.heap.objs.size] _ (K _) (R.push (K _) hfr ⟨beq_eq_false_iff_ne.mpr (Nat.ne_of_gt hbig), _, hd, hdr⟩) (by simpa using hfr) ⟨_, by rw [← R.ln]; simp, rfl⟩
end
end Mine
end
noncomputable section
open PySem PySem.Spec PySem.Calls PyProof.Rows PyProof.V PySem.W
set_option Elab.async false
set_option linter.unusedVariables false
set_option maxRecDepth 100000
namespace Mine

section
variable {C : Cx} {l : Loc} {σ : Sto} {Φ : Fl → Loc → Sto → Prop}

/-- what is at a place of an own list -/
noncomputable def AtP (vs : List PV) (i : Nat) (u : Value) : Prop := ∃ v, vs[i]? = some v ∧ VR [] v u
theorem evi_list (O : C.Ok) {e : PySem.Expr} {vs : List PV} (he : EvL C l σ e vs) (hp : vs.all PV.plain = true) : EvI C l σ e vs.length (AtP vs) := fun as s Q E R h =>
  he as s _ E R fun a s₁ K hn ho => by
    obtain ⟨us, m, hg, hus⟩ := ho
    have hl : s₁.heap.IsList a us.toArray := ⟨_, hg, rfl, m, rfl⟩
    have hsz : us.length = vs.length := hus.length.symm
    refine wpAny_pyIter_list hl ?_
    have K₁ : Kp s { s₁ with heap := s₁.heap.push { cls := .type "list_iterator", data := .fields #[.ref a, .int 0 0] } } := K.heap' (tk := s₁.toks) fun b o' e => Heap.get?_push_of_some _ e
    have hne : a ≠ s₁.heap.objs.size := Nat.ne_of_lt (Heap.lt_size hg)
    have W := Walks.list (prog := Pg) (w := C.w) (A := C.A) O.hh s₁.heap.objs.size a hne us.toArray
    have hP : ∀ i v, (us.toArray)[i]? = some v → AtP vs i v := fun i v hv => by
      have hv' : us[i]? = some v := by simpa using hv
      have hlt : i < vs.length := by rw [← hsz]; exact (List.getElem?_eq_some_iff.mp hv').1
      obtain ⟨u, hu, hr⟩ := hus.get (List.getElem?_eq_getElem hlt)
      rw [hv'] at hu; cases hu
      exact ⟨_, List.getElem?_eq_getElem hlt, hr.as_plain (List.all_eq_true.mp hp _ (List.getElem_mem hlt))⟩
    have hn' : us.toArray.size = vs.length := by simpa using hsz
    rw [hn'] at W
    refine h _ _ _ _ _ K₁ ⟨W.sub, W.frame, fun i s Q E hi st hQ => W.item i s Q E hi st fun v h' tk hv => hQ v h' tk (hP i v hv), W.done, W.self⟩ ⟨⟨_, Heap.get?_push_size _ rfl, rfl, rfl⟩, ⟨_, Heap.get?_push_of_some _ hg, rfl, m, rfl⟩⟩
      (fun i h st b hb => ?_) (fun b hb => ?_)
    · rcases List.mem_cons.mp hb with rfl | hb
      · obtain ⟨o, e, _⟩ := st.1; exact ⟨o, e⟩
      · rw [List.mem_singleton.mp hb]; obtain ⟨o, e, _⟩ := st.2; exact ⟨o, e⟩
    · rcases List.mem_cons.mp hb with rfl | hb
      · exact fresh_size K
      · rw [List.mem_singleton.mp hb]; exact hn
end

/-- the block's own frame -/
noncomputable def compCx (C : Cx) (scope : Scope) (cl : List (Str × Addr)) (L : Addr) : Cx := ⟨C.w, C.A, compEnvC scope cl L C.env, C.h₀, C.os, C.lv, C.cls⟩
theorem compCx_ok {C : Cx} (O : C.Ok) {scope : Scope} {cl : List (Str × Addr)} {L : Addr} (hk : scope.kind = .function) : (compCx C scope cl L).Ok := ⟨O.hh, hk, O.gl, O.bi, O.T, O.dep, O.un⟩

/-- a block's test -/
noncomputable def CT (C : Cx) (l : Loc) (σ : Sto) (ifs : List PySem.Expr) (b : Bool) : Prop := (ifs = [] ∧ b = true) ∨ ∃ c, ifs = [c] ∧ Ts C l σ c b
theorem ct_nil {C : Cx} {l : Loc} {σ : Sto} : CT C l σ [] true := .inl ⟨rfl, rfl⟩
theorem ct_one {C : Cx} {l : Loc} {σ : Sto} {c : PySem.Expr} {b : Bool} (h : Ts C l σ c b) : CT C l σ [c] b := .inr ⟨c, rfl, h⟩
theorem CT.run {C : Cx} {l : Loc} {σ : Sto} {ifs : List PySem.Expr} {b : Bool} (h : CT C l σ ifs b) (as : List Addr) (s : Shared) (Q : Bool → Shared → Prop) (E : Value → Shared → Prop) (R : Rel C l σ as s) (hQ : ∀ s', Kp s s' → Q b s') :
    wpAny (model Pg C.w) C.A (forIn ifs true fun c r => if r = true then do let ok ← isTrue c C.env (eval c C.env); pure (ForInStep.yield ok) else pure (ForInStep.yield r)) Q E s := by
  rcases h with ⟨rfl, rfl⟩ | ⟨c, rfl, h⟩
  · rw [List.forIn_nil]; exact wpAny_pure (hQ s (.refl s))
  · rw [List.forIn_cons, if_pos rfl]
    refine wpAny_bind (wpAny_bind (h as s _ E R fun s' K => wpAny_pure ?_))
    dsimp only
    rw [List.forIn_nil]
    exact wpAny_pure (hQ s' K)

/-- one turn of a block -/
noncomputable def CStep (C : Cx) (l : Loc) (σ : Sto) (ifs : List PySem.Expr) (elt : PySem.Expr) (J : Sto → List PV → Prop) : Prop :=
  ∃ b, CT C l σ ifs b ∧ (b = false → J [] []) ∧ (b = true → ∃ τ y, EvX C l σ elt τ y ∧ J τ [y])

structure KB (wr : List Addr) (s s' : Shared) : Prop where
  k : ∀ b o, b ∉ wr → s.heap.get? b = some o → s'.heap.get? b = some o
  g : (∀ x ∈ s.gens, x.bare = true) → ∀ x ∈ s'.gens, x.bare = true
  o : s'.os = s.os
  p : ∀ (i : Nat) x, s.gens[i]? = some x → s'.gens[i]? = some x
theorem KB.heap {wr : List Addr} {s s' : Shared} (x : KB wr s s') {h' : Heap} {tk : Nat} (hk : ∀ b o, b ∉ wr → s'.heap.get? b = some o → h'.get? b = some o) : KB wr s { s' with heap := h', toks := tk } :=
  ⟨fun b o hb e => hk b o hb (x.k b o hb e), x.g, x.o, x.p⟩
theorem KB.kp {wr : List Addr} {s s' s'' : Shared} (x : KB wr s s') (K : Kp s' s'') : KB wr s s'' := ⟨fun b o hb e => K.k b o (x.k b o hb e), fun h => K.g (x.g h), K.o.trans x.o, fun i y e => K.p i y (x.p i y e)⟩

theorem Rel.kb {C : Cx} {l : Loc} {σ : Sto} {as : List Addr} {s s' : Shared} (R : Rel C l σ as s) {wr : List Addr} (X : KB wr s s') (hL : C.env.locals ∉ wr) (ha : ∀ a ∈ as, a ∉ wr) (h0 : ∀ b o, C.h₀.get? b = some o → b ∉ wr) : Rel C l σ as s' := by
  obtain ⟨⟨m, F, hm⟩, ln, st, fs, nd, gn, os, cs⟩ := R
  exact ⟨⟨m, ⟨F.ns.at' fun o e => X.k _ o hL e, fun b o e => X.k b o (h0 b o e) (F.keep b o e), F.above⟩, hm⟩, ln, fun j o e => let ⟨a, hj, h⟩ := st j o e; ⟨a, hj, h.keeps fun o e => X.k a o (ha a (List.mem_of_getElem? hj)) e⟩,
    fun a hm => let ⟨x, y, o, e⟩ := fs a hm; ⟨x, y, o, X.k a o (ha a hm) e⟩, nd, X.g gn, X.o.trans os, cs⟩

/-- an iterator for a block: only what its steps turn need be fresh -/
noncomputable def EvC (C : Cx) (l : Loc) (σ : Sto) (e : PySem.Expr) (n : Nat) (P : Nat → Value → Prop) : Prop :=
  ∀ (as : List Addr) (s : Shared) (Q : Value → Shared → Prop) (E : Value → Shared → Prop), Rel C l σ as s →
    (∀ I s' fp wr St, Kp s s' → Walks Pg C.w C.A I fp wr n P St → St 0 s'.heap → (∀ i h, St i h → ∀ b ∈ fp, ∃ o, h.get? b = some o) → (∀ b ∈ wr, s.heap.get? b = none) → Q (.ref I) s') →
    wpAny (model Pg C.w) C.A (eval e C.env) (fun u s₁ => wpAny (model Pg C.w) C.A (pyIter u) Q E s₁) E s
theorem EvI.c {C : Cx} {l : Loc} {σ : Sto} {e : PySem.Expr} {n : Nat} {P : Nat → Value → Prop} (h : EvI C l σ e n P) : EvC C l σ e n P := fun as s Q E R hQ =>
  h as s Q E R fun I s' fp wr St K W hst hlv hfp => hQ I s' fp wr St K W hst hlv fun b hb => hfp b (W.sub b hb)
theorem evc_obj {C : Cx} {l : Loc} {σ : Sto} (O : C.Ok) {e : PySem.Expr} {j : Nat} {vs : List PV} (he : Ev C l σ e (.obj j)) (hj : σ[j]? = some (.list vs)) (hp : vs.all PV.plain = true) : EvC C l σ e vs.length (AtP vs) := fun as s Q E R h =>
  he as s _ E R fun u s₁ K vu => by
    obtain ⟨a, ha, rfl⟩ := vu
    obtain ⟨a', ha', us, m, hg, hus⟩ := (R.kp K).st j _ hj
    rw [ha] at ha'; cases ha'
    have hl : s₁.heap.IsList a us.toArray := ⟨_, hg, rfl, m, rfl⟩
    have hsz : us.length = vs.length := hus.length.symm
    refine wpAny_pyIter_list hl ?_
    have K₁ : Kp s { s₁ with heap := s₁.heap.push { cls := .type "list_iterator", data := .fields #[.ref a, .int 0 0] } } := K.heap' (tk := s₁.toks) fun b o' e => Heap.get?_push_of_some _ e
    have hne : a ≠ s₁.heap.objs.size := Nat.ne_of_lt (Heap.lt_size hg)
    have W := Walks.list (prog := Pg) (w := C.w) (A := C.A) O.hh s₁.heap.objs.size a hne us.toArray
    have hP : ∀ i v, (us.toArray)[i]? = some v → AtP vs i v := fun i v hv => by
      have hv' : us[i]? = some v := by simpa using hv
      have hlt : i < vs.length := by rw [← hsz]; exact (List.getElem?_eq_some_iff.mp hv').1
      obtain ⟨u, hu, hr⟩ := hus.get (List.getElem?_eq_getElem hlt)
      rw [hv'] at hu; cases hu
      exact ⟨_, List.getElem?_eq_getElem hlt, hr.as_plain (List.all_eq_true.mp hp _ (List.getElem_mem hlt))⟩
    have hn' : us.toArray.size = vs.length := by simpa using hsz
    rw [hn'] at W
    refine h _ _ _ _ _ K₁ ⟨W.sub, W.frame, fun i s Q E hi st hQ => W.item i s Q E hi st fun v h' tk hv => hQ v h' tk (hP i v hv), W.done, W.self⟩ ⟨⟨_, Heap.get?_push_size _ rfl, rfl, rfl⟩, ⟨_, Heap.get?_push_of_some _ hg, rfl, m, rfl⟩⟩
      (fun i h st b hb => ?_) (fun b hb => ?_)
    · rcases List.mem_cons.mp hb with rfl | hb
      · obtain ⟨o, e, _⟩ := st.1; exact ⟨o, e⟩
      · rw [List.mem_singleton.mp hb]; obtain ⟨o, e, _⟩ := st.2; exact ⟨o, e⟩
    · rw [List.mem_singleton.mp hb]
      exact fresh_size K
theorem evx_comp {C : Cx} {l : Loc} {σ : Sto} (O : C.Ok) {iter elt : PySem.Expr} {x : Str} {px pos : Pos} {ifs : List PySem.Expr} {scope : Scope} {cl : List (Str × Addr)} {n : Nat} {P : Nat → Value → Prop} (hit : EvC C l σ iter n P) (hsz : n ≤ sizeLine)
    (hclos : closureFor scope C.env = pure cl) (hcell : ∀ y ∈ scope.names, y.2 ≠ .cell) (hkind : scope.kind = .function) (hnames : ∀ y ∈ scope.names, y.2 = .local → scope.names.lookup y.1 = some .local) (hx : scope.names.lookup x = some .local)
    (J : Nat → Sto → List PV → Prop) (hJ : J 0 [] []) (hlen : ∀ i τ ys, J i τ ys → ys.length ≤ i)
    (hitem : ∀ i u, i < n → P i u → ∃ v : PV, VR [] v u ∧ v.plain = true ∧ ∀ τ ys L, J i τ ys → (compCx C scope cl L).Ok → CStep (compCx C scope cl L) [(x, v)] (σ ++ τ) ifs elt (fun τ' r => J (i + 1) (τ ++ τ') (ys ++ r)))
    {τ₁ : Sto} {ys₁ : List PV} (hend : ∀ τ ys, J n τ ys → τ = τ₁ ∧ ys = ys₁)
    (hs : ∀ x, foldedSetIterable iter C.env x = pure x := by intro _; rfl) : EvX C l σ (.ListComp elt [⟨.Name x px, iter, ifs, 0⟩] scope pos) (τ₁ ++ [.list ys₁]) (.obj (σ.length + τ₁.length)) := .mk fun as s Q E R hQ => by
  rw [eval_ListComp]
  refine wpAny_comprehension_free (use := none) rfl hs hclos hkind hnames (hit as s _ E R fun I s₂ fp wr St K W hst hlv hfp => ?_)
  have R₂ := R.kp K
  have hwr : ∀ b ∈ wr, s.heap.get? b = none := hfp
  refine wpAny_newObj_type (wpAny_newFunctionEnv hcell (by intro y hy; simp at hy) (fun h₁ hns₁ hsb₁ => ?_) hkind)
  dsimp only at hns₁ hsb₁ ⊢
  generalize hH2 : s₂.heap.push { cls := .type "list", dict := none, data := .seq ([] : List Value).toArray } = H2 at hns₁ hsb₁ ⊢
  obtain ⟨D, hDe⟩ : ∃ D, D = s₂.heap.objs.size := ⟨_, rfl⟩
  obtain ⟨L, hLe⟩ : ∃ L, L = H2.objs.size := ⟨_, rfl⟩
  have hL2 : L = s₂.heap.objs.size + 1 := by rw [hLe, ← hH2, Heap.size_push]
  rw [← hDe, ← hLe]
  rw [← hLe] at hns₁ hsb₁
  have hDL : D ≠ L := by rw [hDe, hL2]; exact Nat.ne_of_lt (Nat.lt_succ_self _)
  have fresh₂ : ∀ a, s₂.heap.objs.size ≤ a → s₂.heap.get? a = none := fun a ha => by
    cases e : s₂.heap.get? a with
    | none => rfl
    | some o' => exact absurd (Heap.lt_size e) (Nat.not_lt.mpr ha)
  have hD0 : s₂.heap.get? D = none := fresh₂ D (by rw [hDe]; exact Nat.le_refl _)
  have hL0 : s₂.heap.get? L = none := fresh₂ L (by rw [hL2]; exact Nat.le_succ _)
  have hfpl : ∀ b ∈ fp, b < s₂.heap.objs.size := fun b hb => let ⟨o, e⟩ := hlv 0 _ hst b hb; Heap.lt_size e
  have hDf : D ∉ fp := fun hm => by have := hfpl D hm; rw [hDe] at this; exact Nat.lt_irrefl _ this
  have hLf : L ∉ fp := fun hm => by have := hfpl L hm; rw [hL2] at this; exact Nat.lt_irrefl _ (Nat.lt_of_succ_lt this)
  have hDw : D ∉ wr := fun h => hDf (W.sub _ h)
  have hLw : L ∉ wr := fun h => hLf (W.sub _ h)
  have old : ∀ b o, s₂.heap.get? b = some o → h₁.get? b = some o := fun b o e => hsb₁.extBut b o (fun q => by rw [q, hL0] at e; cases e) (Heap.get?_push_of_some _ (hH2 ▸ Heap.get?_push_of_some _ e))
  have hacc : h₁.PlainList D #[] := ⟨_, hsb₁.extBut _ _ hDL (Heap.get?_push_of_some _ (by rw [hDe]; exact hH2 ▸ Heap.get?_push_size _ rfl))⟩
  have hst₁ : St 0 h₁ := W.frame _ _ _ hst fun b _ o e => old b o e
  have hloc := R₂.locals
  have hCL : C.env.locals ≠ L := fun q => by obtain ⟨o, e⟩ := hloc; rw [q, hL0] at e; cases e
  have hCD : C.env.locals ≠ D := fun q => by obtain ⟨o, e⟩ := hloc; rw [q, hD0] at e; cases e
  have h0L : C.h₀.get? L = none := by
    obtain ⟨m, F, _⟩ := R₂.fr
    cases e : C.h₀.get? L with
    | none => rfl
    | some o => have := F.keep L o e; rw [hL0] at this; cases this
  have h0w : ∀ b o, C.h₀.get? b = some o → b ∉ wr ++ [D, L] := fun b o e hb => by
    obtain ⟨m, F, _⟩ := R.fr
    have e' := F.keep b o e
    rcases List.mem_append.mp hb with hb | hb
    · rw [hwr b hb] at e'; cases e'
    · have e2 := K.k b o e'
      rcases List.mem_cons.mp hb with rfl | hb
      · rw [hD0] at e2; cases e2
      · rw [List.mem_singleton.mp hb, hL0] at e2; cases e2
  have haw : ∀ a ∈ as, a ∉ wr ++ [D, L] := fun a ha hb => by
    obtain ⟨_, _, o, e⟩ := R.fs a ha
    rcases List.mem_append.mp hb with hb | hb
    · rw [hwr a hb] at e; cases e
    · have e2 := K.k a o e
      rcases List.mem_cons.mp hb with rfl | hb
      · rw [hD0] at e2; cases e2
      · rw [List.mem_singleton.mp hb, hL0] at e2; cases e2
  have hCw : C.env.locals ∉ wr ++ [D, L] := fun hb => by
    obtain ⟨o, e⟩ := R.locals
    rcases List.mem_append.mp hb with hb | hb
    · rw [hwr _ hb] at e; cases e
    · rcases List.mem_cons.mp hb with q | hb
      · exact hCD q
      · exact hCL (List.mem_singleton.mp hb)
  have Oc : (compCx C scope cl L).Ok := compCx_ok O hkind
  have hxl : Env.kindOf (compEnvC scope cl L C.env) x = some .local := lookup_relabel_local hx
  -- the turn's state
  let Inv : Nat → Shared → Prop := fun i s' => ∃ τ ys as' us m, J i τ ys ∧ KB (wr ++ [D, L]) s₂ s' ∧ St i s'.heap ∧ s'.heap.Ns L m ∧ s'.heap.PlainList D us ∧ All2 (VR as') ys us.toList ∧
    Rel (compCx C scope cl L) [] (σ ++ τ) as' s' ∧ (∃ bs, as' = as ++ bs ∧ ∀ b ∈ bs, s₂.heap.get? b = none) ∧ D ∉ as' ∧ (∀ b ∈ as', b ∉ wr)
  have loop : ∀ s₃ : Shared, Inv 0 s₃ → codeAny (model Pg C.w) C.A (.compLoop (.ListComp elt [⟨.Name x px, iter, ifs, 0⟩] scope pos) 0 (.ref I) (.ref D) (compEnvC scope cl L C.env)) (compPost (model Pg C.w) C.A E none Q (.ref D) L) s₃ := by
    intro s₃ h₃
    refine codeAny_compLoop_tests (fun k s' => ∃ i, i ≤ n ∧ k = n + 1 - i ∧ Inv i s') ?_ (n + 1) ⟨0, Nat.zero_le _, rfl, h₃⟩
    rintro k s' ⟨i, hi, rfl, τ, ys, as', us, m, hJ', X, hst', hns', hD', hus, R', ⟨bs, rfl, hbs⟩, hDas, hafp⟩
    have haf' : ∀ a ∈ as ++ bs, a ∉ wr := hafp
    have h0wr : ∀ b o, C.h₀.get? b = some o → b ∉ wr := fun b o e hb => h0w b o e (List.mem_append_left _ hb)
    by_cases hlt : i < n
    · refine W.item i _ _ _ hlt hst' fun u h₂ tk₂ hP hst₂ hk₂ => ?_
      obtain ⟨v, hv, hvp, hstep⟩ := hitem i u hlt hP
      have Rw := R'.walk (tk := tk₂) hk₂ hLw haf' h0wr
      obtain ⟨m₂, F₂, hm₂⟩ := Rw.fr
      refine wpAny_assign_Name (wpAny_storeName_local hxl F₂.ns (fun h₃ hn₃ hs₃ => ?_) Oc.hp)
      have R₃ := Rw.store (x := x) (tk := tk₂ + 1) (hv.as_plain hvp) F₂ hm₂ hn₃ hs₃
      have R₃' : Rel (compCx C scope cl L) [(x, v)] (σ ++ τ) (as ++ bs) { s' with heap := h₃, toks := tk₂ + 1 } := R₃
      have X₃ : KB (wr ++ [D, L]) s₂ { s' with heap := h₃, toks := tk₂ + 1 } := X.heap fun b o hb e => (hs₃.2 b (fun q => hb (by show b ∈ wr ++ [D, L]; rw [show b = L from q]; simp))).trans (hk₂ b o (fun h => hb (List.mem_append_left _ h)) e)
      have hst₃ : St (i + 1) h₃ := W.frame _ _ _ hst₂ fun b hb o e => (hs₃.2 b (fun q => hLf (by rw [← show b = L from q]; exact hb))).trans e
      have hD₃ : h₃.PlainList D us := hD'.at fun o e => (hs₃.2 D hDL).trans (hk₂ D o hDw e)
      obtain ⟨b, ht, hb0, hb1⟩ := hstep τ ys L hJ' Oc
      refine ht.run _ _ _ _ R₃' fun s₄ K₄ => ?_
      have hst₄ : St (i + 1) s₄.heap := W.frame _ _ _ hst₃ fun b _ o e => K₄.k b o e
      have R₄ := R₃'.kp K₄
      have hweak : ∀ {σ' as'' s''}, Rel (compCx C scope cl L) [(x, v)] σ' as'' s'' → Rel (compCx C scope cl L) [] σ' as'' s'' := fun r => r.weak trivial
      cases b with
      | false =>
        rw [if_neg (by decide)]
        refine ⟨n + 1 - (i + 1), by omega, i + 1, hlt, rfl, τ, ys, as ++ bs, us, ?_⟩
        have hj : J (i + 1) (τ ++ []) (ys ++ []) := hb0 rfl
        rw [List.append_nil, List.append_nil] at hj
        obtain ⟨m₄, F₄, _⟩ := R₄.fr
        exact ⟨m₄, hj, X₃.kp K₄, hst₄, F₄.ns, hD₃.at fun o e => K₄.k D o e, hus, hweak R₄, ⟨bs, rfl, hbs⟩, hDas, hafp⟩
      | true =>
        rw [if_pos rfl]
        obtain ⟨τ', y, he, hj⟩ := hb1 rfl
        refine he.run _ _ _ _ R₄ fun yu cs s₅ K₅ R₅ hcs vy => ?_
        have hD₅ : s₅.heap.PlainList D us := hD₃.at fun o e => K₅.k D o (K₄.k D o e)
        have hulen : us.size ≤ sizeLine := by
          have h1 := hlen i τ ys hJ'
          have h2 := hus.length
          have h3 : us.toList.length = us.size := by simp
          omega
        refine wpAny_list_append_plain (hsz := hulen) hD₅ fun h₆ hl₆ hs₆ => ?_
        have hcsD : D ∉ cs := fun hm => by
          obtain ⟨_, e⟩ := hD₃
          have := hcs D hm
          rw [K₄.k D _ e] at this; cases this
        have hDas₅ : D ∉ as ++ bs ++ cs := fun hm => by
          rcases List.mem_append.mp hm with hm | hm
          · exact hDas hm
          · exact hcsD hm
        have X₅ : KB (wr ++ [D, L]) s₂ s₅ := (X₃.kp K₄).kp K₅
        have X₆ : KB (wr ++ [D, L]) s₂ { s₅ with heap := h₆ } := X₅.heap (tk := s₅.toks) fun b o hb e => (hs₆.2 b (fun q => hb (by rw [q]; simp))).trans e
        have hLD : (compCx C scope cl L).env.locals ≠ D := Ne.symm hDL
        have R₆ : Rel (compCx C scope cl L) [(x, v)] (σ ++ τ ++ τ') (as ++ bs ++ cs) { s₅ with heap := h₆ } := R₅.walk (wr := [D]) (tk := s₅.toks) (fun b o hb e => (hs₆.2 b (fun q => hb (by rw [q]; simp))).trans e)
          (by simpa using hLD) (fun a ha q => hDas₅ (by rw [← List.mem_singleton.mp q]; exact ha)) (fun b o e q => h0w b o e (by rw [List.mem_singleton.mp q]; simp))
        obtain ⟨m₆, F₆, _⟩ := R₆.fr
        have hst₆ : St (i + 1) h₆ := W.frame _ _ _ hst₄ fun b hb o e => (hs₆.2 b (fun q => hDf (by rw [← q]; exact hb))).trans (K₅.k b o e)
        refine ⟨n + 1 - (i + 1), by omega, i + 1, hlt, rfl, τ ++ τ', ys ++ [y], as ++ bs ++ cs, us.push yu, m₆, hj, X₆, hst₆, F₆.ns, hl₆, ?_, ?_, ⟨bs ++ cs, by simp, fun b hb => ?_⟩, hDas₅, fun b hb => ?_⟩
        · rw [Array.toList_push]
          exact (hus.mono fun _ _ h => h.app).snoc vy
        · rw [← List.append_assoc]; exact hweak R₆
        · rcases List.mem_append.mp hb with hb | hb
          · exact hbs b hb
          · cases e : s₂.heap.get? b with
            | none => rfl
            | some o =>
              have q := hcs b hb
              by_cases hbw : b ∈ wr ++ [D, L]
              · rcases List.mem_append.mp hbw with hbw | hbw
                · obtain ⟨o', e'⟩ := hlv _ _ hst₄ b (W.sub _ hbw)
                  rw [q] at e'; cases e'
                · rcases List.mem_cons.mp hbw with rfl | hbw
                  · rw [hD0] at e; cases e
                  · rw [List.mem_singleton.mp hbw, hL0] at e; cases e
              · rw [(X₃.kp K₄).k b o hbw e] at q; cases q
        · rcases List.mem_append.mp hb with hb | hb
          · exact hafp b hb
          · intro hf
            obtain ⟨o', e'⟩ := hlv _ _ hst₄ b (W.sub _ hf)
            rw [hcs b hb] at e'; cases e'
    · have hin : i = n := by omega
      subst hin
      refine W.done _ _ _ hst' fun h₂ tk₂ hk₂ => ?_
      obtain ⟨rfl, rfl⟩ := hend _ _ hJ'
      have Rw := R'.walk (tk := tk₂) hk₂ hLw haf' h0wr
      obtain ⟨m₂, F₂, _⟩ := Rw.fr
      refine ⟨m₂, F₂.ns, fun h₃ hs₃ => ?_⟩
      have X₃ : KB (wr ++ [D, L]) s₂ { s' with heap := h₃, toks := tk₂ } := X.heap fun b o hb e => (hs₃.2 b (fun q => hb (by rw [show b = L from q]; simp))).trans (hk₂ b o (fun h => hb (List.mem_append_left _ h)) e)
      have hD₃ : h₃.PlainList D us := hD'.at fun o e => (hs₃.2 D hDL).trans (hk₂ D o hDw e)
      -- the outer frame again
      have Kall : Kp s { s' with heap := h₃, toks := tk₂ } := ⟨fun b o e => by
        have hbw : b ∉ wr ++ [D, L] := fun hb => by
          rcases List.mem_append.mp hb with hb | hb
          · rw [hwr b hb] at e; cases e
          · have e2 := K.k b o e
            rcases List.mem_cons.mp hb with rfl | hb
            · rw [hD0] at e2; cases e2
            · rw [List.mem_singleton.mp hb, hL0] at e2; cases e2
        exact X₃.k b o hbw (K.k b o e), fun h => X₃.g (K.g h), X₃.o.trans K.o, fun j y e => X₃.p j y (K.p j y e)⟩
      have Rout : Rel C l σ as { s' with heap := h₃, toks := tk₂ } := R.kp Kall
      have hbsn : ∀ b ∈ bs, s.heap.get? b = none := fun b hb => by
        cases e : s.heap.get? b with
        | none => rfl
        | some o => have := K.k b o e; rw [hbs b hb] at this; cases this
      have hsn : s.heap.get? D = none := by
        cases e : s.heap.get? D with
        | none => rfl
        | some o => have := K.k D o e; rw [hD0] at this; cases this
      have hLbs : L ∉ as ++ bs := fun hm => (R'.fs L hm).2.1 rfl
      have keepA : ∀ a ∈ as ++ bs, ∀ o, s'.heap.get? a = some o → h₃.get? a = some o := fun a ha o e => (hs₃.2 a (fun q => hLbs (by rw [← show a = L from q]; exact ha))).trans (hk₂ a o (haf' a ha) e)
      obtain ⟨nD, hgD⟩ := hD₃
      have hOD : OH C.w (as ++ bs) h₃ D (.list ys) := ⟨us.toList, nD, by rw [hgD], hus⟩
      refine hQ (.ref D) (bs ++ [D]) { s' with heap := h₃, toks := tk₂ } Kall ⟨?_, ?_, fun j o e => ?_, fun a ha => ?_, ?_, Rout.gn, Rout.os, fun p hp => ?_⟩ (fun b hb => ?_) ⟨D, ?_, rfl⟩
      · obtain ⟨mo, Fo, hmo⟩ := Rout.fr
        exact ⟨mo, Fo, fun x v hx => let ⟨u, hu, hv⟩ := hmo x v hx; ⟨u, hu, hv.app⟩⟩
      · have := R'.ln
        simp only [List.length_append] at this ⊢
        simp only [List.length_cons, List.length_nil]; omega
      · rw [← List.append_assoc] at e
        rcases Nat.lt_or_ge j (σ ++ τ).length with hj | hj
        · rw [List.getElem?_append_left hj] at e
          obtain ⟨a, hja, ha⟩ := R'.st j o e
          refine ⟨a, ?_, ?_⟩
          · rw [← List.append_assoc, List.getElem?_append_left (List.getElem?_eq_some_iff.mp hja).1]; exact hja
          · have := (ha.keeps (h' := h₃) (keepA a (List.mem_of_getElem? hja))).app (bs := [D])
            rw [← List.append_assoc]; exact this
        · have hj0 : j = (σ ++ τ).length := by
            have := (List.getElem?_eq_some_iff.mp e).1
            simp only [List.length_append, List.length_cons, List.length_nil] at this hj ⊢; omega
          subst hj0
          rw [List.getElem?_append_right (Nat.le_refl _), Nat.sub_self] at e
          simp at e
          subst e
          refine ⟨D, ?_, ?_⟩
          · rw [← List.append_assoc, ← R'.ln]; simp
          · have := hOD.app (bs := [D])
            rw [← List.append_assoc]; exact this
      · rw [← List.append_assoc] at ha
        rcases List.mem_append.mp ha with ha | ha
        · obtain ⟨f1, f2, o, f3⟩ := R'.fs a ha
          refine ⟨f1, fun q => ?_, o, keepA a ha o f3⟩
          rcases List.mem_append.mp ha with ha | ha
          · exact (R.fs a ha).2.1 q
          · obtain ⟨o', e'⟩ := R.locals
            rw [← q, hbsn a ha] at e'; cases e'
        · rw [List.mem_singleton.mp ha]
          refine ⟨?_, fun q => hCD q.symm, _, hgD⟩
          cases e : C.h₀.get? D with
          | none => rfl
          | some o => exact absurd (by simp) (h0w D o e)
      · rw [← List.append_assoc]
        refine List.nodup_append.mpr ⟨R'.nd, by simp, fun a ha b hb => ?_⟩
        rw [List.mem_singleton.mp hb]
        rintro rfl
        exact hDas ha
      · rw [List.getElem?_append_left (List.getElem?_eq_some_iff.mp (R.cs p hp)).1]; exact R.cs p hp
      · rcases List.mem_append.mp hb with hb | hb
        · exact hbsn b hb
        · rw [List.mem_singleton.mp hb]; exact hsn
      · have hl := R'.ln
        simp only [List.length_append] at hl
        rw [← List.append_assoc, List.getElem?_append_right (by rw [List.length_append]; omega), List.length_append, show σ.length + τ.length - (as.length + bs.length) = 0 by omega]; rfl
  have Rc : Rel (compCx C scope cl L) [] σ as { s₂ with heap := h₁, toks := s₂.toks + ([] : List (Str × Value)).length } := by
    obtain ⟨m, F, hm⟩ := R₂.fr
    refine ⟨⟨_, ⟨hns₁, fun b o e => old b o (F.keep b o e), ?_⟩, fun y v hy => by simp at hy⟩, R₂.ln, fun j o e => let ⟨a, ha, h⟩ := R₂.st j o e; ⟨a, ha, h.keeps fun o e => old a o e⟩, fun a ha => ?_, R₂.nd, R₂.gn, R₂.os, R₂.cs⟩
    · show C.h₀.objs.size ≤ L
      exact Nat.le_trans F.above (by rw [hL2]; exact Nat.le_succ_of_le (Nat.le_of_lt F.ns.lt))
    · obtain ⟨f1, f2, o, f3⟩ := R₂.fs a ha
      exact ⟨f1, (fun q => by rw [show a = L from q, hL0] at f3; cases f3), o, old a o f3⟩
  have hInv : Inv 0 { s₂ with heap := h₁, toks := s₂.toks + ([] : List (Str × Value)).length } := by
    refine ⟨[], [], as, #[], _, hJ, ⟨fun b o _ e => old b o e, fun h => h, rfl, fun _ _ e => e⟩, hst₁, hns₁, hacc, .nil, by rw [List.append_nil]; exact Rc, ⟨[], by simp, fun b hb => nomatch hb⟩, fun hm => ?_, fun a ha hf => ?_⟩
    · obtain ⟨_, _, o, e⟩ := R₂.fs D hm
      rw [hD0] at e; cases e
    · obtain ⟨_, _, o, e⟩ := R.fs a ha
      rw [hfp a hf] at e; cases e
  exact codeAny_compStart_list (loop _ hInv) (W.self 0 _ _ _ hst₁ (loop _ hInv))
end Mine
end
noncomputable section
open PySem PySem.Spec PySem.Calls PyProof.Rows PyProof.V PySem.W
set_option Elab.async false
set_option linter.unusedVariables false
set_option maxRecDepth 100000
namespace Mine

theorem VR.of_nil {as : List Addr} {v : PV} {u : Value} (h : VR [] v u) : VR as v u := by
  cases v <;> first | exact h | (obtain ⟨a, ha, _⟩ := h; simp at ha)
theorem All2.as_bs {as : List Addr} {vs : List PV} {us : List Value} (h : All2 (VR []) vs us) : All2 (VR as) vs us := h.mono fun _ _ x => x.of_nil

section
variable {C : Cx} {l : Loc} {σ : Sto} {Φ : Fl → Loc → Sto → Prop}

/-- an expression whose list is used at once -/
theorem EvX.evl {e : PySem.Expr} {τ : Sto} {vs : List PV} {j : Nat} (h : EvX C l σ e τ (.obj j)) (hj : (σ ++ τ)[j]? = some (.list vs)) (hp : vs.all PV.plain = true) (hn : σ.length ≤ j) : EvL C l σ e vs := fun as s Q E R hQ =>
  h.run as s Q E R fun u bs s' K R' hb vu => by
    obtain ⟨a, ha, rfl⟩ := vu
    obtain ⟨a', ha', us, n, hg, hus⟩ := R'.st j _ hj
    rw [ha] at ha'; cases ha'
    have hab : a ∈ bs := by
      have : (as ++ bs)[j]? = some a := ha
      rw [List.getElem?_append_right (by rw [R.ln]; exact hn)] at this
      exact List.mem_of_getElem? this
    exact hQ a s' K (hb a hab) ⟨us, n, hg, hus.as_plain hp⟩

/-- two lists, one behind the other -/
theorem evl_cat {e₁ e₂ : PySem.Expr} {pos : Pos} {vs ws : List PV} (h₁ : EvL C l σ e₁ vs) (h₂ : EvL C l σ e₂ ws) (hsz : vs.length + ws.length ≤ sizeLine) : EvL C l σ (.BinOp e₁ .Add e₂ pos) (vs ++ ws) := fun as s Q E R h =>
  wpAny_BinOp (h₁ as s _ E R fun a s₁ K₁ n₁ o₁ => h₂ as s₁ _ E (R.kp K₁) fun b s₂ K₂ n₂ o₂ => by
    obtain ⟨us, n, hg, hus⟩ := o₁
    obtain ⟨us2, n2, hg2, hus2⟩ := o₂
    have hg' := K₂.k _ _ hg
    have e : us.toArray ++ us2.toArray = (us ++ us2).toArray := by simp
    refine concat_meets ⟨_, hg', rfl⟩ ⟨_, hg2, rfl⟩ noFill_list_add seq_list_add PySem.F.slot_list_add PySem.F.entry_list_add (PySem.F.args_list_add_2 _ _) (list_addW a b us.toArray us2.toArray n n2 none none #[] #[] (by simp only [List.size_toArray]; rw [← hus.length, ← hus2.length]; exact hsz)) ⟨hg', hg2, ?_⟩
    rw [e]
    exact h _ _ ((K₁.trans K₂).heap' (tk := s₂.toks) fun b o e => Heap.get?_push_of_some _ e) (fresh_size (K₁.trans K₂)) ⟨_, 0, Heap.get?_push_size _ rfl, hus.append hus2⟩)

/-- the first items of a list that stood before -/
noncomputable def ExtL (h : Heap) (a : Addr) (vs : List PV) : Prop := ∃ us : List Value, h.IsList a us.toArray ∧ All2 (VR []) vs us
theorem ExtL.keeps {h h' : Heap} {a : Addr} {vs : List PV} (x : ExtL h a vs) (k : ∀ b o, h.get? b = some o → h'.get? b = some o) : ExtL h' a vs :=
  let ⟨us, ⟨o, e, r⟩, q⟩ := x; ⟨us, ⟨o, k _ _ e, r⟩, q⟩
theorem evl_slice_ext {e b : PySem.Expr} {sp pos : Pos} {a : Addr} {vs : List PV} {y : Nat} (h₁ : Ev C l σ e (.ref a)) (hx : ExtL C.h₀ a vs) (hb : Ev C l σ b (.int y)) (hsz : vs.length ≤ sizeLine)
    (ht : ∀ o r, letTemporaryGo e o r = pure () := by intro _ _; rfl) : EvL C l σ (.Subscript e (.Slice none (some b) none sp) pos) (vs.take y) := fun as s Q E R h =>
  PySem.wpAny_Subscript_Slice (T := "list") slot_list_getitem.lookup (h₁ as s _ E R fun u s₁ K vu => wpAny_Slice (wpAny_pure (hb as s₁ _ E (R.kp K) fun uy s₃ K₃ vy => wpAny_pure (by
    cases vu
    obtain ⟨ty, rfl⟩ := vy
    have K₁₃ := K.trans K₃
    obtain ⟨m, F, _⟩ := (R.kp K₁₃).fr
    obtain ⟨us, ⟨o, ho, hc, n, hd⟩, hus⟩ := hx.keeps F.keep
    have ho' := Heap.get?_push_of_some { cls := .type "slice", data := .fields #[.none, .int y ty, .none] } ho
    have hl : (s₃.heap.push { cls := .type "slice", data := .fields #[.none, .int y ty, .none] }).IsList a us.toArray := ⟨_, ho', hc, n, hd⟩
    refine ⟨hl.typeIs, wpAny_getItem_list_slice hl (Heap.IsSliceOf.new ..) .none (.int y ty) .none (by simp) ?_ (by rw [List.size_toArray, ← hus.length]; exact hsz)⟩
    rw [slicePick_upto' us.toArray y]
    have K₄ := K₁₃.heap' (h' := s₃.heap.push { cls := .type "slice", data := .fields #[.none, .int y ty, .none] }) (tk := s₃.toks) fun b o e => Heap.get?_push_of_some _ e
    refine h _ _ (K₄.heap' (tk := s₃.toks) fun b o e => Heap.get?_push_of_some _ e) (fresh_size K₄) ⟨_, 0, Heap.get?_push_size _ rfl, ?_⟩
    simpa using (hus.take y).as_bs)))) ht
end
end Mine
end
noncomputable section
open PySem PySem.Spec PySem.Calls PyProof.Rows PyProof.V PySem.W
set_option Elab.async false
set_option linter.unusedVariables false
set_option maxRecDepth 100000
namespace Mine

/-- the frame of a def whose names are cells in part -/
noncomputable def inFrameC (w : World) (A : Around) (d : FnRec) (cd : Value) (s : Shared) (lv m : Nat) : Cx :=
  ⟨w, A.deeper (envOfC d.name d.scope s.heap.objs.size d.addr cd), envOfC d.name d.scope s.heap.objs.size d.addr cd, s.heap, s.os, lv, (List.range m).map fun i => (i, s.heap.objs.size + 1 + i)⟩

theorem enterC {w : World} {lv : Nat} (d : FnRec) (hd : d ∈ fnTab) {A : Around} {us : List Value} {s : Shared} {Q : Value → Shared → Prop} {E : Value → Shared → Prop} (hh : A.handled = none) (hdep : A.depth + (lv + 1) < recursionLimit) (hun : A.units + 30 * (lv + 1) + 60 < cLine)
    (T : TF w s.heap) (hg : ∀ x ∈ s.gens, x.bare = true) {l₀ : Loc} {σ₀ : Sto} (cn : List Str) (hσ : σ₀.length = cn.length) (hcn : ∀ (L i : Nat) n, cn[i]? = some n → (cellsFrom (L + 1) d.scope.names []).lookup n = some (L + 1 + i))
    (hbind : ∀ pm cd doc, ∃ binds, bindArgs (docDef d.name d.params d.body d.scope pm cd doc) ⟨us, []⟩ = pure binds ∧
      (∀ x ∈ binds, d.scope.names.lookup x.1 = some .local ∨ (d.scope.names.lookup x.1 = some .cell ∧ ∀ L, ((cellsFrom (L + 1) d.scope.names []).lookup x.1).isSome = true)) ∧
      (∀ x v, l₀.lookup x = some v → ∃ u, bindL (fun n => d.scope.names.lookup n) binds (fun _ => none) x = some u ∧ VR [] v u) ∧
      (∀ (i : Nat) (n : Str), cn[i]? = some n → ∃ c, σ₀[i]? = some (PO.cell c) ∧ CR [] c (bindC (fun n => d.scope.names.lookup n) binds (fun _ => none) n)))
    {Ψ : PV → Sto → Prop} (hbody : ∀ cd, (inFrameC w A d cd s lv cn.length).Ok → Ex (inFrameC w A d cd s lv cn.length) d.body l₀ σ₀ (fun f _ σ' => ∃ v, f = .ret v ∧ Ψ v σ'))
    (hQ : ∀ cd v l' σ' as' s' u, Ψ v σ' → Rel (inFrameC w A d cd s lv cn.length) l' σ' as' s' → Kp s s' → (∀ a ∈ as', s.heap.get? a = none) → VR as' v u → Q u s')
    (hco : d.scope.isCoroutine = false := by rfl) (hgen : d.scope.isGenerator = false := by rfl) (hk : d.scope.kind = .function := by rfl) : wpAny (model Pg w) A (call (.ref d.addr) us) Q E s := by
  obtain ⟨o, pm, cd, doc, ho, hdat, hcd⟩ := T.fn d hd
  obtain ⟨binds, hb, hkind, hl₀, hc₀⟩ := hbind pm cd doc
  refine wpAny_call (call_cells_ret (by omega) ho hdat T.lim hcd hb (fun x hx => (hkind x hx).imp (fun h => h) fun h => ⟨h.1, h.2 _⟩) (fun h₁ tk F X => ?_) hco hgen hk)
  have O : (inFrameC w A d cd s lv cn.length).Ok := ⟨hh, hk, rfl, rfl, T, by show A.depth + 1 + lv < _; omega, by show A.units + 3 + 30 * lv + 60 < _; omega⟩
  have hst : ∀ i n, cn[i]? = some n → ∃ c, σ₀[i]? = some (.cell c) ∧ OH w ((List.range cn.length).map fun i => s.heap.objs.size + 1 + i) h₁ (s.heap.objs.size + 1 + i) (.cell c) := fun i n hi => by
    obtain ⟨c, hs, hr⟩ := hc₀ i n hi
    obtain ⟨o, ho, hd⟩ := X.cell n _ (hcn _ i n hi)
    refine ⟨c, hs, o, _, ho, hd, ?_⟩
    cases c with
    | none => exact hr
    | some v => obtain ⟨u, e, r⟩ := hr; exact ⟨u, e, r.of_nil⟩
  have hlt : ∀ i, i < cn.length → ∃ n, cn[i]? = some n := fun i hi => ⟨_, List.getElem?_eq_getElem hi⟩
  have big : ∀ i : Nat, s.heap.get? (s.heap.objs.size + 1 + i) = none := fun i => by
    cases e : s.heap.get? (s.heap.objs.size + 1 + i) with
    | none => rfl
    | some o' => exact absurd (Heap.lt_size e) (Nat.not_lt.mpr (by rw [Nat.add_assoc]; exact Nat.le_add_right _ _))
  have R₀ : Rel (inFrameC w A d cd s lv cn.length) l₀ σ₀ ((List.range cn.length).map fun i => s.heap.objs.size + 1 + i) { s with heap := h₁, toks := tk } := by
    refine ⟨⟨_, F, fun x v hx => ?_⟩, by simp [hσ], fun j o e => ?_, fun a ha => ?_, ?_, hg, rfl, fun p hp => ?_⟩
    · obtain ⟨u, hu, hvr⟩ := hl₀ x v hx
      exact ⟨u, hu, hvr.of_nil⟩
    · have hj : j < cn.length := by rw [← hσ]; exact (List.getElem?_eq_some_iff.mp e).1
      obtain ⟨n, hn⟩ := hlt j hj
      obtain ⟨c, hs, ho⟩ := hst j n hn
      rw [e] at hs; cases hs
      exact ⟨_, by simp [hj], ho⟩
    · obtain ⟨i, hi, rfl⟩ := List.mem_map.mp ha
      have hi' := List.mem_range.mp hi
      obtain ⟨n, hn⟩ := hlt i hi'
      obtain ⟨c, hs, ho⟩ := hst i n hn
      refine ⟨big i, ?_, ho.live⟩
      show s.heap.objs.size + 1 + i ≠ s.heap.objs.size
      omega
    · exact List.Pairwise.map _ (fun a b hab h => hab (by have h' : s.heap.objs.size + 1 + a = s.heap.objs.size + 1 + b := h; exact Nat.add_left_cancel h')) List.nodup_range
    · obtain ⟨i, hi, rfl⟩ := List.mem_map.mp hp
      have hi' := List.mem_range.mp hi
      simp [hi']
  refine (hbody cd O).run _ _ _ _ R₀ fun f l' σ' as' s' fl hf R' M' F' => ?_
  obtain ⟨v, rfl, hΨ⟩ := hf
  obtain ⟨u, rfl, hu⟩ := F'
  obtain ⟨⟨bs, rfl, hbs⟩, kp, gp⟩ := M'
  have fresh : ∀ a ∈ ((List.range cn.length).map fun i => s.heap.objs.size + 1 + i) ++ bs, s.heap.get? a = none := fun a ha => (R'.fs a ha).1
  refine hQ cd v l' σ' _ s' u hΨ R' ⟨fun b o e => kp b o (Nat.ne_of_lt (Heap.lt_size e)) (fun hm => ?_) (F.keep b o e), fun _ => R'.gn, R'.os, gp⟩ fresh hu
  have := fresh b (List.mem_append_left _ hm)
  rw [e] at this; cases this
end Mine
end
noncomputable section
open PySem PySem.Spec PySem.Calls PyProof.Rows PyProof.V PySem.W
set_option Elab.async false
set_option linter.unusedVariables false
set_option maxRecDepth 100000
namespace Mine

/-- a block of plain values -/
theorem evl_comp {C : Cx} {l : Loc} {σ : Sto} (O : C.Ok) {iter elt : PySem.Expr} {x : Str} {px pos : Pos} {ifs : List PySem.Expr} {scope : Scope} {cl : List (Str × Addr)} {n : Nat} {P : Nat → Value → Prop} (hit : EvC C l σ iter n P) (hsz : n ≤ sizeLine)
    (hclos : closureFor scope C.env = pure cl) (g : Nat → Option PV) (hg : ∀ i y, g i = some y → y.plain = true)
    (hitem : ∀ i u, i < n → P i u → ∃ v : PV, VR [] v u ∧ v.plain = true ∧ ∀ L, (compCx C scope cl L).Ok →
      ∃ b, CT (compCx C scope cl L) [(x, v)] σ ifs b ∧ (b = false → g i = none) ∧ (b = true → ∃ y, g i = some y ∧ Ev (compCx C scope cl L) [(x, v)] σ elt y))
    (hcell : ∀ y ∈ scope.names, y.2 ≠ .cell := by decide) (hkind : scope.kind = .function := by rfl) (hnames : ∀ y ∈ scope.names, y.2 = .local → scope.names.lookup y.1 = some .local := by decide) (hx : scope.names.lookup x = some .local := by rfl)
    (hs : ∀ x, foldedSetIterable iter C.env x = pure x := by intro _; rfl) : EvL C l σ (.ListComp elt [⟨.Name x px, iter, ifs, 0⟩] scope pos) ((List.range n).filterMap g) := by
  have h := evx_comp (C := C) (l := l) (σ := σ) O (elt := elt) (px := px) (pos := pos) (ifs := ifs) hit hsz hclos hcell hkind hnames hx (fun i τ ys => τ = [] ∧ ys = (List.range i).filterMap g) ⟨rfl, rfl⟩ (fun i τ ys h => by rw [h.2]; exact Nat.le_trans (List.length_filterMap_le _ _) (by simp))
    (fun i u hi hP => by
      obtain ⟨v, hv, hp, h⟩ := hitem i u hi hP
      refine ⟨v, hv, hp, ?_⟩
      rintro τ ys L ⟨rfl, rfl⟩ Oc
      obtain ⟨b, ht, h0, h1⟩ := h L Oc
      refine ⟨b, by rw [List.append_nil]; exact ht, fun hb => ⟨rfl, ?_⟩, fun hb => ?_⟩
      · rw [List.range_succ, List.filterMap_append, List.filterMap_cons, h0 hb]; simp
      · obtain ⟨y, hy, he⟩ := h1 hb
        refine ⟨[], y, by rw [List.append_nil]; exact he.x, rfl, ?_⟩
        rw [List.range_succ, List.filterMap_append, List.filterMap_cons, hy]; simp)
    (τ₁ := []) (ys₁ := (List.range n).filterMap g) (fun τ ys h => h) hs
  refine EvX.evl h (j := σ.length + 0) (by simp) ?_ (Nat.le_add_right _ _)
  rw [List.all_eq_true]
  intro y hy
  obtain ⟨i, _, hi⟩ := List.mem_filterMap.mp hy
  exact hg i y hi

theorem range_filterMap {α β : Type} (f : α → Option β) : ∀ (l : List α), (List.range l.length).filterMap (fun i => l[i]?.bind f) = l.filterMap f := by
  intro l
  have h : ∀ n, n ≤ l.length → (List.range n).filterMap (fun i => l[i]?.bind f) = (l.take n).filterMap f := by
    intro n
    induction n with
    | zero => intro _; rfl
    | succ n ih =>
      intro hn
      rw [List.range_succ, List.filterMap_append, ih (Nat.le_of_succ_le hn), List.take_succ, List.filterMap_append, List.filterMap_cons, List.filterMap_nil, List.getElem?_eq_getElem hn]
      cases hf : f l[n] <;> simp [hf]
  have := h l.length (Nat.le_refl _)
  rw [List.take_of_length_le (Nat.le_refl _)] at this
  exact this

/-- a contract with a word on what stood -/
noncomputable def FnTX (w : World) (lv : Nat) (f : Addr) (args : List PV) (vs : List PV) (P : Heap → Prop) : Prop :=
  ∀ (A : Around) (us : List Value) (s : Shared) (Q : Value → Shared → Prop) (E : Value → Shared → Prop), A.handled = none → A.depth + lv < recursionLimit → A.units + 30 * lv + 60 < cLine → TF w s.heap → (∀ x ∈ s.gens, x.bare = true) → P s.heap →
    All2 (VR []) args us → (∀ a s', Kp s s' → s.heap.get? a = none → OH w [] s'.heap a (.tup vs) → Q (.ref a) s') → wpAny (model Pg w) A (call (.ref f) us) Q E s
end Mine
end
noncomputable section
open PySem PySem.Spec PySem.Calls PyProof.Rows PyProof.V PySem.W
set_option Elab.async false
set_option linter.unusedVariables false
set_option maxRecDepth 100000
namespace Mine
theorem k_makes (P : Params) : makesIn (kF P) 274 = true := by kernel_rfl
theorem k_init (P : Params) : findIn (kF P) (.ref 274) "__init__" = some (some (.ref 168)) := by kernel_rfl
theorem k_conv (P : Params) : findIn (kF P) (.ref 274) "_convert_string_type" = some (some (.ref 175)) := by kernel_rfl
theorem k_add (P : Params) : findIn (kF P) (.ref 274) "add_header" = some (some (.ref 271)) := by kernel_rfl
theorem k_all (P : Params) : findIn (kF P) (.ref 274) "get_all" = some (some (.ref 213)) := by kernel_rfl
theorem k_ga (P : Params) : findIn (kF P) (.ref 274) "__getattribute__" = some (some (.builtin "object.__getattribute__")) := by kernel_rfl
theorem k_sa (P : Params) : findIn (kF P) (.ref 274) "__setattr__" = some (some (.builtin "object.__setattr__")) := by kernel_rfl
theorem k_gn (P : Params) : findIn (kF P) (.ref 274) "__getattr__" = some none := by kernel_rfl
theorem k_fn168 (P : Params) : typeIn (kF P) (.ref 168) = some (.type "function") := by kernel_rfl
theorem k_fn175 (P : Params) : typeIn (kF P) (.ref 175) = some (.type "function") := by kernel_rfl
theorem k_fn213 (P : Params) : typeIn (kF P) (.ref 213) = some (.type "function") := by kernel_rfl
theorem k_fn271 (P : Params) : typeIn (kF P) (.ref 271) = some (.type "function") := by kernel_rfl
theorem k_plain (P : Params) : plainOver (kF P) 274 = true := by kernel_rfl
theorem k_take (P : Params) : takerIn (kF P) 274 "_headers" = some none := by kernel_rfl
theorem k_find (P : Params) (t n : Nat) (hl : Addr) : findObj (kF P) 274 (some (dictOf [⟨PyData.keyHash P "_headers", .str "_headers" t, .ref hl⟩] n)) "_headers" = some (.value (.ref hl)) := by kernel_rfl
theorem k_code (P : Params) : codeIn (kF P) (.ref 167) "Headers.__init__" = true := by kernel_rfl
theorem k_code2 (P : Params) : codeIn (kF P) (.ref 174) "Headers._convert_string_type" = true := by kernel_rfl
theorem k_code3 (P : Params) : codeIn (kF P) (.ref 212) "Headers.get_all" = true := by kernel_rfl
theorem k_code4 (P : Params) : codeIn (kF P) (.ref 270) "Headers.add_header" = true := by kernel_rfl
end Mine
end
noncomputable section
open PySem PySem.Spec PySem.Calls PyProof.Rows PyProof.V PySem.W
set_option Elab.async false
set_option linter.unusedVariables false
set_option maxRecDepth 100000
namespace Mine

/-- a method's frame, own objects hidden from what stood -/
noncomputable def mFrame (w : World) (A : Around) (qual : Str) (scope : Scope) (f : Addr) (cd : Value) (s : Shared) (h₀ : Heap) (lv : Nat) (cls : List (Nat × Addr)) : Cx :=
  ⟨w, A.deeper (envOf qual scope s.heap.objs.size f cd), envOf qual scope s.heap.objs.size f cd, h₀, s.os, lv, cls⟩
noncomputable def retOf : Fl → Option PV
  | .ret v => some v
  | .next => some .none
  | _ => none

theorem all2_get {α β : Type} {R : α → β → Prop} {l : List α} {m : List β} (h : All2 R l m) : ∀ {i : Nat} {b : β}, m[i]? = some b → ∃ a, l[i]? = some a ∧ R a b := by
  induction h with
  | nil => intro i a e; simp at e
  | cons hr _ ih =>
    intro i a e
    cases i with
    | zero => simp at e; subst e; exact ⟨_, rfl, hr⟩
    | succ i => simp at e; simpa using ih e

theorem enterM2 {w : World} {A : Around} {lv : Nat} {f : Addr} {o : Obj} {name qual : Str} {params : Arguments} {body : List Stmt} {scope : Scope} {dV kV doc pm cdv ct : Value} {an : Option Addr} {args : Args} {binds : List (Str × Value)} {s₀ s : Shared} {R : Result → Shared → Prop}
    (ho : s₀.heap.get? f = some o) (hdata : o.data = .func (fnOf name qual params body scope dV kV doc pm an cdv ct)) (hcd : s₀.heap.CodeRec cdv qual)
    (hh : A.handled = none) (hdep : A.depth + (lv + 1) < recursionLimit) (hun : A.units + 30 * (lv + 1) + 60 < cLine) (hlim : s.heap.NoLimit) (hg : ∀ x ∈ s.gens, x.bare = true)
    (as₀ : List Addr) (σ₀ : Sto) (cls : List (Nat × Addr)) (hcls : ∀ p ∈ cls, as₀[p.1]? = some p.2) (T₀ : TF w (hideAll s.heap as₀)) (hst : All2 (fun a p => OH w as₀ s.heap a p) as₀ σ₀) (hnd : as₀.Nodup)
    (hbind : ∀ (A : Around) (E : Value → Shared → Prop) (Q : List (Str × Value) → Shared → Prop), Q binds s → wpAny (model Pg w) A (bindArgs (fnOf name qual params body scope dV kV doc pm an cdv ct) args) Q E s₀) (hloc : ∀ x ∈ binds, scope.names.lookup x.1 = some .local)
    {l₀ : Loc} (hl₀ : ∀ x v, l₀.lookup x = some v → ∃ u, binds.reverse.lookup x = some u ∧ VR as₀ v u) {Ψ : PV → Sto → Prop}
    (hbody : (mFrame w A qual scope f cdv s (hideAll s.heap as₀) lv cls).Ok → Ex (mFrame w A qual scope f cdv s (hideAll s.heap as₀) lv cls) body l₀ σ₀ (fun f _ σ' => ∃ v, retOf f = some v ∧ Ψ v σ'))
    (hQ : ∀ v σ' bs s' u, Ψ v σ' → (∀ (j : Nat) (p : PO), σ'[j]? = some p → ∃ a, (as₀ ++ bs)[j]? = some a ∧ OH w (as₀ ++ bs) s'.heap a p) → (∀ b ∈ bs, s.heap.get? b = none) → (as₀ ++ bs).Nodup → (∀ b o, b ∉ as₀ → s.heap.get? b = some o → s'.heap.get? b = some o) →
      (∀ x ∈ s'.gens, x.bare = true) → s'.os = s.os → (∀ (i : Nat) x, s.gens[i]? = some x → s'.gens[i]? = some x) → VR (as₀ ++ bs) v u → R (.ok (.ret u)) s')
    (hcell : ∀ x ∈ scope.names, x.2 ≠ .cell := by decide) (hco : scope.isCoroutine = false := by rfl) (hgen : scope.isGenerator = false := by rfl) (hk : scope.kind = .function := by rfl) : codeAny (model Pg w) A (.call (.ref f) args) R s₀ := by
  refine codeAny_call_function (fd := fnOf name qual params body scope dV kV doc pm an cdv ct) (body := body) (by omega) ho hdata hco hgen rfl hcd (hbind _ _ _ ?_)
  refine wpAny_newFunctionEnv hcell hloc (fun h₁ hns hsb => ⟨hlim.fresh _ hsb, codeAny_func ?_⟩) hk
  have hk₁ : ∀ b o, s.heap.get? b = some o → h₁.get? b = some o := fun b o e => hsb.extBut b o (Nat.ne_of_lt (Heap.lt_size e)) (Heap.get?_push_of_some _ e)
  have O : (mFrame w A qual scope f cdv s (hideAll s.heap as₀) lv cls).Ok := ⟨hh, hk, rfl, rfl, T₀, by show A.depth + 1 + lv < _; omega, by show A.units + 3 + 30 * lv + 60 < _; omega⟩
  have hlive : ∀ a ∈ as₀, ∃ o, s.heap.get? a = some o := fun a ha => by
    obtain ⟨i, hi⟩ := List.getElem?_of_mem ha
    obtain ⟨p, _, hp⟩ := hst.get hi
    exact hp.live
  have R₀ : Rel (mFrame w A qual scope f cdv s (hideAll s.heap as₀) lv cls) l₀ σ₀ as₀ { s with heap := h₁, toks := s.toks + binds.length } := by
    refine ⟨⟨_, ⟨hns, fun b o e => hk₁ b o (of_hideAll _ e), Nat.le_of_eq (hideAll_size _ _)⟩, hl₀⟩, hst.length, fun j p e => ?_, fun a ha => ?_, hnd, hg, rfl, hcls⟩
    · obtain ⟨a, ha, h⟩ := all2_get hst e
      exact ⟨a, ha, h.keeps (hk₁ a)⟩
    · obtain ⟨o, e⟩ := hlive a ha
      exact ⟨hideAll_none _ ha, Nat.ne_of_lt (Heap.lt_size e), o, hk₁ _ _ e⟩
  refine (hbody O).run _ _ _ _ R₀ fun fl l' σ' as' s' flw hf R' M' F' => ?_
  obtain ⟨v, hv, hΨ⟩ := hf
  obtain ⟨⟨bs, rfl, hbs⟩, kp, gp⟩ := M'
  have fin : ∀ u, VR (as₀ ++ bs) v u → R (.ok (.ret u)) s' := fun u hu => by
    refine hQ v σ' bs s' u hΨ R'.st (fun b hb => ?_) R'.nd (fun b o hb e => kp b o (Nat.ne_of_lt (Heap.lt_size e)) hb (hk₁ b o e)) R'.gn R'.os gp hu
    cases e : s.heap.get? b with
    | none => rfl
    | some o => have := hbs b hb; rw [show ({ s with heap := h₁, toks := s.toks + binds.length } : Shared).heap.get? b = h₁.get? b from rfl, hk₁ b o e] at this; cases this
  cases fl with
  | ret v' => cases hv; obtain ⟨u, rfl, hu⟩ := F'; exact fin u hu
  | next => cases hv; cases F'; exact fin .none rfl
  | brk => cases hv
  | cont => cases hv


theorem enterM {w : World} {A : Around} {lv : Nat} {f : Addr} {o : Obj} {name qual : Str} {params : Arguments} {body : List Stmt} {scope : Scope} {dV kV doc pm cdv ct : Value} {an : Option Addr} {args : Args} {binds : List (Str × Value)} {s : Shared} {R : Result → Shared → Prop}
    (ho : s.heap.get? f = some o) (hdata : o.data = .func (fnOf name qual params body scope dV kV doc pm an cdv ct)) (hcd : s.heap.CodeRec cdv qual)
    (hh : A.handled = none) (hdep : A.depth + (lv + 1) < recursionLimit) (hun : A.units + 30 * (lv + 1) + 60 < cLine) (hlim : s.heap.NoLimit) (hg : ∀ x ∈ s.gens, x.bare = true)
    (as₀ : List Addr) (σ₀ : Sto) (cls : List (Nat × Addr)) (hcls : ∀ p ∈ cls, as₀[p.1]? = some p.2) (T₀ : TF w (hideAll s.heap as₀)) (hst : All2 (fun a p => OH w as₀ s.heap a p) as₀ σ₀) (hnd : as₀.Nodup)
    (hbind : BindsTo s (fnOf name qual params body scope dV kV doc pm an cdv ct) args binds) (hloc : ∀ x ∈ binds, scope.names.lookup x.1 = some .local)
    {l₀ : Loc} (hl₀ : ∀ x v, l₀.lookup x = some v → ∃ u, binds.reverse.lookup x = some u ∧ VR as₀ v u) {Ψ : PV → Sto → Prop}
    (hbody : (mFrame w A qual scope f cdv s (hideAll s.heap as₀) lv cls).Ok → Ex (mFrame w A qual scope f cdv s (hideAll s.heap as₀) lv cls) body l₀ σ₀ (fun f _ σ' => ∃ v, retOf f = some v ∧ Ψ v σ'))
    (hQ : ∀ v σ' bs s' u, Ψ v σ' → (∀ (j : Nat) (p : PO), σ'[j]? = some p → ∃ a, (as₀ ++ bs)[j]? = some a ∧ OH w (as₀ ++ bs) s'.heap a p) → (∀ b ∈ bs, s.heap.get? b = none) → (as₀ ++ bs).Nodup → (∀ b o, b ∉ as₀ → s.heap.get? b = some o → s'.heap.get? b = some o) →
      (∀ x ∈ s'.gens, x.bare = true) → s'.os = s.os → (∀ (i : Nat) x, s.gens[i]? = some x → s'.gens[i]? = some x) → VR (as₀ ++ bs) v u → R (.ok (.ret u)) s')
    (hcell : ∀ x ∈ scope.names, x.2 ≠ .cell := by decide) (hco : scope.isCoroutine = false := by rfl) (hgen : scope.isGenerator = false := by rfl) (hk : scope.kind = .function := by rfl) : codeAny (model Pg w) A (.call (.ref f) args) R s :=
  enterM2 ho hdata hcd hh hdep hun hlim hg as₀ σ₀ cls hcls T₀ hst hnd (fun A E Q hq => hbind _ A E Q hq) hloc hl₀ hbody hQ hcell hco hgen hk

noncomputable def okT (r : Addr) (x : Str) : Prop := ∀ (P : Params) (pr : Program) (t : Nat), peek (kF P) ⟨pr, P⟩ (Builtin.«re.Pattern.search» ⟨[.ref r, .str x t], []⟩) = some (.done (.ret .none))
end Mine
end
noncomputable section
open PySem PySem.Spec PySem.Calls PyProof.Rows PyProof.V PySem.W
set_option Elab.async false
set_option linter.unusedVariables false
set_option maxRecDepth 100000
namespace Mine

theorem pa_pat : PlainAttrs "re.Pattern" :=
  ⟨⟨"object.__getattribute__", by rw [typeLookup_type, builtinLookup_eq_fast]; kernel_rfl, by decide +kernel⟩, by rw [typeLookup_type, builtinLookup_eq_fast]; kernel_rfl⟩
theorem slot_search : Slot "re.Pattern" "search" "re.Pattern.search" :=
  .of (owner := "re.Pattern") (n := "search") (by rw [typeLookup_type, builtinLookup_eq_fast]; kernel_rfl) (by decide +kernel) (by decide +kernel) (by decide +kernel)
    (by first | exact .inl (by decide +kernel) | exact .inr (by decide +kernel)) (by rw [isSubtype_type]; kernel_rfl)
theorem type_search : typeOf (.builtin "re.Pattern.search") = pure (.type "method_descriptor") := by show builtinType _ = _; rw [builtinType_eq_fast]; kernel_rfl
theorem entry_search : entryFor table "re.Pattern.search" = some Builtin.«re.Pattern.search» := entryFor_of_tree (by kernel_rfl)
theorem args_search (a b : Value) : argsOk "re.Pattern.search" ⟨[a, b], []⟩ := by unfold argsOk; kernel_rfl

theorem okT_n (x : Str) (h : x ∈ ([⟨#[114]⟩, ⟨#[103]⟩, ⟨#[98]⟩, ⟨#[82]⟩, ⟨#[71]⟩, ⟨#[66]⟩] : List Str)) : okT 140 x := by
  simp only [List.mem_cons, List.not_mem_nil, or_false] at h
  rcases h with rfl | rfl | rfl | rfl | rfl | rfl <;> intro P pr t <;> kernel_rfl

noncomputable def numTs : List Str := [⟨#[48]⟩, ⟨#[49]⟩, ⟨#[50]⟩, ⟨#[51]⟩, ⟨#[52]⟩, ⟨#[53]⟩, ⟨#[54]⟩, ⟨#[55]⟩, ⟨#[56]⟩, ⟨#[57]⟩, ⟨#[49, 48]⟩, ⟨#[49, 49]⟩, ⟨#[49, 50]⟩, ⟨#[49, 51]⟩, ⟨#[49, 52]⟩, ⟨#[49, 53]⟩, ⟨#[49, 54]⟩, ⟨#[49, 55]⟩, ⟨#[49, 56]⟩, ⟨#[49, 57]⟩, ⟨#[50, 48]⟩]
theorem okT_v (x : Str) (h : x ∈ numTs) : okT 145 x := by
  simp only [numTs, List.mem_cons, List.not_mem_nil, or_false] at h
  rcases h with rfl | rfl | rfl | rfl | rfl | rfl | rfl | rfl | rfl | rfl | rfl | rfl | rfl | rfl | rfl | rfl | rfl | rfl | rfl | rfl | rfl <;> intro P pr t <;> kernel_rfl

section
variable {C : Cx} {l : Loc} {σ : Sto}
theorem ev_glob (O : C.Ok) {x : Str} {pos : Pos} {a : Addr} (hx : (x, a) ∈ gTab) (hk : C.env.kindOf x = some .globalImplicit) (hd : (x == ("__debug__" : Str)) = false := by decide) : Ev C l σ (.Name x pos) (.ref a) := fun as s Q E R h =>
  nm_g O R hx hk (h _ _ (.refl _) rfl) hd
theorem ts_flag {x : Str} {pos : Pos} {b : Bool} (h : Ev C l σ (.Name x pos) (.bool b)) : Ts C l σ (.Name x pos) b := ts_plain h

theorem tf_pat {w : World} {h : Heap} (T : TF w h) {r : Addr} (hr : r = 140 ∨ r = 145) : ∃ o, h.get? r = some o ∧ o.cls = .type "re.Pattern" ∧ o.dict = none := by
  rcases hr with rfl | rfl
  · exact ⟨v140 w.params, T.k 140 _ rfl, rfl, rfl⟩
  · exact ⟨v145 w.params, T.k 145 _ rfl, rfl, rfl⟩
/-- regex.search(text): nothing is found -/
theorem ev_search (O : C.Ok) {o e : PySem.Expr} {apos pos : Pos} {r : Addr} {x : Str} (hr : r = 140 ∨ r = 145) (ho : Ev C l σ o (.ref r)) (he : Ev C l σ e (.str x)) (hx : okT r x)
    (hbase : attributeBase o "search" C.env (eval o C.env) = eval o C.env := by rfl) (htrees : backTo pos (starEach [e] C.env) = [(false, eval e C.env)] := by rfl) (hline : (apos.endLine == pos.line) = true := by rfl) :
    Ev C l σ (.Call (.Attribute o "search" apos) [e] [] pos) .none := fun as s Q E R hQ => by
  refine wpAny_Call_method1_late hbase hline htrees (ho as s _ E R fun u s₁ K vu => ?_)
  cases vu
  obtain ⟨ob, hg, hc, hd⟩ := tf_pat ((R.kp K).tf O) hr
  refine ⟨"re.Pattern", "re.Pattern.search", pa_pat, slot_search, type_search, ⟨ob, hg, hc⟩, fun a ea => by cases ea; exact ⟨ob, hg, hd⟩, ?_⟩
  refine method1_meetsIn slot_search entry_search (he as s₁ _ E (R.kp K) fun u s₂ K₂ vu => ?_)
  obtain ⟨t, rfl⟩ := vu
  obtain ⟨ob₂, hg₂, hc₂, _⟩ := tf_pat ((R.kp (K.trans K₂)).tf O) hr
  refine ⟨⟨ob₂, hg₂, hc₂⟩, args_search _ _, fun A R s => (kF C.w.params).In s.heap ∧ R (.ok (.ret .none)) s, ?_, ((R.kp (K.trans K₂)).tf O).k, hQ _ _ (K.trans K₂) rfl⟩
  intro A R s ⟨hK, hR⟩
  exact (Looks.of_peek (M := model Pg C.w) hK (hx C.w.params _ t)).here hR
theorem ts_search (O : C.Ok) {o e : PySem.Expr} {apos pos : Pos} {r : Addr} {x : Str} (hr : r = 140 ∨ r = 145) (ho : Ev C l σ o (.ref r)) (he : Ev C l σ e (.str x)) (hx : okT r x)
    (hbase : attributeBase o "search" C.env (eval o C.env) = eval o C.env := by rfl) (htrees : backTo pos (starEach [e] C.env) = [(false, eval e C.env)] := by rfl) (hline : (apos.endLine == pos.line) = true := by rfl)
    (hi : isTrue (.Call (.Attribute o "search" apos) [e] [] pos) C.env (eval (.Call (.Attribute o "search" apos) [e] [] pos) C.env) = (do let v ← eval (.Call (.Attribute o "search" apos) [e] [] pos) C.env; standAt (PySem.Expr.Call (.Attribute o "search" apos) [e] [] pos).pos; holding [v] (truthy v)) := by rfl) :
    Ts C l σ (.Call (.Attribute o "search" apos) [e] [] pos) false := fun as s Q E R h =>
  PyProof.Rows.isTrue_plain (ev_search O hr ho he hx hbase htrees hline as s _ E R fun u s₁ K vu => by cases vu; exact PyProof.Rows.truthy_none (h _ K)) hi

/-- type(text) is str -/
theorem ts_type_str (O : C.Ok) {np np' cp pos : Pos} {e : PySem.Expr} {x : Str} (he : Ev C l σ e (.str x)) (hk : C.env.kindOf "type" = some .globalImplicit) (hk' : C.env.kindOf "str" = some .globalImplicit) (hs : starEach [e] C.env = [(false, eval e C.env)] := by rfl) :
    Ts C l σ (.Compare (.Call (.Name "type" np) [e] [] cp) [.Is] [.Name "str" np'] pos) true := fun as s Q E R h =>
  wpAny_isTrue_Compare1 (Call_name1 hs (nm_b O R (by decide) (v := .type "type") (by decide +kernel) hk (PySem.callWith_type1 (he as s _ E R fun u s₁ K vu => by
    obtain ⟨t, rfl⟩ := vu
    refine call_type_of (Tx := "str") (typeIs_str _ _ _) (by decide +kernel) ?_
    exact nm_b O (R.kp K) (by decide) (v := .type "str") (by decide +kernel) hk' (wpAny_is_plain rfl (wpAny_truthy_bool (h _ K)))))))
end
end Mine
end
noncomputable section
open PySem PySem.Spec PySem.Calls PyProof.Rows PyProof.V PySem.W
set_option Elab.async false
set_option linter.unusedVariables false
set_option maxRecDepth 100000
namespace Mine

theorem binds_peek {s : Shared} {fd : FuncData} {args : Args} {binds : List (Str × Value)} (h : ∀ (S : Setting), peek [] S (bindArgs fd args) = some binds) : BindsTo s fd args binds := fun M A E Q hq =>
  Looks.of_peek (K := []) (h := s.heap) (fun _ _ e => nomatch e) (h _) A Q E s (fun _ _ e => e) hq

theorem conv_call (w : World) (nm : Bool) (x : Str) (hok : okT (if nm then 140 else 145) x) {A : Around} {self : Value} {t : Tok} {s : Shared} {Q : Value → Shared → Prop} {E : Value → Shared → Prop} (hh : A.handled = none) (hdep : A.depth + 1 < recursionLimit) (hun : A.units + 30 * 1 + 60 < cLine)
    (T : TF w s.heap) (hg : ∀ x ∈ s.gens, x.bare = true) (hQ : ∀ u s', Kp s s' → VR [] (.str x) u → Q u s') : wpAny (model Pg w) A (call (.ref 175) [self, .str x t] [("name", .bool nm)]) Q E s := by
  refine wpAny_call (enterM (lv := 0) (o := v175 w.params) (T.k 175 _ rfl) rfl (codeRec_of T.k (k_code2 w.params)) hh hdep hun T.lim hg [] [] [] (fun _ h => nomatch h) T .nil .nil (binds := [("self", self), ("value", .str x t), ("name", .bool nm)]) (binds_peek fun S => ?_) ?_
    (l₀ := [("value", .str x), ("name", .bool nm)]) ?_ (Ψ := fun v _ => v = .str x) (fun O => ?_) ?_)
  · kernel_rfl
  · intro y hy
    simp only [List.mem_cons, List.not_mem_nil, or_false] at hy
    rcases hy with rfl | rfl | rfl <;> rfl
  · intro y v hy
    have := PySem.mem_of_lookup hy
    simp at this
    rcases this with ⟨rfl, rfl⟩ | ⟨rfl, rfl⟩
    · exact ⟨_, rfl, t, rfl⟩
    · exact ⟨_, rfl, rfl⟩
  · refine ex_cons (sx_if (b := true) (ts_type_str O (ev_name (v := .str x) O rfl rfl) rfl rfl) (fun _ => ?_) (fun h0 => nomatch h0))
    have hr : (if nm then 140 else 145 : Nat) = 140 ∨ (if nm then 140 else 145 : Nat) = 145 := by cases nm <;> simp
    refine ex_cons (sx_assign O (v := .ref (if nm then 140 else 145)) (ev_if (ts_flag (ev_name (v := .bool nm) O rfl rfl)) (fun h => ?_) (fun h => ?_)) ?_ rfl)
    · subst h; exact ev_glob O (by simp [gTab]) rfl
    · subst h; exact ev_glob O (by simp [gTab]) rfl
    refine ex_cons (sx_if (b := false) (ts_search O hr (ev_name (v := .ref (if nm then 140 else 145)) O rfl rfl) (ev_name (v := .str x) O rfl rfl) hok) (fun h0 => nomatch h0) (fun _ => ?_))
    exact ex_nil (ex_cons (sx_ret (ev_name (v := .str x) O rfl rfl) ⟨_, rfl, rfl⟩))
  · rintro v σ' bs s' u rfl _ _ _ k g o p hu
    exact hQ u s' ⟨fun b o e => k b o (by simp) e, fun _ => g, o, p⟩ (hu.as_plain rfl)
end Mine
end
noncomputable section
open PySem PySem.Spec PySem.Calls PyProof.Rows PyProof.V PySem.W
set_option Elab.async false
set_option linter.unusedVariables false
set_option maxRecDepth 100000
namespace Mine

/-- an object that stood: its dict, its list -/
noncomputable def InstH (w : World) (h : Heap) (x di hl : Addr) : Prop := h.get? x = some (instObj 274 di) ∧ ∃ t n, h.get? di = some (PySem.W.dictOf [⟨PyData.keyHash w.params "_headers", .str "_headers" t, .ref hl⟩] n)
theorem InstH.keeps {w : World} {h h' : Heap} {x di hl : Addr} (i : InstH w h x di hl) (k : ∀ b o, h.get? b = some o → h'.get? b = some o) : InstH w h' x di hl :=
  ⟨k _ _ i.1, let ⟨t, n, e⟩ := i.2; ⟨t, n, k _ _ e⟩⟩
theorem InstH.at_ {w : World} {h : Heap} {x di hl : Addr} (i : InstH w h x di hl) : ∃ t n, PySem.W.InstAt h x (instObj 274 di) 274 (some (PySem.W.dictOf [⟨PyData.keyHash w.params "_headers", .str "_headers" t, .ref hl⟩] n)) :=
  let ⟨t, n, e⟩ := i.2; ⟨t, n, i.1, rfl, rfl, e⟩
theorem k_sh1 (P : Params) (t n : Nat) (hl : Addr) : shadowIn (some (PySem.W.dictOf [⟨PyData.keyHash P "_headers", .str "_headers" t, .ref hl⟩] n)) "_convert_string_type" = some false := by kernel_rfl
theorem k_sh2 (P : Params) (t n : Nat) (hl : Addr) : shadowIn (some (PySem.W.dictOf [⟨PyData.keyHash P "_headers", .str "_headers" t, .ref hl⟩] n)) "add_header" = some false := by kernel_rfl
theorem k_sh3 (P : Params) (t n : Nat) (hl : Addr) : shadowIn (some (PySem.W.dictOf [⟨PyData.keyHash P "_headers", .str "_headers" t, .ref hl⟩] n)) "get_all" = some false := by kernel_rfl

section
variable {C : Cx} {l : Loc} {σ : Sto} {Φ : Fl → Loc → Sto → Prop}
theorem Rel.h0 {as : List Addr} {s : Shared} (R : Rel C l σ as s) : ∀ b o, C.h₀.get? b = some o → s.heap.get? b = some o := let ⟨_, F, _⟩ := R.fr; F.keep

/-- a method of the object is found and called -/
theorem meth_call (O : C.Ok) {o : PySem.Expr} {nm : Str} {apos pos : Pos} {args : List PySem.Expr} {kws : List Keyword} {f : Addr} {x di hl : Addr} {s : Shared} {Q : Value → Shared → Prop} {E : Value → Shared → Prop}
    (hbase : attributeBase o nm C.env (eval o C.env) = eval o C.env) (hline : (apos.endLine == pos.line) = true) (hform : methodCallForm (args.length + kws.length) (backTo pos (starEach args C.env)) (backToKw pos (keywordEach kws C.env)) = true)
    (hf : ∀ P, findIn (kF P) (.ref 274) nm = some (some (.ref f))) (ht : ∀ P, typeIn (kF P) (.ref f) = some (.type "function")) (hs : ∀ P t n hl, shadowIn (some (PySem.W.dictOf [⟨PyData.keyHash P "_headers", .str "_headers" t, .ref hl⟩] n)) nm = some false)
    (ho : wpAny (model Pg C.w) C.A (eval o C.env) (fun u s₁ => u = .ref x ∧ TF C.w s₁.heap ∧ InstH C.w s₁.heap x di hl ∧
      wpAny (model Pg C.w) C.A (callWith pos (.ref f) [.ref x] (backTo pos (starEach args C.env)) (backToKw pos (keywordEach kws C.env))) Q E s₁) E s) :
    wpAny (model Pg C.w) C.A (eval (.Call (.Attribute o nm apos) args kws pos) C.env) Q E s := by
  rw [arm_eval_Call, hbase]
  refine wpAny_bind (wpAny_mono ho (fun u s₁ h₁ => ?_) fun _ _ e => e)
  obtain ⟨rfl, T, hI, hc⟩ := h₁
  refine wpAny_bind (wpAny_standAt ?_)
  have hpos : methodCallPos true o C.env apos pos = pure pos := by unfold methodCallPos; simp [hline]
  unfold methodCall
  rw [hform]
  obtain ⟨t, n, hi⟩ := hI.at_
  refine wpAny_bind (wpAny_holding (method_fn T.k hi (k_ga _) (k_gn _) (hf _) (ht _) (hs _ t n hl) ?_))
  exact wpAny_bind (wpAny_of_eq hpos hc)

/-- self._convert_string_type(text, name=flag) -/
theorem ev_conv (O : C.Ok) {o e ke : PySem.Expr} {apos pos kp : Pos} {x di hl : Addr} {y : Str} {nm : Bool} (ho : Ev C l σ o (.ref x)) (hI : InstH C.w C.h₀ x di hl) (he : Ev C l σ e (.str y)) (hk : Ev C l σ ke (.bool nm)) (hok : okT (if nm then 140 else 145) y) (hlv : 1 ≤ C.lv)
    (hbase : attributeBase o "_convert_string_type" C.env (eval o C.env) = eval o C.env := by rfl) (hline : (apos.endLine == pos.line) = true := by rfl)
    (hform : methodCallForm (([e] : List PySem.Expr).length + ([⟨some "name", ke, kp⟩] : List Keyword).length) (backTo pos (starEach [e] C.env)) (backToKw pos (keywordEach [⟨some "name", ke, kp⟩] C.env)) = true := by rfl)
    (hs : backTo pos (starEach [e] C.env) = [(false, eval e C.env)] := by rfl) (hw : backToKw pos (keywordEach [⟨some "name", ke, kp⟩] C.env) = [(some ("name" : Str), do let v ← eval ke C.env; standAt pos; pure v)] := by rfl) :
    Ev C l σ (.Call (.Attribute o "_convert_string_type" apos) [e] [⟨some "name", ke, kp⟩] pos) (.str y) := fun as s Q E R hQ => by
  refine meth_call O hbase hline hform k_conv k_fn175 k_sh1 (ho as s _ E R fun u s₁ K vu => ⟨by cases vu; rfl, (R.kp K).tf O, hI.keeps (R.kp K).h0, ?_⟩)
  rw [hs, hw]
  obtain ⟨fd, hfd⟩ : ∃ fd, (v175 C.w.params).data = .func fd := ⟨_, rfl⟩
  refine callWith_function_kw (o := v175 C.w.params) (fd := fd) (evalArgs_kw rfl (Calls.spliced_cons (he as s₁ _ E (R.kp K) fun u₁ s₂ K₂ vu₁ => Calls.spliced_nil (wpAny_evalAll_cons (wpAny_bind (hk as s₂ _ E (R.kp (K.trans K₂)) fun u₂ s₃ K₃ vu₂ => wpAny_bind (wpAny_standAt (wpAny_pure (wpAny_evalAll_nil ?_)))))))))
  have K₁₃ := (K.trans K₂).trans K₃
  have T := (R.kp K₁₃).tf O
  refine ⟨⟨T.k 175 _ rfl, hfd⟩, ?_⟩
  obtain ⟨t, rfl⟩ := vu₁
  cases vu₂
  have := O.dep
  have := O.un
  exact conv_call C.w nm y hok O.hh (by omega) (by omega) T (R.kp K₁₃).gn fun u s₄ K₄ vu => hQ u s₄ (K₁₃.trans K₄) vu.of_nil

/-- self._headers -/
theorem self_headers (O : C.Ok) {o : PySem.Expr} {pos : Pos} {x di hl : Addr} (ho : Ev C l σ o (.ref x)) (hI : InstH C.w C.h₀ x di hl) {as : List Addr} {s : Shared} {Q : Value → Shared → Prop} {E : Value → Shared → Prop} (R : Rel C l σ as s) (hQ : ∀ s', Kp s s' → Q (.ref hl) s')
    (hbase : attributeBase o "_headers" C.env (eval o C.env) = eval o C.env := by rfl) (htg : ∀ u r, letTemporaryGo o u r = pure () := by intro _ _; rfl) : wpAny (model Pg C.w) C.A (eval (.Attribute o "_headers" pos) C.env) Q E s := by
  rw [arm_eval_Attribute, hbase]
  refine wpAny_bind (ho as s _ E R fun u s₁ K vu => wpAny_bind (wpAny_standAt (wpAny_bind (wpAny_holding ?_))))
  cases vu
  obtain ⟨t, n, hi⟩ := (hI.keeps (R.kp K).h0).at_
  refine get_value ((R.kp K).tf O).k hi (k_ga _) (k_find _ t n hl) rfl ?_
  rw [htg]
  exact wpAny_bind (wpAny_pure (wpAny_pure (hQ _ K.toks')))
theorem ev_headers_own (O : C.Ok) {o : PySem.Expr} {pos : Pos} {x di hl : Addr} {j : Nat} (ho : Ev C l σ o (.ref x)) (hI : InstH C.w C.h₀ x di hl) (hj : (j, hl) ∈ C.cls)
    (hbase : attributeBase o "_headers" C.env (eval o C.env) = eval o C.env := by rfl) (htg : ∀ u r, letTemporaryGo o u r = pure () := by intro _ _; rfl) : Ev C l σ (.Attribute o "_headers" pos) (.obj j) := fun as s Q E R hQ =>
  self_headers O ho hI R (fun s' K => hQ _ _ K ⟨hl, R.cs _ hj, rfl⟩) hbase htg
theorem ev_headers_ext (O : C.Ok) {o : PySem.Expr} {pos : Pos} {x di hl : Addr} (ho : Ev C l σ o (.ref x)) (hI : InstH C.w C.h₀ x di hl)
    (hbase : attributeBase o "_headers" C.env (eval o C.env) = eval o C.env := by rfl) (htg : ∀ u r, letTemporaryGo o u r = pure () := by intro _ _; rfl) : Ev C l σ (.Attribute o "_headers" pos) (.ref hl) := fun as s Q E R hQ =>
  self_headers O ho hI R (fun s' K => hQ _ _ K rfl) hbase htg

/-- the items of a list that stood -/
theorem evc_ext (O : C.Ok) {e : PySem.Expr} {a : Addr} {α : Type} {f : α → PV} {xs : List α} (he : Ev C l σ e (.ref a)) (hx : ExtL C.h₀ a (xs.map f)) (hp : (xs.map f).all PV.plain = true) : EvC C l σ e xs.length (AtP (xs.map f)) := fun as s Q E R h =>
  he as s _ E R fun u s₁ K vu => by
    cases vu
    obtain ⟨us, hl, hus⟩ := hx.keeps (R.kp K).h0
    have hsz : us.length = xs.length := by rw [← hus.length, List.length_map]
    refine wpAny_pyIter_list hl ?_
    obtain ⟨o, hg, hc, m, hd⟩ := hl
    have K₁ : Kp s { s₁ with heap := s₁.heap.push { cls := .type "list_iterator", data := .fields #[.ref a, .int 0 0] } } := K.heap' (tk := s₁.toks) fun b o' e => Heap.get?_push_of_some _ e
    have hne : a ≠ s₁.heap.objs.size := Nat.ne_of_lt (Heap.lt_size hg)
    have W := Walks.list (prog := Pg) (w := C.w) (A := C.A) O.hh s₁.heap.objs.size a hne us.toArray
    have hP : ∀ i v, (us.toArray)[i]? = some v → AtP (xs.map f) i v := fun i v hv => by
      have hv' : us[i]? = some v := by simpa using hv
      obtain ⟨p, hp1, hp2⟩ := all2_get hus hv'
      exact ⟨p, hp1, hp2⟩
    have hn' : us.toArray.size = xs.length := by simpa using hsz
    rw [hn'] at W
    refine h _ _ _ _ _ K₁ ⟨W.sub, W.frame, fun i s Q E hi st hQ => W.item i s Q E hi st fun v h' tk hv => hQ v h' tk (hP i v hv), W.done, W.self⟩ ⟨⟨_, Heap.get?_push_size _ rfl, rfl, rfl⟩, ⟨_, Heap.get?_push_of_some _ hg, hc, m, hd⟩⟩
      (fun i h st b hb => ?_) (fun b hb => ?_)
    · rcases List.mem_cons.mp hb with rfl | hb
      · obtain ⟨o, e, _⟩ := st.1; exact ⟨o, e⟩
      · rw [List.mem_singleton.mp hb]; obtain ⟨o, e, _⟩ := st.2; exact ⟨o, e⟩
    · rw [List.mem_singleton.mp hb]
      exact fresh_size K

/-- a tuple that stood -/
noncomputable def ExtT (h : Heap) (a : Addr) (vs : List PV) : Prop := ∃ (us : List Value) (n : Nat), h.get? a = some { cls := .type "tuple", data := .seq us.toArray n } ∧ All2 (VR []) vs us
theorem ExtT.keeps {h h' : Heap} {a : Addr} {vs : List PV} (x : ExtT h a vs) (k : ∀ b o, h.get? b = some o → h'.get? b = some o) : ExtT h' a vs := let ⟨us, n, e, q⟩ := x; ⟨us, n, k _ _ e, q⟩
theorem ev_item_ext {e₁ e₂ : PySem.Expr} {pos : Pos} {a : Addr} {k : Int} {vs : List PV} {v : PV} (h₁ : Ev C l σ e₁ (.ref a)) (hx : ExtT C.h₀ a vs) (h₂ : Ev C l σ e₂ (.int k)) (h0 : 0 ≤ k) (hfit : k < 2 ^ 63) (hv : vs[k.toNat]? = some v)
    (hs : ∀ a t, subscripted e₂ false (.ref a) (.int k t) = operate [.ref a, .int k t] (getItem (.ref a) (.int k t)) := by intro _ _; with_unfolding_all rfl) : Ev C l σ (.Subscript e₁ e₂ pos) v := fun as s Q E R h =>
  PyProof.Rows.Subscript_ (h₁ as s _ E R fun u s₁ K vu => h₂ as s₁ _ E (R.kp K) fun u₂ s₂ K₂ vu₂ => by
    cases vu
    obtain ⟨t, rfl⟩ := vu₂
    obtain ⟨us, n, ho, hus⟩ := hx.keeps (R.kp (K.trans K₂)).h0
    have hl : IsTup s₂.heap a us.toArray := ⟨_, ho, rfl, n, rfl⟩
    obtain ⟨u, hu, hvu⟩ := hus.get hv
    have hlt : k.toNat < us.toArray.size := by
      have := (List.getElem?_eq_some_iff.mp hu).1
      simpa using this
    refine tail_any ⟨_, ho, rfl⟩ PySem.F.slot_tuple_getitem.lookup (getItem_tuple (j := k.toNat) hl (by omega) hfit ?_ (by simpa using hu) (h u s₂ (K.trans K₂) hvu.of_nil)) (hs a t)
    · have hn : ¬ k < 0 := by omega
      have hl : k < (us.length : Int) := by have := (List.getElem?_eq_some_iff.mp hu).1; omega
      unfold seqIndex?
      simp [hn, h0, hl])
end
end Mine
end
noncomputable section
open PySem PySem.Spec PySem.Calls PyProof.Rows PyProof.V PySem.W
set_option Elab.async false
set_option linter.unusedVariables false
set_option maxRecDepth 100000
namespace Mine
theorem binds_peekK {w : World} {s : Shared} {fd : FuncData} {args : Args} {binds : List (Str × Value)} (T : (kF w.params).In s.heap) (h : ∀ P, peek (kF P) ⟨Pg, P⟩ (bindArgs fd args) = some binds) (A : Around) (E : Value → Shared → Prop) (Q : List (Str × Value) → Shared → Prop) (hq : Q binds s) :
    wpAny (model Pg w) A (bindArgs fd args) Q E s := (Looks.of_peek (M := model Pg w) T (h _)).here hq
section
variable {C : Cx} {l : Loc} {σ : Sto} {Φ : Fl → Loc → Sto → Prop}

/-- an iterable that has no item -/
noncomputable def EvN (C : Cx) (l : Loc) (σ : Sto) (e : PySem.Expr) : Prop := ∀ (as : List Addr) (s : Shared) (Q : Value → Shared → Prop) (E : Value → Shared → Prop), Rel C l σ as s →
  (∀ it s', (∀ (Q' : Option Value → Shared → Prop) (E' : Value → Shared → Prop), (∀ s₃, Rel C l σ as s₃ → Mv C as s as s₃ → Q' none s₃) → wpAny (model Pg C.w) C.A (pyNext it) Q' E' s') → Q it s') →
    wpAny (model Pg C.w) C.A (eval e C.env) (fun u s₁ => wpAny (model Pg C.w) C.A (pyIter u) Q E s₁) E s
theorem evn_of_c {e : PySem.Expr} {P : Nat → Value → Prop} (h : EvC C l σ e 0 P) : EvN C l σ e := fun as s Q E R hQ =>
  h as s Q E R fun I s' fp wr St K W hst hlv hwr => hQ (.ref I) s' fun Q' E' h' => W.done s' Q' E' hst fun h₁ tk hk => by
    have R' := R.kp K
    have ne : ∀ b o, s.heap.get? b = some o → b ∉ wr := fun b o e hb => by rw [hwr b hb] at e; cases e
    refine h' _ (R'.walk (tk := tk) hk (fun hb => ?_) (fun a ha hb => ?_) fun b o e hb => ?_) ⟨⟨[], by simp, by simp⟩, fun b o _ _ e => hk b o (ne b o e) (K.k b o e), K.p⟩
    · obtain ⟨o, e⟩ := R.locals; exact ne _ o e hb
    · obtain ⟨_, _, o, e⟩ := R.fs a ha; exact ne _ o e hb
    · exact ne b o (R.h0 b o e) hb
theorem sx_for_none {target it : PySem.Expr} {body : List Stmt} {pos : Pos} (h : EvN C l σ it) (hΦ : Φ .next l σ) (hs : ∀ x, foldedSetIterable it C.env x = pure x := by intro _; rfl) : Sx C (.For target it body [] pos) l σ Φ := .mk fun as s Q E R hQ =>
  wpAny_For (h as s _ E R fun itv s' hn => codeAny_forLoop_any (fun _ s'' => s'' = s') (by
    rintro n _ rfl
    exact hn _ _ fun s₃ R₃ M₃ => wpAny_execs_nil (hQ _ _ _ _ _ _ hΦ R₃ M₃ rfl)) 0 rfl) hs

theorem ev_debug {p : Pos} : Ev C l σ (.Name "__debug__" p) (.bool true) := fun as s Q E R h => by
  rw [arm_eval_Name]
  refine wpAny_bind (wpAny_standAt ?_)
  rw [if_pos (by decide)]
  exact wpAny_bind (wpAny_rule (wpAny_pure (h _ _ (.refl _) rfl)))
theorem ts_debug {p : Pos} : Ts C l σ (.Name "__debug__" p) true := ts_plain (ev_debug (p := p))
theorem cmp_isnot_none_ref {w : World} {a : Addr} : Cmp w .IsNot (.ref a) .none true := by
  rintro A _ _ s Q E rfl rfl h
  exact wpAny_isNot_other rfl (by intro x; cases x) h
/-- type(xs) is not list -/
theorem ts_type_list (O : C.Ok) {np np' cp pos : Pos} {e : PySem.Expr} {a : Addr} {vs : List PV} (he : Ev C l σ e (.ref a)) (hx : ExtL C.h₀ a vs) (hk : C.env.kindOf "type" = some .globalImplicit) (hk' : C.env.kindOf "list" = some .globalImplicit) (hs : starEach [e] C.env = [(false, eval e C.env)] := by rfl) :
    Ts C l σ (.Compare (.Call (.Name "type" np) [e] [] cp) [.IsNot] [.Name "list" np'] pos) false := fun as s Q E R h =>
  wpAny_isTrue_Compare1 (Call_name1 hs (nm_b O R (by decide) (v := .type "type") (by decide +kernel) hk (PySem.callWith_type1 (he as s _ E R fun u s₁ K vu => by
    cases vu
    obtain ⟨us, ⟨o, ho, hc, _⟩, _⟩ := hx.keeps (R.kp K).h0
    refine call_type_of (Tx := "list") ⟨o, ho, hc⟩ (by decide +kernel) ?_
    exact nm_b O (R.kp K) (by decide) (v := .type "list") (by decide +kernel) hk' (wpAny_isNot_plain rfl (wpAny_truthy_bool (h _ K)))))))

/-- self._headers = xs, in __init__ -/
theorem sx_set_headers (O : C.Ok) {o e : PySem.Expr} {tp pos : Pos} {x dx hl : Addr} (he : Ev C l [.rawd [] 0] e (.ref hl)) (ho : Ev C l [.rawd [] 0] o (.ref x)) (hx : C.h₀.get? x = some (instObj 274 dx)) (hcls : (0, dx) ∈ C.cls)
    (hΦ : ∀ t, Φ .next l [.rawd [⟨PyData.keyHash C.w.params "_headers", .str "_headers" t, .ref hl⟩] 1]) (hsw : swapsWith e (some (.Attribute o "_headers" tp)) pos.line C.env = pure false := by rfl) : Sx C (.Assign [.Attribute o "_headers" tp] e pos) l [.rawd [] 0] Φ := .mk fun as s Q E R hQ => by
  refine plainObj_wpAny_Assign_Attribute (he as s _ E R fun u s₁ K vu => ho as s₁ _ E (R.kp K) fun u₂ s₂ K₂ vu₂ => ?_) hsw
  cases vu
  cases vu₂
  have K₁₂ := K.trans K₂
  have R₂ := R.kp K₁₂
  have ha : as = [dx] := by
    have h1 := R.ln
    have h2 := R.cs _ hcls
    match as, h1, h2 with
    | [a], _, h2 => cases h2; rfl
  subst ha
  obtain ⟨m, F, hm⟩ := R₂.fr
  obtain ⟨a, ha, hd⟩ := R₂.st 0 _ rfl
  cases ha
  have hd : s₂.heap.get? dx = some (PySem.W.dictOf [] 0) := hd
  have hI : PySem.W.InstAt s₂.heap x (instObj 274 dx) 274 (some (PySem.W.dictOf [] 0)) := ⟨R₂.h0 _ _ hx, rfl, rfl, hd⟩
  obtain ⟨f1, f2, _⟩ := R₂.fs dx (List.mem_singleton.mpr rfl)
  have T := (R₂.tf O)
  refine set_plain T.k hI (k_sa _) ?_
  have F' : Fr C.h₀ C.env.locals ({ s₂ with toks := s₂.toks + 1 } : Shared).heap m := F
  obtain ⟨rest, hrest⟩ : ∃ r : List (Addr × Obj), r = (List.range s₂.heap.objs.size).filterMap (fun b => if b = C.env.locals ∨ b = dx ∨ (C.h₀.get? b).isSome = true then none else (s₂.heap.get? b).map fun o => (b, o)) := ⟨_, rfl⟩
  have hr : ∀ p ∈ rest, s₂.heap.get? p.1 = some p.2 ∧ p.1 ≠ C.env.locals ∧ C.h₀.get? p.1 = none ∧ p.1 ≠ dx := fun p hp => by
    rw [hrest] at hp
    obtain ⟨b, _, hb⟩ := List.mem_filterMap.mp hp
    split at hb
    · cases hb
    · rename_i hc
      simp only [not_or] at hc
      obtain ⟨c1, c2, c3⟩ := hc
      obtain ⟨o, ho, rfl⟩ := Option.map_eq_some_iff.mp hb
      refine ⟨ho, c1, ?_, c2⟩
      cases q : C.h₀.get? b with
      | none => rfl
      | some o' => rw [q] at c3; exact absurd rfl c3
  have hr2 : ∀ b o, b ≠ C.env.locals → b ≠ dx → C.h₀.get? b = none → s₂.heap.get? b = some o → (b, o) ∈ rest := fun b o c1 c2 c3 e => by
    rw [hrest]
    refine List.mem_filterMap.mpr ⟨b, List.mem_range.mpr (Heap.lt_size e), ?_⟩
    rw [if_neg (by simp [c1, c2, c3]), e]; rfl
  have E1 : Obj.putName "_headers" (PyData.keyHash C.w.params "_headers") (.str "_headers" (s₂.toks + 1)) (.ref hl) (PySem.W.dictOf [] 0) = PySem.W.dictOf [⟨PyData.keyHash C.w.params "_headers", .str "_headers" (s₂.toks + 1), .ref hl⟩] 1 := rfl
  have E2 : (clsIn (kF C.w.params) 274).any (·.hasDict) = true := by kernel_rfl
  have E3 : (lookIn "_headers" (PySem.W.dictOf [] 0)).isSome = true := by kernel_rfl
  refine osa_dict (s := { s₂ with toks := s₂.toks + 1 }) (pre := []) (post := rest) (od := PySem.W.dictOf [] 0) (od' := PySem.W.dictOf [⟨PyData.keyHash C.w.params "_headers", .str "_headers" (s₂.toks + 1), .ref hl⟩] 1) (es := [⟨PyData.keyHash C.w.params "_headers", .str "_headers" (s₂.toks + 1), .ref hl⟩]) (n := 1) F' (fun p hp => ?_) T.k hI rfl (k_plain _) (k_take _) E2 E3 (fun p hp => nomatch hp) (fun p hp => (hr p hp).2.2.2) E1 rfl (by simp) fun h' F₂ N₂ => ?_
  · rcases List.mem_cons.mp hp with rfl | hp
    · exact ⟨hd, f2, f1⟩
    · exact ⟨(hr p hp).1, (hr p hp).2.1, (hr p hp).2.2.1⟩
  · obtain ⟨n1, n2, n3⟩ := N₂ (dx, _) (.head _)
    refine hQ _ _ _ [dx] _ _ (hΦ (s₂.toks + 1)) ⟨⟨m, F₂, hm⟩, rfl, fun j p e => ?_, fun b hb => ?_, R₂.nd, R₂.gn, R₂.os, R₂.cs⟩ ⟨⟨[], by simp, by simp⟩, fun b o hb hm' e => ?_, K₁₂.p⟩ rfl
    · match j, e with
      | 0, e => cases e; exact ⟨dx, rfl, n1⟩
    · rw [List.mem_singleton.mp hb]; exact ⟨f1, f2, _, n1⟩
    · have e₂ := K₁₂.k b o e
      cases q : C.h₀.get? b with
      | some o' =>
        have := R₂.h0 b o' q
        rw [e₂] at this; cases this
        exact F₂.keep b _ q
      | none => exact (N₂ (b, o) (.tail _ (hr2 b o hb (fun h => hm' (List.mem_singleton.mpr h)) q e₂))).1
end
end Mine
end
noncomputable section
open PySem PySem.Spec PySem.Calls PyProof.Rows PyProof.V PySem.W
set_option Elab.async false
set_option linter.unusedVariables false
set_option maxRecDepth 100000
namespace Mine

theorem hide1_get {h : Heap} {a b : Addr} {o : Obj} (e : h.get? b = some o) (n : b ≠ a) : (hideAll h [a]).get? b = some o := hideAll_get _ e (by simpa using n)
/-- what a frame leans on lies below what is fresh -/
theorem TF.of_sub {w : World} {h h' : Heap} (T : TF w h) (k : ∀ b o, h.get? b = some o → h'.get? b = some o) : TF w h' := T.keeps k

/-- Headers(xs), xs an empty list -/
theorem init_code (w : World) {A : Around} {s₀ s : Shared} {x dx hl : Addr} {R : Result → Shared → Prop} (hh : A.handled = none) (hdep : A.depth + 2 < recursionLimit) (hun : A.units + 30 * 2 + 60 < cLine) (T : TF w s₀.heap) (hg : ∀ z ∈ s.gens, z.bare = true)
    (k : ∀ b o, s₀.heap.get? b = some o → s.heap.get? b = some o) (hdx : s₀.heap.get? dx = none) (hE : ExtL s₀.heap hl []) (hx : s.heap.get? x = some (instObj 274 dx)) (hxd : x ≠ dx) (hd : s.heap.get? dx = some (PySem.W.dictOf [] 0))
    (hQ : ∀ s' t, (∀ b o, b ≠ dx → s.heap.get? b = some o → s'.heap.get? b = some o) → s'.heap.get? dx = some (PySem.W.dictOf [⟨PyData.keyHash w.params "_headers", .str "_headers" t, .ref hl⟩] 1) → (∀ z ∈ s'.gens, z.bare = true) → s'.os = s.os → (∀ (i : Nat) z, s.gens[i]? = some z → s'.gens[i]? = some z) → R (.ok (.ret .none)) s') :
    codeAny (model Pg w) A (.call (.ref 168) ⟨[.ref x, .ref hl], []⟩) R s := by
  have kh : ∀ b o, s₀.heap.get? b = some o → (hideAll s.heap [dx]).get? b = some o := fun b o e => hide1_get (k b o e) (fun q => by rw [q, hdx] at e; cases e)
  have Th : TF w (hideAll s.heap [dx]) := T.keeps kh
  have Ts := T.keeps k
  refine enterM2 (s₀ := s) (lv := 1) (o := v168 w.params) (Ts.k 168 _ rfl) rfl (codeRec_of Ts.k (k_code w.params)) hh hdep hun Ts.lim hg [dx] [.rawd [] 0] [(0, dx)] (fun p hp => ?_) Th (.cons hd .nil) (by simp) (binds := [("self", .ref x), ("headers", .ref hl)]) (binds_peekK Ts.k fun P => ?_) ?_
    (l₀ := [("self", .ref x), ("headers", .ref hl)]) ?_ (Ψ := fun v σ' => v = .none ∧ ∃ t, σ' = [.rawd [⟨PyData.keyHash w.params "_headers", .str "_headers" t, .ref hl⟩] 1]) (fun O => ?_) ?_
  · rw [List.mem_singleton.mp hp]; rfl
  · kernel_rfl
  · intro y hy
    simp only [List.mem_cons, List.not_mem_nil, or_false] at hy
    rcases hy with rfl | rfl <;> rfl
  · intro y v hy
    have := PySem.mem_of_lookup hy
    simp at this
    rcases this with ⟨rfl, rfl⟩ | ⟨rfl, rfl⟩
    · exact ⟨_, rfl, rfl⟩
    · exact ⟨_, rfl, rfl⟩
  · have hE' : ExtL (hideAll s.heap [dx]) hl [] := hE.keeps kh
    refine ex_cons (sx_assign O (v := .ref hl) (ev_if (b := true) (ts_cmp (ev_name (v := .ref hl) O rfl rfl) ev_none cmp_isnot_none_ref) (fun _ => ev_name (v := .ref hl) O rfl rfl) (fun h0 => nomatch h0)) ?_ rfl)
    refine ex_cons (sx_if (b := false) (ts_type_list O (ev_name (v := .ref hl) O rfl rfl) hE' rfl rfl) (fun h0 => nomatch h0) (fun _ => ex_nil ?_))
    refine ex_cons (sx_set_headers O (ev_name (v := .ref hl) O rfl rfl) (ev_name (v := .ref x) O rfl rfl) (hide1_get hx hxd) (by simp [mFrame]) fun t => ?_)
    refine ex_cons (sx_if (b := true) (ts_plain ev_bool) (fun _ => ?_) (fun h0 => nomatch h0))
    refine ex_cons (sx_for_none (evn_of_c (evc_ext (f := fun x : Nat => PV.int x) (xs := []) O (ev_name (v := .ref hl) O rfl rfl) hE' rfl)) ?_)
    exact ex_nil (ex_nil ⟨.none, rfl, rfl, t, rfl⟩)
  · rintro v σ' bs s' u ⟨rfl, t, rfl⟩ hst hb hn kp g o p hu
    cases hu
    obtain ⟨a, ha, hd'⟩ := hst 0 _ rfl
    have : a = dx := by simpa using ha.symm
    subst this
    exact hQ s' t (fun b o hb e => kp b o (by simpa using hb) e) hd' g o p
end Mine
end
noncomputable section
open PySem PySem.Spec PySem.Calls PyProof.Rows PyProof.V PySem.W
set_option Elab.async false
set_option linter.unusedVariables false
set_option maxRecDepth 100000
namespace Mine

theorem k_keep (P : Params) : keepIn (kF P) (.ref 274) = true := by kernel_rfl
theorem Rel.add {C : Cx} {l : Loc} {σ : Sto} {as : List Addr} {s : Shared} (R : Rel C l σ as s) {a : Addr} {o : PO} (h0 : C.h₀.get? a = none) (hL : a ≠ C.env.locals) (ha : a ∉ as) (ho : OH C.w (as ++ [a]) s.heap a o) : Rel C l (σ ++ [o]) (as ++ [a]) s := by
  obtain ⟨⟨m, F, hm⟩, ln, st, fs, nd, gn, os, cs⟩ := R
  refine ⟨⟨m, F, fun x v hx => let ⟨u, hu, hv⟩ := hm x v hx; ⟨u, hu, hv.app⟩⟩, by simp [ln], fun j p e => ?_, fun b hb => ?_, ?_, gn, os, fun p hp => ?_⟩
  · rcases Nat.lt_or_ge j σ.length with hj | hj
    · rw [List.getElem?_append_left hj] at e
      obtain ⟨b, hb, h⟩ := st j p e
      exact ⟨b, by rw [List.getElem?_append_left (List.getElem?_eq_some_iff.mp hb).1]; exact hb, h.app⟩
    · have hj0 : j = σ.length := by
        have := (List.getElem?_eq_some_iff.mp e).1
        simp only [List.length_append, List.length_cons, List.length_nil] at this; omega
      subst hj0
      simp at e
      subst e
      exact ⟨a, by rw [← ln]; simp, ho⟩
  · rcases List.mem_append.mp hb with hb | hb
    · exact fs b hb
    · rw [List.mem_singleton.mp hb]; exact ⟨h0, hL, ho.live⟩
  · refine List.nodup_append.mpr ⟨nd, by simp, fun x hx y hy => ?_⟩
    rw [List.mem_singleton.mp hy]
    rintro rfl
    exact ha hx
  · rw [List.getElem?_append_left (List.getElem?_eq_some_iff.mp (cs p hp)).1]; exact cs p hp

theorem evx_headers {C : Cx} {l : Loc} {σ : Sto} (O : C.Ok) (hlv : 4 ≤ C.lv) {np lp pos : Pos} (hk : C.env.kindOf "Headers" = some .globalImplicit) :
    EvX C l σ (.Call (.Name "Headers" np) [.List [] lp] [] pos) [.list [], .attrs σ.length, .inst (σ.length + 1)] (.obj (σ.length + 2)) := .mk fun as s Q E R hQ => by
  refine PyProof.Rows.Call_Name rfl (nm_g O R (a := 274) (by simp [gTab]) hk ?_)
  have T₀ := R.tf O
  refine callWith_K (pos := pos) (env := C.env) (e := .List [] lp) (rest := []) (first := []) T₀.k (k_keep _) ?_
  refine Calls.spliced_cons ((show EvL C l σ (.List [] lp) [] from evl_list evas_nil) as s _ E R fun hl s₁ K hn ho => Calls.spliced_nil ⟨((R.kp K).tf O).k, ?_⟩)
  have R₁ := R.kp K
  have T₁ := R₁.tf O
  obtain ⟨hh₁, g, d, t, os⟩ := s₁
  have := O.dep
  have := O.un
  refine wpAny_call (make_core (makes_of T₁.k (k_makes _)) (looks_findIn T₁.k (k_init _)) (fun self => bind_fn T₁.k self (k_fn168 _)) (.inl rfl) ?_)
  obtain ⟨us, n, hg, hus⟩ := ho
  cases hus
  have hE : ExtL hh₁ hl [] := ⟨[], ⟨_, hg, rfl, n, rfl⟩, .nil⟩
  have kk : ∀ b o, hh₁.get? b = some o → ((hh₁.push emptyDict).push (instObj 274 hh₁.objs.size)).get? b = some o := fun b o e => Heap.get?_push_of_some _ (Heap.get?_push_of_some _ e)
  have hx : ((hh₁.push emptyDict).push (instObj 274 hh₁.objs.size)).get? (hh₁.objs.size + 1) = some (instObj 274 hh₁.objs.size) := by heap_get
  have hd : ((hh₁.push emptyDict).push (instObj 274 hh₁.objs.size)).get? hh₁.objs.size = some (PySem.W.dictOf [] 0) := by heap_get
  have nn : ∀ a, hh₁.objs.size ≤ a → hh₁.get? a = none := fun a ha => by
    cases e : hh₁.get? a with
    | none => rfl
    | some o' => exact absurd (Heap.lt_size e) (Nat.not_lt.mpr ha)
  refine init_code C.w (s₀ := ⟨hh₁, g, d, t, os⟩) (dx := hh₁.objs.size) (hl := hl) O.hh ?_ ?_ T₁ R₁.gn kk (nn _ (Nat.le_refl _)) hE hx (Nat.succ_ne_self _) hd fun s' t' k' hd' g' o' p' => ⟨rfl, ?_⟩
  · show C.A.depth + 1 + 2 < _; omega
  · show C.A.units + 1 + 30 * 2 + 60 < _; omega
  have K' : Kp ⟨hh₁, g, d, t, os⟩ s' := ⟨fun b o e => k' b o (fun q => by rw [q, nn _ (Nat.le_refl _)] at e; cases e) (kk b o e), fun _ => g', o', p'⟩
  have Rp : Rel C l (σ ++ [.list []]) (as ++ [hl]) ⟨hh₁, g, d, t, os⟩ := R.push K hn ⟨[], n, hg, .nil⟩
  have R₂ := Rp.kp K'
  have fr : ∀ a, hh₁.objs.size ≤ a → C.h₀.get? a = none ∧ a ≠ C.env.locals ∧ a ∉ as ++ [hl] := fun a ha => by
    have hna := nn a ha
    refine ⟨?_, fun q => ?_, fun q => ?_⟩
    · cases e : C.h₀.get? a with
      | none => rfl
      | some o => have := R₁.h0 a o e; rw [show (⟨hh₁, g, d, t, os⟩ : Shared).heap.get? a = hh₁.get? a from rfl, hna] at this; cases this
    · obtain ⟨o, e⟩ := R₁.locals
      rw [← q] at e
      rw [show (⟨hh₁, g, d, t, os⟩ : Shared).heap.get? a = hh₁.get? a from rfl, hna] at e; cases e
    · obtain ⟨_, _, o, e⟩ := Rp.fs a q
      rw [show (⟨hh₁, g, d, t, os⟩ : Shared).heap.get? a = hh₁.get? a from rfl, hna] at e; cases e
  have hln : as.length = σ.length := R.ln
  obtain ⟨f1, f2, f3⟩ := fr hh₁.objs.size (Nat.le_refl _)
  have R₃ : Rel C l (σ ++ [.list []] ++ [.attrs σ.length]) (as ++ [hl] ++ [hh₁.objs.size]) s' := R₂.add f1 f2 f3 ⟨t', 1, hl, hd', by rw [← hln]; simp⟩
  obtain ⟨g1, g2, g3⟩ := fr (hh₁.objs.size + 1) (Nat.le_succ _)
  have hxs : s'.heap.get? (hh₁.objs.size + 1) = some (instObj 274 hh₁.objs.size) := k' _ _ (Nat.succ_ne_self _) hx
  have hd1 : (as ++ [hl] ++ [hh₁.objs.size] ++ [hh₁.objs.size + 1])[σ.length + 1]? = some hh₁.objs.size := by
    rw [← hln, List.append_assoc, List.append_assoc, List.getElem?_append_right (by omega)]
    simp
  have R₄ : Rel C l (σ ++ [.list []] ++ [.attrs σ.length] ++ [.inst (σ.length + 1)]) (as ++ [hl] ++ [hh₁.objs.size] ++ [hh₁.objs.size + 1]) s' :=
    R₃.add g1 g2 (fun hm => (List.mem_append.mp hm).elim g3 fun q => Nat.succ_ne_self _ (List.mem_singleton.mp q)) ⟨hh₁.objs.size, hxs, hd1⟩
  have ks : ∀ a, hh₁.get? a = none → s.heap.get? a = none := fun a ha => by
    cases e : s.heap.get? a with
    | none => rfl
    | some o => have := K.k a o e; rw [show (⟨hh₁, g, d, t, os⟩ : Shared).heap.get? a = hh₁.get? a from rfl, ha] at this; cases this
  refine hQ _ [hl, hh₁.objs.size, hh₁.objs.size + 1] s' (K.trans K') ?_ ?_ ⟨hh₁.objs.size + 1, ?_, rfl⟩
  · have e1 : as ++ [hl] ++ [hh₁.objs.size] ++ [hh₁.objs.size + 1] = as ++ [hl, hh₁.objs.size, hh₁.objs.size + 1] := by simp
    have e2 : σ ++ [PO.list []] ++ [.attrs σ.length] ++ [.inst (σ.length + 1)] = σ ++ [.list [], .attrs σ.length, .inst (σ.length + 1)] := by simp
    rw [e1, e2] at R₄
    exact R₄
  · intro b hb
    simp only [List.mem_cons, List.not_mem_nil, or_false] at hb
    rcases hb with rfl | rfl | rfl
    · exact hn
    · exact ks _ (nn _ (Nat.le_refl _))
    · exact ks _ (nn _ (Nat.le_succ _))
  · rw [← hln, List.getElem?_append_right (by omega)]
    simp
end Mine
end
noncomputable section
open PySem PySem.Spec PySem.Calls PyProof.Rows PyProof.V PySem.W
set_option Elab.async false
set_option linter.unusedVariables false
set_option maxRecDepth 100000
namespace Mine
section
variable {C : Cx} {l : Loc} {σ : Sto} {Φ : Fl → Loc → Sto → Prop}

theorem sx_appendX (O : C.Ok) {o e : PySem.Expr} {apos cpos pos : Pos} {j : Nat} {vs : List PV} {x : PV} {τ : Sto} (he : Ev C l σ o (.obj j)) (hv : EvX C l σ e τ x) (hj : σ[j]? = some (.list vs)) (hsz : vs.length ≤ sizeLine)
    (hΦ : Φ .next l ((σ ++ τ).set j (.list (vs ++ [x])))) (hint : interactive C.env = false := by rfl) (hsw : swapsWith (.Call (.Attribute o "append" apos) [e] [] cpos) none pos.line C.env = pure false := by rfl)
    (hbase : attributeBase o "append" C.env (eval o C.env) = eval o C.env := by rfl)
    (hfew : ((backTo cpos (starEach [e] C.env)).all (fun x => !x.1) && (backToKw cpos (keywordEach [] C.env)).all (fun x => x.1.isSome)
      && decide (([e] : List PySem.Expr).length + ([] : List Keyword).length + (if ([] : List Keyword).isEmpty then 0 else 1) < 30)) = true := by rfl)
    (hline : (apos.endLine == cpos.line) = true := by rfl) (htrees : backTo cpos (starEach [e] C.env) = [(false, eval e C.env)] := by rfl) :
    Sx C (.Expr (.Call (.Attribute o "append" apos) [e] [] cpos) pos) l σ Φ := .mk fun as s Q E R hQ =>
  wpAny_Expr (wpAny_Call_append hbase hfew hline htrees (he as s _ E R fun u s₁ K vu => by
    obtain ⟨a, ha, rfl⟩ := vu
    obtain ⟨a', ha', us, n, ho, hus⟩ := (R.kp K).st j _ hj
    rw [ha] at ha'; cases ha'
    refine ⟨a, us.toArray, rfl, ⟨_, n, ho, rfl, rfl, rfl⟩, hv.run as s₁ _ E (R.kp K) fun ux bs s₂ K₂ R₂ hbs vx => ?_⟩
    have hj₂ : (σ ++ τ)[j]? = some (.list vs) := by rw [List.getElem?_append_left (List.getElem?_eq_some_iff.mp hj).1]; exact hj
    have ha₂ : (as ++ bs)[j]? = some a := by rw [List.getElem?_append_left (List.getElem?_eq_some_iff.mp ha).1]; exact ha
    obtain ⟨a', ha', us', n', ho', hus'⟩ := R₂.st j _ hj₂
    rw [ha₂] at ha'; cases ha'
    refine wpAny_list_append_plain (hsz := by rw [List.size_toArray, ← hus'.length]; exact hsz) ⟨n', ho'⟩ fun h' hpl hs => ?_
    obtain ⟨n₂, hg⟩ := hpl
    have e1 : us'.toArray.push ux = (us' ++ [ux]).toArray := by simp
    rw [e1] at hg
    have ham : a ∈ as := List.mem_of_getElem? ha
    refine hQ _ _ _ (as ++ bs) _ _ hΦ (R₂.setObj (tk := s₂.toks) ha₂ hs ⟨_, n₂, hg, hus'.snoc vx⟩)
      ⟨⟨bs, rfl, fun b hb => ?_⟩, fun b o hb hm e => (hs.2 b (fun h => hm (h ▸ ham))).trans ((K.trans K₂).k b o e), (K.trans K₂).p⟩ rfl
    cases q : s.heap.get? b with
    | none => rfl
    | some o => have := K.k b o q; rw [hbs b hb] at this; cases this)) hint hsw

/-- the items of an empty dict that stood -/
theorem evn_items (O : C.Ok) {o : PySem.Expr} {apos pos : Pos} {D : Addr} (ho : Ev C l σ o (.ref D)) (hD : C.h₀.get? D = some (PySem.W.dictOf [] 0)) (hm : (D == sysModules) = false)
    (hbase : attributeBase o "items" C.env (eval o C.env) = eval o C.env := by rfl) (hline : (apos.endLine == pos.line) = true := by rfl) : EvN C l σ (.Call (.Attribute o "items" apos) [] [] pos) := fun as s Q E R hQ => by
  have dof : ∀ s', Rel C l σ as s' → s'.heap.DictAt (PySem.strKind Pg C.w) D [] 0 := fun s' R' => ⟨_, _, R'.h0 _ _ hD, ⟨rfl, rfl, rfl⟩, rfl, by intro e he; simp at he, Pairs.nil, List.nodup_nil⟩
  refine wpAny_Call_method0_late hbase hline (ho as s _ E R fun u s₁ K vu => ?_)
  cases vu
  have R₁ := R.kp K
  have hg := R₁.h0 _ _ hD
  refine ⟨"dict", "dict.items", PySem.F.plainAttrs_dict, PySem.F.slot_dict_items, PySem.F.type_dict_items, ⟨_, hg, rfl⟩, fun a ea => by cases ea; exact ⟨_, hg, rfl⟩, ?_⟩
  refine method_meetsIn PySem.F.slot_dict_items PySem.F.entry_dict_items rfl (PyProof.Rows.evalArgs_none ⟨rfl, ⟨_, hg, rfl⟩, PySem.F.args_dict_items_1 _, _, meets_dict_items (PySem.strKind Pg C.w) D hm, ⟨[], ?_⟩, ?_⟩)
  · exact let ⟨o, es, a, b, c, d⟩ := dof _ R₁; ⟨o, es, 0, a, b, c, d⟩
  have K₁ : Kp s { s₁ with heap := s₁.heap.push { cls := .type "dict_items", data := .fields #[.ref D] } } := K.heap' (tk := s₁.toks) fun b o' e => Heap.get?_push_of_some _ e
  refine wpAny_pyIter_items (d := D) ⟨_, Heap.get?_push_size _ rfl, rfl, rfl⟩ (dof _ (R.kp K₁)) ?_
  have K₂ : ∀ ob, Kp s { s₁ with heap := (s₁.heap.push { cls := .type "dict_items", data := .fields #[.ref D] }).push ob } := fun ob => K₁.heap' (tk := s₁.toks) fun b o' e => Heap.get?_push_of_some _ e
  refine hQ _ _ fun Q' E' h' => ?_
  have R₂ := R.kp (K₂ { cls := .type "dict_itemiterator", data := .fields #[.none, .bool false, .ref D, .int 0 0, .int ([] : List (Str × Value)).length 0, .int 0 0, .none, .none] })
  refine wpAny_pyNext_items_end (kvs := ([] : List (Str × Value))) O.hh (Heap.get?_push_size _ rfl) (dof _ R₂) rfl fun h₃ hx => ?_
  have K₂' := K₂ { cls := .type "dict_itemiterator", data := .fields #[.none, .bool false, .ref D, .int 0 0, .int ([] : List (Str × Value)).length 0, .int 0 0, .none, .none] }
  have hfr := fresh_size K₁
  have ne : ∀ b o, s.heap.get? b = some o → b ∉ [(s₁.heap.push { cls := .type "dict_items", data := .fields #[.ref D] }).objs.size] := fun b o e hb => by
    rw [List.mem_singleton.mp hb] at e
    rw [hfr] at e; cases e
  have hk : ∀ b o, b ∉ [(s₁.heap.push { cls := .type "dict_items", data := .fields #[.ref D] }).objs.size] → ((s₁.heap.push { cls := .type "dict_items", data := .fields #[.ref D] }).push { cls := .type "dict_itemiterator", data := .fields #[.none, .bool false, .ref D, .int 0 0, .int ([] : List (Str × Value)).length 0, .int 0 0, .none, .none] }).get? b = some o → h₃.get? b = some o := fun b o hb e => hx b o (fun q => hb (List.mem_singleton.mpr q)) e
  refine h' _ (R₂.walk (tk := s₁.toks) hk (fun hb => ?_) (fun a ha hb => ?_) fun b o e hb => ?_) ⟨⟨[], by simp, by simp⟩, fun b o _ _ e => hk b o (ne b o e) (K₂'.k b o e), K₂'.p⟩
  · obtain ⟨o, e⟩ := R.locals; exact ne _ o e hb
  · obtain ⟨_, _, o, e⟩ := R.fs a ha; exact ne _ o e hb
  · exact ne b o (R.h0 b o e) hb
end
end Mine
end
noncomputable section
open PySem PySem.Spec PySem.Calls PyProof.Rows PyProof.V PySem.W
set_option Elab.async false
set_option linter.unusedVariables false
set_option maxRecDepth 100000
namespace Mine
local macro_rules | `(tactic| walk_at "room") => `(tactic| first | assumption | exact of_decide_eq_true rfl | omega | (rw [sizeLine_eq]; omega))

noncomputable def peekC {α : Type} (K : Frag) (S : Setting) (D : Addr) : Sem α → Option (Obj × α)
  | .rule _ k => peekC K S D (k ())
  | .point _ k => peekC K S D (k ())
  | .ask k => peekC K S D (k S)
  | .load a _ k => (match K.lookup a with
      | some o => peekC K S D (k o)
      | none => none)
  | .alloc o k => (peek K S (k D)).map fun a => (o, a)
  | _ => none
theorem wp_of_peekC {α : Type} {K : Frag} {M : Model} {A : Around} {E : Value → Shared → Prop} {Q : α → Shared → Prop} {s : Shared} (X : K.In s.heap) :
    ∀ (t : Sem α) (o : Obj) (a : α), peekC K ⟨M.prog, M.w.params⟩ s.heap.objs.size t = some (o, a) → Q a { s with heap := s.heap.push o } → wpAny M A t Q E s := by
  intro t
  induction t with
  | rule _ k ih => intro o a e q; exact nd_rule (ih () o a e q)
  | point _ k ih => intro o a e q; exact nd_point (ih () o a e q)
  | ask k ih => intro o a e q; exact nd_ask (ih _ o a e q)
  | load b _ k ih =>
    intro o a e q
    simp only [peekC] at e
    split at e
    · rename_i ob ho; exact nd_load (X _ _ ho) (ih ob o a e q)
    · cases e
  | alloc ob k _ =>
    intro o a e q
    simp only [peekC] at e
    obtain ⟨b, hb, he⟩ := Option.map_eq_some_iff.mp e
    cases he
    exact nd_alloc ((Looks.of_peek (M := M) (X.keeps fun b o e => Heap.get?_push_of_some _ e) hb).here q)
  | _ => intro o a e; cases e

theorem refs_snoc {as : List Addr} {j : Nat} {a : Addr} (ha : as[j]? = some a) : ∀ {ts : List Addr} {us : List Value}, All2 (VR as) (ts.map PV.ref ++ [.obj j]) us → All2 (VR []) ((ts ++ [a]).map PV.ref) us
  | [], us, h => by
    obtain _ | ⟨⟨b, hb, rfl⟩, _ | _⟩ := h
    rw [ha] at hb; cases hb
    exact .cons rfl .nil
  | t :: ts, us, h => by
    obtain _ | ⟨h1, h2⟩ := h
    exact .cons h1 (refs_snoc ha h2)
theorem add_code (w : World) {A : Around} {s : Shared} {h₀ : Heap} {x di hl : Addr} {ts : List Addr} {nm val : Str} {tn tv : Tok} {R : Result → Shared → Prop} (hh : A.handled = none) (hdep : A.depth + 3 < recursionLimit) (hun : A.units + 30 * 3 + 60 < cLine) (T : TF w h₀)
    (k : ∀ b o, h₀.get? b = some o → s.heap.get? b = some o) (h0 : h₀.get? hl = none) (hg : ∀ z ∈ s.gens, z.bare = true) (hI : InstH w s.heap x di hl) (hxl : x ≠ hl) (hdl : di ≠ hl) (hL : OH w [] s.heap hl (.list (ts.map .ref))) (hlen : ts.length ≤ 1000) (hn : okT 140 nm) (hv : okT 145 val) (hvl : val.length ≤ 1000)
    (hQ : ∀ s' ta, (∀ b o, b ≠ hl → s.heap.get? b = some o → s'.heap.get? b = some o) → OH w [] s'.heap hl (.list ((ts ++ [ta]).map .ref)) → s.heap.get? ta = none → OH w [] s'.heap ta (.tup [.str nm, .str (Txt.join ⟨#[59, 32]⟩ [val])]) → (∀ z ∈ s'.gens, z.bare = true) → s'.os = s.os → (∀ (i : Nat) z, s.gens[i]? = some z → s'.gens[i]? = some z) → R (.ok (.ret .none)) s') :
    codeAny (model Pg w) A (.call (.ref 271) ⟨[.ref x, .str nm tn, .str val tv], []⟩) R s := by
  have Ts := T.keeps k
  obtain ⟨ol, hol⟩ := hL.live
  have s1 : ∀ b o, s.heap.get? b = some o → (s.heap.push (PySem.W.dictOf [] 0)).get? b = some o := fun b o e => Heap.get?_push_of_some _ e
  have kh : ∀ b o, b ≠ hl → s.heap.get? b = some o → (hideAll (s.heap.push (PySem.W.dictOf [] 0)) [hl]).get? b = some o := fun b o n e => hide1_get (s1 b o e) n
  have Th : TF w (hideAll (s.heap.push (PySem.W.dictOf [] 0)) [hl]) := T.keeps fun b o e => kh b o (fun q => by rw [q, h0] at e; cases e) (k b o e)
  have hIh : InstH w (hideAll (s.heap.push (PySem.W.dictOf [] 0)) [hl]) x di hl := ⟨kh _ _ hxl hI.1, let ⟨t, n, e⟩ := hI.2; ⟨t, n, kh _ _ hdl e⟩⟩
  have hDh : (hideAll (s.heap.push (PySem.W.dictOf [] 0)) [hl]).get? s.heap.objs.size = some (PySem.W.dictOf [] 0) := hide1_get (Heap.get?_push_size _ rfl) (Ne.symm (Nat.ne_of_lt (Heap.lt_size hol)))
  have hDm : (s.heap.objs.size == sysModules) = false := beq_eq_false_iff_ne.mpr (Nat.ne_of_gt (modules_low Ts.lim))
  have hL1 : OH w [hl] (s.heap.push (PySem.W.dictOf [] 0)) hl (.list (ts.map .ref)) := (hL.keeps fun o e => s1 _ _ e).app (bs := [hl])
  refine enterM2 (s₀ := s) (s := { s with heap := s.heap.push (PySem.W.dictOf [] 0) }) (lv := 2) (o := v271 w.params) (Ts.k 271 _ rfl) rfl (codeRec_of Ts.k (k_code4 w.params)) hh hdep hun (Ts.keeps s1).lim hg [hl] [.list (ts.map .ref)] [(0, hl)] (fun p hp => ?_) Th (.cons hL1 .nil) (by simp)
    (binds := [("self", .ref x), ("_name", .str nm tn), ("_value", .str val tv), ("_params", .ref s.heap.objs.size)]) (fun A E Q hq => wp_of_peekC (K := kF w.params) (M := model Pg w) Ts.k _ (PySem.W.dictOf [] 0) _ ?_ hq) ?_
    (l₀ := [("self", .ref x), ("_name", .str nm), ("_value", .str val), ("_params", .ref s.heap.objs.size)]) ?_ (Ψ := fun v σ' => v = .none ∧ σ' = [.list (ts.map .ref ++ [.obj 2]), .list [.str val], .tup [.str nm, .str (Txt.join ⟨#[59, 32]⟩ [val])]]) (fun O => ?_) ?_
  · rw [List.mem_singleton.mp hp]; rfl
  · kernel_rfl
  · intro y hy
    simp only [List.mem_cons, List.not_mem_nil, or_false] at hy
    rcases hy with rfl | rfl | rfl | rfl <;> rfl
  · intro y v hy
    have := PySem.mem_of_lookup hy
    simp at this
    rcases this with ⟨rfl, rfl⟩ | ⟨rfl, rfl⟩ | ⟨rfl, rfl⟩ | ⟨rfl, rfl⟩
    · exact ⟨_, rfl, rfl⟩
    · exact ⟨_, rfl, tn, rfl⟩
    · exact ⟨_, rfl, tv, rfl⟩
    · exact ⟨_, rfl, rfl⟩
  · refine ex_cons (sx_assignL O (evl_list evas_nil) ?_ rfl)
    refine ex_cons (sx_if (b := true) (ts_cmp (ev_name (v := .str val) O rfl rfl) ev_none cmp_isnot_none_str) (fun _ => ?_) (fun h0 => nomatch h0))
    refine ex_cons (sx_assign O (ev_conv (nm := false) O (ev_name (v := .ref x) O rfl rfl) hIh (ev_name (v := .str val) O rfl rfl) ev_bool hv (by show 1 ≤ 2; omega)) ?_ rfl)
    refine ex_cons (sx_append O (vs := []) (ev_name (v := .obj 1) O rfl rfl) (ev_name (v := .str val) O rfl rfl) rfl (by simp) ?_)
    refine ex_nil (ex_cons (sx_for_none (evn_items O (ev_name (v := .ref s.heap.objs.size) O rfl rfl) hDh hDm) ?_))
    refine ex_cons (sx_appendX O (vs := ts.map .ref) (τ := [.tup [.str nm, .str (Txt.join ⟨#[59, 32]⟩ [val])]]) (x := .obj 2) (ev_headers_own (j := 0) O (ev_name (v := .ref x) O rfl rfl) hIh (by simp [mFrame])) (evx_tup (evas_cons (ev_conv (nm := true) O (ev_name (v := .ref x) O rfl rfl) hIh (ev_name (v := .str nm) O rfl rfl) ev_bool hn (by show 1 ≤ 2; omega)) (evas_cons (ev_join_obj (ws := [val]) ev_str (ev_name (v := .obj 1) O rfl rfl) rfl (joinOk_of ?_)) evas_nil))) rfl ?_ ?_)
    · simp
      rw [sizeLine_eq]
      have : (⟨#[59, 32]⟩ : Str).length = 2 := rfl
      omega
    · rw [List.length_map, sizeLine_eq]; omega
    · exact ex_nil ⟨.none, rfl, rfl, rfl⟩
  · rintro v σ' bs s' u ⟨rfl, rfl⟩ hst hb hnd kp g o p hu
    cases hu
    obtain ⟨a0, ha0, us, n, hus, hall⟩ := hst 0 _ rfl
    obtain ⟨a2, ha2, ht⟩ := hst 2 _ rfl
    have e0 : a0 = hl := by simpa using ha0.symm
    subst e0
    have hfr : s.heap.get? a2 = none := by
      have : a2 ∈ bs := by
        have h2 : ([a0] ++ bs)[2]? = some a2 := ha2
        rw [List.getElem?_append_right (by simp)] at h2
        exact List.mem_of_getElem? h2
      have hb2 := hb a2 this
      cases q : s.heap.get? a2 with
      | none => rfl
      | some o => have := s1 _ _ q; rw [show ({ s with heap := s.heap.push (PySem.W.dictOf [] 0) } : Shared).heap.get? a2 = (s.heap.push (PySem.W.dictOf [] 0)).get? a2 from rfl, this] at hb2; cases hb2
    refine hQ s' a2 (fun b o hb e => kp b o (by simpa using hb) (s1 b o e)) ⟨us, n, hus, ?_⟩ hfr ?_ g o p
    · exact refs_snoc ha2 hall
    · obtain ⟨us', n', h1, h2⟩ := ht
      exact ⟨us', n', h1, h2.as_plain rfl⟩
end Mine
end
noncomputable section
open PySem PySem.Spec PySem.Calls PyProof.Rows PyProof.V PySem.W
set_option Elab.async false
set_option linter.unusedVariables false
set_option maxRecDepth 100000
namespace Mine
local macro_rules | `(tactic| walk_at "num") => `(tactic| first | exact of_decide_eq_true rfl | assumption | omega)
local macro_rules | `(tactic| walk_at "mem") => `(tactic| first | decide | (simp [gTab, fnTab, bNames]; done))
local macro_rules | `(tactic| walk_at "room") => `(tactic| first | assumption | exact of_decide_eq_true rfl | omega | (rw [sizeLine_eq]; omega))

noncomputable def codesL : List Nat := [114, 82, 8475, 119825, 103, 71, 119970, 119814, 98, 66, 8492, 119809, 13191, 173, 8203, 65025]
noncomputable def meansL : List Str := [⟨#[114]⟩, ⟨#[114]⟩, ⟨#[114]⟩, ⟨#[114]⟩, ⟨#[103]⟩, ⟨#[103]⟩, ⟨#[103]⟩, ⟨#[103]⟩, ⟨#[98]⟩, ⟨#[98]⟩, ⟨#[98]⟩, ⟨#[98]⟩, ⟨#[103, 98]⟩, ⟨#[]⟩, ⟨#[]⟩, ⟨#[]⟩]
/-- the picks, as numbers below 16 -/
noncomputable def pickL (xs : List Int) : List Nat := (xs.take 8).map (fun x => (x.fmod 16).toNat) ++ [7, 13, 8, 1, 12]
noncomputable def codeOf (k : Nat) : Nat := codesL[k]?.getD 0
noncomputable def meanOf (k : Nat) : Str := meansL[k]?.getD ⟨#[]⟩
noncomputable def signT (xs : List Int) : Str := Txt.join ⟨#[]⟩ ((pickL xs).map fun k => ⟨#[codeOf k]⟩)
noncomputable def signW (xs : List Int) : Str := Txt.join ⟨#[]⟩ ((pickL xs).map meanOf)
theorem fmod16 (x : Int) : 0 ≤ x.fmod 16 ∧ x.fmod 16 < 16 := by
  rw [Int.fmod_eq_emod_of_nonneg x (by decide)]
  exact ⟨Int.emod_nonneg x (by decide), Int.emod_lt_of_pos x (by decide)⟩
theorem pickL_lt (xs : List Int) : ∀ k ∈ pickL xs, k < 16 := by
  intro k hk
  rcases List.mem_append.mp hk with h | h
  · obtain ⟨x, _, rfl⟩ := List.mem_map.mp h
    have := fmod16 x
    omega
  · simp at h; omega
theorem pickL_len (xs : List Int) : (pickL xs).length ≤ 13 := by
  simp only [pickL, List.length_append, List.length_map, List.length_take, List.length_cons, List.length_nil]; omega
theorem sum_leS {α : Type} (f : α → Nat) (c : Nat) : ∀ l : List α, (∀ x ∈ l, f x ≤ c) → (l.map f).sum ≤ l.length * c
  | [], _ => by simp
  | a :: l, h => by
    have h1 := sum_leS f c l fun x hx => h x (List.mem_cons_of_mem _ hx)
    have h2 := h a (List.mem_cons_self ..)
    simp only [List.map_cons, List.sum_cons, List.length_cons, Nat.add_mul]; omega
theorem join0_ok {ws : List Str} {n c : Nat} (hn : ws.length ≤ n) (hc : ∀ x ∈ ws, x.length ≤ c) (h : n * c ≤ 1000 := by decide) : JoinOk ⟨#[]⟩ ws = true := by
  refine joinOk_of ?_
  have h1 := sum_leS (·.length) c ws hc
  have h2 : ws.length * c ≤ n * c := Nat.mul_le_mul_right _ hn
  have h3 : (⟨#[]⟩ : Str).length = 0 := rfl
  rw [sizeLine_eq, h3]; omega

theorem meanOf_len : ∀ k, k < 16 → (meanOf k).length ≤ 2 := by decide
theorem codeOf_ok : ∀ k, k < 16 → codesL[k]? = some (codeOf k) ∧ (decide (((codeOf k : Nat) : Int) < 0) || decide (((codeOf k : Nat) : Int) > 0x10FFFF)) = false := by decide
theorem meanOf_ok : ∀ k, k < 16 → meansL[k]? = some (meanOf k) := by decide

noncomputable def sgSto₀ : Sto := [.cell (some (.obj 2)), .cell (some (.obj 3)), .list (codesL.map fun n : Nat => .int n), .list (meansL.map .str)]
noncomputable def sgSto (xs : List Int) : Sto := [.cell (some (.obj 2)), .cell (some (.obj 3)), .list (codesL.map fun n : Nat => .int n), .list (meansL.map .str), .list ((pickL xs).map fun n : Nat => .int n)]
theorem evc_list {C : Cx} {l : Loc} {σ : Sto} (O : C.Ok) {e : PySem.Expr} {α : Type} {f : α → PV} {xs : List α} {vs : List PV} (h : vs = xs.map f) (he : EvL C l σ e vs) (hp : (xs.map f).all PV.plain = true) : EvC C l σ e xs.length (AtP (xs.map f)) := by
  subst h
  have := (evi_list O he hp).c
  rwa [List.length_map] at this
theorem evc_own {C : Cx} {l : Loc} {σ : Sto} (O : C.Ok) {e : PySem.Expr} {α : Type} {f : α → PV} {xs : List α} {j : Nat} (he : Ev C l σ e (.obj j)) (hj : σ[j]? = some (.list (xs.map f))) (hp : (xs.map f).all PV.plain = true) : EvC C l σ e xs.length (AtP (xs.map f)) := by
  have := evc_obj O he hj hp
  rwa [List.length_map] at this
theorem plain_map {α : Type} (f : α → PV) (xs : List α) (h : ∀ x, (f x).plain = true) : (xs.map f).all PV.plain = true := by
  rw [List.all_eq_true]
  intro v hv
  obtain ⟨x, _, rfl⟩ := List.mem_map.mp hv
  exact h x
theorem bind_plain {α : Type} {f : α → PV} {xs : List α} (h : ∀ x, (f x).plain = true) (i : Nat) (y : PV) (hy : (xs[i]?.bind fun x => some (f x)) = some y) : y.plain = true := by
  cases e : xs[i]? with
  | none => rw [e] at hy; cases hy
  | some x => rw [e] at hy; cases hy; exact h x
theorem evl_eq {C : Cx} {l : Loc} {σ : Sto} {e : PySem.Expr} {vs ws : List PV} (h : vs = ws) (x : EvL C l σ e vs) : EvL C l σ e ws := h ▸ x
theorem picks_eq (xs : List Int) : (xs.take 8).map (fun x : Int => PV.int (x.fmod 16)) ++ [.int 7, .int 13, .int 8, .int 1, .int 12] = (pickL xs).map fun n : Nat => .int n := by
  unfold pickL
  rw [List.map_append, List.map_map]
  congr 1
  refine List.map_congr_left fun x _ => ?_
  show PV.int _ = PV.int _
  rw [Int.toNat_of_nonneg (fmod16 x).1]
theorem fmap_all {α : Type} (f : α → PV) (l : List α) : (List.range l.length).filterMap (fun i => l[i]?.bind fun x => some (f x)) = l.map f := by
  rw [range_filterMap]
  simp
theorem atp_map {α : Type} {f : α → PV} {l : List α} {i : Nat} {u : Value} (h : AtP (l.map f) i u) : ∃ x, l[i]? = some x ∧ VR [] (f x) u := by
  obtain ⟨v, hv, hr⟩ := h
  rw [List.getElem?_map] at hv
  cases hx : l[i]? with
  | none => rw [hx] at hv; cases hv
  | some x => rw [hx] at hv; cases hv; exact ⟨x, rfl, hr⟩

theorem evas_int {C : Cx} {l : Loc} {σ : Sto} {i : Int} {k p} {es : List PySem.Expr} {vs : List PV} (h : EvAs C l σ es vs) : EvAs C l σ (.Constant (.int i) k p :: es) (.int i :: vs) := evas_cons ev_int h
theorem evas_str {C : Cx} {l : Loc} {σ : Sto} {i : Str} {k p} {es : List PySem.Expr} {vs : List PV} (h : EvAs C l σ es vs) : EvAs C l σ (.Constant (.str i) k p :: es) (.str i :: vs) := evas_cons ev_str h
theorem signs_body {w : World} {A : Around} {cd : Value} {s : Shared} (O : (inFrameC w A dSigns cd s 0 2).Ok) (a : Addr) (xs : List Int) (hx : xs.length ≤ 63) (hE : ExtL s.heap a (xs.map .int)) :
    Ex (inFrameC w A dSigns cd s 0 2) dSigns.body [("script", .ref a)] [.cell none, .cell none] (fun f _ σ' => ∃ v, f = .ret v ∧ ∃ j, v = .obj j ∧ σ'[j]? = some (.tup [.str (signT xs), .str (signW xs)])) := by
  have hcode : ∀ k, k ∈ pickL xs → (codesL.map fun n : Nat => PV.int n)[((k : Nat) : Int).toNat]? = some (.int (codeOf k)) := fun k hk => by
    rw [Int.toNat_natCast, List.getElem?_map, (codeOf_ok k (pickL_lt xs k hk)).1]; rfl
  have hmean : ∀ k, k ∈ pickL xs → (meansL.map PV.str)[((k : Nat) : Int).toNat]? = some (.str (meanOf k)) := fun k hk => by
    rw [Int.toNat_natCast, List.getElem?_map, meanOf_ok k (pickL_lt xs k hk)]; rfl
  have hjm : JoinOk ⟨#[]⟩ ((pickL xs).map meanOf) = true := join0_ok (n := 13) (c := 2) (by rw [List.length_map]; exact pickL_len xs) fun y hy => by
    obtain ⟨k, hk, rfl⟩ := List.mem_map.mp hy
    exact meanOf_len k (pickL_lt xs k hk)
  have hjc : JoinOk ⟨#[]⟩ ((pickL xs).map fun k => (⟨#[codeOf k]⟩ : Str)) = true := join0_ok (n := 13) (c := 1) (by rw [List.length_map]; exact pickL_len xs) fun y hy => by
    obtain ⟨k, hk, rfl⟩ := List.mem_map.mp hy
    exact Nat.le_refl _
  have hpl : ((pickL xs).map fun n : Nat => PV.int n).length = (pickL xs).length := List.length_map _
  refine ex_cons (sx_let (EvL.m (evl_list (vs := [.int 114, .int 82, .int 8475, .int 119825, .int 103, .int 71, .int 119970, .int 119814, .int 98, .int 66, .int 8492, .int 119809, .int 13191, .int 173, .int 8203, .int 65025]) ?_))
      (st_cell O (a := s.heap.objs.size + 1 + 0) (j := 0) (v₀ := none) rfl rfl (List.mem_map.mpr ⟨0, by simp, rfl⟩) rfl) ?_)
  · repeat refine evas_int ?_
    exact evas_nil
  refine ex_cons (sx_let (EvL.m (evl_list (vs := meansL.map .str) ?_))
      (st_cell O (a := s.heap.objs.size + 1 + 1) (j := 1) (v₀ := none) rfl rfl (List.mem_map.mpr ⟨1, by simp, rfl⟩) rfl) ?_)
  · repeat refine evas_str ?_
    exact evas_nil
  show Ex _ _ [("script", .ref a)] (sgSto₀) _
  refine ex_cons (sx_assignL O (vs := (pickL xs).map fun n : Nat => .int n) (evl_eq (picks_eq xs) (evl_cat (vs := (xs.take 8).map fun x : Int => PV.int (x.fmod 16)) (ws := [.int 7, .int 13, .int 8, .int 1, .int 12]) ?_ ?_ ?_)) ?_ rfl)
  · have hn : ((xs.map PV.int).take 8).length = (xs.take 8).length := by simp
    have e0 : (xs.map PV.int).take 8 = (xs.take 8).map .int := by simp
    refine evl_eq (fmap_all (fun x : Int => PV.int (x.fmod 16)) (xs.take 8)) ?_
    refine evl_comp O (n := (xs.take 8).length) (P := AtP ((xs.take 8).map .int)) ?_ ?_ rfl (fun i => (xs.take 8)[i]?.bind fun x => some (.int (x.fmod 16))) ?_ ?_
    · exact evc_list O e0 (evl_slice_ext (ev_name (v := .ref a) O rfl rfl) hE ev_int (by rw [List.length_map]; exact Nat.le_trans hx (of_decide_eq_true rfl))) (plain_map _ _ fun _ => rfl)
    · have : (xs.take 8).length ≤ 8 := by simp; omega
      rw [sizeLine_eq]; omega
    · exact bind_plain fun _ => rfl
    · intro i u hi hP
      obtain ⟨x, hx', hr⟩ := atp_map hP
      refine ⟨.int x, hr, rfl, fun L Oc => ⟨true, ct_nil, nofun, fun _ => ⟨_, by rw [hx']; rfl, ?_⟩⟩⟩
      exact ev_bin (ev_name Oc rfl rfl) ev_int (bin_mod_int (by decide))
  · refine evl_list ?_
    repeat refine evas_int ?_
    exact evas_nil
  · have : (xs.take 8).length ≤ 8 := by simp; omega
    simp only [List.length_map, List.length_cons, List.length_nil]
    rw [sizeLine_eq]; omega
  show Ex _ _ [("script", .ref a), ("picks", .obj 4)] (sgSto xs) _
  have hpk : (pickL xs).length ≤ sizeLine := Nat.le_trans (pickL_len xs) (of_decide_eq_true rfl)
  refine ex_cons (sx_retM (evx_tup (vs := [.str (signT xs), .str (signW xs)]) (evas_cons ?_ (evas_cons ?_ evas_nil))).m ⟨_, rfl, 5, rfl, rfl⟩)
  · refine ev_join ev_str (ws := (pickL xs).map fun k => (⟨#[codeOf k]⟩ : Str)) (evl_eq (by rw [List.map_map]; rfl) (evl_eq (fmap_all (fun k : Nat => PV.str ⟨#[codeOf k]⟩) (pickL xs)) ?_)) hjc
    refine evl_comp O (n := (pickL xs).length) (P := AtP ((pickL xs).map fun n : Nat => PV.int n)) (evc_own O (ev_name (v := .obj 4) O rfl rfl) rfl (plain_map _ _ fun _ => rfl)) hpk rfl (fun i => (pickL xs)[i]?.bind fun k => some (.str ⟨#[codeOf k]⟩)) (bind_plain fun _ => rfl) ?_
    intro i u hi hP
    obtain ⟨k, hk, hr⟩ := atp_map hP
    have hkm := List.mem_of_getElem? hk
    refine ⟨.int k, hr, rfl, fun L Oc => ⟨true, ct_nil, nofun, fun _ => ⟨_, by rw [hk]; rfl, ?_⟩⟩⟩
    exact ev_b1 Oc (ev_item_list (ev_cell (v := .obj 2) (a := s.heap.objs.size + 1 + 0) (j := 0) Oc rfl rfl (List.mem_map.mpr ⟨0, by simp, rfl⟩) rfl) rfl (ev_name (v := .int k) Oc rfl rfl) (by omega) (by have := pickL_lt xs k hkm; omega) (hcode k hkm)) (prim_chr (codeOf_ok k (pickL_lt xs k hkm)).2) (by walk_at "mem") (by decide +kernel) rfl
  · refine ev_join ev_str (ws := (pickL xs).map meanOf) (evl_eq (by rw [List.map_map]; rfl) (evl_eq (fmap_all (fun k : Nat => PV.str (meanOf k)) (pickL xs)) ?_)) hjm
    refine evl_comp O (n := (pickL xs).length) (P := AtP ((pickL xs).map fun n : Nat => PV.int n)) (evc_own O (ev_name (v := .obj 4) O rfl rfl) rfl (plain_map _ _ fun _ => rfl)) hpk rfl (fun i => (pickL xs)[i]?.bind fun k => some (.str (meanOf k))) (bind_plain fun _ => rfl) ?_
    intro i u hi hP
    obtain ⟨k, hk, hr⟩ := atp_map hP
    have hkm := List.mem_of_getElem? hk
    refine ⟨.int k, hr, rfl, fun L Oc => ⟨true, ct_nil, nofun, fun _ => ⟨_, by rw [hk]; rfl, ?_⟩⟩⟩
    exact ev_item_list (ev_cell (v := .obj 3) (a := s.heap.objs.size + 1 + 1) (j := 1) Oc rfl rfl (List.mem_map.mpr ⟨1, by simp, rfl⟩) rfl) rfl (ev_name (v := .int k) Oc rfl rfl) (by omega) (by have := pickL_lt xs k hkm; omega) (hmean k hkm)

theorem signs_fn (w : World) (a : Addr) (xs : List Int) (hx : xs.length ≤ 63) : FnTX w 1 dSigns.addr [.ref a] [.str (signT xs), .str (signW xs)] (fun h => ExtL h a (xs.map .int)) := by
  intro A us s Q E hh hdep hun T hg hE hu hQ
  obtain _ | ⟨rfl, _ | _⟩ := hu
  refine enterC (lv := 0) dSigns (by walk_at "mem") hh hdep hun T hg (l₀ := [("script", .ref a)]) (σ₀ := [.cell none, .cell none]) ["codes", "means"] rfl ?_ ?_ (Ψ := fun v σ' => ∃ j, v = .obj j ∧ σ'[j]? = some (.tup [.str (signT xs), .str (signW xs)])) (fun cd O => signs_body O a xs hx hE) ?_
  · intro L i n hi
    match i, hi with
    | 0, hi => cases hi; rfl
    | 1, hi => cases hi; rfl
  · intro pm cd doc
    refine ⟨[("script", .ref a)], rfl, ?_, ?_, ?_⟩
    · intro x hx'
      rw [List.mem_singleton.mp hx']
      exact .inl rfl
    · intro x v hv
      rw [List.lookup_cons] at hv
      cases hb : x == ("script" : Str) with
      | true => rw [hb] at hv; cases hv; rw [beq_iff_eq.mp hb]; exact ⟨_, rfl, rfl⟩
      | false => rw [hb] at hv; cases hv
    · intro i n hi
      match i, hi with
      | 0, hi => cases hi; exact ⟨none, rfl, rfl⟩
      | 1, hi => cases hi; exact ⟨none, rfl, rfl⟩
  · rintro cd v l' σ' as' s' u ⟨j, rfl, hj⟩ R K hf hv
    obtain ⟨b, hb, rfl⟩ := hv
    obtain ⟨b', hb', us, n, ho, hus⟩ := R.st j _ hj
    rw [hb] at hb'; cases hb'
    exact hQ b s' K (hf b (List.mem_of_getElem? hb)) ⟨us, n, ho, hus.as_plain rfl⟩
end Mine
end
noncomputable section
open PySem PySem.Spec PySem.Calls PyProof.Rows PyProof.V PySem.W
set_option Elab.async false
set_option linter.unusedVariables false
set_option maxRecDepth 100000
namespace Mine

noncomputable def gaPick (nm : Str) (p : Str × Str) : Option PV := if decide (Txt.lower p.1 = Txt.lower nm) then some (.str p.2) else none
noncomputable def gaCx (w : World) (A : Around) (s : Shared) (lv : Nat) (cd : Value) (qual : Str) (scope : Scope) : Cx :=
  ⟨w, A.deeper (envOfC qual scope s.heap.objs.size 213 cd), envOfC qual scope s.heap.objs.size 213 cd, s.heap, s.os, lv, [(0, s.heap.objs.size + 1)]⟩

theorem ga_body {w : World} {A : Around} {s : Shared} {cd : Value} {qual : Str} (O : (gaCx w A s 2 cd qual (mRec 7 0).scope).Ok) {x di hl : Addr} {ts : List Addr} {items : List (Str × Str)} {nm : Str}
    (hI : InstH w s.heap x di hl) (hL : ExtL s.heap hl (ts.map .ref)) (hT : All2 (fun t p => ExtT s.heap t [.str p.1, .str p.2]) ts items) (hlen : ts.length ≤ 1000) (hn : okT 140 (Txt.lower nm)) (hf : Builtin.Str.tooLong (Txt.lower nm).length = false)
    (hp : ∀ p ∈ items, Builtin.Str.tooLong (Txt.lower p.1).length = false) :
    Ex (gaCx w A s 2 cd qual (mRec 7 0).scope) (mRec 7 0).body [("self", .ref x)] [.cell (some (.str nm))] (fun f _ σ' => f = .ret (.obj 1) ∧ σ'[1]? = some (.list (items.filterMap (gaPick nm)))) := by
  refine ex_cons (sx_let (Ev.m (ev_conv (nm := true) O (ev_name (v := .ref x) O rfl rfl) hI (ev_lower (ev_cell (v := .str nm) (a := s.heap.objs.size + 1) (j := 0) O rfl rfl (List.mem_singleton.mpr rfl) rfl) hf) ev_bool hn (by show 1 ≤ 2; omega)))
    (st_cell O (a := s.heap.objs.size + 1) (j := 0) (v₀ := some (.str nm)) rfl rfl (List.mem_singleton.mpr rfl) rfl) ?_)
  show Ex _ _ [("self", .ref x)] [.cell (some (.str (Txt.lower nm)))] _
  refine ex_cons (sx_retM (EvL.m (evl_eq (range_filterMap (gaPick nm) items) ?_)) ⟨rfl, rfl⟩)
  have hlt : ts.length = items.length := hT.length
  rw [← hlt]
  refine evl_comp O (n := ts.length) (P := AtP (ts.map PV.ref)) (evc_ext O (ev_headers_ext O (ev_name (v := .ref x) O rfl rfl) hI) hL (plain_map _ _ fun _ => rfl)) (by rw [sizeLine_eq]; omega) rfl (fun i => items[i]?.bind (gaPick nm)) ?_ ?_
  · intro i y hy
    cases e : items[i]? with
    | none => rw [e] at hy; cases hy
    | some p =>
      rw [e] at hy
      have hy : gaPick nm p = some y := hy
      unfold gaPick at hy
      split at hy
      · cases hy; rfl
      · cases hy
  · intro i u hi hP
    obtain ⟨t, ht, hr⟩ := atp_map hP
    obtain ⟨p, hpi, hx⟩ := hT.get ht
    refine ⟨.ref t, hr, rfl, fun L Oc => ⟨decide (Txt.lower p.1 = Txt.lower nm), ct_one ?_, fun hb => ?_, fun hb => ⟨.str p.2, ?_, ?_⟩⟩⟩
    · exact ts_cmp (ev_lower (ev_item_ext (v := .str p.1) (ev_name (v := .ref t) Oc rfl rfl) hx ev_int (by decide) (by decide) rfl) (hp p (List.mem_of_getElem? hpi))) (ev_cell (v := .str (Txt.lower nm)) (a := s.heap.objs.size + 1) (j := 0) Oc rfl rfl (List.mem_singleton.mpr rfl) rfl) cmp_eq_str
    · rw [hpi]; show gaPick nm p = none; unfold gaPick; rw [hb]; rfl
    · rw [hpi]; show gaPick nm p = _; unfold gaPick; rw [hb]; rfl
    · exact ev_item_ext (v := .str p.2) (ev_name (v := .ref t) Oc rfl rfl) hx ev_int (by decide) (by decide) rfl

theorem getall_code (w : World) {A : Around} {s : Shared} {x di hl : Addr} {ts : List Addr} {items : List (Str × Str)} {nm : Str} {tn : Tok} {R : Result → Shared → Prop} (hh : A.handled = none) (hdep : A.depth + 3 < recursionLimit) (hun : A.units + 30 * 3 + 60 < cLine) (T : TF w s.heap) (hg : ∀ z ∈ s.gens, z.bare = true)
    (hI : InstH w s.heap x di hl) (hL : ExtL s.heap hl (ts.map .ref)) (hT : All2 (fun t p => ExtT s.heap t [.str p.1, .str p.2]) ts items) (hlen : ts.length ≤ 1000) (hn : okT 140 (Txt.lower nm)) (hf : Builtin.Str.tooLong (Txt.lower nm).length = false)
    (hp : ∀ p ∈ items, Builtin.Str.tooLong (Txt.lower p.1).length = false)
    (hQ : ∀ a s', Kp s s' → s.heap.get? a = none → OH w [] s'.heap a (.list (items.filterMap (gaPick nm))) → R (.ok (.ret (.ref a))) s') :
    codeAny (model Pg w) A (.call (.ref 213) ⟨[.ref x, .str nm tn], []⟩) R s := by
  obtain ⟨fd, hfd⟩ : ∃ fd, (v213 w.params).data = .func fd := ⟨_, rfl⟩
  cases hfd
  refine codeAny_call_cells (o := v213 w.params) (binds := [("self", .ref x), ("name", .str nm tn)]) (by omega) (T.k 213 _ rfl) rfl T.lim (codeRec_of T.k (k_code3 w.params)) rfl rfl rfl ?_ (fun s₁ X => ?_)
  · intro y hy
    simp only [List.mem_cons, List.not_mem_nil, or_false] at hy
    rcases hy with rfl | rfl
    · exact .inl rfl
    · exact .inr ⟨rfl, rfl⟩
  obtain ⟨h₁, tk, rfl, _⟩ := X.done
  have O : (gaCx w A s 2 (.ref 212) (cs [72, 101, 97, 100, 101, 114, 115, 46, 103, 101, 116, 95, 97, 108, 108]) (mRec 7 0).scope).Ok := ⟨hh, rfl, rfl, rfl, T, by show A.depth + 1 + 2 < _; omega, by show A.units + 3 + 30 * 2 + 60 < _; omega⟩
  have kk : ∀ b o, s.heap.get? b = some o → h₁.get? b = some o := X.toInCall.keep
  obtain ⟨oc, hoc, hdc⟩ := X.cell "name" (s.heap.objs.size + 1) rfl
  have big : s.heap.get? (s.heap.objs.size + 1) = none := by
    cases e : s.heap.get? (s.heap.objs.size + 1) with
    | none => rfl
    | some o' => exact absurd (Heap.lt_size e) (Nat.not_lt.mpr (Nat.le_succ _))
  have R₀ : Rel (gaCx w A s 2 (.ref 212) (cs [72, 101, 97, 100, 101, 114, 115, 46, 103, 101, 116, 95, 97, 108, 108]) (mRec 7 0).scope) [("self", .ref x)] [.cell (some (.str nm))] [s.heap.objs.size + 1] { s with heap := h₁, toks := tk } := by
    refine ⟨⟨_, ⟨X.toInCall.ns, kk, X.toInCall.fresh⟩, fun y v hy => ?_⟩, rfl, fun j p e => ?_, fun b hb => ?_, by simp, hg, rfl, fun p hp => ?_⟩
    · have := PySem.mem_of_lookup hy
      simp at this
      obtain ⟨rfl, rfl⟩ := this
      exact ⟨_, rfl, rfl⟩
    · match j, e with
      | 0, e => cases e; exact ⟨_, rfl, oc, _, hoc, hdc, _, rfl, tn, rfl⟩
    · rw [List.mem_singleton.mp hb]
      exact ⟨big, Nat.succ_ne_self _, _, hoc⟩
    · rw [List.mem_singleton.mp hp]; rfl
  refine (ga_body O hI hL hT hlen hn hf hp).run _ _ _ _ R₀ fun f l' σ' as' s' fl hf' R' M' F' => ?_
  obtain ⟨rfl, h1⟩ := hf'
  obtain ⟨u, rfl, a, ha, rfl⟩ := F'
  obtain ⟨a', ha', us, n, ho, hus⟩ := R'.st 1 _ h1
  rw [ha] at ha'; cases ha'
  refine hQ a s' ⟨fun b o e => M'.keep b o (Nat.ne_of_lt (Heap.lt_size e)) (fun hm => ?_) (kk b o e), fun _ => R'.gn, R'.os, M'.gp⟩ (R'.fs a (List.mem_of_getElem? ha)).1 ⟨us, n, ho, hus.as_plain ?_⟩
  · rw [List.mem_singleton.mp hm, big] at e; cases e
  · rw [List.all_eq_true]
    intro v hv
    obtain ⟨p, _, hp'⟩ := List.mem_filterMap.mp hv
    unfold gaPick at hp'
    split at hp'
    · cases hp'; rfl
    · cases hp'
end Mine
end
noncomputable section
open PySem PySem.Spec PySem.Calls PyProof.Rows PyProof.V PySem.W
set_option Elab.async false
set_option linter.unusedVariables false
set_option maxRecDepth 100000
namespace Mine

noncomputable def itemPO (p : Str × Str) : PO := .tup [.str p.1, .str p.2]
noncomputable def rowSto (items : List (Str × Str)) : Sto := [.cell (some (.obj 3)), .list ((List.range items.length).map fun i => .obj (4 + i)), .attrs 1, .inst 2] ++ items.map itemPO

theorem all2_of {α β : Type} {R : α → β → Prop} : ∀ {l : List α} {m : List β}, l.length = m.length → (∀ (i : Nat) (a : α) (b : β), l[i]? = some a → m[i]? = some b → R a b) → All2 R l m
  | [], [], _, _ => .nil
  | a :: l, b :: m, h, f => .cons (f 0 a b rfl rfl) (all2_of (by simpa using h) fun i x y hx hy => f (i + 1) x y hx hy)
  | [], _ :: _, h, _ => by simp at h
  | _ :: _, [], h, _ => by simp at h

theorem row_facts {C : Cx} {l : Loc} {items : List (Str × Str)} {τ : Sto} {as : List Addr} {s : Shared} (R : Rel C l (rowSto items ++ τ) as s) :
    ∃ x di hl ts, as[3]? = some x ∧ as[1]? = some hl ∧ InstH C.w s.heap x di hl ∧ x ≠ hl ∧ di ≠ hl ∧ OH C.w [] s.heap hl (.list (ts.map .ref)) ∧ All2 (fun t p => ExtT s.heap t [.str p.1, .str p.2]) ts items ∧ ∀ i, i < items.length → as[4 + i]? = ts[i]? := by
  obtain ⟨x, hx, d, ho3, hd⟩ := R.st 3 (.inst 2) rfl
  obtain ⟨di, hdi, t, n, hl, ho2, hhl⟩ := R.st 2 (.attrs 1) rfl
  obtain rfl : di = d := Option.some.inj (hdi.symm.trans hd)
  obtain ⟨hl', hhl', us, n', ho1, hus⟩ := R.st 1 (.list ((List.range items.length).map fun i => .obj (4 + i))) rfl
  obtain rfl : hl = hl' := Option.some.inj (hhl.symm.trans hhl')
  have hlen : items.length + 4 ≤ as.length := by
    rw [R.ln]; simp [rowSto] <;> omega
  have hts : ∀ i, i < items.length → as[4 + i]? = ((as.drop 4).take items.length)[i]? := fun i hi => by
    rw [List.getElem?_take, if_pos hi, List.getElem?_drop]
  refine ⟨x, di, hl, (as.drop 4).take items.length, hx, hhl, ⟨ho3, t, n, ho2⟩, ?_, ?_, ⟨us, n', ho1, ?_⟩, ?_, hts⟩
  · rintro rfl
    rw [ho3] at ho1; cases ho1
  · rintro rfl
    rw [ho2] at ho1
    have h := congrArg Obj.cls (Option.some.inj ho1)
    exact absurd (Value.type.inj h) (by decide)
  · refine all2_of (by rw [← hus.length]; simp; omega) fun i a b ha hb => ?_
    have hi : i < items.length := by
      have := (List.getElem?_eq_some_iff.mp hb).1
      rw [← hus.length] at this; simpa using this
    obtain ⟨a', ha', hr⟩ := all2_get hus hb
    rw [List.getElem?_map, List.getElem?_range hi] at ha'
    cases ha'
    obtain ⟨c, hc, rfl⟩ := hr
    rw [List.getElem?_map, ← hts i hi, hc] at ha
    cases ha
    rfl
  · refine all2_of (by simp; omega) fun i a b ha hb => ?_
    have hi : i < items.length := (List.getElem?_eq_some_iff.mp hb).1
    have e : (rowSto items ++ τ)[4 + i]? = some (itemPO b) := by
      have hl4 : (rowSto items).length = 4 + items.length := by simp [rowSto]; omega
      rw [List.getElem?_append_left (by omega)]
      show ([PO.cell (some (.obj 3)), .list ((List.range items.length).map fun i => .obj (4 + i)), .attrs 1, .inst 2] ++ items.map itemPO)[4 + i]? = _
      rw [List.getElem?_append_right (by simp)]
      simp [hb]
    obtain ⟨c, hc, us', m, h1, h2⟩ := R.st _ _ e
    rw [← hts i hi, hc] at ha
    cases ha
    exact ⟨us', m, h1, h2.as_plain rfl⟩

theorem Rel.turnAdd {C : Cx} {l : Loc} {σ : Sto} {as : List Addr} {s s' : Shared} (R : Rel C l σ as s) {j : Nat} {a ta : Addr} {o p : PO} (ha : as[j]? = some a) (hk : ∀ b ob, b ≠ a → s.heap.get? b = some ob → s'.heap.get? b = some ob) (hta : s.heap.get? ta = none)
    (ho : OH C.w (as ++ [ta]) s'.heap a o) (hp : OH C.w (as ++ [ta]) s'.heap ta p) (hg : ∀ z ∈ s'.gens, z.bare = true) (hos : s'.os = s.os) : Rel C l (σ.set j o ++ [p]) (as ++ [ta]) s' := by
  have hloc := R.locals
  have hh0 := R.h0
  obtain ⟨⟨m, F, hm⟩, ln, st, fs, nd, gn, os, cs⟩ := R
  obtain ⟨a0, aL, _⟩ := fs a (List.mem_of_getElem? ha)
  have hjl : j < σ.length := by rw [← ln]; exact (List.getElem?_eq_some_iff.mp ha).1
  have ta0 : C.h₀.get? ta = none := by
    cases e : C.h₀.get? ta with
    | none => rfl
    | some ob => have := hh0 ta ob e; rw [hta] at this; cases this
  have taL : ta ≠ C.env.locals := fun q => by obtain ⟨ob, e⟩ := hloc; rw [← q, hta] at e; cases e
  refine ⟨⟨m, ⟨F.ns.at' fun ob e => hk _ ob (Ne.symm aL) e, fun b ob e => hk b ob (fun q => by rw [q, a0] at e; cases e) (F.keep b ob e), F.above⟩, fun x v hx => let ⟨u, hu, hv⟩ := hm x v hx; ⟨u, hu, hv.app⟩⟩, by simp [ln], fun i q e => ?_, fun b hb => ?_, ?_, hg, hos.trans os, fun q hq => ?_⟩
  · rcases Nat.lt_or_ge i σ.length with hi | hi
    · rw [List.getElem?_append_left (by simpa using hi)] at e
      by_cases hij : i = j
      · subst hij
        rw [List.getElem?_set_self hjl] at e
        cases e
        exact ⟨a, by rw [List.getElem?_append_left (List.getElem?_eq_some_iff.mp ha).1]; exact ha, ho⟩
      · rw [List.getElem?_set_ne (Ne.symm hij)] at e
        obtain ⟨b, hb, h⟩ := st i q e
        refine ⟨b, by rw [List.getElem?_append_left (List.getElem?_eq_some_iff.mp hb).1]; exact hb, (h.keeps fun ob e => hk b ob (fun hba => hij ?_) e).app⟩
        subst hba
        exact (List.getElem?_inj (List.getElem?_eq_some_iff.mp hb).1 nd).mp (hb.trans ha.symm)
    · have hi0 : i = σ.length := by
        have := (List.getElem?_eq_some_iff.mp e).1
        simp only [List.length_append, List.length_set, List.length_cons, List.length_nil] at this; omega
      subst hi0
      rw [List.getElem?_append_right (by simp)] at e
      simp at e
      subst e
      exact ⟨ta, by rw [← ln]; simp, hp⟩
  · rcases List.mem_append.mp hb with hb | hb
    · obtain ⟨f1, f2, ob, f3⟩ := fs b hb
      by_cases hba : b = a
      · subst hba; exact ⟨f1, f2, ho.live⟩
      · exact ⟨f1, f2, ob, hk b ob hba f3⟩
    · rw [List.mem_singleton.mp hb]; exact ⟨ta0, taL, hp.live⟩
  · refine List.nodup_append.mpr ⟨nd, by simp, fun x hx y hy => ?_⟩
    rw [List.mem_singleton.mp hy]
    rintro rfl
    obtain ⟨_, _, ob, f3⟩ := fs x hx
    rw [hta] at f3; cases f3
  · rw [List.getElem?_append_left (List.getElem?_eq_some_iff.mp (cs q hq)).1]; exact cs q hq
end Mine
end
noncomputable section
open PySem PySem.Spec PySem.Calls PyProof.Rows PyProof.V PySem.W
set_option Elab.async false
set_option linter.unusedVariables false
set_option maxRecDepth 100000
namespace Mine

theorem rowSto_snoc (items : List (Str × Str)) (p : Str × Str) : rowSto (items ++ [p]) = (rowSto items).set 1 (.list ((List.range items.length).map (fun i => PV.obj (4 + i)) ++ [.obj (rowSto items).length])) ++ [itemPO p] := by
  have e : (rowSto items).length = 4 + items.length := by simp [rowSto]; omega
  unfold rowSto at e ⊢
  rw [e]
  simp [List.range_succ]
theorem rowSto_len (items : List (Str × Str)) : (rowSto items).length = 4 + items.length := by simp [rowSto]; omega

section
variable {C : Cx} {l : Loc} {Φ : Fl → Loc → Sto → Prop}
theorem refs_eq {ts : List Addr} {us : List Value} (h : All2 (VR []) (ts.map PV.ref) us) : us = ts.map Value.ref := by
  induction ts generalizing us with
  | nil => cases h; rfl
  | cons t ts ih =>
    obtain _ | ⟨h1, h2⟩ := h
    rw [ih h2, show _ = Value.ref t from h1]; rfl

theorem sx_addheader (O : C.Ok) (hlv : 4 ≤ C.lv) {o e₁ e₂ : PySem.Expr} {apos cpos pos : Pos} {items : List (Str × Str)} {nm val : Str} (ho : Ev C l (rowSto items) o (.obj 3)) (h₁ : Ev C l (rowSto items) e₁ (.str nm)) (h₂ : Ev C l (rowSto items) e₂ (.str val)) (hn : okT 140 nm) (hv : okT 145 val)
    (hj : Txt.join ⟨#[59, 32]⟩ [val] = val) (hvl : val.length ≤ 1000) (hlen : items.length ≤ 900) (hΦ : Φ .next l (rowSto (items ++ [(nm, val)])))
    (hint : interactive C.env = false := by rfl) (hsw : swapsWith (.Call (.Attribute o "add_header" apos) [e₁, e₂] [] cpos) none pos.line C.env = pure false := by rfl)
    (hbase : attributeBase o "add_header" C.env (eval o C.env) = eval o C.env := by rfl) (hline : (apos.endLine == cpos.line) = true := by rfl)
    (hform : methodCallForm (([e₁, e₂] : List PySem.Expr).length + ([] : List Keyword).length) (backTo cpos (starEach [e₁, e₂] C.env)) (backToKw cpos (keywordEach [] C.env)) = true := by rfl)
    (hs : backTo cpos (starEach [e₁, e₂] C.env) = [(false, eval e₁ C.env), (false, eval e₂ C.env)] := by rfl) :
    Sx C (.Expr (.Call (.Attribute o "add_header" apos) [e₁, e₂] [] cpos) pos) l (rowSto items) Φ := .mk fun as s Q E R hQ => by
  obtain ⟨x, di, hl, ts, hx, hhl, hI, hxl, hdl, hL, hT, hts⟩ := row_facts (τ := []) (by rw [List.append_nil]; exact R)
  refine wpAny_Expr (meth_call O (x := x) (di := di) (hl := hl) hbase hline hform k_add k_fn271 k_sh2 (ho as s _ E R fun u s₁ K vu => ⟨?_, (R.kp K).tf O, hI.keeps K.k, ?_⟩)) hint hsw
  · obtain ⟨a, ha, rfl⟩ := vu
    rw [hx] at ha; cases ha; rfl
  rw [hs]
  obtain ⟨fd, hfd⟩ : ∃ fd, (v271 C.w.params).data = .func fd := ⟨_, rfl⟩
  refine callWith_function_kw (o := v271 C.w.params) (fd := fd) (keywords := []) (Calls.evalArgs_plain (Calls.spliced_cons (h₁ as s₁ _ E (R.kp K) fun u₁ s₂ K₂ vu₁ => Calls.spliced_cons (h₂ as s₂ _ E (R.kp (K.trans K₂)) fun u₂ s₃ K₃ vu₂ => Calls.spliced_nil ?_))))
  have K₁₃ := (K.trans K₂).trans K₃
  have R₃ := R.kp K₁₃
  have T := R₃.tf O
  refine ⟨⟨T.k 271 _ rfl, hfd⟩, ?_⟩
  obtain ⟨t₁, rfl⟩ := vu₁
  obtain ⟨t₂, rfl⟩ := vu₂
  have := O.dep
  have := O.un
  have hlm : hl ∈ as := List.mem_of_getElem? hhl
  refine wpAny_call (add_code C.w (h₀ := C.h₀) O.hh (by omega) (by omega) O.T R₃.h0 (R₃.fs hl hlm).1 R₃.gn (hI.keeps K₁₃.k) hxl hdl (hL.keeps fun o e => K₁₃.k _ o e) (by rw [hT.length]; omega) hn hv hvl fun s' ta hk hL' hta ht hg hos hp => ?_)
  obtain ⟨us, n, hus, hall⟩ := hL'
  rw [hj] at ht
  have ltas : as.length = (rowSto items).length := R.ln
  have hR : Rel C l (rowSto (items ++ [(nm, val)])) (as ++ [ta]) s' := by
    rw [rowSto_snoc]
    refine R₃.turnAdd hhl hk hta ⟨us, n, hus, ?_⟩ ?_ hg hos
    · rw [refs_eq hall]
      refine all2_of (by simp [hT.length]) fun i a b ha hb => ?_
      rw [List.getElem?_map] at hb
      rcases Nat.lt_or_ge i items.length with hi | hi
      · rw [List.getElem?_append_left (by simpa using hi), List.getElem?_map, List.getElem?_range hi] at ha
        cases ha
        rw [List.getElem?_append_left (by rw [hT.length]; exact hi), ← hts i hi] at hb
        obtain ⟨c, hc, rfl⟩ := Option.map_eq_some_iff.mp hb
        exact ⟨c, by rw [List.getElem?_append_left (List.getElem?_eq_some_iff.mp hc).1]; exact hc, rfl⟩
      · have hi0 : i = items.length := by
          have := (List.getElem?_eq_some_iff.mp ha).1
          simp at this; omega
        subst hi0
        rw [List.getElem?_append_right (by simp)] at ha
        simp at ha
        subst ha
        rw [List.getElem?_append_right (by rw [hT.length]; exact Nat.le_refl _)] at hb
        simp [hT.length] at hb
        subst hb
        exact ⟨ta, by rw [← ltas]; simp, rfl⟩
    · exact OH.app (as := []) (bs := as ++ [ta]) ht
  refine hQ _ _ _ _ _ _ hΦ hR ⟨⟨[ta], rfl, fun b hb => ?_⟩, fun b o hb hm e => hk b o (fun q => hm (q ▸ hlm)) (K₁₃.k b o e), fun i z e => hp i z (K₁₃.p i z e)⟩ rfl
  rw [List.mem_singleton.mp hb]
  cases e : s.heap.get? ta with
  | none => rfl
  | some ob => have := K₁₃.k ta ob e; rw [hta] at this; cases this

theorem evx_getall (O : C.Ok) (hlv : 4 ≤ C.lv) {o e : PySem.Expr} {apos pos : Pos} {items : List (Str × Str)} {τ : Sto} {nm : Str} (ho : Ev C l (rowSto items ++ τ) o (.obj 3)) (he : Ev C l (rowSto items ++ τ) e (.str nm)) (hlen : items.length ≤ 900) (hn : okT 140 (Txt.lower nm)) (hf : Builtin.Str.tooLong (Txt.lower nm).length = false)
    (hp : ∀ p ∈ items, Builtin.Str.tooLong (Txt.lower p.1).length = false)
    (hbase : attributeBase o "get_all" C.env (eval o C.env) = eval o C.env := by rfl) (hline : (apos.endLine == pos.line) = true := by rfl)
    (hform : methodCallForm (([e] : List PySem.Expr).length + ([] : List Keyword).length) (backTo pos (starEach [e] C.env)) (backToKw pos (keywordEach [] C.env)) = true := by rfl)
    (hs : backTo pos (starEach [e] C.env) = [(false, eval e C.env)] := by rfl) :
    EvX C l (rowSto items ++ τ) (.Call (.Attribute o "get_all" apos) [e] [] pos) [.list (items.filterMap (gaPick nm))] (.obj (rowSto items ++ τ).length) := .mk fun as s Q E R hQ => by
  obtain ⟨x, di, hl, ts, hx, hhl, hI, hxl, hdl, hL, hT, hts⟩ := row_facts R
  refine meth_call O (x := x) (di := di) (hl := hl) hbase hline hform k_all k_fn213 k_sh3 (ho as s _ E R fun u s₁ K vu => ⟨?_, (R.kp K).tf O, hI.keeps K.k, ?_⟩)
  · obtain ⟨a, ha, rfl⟩ := vu
    rw [hx] at ha; cases ha; rfl
  rw [hs]
  obtain ⟨fd, hfd⟩ : ∃ fd, (v213 C.w.params).data = .func fd := ⟨_, rfl⟩
  refine callWith_function_kw (o := v213 C.w.params) (fd := fd) (keywords := []) (Calls.evalArgs_plain (Calls.spliced_cons (he as s₁ _ E (R.kp K) fun u₁ s₂ K₂ vu₁ => Calls.spliced_nil ?_)))
  have K₁₂ := K.trans K₂
  have R₂ := R.kp K₁₂
  have T := R₂.tf O
  refine ⟨⟨T.k 213 _ rfl, hfd⟩, ?_⟩
  obtain ⟨t₁, rfl⟩ := vu₁
  have := O.dep
  have := O.un
  obtain ⟨us, n, hus, hall⟩ := hL
  refine wpAny_call (getall_code C.w O.hh (by omega) (by omega) T R₂.gn (hI.keeps K₁₂.k) ⟨us, ⟨_, K₁₂.k _ _ hus, rfl, n, rfl⟩, hall⟩ (hT.mono fun _ _ h => h.keeps K₁₂.k) (by rw [hT.length]; omega) hn hf hp fun a s' K₃ ha hO => ?_)
  have K₁₃ := K₁₂.trans K₃
  have ha' : s.heap.get? a = none := by
    cases e : s.heap.get? a with
    | none => rfl
    | some ob => have := K₁₂.k a ob e; rw [ha] at this; cases this
  refine hQ _ [a] s' K₁₃ (R.push K₁₃ ha' (OH.app (as := []) (bs := as) hO)) (by simpa using ha') ⟨a, by rw [← R.ln]; simp, rfl⟩
end
end Mine
end
noncomputable section
open PySem PySem.Spec PySem.Calls PyProof.Rows PyProof.V PySem.W
set_option Elab.async false
set_option linter.unusedVariables false
set_option maxRecDepth 100000
namespace Mine
local macro_rules | `(tactic| walk_at "num") => `(tactic| first | exact of_decide_eq_true rfl | assumption | omega)
local macro_rules | `(tactic| walk_at "mem") => `(tactic| first | decide | (simp [gTab, fnTab, bNames]; done))
local macro_rules | `(tactic| walk_at "room") => `(tactic| first | assumption | exact of_decide_eq_true rfl | omega)

structure RS where
  b0 : Int
  b1 : Int
  b2 : Int
  l0 : Int
  l1 : Int
  l2 : Int
noncomputable def isC (c : Nat) (x : Str) : Int := if decide ((⟨#[c]⟩ : Str) = x) then 1 else 0
noncomputable def mxI (a b : Int) : Int := if b > a then b else a
noncomputable def mnI (a b : Int) : Int := if b < a then b else a
noncomputable def RS.n0 (r : RS) (c : Nat) : RS := { r with b0 := r.b0 + isC c ⟨#[98]⟩, l0 := r.l0 + isC c ⟨#[114]⟩ }
noncomputable def RS.n1 (r : RS) (c : Nat) : RS := { r with b1 := mxI (r.b1 + isC c ⟨#[103]⟩) r.b0, l1 := mnI (r.l1 + isC c ⟨#[103]⟩) r.l0 }
noncomputable def RS.n2 (r : RS) (c : Nat) : RS := { r with b2 := mxI (r.b2 + isC c ⟨#[114]⟩) r.b1, l2 := mnI (r.l2 + isC c ⟨#[98]⟩) r.l1 }
noncomputable def RS.part (r : RS) (c : Nat) : Nat → RS
  | 0 => r
  | 1 => r.n0 c
  | 2 => (r.n0 c).n1 c
  | _ => ((r.n0 c).n1 c).n2 c
noncomputable def RS.step (r : RS) (c : Nat) : RS := ((r.n0 c).n1 c).n2 c
noncomputable def RS.tell (r r' : RS) : Str := if decide (r'.b2 > r.b2) then ⟨#[114]⟩ else if decide (r'.l2 > r.l2) then ⟨#[98]⟩ else ⟨#[103]⟩
noncomputable def RS.sto (r : RS) : Sto := [.list [.int r.b0, .int r.b1, .int r.b2], .list [.int r.l0, .int r.l1, .int r.l2]]
noncomputable def ruleGo : List Nat → RS → Str → RS × Str
  | [], r, t => (r, t)
  | c :: w, r, t => ruleGo w (r.step c) (t ++ r.tell (r.step c))


theorem rule_inner {w : World} {A : Around} {cd : Value} {s : Shared} {lv : Nat} (O : (inFrame w A dRule cd s lv).Ok) (r : RS) (c : Nat) (i : Nat) (hi : i < 3) (v1 v2 v3 v4 : PV) {Φ : Fl → Loc → Sto → Prop} (body : List Stmt)
    (hb : body = (match dRule.body[3]? with | some (Stmt.For _ _ b _ _) => (match b[2]? with | some (Stmt.For _ _ b' _ _) => b' | _ => []) | _ => []))
    (h : Φ .next [("word", v1), ("best", .obj 0), ("least", .obj 1), ("told", v2), ("letter", .str ⟨#[c]⟩), ("top", v3), ("low", v4)] (r.part c (i + 1)).sto) :
    Ex (inFrame w A dRule cd s lv) body (upd [("word", v1), ("best", .obj 0), ("least", .obj 1), ("told", v2), ("letter", .str ⟨#[c]⟩), ("top", v3), ("low", v4)] "k" (.int i)) (r.part c i).sto Φ := by
  subst hb
  have hw : Subs [("word", v1), ("best", .obj 0), ("least", .obj 1), ("told", v2), ("letter", .str ⟨#[c]⟩), ("top", v3), ("low", v4)] (upd [("word", v1), ("best", .obj 0), ("least", .obj 1), ("told", v2), ("letter", .str ⟨#[c]⟩), ("top", v3), ("low", v4)] "k" (.int i)) :=
    ⟨rfl, rfl, rfl, rfl, rfl, rfl, rfl, trivial⟩
  match i, hi, h with
  | 0, _, h =>
    refine ex_cons (sx_set_list O (ev_bin (ev_item_list (ev_name O rfl rfl) rfl (ev_name O rfl rfl) (by walk_at "num") (by walk_at "num") rfl) (ev_if_int (ts_cmp (ev_name O rfl rfl) (ev_item_str ev_str (ev_name O rfl rfl) (by walk_at "num") (by walk_at "num") rfl) cmp_eq_str) ev_int ev_int) bin_add_int) (ev_name O rfl rfl) (ev_name O rfl rfl) rfl (by walk_at "num") (by walk_at "num") (by walk_at "num") ?_)
    refine ex_cons (sx_set_list O (ev_bin (ev_item_list (ev_name O rfl rfl) rfl (ev_name O rfl rfl) (by walk_at "num") (by walk_at "num") rfl) (ev_if_int (ts_cmp (ev_name O rfl rfl) (ev_item_str ev_str (ev_name O rfl rfl) (by walk_at "num") (by walk_at "num") rfl) cmp_eq_str) ev_int ev_int) bin_add_int) (ev_name O rfl rfl) (ev_name O rfl rfl) rfl (by walk_at "num") (by walk_at "num") (by walk_at "num") ?_)
    refine ex_cons (sx_if (ts_cmp (ev_name O rfl rfl) ev_int cmp_gt_int) (fun h0 => nomatch h0) fun _ => ex_nil (ex_weak hw (ex_nil h)))
  | 1, _, h =>
    refine ex_cons (sx_set_list O (ev_bin (ev_item_list (ev_name O rfl rfl) rfl (ev_name O rfl rfl) (by walk_at "num") (by walk_at "num") rfl) (ev_if_int (ts_cmp (ev_name O rfl rfl) (ev_item_str ev_str (ev_name O rfl rfl) (by walk_at "num") (by walk_at "num") rfl) cmp_eq_str) ev_int ev_int) bin_add_int) (ev_name O rfl rfl) (ev_name O rfl rfl) rfl (by walk_at "num") (by walk_at "num") (by walk_at "num") ?_)
    refine ex_cons (sx_set_list O (ev_bin (ev_item_list (ev_name O rfl rfl) rfl (ev_name O rfl rfl) (by walk_at "num") (by walk_at "num") rfl) (ev_if_int (ts_cmp (ev_name O rfl rfl) (ev_item_str ev_str (ev_name O rfl rfl) (by walk_at "num") (by walk_at "num") rfl) cmp_eq_str) ev_int ev_int) bin_add_int) (ev_name O rfl rfl) (ev_name O rfl rfl) rfl (by walk_at "num") (by walk_at "num") (by walk_at "num") ?_)
    refine ex_cons (sx_if (ts_cmp (ev_name O rfl rfl) ev_int cmp_gt_int) (fun _ => ?_) (fun h0 => nomatch h0))
    refine ex_cons (sx_set_list O (ev_b2 O (ev_item_list (ev_name O rfl rfl) rfl (ev_name O rfl rfl) (by walk_at "num") (by walk_at "num") rfl) (ev_item_list (ev_name O rfl rfl) rfl (ev_bin (ev_name O rfl rfl) ev_int bin_sub_int) (by walk_at "num") (by walk_at "num") rfl) prim_max2 (by walk_at "mem") (by decide +kernel) rfl) (ev_name O rfl rfl) (ev_name O rfl rfl) rfl (by walk_at "num") (by walk_at "num") (by walk_at "num") ?_)
    refine ex_cons (sx_set_list O (ev_b2 O (ev_item_list (ev_name O rfl rfl) rfl (ev_name O rfl rfl) (by walk_at "num") (by walk_at "num") rfl) (ev_item_list (ev_name O rfl rfl) rfl (ev_bin (ev_name O rfl rfl) ev_int bin_sub_int) (by walk_at "num") (by walk_at "num") rfl) prim_min2 (by walk_at "mem") (by decide +kernel) rfl) (ev_name O rfl rfl) (ev_name O rfl rfl) rfl (by walk_at "num") (by walk_at "num") (by walk_at "num") ?_)
    exact ex_nil (ex_weak hw (ex_nil h))
  | 2, _, h =>
    refine ex_cons (sx_set_list O (ev_bin (ev_item_list (ev_name O rfl rfl) rfl (ev_name O rfl rfl) (by walk_at "num") (by walk_at "num") rfl) (ev_if_int (ts_cmp (ev_name O rfl rfl) (ev_item_str ev_str (ev_name O rfl rfl) (by walk_at "num") (by walk_at "num") rfl) cmp_eq_str) ev_int ev_int) bin_add_int) (ev_name O rfl rfl) (ev_name O rfl rfl) rfl (by walk_at "num") (by walk_at "num") (by walk_at "num") ?_)
    refine ex_cons (sx_set_list O (ev_bin (ev_item_list (ev_name O rfl rfl) rfl (ev_name O rfl rfl) (by walk_at "num") (by walk_at "num") rfl) (ev_if_int (ts_cmp (ev_name O rfl rfl) (ev_item_str ev_str (ev_name O rfl rfl) (by walk_at "num") (by walk_at "num") rfl) cmp_eq_str) ev_int ev_int) bin_add_int) (ev_name O rfl rfl) (ev_name O rfl rfl) rfl (by walk_at "num") (by walk_at "num") (by walk_at "num") ?_)
    refine ex_cons (sx_if (ts_cmp (ev_name O rfl rfl) ev_int cmp_gt_int) (fun _ => ?_) (fun h0 => nomatch h0))
    refine ex_cons (sx_set_list O (ev_b2 O (ev_item_list (ev_name O rfl rfl) rfl (ev_name O rfl rfl) (by walk_at "num") (by walk_at "num") rfl) (ev_item_list (ev_name O rfl rfl) rfl (ev_bin (ev_name O rfl rfl) ev_int bin_sub_int) (by walk_at "num") (by walk_at "num") rfl) prim_max2 (by walk_at "mem") (by decide +kernel) rfl) (ev_name O rfl rfl) (ev_name O rfl rfl) rfl (by walk_at "num") (by walk_at "num") (by walk_at "num") ?_)
    refine ex_cons (sx_set_list O (ev_b2 O (ev_item_list (ev_name O rfl rfl) rfl (ev_name O rfl rfl) (by walk_at "num") (by walk_at "num") rfl) (ev_item_list (ev_name O rfl rfl) rfl (ev_bin (ev_name O rfl rfl) ev_int bin_sub_int) (by walk_at "num") (by walk_at "num") rfl) prim_min2 (by walk_at "mem") (by decide +kernel) rfl) (ev_name O rfl rfl) (ev_name O rfl rfl) rfl (by walk_at "num") (by walk_at "num") (by walk_at "num") ?_)
    exact ex_nil (ex_weak hw (ex_nil h))

noncomputable def RS.zero : RS := ⟨0, 0, 0, 0, 0, 0⟩
theorem ruleGo_snoc : ∀ (w : List Nat) (c : Nat) (r : RS) (t : Str), ruleGo (w ++ [c]) r t = ((ruleGo w r t).1.step c, (ruleGo w r t).2 ++ (ruleGo w r t).1.tell ((ruleGo w r t).1.step c))
  | [], c, r, t => rfl
  | a :: w, c, r, t => ruleGo_snoc w c (r.step a) (t ++ r.tell (r.step a))
theorem length_append_str (a b : Str) : (a ++ b).length = a.length + b.length := by
  show (a.cps ++ b.cps).size = _
  rw [Array.size_append]; rfl
theorem tell_length (r r' : RS) : (r.tell r').length = 1 := by
  unfold RS.tell; split
  · rfl
  · split <;> rfl
theorem ruleGo_length : ∀ (w : List Nat) (r : RS) (t : Str), (ruleGo w r t).2.length = t.length + w.length
  | [], r, t => rfl
  | a :: w, r, t => by
    show (ruleGo w (r.step a) (t ++ r.tell (r.step a))).2.length = _
    rw [ruleGo_length w, length_append_str, tell_length, List.length_cons]; omega

theorem take_next {w : Str} {i : Nat} {c : Nat} (h : w.cps[i]? = some c) : w.cps.toList.take (i + 1) = w.cps.toList.take i ++ [c] := by
  rw [List.take_add_one, Array.getElem?_toList, h]; rfl


theorem rule_fn (w : World) (word : Str) (hsz : word.length ≤ 1000) :
    FnT w 1 dRule.addr [.str word] [.str (ruleGo word.cps.toList RS.zero ⟨#[]⟩).2, .int (ruleGo word.cps.toList RS.zero ⟨#[]⟩).1.b2, .int (ruleGo word.cps.toList RS.zero ⟨#[]⟩).1.l2] := by
  refine fn_enterT (lv := 0) dRule (by walk_at "mem") (l₀ := [("word", .str word)]) rfl rfl (fun us pm cd doc hu => ?_) fun A cd s O => ?_
  · obtain _ | ⟨⟨t, rfl⟩, _ | _⟩ := hu
    exact ⟨[("word", .str word t)], rfl, locs rfl, fun x v hx => by
      have := mem_of_lookup hx
      simp at this
      obtain ⟨rfl, rfl⟩ := this
      exact ⟨_, rfl, t, rfl⟩⟩
  · refine ex_cons (sx_assignL O (evl_list (evas_cons ev_int (evas_cons ev_int (evas_cons ev_int evas_nil)))) ?_ rfl)
    refine ex_cons (sx_assignL O (evl_list (evas_cons ev_int (evas_cons ev_int (evas_cons ev_int evas_nil)))) ?_ rfl)
    refine ex_cons (sx_assign O ev_str ?_ rfl)
    refine ex_cons (sx_for_str O (ev_name O rfl rfl) rfl (fun i (l : Loc) σ => l = ([("word", .str word), ("best", .obj 0), ("least", .obj 1), ("told", .str (ruleGo (word.cps.toList.take i) RS.zero ⟨#[]⟩).2)] : Loc) ∧ σ = (ruleGo (word.cps.toList.take i) RS.zero ⟨#[]⟩).1.sto) ⟨rfl, rfl⟩ ?_ ?_)
    · rintro i c _ _ hc ⟨rfl, rfl⟩
      rw [take_next hc, ruleGo_snoc]
      have hl : (ruleGo (word.cps.toList.take i) RS.zero ⟨#[]⟩).2.length ≤ 1000 := by
        rw [ruleGo_length]
        have : word.cps.toList.length ≤ 1000 := hsz
        have := List.length_take_le i word.cps.toList
        simp only [Str.length] at *
        simp; omega
      generalize (ruleGo (word.cps.toList.take i) RS.zero ⟨#[]⟩).2 = t at *
      generalize (ruleGo (word.cps.toList.take i) RS.zero ⟨#[]⟩).1 = r at *
      have hl2 : t.length + (r.tell (r.step c)).length ≤ sizeLine := by rw [tell_length, sizeLine_eq]; omega
      refine ex_cons (sx_assign O (ev_item_list (ev_name O rfl rfl) rfl ev_int (by walk_at "num") (by walk_at "num") rfl) ?_ rfl)
      refine ex_cons (sx_assign O (ev_item_list (ev_name O rfl rfl) rfl ev_int (by walk_at "num") (by walk_at "num") rfl) ?_ rfl)
      refine ex_cons (sx_for_range O ev_int rfl rfl (by walk_at "num") (by walk_at "num") (fun i (l : Loc) σ => l = ([("word", .str word), ("best", .obj 0), ("least", .obj 1), ("told", .str t), ("letter", .str ⟨#[c]⟩), ("top", .int r.b2), ("low", .int r.l2)] : Loc) ∧ σ = (r.part c i).sto) ⟨rfl, rfl⟩ ?_ ?_)
      · rintro i _ _ hi ⟨rfl, rfl⟩
        exact rule_inner O r c i hi _ _ _ _ _ rfl ⟨rfl, rfl⟩
      · rintro _ _ ⟨rfl, rfl⟩
        refine ex_cons (sx_assign O (ev_bin (ev_name O rfl rfl) (ev_if_str (ts_cmp (ev_item_list (ev_name O rfl rfl) rfl ev_int (by walk_at "num") (by walk_at "num") rfl) (ev_name O rfl rfl) cmp_gt_int) ev_str (ev_if_str (ts_cmp (ev_item_list (ev_name O rfl rfl) rfl ev_int (by walk_at "num") (by walk_at "num") rfl) (ev_name O rfl rfl) cmp_gt_int) ev_str ev_str)) (bin_add_str (by walk_at "room"))) ?_ rfl)
        exact ex_weak (l' := [("word", .str word), ("best", .obj 0), ("least", .obj 1), ("told", .str (t ++ r.tell (r.step c)))]) ⟨rfl, rfl, rfl, rfl, trivial⟩ (ex_nil ⟨rfl, rfl⟩)
    · rintro _ _ ⟨rfl, rfl⟩
      have e : word.cps.toList.take word.cps.size = word.cps.toList := List.take_of_length_le (by simp)
      rw [e]
      refine ex_cons (sx_retM (evx_tup (evas_cons (ev_name O rfl rfl) (evas_cons (ev_item_list (ev_name O rfl rfl) rfl ev_int (by walk_at "num") (by walk_at "num") rfl) (evas_cons (ev_item_list (ev_name O rfl rfl) rfl ev_int (by walk_at "num") (by walk_at "num") rfl) evas_nil)))).m ⟨_, rfl, rfl⟩)
end Mine
end
noncomputable section
open PySem PySem.Spec PySem.Calls PyProof.Rows PyProof.V PySem.W
set_option Elab.async false
set_option linter.unusedVariables false
set_option maxRecDepth 100000
namespace Mine
local macro_rules | `(tactic| walk_at "num") => `(tactic| first | exact of_decide_eq_true rfl | assumption | omega)
local macro_rules | `(tactic| walk_at "mem") => `(tactic| first | decide | (simp [gTab, fnTab, bNames]; done))

noncomputable def isRgb (c : Nat) : Prop := c = 114 ∨ c = 103 ∨ c = 98
noncomputable def numS (i : Nat) : Str := toString (i : Int)
noncomputable def evenI (i : Nat) : Bool := (i : Int).fmod 2 == 0
noncomputable def nameS (i c : Nat) : Str := if evenI i then ⟨#[c]⟩ else Txt.upper ⟨#[c]⟩
/-- what is laid behind n turns -/
noncomputable def rowItems : List Nat → Nat → List (Str × Str)
  | [], _ => []
  | c :: w, i => (nameS i c, numS i) :: rowItems w (i + 1)
theorem rowItems_snoc : ∀ (w : List Nat) (c i : Nat), rowItems (w ++ [c]) i = rowItems w i ++ [(nameS (i + w.length) c, numS (i + w.length))]
  | [], c, i => by simp [rowItems]
  | a :: w, c, i => by
    simp only [List.cons_append, rowItems, rowItems_snoc w c (i + 1), List.length_cons]
    rw [show i + 1 + w.length = i + (w.length + 1) by omega]
theorem rowItems_len : ∀ (w : List Nat) (i : Nat), (rowItems w i).length = w.length
  | [], _ => rfl
  | a :: w, i => by simp [rowItems, rowItems_len w]
theorem nameS_ok {i c : Nat} (h : isRgb c) : nameS i c ∈ ([⟨#[114]⟩, ⟨#[103]⟩, ⟨#[98]⟩, ⟨#[82]⟩, ⟨#[71]⟩, ⟨#[66]⟩] : List Str) := by
  unfold nameS
  rcases h with rfl | rfl | rfl <;> cases evenI i <;> decide +kernel
theorem numS_ok : ∀ i, i < 21 → numS i ∈ numTs := by decide +kernel
theorem numTs_len : ∀ x ∈ numTs, x.length ≤ 1000 ∧ Txt.join ⟨#[59, 32]⟩ [x] = x := by decide +kernel
theorem names_fit : ∀ x ∈ ([⟨#[114]⟩, ⟨#[103]⟩, ⟨#[98]⟩, ⟨#[82]⟩, ⟨#[71]⟩, ⟨#[66]⟩] : List Str), Builtin.Str.tooLong (Txt.lower x).length = false ∧ Txt.lower x ∈ ([⟨#[114]⟩, ⟨#[103]⟩, ⟨#[98]⟩, ⟨#[82]⟩, ⟨#[71]⟩, ⟨#[66]⟩] : List Str) := by decide +kernel
theorem rowItems_ok : ∀ (w : List Nat) (i : Nat), (∀ c ∈ w, isRgb c) → ∀ p ∈ rowItems w i, Builtin.Str.tooLong (Txt.lower p.1).length = false
  | [], _, _, p, hp => nomatch hp
  | c :: w, i, h, p, hp => by
    rcases List.mem_cons.mp hp with rfl | hp
    · exact (names_fit _ (nameS_ok (h c (List.mem_cons_self ..)))).1
    · exact rowItems_ok w (i + 1) (fun c hc => h c (List.mem_cons_of_mem _ hc)) p hp

noncomputable def upRGB : Str := ⟨#[82, 71, 66]⟩
noncomputable def rowOf (items : List (Str × Str)) (i : Nat) : List PV := items.filterMap (gaPick (match upRGB.cps[i]? with | some c => ⟨#[c]⟩ | none => ⟨#[]⟩))

theorem rows_body {w : World} {A : Around} {cd : Value} {s : Shared} (O : (inFrameC w A dRows cd s 4 1).Ok) (x : Str) (hx : x.length ≤ 21) (hc : ∀ c ∈ x.cps.toList, isRgb c) :
    Ex (inFrameC w A dRows cd s 4 1) dRows.body [("word", .str x)] [.cell none] (fun f _ σ' => ∃ v, f = .ret v ∧ ∃ j, v = .obj j ∧ ∃ a b c, (j ≠ a ∧ j ≠ b ∧ j ≠ c ∧ a ≠ b ∧ a ≠ c ∧ b ≠ c) ∧ σ'[j]? = some (.list [.obj a, .obj b, .obj c]) ∧ σ'[a]? = some (.list (rowOf (rowItems x.cps.toList 0) 0)) ∧ σ'[b]? = some (.list (rowOf (rowItems x.cps.toList 0) 1)) ∧ σ'[c]? = some (.list (rowOf (rowItems x.cps.toList 0) 2))) := by
  have hcls : (0, s.heap.objs.size + 1 + 0) ∈ (inFrameC w A dRows cd s 4 1).cls := List.mem_map.mpr ⟨0, by simp, rfl⟩
  refine ex_cons (sx_let (EvX.m (evx_headers O (by show 4 ≤ 4; omega) rfl)) (st_cell O (a := s.heap.objs.size + 1 + 0) (j := 0) (v₀ := none) rfl rfl hcls rfl) ?_)
  show Ex _ _ [("word", .str x)] (rowSto []) _
  have hN : ((x.length : Int)).toNat = x.length := by omega
  refine ex_cons (sx_for_range O (ev_b1 O (ev_name (v := .str x) O rfl rfl) (prim_len_str (x := x) (by omega)) (by walk_at "mem") (by decide +kernel) rfl) rfl rfl (by omega) (by omega)
    (fun i (l : Loc) σ => l = ([("word", .str x)] : Loc) ∧ σ = rowSto (rowItems (x.cps.toList.take i) 0)) ⟨rfl, rfl⟩ ?_ ?_)
  · rintro i _ _ hi ⟨rfl, rfl⟩
    rw [hN] at hi
    have hci : x.cps[i]? = some x.cps[i] := Array.getElem?_eq_getElem hi
    have hcm : isRgb x.cps[i] := hc _ (Array.getElem_mem_toList ..)
    show Ex _ _ [("word", .str x), ("k", .int i)] _ _
    have htl : (x.cps.toList.take i).length = i := by rw [List.length_take]; have : x.cps.toList.length = x.length := by simp; rfl
                                                      omega
    refine ex_cons (sx_addheader O (by show 4 ≤ 4; omega) (nm := nameS i x.cps[i]) (val := numS i) (ev_cell (v := .obj 3) (a := s.heap.objs.size + 1 + 0) (j := 0) O rfl rfl hcls rfl)
      (ev_if_str (b := evenI i) (ts_cmp (ev_bin (ev_name (v := .int i) O rfl rfl) ev_int (bin_mod_int (by decide))) ev_int cmp_eq_int) (ev_item_str (ev_name (v := .str x) O rfl rfl) (ev_name (v := .int i) O rfl rfl) (by omega) (by omega) hci) (ev_upper (ev_item_str (ev_name (v := .str x) O rfl rfl) (ev_name (v := .int i) O rfl rfl) (by omega) (by omega) hci) ?_))
      (ev_t1 O (ev_name (v := .int i) O rfl rfl) (prim_str_int ?_) (by walk_at "mem") (by decide +kernel) rfl) (okT_n _ (nameS_ok hcm)) (okT_v _ (numS_ok i (by omega))) (numTs_len _ (numS_ok i (by omega))).2 (numTs_len _ (numS_ok i (by omega))).1 (by rw [rowItems_len, htl]; omega) ?_)
    · rcases hcm with h | h | h <;> rw [h] <;> decide +kernel
    · have : (i : Int).natAbs = i := by omega
      rw [this]
      have h2 : i.log2 ≤ i := Nat.log2_le_self i
      omega
    · refine ex_weak (l' := [("word", .str x)]) ⟨rfl, trivial⟩ (ex_nil ⟨rfl, ?_⟩)
      rw [take_next hci, rowItems_snoc, htl, Nat.zero_add]
  rintro _ _ ⟨rfl, rfl⟩
  rw [hN, show x.cps.toList.take x.length = x.cps.toList from List.take_of_length_le (by simp; exact Nat.le_refl _)]
  generalize hit : rowItems x.cps.toList 0 = items
  have hil : items.length ≤ 900 := by rw [← hit, rowItems_len]; have : x.cps.toList.length = x.length := by simp; rfl
                                      omega
  have hip : ∀ p ∈ items, Builtin.Str.tooLong (Txt.lower p.1).length = false := by rw [← hit]; exact rowItems_ok _ _ hc
  refine ex_cons (sx_retM (EvX.m (evx_comp O (x := "name") (n := 3) (P := SignAt upRGB) (evi_str O ev_str).c (of_decide_eq_true rfl) rfl (by decide) rfl (by decide) rfl
    (fun i τ ys => τ = (List.range i).map (fun j => PO.list (rowOf items j)) ∧ ys = (List.range i).map (fun j => PV.obj ((rowSto items).length + j))) ⟨rfl, rfl⟩ (fun i τ ys h => by rw [h.2]; simp) ?_
    (τ₁ := (List.range 3).map (fun j => PO.list (rowOf items j))) (ys₁ := (List.range 3).map (fun j => PV.obj ((rowSto items).length + j))) (fun τ ys h => h))) ?_)
  · rintro i u hi ⟨c, t, hcc, hu⟩
    refine ⟨.str ⟨#[c]⟩, ⟨t, hu⟩, rfl, ?_⟩
    rintro τ ys L ⟨rfl, rfl⟩ Oc
    have hcm : (⟨#[c]⟩ : Str) ∈ ([⟨#[114]⟩, ⟨#[103]⟩, ⟨#[98]⟩, ⟨#[82]⟩, ⟨#[71]⟩, ⟨#[66]⟩] : List Str) := by
      match i, hi, hcc with
      | 0, _, hcc => cases hcc; decide
      | 1, _, hcc => cases hcc; decide
      | 2, _, hcc => cases hcc; decide
    have hrow : items.filterMap (gaPick ⟨#[c]⟩) = rowOf items i := by unfold rowOf; rw [hcc]
    refine ⟨true, ct_nil, nofun, fun _ => ⟨[.list (rowOf items i)], .obj (rowSto items ++ (List.range i).map (fun j => PO.list (rowOf items j))).length, ?_, ?_, ?_⟩⟩
    · rw [← hrow]
      exact evx_getall Oc (by show 4 ≤ 4; omega) (ev_cell (v := .obj 3) (a := s.heap.objs.size + 1 + 0) (j := 0) Oc rfl rfl hcls rfl) (ev_name (v := .str ⟨#[c]⟩) Oc rfl rfl) hil (okT_n _ (names_fit _ hcm).2) (names_fit _ hcm).1 hip
    · rw [List.range_succ, List.map_append]; rfl
    · rw [List.range_succ, List.map_append, List.length_append, List.length_map, List.length_range]; rfl
  · refine ⟨_, rfl, _, rfl, (rowSto items).length, (rowSto items).length + 1, (rowSto items).length + 2, ?_, ?_, ?_, ?_, ?_⟩
    · rw [show ((List.range 3).map fun j => PO.list (rowOf items j)).length = 3 from rfl]; omega
    · rw [show ((List.range 3).map fun j => PO.list (rowOf items j)).length = 3 from rfl, List.getElem?_append_right (by omega)]
      simp
      rfl
    · rw [List.getElem?_append_right (by omega)]; simp
    · rw [List.getElem?_append_right (by omega)]; simp
    · rw [List.getElem?_append_right (by omega)]; simp

theorem gaPick_plain {nm : Str} {p : Str × Str} {v : PV} (hp : gaPick nm p = some v) : v.plain = true := by
  unfold gaPick at hp
  split at hp
  · cases hp; rfl
  · cases hp
theorem rows_fn (w : World) (x : Str) (hx : x.length ≤ 21) (hc : ∀ c ∈ x.cps.toList, isRgb c) {A : Around} {t : Tok} {s : Shared} {Q : Value → Shared → Prop} {E : Value → Shared → Prop} (hh : A.handled = none) (hdep : A.depth + 5 < recursionLimit) (hun : A.units + 30 * 5 + 60 < cLine) (T : TF w s.heap) (hg : ∀ z ∈ s.gens, z.bare = true)
    (hQ : ∀ r a b c s', Kp s s' → (∀ z ∈ [r, a, b, c], s.heap.get? z = none) → ([r, a, b, c] : List Addr).Nodup → OH w [] s'.heap r (.list [.ref a, .ref b, .ref c]) → OH w [] s'.heap a (.list (rowOf (rowItems x.cps.toList 0) 0)) → OH w [] s'.heap b (.list (rowOf (rowItems x.cps.toList 0) 1)) → OH w [] s'.heap c (.list (rowOf (rowItems x.cps.toList 0) 2)) → Q (.ref r) s') :
    wpAny (model Pg w) A (call (.ref dRows.addr) [.str x t]) Q E s := by
  refine enterC (lv := 4) dRows (by walk_at "mem") hh hdep hun T hg (l₀ := [("word", .str x)]) (σ₀ := [.cell none]) ["table"] rfl ?_ ?_ (fun cd O => rows_body O x hx hc) ?_
  · intro L i n hi
    match i, hi with
    | 0, hi => cases hi; rfl
  · intro pm cd doc
    refine ⟨[("word", .str x t)], rfl, ?_, ?_, ?_⟩
    · intro y hy
      rw [List.mem_singleton.mp hy]
      exact .inl rfl
    · intro y v hy
      have := PySem.mem_of_lookup hy
      simp at this
      obtain ⟨rfl, rfl⟩ := this
      exact ⟨_, rfl, t, rfl⟩
    · intro i n hi
      match i, hi with
      | 0, hi => cases hi; exact ⟨none, rfl, rfl⟩
  · rintro cd v l' σ' as' s' u ⟨j, rfl, a, b, c, ⟨d1, d2, d3, d4, d5, d6⟩, h1, h2, h3, h4⟩ R K hf hv
    obtain ⟨r, hr, rfl⟩ := hv
    obtain ⟨r', hr', us, n, ho, hus⟩ := R.st j _ h1
    rw [hr] at hr'; cases hr'
    obtain ⟨xa, hxa, us1, n1, ho1, hus1⟩ := R.st a _ h2
    obtain ⟨xb, hxb, us2, n2, ho2, hus2⟩ := R.st b _ h3
    obtain ⟨xc, hxc, us3, n3, ho3, hus3⟩ := R.st c _ h4
    have pl : ∀ i, (rowOf (rowItems x.cps.toList 0) i).all PV.plain = true := fun i => by
      rw [List.all_eq_true]
      intro v hv
      obtain ⟨p, _, hp⟩ := List.mem_filterMap.mp hv
      exact gaPick_plain hp
    have inj : ∀ {i j : Nat} {p q : Addr}, as'[i]? = some p → as'[j]? = some q → i ≠ j → p ≠ q := fun {i j p q} hi hj hij h => by
      subst h
      exact hij ((List.getElem?_inj (List.getElem?_eq_some_iff.mp hi).1 R.nd).mp (hi.trans hj.symm))
    have hus' : us = [.ref xa, .ref xb, .ref xc] := by
      obtain _ | ⟨⟨y1, e1, rfl⟩, _ | ⟨⟨y2, e2, rfl⟩, _ | ⟨⟨y3, e3, rfl⟩, _ | _⟩⟩⟩ := hus
      rw [hxa] at e1; cases e1
      rw [hxb] at e2; cases e2
      rw [hxc] at e3; cases e3
      rfl
    subst hus'
    refine hQ r xa xb xc s' K (fun z hz => ?_) ?_ ⟨_, n, ho, .cons rfl (.cons rfl (.cons rfl .nil))⟩ ⟨us1, n1, ho1, hus1.as_plain (pl 0)⟩ ⟨us2, n2, ho2, hus2.as_plain (pl 1)⟩ ⟨us3, n3, ho3, hus3.as_plain (pl 2)⟩
    · simp only [List.mem_cons, List.not_mem_nil, or_false] at hz
      rcases hz with rfl | rfl | rfl | rfl
      · exact hf _ (List.mem_of_getElem? hr)
      · exact hf _ (List.mem_of_getElem? hxa)
      · exact hf _ (List.mem_of_getElem? hxb)
      · exact hf _ (List.mem_of_getElem? hxc)
    · have i1 := inj hr hxa d1
      have i2 := inj hr hxb d2
      have i3 := inj hr hxc d3
      have i4 := inj hxa hxb d4
      have i5 := inj hxa hxc d5
      have i6 := inj hxb hxc d6
      simp [i1, i2, i3, i4, i5, i6]
end Mine
end
noncomputable section
open PySem PySem.Spec PySem.Calls PyProof.Rows PyProof.V PySem.W
set_option Elab.async false
set_option linter.unusedVariables false
set_option maxRecDepth 100000
namespace Mine
local macro_rules | `(tactic| walk_at "num") => `(tactic| first | exact of_decide_eq_true rfl | assumption | omega)
local macro_rules | `(tactic| walk_at "mem") => `(tactic| first | decide | (simp [gTab, fnTab, bNames]; done))

/-- the set's numbers -/
noncomputable def b1N : List Int := [65024, 65025, 65026, 65027, 65028, 65029, 6150, 65030, 65031, 65032, 65033, 6155, 6156, 6157, 8203, 8204, 8205, 65034, 65035, 65036, 65037, 65038, 65039, 173, 847, 8288, 65279]
noncomputable def setL (o : Obj) : List (Int × Value) := match o.data with | .set es _ _ => es.toList | _ => []
noncomputable def okE (e : Int × Value) : Bool := match e.2 with | .int i _ => e.1 == hashInt i | _ => false
noncomputable def numE (e : Int × Value) : Int := match e.2 with | .int i _ => i | _ => 0
theorem b1_ok (P : Params) : (setL (y74 P)).all okE = true := rfl
theorem b1_num (P : Params) : (setL (y74 P)).map numE = b1N := rfl
theorem okE_int {e : Int × Value} (h : okE e = true) : ∃ i t, e.2 = .int i t ∧ e.1 = hashInt i ∧ numE e = i := by
  obtain ⟨a, v⟩ := e
  cases v with
  | int i t => exact ⟨i, t, rfl, beq_iff_eq.mp h, rfl⟩
  | _ => cases h
theorem b1_set {w : World} {h : Heap} (T : TF w h) : h.SetOf (intKind Pg w) 74 (fun k => b1N.contains k) 27 := by
  have hg := T.k 74 (y74 w.params) rfl
  have hex : (y74 w.params).ExactSet := ⟨rfl, rfl, rfl⟩
  obtain ⟨es, ep, t, hd, hs, hf, hL⟩ : ∃ es ep t, (y74 w.params).data = .set es ep t ∧ es.size = 27 ∧ t.fits es.size = true ∧ es.toList = setL (y74 w.params) := ⟨_, _, _, rfl, rfl, rfl, rfl⟩
  refine ⟨_, es, ep, t, hg, hex, hd, ?_, fun k => ?_, by rw [hs]; decide, hf, hs⟩
  · intro e he
    rw [hL] at he
    obtain ⟨i, tk, e1, e2, _⟩ := okE_int (List.all_eq_true.mp (b1_ok w.params) e he)
    refine ⟨⟨i, ?_, e2⟩, ?_⟩
    · rw [e1]; exact beq_self_eq_true i
    · rw [e1]; rfl
  · rw [hL, ← b1_num w.params]
    rw [List.contains_iff_exists_mem_beq]
    constructor
    · rintro ⟨x, hx, hk⟩
      obtain ⟨e, he, rfl⟩ := List.mem_map.mp hx
      obtain ⟨i, tk, e1, e2, e3⟩ := okE_int (List.all_eq_true.mp (b1_ok w.params) e he)
      refine ⟨e, he, ?_⟩
      rw [e1]
      have : k = numE e := beq_iff_eq.mp hk
      show (i == k) = true
      rw [this, e3]; exact beq_self_eq_true i
    · rintro ⟨e, he, hk⟩
      obtain ⟨i, tk, e1, e2, e3⟩ := okE_int (List.all_eq_true.mp (b1_ok w.params) e he)
      rw [e1] at hk
      refine ⟨_, List.mem_map_of_mem he, ?_⟩
      have : i = k := beq_iff_eq.mp hk
      rw [e3, this]; exact beq_self_eq_true k

theorem all2_right {α β : Type} {R : α → β → Prop} {l : List α} {m : List β} (h : All2 R l m) : ∀ e ∈ m, ∃ p, R p e := by
  induction h with
  | nil => intro e he; cases he
  | cons hr _ ih =>
    intro e he
    rcases List.mem_cons.mp he with rfl | he
    · exact ⟨_, hr⟩
    · exact ih e he
/-- the dict's values -/
noncomputable def b3F (es : Array DictEntry) (k : Int) : Option Value := findBy Value.isInt es k
theorem b3F_lookup {k : Int} : ∀ {ps : List (Int × Str)} {es : List DictEntry}, All2 EnR ps es → (ps.lookup k = none ∧ (es.find? fun e => Value.isInt k e.key) = none) ∨ ∃ x e t, ps.lookup k = some x ∧ (es.find? fun e => Value.isInt k e.key) = some e ∧ e.val = .str x t := by
  intro ps es h
  induction h with
  | nil => exact .inl ⟨rfl, rfl⟩
  | @cons p e l m hr _ ih =>
    obtain ⟨a, x⟩ := p
    obtain ⟨h1, ⟨t, h2⟩, u, h3⟩ := hr
    have hk : Value.isInt k e.key = (a == k) := by rw [h2]; rfl
    rw [List.lookup_cons, List.find?_cons, hk]
    by_cases q : k = a
    · subst q
      right
      simp only [beq_self_eq_true]
      exact ⟨x, e, u, rfl, rfl, h3⟩
    · have q1 : (k == a) = false := beq_eq_false_iff_ne.mpr q
      have q2 : (a == k) = false := beq_eq_false_iff_ne.mpr (Ne.symm q)
      simp only [q1, q2]
      exact ih
noncomputable def b3V (c : Int) : PV := match b3ps.lookup c with | some x => .str x | none => .none
theorem b3_map {w : World} {h : Heap} (T : TF w h) : ∃ f : Int → Option Value, h.MapOf (intKind Pg w) 85 f ∧ ∀ c, VR [] (b3V c) ((f c).getD .none) := by
  obtain ⟨es, hg, he⟩ := T.b3
  refine ⟨fun k => findBy Value.isInt es k, ⟨_, es, _, hg, ⟨rfl, rfl, rfl⟩, rfl, ?_, fun k => rfl⟩, fun c => ?_⟩
  · intro e hm
    have hl : e ∈ es.toList := Array.mem_toList_iff.mpr hm
    obtain ⟨p, h1, ⟨t, h2⟩, _⟩ := all2_right he e hl
    exact ⟨p.1, by rw [h2]; exact beq_self_eq_true _, h1⟩
  · have e0 : findBy Value.isInt es c = (es.toList.find? fun e => Value.isInt c e.key).map (·.val) := by
      unfold findBy; rw [← Array.find?_toList]
    dsimp only
    rw [e0]
    unfold b3V
    rcases b3F_lookup (k := c) he with ⟨h1, h2⟩ | ⟨x, e, t, h1, h2, h3⟩
    · rw [h1, h2]; rfl
    · rw [h1, h2]
      exact ⟨t, h3⟩

section
variable {C : Cx} {l : Loc} {σ : Sto}
theorem ev_inb1 (O : C.Ok) {e : PySem.Expr} {np pos : Pos} {c : Int} (h : Ev C l σ e (.int c)) (hk : C.env.kindOf "b1_set" = some .globalImplicit) : Ev C l σ (.Compare e [.In] [.Name "b1_set" np] pos) (.bool (b1N.contains c)) := fun as s Q E R hQ =>
  wpAny_Compare1 (h as s _ E R fun ua s₁ R₁ va => nm_g O (R.kp R₁) (a := 74) (by walk_at "mem") hk (by
    obtain ⟨t, rfl⟩ := va
    exact wpAny_inSet_of (knd := intKind Pg C.w) (k := c) (beq_self_eq_true c) rfl (b1_set ((R.kp R₁).tf O)) (hQ _ _ R₁.toks' rfl)))
theorem ev_b3get (O : C.Ok) {e : PySem.Expr} {np apos pos : Pos} {c : Int} (h : Ev C l σ e (.int c)) (hk : C.env.kindOf "b3_exceptions" = some .globalImplicit)
    (hbase : attributeBase (.Name "b3_exceptions" np) "get" C.env (eval (.Name "b3_exceptions" np) C.env) = eval (.Name "b3_exceptions" np) C.env := by rfl) (htrees : backTo pos (starEach [e] C.env) = [(false, eval e C.env)] := by rfl) (hline : (apos.endLine == pos.line) = true := by rfl) :
    Ev C l σ (.Call (.Attribute (.Name "b3_exceptions" np) "get" apos) [e] [] pos) (b3V c) := fun as s Q E R hQ => by
  refine wpAny_Call_method1_late hbase hline htrees (nm_g O R (a := 85) (by walk_at "mem") hk ?_)
  obtain ⟨f, hm, hf⟩ := b3_map (R.tf O)
  refine ⟨"dict", "dict.get", F.plainAttrs_dict, F.slot_dict_get, F.type_dict_get, hm.typeIs, hm.noDict, wpAny_dict_get1 (knd := intKind Pg C.w) (by decide) (h as s _ E R fun u s₁ K vu => ?_)⟩
  obtain ⟨t, rfl⟩ := vu
  obtain ⟨f₁, hm₁, hf₁⟩ := b3_map ((R.kp K).tf O)
  exact ⟨c, f₁, beq_self_eq_true c, hm₁, hQ _ _ K.toks' (hf₁ c).of_nil⟩
end

theorem inb1_fn (w : World) (c : Nat) : FnC w 1 dInB1.addr [.str ⟨#[c]⟩] (.bool (b1N.contains (c : Int))) := by
  refine fn_enter (lv := 0) dInB1 (by walk_at "mem") (l₀ := [("code", .str ⟨#[c]⟩)]) rfl rfl (fun us pm cd doc hu => ?_) fun A cd s O => ?_
  · obtain _ | ⟨⟨t, rfl⟩, _ | _⟩ := hu
    refine ⟨[("code", .str _ t)], rfl, ?_, fun y v hy => ?_⟩
    · intro x hx; rw [List.mem_singleton.mp hx]; rfl
    · have := PySem.mem_of_lookup hy
      simp at this
      obtain ⟨rfl, rfl⟩ := this
      exact ⟨_, rfl, t, rfl⟩
  · exact ex_cons (sx_ret (ev_inb1 O (ev_b1 O (ev_name (v := .str ⟨#[c]⟩) O rfl rfl) prim_ord (by walk_at "mem") (by decide +kernel) rfl) rfl) rfl)

noncomputable def mapQ (c : Nat) : Str := (b3ps.lookup (c : Int)).getD (Txt.lower ⟨#[c]⟩)
theorem mapb3_fn (w : World) (c : Nat) (hfit : Builtin.Str.tooLong (Txt.lower (⟨#[c]⟩ : Str)).length = false) : FnC w 1 dMapB3.addr [.str ⟨#[c]⟩] (.str (mapQ c)) := by
  refine fn_enter (lv := 0) dMapB3 (by walk_at "mem") (l₀ := [("code", .str ⟨#[c]⟩)]) rfl rfl (fun us pm cd doc hu => ?_) fun A cd s O => ?_
  · obtain _ | ⟨⟨t, rfl⟩, _ | _⟩ := hu
    refine ⟨[("code", .str _ t)], rfl, ?_, fun y v hy => ?_⟩
    · intro x hx; rw [List.mem_singleton.mp hx]; rfl
    · have := PySem.mem_of_lookup hy
      simp at this
      obtain ⟨rfl, rfl⟩ := this
      exact ⟨_, rfl, t, rfl⟩
  · refine ex_cons (sx_assign O (ev_b3get O (ev_b1 O (ev_name (v := .str ⟨#[c]⟩) O rfl rfl) prim_ord (by walk_at "mem") (by decide +kernel) rfl) rfl) ?_ rfl)
    show Ex _ _ [("code", .str ⟨#[c]⟩), ("r", b3V c)] [] _
    unfold b3V mapQ
    cases hl : b3ps.lookup (c : Int) with
    | some x =>
      refine ex_cons (sx_if (b := true) (ts_cmp (ev_name (v := .str x) O rfl rfl) ev_none cmp_isnot_none_str) (fun _ => ?_) (fun h0 => nomatch h0))
      exact ex_cons (sx_ret (ev_name (v := .str x) O rfl rfl) rfl)
    | none =>
      refine ex_cons (sx_if (b := false) (ts_cmp (ev_name (v := .none) O rfl rfl) ev_none cmp_isnot_none) (fun h0 => nomatch h0) (fun _ => ?_))
      exact ex_nil (ex_cons (sx_ret (ev_lower (ev_name (v := .str ⟨#[c]⟩) O rfl rfl) hfit) rfl))
end Mine
end
noncomputable section
open PySem PySem.Spec PySem.Calls PyProof.Rows PyProof.V PySem.W
set_option Elab.async false
set_option linter.unusedVariables false
set_option maxRecDepth 100000
namespace Mine
local macro_rules | `(tactic| walk_at "num") => `(tactic| first | exact of_decide_eq_true rfl | assumption | omega)
local macro_rules | `(tactic| walk_at "mem") => `(tactic| first | decide | (simp [gTab, fnTab, bNames]; done))
local macro_rules | `(tactic| walk_at "room") => `(tactic| first | assumption | exact of_decide_eq_true rfl | omega)

theorem frac_fin0 : ∀ a b : Fin 22, Float64.isInf (fracI (a.val : Int) (b.val : Int)) = false := by decide +kernel
theorem frac_fin {a b : Int} (h1 : 0 ≤ a) (h2 : a ≤ 21) (h3 : 0 ≤ b) (h4 : b ≤ 21) : ¬Float64.isInf (fracI a b) = true := by
  have := frac_fin0 ⟨a.toNat, by omega⟩ ⟨b.toNat, by omega⟩
  simp only [Int.toNat_of_nonneg h1, Int.toNat_of_nonneg h3] at this
  rw [this]; decide

theorem ts_as {C : Cx} {l : Loc} {σ : Sto} {e : Expr} {b b' : Bool} (h : Ts C l σ e b) (q : b = b') : Ts C l σ e b' := q ▸ h
noncomputable def mx3 (a b c : Int) : Int := if b > a then (if c > b then c else b) else (if c > a then c else a)
noncomputable def mn3 (a b c : Int) : Int := if b < a then (if c < b then c else b) else (if c < a then c else a)
noncomputable def hsvRaw (r g b : Int) : UInt64 :=
  let m := mx3 r g b
  let d := m - mn3 r g b
  let rc := fracI (m - r) d
  let gc := fracI (m - g) d
  let bc := fracI (m - b) d
  if (r == m) = true then Float64.sub bc gc else if (g == m) = true then Float64.sub (Float64.add 0x4000000000000000 rc) bc else Float64.sub (Float64.add 0x4010000000000000 gc) rc
noncomputable def hsvH (r g b : Int) : UInt64 := if (mn3 r g b == mx3 r g b) = true then 0 else (Float64.divmod (Float64.div (hsvRaw r g b) 0x4018000000000000) 0x3FF0000000000000).snd
noncomputable def hsvS (r g b : Int) : UInt64 := if (mn3 r g b == mx3 r g b) = true then 0 else fracI (mx3 r g b - mn3 r g b) (mx3 r g b)


theorem rgb_fn (w : World) (r g b : Int) (r0 : 0 ≤ r) (r1 : r ≤ 21) (g0 : 0 ≤ g) (g1 : g ≤ 21) (b0 : 0 ≤ b) (b1 : b ≤ 21) :
    FnT w 1 dRgb.addr [.int r, .int g, .int b] [.flt (hsvH r g b), .flt (hsvS r g b), .int (mx3 r g b)] := by
  refine fn_enterT (lv := 0) dRgb (by walk_at "mem") (l₀ := [("b", .int b), ("g", .int g), ("r", .int r)]) rfl rfl (fun us pm cd doc hu => ?_) fun A cd s O => ?_
  · obtain _ | ⟨⟨t, rfl⟩, _ | ⟨⟨t', rfl⟩, _ | ⟨⟨t'', rfl⟩, _ | _⟩⟩⟩ := hu
    exact ⟨[("r", .int r t), ("g", .int g t'), ("b", .int b t'')], rfl, locs rfl, fun x v hx => by
      have := mem_of_lookup hx
      simp at this
      rcases this with ⟨rfl, rfl⟩ | ⟨rfl, rfl⟩ | ⟨rfl, rfl⟩
      · exact ⟨_, rfl, t'', rfl⟩
      · exact ⟨_, rfl, t', rfl⟩
      · exact ⟨_, rfl, t, rfl⟩⟩
  · have hm : mx3 r g b = (if g > r then (if b > g then b else g) else (if b > r then b else r)) := rfl
    have hn : mn3 r g b = (if g < r then (if b < g then b else g) else (if b < r then b else r)) := rfl
    have m1 : mx3 r g b ≤ 21 := by rw [hm]; split <;> split <;> omega
    have m2 : r ≤ mx3 r g b := by rw [hm]; split <;> split <;> omega
    have m3 : g ≤ mx3 r g b := by rw [hm]; split <;> split <;> omega
    have m4 : b ≤ mx3 r g b := by rw [hm]; split <;> split <;> omega
    have n1 : 0 ≤ mn3 r g b := by rw [hn]; split <;> split <;> omega
    have n2 : mn3 r g b ≤ r := by rw [hn]; split <;> split <;> omega
    refine ex_cons (sx_assign O (v := .int (mx3 r g b)) (ev_b3 O (ev_name O rfl rfl) (ev_name O rfl rfl) (ev_name O rfl rfl) prim_max3 (by walk_at "mem") (by decide +kernel) rfl) ?_ rfl)
    refine ex_cons (sx_assign O (v := .int (mn3 r g b)) (ev_b3 O (ev_name O rfl rfl) (ev_name O rfl rfl) (ev_name O rfl rfl) prim_min3 (by walk_at "mem") (by decide +kernel) rfl) ?_ rfl)
    refine ex_cons (sx_assign O (ev_bin (ev_name O rfl rfl) (ev_name O rfl rfl) bin_sub_int) ?_ rfl)
    refine ex_cons (sx_assign O (ev_name O rfl rfl) ?_ rfl)
    by_cases he : (mn3 r g b == mx3 r g b) = true
    · unfold hsvH hsvS
      rw [if_pos he, if_pos he]
      refine ex_cons (sx_if (b := true) (ts_as (ts_cmp (ev_name O rfl rfl) (ev_name O rfl rfl) cmp_eq_int) he) (fun _ => ?_) (fun h0 => nomatch h0))
      refine ex_cons (sx_retM (evx_tup (evas_cons ev_flt (evas_cons ev_flt (evas_cons (ev_name O rfl rfl) evas_nil)))).m ⟨_, rfl, rfl⟩)
    · unfold hsvH hsvS
      rw [if_neg he, if_neg he]
      have he' : mn3 r g b ≠ mx3 r g b := fun q => he (by rw [q]; exact beq_self_eq_true _)
      have hd0 : ¬(mx3 r g b - mn3 r g b == 0) = true := by intro q; have := eq_of_beq q; omega
      have hx0 : ¬(mx3 r g b == 0) = true := by intro q; have := eq_of_beq q; omega
      refine ex_cons (sx_if (b := false) (ts_as (ts_cmp (ev_name O rfl rfl) (ev_name O rfl rfl) cmp_eq_int) (Bool.eq_false_iff.mpr he)) (fun h0 => nomatch h0) (fun _ => ex_nil ?_))
      refine ex_cons (sx_assign O (ev_bin (ev_name O rfl rfl) (ev_name O rfl rfl) (bin_div_int hx0 (frac_fin (by omega) (by omega) (by omega) (by omega)))) ?_ rfl)
      refine ex_cons (sx_assign O (ev_bin (ev_bin (ev_name O rfl rfl) (ev_name O rfl rfl) bin_sub_int) (ev_name O rfl rfl) (bin_div_int hd0 (frac_fin (by omega) (by omega) (by omega) (by omega)))) ?_ rfl)
      refine ex_cons (sx_assign O (ev_bin (ev_bin (ev_name O rfl rfl) (ev_name O rfl rfl) bin_sub_int) (ev_name O rfl rfl) (bin_div_int hd0 (frac_fin (by omega) (by omega) (by omega) (by omega)))) ?_ rfl)
      refine ex_cons (sx_assign O (ev_bin (ev_bin (ev_name O rfl rfl) (ev_name O rfl rfl) bin_sub_int) (ev_name O rfl rfl) (bin_div_int hd0 (frac_fin (by omega) (by omega) (by omega) (by omega)))) ?_ rfl)
      refine ex_cons ((sx_if (Φ := fun f l σ => f = .next ∧ σ = [] ∧ l.lookup ("h" : Str) = some (.flt (hsvRaw r g b)) ∧ l.lookup ("s" : Str) = some (.flt (fracI (mx3 r g b - mn3 r g b) (mx3 r g b))) ∧ l.lookup ("v" : Str) = some (.int (mx3 r g b))) (ts_cmp (ev_name O rfl rfl) (ev_name O rfl rfl) cmp_eq_int) (fun c1 => ?_) (fun c1 => ?_)).mono ?_)
      · refine ex_cons (sx_assign O (ev_bin (ev_name O rfl rfl) (ev_name O rfl rfl) bin_sub_flt) (ex_nil ⟨rfl, rfl, ?_, rfl, rfl⟩) rfl)
        rw [show hsvRaw r g b = _ from if_pos c1]; rfl
      · refine ex_cons (sx_if (ts_cmp (ev_name O rfl rfl) (ev_name O rfl rfl) cmp_eq_int) (fun c2 => ?_) (fun c2 => ?_))
        · refine ex_cons (sx_assign O (ev_bin (ev_bin ev_flt (ev_name O rfl rfl) bin_add_flt) (ev_name O rfl rfl) bin_sub_flt) (ex_nil (ex_nil ⟨rfl, rfl, ?_, rfl, rfl⟩)) rfl)
          rw [show hsvRaw r g b = _ from (if_neg (by rw [c1]; decide)).trans (if_pos c2)]; rfl
        · refine ex_cons (sx_assign O (ev_bin (ev_bin ev_flt (ev_name O rfl rfl) bin_add_flt) (ev_name O rfl rfl) bin_sub_flt) (ex_nil (ex_nil ⟨rfl, rfl, ?_, rfl, rfl⟩)) rfl)
          rw [show hsvRaw r g b = _ from (if_neg (by rw [c1]; decide)).trans (if_neg (by rw [c2]; decide))]; rfl
      · rintro f l σ ⟨rfl, rfl, h1, h2, h3⟩
        refine ex_weak (l' := [("h", .flt (hsvRaw r g b)), ("s", .flt (fracI (mx3 r g b - mn3 r g b) (mx3 r g b))), ("v", .int (mx3 r g b))]) ⟨h1, h2, h3, trivial⟩ ?_
        refine ex_cons (sx_assign O (ev_bin (ev_bin (ev_name O rfl rfl) ev_flt (bin_div_flt (by decide +kernel))) ev_flt (bin_mod_flt (by decide +kernel))) ?_ rfl)
        refine ex_cons (sx_retM (evx_tup (evas_cons (ev_name O rfl rfl) (evas_cons (ev_name O rfl rfl) (evas_cons (ev_name O rfl rfl) evas_nil)))).m ⟨_, rfl, rfl⟩)
end Mine
end
noncomputable section
open PySem PySem.Spec PySem.Calls PyProof.Rows PyProof.V PySem.W
set_option Elab.async false
set_option linter.unusedVariables false
set_option maxRecDepth 100000
namespace Mine
local macro_rules | `(tactic| walk_at "num") => `(tactic| first | exact of_decide_eq_true rfl | assumption | omega)
local macro_rules | `(tactic| walk_at "mem") => `(tactic| first | decide | (simp [gTab, fnTab, bNames]; done))
local macro_rules | `(tactic| walk_at "room") => `(tactic| first | assumption | exact of_decide_eq_true rfl | omega)

noncomputable def ec : Bool → Nat | true => 114 | false => 103
noncomputable def lc : Bool → Nat | true => 103 | false => 98
noncomputable def wheelStep (k : Bool) (e t : Int) (c : Nat) : (Int × Int) × Nat :=
  if c = ec k then ((e + 1, t), c) else if c = lc k then (if t + 1 > e then ((e, t), ec k) else ((e, t + 1), c)) else ((e, t), c)
noncomputable def wheelGo (k : Bool) : List Nat → Int × Int → Str → (Int × Int) × Str
  | [], p, o => (p, o)
  | c :: w, p, o => wheelGo k w (wheelStep k p.1 p.2 c).1 (o ++ ⟨#[(wheelStep k p.1 p.2 c).2]⟩)
theorem wheelGo_snoc (k : Bool) : ∀ (w : List Nat) (c : Nat) (p : Int × Int) (o : Str), wheelGo k (w ++ [c]) p o =
    ((wheelStep k (wheelGo k w p o).1.1 (wheelGo k w p o).1.2 c).1, (wheelGo k w p o).2 ++ ⟨#[(wheelStep k (wheelGo k w p o).1.1 (wheelGo k w p o).1.2 c).2]⟩)
  | [], c, p, o => rfl
  | a :: w, c, p, o => wheelGo_snoc k w c _ _
theorem wheelStep_le (k : Bool) (e t : Int) (c : Nat) (n : Int) (h0 : 0 ≤ e) (h1 : 0 ≤ t) (h : e + t ≤ n) : 0 ≤ (wheelStep k e t c).1.1 ∧ 0 ≤ (wheelStep k e t c).1.2 ∧ (wheelStep k e t c).1.1 + (wheelStep k e t c).1.2 ≤ n + 1 := by
  unfold wheelStep
  split
  · dsimp only; omega
  · split
    · split <;> (dsimp only; omega)
    · dsimp only; omega
theorem wheelGo_le (k : Bool) : ∀ (w : List Nat) (p : Int × Int) (o : Str) (n : Int), 0 ≤ p.1 → 0 ≤ p.2 → p.1 + p.2 ≤ n → 0 ≤ (wheelGo k w p o).1.1 ∧ 0 ≤ (wheelGo k w p o).1.2 ∧ (wheelGo k w p o).1.1 + (wheelGo k w p o).1.2 ≤ n + w.length
  | [], p, o, n, h0, h1, h => by simp [wheelGo]; omega
  | a :: w, p, o, n, h0, h1, h => by
    have hs := wheelStep_le k p.1 p.2 a n h0 h1 h
    have := wheelGo_le k w _ (o ++ ⟨#[(wheelStep k p.1 p.2 a).2]⟩) (n + 1) hs.1 hs.2.1 hs.2.2
    simp only [wheelGo, List.length_cons]
    simp only [Int.natCast_add] at *
    omega
theorem wheelGo_length (k : Bool) : ∀ (w : List Nat) (p : Int × Int) (o : Str), (wheelGo k w p o).2.length = o.length + w.length
  | [], p, o => rfl
  | a :: w, p, o => by
    show (wheelGo k w _ (o ++ _)).2.length = _
    rw [wheelGo_length k w, length_append_str, List.length_cons]
    show o.length + 1 + w.length = _
    omega
noncomputable def hueR (k : Bool) (e t : Int) : UInt64 := match k with | true => hsvH e t 0 | false => hsvH 0 e t
noncomputable def midI : Bool → Int | true => 1 | false => 3
noncomputable def hueAt (k : Bool) (e : Nat) : Bool := (List.range (22 - e)).all fun t => decide (t = 0) || ((Float64.cmpInt (Float64.mul (hueR k (e : Int) (t : Int)) (Float64.ofInt 6)) (midI k) == some Ordering.gt) == decide (t > e))
theorem hue_ta : (List.range' 0 2).all (hueAt true) = true := by decide +kernel
theorem hue_tb : (List.range' 2 3).all (hueAt true) = true := by decide +kernel
theorem hue_tc : (List.range' 5 3).all (hueAt true) = true := by decide +kernel
theorem hue_td : (List.range' 8 4).all (hueAt true) = true := by decide +kernel
theorem hue_te : (List.range' 12 10).all (hueAt true) = true := by decide +kernel
theorem hue_fa : (List.range' 0 2).all (hueAt false) = true := by decide +kernel
theorem hue_fb : (List.range' 2 3).all (hueAt false) = true := by decide +kernel
theorem hue_fc : (List.range' 5 3).all (hueAt false) = true := by decide +kernel
theorem hue_fd : (List.range' 8 4).all (hueAt false) = true := by decide +kernel
theorem hue_fe : (List.range' 12 10).all (hueAt false) = true := by decide +kernel
theorem hue_all (k : Bool) (e : Nat) (he : e < 22) : hueAt k e = true := by
  cases k
  · rcases Nat.lt_or_ge e 2 with h | h
    · exact List.all_eq_true.mp hue_fa e (List.mem_range'_1.mpr (by omega))
    rcases Nat.lt_or_ge e 5 with h | h
    · exact List.all_eq_true.mp hue_fb e (List.mem_range'_1.mpr (by omega))
    rcases Nat.lt_or_ge e 8 with h | h
    · exact List.all_eq_true.mp hue_fc e (List.mem_range'_1.mpr (by omega))
    rcases Nat.lt_or_ge e 12 with h | h
    · exact List.all_eq_true.mp hue_fd e (List.mem_range'_1.mpr (by omega))
    · exact List.all_eq_true.mp hue_fe e (List.mem_range'_1.mpr (by omega))
  · rcases Nat.lt_or_ge e 2 with h | h
    · exact List.all_eq_true.mp hue_ta e (List.mem_range'_1.mpr (by omega))
    rcases Nat.lt_or_ge e 5 with h | h
    · exact List.all_eq_true.mp hue_tb e (List.mem_range'_1.mpr (by omega))
    rcases Nat.lt_or_ge e 8 with h | h
    · exact List.all_eq_true.mp hue_tc e (List.mem_range'_1.mpr (by omega))
    rcases Nat.lt_or_ge e 12 with h | h
    · exact List.all_eq_true.mp hue_td e (List.mem_range'_1.mpr (by omega))
    · exact List.all_eq_true.mp hue_te e (List.mem_range'_1.mpr (by omega))
theorem hue_test (k : Bool) {e t : Int} (h1 : 0 ≤ e) (h2 : e + t ≤ 21) (h3 : 1 ≤ t) : (Float64.cmpInt (Float64.mul (hueR k e t) (Float64.ofInt 6)) (midI k) == some Ordering.gt) = decide (t > e) := by
  have := List.all_eq_true.mp (hue_all k e.toNat (by omega)) t.toNat (List.mem_range.mpr (by omega))
  rcases Bool.or_eq_true_iff.mp this with h | h
  · have := of_decide_eq_true h; omega
  · rw [Int.toNat_of_nonneg h1, Int.toNat_of_nonneg (show 0 ≤ t by omega)] at h
    rw [eq_of_beq h]; exact decide_eq_decide.mpr (by omega)
theorem chr_eqW (c d : Nat) (x : Str) (hx : x = ⟨#[d]⟩) : decide ((⟨#[c]⟩ : Str) = x) = decide (c = d) := by
  subst hx
  exact decide_eq_decide.mpr ⟨fun h => by injection h with h; simpa using h, fun h => by rw [h]⟩

noncomputable def wD (k : Bool) (e t : Int) : List (Str × Int) := match k with | true => [("r", e), ("g", t), ("b", 0)] | false => [("r", 0), ("g", e), ("b", t)]
theorem wheelStep_e (k : Bool) (e t : Int) {c : Nat} (h : c = ec k) : wheelStep k e t c = ((e + 1, t), c) := if_pos h
theorem wheelStep_l1 (k : Bool) (e t : Int) {c : Nat} (h : ¬c = ec k) (h2 : c = lc k) (h3 : t + 1 > e) : wheelStep k e t c = ((e, t), ec k) := (if_neg h).trans ((if_pos h2).trans (if_pos h3))
theorem wheelStep_l2 (k : Bool) (e t : Int) {c : Nat} (h : ¬c = ec k) (h2 : c = lc k) (h3 : ¬t + 1 > e) : wheelStep k e t c = ((e, t + 1), c) := (if_neg h).trans ((if_pos h2).trans (if_neg h3))
theorem wheelStep_o (k : Bool) (e t : Int) {c : Nat} (h : ¬c = ec k) (h2 : ¬c = lc k) : wheelStep k e t c = ((e, t), c) := (if_neg h).trans (if_neg h2)
noncomputable def wLoc (word early late : Str) (m : Int) (told : Str) : Loc := [("word", .str word), ("early", .str early), ("late", .str late), ("lights", .obj 0), ("middle", .int m), ("told", .str told)]
noncomputable def wLoc' (word early late : Str) (m : Int) (told : Str) (c : Nat) : Loc := [("word", .str word), ("early", .str early), ("late", .str late), ("lights", .obj 0), ("middle", .int m), ("told", .str told), ("letter", .str ⟨#[c]⟩)]
/-- a store of the wheel: the dict, and garbage behind it -/
noncomputable def wSto (σ : Sto) (D : List (Str × Int)) : Prop := σ[0]? = some (.dict D)
theorem wSto.set {σ : Sto} {D D' : List (Str × Int)} (h : wSto σ D) : wSto (σ.set 0 (.dict D')) D' := List.getElem?_set_self (List.getElem?_eq_some_iff.mp h).1
theorem wSto.app {σ τ : Sto} {D : List (Str × Int)} (h : wSto σ D) : wSto (σ ++ τ) D := by
  unfold wSto at *
  rw [List.getElem?_append_left (List.getElem?_eq_some_iff.mp h).1]; exact h
theorem ex_sto {C : Cx} {sts : List Stmt} {l : Loc} {σ : Sto} {Φ : Fl → Loc → Sto → Prop} {P : Sto → Prop} (h : P σ) (k : ∀ σ, P σ → Ex C sts l σ Φ) : Ex C sts l σ Φ := k σ h
theorem get_last {α : Type} {σ : List α} {x : α} : (σ ++ [x])[σ.length]? = some x := by simp


theorem wheel_turn {w : World} {A : Around} {cd : Value} {s : Shared} (k : Bool) (O : (inFrame w A dWheel cd s 1).Ok) (word told : Str) (e t : Int) (h0 : 0 ≤ e) (h1 : 0 ≤ t) (h2 : e + t ≤ 20) (c : Nat) (σ : Sto) (hσ : wSto σ (wD k e t)) (hl : told.length ≤ 1000) (body : List Stmt)
    (hb : body = (match dWheel.body[3]? with | some (Stmt.For _ _ b _ _) => b | _ => [])) {Φ : Fl → Loc → Sto → Prop}
    (hΦ : ∀ σ', wSto σ' (wD k (wheelStep k e t c).1.1 (wheelStep k e t c).1.2) → Φ .next (wLoc word ⟨#[ec k]⟩ ⟨#[lc k]⟩ (midI k) (told ++ ⟨#[(wheelStep k e t c).2]⟩)) σ') :
    Ex (inFrame w A dWheel cd s 1) body (upd (wLoc word ⟨#[ec k]⟩ ⟨#[lc k]⟩ (midI k) told) "letter" (.str ⟨#[c]⟩)) σ Φ := by
  subst hb
  have hl2 : told.length + 1 ≤ sizeLine := by rw [sizeLine_eq]; omega
  refine ex_cons ((?_ : Sx _ _ _ _ (fun f l σ' => f = .next ∧ Subs (wLoc' word ⟨#[ec k]⟩ ⟨#[lc k]⟩ (midI k) told (wheelStep k e t c).2) l ∧ wSto σ' (wD k (wheelStep k e t c).1.1 (wheelStep k e t c).1.2))).mono ?_)
  · by_cases c1 : c = ec k
    · rw [wheelStep_e k e t c1]
      cases k <;>
      · refine sx_if (b := true) (ts_as (ts_cmp (ev_name O rfl rfl) (ev_name O rfl rfl) cmp_eq_str) ((chr_eqW _ _ _ rfl).trans (decide_eq_true c1))) (fun _ => ?_) (fun h0 => nomatch h0)
        refine ex_cons (sx_set_dict O (ev_bin (ev_item_dict (ev_name O rfl rfl) hσ (ev_name O rfl rfl) rfl) ev_int bin_add_int) (ev_name O rfl rfl) (ev_name O rfl rfl) hσ (by walk_at "num") ?_)
        refine ex_nil ⟨rfl, ⟨rfl, rfl, rfl, rfl, rfl, rfl, rfl, trivial⟩, ?_⟩
        exact hσ.set
    · by_cases c2 : c = lc k
      · by_cases c3 : t + 1 > e
        · rw [wheelStep_l1 k e t c1 c2 c3]
          cases k with
          | true =>
            refine sx_if (b := false) (ts_as (ts_cmp (ev_name O rfl rfl) (ev_name O rfl rfl) cmp_eq_str) ((chr_eqW _ _ _ rfl).trans (decide_eq_false c1))) (fun h0 => nomatch h0) (fun _ => ?_)
            refine ex_cons (sx_if (b := true) (ts_as (ts_cmp (ev_name O rfl rfl) (ev_name O rfl rfl) cmp_eq_str) ((chr_eqW _ _ _ rfl).trans (decide_eq_true c2))) (fun _ => ?_) (fun h0 => nomatch h0))
            refine ex_cons (sx_set_dict O (ev_bin (ev_item_dict (ev_name O rfl rfl) hσ (ev_name O rfl rfl) rfl) ev_int bin_add_int) (ev_name O rfl rfl) (ev_name O rfl rfl) hσ (by walk_at "num") ?_)
            refine ex_sto (P := fun σ => wSto σ (wD true e (t + 1))) hσ.set fun σ1 hσ1 => ?_
            refine ex_cons (sx_unpack O (EvX.m (evx_fnT O dRgb (by walk_at "mem") (by walk_at "mem") (rgb_fn w e (t + 1) 0 (by omega) (by omega) (by omega) (by omega) (by omega) (by omega)) (by walk_at "num")
              (evas_cons (ev_item_dict (ev_name O rfl rfl) hσ1 ev_str rfl) (evas_cons (ev_item_dict (ev_name O rfl rfl) hσ1 ev_str rfl) (evas_cons (ev_item_dict (ev_name O rfl rfl) hσ1 ev_str rfl) evas_nil))) rfl)) get_last (.cons (st_local O rfl) (.cons (st_local O rfl) (.cons (st_local O rfl) .nil))) ?_)
            refine ex_sto (P := fun σ => wSto σ (wD true e (t + 1))) hσ1.app fun σ2 hσ2 => ?_
            refine ex_cons (sx_if (b := true) (ts_as (ts_cmp (ev_bin (ev_name O rfl rfl) ev_int (bin_mul_fi (by decide +kernel))) (ev_name O rfl rfl) cmp_gt_fi) ((hue_test true h0 (by omega) (by omega)).trans (decide_eq_true c3))) (fun _ => ?_) (fun h0 => nomatch h0))
            refine ex_cons (sx_set_dict O (ev_bin (ev_item_dict (ev_name O rfl rfl) hσ2 (ev_name O rfl rfl) rfl) ev_int bin_sub_int) (ev_name O rfl rfl) (ev_name O rfl rfl) hσ2 (by walk_at "num") ?_)
            refine ex_sto (P := fun σ => wSto σ (wD true e t)) (by have h9 := hσ2.set (D' := wD true e (t + 1 - 1)); rw [show t + 1 - 1 = t by omega] at h9; rw [show t + 1 - 1 = t by omega]; exact h9) fun σ3 hσ3 => ?_
            refine ex_cons (sx_assign O (ev_name O rfl rfl) ?_ rfl)
            exact ex_nil (ex_nil (ex_nil ⟨rfl, ⟨rfl, rfl, rfl, rfl, rfl, rfl, rfl, trivial⟩, hσ3⟩))
          | false =>
            refine sx_if (b := false) (ts_as (ts_cmp (ev_name O rfl rfl) (ev_name O rfl rfl) cmp_eq_str) ((chr_eqW _ _ _ rfl).trans (decide_eq_false c1))) (fun h0 => nomatch h0) (fun _ => ?_)
            refine ex_cons (sx_if (b := true) (ts_as (ts_cmp (ev_name O rfl rfl) (ev_name O rfl rfl) cmp_eq_str) ((chr_eqW _ _ _ rfl).trans (decide_eq_true c2))) (fun _ => ?_) (fun h0 => nomatch h0))
            refine ex_cons (sx_set_dict O (ev_bin (ev_item_dict (ev_name O rfl rfl) hσ (ev_name O rfl rfl) rfl) ev_int bin_add_int) (ev_name O rfl rfl) (ev_name O rfl rfl) hσ (by walk_at "num") ?_)
            refine ex_sto (P := fun σ => wSto σ (wD false e (t + 1))) hσ.set fun σ1 hσ1 => ?_
            refine ex_cons (sx_unpack O (EvX.m (evx_fnT O dRgb (by walk_at "mem") (by walk_at "mem") (rgb_fn w 0 e (t + 1) (by omega) (by omega) (by omega) (by omega) (by omega) (by omega)) (by walk_at "num")
              (evas_cons (ev_item_dict (ev_name O rfl rfl) hσ1 ev_str rfl) (evas_cons (ev_item_dict (ev_name O rfl rfl) hσ1 ev_str rfl) (evas_cons (ev_item_dict (ev_name O rfl rfl) hσ1 ev_str rfl) evas_nil))) rfl)) get_last (.cons (st_local O rfl) (.cons (st_local O rfl) (.cons (st_local O rfl) .nil))) ?_)
            refine ex_sto (P := fun σ => wSto σ (wD false e (t + 1))) hσ1.app fun σ2 hσ2 => ?_
            refine ex_cons (sx_if (b := true) (ts_as (ts_cmp (ev_bin (ev_name O rfl rfl) ev_int (bin_mul_fi (by decide +kernel))) (ev_name O rfl rfl) cmp_gt_fi) ((hue_test false h0 (by omega) (by omega)).trans (decide_eq_true c3))) (fun _ => ?_) (fun h0 => nomatch h0))
            refine ex_cons (sx_set_dict O (ev_bin (ev_item_dict (ev_name O rfl rfl) hσ2 (ev_name O rfl rfl) rfl) ev_int bin_sub_int) (ev_name O rfl rfl) (ev_name O rfl rfl) hσ2 (by walk_at "num") ?_)
            refine ex_sto (P := fun σ => wSto σ (wD false e t)) (by have h9 := hσ2.set (D' := wD false e (t + 1 - 1)); rw [show t + 1 - 1 = t by omega] at h9; rw [show t + 1 - 1 = t by omega]; exact h9) fun σ3 hσ3 => ?_
            refine ex_cons (sx_assign O (ev_name O rfl rfl) ?_ rfl)
            exact ex_nil (ex_nil (ex_nil ⟨rfl, ⟨rfl, rfl, rfl, rfl, rfl, rfl, rfl, trivial⟩, hσ3⟩))
        · rw [wheelStep_l2 k e t c1 c2 c3]
          cases k with
          | true =>
            refine sx_if (b := false) (ts_as (ts_cmp (ev_name O rfl rfl) (ev_name O rfl rfl) cmp_eq_str) ((chr_eqW _ _ _ rfl).trans (decide_eq_false c1))) (fun h0 => nomatch h0) (fun _ => ?_)
            refine ex_cons (sx_if (b := true) (ts_as (ts_cmp (ev_name O rfl rfl) (ev_name O rfl rfl) cmp_eq_str) ((chr_eqW _ _ _ rfl).trans (decide_eq_true c2))) (fun _ => ?_) (fun h0 => nomatch h0))
            refine ex_cons (sx_set_dict O (ev_bin (ev_item_dict (ev_name O rfl rfl) hσ (ev_name O rfl rfl) rfl) ev_int bin_add_int) (ev_name O rfl rfl) (ev_name O rfl rfl) hσ (by walk_at "num") ?_)
            refine ex_sto (P := fun σ => wSto σ (wD true e (t + 1))) hσ.set fun σ1 hσ1 => ?_
            refine ex_cons (sx_unpack O (EvX.m (evx_fnT O dRgb (by walk_at "mem") (by walk_at "mem") (rgb_fn w e (t + 1) 0 (by omega) (by omega) (by omega) (by omega) (by omega) (by omega)) (by walk_at "num")
              (evas_cons (ev_item_dict (ev_name O rfl rfl) hσ1 ev_str rfl) (evas_cons (ev_item_dict (ev_name O rfl rfl) hσ1 ev_str rfl) (evas_cons (ev_item_dict (ev_name O rfl rfl) hσ1 ev_str rfl) evas_nil))) rfl)) get_last (.cons (st_local O rfl) (.cons (st_local O rfl) (.cons (st_local O rfl) .nil))) ?_)
            refine ex_sto (P := fun σ => wSto σ (wD true e (t + 1))) hσ1.app fun σ2 hσ2 => ?_
            refine ex_cons (sx_if (b := false) (ts_as (ts_cmp (ev_bin (ev_name O rfl rfl) ev_int (bin_mul_fi (by decide +kernel))) (ev_name O rfl rfl) cmp_gt_fi) ((hue_test true h0 (by omega) (by omega)).trans (decide_eq_false c3))) (fun h0 => nomatch h0) (fun _ => ?_))
            exact ex_nil (ex_nil (ex_nil ⟨rfl, ⟨rfl, rfl, rfl, rfl, rfl, rfl, rfl, trivial⟩, hσ2⟩))
          | false =>
            refine sx_if (b := false) (ts_as (ts_cmp (ev_name O rfl rfl) (ev_name O rfl rfl) cmp_eq_str) ((chr_eqW _ _ _ rfl).trans (decide_eq_false c1))) (fun h0 => nomatch h0) (fun _ => ?_)
            refine ex_cons (sx_if (b := true) (ts_as (ts_cmp (ev_name O rfl rfl) (ev_name O rfl rfl) cmp_eq_str) ((chr_eqW _ _ _ rfl).trans (decide_eq_true c2))) (fun _ => ?_) (fun h0 => nomatch h0))
            refine ex_cons (sx_set_dict O (ev_bin (ev_item_dict (ev_name O rfl rfl) hσ (ev_name O rfl rfl) rfl) ev_int bin_add_int) (ev_name O rfl rfl) (ev_name O rfl rfl) hσ (by walk_at "num") ?_)
            refine ex_sto (P := fun σ => wSto σ (wD false e (t + 1))) hσ.set fun σ1 hσ1 => ?_
            refine ex_cons (sx_unpack O (EvX.m (evx_fnT O dRgb (by walk_at "mem") (by walk_at "mem") (rgb_fn w 0 e (t + 1) (by omega) (by omega) (by omega) (by omega) (by omega) (by omega)) (by walk_at "num")
              (evas_cons (ev_item_dict (ev_name O rfl rfl) hσ1 ev_str rfl) (evas_cons (ev_item_dict (ev_name O rfl rfl) hσ1 ev_str rfl) (evas_cons (ev_item_dict (ev_name O rfl rfl) hσ1 ev_str rfl) evas_nil))) rfl)) get_last (.cons (st_local O rfl) (.cons (st_local O rfl) (.cons (st_local O rfl) .nil))) ?_)
            refine ex_sto (P := fun σ => wSto σ (wD false e (t + 1))) hσ1.app fun σ2 hσ2 => ?_
            refine ex_cons (sx_if (b := false) (ts_as (ts_cmp (ev_bin (ev_name O rfl rfl) ev_int (bin_mul_fi (by decide +kernel))) (ev_name O rfl rfl) cmp_gt_fi) ((hue_test false h0 (by omega) (by omega)).trans (decide_eq_false c3))) (fun h0 => nomatch h0) (fun _ => ?_))
            exact ex_nil (ex_nil (ex_nil ⟨rfl, ⟨rfl, rfl, rfl, rfl, rfl, rfl, rfl, trivial⟩, hσ2⟩))
      · rw [wheelStep_o k e t c1 c2]
        cases k <;>
        · refine sx_if (b := false) (ts_as (ts_cmp (ev_name O rfl rfl) (ev_name O rfl rfl) cmp_eq_str) ((chr_eqW _ _ _ rfl).trans (decide_eq_false c1))) (fun h0 => nomatch h0) (fun _ => ?_)
          refine ex_cons (sx_if (b := false) (ts_as (ts_cmp (ev_name O rfl rfl) (ev_name O rfl rfl) cmp_eq_str) ((chr_eqW _ _ _ rfl).trans (decide_eq_false c2))) (fun h0 => nomatch h0) (fun _ => ?_))
          exact ex_nil (ex_nil ⟨rfl, ⟨rfl, rfl, rfl, rfl, rfl, rfl, rfl, trivial⟩, hσ⟩)
  · rintro f l σ' ⟨rfl, hs, hσ'⟩
    refine ex_weak hs ?_
    refine ex_cons (sx_assign O (ev_bin (ev_name O rfl rfl) (ev_name O rfl rfl) (bin_add_str hl2)) ?_ rfl)
    exact ex_weak (l' := wLoc word ⟨#[ec k]⟩ ⟨#[lc k]⟩ (midI k) (told ++ ⟨#[(wheelStep k e t c).2]⟩)) ⟨rfl, rfl, rfl, rfl, rfl, rfl, trivial⟩ (ex_nil (hΦ σ' hσ'))

theorem wheel_fn (w : World) (k : Bool) (word : Str) (hsz : word.length ≤ 21) :
    FnC w 2 dWheel.addr [.str word, .str ⟨#[ec k]⟩, .str ⟨#[lc k]⟩] (.str (wheelGo k word.cps.toList (0, 0) ⟨#[]⟩).2) := by
  refine fn_enter (lv := 1) dWheel (by walk_at "mem") (l₀ := [("word", .str word), ("early", .str ⟨#[ec k]⟩), ("late", .str ⟨#[lc k]⟩)]) rfl rfl (fun us pm cd doc hu => ?_) fun A cd s O => ?_
  · obtain _ | ⟨⟨t, rfl⟩, _ | ⟨⟨t', rfl⟩, _ | ⟨⟨t'', rfl⟩, _ | _⟩⟩⟩ := hu
    exact ⟨[("word", .str word t), ("early", .str _ t'), ("late", .str _ t'')], rfl, locs rfl, fun x v hx => by
      have := mem_of_lookup hx
      simp at this
      rcases this with ⟨rfl, rfl⟩ | ⟨rfl, rfl⟩ | ⟨rfl, rfl⟩
      · exact ⟨_, rfl, t, rfl⟩
      · exact ⟨_, rfl, t', rfl⟩
      · exact ⟨_, rfl, t'', rfl⟩⟩
  · refine ex_cons (sx_let (EvX.m (evx_dict3 O (by decide) (by decide) (by decide))) (st_local O rfl) ?_)
    refine ex_cons ((sx_assign (Φ := fun f l σ' => f = .next ∧ l = upd (upd ([("word", .str word), ("early", .str ⟨#[ec k]⟩), ("late", .str ⟨#[lc k]⟩)] : Loc) "lights" (.obj 0)) "middle" (.int (midI k)) ∧ σ' = [.dict [("r", 0), ("g", 0), ("b", 0)]]) O (ev_if_int (ts_cmp (ev_name O rfl rfl) ev_str cmp_eq_str) ev_int ev_int) ?_ rfl).mono ?_)
    · cases k <;> exact ⟨rfl, rfl, rfl⟩
    rintro _ _ _ ⟨rfl, rfl, rfl⟩
    refine ex_cons (sx_assign O ev_str ?_ rfl)
    refine ex_cons (sx_for_str O (ev_name O rfl rfl) rfl (fun i (l : Loc) σ => l = wLoc word ⟨#[ec k]⟩ ⟨#[lc k]⟩ (midI k) (wheelGo k (word.cps.toList.take i) (0, 0) ⟨#[]⟩).2 ∧ wSto σ (wD k (wheelGo k (word.cps.toList.take i) (0, 0) ⟨#[]⟩).1.1 (wheelGo k (word.cps.toList.take i) (0, 0) ⟨#[]⟩).1.2)) ⟨rfl, by cases k <;> rfl⟩ ?_ ?_)
    · rintro i c _ σ hc ⟨rfl, hσ⟩
      rw [take_next hc, wheelGo_snoc]
      have hi : i < word.length := (Array.getElem?_eq_some_iff.mp hc).1
      have hlen : (word.cps.toList.take i).length ≤ 20 := by rw [List.length_take]; omega
      have hb := wheelGo_le k (word.cps.toList.take i) (0, 0) ⟨#[]⟩ 0 (Int.le_refl _) (Int.le_refl _) (Int.le_refl _)
      have hl : (wheelGo k (word.cps.toList.take i) (0, 0) ⟨#[]⟩).2.length ≤ 1000 := by
        rw [wheelGo_length]
        show 0 + _ ≤ _
        omega
      refine wheel_turn k O word _ _ _ hb.1 hb.2.1 (by omega) c σ hσ hl _ rfl fun σ' h => ⟨rfl, h⟩
    · rintro _ σ ⟨rfl, hσ⟩
      have e : word.cps.toList.take word.cps.size = word.cps.toList := List.take_of_length_le (by simp)
      rw [e]
      exact ex_cons (sx_ret (ev_name O rfl rfl) rfl)
end Mine
end
noncomputable section
open PySem PySem.Spec PySem.Calls PyProof.Rows PyProof.V PySem.W
set_option Elab.async false
set_option linter.unusedVariables false
set_option maxRecDepth 100000
namespace Mine

section
variable {M : Model} {A : Around} {R : GenEnd} {Y : Protocol} {n : Nat} {s₀ : Shared} {c : Code} {fs : List Frame} {s : Shared} {env : Env}
  {K : Flow → Sem Fin} {H : Value → Sem Fin} {gd : Bool → Bool} {lv : List Value → List Value}

theorem sg_bind_ {α : Type} {m : Sem α} {K₀ : α → Sem Flow} {E : Value → Shared → Prop} (hE : ∀ x s', E x s' → False) (h : wpAny M (A.over c fs) m (fun a s' => Seg M A R Y n s₀ c ((K₀ a).wrap K H gd lv) fs s') E s) :
    Seg M A R Y n s₀ c ((m >>= K₀).wrap K H gd lv) fs s :=
  seg_bind_wrap (wpAny_mono h (fun _ _ hb => hb) fun x s' hx => (hE x s' hx).elim)
theorem sg_if {test : Expr} {body orelse : List Stmt} {pos : Pos} {E : Value → Shared → Prop} (hE : ∀ x s', E x s' → False)
    (h : wpAny M (A.over c fs) (isTrue test env (eval test env)) (fun b s' => Seg M A R Y n s₀ c ((if b = true then execs body env else execs orelse env).wrap K H gd lv) fs s') E s) :
    Seg M A R Y n s₀ c ((exec (.If test body orelse pos) env).wrap K H gd lv) fs s := by
  rw [arm_exec_If]
  refine sg_bind_ hE (wpAny_standAt ?_)
  exact sg_bind_ hE (wpAny_mono h (fun b s' hb => hb) fun _ _ e => e)
theorem sg_stmt {st : Stmt} {E : Value → Shared → Prop} (hE : ∀ x s', E x s' → False) (h : wpAny M (A.over c fs) (exec st env) (fun f s' => Seg M A R Y n s₀ c (K f) fs s') E s) : Seg M A R Y n s₀ c ((exec st env).wrap K H gd lv) fs s :=
  seg_wrap (wpAny_mono h (fun _ _ hb => hb) fun x s' hx => (hE x s' hx).elim)
theorem sg_bind {α : Type} {m : Sem α} {K₀ : α → Sem Flow} {E : Value → Shared → Prop} (hE : ∀ x s', E x s' → False) (h : wpAny M (A.over c fs) m (fun a s' => Seg M A R Y n s₀ c ((K₀ a).wrap K H gd lv) fs s') E s) :
    Seg M A R Y n s₀ c ((m >>= K₀).wrap K H gd lv) fs s :=
  seg_bind_wrap (wpAny_mono h (fun _ _ hb => hb) fun x s' hx => (hE x s' hx).elim)
theorem sg_yield {e : Expr} {ypos pos : Pos} {E : Value → Shared → Prop} (hE : ∀ x s', E x s' → False) (hfs : splitAtGen fs = none) (hgd : gd false = false) (hfg : fs.any Frame.guarded = false)
    (h : wpAny M (A.over c fs) (eval e env) (fun v s' => ∀ kap : Resume → Shared → Prop,
        (∀ x s'', (match x with | .ref _ => False | _ => Seg M A R Y n s'' c (K .next) fs s'') → kap (.send x) s'') → Y n s₀ v s' kap) E s)
    (hco : env.scope.isCoroutine = false := by rfl) (hi : interactive env = false := by rfl) :
    Seg M A R Y (n + 1) s₀ c ((exec (.Expr (.Yield (some e) ypos) pos) env).wrap K H gd lv) fs s :=
  seg_Expr_Yield hfs hgd hfg (wpAny_mono h (fun _ _ hb => hb) fun x s' hx => (hE x s' hx).elim) hco hi
/-- the frame that waits behind a loop -/
noncomputable def forKont (K : Flow → Sem Fin) (H : Value → Sem Fin) (gd : Bool → Bool) (lv : List Value → List Value) (env : Env) (r : Result) : Sem Fin :=
  ((match r with | .ok f => (.pure f : Sem Flow) | .error e => .raise e).onRaise fun (x : Value) => do
        if (← field x 1) == Value.none then unsupported "frame.own-activation:exception-without-traceback"
        setFlight x env.frame).wrap K H gd lv
theorem sg_run {c' : Code} (h : ∀ p, Seg M A R Y n s₀ c' (M.den c') (.ret (forKont K H gd lv env) none (gd false) (lv []) c p [] :: fs) s) :
    Seg M A R Y n s₀ c ((runOwn c' env).wrap K H gd lv) fs s := seg_call h
theorem sg_for {target iter : Expr} {body orelse : List Stmt} {pos : Pos} {E : Value → Shared → Prop} (hE : ∀ x s', E x s' → False)
    (h : wpAny M (A.over c fs) (eval iter env) (fun v s₁ => wpAny M (A.over c fs) (pyIter v) (fun it s₂ => ∀ p, Seg M A R Y n s₀ (.forLoop target it body orelse env) (M.den (.forLoop target it body orelse env))
      (.ret (forKont K H gd lv env) none (gd false) (lv []) c p [] :: fs) s₂) E s₁) E s)
    (hs : ∀ x, foldedSetIterable iter env x = pure x := by intro _; rfl) :
    Seg M A R Y n s₀ c ((exec (.For target iter body orelse pos) env).wrap K H gd lv) fs s := by
  rw [arm_exec_For]
  refine sg_bind hE (wpAny_standAt ?_)
  refine sg_bind hE (wpAny_mono h (fun v s₁ h₁ => ?_) fun _ _ e => e)
  refine sg_bind hE (wpAny_of_eq (hs v) ?_)
  refine sg_bind hE (wpAny_standAt ?_)
  refine sg_bind hE (wpAny_holding (wpAny_mono h₁ (fun it s₂ h₂ => ?_) fun _ _ e => e))
  exact sg_run h₂
end

section
variable {prog : Program} {w : World} {A : Around} {R : GenEnd} {Y : Protocol} {n : Nat} {s₀ : Shared} {fs : List Frame} {s : Shared} {env : Env}
/-- what stands behind a turn of the loop -/
noncomputable def turnK (target : Expr) (it : Value) (body orelse : List Stmt) (env : Env) (f : Flow) : Sem Fin := match f with
  | .next | .cont => .pure (.again (.forLoop target it body orelse env))
  | .brk => .pure (.done .next)
  | .ret v => .pure (.done (.ret v))
noncomputable def turnH (env : Env) (e : Value) : Sem Fin := (do noteFrame e env; theTreesLotGoes e : Sem Unit).bind fun _ => .raise e
theorem sg_loop {target : Expr} {it : Value} {body orelse : List Stmt} {E : Value → Shared → Prop} (hE : ∀ x s', E x s' → False)
    (h : wpAny (model prog w) (A.over (.forLoop target it body orelse env) fs) (pyNext it) (fun r s₁ => match r with
      | none => Seg (model prog w) A R Y n s₀ (.forLoop target it body orelse env) (.pure (.again (.block orelse env))) fs s₁
      | some v => wpAny (model prog w) (A.over (.forLoop target it body orelse env) fs) (letOwnedTupleGo target it v) (fun _ s₂ => wpAny (model prog w) (A.over (.forLoop target it body orelse env) fs) (assign target env v) (fun _ s₃ =>
          Seg (model prog w) A R Y n s₀ (.forLoop target it body orelse env) ((execs body env).wrap (turnK target it body orelse env) (turnH env) id id) fs s₃) E s₂) E s₁) E s) :
    Seg (model prog w) A R Y n s₀ (.forLoop target it body orelse env) ((model prog w).den (.forLoop target it body orelse env)) fs s := by
  show Seg _ A R Y n s₀ _ ((forTurn target it body orelse env).onRaise (fun x => do noteFrame x env; theTreesLotGoes x)) fs s
  unfold forTurn
  rw [Sem.onRaise_eq_wrap]
  refine seg_bind_wrap (wpAny_standAt ?_)
  refine seg_bind_wrap (wpAny_onRaise (wpAny_mono h (fun r s₁ h₁ => ?_) fun x s' hx => (hE x s' hx).elim))
  cases r with
  | none => exact h₁
  | some v =>
    refine seg_bind_wrap (wpAny_mono h₁ (fun _ s₂ h₂ => ?_) fun x s' hx => (hE x s' hx).elim)
    refine seg_bind_wrap (wpAny_mono h₂ (fun _ s₃ h₃ => ?_) fun x s' hx => (hE x s' hx).elim)
    rw [Sem.bind_eq_wrap', Sem.wrap_wrap]
    exact Eq.mpr (congrArg (fun t => Seg (model prog w) A R Y n s₀ _ t fs s₃) (Sem.wrap_congr (execs body env) _ _ (fun f => by cases f <;> rfl) (fun e => rfl))) h₃
theorem sg_block_nil {k h g l c₁ p₁ kp fs'} (hfs : fs = .ret k h g l c₁ p₁ kp :: fs') {c : Code} (hk : Seg (model prog w) A R Y n s₀ c₁ (k (.ok .next)) fs' s) :
    Seg (model prog w) A R Y n s₀ c (.pure (.again (.block [] env))) fs s := by
  subst hfs
  refine seg_again rfl ?_
  exact seg_leaf (.ok .next) hk
theorem sg_iterAgain {target : Expr} {it : Value} {body orelse : List Stmt} (h : Seg (model prog w) A R Y n s₀ (.forLoop target it body orelse env) ((model prog w).den (.forLoop target it body orelse env)) fs s) :
    Seg (model prog w) A R Y n s₀ (.forLoop target it body orelse env) (turnK target it body orelse env .next) fs s := seg_again rfl h
end
end Mine
end
noncomputable section
open PySem PySem.Spec PySem.Calls PyProof.Rows PyProof.V PySem.W
set_option Elab.async false
set_option linter.unusedVariables false
set_option maxRecDepth 100000
namespace Mine
local macro_rules | `(tactic| walk_at "num") => `(tactic| first | exact of_decide_eq_true rfl | assumption | omega)
local macro_rules | `(tactic| walk_at "mem") => `(tactic| first | decide | (simp [gTab, fnTab, bNames]; done))
local macro_rules | `(tactic| walk_at "room") => `(tactic| first | assumption | exact of_decide_eq_true rfl | omega)

/-- what the generator gives -/
noncomputable def escGo : List Nat → Nat → Bool → List (Int × Str)
  | [], i, true => [((i : Int) - 1, ⟨#[92]⟩)]
  | [], i, false => []
  | c :: w, i, true => ((i : Int), ⟨#[92]⟩ ++ ⟨#[c]⟩) :: escGo w (i + 1) false
  | c :: w, i, false => if c = 92 then escGo w (i + 1) true else ((i : Int), ⟨#[c]⟩) :: escGo w (i + 1) false

noncomputable def gFb : List Stmt := match dIter.body[2]? with | some (Stmt.For _ _ b _ _) => b | _ => []
noncomputable def gTgt : Expr := match dIter.body[2]? with | some (Stmt.For t _ _ _ _) => t | _ => .Name "x" ⟨0, 0, 0, 0⟩
noncomputable def gTail : List Stmt := dIter.body.drop 3
noncomputable def gEnv (L : Addr) (cd : Value) : Env := envOf dIter.name dIter.scope L dIter.addr cd
noncomputable def gCx (w : World) (A : Around) (h₀ : Heap) (os : OsState) (L : Addr) (cd : Value) : Cx := ⟨w, A, gEnv L cd, h₀, os, 0, []⟩
theorem gCx_ok {w : World} {A : Around} {h₀ : Heap} {os : OsState} {L : Addr} {cd : Value} (hh : A.handled = none) (T : TF w h₀) (hd : A.depth < recursionLimit) (hu : A.units + 60 < cLine) : (gCx w A h₀ os L cd).Ok :=
  ⟨hh, rfl, rfl, rfl, T, by show A.depth + 0 < _; omega, by show A.units + 30 * 0 + 60 < _; omega⟩
theorem Rel.around {w : World} {A A' : Around} {h₀ : Heap} {os : OsState} {L : Addr} {cd : Value} {l : Loc} {σ : Sto} {as : List Addr} {s : Shared} (R : Rel (gCx w A h₀ os L cd) l σ as s) : Rel (gCx w A' h₀ os L cd) l σ as s :=
  ⟨R.fr, R.ln, R.st, R.fs, R.nd, R.gn, R.os, R.cs⟩

noncomputable def isF (o : Obj) : Prop := ∃ v, o.data = .fields v
noncomputable def gSince (L e it : Addr) (s₀ s : Shared) : Prop := (∀ b o, b ≠ L → (b = e ∨ b = it → ¬isF o) → s₀.heap.get? b = some o → s.heap.get? b = some o) ∧ ∀ (i : Nat) x, s₀.gens[i]? = some x → s.gens[i]? = some x
theorem gSince.refl {L e it : Addr} {s : Shared} : gSince L e it s s := ⟨fun _ _ _ _ e => e, fun _ _ e => e⟩
theorem gSince.kp {L e it : Addr} {s₀ s s' : Shared} (x : gSince L e it s₀ s) (K : Kp s s') : gSince L e it s₀ s' := ⟨fun b o h1 h2 e => K.k b o (x.1 b o h1 h2 e), fun i y e => K.p i y (x.2 i y e)⟩
theorem gSince.mv {w : World} {A : Around} {h₀ : Heap} {os : OsState} {L e it : Addr} {cd : Value} {as : List Addr} {s₀ s s' : Shared} (x : gSince L e it s₀ s) (M : Mv (gCx w A h₀ os L cd) [] s as s') : gSince L e it s₀ s' :=
  ⟨fun b o h1 h2 e => M.keep b o h1 (by simp) (x.1 b o h1 h2 e), fun i y e => M.gp i y (x.2 i y e)⟩

/-- what a turn of the generator says to the loop outside -/
noncomputable def gY (h₀ : Heap) (os : OsState) (L e it : Addr) (items : List (Int × Str)) : Protocol := fun k s₀ v s kap =>
  (∃ T p c us n, items[items.length - 1 - k]? = some (p, c) ∧ v = .ref T ∧ s.heap.get? T = some { cls := .type "tuple", data := .seq us.toArray n } ∧ All2 (VR []) [.int p, .str c] us) ∧
  gSince L e it s₀ s ∧ (∃ o, s.heap.get? L = some o) ∧ (∀ y ∈ s.gens, y.bare = true) ∧ s.os = os ∧
  ∀ s'' : Shared, (∀ b o, h₀.get? b = some o → s''.heap.get? b = some o) → (∀ o, s.heap.get? L = some o → s''.heap.get? L = some o) → (∀ b, b = e ∨ b = it → ∀ o, isF o → s.heap.get? b = some o → s''.heap.get? b = some o) → (∀ y ∈ s''.gens, y.bare = true) → s''.os = os → kap (.send .none) s''
noncomputable def gR (os : OsState) (L e it : Addr) : GenEnd := fun n s₀ r s => r = .ok (.ret .none) ∧ n = 0 ∧ gSince L e it s₀ s ∧ (∀ y ∈ s.gens, y.bare = true) ∧ s.os = os

/-- the walk of enumerate over a text -/
noncomputable def gSt (x : Str) (t : Tok) (e it : Addr) (i : Nat) (h : Heap) : Prop := (∃ old, IsEnum h e it i old) ∧ h.IsStrIter it (strIterType x) x t i
theorem gSt.isF {x : Str} {t : Tok} {e it : Addr} {i : Nat} {h : Heap} (st : gSt x t e it i h) : ∀ b, b = e ∨ b = it → ∃ o, isF o ∧ h.get? b = some o := by
  rintro b (rfl | rfl)
  · obtain ⟨old, he⟩ := st.1; exact ⟨_, ⟨_, rfl⟩, he⟩
  · obtain ⟨o, ho, _, hd⟩ := st.2; exact ⟨o, ⟨_, hd⟩, ho⟩
theorem gSt.keep {x : Str} {t : Tok} {e it : Addr} {i : Nat} {h h' : Heap} (st : gSt x t e it i h) (k : ∀ b, b = e ∨ b = it → ∀ o, Mine.isF o → h.get? b = some o → h'.get? b = some o) : gSt x t e it i h' := by
  obtain ⟨⟨old, he⟩, o, ho, hc, hd⟩ := st
  exact ⟨⟨old, k e (.inl rfl) _ ⟨_, rfl⟩ he⟩, o, k it (.inr rfl) o ⟨_, hd⟩ ho, hc, hd⟩
theorem gSince.walk {x : Str} {t : Tok} {L e it : Addr} {i : Nat} {s₀ s : Shared} {h' : Heap} {tk : Nat} (X : gSince L e it s₀ s) (st : gSt x t e it i s.heap) (hk : ∀ b o, b ∉ [e, it] → s.heap.get? b = some o → h'.get? b = some o) :
    gSince L e it s₀ { s with heap := h', toks := tk } := ⟨fun b o h1 h2 eq => by
  by_cases hb : b = e ∨ b = it
  · obtain ⟨o', hf, ho'⟩ := st.isF b hb
    have := X.1 b o h1 h2 eq
    rw [ho'] at this; cases this
    exact absurd hf (h2 hb)
  · exact hk b o (by simpa using hb) (X.1 b o h1 h2 eq), X.2⟩
theorem gWalk (prog : Program) (w : World) (A : Around) (hh : A.handled = none) (x : Str) (t : Tok) (e it : Addr) (hei : e ≠ it) :
    WalksT prog w A e [e, it] [e, it] x.cps.size (fun i vals => ∃ tk v, (∃ c u, x.cps[i]? = some c ∧ v = Value.str ⟨#[c]⟩ u) ∧ vals = #[.int i tk, v])
      (gSt x t e it) (fun i T h => (∃ v, IsEnumOut h e it ((i : Int) + 1) v T) ∧ h.IsStrIter it (strIterType x) x t (i + 1) ∧ T ≠ e ∧ T ≠ it) := by
  unfold gSt
  cases ha : x.cps.all (· < 128) with
  | true =>
    have q : strIterType x = "str_ascii_iterator" := by simp [strIterType, ha]
    rw [q]
    exact WalksT.enumerateD (Draws.strAscii (A := A.in1) hh it x t) e hei (by simpa using hei) (by simp)
  | false =>
    have q : strIterType x = "str_iterator" := by simp [strIterType, ha]
    rw [q]
    exact WalksT.enumerateD (Draws.strWide (A := A.in1) hh it x t) e hei (by simpa using hei) (by simp)

/-- a fresh tuple of plain values, used at once -/
theorem tup_use {C : Cx} {l : Loc} {e : Expr} {vs : List PV} (h : EvX C l [] e [.tup vs] (.obj 0)) (hp : vs.all PV.plain = true) {s : Shared} {Q : Value → Shared → Prop} {E : Value → Shared → Prop} (R : Rel C l [] [] s)
    (hQ : ∀ T s' us n, Kp s s' → s.heap.get? T = none → s'.heap.get? T = some { cls := .type "tuple", data := .seq us.toArray n } → All2 (VR []) vs us → Q (.ref T) s') : wpAny (model Pg C.w) C.A (eval e C.env) Q E s :=
  h.run [] s Q E R fun u bs s' K R' hb vu => by
    obtain ⟨T, hT, rfl⟩ := vu
    obtain ⟨a, ha, us, n, ho, hus⟩ := R'.st 0 _ rfl
    rw [hT] at ha; cases ha
    exact hQ T s' us n K (hb T (List.mem_of_getElem? hT)) ho (hus.as_plain hp)

noncomputable def gLoc (x : Str) (p : Int) (esc : Bool) : Loc := [("addr", .str x), ("pos", .int p), ("escape", .bool esc)]
section
variable {w : World} {A : Around} {h₀ : Heap} {os : OsState} {L e it : Addr} {cd : Value} {x : Str} {t : Tok} {items : List (Int × Str)}
variable (hh : A.handled = none) (T₀ : TF w h₀) (hd : A.depth + 3 < recursionLimit) (hu : A.units + 80 < cLine)
abbrev gHr (env : Env) : Value → Sem Fin := fun e => (leaving env e).wrap (fun _ => .raise e) .raise id id
abbrev gKr : Flow → Sem Fin := fun f => .pure (.done (.ret (match f with | .ret v => v | _ => .none)))
/-- the place behind the loop -/
abbrev gFr (env : Env) (pc : Pos) : Frame := .ret (forKont (fun f => match f with | .next => (execs gTail env).wrap gKr (gHr env) id id | f => gKr f) (gHr env) id id env) none (id false) (id []) (.func dIter.body env) pc []

theorem gA0 (env : Env) : (A.over (.func dIter.body env) []).handled = A.handled ∧ (A.over (.func dIter.body env) []).depth ≤ A.depth + 2 ∧ (A.over (.func dIter.body env) []).units ≤ A.units + 10 := by
  refine ⟨rfl, ?_, ?_⟩
  · show A.depth + 0 + 1 ≤ _; omega
  · show A.units + 0 + 3 ≤ _; omega
theorem gA1 (env : Env) (t : Expr) (i : Value) (b : List Stmt) (pc : Pos) : (A.over (.forLoop t i b [] env) [gFr env pc]).handled = A.handled ∧ (A.over (.forLoop t i b [] env) [gFr env pc]).depth ≤ A.depth + 2 ∧ (A.over (.forLoop t i b [] env) [gFr env pc]).units ≤ A.units + 10 := by
  refine ⟨rfl, ?_, ?_⟩
  · show A.depth + (1 + 0) + 0 ≤ _; omega
  · show A.units + (3 + 0) + 0 ≤ _; omega

theorem chr_eq (c d : Nat) (x : Str) (hx : x = ⟨#[d]⟩) : decide ((⟨#[c]⟩ : Str) = x) = decide (c = d) := by
  subst hx
  exact decide_eq_decide.mpr ⟨fun h => by injection h with h; simpa using h, fun h => by rw [h]⟩
theorem escGo_c1 (c : Nat) (w : List Nat) (i : Nat) : escGo (c :: w) i true = ((i : Int), ⟨#[92]⟩ ++ ⟨#[c]⟩) :: escGo w (i + 1) false := rfl
theorem escGo_c2 {c : Nat} (w : List Nat) (i : Nat) (h : c = 92) : escGo (c :: w) i false = escGo w (i + 1) true := if_pos h
theorem escGo_c3 {c : Nat} (w : List Nat) (i : Nat) (h : ¬c = 92) : escGo (c :: w) i false = ((i : Int), ⟨#[c]⟩) :: escGo w (i + 1) false := if_neg h
theorem item_here {α : Type} {items pre rest : List α} {y : α} (h : items = pre ++ y :: rest) : items[items.length - 1 - rest.length]? = some y := by
  subst h
  have : (pre ++ y :: rest).length - 1 - rest.length = pre.length := by simp
  rw [this, List.getElem?_append_right (Nat.le_refl _), Nat.sub_self]; rfl



/-- a yield inside: what it leaves to do -/
theorem gen_give {c : Code} {fs : List Frame} {e₁ : Expr} {ypos pos : Pos} {K : Flow → Sem Fin} {H : Value → Sem Fin} {l : Loc} {p : Int} {ch : Str} {n : Nat} {s₀ s : Shared}
    (hfs : splitAtGen fs = none) (hfg : fs.any Frame.guarded = false)
    (R : Rel (gCx w (A.over c fs) h₀ os L cd) l [] [] s) (hs : gSince L e it s₀ s) (hev : EvX (gCx w (A.over c fs) h₀ os L cd) l [] e₁ [.tup [.int p, .str ch]] (.obj 0)) (hi : items[items.length - 1 - n]? = some (p, ch))
    (hnext : ∀ s'', Rel (gCx w (A.over c fs) h₀ os L cd) l [] [] s'' → (∀ b, b = e ∨ b = it → ∀ o, isF o → s.heap.get? b = some o → s''.heap.get? b = some o) → Seg (model Pg w) A (gR os L e it) (gY h₀ os L e it items) n s'' c (K .next) fs s'') :
    Seg (model Pg w) A (gR os L e it) (gY h₀ os L e it items) (n + 1) s₀ c ((exec (.Expr (.Yield (some e₁) ypos) pos) (gEnv L cd)).wrap K H id id) fs s := by
  refine sg_yield (E := fun _ _ => False) (fun _ _ h => h) hfs rfl hfg (tup_use hev rfl R fun T s' us m K₁ hn hT hus => ?_)
  intro kap hkap
  have R' := R.kp K₁
  refine ⟨⟨T, p, ch, us, m, hi, rfl, hT, hus⟩, hs.kp K₁, R'.locals, R'.gn, R'.os, fun s'' h1 h2 h2' h3 h4 => hkap .none s'' ?_⟩
  obtain ⟨m', F, hm⟩ := R'.fr
  refine hnext s'' ⟨⟨m', ⟨F.ns.at' fun o e => h2 o e, h1, F.above⟩, hm⟩, rfl, (fun j o e => by simp at e), (fun a ha => nomatch ha), .nil, h3, h4, (fun p hp => nomatch hp)⟩ fun b hb o hf ho => h2' b hb o hf (K₁.k _ _ ho)

theorem gen_tail (hh : A.handled = none) (T₀ : TF w h₀) (hd : A.depth + 3 < recursionLimit) (hu : A.units + 80 < cLine) {s₀ s : Shared} {i : Nat} {esc : Bool} {p : Int} (hp : esc = true → p = (i : Int) - 1)
    (R : Rel (gCx w (A.over (.func dIter.body (gEnv L cd)) []) h₀ os L cd) (gLoc x p esc) [] [] s) (hs : gSince L e it s₀ s) (hit : ∃ pre, items = pre ++ escGo [] i esc) :
    Seg (model Pg w) A (gR os L e it) (gY h₀ os L e it items) (escGo [] i esc).length s₀ (.func dIter.body (gEnv L cd)) ((execs gTail (gEnv L cd)).wrap gKr (gHr (gEnv L cd)) id id) [] s := by
  obtain ⟨b1, b2, b3⟩ := gA0 (A := A) (gEnv L cd)
  have O : (gCx w (A.over (.func dIter.body (gEnv L cd)) []) h₀ os L cd).Ok := gCx_ok (b1.trans hh) T₀ (by omega) (by omega)
  refine seg_execs_cons (sg_if (E := fun _ _ => False) (fun _ _ h => h) (((ts_plain (ev_name O rfl rfl)) : Ts (gCx w (A.over (.func dIter.body (gEnv L cd)) []) h₀ os L cd) (gLoc x p esc) [] _ esc) [] s _ _ R fun s' K => ?_))
  have R' := R.kp K
  cases esc with
  | false =>
    refine seg_execs_nil (env := gEnv L cd) (seg_execs_nil (env := gEnv L cd) ?_)
    exact seg_end (.ok (.ret .none)) ⟨rfl, rfl, hs.kp K, R'.gn, R'.os⟩
  | true =>
    obtain ⟨pre, hpre⟩ := hit
    have hp' := hp rfl
    subst hp'
    refine seg_execs_cons (gen_give (n := 0) rfl rfl R' (hs.kp K) (evx_tup (evas_cons (ev_name O rfl rfl) (evas_cons ev_str evas_nil))) (item_here (rest := []) hpre) fun s'' R'' _ => ?_)
    refine seg_execs_nil (env := gEnv L cd) (seg_execs_nil (env := gEnv L cd) ?_)
    exact seg_end (.ok (.ret .none)) ⟨rfl, rfl, .refl, R''.gn, R''.os⟩

theorem gen_loop (hh : A.handled = none) (T₀ : TF w h₀) (hd : A.depth + 3 < recursionLimit) (hu : A.units + 80 < cLine) (hei : e ≠ it) (heL : e ≠ L) (hiL : it ≠ L) (h0e : h₀.get? e = none) (h0i : h₀.get? it = none) (hsz : x.length ≤ 1000) (pc : Pos) :
    ∀ (wd : List Nat) (i : Nat) (esc : Bool) (p : Int) (s₀ s : Shared), x.cps.toList.drop i = wd → i ≤ x.cps.size → (esc = true → 1 ≤ i) → (1 ≤ i → p = (i : Int) - 1) →
      Rel (gCx w (A.over (.forLoop gTgt (.ref e) gFb [] (gEnv L cd)) [gFr (gEnv L cd) pc]) h₀ os L cd) (gLoc x p esc) [] [] s → gSt x t e it i s.heap → gSince L e it s₀ s → (∃ pre, items = pre ++ escGo wd i esc) →
      Seg (model Pg w) A (gR os L e it) (gY h₀ os L e it items) (escGo wd i esc).length s₀ (.forLoop gTgt (.ref e) gFb [] (gEnv L cd)) ((model Pg w).den (.forLoop gTgt (.ref e) gFb [] (gEnv L cd))) [gFr (gEnv L cd) pc] s := by
  obtain ⟨b1, b2, b3⟩ := gA1 (A := A) (gEnv L cd) gTgt (.ref e) gFb pc
  generalize hA1 : A.over (.forLoop gTgt (.ref e) gFb [] (gEnv L cd)) [gFr (gEnv L cd) pc] = A₁ at b1 b2 b3
  have O : (gCx w A₁ h₀ os L cd).Ok := gCx_ok (b1.trans hh) T₀ (by omega) (by omega)
  have W := gWalk Pg w A₁ O.hh x t e it hei
  have hLw : (gCx w A₁ h₀ os L cd).env.locals ∉ [e, it] := by
    show L ∉ [e, it]
    simp [Ne.symm heL, Ne.symm hiL]
  have h0w : ∀ b o, (gCx w A₁ h₀ os L cd).h₀.get? b = some o → b ∉ [e, it] := fun b o eq hm => by
    have eq' : h₀.get? b = some o := eq
    rcases List.mem_cons.mp hm with rfl | hm
    · rw [h0e] at eq'; cases eq'
    · rw [List.mem_singleton.mp hm, h0i] at eq'; cases eq'
  intro wd
  induction wd with
  | nil =>
    intro i esc p s₀ s hdr hi hesc hp R st hs hit
    have hin : i = x.cps.size := by
      have := congrArg List.length hdr
      simp at this; omega
    subst hin
    refine sg_loop (E := fun _ _ => False) (fun _ _ h => h) ?_
    rw [hA1]
    refine W.done s _ _ st fun h' tk hk => ?_
    refine sg_block_nil rfl ?_
    exact gen_tail hh T₀ hd hu (fun q => hp (hesc q)) (R.walk (tk := tk) hk hLw (fun a ha => nomatch ha) h0w).around (hs.walk st hk) hit
  | cons c wd ih =>
    intro i esc p s₀ s hdr hi hesc hp R st hs hit
    have hlt : i < x.cps.size := by
      have := congrArg List.length hdr
      simp at this; omega
    have hc : x.cps[i]? = some c := by
      have := congrArg (fun l => l[0]?) hdr
      simpa using this
    have hdr' : x.cps.toList.drop (i + 1) = wd := by
      have := congrArg List.tail hdr
      simpa using this
    refine sg_loop (E := fun _ _ => False) (fun _ _ h => h) ?_
    rw [hA1]
    refine W.item i s _ _ hlt st fun T vals h₁ tk₁ hP hTs hT hM hk₁ => ?_
    obtain ⟨tk, v, ⟨c', u, hc', rfl⟩, rfl⟩ := hP
    rw [hc] at hc'; cases hc'
    have hTw := W.apart i T h₁ hM
    refine W.go _ _ _ i T _ _ _ hM fun h₂ st₂ hk₂ => ?_
    have hk₁₂ : ∀ b o, b ∉ [e, it] → s.heap.get? b = some o → h₂.get? b = some o := fun b o hb eq => hk₂ b o hb (hk₁ b o hb eq)
    have R₂ : Rel (gCx w A₁ h₀ os L cd) (gLoc x p esc) [] [] { s with heap := h₂, toks := tk₁ } := R.walk (tk := tk₁) hk₁₂ hLw (fun a ha => nomatch ha) h0w
    have hs₂ : gSince L e it s₀ { s with heap := h₂, toks := tk₁ } := hs.walk st hk₁₂
    obtain ⟨oT, hoT, hcT, nT, hdT⟩ := hT
    refine PyProof.Rows.assign_Tuple_tuple (items := #[.int i tk, .str ⟨#[c]⟩ u]) O.hh ⟨oT, hk₂ T oT hTw hoT, hcT, nT, hdT⟩ rfl rfl fun h₃ he₃ => ?_
    have K₃ : Kp { s with heap := h₂, toks := tk₁ } { s with heap := h₃, toks := tk₁ } := .heap fun b o eq => he₃ b o (Nat.ne_of_lt (Heap.lt_size eq)) eq
    refine sts_run (C := gCx w A₁ h₀ os L cd) (vs := [.int i, .str ⟨#[c]⟩]) (.cons (st_local O rfl) (.cons (st_local O rfl) .nil)) _ [] _ _ _ (R₂.kp K₃) (.cons ⟨_, rfl⟩ (.cons ⟨_, rfl⟩ .nil)) fun s₄ R₄ M₄ => ?_
    have hs₄ : gSince L e it s₀ s₄ := (hs₂.kp K₃).mv M₄
    have st₄ : gSt x t e it (i + 1) s₄.heap := st₂.keep fun b hb o hf eq => M₄.keep b o (by rcases hb with rfl | rfl; exact heL; exact hiL) (by simp) (K₃.k b o eq)
    have R₅ : Rel (gCx w A₁ h₀ os L cd) [("addr", .str x), ("pos", .int i), ("escape", .bool esc), ("ch", .str ⟨#[c]⟩)] [] [] s₄ := R₄.weak ⟨rfl, rfl, rfl, rfl, trivial⟩
    obtain ⟨pre, hpre⟩ := hit
    have hnext : ∀ (esc' : Bool) (s' s₁ : Shared) (l : Loc), (∃ pre, items = pre ++ escGo wd (i + 1) esc') → Rel (gCx w A₁ h₀ os L cd) l [] [] s' → Subs (gLoc x i esc') l → gSt x t e it (i + 1) s'.heap → gSince L e it s₁ s' →
        Seg (model Pg w) A (gR os L e it) (gY h₀ os L e it items) (escGo wd (i + 1) esc').length s₁ (.forLoop gTgt (.ref e) gFb [] (gEnv L cd)) (turnK gTgt (.ref e) gFb [] (gEnv L cd) .next) [gFr (gEnv L cd) pc] s' := fun esc' s' s₁ l hi' R' hl st' hs' =>
      sg_iterAgain (ih (i + 1) esc' i s₁ s' hdr' hlt (fun _ => by omega) (fun _ => by omega) (hA1 ▸ R'.weak hl) st' hs' hi')
    refine seg_execs_cons (sg_if (E := fun _ _ => False) (fun _ _ h => h) (hA1 ▸ ((ts_plain (ev_name O rfl rfl)) : Ts (gCx w A₁ h₀ os L cd) [("addr", .str x), ("pos", .int i), ("escape", .bool esc), ("ch", .str ⟨#[c]⟩)] [] _ esc) [] s₄ _ _ R₅ fun s₅ K₅ => ?_))
    have R₆ := R₅.kp K₅
    have hs₆ := hs₄.kp K₅
    have st₆ : gSt x t e it (i + 1) s₅.heap := st₄.keep fun b hb o hf eq => K₅.k b o eq
    cases esc with
    | true =>
      rw [escGo_c1] at hpre ⊢
      subst hA1
      refine seg_execs_cons (gen_give (n := (escGo wd (i + 1) false).length) rfl rfl R₆ hs₆ (evx_tup (evas_cons (ev_name O rfl rfl) (evas_cons (ev_bin ev_str (ev_name O rfl rfl) (bin_add_str (by walk_at "num"))) evas_nil))) (item_here hpre) fun s₇ R₇ k₇ => ?_)
      refine seg_execs_cons (sg_stmt (E := fun _ _ => False) (fun _ _ h => h) ((sx_assign (Φ := fun f l σ => f = .next ∧ σ = [] ∧ Subs (gLoc x i false) l) O ev_bool ⟨rfl, rfl, rfl, rfl, rfl, trivial⟩ rfl).run [] s₇ _ _ R₇ fun f l' σ' as' s₈ fl hf R₈ M₈ F₈ => ?_))
      obtain ⟨rfl, rfl, hl⟩ := hf
      cases F₈
      have hbs : as' = [] := by have := R₈.ln; simpa using this
      subst hbs
      refine seg_execs_nil (env := gEnv L cd) (seg_execs_nil (env := gEnv L cd) ?_)
      exact hnext false s₈ s₇ l' ⟨pre ++ [((i : Int), ⟨#[92]⟩ ++ ⟨#[c]⟩)], by simpa using hpre⟩ R₈ hl (st₆.keep fun b hb o hf eq => M₈.keep b o (by rcases hb with rfl | rfl; exact heL; exact hiL) (by simp) (k₇ b hb o hf eq)) ((gSince.refl).mv M₈)
    | false =>
      subst hA1
      refine seg_execs_cons (sg_if (E := fun _ _ => False) (fun _ _ h => h) ((ts_cmp (ev_name O rfl rfl) ev_str cmp_eq_str : Ts (gCx w _ h₀ os L cd) [("addr", .str x), ("pos", .int i), ("escape", .bool false), ("ch", .str ⟨#[c]⟩)] [] _ _) [] s₅ _ _ R₆ fun s₇ K₇ => ?_))
      have R₇ := R₆.kp K₇
      have hs₇ := hs₆.kp K₇
      have st₇ : gSt x t e it (i + 1) s₇.heap := st₆.keep fun b hb o hf eq => K₇.k b o eq
      rw [show decide ((⟨#[c]⟩ : Str) = Str.ofString "\\") = decide (c = 92) from chr_eq c 92 _ rfl]
      by_cases h92 : c = 92
      · rw [escGo_c2 wd i h92] at hpre ⊢
        rw [decide_eq_true h92]
        refine seg_execs_cons (sg_stmt (E := fun _ _ => False) (fun _ _ h => h) ((sx_assign (Φ := fun f l σ => f = .next ∧ σ = [] ∧ Subs (gLoc x i true) l) O ev_bool ⟨rfl, rfl, rfl, rfl, rfl, trivial⟩ rfl).run [] s₇ _ _ R₇ fun f l' σ' as' s₈ fl hf R₈ M₈ F₈ => ?_))
        obtain ⟨rfl, rfl, hl⟩ := hf
        cases F₈
        have hbs : as' = [] := by have := R₈.ln; simpa using this
        subst hbs
        refine seg_execs_nil (env := gEnv L cd) (seg_execs_nil (env := gEnv L cd) (seg_execs_nil (env := gEnv L cd) ?_))
        exact hnext true s₈ s₀ l' ⟨pre, hpre⟩ R₈ hl (st₇.keep fun b hb o hf eq => M₈.keep b o (by rcases hb with rfl | rfl; exact heL; exact hiL) (by simp) eq) (hs₇.mv M₈)
      · rw [escGo_c3 wd i h92] at hpre ⊢
        rw [decide_eq_false h92]
        refine seg_execs_cons (gen_give (n := (escGo wd (i + 1) false).length) rfl rfl R₇ hs₇ (evx_tup (evas_cons (ev_name O rfl rfl) (evas_cons (ev_name O rfl rfl) evas_nil))) (item_here hpre) fun s₈ R₈ k₈ => ?_)
        refine seg_execs_nil (env := gEnv L cd) (seg_execs_nil (env := gEnv L cd) (seg_execs_nil (env := gEnv L cd) ?_))
        exact hnext false s₈ s₈ _ ⟨pre ++ [((i : Int), ⟨#[c]⟩)], by simpa using hpre⟩ R₈ ⟨rfl, rfl, rfl, trivial⟩ (st₇.keep fun b hb o hf eq => k₈ b hb o hf eq) .refl
end
end Mine
end
noncomputable section
open PySem PySem.Spec PySem.Calls PyProof.Rows PyProof.V PySem.W
set_option Elab.async false
set_option linter.unusedVariables false
set_option maxRecDepth 100000
namespace Mine
local macro_rules | `(tactic| walk_at "num") => `(tactic| first | exact of_decide_eq_true rfl | assumption | omega)
local macro_rules | `(tactic| walk_at "mem") => `(tactic| first | decide | (simp [gTab, fnTab, bNames]; done))
local macro_rules | `(tactic| walk_at "room") => `(tactic| first | assumption | exact of_decide_eq_true rfl | omega)



theorem gen_start {w : World} {A : Around} {h₀ : Heap} {os : OsState} {L : Addr} {cd : Value} {x : Str} (hh : A.handled = none) (T₀ : TF w h₀) (hd : A.depth + 3 < recursionLimit) (hu : A.units + 80 < cLine) (hsz : x.length ≤ 1000) {s : Shared}
    (R : Rel (gCx w (A.over (.func dIter.body (gEnv L cd)) []) h₀ os L cd) [("addr", .str x)] [] [] s) :
    Seg (model Pg w) A (gR os L (s.heap.objs.size + 1) s.heap.objs.size) (gY h₀ os L (s.heap.objs.size + 1) s.heap.objs.size (escGo x.cps.toList 0 false)) (escGo x.cps.toList 0 false).length s (.func dIter.body (gEnv L cd)) ((model Pg w).den (.func dIter.body (gEnv L cd))) [] s := by
  obtain ⟨b1, b2, b3⟩ := gA0 (A := A) (gEnv L cd)
  have O : (gCx w (A.over (.func dIter.body (gEnv L cd)) []) h₀ os L cd).Ok := gCx_ok (b1.trans hh) T₀ (by omega) (by omega)
  generalize hn : s.heap.objs.size = n0
  refine seg_func (seg_execs_cons (sg_stmt (E := fun _ _ => False) (fun _ _ h => h) (wpAny_Assign_Name (wpAny_Constant_int ?_))))
  obtain ⟨m, F, hm⟩ := R.fr
  refine wpAny_storeName_local (m := m) rfl F.ns (fun h₁ hn₁ hs₁ => ?_) O.hp
  have R₁ := R.store (C := gCx w (A.over (.func dIter.body (gEnv L cd)) []) h₀ os L cd) (x := "pos") (v := .int 0) (tk := s.toks + 1 + 1) ⟨s.toks, rfl⟩ F hm hn₁ hs₁
  have X₁ : gSince L (n0 + 1) n0 s { s with heap := h₁, toks := s.toks + 1 + 1 } := ⟨fun b o h1 _ e => (hs₁.2 b h1).trans e, fun _ _ e => e⟩
  have z₁ : h₁.objs.size = n0 := hs₁.1.trans hn
  refine seg_execs_cons (sg_stmt (E := fun _ _ => False) (fun _ _ h => h) (wpAny_Assign_Name (wpAny_pure ?_)))
  obtain ⟨m', F', hm'⟩ := R₁.fr
  refine wpAny_storeName_local (m := m') rfl F'.ns (fun h₂ hn₂ hs₂ => ?_) O.hp
  have R₂ := R₁.store (C := gCx w (A.over (.func dIter.body (gEnv L cd)) []) h₀ os L cd) (x := "escape") (v := .bool false) (tk := s.toks + 1 + 1 + 1) rfl F' hm' hn₂ hs₂
  have X₂ : gSince L (n0 + 1) n0 s { s with heap := h₂, toks := s.toks + 1 + 1 + 1 } := ⟨fun b o h1 h2 e => (hs₂.2 b h1).trans (X₁.1 b o h1 h2 e), fun _ _ e => e⟩
  have z₂ : h₂.objs.size = n0 := hs₂.1.trans z₁
  have R₃ : Rel (gCx w (A.over (.func dIter.body (gEnv L cd)) []) h₀ os L cd) (gLoc x 0 false) [] [] { s with heap := h₂, toks := s.toks + 1 + 1 + 1 } := R₂.weak ⟨rfl, rfl, rfl, trivial⟩
  refine seg_execs_cons (sg_for (E := fun _ _ => False) (fun _ _ h => h) ?_)
  obtain ⟨m₃, F₃, hm₃⟩ := R₃.fr
  obtain ⟨u, hmu, t, rfl⟩ := hm₃ "addr" (.str x) rfl
  refine Call_name1 rfl (nm_b O R₃ (by walk_at "mem") (v := .type "enumerate") (by decide +kernel) rfl (PySem.callWith_type1 (wpAny_Name (wpAny_loadName_local O.fk rfl F₃.ns hmu ?_) (by decide))))
  refine call_enumerate_str fun h₅ he hit hz hk => ?_
  dsimp only at he hit hz hk ⊢
  rw [z₂] at he hit hz ⊢
  refine wpAny_pyIter_enum he fun pc => ?_
  have K₅ : Kp { s with heap := h₂, toks := s.toks + 1 + 1 + 1 } { s with heap := h₅, toks := s.toks + 1 + 1 + 1 } := .heap hk
  have hL : L < n0 := by rw [← z₂]; exact F₃.ns.lt
  have fresh : ∀ b, n0 ≤ b → h₀.get? b = none := fun b hb => by
    cases e : h₀.get? b with
    | none => rfl
    | some o => exact absurd (Heap.lt_size (F.keep b o e)) (by rw [hn]; exact Nat.not_lt.mpr hb)
  exact gen_loop hh T₀ hd hu (Nat.succ_ne_self n0) (Nat.ne_of_gt (Nat.lt_succ_of_lt hL)) (Nat.ne_of_gt hL) (fresh _ (Nat.le_succ _)) (fresh _ (Nat.le_refl _)) hsz pc x.cps.toList 0 false 0 s _ rfl (Nat.zero_le _) (fun h => nomatch h) (fun h => by omega) ((R₃.kp K₅).around) ⟨⟨_, he⟩, hit⟩ (X₂.kp K₅) ⟨[], rfl⟩

section
variable {prog : Program} {w : World} {A : Around} {E : Value → Shared → Prop} {s : Shared}
theorem go_gen {elts : List Expr} {k : Nat} {pos : Pos} {a : Addr} {g : Nat} {v : Value} {Q : Unit → Shared → Prop} (hg : s.heap.IsGen a g) (h : Q () s) : wpAny (model prog w) A (letOwnedTupleGo (.Tuple elts k pos) (.ref a) v) Q E s := by
  obtain ⟨o, nm, qn, ho, hc, hd, _⟩ := hg
  cases v with
  | ref b =>
    unfold letOwnedTupleGo
    refine wpAny_bind (wpAny_load ho ?_)
    rw [hc, hd]
    exact wpAny_pure h
  | _ => exact wpAny_pure h
/-- the next item of a generator that a def made -/
theorem next_gen {a : Addr} {g n : Nat} {gs : GenState} {R : GenEnd} {Y : Protocol} {Q : Option Value → Shared → Prop} (hh : A.handled = none) (hl : s.heap.NoLimit) (hroom : A.depth < recursionLimit)
    (hg : s.heap.IsGen a g) (hgs : s.gens[g]? = some gs) (hgo : gs.Goes (model prog w) A.in1 R Y n (.send .none) (s.setGen g .running)) (hr : ∀ r s₁, R n (s.setGen g .running) r s₁ → r = .ok (.ret .none))
    (hY : ∀ v s₁ gs', gs'.bare = true → Y (n - 1) (s.setGen g .running) v s₁ (fun r' s'' => match n with
        | 0 => False
        | m + 1 => gs'.Goes (model prog w) A.in1 R Y m r' s'') → Q (some v) (s₁.setGen g gs'))
    (hP : ∀ r s₁, R n (s.setGen g .running) r s₁ → ∀ h', (∀ b o, s₁.heap.get? b = some o → h'.get? b = some o) → Q none { s₁.setGen g .finished with heap := h' }) :
    wpAny (model prog w) A (pyNext (.ref a)) Q E s := by
  unfold pyNext
  refine wpAny_bind (wpAny_attempt (wpAny_callSpecial?_slot (name := Str.ofString "__next__") hg.typeIs slot_gen_next
    (wpAny_call_entry slot_gen_next hg.typeIs entry_gen_next ?_ (args_gen_next _))))
  show wpAny _ A.in1 (Builtin.Generator.genWake (.ref a) (.send .none)) _ _ s
  unfold Builtin.Generator.genWake
  refine wpAny_bind (wpAny_holding (wpAny_genNumber hg (wpAny_bind (wpAny_genState hgs ?_))))
  have tail : ∀ r s₁, R n (s.setGen g .running) r s₁ → ∀ (k : GenResult → Sem Value), True → True := fun _ _ _ _ _ => trivial
  cases gs with
  | running => exact hgo.elim
  | finished => exact hgo.elim
  | _ =>
    refine wpAny_bind (wpAny_roomToWake hl hroom ?_)
    show wpAny _ A.in1 (.resume g (.send .none) [] _) _ _ s
    refine wpAny_resumeQ hgs hgo (fun x s₁ hx => ?_) (fun v s₁ gs' hb hv => ?_)
    · obtain rfl := hr x s₁ hx
      show wpAny _ A.in1 (newExc (.type "StopIteration") [] >>= _) _ _ _
      refine wpAny_bind ?_
      simp only [newExc, newTuple]
      refine wpAny_bind (wpAny_newObj_type ?_ (by size_fits))
      refine wpAny_bind (m := firstArgMember _ _) (wpAny_of_eq (a := Value.none) (by first | rfl | (simp only [firstArgMember]; rfl)) ?_)
      refine wpAny_newObj_type ?_ (by size_fits)
      simp only [raiseNew]
      refine wpAny_bind (wpAny_bind (wpAny_handled ?_))
      first | rw [show A.in1.handled = none from hh] | rw [hh]
      refine wpAny_throw ?_
      refine wpAny_bind (wpAny_isInstance (T := "StopIteration") (b := true) ⟨_, Heap.get?_push_size _ rfl, rfl⟩ isSubtype_stop ?_)
      exact wpAny_pure (hP _ s₁ hx _ fun b o hb => Heap.get?_push_of_some _ (Heap.get?_push_of_some _ hb))
    · exact wpAny_pure ⟨v, rfl, wpAny_pure (hY v s₁ gs' hb hv)⟩
end

theorem OH.notF {w : World} {as : List Addr} {h : Heap} {a : Addr} {o : PO} {ob : Obj} (x : OH w as h a o) (e : h.get? a = some ob) : ¬isF ob := by
  rintro ⟨v, hv⟩
  cases o with
  | list vs => obtain ⟨us, n, e', r⟩ := x; rw [e] at e'; cases e'; cases hv
  | tup vs => obtain ⟨us, n, e', r⟩ := x; rw [e] at e'; cases e'; cases hv
  | cell c => obtain ⟨o, c, e', d, r⟩ := x; rw [e] at e'; cases e'; rw [hv] at d; cases d
  | dict D => obtain ⟨z, kvs, e', r⟩ := x; obtain ⟨o, es, ep, ho, hc, hd, _⟩ := e'; rw [e] at ho; cases ho; rw [hv] at hd; cases hd
  | inst j => obtain ⟨d, e', r⟩ := x; rw [e] at e'; cases e'; cases hv
  | attrs j => obtain ⟨t, n, hl, e', r⟩ := x; rw [e] at e'; cases e'; cases hv
  | rawd es n => have x : h.get? a = _ := x; rw [e] at x; cases x; cases hv
theorem ns_notF {h : Heap} {L : Addr} {m : Str → Option Value} {ob : Obj} (x : h.Ns L m) (e : h.get? L = some ob) : ¬isF ob := by
  rintro ⟨v, hv⟩
  obtain ⟨o, es, ep, e', hd, _⟩ := x
  rw [e] at e'; cases e'; rw [hv] at hd; cases hd

theorem Rel.ownF {C : Cx} {l : Loc} {σ : Sto} {as : List Addr} {s : Shared} (R : Rel C l σ as s) {a : Addr} {ob : Obj} (ha : a ∈ as) (e : s.heap.get? a = some ob) : ¬isF ob := by
  obtain ⟨j, hj, rfl⟩ := List.mem_iff_getElem.mp ha
  have hj' : j < σ.length := by rw [← R.ln]; exact hj
  obtain ⟨a', ha', ho⟩ := R.st j σ[j] (by simp [hj'])
  rw [List.getElem?_eq_getElem hj] at ha'; cases ha'
  exact ho.notF e
theorem Rel.move {C : Cx} {l : Loc} {σ : Sto} {as : List Addr} {s s' : Shared} (R : Rel C l σ as s) (hk : ∀ b o, ((b ∈ as ∨ b = C.env.locals) ∧ ¬isF o) ∨ (∃ o', C.h₀.get? b = some o') → s.heap.get? b = some o → s'.heap.get? b = some o) (hg : ∀ y ∈ s'.gens, y.bare = true) (ho : s'.os = s.os) : Rel C l σ as s' := by
  have own := @Rel.ownF C l σ as s R
  obtain ⟨⟨m, F, hm⟩, ln, st, fs, nd, gn, os, cs⟩ := R
  have kl : ∀ o, s.heap.get? C.env.locals = some o → s'.heap.get? C.env.locals = some o := fun o e => hk _ o (.inl ⟨.inr rfl, ns_notF F.ns e⟩) e
  exact ⟨⟨m, ⟨F.ns.at' kl, fun b o e => hk b o (.inr ⟨o, e⟩) (F.keep b o e), F.above⟩, hm⟩, ln,
    fun j o e => let ⟨a, ha, h⟩ := st j o e; ⟨a, ha, h.keeps fun ob eb => hk a ob (.inl ⟨.inl (List.mem_of_getElem? ha), own (List.mem_of_getElem? ha) eb⟩) eb⟩,
    fun a hm => let ⟨x, y, o, e⟩ := fs a hm; ⟨x, y, o, hk a o (.inl ⟨.inl hm, own hm e⟩) e⟩, nd, hg, ho.trans os, cs⟩
end Mine
end
noncomputable section
open PySem PySem.Spec PySem.Calls PyProof.Rows PyProof.V PySem.W
set_option Elab.async false
set_option linter.unusedVariables false
set_option maxRecDepth 100000
namespace Mine
local macro_rules | `(tactic| walk_at "num") => `(tactic| first | exact of_decide_eq_true rfl | assumption | omega)
local macro_rules | `(tactic| walk_at "mem") => `(tactic| first | decide | (simp [gTab, fnTab, bNames]; done))

theorem setGen_mem {s : Shared} {g : Nat} {x y : GenState} (h : y ∈ (s.setGen g x).gens) : y = x ∨ y ∈ s.gens := by
  simp only [Shared.setGen] at h
  obtain ⟨i, hi, rfl⟩ := Array.mem_iff_getElem.mp h
  have hi' : i < s.gens.size := by simpa using hi
  rw [Array.getElem_setIfInBounds hi']
  split
  · exact .inl rfl
  · exact .inr (Array.getElem_mem _)
theorem setGen_bare {s : Shared} {g : Nat} {x : GenState} (hx : x.bare = true) (h : ∀ y ∈ s.gens, y.bare = true) : ∀ y ∈ (s.setGen g x).gens, y.bare = true := fun y hy => by
  rcases setGen_mem hy with rfl | hy
  · exact hx
  · exact h y hy
theorem setGen_other {s : Shared} {g i : Nat} {x : GenState} (h : i ≠ g) : (s.setGen g x).gens[i]? = s.gens[i]? := by simp [Shared.setGen, Ne.symm h]

section
variable {C : Cx} {l : Loc} {σ : Sto} {Φ : Fl → Loc → Sto → Prop}
theorem gen_forLoop (O : C.Ok) (hlv : 5 ≤ C.lv) {a b : Str} {pa pb tp : Pos} {k : Nat} {body : List Stmt} {items : List (Int × Str)} (ha : C.env.kindOf a = some .local) (hb : C.env.kindOf b = some .local) (J : Nat → Loc → Sto → Prop) (hJ : J 0 l σ)
    (hbody : ∀ i p c l σ, items[i]? = some (p, c) → J i l σ → Ex C body (upd (upd l a (.int p)) b (.str c)) σ (Turn (J (i + 1)) Φ)) (hdone : ∀ l σ, J items.length l σ → Φ .next l σ)
    {as : List Addr} {s S : Shared} {L a0 e it : Addr} {g : Nat} {gs : GenState} (R : Rel C l σ as s) (K : Kp s S) (fresh : ∀ b, b = L ∨ b = a0 ∨ b = e ∨ b = it → s.heap.get? b = none)
    (hig : S.heap.IsGen a0 g) (hgs : S.gens[g]? = some gs) (hgo : gs.Goes (model Pg C.w) C.A.in1 (gR C.os L e it) (gY C.h₀ C.os L e it items) items.length (.send .none) (S.setGen g .running)) (hLo : ∃ o, S.heap.get? L = some o)
    (d1 : a0 ≠ L) (d2 : a0 ≠ e) (d3 : a0 ≠ it) (hgz : s.gens.size ≤ g) {RR : Result → Shared → Prop} (hR : ∀ f l' σ' as' s' fl, Φ f l' σ' → Rel C l' σ' as' s' → Mv C as s as' s' → FR as' f fl → RR (.ok fl) s') :
    codeAny (model Pg C.w) C.A (.forLoop (.Tuple [.Name a pa, .Name b pb] k tp) (.ref a0) body [] C.env) RR S := by
  have hloc : ∃ o, s.heap.get? C.env.locals = some o := R.locals
  have ne_loc : ∀ b, (b = L ∨ b = a0 ∨ b = e ∨ b = it) → b ≠ C.env.locals := fun b hb q => by
    obtain ⟨o, ho⟩ := hloc
    rw [← q, fresh b hb] at ho; cases ho
  have ne_as : ∀ b, (b = L ∨ b = a0 ∨ b = e ∨ b = it) → b ∉ as := fun b hb q => by
    obtain ⟨_, _, o, ho⟩ := R.fs b q
    rw [fresh b hb] at ho; cases ho
  have ne_h0 : ∀ b, (b = L ∨ b = a0 ∨ b = e ∨ b = it) → C.h₀.get? b = none := fun b hb => by
    obtain ⟨m, F, _⟩ := R.fr
    cases q : C.h₀.get? b with
    | none => rfl
    | some o => have := F.keep b o q; rw [fresh b hb] at this; cases this
  have hdep := O.dep
  have hun := O.un
  refine codeAny_forLoop_any
    (fun k s' => ∃ i l' σ' as' gs, Rel C l' σ' as' s' ∧ J i l' σ' ∧ s'.heap.IsGen a0 g ∧ s'.gens[g]? = some gs ∧ gs.Goes (model Pg C.w) C.A.in1 (gR C.os L e it) (gY C.h₀ C.os L e it items) (items.length - i) (.send .none) (s'.setGen g .running) ∧
      i ≤ items.length ∧ k = items.length + 1 - i ∧ Mv C as s as' s' ∧ L ∉ as' ∧ a0 ∉ as' ∧ ∃ o, s'.heap.get? L = some o) ?_ (items.length + 1)
    ⟨0, l, σ, as, gs, R.kp K, hJ, hig, hgs, hgo, Nat.zero_le _, rfl, .kp K, ne_as L (.inl rfl), ne_as a0 (.inr (.inl rfl)), hLo⟩
  rintro kk s' ⟨i, l', σ', as', gs', R', hJ', hig', hgs', hgo', hi, rfl, M', hLas, haas, oL, hoL⟩
  obtain ⟨n, hn⟩ : ∃ n, items.length - i = n := ⟨_, rfl⟩
  rw [hn] at hgo'
  have hrun : (s'.setGen g .running).gens[g]? = some .running := setGen_self hgs'
  -- what the generator's run leaves of ours
  have ours : ∀ s₁ : Shared, gSince L e it (s'.setGen g .running) s₁ → ∀ b o, ((b ∈ as' ∨ b = C.env.locals) ∧ ¬isF o) ∨ (∃ o', C.h₀.get? b = some o') → s'.heap.get? b = some o → s₁.heap.get? b = some o := fun s₁ X b o hb eq => by
    rcases hb with ⟨hb, hf⟩ | ⟨o', ho'⟩
    · refine X.1 b o (fun q => ?_) (fun _ => hf) eq
      rcases hb with hb | hb
      · exact hLas (q ▸ hb)
      · exact ne_loc L (.inl rfl) (q ▸ hb)
    · refine X.1 b o (fun q => ?_) (fun q => ?_) eq
      · rw [q, ne_h0 L (.inl rfl)] at ho'; cases ho'
      · rcases q with q | q
        · rw [q, ne_h0 e (.inr (.inr (.inl rfl)))] at ho'; cases ho'
        · rw [q, ne_h0 it (.inr (.inr (.inr rfl)))] at ho'; cases ho'
  have stood : ∀ s₁ : Shared, gSince L e it (s'.setGen g .running) s₁ → ∀ b o, b ≠ C.env.locals → b ∉ as → s.heap.get? b = some o → s₁.heap.get? b = some o := fun s₁ X b o h1 h2 eq => by
    refine X.1 b o (fun q => ?_) (fun q => ?_) (M'.keep b o h1 h2 eq)
    · rw [q, fresh L (.inl rfl)] at eq; cases eq
    · rcases q with q | q
      · rw [q, fresh e (.inr (.inr (.inl rfl)))] at eq; cases eq
      · rw [q, fresh it (.inr (.inr (.inr rfl)))] at eq; cases eq
  have gens : ∀ s₁ : Shared, gSince L e it (s'.setGen g .running) s₁ → ∀ y (j : Nat) x, s.gens[j]? = some x → (s₁.setGen g y).gens[j]? = some x := fun s₁ X y j x eq => by
    have hj : j ≠ g := fun q => by
      have := (Array.getElem?_eq_some_iff.mp eq).1
      omega
    rw [setGen_other hj]
    exact X.2 j x (by rw [setGen_other hj]; exact M'.gp j x eq)
  refine next_gen O.hh (R'.tf O).lim (by omega) hig' hgs' hgo' (fun r s₁ h => h.1) (fun v s₁ gs₂ hbar hv => ?_) (fun r s₁ hr h' hk' => ?_)
  · obtain ⟨⟨T, p, c, us, nn, hit, rfl, hT, hus⟩, X, ⟨oL₁, hL₁⟩, hb₁, ho₁, hkap⟩ := hv
    have Rm : Rel C l' σ' as' (s₁.setGen g gs₂) := R'.move (fun b o hb eq => ours s₁ X b o hb eq) (setGen_bare hbar hb₁) (ho₁.trans R'.os.symm)
    cases n with
    | zero =>
      refine (hkap s₁ (fun b o eq => ?_) (fun o eq => eq) (fun b hb o hf eq => eq) hb₁ ho₁).elim
      obtain ⟨m, F, _⟩ := Rm.fr
      exact F.keep b o eq
    | succ m =>
      have hlt : i < items.length := by omega
      have hidx : items.length - 1 - (m + 1 - 1) = i := by omega
      rw [hidx] at hit
      have hgz₁ : g < s₁.gens.size := (Array.getElem?_eq_some_iff.mp (X.2 g _ hrun)).1
      have hig₁ : s₁.heap.IsGen a0 g := by
        obtain ⟨o, nm, qn, q1, q2, q3, q4⟩ := hig'
        exact ⟨o, nm, qn, X.1 a0 o d1 (fun q => (q.elim d2 d3).elim) q1, q2, q3, q4⟩
      refine go_gen (s := s₁.setGen g gs₂) hig₁ ?_
      obtain _ | ⟨hu1, _ | ⟨hu2, _ | _⟩⟩ := hus
      refine PyProof.Rows.assign_Tuple_tuple (s := s₁.setGen g gs₂) (items := #[_, _]) O.hh ⟨_, hT, rfl, nn, rfl⟩ rfl rfl fun h₃ he₃ => ?_
      have K₃ : Kp (s₁.setGen g gs₂) { s₁.setGen g gs₂ with heap := h₃ } := .heap (tk := s₁.toks) fun b o eq => he₃ b o (Nat.ne_of_lt (Heap.lt_size eq)) eq
      refine sts_run (C := C) (vs := [.int p, .str c]) (.cons (st_local O ha) (.cons (st_local O hb) .nil)) _ as' _ _ _ (Rm.kp K₃) (.cons (hu1.as_plain rfl) (.cons (hu2.as_plain rfl) .nil)) fun s₄ R₄ M₄ => ?_
      refine (hbody i p c l' σ' hit hJ').run as' s₄ _ _ R₄ fun f l₅ σ₅ as₅ s₅ fl hf R₅ M₅ F₅ => ?_
      have M₁₅ : Mv C as' (s₁.setGen g gs₂) as₅ s₅ := ((Mv.kp K₃).trans (Rm.kp K₃) M₄).trans R₄ M₅
      obtain ⟨⟨cs, rfl, hcs⟩, kp₅, gp₅⟩ := M₁₅
      have hMv : Mv C as s (as' ++ cs) s₅ := by
        obtain ⟨⟨bs, rfl, hbs⟩, kp', gp'⟩ := id M'
        refine ⟨⟨bs ++ cs, by simp, fun b hb => ?_⟩, fun b o h1 h2 eq => ?_, fun j x eq => gp₅ j x (gens s₁ X gs₂ j x eq)⟩
        · rcases List.mem_append.mp hb with hb | hb
          · exact hbs b hb
          · cases q : s.heap.get? b with
            | none => rfl
            | some o =>
              have q0 := hcs b hb
              by_cases h1 : b = C.env.locals
              · obtain ⟨o', e'⟩ := Rm.locals
                rw [← h1, q0] at e'; cases e'
              · by_cases h2 : b ∈ as
                · obtain ⟨_, _, o', e'⟩ := Rm.fs b (List.mem_append_left _ h2)
                  rw [q0] at e'; cases e'
                · have e' : (s₁.setGen g gs₂).heap.get? b = some o := stood s₁ X b o h1 h2 q
                  rw [q0] at e'; cases e'
        · refine kp₅ b o h1 (fun hm => ?_) (stood s₁ X b o h1 h2 eq)
          rcases List.mem_append.mp hm with hm | hm
          · exact h2 hm
          · rw [hbs b hm] at eq; cases eq
      have hL₅ : s₅.heap.get? L = some oL₁ := kp₅ L _ (ne_loc L (.inl rfl)) hLas hL₁
      have again : J (i + 1) l₅ σ₅ → ∃ m, m < items.length + 1 - i ∧ ∃ i l' σ' as' gs, Rel C l' σ' as' s₅ ∧ J i l' σ' ∧ s₅.heap.IsGen a0 g ∧ s₅.gens[g]? = some gs ∧ gs.Goes (model Pg C.w) C.A.in1 (gR C.os L e it) (gY C.h₀ C.os L e it items) (items.length - i) (.send .none) (s₅.setGen g .running) ∧
          i ≤ items.length ∧ m = items.length + 1 - i ∧ Mv C as s as' s₅ ∧ L ∉ as' ∧ a0 ∉ as' ∧ ∃ o, s₅.heap.get? L = some o := fun hJ₅ => by
        refine ⟨items.length + 1 - (i + 1), by omega, i + 1, l₅, σ₅, as' ++ cs, gs₂, R₅, hJ₅, ?_, gp₅ g gs₂ (setGen_self (X.2 g _ hrun)), ?_, hlt, rfl, hMv, fun hm => ?_, fun hm => ?_, _, hL₅⟩
        · obtain ⟨o, nm, qn, q1, q2, q3, q4⟩ := hig₁
          exact ⟨o, nm, qn, kp₅ a0 o (ne_loc a0 (.inr (.inl rfl))) haas q1, q2, q3, q4⟩
        · have e1 : items.length - (i + 1) = m := by omega
          rw [e1]
          refine hkap (s₅.setGen g .running) (fun b o eq => ?_) (fun o eq => ?_) (fun b hb' o hf eq => ?_) (setGen_bare rfl R₅.gn) R₅.os
          · obtain ⟨m', F, _⟩ := R₅.fr
            exact F.keep b o eq
          · exact kp₅ L o (ne_loc L (.inl rfl)) hLas eq
          · refine kp₅ b o (ne_loc b (by rcases hb' with h | h; exact .inr (.inr (.inl h)); exact .inr (.inr (.inr h)))) (fun hm => Rm.ownF hm eq hf) eq
        · rcases List.mem_append.mp hm with hm | hm
          · exact hLas hm
          · have := hcs L hm
            have e' : (s₁.setGen g gs₂).heap.get? L = some oL₁ := hL₁
            rw [this] at e'; cases e'
        · rcases List.mem_append.mp hm with hm | hm
          · exact haas hm
          · have := hcs a0 hm
            obtain ⟨o, nm, qn, q1, _⟩ := hig₁
            have e' : (s₁.setGen g gs₂).heap.get? a0 = some o := q1
            rw [this] at e'; cases e'
      cases f with
      | next => cases F₅; exact again hf
      | cont => cases F₅; exact again hf
      | brk => cases F₅; exact hR _ _ _ _ _ _ hf R₅ hMv rfl
      | ret v => obtain ⟨u, rfl, hv⟩ := F₅; exact hR _ _ _ _ _ _ hf R₅ hMv ⟨u, rfl, hv⟩
  · obtain ⟨_, hn0, X, hb₁, ho₁⟩ := hr
    have hin : i = items.length := by omega
    subst hin
    refine wpAny_execs_nil (hR .next l' σ' as' _ .next (hdone _ _ hJ') (R'.move (fun b o hb eq => hk' b o (ours s₁ X b o hb eq)) (setGen_bare rfl hb₁) (ho₁.trans R'.os.symm)) ⟨M'.ext, fun b o h1 h2 eq => hk' b o (stood s₁ X b o h1 h2 eq), fun j x eq => gens s₁ X .finished j x eq⟩ rfl)
theorem sx_for_gen (O : C.Ok) (hlv : 5 ≤ C.lv) {a b : Str} {pa pb tp np cp pos : Pos} {k : Nat} {ea : Expr} {body : List Stmt} {x : Str} (hsz : x.length ≤ 1000) (hea : Ev C l σ ea (.str x))
    (hkn : C.env.kindOf "_iter_escaped_chars" = some .globalImplicit) (ha : C.env.kindOf a = some .local) (hb : C.env.kindOf b = some .local) (J : Nat → Loc → Sto → Prop) (hJ : J 0 l σ)
    (hbody : ∀ i p c l σ, (escGo x.cps.toList 0 false)[i]? = some (p, c) → J i l σ → Ex C body (upd (upd l a (.int p)) b (.str c)) σ (Turn (J (i + 1)) Φ)) (hdone : ∀ l σ, J (escGo x.cps.toList 0 false).length l σ → Φ .next l σ)
    (hs : backTo cp (starEach [ea] C.env) = [ea].map (fun e => (false, eval e C.env)) := by rfl) (hf : ∀ x, foldedSetIterable (.Call (.Name "_iter_escaped_chars" np) [ea] [] cp) C.env x = pure x := by intro _; rfl) :
    Sx C (.For (.Tuple [.Name a pa, .Name b pb] k tp) (.Call (.Name "_iter_escaped_chars" np) [ea] [] cp) body [] pos) l σ Φ := .mk fun as s Q E R hQ => by
  refine wpAny_For ?_ hf
  refine PyProof.Rows.Call_Name hs (nm_g O R (a := 45) (by walk_at "mem") hkn ?_)
  obtain ⟨of, pm, cd, doc, hof, hdat, hcd⟩ := (R.tf O).fn dIter (by walk_at "mem")
  refine Calls.callWith_function (o := of) (fd := docDef dIter.name dIter.params dIter.body dIter.scope pm cd doc) (Calls.evalArgs_plain ((evas_cons hea evas_nil) as s _ E R fun us s₀ K vus => ⟨⟨K.k _ _ hof, hdat⟩, ?_⟩))
  obtain _ | ⟨⟨t, rfl⟩, _ | _⟩ := vus
  have hdep := O.dep
  have hun := O.un
  obtain ⟨o', vs', t', c1, c2, c3, c4⟩ := hcd
  refine wpAny_call (codeAny_call_generator (by omega) (K.k _ _ hof) hdat rfl rfl rfl ⟨o', vs', t', c1, c2, K.k _ _ c3, c4⟩ ?_)
  refine wpAny_pure (wpAny_newFunctionEnv (show ∀ y ∈ dIter.scope.names, y.2 ≠ .cell by decide) (locs rfl) (fun h₁ hns hsb => ⟨?_, ?_⟩))
  · exact ((R.kp K).tf O).lim.keeps fun b o e => hsb.extBut b o (Nat.ne_of_lt (Heap.lt_size e)) (Heap.get?_push_of_some _ e)
  have hLn : s.heap.get? s₀.heap.objs.size = none := fresh_size K
  have R₀ := R.kp K
  obtain ⟨m, F, hm⟩ := R₀.fr
  have hz₁ : h₁.objs.size = s₀.heap.objs.size + 1 := by rw [hsb.1, Heap.size_push]
  have k₁ : ∀ b o, s₀.heap.get? b = some o → h₁.get? b = some o := fun b o e => hsb.extBut b o (Nat.ne_of_lt (Heap.lt_size e)) (Heap.get?_push_of_some _ e)
  dsimp only
  -- the object of the generator
  generalize hob : ({ cls := Value.type "generator", data := Data.fields #[.int s₀.gens.size 0, _, _] } : Obj) = og
  suffices H : ∀ tk, wpAny (model Pg C.w) C.A (pyIter (.ref h₁.objs.size)) (fun it s₂ => codeAny (model Pg C.w) C.A (.forLoop (.Tuple [.Name a pa, .Name b pb] k tp) it body [] C.env)
      (fun r s' => match r with | .ok f => Q f s' | .error e => cameBackBy (model Pg C.w) C.A C.env E e s') s₂) E (⟨h₁.push og, s₀.gens.push (.fresh (.func dIter.body (gEnv s₀.heap.objs.size cd))), s₀.drawn, tk, s₀.os⟩ : Shared) from H _
  intro tk
  have fr : ∀ b, s₀.heap.objs.size ≤ b → s.heap.get? b = none := fun b hb => by
    cases q : s.heap.get? b with
    | none => rfl
    | some o => exact absurd (Heap.lt_size (K.k _ _ q)) (Nat.not_lt.mpr hb)
  have hog : (h₁.push og).get? h₁.objs.size = some og := Heap.get?_push_size _ (by rw [← hob]; rfl)
  have hig : (h₁.push og).IsGen h₁.objs.size s₀.gens.size := ⟨og, _, _, hog, by rw [← hob], by rw [← hob], by rw [← hob]⟩
  have hgs : (s₀.gens.push (.fresh (.func dIter.body (gEnv s₀.heap.objs.size cd))))[s₀.gens.size]? = some (.fresh (.func dIter.body (gEnv s₀.heap.objs.size cd))) := Array.getElem?_push_size ..
  have KS : Kp s₀ (⟨h₁.push og, s₀.gens.push (.fresh (.func dIter.body (gEnv s₀.heap.objs.size cd))), s₀.drawn, tk, s₀.os⟩ : Shared) := ⟨fun b o e => Heap.get?_push_of_some _ (k₁ b o e), fun h y hy => by
      rcases Array.mem_push.mp hy with hy | rfl
      · exact h y hy
      · rfl, rfl, fun j y e => by
        have hj := (Array.getElem?_eq_some_iff.mp e).1
        rw [Array.getElem?_push, if_neg (Nat.ne_of_lt hj)]; exact e⟩
  have hz₂ : (h₁.push og).objs.size = s₀.heap.objs.size + 2 := by rw [Heap.size_push, hz₁]
  refine wpAny_pyIter_gen (s := ⟨h₁.push og, s₀.gens.push (.fresh (.func dIter.body (gEnv s₀.heap.objs.size cd))), s₀.drawn, tk, s₀.os⟩) hig ?_
  refine gen_forLoop O hlv ha hb J hJ hbody hdone (items := escGo x.cps.toList 0 false) (L := s₀.heap.objs.size) (e := (h₁.push og).objs.size + 1) (it := (h₁.push og).objs.size) R (K.trans KS) ?_ hig hgs ⟨rfl, ?_⟩ ?_ ?_ ?_ ?_ ?_ fun f l' σ' as' s' fl hf R' M' F' => hQ f l' σ' as' s' fl hf R' M' F'
  · rintro b (rfl | rfl | rfl | rfl)
    · exact fr _ (Nat.le_refl _)
    · exact fr _ (by rw [hz₁]; exact Nat.le_succ _)
    · exact fr _ (by rw [hz₂]; omega)
    · exact fr _ (by rw [hz₂]; omega)
  · refine gen_start (w := C.w) (A := C.A.in1) (h₀ := C.h₀) (os := C.os) (L := s₀.heap.objs.size) (cd := cd) (x := x) (s := Shared.setGen (⟨h₁.push og, s₀.gens.push (.fresh (.func dIter.body (gEnv s₀.heap.objs.size cd))), s₀.drawn, tk, s₀.os⟩ : Shared) s₀.gens.size .running) O.hh O.T (by show C.A.depth + 3 < _; omega) (by show C.A.units + 1 + 80 < _; omega) hsz ⟨⟨_, ⟨hns.keeps fun b o e => Heap.get?_push_of_some _ e, fun b o e => KS.k b o (F.keep b o e), ?_⟩, fun y v hy => ?_⟩, rfl, (fun j o e => by simp at e), (fun a ha => nomatch ha), .nil, setGen_bare rfl (KS.g R₀.gn), R₀.os, (fun p hp => nomatch hp)⟩
    · exact Nat.le_trans F.above (Nat.le_of_lt F.ns.lt)
    · have := mem_of_lookup hy
      simp at this
      obtain ⟨rfl, rfl⟩ := this
      exact ⟨_, rfl, t, rfl⟩
  · obtain ⟨o, es, ep, e1, _⟩ := hns
    exact ⟨o, Heap.get?_push_of_some _ e1⟩
  · rw [hz₁]; exact Nat.succ_ne_self _
  · rw [hz₂, hz₁]; show (s₀.heap.objs.size + 1 : Nat) ≠ s₀.heap.objs.size + 2 + 1; omega
  · rw [hz₂, hz₁]; show (s₀.heap.objs.size + 1 : Nat) ≠ s₀.heap.objs.size + 2; omega
  · rcases Nat.lt_or_ge s₀.gens.size s.gens.size with h | h
    · have := K.p s₀.gens.size s.gens[s₀.gens.size] (by simp [h])
      rw [Array.getElem?_eq_none (Nat.le_refl _)] at this; cases this
    · exact h
end
end Mine
end
noncomputable section
open PySem PySem.Spec PySem.Calls PyProof.Rows PyProof.V PySem.W
set_option Elab.async false
set_option linter.unusedVariables false
set_option maxRecDepth 100000
namespace Mine
local macro_rules | `(tactic| walk_at "num") => `(tactic| first | exact of_decide_eq_true rfl | assumption | omega)
local macro_rules | `(tactic| walk_at "mem") => `(tactic| first | decide | (simp [gTab, fnTab, bNames]; done))
local macro_rules | `(tactic| walk_at "room") => `(tactic| first | assumption | exact of_decide_eq_true rfl | omega | (rw [sizeLine_eq]; omega))

structure SS where
  start : Int
  op : Option Int
  res : List Str
noncomputable def opV : Option Int → PV
  | none => .none
  | some i => .int i
noncomputable def SS.step (x : Str) (s : SS) (y : Int × Str) : SS := if y.2 = ⟨#[34]⟩ then (match s.op with
    | none => { s with op := some y.1 }
    | some o => { start := y.1 + 1, op := none, res := if (s.start != o) = true then s.res ++ [Txt.slice x (some s.start) (some o)] else s.res }) else s
noncomputable def SS.run (x : Str) (l : List (Int × Str)) : SS := l.foldl (SS.step x) ⟨0, none, []⟩
noncomputable def escOf (x : Str) : List (Int × Str) := escGo x.cps.toList 0 false
noncomputable def SS.fin (x : Str) (s : SS) : List Str := if s.start < (x.length : Int) then s.res ++ [Txt.slice x (some s.start) none] else s.res
noncomputable def stripQ (x : Str) : Str := if Txt.contains x ⟨#[34]⟩ = true then Txt.join ⟨#[]⟩ ((SS.run x (escOf x)).fin x) else x
theorem run_snoc (x : Str) (l : List (Int × Str)) (y : Int × Str) : SS.run x (l ++ [y]) = (SS.run x l).step x y := by unfold SS.run; rw [List.foldl_append]; rfl
theorem escGo_len : ∀ (w : List Nat) (i : Nat) (e : Bool), (escGo w i e).length ≤ w.length + 1
  | [], i, true => by simp [escGo]
  | [], i, false => by simp [escGo]
  | c :: w, i, true => by have := escGo_len w (i + 1) false; simp only [escGo, List.length_cons]; omega
  | c :: w, i, false => by
    unfold escGo
    split
    · have := escGo_len w (i + 1) true; simp only [List.length_cons]; omega
    · have := escGo_len w (i + 1) false; simp only [List.length_cons]; omega
theorem slice_len (x : Str) (a b) : (Txt.slice x a b).length ≤ x.length := Txt.slice_le x a b
/-- the pieces' room -/
noncomputable def resOk (x : Str) (n : Nat) (l : List Str) : Prop := l.length ≤ n ∧ ∀ y ∈ l, y.length ≤ x.length
theorem resOk.step {x : Str} {n : Nat} {s : SS} (h : resOk x n s.res) (y : Int × Str) : resOk x (n + 1) (s.step x y).res := by
  unfold SS.step
  split
  · cases s.op with
    | none => exact ⟨Nat.le_succ_of_le h.1, h.2⟩
    | some o =>
      dsimp only
      split
      · refine ⟨by simpa using h.1, fun z hz => ?_⟩
        rcases List.mem_append.mp hz with hz | hz
        · exact h.2 z hz
        · rw [List.mem_singleton.mp hz]; exact slice_len ..
      · exact ⟨Nat.le_succ_of_le h.1, h.2⟩
  · exact ⟨Nat.le_succ_of_le h.1, h.2⟩
theorem sum_le {x : Nat} : ∀ (l : List Str), (∀ y ∈ l, y.length ≤ x) → (l.map (·.length)).sum ≤ l.length * x
  | [], _ => by simp
  | y :: l, h => by
    have := sum_le l fun z hz => h z (List.mem_cons_of_mem _ hz)
    have := h y List.mem_cons_self
    simp only [List.map_cons, List.sum_cons, List.length_cons, Nat.succ_mul]; omega
theorem join_room {x : Str} {n : Nat} {l : List Str} (h : resOk x n l) (hx : x.length ≤ 1000) (hn : n ≤ 2000) : JoinOk ⟨#[]⟩ l = true := by
  refine joinOk_of ?_
  have h1 := sum_le l h.2
  have h2 : l.length * x.length ≤ 2000 * 1000 := Nat.mul_le_mul (Nat.le_trans h.1 hn) hx
  have h3 : l.length * (⟨#[]⟩ : Str).length = 0 := by show l.length * 0 = 0; simp
  rw [h3, sizeLine_eq]; omega
theorem take_snoc {α : Type} {l : List α} {i : Nat} {y : α} (h : l[i]? = some y) : l.take (i + 1) = l.take i ++ [y] := by rw [List.take_add_one, h]; rfl
noncomputable def sLoc (x : Str) (s : SS) : Loc := [("addr", .str x), ("start", .int s.start), ("open_pos", opV s.op), ("result", .obj 0)]
noncomputable def sLoc' (x : Str) (s : SS) (p : Int) (c : Str) : Loc := [("addr", .str x), ("start", .int s.start), ("open_pos", opV s.op), ("result", .obj 0), ("pos", .int p), ("ch", .str c)]



theorem strip_turn {w : World} {A : Around} {cd : Value} {s : Shared} (O : (inFrame w A dStrip cd s 5).Ok) (x : Str) (hx : x.length ≤ 1000) (q : SS) (n : Nat) (hq : resOk x n q.res) (hn : n ≤ 1001) (p : Int) (c : Str) (body : List Stmt)
    (hb : body = (match dStrip.body[4]? with | some (Stmt.For _ _ b _ _) => b | _ => [])) {Φ : Fl → Loc → Sto → Prop}
    (hΦ : Φ .next (sLoc x (q.step x (p, c))) [.list ((q.step x (p, c)).res.map .str)]) :
    Ex (inFrame w A dStrip cd s 5) body (upd (upd (sLoc x q) "pos" (.int p)) "ch" (.str c)) [.list (q.res.map .str)] Φ := by
  subst hb
  have hw : ∀ q', Subs (sLoc x q') (sLoc' x q' p c) := fun q' => ⟨rfl, rfl, rfl, rfl, trivial⟩
  refine ex_weak (l' := sLoc' x q p c) ⟨rfl, rfl, rfl, rfl, rfl, rfl, trivial⟩ ?_
  by_cases hc : c = ⟨#[34]⟩
  · have hs : ∀ q : SS, q.step x (p, c) = (match q.op with
      | none => { q with op := some p }
      | some o => { start := p + 1, op := none, res := if (q.start != o) = true then q.res ++ [Txt.slice x (some q.start) (some o)] else q.res }) := fun q => if_pos hc
    refine ex_cons (sx_if (b := true) (ts_as (ts_cmp (ev_name O rfl rfl) ev_str cmp_eq_str) (decide_eq_true hc)) (fun _ => ?_) (fun h0 => nomatch h0))
    obtain ⟨st, op, res⟩ := q
    cases op with
    | none =>
      rw [hs] at hΦ
      refine ex_cons (sx_if (b := true) (ts_cmp (ev_name O rfl rfl) ev_none cmp_is_none) (fun _ => ?_) (fun h0 => nomatch h0))
      refine ex_cons (sx_assign O (ev_name O rfl rfl) ?_ rfl)
      exact ex_nil (ex_nil (ex_weak (l' := sLoc x ⟨st, some p, res⟩) ⟨rfl, rfl, rfl, rfl, trivial⟩ (ex_nil hΦ)))
    | some o =>
      rw [hs] at hΦ
      refine ex_cons (sx_if (b := false) (ts_cmp (ev_name (v := .int o) O rfl rfl) ev_none cmp_is_none_int) (fun h0 => nomatch h0) (fun _ => ?_))
      refine ex_cons ((sx_if (Φ := fun f l σ => f = .next ∧ l = sLoc' x ⟨st, some o, res⟩ p c ∧ σ = [.list ((if (st != o) = true then res ++ [Txt.slice x (some st) (some o)] else res).map .str)]) (ts_cmp (ev_name O rfl rfl) (ev_name (v := .int o) O rfl rfl) cmp_ne_int) (fun h1 => ?_) (fun h1 => ?_)).mono ?_)
      · refine ex_cons (sx_append O (ev_name O rfl rfl) (ev_slice_str_ss (ev_name O rfl rfl) (ev_name O rfl rfl) (ev_name (v := .int o) O rfl rfl) (by rw [sizeLine_eq]; omega)) rfl (by rw [List.length_map, sizeLine_eq]; have := hq.1; dsimp only at this ⊢; omega) ?_)
        rw [if_pos h1]
        exact ex_nil ⟨rfl, rfl, by simp [List.set]⟩
      · rw [if_neg (by rw [h1]; decide)]
        exact ex_nil ⟨rfl, rfl, rfl⟩
      · rintro f l σ ⟨rfl, rfl, rfl⟩
        refine ex_cons (sx_assign O (ev_bin (ev_name O rfl rfl) ev_int bin_add_int) ?_ rfl)
        refine ex_cons (sx_assign O ev_none ?_ rfl)
        exact ex_nil (ex_nil (ex_weak (l' := sLoc x ⟨p + 1, none, if (st != o) = true then res ++ [Txt.slice x (some st) (some o)] else res⟩) ⟨rfl, rfl, rfl, rfl, trivial⟩ (ex_nil hΦ)))
  · have hs : q.step x (p, c) = q := if_neg hc
    rw [hs] at hΦ
    refine ex_cons (sx_if (b := false) (ts_as (ts_cmp (ev_name O rfl rfl) ev_str cmp_eq_str) (decide_eq_false hc)) (fun h0 => nomatch h0) (fun _ => ?_))
    exact ex_nil (ex_weak (hw q) (ex_nil hΦ))

theorem strip_fn (w : World) (x : Str) (hx : x.length ≤ 1000) : FnC w 6 dStrip.addr [.str x] (.str (stripQ x)) := by
  refine fn_enter (lv := 5) dStrip (by walk_at "mem") (l₀ := [("addr", .str x)]) rfl rfl (fun us pm cd doc hu => ?_) fun A cd s O => ?_
  · obtain _ | ⟨⟨t, rfl⟩, _ | _⟩ := hu
    exact ⟨[("addr", .str x t)], rfl, locs rfl, fun y v hy => by
      have := mem_of_lookup hy
      simp at this
      obtain ⟨rfl, rfl⟩ := this
      exact ⟨_, rfl, t, rfl⟩⟩
  · have he : escOf x = escGo x.cps.toList 0 false := rfl
    have hel : (escOf x).length ≤ 1001 := by
      have h1 : x.cps.toList.length = x.length := by simp [Str.length]
      have h2 := escGo_len x.cps.toList 0 false
      unfold escOf; omega
    by_cases hq : Txt.contains x ⟨#[34]⟩ = true
    · rw [show stripQ x = Txt.join ⟨#[]⟩ ((SS.run x (escOf x)).fin x) from if_pos hq]
      refine ex_cons (sx_if (b := false) (ts_cmp ev_str (ev_name O rfl rfl) (by have := cmp_notin_str (w := w) (a := ⟨#[34]⟩) (b := x); rw [hq] at this; exact this)) (fun h0 => nomatch h0) (fun _ => ex_nil ?_))
      refine ex_cons (sx_assign O ev_int ?_ rfl)
      refine ex_cons (sx_assign O ev_none ?_ rfl)
      refine ex_cons (sx_assignL O (evl_list evas_nil) ?_ rfl)
      refine ex_cons (sx_for_gen O (Nat.le_refl 5) hx (ev_name O rfl rfl) rfl rfl rfl (fun i l σ => l = sLoc x (SS.run x ((escOf x).take i)) ∧ σ = [.list ((SS.run x ((escOf x).take i)).res.map .str)] ∧ resOk x i (SS.run x ((escOf x).take i)).res) ⟨rfl, rfl, Nat.le_refl _, fun y hy => nomatch hy⟩ ?_ ?_)
      · rintro i p c l σ hi ⟨rfl, rfl, hr⟩
        have hlt : i < (escOf x).length := (List.getElem?_eq_some_iff.mp hi).1
        rw [take_snoc (l := escOf x) hi, run_snoc]
        exact strip_turn O x hx _ i hr (by omega) p c _ rfl ⟨rfl, rfl, hr.step (p, c)⟩
      · rintro l σ ⟨rfl, rfl, hr⟩
        rw [← he, List.take_length] at hr ⊢
        generalize SS.run x (escOf x) = q at hr ⊢
        refine ex_cons ((sx_if (Φ := fun f l σ => f = .next ∧ l = sLoc x q ∧ σ = [.list ((q.fin x).map .str)]) (ts_cmp (ev_name O rfl rfl) (ev_b1 O (ev_name O rfl rfl) (prim_len_str (x := x) (by omega)) (by walk_at "mem") (by decide +kernel) rfl) cmp_lt_int) (fun h1 => ?_) (fun h1 => ?_)).mono ?_)
        · rw [show q.fin x = q.res ++ [Txt.slice x (some q.start) none] from if_pos (of_decide_eq_true h1)]
          refine ex_cons (sx_append O (ev_name O rfl rfl) (ev_slice_str_sn (ev_name O rfl rfl) (ev_name O rfl rfl) (by walk_at "room")) rfl (by rw [List.length_map, sizeLine_eq]; have := hr.1; omega) ?_)
          exact ex_nil ⟨rfl, rfl, by simp [List.set]⟩
        · rw [show q.fin x = q.res from if_neg (of_decide_eq_false h1)]
          exact ex_nil ⟨rfl, rfl, rfl⟩
        · rintro f l σ ⟨rfl, rfl, rfl⟩
          have hf : resOk x 1002 (q.fin x) := by
            unfold SS.fin
            split
            · refine ⟨by have := hr.1; simp; omega, fun y hy => ?_⟩
              rcases List.mem_append.mp hy with hy | hy
              · exact hr.2 y hy
              · rw [List.mem_singleton.mp hy]; exact slice_len ..
            · exact ⟨by have := hr.1; omega, hr.2⟩
          refine ex_cons (sx_ret (ev_join_obj ev_str (ev_name (v := .obj 0) O rfl rfl) rfl (join_room hf hx (by omega))) rfl)
    · rw [show stripQ x = x from if_neg hq]
      have hq' : Txt.contains x ⟨#[34]⟩ = false := by cases h : Txt.contains x ⟨#[34]⟩ with | false => rfl | true => exact absurd h hq
      refine ex_cons (sx_if (b := true) (ts_cmp ev_str (ev_name O rfl rfl) (by have := cmp_notin_str (w := w) (a := ⟨#[34]⟩) (b := x); rw [hq'] at this; exact this)) (fun _ => ?_) (fun h0 => nomatch h0))
      exact ex_cons (sx_ret (ev_name O rfl rfl) rfl)
end Mine
end
noncomputable section
open PySem PySem.Spec PySem.Calls PyProof.Rows PyProof.V PySem.W
set_option Elab.async false
set_option linter.unusedVariables false
set_option maxRecDepth 100000
namespace Mine
local macro_rules | `(tactic| walk_at "num") => `(tactic| first | exact of_decide_eq_true rfl | assumption | omega)
local macro_rules | `(tactic| walk_at "mem") => `(tactic| first | decide | (simp [gTab, fnTab, bNames]; done))
local macro_rules | `(tactic| walk_at "room") => `(tactic| first | assumption | exact of_decide_eq_true rfl | omega | (rw [sizeLine_eq]; omega))

noncomputable def parGo : List (Int × Str) → Int → Bool
  | [], n => n == 0
  | y :: r, n => if y.2 = ⟨#[40]⟩ then parGo r (n + 1) else if y.2 = ⟨#[41]⟩ then (if n - 1 < 0 then false else parGo r (n - 1)) else parGo r n
noncomputable def checkQ (x : Str) : Bool := parGo (escOf (stripQ x)) 0
theorem parGo_o {y : Int × Str} (r : List (Int × Str)) (n : Int) (h : y.2 = ⟨#[40]⟩) : parGo (y :: r) n = parGo r (n + 1) := if_pos h
theorem parGo_c1 {y : Int × Str} (r : List (Int × Str)) (n : Int) (h : ¬y.2 = ⟨#[40]⟩) (h1 : y.2 = ⟨#[41]⟩) (h2 : n - 1 < 0) : parGo (y :: r) n = false := (if_neg h).trans ((if_pos h1).trans (if_pos h2))
theorem parGo_c2 {y : Int × Str} (r : List (Int × Str)) (n : Int) (h : ¬y.2 = ⟨#[40]⟩) (h1 : y.2 = ⟨#[41]⟩) (h2 : ¬n - 1 < 0) : parGo (y :: r) n = parGo r (n - 1) := (if_neg h).trans ((if_pos h1).trans (if_neg h2))
theorem parGo_x {y : Int × Str} (r : List (Int × Str)) (n : Int) (h : ¬y.2 = ⟨#[40]⟩) (h1 : ¬y.2 = ⟨#[41]⟩) : parGo (y :: r) n = parGo r n := (if_neg h).trans (if_neg h1)




theorem check_fn (w : World) (x : Str) (hx : x.length ≤ 1000) (hs : (stripQ x).length ≤ 1000) : FnC w 7 dCheck.addr [.str x] (.bool (checkQ x)) := by
  refine fn_enter (lv := 6) dCheck (by walk_at "mem") (l₀ := [("addr", .str x)]) rfl rfl (fun us pm cd doc hu => ?_) fun A cd s O => ?_
  · obtain _ | ⟨⟨t, rfl⟩, _ | _⟩ := hu
    exact ⟨[("addr", .str x t)], rfl, locs rfl, fun y v hy => by
      have := mem_of_lookup hy
      simp at this
      obtain ⟨rfl, rfl⟩ := this
      exact ⟨_, rfl, t, rfl⟩⟩
  · refine ex_cons (sx_assign O (ev_fn O dStrip (by walk_at "mem") (by walk_at "mem") (strip_fn w x hx) (by walk_at "num") (evas_cons (ev_name O rfl rfl) evas_nil) rfl) ?_ rfl)
    refine ex_cons (sx_assign O ev_int ?_ rfl)
    refine ex_weak (l' := [("addr", .str (stripQ x)), ("opens", .int 0)]) ⟨rfl, rfl, trivial⟩ ?_
    refine ex_cons (sx_for_gen O (show 5 ≤ 6 by decide) hs (ev_name O rfl rfl) rfl rfl rfl (fun i l σ => ∃ n : Int, l = ([("addr", .str (stripQ x)), ("opens", .int n)] : Loc) ∧ checkQ x = parGo ((escOf (stripQ x)).drop i) n) ⟨0, rfl, rfl⟩ ?_ ?_)
    · rintro i p c l σ hi ⟨n, rfl, hn⟩
      have hi' : (escOf (stripQ x))[i]? = some (p, c) := hi
      have hlt : i < (escOf (stripQ x)).length := (List.getElem?_eq_some_iff.mp hi').1
      have hd : (escOf (stripQ x)).drop i = (p, c) :: (escOf (stripQ x)).drop (i + 1) := by
        rw [List.drop_eq_getElem_cons hlt, (List.getElem?_eq_some_iff.mp hi').2]
      rw [hd] at hn
      have hw : ∀ m : Int, Subs [("addr", .str (stripQ x)), ("opens", .int m)] [("addr", .str (stripQ x)), ("opens", .int m), ("pos", .int p), ("ch", .str c)] := fun m => ⟨rfl, rfl, trivial⟩
      refine ex_weak (l' := [("addr", .str (stripQ x)), ("opens", .int n), ("pos", .int p), ("ch", .str c)]) ⟨rfl, rfl, rfl, rfl, trivial⟩ ?_
      by_cases h1 : c = ⟨#[40]⟩
      · rw [parGo_o (y := (p, c)) _ _ h1] at hn
        refine ex_cons (sx_if (b := true) (ts_as (ts_cmp (ev_name O rfl rfl) ev_str cmp_eq_str) (decide_eq_true h1)) (fun _ => ?_) (fun h0 => nomatch h0))
        refine ex_cons (sx_aug O (a := .int n) rfl ev_int inp_add_int ?_ rfl)
        exact ex_nil (ex_weak (l' := [("addr", .str (stripQ x)), ("opens", .int (n + 1))]) ⟨rfl, rfl, trivial⟩ (ex_nil ⟨n + 1, rfl, hn⟩))
      · refine ex_cons (sx_if (b := false) (ts_as (ts_cmp (ev_name O rfl rfl) ev_str cmp_eq_str) (decide_eq_false h1)) (fun h0 => nomatch h0) (fun _ => ?_))
        by_cases h2 : c = ⟨#[41]⟩
        · refine ex_cons (sx_if (b := true) (ts_as (ts_cmp (ev_name O rfl rfl) ev_str cmp_eq_str) (decide_eq_true h2)) (fun _ => ?_) (fun h0 => nomatch h0))
          refine ex_cons (sx_aug O (a := .int n) rfl ev_int inp_sub_int ?_ rfl)
          by_cases h3 : n - 1 < 0
          · rw [parGo_c1 (y := (p, c)) _ _ h1 h2 h3] at hn
            refine ex_cons (sx_if (b := true) (ts_as (ts_cmp (ev_name (v := .int (n - 1)) O rfl rfl) ev_int cmp_lt_int) (decide_eq_true h3)) (fun _ => ?_) (fun h0 => nomatch h0))
            refine ex_cons (sx_ret ev_bool ?_)
            show Fl.ret (.bool false) = Fl.ret (.bool (checkQ x))
            rw [hn]
          · rw [parGo_c2 (y := (p, c)) _ _ h1 h2 h3] at hn
            refine ex_cons (sx_if (b := false) (ts_as (ts_cmp (ev_name (v := .int (n - 1)) O rfl rfl) ev_int cmp_lt_int) (decide_eq_false h3)) (fun h0 => nomatch h0) (fun _ => ?_))
            exact ex_nil (ex_nil (ex_nil (ex_weak (l' := [("addr", .str (stripQ x)), ("opens", .int (n - 1))]) ⟨rfl, rfl, trivial⟩ (ex_nil ⟨n - 1, rfl, hn⟩))))
        · rw [parGo_x (y := (p, c)) _ _ h1 h2] at hn
          refine ex_cons (sx_if (b := false) (ts_as (ts_cmp (ev_name O rfl rfl) ev_str cmp_eq_str) (decide_eq_false h2)) (fun h0 => nomatch h0) (fun _ => ?_))
          exact ex_nil (ex_nil (ex_weak (hw n) (ex_nil ⟨n, rfl, hn⟩)))
    · rintro l σ ⟨n, rfl, hn⟩
      have hn' : checkQ x = (n == 0) := by rw [hn, show (escGo (stripQ x).cps.toList 0 false) = escOf (stripQ x) from rfl, List.drop_length]; rfl
      rw [hn']
      exact ex_cons (sx_ret (ev_cmp (ev_name O rfl rfl) ev_int cmp_eq_int) rfl)
end Mine
end
noncomputable section
open PySem PySem.Spec PySem.Calls PyProof.Rows PyProof.V PySem.W
set_option Elab.async false
set_option linter.unusedVariables false
set_option maxRecDepth 100000
namespace Mine
local macro_rules | `(tactic| walk_at "num") => `(tactic| first | exact of_decide_eq_true rfl | assumption | omega)
local macro_rules | `(tactic| walk_at "mem") => `(tactic| first | decide | (simp [gTab, fnTab, bNames]; done))
local macro_rules | `(tactic| walk_at "room") => `(tactic| first | assumption | exact of_decide_eq_true rfl | omega | (rw [sizeLine_eq]; omega))

noncomputable def mec : Bool → Nat | true => 114 | false => 103
noncomputable def mlc : Bool → Nat | true => 103 | false => 98
noncomputable def pieceQ (k : Bool) (c : Nat) : Str := if c = mec k then ⟨#[40]⟩ else if c = mlc k then ⟨#[41]⟩ else (if k = true then ⟨#[92, 41]⟩ else ⟨#[34, 40, 34]⟩)
/-- the text of the pieces j to i -/
noncomputable def textQ (k : Bool) (w : List Nat) (j i : Nat) : Str := Txt.join ⟨#[]⟩ (((w.map (pieceQ k)).drop j).take (i + 1 - j))
noncomputable def seekQ (k : Bool) (w : List Nat) (i : Nat) : Nat → Bool
  | 0 => false
  | j + 1 => if w[j]? = some (mec k) ∧ checkQ (textQ k w j i) = true then true else seekQ k w i j
/-- the sweep's letter at a place -/
noncomputable def mailAt (k : Bool) (w : List Nat) (i : Nat) (c : Nat) : Nat := if c = mlc k then (if seekQ k w i i = true then c else mec k) else c
noncomputable def mailTo (k : Bool) (w : List Nat) (n : Nat) : List Nat := (w.take n).zipIdx.map fun y => mailAt k w y.2 y.1
noncomputable def wholeQ (k : Bool) (x : Str) : Bool := checkQ (Txt.join ⟨#[]⟩ (x.cps.toList.map (pieceQ k)) ++ ⟨#[34]⟩ ++ Txt.mul ⟨#[41]⟩ (Txt.count x ⟨#[mec k]⟩ - Txt.count x ⟨#[mlc k]⟩) ++ Txt.mul ⟨#[40]⟩ (-(Txt.count x ⟨#[mec k]⟩ - Txt.count x ⟨#[mlc k]⟩)))
noncomputable def sOf (l : List Nat) : Str := ⟨l.toArray⟩
noncomputable def mailQ (k : Bool) (x : Str) : Str := if (wholeQ k x == decide (sOf (mailTo k x.cps.toList x.cps.toList.length) = x)) = true then sOf (mailTo k x.cps.toList x.cps.toList.length) else ⟨#[]⟩

theorem mailTo_snoc (k : Bool) (w : List Nat) (i c : Nat) (h : w[i]? = some c) : mailTo k w (i + 1) = mailTo k w i ++ [mailAt k w i c] := by
  unfold mailTo
  have hlt := (List.getElem?_eq_some_iff.mp h).1
  rw [List.take_add_one, h, Option.toList_some, List.zipIdx_append, List.map_append]
  congr 1
  simp [List.length_take, Nat.min_eq_left (Nat.le_of_lt hlt)]
theorem mailTo_len (k : Bool) (w : List Nat) (n : Nat) : (mailTo k w n).length ≤ n := by unfold mailTo; simp; omega
theorem sOf_app (l : List Nat) (c : Nat) : sOf l ++ ⟨#[c]⟩ = sOf (l ++ [c]) := by
  show (⟨l.toArray ++ #[c]⟩ : Str) = ⟨(l ++ [c]).toArray⟩
  simp
theorem sOf_len (l : List Nat) : (sOf l).length = l.length := by simp [sOf, Str.length]
theorem pieceQ_len (k : Bool) (c : Nat) : (pieceQ k c).length ≤ 3 := by
  unfold pieceQ
  split
  · decide
  · split
    · decide
    · split <;> decide
theorem join_go : ∀ (l : List Str) (a : Array Nat), (l.foldl (fun acc p => acc ++ (⟨#[]⟩ : Str).cps ++ p.cps) a).toList = a.toList ++ l.flatMap (·.cps.toList)
  | [], a => by simp
  | y :: l, a => by
    rw [List.foldl_cons, join_go l]
    simp
theorem join_list (l : List Str) : (Txt.join ⟨#[]⟩ l).cps.toList = l.flatMap (·.cps.toList) := by
  unfold Txt.join Builtin.Str.glued
  cases l with
  | nil => rfl
  | cons y l =>
    show (l.foldl _ y.cps).toList = _
    rw [join_go]
    simp
theorem str_len (x : Str) : x.length = x.cps.toList.length := by simp [Str.length]
theorem flat_len : ∀ (l : List Str), (l.flatMap (·.cps.toList)).length = (l.map (·.length)).sum
  | [] => rfl
  | y :: l => by rw [List.flatMap_cons, List.length_append, flat_len l, List.map_cons, List.sum_cons, str_len]
theorem join_len (l : List Str) : (Txt.join ⟨#[]⟩ l).length = (l.map (·.length)).sum := by rw [str_len, join_list, flat_len]
theorem pieces_sum (k : Bool) (l : List Str) (h : ∀ y ∈ l, y.length ≤ 3) : (l.map (·.length)).sum ≤ l.length * 3 := sum_le l h
theorem textQ_len (k : Bool) (w : List Nat) (j i : Nat) (h : w.length ≤ 21) : (textQ k w j i).length ≤ 63 ∧ JoinOk ⟨#[]⟩ (((w.map (pieceQ k)).drop j).take (i + 1 - j)) = true := by
  have h3 : ∀ y ∈ (((w.map (pieceQ k)).drop j).take (i + 1 - j)), y.length ≤ 3 := fun y hy => by
    have := List.mem_of_mem_drop (List.mem_of_mem_take hy)
    obtain ⟨c, _, rfl⟩ := List.mem_map.mp this
    exact pieceQ_len k c
  have h1 := sum_le _ h3
  have h2 : (((w.map (pieceQ k)).drop j).take (i + 1 - j)).length ≤ 21 := by simp; omega
  refine ⟨by unfold textQ; rw [join_len]; omega, joinOk_of ?_⟩
  have h4 : (((w.map (pieceQ k)).drop j).take (i + 1 - j)).length * (⟨#[]⟩ : Str).length = 0 := by show _ * 0 = 0; simp
  rw [h4, sizeLine_eq]; omega
theorem join_all (k : Bool) (w : List Nat) (h : w.length ≤ 21) : (Txt.join ⟨#[]⟩ (w.map (pieceQ k))).length ≤ 63 ∧ JoinOk ⟨#[]⟩ (w.map (pieceQ k)) = true := by
  have h3 : ∀ y ∈ w.map (pieceQ k), y.length ≤ 3 := fun y hy => by
    obtain ⟨c, _, rfl⟩ := List.mem_map.mp hy
    exact pieceQ_len k c
  have h1 := sum_le _ h3
  have h2 : (w.map (pieceQ k)).length ≤ 21 := by simpa using h
  refine ⟨by rw [join_len]; omega, joinOk_of ?_⟩
  have h4 : (w.map (pieceQ k)).length * (⟨#[]⟩ : Str).length = 0 := by show _ * 0 = 0; simp
  rw [h4, sizeLine_eq]; omega

theorem seek_hit {k : Bool} {w : List Nat} {i j : Nat} (h : w[j]? = some (mec k) ∧ checkQ (textQ k w j i) = true) : seekQ k w i (j + 1) = true := if_pos h
theorem seek_miss {k : Bool} {w : List Nat} {i j : Nat} (h : ¬(w[j]? = some (mec k) ∧ checkQ (textQ k w j i) = true)) : seekQ k w i (j + 1) = seekQ k w i j := if_neg h
noncomputable def mLoc (x : Str) (k : Bool) : Loc := [("word", .str x), ("early", .str ⟨#[mec k]⟩), ("late", .str ⟨#[mlc k]⟩), ("pieces", .obj 0)]
noncomputable def mLoc1 (x : Str) (k : Bool) (t : Str) : Loc := [("word", .str x), ("early", .str ⟨#[mec k]⟩), ("late", .str ⟨#[mlc k]⟩), ("pieces", .obj 0), ("told", .str t)]
noncomputable def mLoc2 (x : Str) (k : Bool) (t : Str) (i : Int) (c : Str) : Loc := [("word", .str x), ("early", .str ⟨#[mec k]⟩), ("late", .str ⟨#[mlc k]⟩), ("pieces", .obj 0), ("told", .str t), ("k", .int i), ("letter", .str c)]
noncomputable def mLoc3 (x : Str) (k : Bool) (t : Str) (i : Int) (c : Str) (j : Int) : Loc := [("word", .str x), ("early", .str ⟨#[mec k]⟩), ("late", .str ⟨#[mlc k]⟩), ("pieces", .obj 0), ("told", .str t), ("k", .int i), ("letter", .str c), ("j", .int j)]
noncomputable def mSto (k : Bool) (w : List Nat) : Sto := [.list ((w.map (pieceQ k)).map .str)]
theorem len_list (x : Str) : x.cps.toList.length = x.length := by simp [Str.length]



theorem mail_pieces {w : World} {A : Around} {cd : Value} {s : Shared} (O : (inFrame w A dMail cd s 7).Ok) (x : Str) (hx : x.length ≤ 21) (k : Bool) (c i : Nat) (hc : x.cps[i]? = some c) (body : List Stmt)
    (hb : body = (match dMail.body[1]? with | some (Stmt.For _ _ b _ _) => b | _ => [])) {Φ : Fl → Loc → Sto → Prop} (hΦ : Φ .next (mLoc x k) (mSto k (x.cps.toList.take i ++ [c]))) :
    Ex (inFrame w A dMail cd s 7) body (upd (mLoc x k) "letter" (.str ⟨#[c]⟩)) (mSto k (x.cps.toList.take i)) Φ := by
  subst hb
  have hw : Subs (mLoc x k) (upd (mLoc x k) "letter" (.str ⟨#[c]⟩)) := ⟨rfl, rfl, rfl, rfl, trivial⟩
  have hlen : ((x.cps.toList.take i).map (pieceQ k)).length ≤ 21 := by rw [List.length_map, List.length_take, len_list]; omega
  have hsz : (((x.cps.toList.take i).map (pieceQ k)).map PV.str).length ≤ sizeLine := by rw [List.length_map, sizeLine_eq]; omega
  have hset : ∀ y, y = pieceQ k c → ([PO.list (((x.cps.toList.take i).map (pieceQ k)).map PV.str ++ [PV.str y])] : Sto) = mSto k (x.cps.toList.take i ++ [c]) := by rintro y rfl; simp [mSto]
  by_cases h1 : c = mec k
  · have e : (⟨#[40]⟩ : Str) = pieceQ k c := (if_pos h1).symm
    refine ex_cons (sx_if (b := true) (ts_as (ts_cmp (ev_name O rfl rfl) (ev_name O rfl rfl) cmp_eq_str) ((chr_eq _ _ _ rfl).trans (decide_eq_true h1))) (fun _ => ?_) (fun h0 => nomatch h0))
    refine ex_cons (sx_append O (ev_name O rfl rfl) ev_str rfl hsz ?_)
    refine ex_nil (ex_weak hw (ex_nil ?_))
    rw [← hset _ e] at hΦ
    exact hΦ
  · refine ex_cons (sx_if (b := false) (ts_as (ts_cmp (ev_name O rfl rfl) (ev_name O rfl rfl) cmp_eq_str) ((chr_eq _ _ _ rfl).trans (decide_eq_false h1))) (fun h0 => nomatch h0) (fun _ => ?_))
    by_cases h2 : c = mlc k
    · have e : (⟨#[41]⟩ : Str) = pieceQ k c := ((if_neg h1).trans (if_pos h2)).symm
      refine ex_cons (sx_if (b := true) (ts_as (ts_cmp (ev_name O rfl rfl) (ev_name O rfl rfl) cmp_eq_str) ((chr_eq _ _ _ rfl).trans (decide_eq_true h2))) (fun _ => ?_) (fun h0 => nomatch h0))
      refine ex_cons (sx_append O (ev_name O rfl rfl) ev_str rfl hsz ?_)
      refine ex_nil (ex_nil (ex_weak hw (ex_nil ?_)))
      rw [← hset _ e] at hΦ
      exact hΦ
    · have e : (if k = true then (⟨#[92, 41]⟩ : Str) else ⟨#[34, 40, 34]⟩) = pieceQ k c := ((if_neg h1).trans (if_neg h2)).symm
      refine ex_cons (sx_if (b := false) (ts_as (ts_cmp (ev_name O rfl rfl) (ev_name O rfl rfl) cmp_eq_str) ((chr_eq _ _ _ rfl).trans (decide_eq_false h2))) (fun h0 => nomatch h0) (fun _ => ?_))
      refine ex_cons (sx_append (x := .str (if k = true then (⟨#[92, 41]⟩ : Str) else ⟨#[34, 40, 34]⟩)) O (ev_name O rfl rfl) ?_ rfl hsz ?_)
      · cases k
        · exact ev_if (b := false) (ts_as (ts_cmp (ev_name O rfl rfl) ev_str cmp_eq_str) rfl) (fun h0 => nomatch h0) (fun _ => ev_str)
        · exact ev_if (b := true) (ts_as (ts_cmp (ev_name O rfl rfl) ev_str cmp_eq_str) rfl) (fun _ => ev_str) (fun h0 => nomatch h0)
      refine ex_nil (ex_nil (ex_weak hw (ex_nil ?_)))
      rw [← hset _ e] at hΦ
      exact hΦ

theorem mail_text {w : World} {A : Around} {cd : Value} {s : Shared} (O : (inFrame w A dMail cd s 7).Ok) (x : Str) (hx : x.length ≤ 21) (k : Bool) (t : Str) (i j : Nat) (c : Str) (hi : i < x.length) (hj : j ≤ i)
    (hS : (stripQ (textQ k x.cps.toList j i)).length ≤ 1000) :
    Ev (inFrame w A dMail cd s 7) (mLoc3 x k t i c j) (mSto k x.cps.toList) (match dMail.body[3]? with | some (Stmt.For _ _ (_ :: Stmt.If _ (_ :: Stmt.While (.BoolOp _ [_, .UnaryOp _ (.BoolOp _ [_, .Compare e _ _ _] _) _] _) _ _ _ :: _) _ _ :: _) _ _) => e | _ => .Constant .none 0 default) (.bool (checkQ (textQ k x.cps.toList j i))) := by
  obtain ⟨h1, h2⟩ := textQ_len k x.cps.toList j i (by rw [len_list]; exact hx)
  have hl : ∀ {p1 p2 p3 p4 p5 sp pos : Pos} {a}, EvL (inFrame w A dMail cd s 7) (mLoc3 x k t i c j) (mSto k x.cps.toList) (.Subscript (.Name "pieces" p1) (.Slice (some (.Name "j" p2)) (some (.BinOp (.Name "k" p3) .Add (.Constant (.int 1) a p4) p5)) none sp) pos) ((((x.cps.toList.map (pieceQ k)).drop j).take (i + 1 - j)).map .str) := by
    intro p1 p2 p3 p4 p5 sp pos a
    have := evl_slice_ss (C := inFrame w A dMail cd s 7) (l := mLoc3 x k t i c j) (σ := mSto k x.cps.toList) (x := j) (y := i + 1) (vs := (x.cps.toList.map (pieceQ k)).map .str) (pos := pos) (sp := sp) (e := .Name "pieces" p1) (a := .Name "j" p2) (b := .BinOp (.Name "k" p3) .Add (.Constant (.int 1) a p4) p5) (ev_name O rfl rfl) rfl (ev_name O rfl rfl) (ev_bin (ev_name O rfl rfl) ev_int bin_add_int) (by rw [List.length_map, List.length_map, len_list]; omega) (by omega) (by rw [List.length_map, List.length_map, len_list, sizeLine_eq]; omega)
    rw [List.map_take, List.map_drop]
    exact this
  exact ev_fn O dCheck (by walk_at "mem") (by walk_at "mem") (check_fn w (textQ k x.cps.toList j i) (by omega) hS) (by walk_at "num") (evas_cons (ev_join ev_str hl h2) evas_nil) rfl

/-- the search behind a place -/
theorem mail_seek {w : World} {A : Around} {cd : Value} {s : Shared} (O : (inFrame w A dMail cd s 7).Ok) (x : Str) (hx : x.length ≤ 21) (k : Bool) (t : Str) (i : Nat) (c : Str) (hi : i < x.length)
    (hS : ∀ j, j ≤ i → (stripQ (textQ k x.cps.toList j i)).length ≤ 1000) (st : Stmt)
    (hb : st = (match dMail.body[3]? with | some (Stmt.For _ _ (_ :: Stmt.If _ (_ :: st :: _) _ _ :: _) _ _) => st | _ => .Pass default)) {Φ : Fl → Loc → Sto → Prop}
    (hΦ : ∀ j : Int, decide (j < 0) = !seekQ k x.cps.toList i i → Φ .next (mLoc3 x k t i c j) (mSto k x.cps.toList)) :
    Sx (inFrame w A dMail cd s 7) st (mLoc3 x k t i c ((i : Int) - 1)) (mSto k x.cps.toList) Φ := by
  subst hb
  refine sx_while (fun n l σ => l = mLoc3 x k t i c ((n : Int) - 1) ∧ σ = mSto k x.cps.toList ∧ n ≤ i ∧ seekQ k x.cps.toList i i = seekQ k x.cps.toList i n) i ⟨rfl, rfl, Nat.le_refl _, rfl⟩ ?_
  rintro n l σ ⟨rfl, rfl, hn, hq⟩
  cases n with
  | zero =>
    refine ⟨false, ?_, (fun h0 => nomatch h0), fun _ => hΦ _ (by rw [hq]; rfl)⟩
    exact ts_and (b := false) (c := false) (ts_as (ts_cmp (ev_name O rfl rfl) ev_int cmp_ge_int) rfl) (fun h0 => nomatch h0)
  | succ m =>
    rw [show ((m + 1 : Nat) : Int) - 1 = (m : Int) by omega]
    have hm : m < x.cps.toList.length := by rw [len_list]; omega
    have hmc : x.cps[m]? = some x.cps.toList[m] := by rw [← Array.getElem?_toList]; exact List.getElem?_eq_getElem hm
    have hgc : x.cps.toList[m]? = some x.cps.toList[m] := List.getElem?_eq_getElem hm
    have hcall := mail_text O x hx k t i m c hi (by omega) (hS m (by omega))
    refine ⟨!(decide (x.cps.toList[m] = mec k) && (checkQ (textQ k x.cps.toList m i) && true)), ?_, fun h1 => ?_, fun h1 => ?_⟩
    · refine ts_and (b := true) (c := !(decide (x.cps.toList[m] = mec k) && (checkQ (textQ k x.cps.toList m i) && true)) && true) (ts_as (ts_cmp (ev_name O rfl rfl) ev_int cmp_ge_int) (decide_eq_true (by omega))) (fun _ => ?_) |> fun h => ts_as h (by simp only [Bool.true_and, Bool.and_true])
      refine ts_and (ts_not (ts_and (ts_as (ts_cmp (ev_item_str (ev_name O rfl rfl) (ev_name O rfl rfl) (by omega) (by omega) hmc) (ev_name O rfl rfl) cmp_eq_str) (chr_eq _ _ _ rfl)) (fun _ => ts_and (ts_cmp hcall ev_bool cmp_is_true) (fun _ => ts_and_nil)))) (fun _ => ts_and_nil)
    · have hno : ¬(x.cps.toList[m]? = some (mec k) ∧ checkQ (textQ k x.cps.toList m i) = true) := by
        rintro ⟨a, b⟩
        rw [hgc] at a
        rw [decide_eq_true (Option.some.inj a), b] at h1
        exact absurd h1 (by decide)
      rw [seek_miss hno] at hq
      refine ex_cons (sx_assign O (ev_bin (ev_name O rfl rfl) ev_int bin_sub_int) ?_ rfl)
      exact ex_nil ⟨m, Nat.lt_succ_self m, rfl, rfl, by omega, hq⟩
    · have hyes : x.cps.toList[m]? = some (mec k) ∧ checkQ (textQ k x.cps.toList m i) = true := by
        simp only [Bool.not_eq_false', Bool.and_true, Bool.and_eq_true, decide_eq_true_eq] at h1
        exact ⟨by rw [hgc, h1.1], h1.2⟩
      rw [seek_hit hyes] at hq
      exact hΦ _ (by rw [hq]; exact decide_eq_false (by omega))
end Mine
end
noncomputable section
open PySem PySem.Spec PySem.Calls PyProof.Rows PyProof.V PySem.W
set_option Elab.async false
set_option linter.unusedVariables false
set_option maxRecDepth 100000
namespace Mine
local macro_rules | `(tactic| walk_at "num") => `(tactic| first | exact of_decide_eq_true rfl | assumption | omega)
local macro_rules | `(tactic| walk_at "mem") => `(tactic| first | decide | (simp [gTab, fnTab, bNames]; done))
local macro_rules | `(tactic| walk_at "room") => `(tactic| first | assumption | exact of_decide_eq_true rfl | omega | (rw [sizeLine_eq]; omega))

theorem mailAt_o {k : Bool} {w : List Nat} {i c : Nat} (h : ¬c = mlc k) : mailAt k w i c = c := if_neg h
theorem mailAt_y {k : Bool} {w : List Nat} {i c : Nat} (h : c = mlc k) (h2 : seekQ k w i i = true) : mailAt k w i c = c := (if_pos h).trans (if_pos h2)
theorem mailAt_n {k : Bool} {w : List Nat} {i c : Nat} (h : c = mlc k) (h2 : ¬seekQ k w i i = true) : mailAt k w i c = mec k := (if_pos h).trans (if_neg h2)



theorem mail_turn {w : World} {A : Around} {cd : Value} {s : Shared} (O : (inFrame w A dMail cd s 7).Ok) (x : Str) (hx : x.length ≤ 21) (k : Bool) (t : Str) (ht : t.length ≤ 1000) (i c : Nat) (hc : x.cps[i]? = some c)
    (hS : ∀ j, j ≤ i → (stripQ (textQ k x.cps.toList j i)).length ≤ 1000) (body : List Stmt)
    (hb : body = (match dMail.body[3]? with | some (Stmt.For _ _ b _ _) => b | _ => [])) {Φ : Fl → Loc → Sto → Prop} (hΦ : Φ .next (mLoc1 x k (t ++ ⟨#[mailAt k x.cps.toList i c]⟩)) (mSto k x.cps.toList)) :
    Ex (inFrame w A dMail cd s 7) body (upd (mLoc1 x k t) "k" (.int i)) (mSto k x.cps.toList) Φ := by
  subst hb
  have hi : i < x.length := (Array.getElem?_eq_some_iff.mp hc).1
  have hroom : t.length + 1 ≤ sizeLine := by rw [sizeLine_eq]; omega
  refine ex_weak (l' := [("word", .str x), ("early", .str ⟨#[mec k]⟩), ("late", .str ⟨#[mlc k]⟩), ("pieces", .obj 0), ("told", .str t), ("k", .int i)]) ⟨rfl, rfl, rfl, rfl, rfl, rfl, trivial⟩ ?_
  refine ex_cons (sx_assign O (ev_item_str (ev_name O rfl rfl) (ev_name O rfl rfl) (by omega) (by omega) hc) ?_ rfl)
  refine ex_weak (l' := mLoc2 x k t i ⟨#[c]⟩) ⟨rfl, rfl, rfl, rfl, rfl, rfl, rfl, trivial⟩ ?_
  refine ex_cons ((?_ : Sx _ _ _ _ (fun f l σ => f = .next ∧ Subs (mLoc2 x k t i ⟨#[mailAt k x.cps.toList i c]⟩) l ∧ σ = mSto k x.cps.toList)).mono ?_)
  · by_cases h1 : c = mlc k
    · refine sx_if (b := true) (ts_as (ts_cmp (ev_name O rfl rfl) (ev_name O rfl rfl) cmp_eq_str) ((chr_eq _ _ _ rfl).trans (decide_eq_true h1))) (fun _ => ?_) (fun h0 => nomatch h0)
      refine ex_cons (sx_assign O (ev_bin (ev_name O rfl rfl) ev_int bin_sub_int) ?_ rfl)
      refine ex_cons (mail_seek O x hx k t i ⟨#[c]⟩ hi hS _ rfl fun j hj => ?_)
      by_cases h2 : seekQ k x.cps.toList i i = true
      · rw [h2] at hj
        refine ex_cons (sx_if (b := false) (ts_as (ts_cmp (ev_name O rfl rfl) ev_int cmp_lt_int) hj) (fun h0 => nomatch h0) (fun _ => ?_))
        refine ex_nil (ex_nil ⟨rfl, ?_, rfl⟩)
        rw [mailAt_y h1 h2]
        exact ⟨rfl, rfl, rfl, rfl, rfl, rfl, rfl, trivial⟩
      · have hq : seekQ k x.cps.toList i i = false := by cases h : seekQ k x.cps.toList i i with | false => rfl | true => exact absurd h h2
        rw [hq] at hj
        refine ex_cons (sx_if (b := true) (ts_as (ts_cmp (ev_name O rfl rfl) ev_int cmp_lt_int) hj) (fun _ => ?_) (fun h0 => nomatch h0))
        refine ex_cons (sx_assign O (ev_name O rfl rfl) ?_ rfl)
        refine ex_nil (ex_nil ⟨rfl, ?_, rfl⟩)
        rw [mailAt_n h1 h2]
        exact ⟨rfl, rfl, rfl, rfl, rfl, rfl, rfl, trivial⟩
    · refine sx_if (b := false) (ts_as (ts_cmp (ev_name O rfl rfl) (ev_name O rfl rfl) cmp_eq_str) ((chr_eq _ _ _ rfl).trans (decide_eq_false h1))) (fun h0 => nomatch h0) (fun _ => ?_)
      refine ex_nil ⟨rfl, ?_, rfl⟩
      rw [mailAt_o h1]
      exact ⟨rfl, rfl, rfl, rfl, rfl, rfl, rfl, trivial⟩
  · rintro f l σ ⟨rfl, hs, rfl⟩
    refine ex_weak hs ?_
    refine ex_cons (sx_assign O (ev_bin (ev_name O rfl rfl) (ev_name O rfl rfl) (bin_add_str hroom)) ?_ rfl)
    exact ex_weak (l' := mLoc1 x k (t ++ ⟨#[mailAt k x.cps.toList i c]⟩)) ⟨rfl, rfl, rfl, rfl, rfl, trivial⟩ (ex_nil hΦ)

noncomputable def wholeT (k : Bool) (x : Str) : Str := Txt.join ⟨#[]⟩ (x.cps.toList.map (pieceQ k)) ++ ⟨#[34]⟩ ++ Txt.mul ⟨#[41]⟩ (Txt.count x ⟨#[mec k]⟩ - Txt.count x ⟨#[mlc k]⟩) ++ Txt.mul ⟨#[40]⟩ (-(Txt.count x ⟨#[mec k]⟩ - Txt.count x ⟨#[mlc k]⟩))
theorem mail_fn (w : World) (x : Str) (hx : x.length ≤ 21) (k : Bool) (hS : ∀ i j, j ≤ i → i < x.length → (stripQ (textQ k x.cps.toList j i)).length ≤ 1000) (hn : (Txt.count x ⟨#[mec k]⟩ - Txt.count x ⟨#[mlc k]⟩).natAbs ≤ 100)
    (h1 : (Txt.mul ⟨#[41]⟩ (Txt.count x ⟨#[mec k]⟩ - Txt.count x ⟨#[mlc k]⟩)).length ≤ 100) (h2 : (Txt.mul ⟨#[40]⟩ (-(Txt.count x ⟨#[mec k]⟩ - Txt.count x ⟨#[mlc k]⟩))).length ≤ 100) (hW : (stripQ (wholeT k x)).length ≤ 1000) :
    FnC w 8 dMail.addr [.str x, .str ⟨#[mec k]⟩, .str ⟨#[mlc k]⟩] (.str (mailQ k x)) := by
  refine fn_enter (lv := 7) dMail (by walk_at "mem") (l₀ := [("word", .str x), ("early", .str ⟨#[mec k]⟩), ("late", .str ⟨#[mlc k]⟩)]) rfl rfl (fun us pm cd doc hu => ?_) fun A cd s O => ?_
  · obtain _ | ⟨⟨t, rfl⟩, _ | ⟨⟨t', rfl⟩, _ | ⟨⟨t'', rfl⟩, _ | _⟩⟩⟩ := hu
    exact ⟨[("word", .str x t), ("early", .str _ t'), ("late", .str _ t'')], rfl, locs rfl, fun y v hy => by
      have := mem_of_lookup hy
      simp at this
      rcases this with ⟨rfl, rfl⟩ | ⟨rfl, rfl⟩ | ⟨rfl, rfl⟩
      · exact ⟨_, rfl, t, rfl⟩
      · exact ⟨_, rfl, t', rfl⟩
      · exact ⟨_, rfl, t'', rfl⟩⟩
  · refine ex_cons (sx_assignL O (evl_list evas_nil) ?_ rfl)
    refine ex_cons (sx_for_str O (ev_name O rfl rfl) rfl (fun i (l : Loc) σ => l = mLoc x k ∧ σ = mSto k (x.cps.toList.take i)) ⟨rfl, rfl⟩ ?_ ?_)
    · rintro i c _ _ hc ⟨rfl, rfl⟩
      refine mail_pieces O x hx k c i hc _ rfl ?_
      rw [take_next hc]
      exact ⟨rfl, rfl⟩
    rintro _ _ ⟨rfl, rfl⟩
    rw [show x.cps.toList.take x.cps.size = x.cps.toList from List.take_of_length_le (by simp)]
    refine ex_cons (sx_assign O ev_str ?_ rfl)
    have hN : ((x.length : Int)).toNat = x.length := by omega
    refine ex_cons (sx_for_range O (ev_b1 O (ev_name O rfl rfl) (prim_len_str (x := x) (by omega)) (by walk_at "mem") (by decide +kernel) rfl) rfl rfl (by omega) (by omega) (fun i (l : Loc) σ => l = mLoc1 x k (sOf (mailTo k x.cps.toList i)) ∧ σ = mSto k x.cps.toList) ⟨rfl, rfl⟩ ?_ ?_)
    · rintro i _ _ hi ⟨rfl, rfl⟩
      rw [hN] at hi
      have hc : x.cps[i]? = some x.cps[i] := Array.getElem?_eq_getElem hi
      have hlen : (sOf (mailTo k x.cps.toList i)).length ≤ 1000 := by rw [sOf_len]; have := mailTo_len k x.cps.toList i; omega
      refine mail_turn O x hx k _ hlen i _ hc (fun j hj => hS i j hj hi) _ rfl ?_
      rw [sOf_app, mailTo_snoc k x.cps.toList i _ (by rw [Array.getElem?_toList]; exact hc)]
      exact ⟨rfl, rfl⟩
    rintro _ _ ⟨rfl, rfl⟩
    rw [hN]
    obtain ⟨j1, j2⟩ := join_all k x.cps.toList (by rw [len_list]; exact hx)
    have hmQ : mailQ k x = (if (wholeQ k x == decide (sOf (mailTo k x.cps.toList x.length) = x)) = true then sOf (mailTo k x.cps.toList x.length) else ⟨#[]⟩) := by unfold mailQ; rw [len_list]
    rw [hmQ]
    have hWQ : wholeQ k x = checkQ (wholeT k x) := rfl
    refine ex_cons (sx_assign O (ev_bin (ev_count (ev_name O rfl rfl) (ev_name O rfl rfl)) (ev_count (ev_name O rfl rfl) (ev_name O rfl rfl)) bin_sub_int) ?_ rfl)
    have e1 : (wholeT k x).length ≤ 1000 := by
      unfold wholeT
      rw [length_append_str, length_append_str, length_append_str]
      have : (⟨#[34]⟩ : Str).length = 1 := rfl
      omega
    have l1 : (Txt.join ⟨#[]⟩ (x.cps.toList.map (pieceQ k)) ++ ⟨#[34]⟩).length ≤ 64 := by
      rw [length_append_str]; have : (⟨#[34]⟩ : Str).length = 1 := rfl
      omega
    have l2 : (Txt.join ⟨#[]⟩ (x.cps.toList.map (pieceQ k)) ++ ⟨#[34]⟩ ++ Txt.mul ⟨#[41]⟩ (Txt.count x ⟨#[mec k]⟩ - Txt.count x ⟨#[mlc k]⟩)).length ≤ 164 := by
      rw [length_append_str]; omega
    have r1 : (Txt.join ⟨#[]⟩ (x.cps.toList.map (pieceQ k))).length + (⟨#[34]⟩ : Str).length ≤ sizeLine := by
      have : (⟨#[34]⟩ : Str).length = 1 := rfl
      rw [sizeLine_eq]; omega
    have r2 : (Txt.join ⟨#[]⟩ (x.cps.toList.map (pieceQ k)) ++ ⟨#[34]⟩).length + (Txt.mul ⟨#[41]⟩ (Txt.count x ⟨#[mec k]⟩ - Txt.count x ⟨#[mlc k]⟩)).length ≤ sizeLine := by rw [sizeLine_eq]; omega
    have r3 : (Txt.join ⟨#[]⟩ (x.cps.toList.map (pieceQ k)) ++ ⟨#[34]⟩ ++ Txt.mul ⟨#[41]⟩ (Txt.count x ⟨#[mec k]⟩ - Txt.count x ⟨#[mlc k]⟩)).length + (Txt.mul ⟨#[40]⟩ (-(Txt.count x ⟨#[mec k]⟩ - Txt.count x ⟨#[mlc k]⟩))).length ≤ sizeLine := by rw [sizeLine_eq]; omega
    refine ex_cons (sx_assign O (ev_cmp (ev_fn O dCheck (by walk_at "mem") (by walk_at "mem") (check_fn w (wholeT k x) e1 hW) (by walk_at "num")
      (evas_cons (ev_bin (ev_bin (ev_bin (ev_join_obj ev_str (ev_name (v := .obj 0) O rfl rfl) rfl j2) ev_str (bin_add_str r1))
        (ev_bin ev_str (ev_name O rfl rfl) (bin_mul_str (mulOk_of (by decide) (by omega)))) (bin_add_str r2))
        (ev_bin ev_str (ev_neg (ev_name O rfl rfl)) (bin_mul_str (mulOk_of (by decide) (by omega)))) (bin_add_str r3)) evas_nil) rfl) ev_bool cmp_is_true) ?_ rfl)
    refine ex_cons (sx_ret (ev_if_str (ts_cmp (ev_name O rfl rfl) (ev_cmp (ev_name O rfl rfl) (ev_name O rfl rfl) cmp_eq_str) cmp_eq_bool) (ev_name O rfl rfl) ev_str) ?_)
    rw [hWQ]
    rfl
end Mine
end
noncomputable section
open PySem PySem.Spec PySem.Calls PyProof.Rows PyProof.V PySem.W
set_option Elab.async false
set_option linter.unusedVariables false
set_option maxRecDepth 100000
namespace Mine

/-- a block's frame, its own name a cell -/
noncomputable def compCxC (C : Cx) (scope : Scope) (cl : List (Str × Addr)) (L : Addr) (x : Str) (c : Addr) (j : Nat) : Cx := ⟨C.w, C.A, compEnvC scope ((x, c) :: cl) L C.env, C.h₀, C.os, C.lv, C.cls ++ [(j, c)]⟩
theorem compCxC_ok {C : Cx} (O : C.Ok) {scope : Scope} {cl : List (Str × Addr)} {L : Addr} {x : Str} {c : Addr} {j : Nat} (hk : scope.kind = .function) : (compCxC C scope cl L x c j).Ok := ⟨O.hh, hk, O.gl, O.bi, O.T, O.dep, O.un⟩

theorem Rel.h0' {C : Cx} {l : Loc} {σ : Sto} {as : List Addr} {s : Shared} (R : Rel C l σ as s) : ∀ b o, C.h₀.get? b = some o → s.heap.get? b = some o := let ⟨_, F, _⟩ := R.fr; F.keep
theorem nfe_cell {M : Model} {A : Around} {E : Value → Shared → Prop} {s : Shared} {scope : Scope} {globals : Addr} {closure : List (Str × Addr)} {qual : Str} {outer : Env} {x : Str} {Q : Env → Shared → Prop}
    (hpc : ∀ h : Heap, pushCells h scope.names = h.push { cls := .type "cell", data := .cell none }) (hcf : ∀ n acc, cellsFrom n scope.names acc = (x, n) :: acc)
    (hQ : Q { scope, locals := s.heap.objs.size, globals, cells := (x, s.heap.objs.size + 1) :: closure, qual, func := none, code := outer.code, frame := outer.frame, builtins := outer.builtins } { s with heap := (s.heap.push { cls := .type "dict", data := .dict #[] }).push { cls := .type "cell", data := .cell none } }) :
    wpAny M A (newFunctionEnv scope globals closure [] qual none .none (some outer)) Q E s := by
  simp only [newFunctionEnv, Option.isSome_some, if_true]
  refine wpAny_bind (wpAny_alloc ?_)
  refine wpAny_bind (wpAny_layCells _ (fun name kind cells => by cases hkc : kind == NameKind.cell <;> simp [hkc]) _ _ _ _ ?_)
  rw [hcf]
  dsimp only
  rw [hpc, Heap.size_push]
  exact wpAny_bind (wpAny_pure (wpAny_pure hQ))

theorem evx_compC {C : Cx} {l : Loc} {σ : Sto} (O : C.Ok) {iter elt : PySem.Expr} {x : Str} {px pos : Pos} {ifs : List PySem.Expr} {scope : Scope} {cl : List (Str × Addr)} {n : Nat} {P : Nat → Value → Prop} (hit : EvI C l σ iter n P) (hsz : n ≤ sizeLine)
    (hclos : closureFor scope C.env = pure cl) (hpc : ∀ h : Heap, pushCells h scope.names = h.push { cls := .type "cell", data := .cell none }) (hcf : ∀ n acc, cellsFrom n scope.names acc = (x, n) :: acc) (hkind : scope.kind = .function) (hnames : ∀ y ∈ scope.names, y.2 = .local → scope.names.lookup y.1 = some .local) (hx : (relabel scope C.env).names.lookup x = some .cell)
    (J : Nat → Option PV → Sto → List PV → Prop) (hJ : J 0 none [] []) (hlen : ∀ i cv τ ys, J i cv τ ys → ys.length ≤ i)
    (hitem : ∀ i u, i < n → P i u → ∃ v : PV, VR [] v u ∧ v.plain = true ∧ ∀ cv τ ys L c, J i cv τ ys → (compCxC C scope cl L x c σ.length).Ok → CStep (compCxC C scope cl L x c σ.length) [] (σ ++ ([.cell (some v)] ++ τ)) ifs elt (fun τ' r => J (i + 1) (some v) (τ ++ τ') (ys ++ r)))
    {cv₁ : Option PV} {τ₁ : Sto} {ys₁ : List PV} (hend : ∀ cv τ ys, J n cv τ ys → cv = cv₁ ∧ τ = τ₁ ∧ ys = ys₁)
    (hs : ∀ x, foldedSetIterable iter C.env x = pure x := by intro _; rfl) : EvX C l σ (.ListComp elt [⟨.Name x px, iter, ifs, 0⟩] scope pos) ([.cell cv₁] ++ τ₁ ++ [.list ys₁]) (.obj (σ.length + 1 + τ₁.length)) := .mk fun as s Q E R hQ => by
  rw [eval_ListComp]
  refine wpAny_comprehension_free (use := none) rfl hs hclos hkind hnames (hit as s _ E R fun I s₂ fp wr St K W hst hlv hfp => ?_)
  have R₂ := R.kp K
  have hwr : ∀ b ∈ wr, s.heap.get? b = none := fun b hb => hfp b (W.sub b hb)
  refine wpAny_newObj_type (nfe_cell (x := x) hpc hcf ?_)
  dsimp only
  generalize hH2 : s₂.heap.push { cls := .type "list", dict := none, data := .seq ([] : List Value).toArray } = H2
  obtain ⟨D, hDe⟩ : ∃ D, D = s₂.heap.objs.size := ⟨_, rfl⟩
  obtain ⟨L, hLe⟩ : ∃ L, L = H2.objs.size := ⟨_, rfl⟩
  obtain ⟨c, hce⟩ : ∃ c, c = L + 1 := ⟨_, rfl⟩
  have hL2 : L = s₂.heap.objs.size + 1 := by rw [hLe, ← hH2, Heap.size_push]
  rw [← hDe, ← hLe, ← hce]
  have hDL : D ≠ L := by rw [hDe, hL2]; exact Nat.ne_of_lt (Nat.lt_succ_self _)
  have hcL : c ≠ L := by rw [hce]; exact Nat.succ_ne_self _
  have hDc : D ≠ c := by rw [hDe, hce, hL2]; exact Nat.ne_of_lt (Nat.lt_succ_of_lt (Nat.lt_succ_self _))
  have fresh₂ : ∀ a, s₂.heap.objs.size ≤ a → s₂.heap.get? a = none := fun a ha => by
    cases e : s₂.heap.get? a with
    | none => rfl
    | some o' => exact absurd (Heap.lt_size e) (Nat.not_lt.mpr ha)
  have hD0 : s₂.heap.get? D = none := fresh₂ D (by rw [hDe]; exact Nat.le_refl _)
  have hL0 : s₂.heap.get? L = none := fresh₂ L (by rw [hL2]; exact Nat.le_succ _)
  have hc0 : s₂.heap.get? c = none := fresh₂ c (by rw [hce, hL2]; exact Nat.le_succ_of_le (Nat.le_succ _))
  have hW : ∀ b ∈ [D, L, c], s₂.heap.get? b = none := fun b hb => by
    simp only [List.mem_cons, List.not_mem_nil, or_false] at hb
    rcases hb with rfl | rfl | rfl
    · exact hD0
    · exact hL0
    · exact hc0
  have hfpl : ∀ b ∈ fp, b < s₂.heap.objs.size := fun b hb => let ⟨o, e⟩ := hlv 0 _ hst b hb; Heap.lt_size e
  have hDf : D ∉ fp := fun hm => by have := hfpl D hm; rw [hDe] at this; exact Nat.lt_irrefl _ this
  have hLf : L ∉ fp := fun hm => by have := hfpl L hm; rw [hL2] at this; exact Nat.lt_irrefl _ (Nat.lt_of_succ_lt this)
  have hcf' : c ∉ fp := fun hm => by obtain ⟨o, e⟩ := hlv 0 _ hst c hm; rw [hc0] at e; cases e
  have hDw : D ∉ wr := fun h => hDf (W.sub _ h)
  have hLw : L ∉ wr := fun h => hLf (W.sub _ h)
  generalize hh₁ : (H2.push { cls := .type "dict", data := .dict #[] }).push { cls := .type "cell", data := .cell none } = h₁
  have old2 : ∀ b o, H2.get? b = some o → h₁.get? b = some o := fun b o e => by rw [← hh₁]; exact Heap.get?_push_of_some _ (Heap.get?_push_of_some _ e)
  have old : ∀ b o, s₂.heap.get? b = some o → h₁.get? b = some o := fun b o e => old2 b o (hH2 ▸ Heap.get?_push_of_some _ e)
  have hns₁ : h₁.Ns L (fun _ => none) := by
    rw [← hh₁, hLe]
    exact (Heap.Ns.new H2 (.type "dict")).keeps fun b o e => Heap.get?_push_of_some _ e
  have hcc : h₁.IsCell c none := ⟨_, by rw [← hh₁, hce, hLe, ← Heap.size_push H2 { cls := .type "dict", data := .dict #[] }]; exact Heap.get?_push_size _ rfl, rfl⟩
  have hacc : h₁.PlainList D #[] := ⟨_, old2 _ _ (by rw [hDe]; exact hH2 ▸ Heap.get?_push_size _ rfl)⟩
  have hst₁ : St 0 h₁ := W.frame _ _ _ hst fun b _ o e => old b o e
  have hloc := R₂.locals
  have hCL : C.env.locals ≠ L := fun q => by obtain ⟨o, e⟩ := hloc; rw [q, hL0] at e; cases e
  have hCD : C.env.locals ≠ D := fun q => by obtain ⟨o, e⟩ := hloc; rw [q, hD0] at e; cases e
  have h0L : C.h₀.get? L = none := by
    obtain ⟨m, F, _⟩ := R₂.fr
    cases e : C.h₀.get? L with
    | none => rfl
    | some o => have := F.keep L o e; rw [hL0] at this; cases this
  have h0w : ∀ b o, C.h₀.get? b = some o → b ∉ wr ++ [D, L, c] := fun b o e hb => by
    obtain ⟨m, F, _⟩ := R.fr
    have e' := F.keep b o e
    rcases List.mem_append.mp hb with hb | hb
    · rw [hwr b hb] at e'; cases e'
    · have e2 := K.k b o e'
      rw [hW b hb] at e2; cases e2
  have haw : ∀ a ∈ as, a ∉ wr ++ [D, L, c] := fun a ha hb => by
    obtain ⟨_, _, o, e⟩ := R.fs a ha
    rcases List.mem_append.mp hb with hb | hb
    · rw [hwr a hb] at e; cases e
    · have e2 := K.k a o e
      rw [hW a hb] at e2; cases e2
  have hCw : C.env.locals ∉ wr ++ [D, L, c] := fun hb => by
    obtain ⟨o, e⟩ := R.locals
    rcases List.mem_append.mp hb with hb | hb
    · rw [hwr _ hb] at e; cases e
    · have e2 := K.k _ o e
      rw [hW _ hb] at e2; cases e2
  have Oc : (compCxC C scope cl L x c σ.length).Ok := compCxC_ok O hkind
  have hxl : Env.kindOf (compEnvC scope ((x, c) :: cl) L C.env) x = some .cell := hx
  have hcx : (compEnvC scope ((x, c) :: cl) L C.env).cells.lookup x = some c := by show ((x, c) :: cl).lookup x = some c; rw [List.lookup_cons]; simp
  -- the turn's state
  let Inv : Nat → Shared → Prop := fun i s' => ∃ cv τ ys as' us m, J i cv τ ys ∧ KB (wr ++ [D, L, c]) s₂ s' ∧ St i s'.heap ∧ s'.heap.Ns L m ∧ s'.heap.PlainList D us ∧ All2 (VR as') ys us.toList ∧
    Rel (compCxC C scope cl L x c σ.length) [] (σ ++ ([.cell cv] ++ τ)) as' s' ∧ (∃ bs, as' = as ++ bs ∧ ∀ b ∈ bs, s₂.heap.get? b = none) ∧ D ∉ as' ∧ (∀ b ∈ as', b ∉ wr)
  have loop : ∀ s₃ : Shared, Inv 0 s₃ → codeAny (model Pg C.w) C.A (.compLoop (.ListComp elt [⟨.Name x px, iter, ifs, 0⟩] scope pos) 0 (.ref I) (.ref D) (compEnvC scope ((x, c) :: cl) L C.env)) (compPost (model Pg C.w) C.A E none Q (.ref D) L) s₃ := by
    intro s₃ h₃
    refine codeAny_compLoop_tests (fun k s' => ∃ i, i ≤ n ∧ k = n + 1 - i ∧ Inv i s') ?_ (n + 1) ⟨0, Nat.zero_le _, rfl, h₃⟩
    rintro k s' ⟨i, hi, rfl, cv, τ, ys, as', us, m, hJ', X, hst', hns', hD', hus, R', ⟨bs, rfl, hbs⟩, hDas, hafp⟩
    have haf' : ∀ a ∈ as ++ bs, a ∉ wr := hafp
    have h0wr : ∀ b o, C.h₀.get? b = some o → b ∉ wr := fun b o e hb => h0w b o e (List.mem_append_left _ hb)
    by_cases hlt : i < n
    · refine W.item i _ _ _ hlt hst' fun u h₂ tk₂ hP hst₂ hk₂ => ?_
      obtain ⟨v, hv, hvp, hstep⟩ := hitem i u hlt hP
      have Rw := R'.walk (tk := tk₂) hk₂ hLw haf' h0wr
      have hcs : (σ.length, c) ∈ (compCxC C scope cl L x c σ.length).cls := List.mem_append_right _ (List.mem_singleton.mpr rfl)
      have hca := Rw.cs _ hcs
      have hcσ : (σ ++ ([PO.cell cv] ++ τ))[σ.length]? = some (.cell cv) := by rw [List.getElem?_append_right (Nat.le_refl _), Nat.sub_self]; rfl
      obtain ⟨a', ha', oc, cc, hoc, hdc, _⟩ := Rw.st _ _ hcσ
      rw [hca] at ha'; cases ha'
      refine wpAny_assign_Name (wpAny_storeName_cell Oc.fk hxl hcx ⟨oc, hoc, hdc⟩ fun h₃ hcell₃ hs₃ => ?_)
      obtain ⟨o', ho', hd'⟩ := hcell₃
      have R₃ := Rw.setObj (tk := tk₂) (o := .cell (some v)) hca hs₃ ⟨o', _, ho', hd', u, rfl, hv.as_plain hvp⟩
      rw [List.set_append_right _ _ (Nat.le_refl _), Nat.sub_self] at R₃
      have R₃' : Rel (compCxC C scope cl L x c σ.length) [] (σ ++ ([.cell (some v)] ++ τ)) (as ++ bs) { s' with heap := h₃, toks := tk₂ } := R₃
      have X₃ : KB (wr ++ [D, L, c]) s₂ { s' with heap := h₃, toks := tk₂ } := X.heap fun b o hb e => (hs₃.2 b (fun q => hb (by rw [q]; simp))).trans (hk₂ b o (fun h => hb (List.mem_append_left _ h)) e)
      have hst₃ : St (i + 1) h₃ := W.frame _ _ _ hst₂ fun b hb o e => (hs₃.2 b (fun q => hcf' (by rw [← q]; exact hb))).trans e
      have hD₃ : h₃.PlainList D us := hD'.at fun o e => (hs₃.2 D hDc).trans (hk₂ D o hDw e)
      obtain ⟨b, ht, hb0, hb1⟩ := hstep cv τ ys L c hJ' Oc
      refine ht.run _ _ _ _ R₃' fun s₄ K₄ => ?_
      have hst₄ : St (i + 1) s₄.heap := W.frame _ _ _ hst₃ fun b _ o e => K₄.k b o e
      have R₄ := R₃'.kp K₄
      cases b with
      | false =>
        rw [if_neg (by decide)]
        refine ⟨n + 1 - (i + 1), by omega, i + 1, hlt, rfl, some v, τ, ys, as ++ bs, us, ?_⟩
        have hj : J (i + 1) (some v) (τ ++ []) (ys ++ []) := hb0 rfl
        rw [List.append_nil, List.append_nil] at hj
        obtain ⟨m₄, F₄, _⟩ := R₄.fr
        exact ⟨m₄, hj, X₃.kp K₄, hst₄, F₄.ns, hD₃.at fun o e => K₄.k D o e, hus, R₄, ⟨bs, rfl, hbs⟩, hDas, hafp⟩
      | true =>
        rw [if_pos rfl]
        obtain ⟨τ', y, he, hj⟩ := hb1 rfl
        refine he.run _ _ _ _ R₄ fun yu cs s₅ K₅ R₅ hcs vy => ?_
        have hD₅ : s₅.heap.PlainList D us := hD₃.at fun o e => K₅.k D o (K₄.k D o e)
        have hulen : us.size ≤ sizeLine := by
          have h1 := hlen i cv τ ys hJ'
          have h2 := hus.length
          have h3 : us.toList.length = us.size := by simp
          omega
        refine wpAny_list_append_plain (hsz := hulen) hD₅ fun h₆ hl₆ hs₆ => ?_
        have hcsD : D ∉ cs := fun hm => by
          obtain ⟨_, e⟩ := hD₃
          have := hcs D hm
          rw [K₄.k D _ e] at this; cases this
        have hDas₅ : D ∉ as ++ bs ++ cs := fun hm => by
          rcases List.mem_append.mp hm with hm | hm
          · exact hDas hm
          · exact hcsD hm
        have X₅ : KB (wr ++ [D, L, c]) s₂ s₅ := (X₃.kp K₄).kp K₅
        have X₆ : KB (wr ++ [D, L, c]) s₂ { s₅ with heap := h₆ } := X₅.heap (tk := s₅.toks) fun b o hb e => (hs₆.2 b (fun q => hb (by rw [q]; simp))).trans e
        have hLD : (compCxC C scope cl L x c σ.length).env.locals ≠ D := Ne.symm hDL
        have R₆ : Rel (compCxC C scope cl L x c σ.length) [] (σ ++ ([.cell (some v)] ++ τ) ++ τ') (as ++ bs ++ cs) { s₅ with heap := h₆ } := R₅.walk (wr := [D]) (tk := s₅.toks) (fun b o hb e => (hs₆.2 b (fun q => hb (by rw [q]; simp))).trans e)
          (by simpa using hLD) (fun a ha q => hDas₅ (by rw [← List.mem_singleton.mp q]; exact ha)) (fun b o e q => h0w b o e (by rw [List.mem_singleton.mp q]; simp))
        obtain ⟨m₆, F₆, _⟩ := R₆.fr
        have hst₆ : St (i + 1) h₆ := W.frame _ _ _ hst₄ fun b hb o e => (hs₆.2 b (fun q => hDf (by rw [← q]; exact hb))).trans (K₅.k b o e)
        refine ⟨n + 1 - (i + 1), by omega, i + 1, hlt, rfl, some v, τ ++ τ', ys ++ [y], as ++ bs ++ cs, us.push yu, m₆, hj, X₆, hst₆, F₆.ns, hl₆, ?_, ?_, ⟨bs ++ cs, by simp, fun b hb => ?_⟩, hDas₅, fun b hb => ?_⟩
        · rw [Array.toList_push]
          exact (hus.mono fun _ _ h => h.app).snoc vy
        · have e9 : σ ++ ([PO.cell (some v)] ++ (τ ++ τ')) = σ ++ ([.cell (some v)] ++ τ) ++ τ' := by simp
          rw [e9]; exact R₆
        · rcases List.mem_append.mp hb with hb | hb
          · exact hbs b hb
          · cases e : s₂.heap.get? b with
            | none => rfl
            | some o =>
              have q := hcs b hb
              by_cases hbw : b ∈ wr ++ [D, L, c]
              · rcases List.mem_append.mp hbw with hbw | hbw
                · obtain ⟨o', e'⟩ := hlv _ _ hst₄ b (W.sub _ hbw)
                  rw [q] at e'; cases e'
                · rw [hW b hbw] at e; cases e
              · rw [(X₃.kp K₄).k b o hbw e] at q; cases q
        · rcases List.mem_append.mp hb with hb | hb
          · exact hafp b hb
          · intro hf
            obtain ⟨o', e'⟩ := hlv _ _ hst₄ b (W.sub _ hf)
            rw [hcs b hb] at e'; cases e'
    · have hin : i = n := by omega
      subst hin
      refine W.done _ _ _ hst' fun h₂ tk₂ hk₂ => ?_
      obtain ⟨rfl, rfl, rfl⟩ := hend _ _ _ hJ'
      have Rw := R'.walk (tk := tk₂) hk₂ hLw haf' h0wr
      obtain ⟨m₂, F₂, _⟩ := Rw.fr
      refine ⟨m₂, F₂.ns, fun h₃ hs₃ => ?_⟩
      have X₃ : KB (wr ++ [D, L, c]) s₂ { s' with heap := h₃, toks := tk₂ } := X.heap fun b o hb e => (hs₃.2 b (fun q => hb (by rw [show b = L from q]; simp))).trans (hk₂ b o (fun h => hb (List.mem_append_left _ h)) e)
      have hD₃ : h₃.PlainList D us := hD'.at fun o e => (hs₃.2 D hDL).trans (hk₂ D o hDw e)
      -- the outer frame again
      have Kall : Kp s { s' with heap := h₃, toks := tk₂ } := ⟨fun b o e => by
        have hbw : b ∉ wr ++ [D, L, c] := fun hb => by
          rcases List.mem_append.mp hb with hb | hb
          · rw [hwr b hb] at e; cases e
          · have e2 := K.k b o e
            rw [hW b hb] at e2; cases e2
        exact X₃.k b o hbw (K.k b o e), fun h => X₃.g (K.g h), X₃.o.trans K.o, fun j y e => X₃.p j y (K.p j y e)⟩
      have Rout : Rel C l σ as { s' with heap := h₃, toks := tk₂ } := R.kp Kall
      have hbsn : ∀ b ∈ bs, s.heap.get? b = none := fun b hb => by
        cases e : s.heap.get? b with
        | none => rfl
        | some o => have := K.k b o e; rw [hbs b hb] at this; cases this
      have hsn : s.heap.get? D = none := by
        cases e : s.heap.get? D with
        | none => rfl
        | some o => have := K.k D o e; rw [hD0] at this; cases this
      have hLbs : L ∉ as ++ bs := fun hm => (R'.fs L hm).2.1 rfl
      have keepA : ∀ a ∈ as ++ bs, ∀ o, s'.heap.get? a = some o → h₃.get? a = some o := fun a ha o e => (hs₃.2 a (fun q => hLbs (by rw [← show a = L from q]; exact ha))).trans (hk₂ a o (haf' a ha) e)
      obtain ⟨nD, hgD⟩ := hD₃
      have hOD : OH C.w (as ++ bs) h₃ D (.list ys) := ⟨us.toList, nD, by rw [hgD], hus⟩
      refine hQ (.ref D) (bs ++ [D]) { s' with heap := h₃, toks := tk₂ } Kall ⟨?_, ?_, fun j o e => ?_, fun a ha => ?_, ?_, Rout.gn, Rout.os, fun p hp => ?_⟩ (fun b hb => ?_) ⟨D, ?_, rfl⟩
      · obtain ⟨mo, Fo, hmo⟩ := Rout.fr
        exact ⟨mo, Fo, fun x v hx => let ⟨u, hu, hv⟩ := hmo x v hx; ⟨u, hu, hv.app⟩⟩
      · have := R'.ln
        simp only [List.length_append, List.length_cons, List.length_nil] at this ⊢; omega
      · rw [← List.append_assoc] at e
        rcases Nat.lt_or_ge j (σ ++ ([PO.cell cv] ++ τ)).length with hj | hj
        · rw [List.getElem?_append_left hj] at e
          obtain ⟨a, hja, ha⟩ := R'.st j o e
          refine ⟨a, ?_, ?_⟩
          · rw [← List.append_assoc, List.getElem?_append_left (List.getElem?_eq_some_iff.mp hja).1]; exact hja
          · have := (ha.keeps (h' := h₃) (keepA a (List.mem_of_getElem? hja))).app (bs := [D])
            rw [← List.append_assoc]; exact this
        · have hj0 : j = (σ ++ ([PO.cell cv] ++ τ)).length := by
            have := (List.getElem?_eq_some_iff.mp e).1
            simp only [List.length_append, List.length_cons, List.length_nil] at this hj ⊢; omega
          subst hj0
          rw [List.getElem?_append_right (Nat.le_refl _), Nat.sub_self] at e
          simp at e
          subst e
          refine ⟨D, ?_, ?_⟩
          · rw [← List.append_assoc, ← R'.ln]; simp
          · have := hOD.app (bs := [D])
            rw [← List.append_assoc]; exact this
      · rw [← List.append_assoc] at ha
        rcases List.mem_append.mp ha with ha | ha
        · obtain ⟨f1, f2, o, f3⟩ := R'.fs a ha
          refine ⟨f1, fun q => ?_, o, keepA a ha o f3⟩
          rcases List.mem_append.mp ha with ha | ha
          · exact (R.fs a ha).2.1 q
          · obtain ⟨o', e'⟩ := R.locals
            rw [← q, hbsn a ha] at e'; cases e'
        · rw [List.mem_singleton.mp ha]
          refine ⟨?_, fun q => hCD q.symm, _, hgD⟩
          cases e : C.h₀.get? D with
          | none => rfl
          | some o => exact absurd (by simp) (h0w D o e)
      · rw [← List.append_assoc]
        refine List.nodup_append.mpr ⟨R'.nd, by simp, fun a ha b hb => ?_⟩
        rw [List.mem_singleton.mp hb]
        rintro rfl
        exact hDas ha
      · rw [List.getElem?_append_left (List.getElem?_eq_some_iff.mp (R.cs p hp)).1]; exact R.cs p hp
      · rcases List.mem_append.mp hb with hb | hb
        · exact hbsn b hb
        · rw [List.mem_singleton.mp hb]; exact hsn
      · have hl := R'.ln
        simp only [List.length_append, List.length_cons, List.length_nil] at hl
        rw [← List.append_assoc, List.getElem?_append_right (by rw [List.length_append]; omega), List.length_append, show σ.length + 1 + τ.length - (as.length + bs.length) = 0 by omega]; rfl
  have hcas : c ∉ as := fun hm => by
    obtain ⟨_, _, o, e⟩ := R₂.fs c hm
    rw [hc0] at e; cases e
  have Rc : Rel (compCxC C scope cl L x c σ.length) [] (σ ++ [.cell none]) (as ++ [c]) { s₂ with heap := h₁ } := by
    obtain ⟨m, F, hm⟩ := R₂.fr
    refine ⟨⟨_, ⟨hns₁, fun b o e => old b o (F.keep b o e), ?_⟩, fun y v hy => by simp at hy⟩, by simp [R₂.ln], fun j o e => ?_, fun a ha => ?_, ?_, R₂.gn, R₂.os, fun p hp => ?_⟩
    · show C.h₀.objs.size ≤ L
      exact Nat.le_trans F.above (by rw [hL2]; exact Nat.le_succ_of_le (Nat.le_of_lt F.ns.lt))
    · rcases Nat.lt_or_ge j σ.length with hj | hj
      · rw [List.getElem?_append_left hj] at e
        obtain ⟨a, ha, h⟩ := R₂.st j o e
        exact ⟨a, by rw [List.getElem?_append_left (List.getElem?_eq_some_iff.mp ha).1]; exact ha, (h.keeps fun o e => old a o e).app⟩
      · have hj0 : j = σ.length := by
          have := (List.getElem?_eq_some_iff.mp e).1
          simp only [List.length_append, List.length_cons, List.length_nil] at this; omega
        subst hj0
        simp at e
        subst e
        obtain ⟨oc, h1, h2⟩ := hcc
        exact ⟨c, by rw [← R₂.ln]; simp, oc, _, h1, h2, rfl⟩
    · rcases List.mem_append.mp ha with ha | ha
      · obtain ⟨f1, f2, o, f3⟩ := R₂.fs a ha
        exact ⟨f1, (fun q => by rw [show a = L from q, hL0] at f3; cases f3), o, old a o f3⟩
      · rw [List.mem_singleton.mp ha]
        obtain ⟨oc, h1, h2⟩ := hcc
        refine ⟨?_, hcL, oc, h1⟩
        cases e : C.h₀.get? c with
        | none => exact e
        | some o => have := R₂.h0' c o e; rw [hc0] at this; cases this
    · refine List.nodup_append.mpr ⟨R₂.nd, by simp, fun a ha b hb => ?_⟩
      rw [List.mem_singleton.mp hb]
      rintro rfl
      exact hcas ha
    · rcases List.mem_append.mp hp with hp | hp
      · rw [List.getElem?_append_left (List.getElem?_eq_some_iff.mp (R₂.cs p hp)).1]; exact R₂.cs p hp
      · rw [List.mem_singleton.mp hp]
        show (as ++ [c])[σ.length]? = some c
        rw [← R₂.ln]; simp
  have hInv : Inv 0 { s₂ with heap := h₁ } := by
    refine ⟨none, [], [], as ++ [c], #[], _, hJ, ⟨fun b o _ e => old b o e, fun h => h, rfl, fun _ _ e => e⟩, hst₁, hns₁, hacc, .nil, Rc, ⟨[c], rfl, fun b hb => by rw [List.mem_singleton.mp hb]; exact hc0⟩, fun hm => ?_, fun a ha hf => ?_⟩
    · rcases List.mem_append.mp hm with hm | hm
      · obtain ⟨_, _, o, e⟩ := R₂.fs D hm
        rw [hD0] at e; cases e
      · exact hDc (List.mem_singleton.mp hm)
    · rcases List.mem_append.mp ha with ha | ha
      · obtain ⟨_, _, o, e⟩ := R.fs a ha
        rw [hwr a hf] at e; cases e
      · rw [List.mem_singleton.mp ha] at hf
        exact hcf' (W.sub _ hf)
  exact codeAny_compStart_list (loop _ hInv) (W.self 0 _ _ _ hst₁ (loop _ hInv))
end Mine
end
noncomputable section
open PySem PySem.Spec PySem.Calls PyProof.Rows PyProof.V PySem.W
set_option Elab.async false
set_option linter.unusedVariables false
set_option maxRecDepth 100000
namespace Mine

noncomputable def strsD (xs : List Str) : PyData := .list (xs.map PyData.str)
noncomputable def rowsD (xss : List (List Str)) : PyData := .list (xss.map strsD)
theorem strs_lay : ∀ xs : List Str, (∀ x ∈ xs, PyData.strOk x = true) → PyData.canLayAll0 (xs.map PyData.str) = true
  | [], _ => by simp [PyData.canLayAll0]
  | x :: xs, h => by simp [PyData.canLayAll0, PyData.canLay0, h x (List.mem_cons_self ..), strs_lay xs fun y hy => h y (List.mem_cons_of_mem _ hy)]
theorem strs_depth : ∀ xs : List Str, PyData.depthAll (xs.map PyData.str) = 0
  | [] => by simp [PyData.depthAll]
  | x :: xs => by simp [PyData.depthAll, PyData.depth, strs_depth xs]
theorem rows_lay : ∀ xss : List (List Str), (∀ xs ∈ xss, ∀ x ∈ xs, PyData.strOk x = true) → PyData.canLayAll0 (xss.map strsD) = true
  | [], _ => by simp [PyData.canLayAll0]
  | x :: xs, h => by simp [PyData.canLayAll0, strsD, PyData.canLay0, strs_lay x (h x (List.mem_cons_self ..)), rows_lay xs fun y hy => h y (List.mem_cons_of_mem _ hy)]
theorem rows_depth : ∀ xss : List (List Str), PyData.depthAll (xss.map strsD) ≤ 1
  | [] => by simp [PyData.depthAll]
  | x :: xs => by
    have := rows_depth xs
    simp only [List.map_cons, PyData.depthAll, strsD, PyData.depth, strs_depth]
    omega
theorem rows_shaped (xss : List (List Str)) (h : ∀ xs ∈ xss, ∀ x ∈ xs, PyData.strOk x = true) : PySem.SeqAt.shaped (rowsD xss) = true := by
  unfold PySem.SeqAt.shaped rowsD
  have := rows_depth xss
  simp only [PyData.canLay0, rows_lay xss h, PyData.depth, Bool.true_and]
  exact decide_eq_true (by omega)
theorem strs_eqv : ∀ xs : List Str, PyData.eqvAll (xs.map PyData.str) (xs.map PyData.str) = true
  | [] => by simp [PyData.eqvAll]
  | x :: xs => by simp [PyData.eqvAll, PyData.eqv, strs_eqv xs]
theorem rows_eqvAll : ∀ xss : List (List Str), PyData.eqvAll (xss.map strsD) (xss.map strsD) = true
  | [] => by simp [PyData.eqvAll]
  | x :: xs => by simp [PyData.eqvAll, strsD, PyData.eqv, strs_eqv, rows_eqvAll xs]
theorem rows_eqv (xss : List (List Str)) : PyData.eqv (rowsD xss) (rowsD xss) = true := by
  simp [rowsD, PyData.eqv, rows_eqvAll]

theorem reads_strs {w : World} {as : List Addr} {h : Heap} {a : Addr} {xs : List Str} (o : OH w as h a (.list (xs.map .str))) : Reads h (.ref a) (strsD xs) [a] := by
  obtain ⟨us, n, hg, hus⟩ := o
  refine .list hg rfl rfl (vs := us.toArray) ?_
  show ReadsAll h us (xs.map PyData.str) []
  clear hg
  induction xs generalizing us with
  | nil => cases hus; exact .nil
  | cons x xs ih =>
    obtain _ | ⟨⟨t, rfl⟩, h'⟩ := hus
    exact .cons (as := []) (.str x t) (ih _ h')
theorem reads_rows {C : Cx} {l : Loc} {σ : Sto} {as : List Addr} {s : Shared} (R : Rel C l σ as s) {j : Nat} {is : List Nat} {xss : List (List Str)} (hj : σ[j]? = some (.list (is.map .obj))) (h : All2 (fun i xs => σ[i]? = some (.list (xs.map .str))) is xss) {u : Value} (hu : VR as (.obj j) u) :
    ∃ bs, Reads s.heap u (rowsD xss) bs := by
  obtain ⟨a, ha, rfl⟩ := hu
  obtain ⟨a', ha', us, n, hg, hus⟩ := R.st j _ hj
  rw [ha] at ha'; cases ha'
  have key : ∀ {is : List Nat} {xss : List (List Str)} {us : List Value}, All2 (fun i xs => σ[i]? = some (.list (xs.map .str))) is xss → All2 (VR as) (is.map PV.obj) us → ∃ bs, ReadsAll s.heap us (xss.map strsD) bs := by
    intro is xss us h
    induction h generalizing us with
    | nil => intro hu; cases hu; exact ⟨_, .nil⟩
    | cons hi _ ih =>
      intro hu
      obtain _ | ⟨⟨b, hb, rfl⟩, h'⟩ := hu
      obtain ⟨bs, hbs⟩ := ih h'
      obtain ⟨b', hb', ho⟩ := R.st _ _ hi
      rw [hb] at hb'; cases hb'
      exact ⟨_, .cons (reads_strs ho) hbs⟩
  obtain ⟨bs, hbs⟩ := key h hus
  exact ⟨_, .list hg rfl rfl (vs := us.toArray) hbs⟩

/-- two lists of lists of texts that are the same -/
theorem ts_ne_rows {C : Cx} {l : Loc} {σ τ : Sto} {e₁ e₂ : PySem.Expr} {pos : Pos} {j j' : Nat} {is is' : List Nat} {xss : List (List Str)} (O : C.Ok) (hlv : 1 ≤ C.lv) (hok : ∀ xs ∈ xss, ∀ x ∈ xs, PyData.strOk x = true) (h₁ : Ev C l σ e₁ (.obj j)) (h₂ : EvX C l σ e₂ τ (.obj j')) (hj : σ[j]? = some (.list (is.map .obj))) (hi : All2 (fun i (xs : List Str) => σ[i]? = some (.list (xs.map .str))) is xss)
    (hj' : (σ ++ τ)[j']? = some (.list (is'.map .obj))) (hi' : All2 (fun i (xs : List Str) => (σ ++ τ)[i]? = some (.list (xs.map .str))) is' xss) (hm : behindInMarks .NotEq e₂ = false := by with_unfolding_all rfl) : Ts C l σ (.Compare e₁ [.NotEq] [e₂] pos) false := fun as s Q E R h =>
  wpAny_isTrue_Compare1 (h₁ as s _ E R fun ua s₁ K va => h₂.run as s₁ _ E (R.kp K) fun ub bs s₂ K₂ R₂ hb vb => by
    have app : ∀ {i : Nat} {o : PO}, σ[i]? = some o → (σ ++ τ)[i]? = some o := fun {i o} e => by rw [List.getElem?_append_left (List.getElem?_eq_some_iff.mp e).1]; exact e
    obtain ⟨c₁, r₁⟩ := reads_rows R₂ (app hj) (hi.mono fun _ _ e => app e) va.app
    obtain ⟨c₂, r₂⟩ := reads_rows R₂ hj' hi' vb
    have := O.un
    refine ne_dataH r₁ r₂ (rows_shaped xss hok) (rows_shaped xss hok) (by omega) ?_
    rw [rows_eqv]
    exact wpAny_truthy_bool (h s₂ (K.trans K₂))) hm
end Mine
end
noncomputable section
open PySem PySem.Spec PySem.Calls PyProof.Rows PyProof.V PySem.W
set_option Elab.async false
set_option linter.unusedVariables false
set_option maxRecDepth 100000
namespace Mine
section
variable {C : Cx} {l : Loc} {σ : Sto} {Φ : Fl → Loc → Sto → Prop}

theorem evx_fnTX (O : C.Ok) {x : Str} {np pos : Pos} {e : PySem.Expr} {es : List PySem.Expr} {vs ts : List PV} {lv : Nat} {P : Heap → Prop} (d : FnRec) (hd : d ∈ fnTab) (hx : (x, d.addr) ∈ gTab) (hf : FnTX C.w lv d.addr vs ts P) (hlv : lv ≤ C.lv) (ha : EvAs C l σ (e :: es) vs)
    (hP : ∀ h, (∀ b o, C.h₀.get? b = some o → h.get? b = some o) → P h)
    (hk : C.env.kindOf x = some .globalImplicit) (hpl : vs.all PV.plain = true := by rfl) (htl : ts.all PV.plain = true := by rfl) (hs : backTo pos (starEach (e :: es) C.env) = (e :: es).map (fun e => (false, eval e C.env)) := by rfl) (hdb : (x == ("__debug__" : Str)) = false := by decide) :
    EvX C l σ (.Call (.Name x np) (e :: es) [] pos) [.tup ts] (.obj σ.length) := .mk fun as s Q E R h => by
  refine PyProof.Rows.Call_Name hs (nm_g O R hx hk ?_ hdb)
  obtain ⟨o, pm, cd, doc, ho, hdat, hcd⟩ := (R.tf O).fn d hd
  refine Calls.callWith_function (o := o) (fd := docDef d.name d.params d.body d.scope pm cd doc) (Calls.evalArgs_plain (ha as s _ E R fun us s₁ K vus => ⟨⟨K.k _ _ ho, hdat⟩, ?_⟩))
  have := O.dep
  have := O.un
  refine hf C.A us s₁ Q E O.hh (by omega) (by omega) ((R.kp K).tf O) (R.kp K).gn (hP _ (R.kp K).h0) (vus.as_plain hpl) fun a s₂ K₂ hn ho₂ => ?_
  obtain ⟨us', n, hg, hus'⟩ := ho₂
  have hn' : s.heap.get? a = none := by
    cases q : s.heap.get? a with
    | none => rfl
    | some o => rw [K.k a o q] at hn; cases hn
  exact h _ [a] s₂ (K.trans K₂) (R.push (K.trans K₂) hn' ⟨us', n, hg, hus'.as_plain htl⟩) (by simpa using hn') ⟨a, by rw [← R.ln]; simp, rfl⟩

theorem evx_rows (O : C.Ok) (hlv : 5 ≤ C.lv) {np pos : Pos} {e : PySem.Expr} {x : Str} (he : Ev C l σ e (.str x)) (hx : x.length ≤ 21) (hc : ∀ c ∈ x.cps.toList, isRgb c) (hk : C.env.kindOf "_law_rows" = some .globalImplicit)
    (hs : backTo pos (starEach [e] C.env) = [(false, eval e C.env)] := by rfl) :
    EvX C l σ (.Call (.Name "_law_rows" np) [e] [] pos) [.list (rowOf (rowItems x.cps.toList 0) 0), .list (rowOf (rowItems x.cps.toList 0) 1), .list (rowOf (rowItems x.cps.toList 0) 2), .list [.obj σ.length, .obj (σ.length + 1), .obj (σ.length + 2)]] (.obj (σ.length + 3)) := .mk fun as s Q E R h => by
  refine PyProof.Rows.Call_Name hs (nm_g O R (a := dRows.addr) (by simp [gTab]; decide) hk ?_)
  obtain ⟨o, pm, cd, doc, ho, hdat, hcd⟩ := (R.tf O).fn dRows (by simp [fnTab])
  refine Calls.callWith_function (o := o) (fd := docDef dRows.name dRows.params dRows.body dRows.scope pm cd doc) (Calls.evalArgs_plain (Calls.spliced_cons (he as s _ E R fun u s₁ K vu => Calls.spliced_nil ⟨⟨K.k _ _ ho, hdat⟩, ?_⟩)))
  obtain ⟨t, rfl⟩ := vu
  have := O.dep
  have := O.un
  refine rows_fn C.w x hx hc O.hh (by omega) (by omega) ((R.kp K).tf O) (R.kp K).gn fun r a b c s' K' hz hnd hr ha hb hc' => ?_
  have K₂ := K.trans K'
  have R₂ := R.kp K₂
  have fresh : ∀ z ∈ [r, a, b, c], s.heap.get? z = none ∧ C.h₀.get? z = none ∧ z ≠ C.env.locals ∧ z ∉ as := fun z hzm => by
    have hz1 := hz z hzm
    have hs0 : s.heap.get? z = none := by
      cases e : s.heap.get? z with
      | none => rfl
      | some o => have := K.k z o e; rw [hz1] at this; cases this
    refine ⟨hs0, ?_, fun q => ?_, fun q => ?_⟩
    · cases e : C.h₀.get? z with
      | none => rfl
      | some o => have := R.h0 z o e; rw [hs0] at this; cases this
    · obtain ⟨o, e⟩ := R.locals; rw [← q, hs0] at e; cases e
    · obtain ⟨_, _, o, e⟩ := R.fs z q; rw [hs0] at e; cases e
  simp only [List.nodup_cons, List.mem_cons, List.not_mem_nil, or_false, not_or, List.nodup_nil, and_true, not_false_eq_true] at hnd
  obtain ⟨⟨n1, n2, n3⟩, ⟨n4, n5⟩, n6⟩ := hnd
  obtain ⟨fa0, fa1, fa2, fa3⟩ := fresh a (by simp)
  obtain ⟨fb0, fb1, fb2, fb3⟩ := fresh b (by simp)
  obtain ⟨fc0, fc1, fc2, fc3⟩ := fresh c (by simp)
  obtain ⟨fr0, fr1, fr2, fr3⟩ := fresh r (by simp)
  have Ra := R₂.add fa1 fa2 fa3 (OH.app (as := []) (bs := as ++ [a]) ha)
  have Rb := Ra.add fb1 fb2 (fun hm => (List.mem_append.mp hm).elim fb3 fun q => n4 (List.mem_singleton.mp q).symm) (OH.app (as := []) (bs := as ++ [a] ++ [b]) hb)
  have Rc := Rb.add fc1 fc2 (fun hm => (List.mem_append.mp hm).elim (fun hm => (List.mem_append.mp hm).elim fc3 fun q => n5 (List.mem_singleton.mp q).symm) fun q => n6 (List.mem_singleton.mp q).symm) (OH.app (as := []) (bs := as ++ [a] ++ [b] ++ [c]) hc')
  have hln : as.length = σ.length := R.ln
  have hall : as ++ [a] ++ [b] ++ [c] ++ [r] = as ++ [a, b, c, r] := by simp
  have hOr : OH C.w (as ++ [a] ++ [b] ++ [c] ++ [r]) s'.heap r (.list [.obj σ.length, .obj (σ.length + 1), .obj (σ.length + 2)]) := by
    obtain ⟨us, n, hg, hus⟩ := hr
    have e1 : us = [.ref a, .ref b, .ref c] := refs_eq (ts := [a, b, c]) hus
    subst e1
    rw [hall]
    refine ⟨_, n, hg, .cons ⟨a, ?_, rfl⟩ (.cons ⟨b, ?_, rfl⟩ (.cons ⟨c, ?_, rfl⟩ .nil))⟩
    · rw [← hln, List.getElem?_append_right (Nat.le_refl _)]; simp
    · rw [← hln, List.getElem?_append_right (by omega)]; simp
    · rw [← hln, List.getElem?_append_right (by omega)]; simp
  have Rr := Rc.add fr1 fr2 (fun hm => (List.mem_append.mp hm).elim (fun hm => (List.mem_append.mp hm).elim (fun hm => (List.mem_append.mp hm).elim fr3 fun q => n1 (List.mem_singleton.mp q)) fun q => n2 (List.mem_singleton.mp q)) fun q => n3 (List.mem_singleton.mp q)) hOr
  refine h _ [a, b, c, r] s' K₂ ?_ ?_ ⟨r, ?_, rfl⟩
  · rw [hall] at Rr
    have e2 : σ ++ [PO.list (rowOf (rowItems x.cps.toList 0) 0)] ++ [.list (rowOf (rowItems x.cps.toList 0) 1)] ++ [.list (rowOf (rowItems x.cps.toList 0) 2)] ++ [.list [.obj σ.length, .obj (σ.length + 1), .obj (σ.length + 2)]] = σ ++ [.list (rowOf (rowItems x.cps.toList 0) 0), .list (rowOf (rowItems x.cps.toList 0) 1), .list (rowOf (rowItems x.cps.toList 0) 2), .list [.obj σ.length, .obj (σ.length + 1), .obj (σ.length + 2)]] := by simp
    rw [← e2]; exact Rr
  · intro z hz
    simp only [List.mem_cons, List.not_mem_nil, or_false] at hz
    rcases hz with rfl | rfl | rfl | rfl
    · exact fa0
    · exact fb0
    · exact fc0
    · exact fr0
  · rw [← hln, List.getElem?_append_right (by omega)]; simp
end
end Mine
end
noncomputable section
open PySem PySem.Spec PySem.Calls PyProof.Rows PyProof.V PySem.W
set_option Elab.async false
set_option linter.unusedVariables false
set_option maxRecDepth 100000
namespace Mine
local macro_rules | `(tactic| walk_at "num") => `(tactic| first | exact of_decide_eq_true rfl | assumption | omega)
local macro_rules | `(tactic| walk_at "mem") => `(tactic| first | decide | (simp [gTab, fnTab, bNames]; done))
local macro_rules | `(tactic| walk_at "room") => `(tactic| first | assumption | exact of_decide_eq_true rfl | omega | (rw [sizeLine_eq]; omega))

noncomputable def spellF (c : Nat) : Option PV := if b1N.contains (c : Int) then none else some (.str (mapQ c))
noncomputable def spellL (T : Str) : List PV := T.cps.toList.filterMap spellF
noncomputable def dueRow (due : Str) (c : Nat) : List PV := (List.range due.length).filterMap fun i => due.cps[i]?.bind fun d => if decide ((⟨#[d]⟩ : Str) = ⟨#[c]⟩) then some (.str (numS i)) else none

noncomputable def RoundOk (x : UInt64) (i : Int) : Prop := Float64.isFinite x = true ∧ Float64.isNaN x = false ∧ Float64.isInf x = false ∧ Flt.toInt Float64.nearestOf x = i
/-- what the plain law says of a script -/
structure LawFacts (w : World) (xs : List Int) (due : Str) (lo fe : Int) (n0 n1 n2 : Nat) : Prop where
  tlen : (signT xs).length ≤ 100
  low : ∀ c ∈ (signT xs).cps.toList, Builtin.Str.tooLong (Txt.lower (⟨#[c]⟩ : Str)).length = false
  spell : ∃ ws : List Str, spellL (signT xs) = ws.map .str ∧ JoinOk ⟨#[]⟩ ws = true ∧ Txt.join ⟨#[]⟩ ws = signW xs
  wlen : (signW xs).length ≤ 21
  rule : FnT w 1 dRule.addr [.str (signW xs)] [.str due, .int lo, .int fe]
  mail : ∃ m1 m2 : Str, FnC w 8 dMail.addr [.str (signW xs), .str ⟨#[114]⟩, .str ⟨#[103]⟩] (.str m1) ∧ FnC w 8 dMail.addr [.str m1, .str ⟨#[103]⟩, .str ⟨#[98]⟩] (.str m2) ∧ FnC w 8 dMail.addr [.str m2, .str ⟨#[114]⟩, .str ⟨#[103]⟩] (.str due)
  wheel : ∃ m1 m2 : Str, FnC w 2 dWheel.addr [.str (signW xs), .str ⟨#[103]⟩, .str ⟨#[98]⟩] (.str m1) ∧ FnC w 2 dWheel.addr [.str m1, .str ⟨#[114]⟩, .str ⟨#[103]⟩] (.str m2) ∧ FnC w 2 dWheel.addr [.str m2, .str ⟨#[103]⟩, .str ⟨#[98]⟩] (.str due)
  dlen : due.length ≤ 21
  drgb : ∀ c ∈ due.cps.toList, isRgb c
  rows : ∃ r0 r1 r2 : List Str, rowOf (rowItems due.cps.toList 0) 0 = r0.map .str ∧ rowOf (rowItems due.cps.toList 0) 1 = r1.map .str ∧ rowOf (rowItems due.cps.toList 0) 2 = r2.map .str ∧ dueRow due 114 = r0.map .str ∧ dueRow due 103 = r1.map .str ∧ dueRow due 98 = r2.map .str ∧
    (∀ r ∈ [r0, r1, r2], ∀ x ∈ r, PyData.strOk x = true) ∧ r0.length = n0 ∧ r1.length = n1 ∧ r2.length = n2
  ns : n0 ≤ 21 ∧ n1 ≤ 21 ∧ n2 ≤ 21
  level : mx3 n0 n1 n2 = lo
  fin1 : ¬Float64.isInf (Float64.ofInt lo) = true
  okR : RoundOk (Float64.mul (hsvS n0 n1 n2) (Float64.ofInt lo)) (lo - fe)
  okR2 : RoundOk (Float64.mul (Float64.mul (Float64.mul (hsvH n0 n1 n2) (Float64.ofInt 6)) (hsvS n0 n1 n2)) (Float64.ofInt lo)) ((signW xs).length - lo - 2 * fe)
  mulok : IntMulOk 2 fe

noncomputable def rgbC (j : Nat) : Nat := [114, 103, 98].getD j 0
theorem dueRow_plain (due : Str) (c i : Nat) (y : PV) (hy : (due.cps[i]?.bind fun d => if decide ((⟨#[d]⟩ : Str) = ⟨#[c]⟩) then some (PV.str (numS i)) else none) = some y) : y.plain = true := by
  cases e : due.cps[i]? with
  | none => rw [e] at hy; cases hy
  | some d =>
    rw [e] at hy
    have hy : (if decide ((⟨#[d]⟩ : Str) = ⟨#[c]⟩) then some (PV.str (numS i)) else none) = some y := hy
    split at hy
    · cases hy; rfl
    · cases hy
theorem ev_eqI {C : Cx} {l : Loc} {σ : Sto} {e : PySem.Expr} {x y : Int} (h : x = y) (v : Ev C l σ e (.int x)) : Ev C l σ e (.int y) := h ▸ v
theorem ev_eqS {C : Cx} {l : Loc} {σ : Sto} {e : PySem.Expr} {x y : Str} (h : x = y) (v : Ev C l σ e (.str x)) : Ev C l σ e (.str y) := h ▸ v
theorem law_body {w : World} {A : Around} {cd : Value} {s : Shared} (O : (inFrameC w A dLaw cd s 8 1).Ok) (a : Addr) (xs : List Int) (hx : xs.length ≤ 63) (hE : ExtL s.heap a (xs.map .int)) {due : Str} {lo fe : Int} {n0 n1 n2 : Nat} (F : LawFacts w xs due lo fe n0 n1 n2) :
    Ex (inFrameC w A dLaw cd s 8 1) dLaw.body [("script", .ref a)] [.cell none] (fun f _ σ' => ∃ v, f = .ret v ∧ v = .bool true) := by
  have hcls : (0, s.heap.objs.size + 1 + 0) ∈ (inFrameC w A dLaw cd s 8 1).cls := List.mem_map.mpr ⟨0, by simp, rfl⟩
  refine ex_cons (sx_unpack O (EvX.m (evx_fnTX O dSigns (by walk_at "mem") (by walk_at "mem") (signs_fn w a xs hx) (by show 1 ≤ 8; omega) (evas_cons (ev_name (v := .ref a) O rfl rfl) evas_nil) (fun h k => hE.keeps k) rfl)) rfl (.cons (st_local O rfl) (.cons (st_local O rfl) .nil)) ?_)
  show Ex _ _ [("script", .ref a), ("text", .str (signT xs)), ("word", .str (signW xs))] [.cell none, .tup [.str (signT xs), .str (signW xs)]] _
  obtain ⟨ws, hw1, hw2, hw3⟩ := F.spell
  refine ex_cons (sx_assign O (v := .str (signW xs)) (ev_eqS hw3 (ev_join ev_str (ws := ws) (evl_eq hw1 ?_) hw2)) ?_ rfl)
  · have hsz : (signT xs).cps.toList.length = (signT xs).cps.size := by simp
    have hl := F.tlen
    refine evl_eq (range_filterMap spellF (signT xs).cps.toList) ?_
    rw [hsz]
    refine evl_comp O (n := (signT xs).cps.size) (P := SignAt (signT xs)) (evi_str O (ev_name (v := .str (signT xs)) O rfl rfl)).c (by rw [sizeLine_eq]; exact Nat.le_trans hl (by decide)) rfl (fun i => (signT xs).cps.toList[i]?.bind spellF) (fun i y hy => ?_) ?_
    · cases e : (signT xs).cps.toList[i]? with
      | none => rw [e] at hy; cases hy
      | some c =>
        rw [e] at hy
        have hy : spellF c = some y := hy
        unfold spellF at hy
        split at hy
        · cases hy
        · cases hy; rfl
    · rintro i u hi ⟨c, t, hc, hu⟩
      have hc' : (signT xs).cps.toList[i]? = some c := by rw [Array.getElem?_toList]; exact hc
      refine ⟨.str ⟨#[c]⟩, ⟨t, hu⟩, rfl, fun L Oc => ⟨!b1N.contains (c : Int), ct_one ?_, fun hb => ?_, fun hb => ⟨.str (mapQ c), ?_, ?_⟩⟩⟩
      · exact ts_not (ts_plain (ev_fn Oc dInB1 (by walk_at "mem") (by walk_at "mem") (inb1_fn w c) (by show 1 ≤ 8; omega) (evas_cons (ev_name (v := .str ⟨#[c]⟩) Oc rfl rfl) evas_nil) rfl))
      · rw [hc']; show spellF c = none; unfold spellF; rw [if_pos (by simpa using hb)]
      · rw [hc']; show spellF c = _; unfold spellF; rw [if_neg (by simpa using hb)]
      · exact ev_fn Oc dMapB3 (by walk_at "mem") (by walk_at "mem") (mapb3_fn w c (F.low c (List.mem_of_getElem? hc'))) (by show 1 ≤ 8; omega) (evas_cons (ev_name (v := .str ⟨#[c]⟩) Oc rfl rfl) evas_nil) rfl
  refine ex_cons (sx_if (b := false) (ts_as (ts_cmp (ev_name (v := .str (signW xs)) O rfl rfl) (ev_name (v := .str (signW xs)) O rfl rfl) cmp_ne_str) (by simp)) (fun h0 => nomatch h0) (fun _ => ex_nil ?_))
  refine ex_cons (sx_unpack O (EvX.m (evx_fnT O dRule (by walk_at "mem") (by walk_at "mem") F.rule (by show 1 ≤ 8; omega) (evas_cons (ev_name (v := .str (signW xs)) O rfl rfl) evas_nil) rfl)) rfl (.cons (st_cell O (a := s.heap.objs.size + 1 + 0) (j := 0) (v₀ := none) rfl rfl hcls rfl) (.cons (st_local O rfl) (.cons (st_local O rfl) .nil))) ?_)
  obtain ⟨m1, m2, hm1, hm2, hm3⟩ := F.mail
  obtain ⟨w1, w2, hv1, hv2, hv3⟩ := F.wheel
  show Ex _ _ [("script", .ref a), ("text", .str (signT xs)), ("word", .str (signW xs)), ("spelled", .str (signW xs)), ("longest", .int lo), ("fewest", .int fe)] [.cell (some (.str due)), .tup [.str (signT xs), .str (signW xs)], .tup [.str due, .int lo, .int fe]] _
  refine ex_cons (sx_assign O (ev_fn O dMail (by walk_at "mem") (by walk_at "mem") hm3 (by show 8 ≤ 8; omega) (evas_cons (ev_fn O dMail (by walk_at "mem") (by walk_at "mem") hm2 (by show 8 ≤ 8; omega) (evas_cons (ev_fn O dMail (by walk_at "mem") (by walk_at "mem") hm1 (by show 8 ≤ 8; omega) (evas_cons (ev_name (v := .str (signW xs)) O rfl rfl) (evas_cons ev_str (evas_cons ev_str evas_nil))) rfl) (evas_cons ev_str (evas_cons ev_str evas_nil))) rfl) (evas_cons ev_str (evas_cons ev_str evas_nil))) rfl) ?_ rfl)
  refine ex_cons (sx_assign O (ev_fn O dWheel (by walk_at "mem") (by walk_at "mem") hv3 (by show 2 ≤ 8; omega) (evas_cons (ev_fn O dWheel (by walk_at "mem") (by walk_at "mem") hv2 (by show 2 ≤ 8; omega) (evas_cons (ev_fn O dWheel (by walk_at "mem") (by walk_at "mem") hv1 (by show 2 ≤ 8; omega) (evas_cons (ev_name (v := .str (signW xs)) O rfl rfl) (evas_cons ev_str (evas_cons ev_str evas_nil))) rfl) (evas_cons ev_str (evas_cons ev_str evas_nil))) rfl) (evas_cons ev_str (evas_cons ev_str evas_nil))) rfl) ?_ rfl)
  show Ex _ _ [("script", .ref a), ("text", .str (signT xs)), ("word", .str (signW xs)), ("spelled", .str (signW xs)), ("longest", .int lo), ("fewest", .int fe), ("mailed", .str due), ("turned", .str due)] [.cell (some (.str due)), .tup [.str (signT xs), .str (signW xs)], .tup [.str due, .int lo, .int fe]] _
  refine ex_cons (sx_if (b := false) (ts_as (ts_or (b := false) (ts_as (ts_cmp (ev_name (v := .str due) O rfl rfl) (ev_cell (v := .str due) (a := s.heap.objs.size + 1 + 0) (j := 0) O rfl rfl hcls rfl) cmp_ne_str) (by simp)) (fun _ => ts_or (b := false) (ts_as (ts_cmp (ev_name (v := .str due) O rfl rfl) (ev_cell (v := .str due) (a := s.heap.objs.size + 1 + 0) (j := 0) O rfl rfl hcls rfl) cmp_ne_str) (by simp)) (fun _ => ts_or_nil))) rfl) (fun h0 => nomatch h0) (fun _ => ex_nil ?_))
  refine ex_cons (sx_let (EvX.m (evx_rows O (by show 5 ≤ 8; omega) (ev_name (v := .str due) O rfl rfl) F.dlen F.drgb rfl)) (st_local O rfl) ?_)
  obtain ⟨r0, r1, r2, e0, e1, e2, d0, d1, d2, hok, q0, q1, q2⟩ := F.rows
  rw [e0, e1, e2]
  show Ex _ _ [("script", .ref a), ("text", .str (signT xs)), ("word", .str (signW xs)), ("spelled", .str (signW xs)), ("longest", .int lo), ("fewest", .int fe), ("mailed", .str due), ("turned", .str due), ("rows", .obj 6)] [.cell (some (.str due)), .tup [.str (signT xs), .str (signW xs)], .tup [.str due, .int lo, .int fe], .list (r0.map .str), .list (r1.map .str), .list (r2.map .str), .list [.obj 3, .obj 4, .obj 5]] _
  generalize hσ : ([.cell (some (.str due)), .tup [.str (signT xs), .str (signW xs)], .tup [.str due, .int lo, .int fe], .list (r0.map .str), .list (r1.map .str), .list (r2.map .str), .list [.obj 3, .obj 4, .obj 5]] : Sto) = σ₇
  have hσl : σ₇.length = 7 := by rw [← hσ]; rfl
  have hσ0 : σ₇[0]? = some (.cell (some (.str due))) := by rw [← hσ]; rfl
  refine ex_cons (sx_if (b := false) (ts_ne_rows (j := 6) (j' := 11) (is := [3, 4, 5]) (is' := [8, 9, 10]) (xss := [r0, r1, r2]) O (by show 1 ≤ 8; omega) hok (ev_name (v := .obj 6) O rfl rfl)
    (τ := [.cell (some (.str ⟨#[98]⟩))] ++ [.list (dueRow due 114), .list (dueRow due 103), .list (dueRow due 98)] ++ [.list [.obj 8, .obj 9, .obj 10]]) ?_ (by rw [← hσ]; rfl) (by rw [← hσ]; exact .cons rfl (.cons rfl (.cons rfl .nil))) (by rw [← hσ]; rfl) (by rw [← hσ, d0, d1, d2]; exact .cons rfl (.cons rfl (.cons rfl .nil)))) (fun h0 => nomatch h0) (fun _ => ex_nil ?_))
  · have e11 : (11 : Nat) = σ₇.length + 1 + ([PO.list (dueRow due 114), .list (dueRow due 103), .list (dueRow due 98)] : Sto).length := by rw [hσl]; rfl
    rw [show PV.obj 11 = PV.obj (σ₇.length + 1 + ([PO.list (dueRow due 114), .list (dueRow due 103), .list (dueRow due 98)] : Sto).length) from congrArg PV.obj e11]
    refine evx_compC O (x := "name") (n := 3) (P := SignAt ⟨#[114, 103, 98]⟩) (evi_str O ev_str) (of_decide_eq_true rfl) rfl (fun h => rfl) (fun n acc => rfl) rfl (by decide) rfl
      (fun i cv τ ys => cv = (if i = 0 then none else some (.str ⟨#[rgbC (i - 1)]⟩)) ∧ τ = (List.range i).map (fun j => PO.list (dueRow due (rgbC j))) ∧ ys = (List.range i).map (fun j => PV.obj (8 + j))) ⟨rfl, rfl, rfl⟩ (fun i cv τ ys h => by rw [h.2.2]; simp) ?_ (fun cv τ ys h => h)
    rintro i u hi ⟨c, t, hc, hu⟩
    have hci : c = rgbC i := by
      match i, hi, hc with
      | 0, _, hc => cases hc; rfl
      | 1, _, hc => cases hc; rfl
      | 2, _, hc => cases hc; rfl
    subst hci
    refine ⟨.str ⟨#[rgbC i]⟩, ⟨t, hu⟩, rfl, ?_⟩
    rintro cv τ ys L cc ⟨rfl, rfl, rfl⟩ Oc
    have hcn : (σ₇.length, cc) ∈ (inFrameC w A dLaw cd s 8 1).cls ++ [(σ₇.length, cc)] := List.mem_append_right _ (List.mem_singleton.mpr rfl)
    have hdl := F.dlen
    refine ⟨true, ct_nil, nofun, fun _ => ⟨[.list (dueRow due (rgbC i))], _, EvL.x ?_, ?_, ?_, ?_⟩⟩
    · have hcd : (0, s.heap.objs.size + 1 + 0) ∈ (inFrameC w A dLaw cd s 8 1).cls ++ [(σ₇.length, cc)] := List.mem_append_left _ hcls
      have h0' : (σ₇ ++ ([PO.cell (some (.str ⟨#[rgbC i]⟩))] ++ (List.range i).map (fun j => PO.list (dueRow due (rgbC j)))))[0]? = some (.cell (some (.str due))) := by rw [List.getElem?_append_left (by rw [hσl]; decide)]; exact hσ0
      have h7' : (σ₇ ++ ([PO.cell (some (.str ⟨#[rgbC i]⟩))] ++ (List.range i).map (fun j => PO.list (dueRow due (rgbC j)))))[σ₇.length]? = some (.cell (some (.str ⟨#[rgbC i]⟩))) := by rw [List.getElem?_append_right (Nat.le_refl _), Nat.sub_self]; rfl
      refine evl_comp Oc (n := due.length) (P := fun i v => ∃ t, v = .int (0 + i * 1) t) (evi_range Oc (N := (due.length : Int)) (ev_b1 Oc (ev_cell (v := .str due) (a := s.heap.objs.size + 1 + 0) (j := 0) Oc rfl rfl hcd h0') (prim_len_str (x := due) (by omega)) (by walk_at "mem") (by decide +kernel) rfl) rfl (by omega) (by omega)).c (by rw [sizeLine_eq]; omega) rfl
        (fun k => due.cps[k]?.bind fun d => if decide ((⟨#[d]⟩ : Str) = ⟨#[rgbC i]⟩) then some (.str (numS k)) else none) (fun k y hy => dueRow_plain due (rgbC i) k y hy) ?_
      rintro k u hk ⟨t, hu⟩
      have hdk : due.cps[k]? = some due.cps[k] := Array.getElem?_eq_getElem hk
      refine ⟨.int k, ⟨t, by rw [hu]; simp⟩, rfl, fun L2 O2 => ⟨decide ((⟨#[due.cps[k]]⟩ : Str) = ⟨#[rgbC i]⟩), ct_one ?_, fun hb => ?_, fun hb => ⟨.str (numS k), ?_, ?_⟩⟩⟩
      · exact ts_cmp (ev_item_str (ev_cell (v := .str due) (a := s.heap.objs.size + 1 + 0) (j := 0) O2 rfl rfl hcd h0') (ev_name (v := .int k) O2 rfl rfl) (by omega) (by omega) hdk) (ev_cell (v := .str ⟨#[rgbC i]⟩) (a := cc) (j := σ₇.length) O2 rfl rfl hcn h7') cmp_eq_str
      · rw [hdk]; show (if _ then _ else _) = _; rw [hb]; rfl
      · rw [hdk]; show (if _ then _ else _) = _; rw [hb]; rfl
      · refine ev_t1 O2 (ev_name (v := .int k) O2 rfl rfl) (prim_str_int ?_) (by walk_at "mem") (by decide +kernel) rfl
        have : (k : Int).natAbs = k := by omega
        rw [this]
        have h2 : k.log2 ≤ k := Nat.log2_le_self k
        omega
    · simp
    · rw [List.range_succ, List.map_append]; rfl
    · have e : (σ₇ ++ ([PO.cell (some (.str ⟨#[rgbC i]⟩))] ++ (List.range i).map (fun j => PO.list (dueRow due (rgbC j))))).length = 8 + i := by
        rw [List.length_append, List.length_append, List.length_map, List.length_range, hσl, List.length_singleton]; omega
      rw [List.range_succ, List.map_append, e]; rfl
  have hσ3 : σ₇[3]? = some (.list (r0.map .str)) := by rw [← hσ]; rfl
  have hσ4 : σ₇[4]? = some (.list (r1.map .str)) := by rw [← hσ]; rfl
  have hσ5 : σ₇[5]? = some (.list (r2.map .str)) := by rw [← hσ]; rfl
  have hσ6 : σ₇[6]? = some (.list [.obj 3, .obj 4, .obj 5]) := by rw [← hσ]; rfl
  obtain ⟨ns0, ns1, ns2⟩ := F.ns
  have hrgb := rgb_fn w n0 n1 n2 (by omega) (by omega) (by omega) (by omega) (by omega) (by omega)
  rw [F.level] at hrgb
  have hl0 : ((r0.map PV.str).length : Int) = n0 := by rw [List.length_map, q0]
  have hl1 : ((r1.map PV.str).length : Int) = n1 := by rw [List.length_map, q1]
  have hl2 : ((r2.map PV.str).length : Int) = n2 := by rw [List.length_map, q2]
  refine ex_cons (sx_unpack O (EvX.m (evx_fnT O dRgb (by walk_at "mem") (by walk_at "mem") hrgb (by show 1 ≤ 8; omega)
    (evas_cons (ev_eqI hl0 (ev_len_list O (ev_item_list (v := .obj 3) (ev_name (v := .obj 6) O rfl rfl) hσ6 ev_int (by decide) (by decide) rfl) hσ3 (by rw [List.length_map]; omega) rfl))
    (evas_cons (ev_eqI hl1 (ev_len_list O (ev_item_list (v := .obj 4) (ev_name (v := .obj 6) O rfl rfl) hσ6 ev_int (by decide) (by decide) rfl) hσ4 (by rw [List.length_map]; omega) rfl))
    (evas_cons (ev_eqI hl2 (ev_len_list O (ev_item_list (v := .obj 5) (ev_name (v := .obj 6) O rfl rfl) hσ6 ev_int (by decide) (by decide) rfl) hσ5 (by rw [List.length_map]; omega) rfl)) evas_nil))) rfl)) (by rw [hσl, List.getElem?_append_right (by omega), hσl]; rfl) (.cons (st_local O rfl) (.cons (st_local O rfl) (.cons (st_local O rfl) .nil))) ?_)
  obtain ⟨f1, f2, f3, f4⟩ := F.okR
  obtain ⟨g1, g2, g3, g4⟩ := F.okR2
  have hwl := F.wlen
  refine ex_weak (l' := [("word", .str (signW xs)), ("longest", .int lo), ("fewest", .int fe), ("hue", .flt (hsvH n0 n1 n2)), ("share", .flt (hsvS n0 n1 n2)), ("level", .int lo)]) ⟨rfl, rfl, rfl, rfl, rfl, rfl, trivial⟩ ?_
  refine ex_cons (sx_if (b := false) (ts_as (ts_or (b := false) (ts_as (ts_cmp (ev_name (v := .int lo) O rfl rfl) (ev_name (v := .int lo) O rfl rfl) cmp_ne_int) (by simp)) (fun _ => ts_or (b := false) (ts_as (ts_cmp (ev_eqI f4 (ev_b1 O (ev_bin (ev_name (v := .flt (hsvS n0 n1 n2)) O rfl rfl) (ev_name (v := .int lo) O rfl rfl) (bin_mul_fi F.fin1)) (prim_round f1 f2 f3) (by walk_at "mem") (by decide +kernel) rfl)) (ev_bin (ev_name (v := .int lo) O rfl rfl) (ev_name (v := .int fe) O rfl rfl) bin_sub_int) cmp_ne_int) (by simp)) (fun _ => ts_or_nil))) rfl) (fun h0 => nomatch h0) (fun _ => ex_nil ?_))
  refine ex_cons (sx_ret (ev_cmp (ev_eqI g4 (ev_b1 O (ev_bin (ev_bin (ev_bin (ev_name (v := .flt (hsvH n0 n1 n2)) O rfl rfl) ev_int (bin_mul_fi (by decide +kernel))) (ev_name (v := .flt (hsvS n0 n1 n2)) O rfl rfl) bin_mul_flt) (ev_name (v := .int lo) O rfl rfl) (bin_mul_fi F.fin1)) (prim_round g1 g2 g3) (by walk_at "mem") (by decide +kernel) rfl))
    (ev_bin (ev_bin (ev_b1 O (ev_name (v := .str (signW xs)) O rfl rfl) (prim_len_str (x := signW xs) (by omega)) (by walk_at "mem") (by decide +kernel) rfl) (ev_name (v := .int lo) O rfl rfl) bin_sub_int) (ev_bin ev_int (ev_name (v := .int fe) O rfl rfl) (bin_mul_int F.mulok)) bin_sub_int) cmp_eq_int) ⟨_, rfl, by simp⟩)
end Mine
end
noncomputable section
open PySem PySem.Spec PySem.Calls PyProof.Rows PyProof.V PySem.W
set_option Elab.async false
set_option linter.unusedVariables false
set_option maxRecDepth 100000
namespace Mine

theorem law_fn (w : World) (a : Addr) (xs : List Int) (hx : xs.length ≤ 63) {due : Str} {lo fe : Int} {n0 n1 n2 : Nat} (F : LawFacts w xs due lo fe n0 n1 n2) {A : Around} {s : Shared} {Q : Value → Shared → Prop} {E : Value → Shared → Prop} (hh : A.handled = none) (hdep : A.depth + 9 < recursionLimit) (hun : A.units + 30 * 9 + 60 < cLine)
    (T : TF w s.heap) (hg : ∀ z ∈ s.gens, z.bare = true) (hE : ExtL s.heap a (xs.map .int)) (hQ : ∀ s', Kp s s' → Q (.bool true) s') : wpAny (model Pg w) A (call (.ref dLaw.addr) [.ref a]) Q E s := by
  refine enterC (lv := 8) dLaw (by simp [fnTab]) hh hdep hun T hg (l₀ := [("script", .ref a)]) (σ₀ := [.cell none]) ["due"] rfl ?_ ?_ (Ψ := fun v _ => v = .bool true) (fun cd O => law_body O a xs hx hE F) ?_
  · intro L i n hi
    match i, hi with
    | 0, hi => cases hi; rfl
  · intro pm cd doc
    refine ⟨[("script", .ref a)], rfl, ?_, ?_, ?_⟩
    · intro y hy
      rw [List.mem_singleton.mp hy]
      exact .inl rfl
    · intro y v hy
      have := PySem.mem_of_lookup hy
      simp at this
      obtain ⟨rfl, rfl⟩ := this
      exact ⟨_, rfl, rfl⟩
    · intro i n hi
      match i, hi with
      | 0, hi => cases hi; exact ⟨none, rfl, rfl⟩
  · rintro cd v l' σ' as' s' u rfl R K hf hv
    cases hv
    exact hQ s' K
end Mine
end
noncomputable section
open PySem PySem.Spec PySem.Calls PyProof.Rows PyProof.V PySem.W
set_option Elab.async false
set_option linter.unusedVariables false
set_option maxRecDepth 100000
namespace Mine

theorem vA_len (P : Params) : (vA P).length = 85 := by kernel_rfl
theorem sF_A (w : World) (xs : List Obj) {b : Addr} {o : Obj} (h : (vA w.params)[b]? = some o) (hf : ∀ c d s, o ≠ ⟨c, d, .freed, s⟩) : (sF w xs).heap.get? b = some o := by
  refine (hp_get? _ _ _ _).mpr ⟨?_, hf⟩
  rw [List.append_assoc, List.getElem?_append_left (List.getElem?_eq_some_iff.mp h).1]; exact h
theorem sF_B (w : World) (xs : List Obj) (hx : xs.length = 39) {b : Nat} {o : Obj} (h : (vB w.params)[b]? = some o) (hf : ∀ c d s, o ≠ ⟨c, d, .freed, s⟩) : (sF w xs).heap.get? (124 + b) = some o := by
  refine (hp_get? _ _ _ _).mpr ⟨?_, hf⟩
  rw [List.getElem?_append_right (by rw [List.length_append, vA_len, hx]; omega), List.length_append, vA_len, hx, show 124 + b - (85 + 39) = b by omega]; exact h
theorem sF_85 (w : World) (es : Array DictEntry) (subs : List Obj) : (sF w (dO es 650 :: subs)).heap.get? 85 = some (dO es 650) := by
  refine (hp_get? _ _ _ _).mpr ⟨?_, by intro c d s q; cases q⟩
  rw [List.append_assoc, List.getElem?_append_right (by rw [vA_len]; exact Nat.le_refl _), vA_len]; rfl

noncomputable def liveB (o : Obj) : Bool := match o.data with | .freed => false | _ => true
theorem live_of {o : Obj} (h : liveB o = true) : ∀ c d s, o ≠ ⟨c, d, .freed, s⟩ := by
  rintro c d s rfl
  cases h
noncomputable def fnD (o : Obj) : Option FuncData := match o.data with | .func f => some f | _ => none
noncomputable def fldD (o : Obj) : Array Value := match o.data with | .fields vs => vs | _ => #[]
noncomputable def tokD (o : Obj) : Tok := match (fldD o)[1]? with | some (Value.str _ t) => t | _ => 0
noncomputable def pmD (o : Obj) : Value := match fnD o with | some f => f.pyModule | _ => .none
noncomputable def docD (o : Obj) : Value := match fnD o with | some f => f.doc | _ => .none
theorem fn_of {h : Heap} {d : FnRec} {o oc : Obj} {c : Addr} (ho : h.get? d.addr = some o) (hd : o.data = .func (docDef d.name d.params d.body d.scope (pmD o) (.ref c) (docD o))) (hg : h.get? c = some oc) (hv : oc.data = .fields (fldD oc)) (hs : (fldD oc)[1]? = some (.str d.name (tokD oc))) :
    ∃ o pm cd doc, h.get? d.addr = some o ∧ o.data = .func (docDef d.name d.params d.body d.scope pm cd doc) ∧ h.CodeRec cd d.name :=
  ⟨o, _, _, _, ho, hd, c, oc, _, _, rfl, hg, hv, hs⟩
noncomputable def nsV (P : Params) (x : Str) : Option Value := match (v3 P).data with | .dict es _ => nsFind es x | _ => none
theorem ns_b (P : Params) : ∀ x ∈ bNames, nsV P x = none := by
  intro x hx
  simp only [bNames, List.mem_cons, List.not_mem_nil, or_false] at hx
  rcases hx with rfl | rfl | rfl | rfl | rfl | rfl | rfl | rfl | rfl | rfl | rfl
  all_goals kernel_rfl
theorem ns_g (P : Params) : ∀ p ∈ gTab, nsV P p.1 = some (.ref p.2) := by
  intro p hp
  simp only [gTab, List.mem_cons, List.not_mem_nil, or_false] at hp
  rcases hp with rfl | rfl | rfl | rfl | rfl | rfl | rfl | rfl | rfl | rfl | rfl | rfl | rfl | rfl | rfl | rfl
  all_goals kernel_rfl
theorem mem_lookA {β : Type} {a : Addr} {b : β} : ∀ {l : List (Addr × β)}, l.lookup a = some b → (a, b) ∈ l
  | [], h => nomatch h
  | (c, d) :: l, h => by
    rw [List.lookup_cons] at h
    cases hb : a == c with
    | true => rw [hb] at h; cases h; rw [eq_of_beq hb]; exact List.mem_cons_self
    | false => rw [hb] at h; exact List.mem_cons_of_mem _ (mem_lookA h)
theorem tf_of {w : World} {s₀ s₁ : Shared} (hΦ : Φ w s₀) (k : ∀ b o, s₀.heap.get? b = some o → s₁.heap.get? b = some o) (G : Ground qV looseV [] (fun _ _ => True) w s₀ (s₀.heap.nsMap mainGlobals) (s₀.heap.nsMap builtinsNs) s₁.heap) : TF w s₁.heap := by
  obtain ⟨es, subs, rfl, h6, h7⟩ := hΦ
  have hx : (dO es 650 :: subs).length = 39 := by rw [List.length_cons, h7]
  have hA : ∀ {b : Addr} {o : Obj}, (vA w.params)[b]? = some o → (∀ c d s, o ≠ ⟨c, d, .freed, s⟩) → s₁.heap.get? b = some o := fun h hf => k _ _ (sF_A w _ h hf)
  have hB : ∀ {b : Nat} {o : Obj}, (vB w.params)[b]? = some o → (∀ c d s, o ≠ ⟨c, d, .freed, s⟩) → s₁.heap.get? (124 + b) = some o := fun h hf => k _ _ (sF_B w _ hx h hf)
  have hns : ∀ x, (sF w (dO es 650 :: subs)).heap.nsMap mainGlobals x = nsV w.params x := fun x => by
    unfold Heap.nsMap
    rw [sF_A w _ (b := mainGlobals) (o := v3 w.params) (by kernel_rfl) (by intro c d s q; cases q)]
    rfl
  refine ⟨⟨_, G.T.g, fun x hx => (hns x).trans (ns_b _ x hx), fun p hp => (hns p.1).trans (ns_g _ p hp)⟩, ⟨_, G.T.b, G.T.builtins⟩, G.T.nolimit, ?_, ?_, ⟨es, k _ _ (sF_85 w es subs), h6⟩⟩
  · intro d hd
    simp only [fnTab, List.mem_cons, List.not_mem_nil, or_false] at hd
    rcases hd with rfl | rfl | rfl | rfl | rfl | rfl | rfl | rfl | rfl | rfl | rfl | rfl
    · exact fn_of (d := dIter) (c := 44) (hA (b := 45) (o := y45 w.params) (by kernel_rfl) (live_of (by kernel_rfl))) (by kernel_rfl) (hA (b := 44) (o := y44 w.params) (by kernel_rfl) (live_of (by kernel_rfl))) (by kernel_rfl) (by kernel_rfl)
    · exact fn_of (d := dStrip) (c := 51) (hA (b := 52) (o := y52 w.params) (by kernel_rfl) (live_of (by kernel_rfl))) (by kernel_rfl) (hA (b := 51) (o := y51 w.params) (by kernel_rfl) (live_of (by kernel_rfl))) (by kernel_rfl) (by kernel_rfl)
    · exact fn_of (d := dCheck) (c := 58) (hA (b := 59) (o := y59 w.params) (by kernel_rfl) (live_of (by kernel_rfl))) (by kernel_rfl) (hA (b := 58) (o := y58 w.params) (by kernel_rfl) (live_of (by kernel_rfl))) (by kernel_rfl) (by kernel_rfl)
    · exact fn_of (d := dRgb) (c := 65) (hA (b := 66) (o := y66 w.params) (by kernel_rfl) (live_of (by kernel_rfl))) (by kernel_rfl) (hA (b := 65) (o := y65 w.params) (by kernel_rfl) (live_of (by kernel_rfl))) (by kernel_rfl) (by kernel_rfl)
    · exact fn_of (d := dInB1) (c := 83) (hA (b := 84) (o := y84 w.params) (by kernel_rfl) (live_of (by kernel_rfl))) (by kernel_rfl) (hA (b := 83) (o := y83 w.params) (by kernel_rfl) (live_of (by kernel_rfl))) (by kernel_rfl) (by kernel_rfl)
    · exact fn_of (d := dMapB3) (c := 129) (hB (b := 6) (o := v130 w.params) (by kernel_rfl) (live_of (by kernel_rfl))) (by kernel_rfl) (hB (b := 5) (o := v129 w.params) (by kernel_rfl) (live_of (by kernel_rfl))) (by kernel_rfl) (by kernel_rfl)
    · exact fn_of (d := dSigns) (c := 282) (hB (b := 159) (o := v283 w.params) (by kernel_rfl) (live_of (by kernel_rfl))) (by kernel_rfl) (hB (b := 158) (o := v282 w.params) (by kernel_rfl) (live_of (by kernel_rfl))) (by kernel_rfl) (by kernel_rfl)
    · exact fn_of (d := dRule) (c := 289) (hB (b := 166) (o := v290 w.params) (by kernel_rfl) (live_of (by kernel_rfl))) (by kernel_rfl) (hB (b := 165) (o := v289 w.params) (by kernel_rfl) (live_of (by kernel_rfl))) (by kernel_rfl) (by kernel_rfl)
    · exact fn_of (d := dMail) (c := 296) (hB (b := 173) (o := v297 w.params) (by kernel_rfl) (live_of (by kernel_rfl))) (by kernel_rfl) (hB (b := 172) (o := v296 w.params) (by kernel_rfl) (live_of (by kernel_rfl))) (by kernel_rfl) (by kernel_rfl)
    · exact fn_of (d := dWheel) (c := 303) (hB (b := 180) (o := v304 w.params) (by kernel_rfl) (live_of (by kernel_rfl))) (by kernel_rfl) (hB (b := 179) (o := v303 w.params) (by kernel_rfl) (live_of (by kernel_rfl))) (by kernel_rfl) (by kernel_rfl)
    · exact fn_of (d := dRows) (c := 308) (hB (b := 185) (o := v309 w.params) (by kernel_rfl) (live_of (by kernel_rfl))) (by kernel_rfl) (hB (b := 184) (o := v308 w.params) (by kernel_rfl) (live_of (by kernel_rfl))) (by kernel_rfl) (by kernel_rfl)
    · exact fn_of (d := dLaw) (c := 313) (hB (b := 190) (o := v314 w.params) (by kernel_rfl) (live_of (by kernel_rfl))) (by kernel_rfl) (hB (b := 189) (o := v313 w.params) (by kernel_rfl) (live_of (by kernel_rfl))) (by kernel_rfl) (by kernel_rfl)
  · intro a o e
    have := mem_lookA e
    simp only [kF, List.mem_cons, List.not_mem_nil, or_false, Prod.mk.injEq] at this
    rcases this with ⟨rfl, rfl⟩ | ⟨rfl, rfl⟩ | ⟨rfl, rfl⟩ | ⟨rfl, rfl⟩ | ⟨rfl, rfl⟩ | ⟨rfl, rfl⟩ | ⟨rfl, rfl⟩ | ⟨rfl, rfl⟩ | ⟨rfl, rfl⟩ | ⟨rfl, rfl⟩ | ⟨rfl, rfl⟩ | ⟨rfl, rfl⟩ | ⟨rfl, rfl⟩ | ⟨rfl, rfl⟩ | ⟨rfl, rfl⟩ | ⟨rfl, rfl⟩ | ⟨rfl, rfl⟩
    · exact hA (b := 2) (o := z2 w.params) (by kernel_rfl) (live_of (by kernel_rfl))
    · exact hA (b := 74) (o := y74 w.params) (by kernel_rfl) (live_of (by kernel_rfl))
    · exact hB (b := 15) (o := v139 w.params) (by kernel_rfl) (live_of (by kernel_rfl))
    · exact hB (b := 16) (o := v140 w.params) (by kernel_rfl) (live_of (by kernel_rfl))
    · exact hB (b := 20) (o := v144 w.params) (by kernel_rfl) (live_of (by kernel_rfl))
    · exact hB (b := 21) (o := v145 w.params) (by kernel_rfl) (live_of (by kernel_rfl))
    · exact hB (b := 37) (o := v161 w.params) (by kernel_rfl) (live_of (by kernel_rfl))
    · exact hB (b := 43) (o := v167 w.params) (by kernel_rfl) (live_of (by kernel_rfl))
    · exact hB (b := 44) (o := v168 w.params) (by kernel_rfl) (live_of (by kernel_rfl))
    · exact hB (b := 50) (o := v174 w.params) (by kernel_rfl) (live_of (by kernel_rfl))
    · exact hB (b := 51) (o := v175 w.params) (by kernel_rfl) (live_of (by kernel_rfl))
    · exact hB (b := 88) (o := v212 w.params) (by kernel_rfl) (live_of (by kernel_rfl))
    · exact hB (b := 89) (o := v213 w.params) (by kernel_rfl) (live_of (by kernel_rfl))
    · exact hB (b := 146) (o := v270 w.params) (by kernel_rfl) (live_of (by kernel_rfl))
    · exact hB (b := 147) (o := v271 w.params) (by kernel_rfl) (live_of (by kernel_rfl))
    · exact hB (b := 149) (o := v273 w.params) (by kernel_rfl) (live_of (by kernel_rfl))
    · exact hB (b := 150) (o := v274 w.params) (by kernel_rfl) (live_of (by kernel_rfl))
end Mine
end
noncomputable section
open PySem PySem.Spec PySem.Calls PyProof.Rows PyProof.V PySem.W
set_option Elab.async false
set_option linter.unusedVariables false
set_option maxRecDepth 100000
set_option linter.all false
set_option maxHeartbeats 4000000
namespace Mine
/-- the letter of a sweep, and the depth behind it -/
noncomputable def swl (k : Bool) (d : Int) (c : Nat) : Nat := if c = mlc k then (if d < 1 then mec k else c) else c
noncomputable def dep (k : Bool) (d : Int) (c : Nat) : Int := if c = mec k then d + 1 else if c = mlc k then (if d < 1 then d else d - 1) else d
noncomputable def sweep (k : Bool) : List Nat → Int → List Nat
  | [], _ => []
  | c :: w, d => swl k d c :: sweep k w (dep k d c)
noncomputable def ind (c x : Nat) : Int := if c = x then 1 else 0

/-- how the six depths and the rule's numbers hang together -/
structure Inv (d1 d2 d3 f1 f2 f3 : Int) (r : RS) (Nr Ng Nb u1 u2 u3 : Int) : Prop where
  n0 : 0 ≤ Nr ∧ 0 ≤ Ng ∧ 0 ≤ Nb
  u0 : 0 ≤ u1 ∧ 0 ≤ u3 ∧ u3 ≤ u2
  d1 : d1 = u1 + Nr - Ng ∧ 0 ≤ d1
  d2 : d2 = u2 + Ng - u1 - Nb ∧ 0 ≤ d2
  d3 : d3 = u3 + 2 * u1 - u2 + Nr - Ng ∧ 0 ≤ d3
  f : (u2 - u1 ≤ u3 ∧ f1 = u3 + Ng - Nb ∧ f2 = u1 + Nr - Ng ∧ f3 = u2 + Ng - u1 - Nb ∧ r.b1 = Ng + u3) ∨
    (u3 ≤ u2 - u1 ∧ f1 = u2 - u1 + Ng - Nb ∧ f2 = 2 * u1 + u3 + Nr - Ng - u2 ∧ f3 = Ng + 2 * u2 - 2 * u1 - u3 - Nb ∧ r.b1 = Ng + u2 - u1)
  p : 0 ≤ f1 ∧ 0 ≤ f2 ∧ 0 ≤ f3
  g : u1 ≤ Ng ∧ u2 ≤ Nb
  b : r.b0 = Nb ∧ r.b2 = Nr + u1 + u3 ∧ r.l0 = Nr ∧ r.l1 = Ng - u1 ∧ r.l2 = Nb - u2

theorem isC_eq (c d : Nat) : isC c ⟨#[d]⟩ = if c = d then 1 else 0 := by
  unfold isC
  rw [chr_eqW c d _ rfl]
  by_cases h : c = d
  · rw [decide_eq_true h, if_pos h]; rfl
  · rw [decide_eq_false h, if_neg h]; rfl
theorem tell_eq (r r' : RS) : r.tell r' = ⟨#[if r'.b2 > r.b2 then 114 else if r'.l2 > r.l2 then 98 else 103]⟩ := by
  unfold RS.tell
  by_cases h : r'.b2 > r.b2
  · simp [h]
  · by_cases h2 : r'.l2 > r.l2
    · simp [h, h2]
    · simp [h, h2]
/-- one letter through all three -/
structure Trn (d1 d2 d3 f1 f2 f3 : Int) (r r' : RS) (c : Nat) (Nr Ng Nb u1 u2 u3 : Int) : Prop where
  same : swl true d3 (swl false d2 (swl true d1 c)) = swl false f3 (swl true f2 (swl false f1 c))
  told : swl true d3 (swl false d2 (swl true d1 c)) = (if r'.b2 > r.b2 then 114 else if r'.l2 > r.l2 then 98 else 103)
  cnt : r'.b2 = r.b2 + ind (swl true d3 (swl false d2 (swl true d1 c))) 114 ∧ r'.l2 = r.l2 + ind (swl true d3 (swl false d2 (swl true d1 c))) 98
  inv : ∃ x1 x2 x3 : Int, Inv (dep true d1 c) (dep false d2 (swl true d1 c)) (dep true d3 (swl false d2 (swl true d1 c))) (dep false f1 c) (dep true f2 (swl false f1 c)) (dep false f3 (swl true f2 (swl false f1 c))) r'
    (Nr + ind c 114) (Ng + ind c 103) (Nb + ind c 98) x1 x2 x3
theorem sw_r (k : Bool) (d : Int) : swl k d 114 = 114 := by cases k <;> rfl
theorem sw_g0 {d : Int} (h : d < 1) : swl true d 103 = 114 := (if_pos rfl).trans (if_pos h)
theorem sw_g1 {d : Int} (h : ¬d < 1) : swl true d 103 = 103 := (if_pos rfl).trans (if_neg h)
theorem sw_g (d : Int) : swl false d 103 = 103 := rfl
theorem sw_b (d : Int) : swl true d 98 = 98 := rfl
theorem sw_b0 {d : Int} (h : d < 1) : swl false d 98 = 103 := (if_pos rfl).trans (if_pos h)
theorem sw_b1 {d : Int} (h : ¬d < 1) : swl false d 98 = 98 := (if_pos rfl).trans (if_neg h)
theorem dp_r1 (d : Int) : dep true d 114 = d + 1 := rfl
theorem dp_r0 (d : Int) : dep false d 114 = d := rfl
theorem dp_g (d : Int) : dep false d 103 = d + 1 := rfl
theorem dp_g0 {d : Int} (h : d < 1) : dep true d 103 = d := (if_neg (by decide)).trans ((if_pos rfl).trans (if_pos h))
theorem dp_g1 {d : Int} (h : ¬d < 1) : dep true d 103 = d - 1 := (if_neg (by decide)).trans ((if_pos rfl).trans (if_neg h))
theorem dp_b (d : Int) : dep true d 98 = d := rfl
theorem dp_b0 {d : Int} (h : d < 1) : dep false d 98 = d := (if_neg (by decide)).trans ((if_pos rfl).trans (if_pos h))
theorem dp_b1 {d : Int} (h : ¬d < 1) : dep false d 98 = d - 1 := (if_neg (by decide)).trans ((if_pos rfl).trans (if_neg h))
/-- the rule's numbers behind a letter -/
theorem step_nums (r : RS) (c : Nat) : (r.step c).b0 = r.b0 + ind c 98 ∧ (r.step c).b1 = mxI (r.b1 + ind c 103) (r.step c).b0 ∧ (r.step c).b2 = mxI (r.b2 + ind c 114) (r.step c).b1 ∧
    (r.step c).l0 = r.l0 + ind c 114 ∧ (r.step c).l1 = mnI (r.l1 + ind c 103) (r.step c).l0 ∧ (r.step c).l2 = mnI (r.l2 + ind c 98) (r.step c).l1 := by
  simp only [RS.step, RS.n0, RS.n1, RS.n2, isC_eq, ind]; trivial
theorem mxI_a {a b : Int} (h : b ≤ a) : mxI a b = a := if_neg (by omega)
theorem mxI_b {a b : Int} (h : a ≤ b) : mxI a b = b := by unfold mxI; split <;> omega
theorem mnI_a {a b : Int} (h : a ≤ b) : mnI a b = a := if_neg (by omega)
theorem mnI_b {a b : Int} (h : b ≤ a) : mnI a b = b := by unfold mnI; split <;> omega
theorem trn_r {d1 d2 d3 f1 f2 f3 : Int} {r : RS} {Nr Ng Nb u1 u2 u3 : Int} (I : Inv d1 d2 d3 f1 f2 f3 r Nr Ng Nb u1 u2 u3) : Trn d1 d2 d3 f1 f2 f3 r (r.step 114) 114 Nr Ng Nb u1 u2 u3 := by
  obtain ⟨⟨n1, n2, n3⟩, ⟨w1, w2, w3⟩, ⟨e1, p1⟩, ⟨e2, p2⟩, ⟨e3, p3⟩, hv, ⟨p4, p5, p6⟩, ⟨g1, g2⟩, ⟨b0, b2, l0, l1, l2⟩⟩ := I
  obtain ⟨q0, q1, q2, q3, q4, q5⟩ := step_nums r 114
  have i1 : ind 114 98 = 0 := rfl
  have i2 : ind 114 103 = 0 := rfl
  have i3 : ind 114 114 = 1 := rfl
  have j1 : ind 114 114 = 1 := rfl
  have j2 : ind 114 98 = 0 := rfl
  have j3 : ind 103 114 = 0 := rfl
  have j4 : ind 103 98 = 0 := rfl
  have j5 : ind 98 114 = 0 := rfl
  have j6 : ind 98 98 = 1 := rfl
  rw [i1, b0] at q0; rw [i2, q0] at q1; rw [i3, b2] at q2; rw [i3, l0] at q3; rw [i2, l1, q3] at q4; rw [i1, l2] at q5
  generalize r.step 114 = r' at *
  obtain ⟨rb0, rb1, rb2, rl0, rl1, rl2⟩ := r
  obtain ⟨sb0, sb1, sb2, sl0, sl1, sl2⟩ := r'
  dsimp only at *
  replace b0 := b0.symm
  replace l0 := l0.symm
  subst e1 e2 e3 b0 b2 l0 l1 l2 q0 q3
  rcases hv with hv | hv
  · obtain ⟨hx, y1, y2, y3, y4⟩ := hv
    subst y1 y2 y3 y4
    first
    | (exfalso; omega)
    | have z := w1
      first | rw [mxI_a (by omega)] at q1 | rw [mxI_b (by omega)] at q1
      subst q1
      first | rw [mxI_a (by omega)] at q2 | rw [mxI_b (by omega)] at q2
      subst q2
      first | rw [mnI_a (by omega)] at q4 | rw [mnI_b (by omega)] at q4
      subst q4
      first | rw [mnI_a (by omega)] at q5 | rw [mnI_b (by omega)] at q5
      subst q5
      refine ⟨by simp only [sw_r], ?_, ?_, u1, u2, u3, ?_⟩
      · simp only [sw_r]; rw [if_pos (by omega)]
      · simp only [sw_r, j1, j2, j3, j4, j5, j6]; exact ⟨by first | trivial | omega, by first | trivial | omega⟩
      · simp only [sw_r, dp_r1, dp_r0, i1, i2, i3]
        refine ⟨by omega, by omega, by omega, by omega, by omega, ?_, by omega, by omega, by dsimp only; omega⟩
        dsimp only
        by_cases hy : u2 - (u1) ≤ u3
        · exact .inl ⟨by omega, by omega, by omega, by omega, by omega⟩
        · exact .inr ⟨by omega, by omega, by omega, by omega, by omega⟩
  · obtain ⟨hx, y1, y2, y3, y4⟩ := hv
    subst y1 y2 y3 y4
    first
    | (exfalso; omega)
    | have z := w1
      first | rw [mxI_a (by omega)] at q1 | rw [mxI_b (by omega)] at q1
      subst q1
      first | rw [mxI_a (by omega)] at q2 | rw [mxI_b (by omega)] at q2
      subst q2
      first | rw [mnI_a (by omega)] at q4 | rw [mnI_b (by omega)] at q4
      subst q4
      first | rw [mnI_a (by omega)] at q5 | rw [mnI_b (by omega)] at q5
      subst q5
      refine ⟨by simp only [sw_r], ?_, ?_, u1, u2, u3, ?_⟩
      · simp only [sw_r]; rw [if_pos (by omega)]
      · simp only [sw_r, j1, j2, j3, j4, j5, j6]; exact ⟨by first | trivial | omega, by first | trivial | omega⟩
      · simp only [sw_r, dp_r1, dp_r0, i1, i2, i3]
        refine ⟨by omega, by omega, by omega, by omega, by omega, ?_, by omega, by omega, by dsimp only; omega⟩
        dsimp only
        by_cases hy : u2 - (u1) ≤ u3
        · exact .inl ⟨by omega, by omega, by omega, by omega, by omega⟩
        · exact .inr ⟨by omega, by omega, by omega, by omega, by omega⟩
theorem trn_g {d1 d2 d3 f1 f2 f3 : Int} {r : RS} {Nr Ng Nb u1 u2 u3 : Int} (I : Inv d1 d2 d3 f1 f2 f3 r Nr Ng Nb u1 u2 u3) : Trn d1 d2 d3 f1 f2 f3 r (r.step 103) 103 Nr Ng Nb u1 u2 u3 := by
  obtain ⟨⟨n1, n2, n3⟩, ⟨w1, w2, w3⟩, ⟨e1, p1⟩, ⟨e2, p2⟩, ⟨e3, p3⟩, hv, ⟨p4, p5, p6⟩, ⟨g1, g2⟩, ⟨b0, b2, l0, l1, l2⟩⟩ := I
  obtain ⟨q0, q1, q2, q3, q4, q5⟩ := step_nums r 103
  have i1 : ind 103 98 = 0 := rfl
  have i2 : ind 103 103 = 1 := rfl
  have i3 : ind 103 114 = 0 := rfl
  have j1 : ind 114 114 = 1 := rfl
  have j2 : ind 114 98 = 0 := rfl
  have j3 : ind 103 114 = 0 := rfl
  have j4 : ind 103 98 = 0 := rfl
  have j5 : ind 98 114 = 0 := rfl
  have j6 : ind 98 98 = 1 := rfl
  rw [i1, b0] at q0; rw [i2, q0] at q1; rw [i3, b2] at q2; rw [i3, l0] at q3; rw [i2, l1, q3] at q4; rw [i1, l2] at q5
  generalize r.step 103 = r' at *
  obtain ⟨rb0, rb1, rb2, rl0, rl1, rl2⟩ := r
  obtain ⟨sb0, sb1, sb2, sl0, sl1, sl2⟩ := r'
  dsimp only at *
  replace b0 := b0.symm
  replace l0 := l0.symm
  subst e1 e2 e3 b0 b2 l0 l1 l2 q0 q3
  rcases hv with hv | hv
  · obtain ⟨hx, y1, y2, y3, y4⟩ := hv
    subst y1 y2 y3 y4
    by_cases h1 : u1 + Nr - Ng < 1
    · by_cases h2 : u1 + Nr - Ng < 1
      · first
        | (exfalso; omega)
        | have z := w1
          first | rw [mxI_a (by omega)] at q1 | rw [mxI_b (by omega)] at q1
          subst q1
          first | rw [mxI_a (by omega)] at q2 | rw [mxI_b (by omega)] at q2
          subst q2
          first | rw [mnI_a (by omega)] at q4 | rw [mnI_b (by omega)] at q4
          subst q4
          first | rw [mnI_a (by omega)] at q5 | rw [mnI_b (by omega)] at q5
          subst q5
          refine ⟨by simp only [sw_g0 h1, sw_r, sw_g, sw_g0 h2], ?_, ?_, u1 + 1, u2, u3, ?_⟩
          · simp only [sw_g0 h1, sw_r, sw_g, sw_g0 h2]; rw [if_pos (by omega)]
          · simp only [sw_g0 h1, sw_r, sw_g, sw_g0 h2, j1, j2, j3, j4, j5, j6]; exact ⟨by first | trivial | omega, by first | trivial | omega⟩
          · simp only [sw_g0 h1, sw_r, sw_g, sw_g0 h2, dp_g0 h1, dp_r0, dp_r1, dp_g, dp_g0 h2, i1, i2, i3]
            refine ⟨by omega, by omega, by omega, by omega, by omega, ?_, by omega, by omega, by dsimp only; omega⟩
            dsimp only
            by_cases hy : u2 - (u1 + 1) ≤ u3
            · exact .inl ⟨by omega, by omega, by omega, by omega, by omega⟩
            · exact .inr ⟨by omega, by omega, by omega, by omega, by omega⟩
      · exfalso; omega
    · by_cases h3 : u3 + 2 * u1 - u2 + Nr - Ng < 1
      · by_cases h2 : u1 + Nr - Ng < 1
        · first
          | (exfalso; omega)
          | have z := w1
            first | rw [mxI_a (by omega)] at q1 | rw [mxI_b (by omega)] at q1
            subst q1
            first | rw [mxI_a (by omega)] at q2 | rw [mxI_b (by omega)] at q2
            subst q2
            first | rw [mnI_a (by omega)] at q4 | rw [mnI_b (by omega)] at q4
            subst q4
            first | rw [mnI_a (by omega)] at q5 | rw [mnI_b (by omega)] at q5
            subst q5
            refine ⟨by simp only [sw_g1 h1, sw_g, sw_g0 h3, sw_g0 h2, sw_r], ?_, ?_, u1, u2, u3 + 1, ?_⟩
            · simp only [sw_g1 h1, sw_g, sw_g0 h3, sw_g0 h2, sw_r]; rw [if_pos (by omega)]
            · simp only [sw_g1 h1, sw_g, sw_g0 h3, sw_g0 h2, sw_r, j1, j2, j3, j4, j5, j6]; exact ⟨by first | trivial | omega, by first | trivial | omega⟩
            · simp only [sw_g1 h1, sw_g, sw_g0 h3, sw_g0 h2, sw_r, dp_g1 h1, dp_g, dp_g0 h3, dp_g0 h2, dp_r0, i1, i2, i3]
              refine ⟨by omega, by omega, by omega, by omega, by omega, ?_, by omega, by omega, by dsimp only; omega⟩
              dsimp only
              by_cases hy : u2 - (u1) ≤ u3 + 1
              · exact .inl ⟨by omega, by omega, by omega, by omega, by omega⟩
              · exact .inr ⟨by omega, by omega, by omega, by omega, by omega⟩
        · exfalso; omega
      · by_cases h2 : u1 + Nr - Ng < 1
        · exfalso; omega
        · first
          | (exfalso; omega)
          | have z := w1
            first | rw [mxI_a (by omega)] at q1 | rw [mxI_b (by omega)] at q1
            subst q1
            first | rw [mxI_a (by omega)] at q2 | rw [mxI_b (by omega)] at q2
            subst q2
            first | rw [mnI_a (by omega)] at q4 | rw [mnI_b (by omega)] at q4
            subst q4
            first | rw [mnI_a (by omega)] at q5 | rw [mnI_b (by omega)] at q5
            subst q5
            refine ⟨by simp only [sw_g1 h1, sw_g, sw_g1 h3, sw_g1 h2], ?_, ?_, u1, u2, u3, ?_⟩
            · simp only [sw_g1 h1, sw_g, sw_g1 h3, sw_g1 h2]; rw [if_neg (by omega), if_neg (by omega)]
            · simp only [sw_g1 h1, sw_g, sw_g1 h3, sw_g1 h2, j1, j2, j3, j4, j5, j6]; exact ⟨by first | trivial | omega, by first | trivial | omega⟩
            · simp only [sw_g1 h1, sw_g, sw_g1 h3, sw_g1 h2, dp_g1 h1, dp_g, dp_g1 h3, dp_g1 h2, i1, i2, i3]
              refine ⟨by omega, by omega, by omega, by omega, by omega, ?_, by omega, by omega, by dsimp only; omega⟩
              dsimp only
              by_cases hy : u2 - (u1) ≤ u3
              · exact .inl ⟨by omega, by omega, by omega, by omega, by omega⟩
              · exact .inr ⟨by omega, by omega, by omega, by omega, by omega⟩
  · obtain ⟨hx, y1, y2, y3, y4⟩ := hv
    subst y1 y2 y3 y4
    by_cases h1 : u1 + Nr - Ng < 1
    · by_cases h2 : 2 * u1 + u3 + Nr - Ng - u2 < 1
      · first
        | (exfalso; omega)
        | have z := w1
          first | rw [mxI_a (by omega)] at q1 | rw [mxI_b (by omega)] at q1
          subst q1
          first | rw [mxI_a (by omega)] at q2 | rw [mxI_b (by omega)] at q2
          subst q2
          first | rw [mnI_a (by omega)] at q4 | rw [mnI_b (by omega)] at q4
          subst q4
          first | rw [mnI_a (by omega)] at q5 | rw [mnI_b (by omega)] at q5
          subst q5
          refine ⟨by simp only [sw_g0 h1, sw_r, sw_g, sw_g0 h2], ?_, ?_, u1 + 1, u2, u3, ?_⟩
          · simp only [sw_g0 h1, sw_r, sw_g, sw_g0 h2]; rw [if_pos (by omega)]
          · simp only [sw_g0 h1, sw_r, sw_g, sw_g0 h2, j1, j2, j3, j4, j5, j6]; exact ⟨by first | trivial | omega, by first | trivial | omega⟩
          · simp only [sw_g0 h1, sw_r, sw_g, sw_g0 h2, dp_g0 h1, dp_r0, dp_r1, dp_g, dp_g0 h2, i1, i2, i3]
            refine ⟨by omega, by omega, by omega, by omega, by omega, ?_, by omega, by omega, by dsimp only; omega⟩
            dsimp only
            by_cases hy : u2 - (u1 + 1) ≤ u3
            · exact .inl ⟨by omega, by omega, by omega, by omega, by omega⟩
            · exact .inr ⟨by omega, by omega, by omega, by omega, by omega⟩
      · exfalso; omega
    · by_cases h3 : u3 + 2 * u1 - u2 + Nr - Ng < 1
      · by_cases h2 : 2 * u1 + u3 + Nr - Ng - u2 < 1
        · first
          | (exfalso; omega)
          | have z := w1
            first | rw [mxI_a (by omega)] at q1 | rw [mxI_b (by omega)] at q1
            subst q1
            first | rw [mxI_a (by omega)] at q2 | rw [mxI_b (by omega)] at q2
            subst q2
            first | rw [mnI_a (by omega)] at q4 | rw [mnI_b (by omega)] at q4
            subst q4
            first | rw [mnI_a (by omega)] at q5 | rw [mnI_b (by omega)] at q5
            subst q5
            refine ⟨by simp only [sw_g1 h1, sw_g, sw_g0 h3, sw_g0 h2, sw_r], ?_, ?_, u1, u2, u3 + 1, ?_⟩
            · simp only [sw_g1 h1, sw_g, sw_g0 h3, sw_g0 h2, sw_r]; rw [if_pos (by omega)]
            · simp only [sw_g1 h1, sw_g, sw_g0 h3, sw_g0 h2, sw_r, j1, j2, j3, j4, j5, j6]; exact ⟨by first | trivial | omega, by first | trivial | omega⟩
            · simp only [sw_g1 h1, sw_g, sw_g0 h3, sw_g0 h2, sw_r, dp_g1 h1, dp_g, dp_g0 h3, dp_g0 h2, dp_r0, i1, i2, i3]
              refine ⟨by omega, by omega, by omega, by omega, by omega, ?_, by omega, by omega, by dsimp only; omega⟩
              dsimp only
              by_cases hy : u2 - (u1) ≤ u3 + 1
              · exact .inl ⟨by omega, by omega, by omega, by omega, by omega⟩
              · exact .inr ⟨by omega, by omega, by omega, by omega, by omega⟩
        · exfalso; omega
      · by_cases h2 : 2 * u1 + u3 + Nr - Ng - u2 < 1
        · exfalso; omega
        · first
          | (exfalso; omega)
          | have z := w1
            first | rw [mxI_a (by omega)] at q1 | rw [mxI_b (by omega)] at q1
            subst q1
            first | rw [mxI_a (by omega)] at q2 | rw [mxI_b (by omega)] at q2
            subst q2
            first | rw [mnI_a (by omega)] at q4 | rw [mnI_b (by omega)] at q4
            subst q4
            first | rw [mnI_a (by omega)] at q5 | rw [mnI_b (by omega)] at q5
            subst q5
            refine ⟨by simp only [sw_g1 h1, sw_g, sw_g1 h3, sw_g1 h2], ?_, ?_, u1, u2, u3, ?_⟩
            · simp only [sw_g1 h1, sw_g, sw_g1 h3, sw_g1 h2]; rw [if_neg (by omega), if_neg (by omega)]
            · simp only [sw_g1 h1, sw_g, sw_g1 h3, sw_g1 h2, j1, j2, j3, j4, j5, j6]; exact ⟨by first | trivial | omega, by first | trivial | omega⟩
            · simp only [sw_g1 h1, sw_g, sw_g1 h3, sw_g1 h2, dp_g1 h1, dp_g, dp_g1 h3, dp_g1 h2, i1, i2, i3]
              refine ⟨by omega, by omega, by omega, by omega, by omega, ?_, by omega, by omega, by dsimp only; omega⟩
              dsimp only
              by_cases hy : u2 - (u1) ≤ u3
              · exact .inl ⟨by omega, by omega, by omega, by omega, by omega⟩
              · exact .inr ⟨by omega, by omega, by omega, by omega, by omega⟩
theorem trn_b {d1 d2 d3 f1 f2 f3 : Int} {r : RS} {Nr Ng Nb u1 u2 u3 : Int} (I : Inv d1 d2 d3 f1 f2 f3 r Nr Ng Nb u1 u2 u3) : Trn d1 d2 d3 f1 f2 f3 r (r.step 98) 98 Nr Ng Nb u1 u2 u3 := by
  obtain ⟨⟨n1, n2, n3⟩, ⟨w1, w2, w3⟩, ⟨e1, p1⟩, ⟨e2, p2⟩, ⟨e3, p3⟩, hv, ⟨p4, p5, p6⟩, ⟨g1, g2⟩, ⟨b0, b2, l0, l1, l2⟩⟩ := I
  obtain ⟨q0, q1, q2, q3, q4, q5⟩ := step_nums r 98
  have i1 : ind 98 98 = 1 := rfl
  have i2 : ind 98 103 = 0 := rfl
  have i3 : ind 98 114 = 0 := rfl
  have j1 : ind 114 114 = 1 := rfl
  have j2 : ind 114 98 = 0 := rfl
  have j3 : ind 103 114 = 0 := rfl
  have j4 : ind 103 98 = 0 := rfl
  have j5 : ind 98 114 = 0 := rfl
  have j6 : ind 98 98 = 1 := rfl
  rw [i1, b0] at q0; rw [i2, q0] at q1; rw [i3, b2] at q2; rw [i3, l0] at q3; rw [i2, l1, q3] at q4; rw [i1, l2] at q5
  generalize r.step 98 = r' at *
  obtain ⟨rb0, rb1, rb2, rl0, rl1, rl2⟩ := r
  obtain ⟨sb0, sb1, sb2, sl0, sl1, sl2⟩ := r'
  dsimp only at *
  replace b0 := b0.symm
  replace l0 := l0.symm
  subst e1 e2 e3 b0 b2 l0 l1 l2 q0 q3
  rcases hv with hv | hv
  · obtain ⟨hx, y1, y2, y3, y4⟩ := hv
    subst y1 y2 y3 y4
    by_cases h2 : u2 + Ng - u1 - Nb < 1
    · by_cases h3 : u3 + 2 * u1 - u2 + Nr - Ng < 1
      · by_cases k1 : u3 + Ng - Nb < 1
        · by_cases k2 : u1 + Nr - Ng < 1
          · first
            | (exfalso; omega)
            | have z := w1
              first | rw [mxI_a (by omega)] at q1 | rw [mxI_b (by omega)] at q1
              subst q1
              first | rw [mxI_a (by omega)] at q2 | rw [mxI_b (by omega)] at q2
              subst q2
              first | rw [mnI_a (by omega)] at q4 | rw [mnI_b (by omega)] at q4
              subst q4
              first | rw [mnI_a (by omega)] at q5 | rw [mnI_b (by omega)] at q5
              subst q5
              refine ⟨by simp only [sw_b, sw_b0 h2, sw_g0 h3, sw_b0 k1, sw_g0 k2, sw_r], ?_, ?_, u1, u2 + 1, u3 + 1, ?_⟩
              · simp only [sw_b, sw_b0 h2, sw_g0 h3, sw_b0 k1, sw_g0 k2, sw_r]; rw [if_pos (by omega)]
              · simp only [sw_b, sw_b0 h2, sw_g0 h3, sw_b0 k1, sw_g0 k2, sw_r, j1, j2, j3, j4, j5, j6]; exact ⟨by first | trivial | omega, by first | trivial | omega⟩
              · simp only [sw_b, sw_b0 h2, sw_g0 h3, sw_b0 k1, sw_g0 k2, sw_r, dp_b, dp_b0 h2, dp_g0 h3, dp_b0 k1, dp_g0 k2, dp_r0, i1, i2, i3]
                refine ⟨by omega, by omega, by omega, by omega, by omega, ?_, by omega, by omega, by dsimp only; omega⟩
                dsimp only
                by_cases hy : u2 + 1 - (u1) ≤ u3 + 1
                · exact .inl ⟨by omega, by omega, by omega, by omega, by omega⟩
                · exact .inr ⟨by omega, by omega, by omega, by omega, by omega⟩
          · exfalso; omega
        · exfalso; omega
      · by_cases k1 : u3 + Ng - Nb < 1
        · by_cases k2 : u1 + Nr - Ng < 1
          · exfalso; omega
          · first
            | (exfalso; omega)
            | have z := w1
              first | rw [mxI_a (by omega)] at q1 | rw [mxI_b (by omega)] at q1
              subst q1
              first | rw [mxI_a (by omega)] at q2 | rw [mxI_b (by omega)] at q2
              subst q2
              first | rw [mnI_a (by omega)] at q4 | rw [mnI_b (by omega)] at q4
              subst q4
              first | rw [mnI_a (by omega)] at q5 | rw [mnI_b (by omega)] at q5
              subst q5
              refine ⟨by simp only [sw_b, sw_b0 h2, sw_g1 h3, sw_b0 k1, sw_g1 k2, sw_g], ?_, ?_, u1, u2 + 1, u3, ?_⟩
              · simp only [sw_b, sw_b0 h2, sw_g1 h3, sw_b0 k1, sw_g1 k2, sw_g]; rw [if_neg (by omega), if_neg (by omega)]
              · simp only [sw_b, sw_b0 h2, sw_g1 h3, sw_b0 k1, sw_g1 k2, sw_g, j1, j2, j3, j4, j5, j6]; exact ⟨by first | trivial | omega, by first | trivial | omega⟩
              · simp only [sw_b, sw_b0 h2, sw_g1 h3, sw_b0 k1, sw_g1 k2, sw_g, dp_b, dp_b0 h2, dp_g1 h3, dp_b0 k1, dp_g1 k2, dp_g, i1, i2, i3]
                refine ⟨by omega, by omega, by omega, by omega, by omega, ?_, by omega, by omega, by dsimp only; omega⟩
                dsimp only
                by_cases hy : u2 + 1 - (u1) ≤ u3
                · exact .inl ⟨by omega, by omega, by omega, by omega, by omega⟩
                · exact .inr ⟨by omega, by omega, by omega, by omega, by omega⟩
        · by_cases k3 : u2 + Ng - u1 - Nb < 1
          · first
            | (exfalso; omega)
            | have z := w1
              first | rw [mxI_a (by omega)] at q1 | rw [mxI_b (by omega)] at q1
              subst q1
              first | rw [mxI_a (by omega)] at q2 | rw [mxI_b (by omega)] at q2
              subst q2
              first | rw [mnI_a (by omega)] at q4 | rw [mnI_b (by omega)] at q4
              subst q4
              first | rw [mnI_a (by omega)] at q5 | rw [mnI_b (by omega)] at q5
              subst q5
              refine ⟨by simp only [sw_b, sw_b0 h2, sw_g1 h3, sw_b1 k1, sw_b0 k3], ?_, ?_, u1, u2 + 1, u3, ?_⟩
              · simp only [sw_b, sw_b0 h2, sw_g1 h3, sw_b1 k1, sw_b0 k3]; rw [if_neg (by omega), if_neg (by omega)]
              · simp only [sw_b, sw_b0 h2, sw_g1 h3, sw_b1 k1, sw_b0 k3, j1, j2, j3, j4, j5, j6]; exact ⟨by first | trivial | omega, by first | trivial | omega⟩
              · simp only [sw_b, sw_b0 h2, sw_g1 h3, sw_b1 k1, sw_b0 k3, dp_b, dp_b0 h2, dp_g1 h3, dp_b1 k1, dp_b0 k3, i1, i2, i3]
                refine ⟨by omega, by omega, by omega, by omega, by omega, ?_, by omega, by omega, by dsimp only; omega⟩
                dsimp only
                by_cases hy : u2 + 1 - (u1) ≤ u3
                · exact .inl ⟨by omega, by omega, by omega, by omega, by omega⟩
                · exact .inr ⟨by omega, by omega, by omega, by omega, by omega⟩
          · exfalso; omega
    · by_cases k1 : u3 + Ng - Nb < 1
      · exfalso; omega
      · by_cases k3 : u2 + Ng - u1 - Nb < 1
        · exfalso; omega
        · first
          | (exfalso; omega)
          | have z := w1
            first | rw [mxI_a (by omega)] at q1 | rw [mxI_b (by omega)] at q1
            subst q1
            first | rw [mxI_a (by omega)] at q2 | rw [mxI_b (by omega)] at q2
            subst q2
            first | rw [mnI_a (by omega)] at q4 | rw [mnI_b (by omega)] at q4
            subst q4
            first | rw [mnI_a (by omega)] at q5 | rw [mnI_b (by omega)] at q5
            subst q5
            refine ⟨by simp only [sw_b, sw_b1 h2, sw_b1 k1, sw_b1 k3], ?_, ?_, u1, u2, u3, ?_⟩
            · simp only [sw_b, sw_b1 h2, sw_b1 k1, sw_b1 k3]; rw [if_neg (by omega), if_pos (by omega)]
            · simp only [sw_b, sw_b1 h2, sw_b1 k1, sw_b1 k3, j1, j2, j3, j4, j5, j6]; exact ⟨by first | trivial | omega, by first | trivial | omega⟩
            · simp only [sw_b, sw_b1 h2, sw_b1 k1, sw_b1 k3, dp_b, dp_b1 h2, dp_b1 k1, dp_b1 k3, i1, i2, i3]
              refine ⟨by omega, by omega, by omega, by omega, by omega, ?_, by omega, by omega, by dsimp only; omega⟩
              dsimp only
              by_cases hy : u2 - (u1) ≤ u3
              · exact .inl ⟨by omega, by omega, by omega, by omega, by omega⟩
              · exact .inr ⟨by omega, by omega, by omega, by omega, by omega⟩
  · obtain ⟨hx, y1, y2, y3, y4⟩ := hv
    subst y1 y2 y3 y4
    by_cases h2 : u2 + Ng - u1 - Nb < 1
    · by_cases h3 : u3 + 2 * u1 - u2 + Nr - Ng < 1
      · by_cases k1 : u2 - u1 + Ng - Nb < 1
        · by_cases k2 : 2 * u1 + u3 + Nr - Ng - u2 < 1
          · first
            | (exfalso; omega)
            | have z := w1
              first | rw [mxI_a (by omega)] at q1 | rw [mxI_b (by omega)] at q1
              subst q1
              first | rw [mxI_a (by omega)] at q2 | rw [mxI_b (by omega)] at q2
              subst q2
              first | rw [mnI_a (by omega)] at q4 | rw [mnI_b (by omega)] at q4
              subst q4
              first | rw [mnI_a (by omega)] at q5 | rw [mnI_b (by omega)] at q5
              subst q5
              refine ⟨by simp only [sw_b, sw_b0 h2, sw_g0 h3, sw_b0 k1, sw_g0 k2, sw_r], ?_, ?_, u1, u2 + 1, u3 + 1, ?_⟩
              · simp only [sw_b, sw_b0 h2, sw_g0 h3, sw_b0 k1, sw_g0 k2, sw_r]; rw [if_pos (by omega)]
              · simp only [sw_b, sw_b0 h2, sw_g0 h3, sw_b0 k1, sw_g0 k2, sw_r, j1, j2, j3, j4, j5, j6]; exact ⟨by first | trivial | omega, by first | trivial | omega⟩
              · simp only [sw_b, sw_b0 h2, sw_g0 h3, sw_b0 k1, sw_g0 k2, sw_r, dp_b, dp_b0 h2, dp_g0 h3, dp_b0 k1, dp_g0 k2, dp_r0, i1, i2, i3]
                refine ⟨by omega, by omega, by omega, by omega, by omega, ?_, by omega, by omega, by dsimp only; omega⟩
                dsimp only
                by_cases hy : u2 + 1 - (u1) ≤ u3 + 1
                · exact .inl ⟨by omega, by omega, by omega, by omega, by omega⟩
                · exact .inr ⟨by omega, by omega, by omega, by omega, by omega⟩
          · exfalso; omega
        · exfalso; omega
      · by_cases k1 : u2 - u1 + Ng - Nb < 1
        · by_cases k2 : 2 * u1 + u3 + Nr - Ng - u2 < 1
          · exfalso; omega
          · first
            | (exfalso; omega)
            | have z := w1
              first | rw [mxI_a (by omega)] at q1 | rw [mxI_b (by omega)] at q1
              subst q1
              first | rw [mxI_a (by omega)] at q2 | rw [mxI_b (by omega)] at q2
              subst q2
              first | rw [mnI_a (by omega)] at q4 | rw [mnI_b (by omega)] at q4
              subst q4
              first | rw [mnI_a (by omega)] at q5 | rw [mnI_b (by omega)] at q5
              subst q5
              refine ⟨by simp only [sw_b, sw_b0 h2, sw_g1 h3, sw_b0 k1, sw_g1 k2, sw_g], ?_, ?_, u1, u2 + 1, u3, ?_⟩
              · simp only [sw_b, sw_b0 h2, sw_g1 h3, sw_b0 k1, sw_g1 k2, sw_g]; rw [if_neg (by omega), if_neg (by omega)]
              · simp only [sw_b, sw_b0 h2, sw_g1 h3, sw_b0 k1, sw_g1 k2, sw_g, j1, j2, j3, j4, j5, j6]; exact ⟨by first | trivial | omega, by first | trivial | omega⟩
              · simp only [sw_b, sw_b0 h2, sw_g1 h3, sw_b0 k1, sw_g1 k2, sw_g, dp_b, dp_b0 h2, dp_g1 h3, dp_b0 k1, dp_g1 k2, dp_g, i1, i2, i3]
                refine ⟨by omega, by omega, by omega, by omega, by omega, ?_, by omega, by omega, by dsimp only; omega⟩
                dsimp only
                by_cases hy : u2 + 1 - (u1) ≤ u3
                · exact .inl ⟨by omega, by omega, by omega, by omega, by omega⟩
                · exact .inr ⟨by omega, by omega, by omega, by omega, by omega⟩
        · by_cases k3 : Ng + 2 * u2 - 2 * u1 - u3 - Nb < 1
          · first
            | (exfalso; omega)
            | have z := w1
              first | rw [mxI_a (by omega)] at q1 | rw [mxI_b (by omega)] at q1
              subst q1
              first | rw [mxI_a (by omega)] at q2 | rw [mxI_b (by omega)] at q2
              subst q2
              first | rw [mnI_a (by omega)] at q4 | rw [mnI_b (by omega)] at q4
              subst q4
              first | rw [mnI_a (by omega)] at q5 | rw [mnI_b (by omega)] at q5
              subst q5
              refine ⟨by simp only [sw_b, sw_b0 h2, sw_g1 h3, sw_b1 k1, sw_b0 k3], ?_, ?_, u1, u2 + 1, u3, ?_⟩
              · simp only [sw_b, sw_b0 h2, sw_g1 h3, sw_b1 k1, sw_b0 k3]; rw [if_neg (by omega), if_neg (by omega)]
              · simp only [sw_b, sw_b0 h2, sw_g1 h3, sw_b1 k1, sw_b0 k3, j1, j2, j3, j4, j5, j6]; exact ⟨by first | trivial | omega, by first | trivial | omega⟩
              · simp only [sw_b, sw_b0 h2, sw_g1 h3, sw_b1 k1, sw_b0 k3, dp_b, dp_b0 h2, dp_g1 h3, dp_b1 k1, dp_b0 k3, i1, i2, i3]
                refine ⟨by omega, by omega, by omega, by omega, by omega, ?_, by omega, by omega, by dsimp only; omega⟩
                dsimp only
                by_cases hy : u2 + 1 - (u1) ≤ u3
                · exact .inl ⟨by omega, by omega, by omega, by omega, by omega⟩
                · exact .inr ⟨by omega, by omega, by omega, by omega, by omega⟩
          · exfalso; omega
    · by_cases k1 : u2 - u1 + Ng - Nb < 1
      · exfalso; omega
      · by_cases k3 : Ng + 2 * u2 - 2 * u1 - u3 - Nb < 1
        · exfalso; omega
        · first
          | (exfalso; omega)
          | have z := w1
            first | rw [mxI_a (by omega)] at q1 | rw [mxI_b (by omega)] at q1
            subst q1
            first | rw [mxI_a (by omega)] at q2 | rw [mxI_b (by omega)] at q2
            subst q2
            first | rw [mnI_a (by omega)] at q4 | rw [mnI_b (by omega)] at q4
            subst q4
            first | rw [mnI_a (by omega)] at q5 | rw [mnI_b (by omega)] at q5
            subst q5
            refine ⟨by simp only [sw_b, sw_b1 h2, sw_b1 k1, sw_b1 k3], ?_, ?_, u1, u2, u3, ?_⟩
            · simp only [sw_b, sw_b1 h2, sw_b1 k1, sw_b1 k3]; rw [if_neg (by omega), if_pos (by omega)]
            · simp only [sw_b, sw_b1 h2, sw_b1 k1, sw_b1 k3, j1, j2, j3, j4, j5, j6]; exact ⟨by first | trivial | omega, by first | trivial | omega⟩
            · simp only [sw_b, sw_b1 h2, sw_b1 k1, sw_b1 k3, dp_b, dp_b1 h2, dp_b1 k1, dp_b1 k3, i1, i2, i3]
              refine ⟨by omega, by omega, by omega, by omega, by omega, ?_, by omega, by omega, by dsimp only; omega⟩
              dsimp only
              by_cases hy : u2 - (u1) ≤ u3
              · exact .inl ⟨by omega, by omega, by omega, by omega, by omega⟩
              · exact .inr ⟨by omega, by omega, by omega, by omega, by omega⟩
end Mine
end
noncomputable section
open PySem PySem.Spec PySem.Calls PyProof.Rows PyProof.V PySem.W
set_option Elab.async false
set_option linter.all false
set_option maxRecDepth 100000
namespace Mine

theorem trn_all {d1 d2 d3 f1 f2 f3 : Int} {r : RS} {Nr Ng Nb u1 u2 u3 : Int} (I : Inv d1 d2 d3 f1 f2 f3 r Nr Ng Nb u1 u2 u3) {c : Nat} (h : isRgb c) : Trn d1 d2 d3 f1 f2 f3 r (r.step c) c Nr Ng Nb u1 u2 u3 := by
  rcases h with rfl | rfl | rfl
  · exact trn_r I
  · exact trn_g I
  · exact trn_b I
theorem swl_rgb (k : Bool) (d : Int) {c : Nat} (h : isRgb c) : isRgb (swl k d c) := by
  unfold swl
  split
  · split
    · cases k
      · exact .inr (.inl rfl)
      · exact .inl rfl
    · exact h
  · exact h
theorem sweep_len (k : Bool) : ∀ (w : List Nat) (d : Int), (sweep k w d).length = w.length
  | [], _ => rfl
  | c :: w, d => by show (sweep k w _).length + 1 = _; rw [sweep_len k w]; rfl
theorem sweep_rgb (k : Bool) : ∀ (w : List Nat) (d : Int), (∀ c ∈ w, isRgb c) → ∀ c ∈ sweep k w d, isRgb c
  | [], _, _, c, hc => nomatch hc
  | a :: w, d, h, c, hc => by
    rcases List.mem_cons.mp hc with rfl | hc
    · exact swl_rgb k d (h a List.mem_cons_self)
    · exact sweep_rgb k w _ (fun x hx => h x (List.mem_cons_of_mem _ hx)) c hc
/-- the three sweeps by mail, and by the wheel -/
noncomputable def mail3 (w : List Nat) (d1 d2 d3 : Int) : List Nat := sweep true (sweep false (sweep true w d1) d2) d3
noncomputable def whl3 (w : List Nat) (f1 f2 f3 : Int) : List Nat := sweep false (sweep true (sweep false w f1) f2) f3
noncomputable def occ (l : List Nat) (x : Nat) : Int := (l.map fun c => ind c x).sum
theorem occ_cons (c : Nat) (l : List Nat) (x : Nat) : occ (c :: l) x = ind c x + occ l x := rfl
theorem sOf_cons (t : Str) (c : Nat) (l : List Nat) : t ++ ⟨#[c]⟩ ++ sOf l = t ++ sOf (c :: l) := by
  refine PySem.Str.ext' ?_
  show t.cps ++ #[c] ++ l.toArray = t.cps ++ (c :: l).toArray
  apply Array.ext'
  simp
theorem braid : ∀ (w : List Nat) {d1 d2 d3 f1 f2 f3 : Int} {r : RS} {Nr Ng Nb u1 u2 u3 : Int} (t : Str), Inv d1 d2 d3 f1 f2 f3 r Nr Ng Nb u1 u2 u3 → (∀ c ∈ w, isRgb c) →
    mail3 w d1 d2 d3 = whl3 w f1 f2 f3 ∧ (ruleGo w r t).2 = t ++ sOf (mail3 w d1 d2 d3) ∧ (ruleGo w r t).1.b2 = r.b2 + occ (mail3 w d1 d2 d3) 114 ∧ (ruleGo w r t).1.l2 = r.l2 + occ (mail3 w d1 d2 d3) 98 ∧
    ∃ e1 e2 e3 g1 g2 g3 x1 x2 x3 : Int, Inv e1 e2 e3 g1 g2 g3 (ruleGo w r t).1 (Nr + occ w 114) (Ng + occ w 103) (Nb + occ w 98) x1 x2 x3
  | [], d1, d2, d3, f1, f2, f3, r, Nr, Ng, Nb, u1, u2, u3, t, I, h => by
    refine ⟨rfl, ?_, ?_, ?_, d1, d2, d3, f1, f2, f3, u1, u2, u3, ?_⟩
    · show t = t ++ sOf []
      exact (PySem.Str.ext' (by show t.cps ++ #[] = t.cps; simp)).symm
    · show r.b2 = r.b2 + 0; omega
    · show r.l2 = r.l2 + 0; omega
    · have : ∀ x, occ [] x = 0 := fun _ => rfl
      simp only [this, Int.add_zero]; exact I
  | c :: w, d1, d2, d3, f1, f2, f3, r, Nr, Ng, Nb, u1, u2, u3, t, I, h => by
    obtain ⟨s1, s2, ⟨s3, s4⟩, x1, x2, x3, J⟩ := trn_all I (h c List.mem_cons_self)
    obtain ⟨q1, q2, q3, q4, e1, e2, e3, g1, g2, g3, z1, z2, z3, K⟩ := braid w (t ++ r.tell (r.step c)) J fun x hx => h x (List.mem_cons_of_mem _ hx)
    have hm : mail3 (c :: w) d1 d2 d3 = swl true d3 (swl false d2 (swl true d1 c)) :: mail3 w (dep true d1 c) (dep false d2 (swl true d1 c)) (dep true d3 (swl false d2 (swl true d1 c))) := rfl
    have hw : whl3 (c :: w) f1 f2 f3 = swl false f3 (swl true f2 (swl false f1 c)) :: whl3 w (dep false f1 c) (dep true f2 (swl false f1 c)) (dep false f3 (swl true f2 (swl false f1 c))) := rfl
    have hr : ruleGo (c :: w) r t = ruleGo w (r.step c) (t ++ r.tell (r.step c)) := rfl
    rw [hm, hw, hr, s1, q1]
    rw [q1] at q2 q3 q4
    rw [s1] at s2 s3 s4
    refine ⟨rfl, ?_, ?_, ?_, e1, e2, e3, g1, g2, g3, z1, z2, z3, ?_⟩
    · rw [q2, tell_eq, ← s2, sOf_cons]
    · rw [q3, s3, occ_cons]; omega
    · rw [q4, s4, occ_cons]; omega
    · simp only [occ_cons, ← Int.add_assoc]; exact K

theorem inv_zero : Inv 0 0 0 0 0 0 RS.zero 0 0 0 0 0 0 := by
  refine ⟨by omega, by omega, by omega, by omega, by omega, .inl ⟨by omega, by omega, by omega, by omega, rfl⟩, by omega, by omega, rfl, rfl, rfl, rfl, rfl⟩
theorem occ_sum : ∀ (l : List Nat), (∀ c ∈ l, isRgb c) → occ l 114 + occ l 103 + occ l 98 = l.length
  | [], _ => rfl
  | c :: l, h => by
    have ih := occ_sum l fun x hx => h x (List.mem_cons_of_mem _ hx)
    have hc : ind c 114 + ind c 103 + ind c 98 = 1 := by rcases h c List.mem_cons_self with rfl | rfl | rfl <;> rfl
    rw [occ_cons, occ_cons, occ_cons, List.length_cons]; omega
theorem occ_nonneg : ∀ (l : List Nat) (x : Nat), 0 ≤ occ l x
  | [], _ => Int.le_refl _
  | c :: l, x => by
    have ih := occ_nonneg l x
    have hc : 0 ≤ ind c x := by unfold ind; split <;> omega
    rw [occ_cons]; omega
/-- the plain law, for any word -/
theorem law_core (w : List Nat) (h : ∀ c ∈ w, isRgb c) : ∃ o : List Nat, o = mail3 w 0 0 0 ∧ o = whl3 w 0 0 0 ∧ (ruleGo w RS.zero ⟨#[]⟩).2 = sOf o ∧ (ruleGo w RS.zero ⟨#[]⟩).1.b2 = occ o 114 ∧ (ruleGo w RS.zero ⟨#[]⟩).1.l2 = occ o 98 ∧
    occ o 103 ≤ occ o 114 ∧ occ o 98 ≤ occ o 103 ∧ (∀ c ∈ o, isRgb c) ∧ o.length = w.length := by
  obtain ⟨q1, q2, q3, q4, e1, e2, e3, g1, g2, g3, z1, z2, z3, K⟩ := braid w ⟨#[]⟩ inv_zero h
  have hr : ∀ c ∈ mail3 w 0 0 0, isRgb c := sweep_rgb _ _ _ (sweep_rgb _ _ _ (sweep_rgb _ _ _ h))
  have hl : (mail3 w 0 0 0).length = w.length := by unfold mail3; rw [sweep_len, sweep_len, sweep_len]
  have s1 := occ_sum _ hr
  have s2 := occ_sum _ h
  rw [hl] at s1
  have hb : (ruleGo w RS.zero ⟨#[]⟩).1.b2 = occ (mail3 w 0 0 0) 114 := by rw [q3]; show 0 + _ = _; omega
  have hL : (ruleGo w RS.zero ⟨#[]⟩).1.l2 = occ (mail3 w 0 0 0) 98 := by rw [q4]; show 0 + _ = _; omega
  obtain ⟨_, ⟨w1, w2, w3⟩, ⟨_, p1⟩, ⟨k2, p2⟩, ⟨k3, p3⟩, _, _, _, ⟨_, b2, _, _, l2⟩⟩ := K
  rw [hb] at b2
  rw [hL] at l2
  refine ⟨_, rfl, q1, ?_, hb, hL, ?_, ?_, hr, hl⟩
  · rw [q2]
    exact PySem.Str.ext' (by show #[] ++ _ = _; simp)
  · clear q1 q2 q3 q4 hr h; omega
  · clear q1 q2 q3 q4 hr h; omega

/-- the wheel is the sweep -/
theorem wheel_sweep (k : Bool) : ∀ (w : List Nat) (e t : Int) (o : Str), t ≤ e → (wheelGo k w (e, t) o).2 = o ++ sOf (sweep k w (e - t))
  | [], e, t, o, h => (PySem.Str.ext' (by show o.cps ++ #[] = o.cps; simp)).symm
  | c :: w, e, t, o, h => by
    show (wheelGo k w (wheelStep k e t c).1 (o ++ ⟨#[(wheelStep k e t c).2]⟩)).2 = o ++ sOf (swl k (e - t) c :: sweep k w (dep k (e - t) c))
    rw [← sOf_cons]
    have hne : ec k ≠ lc k := by cases k <;> decide
    have em : mec k = ec k := by cases k <;> rfl
    have el : mlc k = lc k := by cases k <;> rfl
    by_cases h1 : c = ec k
    · rw [wheelStep_e k e t h1, wheel_sweep k w (e + 1) t _ (by omega)]
      have a1 : swl k (e - t) c = c := if_neg (by rw [h1, el]; exact hne)
      have a2 : dep k (e - t) c = e + 1 - t := (if_pos (by rw [h1, em])).trans (by omega)
      rw [a1, a2]
    · by_cases h2 : c = lc k
      · by_cases h3 : t + 1 > e
        · rw [wheelStep_l1 k e t h1 h2 h3, wheel_sweep k w e t _ h]
          have a1 : swl k (e - t) c = ec k := (if_pos (by rw [h2, el])).trans ((if_pos (by omega)).trans em)
          have a2 : dep k (e - t) c = e - t := (if_neg (by rw [em]; exact h1)).trans ((if_pos (by rw [h2, el])).trans (if_pos (by omega)))
          rw [a1, a2]
        · rw [wheelStep_l2 k e t h1 h2 h3, wheel_sweep k w e (t + 1) _ (by omega)]
          have a1 : swl k (e - t) c = c := (if_pos (by rw [h2, el])).trans (if_neg (by omega))
          have a2 : dep k (e - t) c = e - (t + 1) := (if_neg (by rw [em]; exact h1)).trans ((if_pos (by rw [h2, el])).trans ((if_neg (by omega)).trans (by omega)))
          rw [a1, a2]
      · rw [wheelStep_o k e t h1 h2, wheel_sweep k w e t _ h]
        have a1 : swl k (e - t) c = c := if_neg (by rw [el]; exact h2)
        have a2 : dep k (e - t) c = e - t := (if_neg (by rw [em]; exact h1)).trans (if_neg (by rw [el]; exact h2))
        rw [a1, a2]
theorem wheel_is (k : Bool) (l : List Nat) : (wheelGo k l (0, 0) ⟨#[]⟩).2 = sOf (sweep k l 0) := by
  rw [wheel_sweep k l 0 0 _ (Int.le_refl _)]
  exact PySem.Str.ext' (by show #[] ++ _ = _; simp)
end Mine
end
noncomputable section
open PySem PySem.Spec PySem.Calls PyProof.Rows PyProof.V PySem.W
set_option Elab.async false
set_option linter.all false
set_option maxRecDepth 100000
namespace Mine

/-- brackets behind one another: none when a closing one has no mate -/
noncomputable def run (k : Bool) : List Nat → Int → Option Int
  | [], n => some n
  | c :: l, n => if c = mec k then run k l (n + 1) else if c = mlc k then (if n - 1 < 0 then none else run k l (n - 1)) else run k l n
theorem run_e {k : Bool} {c : Nat} (l : List Nat) (n : Int) (h : c = mec k) : run k (c :: l) n = run k l (n + 1) := if_pos h
theorem run_l0 {k : Bool} {c : Nat} (l : List Nat) (n : Int) (h : ¬c = mec k) (h1 : c = mlc k) (h2 : n - 1 < 0) : run k (c :: l) n = none := (if_neg h).trans ((if_pos h1).trans (if_pos h2))
theorem run_l1 {k : Bool} {c : Nat} (l : List Nat) (n : Int) (h : ¬c = mec k) (h1 : c = mlc k) (h2 : ¬n - 1 < 0) : run k (c :: l) n = run k l (n - 1) := (if_neg h).trans ((if_pos h1).trans (if_neg h2))
theorem run_o {k : Bool} {c : Nat} (l : List Nat) (n : Int) (h : ¬c = mec k) (h1 : ¬c = mlc k) : run k (c :: l) n = run k l n := (if_neg h).trans (if_neg h1)
theorem run_app (k : Bool) : ∀ (a b : List Nat) (n : Int), run k (a ++ b) n = (run k a n).bind fun m => run k b m
  | [], b, n => rfl
  | c :: a, b, n => by
    by_cases h : c = mec k
    · rw [List.cons_append, run_e _ _ h, run_e _ _ h, run_app k a]
    · by_cases h1 : c = mlc k
      · by_cases h2 : n - 1 < 0
        · rw [List.cons_append, run_l0 _ _ h h1 h2, run_l0 _ _ h h1 h2]; rfl
        · rw [List.cons_append, run_l1 _ _ h h1 h2, run_l1 _ _ h h1 h2, run_app k a]
      · rw [List.cons_append, run_o _ _ h h1, run_o _ _ h h1, run_app k a]
noncomputable def depL (k : Bool) (l : List Nat) (d : Int) : Int := l.foldl (dep k) d
theorem depL_app (k : Bool) (a b : List Nat) (d : Int) : depL k (a ++ b) d = depL k b (depL k a d) := List.foldl_append
theorem dep_e {k : Bool} {c : Nat} (d : Int) (h : c = mec k) : dep k d c = d + 1 := if_pos h
theorem dep_l0 {k : Bool} {c : Nat} {d : Int} (h : ¬c = mec k) (h1 : c = mlc k) (h2 : d < 1) : dep k d c = d := (if_neg h).trans ((if_pos h1).trans (if_pos h2))
theorem dep_l1 {k : Bool} {c : Nat} {d : Int} (h : ¬c = mec k) (h1 : c = mlc k) (h2 : ¬d < 1) : dep k d c = d - 1 := (if_neg h).trans ((if_pos h1).trans (if_neg h2))
theorem dep_o {k : Bool} {c : Nat} (d : Int) (h : ¬c = mec k) (h1 : ¬c = mlc k) : dep k d c = d := (if_neg h).trans (if_neg h1)
theorem mel (k : Bool) : mec k ≠ mlc k := by cases k <;> decide
theorem dep_nonneg (k : Bool) (d : Int) (c : Nat) (h : 0 ≤ d) : 0 ≤ dep k d c := by
  unfold dep; split
  · omega
  · split
    · split <;> omega
    · exact h
theorem depL_nonneg (k : Bool) : ∀ (l : List Nat) (d : Int), 0 ≤ d → 0 ≤ depL k l d
  | [], d, h => h
  | c :: l, d, h => depL_nonneg k l _ (dep_nonneg k d c h)
/-- behind a run the depth is no less -/
theorem depL_run (k : Bool) : ∀ (l : List Nat) (n m d : Int), run k l n = some m → n ≤ d → m ≤ depL k l d
  | [], n, m, d, h, hd => by cases h; exact hd
  | c :: l, n, m, d, h, hd => by
    show m ≤ depL k l (dep k d c)
    by_cases h0 : c = mec k
    · rw [run_e _ _ h0] at h; rw [dep_e _ h0]; exact depL_run k l _ _ _ h (by omega)
    · by_cases h1 : c = mlc k
      · by_cases h2 : n - 1 < 0
        · rw [run_l0 _ _ h0 h1 h2] at h; cases h
        · rw [run_l1 _ _ h0 h1 h2] at h
          by_cases h3 : d < 1
          · rw [dep_l0 h0 h1 h3]; exact depL_run k l _ _ _ h (by omega)
          · rw [dep_l1 h0 h1 h3]; exact depL_run k l _ _ _ h (by omega)
      · rw [run_o _ _ h0 h1] at h; rw [dep_o _ h0 h1]; exact depL_run k l _ _ _ h hd
/-- a depth has its opening bracket -/
theorem open_at (k : Bool) (l : List Nat) : ∀ h : Int, 1 ≤ h → h ≤ depL k l 0 → ∃ a b, l = a ++ mec k :: b ∧ run k b 1 = some h := by
  induction hl : l.length generalizing l with
  | zero =>
    intro h h1 h2
    rw [List.eq_nil_of_length_eq_zero hl] at h2
    have : depL k [] 0 = 0 := rfl
    omega
  | succ n ih =>
    intro h h1 h2
    have hne : l ≠ [] := fun e => by rw [e] at hl; cases hl
    obtain ⟨p, c, rfl⟩ : ∃ p c, l = p ++ [c] := ⟨l.dropLast, l.getLast hne, (List.dropLast_concat_getLast hne).symm⟩
    have hp : p.length = n := by simpa using hl
    rw [depL_app] at h2
    have h2 : h ≤ dep k (depL k p 0) c := h2
    have up : ∀ (g : Int), 1 ≤ g → g ≤ depL k p 0 → (run k [c] g = some h) → ∃ a b, p ++ [c] = a ++ mec k :: b ∧ run k b 1 = some h := fun g g1 g2 hg => by
      obtain ⟨a, b, e, hb⟩ := ih p hp g g1 g2
      refine ⟨a, b ++ [c], by rw [e]; simp, ?_⟩
      rw [run_app, hb]; exact hg
    by_cases h0 : c = mec k
    · rw [dep_e _ h0] at h2
      by_cases h3 : h = 1
      · exact ⟨p, [], by rw [h0], by rw [h3]; rfl⟩
      · exact up (h - 1) (by omega) (by omega) (by rw [run_e _ _ h0]; show some (h - 1 + 1) = _; rw [Int.sub_add_cancel])
    · by_cases h4 : c = mlc k
      · by_cases h3 : depL k p 0 < 1
        · rw [dep_l0 h0 h4 h3] at h2; omega
        · rw [dep_l1 h0 h4 h3] at h2
          exact up (h + 1) (by omega) (by omega) (by rw [run_l1 _ _ h0 h4 (by omega)]; show some (h + 1 - 1) = _; rw [Int.add_sub_cancel])
      · rw [dep_o _ h0 h4] at h2
        exact up h h1 h2 (run_o _ _ h0 h4)
/-- the sweep changes nothing where the run goes through -/
theorem sweep_same (k : Bool) : ∀ (l : List Nat) (d : Int), 0 ≤ d → (sweep k l d = l ↔ (run k l d).isSome = true)
  | [], d, h => by simp [sweep, run]
  | c :: l, d, h => by
    show swl k d c :: sweep k l (dep k d c) = c :: l ↔ _
    by_cases h0 : c = mec k
    · have a1 : swl k d c = c := if_neg (by rw [h0]; exact mel k)
      rw [run_e _ _ h0, dep_e _ h0, a1, List.cons.injEq, sweep_same k l (d + 1) (by omega)]
      simp
    · by_cases h1 : c = mlc k
      · by_cases h2 : d < 1
        · have a1 : swl k d c = mec k := (if_pos h1).trans (if_pos h2)
          rw [run_l0 _ _ h0 h1 (by omega), a1, List.cons.injEq]
          simp only [Option.isSome_none, Bool.false_eq_true, iff_false, not_and]
          exact fun q => absurd q.symm h0
        · have a1 : swl k d c = c := (if_pos h1).trans (if_neg h2)
          rw [run_l1 _ _ h0 h1 (by omega), dep_l1 h0 h1 h2, a1, List.cons.injEq, sweep_same k l (d - 1) (by omega)]
          simp
      · have a1 : swl k d c = c := if_neg h1
        rw [run_o _ _ h0 h1, dep_o _ h0 h1, a1, List.cons.injEq, sweep_same k l d h]
        simp
theorem run_val (k : Bool) : ∀ (l : List Nat) (n m : Int), run k l n = some m → m = n + occ l (mec k) - occ l (mlc k) ∧ (0 ≤ n → 0 ≤ m)
  | [], n, m, h => by cases h; exact ⟨by show n = n + 0 - 0; omega, fun h => h⟩
  | c :: l, n, m, h => by
    rw [occ_cons, occ_cons]
    by_cases h0 : c = mec k
    · rw [run_e _ _ h0] at h
      have := run_val k l _ _ h
      have i1 : ind c (mec k) = 1 := if_pos h0
      have i2 : ind c (mlc k) = 0 := if_neg (by rw [h0]; exact mel k)
      rw [i1, i2]; omega
    · have i1 : ind c (mec k) = 0 := if_neg h0
      by_cases h1 : c = mlc k
      · have i2 : ind c (mlc k) = 1 := if_pos h1
        by_cases h2 : n - 1 < 0
        · rw [run_l0 _ _ h0 h1 h2] at h; cases h
        · rw [run_l1 _ _ h0 h1 h2] at h
          have := run_val k l _ _ h
          rw [i1, i2]; omega
      · rw [run_o _ _ h0 h1] at h
        have := run_val k l _ _ h
        have i2 : ind c (mlc k) = 0 := if_neg h1
        rw [i1, i2]; omega
end Mine
end
noncomputable section
open PySem PySem.Spec PySem.Calls PyProof.Rows PyProof.V PySem.W
set_option Elab.async false
set_option linter.all false
set_option maxRecDepth 100000
namespace Mine

/-- what the escapes' walk tells, without the places -/
noncomputable def esc2 : List Nat → Bool → List Str
  | [], true => [⟨#[92]⟩]
  | [], false => []
  | c :: w, true => (⟨#[92]⟩ ++ ⟨#[c]⟩) :: esc2 w false
  | c :: w, false => if c = 92 then esc2 w true else ⟨#[c]⟩ :: esc2 w false
theorem esc2_n {c : Nat} (w : List Nat) (h : ¬c = 92) : esc2 (c :: w) false = ⟨#[c]⟩ :: esc2 w false := if_neg h
theorem escGo_n {c : Nat} (w : List Nat) (i : Nat) (h : ¬c = 92) : escGo (c :: w) i false = ((i : Int), ⟨#[c]⟩) :: escGo w (i + 1) false := if_neg h
theorem escGo_y {c : Nat} (w : List Nat) (i : Nat) (h : c = 92) : escGo (c :: w) i false = escGo w (i + 1) true := if_pos h
theorem esc2_is : ∀ (w : List Nat) (i : Nat) (e : Bool), (escGo w i e).map Prod.snd = esc2 w e
  | [], i, true => rfl
  | [], i, false => rfl
  | c :: w, i, true => by
    show _ :: (escGo w (i + 1) false).map Prod.snd = _ :: esc2 w false
    rw [esc2_is w]
  | c :: w, i, false => by
    by_cases h : c = 92
    · rw [escGo_y _ _ h, esc2_is w, show esc2 (c :: w) false = esc2 w true from if_pos h]
    · rw [escGo_n _ _ h, esc2_n _ h, List.map_cons, esc2_is w]
noncomputable def par2 : List Str → Int → Bool
  | [], n => n == 0
  | y :: r, n => if y = ⟨#[40]⟩ then par2 r (n + 1) else if y = ⟨#[41]⟩ then (if n - 1 < 0 then false else par2 r (n - 1)) else par2 r n
theorem par2_is : ∀ (l : List (Int × Str)) (n : Int), parGo l n = par2 (l.map Prod.snd) n
  | [], n => rfl
  | y :: r, n => by
    show (if _ then _ else _) = (if _ then _ else _)
    rw [par2_is r, par2_is r, par2_is r]
theorem par2_o (r : List Str) (n : Int) : par2 (⟨#[40]⟩ :: r) n = par2 r (n + 1) := if_pos rfl
theorem par2_c0 (r : List Str) {n : Int} (h : n - 1 < 0) : par2 (⟨#[41]⟩ :: r) n = false := (if_neg (by decide)).trans ((if_pos rfl).trans (if_pos h))
theorem par2_c1 (r : List Str) {n : Int} (h : ¬n - 1 < 0) : par2 (⟨#[41]⟩ :: r) n = par2 r (n - 1) := (if_neg (by decide)).trans ((if_pos rfl).trans (if_neg h))
theorem checkQ_is (x : Str) : checkQ x = par2 (esc2 (stripQ x).cps.toList false) 0 := by
  unfold checkQ escOf
  rw [par2_is, esc2_is]

/-- the signs of a word's pieces, before and behind the stripping -/
noncomputable def pcs (k : Bool) (l : List Nat) : List Nat := l.flatMap fun c => (pieceQ k c).cps.toList
noncomputable def spc (k : Bool) (c : Nat) : List Nat := if c = mec k then [40] else if c = mlc k then [41] else if k = true then [92, 41] else []
noncomputable def spl (k : Bool) (l : List Nat) : List Nat := l.flatMap (spc k)
theorem spc_e {k : Bool} {c : Nat} (h : c = mec k) : spc k c = [40] := if_pos h
theorem spc_l {k : Bool} {c : Nat} (h : ¬c = mec k) (h1 : c = mlc k) : spc k c = [41] := (if_neg h).trans (if_pos h1)
theorem spc_t {c : Nat} (h : ¬c = mec true) (h1 : ¬c = mlc true) : spc true c = [92, 41] := (if_neg h).trans ((if_neg h1).trans rfl)
theorem spc_f {c : Nat} (h : ¬c = mec false) (h1 : ¬c = mlc false) : spc false c = [] := (if_neg h).trans ((if_neg h1).trans rfl)
theorem pcs_cons (k : Bool) (c : Nat) (l : List Nat) : pcs k (c :: l) = (pieceQ k c).cps.toList ++ pcs k l := rfl
theorem spl_cons (k : Bool) (c : Nat) (l : List Nat) : spl k (c :: l) = spc k c ++ spl k l := rfl
theorem pieceQ_e {k : Bool} {c : Nat} (h : c = mec k) : (pieceQ k c).cps.toList = [40] := by unfold pieceQ; rw [if_pos h]
theorem pieceQ_l {k : Bool} {c : Nat} (h : ¬c = mec k) (h1 : c = mlc k) : (pieceQ k c).cps.toList = [41] := by unfold pieceQ; rw [if_neg h, if_pos h1]
theorem pieceQ_t {c : Nat} (h : ¬c = mec true) (h1 : ¬c = mlc true) : (pieceQ true c).cps.toList = [92, 41] := by unfold pieceQ; rw [if_neg h, if_neg h1]; rfl
theorem pieceQ_f {c : Nat} (h : ¬c = mec false) (h1 : ¬c = mlc false) : (pieceQ false c).cps.toList = [34, 40, 34] := by unfold pieceQ; rw [if_neg h, if_neg h1]; rfl
theorem spl_true : ∀ l, spl true l = pcs true l
  | [] => rfl
  | c :: l => by
    rw [spl_cons, pcs_cons, spl_true l]
    by_cases h : c = mec true
    · rw [spc_e h, pieceQ_e h]
    · by_cases h1 : c = mlc true
      · rw [spc_l h h1, pieceQ_l h h1]
      · rw [spc_t h h1, pieceQ_t h h1]
/-- the brackets of the stripped text run as the word's letters do -/
theorem par_spl (k : Bool) (rest : List Nat) : ∀ (l : List Nat) (n : Int), par2 (esc2 (spl k l ++ rest) false) n = (match run k l n with | none => false | some m => par2 (esc2 rest false) m)
  | [], n => rfl
  | c :: l, n => by
    rw [spl_cons, List.append_assoc]
    by_cases h : c = mec k
    · rw [spc_e h, run_e _ _ h, List.singleton_append, esc2_n _ (by decide), par2_o, par_spl k rest l]
    · by_cases h1 : c = mlc k
      · rw [spc_l h h1, List.singleton_append, esc2_n _ (by decide)]
        by_cases h2 : n - 1 < 0
        · rw [run_l0 _ _ h h1 h2, par2_c0 _ h2]
        · rw [run_l1 _ _ h h1 h2, par2_c1 _ h2, par_spl k rest l]
      · rw [run_o _ _ h h1]
        cases k with
        | true =>
          rw [spc_t h h1]
          show par2 ((⟨#[92]⟩ ++ ⟨#[41]⟩ : Str) :: esc2 (spl true l ++ rest) false) n = _
          rw [← par_spl true rest l]
          exact (if_neg (by decide)).trans (if_neg (by decide))
        | false => rw [spc_f h h1, List.nil_append, par_spl false rest l]

theorem step_no (x : Str) (s : SS) {p : Int} {y : Str} (h : ¬y = ⟨#[34]⟩) : s.step x (p, y) = s := if_neg h
theorem step_q0 (x : Str) (s t : Int) (op : Option Int) (res : List Str) (p : Int) : SS.step x ⟨s, none, res⟩ (p, ⟨#[34]⟩) = ⟨s, some p, res⟩ := if_pos rfl
theorem step_q1 (x : Str) (s o : Int) (res : List Str) (p : Int) : SS.step x ⟨s, some o, res⟩ (p, ⟨#[34]⟩) = ⟨p + 1, none, if (s != o) = true then res ++ [Txt.slice x (some s) (some o)] else res⟩ := if_pos rfl
theorem one_ne {c d : Nat} (h : c ≠ d) : ¬(⟨#[c]⟩ : Str) = ⟨#[d]⟩ := fun e => h (by injection e with e; simpa using e)
theorem two_ne (a b c : Nat) : ¬((⟨#[a]⟩ : Str) ++ ⟨#[b]⟩) = ⟨#[c]⟩ := fun e => by
  have := congrArg Str.length e
  rw [length_append_str] at this
  cases this
theorem fold_noq (x : Str) : ∀ (w : List Nat) (i : Nat) (e : Bool) (s : SS), 34 ∉ w → (escGo w i e).foldl (SS.step x) s = s
  | [], i, true, s, h => by
    rw [show escGo [] i true = [((i : Int) - 1, ⟨#[92]⟩)] by simp [escGo]]
    exact step_no x s (p := (i : Int) - 1) (y := ⟨#[92]⟩) (by decide)
  | [], i, false, s, h => rfl
  | c :: w, i, true, s, h => by
    show (escGo w (i + 1) false).foldl _ (s.step x (_, _)) = s
    rw [step_no x s (two_ne _ _ _), fold_noq x w _ _ _ fun q => h (List.mem_cons_of_mem _ q)]
  | c :: w, i, false, s, h => by
    by_cases h1 : c = 92
    · rw [escGo_y _ _ h1, fold_noq x w _ _ _ fun q => h (List.mem_cons_of_mem _ q)]
    · rw [escGo_n _ _ h1, List.foldl_cons, step_no x s (one_ne fun q => h (by rw [q]; exact List.mem_cons_self)), fold_noq x w _ _ _ fun q => h (List.mem_cons_of_mem _ q)]
/-- a text whose one quotation mark nothing closes -/
noncomputable def Tail (rest : List Nat) : Prop := rest = [] ∨ ∃ C, rest = 34 :: C ∧ 34 ∉ C
theorem fold_tail (x : Str) {rest : List Nat} (h : Tail rest) (s : Int) (res : List Str) (i : Nat) : ∃ op, (escGo rest i false).foldl (SS.step x) ⟨s, none, res⟩ = ⟨s, op, res⟩ := by
  rcases h with rfl | ⟨C, rfl, hC⟩
  · exact ⟨none, rfl⟩
  · refine ⟨some i, ?_⟩
    rw [escGo_n _ _ (by decide), List.foldl_cons, step_q0 x s 0 none, fold_noq x C _ _ _ hC]
theorem slice_end (x : Str) {s : Nat} (h : s ≤ x.cps.toList.length) : (Txt.slice x (some (s : Int)) none).cps.toList = x.cps.toList.drop s := by
  have := slice_closes_from (x := x) (i := (s : Int)) ⟨by omega, by omega⟩
  rw [eq_of_beq this]
  show ((x.cps.toList.drop (s : Int).toNat).take ((x.cps.toList.length : Int) - s).toNat) = _
  rw [Int.toNat_natCast]
  exact List.take_of_length_le (by rw [List.length_drop]; omega)
theorem slice_mid (x : Str) {s a : Nat} (h : s ≤ a) (h2 : a ≤ x.cps.toList.length) : (Txt.slice x (some (s : Int)) (some (a : Int))).cps.toList = (x.cps.toList.drop s).take (a - s) := by
  have := slice_closes (x := x) (i := (s : Int)) (j := (a : Int)) ⟨by omega, by omega, by omega⟩
  rw [eq_of_beq this]
  show ((x.cps.toList.drop (s : Int).toNat).take ((a : Int) - s).toNat) = _
  rw [Int.toNat_natCast, show ((a : Int) - s).toNat = a - s by omega]
noncomputable def flat (l : List Str) : List Nat := l.flatMap (·.cps.toList)
theorem flat_snoc (l : List Str) (y : Str) : flat (l ++ [y]) = flat l ++ y.cps.toList := by simp [flat]
/-- what the walk has laid by, the part not yet laid with it -/
noncomputable def laid (x : Str) (s a : Nat) (res : List Str) : List Nat := flat res ++ (x.cps.toList.drop s).take (a - s)
theorem strip_fold (x : Str) (rest : List Nat) : ∀ (l : List Nat) (a s : Nat) (res : List Str), x.cps.toList.drop a = pcs false l ++ rest → s ≤ a → a ≤ x.cps.toList.length →
    ∃ (s' : Nat) (res' : List Str), s' ≤ a + (pcs false l).length ∧ (escGo (pcs false l ++ rest) a false).foldl (SS.step x) ⟨(s : Int), none, res⟩ = (escGo rest (a + (pcs false l).length) false).foldl (SS.step x) ⟨(s' : Int), none, res'⟩ ∧
      laid x s' (a + (pcs false l).length) res' = laid x s a res ++ spl false l
  | [], a, s, res, hd, hs, ha => ⟨s, res, hs, rfl, by show _ = _ ++ []; rw [List.append_nil]; rfl⟩
  | c :: l, a, s, res, hd, hs, ha => by
    rw [pcs_cons, List.append_assoc] at hd
    have one : ∀ b : Nat, ¬b = 92 → ¬b = 34 → (pieceQ false c).cps.toList = [b] → spc false c = [b] → ∃ (s' : Nat) (res' : List Str), s' ≤ a + (pcs false (c :: l)).length ∧ (escGo (pcs false (c :: l) ++ rest) a false).foldl (SS.step x) ⟨(s : Int), none, res⟩ = (escGo rest (a + (pcs false (c :: l)).length) false).foldl (SS.step x) ⟨(s' : Int), none, res'⟩ ∧ laid x s' (a + (pcs false (c :: l)).length) res' = laid x s a res ++ spl false (c :: l) := fun b hb hq hp hsp => by
      rw [hp] at hd
      have hlt : a < x.cps.toList.length := by
        rcases Nat.lt_or_ge a x.cps.toList.length with h | h
        · exact h
        · rw [List.drop_eq_nil_of_le h] at hd; cases hd
      have hd2 : x.cps.toList.drop (a + 1) = pcs false l ++ rest := by
        rw [← List.drop_drop, hd]; rfl
      have hg : x.cps.toList[a]? = some b := by
        have := congrArg (·[0]?) hd
        simpa using this
      obtain ⟨s', res', h1, h2, h3⟩ := strip_fold x rest l (a + 1) s res hd2 (by omega) (by omega)
      have hlen : a + (pcs false (c :: l)).length = a + 1 + (pcs false l).length := by rw [pcs_cons, hp, List.length_append, List.length_singleton]; omega
      refine ⟨s', res', by rw [hlen]; exact h1, ?_, ?_⟩
      · rw [hlen, ← h2, pcs_cons, hp, List.append_assoc, List.singleton_append, escGo_n _ _ hb, List.foldl_cons, step_no x _ (one_ne hq)]
      · rw [hlen, h3, spl_cons, hsp, ← List.append_assoc]
        congr 1
        unfold laid
        rw [List.append_assoc]
        congr 1
        rw [show a + 1 - s = a - s + 1 by omega, List.take_add_one, List.getElem?_drop, show s + (a - s) = a by omega, hg]
        rfl
    by_cases h : c = mec false
    · exact one 40 (by decide) (by decide) (pieceQ_e h) (spc_e h)
    · by_cases h1 : c = mlc false
      · exact one 41 (by decide) (by decide) (pieceQ_l h h1) (spc_l h h1)
      · have hp := pieceQ_f h h1
        rw [hp] at hd
        have hlt : a + 3 ≤ x.cps.toList.length := by
          have := congrArg List.length hd
          rw [List.length_drop, List.length_append] at this
          simp at this
          have h9 : x.cps.toList.length = x.cps.size := by simp
          omega
        have hd2 : x.cps.toList.drop (a + 3) = pcs false l ++ rest := by
          rw [← List.drop_drop, hd]; rfl
        have hlen : a + (pcs false (c :: l)).length = a + 3 + (pcs false l).length := by rw [pcs_cons, hp, List.length_append]; show a + (3 + _) = _; omega
        obtain ⟨s', res', h1', h2, h3⟩ := strip_fold x rest l (a + 3) (a + 3) (if ((s : Int) != (a : Int)) = true then res ++ [Txt.slice x (some (s : Int)) (some (a : Int))] else res) hd2 (by omega) hlt
        refine ⟨s', res', by rw [hlen]; exact h1', ?_, ?_⟩
        · rw [hlen, ← h2, pcs_cons, hp, List.append_assoc]
          show (escGo (34 :: 40 :: 34 :: (pcs false l ++ rest)) a false).foldl _ _ = _
          rw [escGo_n _ _ (by decide), escGo_n _ _ (by decide), escGo_n _ _ (by decide), List.foldl_cons, step_q0 x _ 0 none, List.foldl_cons, step_no x ⟨(s : Int), some (a : Int), res⟩ (y := ⟨#[40]⟩) (by decide), List.foldl_cons, step_q1]
          rfl
        · rw [hlen, h3, spl_cons, spc_f h h1, List.nil_append]
          congr 1
          unfold laid
          rw [Nat.sub_self, List.take_zero, List.append_nil]
          by_cases hsa : s = a
          · rw [if_neg (by rw [hsa]; simp), hsa, Nat.sub_self, List.take_zero, List.append_nil]
          · rw [if_pos (by rw [bne_iff_ne]; omega), flat_snoc, slice_mid x hs ha]
theorem fold_t (x : Str) (rest : List Nat) (s : SS) : ∀ (l : List Nat) (a : Nat), (escGo (pcs true l ++ rest) a false).foldl (SS.step x) s = (escGo rest (a + (pcs true l).length) false).foldl (SS.step x) s
  | [], a => rfl
  | c :: l, a => by
    rw [pcs_cons, List.append_assoc, List.length_append]
    have one : ∀ b : Nat, ¬b = 92 → ¬b = 34 → (pieceQ true c).cps.toList = [b] → (escGo ((pieceQ true c).cps.toList ++ (pcs true l ++ rest)) a false).foldl (SS.step x) s = (escGo rest (a + ((pieceQ true c).cps.toList.length + (pcs true l).length)) false).foldl (SS.step x) s := fun b hb hq hp => by
      rw [hp, List.singleton_append, escGo_n _ _ hb, List.foldl_cons, step_no x _ (one_ne hq), fold_t x rest s l, List.length_singleton, Nat.add_assoc]
    by_cases h : c = mec true
    · exact one 40 (by decide) (by decide) (pieceQ_e h)
    · by_cases h1 : c = mlc true
      · exact one 41 (by decide) (by decide) (pieceQ_l h h1)
      · rw [pieceQ_t h h1]
        show (escGo (92 :: 41 :: (pcs true l ++ rest)) a false).foldl _ _ = _
        rw [escGo_y _ _ rfl]
        show (escGo (pcs true l ++ rest) (a + 1 + 1) false).foldl _ (s.step x (_, _)) = _
        rw [step_no x s (two_ne _ _ _), fold_t x rest s l, Nat.add_assoc a 1 1]
        show _ = (escGo rest (a + (2 + _)) false).foldl _ s
        rw [Nat.add_assoc]
theorem join_flat (l : List Str) : (Txt.join ⟨#[]⟩ l).cps.toList = flat l := join_list l
theorem has_q (x : Str) : Txt.contains x ⟨#[34]⟩ = decide (34 ∈ x.cps.toList) := StrLaws.found_one x 34
theorem spl_of_noq : ∀ (l : List Nat), 34 ∉ pcs false l → spl false l = pcs false l
  | [], _ => rfl
  | c :: l, h => by
    rw [pcs_cons] at h ⊢
    have h' := spl_of_noq l fun q => h (List.mem_append_right _ q)
    rw [spl_cons, h']
    by_cases h0 : c = mec false
    · rw [spc_e h0, pieceQ_e h0]
    · by_cases h1 : c = mlc false
      · rw [spc_l h0 h1, pieceQ_l h0 h1]
      · exact absurd (List.mem_append_left _ (by rw [pieceQ_f h0 h1]; exact List.mem_cons_self)) h
/-- what is left of a text of pieces -/
theorem strip_is (k : Bool) (x : Str) (l rest : List Nat) (hx : x.cps.toList = pcs k l ++ rest) (hr : Tail rest) : (stripQ x).cps.toList = spl k l ++ rest := by
  unfold stripQ
  rw [has_q]
  by_cases hq : 34 ∈ x.cps.toList
  · rw [if_pos (by simpa using hq), join_flat]
    have hpos : 0 < x.cps.toList.length := List.length_pos_of_mem hq
    cases k with
    | true =>
      have hf : ∃ op, SS.run x (escOf x) = ⟨0, op, []⟩ := by
        unfold SS.run escOf
        rw [hx, fold_t x rest _ l 0]
        exact fold_tail x hr 0 [] _
      obtain ⟨op, hf⟩ := hf
      rw [hf, spl_true, ← hx]
      unfold SS.fin
      rw [if_pos (by rw [str_len]; show (0 : Int) < _; omega)]
      show flat [_] = _
      have := slice_end x (s := 0) (Nat.zero_le _)
      simp only [flat, List.flatMap_cons, List.flatMap_nil, List.append_nil]
      exact this
    | false =>
      obtain ⟨s', res', h1, h2, h3⟩ := strip_fold x rest l 0 0 [] (by rw [List.drop_zero]; exact hx) (Nat.le_refl _) (Nat.zero_le _)
      rw [Nat.zero_add] at h1 h2 h3
      obtain ⟨op, h4⟩ := fold_tail x hr (s' : Int) res' (pcs false l).length
      have hf : SS.run x (escOf x) = ⟨s', op, res'⟩ := by
        unfold SS.run escOf
        rw [hx]
        exact h2.trans h4
      have hl0 : laid x 0 0 [] = [] := rfl
      rw [hl0, List.nil_append] at h3
      have hlen : x.cps.toList.length = (pcs false l).length + rest.length := by rw [hx, List.length_append]
      have hfl : flat res' ++ x.cps.toList.drop s' = spl false l ++ rest := by
        rw [← h3]
        unfold laid
        rw [List.append_assoc]
        congr 1
        have e := (List.take_append_drop ((pcs false l).length - s') (x.cps.toList.drop s')).symm
        refine e.trans ?_
        rw [List.drop_drop, show s' + ((pcs false l).length - s') = (pcs false l).length by omega]
        congr 1
        rw [hx, List.drop_left]
      rw [hf, ← hfl]
      unfold SS.fin
      by_cases h5 : (s' : Int) < (x.length : Int)
      · rw [if_pos h5, flat_snoc, slice_end x (by omega)]
      · rw [if_neg h5]
        rw [str_len] at h5
        rw [List.drop_eq_nil_of_le (by omega), List.append_nil]
  · rw [if_neg (by simpa using hq), hx]
    cases k with
    | true => rw [spl_true]
    | false =>
      rw [hx] at hq
      rw [spl_of_noq l fun q => hq (List.mem_append_left _ q)]
theorem check_is (k : Bool) (x : Str) (l rest : List Nat) (hx : x.cps.toList = pcs k l ++ rest) (hr : Tail rest) : checkQ x = (match run k l 0 with | none => false | some m => par2 (esc2 rest false) m) := by
  rw [checkQ_is, strip_is k x l rest hx hr, par_spl]
theorem spl_le (k : Bool) : ∀ l, (spl k l).length ≤ (pcs k l).length
  | [] => Nat.le_refl _
  | c :: l => by
    have ih := spl_le k l
    rw [spl_cons, pcs_cons, List.length_append, List.length_append]
    by_cases h : c = mec k
    · rw [spc_e h, pieceQ_e h]; omega
    · by_cases h1 : c = mlc k
      · rw [spc_l h h1, pieceQ_l h h1]; omega
      · cases k with
        | true => rw [spc_t h h1, pieceQ_t h h1]; omega
        | false => rw [spc_f h h1, pieceQ_f h h1]; simp; omega
theorem strip_le (k : Bool) (x : Str) (l rest : List Nat) (hx : x.cps.toList = pcs k l ++ rest) (hr : Tail rest) : (stripQ x).length ≤ x.length := by
  rw [str_len, str_len, strip_is k x l rest hx hr, hx, List.length_append, List.length_append]
  have := spl_le k l
  omega
end Mine
end
noncomputable section
open PySem PySem.Spec PySem.Calls PyProof.Rows PyProof.V PySem.W
set_option Elab.async false
set_option linter.all false
set_option maxRecDepth 100000
namespace Mine

theorem textQ_is (k : Bool) (w : List Nat) (j i : Nat) : (textQ k w j i).cps.toList = pcs k ((w.drop j).take (i + 1 - j)) ++ [] := by
  unfold textQ
  rw [join_list, ← List.map_drop, ← List.map_take, List.append_nil]
  simp only [pcs, List.flatMap_map]
theorem textQ_check (k : Bool) (w : List Nat) (j i : Nat) : checkQ (textQ k w j i) = true ↔ run k ((w.drop j).take (i + 1 - j)) 0 = some 0 := by
  rw [check_is k _ _ [] (textQ_is k w j i) (.inl rfl)]
  cases h : run k ((w.drop j).take (i + 1 - j)) 0 with
  | none => simp
  | some m =>
    show ((m == 0) = true) ↔ some m = some 0
    simp
theorem seek_iff (k : Bool) (w : List Nat) (i : Nat) : ∀ n, seekQ k w i n = true ↔ ∃ j, j < n ∧ w[j]? = some (mec k) ∧ checkQ (textQ k w j i) = true
  | 0 => by
    constructor
    · intro h; exact absurd h (by simp [seekQ])
    · rintro ⟨j, h, _⟩; exact absurd h (Nat.not_lt_zero j)
  | n + 1 => by
    by_cases h : w[n]? = some (mec k) ∧ checkQ (textQ k w n i) = true
    · rw [seek_hit h]
      exact ⟨fun _ => ⟨n, Nat.lt_succ_self n, h⟩, fun _ => rfl⟩
    · rw [seek_miss h, seek_iff k w i n]
      constructor
      · rintro ⟨j, h1, h2⟩; exact ⟨j, by omega, h2⟩
      · rintro ⟨j, h1, h2⟩
        rcases Nat.lt_or_ge j n with h3 | h3
        · exact ⟨j, h3, h2⟩
        · obtain rfl : j = n := by omega
          exact absurd h2 h
theorem part_at {w a b : List Nat} {i e c : Nat} (h : w.take i = a ++ e :: b) (hc : w[i]? = some c) : (w.drop a.length).take (i + 1 - a.length) = e :: b ++ [c] := by
  have hlt := (List.getElem?_eq_some_iff.mp hc).1
  have hl : (w.take i).length = i := by rw [List.length_take]; omega
  have hi : i = a.length + 1 + b.length := by rw [← hl, h, List.length_append, List.length_cons]; omega
  have hw : w.take (i + 1) = a ++ (e :: b ++ [c]) := by
    rw [List.take_add_one, hc, h]; simp
  rw [← List.drop_take, hw, List.drop_left]
theorem seek_is (k : Bool) (w : List Nat) (i : Nat) (h : w[i]? = some (mlc k)) : seekQ k w i i = true ↔ ¬depL k (w.take i) 0 < 1 := by
  rw [seek_iff]
  have hlt := (List.getElem?_eq_some_iff.mp h).1
  constructor
  · rintro ⟨j, hj, he, hc⟩
    rw [textQ_check] at hc
    have hsp : w.take i = w.take j ++ mec k :: (w.take i).drop (j + 1) := by
      have e1 : (w.take i)[j]? = some (mec k) := by rw [List.getElem?_take_of_lt hj]; exact he
      have hj' := (List.getElem?_eq_some_iff.mp e1).1
      have e2 : (w.take i).drop j = mec k :: (w.take i).drop (j + 1) := by
        rw [List.drop_eq_getElem_cons hj', (List.getElem?_eq_some_iff.mp e1).2]
      rw [← e2]
      have e3 := (List.take_append_drop j (w.take i)).symm
      rw [List.take_take, Nat.min_eq_left (Nat.le_of_lt hj)] at e3
      exact e3
    have hp := part_at hsp h
    have hl : (w.take j).length = j := by rw [List.length_take]; omega
    rw [hl] at hp
    rw [hp, List.cons_append, run_e _ _ rfl, run_app] at hc
    cases hb : run k ((w.take i).drop (j + 1)) (0 + 1) with
    | none => rw [hb] at hc; cases hc
    | some m =>
      rw [hb] at hc
      have hc : run k [mlc k] m = some 0 := hc
      have hm : m = 1 := by
        by_cases h2 : m - 1 < 0
        · rw [run_l0 _ _ (mel k).symm rfl h2] at hc; cases hc
        · rw [run_l1 _ _ (mel k).symm rfl h2] at hc
          have hc : some (m - 1) = some (0 : Int) := hc
          injection hc; omega
      rw [hm] at hb
      rw [hsp, depL_app]
      show ¬depL k _ (dep k (depL k (w.take j) 0) (mec k)) < 1
      rw [dep_e _ rfl]
      have := depL_run k _ _ _ (depL k (w.take j) 0 + 1) hb (by have := depL_nonneg k (w.take j) 0 (Int.le_refl _); omega)
      omega
  · intro hd
    obtain ⟨a, b, e, hb⟩ := open_at k (w.take i) 1 (Int.le_refl _) (by omega)
    have hp := part_at e h
    have hal : a.length < i := by
      have hl : (w.take i).length = i := by rw [List.length_take]; omega
      rw [← hl, e, List.length_append, List.length_cons]; omega
    refine ⟨a.length, hal, ?_, ?_⟩
    · have : (w.take i)[a.length]? = some (mec k) := by rw [e]; simp
      rwa [List.getElem?_take_of_lt hal] at this
    · rw [textQ_check, hp, List.cons_append, run_e _ _ rfl, run_app, Int.zero_add, hb]
      show run k [mlc k] 1 = some 0
      rw [run_l1 _ _ (mel k).symm rfl (by decide)]
      rfl
theorem mailAt_is (k : Bool) (w : List Nat) (i c : Nat) (h : w[i]? = some c) : mailAt k w i c = swl k (depL k (w.take i) 0) c := by
  unfold mailAt swl
  by_cases h1 : c = mlc k
  · rw [if_pos h1, if_pos h1]
    rw [h1] at h
    by_cases h2 : depL k (w.take i) 0 < 1
    · rw [if_pos h2, if_neg (fun q => (seek_is k w i h).mp q h2)]
    · rw [if_neg h2, if_pos ((seek_is k w i h).mpr h2)]
  · rw [if_neg h1, if_neg h1]
theorem sweep_snoc (k : Bool) (c : Nat) : ∀ (w : List Nat) (d : Int), sweep k (w ++ [c]) d = sweep k w d ++ [swl k (depL k w d) c]
  | [], d => rfl
  | a :: w, d => by
    show swl k d a :: sweep k (w ++ [c]) (dep k d a) = swl k d a :: (sweep k w (dep k d a) ++ _)
    rw [sweep_snoc k c w]; rfl
theorem mailTo_is (k : Bool) (w : List Nat) : ∀ n, n ≤ w.length → mailTo k w n = sweep k (w.take n) 0
  | 0, _ => rfl
  | n + 1, h => by
    have hc : w[n]? = some w[n] := List.getElem?_eq_getElem h
    rw [mailTo_snoc k w n _ hc, mailTo_is k w n (Nat.le_of_succ_le h), List.take_add_one, hc, Option.toList_some, sweep_snoc, mailAt_is k w n _ hc]

theorem mul_list (c : Nat) (n : Int) : (Txt.mul ⟨#[c]⟩ n).cps.toList = List.replicate n.toNat c := by
  have go : ∀ (m : Nat) (a : Array Nat), ((List.replicate m #[c]).foldl (· ++ ·) a).toList = a.toList ++ List.replicate m c := by
    intro m
    induction m with
    | zero => intro a; simp
    | succ m ih =>
      intro a
      rw [List.replicate_succ, List.foldl_cons, ih, List.replicate_succ]
      simp
  unfold Txt.mul
  by_cases h1 : n < 1
  · rw [if_pos h1, show n.toNat = 0 by omega]; rfl
  · rw [if_neg h1]
    by_cases h2 : (n == 1 || (⟨#[c]⟩ : Str).length == 0) = true
    · rw [if_pos h2]
      have : n = 1 := by
        rcases Bool.or_eq_true_iff.mp h2 with h | h
        · exact eq_of_beq h
        · exact Bool.noConfusion (show false = true from h)
      rw [this]; rfl
    · rw [if_neg h2]
      show ((List.replicate n.toNat #[c]).foldl (· ++ ·) #[]).toList = _
      rw [go]; rfl
theorem cnt_occ (x : Nat) : ∀ l : List Nat, PyProof.Rows.cnt x l = occ l x
  | [] => rfl
  | c :: l => by rw [PyProof.Rows.cnt_cons, occ_cons, cnt_occ x l]; rfl
theorem count_occ (x : Str) (c : Nat) : Txt.count x ⟨#[c]⟩ = occ x.cps.toList c := by rw [PyProof.Rows.count_cnt, cnt_occ]
/-- behind the word: the quotation mark and the brackets that lack -/
noncomputable def tailL (n : Int) : List Nat := 34 :: (List.replicate n.toNat 41 ++ List.replicate (-n).toNat 40)
theorem tail_ok (n : Int) : Tail (tailL n) := by
  refine .inr ⟨_, rfl, fun h => ?_⟩
  rcases List.mem_append.mp h with h | h
  · exact absurd (List.eq_of_mem_replicate h) (by decide)
  · exact absurd (List.eq_of_mem_replicate h) (by decide)
theorem whole_list (k : Bool) (x : Str) : (wholeT k x).cps.toList = pcs k x.cps.toList ++ tailL (occ x.cps.toList (mec k) - occ x.cps.toList (mlc k)) := by
  unfold wholeT
  show (((_ ++ _ : Array Nat) ++ _) ++ _).toList = _
  rw [Array.toList_append, Array.toList_append, Array.toList_append, mul_list, mul_list, join_list, count_occ, count_occ]
  simp only [pcs, List.flatMap_map, tailL, List.append_assoc]
  rfl
theorem par_close : ∀ (m : Nat), par2 (esc2 (List.replicate m 41) false) m = true
  | 0 => rfl
  | m + 1 => by
    rw [List.replicate_succ, esc2_n _ (by decide), par2_c1 _ (by omega), show ((m + 1 : Nat) : Int) - 1 = m by omega]
    exact par_close m
theorem par_tail {m : Int} (h : 0 ≤ m) : par2 (esc2 (tailL m) false) m = true := by
  unfold tailL
  rw [esc2_n _ (by decide), show (-m).toNat = 0 by omega, List.replicate_zero, List.append_nil]
  show (if _ then _ else _) = true
  rw [if_neg (by decide), if_neg (by decide)]
  have := par_close m.toNat
  rwa [Int.toNat_of_nonneg h] at this
theorem wholeQ_is (k : Bool) (x : Str) : wholeQ k x = (run k x.cps.toList 0).isSome := by
  show checkQ (wholeT k x) = _
  rw [check_is k _ _ _ (whole_list k x) (tail_ok _)]
  cases h : run k x.cps.toList 0 with
  | none => rfl
  | some m =>
    obtain ⟨h1, h2⟩ := run_val k _ _ _ h
    rw [Int.zero_add] at h1
    rw [← h1]
    exact par_tail (h2 (Int.le_refl _))
theorem sOf_eq (l : List Nat) (x : Str) : sOf l = x ↔ l = x.cps.toList := by
  constructor
  · intro h; rw [← h]; rfl
  · intro h; rw [h]; rfl
theorem mailQ_is (k : Bool) (x : Str) : mailQ k x = sOf (sweep k x.cps.toList 0) := by
  unfold mailQ
  rw [mailTo_is k _ _ (Nat.le_refl _), List.take_length, wholeQ_is]
  refine if_pos ?_
  have := sweep_same k x.cps.toList 0 (Int.le_refl _)
  by_cases h : (run k x.cps.toList 0).isSome = true
  · rw [h, decide_eq_true ((sOf_eq _ _).mpr (this.mpr h))]; rfl
  · rw [Bool.not_eq_true] at h
    rw [h, decide_eq_false fun q => by rw [sOf_eq, this, h] at q; cases q]; rfl

/-- the contract of a sweep by mail, for a word that is not too long -/
theorem mail_sweep (w : World) (k : Bool) (l : List Nat) (hl : l.length ≤ 21) : FnC w 8 dMail.addr [.str (sOf l), .str ⟨#[mec k]⟩, .str ⟨#[mlc k]⟩] (.str (sOf (sweep k l 0))) := by
  have hx : (sOf l).length ≤ 21 := by rw [sOf_len]; exact hl
  have e : (sOf l).cps.toList = l := rfl
  have hm := mailQ_is k (sOf l)
  rw [e] at hm
  rw [← hm]
  have ho : ∀ c, 0 ≤ occ l c ∧ occ l c ≤ 21 := fun c => by
    refine ⟨occ_nonneg l c, ?_⟩
    have : ∀ (m : List Nat), occ m c ≤ m.length := by
      intro m
      induction m with
      | nil => exact Int.le_refl _
      | cons a m ih => rw [occ_cons, List.length_cons]; unfold ind; split <;> omega
    have := this l
    omega
  have h1 := ho (mec k)
  have h2 := ho (mlc k)
  have hmul : ∀ (c : Nat) (n : Int), n ≤ 21 → (Txt.mul ⟨#[c]⟩ n).length ≤ 100 := fun c n hn => by
    rw [str_len, mul_list, List.length_replicate]; omega
  refine mail_fn w (sOf l) hx k (fun i j hj hi => ?_) ?_ ?_ ?_ ?_
  · have h3 := (textQ_len k (sOf l).cps.toList j i (by rw [e]; exact hl)).1
    have h4 := strip_le k _ _ [] (textQ_is k (sOf l).cps.toList j i) (.inl rfl)
    omega
  · rw [count_occ, count_occ, e]; omega
  · rw [count_occ, count_occ, e]; exact hmul _ _ (by omega)
  · rw [count_occ, count_occ, e]; exact hmul _ _ (by omega)
  · have h3 := (join_all k (sOf l).cps.toList (by rw [e]; exact hl)).1
    have h4 := strip_le k _ _ _ (whole_list k (sOf l)) (tail_ok _)
    have h5 : (wholeT k (sOf l)).length ≤ 300 := by
      unfold wholeT
      rw [length_append_str, length_append_str, length_append_str, count_occ, count_occ, e]
      have a1 := hmul 41 (occ l (mec k) - occ l (mlc k)) (by omega)
      have a2 := hmul 40 (-(occ l (mec k) - occ l (mlc k))) (by omega)
      have a3 : (⟨#[34]⟩ : Str).length = 1 := rfl
      rw [e] at h3
      omega
    omega
theorem wheel_sweep_fn (w : World) (k : Bool) (l : List Nat) (hl : l.length ≤ 21) : FnC w 2 dWheel.addr [.str (sOf l), .str ⟨#[ec k]⟩, .str ⟨#[lc k]⟩] (.str (sOf (sweep k l 0))) := by
  have h := wheel_fn w k (sOf l) (by rw [sOf_len]; exact hl)
  have e : (sOf l).cps.toList = l := rfl
  rw [e, wheel_is] at h
  exact h
end Mine
end
noncomputable section
open PySem PySem.Spec PySem.Calls PyProof.Rows PyProof.V PySem.W
set_option Elab.async false
set_option linter.all false
set_option maxRecDepth 100000
namespace Mine

noncomputable def roundB (x : UInt64) (i : Int) : Bool := Float64.isFinite x && !Float64.isNaN x && !Float64.isInf x && (Flt.toInt Float64.nearestOf x == i)
theorem roundB_ok {x : UInt64} {i : Int} (h : roundB x i = true) : RoundOk x i := by
  unfold roundB at h
  simp only [Bool.and_eq_true, Bool.not_eq_true', beq_iff_eq] at h
  exact ⟨h.1.1.1, h.1.1.2, h.1.2, h.2⟩
noncomputable def chk (a b c : Nat) : Bool := roundB (Float64.mul (hsvS a b c) (Float64.ofInt a)) ((a : Int) - c) && roundB (Float64.mul (Float64.mul (Float64.mul (hsvH a b c) (Float64.ofInt 6)) (hsvS a b c)) (Float64.ofInt a)) ((b : Int) - c) && !Float64.isInf (Float64.ofInt a)
noncomputable def chkAt (a : Nat) : Bool := (List.range (a + 1)).all fun b => (List.range (b + 1)).all fun c => decide (21 < a + b + c) || chk a b c
theorem chk_a : chkAt 0 = true := by decide +kernel
theorem chk_b : chkAt 1 = true := by decide +kernel
theorem chk_c : chkAt 2 = true := by decide +kernel
theorem chk_d : chkAt 3 = true := by decide +kernel
theorem chk_e : chkAt 4 = true := by decide +kernel
theorem chk_f : chkAt 5 = true := by decide +kernel
theorem chk_g : chkAt 6 = true := by decide +kernel
theorem chk_h : chkAt 7 = true := by decide +kernel
theorem chk_i : chkAt 8 = true := by decide +kernel
theorem chk_j : chkAt 9 = true := by decide +kernel
theorem chk_k : chkAt 10 = true := by decide +kernel
theorem chk_l : chkAt 11 = true := by decide +kernel
theorem chk_m : chkAt 12 = true := by decide +kernel
theorem chk_n : chkAt 13 = true := by decide +kernel
theorem chk_o : chkAt 14 = true := by decide +kernel
theorem chk_p : chkAt 15 = true := by decide +kernel
theorem chk_q : chkAt 16 = true := by decide +kernel
theorem chk_r : chkAt 17 = true := by decide +kernel
theorem chk_s : chkAt 18 = true := by decide +kernel
theorem chk_t : chkAt 19 = true := by decide +kernel
theorem chk_u : chkAt 20 = true := by decide +kernel
theorem chk_v : chkAt 21 = true := by decide +kernel
theorem chk_all : ∀ a, a ≤ 21 → chkAt a = true
  | 0, _ => chk_a
  | 1, _ => chk_b
  | 2, _ => chk_c
  | 3, _ => chk_d
  | 4, _ => chk_e
  | 5, _ => chk_f
  | 6, _ => chk_g
  | 7, _ => chk_h
  | 8, _ => chk_i
  | 9, _ => chk_j
  | 10, _ => chk_k
  | 11, _ => chk_l
  | 12, _ => chk_m
  | 13, _ => chk_n
  | 14, _ => chk_o
  | 15, _ => chk_p
  | 16, _ => chk_q
  | 17, _ => chk_r
  | 18, _ => chk_s
  | 19, _ => chk_t
  | 20, _ => chk_u
  | 21, _ => chk_v
  | n + 22, h => absurd h (by omega)
theorem chk_ok {a b c : Nat} (h : a + b + c ≤ 21) (h1 : b ≤ a) (h2 : c ≤ b) : chk a b c = true := by
  have q := chk_all a (by omega)
  unfold chkAt at q
  have q := List.all_eq_true.mp q b (List.mem_range.mpr (by omega))
  have q := List.all_eq_true.mp q c (List.mem_range.mpr (by omega))
  rcases Bool.or_eq_true_iff.mp q with q | q
  · have := of_decide_eq_true q; omega
  · exact q

/-- the signs, one by one -/
theorem code_low : ∀ k, k < 16 → Builtin.Str.tooLong (Txt.lower (⟨#[codeOf k]⟩ : Str)).length = false := by decide +kernel
theorem code_map : ∀ k, k < 16 → (if b1N.contains (codeOf k : Int) = true then meanOf k = ⟨#[]⟩ else mapQ (codeOf k) = meanOf k) := by decide +kernel
theorem mean_rgb : ∀ k, k < 16 → ∀ c ∈ (meanOf k).cps.toList, c = 114 ∨ c = 103 ∨ c = 98 := by decide
theorem mean_len : ∀ k, k < 16 → (meanOf k).cps.toList.length ≤ 2 := by decide
theorem signT_list (xs : List Int) : (signT xs).cps.toList = (pickL xs).map codeOf := by
  unfold signT
  rw [join_list, List.flatMap_map]
  induction pickL xs with
  | nil => rfl
  | cons k l ih => rw [List.flatMap_cons, ih]; rfl
theorem signW_list (xs : List Int) : (signW xs).cps.toList = (pickL xs).flatMap fun k => (meanOf k).cps.toList := by
  unfold signW
  rw [join_list, List.flatMap_map]
theorem flat_le2 : ∀ ks : List Nat, (∀ k ∈ ks, k < 16) → (ks.flatMap fun k => (meanOf k).cps.toList).length ≤ 2 * ks.length
  | [], _ => Nat.le_refl _
  | k :: ks, h => by
    have h1 := flat_le2 ks fun x hx => h x (List.mem_cons_of_mem _ hx)
    have h2 := mean_len k (h k List.mem_cons_self)
    rw [List.flatMap_cons, List.length_append, List.length_cons]; omega
theorem signW_len (xs : List Int) : (signW xs).cps.toList.length ≤ 21 := by
  rw [signW_list]
  unfold pickL
  rw [List.flatMap_append, List.length_append]
  have h1 := flat_le2 ((xs.take 8).map fun x => (x.fmod 16).toNat) fun k hk => by
    obtain ⟨x, _, rfl⟩ := List.mem_map.mp hk
    have := fmod16 x
    omega
  have h2 : ((xs.take 8).map fun x => (x.fmod 16).toNat).length ≤ 8 := by rw [List.length_map, List.length_take]; omega
  have h3 : ([7, 13, 8, 1, 12].flatMap fun k => (meanOf k).cps.toList).length = 5 := by decide
  omega
theorem signW_rgb (xs : List Int) : ∀ c ∈ (signW xs).cps.toList, isRgb c := by
  rw [signW_list]
  intro c hc
  obtain ⟨k, hk, hc⟩ := List.mem_flatMap.mp hc
  exact mean_rgb k (pickL_lt xs k hk) c hc
theorem spell_go : ∀ ks : List Nat, (∀ k ∈ ks, k < 16) → ∃ ws : List Str, (ks.map codeOf).filterMap spellF = ws.map .str ∧ ws.flatMap (·.cps.toList) = (ks.flatMap fun k => (meanOf k).cps.toList) ∧ ws.length ≤ ks.length ∧ ∀ y ∈ ws, y.length ≤ 2
  | [], _ => ⟨[], rfl, rfl, Nat.le_refl _, fun y hy => nomatch hy⟩
  | k :: ks, h => by
    obtain ⟨ws, h1, h2, h3, h4⟩ := spell_go ks fun x hx => h x (List.mem_cons_of_mem _ hx)
    have hk := h k List.mem_cons_self
    have hm := code_map k hk
    by_cases hb : b1N.contains (codeOf k : Int) = true
    · rw [if_pos hb] at hm
      refine ⟨ws, ?_, ?_, by rw [List.length_cons]; omega, h4⟩
      · rw [List.map_cons, List.filterMap_cons_none (by unfold spellF; rw [if_pos hb]), h1]
      · rw [List.flatMap_cons, hm, h2]; rfl
    · rw [if_neg hb] at hm
      refine ⟨meanOf k :: ws, ?_, ?_, by rw [List.length_cons, List.length_cons]; omega, fun y hy => ?_⟩
      · rw [List.map_cons, List.filterMap_cons_some (b := .str (mapQ (codeOf k))) (by unfold spellF; rw [if_neg hb]), h1, hm]; rfl
      · rw [List.flatMap_cons, List.flatMap_cons, h2]
      · rcases List.mem_cons.mp hy with rfl | hy
        · exact meanOf_len k hk
        · exact h4 y hy

/-- the places of a letter, told as texts -/
noncomputable def rowL (d : Nat) : List Nat → Nat → List Str
  | [], _ => []
  | c :: w, i => if c = d then numS i :: rowL d w (i + 1) else rowL d w (i + 1)
theorem rowL_y {d c : Nat} (w : List Nat) (i : Nat) (h : c = d) : rowL d (c :: w) i = numS i :: rowL d w (i + 1) := if_pos h
theorem rowL_n {d c : Nat} (w : List Nat) (i : Nat) (h : ¬c = d) : rowL d (c :: w) i = rowL d w (i + 1) := if_neg h
theorem rowL_snoc (d c : Nat) : ∀ (w : List Nat) (i : Nat), rowL d (w ++ [c]) i = rowL d w i ++ (if c = d then [numS (i + w.length)] else [])
  | [], i => by
    by_cases h : c = d
    · rw [List.nil_append, rowL_y _ _ h, if_pos h]; rfl
    · rw [List.nil_append, rowL_n _ _ h, if_neg h]; rfl
  | a :: w, i => by
    rw [List.cons_append]
    by_cases h : a = d
    · rw [rowL_y _ _ h, rowL_y _ _ h, rowL_snoc d c w, List.length_cons, show i + 1 + w.length = i + (w.length + 1) by omega]; rfl
    · rw [rowL_n _ _ h, rowL_n _ _ h, rowL_snoc d c w, List.length_cons, show i + 1 + w.length = i + (w.length + 1) by omega]
theorem rowL_len (d : Nat) : ∀ (w : List Nat) (i : Nat), ((rowL d w i).length : Int) = occ w d
  | [], _ => rfl
  | c :: w, i => by
    rw [occ_cons]
    by_cases h : c = d
    · rw [rowL_y _ _ h, List.length_cons, show ind c d = 1 from if_pos h, ← rowL_len d w (i + 1)]; omega
    · rw [rowL_n _ _ h, show ind c d = 0 from if_neg h, ← rowL_len d w (i + 1)]; omega
theorem rowL_ok (d : Nat) : ∀ (w : List Nat) (i : Nat), i + w.length ≤ 21 → ∀ y ∈ rowL d w i, PyData.strOk y = true
  | [], _, _, y, hy => nomatch hy
  | c :: w, i, h, y, hy => by
    rw [List.length_cons] at h
    have num : ∀ j : Nat, j < 21 → PyData.strOk (numS j) = true := by decide +kernel
    by_cases hc : c = d
    · rw [rowL_y _ _ hc] at hy
      rcases List.mem_cons.mp hy with rfl | hy
      · exact num i (by omega)
      · exact rowL_ok d w _ (by omega) y hy
    · rw [rowL_n _ _ hc] at hy
      exact rowL_ok d w _ (by omega) y hy
theorem dueRow_is (o : List Nat) (d : Nat) : dueRow (sOf o) d = (rowL d o 0).map .str := by
  unfold dueRow
  have go : ∀ n, n ≤ o.length → (List.range n).filterMap (fun i => (sOf o).cps[i]?.bind fun c => if decide ((⟨#[c]⟩ : Str) = ⟨#[d]⟩) then some (PV.str (numS i)) else none) = (rowL d (o.take n) 0).map .str := by
    intro n
    induction n with
    | zero => intro _; rfl
    | succ n ih =>
      intro h
      have hc : o[n]? = some o[n] := List.getElem?_eq_getElem h
      have hc' : (sOf o).cps[n]? = some o[n] := by rw [← Array.getElem?_toList]; exact hc
      rw [List.range_succ, List.filterMap_append, ih (Nat.le_of_succ_le h), List.take_add_one, hc, Option.toList_some, rowL_snoc, List.map_append]
      congr 1
      have hl : (o.take n).length = n := by rw [List.length_take]; omega
      rw [hl, Nat.zero_add]
      by_cases hd : o[n] = d
      · rw [if_pos hd, List.filterMap_cons_some (b := .str (numS n)) (by rw [hc']; show (if _ then _ else _) = _; rw [hd]; simp)]; rfl
      · rw [if_neg hd, List.filterMap_cons_none (by rw [hc']; show (if _ then _ else _) = _; rw [decide_eq_false (one_ne hd)]; rfl)]; rfl
  have := go o.length (Nat.le_refl _)
  rw [List.take_length] at this
  rw [sOf_len]
  exact this
theorem low_pair : ∀ b : Bool, ∀ c ∈ ([114, 103, 98] : List Nat), ∀ j : Fin 3, decide (Txt.lower (if b then (⟨#[c]⟩ : Str) else Txt.upper ⟨#[c]⟩) = Txt.lower (match upRGB.cps[j.val]? with | some c => ⟨#[c]⟩ | none => ⟨#[]⟩)) = decide (c = rgbC j.val) := by decide +kernel
theorem rowOf_is (j : Fin 3) : ∀ (o : List Nat) (i : Nat), (∀ c ∈ o, isRgb c) → rowOf (rowItems o i) j.val = (rowL (rgbC j.val) o i).map .str
  | [], _, _ => rfl
  | c :: o, i, h => by
    have ih := rowOf_is j o (i + 1) fun x hx => h x (List.mem_cons_of_mem _ hx)
    have hc := low_pair (evenI i) c (by rcases h c List.mem_cons_self with rfl | rfl | rfl <;> simp) j
    unfold rowOf at ih ⊢
    rw [show rowItems (c :: o) i = (nameS i c, numS i) :: rowItems o (i + 1) from rfl]
    by_cases hd : c = rgbC j.val
    · rw [decide_eq_true hd] at hc
      rw [rowL_y _ _ hd, List.filterMap_cons_some (b := .str (numS i)) (by unfold gaPick; exact if_pos hc), ih]; rfl
    · rw [decide_eq_false hd] at hc
      rw [rowL_n _ _ hd, List.filterMap_cons_none (by unfold gaPick; exact if_neg fun q => Bool.noConfusion (hc.symm.trans q)), ih]

theorem law_facts (w : World) (xs : List Int) : ∃ (due : Str) (lo fe : Int) (n0 n1 n2 : Nat), LawFacts w xs due lo fe n0 n1 n2 := by
  have hrgb := signW_rgb xs
  have hlen := signW_len xs
  have eW : sOf (signW xs).cps.toList = signW xs := rfl
  obtain ⟨o, hm, hw, ht, hb, hl, hc1, hc2, ho, hol⟩ := law_core (signW xs).cps.toList hrgb
  have hol21 : o.length ≤ 21 := by omega
  have s0 := rowL_len 114 o 0
  have s1 := rowL_len 103 o 0
  have s2 := rowL_len 98 o 0
  have hsum := occ_sum o ho
  obtain ⟨ws, w1, w2, w3, w4⟩ := spell_go (pickL xs) (pickL_lt xs)
  have hk := chk_ok (a := (rowL 114 o 0).length) (b := (rowL 103 o 0).length) (c := (rowL 98 o 0).length) (by omega) (by omega) (by omega)
  unfold chk at hk
  rw [Bool.and_eq_true, Bool.and_eq_true, Bool.not_eq_true'] at hk
  obtain ⟨⟨k1, k2⟩, k3⟩ := hk
  have k1 := roundB_ok k1
  have k2 := roundB_ok k2
  refine ⟨sOf o, occ o 114, occ o 98, (rowL 114 o 0).length, (rowL 103 o 0).length, (rowL 98 o 0).length, ?_⟩
  rw [s0] at k1 k2 k3
  rw [s1] at k1 k2
  rw [s2] at k1 k2
  have slen : (signW xs).length ≤ 21 := by rw [str_len]; exact hlen
  refine {
    tlen := ?_, low := ?_, spell := ⟨ws, ?_, join0_ok (n := 13) (c := 2) (Nat.le_trans w3 (pickL_len xs)) w4, ?_⟩, wlen := slen, rule := ?_, mail := ?_, wheel := ?_, dlen := by rw [sOf_len]; exact hol21,
    drgb := ho, rows := ⟨rowL 114 o 0, rowL 103 o 0, rowL 98 o 0, rowOf_is 0 o 0 ho, rowOf_is 1 o 0 ho, rowOf_is 2 o 0 ho, dueRow_is o 114, dueRow_is o 103, dueRow_is o 98, ?_, rfl, rfl, rfl⟩,
    ns := by omega, level := ?_, fin1 := ?_, okR := ?_, okR2 := ?_, mulok := ?_ }
  · rw [str_len, signT_list, List.length_map]; have := pickL_len xs; omega
  · intro c hc
    rw [signT_list] at hc
    obtain ⟨k, hk, rfl⟩ := List.mem_map.mp hc
    exact code_low k (pickL_lt xs k hk)
  · unfold spellL; rw [signT_list]; exact w1
  · refine PySem.Str.ext' (Array.toList_inj.mp ?_)
    rw [join_list, w2, signW_list]
  · have := rule_fn w (signW xs) (by omega)
    rw [ht, hb, hl] at this
    exact this
  · refine ⟨sOf (sweep true (signW xs).cps.toList 0), sOf (sweep false (sweep true (signW xs).cps.toList 0) 0), mail_sweep w true _ hlen, mail_sweep w false _ (by rw [sweep_len]; exact hlen), ?_⟩
    rw [hm]
    exact mail_sweep w true _ (by rw [sweep_len, sweep_len]; exact hlen)
  · refine ⟨sOf (sweep false (signW xs).cps.toList 0), sOf (sweep true (sweep false (signW xs).cps.toList 0) 0), wheel_sweep_fn w false _ hlen, wheel_sweep_fn w true _ (by rw [sweep_len]; exact hlen), ?_⟩
    rw [hw]
    exact wheel_sweep_fn w false _ (by rw [sweep_len, sweep_len]; exact hlen)
  · intro r hr x hx
    rcases List.mem_cons.mp hr with rfl | hr
    · exact rowL_ok _ o 0 (by omega) x hx
    rcases List.mem_cons.mp hr with rfl | hr
    · exact rowL_ok _ o 0 (by omega) x hx
    rcases List.mem_cons.mp hr with rfl | hr
    · exact rowL_ok _ o 0 (by omega) x hx
    · cases hr
  · rw [s0, s1, s2]; unfold mx3; rw [if_neg (by omega), if_neg (by omega)]
  · rw [k3]; decide
  · rw [s0, s1, s2]; exact k1
  · rw [s0, s1, s2, str_len, show ((signW xs).cps.toList.length : Int) - occ o 114 - 2 * occ o 98 = occ o 103 - occ o 98 by omega]; exact k2
  · exact IntMulOk.of_left (by decide)
end Mine
end
noncomputable section
open PySem PySem.Spec PySem.Calls PyProof.Rows PyProof.V PySem.W
set_option Elab.async false
set_option linter.unusedVariables false
set_option maxRecDepth 100000
namespace Mine

theorem items_ints {R : WRecords} : ∀ {xs : List WData}, WShape.hasItems R xs .int = true → ∃ ns : List Int, xs = ns.map .int
  | [], _ => ⟨[], rfl⟩
  | x :: xs, h => by
    rw [WShape.hasItems, Bool.and_eq_true] at h
    obtain ⟨i, rfl⟩ := hasW_int h.1
    obtain ⟨ns, rfl⟩ := items_ints h.2
    exact ⟨i :: ns, rfl⟩
theorem reads_ints {R : WRecords} {cl : Str → Option Addr} {h : Heap} : ∀ {ns : List Int} {vs : List Value} {as : List Addr}, ReadsAllW R cl h vs (ns.map .int) as → All2 (VR []) (ns.map PV.int) vs
  | [], vs, as, r => by cases r; exact .nil
  | n :: ns, vs, as, r => by
    cases r with
    | cons r1 r2 =>
      cases r1
      exact .cons ⟨_, rfl⟩ (reads_ints r2)
theorem pre_is : rwR.toRowW.pre = .and (.not (.lt (.lit (.int 63)) (.len (.arg 0)))) (.lit (.bool true)) := rfl
theorem pre_len {ns : List Int} (h : rwR.toRowW.pre.holds [] { args := [.list (ns.map .int)] } = true) : ns.length ≤ 63 := by
  rw [pre_is] at h
  simp [WTm.holds, WTm.value, W.less?, Num.less?] at h
  cases c : decide ((63 : Int) < (ns.length : Int)) with
  | true => rw [c] at h; cases h
  | false => have := of_decide_eq_false c; omega
theorem post_ok {args : List WData} : rwR.toRowW.claim.post args (.bool true) args = true := by
  wrow_post
theorem call_law : CallT := by
  intro w s₀ s₁ hΦ keeps G args vs as hpre hlay L
  obtain ⟨hsh, hpr⟩ := pre_splitW hpre
  obtain ⟨d, r, rfl, hd, hr⟩ := hasAllW_cons hsh
  obtain rfl := hasAllW_nil hr
  obtain ⟨xs, rfl, hxs⟩ := hasW_list hd
  obtain ⟨ns, rfl⟩ := items_ints hxs
  have hlen := pre_len hpr
  have hrd := L.reads
  obtain ⟨v, a, rfl, hE⟩ : ∃ v a, vs = [.ref a] ∧ ExtL s₁.heap a (ns.map .int) := by
    cases hrd with
    | cons r1 r2 =>
      cases r2
      cases r1 with
      | list h1 h2 h3 h4 =>
        rename_i a o us n as
        exact ⟨(), a, rfl, us.toList, ⟨o, h1, h2, n, by rw [h3]⟩, reads_ints h4⟩
  have T : TF w s₁.heap := tf_of hΦ keeps G
  obtain ⟨due, lo, fe, n0, n1, n2, F⟩ := law_facts w ns
  refine law_fn w a ns hlen F rfl (by decide +kernel) (by decide +kernel) T (fun z hz => by rw [L.gens] at hz; simp at hz) hE fun s' K => ?_
  exact ⟨.inl ⟨.bool true, .bool true, [], rfl, fun _ => rfl, ReadsW.bool true, post_ok, fun _ => ⟨List.nodup_nil, fun _ hm => nomatch hm⟩⟩, .of_keep K.k, K.o, fun y hy => K.g (fun z hz => by rw [L.gens] at hz; simp at hz) y hy⟩
end Mine
end
noncomputable section
open PySem PySem.W PyProof.Rows
set_option Elab.async false
set_option maxRecDepth 100000
namespace Mine
abbrev lw : OpenLaw := PySem.Challenge.rw_wf0107_01
abbrev pw : Program := PySem.Challenge.pw_wf0107_01
theorem lk_1 : sreFenced pw.main = true := by kernel_rfl
theorem lk_2 : ((moduleNames pw.main.body).isEmpty || lookedIntoSs (moduleNames pw.main.body) pw.main.body) = true := by kernel_rfl
theorem lk_3 : namesResolve pw = true := by kernel_rfl
theorem lk_4 : pw.boundNames.all (fun n => !worldNames.contains n) = true := by kernel_rfl
theorem lk_5a : (!(importedModules pw.main.body).all cThrough.contains) = false := by kernel_rfl
theorem rd_1 : readsOut pw pw.main.body "vars" = false := by kernel_rfl
theorem rd_2 : readsOut pw pw.main.body "dir" = false := by kernel_rfl
theorem rd_3 : readsOut pw pw.main.body "locals" = false := by kernel_rfl
theorem lk_5b : (["vars", "dir", "locals"] : List Str).filter (readsOut pw pw.main.body) = [] := by
  rw [List.filter_cons, rd_1, List.filter_cons, rd_2, List.filter_cons, rd_3]; rfl
theorem lk_5c : noRoadLSs { strict := false, foot := none, bare := [] } pw.main.body = true := by kernel_rfl
theorem lk_5 : noRoadLSs { strict := !(importedModules pw.main.body).all cThrough.contains, foot := none, bare := (["vars", "dir", "locals"] : List Str).filter (readsOut pw pw.main.body) } pw.main.body = true := by
  rw [lk_5a, lk_5b]; exact lk_5c
theorem lk_6 : (namesMeet pw pw.main.body fun _ n => attrL n) = true := by kernel_rfl
theorem looks_ok : looksOpen pw = true := by
  unfold looksOpen
  rw [lk_1, lk_2, lk_3, lk_4, lk_5, lk_6]; rfl
theorem lw_solid : lw.row.toRowW.solid = true := by kernel_rfl
theorem lw_part : lw.row.partSaid = true := by
  unfold OpenRow.partSaid
  rw [show lw.row.prog = pw from rfl, looks_ok, lw_solid]
  kernel_rfl
theorem lw_named : (pw.boundNames.contains lw.name && !startupNames.contains lw.name) = true := by kernel_rfl
theorem row_ok : lw.row.wellSaid = true := by
  unfold OpenRow.wellSaid
  rw [lw_part, Bool.true_and]
  exact lw_named
theorem lw_1 : (decide (lw.foot ≤ (behindTheImports pw).length)) = true := by kernel_rfl
theorem lw_1b : lw.footing.all footLine = true := by kernel_rfl
theorem lw_1c : noClassBlock pw lw.footing = true := by kernel_rfl
theorem lw_2 : noRoadLSs { strict := true, foot := some lw.bound', writes := lw.writes, may := lw.may } lw.footing = true := by kernel_rfl
theorem lw_3 : defStands lw.about lw.above = true := by kernel_rfl
theorem lw_3b : lw.namesIt = true := by kernel_rfl
theorem lw_5 : lw.bound'.all (fun n => !builtinNamed n || lw.about == [n] || !lw.reads n) = true := by kernel_rfl
theorem lw_6 : ((pw.main.body.flatMap importedNames).all (fun n => !lw.reads n || (drawsOf n pw.main.body).all fun mn => mn.2 != ("attrgetter" : Str) && mn.2 != ("methodcaller" : Str))) = true := by kernel_rfl
theorem lw_7 : (namesMeet pw lw.footing (fun sc n => (!(["type", "isinstance", "issubclass", "getattr", "hasattr"] : List Str).contains n || sc.names.lookup n == some .globalImplicit) &&
    (lw.may != some n || sc.kind == .module || sc.names.lookup n == some .globalImplicit))) = true := by kernel_rfl
theorem lw_8 : lw.own.all (fun n => !builtinNamed n) = true := by kernel_rfl
theorem lw_9 : namesMeet pw lw.above (fun _ n => !lw.own.contains n) = true := by kernel_rfl
theorem lw_10 : (namesMeet pw lw.footing fun sc n => sc.kind == .module || sc.names.lookup n != some .globalExplicit) = true := by kernel_rfl
theorem said_ok : lw.wellSaid = true := by
  unfold OpenLaw.wellSaid
  rw [show lw.prog = pw from rfl, row_ok, lw_1, lw_1b, lw_1c, lw_2, lw_3, lw_3b, lw_5, lw_6, lw_7, lw_8, lw_9, lw_10]
  kernel_rfl
end Mine
end
open PySem PySem.W PyProof.Rows
theorem PySem.Challenge.cw_wf0107_01_holds : PySem.Challenge.rw_wf0107_01.Holds :=
  holds_law Mine.said_ok fun said => Mine.row_holds said Mine.call_law
