import PyProof.Rows.All
import PyProof.CollectIter
import PyProof.ListCopy
import KE.KLam
import KE.KStar
import KE.KSuperObj
import Wide.FinOn
import OpenK.AllK
import Wide.All
import Lean
import PySem.Challenge.RW_il0121_01
set_option Elab.async false
set_option linter.all false

section
open PySem PySem.W PyProof.Rows PySem.Calls
set_option maxRecDepth 1000000
set_option maxHeartbeats 0
set_option linter.all false
namespace Mine
noncomputable abbrev pw := PySem.Challenge.pw_il0121_01
noncomputable def stOf (n : Nat) : Stmt := (PySem.Challenge.pw_il0121_01.main.body[n]?).getD (.Pass default)
noncomputable def fbody : Stmt → List Stmt
  | .FunctionDef _ _ b _ _ _ _ _ _ _ => b
  | _ => []
noncomputable def fscope : Stmt → Scope
  | .FunctionDef _ _ _ _ _ _ s _ _ _ => s
  | _ => { kind := .function, names := [], isGenerator := false, isCoroutine := false }
noncomputable def fparams : Stmt → Arguments
  | .FunctionDef _ a _ _ _ _ _ _ _ _ => a
  | _ => ⟨[], [], none, [], [], none, []⟩
noncomputable def cbody : Stmt → List Stmt
  | .ClassDef _ _ _ b .. => b
  | _ => []
noncomputable def mst (c k : Nat) : Stmt := ((cbody (stOf c))[k]?).getD (.Pass default)
noncomputable def sN (l : List Nat) : Str := ⟨⟨l⟩⟩
/-! the head's heap, object by object (written by a program) -/
noncomputable def ko_0 (P : Params) : Obj := (Obj.mk (Value.type "dict") none (Data.dict #[(DictEntry.mk (PyData.keyHash P (sN [95, 95, 110, 97, 109, 101, 95, 95])) (Value.str (sN [95, 95, 110, 97, 109, 101, 95, 95]) 1) (Value.str (sN [98, 117, 105, 108, 116, 105, 110, 115]) 160)), (DictEntry.mk (PyData.keyHash P (sN [95, 95, 100, 111, 99, 95, 95])) (Value.str (sN [95, 95, 100, 111, 99, 95, 95]) 2) (Value.builtin "builtins.__doc__:str#opaque")), (DictEntry.mk (PyData.keyHash P (sN [95, 95, 112, 97, 99, 107, 97, 103, 101, 95, 95])) (Value.str (sN [95, 95, 112, 97, 99, 107, 97, 103, 101, 95, 95]) 3) (Value.builtin "builtins.__package__:str#opaque")), (DictEntry.mk (PyData.keyHash P (sN [95, 95, 108, 111, 97, 100, 101, 114, 95, 95])) (Value.str (sN [95, 95, 108, 111, 97, 100, 101, 114, 95, 95]) 4) (Value.builtin "builtins.__loader__:shared#opaque")), (DictEntry.mk (PyData.keyHash P (sN [95, 95, 115, 112, 101, 99, 95, 95])) (Value.str (sN [95, 95, 115, 112, 101, 99, 95, 95]) 5) (Value.builtin "builtins.__spec__#opaque")), (DictEntry.mk (PyData.keyHash P (sN [95, 95, 98, 117, 105, 108, 100, 95, 99, 108, 97, 115, 115, 95, 95])) (Value.str (sN [95, 95, 98, 117, 105, 108, 100, 95, 99, 108, 97, 115, 115, 95, 95]) 6) (Value.builtin "__build_class__")), (DictEntry.mk (PyData.keyHash P (sN [95, 95, 105, 109, 112, 111, 114, 116, 95, 95])) (Value.str (sN [95, 95, 105, 109, 112, 111, 114, 116, 95, 95]) 7) (Value.builtin "__import__")), (DictEntry.mk (PyData.keyHash P (sN [97, 98, 115])) (Value.str (sN [97, 98, 115]) 8) (Value.builtin "abs")), (DictEntry.mk (PyData.keyHash P (sN [97, 108, 108])) (Value.str (sN [97, 108, 108]) 9) (Value.builtin "all")), (DictEntry.mk (PyData.keyHash P (sN [97, 110, 121])) (Value.str (sN [97, 110, 121]) 10) (Value.builtin "any")), (DictEntry.mk (PyData.keyHash P (sN [97, 115, 99, 105, 105])) (Value.str (sN [97, 115, 99, 105, 105]) 11) (Value.builtin "ascii")), (DictEntry.mk (PyData.keyHash P (sN [98, 105, 110])) (Value.str (sN [98, 105, 110]) 12) (Value.builtin "bin")), (DictEntry.mk (PyData.keyHash P (sN [98, 114, 101, 97, 107, 112, 111, 105, 110, 116])) (Value.str (sN [98, 114, 101, 97, 107, 112, 111, 105, 110, 116]) 13) (Value.builtin "breakpoint")), (DictEntry.mk (PyData.keyHash P (sN [99, 97, 108, 108, 97, 98, 108, 101])) (Value.str (sN [99, 97, 108, 108, 97, 98, 108, 101]) 14) (Value.builtin "callable")), (DictEntry.mk (PyData.keyHash P (sN [99, 104, 114])) (Value.str (sN [99, 104, 114]) 15) (Value.builtin "chr")), (DictEntry.mk (PyData.keyHash P (sN [99, 111, 109, 112, 105, 108, 101])) (Value.str (sN [99, 111, 109, 112, 105, 108, 101]) 16) (Value.builtin "compile")), (DictEntry.mk (PyData.keyHash P (sN [100, 101, 108, 97, 116, 116, 114])) (Value.str (sN [100, 101, 108, 97, 116, 116, 114]) 17) (Value.builtin "delattr")), (DictEntry.mk (PyData.keyHash P (sN [100, 105, 114])) (Value.str (sN [100, 105, 114]) 18) (Value.builtin "dir")), (DictEntry.mk (PyData.keyHash P (sN [100, 105, 118, 109, 111, 100])) (Value.str (sN [100, 105, 118, 109, 111, 100]) 19) (Value.builtin "divmod")), (DictEntry.mk (PyData.keyHash P (sN [101, 118, 97, 108])) (Value.str (sN [101, 118, 97, 108]) 20) (Value.builtin "eval")), (DictEntry.mk (PyData.keyHash P (sN [101, 120, 101, 99])) (Value.str (sN [101, 120, 101, 99]) 21) (Value.builtin "exec")), (DictEntry.mk (PyData.keyHash P (sN [102, 111, 114, 109, 97, 116])) (Value.str (sN [102, 111, 114, 109, 97, 116]) 22) (Value.builtin "format")), (DictEntry.mk (PyData.keyHash P (sN [103, 101, 116, 97, 116, 116, 114])) (Value.str (sN [103, 101, 116, 97, 116, 116, 114]) 23) (Value.builtin "getattr")), (DictEntry.mk (PyData.keyHash P (sN [103, 108, 111, 98, 97, 108, 115])) (Value.str (sN [103, 108, 111, 98, 97, 108, 115]) 24) (Value.builtin "globals")), (DictEntry.mk (PyData.keyHash P (sN [104, 97, 115, 97, 116, 116, 114])) (Value.str (sN [104, 97, 115, 97, 116, 116, 114]) 25) (Value.builtin "hasattr")), (DictEntry.mk (PyData.keyHash P (sN [104, 97, 115, 104])) (Value.str (sN [104, 97, 115, 104]) 26) (Value.builtin "hash")), (DictEntry.mk (PyData.keyHash P (sN [104, 101, 120])) (Value.str (sN [104, 101, 120]) 27) (Value.builtin "hex")), (DictEntry.mk (PyData.keyHash P (sN [105, 100])) (Value.str (sN [105, 100]) 28) (Value.builtin "id")), (DictEntry.mk (PyData.keyHash P (sN [105, 110, 112, 117, 116])) (Value.str (sN [105, 110, 112, 117, 116]) 29) (Value.builtin "input")), (DictEntry.mk (PyData.keyHash P (sN [105, 115, 105, 110, 115, 116, 97, 110, 99, 101])) (Value.str (sN [105, 115, 105, 110, 115, 116, 97, 110, 99, 101]) 30) (Value.builtin "isinstance")), (DictEntry.mk (PyData.keyHash P (sN [105, 115, 115, 117, 98, 99, 108, 97, 115, 115])) (Value.str (sN [105, 115, 115, 117, 98, 99, 108, 97, 115, 115]) 31) (Value.builtin "issubclass")), (DictEntry.mk (PyData.keyHash P (sN [105, 116, 101, 114])) (Value.str (sN [105, 116, 101, 114]) 32) (Value.builtin "iter")), (DictEntry.mk (PyData.keyHash P (sN [97, 105, 116, 101, 114])) (Value.str (sN [97, 105, 116, 101, 114]) 33) (Value.builtin "aiter")), (DictEntry.mk (PyData.keyHash P (sN [108, 101, 110])) (Value.str (sN [108, 101, 110]) 34) (Value.builtin "len")), (DictEntry.mk (PyData.keyHash P (sN [108, 111, 99, 97, 108, 115])) (Value.str (sN [108, 111, 99, 97, 108, 115]) 35) (Value.builtin "locals")), (DictEntry.mk (PyData.keyHash P (sN [109, 97, 120])) (Value.str (sN [109, 97, 120]) 36) (Value.builtin "max")), (DictEntry.mk (PyData.keyHash P (sN [109, 105, 110])) (Value.str (sN [109, 105, 110]) 37) (Value.builtin "min")), (DictEntry.mk (PyData.keyHash P (sN [110, 101, 120, 116])) (Value.str (sN [110, 101, 120, 116]) 38) (Value.builtin "next")), (DictEntry.mk (PyData.keyHash P (sN [97, 110, 101, 120, 116])) (Value.str (sN [97, 110, 101, 120, 116]) 39) (Value.builtin "anext")), (DictEntry.mk (PyData.keyHash P (sN [111, 99, 116])) (Value.str (sN [111, 99, 116]) 40) (Value.builtin "oct")), (DictEntry.mk (PyData.keyHash P (sN [111, 114, 100])) (Value.str (sN [111, 114, 100]) 41) (Value.builtin "ord")), (DictEntry.mk (PyData.keyHash P (sN [112, 111, 119])) (Value.str (sN [112, 111, 119]) 42) (Value.builtin "pow")), (DictEntry.mk (PyData.keyHash P (sN [112, 114, 105, 110, 116])) (Value.str (sN [112, 114, 105, 110, 116]) 43) (Value.builtin "print")), (DictEntry.mk (PyData.keyHash P (sN [114, 101, 112, 114])) (Value.str (sN [114, 101, 112, 114]) 44) (Value.builtin "repr")), (DictEntry.mk (PyData.keyHash P (sN [114, 111, 117, 110, 100])) (Value.str (sN [114, 111, 117, 110, 100]) 45) (Value.builtin "round")), (DictEntry.mk (PyData.keyHash P (sN [115, 101, 116, 97, 116, 116, 114])) (Value.str (sN [115, 101, 116, 97, 116, 116, 114]) 46) (Value.builtin "setattr")), (DictEntry.mk (PyData.keyHash P (sN [115, 111, 114, 116, 101, 100])) (Value.str (sN [115, 111, 114, 116, 101, 100]) 47) (Value.builtin "sorted")), (DictEntry.mk (PyData.keyHash P (sN [115, 117, 109])) (Value.str (sN [115, 117, 109]) 48) (Value.builtin "sum")), (DictEntry.mk (PyData.keyHash P (sN [118, 97, 114, 115])) (Value.str (sN [118, 97, 114, 115]) 49) (Value.builtin "vars")), (DictEntry.mk (PyData.keyHash P (sN [78, 111, 110, 101])) (Value.str (sN [78, 111, 110, 101]) 50) Value.none), (DictEntry.mk (PyData.keyHash P (sN [69, 108, 108, 105, 112, 115, 105, 115])) (Value.str (sN [69, 108, 108, 105, 112, 115, 105, 115]) 51) Value.ellipsis), (DictEntry.mk (PyData.keyHash P (sN [78, 111, 116, 73, 109, 112, 108, 101, 109, 101, 110, 116, 101, 100])) (Value.str (sN [78, 111, 116, 73, 109, 112, 108, 101, 109, 101, 110, 116, 101, 100]) 52) Value.notImplemented), (DictEntry.mk (PyData.keyHash P (sN [70, 97, 108, 115, 101])) (Value.str (sN [70, 97, 108, 115, 101]) 53) (Value.bool Bool.false)), (DictEntry.mk (PyData.keyHash P (sN [84, 114, 117, 101])) (Value.str (sN [84, 114, 117, 101]) 54) (Value.bool Bool.true)), (DictEntry.mk (PyData.keyHash P (sN [98, 111, 111, 108])) (Value.str (sN [98, 111, 111, 108]) 55) (Value.type "bool")), (DictEntry.mk (PyData.keyHash P (sN [109, 101, 109, 111, 114, 121, 118, 105, 101, 119])) (Value.str (sN [109, 101, 109, 111, 114, 121, 118, 105, 101, 119]) 56) (Value.type "memoryview")), (DictEntry.mk (PyData.keyHash P (sN [98, 121, 116, 101, 97, 114, 114, 97, 121])) (Value.str (sN [98, 121, 116, 101, 97, 114, 114, 97, 121]) 57) (Value.type "bytearray")), (DictEntry.mk (PyData.keyHash P (sN [98, 121, 116, 101, 115])) (Value.str (sN [98, 121, 116, 101, 115]) 58) (Value.type "bytes")), (DictEntry.mk (PyData.keyHash P (sN [99, 108, 97, 115, 115, 109, 101, 116, 104, 111, 100])) (Value.str (sN [99, 108, 97, 115, 115, 109, 101, 116, 104, 111, 100]) 59) (Value.type "classmethod")), (DictEntry.mk (PyData.keyHash P (sN [99, 111, 109, 112, 108, 101, 120])) (Value.str (sN [99, 111, 109, 112, 108, 101, 120]) 60) (Value.type "complex")), (DictEntry.mk (PyData.keyHash P (sN [100, 105, 99, 116])) (Value.str (sN [100, 105, 99, 116]) 61) (Value.type "dict")), (DictEntry.mk (PyData.keyHash P (sN [101, 110, 117, 109, 101, 114, 97, 116, 101])) (Value.str (sN [101, 110, 117, 109, 101, 114, 97, 116, 101]) 62) (Value.type "enumerate")), (DictEntry.mk (PyData.keyHash P (sN [102, 105, 108, 116, 101, 114])) (Value.str (sN [102, 105, 108, 116, 101, 114]) 63) (Value.type "filter")), (DictEntry.mk (PyData.keyHash P (sN [102, 108, 111, 97, 116])) (Value.str (sN [102, 108, 111, 97, 116]) 64) (Value.type "float")), (DictEntry.mk (PyData.keyHash P (sN [102, 114, 111, 122, 101, 110, 115, 101, 116])) (Value.str (sN [102, 114, 111, 122, 101, 110, 115, 101, 116]) 65) (Value.type "frozenset")), (DictEntry.mk (PyData.keyHash P (sN [112, 114, 111, 112, 101, 114, 116, 121])) (Value.str (sN [112, 114, 111, 112, 101, 114, 116, 121]) 66) (Value.type "property")), (DictEntry.mk (PyData.keyHash P (sN [105, 110, 116])) (Value.str (sN [105, 110, 116]) 67) (Value.type "int")), (DictEntry.mk (PyData.keyHash P (sN [108, 105, 115, 116])) (Value.str (sN [108, 105, 115, 116]) 68) (Value.type "list")), (DictEntry.mk (PyData.keyHash P (sN [109, 97, 112])) (Value.str (sN [109, 97, 112]) 69) (Value.type "map")), (DictEntry.mk (PyData.keyHash P (sN [111, 98, 106, 101, 99, 116])) (Value.str (sN [111, 98, 106, 101, 99, 116]) 70) (Value.type "object")), (DictEntry.mk (PyData.keyHash P (sN [114, 97, 110, 103, 101])) (Value.str (sN [114, 97, 110, 103, 101]) 71) (Value.type "range")), (DictEntry.mk (PyData.keyHash P (sN [114, 101, 118, 101, 114, 115, 101, 100])) (Value.str (sN [114, 101, 118, 101, 114, 115, 101, 100]) 72) (Value.type "reversed")), (DictEntry.mk (PyData.keyHash P (sN [115, 101, 116])) (Value.str (sN [115, 101, 116]) 73) (Value.type "set")), (DictEntry.mk (PyData.keyHash P (sN [115, 108, 105, 99, 101])) (Value.str (sN [115, 108, 105, 99, 101]) 74) (Value.type "slice")), (DictEntry.mk (PyData.keyHash P (sN [115, 116, 97, 116, 105, 99, 109, 101, 116, 104, 111, 100])) (Value.str (sN [115, 116, 97, 116, 105, 99, 109, 101, 116, 104, 111, 100]) 75) (Value.type "staticmethod")), (DictEntry.mk (PyData.keyHash P (sN [115, 116, 114])) (Value.str (sN [115, 116, 114]) 76) (Value.type "str")), (DictEntry.mk (PyData.keyHash P (sN [115, 117, 112, 101, 114])) (Value.str (sN [115, 117, 112, 101, 114]) 77) (Value.type "super")), (DictEntry.mk (PyData.keyHash P (sN [116, 117, 112, 108, 101])) (Value.str (sN [116, 117, 112, 108, 101]) 78) (Value.type "tuple")), (DictEntry.mk (PyData.keyHash P (sN [116, 121, 112, 101])) (Value.str (sN [116, 121, 112, 101]) 79) (Value.type "type")), (DictEntry.mk (PyData.keyHash P (sN [122, 105, 112])) (Value.str (sN [122, 105, 112]) 80) (Value.type "zip")), (DictEntry.mk (PyData.keyHash P (sN [95, 95, 100, 101, 98, 117, 103, 95, 95])) (Value.str (sN [95, 95, 100, 101, 98, 117, 103, 95, 95]) 81) (Value.bool Bool.true)), (DictEntry.mk (PyData.keyHash P (sN [66, 97, 115, 101, 69, 120, 99, 101, 112, 116, 105, 111, 110])) (Value.str (sN [66, 97, 115, 101, 69, 120, 99, 101, 112, 116, 105, 111, 110]) 82) (Value.type "BaseException")), (DictEntry.mk (PyData.keyHash P (sN [66, 97, 115, 101, 69, 120, 99, 101, 112, 116, 105, 111, 110, 71, 114, 111, 117, 112])) (Value.str (sN [66, 97, 115, 101, 69, 120, 99, 101, 112, 116, 105, 111, 110, 71, 114, 111, 117, 112]) 83) (Value.type "BaseExceptionGroup")), (DictEntry.mk (PyData.keyHash P (sN [69, 120, 99, 101, 112, 116, 105, 111, 110])) (Value.str (sN [69, 120, 99, 101, 112, 116, 105, 111, 110]) 84) (Value.type "Exception")), (DictEntry.mk (PyData.keyHash P (sN [71, 101, 110, 101, 114, 97, 116, 111, 114, 69, 120, 105, 116])) (Value.str (sN [71, 101, 110, 101, 114, 97, 116, 111, 114, 69, 120, 105, 116]) 85) (Value.type "GeneratorExit")), (DictEntry.mk (PyData.keyHash P (sN [75, 101, 121, 98, 111, 97, 114, 100, 73, 110, 116, 101, 114, 114, 117, 112, 116])) (Value.str (sN [75, 101, 121, 98, 111, 97, 114, 100, 73, 110, 116, 101, 114, 114, 117, 112, 116]) 86) (Value.type "KeyboardInterrupt")), (DictEntry.mk (PyData.keyHash P (sN [83, 121, 115, 116, 101, 109, 69, 120, 105, 116])) (Value.str (sN [83, 121, 115, 116, 101, 109, 69, 120, 105, 116]) 87) (Value.type "SystemExit")), (DictEntry.mk (PyData.keyHash P (sN [65, 114, 105, 116, 104, 109, 101, 116, 105, 99, 69, 114, 114, 111, 114])) (Value.str (sN [65, 114, 105, 116, 104, 109, 101, 116, 105, 99, 69, 114, 114, 111, 114]) 88) (Value.type "ArithmeticError")), (DictEntry.mk (PyData.keyHash P (sN [65, 115, 115, 101, 114, 116, 105, 111, 110, 69, 114, 114, 111, 114])) (Value.str (sN [65, 115, 115, 101, 114, 116, 105, 111, 110, 69, 114, 114, 111, 114]) 89) (Value.type "AssertionError")), (DictEntry.mk (PyData.keyHash P (sN [65, 116, 116, 114, 105, 98, 117, 116, 101, 69, 114, 114, 111, 114])) (Value.str (sN [65, 116, 116, 114, 105, 98, 117, 116, 101, 69, 114, 114, 111, 114]) 90) (Value.type "AttributeError")), (DictEntry.mk (PyData.keyHash P (sN [66, 117, 102, 102, 101, 114, 69, 114, 114, 111, 114])) (Value.str (sN [66, 117, 102, 102, 101, 114, 69, 114, 114, 111, 114]) 91) (Value.type "BufferError")), (DictEntry.mk (PyData.keyHash P (sN [69, 79, 70, 69, 114, 114, 111, 114])) (Value.str (sN [69, 79, 70, 69, 114, 114, 111, 114]) 92) (Value.type "EOFError")), (DictEntry.mk (PyData.keyHash P (sN [73, 109, 112, 111, 114, 116, 69, 114, 114, 111, 114])) (Value.str (sN [73, 109, 112, 111, 114, 116, 69, 114, 114, 111, 114]) 93) (Value.type "ImportError")), (DictEntry.mk (PyData.keyHash P (sN [76, 111, 111, 107, 117, 112, 69, 114, 114, 111, 114])) (Value.str (sN [76, 111, 111, 107, 117, 112, 69, 114, 114, 111, 114]) 94) (Value.type "LookupError")), (DictEntry.mk (PyData.keyHash P (sN [77, 101, 109, 111, 114, 121, 69, 114, 114, 111, 114])) (Value.str (sN [77, 101, 109, 111, 114, 121, 69, 114, 114, 111, 114]) 95) (Value.type "MemoryError")), (DictEntry.mk (PyData.keyHash P (sN [78, 97, 109, 101, 69, 114, 114, 111, 114])) (Value.str (sN [78, 97, 109, 101, 69, 114, 114, 111, 114]) 96) (Value.type "NameError")), (DictEntry.mk (PyData.keyHash P (sN [79, 83, 69, 114, 114, 111, 114])) (Value.str (sN [79, 83, 69, 114, 114, 111, 114]) 97) (Value.type "OSError")), (DictEntry.mk (PyData.keyHash P (sN [82, 101, 102, 101, 114, 101, 110, 99, 101, 69, 114, 114, 111, 114])) (Value.str (sN [82, 101, 102, 101, 114, 101, 110, 99, 101, 69, 114, 114, 111, 114]) 98) (Value.type "ReferenceError")), (DictEntry.mk (PyData.keyHash P (sN [82, 117, 110, 116, 105, 109, 101, 69, 114, 114, 111, 114])) (Value.str (sN [82, 117, 110, 116, 105, 109, 101, 69, 114, 114, 111, 114]) 99) (Value.type "RuntimeError")), (DictEntry.mk (PyData.keyHash P (sN [83, 116, 111, 112, 65, 115, 121, 110, 99, 73, 116, 101, 114, 97, 116, 105, 111, 110])) (Value.str (sN [83, 116, 111, 112, 65, 115, 121, 110, 99, 73, 116, 101, 114, 97, 116, 105, 111, 110]) 100) (Value.type "StopAsyncIteration")), (DictEntry.mk (PyData.keyHash P (sN [83, 116, 111, 112, 73, 116, 101, 114, 97, 116, 105, 111, 110])) (Value.str (sN [83, 116, 111, 112, 73, 116, 101, 114, 97, 116, 105, 111, 110]) 101) (Value.type "StopIteration")), (DictEntry.mk (PyData.keyHash P (sN [83, 121, 110, 116, 97, 120, 69, 114, 114, 111, 114])) (Value.str (sN [83, 121, 110, 116, 97, 120, 69, 114, 114, 111, 114]) 102) (Value.type "SyntaxError")), (DictEntry.mk (PyData.keyHash P (sN [83, 121, 115, 116, 101, 109, 69, 114, 114, 111, 114])) (Value.str (sN [83, 121, 115, 116, 101, 109, 69, 114, 114, 111, 114]) 103) (Value.type "SystemError")), (DictEntry.mk (PyData.keyHash P (sN [84, 121, 112, 101, 69, 114, 114, 111, 114])) (Value.str (sN [84, 121, 112, 101, 69, 114, 114, 111, 114]) 104) (Value.type "TypeError")), (DictEntry.mk (PyData.keyHash P (sN [86, 97, 108, 117, 101, 69, 114, 114, 111, 114])) (Value.str (sN [86, 97, 108, 117, 101, 69, 114, 114, 111, 114]) 105) (Value.type "ValueError")), (DictEntry.mk (PyData.keyHash P (sN [87, 97, 114, 110, 105, 110, 103])) (Value.str (sN [87, 97, 114, 110, 105, 110, 103]) 106) (Value.type "Warning")), (DictEntry.mk (PyData.keyHash P (sN [70, 108, 111, 97, 116, 105, 110, 103, 80, 111, 105, 110, 116, 69, 114, 114, 111, 114])) (Value.str (sN [70, 108, 111, 97, 116, 105, 110, 103, 80, 111, 105, 110, 116, 69, 114, 114, 111, 114]) 107) (Value.type "FloatingPointError")), (DictEntry.mk (PyData.keyHash P (sN [79, 118, 101, 114, 102, 108, 111, 119, 69, 114, 114, 111, 114])) (Value.str (sN [79, 118, 101, 114, 102, 108, 111, 119, 69, 114, 114, 111, 114]) 108) (Value.type "OverflowError")), (DictEntry.mk (PyData.keyHash P (sN [90, 101, 114, 111, 68, 105, 118, 105, 115, 105, 111, 110, 69, 114, 114, 111, 114])) (Value.str (sN [90, 101, 114, 111, 68, 105, 118, 105, 115, 105, 111, 110, 69, 114, 114, 111, 114]) 109) (Value.type "ZeroDivisionError")), (DictEntry.mk (PyData.keyHash P (sN [66, 121, 116, 101, 115, 87, 97, 114, 110, 105, 110, 103])) (Value.str (sN [66, 121, 116, 101, 115, 87, 97, 114, 110, 105, 110, 103]) 110) (Value.type "BytesWarning")), (DictEntry.mk (PyData.keyHash P (sN [68, 101, 112, 114, 101, 99, 97, 116, 105, 111, 110, 87, 97, 114, 110, 105, 110, 103])) (Value.str (sN [68, 101, 112, 114, 101, 99, 97, 116, 105, 111, 110, 87, 97, 114, 110, 105, 110, 103]) 111) (Value.type "DeprecationWarning")), (DictEntry.mk (PyData.keyHash P (sN [69, 110, 99, 111, 100, 105, 110, 103, 87, 97, 114, 110, 105, 110, 103])) (Value.str (sN [69, 110, 99, 111, 100, 105, 110, 103, 87, 97, 114, 110, 105, 110, 103]) 112) (Value.type "EncodingWarning")), (DictEntry.mk (PyData.keyHash P (sN [70, 117, 116, 117, 114, 101, 87, 97, 114, 110, 105, 110, 103])) (Value.str (sN [70, 117, 116, 117, 114, 101, 87, 97, 114, 110, 105, 110, 103]) 113) (Value.type "FutureWarning")), (DictEntry.mk (PyData.keyHash P (sN [73, 109, 112, 111, 114, 116, 87, 97, 114, 110, 105, 110, 103])) (Value.str (sN [73, 109, 112, 111, 114, 116, 87, 97, 114, 110, 105, 110, 103]) 114) (Value.type "ImportWarning")), (DictEntry.mk (PyData.keyHash P (sN [80, 101, 110, 100, 105, 110, 103, 68, 101, 112, 114, 101, 99, 97, 116, 105, 111, 110, 87, 97, 114, 110, 105, 110, 103])) (Value.str (sN [80, 101, 110, 100, 105, 110, 103, 68, 101, 112, 114, 101, 99, 97, 116, 105, 111, 110, 87, 97, 114, 110, 105, 110, 103]) 115) (Value.type "PendingDeprecationWarning")), (DictEntry.mk (PyData.keyHash P (sN [82, 101, 115, 111, 117, 114, 99, 101, 87, 97, 114, 110, 105, 110, 103])) (Value.str (sN [82, 101, 115, 111, 117, 114, 99, 101, 87, 97, 114, 110, 105, 110, 103]) 116) (Value.type "ResourceWarning")), (DictEntry.mk (PyData.keyHash P (sN [82, 117, 110, 116, 105, 109, 101, 87, 97, 114, 110, 105, 110, 103])) (Value.str (sN [82, 117, 110, 116, 105, 109, 101, 87, 97, 114, 110, 105, 110, 103]) 117) (Value.type "RuntimeWarning")), (DictEntry.mk (PyData.keyHash P (sN [83, 121, 110, 116, 97, 120, 87, 97, 114, 110, 105, 110, 103])) (Value.str (sN [83, 121, 110, 116, 97, 120, 87, 97, 114, 110, 105, 110, 103]) 118) (Value.type "SyntaxWarning")), (DictEntry.mk (PyData.keyHash P (sN [85, 110, 105, 99, 111, 100, 101, 87, 97, 114, 110, 105, 110, 103])) (Value.str (sN [85, 110, 105, 99, 111, 100, 101, 87, 97, 114, 110, 105, 110, 103]) 119) (Value.type "UnicodeWarning")), (DictEntry.mk (PyData.keyHash P (sN [85, 115, 101, 114, 87, 97, 114, 110, 105, 110, 103])) (Value.str (sN [85, 115, 101, 114, 87, 97, 114, 110, 105, 110, 103]) 120) (Value.type "UserWarning")), (DictEntry.mk (PyData.keyHash P (sN [66, 108, 111, 99, 107, 105, 110, 103, 73, 79, 69, 114, 114, 111, 114])) (Value.str (sN [66, 108, 111, 99, 107, 105, 110, 103, 73, 79, 69, 114, 114, 111, 114]) 121) (Value.type "BlockingIOError")), (DictEntry.mk (PyData.keyHash P (sN [67, 104, 105, 108, 100, 80, 114, 111, 99, 101, 115, 115, 69, 114, 114, 111, 114])) (Value.str (sN [67, 104, 105, 108, 100, 80, 114, 111, 99, 101, 115, 115, 69, 114, 114, 111, 114]) 122) (Value.type "ChildProcessError")), (DictEntry.mk (PyData.keyHash P (sN [67, 111, 110, 110, 101, 99, 116, 105, 111, 110, 69, 114, 114, 111, 114])) (Value.str (sN [67, 111, 110, 110, 101, 99, 116, 105, 111, 110, 69, 114, 114, 111, 114]) 123) (Value.type "ConnectionError")), (DictEntry.mk (PyData.keyHash P (sN [70, 105, 108, 101, 69, 120, 105, 115, 116, 115, 69, 114, 114, 111, 114])) (Value.str (sN [70, 105, 108, 101, 69, 120, 105, 115, 116, 115, 69, 114, 114, 111, 114]) 124) (Value.type "FileExistsError")), (DictEntry.mk (PyData.keyHash P (sN [70, 105, 108, 101, 78, 111, 116, 70, 111, 117, 110, 100, 69, 114, 114, 111, 114])) (Value.str (sN [70, 105, 108, 101, 78, 111, 116, 70, 111, 117, 110, 100, 69, 114, 114, 111, 114]) 125) (Value.type "FileNotFoundError")), (DictEntry.mk (PyData.keyHash P (sN [73, 110, 116, 101, 114, 114, 117, 112, 116, 101, 100, 69, 114, 114, 111, 114])) (Value.str (sN [73, 110, 116, 101, 114, 114, 117, 112, 116, 101, 100, 69, 114, 114, 111, 114]) 126) (Value.type "InterruptedError")), (DictEntry.mk (PyData.keyHash P (sN [73, 115, 65, 68, 105, 114, 101, 99, 116, 111, 114, 121, 69, 114, 114, 111, 114])) (Value.str (sN [73, 115, 65, 68, 105, 114, 101, 99, 116, 111, 114, 121, 69, 114, 114, 111, 114]) 127) (Value.type "IsADirectoryError")), (DictEntry.mk (PyData.keyHash P (sN [78, 111, 116, 65, 68, 105, 114, 101, 99, 116, 111, 114, 121, 69, 114, 114, 111, 114])) (Value.str (sN [78, 111, 116, 65, 68, 105, 114, 101, 99, 116, 111, 114, 121, 69, 114, 114, 111, 114]) 128) (Value.type "NotADirectoryError")), (DictEntry.mk (PyData.keyHash P (sN [80, 101, 114, 109, 105, 115, 115, 105, 111, 110, 69, 114, 114, 111, 114])) (Value.str (sN [80, 101, 114, 109, 105, 115, 115, 105, 111, 110, 69, 114, 114, 111, 114]) 129) (Value.type "PermissionError")), (DictEntry.mk (PyData.keyHash P (sN [80, 114, 111, 99, 101, 115, 115, 76, 111, 111, 107, 117, 112, 69, 114, 114, 111, 114])) (Value.str (sN [80, 114, 111, 99, 101, 115, 115, 76, 111, 111, 107, 117, 112, 69, 114, 114, 111, 114]) 130) (Value.type "ProcessLookupError")), (DictEntry.mk (PyData.keyHash P (sN [84, 105, 109, 101, 111, 117, 116, 69, 114, 114, 111, 114])) (Value.str (sN [84, 105, 109, 101, 111, 117, 116, 69, 114, 114, 111, 114]) 131) (Value.type "TimeoutError")), (DictEntry.mk (PyData.keyHash P (sN [73, 110, 100, 101, 110, 116, 97, 116, 105, 111, 110, 69, 114, 114, 111, 114])) (Value.str (sN [73, 110, 100, 101, 110, 116, 97, 116, 105, 111, 110, 69, 114, 114, 111, 114]) 132) (Value.type "IndentationError")), (DictEntry.mk (PyData.keyHash P (sN [95, 73, 110, 99, 111, 109, 112, 108, 101, 116, 101, 73, 110, 112, 117, 116, 69, 114, 114, 111, 114])) (Value.str (sN [95, 73, 110, 99, 111, 109, 112, 108, 101, 116, 101, 73, 110, 112, 117, 116, 69, 114, 114, 111, 114]) 133) (Value.type "_IncompleteInputError")), (DictEntry.mk (PyData.keyHash P (sN [73, 110, 100, 101, 120, 69, 114, 114, 111, 114])) (Value.str (sN [73, 110, 100, 101, 120, 69, 114, 114, 111, 114]) 134) (Value.type "IndexError")), (DictEntry.mk (PyData.keyHash P (sN [75, 101, 121, 69, 114, 114, 111, 114])) (Value.str (sN [75, 101, 121, 69, 114, 114, 111, 114]) 135) (Value.type "KeyError")), (DictEntry.mk (PyData.keyHash P (sN [77, 111, 100, 117, 108, 101, 78, 111, 116, 70, 111, 117, 110, 100, 69, 114, 114, 111, 114])) (Value.str (sN [77, 111, 100, 117, 108, 101, 78, 111, 116, 70, 111, 117, 110, 100, 69, 114, 114, 111, 114]) 136) (Value.type "ModuleNotFoundError")), (DictEntry.mk (PyData.keyHash P (sN [78, 111, 116, 73, 109, 112, 108, 101, 109, 101, 110, 116, 101, 100, 69, 114, 114, 111, 114])) (Value.str (sN [78, 111, 116, 73, 109, 112, 108, 101, 109, 101, 110, 116, 101, 100, 69, 114, 114, 111, 114]) 137) (Value.type "NotImplementedError")), (DictEntry.mk (PyData.keyHash P (sN [80, 121, 116, 104, 111, 110, 70, 105, 110, 97, 108, 105, 122, 97, 116, 105, 111, 110, 69, 114, 114, 111, 114])) (Value.str (sN [80, 121, 116, 104, 111, 110, 70, 105, 110, 97, 108, 105, 122, 97, 116, 105, 111, 110, 69, 114, 114, 111, 114]) 138) (Value.type "PythonFinalizationError")), (DictEntry.mk (PyData.keyHash P (sN [82, 101, 99, 117, 114, 115, 105, 111, 110, 69, 114, 114, 111, 114])) (Value.str (sN [82, 101, 99, 117, 114, 115, 105, 111, 110, 69, 114, 114, 111, 114]) 139) (Value.type "RecursionError")), (DictEntry.mk (PyData.keyHash P (sN [85, 110, 98, 111, 117, 110, 100, 76, 111, 99, 97, 108, 69, 114, 114, 111, 114])) (Value.str (sN [85, 110, 98, 111, 117, 110, 100, 76, 111, 99, 97, 108, 69, 114, 114, 111, 114]) 140) (Value.type "UnboundLocalError")), (DictEntry.mk (PyData.keyHash P (sN [85, 110, 105, 99, 111, 100, 101, 69, 114, 114, 111, 114])) (Value.str (sN [85, 110, 105, 99, 111, 100, 101, 69, 114, 114, 111, 114]) 141) (Value.type "UnicodeError")), (DictEntry.mk (PyData.keyHash P (sN [66, 114, 111, 107, 101, 110, 80, 105, 112, 101, 69, 114, 114, 111, 114])) (Value.str (sN [66, 114, 111, 107, 101, 110, 80, 105, 112, 101, 69, 114, 114, 111, 114]) 142) (Value.type "BrokenPipeError")), (DictEntry.mk (PyData.keyHash P (sN [67, 111, 110, 110, 101, 99, 116, 105, 111, 110, 65, 98, 111, 114, 116, 101, 100, 69, 114, 114, 111, 114])) (Value.str (sN [67, 111, 110, 110, 101, 99, 116, 105, 111, 110, 65, 98, 111, 114, 116, 101, 100, 69, 114, 114, 111, 114]) 143) (Value.type "ConnectionAbortedError")), (DictEntry.mk (PyData.keyHash P (sN [67, 111, 110, 110, 101, 99, 116, 105, 111, 110, 82, 101, 102, 117, 115, 101, 100, 69, 114, 114, 111, 114])) (Value.str (sN [67, 111, 110, 110, 101, 99, 116, 105, 111, 110, 82, 101, 102, 117, 115, 101, 100, 69, 114, 114, 111, 114]) 144) (Value.type "ConnectionRefusedError")), (DictEntry.mk (PyData.keyHash P (sN [67, 111, 110, 110, 101, 99, 116, 105, 111, 110, 82, 101, 115, 101, 116, 69, 114, 114, 111, 114])) (Value.str (sN [67, 111, 110, 110, 101, 99, 116, 105, 111, 110, 82, 101, 115, 101, 116, 69, 114, 114, 111, 114]) 145) (Value.type "ConnectionResetError")), (DictEntry.mk (PyData.keyHash P (sN [84, 97, 98, 69, 114, 114, 111, 114])) (Value.str (sN [84, 97, 98, 69, 114, 114, 111, 114]) 146) (Value.type "TabError")), (DictEntry.mk (PyData.keyHash P (sN [85, 110, 105, 99, 111, 100, 101, 68, 101, 99, 111, 100, 101, 69, 114, 114, 111, 114])) (Value.str (sN [85, 110, 105, 99, 111, 100, 101, 68, 101, 99, 111, 100, 101, 69, 114, 114, 111, 114]) 147) (Value.type "UnicodeDecodeError")), (DictEntry.mk (PyData.keyHash P (sN [85, 110, 105, 99, 111, 100, 101, 69, 110, 99, 111, 100, 101, 69, 114, 114, 111, 114])) (Value.str (sN [85, 110, 105, 99, 111, 100, 101, 69, 110, 99, 111, 100, 101, 69, 114, 114, 111, 114]) 148) (Value.type "UnicodeEncodeError")), (DictEntry.mk (PyData.keyHash P (sN [85, 110, 105, 99, 111, 100, 101, 84, 114, 97, 110, 115, 108, 97, 116, 101, 69, 114, 114, 111, 114])) (Value.str (sN [85, 110, 105, 99, 111, 100, 101, 84, 114, 97, 110, 115, 108, 97, 116, 101, 69, 114, 114, 111, 114]) 149) (Value.type "UnicodeTranslateError")), (DictEntry.mk (PyData.keyHash P (sN [69, 120, 99, 101, 112, 116, 105, 111, 110, 71, 114, 111, 117, 112])) (Value.str (sN [69, 120, 99, 101, 112, 116, 105, 111, 110, 71, 114, 111, 117, 112]) 150) (Value.type "ExceptionGroup")), (DictEntry.mk (PyData.keyHash P (sN [69, 110, 118, 105, 114, 111, 110, 109, 101, 110, 116, 69, 114, 114, 111, 114])) (Value.str (sN [69, 110, 118, 105, 114, 111, 110, 109, 101, 110, 116, 69, 114, 114, 111, 114]) 151) (Value.type "OSError")), (DictEntry.mk (PyData.keyHash P (sN [73, 79, 69, 114, 114, 111, 114])) (Value.str (sN [73, 79, 69, 114, 114, 111, 114]) 152) (Value.type "OSError")), (DictEntry.mk (PyData.keyHash P (sN [111, 112, 101, 110])) (Value.str (sN [111, 112, 101, 110]) 153) (Value.builtin "open")), (DictEntry.mk (PyData.keyHash P (sN [113, 117, 105, 116])) (Value.str (sN [113, 117, 105, 116]) 154) (Value.builtin "builtins.quit#opaque")), (DictEntry.mk (PyData.keyHash P (sN [101, 120, 105, 116])) (Value.str (sN [101, 120, 105, 116]) 155) (Value.builtin "builtins.exit#opaque")), (DictEntry.mk (PyData.keyHash P (sN [99, 111, 112, 121, 114, 105, 103, 104, 116])) (Value.str (sN [99, 111, 112, 121, 114, 105, 103, 104, 116]) 156) (Value.builtin "builtins.copyright#opaque")), (DictEntry.mk (PyData.keyHash P (sN [99, 114, 101, 100, 105, 116, 115])) (Value.str (sN [99, 114, 101, 100, 105, 116, 115]) 157) (Value.builtin "builtins.credits#opaque")), (DictEntry.mk (PyData.keyHash P (sN [108, 105, 99, 101, 110, 115, 101])) (Value.str (sN [108, 105, 99, 101, 110, 115, 101]) 158) (Value.builtin "builtins.license#opaque")), (DictEntry.mk (PyData.keyHash P (sN [104, 101, 108, 112])) (Value.str (sN [104, 101, 108, 112]) 159) (Value.builtin "builtins.help#opaque"))] 159) #[])
noncomputable def ko_1 (P : Params) : Obj := (Obj.mk (Value.type "dict") none (Data.dict #[(DictEntry.mk (PyData.keyHash P (Str.ofString "builtins")) (Value.str (Str.ofString "builtins") 162) (Value.ref 4)), (DictEntry.mk (PyData.keyHash P (Str.ofString "__main__")) (Value.str (Str.ofString "__main__") 163) (Value.ref 5)), (DictEntry.mk (PyData.keyHash P (Str.ofString "_collections")) (Value.str (Str.ofString "_collections") 246) (Value.ref 13))] 3) #[])
noncomputable def ko_2 (P : Params) : Obj := (Obj.mk Value.none none (Data.dict #[(DictEntry.mk (PyData.keyHash P (Str.ofString "imp\x6frt.loaded._collections")) (Value.str (Str.ofString "imp\x6frt.loaded._collections") 185) (Value.bool Bool.true)), (DictEntry.mk (PyData.keyHash P (Str.ofString "class._frozen_importlib.BuiltinImporter")) (Value.str (Str.ofString "class._frozen_importlib.BuiltinImporter") 187) (Value.ref 15)), (DictEntry.mk (PyData.keyHash P (Str.ofString "watched.imp\x6frt")) (Value.str (Str.ofString "watched.imp\x6frt") 208) (Value.ref 19)), (DictEntry.mk (PyData.keyHash P (Str.ofString "class._frozen_importlib.ModuleSpec")) (Value.str (Str.ofString "class._frozen_importlib.ModuleSpec") 218) (Value.ref 23)), (DictEntry.mk (PyData.keyHash P (Str.ofString "sys.modules.booked-epoch")) (Value.str (Str.ofString "sys.modules.booked-epoch") 247) (Value.int 3 0)), (DictEntry.mk (PyData.keyHash P (Str.ofString "sys.modules.landed._collections")) (Value.str (Str.ofString "sys.modules.landed._collections") 248) (Value.bool Bool.true)), (DictEntry.mk (PyData.keyHash P (Str.ofString "imp\x6frt.later-laid._collections")) (Value.str (Str.ofString "imp\x6frt.later-laid._collections") 263) (Value.bool Bool.true)), (DictEntry.mk (PyData.keyHash P (Str.ofString "watched.library")) (Value.str (Str.ofString "watched.library") 265) (Value.ref 28)), (DictEntry.mk (PyData.keyHash P (Str.ofString "watched.library-objects")) (Value.str (Str.ofString "watched.library-objects") 0) (Value.str (Str.ofString "\x0d") 0)), (DictEntry.mk (PyData.keyHash P (Str.ofString "watched.library-deep._collections")) (Value.str (Str.ofString "watched.library-deep._collections") 266) (Value.str (Str.ofString "\x04\x00\x00\x0c\x04\x00\x00\x0c\x04\x00\x00\x03\x04\x00\x00\x0c\x08\x04dict\x02") 0)), (DictEntry.mk (PyData.keyHash P (Str.ofString "type.__subclasses__.collections.defaultdict.0")) (Value.str (Str.ofString "type.__subclasses__.collections.defaultdict.0") 460) (Value.int 162 0)), (DictEntry.mk (PyData.keyHash P (Str.ofString "type.__subclasses__.collections.defaultdict.n")) (Value.str (Str.ofString "type.__subclasses__.collections.defaultdict.n") 461) (Value.int 1 0))] 12) #[])
noncomputable def ko_3 (P : Params) : Obj := (Obj.mk (Value.type "dict") none (Data.dict #[(DictEntry.mk (PyData.keyHash P (Str.ofString "__name__")) (Value.str (Str.ofString "__name__") 165) (Value.str (Str.ofString "law_il0121_01") 617)), (DictEntry.mk (PyData.keyHash P (Str.ofString "__doc__")) (Value.str (Str.ofString "__doc__") 166) Value.none), (DictEntry.mk (PyData.keyHash P (Str.ofString "__package__")) (Value.str (Str.ofString "__package__") 167) Value.none), (DictEntry.mk (PyData.keyHash P (Str.ofString "__loader__")) (Value.str (Str.ofString "__loader__") 168) (Value.builtin "__main__.__loader__#opaque")), (DictEntry.mk (PyData.keyHash P (Str.ofString "__spec__")) (Value.str (Str.ofString "__spec__") 169) Value.none), (DictEntry.mk (PyData.keyHash P (Str.ofString "__annotations__")) (Value.str (Str.ofString "__annotations__") 170) (Value.ref 6)), (DictEntry.mk (PyData.keyHash P (Str.ofString "__builtins__")) (Value.str (Str.ofString "__builtins__") 171) (Value.ref 4)), (DictEntry.mk (PyData.keyHash P (Str.ofString "__file__")) (Value.str (Str.ofString "__file__") 173) (Value.str (Str.ofString "/claim/cut.py") 172)), (DictEntry.mk (PyData.keyHash P (Str.ofString "__cached__")) (Value.str (Str.ofString "__cached__") 174) Value.none), (DictEntry.mk (PyData.keyHash P (Str.ofString "defaultdict")) (Value.str (Str.ofString "defaultdict") 272) (Value.type "collections.defaultdict")), (DictEntry.mk (PyData.keyHash P (Str.ofString "_wall")) (Value.str (Str.ofString "_wall") 285) (Value.ref 39)), (DictEntry.mk (PyData.keyHash P (Str.ofString "filterfalse")) (Value.str (Str.ofString "filterfalse") 337) (Value.ref 72)), (DictEntry.mk (PyData.keyHash P (Str.ofString "unique_everseen")) (Value.str (Str.ofString "unique_everseen") 352) (Value.ref 84)), (DictEntry.mk (PyData.keyHash P (Str.ofString "always_iterable")) (Value.str (Str.ofString "always_iterable") 361) (Value.ref 93)), (DictEntry.mk (PyData.keyHash P (Str.ofString "_tuplegetter")) (Value.str (Str.ofString "_tuplegetter") 420) (Value.ref 132)), (DictEntry.mk (PyData.keyHash P (Str.ofString "FreezableDefaultDict")) (Value.str (Str.ofString "FreezableDefaultDict") 463) (Value.ref 162)), (DictEntry.mk (PyData.keyHash P (Str.ofString "Pair")) (Value.str (Str.ofString "Pair") 578) (Value.ref 257)), (DictEntry.mk (PyData.keyHash P (Str.ofString "_law_same")) (Value.str (Str.ofString "_law_same") 625) (Value.ref 267)), (DictEntry.mk (PyData.keyHash P (Str.ofString "_law_small")) (Value.str (Str.ofString "_law_small") 632) (Value.ref 274)), (DictEntry.mk (PyData.keyHash P (Str.ofString "_law_run")) (Value.str (Str.ofString "_law_run") 651) (Value.ref 281)), (DictEntry.mk (PyData.keyHash P (Str.ofString "_law_due")) (Value.str (Str.ofString "_law_due") 657) (Value.ref 286)), (DictEntry.mk (PyData.keyHash P (Str.ofString "_law_shelf")) (Value.str (Str.ofString "_law_shelf") 663) (Value.ref 291)), (DictEntry.mk (PyData.keyHash P (Str.ofString "law")) (Value.str (Str.ofString "law") 669) (Value.ref 296))] 23) #[])
noncomputable def ko_4 (P : Params) : Obj := (Obj.mk (Value.type "module") (some 0) Data.plain #[])
noncomputable def ko_5 (P : Params) : Obj := (Obj.mk (Value.type "module") (some 3) Data.plain #[])
noncomputable def ko_6 (P : Params) : Obj := (Obj.mk (Value.type "dict") none (Data.dict #[] 0) #[])
noncomputable def ko_7 (P : Params) : Obj := (Obj.mk (Value.type "tuple") none (Data.seq #[] 0) #[])
noncomputable def ko_8 (P : Params) : Obj := (Obj.mk Value.none none (Data.fields #[]) #[])
noncomputable def ko_9 (P : Params) : Obj := (Obj.mk (Value.type "code") none (Data.fields #[(Value.str (Str.ofString "<module>") 176), (Value.str (Str.ofString "<module>") 177), (Value.str (Str.ofString "/claim/cut.py") 178), (Value.int 1 0), (Value.int 0 0), (Value.int 0 0), (Value.int 0 0), (Value.int 0 0), (Value.ref 7), (Value.bool Bool.false), (Value.int 175 0), (Value.ref 8), Value.none, Value.none, Value.none, Value.none, (Value.int 179 0), (Value.int 1 0), (Value.str (Str.ofString "/claim/cut.py") 180)]) #[])
noncomputable def ko_10 (P : Params) : Obj := (Obj.mk (Value.type "frame") none Data.plain #[(some (Value.ref 9)), (some (Value.ref 3)), (some (Value.ref 3)), none, (some (Value.str (Str.ofString "__main__") 164)), none, (some (Value.ref 0))])
noncomputable def ko_11 (P : Params) : Obj := (Obj.mk (Value.type "tuple") none (Data.seq #[(Value.str (Str.ofString "defaultdict") 182)] 0) #[])
noncomputable def ko_12 (P : Params) : Obj := (Obj.mk (Value.type "dict") none (Data.dict #[(DictEntry.mk (PyData.keyHash P (Str.ofString "__name__")) (Value.str (Str.ofString "__name__") 250) (Value.str (Str.ofString "_collections") 249)), (DictEntry.mk (PyData.keyHash P (Str.ofString "__doc__")) (Value.str (Str.ofString "__doc__") 251) (Value.builtin "off-the-table:_collections.__doc__:shared#opaque")), (DictEntry.mk (PyData.keyHash P (Str.ofString "__package__")) (Value.str (Str.ofString "__package__") 253) (Value.str (Str.ofString "") 252)), (DictEntry.mk (PyData.keyHash P (Str.ofString "__loader__")) (Value.str (Str.ofString "__loader__") 254) (Value.builtin "off-the-table:_collections.__loader__:shared#opaque")), (DictEntry.mk (PyData.keyHash P (Str.ofString "__spec__")) (Value.str (Str.ofString "__spec__") 255) (Value.builtin "off-the-table:_collections.__spec__:shared#opaque")), (DictEntry.mk (PyData.keyHash P (Str.ofString "_count_elements")) (Value.str (Str.ofString "_count_elements") 256) (Value.builtin "_collections._count_elements")), (DictEntry.mk (PyData.keyHash P (Str.ofString "deque")) (Value.str (Str.ofString "deque") 257) (Value.type "collections.deque")), (DictEntry.mk (PyData.keyHash P (Str.ofString "defaultdict")) (Value.str (Str.ofString "defaultdict") 258) (Value.type "collections.defaultdict")), (DictEntry.mk (PyData.keyHash P (Str.ofString "_deque_iterator")) (Value.str (Str.ofString "_deque_iterator") 259) (Value.builtin "off-the-table:_collections._deque_iterator:shared#opaque")), (DictEntry.mk (PyData.keyHash P (Str.ofString "_deque_reverse_iterator")) (Value.str (Str.ofString "_deque_reverse_iterator") 260) (Value.builtin "off-the-table:_collections._deque_reverse_iterator:shared#opaque")), (DictEntry.mk (PyData.keyHash P (Str.ofString "_tuplegetter")) (Value.str (Str.ofString "_tuplegetter") 261) (Value.type "collections._tuplegetter")), (DictEntry.mk (PyData.keyHash P (Str.ofString "OrderedDict")) (Value.str (Str.ofString "OrderedDict") 262) (Value.type "collections.OrderedDict"))] 12) #[])
noncomputable def ko_13 (P : Params) : Obj := (Obj.mk (Value.type "module") (some 12) Data.plain #[])
noncomputable def ko_14 (P : Params) : Obj := (Obj.mk (Value.type "dict") none (Data.dict #[(DictEntry.mk (PyData.keyHash P (Str.ofString "__module__")) (Value.str (Str.ofString "__module__") 191) (Value.str (Str.ofString "_frozen_importlib") 188)), (DictEntry.mk (PyData.keyHash P (Str.ofString "__firstlineno__")) (Value.str (Str.ofString "__firstlineno__") 192) (Value.int 971 189)), (DictEntry.mk (PyData.keyHash P (Str.ofString "__doc__")) (Value.str (Str.ofString "__doc__") 193) (Value.builtin "_frozen_importlib.BuiltinImporter.__doc__:str#opaque")), (DictEntry.mk (PyData.keyHash P (Str.ofString "_ORIGIN")) (Value.str (Str.ofString "_ORIGIN") 194) (Value.str (Str.ofString "built-in") 190)), (DictEntry.mk (PyData.keyHash P (Str.ofString "find_spec")) (Value.str (Str.ofString "find_spec") 195) (Value.builtin "_frozen_importlib.BuiltinImporter.find_spec#opaque")), (DictEntry.mk (PyData.keyHash P (Str.ofString "create_module")) (Value.str (Str.ofString "create_module") 196) (Value.builtin "_frozen_importlib.BuiltinImporter.create_module#opaque")), (DictEntry.mk (PyData.keyHash P (Str.ofString "exec_module")) (Value.str (Str.ofString "exec_module") 197) (Value.builtin "_frozen_importlib.BuiltinImporter.exec_module#opaque")), (DictEntry.mk (PyData.keyHash P (Str.ofString "get_code")) (Value.str (Str.ofString "get_code") 198) (Value.builtin "_frozen_importlib.BuiltinImporter.get_code#opaque")), (DictEntry.mk (PyData.keyHash P (Str.ofString "get_source")) (Value.str (Str.ofString "get_source") 199) (Value.builtin "_frozen_importlib.BuiltinImporter.get_source#opaque")), (DictEntry.mk (PyData.keyHash P (Str.ofString "is_package")) (Value.str (Str.ofString "is_package") 200) (Value.builtin "_frozen_importlib.BuiltinImporter.is_package#opaque")), (DictEntry.mk (PyData.keyHash P (Str.ofString "load_module")) (Value.str (Str.ofString "load_module") 201) (Value.builtin "_frozen_importlib.BuiltinImporter.load_module#opaque")), (DictEntry.mk (PyData.keyHash P (Str.ofString "__static_attributes__")) (Value.str (Str.ofString "__static_attributes__") 202) (Value.ref 16)), (DictEntry.mk (PyData.keyHash P (Str.ofString "__dict__")) (Value.str (Str.ofString "__dict__") 204) (Value.ref 17)), (DictEntry.mk (PyData.keyHash P (Str.ofString "__weakref__")) (Value.str (Str.ofString "__weakref__") 206) (Value.ref 18))] 14) #[])
noncomputable def ko_15 (P : Params) : Obj := (Obj.mk (Value.type "type") none (Data.cls (ClassData.mk (Str.ofString "BuiltinImporter") [(Value.type "object")] [(Value.ref 15), (Value.type "object")] 14 (Str.ofString "BuiltinImporter") Bool.true [] [] Bool.false none Bool.false)) #[])
noncomputable def ko_33 (P : Params) : Obj := (Obj.mk (Value.type "tuple") none (Data.seq #[] 0) #[])
noncomputable def ko_34 (P : Params) : Obj := (Obj.mk Value.none none (Data.fields #[]) #[])
noncomputable def ko_35 (P : Params) : Obj := (Obj.mk (Value.type "tuple") none (Data.seq #[(Value.str (Str.ofString "k") 282)] 0) #[])
noncomputable def ko_36 (P : Params) : Obj := (Obj.mk (Value.type "tuple") none (Data.seq #[] 0) #[])
noncomputable def ko_37 (P : Params) : Obj := (Obj.mk Value.none none (Data.func (FuncData.mk (Str.ofString "_wall") (Str.ofString "_wall") (fparams (stOf 1)) (.stmts (fbody (stOf 1))) (fscope (stOf 1)) 0 [] Value.none Value.none Value.none Value.none none Value.none Value.none 0)) #[])
noncomputable def ko_38 (P : Params) : Obj := (Obj.mk (Value.type "code") none (Data.fields #[(Value.str (Str.ofString "_wall") 279), (Value.str (Str.ofString "_wall") 280), (Value.str (Str.ofString "/claim/cut.py") 281), (Value.int 2 0), (Value.int 1 0), (Value.int 0 0), (Value.int 0 0), (Value.int 3 0), (Value.ref 33), (Value.bool Bool.true), (Value.int 273 0), (Value.ref 34), Value.none, (Value.ref 35), (Value.ref 36), (Value.ref 37), (Value.int 283 0), (Value.int 2 0), (Value.str (Str.ofString "/claim/cut.py") 284)]) #[])
noncomputable def ko_39 (P : Params) : Obj := (Obj.mk (Value.type "function") none (Data.func (FuncData.mk (Str.ofString "_wall") (Str.ofString "_wall") (fparams (stOf 1)) (.stmts (fbody (stOf 1))) (fscope (stOf 1)) 3 [] Value.none Value.none Value.none (Value.str (Str.ofString "__main__") 164) none (Value.ref 38) Value.none 0)) #[])
noncomputable def ko_47 (P : Params) : Obj := (Obj.mk (Value.type "tuple") none (Data.seq #[(Value.str (Str.ofString "_it") 300), (Value.str (Str.ofString "_func") 301)] 0) #[])
noncomputable def ko_48 (P : Params) : Obj := (Obj.mk (Value.type "tuple") none (Data.seq #[] 0) #[])
noncomputable def ko_49 (P : Params) : Obj := (Obj.mk Value.none none (Data.fields #[]) #[])
noncomputable def ko_50 (P : Params) : Obj := (Obj.mk (Value.type "tuple") none (Data.seq #[(Value.str (Str.ofString "self") 306), (Value.str (Str.ofString "function") 307), (Value.str (Str.ofString "iterable") 308)] 0) #[])
noncomputable def ko_51 (P : Params) : Obj := (Obj.mk (Value.type "tuple") none (Data.seq #[] 0) #[])
noncomputable def ko_52 (P : Params) : Obj := (Obj.mk Value.none none (Data.func (FuncData.mk (Str.ofString "__init__") (Str.ofString "filterfalse.__init__") (fparams (mst 3 1)) (.stmts (fbody (mst 3 1))) (fscope (mst 3 1)) 0 [] Value.none Value.none Value.none Value.none none Value.none Value.none 0)) #[])
noncomputable def ko_53 (P : Params) : Obj := (Obj.mk (Value.type "code") none (Data.fields #[(Value.str (Str.ofString "__init__") 303), (Value.str (Str.ofString "filterfalse.__init__") 304), (Value.str (Str.ofString "/claim/cut.py") 305), (Value.int 9 0), (Value.int 3 0), (Value.int 3 0), (Value.int 0 0), (Value.int 3 0), (Value.ref 48), (Value.bool Bool.true), (Value.int 273 0), (Value.ref 49), Value.none, (Value.ref 50), (Value.ref 51), (Value.ref 52), (Value.int 309 0), (Value.int 9 0), (Value.str (Str.ofString "/claim/cut.py") 310)]) #[])
noncomputable def ko_54 (P : Params) : Obj := (Obj.mk (Value.type "function") none (Data.func (FuncData.mk (Str.ofString "__init__") (Str.ofString "filterfalse.__init__") (fparams (mst 3 1)) (.stmts (fbody (mst 3 1))) (fscope (mst 3 1)) 3 [] Value.none Value.none Value.none (Value.str (Str.ofString "itertools") 286) none (Value.ref 53) Value.none 0)) #[])
noncomputable def ko_55 (P : Params) : Obj := (Obj.mk (Value.type "tuple") none (Data.seq #[] 0) #[])
noncomputable def ko_56 (P : Params) : Obj := (Obj.mk Value.none none (Data.fields #[]) #[])
noncomputable def ko_57 (P : Params) : Obj := (Obj.mk (Value.type "tuple") none (Data.seq #[(Value.str (Str.ofString "self") 315)] 0) #[])
noncomputable def ko_58 (P : Params) : Obj := (Obj.mk (Value.type "tuple") none (Data.seq #[] 0) #[])
noncomputable def ko_59 (P : Params) : Obj := (Obj.mk Value.none none (Data.func (FuncData.mk (Str.ofString "__iter__") (Str.ofString "filterfalse.__iter__") (fparams (mst 3 2)) (.stmts (fbody (mst 3 2))) (fscope (mst 3 2)) 0 [] Value.none Value.none Value.none Value.none none Value.none Value.none 0)) #[])
noncomputable def ko_60 (P : Params) : Obj := (Obj.mk (Value.type "code") none (Data.fields #[(Value.str (Str.ofString "__iter__") 312), (Value.str (Str.ofString "filterfalse.__iter__") 313), (Value.str (Str.ofString "/claim/cut.py") 314), (Value.int 13 0), (Value.int 1 0), (Value.int 0 0), (Value.int 0 0), (Value.int 3 0), (Value.ref 55), (Value.bool Bool.true), (Value.int 273 0), (Value.ref 56), Value.none, (Value.ref 57), (Value.ref 58), (Value.ref 59), (Value.int 316 0), (Value.int 13 0), (Value.str (Str.ofString "/claim/cut.py") 317)]) #[])
noncomputable def ko_61 (P : Params) : Obj := (Obj.mk (Value.type "function") none (Data.func (FuncData.mk (Str.ofString "__iter__") (Str.ofString "filterfalse.__iter__") (fparams (mst 3 2)) (.stmts (fbody (mst 3 2))) (fscope (mst 3 2)) 3 [] Value.none Value.none Value.none (Value.str (Str.ofString "itertools") 286) none (Value.ref 60) Value.none 0)) #[])
noncomputable def ko_62 (P : Params) : Obj := (Obj.mk (Value.type "tuple") none (Data.seq #[] 0) #[])
noncomputable def ko_63 (P : Params) : Obj := (Obj.mk Value.none none (Data.fields #[]) #[])
noncomputable def ko_64 (P : Params) : Obj := (Obj.mk (Value.type "tuple") none (Data.seq #[(Value.str (Str.ofString "self") 322), (Value.str (Str.ofString "func") 323), (Value.str (Str.ofString "item") 324)] 0) #[])
noncomputable def ko_65 (P : Params) : Obj := (Obj.mk (Value.type "tuple") none (Data.seq #[] 0) #[])
noncomputable def ko_66 (P : Params) : Obj := (Obj.mk Value.none none (Data.func (FuncData.mk (Str.ofString "__next__") (Str.ofString "filterfalse.__next__") (fparams (mst 3 3)) (.stmts (fbody (mst 3 3))) (fscope (mst 3 3)) 0 [] Value.none Value.none Value.none Value.none none Value.none Value.none 0)) #[])
noncomputable def ko_67 (P : Params) : Obj := (Obj.mk (Value.type "code") none (Data.fields #[(Value.str (Str.ofString "__next__") 319), (Value.str (Str.ofString "filterfalse.__next__") 320), (Value.str (Str.ofString "/claim/cut.py") 321), (Value.int 16 0), (Value.int 1 0), (Value.int 0 0), (Value.int 0 0), (Value.int 3 0), (Value.ref 62), (Value.bool Bool.true), (Value.int 273 0), (Value.ref 63), Value.none, (Value.ref 64), (Value.ref 65), (Value.ref 66), (Value.int 325 0), (Value.int 16 0), (Value.str (Str.ofString "/claim/cut.py") 326)]) #[])
noncomputable def ko_68 (P : Params) : Obj := (Obj.mk (Value.type "function") none (Data.func (FuncData.mk (Str.ofString "__next__") (Str.ofString "filterfalse.__next__") (fparams (mst 3 3)) (.stmts (fbody (mst 3 3))) (fscope (mst 3 3)) 3 [] Value.none Value.none Value.none (Value.str (Str.ofString "itertools") 286) none (Value.ref 67) Value.none 0)) #[])
noncomputable def ko_69 (P : Params) : Obj := (Obj.mk (Value.type "tuple") none (Data.seq #[(Value.str (Str.ofString "_func") 328), (Value.str (Str.ofString "_it") 329)] 0) #[])
noncomputable def ko_71 (P : Params) : Obj := (Obj.mk (Value.type "dict") none (Data.dict #[(DictEntry.mk (PyData.keyHash P (Str.ofString "__module__")) (Value.str (Str.ofString "__module__") 295) (Value.str (Str.ofString "itertools") 286)), (DictEntry.mk (PyData.keyHash P (Str.ofString "__firstlineno__")) (Value.str (Str.ofString "__firstlineno__") 299) (Value.int 6 298)), (DictEntry.mk (PyData.keyHash P (Str.ofString "__slots__")) (Value.str (Str.ofString "__slots__") 302) (Value.ref 47)), (DictEntry.mk (PyData.keyHash P (Str.ofString "__init__")) (Value.str (Str.ofString "__init__") 311) (Value.ref 54)), (DictEntry.mk (PyData.keyHash P (Str.ofString "__iter__")) (Value.str (Str.ofString "__iter__") 318) (Value.ref 61)), (DictEntry.mk (PyData.keyHash P (Str.ofString "__next__")) (Value.str (Str.ofString "__next__") 327) (Value.ref 68)), (DictEntry.mk (PyData.keyHash P (Str.ofString "__static_attributes__")) (Value.str (Str.ofString "__static_attributes__") 330) (Value.ref 69)), (DictEntry.mk (PyData.keyHash P (Str.ofString "_func")) (Value.str (Str.ofString "_func") 332) (Value.ref 73)), (DictEntry.mk (PyData.keyHash P (Str.ofString "_it")) (Value.str (Str.ofString "_it") 334) (Value.ref 74)), (DictEntry.mk (PyData.keyHash P (Str.ofString "__doc__")) (Value.str (Str.ofString "__doc__") 335) Value.none)] 4) #[])
noncomputable def ko_72 (P : Params) : Obj := (Obj.mk (Value.type "type") none (Data.cls (ClassData.mk (Str.ofString "filterfalse") [(Value.type "object")] [(Value.ref 72), (Value.type "object")] 71 (Str.ofString "filterfalse") Bool.false [(Str.ofString "_func"), (Str.ofString "_it")] [] Bool.false none Bool.false)) #[none, none, (some (Value.str (Str.ofString "filterfalse") 288)), (some (Value.str (Str.ofString "filterfalse") 296)), (some (Value.builtin "object.__new__")), (some (Value.bool Bool.false))])
noncomputable def ko_73 (P : Params) : Obj := (Obj.mk (Value.type "member_descriptor") none (Data.fields #[(Value.str (Str.ofString "_func") 331), (Value.ref 72), (Value.builtin "proto.slot"), (Value.builtin "proto.slot#set"), (Value.int 1 0)]) #[])
noncomputable def ko_74 (P : Params) : Obj := (Obj.mk (Value.type "member_descriptor") none (Data.fields #[(Value.str (Str.ofString "_it") 333), (Value.ref 72), (Value.builtin "proto.slot"), (Value.builtin "proto.slot#set"), (Value.int 0 0)]) #[])
noncomputable def ko_77 (P : Params) : Obj := (Obj.mk (Value.type "tuple") none (Data.seq #[Value.none] 0) #[])
noncomputable def ko_78 (P : Params) : Obj := (Obj.mk (Value.type "tuple") none (Data.seq #[] 0) #[])
noncomputable def ko_79 (P : Params) : Obj := (Obj.mk Value.none none (Data.fields #[]) #[])
noncomputable def ko_80 (P : Params) : Obj := (Obj.mk (Value.type "tuple") none (Data.seq #[(Value.str (Str.ofString "iterable") 343), (Value.str (Str.ofString "key") 344), (Value.str (Str.ofString "seen") 345), (Value.str (Str.ofString "seen_add") 346), (Value.str (Str.ofString "element") 347), (Value.str (Str.ofString "k") 348)] 0) #[])
noncomputable def ko_81 (P : Params) : Obj := (Obj.mk (Value.type "tuple") none (Data.seq #[] 0) #[])
noncomputable def ko_82 (P : Params) : Obj := (Obj.mk Value.none none (Data.func (FuncData.mk (Str.ofString "unique_everseen") (Str.ofString "unique_everseen") (fparams (stOf 5)) (.stmts (fbody (stOf 5))) (fscope (stOf 5)) 0 [] Value.none Value.none Value.none Value.none none Value.none Value.none 0)) #[])
noncomputable def ko_83 (P : Params) : Obj := (Obj.mk (Value.type "code") none (Data.fields #[(Value.str (Str.ofString "unique_everseen") 340), (Value.str (Str.ofString "unique_everseen") 341), (Value.str (Str.ofString "/claim/cut.py") 342), (Value.int 26 0), (Value.int 2 0), (Value.int 0 0), (Value.int 0 0), (Value.int 35 0), (Value.ref 78), (Value.bool Bool.true), (Value.int 273 0), (Value.ref 79), Value.none, (Value.ref 80), (Value.ref 81), (Value.ref 82), (Value.int 349 0), (Value.int 26 0), (Value.str (Str.ofString "/claim/cut.py") 350)]) #[])
noncomputable def ko_84 (P : Params) : Obj := (Obj.mk (Value.type "function") none (Data.func (FuncData.mk (Str.ofString "unique_everseen") (Str.ofString "unique_everseen") (fparams (stOf 5)) (.stmts (fbody (stOf 5))) (fscope (stOf 5)) 3 [] (Value.ref 77) Value.none (Value.str (Str.ofString "List unique elements, preserving order. Remember all elements ever seen.") 351) (Value.str (Str.ofString "cpy313.importlib.metadata._itertools") 338) none (Value.ref 83) Value.none 0)) #[])
noncomputable def ko_85 (P : Params) : Obj := (Obj.mk (Value.type "tuple") none (Data.seq #[(Value.type "str"), (Value.type "bytes")] 0) #[])
noncomputable def ko_86 (P : Params) : Obj := (Obj.mk (Value.type "tuple") none (Data.seq #[(Value.ref 85)] 0) #[])
noncomputable def ko_87 (P : Params) : Obj := (Obj.mk (Value.type "tuple") none (Data.seq #[] 0) #[])
noncomputable def ko_88 (P : Params) : Obj := (Obj.mk Value.none none (Data.fields #[]) #[])
noncomputable def ko_89 (P : Params) : Obj := (Obj.mk (Value.type "tuple") none (Data.seq #[(Value.str (Str.ofString "obj") 356), (Value.str (Str.ofString "base_type") 357)] 0) #[])
noncomputable def ko_90 (P : Params) : Obj := (Obj.mk (Value.type "tuple") none (Data.seq #[] 0) #[])
noncomputable def ko_91 (P : Params) : Obj := (Obj.mk Value.none none (Data.func (FuncData.mk (Str.ofString "always_iterable") (Str.ofString "always_iterable") (fparams (stOf 6)) (.stmts (fbody (stOf 6))) (fscope (stOf 6)) 0 [] Value.none Value.none Value.none Value.none none Value.none Value.none 0)) #[])
noncomputable def ko_92 (P : Params) : Obj := (Obj.mk (Value.type "code") none (Data.fields #[(Value.str (Str.ofString "always_iterable") 353), (Value.str (Str.ofString "always_iterable") 354), (Value.str (Str.ofString "/claim/cut.py") 355), (Value.int 40 0), (Value.int 2 0), (Value.int 0 0), (Value.int 0 0), (Value.int 3 0), (Value.ref 87), (Value.bool Bool.true), (Value.int 273 0), (Value.ref 88), Value.none, (Value.ref 89), (Value.ref 90), (Value.ref 91), (Value.int 358 0), (Value.int 40 0), (Value.str (Str.ofString "/claim/cut.py") 359)]) #[])
noncomputable def ko_93 (P : Params) : Obj := (Obj.mk (Value.type "function") none (Data.func (FuncData.mk (Str.ofString "always_iterable") (Str.ofString "always_iterable") (fparams (stOf 6)) (.stmts (fbody (stOf 6))) (fscope (stOf 6)) 3 [] (Value.ref 86) Value.none (Value.str (Str.ofString "If *obj* is iterable, return an iterator over its items::\n\n    >>> obj = (1, 2, 3)\n    >>> list(always_iterable(obj))\n    [1, 2, 3]\n\nIf *obj* is not iterable, return a one-item iterable containing *obj*::\n\n    >>> obj = 1\n    >>> list(always_iterable(obj))\n    [1]\n\nIf *obj* is ``None``, return an empty iterable:\n\n    >>> obj = None\n    >>> list(always_iterable(None))\n    []\n\nBy default, binary and text strings are not considered iterable::\n\n    >>> obj = 'foo'\n    >>> list(always_iterable(obj))\n    ['foo']\n\nIf *base_type* is set, objects for which ``isinstance(obj, base_type)``\nreturns ``True`` won't be considered iterable.\n\n    >>> obj = {'a': 1}\n    >>> list(always_iterable(obj))  # Iterate over the dict's keys\n    ['a']\n    >>> list(always_iterable(obj, base_type=dict))  # Treat dicts as a unit\n    [{'a': 1}]\n\nSet *base_type* to ``None`` to avoid any special handling and treat objects\nPython considers iterable as iterable:\n\n    >>> obj = 'foo'\n    >>> list(always_iterable(obj, base_type=None))\n    ['f', 'o', 'o']\n") 360) (Value.str (Str.ofString "cpy313.importlib.metadata._itertools") 338) none (Value.ref 92) Value.none 0)) #[])
noncomputable def ko_101 (P : Params) : Obj := (Obj.mk (Value.type "tuple") none (Data.seq #[] 0) #[])
noncomputable def ko_102 (P : Params) : Obj := (Obj.mk Value.none none (Data.fields #[]) #[])
noncomputable def ko_103 (P : Params) : Obj := (Obj.mk (Value.type "tuple") none (Data.seq #[(Value.str (Str.ofString "self") 379), (Value.str (Str.ofString "index") 380), (Value.str (Str.ofString "doc") 381)] 0) #[])
noncomputable def ko_104 (P : Params) : Obj := (Obj.mk (Value.type "tuple") none (Data.seq #[] 0) #[])
noncomputable def ko_105 (P : Params) : Obj := (Obj.mk Value.none none (Data.func (FuncData.mk (Str.ofString "__init__") (Str.ofString "_tuplegetter.__init__") (fparams (mst 8 0)) (.stmts (fbody (mst 8 0))) (fscope (mst 8 0)) 0 [] Value.none Value.none Value.none Value.none none Value.none Value.none 0)) #[])
noncomputable def ko_106 (P : Params) : Obj := (Obj.mk (Value.type "code") none (Data.fields #[(Value.str (Str.ofString "__init__") 376), (Value.str (Str.ofString "_tuplegetter.__init__") 377), (Value.str (Str.ofString "/claim/cut.py") 378), (Value.int 92 0), (Value.int 3 0), (Value.int 0 0), (Value.int 0 0), (Value.int 3 0), (Value.ref 101), (Value.bool Bool.true), (Value.int 273 0), (Value.ref 102), Value.none, (Value.ref 103), (Value.ref 104), (Value.ref 105), (Value.int 382 0), (Value.int 92 0), (Value.str (Str.ofString "/claim/cut.py") 383)]) #[])
noncomputable def ko_107 (P : Params) : Obj := (Obj.mk (Value.type "function") none (Data.func (FuncData.mk (Str.ofString "__init__") (Str.ofString "_tuplegetter.__init__") (fparams (mst 8 0)) (.stmts (fbody (mst 8 0))) (fscope (mst 8 0)) 3 [] Value.none Value.none Value.none (Value.str (Str.ofString "cpy313.importlib.metadata._collections") 362) none (Value.ref 106) Value.none 0)) #[])
noncomputable def ko_108 (P : Params) : Obj := (Obj.mk (Value.type "tuple") none (Data.seq #[Value.none] 0) #[])
noncomputable def ko_109 (P : Params) : Obj := (Obj.mk (Value.type "tuple") none (Data.seq #[] 0) #[])
noncomputable def ko_110 (P : Params) : Obj := (Obj.mk Value.none none (Data.fields #[]) #[])
noncomputable def ko_111 (P : Params) : Obj := (Obj.mk (Value.type "tuple") none (Data.seq #[(Value.str (Str.ofString "self") 388), (Value.str (Str.ofString "obj") 389), (Value.str (Str.ofString "objtype") 390)] 0) #[])
noncomputable def ko_112 (P : Params) : Obj := (Obj.mk (Value.type "tuple") none (Data.seq #[] 0) #[])
noncomputable def ko_113 (P : Params) : Obj := (Obj.mk Value.none none (Data.func (FuncData.mk (Str.ofString "__get__") (Str.ofString "_tuplegetter.__get__") (fparams (mst 8 1)) (.stmts (fbody (mst 8 1))) (fscope (mst 8 1)) 0 [] Value.none Value.none Value.none Value.none none Value.none Value.none 0)) #[])
noncomputable def ko_114 (P : Params) : Obj := (Obj.mk (Value.type "code") none (Data.fields #[(Value.str (Str.ofString "__get__") 385), (Value.str (Str.ofString "_tuplegetter.__get__") 386), (Value.str (Str.ofString "/claim/cut.py") 387), (Value.int 96 0), (Value.int 3 0), (Value.int 0 0), (Value.int 0 0), (Value.int 3 0), (Value.ref 109), (Value.bool Bool.true), (Value.int 273 0), (Value.ref 110), Value.none, (Value.ref 111), (Value.ref 112), (Value.ref 113), (Value.int 391 0), (Value.int 96 0), (Value.str (Str.ofString "/claim/cut.py") 392)]) #[])
noncomputable def ko_115 (P : Params) : Obj := (Obj.mk (Value.type "function") none (Data.func (FuncData.mk (Str.ofString "__get__") (Str.ofString "_tuplegetter.__get__") (fparams (mst 8 1)) (.stmts (fbody (mst 8 1))) (fscope (mst 8 1)) 3 [] (Value.ref 108) Value.none Value.none (Value.str (Str.ofString "cpy313.importlib.metadata._collections") 362) none (Value.ref 114) Value.none 0)) #[])
noncomputable def ko_116 (P : Params) : Obj := (Obj.mk (Value.type "tuple") none (Data.seq #[] 0) #[])
noncomputable def ko_117 (P : Params) : Obj := (Obj.mk Value.none none (Data.fields #[]) #[])
noncomputable def ko_118 (P : Params) : Obj := (Obj.mk (Value.type "tuple") none (Data.seq #[(Value.str (Str.ofString "self") 397), (Value.str (Str.ofString "obj") 398), (Value.str (Str.ofString "value") 399)] 0) #[])
noncomputable def ko_119 (P : Params) : Obj := (Obj.mk (Value.type "tuple") none (Data.seq #[] 0) #[])
noncomputable def ko_120 (P : Params) : Obj := (Obj.mk Value.none none (Data.func (FuncData.mk (Str.ofString "__set__") (Str.ofString "_tuplegetter.__set__") (fparams (mst 8 2)) (.stmts (fbody (mst 8 2))) (fscope (mst 8 2)) 0 [] Value.none Value.none Value.none Value.none none Value.none Value.none 0)) #[])
noncomputable def ko_121 (P : Params) : Obj := (Obj.mk (Value.type "code") none (Data.fields #[(Value.str (Str.ofString "__set__") 394), (Value.str (Str.ofString "_tuplegetter.__set__") 395), (Value.str (Str.ofString "/claim/cut.py") 396), (Value.int 103 0), (Value.int 3 0), (Value.int 0 0), (Value.int 0 0), (Value.int 3 0), (Value.ref 116), (Value.bool Bool.true), (Value.int 273 0), (Value.ref 117), Value.none, (Value.ref 118), (Value.ref 119), (Value.ref 120), (Value.int 400 0), (Value.int 103 0), (Value.str (Str.ofString "/claim/cut.py") 401)]) #[])
noncomputable def ko_122 (P : Params) : Obj := (Obj.mk (Value.type "function") none (Data.func (FuncData.mk (Str.ofString "__set__") (Str.ofString "_tuplegetter.__set__") (fparams (mst 8 2)) (.stmts (fbody (mst 8 2))) (fscope (mst 8 2)) 3 [] Value.none Value.none Value.none (Value.str (Str.ofString "cpy313.importlib.metadata._collections") 362) none (Value.ref 121) Value.none 0)) #[])
noncomputable def ko_123 (P : Params) : Obj := (Obj.mk (Value.type "tuple") none (Data.seq #[] 0) #[])
noncomputable def ko_124 (P : Params) : Obj := (Obj.mk Value.none none (Data.fields #[]) #[])
noncomputable def ko_125 (P : Params) : Obj := (Obj.mk (Value.type "tuple") none (Data.seq #[(Value.str (Str.ofString "self") 406), (Value.str (Str.ofString "obj") 407)] 0) #[])
noncomputable def ko_126 (P : Params) : Obj := (Obj.mk (Value.type "tuple") none (Data.seq #[] 0) #[])
noncomputable def ko_127 (P : Params) : Obj := (Obj.mk Value.none none (Data.func (FuncData.mk (Str.ofString "__delete__") (Str.ofString "_tuplegetter.__delete__") (fparams (mst 8 3)) (.stmts (fbody (mst 8 3))) (fscope (mst 8 3)) 0 [] Value.none Value.none Value.none Value.none none Value.none Value.none 0)) #[])
noncomputable def ko_128 (P : Params) : Obj := (Obj.mk (Value.type "code") none (Data.fields #[(Value.str (Str.ofString "__delete__") 403), (Value.str (Str.ofString "_tuplegetter.__delete__") 404), (Value.str (Str.ofString "/claim/cut.py") 405), (Value.int 106 0), (Value.int 2 0), (Value.int 0 0), (Value.int 0 0), (Value.int 3 0), (Value.ref 123), (Value.bool Bool.true), (Value.int 273 0), (Value.ref 124), Value.none, (Value.ref 125), (Value.ref 126), (Value.ref 127), (Value.int 408 0), (Value.int 106 0), (Value.str (Str.ofString "/claim/cut.py") 409)]) #[])
noncomputable def ko_129 (P : Params) : Obj := (Obj.mk (Value.type "function") none (Data.func (FuncData.mk (Str.ofString "__delete__") (Str.ofString "_tuplegetter.__delete__") (fparams (mst 8 3)) (.stmts (fbody (mst 8 3))) (fscope (mst 8 3)) 3 [] Value.none Value.none Value.none (Value.str (Str.ofString "cpy313.importlib.metadata._collections") 362) none (Value.ref 128) Value.none 0)) #[])
noncomputable def ko_130 (P : Params) : Obj := (Obj.mk (Value.type "tuple") none (Data.seq #[(Value.str (Str.ofString "__doc__") 411), (Value.str (Str.ofString "index") 412)] 0) #[])
noncomputable def ko_131 (P : Params) : Obj := (Obj.mk (Value.type "dict") none (Data.dict #[(DictEntry.mk (PyData.keyHash P (Str.ofString "__module__")) (Value.str (Str.ofString "__module__") 371) (Value.str (Str.ofString "cpy313.importlib.metadata._collections") 362)), (DictEntry.mk (PyData.keyHash P (Str.ofString "__firstlineno__")) (Value.str (Str.ofString "__firstlineno__") 375) (Value.int 90 374)), (DictEntry.mk (PyData.keyHash P (Str.ofString "__init__")) (Value.str (Str.ofString "__init__") 384) (Value.ref 107)), (DictEntry.mk (PyData.keyHash P (Str.ofString "__get__")) (Value.str (Str.ofString "__get__") 393) (Value.ref 115)), (DictEntry.mk (PyData.keyHash P (Str.ofString "__set__")) (Value.str (Str.ofString "__set__") 402) (Value.ref 122)), (DictEntry.mk (PyData.keyHash P (Str.ofString "__delete__")) (Value.str (Str.ofString "__delete__") 410) (Value.ref 129)), (DictEntry.mk (PyData.keyHash P (Str.ofString "__static_attributes__")) (Value.str (Str.ofString "__static_attributes__") 413) (Value.ref 130)), (DictEntry.mk (PyData.keyHash P (Str.ofString "__dict__")) (Value.str (Str.ofString "__dict__") 415) (Value.ref 133)), (DictEntry.mk (PyData.keyHash P (Str.ofString "__weakref__")) (Value.str (Str.ofString "__weakref__") 417) (Value.ref 134)), (DictEntry.mk (PyData.keyHash P (Str.ofString "__doc__")) (Value.str (Str.ofString "__doc__") 418) Value.none)] 4) #[])
noncomputable def ko_132 (P : Params) : Obj := (Obj.mk (Value.type "type") none (Data.cls (ClassData.mk (Str.ofString "_tuplegetter") [(Value.type "object")] [(Value.ref 132), (Value.type "object")] 131 (Str.ofString "_tuplegetter") Bool.true [] [] Bool.false none Bool.false)) #[none, none, (some (Value.str (Str.ofString "_tuplegetter") 364)), (some (Value.str (Str.ofString "_tuplegetter") 372)), (some (Value.builtin "object.__new__")), (some (Value.bool Bool.true))])
noncomputable def ko_133 (P : Params) : Obj := (Obj.mk (Value.type "getset_descriptor") none (Data.fields #[(Value.str (Str.ofString "__dict__") 414), (Value.ref 132), (Value.builtin "function.__dict__"), (Value.builtin "function.__dict__#set")]) #[])
noncomputable def ko_134 (P : Params) : Obj := (Obj.mk (Value.type "getset_descriptor") none (Data.fields #[(Value.str (Str.ofString "__weakref__") 416), (Value.ref 132), (Value.builtin "ExceptionGroup.__weakref__"), Value.none]) #[])
noncomputable def ko_137 (P : Params) : Obj := (Obj.mk (Value.type "tuple") none (Data.seq #[(Value.type "collections.defaultdict")] 0) #[])
noncomputable def ko_140 (P : Params) : Obj := (Obj.mk (Value.type "cell") none (Data.cell (some (Value.ref 162))) #[])
noncomputable def ko_145 (P : Params) : Obj := (Obj.mk (Value.type "tuple") none (Data.seq #[(Value.ref 140)] 0) #[])
noncomputable def ko_146 (P : Params) : Obj := (Obj.mk (Value.type "tuple") none (Data.seq #[(Value.str (Str.ofString "__class__") 439)] 0) #[])
noncomputable def ko_147 (P : Params) : Obj := (Obj.mk Value.none none (Data.fields #[]) #[])
noncomputable def ko_148 (P : Params) : Obj := (Obj.mk (Value.type "tuple") none (Data.seq #[(Value.str (Str.ofString "self") 440), (Value.str (Str.ofString "key") 441)] 0) #[])
noncomputable def ko_149 (P : Params) : Obj := (Obj.mk (Value.type "tuple") none (Data.seq #[] 0) #[])
noncomputable def ko_150 (P : Params) : Obj := (Obj.mk Value.none none (Data.func (FuncData.mk (Str.ofString "__missing__") (Str.ofString "FreezableDefaultDict.__missing__") (fparams (mst 9 1)) (.stmts (fbody (mst 9 1))) (fscope (mst 9 1)) 0 [] Value.none Value.none Value.none Value.none none Value.none Value.none 0)) #[])
noncomputable def ko_151 (P : Params) : Obj := (Obj.mk (Value.type "code") none (Data.fields #[(Value.str (Str.ofString "__missing__") 436), (Value.str (Str.ofString "FreezableDefaultDict.__missing__") 437), (Value.str (Str.ofString "/claim/cut.py") 438), (Value.int 123 0), (Value.int 2 0), (Value.int 0 0), (Value.int 0 0), (Value.int 3 0), (Value.ref 146), (Value.bool Bool.true), (Value.int 273 0), (Value.ref 147), Value.none, (Value.ref 148), (Value.ref 149), (Value.ref 150), (Value.int 442 0), (Value.int 123 0), (Value.str (Str.ofString "/claim/cut.py") 443)]) #[])
noncomputable def ko_152 (P : Params) : Obj := (Obj.mk (Value.type "function") none (Data.func (FuncData.mk (Str.ofString "__missing__") (Str.ofString "FreezableDefaultDict.__missing__") (fparams (mst 9 1)) (.stmts (fbody (mst 9 1))) (fscope (mst 9 1)) 3 [((Str.ofString "__class__"), 140)] Value.none Value.none Value.none (Value.str (Str.ofString "cpy313.importlib.metadata._collections") 362) none (Value.ref 151) (Value.ref 145) 0)) #[])
noncomputable def ko_153 (P : Params) : Obj := (Obj.mk (Value.type "tuple") none (Data.seq #[] 0) #[])
noncomputable def ko_154 (P : Params) : Obj := (Obj.mk Value.none none (Data.fields #[]) #[])
noncomputable def ko_155 (P : Params) : Obj := (Obj.mk (Value.type "tuple") none (Data.seq #[(Value.str (Str.ofString "self") 448)] 0) #[])
noncomputable def ko_156 (P : Params) : Obj := (Obj.mk (Value.type "tuple") none (Data.seq #[(Value.str (Str.ofString "self") 449)] 0) #[])
noncomputable def ko_157 (P : Params) : Obj := (Obj.mk Value.none none (Data.func (FuncData.mk (Str.ofString "freeze") (Str.ofString "FreezableDefaultDict.freeze") (fparams (mst 9 2)) (.stmts (fbody (mst 9 2))) (fscope (mst 9 2)) 0 [] Value.none Value.none Value.none Value.none none Value.none Value.none 0)) #[])
noncomputable def ko_158 (P : Params) : Obj := (Obj.mk (Value.type "code") none (Data.fields #[(Value.str (Str.ofString "freeze") 445), (Value.str (Str.ofString "FreezableDefaultDict.freeze") 446), (Value.str (Str.ofString "/claim/cut.py") 447), (Value.int 126 0), (Value.int 1 0), (Value.int 0 0), (Value.int 0 0), (Value.int 3 0), (Value.ref 153), (Value.bool Bool.true), (Value.int 273 0), (Value.ref 154), Value.none, (Value.ref 155), (Value.ref 156), (Value.ref 157), (Value.int 450 0), (Value.int 126 0), (Value.str (Str.ofString "/claim/cut.py") 451)]) #[])
noncomputable def ko_159 (P : Params) : Obj := (Obj.mk (Value.type "function") none (Data.func (FuncData.mk (Str.ofString "freeze") (Str.ofString "FreezableDefaultDict.freeze") (fparams (mst 9 2)) (.stmts (fbody (mst 9 2))) (fscope (mst 9 2)) 3 [] Value.none Value.none Value.none (Value.str (Str.ofString "cpy313.importlib.metadata._collections") 362) none (Value.ref 158) Value.none 0)) #[])
noncomputable def ko_160 (P : Params) : Obj := (Obj.mk (Value.type "tuple") none (Data.seq #[(Value.str (Str.ofString "_frozen") 453)] 0) #[])
noncomputable def ko_161 (P : Params) : Obj := (Obj.mk (Value.type "dict") none (Data.dict #[(DictEntry.mk (PyData.keyHash P (Str.ofString "__module__")) (Value.str (Str.ofString "__module__") 428) (Value.str (Str.ofString "cpy313.importlib.metadata._collections") 362)), (DictEntry.mk (PyData.keyHash P (Str.ofString "__firstlineno__")) (Value.str (Str.ofString "__firstlineno__") 432) (Value.int 108 431)), (DictEntry.mk (PyData.keyHash P (Str.ofString "__doc__")) (Value.str (Str.ofString "__doc__") 434) (Value.str (Str.ofString "\nOften it is desirable to prevent the mutation of\na default dict after its initial construction, such\nas to prevent mutation during iteration.\n\n>>> dd = FreezableDefaultDict(list)\n>>> dd[0].append('1')\n>>> dd.freeze()\n>>> dd[1]\n[]\n>>> len(dd)\n1\n") 433)), (DictEntry.mk (PyData.keyHash P (Str.ofString "__missing__")) (Value.str (Str.ofString "__missing__") 444) (Value.ref 152)), (DictEntry.mk (PyData.keyHash P (Str.ofString "freeze")) (Value.str (Str.ofString "freeze") 452) (Value.ref 159)), (DictEntry.mk (PyData.keyHash P (Str.ofString "__static_attributes__")) (Value.str (Str.ofString "__static_attributes__") 454) (Value.ref 160)), (DictEntry.mk (PyData.keyHash P (Str.ofString "__dict__")) (Value.str (Str.ofString "__dict__") 457) (Value.ref 163)), (DictEntry.mk (PyData.keyHash P (Str.ofString "__weakref__")) (Value.str (Str.ofString "__weakref__") 459) (Value.ref 164))] 4) #[])
noncomputable def ko_162 (P : Params) : Obj := (Obj.mk (Value.type "type") none (Data.cls (ClassData.mk (Str.ofString "FreezableDefaultDict") [(Value.type "collections.defaultdict")] [(Value.ref 162), (Value.type "collections.defaultdict"), (Value.type "dict"), (Value.type "object")] 161 (Str.ofString "FreezableDefaultDict") Bool.true [(Str.ofString "")] [] Bool.false none Bool.false)) #[(some (Value.ref 137)), none, (some (Value.str (Str.ofString "FreezableDefaultDict") 421)), (some (Value.str (Str.ofString "FreezableDefaultDict") 429)), (some (Value.builtin "dict.__new__")), (some (Value.bool Bool.true))])
noncomputable def ko_163 (P : Params) : Obj := (Obj.mk (Value.type "getset_descriptor") none (Data.fields #[(Value.str (Str.ofString "__dict__") 456), (Value.ref 162), (Value.builtin "function.__dict__"), (Value.builtin "function.__dict__#set")]) #[])
noncomputable def ko_164 (P : Params) : Obj := (Obj.mk (Value.type "getset_descriptor") none (Data.fields #[(Value.str (Str.ofString "__weakref__") 458), (Value.ref 162), (Value.builtin "ExceptionGroup.__weakref__"), Value.none]) #[])
noncomputable def ko_167 (P : Params) : Obj := (Obj.mk (Value.type "tuple") none (Data.seq #[(Value.type "tuple")] 0) #[])
noncomputable def ko_170 (P : Params) : Obj := (Obj.mk (Value.type "cell") none (Data.cell (some (Value.ref 234))) #[])
noncomputable def ko_175 (P : Params) : Obj := (Obj.mk (Value.type "tuple") none (Data.seq #[] 0) #[])
noncomputable def ko_176 (P : Params) : Obj := (Obj.mk (Value.type "tuple") none (Data.seq #[(Value.str (Str.ofString "name") 480), (Value.str (Str.ofString "value") 481)] 0) #[])
noncomputable def ko_177 (P : Params) : Obj := (Obj.mk (Value.type "dict") none (Data.dict #[] 0) #[])
noncomputable def ko_178 (P : Params) : Obj := (Obj.mk (Value.type "tuple") none (Data.seq #[] 0) #[])
noncomputable def ko_179 (P : Params) : Obj := (Obj.mk Value.none none (Data.fields #[]) #[])
noncomputable def ko_180 (P : Params) : Obj := (Obj.mk (Value.type "tuple") none (Data.seq #[(Value.str (Str.ofString "_cls") 487), (Value.str (Str.ofString "name") 488), (Value.str (Str.ofString "value") 489)] 0) #[])
noncomputable def ko_181 (P : Params) : Obj := (Obj.mk (Value.type "tuple") none (Data.seq #[] 0) #[])
noncomputable def ko_182 (P : Params) : Obj := (Obj.mk Value.none none (Data.func (FuncData.mk (Str.ofString "__new__") (Str.ofString "Pair.__new__") (fparams (mst 10 4)) (.stmts (fbody (mst 10 4))) (fscope (mst 10 4)) 0 [] Value.none Value.none Value.none Value.none none Value.none Value.none 0)) #[])
noncomputable def ko_183 (P : Params) : Obj := (Obj.mk (Value.type "code") none (Data.fields #[(Value.str (Str.ofString "__new__") 484), (Value.str (Str.ofString "Pair.__new__") 485), (Value.str (Str.ofString "/claim/cut.py") 486), (Value.int 134 0), (Value.int 3 0), (Value.int 0 0), (Value.int 0 0), (Value.int 3 0), (Value.ref 178), (Value.bool Bool.true), (Value.int 273 0), (Value.ref 179), Value.none, (Value.ref 180), (Value.ref 181), (Value.ref 182), (Value.int 490 0), (Value.int 134 0), (Value.str (Str.ofString "/claim/cut.py") 491)]) #[])
noncomputable def ko_184 (P : Params) : Obj := (Obj.mk (Value.type "function") none (Data.func (FuncData.mk (Str.ofString "__new__") (Str.ofString "Pair.__new__") (fparams (mst 10 4)) (.stmts (fbody (mst 10 4))) (fscope (mst 10 4)) 3 [] Value.none Value.none (Value.str (Str.ofString "Create new instance of Pair(name, value)") 492) (Value.str (Str.ofString "cpy313.importlib.metadata._collections") 362) none (Value.ref 183) Value.none 0)) #[])
noncomputable def ko_185 (P : Params) : Obj := (Obj.mk (Value.type "tuple") none (Data.seq #[] 0) #[])
noncomputable def ko_186 (P : Params) : Obj := (Obj.mk Value.none none (Data.fields #[]) #[])
noncomputable def ko_187 (P : Params) : Obj := (Obj.mk (Value.type "tuple") none (Data.seq #[(Value.str (Str.ofString "cls") 497), (Value.str (Str.ofString "iterable") 498), (Value.str (Str.ofString "result") 499)] 0) #[])
noncomputable def ko_188 (P : Params) : Obj := (Obj.mk (Value.type "tuple") none (Data.seq #[] 0) #[])
noncomputable def ko_189 (P : Params) : Obj := (Obj.mk Value.none none (Data.func (FuncData.mk (Str.ofString "_make") (Str.ofString "Pair._make") (fparams (mst 10 5)) (.stmts (fbody (mst 10 5))) (fscope (mst 10 5)) 0 [] Value.none Value.none Value.none Value.none none Value.none Value.none 0)) #[])
noncomputable def ko_190 (P : Params) : Obj := (Obj.mk (Value.type "code") none (Data.fields #[(Value.str (Str.ofString "_make") 494), (Value.str (Str.ofString "Pair._make") 495), (Value.str (Str.ofString "/claim/cut.py") 496), (Value.int 138 0), (Value.int 2 0), (Value.int 0 0), (Value.int 0 0), (Value.int 3 0), (Value.ref 185), (Value.bool Bool.true), (Value.int 273 0), (Value.ref 186), Value.none, (Value.ref 187), (Value.ref 188), (Value.ref 189), (Value.int 500 0), (Value.int 138 0), (Value.str (Str.ofString "/claim/cut.py") 501)]) #[])
noncomputable def ko_191 (P : Params) : Obj := (Obj.mk (Value.type "function") none (Data.func (FuncData.mk (Str.ofString "_make") (Str.ofString "Pair._make") (fparams (mst 10 5)) (.stmts (fbody (mst 10 5))) (fscope (mst 10 5)) 3 [] Value.none Value.none (Value.str (Str.ofString "Make a new Pair object from a sequence or iterable") 502) (Value.str (Str.ofString "cpy313.importlib.metadata._collections") 362) (some 194) (Value.ref 190) Value.none 0)) #[])
noncomputable def ko_192 (P : Params) : Obj := (Obj.mk (Value.type "dict") none (Data.dict #[(DictEntry.mk (PyData.keyHash P (Str.ofString "__module__")) (Value.str (Str.ofString "__module__") 504) (Value.str (Str.ofString "cpy313.importlib.metadata._collections") 362)), (DictEntry.mk (PyData.keyHash P (Str.ofString "__name__")) (Value.str (Str.ofString "__name__") 507) (Value.str (Str.ofString "_make") 506)), (DictEntry.mk (PyData.keyHash P (Str.ofString "__qualname__")) (Value.str (Str.ofString "__qualname__") 510) (Value.str (Str.ofString "Pair._make") 509)), (DictEntry.mk (PyData.keyHash P (Str.ofString "__doc__")) (Value.str (Str.ofString "__doc__") 512) (Value.str (Str.ofString "Make a new Pair object from a sequence or iterable") 502)), (DictEntry.mk (PyData.keyHash P (Str.ofString "__annotations__")) (Value.str (Str.ofString "__annotations__") 514) (Value.ref 194))] 5) #[])
noncomputable def ko_193 (P : Params) : Obj := (Obj.mk (Value.type "classmethod") (some 192) (Data.fields #[(Value.ref 191), (Value.bool Bool.false)]) #[])
noncomputable def ko_194 (P : Params) : Obj := (Obj.mk (Value.type "dict") none (Data.dict #[] 0) #[])
noncomputable def ko_195 (P : Params) : Obj := (Obj.mk (Value.type "tuple") none (Data.seq #[(Value.ref 170)] 0) #[])
noncomputable def ko_196 (P : Params) : Obj := (Obj.mk (Value.type "tuple") none (Data.seq #[(Value.str (Str.ofString "__class__") 519)] 0) #[])
noncomputable def ko_197 (P : Params) : Obj := (Obj.mk Value.none none (Data.fields #[]) #[])
noncomputable def ko_198 (P : Params) : Obj := (Obj.mk (Value.type "tuple") none (Data.seq #[(Value.str (Str.ofString "self") 520), (Value.str (Str.ofString "kwds") 521), (Value.str (Str.ofString "result") 522)] 0) #[])
noncomputable def ko_199 (P : Params) : Obj := (Obj.mk (Value.type "tuple") none (Data.seq #[] 0) #[])
noncomputable def ko_200 (P : Params) : Obj := (Obj.mk Value.none none (Data.func (FuncData.mk (Str.ofString "_replace") (Str.ofString "Pair._replace") (fparams (mst 10 6)) (.stmts (fbody (mst 10 6))) (fscope (mst 10 6)) 0 [] Value.none Value.none Value.none Value.none none Value.none Value.none 0)) #[])
noncomputable def ko_201 (P : Params) : Obj := (Obj.mk (Value.type "code") none (Data.fields #[(Value.str (Str.ofString "_replace") 516), (Value.str (Str.ofString "Pair._replace") 517), (Value.str (Str.ofString "/claim/cut.py") 518), (Value.int 146 0), (Value.int 1 0), (Value.int 1 0), (Value.int 0 0), (Value.int 11 0), (Value.ref 196), (Value.bool Bool.true), (Value.int 273 0), (Value.ref 197), Value.none, (Value.ref 198), (Value.ref 199), (Value.ref 200), (Value.int 523 0), (Value.int 146 0), (Value.str (Str.ofString "/claim/cut.py") 524)]) #[])
noncomputable def ko_202 (P : Params) : Obj := (Obj.mk (Value.type "function") none (Data.func (FuncData.mk (Str.ofString "_replace") (Str.ofString "Pair._replace") (fparams (mst 10 6)) (.stmts (fbody (mst 10 6))) (fscope (mst 10 6)) 3 [((Str.ofString "__class__"), 170)] Value.none Value.none (Value.str (Str.ofString "Return a new Pair object replacing specified fields with new values") 525) (Value.str (Str.ofString "cpy313.importlib.metadata._collections") 362) none (Value.ref 201) (Value.ref 195) 0)) #[])
noncomputable def ko_203 (P : Params) : Obj := (Obj.mk (Value.type "tuple") none (Data.seq #[] 0) #[])
noncomputable def ko_204 (P : Params) : Obj := (Obj.mk Value.none none (Data.fields #[]) #[])
noncomputable def ko_205 (P : Params) : Obj := (Obj.mk (Value.type "tuple") none (Data.seq #[(Value.str (Str.ofString "self") 531)] 0) #[])
noncomputable def ko_206 (P : Params) : Obj := (Obj.mk (Value.type "tuple") none (Data.seq #[] 0) #[])
noncomputable def ko_207 (P : Params) : Obj := (Obj.mk Value.none none (Data.func (FuncData.mk (Str.ofString "__repr__") (Str.ofString "Pair.__repr__") (fparams (mst 10 8)) (.stmts (fbody (mst 10 8))) (fscope (mst 10 8)) 0 [] Value.none Value.none Value.none Value.none none Value.none Value.none 0)) #[])
noncomputable def ko_208 (P : Params) : Obj := (Obj.mk (Value.type "code") none (Data.fields #[(Value.str (Str.ofString "__repr__") 528), (Value.str (Str.ofString "Pair.__repr__") 529), (Value.str (Str.ofString "/claim/cut.py") 530), (Value.int 157 0), (Value.int 1 0), (Value.int 0 0), (Value.int 0 0), (Value.int 3 0), (Value.ref 203), (Value.bool Bool.true), (Value.int 273 0), (Value.ref 204), Value.none, (Value.ref 205), (Value.ref 206), (Value.ref 207), (Value.int 532 0), (Value.int 157 0), (Value.str (Str.ofString "/claim/cut.py") 533)]) #[])
noncomputable def ko_209 (P : Params) : Obj := (Obj.mk (Value.type "function") none (Data.func (FuncData.mk (Str.ofString "__repr__") (Str.ofString "Pair.__repr__") (fparams (mst 10 8)) (.stmts (fbody (mst 10 8))) (fscope (mst 10 8)) 3 [] Value.none Value.none (Value.str (Str.ofString "Return a nicely formatted representation string") 534) (Value.str (Str.ofString "cpy313.importlib.metadata._collections") 362) none (Value.ref 208) Value.none 0)) #[])
noncomputable def ko_210 (P : Params) : Obj := (Obj.mk (Value.type "tuple") none (Data.seq #[] 0) #[])
noncomputable def ko_211 (P : Params) : Obj := (Obj.mk Value.none none (Data.fields #[]) #[])
noncomputable def ko_212 (P : Params) : Obj := (Obj.mk (Value.type "tuple") none (Data.seq #[(Value.str (Str.ofString "self") 539)] 0) #[])
noncomputable def ko_213 (P : Params) : Obj := (Obj.mk (Value.type "tuple") none (Data.seq #[] 0) #[])
noncomputable def ko_214 (P : Params) : Obj := (Obj.mk Value.none none (Data.func (FuncData.mk (Str.ofString "_asdict") (Str.ofString "Pair._asdict") (fparams (mst 10 9)) (.stmts (fbody (mst 10 9))) (fscope (mst 10 9)) 0 [] Value.none Value.none Value.none Value.none none Value.none Value.none 0)) #[])
noncomputable def ko_215 (P : Params) : Obj := (Obj.mk (Value.type "code") none (Data.fields #[(Value.str (Str.ofString "_asdict") 536), (Value.str (Str.ofString "Pair._asdict") 537), (Value.str (Str.ofString "/claim/cut.py") 538), (Value.int 161 0), (Value.int 1 0), (Value.int 0 0), (Value.int 0 0), (Value.int 3 0), (Value.ref 210), (Value.bool Bool.true), (Value.int 273 0), (Value.ref 211), Value.none, (Value.ref 212), (Value.ref 213), (Value.ref 214), (Value.int 540 0), (Value.int 161 0), (Value.str (Str.ofString "/claim/cut.py") 541)]) #[])
noncomputable def ko_216 (P : Params) : Obj := (Obj.mk (Value.type "function") none (Data.func (FuncData.mk (Str.ofString "_asdict") (Str.ofString "Pair._asdict") (fparams (mst 10 9)) (.stmts (fbody (mst 10 9))) (fscope (mst 10 9)) 3 [] Value.none Value.none Value.none (Value.str (Str.ofString "cpy313.importlib.metadata._collections") 362) none (Value.ref 215) Value.none 0)) #[])
noncomputable def ko_217 (P : Params) : Obj := (Obj.mk (Value.type "tuple") none (Data.seq #[] 0) #[])
noncomputable def ko_218 (P : Params) : Obj := (Obj.mk Value.none none (Data.fields #[]) #[])
noncomputable def ko_219 (P : Params) : Obj := (Obj.mk (Value.type "tuple") none (Data.seq #[(Value.str (Str.ofString "self") 546)] 0) #[])
noncomputable def ko_220 (P : Params) : Obj := (Obj.mk (Value.type "tuple") none (Data.seq #[] 0) #[])
noncomputable def ko_221 (P : Params) : Obj := (Obj.mk Value.none none (Data.func (FuncData.mk (Str.ofString "__getnewargs__") (Str.ofString "Pair.__getnewargs__") (fparams (mst 10 10)) (.stmts (fbody (mst 10 10))) (fscope (mst 10 10)) 0 [] Value.none Value.none Value.none Value.none none Value.none Value.none 0)) #[])
noncomputable def ko_222 (P : Params) : Obj := (Obj.mk (Value.type "code") none (Data.fields #[(Value.str (Str.ofString "__getnewargs__") 543), (Value.str (Str.ofString "Pair.__getnewargs__") 544), (Value.str (Str.ofString "/claim/cut.py") 545), (Value.int 164 0), (Value.int 1 0), (Value.int 0 0), (Value.int 0 0), (Value.int 3 0), (Value.ref 217), (Value.bool Bool.true), (Value.int 273 0), (Value.ref 218), Value.none, (Value.ref 219), (Value.ref 220), (Value.ref 221), (Value.int 547 0), (Value.int 164 0), (Value.str (Str.ofString "/claim/cut.py") 548)]) #[])
noncomputable def ko_223 (P : Params) : Obj := (Obj.mk (Value.type "function") none (Data.func (FuncData.mk (Str.ofString "__getnewargs__") (Str.ofString "Pair.__getnewargs__") (fparams (mst 10 10)) (.stmts (fbody (mst 10 10))) (fscope (mst 10 10)) 3 [] Value.none Value.none (Value.str (Str.ofString "Return self as a plain tuple.  Used by copy and pickle.") 549) (Value.str (Str.ofString "cpy313.importlib.metadata._collections") 362) none (Value.ref 222) Value.none 0)) #[])
noncomputable def ko_224 (P : Params) : Obj := (Obj.mk (Value.type "tuple") none (Data.seq #[(Value.str (Str.ofString "name") 551), (Value.str (Str.ofString "value") 552)] 0) #[])
noncomputable def ko_225 (P : Params) : Obj := (Obj.mk (Value.type "dict") none (Data.dict #[(DictEntry.mk (PyData.keyHash P (Str.ofString "index")) (Value.str (Str.ofString "index") 560) (Value.int 0 554)), (DictEntry.mk (PyData.keyHash P (Str.ofString "__doc__")) (Value.str (Str.ofString "__doc__") 562) (Value.str (Str.ofString "Alias for field number 0") 555))] 2) #[])
noncomputable def ko_226 (P : Params) : Obj := (Obj.mk (Value.ref 132) (some 225) Data.plain #[])
noncomputable def ko_228 (P : Params) : Obj := (Obj.mk (Value.type "dict") none (Data.dict #[(DictEntry.mk (PyData.keyHash P (Str.ofString "index")) (Value.str (Str.ofString "index") 570) (Value.int 1 564)), (DictEntry.mk (PyData.keyHash P (Str.ofString "__doc__")) (Value.str (Str.ofString "__doc__") 572) (Value.str (Str.ofString "Alias for field number 1") 565))] 2) #[])
noncomputable def ko_229 (P : Params) : Obj := (Obj.mk (Value.ref 132) (some 228) Data.plain #[])
noncomputable def ko_231 (P : Params) : Obj := (Obj.mk (Value.type "tuple") none (Data.seq #[] 0) #[])
noncomputable def ko_233 (P : Params) : Obj := (Obj.mk (Value.type "dict") none (Data.dict #[(DictEntry.mk (PyData.keyHash P (Str.ofString "__module__")) (Value.str (Str.ofString "__module__") 471) (Value.str (Str.ofString "cpy313.importlib.metadata._collections") 362)), (DictEntry.mk (PyData.keyHash P (Str.ofString "__firstlineno__")) (Value.str (Str.ofString "__firstlineno__") 475) (Value.int 128 474)), (DictEntry.mk (PyData.keyHash P (Str.ofString "__doc__")) (Value.str (Str.ofString "__doc__") 477) (Value.str (Str.ofString "Pair(name, value)") 476)), (DictEntry.mk (PyData.keyHash P (Str.ofString "__slots__")) (Value.str (Str.ofString "__slots__") 479) (Value.ref 175)), (DictEntry.mk (PyData.keyHash P (Str.ofString "_fields")) (Value.str (Str.ofString "_fields") 482) (Value.ref 176)), (DictEntry.mk (PyData.keyHash P (Str.ofString "_field_defaults")) (Value.str (Str.ofString "_field_defaults") 483) (Value.ref 177)), (DictEntry.mk (PyData.keyHash P (Str.ofString "__new__")) (Value.str (Str.ofString "__new__") 493) (Value.ref 235)), (DictEntry.mk (PyData.keyHash P (Str.ofString "_make")) (Value.str (Str.ofString "_make") 515) (Value.ref 193)), (DictEntry.mk (PyData.keyHash P (Str.ofString "_replace")) (Value.str (Str.ofString "_replace") 526) (Value.ref 202)), (DictEntry.mk (PyData.keyHash P (Str.ofString "__replace__")) (Value.str (Str.ofString "__replace__") 527) (Value.ref 202)), (DictEntry.mk (PyData.keyHash P (Str.ofString "__repr__")) (Value.str (Str.ofString "__repr__") 535) (Value.ref 209)), (DictEntry.mk (PyData.keyHash P (Str.ofString "_asdict")) (Value.str (Str.ofString "_asdict") 542) (Value.ref 216)), (DictEntry.mk (PyData.keyHash P (Str.ofString "__getnewargs__")) (Value.str (Str.ofString "__getnewargs__") 550) (Value.ref 223)), (DictEntry.mk (PyData.keyHash P (Str.ofString "__match_args__")) (Value.str (Str.ofString "__match_args__") 553) (Value.ref 224)), (DictEntry.mk (PyData.keyHash P (Str.ofString "name")) (Value.str (Str.ofString "name") 563) (Value.ref 226)), (DictEntry.mk (PyData.keyHash P (Str.ofString "value")) (Value.str (Str.ofString "value") 573) (Value.ref 229)), (DictEntry.mk (PyData.keyHash P (Str.ofString "__static_attributes__")) (Value.str (Str.ofString "__static_attributes__") 574) (Value.ref 231))] 2) #[])
noncomputable def ko_234 (P : Params) : Obj := (Obj.mk (Value.type "type") none (Data.cls (ClassData.mk (Str.ofString "Pair") [(Value.type "tuple")] [(Value.ref 234), (Value.type "tuple"), (Value.type "object")] 233 (Str.ofString "Pair") Bool.false [] [(Value.ref 257)] Bool.false none Bool.false)) #[(some (Value.ref 167)), none, (some (Value.str (Str.ofString "Pair") 464)), (some (Value.str (Str.ofString "Pair") 472)), (some Value.none), (some (Value.bool Bool.false))])
noncomputable def ko_235 (P : Params) : Obj := (Obj.mk (Value.type "staticmethod") none (Data.fields #[(Value.ref 184)]) #[])
noncomputable def ko_238 (P : Params) : Obj := (Obj.mk (Value.type "tuple") none (Data.seq #[(Value.ref 234)] 0) #[])
noncomputable def ko_245 (P : Params) : Obj := (Obj.mk (Value.type "tuple") none (Data.seq #[] 0) #[])
noncomputable def ko_246 (P : Params) : Obj := (Obj.mk Value.none none (Data.fields #[]) #[])
noncomputable def ko_247 (P : Params) : Obj := (Obj.mk (Value.type "tuple") none (Data.seq #[(Value.str (Str.ofString "cls") 594), (Value.str (Str.ofString "text") 595)] 0) #[])
noncomputable def ko_248 (P : Params) : Obj := (Obj.mk (Value.type "tuple") none (Data.seq #[] 0) #[])
noncomputable def ko_249 (P : Params) : Obj := (Obj.mk Value.none none (Data.func (FuncData.mk (Str.ofString "parse") (Str.ofString "Pair.parse") (fparams (mst 11 0)) (.stmts (fbody (mst 11 0))) (fscope (mst 11 0)) 0 [] Value.none Value.none Value.none Value.none none Value.none Value.none 0)) #[])
noncomputable def ko_250 (P : Params) : Obj := (Obj.mk (Value.type "code") none (Data.fields #[(Value.str (Str.ofString "parse") 591), (Value.str (Str.ofString "Pair.parse") 592), (Value.str (Str.ofString "/claim/cut.py") 593), (Value.int 172 0), (Value.int 2 0), (Value.int 0 0), (Value.int 0 0), (Value.int 3 0), (Value.ref 245), (Value.bool Bool.true), (Value.int 273 0), (Value.ref 246), Value.none, (Value.ref 247), (Value.ref 248), (Value.ref 249), (Value.int 596 0), (Value.int 172 0), (Value.str (Str.ofString "/claim/cut.py") 597)]) #[])
noncomputable def ko_251 (P : Params) : Obj := (Obj.mk (Value.type "function") none (Data.func (FuncData.mk (Str.ofString "parse") (Str.ofString "Pair.parse") (fparams (mst 11 0)) (.stmts (fbody (mst 11 0))) (fscope (mst 11 0)) 3 [] Value.none Value.none Value.none (Value.str (Str.ofString "cpy313.importlib.metadata._collections") 362) (some 254) (Value.ref 250) Value.none 0)) #[])
noncomputable def ko_252 (P : Params) : Obj := (Obj.mk (Value.type "dict") none (Data.dict #[(DictEntry.mk (PyData.keyHash P (Str.ofString "__module__")) (Value.str (Str.ofString "__module__") 599) (Value.str (Str.ofString "cpy313.importlib.metadata._collections") 362)), (DictEntry.mk (PyData.keyHash P (Str.ofString "__name__")) (Value.str (Str.ofString "__name__") 602) (Value.str (Str.ofString "parse") 601)), (DictEntry.mk (PyData.keyHash P (Str.ofString "__qualname__")) (Value.str (Str.ofString "__qualname__") 605) (Value.str (Str.ofString "Pair.parse") 604)), (DictEntry.mk (PyData.keyHash P (Str.ofString "__doc__")) (Value.str (Str.ofString "__doc__") 607) Value.none), (DictEntry.mk (PyData.keyHash P (Str.ofString "__annotations__")) (Value.str (Str.ofString "__annotations__") 609) (Value.ref 254))] 5) #[])
noncomputable def ko_253 (P : Params) : Obj := (Obj.mk (Value.type "classmethod") (some 252) (Data.fields #[(Value.ref 251), (Value.bool Bool.false)]) #[])
noncomputable def ko_254 (P : Params) : Obj := (Obj.mk (Value.type "dict") none (Data.dict #[] 0) #[])
noncomputable def ko_255 (P : Params) : Obj := (Obj.mk (Value.type "tuple") none (Data.seq #[] 0) #[])
noncomputable def ko_256 (P : Params) : Obj := (Obj.mk (Value.type "dict") none (Data.dict #[(DictEntry.mk (PyData.keyHash P (Str.ofString "__module__")) (Value.str (Str.ofString "__module__") 586) (Value.str (Str.ofString "cpy313.importlib.metadata._collections") 362)), (DictEntry.mk (PyData.keyHash P (Str.ofString "__firstlineno__")) (Value.str (Str.ofString "__firstlineno__") 590) (Value.int 170 589)), (DictEntry.mk (PyData.keyHash P (Str.ofString "parse")) (Value.str (Str.ofString "parse") 610) (Value.ref 253)), (DictEntry.mk (PyData.keyHash P (Str.ofString "__static_attributes__")) (Value.str (Str.ofString "__static_attributes__") 611) (Value.ref 255)), (DictEntry.mk (PyData.keyHash P (Str.ofString "__dict__")) (Value.str (Str.ofString "__dict__") 613) (Value.ref 258)), (DictEntry.mk (PyData.keyHash P (Str.ofString "__doc__")) (Value.str (Str.ofString "__doc__") 614) Value.none)] 3) #[])
noncomputable def ko_257 (P : Params) : Obj := (Obj.mk (Value.type "type") none (Data.cls (ClassData.mk (Str.ofString "Pair") [(Value.ref 234)] [(Value.ref 257), (Value.ref 234), (Value.type "tuple"), (Value.type "object")] 256 (Str.ofString "Pair") Bool.true [] [] Bool.false none Bool.false)) #[(some (Value.ref 238)), none, (some (Value.str (Str.ofString "Pair") 579)), (some (Value.str (Str.ofString "Pair") 587)), (some Value.none), (some (Value.bool Bool.false))])
noncomputable def ko_258 (P : Params) : Obj := (Obj.mk (Value.type "getset_descriptor") none (Data.fields #[(Value.str (Str.ofString "__dict__") 612), (Value.ref 257), (Value.builtin "function.__dict__"), (Value.builtin "function.__dict__#set")]) #[])
noncomputable def ko_261 (P : Params) : Obj := (Obj.mk (Value.type "tuple") none (Data.seq #[] 0) #[])
noncomputable def ko_262 (P : Params) : Obj := (Obj.mk Value.none none (Data.fields #[]) #[])
noncomputable def ko_263 (P : Params) : Obj := (Obj.mk (Value.type "tuple") none (Data.seq #[(Value.str (Str.ofString "name") 622)] 0) #[])
noncomputable def ko_264 (P : Params) : Obj := (Obj.mk (Value.type "tuple") none (Data.seq #[] 0) #[])
noncomputable def ko_265 (P : Params) : Obj := (Obj.mk Value.none none (Data.func (FuncData.mk (Str.ofString "_law_same") (Str.ofString "_law_same") (fparams (stOf 13)) (.stmts (fbody (stOf 13))) (fscope (stOf 13)) 0 [] Value.none Value.none Value.none Value.none none Value.none Value.none 0)) #[])
noncomputable def ko_266 (P : Params) : Obj := (Obj.mk (Value.type "code") none (Data.fields #[(Value.str (Str.ofString "_law_same") 619), (Value.str (Str.ofString "_law_same") 620), (Value.str (Str.ofString "/claim/cut.py") 621), (Value.int 176 0), (Value.int 1 0), (Value.int 0 0), (Value.int 0 0), (Value.int 3 0), (Value.ref 261), (Value.bool Bool.true), (Value.int 273 0), (Value.ref 262), Value.none, (Value.ref 263), (Value.ref 264), (Value.ref 265), (Value.int 623 0), (Value.int 176 0), (Value.str (Str.ofString "/claim/cut.py") 624)]) #[])
noncomputable def ko_267 (P : Params) : Obj := (Obj.mk (Value.type "function") none (Data.func (FuncData.mk (Str.ofString "_law_same") (Str.ofString "_law_same") (fparams (stOf 13)) (.stmts (fbody (stOf 13))) (fscope (stOf 13)) 3 [] Value.none Value.none Value.none (Value.str (Str.ofString "law_il0121_01") 617) none (Value.ref 266) Value.none 0)) #[])
noncomputable def ko_268 (P : Params) : Obj := (Obj.mk (Value.type "tuple") none (Data.seq #[] 0) #[])
noncomputable def ko_269 (P : Params) : Obj := (Obj.mk Value.none none (Data.fields #[]) #[])
noncomputable def ko_270 (P : Params) : Obj := (Obj.mk (Value.type "tuple") none (Data.seq #[(Value.str (Str.ofString "name") 629)] 0) #[])
noncomputable def ko_271 (P : Params) : Obj := (Obj.mk (Value.type "tuple") none (Data.seq #[] 0) #[])
noncomputable def ko_272 (P : Params) : Obj := (Obj.mk Value.none none (Data.func (FuncData.mk (Str.ofString "_law_small") (Str.ofString "_law_small") (fparams (stOf 14)) (.stmts (fbody (stOf 14))) (fscope (stOf 14)) 0 [] Value.none Value.none Value.none Value.none none Value.none Value.none 0)) #[])
noncomputable def ko_273 (P : Params) : Obj := (Obj.mk (Value.type "code") none (Data.fields #[(Value.str (Str.ofString "_law_small") 626), (Value.str (Str.ofString "_law_small") 627), (Value.str (Str.ofString "/claim/cut.py") 628), (Value.int 178 0), (Value.int 1 0), (Value.int 0 0), (Value.int 0 0), (Value.int 3 0), (Value.ref 268), (Value.bool Bool.true), (Value.int 273 0), (Value.ref 269), Value.none, (Value.ref 270), (Value.ref 271), (Value.ref 272), (Value.int 630 0), (Value.int 178 0), (Value.str (Str.ofString "/claim/cut.py") 631)]) #[])
noncomputable def ko_274 (P : Params) : Obj := (Obj.mk (Value.type "function") none (Data.func (FuncData.mk (Str.ofString "_law_small") (Str.ofString "_law_small") (fparams (stOf 14)) (.stmts (fbody (stOf 14))) (fscope (stOf 14)) 3 [] Value.none Value.none Value.none (Value.str (Str.ofString "law_il0121_01") 617) none (Value.ref 273) Value.none 0)) #[])
noncomputable def ko_275 (P : Params) : Obj := (Obj.mk (Value.type "tuple") none (Data.seq #[] 0) #[])
noncomputable def ko_276 (P : Params) : Obj := (Obj.mk Value.none none (Data.fields #[]) #[])
noncomputable def ko_277 (P : Params) : Obj := (Obj.mk (Value.type "tuple") none (Data.seq #[(Value.str (Str.ofString "lines") 636), (Value.str (Str.ofString "key") 637), (Value.str (Str.ofString "fold") 638), (Value.str (Str.ofString "starts") 639), (Value.str (Str.ofString "frozen") 640), (Value.str (Str.ofString "book") 641), (Value.str (Str.ofString "line") 642), (Value.str (Str.ofString "pair") 643), (Value.str (Str.ofString "walks") 644), (Value.str (Str.ofString "start") 645), (Value.str (Str.ofString "row") 646), (Value.str (Str.ofString "walk") 647), (Value.str (Str.ofString "name") 648)] 0) #[])
noncomputable def ko_278 (P : Params) : Obj := (Obj.mk (Value.type "tuple") none (Data.seq #[] 0) #[])
noncomputable def ko_279 (P : Params) : Obj := (Obj.mk Value.none none (Data.func (FuncData.mk (Str.ofString "_law_run") (Str.ofString "_law_run") (fparams (stOf 15)) (.stmts (fbody (stOf 15))) (fscope (stOf 15)) 0 [] Value.none Value.none Value.none Value.none none Value.none Value.none 0)) #[])
noncomputable def ko_280 (P : Params) : Obj := (Obj.mk (Value.type "code") none (Data.fields #[(Value.str (Str.ofString "_law_run") 633), (Value.str (Str.ofString "_law_run") 634), (Value.str (Str.ofString "/claim/cut.py") 635), (Value.int 180 0), (Value.int 5 0), (Value.int 0 0), (Value.int 0 0), (Value.int 3 0), (Value.ref 275), (Value.bool Bool.true), (Value.int 273 0), (Value.ref 276), Value.none, (Value.ref 277), (Value.ref 278), (Value.ref 279), (Value.int 649 0), (Value.int 180 0), (Value.str (Str.ofString "/claim/cut.py") 650)]) #[])
noncomputable def ko_281 (P : Params) : Obj := (Obj.mk (Value.type "function") none (Data.func (FuncData.mk (Str.ofString "_law_run") (Str.ofString "_law_run") (fparams (stOf 15)) (.stmts (fbody (stOf 15))) (fscope (stOf 15)) 3 [] Value.none Value.none Value.none (Value.str (Str.ofString "law_il0121_01") 617) none (Value.ref 280) Value.none 0)) #[])
noncomputable def ko_282 (P : Params) : Obj := (Obj.mk (Value.type "tuple") none (Data.seq #[] 0) #[])
noncomputable def ko_283 (P : Params) : Obj := (Obj.mk Value.none none (Data.fields #[]) #[])
noncomputable def ko_284 (P : Params) : Obj := (Obj.mk Value.none none (Data.func (FuncData.mk (Str.ofString "_law_due") (Str.ofString "_law_due") (fparams (stOf 16)) (.stmts (fbody (stOf 16))) (fscope (stOf 16)) 0 [] Value.none Value.none Value.none Value.none none Value.none Value.none 0)) #[])
noncomputable def ko_285 (P : Params) : Obj := (Obj.mk (Value.type "code") none (Data.fields #[(Value.str (Str.ofString "_law_due") 652), (Value.str (Str.ofString "_law_due") 653), (Value.str (Str.ofString "/claim/cut.py") 654), (Value.int 196 0), (Value.int 3 0), (Value.int 0 0), (Value.int 0 0), (Value.int 3 0), (Value.ref 282), (Value.bool Bool.true), (Value.int 273 0), (Value.ref 283), Value.none, Value.none, Value.none, (Value.ref 284), (Value.int 655 0), (Value.int 196 0), (Value.str (Str.ofString "/claim/cut.py") 656)]) #[])
noncomputable def ko_286 (P : Params) : Obj := (Obj.mk (Value.type "function") none (Data.func (FuncData.mk (Str.ofString "_law_due") (Str.ofString "_law_due") (fparams (stOf 16)) (.stmts (fbody (stOf 16))) (fscope (stOf 16)) 3 [] Value.none Value.none Value.none (Value.str (Str.ofString "law_il0121_01") 617) none (Value.ref 285) Value.none 0)) #[])
noncomputable def ko_287 (P : Params) : Obj := (Obj.mk (Value.type "tuple") none (Data.seq #[] 0) #[])
noncomputable def ko_288 (P : Params) : Obj := (Obj.mk Value.none none (Data.fields #[]) #[])
noncomputable def ko_289 (P : Params) : Obj := (Obj.mk Value.none none (Data.func (FuncData.mk (Str.ofString "_law_shelf") (Str.ofString "_law_shelf") (fparams (stOf 17)) (.stmts (fbody (stOf 17))) (fscope (stOf 17)) 0 [] Value.none Value.none Value.none Value.none none Value.none Value.none 0)) #[])
noncomputable def ko_290 (P : Params) : Obj := (Obj.mk (Value.type "code") none (Data.fields #[(Value.str (Str.ofString "_law_shelf") 658), (Value.str (Str.ofString "_law_shelf") 659), (Value.str (Str.ofString "/claim/cut.py") 660), (Value.int 207 0), (Value.int 3 0), (Value.int 0 0), (Value.int 0 0), (Value.int 3 0), (Value.ref 287), (Value.bool Bool.true), (Value.int 273 0), (Value.ref 288), Value.none, Value.none, Value.none, (Value.ref 289), (Value.int 661 0), (Value.int 207 0), (Value.str (Str.ofString "/claim/cut.py") 662)]) #[])
noncomputable def ko_291 (P : Params) : Obj := (Obj.mk (Value.type "function") none (Data.func (FuncData.mk (Str.ofString "_law_shelf") (Str.ofString "_law_shelf") (fparams (stOf 17)) (.stmts (fbody (stOf 17))) (fscope (stOf 17)) 3 [] Value.none Value.none Value.none (Value.str (Str.ofString "law_il0121_01") 617) none (Value.ref 290) Value.none 0)) #[])
noncomputable def ko_292 (P : Params) : Obj := (Obj.mk (Value.type "tuple") none (Data.seq #[] 0) #[])
noncomputable def ko_293 (P : Params) : Obj := (Obj.mk Value.none none (Data.fields #[]) #[])
noncomputable def ko_294 (P : Params) : Obj := (Obj.mk Value.none none (Data.func (FuncData.mk (Str.ofString "law") (Str.ofString "law") (fparams (stOf 18)) (.stmts (fbody (stOf 18))) (fscope (stOf 18)) 0 [] Value.none Value.none Value.none Value.none none Value.none Value.none 0)) #[])
noncomputable def ko_295 (P : Params) : Obj := (Obj.mk (Value.type "code") none (Data.fields #[(Value.str (Str.ofString "law") 664), (Value.str (Str.ofString "law") 665), (Value.str (Str.ofString "/claim/cut.py") 666), (Value.int 213 0), (Value.int 1 0), (Value.int 0 0), (Value.int 0 0), (Value.int 3 0), (Value.ref 292), (Value.bool Bool.true), (Value.int 273 0), (Value.ref 293), Value.none, Value.none, Value.none, (Value.ref 294), (Value.int 667 0), (Value.int 213 0), (Value.str (Str.ofString "/claim/cut.py") 668)]) #[])
noncomputable def ko_296 (P : Params) : Obj := (Obj.mk (Value.type "function") none (Data.func (FuncData.mk (Str.ofString "law") (Str.ofString "law") (fparams (stOf 18)) (.stmts (fbody (stOf 18))) (fscope (stOf 18)) 3 [] Value.none Value.none Value.none (Value.str (Str.ofString "law_il0121_01") 617) none (Value.ref 295) Value.none 0)) #[])
/-- the head's heap without the code table that grows -/
noncomputable def KF (P : Params) : Frag := [(0, ko_0 P), (1, ko_1 P), (2, ko_2 P), (3, ko_3 P), (4, ko_4 P), (5, ko_5 P), (6, ko_6 P), (7, ko_7 P), (8, ko_8 P), (9, ko_9 P), (10, ko_10 P), (11, ko_11 P), (12, ko_12 P), (13, ko_13 P), (14, ko_14 P), (15, ko_15 P), (33, ko_33 P), (34, ko_34 P), (35, ko_35 P), (36, ko_36 P), (37, ko_37 P), (38, ko_38 P), (39, ko_39 P), (47, ko_47 P), (48, ko_48 P), (49, ko_49 P), (50, ko_50 P), (51, ko_51 P), (52, ko_52 P), (53, ko_53 P), (54, ko_54 P), (55, ko_55 P), (56, ko_56 P), (57, ko_57 P), (58, ko_58 P), (59, ko_59 P), (60, ko_60 P), (61, ko_61 P), (62, ko_62 P), (63, ko_63 P), (64, ko_64 P), (65, ko_65 P), (66, ko_66 P), (67, ko_67 P), (68, ko_68 P), (69, ko_69 P), (71, ko_71 P), (72, ko_72 P), (73, ko_73 P), (74, ko_74 P), (77, ko_77 P), (78, ko_78 P), (79, ko_79 P), (80, ko_80 P), (81, ko_81 P), (82, ko_82 P), (83, ko_83 P), (84, ko_84 P), (85, ko_85 P), (86, ko_86 P), (87, ko_87 P), (88, ko_88 P), (89, ko_89 P), (90, ko_90 P), (91, ko_91 P), (92, ko_92 P), (93, ko_93 P), (101, ko_101 P), (102, ko_102 P), (103, ko_103 P), (104, ko_104 P), (105, ko_105 P), (106, ko_106 P), (107, ko_107 P), (108, ko_108 P), (109, ko_109 P), (110, ko_110 P), (111, ko_111 P), (112, ko_112 P), (113, ko_113 P), (114, ko_114 P), (115, ko_115 P), (116, ko_116 P), (117, ko_117 P), (118, ko_118 P), (119, ko_119 P), (120, ko_120 P), (121, ko_121 P), (122, ko_122 P), (123, ko_123 P), (124, ko_124 P), (125, ko_125 P), (126, ko_126 P), (127, ko_127 P), (128, ko_128 P), (129, ko_129 P), (130, ko_130 P), (131, ko_131 P), (132, ko_132 P), (133, ko_133 P), (134, ko_134 P), (137, ko_137 P), (140, ko_140 P), (145, ko_145 P), (146, ko_146 P), (147, ko_147 P), (148, ko_148 P), (149, ko_149 P), (150, ko_150 P), (151, ko_151 P), (152, ko_152 P), (153, ko_153 P), (155, ko_155 P), (156, ko_156 P), (157, ko_157 P), (158, ko_158 P), (159, ko_159 P), (160, ko_160 P), (161, ko_161 P), (162, ko_162 P), (163, ko_163 P), (164, ko_164 P), (167, ko_167 P), (170, ko_170 P), (175, ko_175 P), (176, ko_176 P), (177, ko_177 P), (178, ko_178 P), (179, ko_179 P), (180, ko_180 P), (181, ko_181 P), (182, ko_182 P), (183, ko_183 P), (184, ko_184 P), (185, ko_185 P), (186, ko_186 P), (187, ko_187 P), (188, ko_188 P), (189, ko_189 P), (190, ko_190 P), (191, ko_191 P), (192, ko_192 P), (193, ko_193 P), (194, ko_194 P), (195, ko_195 P), (196, ko_196 P), (197, ko_197 P), (198, ko_198 P), (199, ko_199 P), (200, ko_200 P), (201, ko_201 P), (202, ko_202 P), (203, ko_203 P), (204, ko_204 P), (205, ko_205 P), (206, ko_206 P), (207, ko_207 P), (208, ko_208 P), (209, ko_209 P), (210, ko_210 P), (211, ko_211 P), (212, ko_212 P), (213, ko_213 P), (214, ko_214 P), (215, ko_215 P), (216, ko_216 P), (217, ko_217 P), (218, ko_218 P), (219, ko_219 P), (220, ko_220 P), (221, ko_221 P), (222, ko_222 P), (223, ko_223 P), (224, ko_224 P), (225, ko_225 P), (226, ko_226 P), (228, ko_228 P), (229, ko_229 P), (231, ko_231 P), (233, ko_233 P), (234, ko_234 P), (235, ko_235 P), (238, ko_238 P), (245, ko_245 P), (246, ko_246 P), (247, ko_247 P), (248, ko_248 P), (249, ko_249 P), (250, ko_250 P), (251, ko_251 P), (252, ko_252 P), (253, ko_253 P), (254, ko_254 P), (255, ko_255 P), (256, ko_256 P), (257, ko_257 P), (258, ko_258 P), (261, ko_261 P), (262, ko_262 P), (263, ko_263 P), (264, ko_264 P), (265, ko_265 P), (266, ko_266 P), (267, ko_267 P), (268, ko_268 P), (269, ko_269 P), (270, ko_270 P), (271, ko_271 P), (272, ko_272 P), (273, ko_273 P), (274, ko_274 P), (275, ko_275 P), (276, ko_276 P), (277, ko_277 P), (278, ko_278 P), (279, ko_279 P), (280, ko_280 P), (281, ko_281 P), (282, ko_282 P), (283, ko_283 P), (284, ko_284 P), (285, ko_285 P), (286, ko_286 P), (287, ko_287 P), (288, ko_288 P), (289, ko_289 P), (290, ko_290 P), (291, ko_291 P), (292, ko_292 P), (293, ko_293 P), (294, ko_294 P), (295, ko_295 P), (296, ko_296 P)]
noncomputable def heapL (P : Params) : Frag := (154, ko_154 P) :: KF P
noncomputable def asL : List Addr := [154, 0, 1, 2, 3, 4, 5, 6, 7, 8, 9, 10, 11, 12, 13, 14, 15, 33, 34, 35, 36, 37, 38, 39, 47, 48, 49, 50, 51, 52, 53, 54, 55, 56, 57, 58, 59, 60, 61, 62, 63, 64, 65, 66, 67, 68, 69, 71, 72, 73, 74, 77, 78, 79, 80, 81, 82, 83, 84, 85, 86, 87, 88, 89, 90, 91, 92, 93, 101, 102, 103, 104, 105, 106, 107, 108, 109, 110, 111, 112, 113, 114, 115, 116, 117, 118, 119, 120, 121, 122, 123, 124, 125, 126, 127, 128, 129, 130, 131, 132, 133, 134, 137, 140, 145, 146, 147, 148, 149, 150, 151, 152, 153, 155, 156, 157, 158, 159, 160, 161, 162, 163, 164, 167, 170, 175, 176, 177, 178, 179, 180, 181, 182, 183, 184, 185, 186, 187, 188, 189, 190, 191, 192, 193, 194, 195, 196, 197, 198, 199, 200, 201, 202, 203, 204, 205, 206, 207, 208, 209, 210, 211, 212, 213, 214, 215, 216, 217, 218, 219, 220, 221, 222, 223, 224, 225, 226, 228, 229, 231, 233, 234, 235, 238, 245, 246, 247, 248, 249, 250, 251, 252, 253, 254, 255, 256, 257, 258, 261, 262, 263, 264, 265, 266, 267, 268, 269, 270, 271, 272, 273, 274, 275, 276, 277, 278, 279, 280, 281, 282, 283, 284, 285, 286, 287, 288, 289, 290, 291, 292, 293, 294, 295, 296]
noncomputable def qv : Program := view PySem.Challenge.pw_il0121_01 [18]
noncomputable def looseL : List Str := ["defaultdict", "_wall", "filterfalse", "unique_everseen", "always_iterable", "_tuplegetter", "FreezableDefaultDict", "Pair", "_law_same", "_law_small", "_law_run", "_law_due", "_law_shelf"]
theorem as_heap (P : Params) : asL = (heapL P).map (·.1) := by kernel_rfl
noncomputable abbrev hk : Hook := kHook heapL asL as_heap
/-- the text's top: run by the kernel, over the library's twins of the machine -/
theorem left1 : LeftO PySem.Challenge.pw_il0121_01 qv looseL (fun s => xlAt qv [] s && recOk (RowW.records PySem.Challenge.rw_il0121_01.row.toRowW) s) hk.obs hk.val 5200 := fun w => by
  unfold openEnds fencedOpening topFrom
  rw [show @importEnds = _ from PySem.W.Fast.te10274390034422433532, show @start = _ from PySem.W.Fast.te1435165496053646825, show treeTable = _ from PySem.W.Fast.te14364793385576792824, show @topRun = _ from PySem.W.Fast.te14082659384304107361, show @openSeen = _ from PySem.W.Fast.te4187177175401517315, show @fenceModules? = _ from PySem.W.Fast.te14289696077712309145]
  kernel_rfl
end Mine
end

section
open PySem PySem.W PyProof.Rows PySem.Calls
set_option maxRecDepth 10000
set_option linter.all false
namespace Mine

/-- every object of `h` still stands in `h'` -/
noncomputable abbrev Le (h h' : Heap) : Prop := ∀ b o, h.get? b = some o → h'.get? b = some o
theorem Le.refl (h : Heap) : Le h h := fun _ _ e => e
theorem Le.trans {a b c : Heap} (x : Le a b) (y : Le b c) : Le a c := fun i o e => y i o (x i o e)

/-- plain data; `pr`: an instance of Pair; `atom`: the value itself -/
inductive D where
  | none
  | bool (b : Bool)
  | int (i : Int)
  | str (s : Str)
  | tup (ds : List D)
  | lst (ds : List D)
  | pr (ds : List D)
  | atom (v : Value)

noncomputable def pairC : Addr := 257

mutual
inductive RD (h : Heap) (S : Addr → Prop) : Value → D → Prop
  | none : RD h S .none .none
  | bool (b) : RD h S (.bool b) (.bool b)
  | int (i t) : RD h S (.int i t) (.int i)
  | str (x t) : RD h S (.str x t) (.str x)
  | atom (v) : RD h S v (.atom v)
  | tup {a o vs n ds} : S a → h.get? a = some o → o.cls = .type "tuple" → o.data = .seq vs n → RDs h S vs.toList ds → RD h S (.ref a) (.tup ds)
  | lst {a o vs n ds} : S a → h.get? a = some o → o.cls = .type "list" → o.data = .seq vs n → RDs h S vs.toList ds → RD h S (.ref a) (.lst ds)
  | pr {a o vs n ds} : S a → h.get? a = some o → o.cls = .ref pairC → o.data = .seq vs n → RDs h S vs.toList ds → RD h S (.ref a) (.pr ds)
inductive RDs (h : Heap) (S : Addr → Prop) : List Value → List D → Prop
  | nil : RDs h S [] []
  | cons {v vs d ds} : RD h S v d → RDs h S vs ds → RDs h S (v :: vs) (d :: ds)
end

mutual
theorem RD.mono {h h' : Heap} {S S' : Addr → Prop} (k : ∀ a o, S a → h.get? a = some o → h'.get? a = some o) (ks : ∀ a, S a → S' a) :
    ∀ {v d}, RD h S v d → RD h' S' v d
  | _, _, .none => .none
  | _, _, .bool b => .bool b
  | _, _, .int i t => .int i t
  | _, _, .str x t => .str x t
  | _, _, .atom v => .atom v
  | _, _, .tup s e c dd r => .tup (ks _ s) (k _ _ s e) c dd (RDs.mono k ks r)
  | _, _, .lst s e c dd r => .lst (ks _ s) (k _ _ s e) c dd (RDs.mono k ks r)
  | _, _, .pr s e c dd r => .pr (ks _ s) (k _ _ s e) c dd (RDs.mono k ks r)
theorem RDs.mono {h h' : Heap} {S S' : Addr → Prop} (k : ∀ a o, S a → h.get? a = some o → h'.get? a = some o) (ks : ∀ a, S a → S' a) :
    ∀ {vs ds}, RDs h S vs ds → RDs h' S' vs ds
  | _, _, .nil => .nil
  | _, _, .cons x r => .cons (RD.mono k ks x) (RDs.mono k ks r)
end

section
variable {h : Heap} {S : Addr → Prop}
theorem RDs.consE {d : D} {ds : List D} {motive : (l : List Value) → RDs h S l (d :: ds) → Prop} (cons : ∀ {v vs} (r1 : RD h S v d) (r2 : RDs h S vs ds), motive (v :: vs) (.cons r1 r2)) : ∀ {l : List Value} (r : RDs h S l (d :: ds)), motive l r
  | _, .cons r1 r2 => cons r1 r2
theorem RDs.nilE {motive : (l : List Value) → RDs h S l [] → Prop} (nil : motive [] .nil) : ∀ {l : List Value} (r : RDs h S l []), motive l r
  | _, .nil => nil
theorem RD.atomE {u : Value} {motive : (v : Value) → RD h S v (.atom u) → Prop} (atom : motive u (.atom u)) : ∀ {v : Value} (r : RD h S v (.atom u)), motive v r
  | _, .atom _ => atom
theorem RD.strE {x : Str} {motive : (v : Value) → RD h S v (.str x) → Prop} (str : ∀ t, motive (.str x t) (.str x t)) : ∀ {v : Value} (r : RD h S v (.str x)), motive v r
  | _, .str _ t => str t
theorem RD.intE {x : Int} {motive : (v : Value) → RD h S v (.int x) → Prop} (int : ∀ t, motive (.int x t) (.int x t)) : ∀ {v : Value} (r : RD h S v (.int x)), motive v r
  | _, .int _ t => int t
theorem RD.boolE {b : Bool} {motive : (v : Value) → RD h S v (.bool b) → Prop} (bool : motive (.bool b) (.bool b)) : ∀ {v : Value} (r : RD h S v (.bool b)), motive v r
  | _, .bool _ => bool
theorem RD.noneE {motive : (v : Value) → RD h S v .none → Prop} (none : motive .none .none) : ∀ {v : Value} (r : RD h S v .none), motive v r
  | _, .none => none
theorem RD.lstE {ds : List D} {motive : (v : Value) → RD h S v (.lst ds) → Prop} (lst : ∀ {a o vs n} (sa : S a) (ea : h.get? a = some o) (ca : o.cls = .type "list") (da : o.data = .seq vs n) (ra : RDs h S vs.toList ds), motive (.ref a) (.lst sa ea ca da ra)) : ∀ {v : Value} (r : RD h S v (.lst ds)), motive v r
  | _, .lst sa ea ca da ra => lst sa ea ca da ra
theorem RD.tupE {ds : List D} {motive : (v : Value) → RD h S v (.tup ds) → Prop} (tup : ∀ {a o vs n} (sa : S a) (ea : h.get? a = some o) (ca : o.cls = .type "tuple") (da : o.data = .seq vs n) (ra : RDs h S vs.toList ds), motive (.ref a) (.tup sa ea ca da ra)) : ∀ {v : Value} (r : RD h S v (.tup ds)), motive v r
  | _, .tup sa ea ca da ra => tup sa ea ca da ra
end
theorem RD.le {h h' : Heap} {S : Addr → Prop} (k : Le h h') {v d} (x : RD h S v d) : RD h' S v d := x.mono (fun a o _ e => k a o e) fun _ s => s
theorem RDs.le {h h' : Heap} {S : Addr → Prop} (k : Le h h') {v d} (x : RDs h S v d) : RDs h' S v d := x.mono (fun a o _ e => k a o e) fun _ s => s
theorem RD.sub {h : Heap} {S S' : Addr → Prop} (k : ∀ a, S a → S' a) {v d} (x : RD h S v d) : RD h S' v d := x.mono (fun _ _ _ e => e) k
theorem RDs.sub {h : Heap} {S S' : Addr → Prop} (k : ∀ a, S a → S' a) {v d} (x : RDs h S v d) : RDs h S' v d := x.mono (fun _ _ _ e => e) k
/-- the data still stand where one object outside them was changed -/
theorem RD.but {h h' : Heap} {S : Addr → Prop} {a : Addr} (hs : Heap.ExtBut a h h') (na : ¬ S a) {v d} (x : RD h S v d) : RD h' S v d :=
  x.mono (fun b o s e => hs b o (fun z => na (z ▸ s)) e) fun _ s => s
theorem RDs.but {h h' : Heap} {S : Addr → Prop} {a : Addr} (hs : Heap.ExtBut a h h') (na : ¬ S a) {v d} (x : RDs h S v d) : RDs h' S v d :=
  x.mono (fun b o s e => hs b o (fun z => na (z ▸ s)) e) fun _ s => s

theorem RDs.length {h : Heap} {S : Addr → Prop} : ∀ {vs ds}, RDs h S vs ds → vs.length = ds.length
  | _, _, .nil => rfl
  | _, _, .cons _ r => by simp [RDs.length r]
theorem RDs.get {h : Heap} {S : Addr → Prop} : ∀ {vs ds}, RDs h S vs ds → ∀ {i : Nat} {d}, ds[i]? = some d → ∃ v, vs[i]? = some v ∧ RD h S v d
  | _, _, .nil, i, d, e => by simp at e
  | _, _, .cons x r, 0, d, e => by simp at e; subst e; exact ⟨_, rfl, x⟩
  | _, _, .cons x r, i + 1, d, e => by simp at e; obtain ⟨v, h1, h2⟩ := r.get e; exact ⟨v, by simpa using h1, h2⟩
theorem RDs.get' {h : Heap} {S : Addr → Prop} : ∀ {vs ds}, RDs h S vs ds → ∀ {i : Nat} {v}, vs[i]? = some v → ∃ d, ds[i]? = some d ∧ RD h S v d
  | _, _, .nil, i, d, e => by simp at e
  | _, _, .cons x r, 0, d, e => by simp at e; subst e; exact ⟨_, rfl, x⟩
  | _, _, .cons x r, i + 1, d, e => by simp at e; obtain ⟨v, h1, h2⟩ := r.get' e; exact ⟨v, by simpa using h1, h2⟩
theorem RDs.append {h : Heap} {S : Addr → Prop} : ∀ {vs ds ws es}, RDs h S vs ds → RDs h S ws es → RDs h S (vs ++ ws) (ds ++ es)
  | _, _, _, _, .nil, y => y
  | _, _, _, _, .cons x r, y => .cons x (r.append y)
theorem RDs.one {h : Heap} {S : Addr → Prop} {v d} (x : RD h S v d) : RDs h S [v] [d] := .cons x .nil

/-- the addresses that are new after `h` -/
noncomputable abbrev Fr1 (S : Addr → Prop) (h : Heap) : Addr → Prop := fun b => S b ∨ h.get? b = none

theorem fresh_le {h h' : Heap} (k : Le h h') {b : Addr} (e : h'.get? b = none) : h.get? b = none := by
  cases q : h.get? b with
  | none => rfl
  | some o => rw [k b o q] at e; cases e

structure OkA (n : Nat) (A : Around) : Prop where
  hd : A.handled = none
  dp : A.depth + n < recursionLimit
  un : A.units + 10 * n + 300 < cLine
theorem OkA.deeper {n : Nat} {A : Around} (x : OkA (n + 1) A) (env : Env) : OkA n (A.deeper env) :=
  ⟨x.hd, by have := x.dp; simp only [Around.deeper]; omega, by have := x.un; simp only [Around.deeper]; omega⟩
theorem OkA.in1 {n : Nat} {A : Around} (x : OkA (n + 1) A) : OkA n A.in1 := ⟨x.hd, by have := x.dp; show A.depth + n < recursionLimit; omega, by have := x.un; show A.units + 1 + 10 * n + 300 < cLine; omega⟩
theorem OkA.weak {n m : Nat} {A : Around} (x : OkA n A) (h : m ≤ n) : OkA m A := ⟨x.hd, by have := x.dp; omega, by have := x.un; omega⟩
theorem OkA.room {n : Nat} {A : Around} (x : OkA n A) : A.depth < recursionLimit := by have := x.dp; omega

/-- nothing is changed but that objects are made and tokens drawn -/
structure Kp (s s' : Shared) : Prop where
  le : Le s.heap s'.heap
  eq : ∃ h' tk, s' = { s with heap := h', toks := tk }
theorem Kp.refl (s : Shared) : Kp s s := ⟨fun _ _ e => e, s.heap, s.toks, rfl⟩
theorem Kp.tk (s : Shared) (t : Nat) : Kp s { s with toks := t } := ⟨fun _ _ e => e, s.heap, t, rfl⟩
theorem Kp.of {s : Shared} {h' : Heap} (tk : Nat) (k : Le s.heap h') : Kp s { s with heap := h', toks := tk } := ⟨k, h', tk, rfl⟩
theorem Kp.of' {s : Shared} {h' : Heap} (k : Le s.heap h') : Kp s { s with heap := h' } := ⟨k, h', s.toks, rfl⟩
theorem Kp.tr {a b c : Shared} (x : Kp a b) (y : Kp b c) : Kp a c := by
  obtain ⟨k, h, t, rfl⟩ := x
  obtain ⟨k', h', t', rfl⟩ := y
  exact ⟨k.trans k', h', t', rfl⟩
theorem Kp.keeps {a b : Shared} (x : Kp a b) : Keeps a b := by obtain ⟨k, h, t, rfl⟩ := x; exact ⟨h, t, rfl, k⟩
theorem Kp.ofKeeps {a b : Shared} (x : Keeps a b) : Kp a b := by obtain ⟨h, t, rfl, k⟩ := x; exact ⟨k, h, t, rfl⟩

section
variable (prog : Program) (w : World) (A : Around) (env : Env) (h : Heap) (S : Addr → Prop)

noncomputable def EvD (e : Expr) (d : D) : Prop := ∀ (s : Shared) (E : Value → Shared → Prop), Le h s.heap →
  wpAny (model prog w) A (eval e env) (fun v s' => RD s'.heap (Fr1 S s.heap) v d ∧ Kp s s') E s
noncomputable def EvT (e : Expr) (b : Bool) : Prop := ∀ (s : Shared) (E : Value → Shared → Prop), Le h s.heap →
  wpAny (model prog w) A (isTrue e env (eval e env)) (fun r s' => r = b ∧ Kp s s') E s
noncomputable def Var (x : Str) (v : Value) : Prop := ∀ (M : Model) (A : Around) (E : Value → Shared → Prop) (Q : Value → Shared → Prop) (s : Shared), Le h s.heap → Q v s → wpAny M A (loadName env x) Q E s
end
noncomputable def isStar : Expr → Bool
  | .Starred .. => true
  | _ => false
theorem starEach_cons {e : Expr} {r : List Expr} {env : Env} (hs : isStar e = false) : starEach (e :: r) env = (false, eval e env) :: starEach r env := by
  cases e <;> first | rfl | (simp [isStar] at hs)

section
variable {prog : Program} {w : World} {A : Around} {env : Env} {h : Heap} {S : Addr → Prop}

theorem Var.mono {h' : Heap} {x : Str} {v : Value} (a : Var env h x v) (k : Le h h') : Var env h' x v := fun M A E Q s hs => a M A E Q s (k.trans hs)
theorem EvD.mono {h' : Heap} {e : Expr} {d : D} (a : EvD prog w A env h S e d) (k : Le h h') : EvD prog w A env h' S e d := fun s E hs => a s E (k.trans hs)
theorem EvT.mono {h' : Heap} {e : Expr} {d} (a : EvT prog w A env h e d) (k : Le h h') : EvT prog w A env h' e d := fun s E hs => a s E (k.trans hs)

theorem EvD.name {x : Str} {pos : Pos} {v : Value} {d : D} (a : Var env h x v) (r : RD h S v d) (hd : (x == ("__debug__" : Str)) = false := by decide) : EvD prog w A env h S (.Name x pos) d :=
  fun s _ hs => wpAny_Name (a _ _ _ _ s hs ⟨(r.le hs).sub fun _ z => .inl z, Kp.refl s⟩) hd
theorem EvD.cstr {x : Str} {k : Nat} {pos : Pos} : EvD prog w A env h S (.Constant (.str x) k pos) (.str x) := fun s _ _ => Constant_str ⟨.str _ _, Kp.tk s _⟩
theorem EvD.cint {x : Int} {k : Nat} {pos : Pos} : EvD prog w A env h S (.Constant (.int x) k pos) (.int x) := fun s _ _ => wpAny_Constant_int ⟨.int _ _, Kp.tk s _⟩
theorem EvD.cbool {x : Bool} {k : Nat} {pos : Pos} : EvD prog w A env h S (.Constant (.bool x) k pos) (.bool x) := fun s _ _ => by
  rw [eval_Constant]; exact wpAny_pure ⟨.bool _, Kp.refl s⟩
theorem EvD.cnone {k : Nat} {pos : Pos} : EvD prog w A env h S (.Constant .none k pos) .none := fun s _ _ => by
  rw [eval_Constant]; exact wpAny_pure ⟨.none, Kp.refl s⟩

/-- two expressions one behind the other -/
theorem ev_two {e f : Expr} {d c : D} {α : Type} {t : Value → Value → Sem α} {s : Shared} {Q : α → Shared → Prop} {E : Value → Shared → Prop} (hs : Le h s.heap)
    (a : EvD prog w A env h S e d) (b : EvD prog w A env h S f c)
    (k : ∀ x y s', RD s'.heap (Fr1 S s.heap) x d → RD s'.heap (Fr1 S s.heap) y c → Kp s s' → wpAny (model prog w) A (t x y) Q E s') :
    wpAny (model prog w) A (eval e env) (fun x s₁ => wpAny (model prog w) A (eval f env) (fun y s₂ => wpAny (model prog w) A (t x y) Q E s₂) E s₁) E s :=
  wpAny_mono (a s E hs) (fun x s₁ ⟨r1, k1⟩ => wpAny_mono (b s₁ E (hs.trans k1.le)) (fun y s₂ ⟨r2, k2⟩ =>
    k x y s₂ (r1.le k2.le) (r2.sub fun _ z => z.imp id fun q => fresh_le k1.le q) (k1.tr k2)) fun _ _ q => q) fun _ _ q => q

inductive EvDs (prog : Program) (w : World) (A : Around) (env : Env) (h : Heap) (S : Addr → Prop) : List Expr → List D → Prop
  | nil : EvDs prog w A env h S [] []
  | cons {e es d ds} : EvD prog w A env h S e d → EvDs prog w A env h S es ds → isStar e = false → EvDs prog w A env h S (e :: es) (d :: ds)
theorem EvDs.mono {h' : Heap} (k : Le h h') : ∀ {es ds}, EvDs prog w A env h S es ds → EvDs prog w A env h' S es ds
  | _, _, .nil => .nil
  | _, _, .cons a r q => .cons (a.mono k) (r.mono k) q

theorem EvDs.spliced {es : List Expr} {ds : List D} (a : EvDs prog w A env h S es ds) : ∀ {s : Shared} {pos : Pos} {Q : List Value → Shared → Prop} {E : Value → Shared → Prop}, Le h s.heap →
    (∀ vs s', RDs s'.heap (Fr1 S s.heap) vs ds → Kp s s' → Q vs s') → wpAny (model prog w) A (PySem.spliced (backTo pos (starEach es env))) Q E s := by
  induction a with
  | nil => intro s pos Q E hs k; exact spliced_nil (k _ s .nil (Kp.refl s))
  | cons a r hn ih =>
    intro s pos Q E hs k
    rw [starEach_cons hn]
    show wpAny (model prog w) A (PySem.spliced ((false, eval _ env) :: backTo pos (starEach _ env))) Q E s
    refine spliced_cons (wpAny_mono (a s E hs) (fun v s₁ h1 => ?_) fun _ _ q => q)
    obtain ⟨r1, k1⟩ := h1
    refine ih (hs.trans k1.le) fun vs s₂ r2 k2 => ?_
    exact k _ _ (.cons (r1.le k2.le) (r2.sub fun _ z => z.imp id fun q => fresh_le k1.le q)) (k1.tr k2)

theorem EvD.tuple {es : List Expr} {ds : List D} {k : Nat} {pos : Pos} (a : EvDs prog w A env h S es ds) (hsz : ds.length ≤ sizeLine) : EvD prog w A env h S (.Tuple es k pos) (.tup ds) := fun s E hs => by
  refine Tuple_ (a.spliced hs fun vs s' r k' => ?_)
  have hl : vs.length ≤ sizeLine := by rw [r.length]; exact hsz
  have kk : Le s'.heap (s'.heap.push { cls := .type "tuple", data := .seq vs.toArray }) := fun b o e => Heap.get?_push_of_some _ e
  refine wpAny_newObj_type ⟨?_, k'.tr (Kp.of' kk)⟩ (by show vs.toArray.size ≤ sizeLine; rw [List.size_toArray]; exact hl)
  refine .tup (.inr ?_) (Heap.get?_push_size _ rfl) rfl rfl (r.le kk)
  refine fresh_le k'.le ?_
  cases q : s'.heap.get? s'.heap.objs.size with
  | none => rfl
  | some o => exact absurd (Heap.lt_size q) (Nat.lt_irrefl _)
theorem EvD.list {es : List Expr} {ds : List D} {pos : Pos} (a : EvDs prog w A env h S es ds) (hsz : ds.length ≤ sizeLine) : EvD prog w A env h S (.List es pos) (.lst ds) := fun s E hs => by
  refine List_ (a.spliced hs fun vs s' r k' => ?_)
  have hl : vs.length ≤ sizeLine := by rw [r.length]; exact hsz
  have kk : Le s'.heap (s'.heap.push { cls := .type "list", data := .seq vs.toArray }) := fun b o e => Heap.get?_push_of_some _ e
  refine wpAny_newObj_type ⟨?_, k'.tr (Kp.of' kk)⟩ (by show vs.toArray.size ≤ sizeLine; rw [List.size_toArray]; exact hl)
  refine .lst (.inr ?_) (Heap.get?_push_size _ rfl) rfl rfl (r.le kk)
  refine fresh_le k'.le ?_
  cases q : s'.heap.get? s'.heap.objs.size with
  | none => rfl
  | some o => exact absurd (Heap.lt_size q) (Nat.lt_irrefl _)

end
/-- what is asked at the end, out of sight on the way: small terms -/
theorem wp_abs {M : Model} {α : Type} {A : Around} {t : Sem α} {s : Shared} {Q : α → Shared → Prop} {E : Value → Shared → Prop} (h : ∀ (Q' : α → Shared → Prop) (E' : Value → Shared → Prop), (∀ f s', Q f s' → Q' f s') → (∀ e s', E e s' → E' e s') → wpAny M A t Q' E' s) : wpAny M A t Q E s :=
  h Q E (fun _ _ q => q) fun _ _ q => q
end Mine
end

section
open PySem PySem.W PyProof.Rows PySem.Calls
set_option maxRecDepth 10000
set_option linter.all false
namespace Mine
open PySem (eval)

mutual
theorem RD.dom {h : Heap} {S : Addr → Prop} : ∀ {v d}, RD h S v d → RD h (fun a => S a ∧ h.get? a ≠ none) v d
  | _, _, .none => .none
  | _, _, .bool b => .bool b
  | _, _, .int i t => .int i t
  | _, _, .str x t => .str x t
  | _, _, .atom v => .atom v
  | _, _, .tup s e c dd r => .tup ⟨s, by rw [e]; exact fun z => nomatch z⟩ e c dd (RDs.dom r)
  | _, _, .lst s e c dd r => .lst ⟨s, by rw [e]; exact fun z => nomatch z⟩ e c dd (RDs.dom r)
  | _, _, .pr s e c dd r => .pr ⟨s, by rw [e]; exact fun z => nomatch z⟩ e c dd (RDs.dom r)
theorem RDs.dom {h : Heap} {S : Addr → Prop} : ∀ {vs ds}, RDs h S vs ds → RDs h (fun a => S a ∧ h.get? a ≠ none) vs ds
  | _, _, .nil => .nil
  | _, _, .cons x r => .cons (RD.dom x) (RDs.dom r)
end
/-- `S'` takes what of `S` stands in `h` -/
noncomputable def Up (h : Heap) (S S' : Addr → Prop) : Prop := ∀ a, S a → h.get? a ≠ none → S' a
theorem Up.refl {h : Heap} {S : Addr → Prop} : Up h S S := fun _ s _ => s
theorem RD.up {h h' : Heap} {S S' : Addr → Prop} (k : Le h h') (u : Up h S S') {v d} (x : RD h S v d) : RD h' S' v d :=
  x.dom.mono (fun a o _ e => k a o e) fun a s => u a s.1 s.2
theorem RDs.up {h h' : Heap} {S S' : Addr → Prop} (k : Le h h') (u : Up h S S') {v d} (x : RDs h S v d) : RDs h' S' v d :=
  x.dom.mono (fun a o _ e => k a o e) fun a s => u a s.1 s.2

section
variable {prog : Program} {w : World} {A : Around} {env : Env} {h : Heap} {S : Addr → Prop}

theorem new_none (h : Heap) : h.get? h.objs.size = none := by
  cases q : h.get? h.objs.size with
  | none => rfl
  | some o => exact absurd (Heap.lt_size q) (Nat.lt_irrefl _)
theorem extNew {h h' : Heap} (x : Heap.ExtBut h.objs.size h h') : Le h h' := fun b o e => x b o (fun z => by rw [z, new_none] at e; cases e) e

/-- a scalar does not ask where the objects lie -/
noncomputable def D.flat : D → Bool
  | .tup _ | .lst _ | .pr _ => false
  | _ => true
theorem RD.flat {h h' : Heap} {S S' : Addr → Prop} {v d} (x : RD h S v d) (f : d.flat = true) : RD h' S' v d := by
  cases x <;> first | (simp [D.flat] at f; done) | constructor
theorem EvD.flat {S' : Addr → Prop} {e : Expr} {d : D} (a : EvD prog w A env h S e d) (f : d.flat = true) : EvD prog w A env h S' e d :=
  fun s E hs => wpAny_mono (a s E hs) (fun _ _ x => ⟨x.1.flat f, x.2⟩) fun _ _ x => x

/-- what an operator does to two data -/
noncomputable def BinD (prog : Program) (w : World) (A : Around) (op : Operator) (a b c : D) : Prop := ∀ (s : Shared) (S : Addr → Prop) (x y : Value) (E : Value → Shared → Prop), RD s.heap S x a → RD s.heap S y b →
  wpAny (model prog w) A (binaryOp op x y) (fun v s' => RD s'.heap (Fr1 S s.heap) v c ∧ Kp s s') E s
noncomputable def CmpD (prog : Program) (w : World) (A : Around) (op : CmpOp) (a b : D) (r : Bool) : Prop := ∀ (s : Shared) (S : Addr → Prop) (x y : Value) (E : Value → Shared → Prop), RD s.heap S x a → RD s.heap S y b →
  wpAny (model prog w) A (compareOp op x y) (fun v s' => v = .bool r ∧ Kp s s') E s
theorem fr1_fr1 {h h' : Heap} (k : Le h h') {S : Addr → Prop} : ∀ a, Fr1 (Fr1 S h) h' a → Fr1 S h a := fun _ z => z.elim id fun q => .inr (fresh_le k q)

theorem EvD.bin {e f : Expr} {op : Operator} {pos : Pos} {a b c : D} (x : EvD prog w A env h S e a) (y : EvD prog w A env h S f b) (o : BinD prog w A op a b c) : EvD prog w A env h S (.BinOp e op f pos) c := fun s E hs =>
  wpAny_BinOp (ev_two hs x y fun v u s' r1 r2 k => wpAny_mono (o s' _ v u E r1 r2) (fun z s'' q => ⟨q.1.sub (fr1_fr1 k.le), k.tr q.2⟩) fun _ _ q => q)
theorem EvD.cmp {e f : Expr} {op : CmpOp} {pos : Pos} {a b : D} {r : Bool} (x : EvD prog w A env h S e a) (y : EvD prog w A env h S f b) (o : CmpD prog w A op a b r)
    (hm : behindInMarks op f = false := by with_unfolding_all rfl) : EvD prog w A env h S (.Compare e [op] [f] pos) (.bool r) := fun s E hs =>
  wpAny_Compare1 (ev_two hs x y fun v u s' r1 r2 k => wpAny_mono (o s' _ v u E r1 r2) (fun z s'' q => ⟨by rw [q.1]; exact .bool _, k.tr q.2⟩) fun _ _ q => q) hm
theorem EvT.cmp {e f : Expr} {op : CmpOp} {pos : Pos} {a b : D} {r : Bool} (x : EvD prog w A env h S e a) (y : EvD prog w A env h S f b) (o : CmpD prog w A op a b r)
    (hm : behindInMarks op f = false := by with_unfolding_all rfl) : EvT prog w A env h (.Compare e [op] [f] pos) r := fun s E hs =>
  wpAny_isTrue_Compare1 (ev_two (t := fun a b => compareOp op a b) hs x y fun v u s' r1 r2 k => wpAny_mono (o s' _ v u E r1 r2) (fun z s'' q => by
    obtain ⟨rfl, q2⟩ := q
    exact wpAny_truthy_bool ⟨rfl, k.tr q2⟩) fun _ _ q => q) hm
theorem EvT.and {e f : Expr} {pos : Pos} {a b : Bool} (x : EvT prog w A env h e a) (y : a = true → EvT prog w A env h f b) : EvT prog w A env h (.BoolOp .And [e, f] pos) (a && b) := fun s E hs => by
  show wpAny (model prog w) A (do
    match BoolOp.And, ← isTrue e env (eval e env) with
    | .And, false => pure false
    | .Or, true => pure true
    | _, _ => (do
      match BoolOp.And, ← isTrue f env (eval f env) with
      | .And, false => pure false
      | .Or, true => pure true
      | _, _ => allTrue .And [] env)) _ E s
  refine wpAny_bind (wpAny_mono (x s E hs) (fun r s₁ q => ?_) fun _ _ q => q)
  obtain ⟨rfl, k⟩ := q
  cases r with
  | false => exact wpAny_pure ⟨rfl, k⟩
  | true =>
    refine wpAny_bind (wpAny_mono (y rfl s₁ E (hs.trans k.le)) (fun r s₂ q => ?_) fun _ _ q => q)
    obtain ⟨rfl, k2⟩ := q
    cases r with
    | false => exact wpAny_pure ⟨rfl, k.tr k2⟩
    | true => exact wpAny_pure ⟨rfl, k.tr k2⟩

theorem BinD.addS {x y : Str} (hsz : x.length + y.length ≤ sizeLine) : BinD prog w A .Add (.str x) (.str y) (.str (x ++ y)) := fun s S u v E ru rv => by
  (first | cases ru using RD.atomE | cases ru using RDs.nilE | cases ru using RD.strE | cases ru using RD.intE | cases ru using RD.boolE | cases ru using RD.noneE | cases ru); (first | cases rv using RD.atomE | cases rv using RDs.nilE | cases rv using RD.strE | cases rv using RD.intE | cases rv using RD.boolE | cases rv using RD.noneE | cases rv)
  exact PyProof.Rows.add_str (fun t' tk => ⟨.str _ _, Kp.tk s tk⟩) hsz
theorem BinD.mod {x y : Int} (hy : y ≠ 0) : BinD prog w A .Mod (.int x) (.int y) (.int (x.fmod y)) := fun s S u v E ru rv => by
  (first | cases ru using RD.atomE | cases ru using RDs.nilE | cases ru using RD.strE | cases ru using RD.intE | cases ru using RD.boolE | cases ru using RD.noneE | cases ru); (first | cases rv using RD.atomE | cases rv using RDs.nilE | cases rv using RD.strE | cases rv using RD.intE | cases rv using RD.boolE | cases rv using RD.noneE | cases rv)
  exact mod_int' hy ⟨.int _ _, Kp.tk s _⟩
theorem BinD.div {x y : Int} (hy : y ≠ 0) (hx : x.natAbs < 2 ^ 30) (hy' : y.natAbs < 2 ^ 30) : BinD prog w A .FloorDiv (.int x) (.int y) (.int (x.fdiv y)) := fun s S u v E ru rv => by
  (first | cases ru using RD.atomE | cases ru using RDs.nilE | cases ru using RD.strE | cases ru using RD.intE | cases ru using RD.boolE | cases ru using RD.noneE | cases ru); (first | cases rv using RD.atomE | cases rv using RDs.nilE | cases rv using RD.strE | cases rv using RD.intE | cases rv using RD.boolE | cases rv using RD.noneE | cases rv)
  exact floordiv_int hy ⟨.int _ _, Kp.tk s _⟩ (.inl (PyProof.noPylong_small (by omega)))

theorem CmpD.eqS {x y : Str} : CmpD prog w A .Eq (.str x) (.str y) (x == y) := fun s S u v E ru rv => by
  (first | cases ru using RD.atomE | cases ru using RDs.nilE | cases ru using RD.strE | cases ru using RD.intE | cases ru using RD.boolE | cases ru using RD.noneE | cases ru); (first | cases rv using RD.atomE | cases rv using RDs.nilE | cases rv using RD.strE | cases rv using RD.intE | cases rv using RD.boolE | cases rv using RD.noneE | cases rv)
  exact PyProof.Rows.eq_str ⟨rfl, Kp.refl s⟩
theorem CmpD.ltI {x y : Int} : CmpD prog w A .Lt (.int x) (.int y) (decide (x < y)) := fun s S u v E ru rv => by
  (first | cases ru using RD.atomE | cases ru using RDs.nilE | cases ru using RD.strE | cases ru using RD.intE | cases ru using RD.boolE | cases ru using RD.noneE | cases ru); (first | cases rv using RD.atomE | cases rv using RDs.nilE | cases rv using RD.strE | cases rv using RD.intE | cases rv using RD.boolE | cases rv using RD.noneE | cases rv)
  exact PyProof.Rows.lt_int ⟨rfl, Kp.refl s⟩

noncomputable def strsP (xs : List Str) : List PyData := xs.map .str
theorem strs_canLay (xs : List Str) (hx : ∀ x ∈ xs, PyData.strOk x = true) : PyData.canLayAll0 (strsP xs) = true := by
  induction xs with
  | nil => rfl
  | cons x xs ih =>
    simp only [strsP, List.map_cons, PyData.canLayAll0, PyData.canLay0, Bool.and_eq_true]
    exact ⟨hx x (.head _), ih fun y hy => hx y (.tail _ hy)⟩
theorem RDs.reads {h : Heap} {S : Addr → Prop} : ∀ {xs : List Str} {vs}, RDs h S vs (xs.map .str) → ReadsAll h vs (strsP xs) []
  | [], _, .nil => .nil
  | x :: xs, _, .cons a r => by
    cases a with
    | str _ t => exact ReadsAll.cons (Reads.str (h := h) x t) (RDs.reads r)
theorem strs_any (xs : List Str) (x : Str) : ((strsP xs).any fun y => PyData.eqv y (.str x)) = xs.contains x := by
  induction xs with
  | nil => rfl
  | cons y ys ih =>
    simp only [strsP, List.map_cons, List.any_cons, List.contains_cons] at ih ⊢
    rw [ih]
    congr 1
    simp only [PyData.eqv]
    rw [Bool.eq_iff_iff]; simp only [beq_iff_eq]; exact ⟨fun q => q.symm, fun q => q.symm⟩
theorem CmpD.notInS {x : Str} {xs : List Str} (hx : PyData.strOk x = true) (hxs : ∀ y ∈ xs, PyData.strOk y = true) (ok : OkA 0 A) : CmpD prog w A .NotIn (.str x) (.lst (xs.map .str)) (!xs.contains x) := fun s S u v E ru rv => by
  (first | cases ru using RD.atomE | cases ru using RDs.nilE | cases ru using RD.strE | cases ru using RD.intE | cases ru using RD.boolE | cases ru using RD.noneE | cases ru)
  cases rv using RD.lstE with
  | lst sa e c dd r =>
    refine SeqAt.notIn_list_reads (Reads.list e c dd r.reads) (Reads.str x _) (strs_canLay xs hxs) (by simpa [PyData.canLay0] using hx) ?_ ?_
    · have := ok.un
      have h1 := Nat.min_le_right (PyData.depthAll (strsP xs)) (PyData.depth (.str x))
      have h2 : PyData.depth (.str x) = 0 := by simp [PyData.depth]
      rw [h2] at h1 ⊢
      omega
    · rw [strs_any]; exact ⟨rfl, Kp.refl s⟩
end
end Mine
end

section
open PySem PySem.W PyProof.Rows PySem.Calls
set_option maxRecDepth 10000
set_option linter.all false
namespace Mine
open PySem (eval)

/-- what a target binds -/
inductive Bd : Expr → D → List (Str × D) → Prop
  | name {x p d} : Bd (.Name x p) d [(x, d)]
  | tup2 {x y p q k t d e} : x ≠ y → Bd (.Tuple [.Name x p, .Name y q] k t) (.tup [d, e]) [(x, d), (y, e)]
  | tup3 {x y z p q r k t d e f} : x ≠ y → x ≠ z → y ≠ z → Bd (.Tuple [.Name x p, .Name y q, .Name z r] k t) (.tup [d, e, f]) [(x, d), (y, e), (z, f)]

noncomputable def BdIn (h : Heap) (S : Addr → Prop) (m : Str → Option Value) (bs : List (Str × D)) : Prop := ∀ x d, (x, d) ∈ bs → ∃ v, m x = some v ∧ RD h S v d

section
variable {prog : Program} {w : World} {A : Around} {env : Env} {h : Heap} {S : Addr → Prop}

theorem extSame {a : Addr} {h h' : Heap} (hs : Heap.SameBut a h h') : Heap.ExtBut a h h' := hs.extBut

theorem owned_tuple {elts : List Expr} {x1 : Nat} {pos : Pos} {I l : Addr} {v : Value} {i : Nat} {s : Shared} {E : Value → Shared → Prop} {Q : Unit → Shared → Prop} (hit : s.heap.IsListIter I l i) (hv : ∃ T, v = .ref T) (hQ : Q () s) :
    wpAny (model prog w) A (letOwnedTupleGo (Expr.Tuple elts x1 pos) (Value.ref I) v) Q E s := by
  obtain ⟨T, rfl⟩ := hv
  exact wpAny_letOwnedTupleGo_listiter hit hQ
theorem owned_bd {tgt : Expr} {d : D} {bs : List (Str × D)} (b : Bd tgt d bs) {I l : Addr} {v : Value} {i : Nat} {s : Shared} {E : Value → Shared → Prop} {Q : Unit → Shared → Prop} (hit : s.heap.IsListIter I l i) (hv : RD s.heap S v d) (hQ : Q () s) :
    wpAny (model prog w) A (letOwnedTupleGo tgt (Value.ref I) v) Q E s := by
  cases b with
  | name => exact wpAny_pure hQ
  | tup2 => cases hv; exact wpAny_letOwnedTupleGo_listiter hit hQ
  | tup3 => cases hv; exact wpAny_letOwnedTupleGo_listiter hit hQ

/-- a target of names that are local is bound -/
theorem assign_bd {tgt : Expr} {d : D} {bs : List (Str × D)} (b : Bd tgt d bs) (hh : A.handled = none) (hk : env.scope.kind = .function) (hl : ∀ x d, (x, d) ∈ bs → env.kindOf x = some .local)
    {v : Value} {s : Shared} {m : Str → Option Value} {E : Value → Shared → Prop} {Q : Unit → Shared → Prop} (hm : s.heap.Ns env.locals m) (hv : RD s.heap S v d) (hL : ¬ S env.locals)
    (hQ : ∀ h' tk m', h'.Ns env.locals m' → BdIn h' S m' bs → (∀ y, (∀ d, (y, d) ∉ bs) → m' y = m y) → Heap.ExtBut env.locals s.heap h' → Q () { s with heap := h', toks := tk }) :
    wpAny (model prog w) A (assign tgt env v) Q E s := by
  have hp : (env.scope.kind == .class || (env.scope.kind == .module && env.locals != env.globals)) = false := by rw [hk]; rfl
  cases b with
  | name =>
    refine wpAny_assign_Name (wpAny_storeName_local (hl _ _ (.head _)) hm (fun h' hn hs => hQ h' _ _ hn ?_ ?_ hs.extBut) hp)
    · intro y e hy
      cases hy with
      | head => exact ⟨v, by simp, hv.but hs.extBut hL⟩
      | tail _ z => cases z
    · intro y hy
      rename_i x p
      have : y ≠ x := fun z => hy d (by rw [z]; exact .head _)
      simp [this]
  | tup2 hxy =>
    rename_i x y p q k t d e
    cases hv with
    | tup sa ea ca da r =>
      rename_i a o vs n
      cases hvs : vs.toList with
      | nil => rw [hvs] at r; cases r
      | cons v1 l1 =>
      rw [hvs] at r
      cases r using RDs.consE with
      | cons r1 r' =>
      cases r' using RDs.consE with
      | cons r2 r'' =>
      cases r'' with
      | nil =>
      rename_i v2
      refine assign_Tuple_tuple hh ⟨o, ea, ca, n, da⟩ (by show 2 = vs.size; rw [← Array.length_toList, hvs]; rfl) rfl fun h1 hx1 => ?_
      rw [hvs]
      show wpAny _ A (assignInOrder [assign (.Name x p) env, assign (.Name y q) env] [v1, v2]) Q E _
      have k1 : Le s.heap h1 := extNew hx1
      refine wpAny_bind (wpAny_holding (wpAny_assign_Name (wpAny_storeName_local (hl _ _ (.head _)) (hm.keeps k1) (fun h2 hn2 hs2 => ?_) hp)))
      refine wpAny_bind (wpAny_holding (wpAny_assign_Name (wpAny_storeName_local (hl _ _ (.tail _ (.head _))) hn2 (fun h3 hn3 hs3 => ?_) hp)))
      have x3 : Heap.ExtBut env.locals h1 h3 := fun b ob hb eb => hs3.extBut b ob hb (hs2.extBut b ob hb eb)
      refine wpAny_pure (hQ h3 _ _ hn3 ?_ ?_ fun b ob hb eb => x3 b ob hb (k1 b ob eb))
      · intro z dz hz
        cases hz with
        | head => exact ⟨v1, by simp [hxy], (r1.le k1).but x3 hL⟩
        | tail _ hz =>
          cases hz with
          | head => exact ⟨v2, by simp, (r2.le k1).but x3 hL⟩
          | tail _ hz => cases hz
      · intro z hz
        have h1 : z ≠ x := fun q => hz d (by rw [q]; exact .head _)
        have h2 : z ≠ y := fun q => hz e (by rw [q]; exact .tail _ (.head _))
        simp [h1, h2]
  | tup3 hxy hxz hyz =>
    rename_i x y z p q u k t d e f
    cases hv with
    | tup sa ea ca da r =>
      rename_i a o vs n
      cases hvs : vs.toList with
      | nil => rw [hvs] at r; cases r
      | cons v1 l1 =>
      rw [hvs] at r
      cases r using RDs.consE with
      | cons r1 r' =>
      cases r' using RDs.consE with
      | cons r2 r'' =>
      cases r'' using RDs.consE with
      | cons r3 r''' =>
      cases r''' with
      | nil =>
      rename_i v2 v3
      refine assign_Tuple_tuple hh ⟨o, ea, ca, n, da⟩ (by show 3 = vs.size; rw [← Array.length_toList, hvs]; rfl) rfl fun h1 hx1 => ?_
      rw [hvs]
      show wpAny _ A (assignInOrder [assign (.Name x p) env, assign (.Name y q) env, assign (.Name z u) env] [v1, v2, v3]) Q E _
      have k1 : Le s.heap h1 := extNew hx1
      refine wpAny_bind (wpAny_holding (wpAny_assign_Name (wpAny_storeName_local (hl _ _ (.head _)) (hm.keeps k1) (fun h2 hn2 hs2 => ?_) hp)))
      refine wpAny_bind (wpAny_holding (wpAny_assign_Name (wpAny_storeName_local (hl _ _ (.tail _ (.head _))) hn2 (fun h3 hn3 hs3 => ?_) hp)))
      refine wpAny_bind (wpAny_holding (wpAny_assign_Name (wpAny_storeName_local (hl _ _ (.tail _ (.tail _ (.head _)))) hn3 (fun h4 hn4 hs4 => ?_) hp)))
      have x3 : Heap.ExtBut env.locals h1 h4 := fun b ob hb eb => hs4.extBut b ob hb (hs3.extBut b ob hb (hs2.extBut b ob hb eb))
      refine wpAny_pure (hQ h4 _ _ hn4 ?_ ?_ fun b ob hb eb => x3 b ob hb (k1 b ob eb))
      · intro z' dz hz
        cases hz with
        | head => exact ⟨v1, by simp [hxy, hxz], (r1.le k1).but x3 hL⟩
        | tail _ hz =>
          cases hz with
          | head => exact ⟨v2, by simp [hyz], (r2.le k1).but x3 hL⟩
          | tail _ hz =>
            cases hz with
            | head => exact ⟨v3, by simp, (r3.le k1).but x3 hL⟩
            | tail _ hz => cases hz
      · intro z' hz
        have h1 : z' ≠ x := fun q => hz d (by rw [q]; exact .head _)
        have h2 : z' ≠ y := fun q => hz e (by rw [q]; exact .tail _ (.head _))
        have h3 : z' ≠ z := fun q => hz f (by rw [q]; exact .tail _ (.tail _ (.head _)))
        simp [h1, h2, h3]
end
end Mine
end

section
open PySem PySem.W PyProof.Rows PySem.Calls
set_option maxRecDepth 10000
set_option linter.all false
namespace Mine
open PySem (eval)

section
variable {prog : Program} {w : World} {A : Around} {env : Env} {h : Heap} {S : Addr → Prop}

/-- an expression that is a list, own or not -/
noncomputable def SrcL (prog : Program) (w : World) (A : Around) (env : Env) (h : Heap) (S : Addr → Prop) (e : Expr) (xs : List D) : Prop := ∀ (s : Shared) (E : Value → Shared → Prop), Le h s.heap →
  wpAny (model prog w) A (eval e env) (fun v s' => (∃ l vs, v = .ref l ∧ s'.heap.IsList l vs ∧ RDs s'.heap (Fr1 S s.heap) vs.toList xs) ∧ Kp s s') E s
theorem EvD.src {e : Expr} {xs : List D} (a : EvD prog w A env h S e (.lst xs)) : SrcL prog w A env h S e xs := fun s E hs => wpAny_mono (a s E hs) (fun v s' q => by
  obtain ⟨r, k⟩ := q
  cases r using RD.lstE with
  | lst sa ea ca da rr => exact ⟨⟨_, _, rfl, ⟨_, ea, ca, _, da⟩, rr⟩, k⟩) fun _ _ q => q
theorem SrcL.own {x : Str} {pos : Pos} {l : Addr} {vs : Array Value} {xs : List D} (v : Var env h x (.ref l)) (hl : h.IsList l vs) (r : RDs h S vs.toList xs) (hd : (x == ("__debug__" : Str)) = false := by decide) : SrcL prog w A env h S (.Name x pos) xs :=
  fun s E hs => wpAny_Name (v _ _ _ _ s hs ⟨⟨l, vs, rfl, hl.at fun o e => hs _ o e, (r.le hs).sub fun _ z => .inl z⟩, Kp.refl s⟩) hd

/-- the tests of a comprehension -/
noncomputable def Tests (prog : Program) (w : World) (A : Around) (env : Env) (h : Heap) : List Expr → Bool → Prop
  | [], b => b = true
  | [c], b => EvT prog w A env h c b
  | _, _ => False
theorem Tests.run {ifs : List Expr} {b : Bool} (t : Tests prog w A env h ifs b) {s : Shared} {E : Value → Shared → Prop} (hs : Le h s.heap) {Q : Bool → Shared → Prop} (hQ : ∀ s', Kp s s' → Q b s') :
    wpAny (model prog w) A (forIn ifs true fun c r => if r = true then do let ok ← isTrue c env (eval c env); pure (ForInStep.yield ok) else pure (ForInStep.yield r)) Q E s := by
  cases ifs with
  | nil => cases (show b = true from t); exact wpAny_tests_nil (hQ s (Kp.refl s))
  | cons c r =>
    cases r with
    | nil => exact wpAny_tests_one (wpAny_mono (t s E hs) (fun r s' q => by obtain ⟨rfl, k⟩ := q; exact hQ s' k) fun _ _ q => q)
    | cons => exact t.elim

theorem comp_loop {elt target iter : Expr} {ifs : List Expr} {scope : Scope} {pos : Pos} {it acc : Value} {R : Result → Shared → Prop} {s : Shared} (I : Nat → Shared → Prop)
    (turn : ∀ n s, I n s → ∀ E : Value → Shared → Prop, wpAny (model prog w) A (pyNext it) (fun r s₁ => match r with
      | none => R (.ok .next) s₁
      | some v => wpAny (model prog w) A (letOwnedTupleGo target it v) (fun _ s₁' => wpAny (model prog w) A (assign target env v) (fun _ s₂ =>
          wpAny (model prog w) A (forIn ifs true fun c r => if r = true then do let ok ← isTrue c env (eval c env); pure (ForInStep.yield ok) else pure (ForInStep.yield r)) (fun ok s₃ =>
            if ok = true then wpAny (model prog w) A (eval elt env) (fun x s₄ =>
              wpAny (model prog w) A (call (.builtin "list.append") [acc, x]) (fun _ s₅ => ∃ m, m < n ∧ I m s₅) E s₄) E s₃
            else ∃ m, m < n ∧ I m s₃) E s₂) E s₁') E s₁) E s)
    (n : Nat) (h : I n s) : codeAny (model prog w) A (.compLoop (.ListComp elt [⟨target, iter, ifs, 0⟩] scope pos) 0 it acc env) R s := by
  refine codeAny_loop rfl I (fun n s hI => ?_) n h
  show wpAny _ A ((compTurn (.ListComp elt [⟨target, iter, ifs, 0⟩] scope pos) 0 it acc env).onRaise (fun x => do noteFrame x env; theTreesLotGoes x)) _ _ s
  refine wpAny_noted ?_
  rw [compTurn_list]
  refine wpAny_bind (wpAny_standAt (wpAny_bind (wpAny_mono (turn n s hI _) (fun r s₁ h₁ => ?_) fun _ _ h' => h')))
  cases r with
  | none => exact wpAny_pure h₁
  | some v =>
    refine wpAny_bind (wpAny_mono h₁ (fun _ s₁' h₁' => ?_) fun _ _ h' => h')
    refine wpAny_bind (wpAny_mono h₁' (fun _ s₂ h₂ => wpAny_bind (wpAny_mono h₂ (fun ok s₃ h₃ => ?_) fun _ _ h' => h')) fun _ _ h' => h')
    cases ok with
    | false => exact wpAny_pure ⟨rfl, h₃⟩
    | true =>
      exact wpAny_bind (wpAny_bind (wpAny_mono h₃ (fun x s₄ h₄ => wpAny_bind (wpAny_mono h₄ (fun _ s₅ h₅ => wpAny_pure (wpAny_pure ⟨rfl, h₅⟩)) fun _ _ h' => h')) fun _ _ h' => h'))

theorem size_none {h : Heap} {a : Addr} (k : h.objs.size ≤ a) : h.get? a = none := by
  cases q : h.get? a with
  | none => rfl
  | some o => exact absurd (Heap.lt_size q) (Nat.not_lt.mpr k)

theorem ltne {b I : Nat} (h : b < I) (k : Nat) : b ≠ I + k := by omega
theorem some_ne {α : Type} {x : Option α} {o : α} (e : x = some o) : x ≠ none := by rw [e]; exact fun z => nomatch z

/-- one element of a comprehension: what is bound, the test, the value -/
noncomputable def EltOk (prog : Program) (w : World) (A : Around) (env : Env) (scope : Scope) (cl : List (Str × Addr)) (h : Heap) (S : Addr → Prop) (ifs : List Expr) (elt : Expr) (bs : List (Str × D)) (p : Bool) (g : D) : Prop :=
  ∀ (S' : Addr → Prop) (C : Addr) (h' : Heap) (m : Str → Option Value), Up h S S' → Le h h' → h'.Ns C m → BdIn h' S' m bs →
    Tests prog w A (compEnvC scope cl C env) h' ifs p ∧ (p = true → EvD prog w A (compEnvC scope cl C env) h' S' elt g)

theorem comp_block {elt target iter : Expr} {ifs : List Expr} {scope : Scope} {cl : List (Str × Addr)} {pos : Pos} {s s₁ : Shared} {l : Addr} {vs : Array Value} {xs : List D} {E : Value → Shared → Prop}
    (bd : D → List (Str × D)) (p : D → Bool) (g : D → D) {RR : Value → Addr → Result → Shared → Prop}
    (ok : OkA 0 A) (hcell : ∀ y ∈ scope.names, y.2 ≠ .cell) (hkind : scope.kind = .function) (hs : Le h s.heap) (hk1 : Kp s s₁)
    (hl : s₁.heap.IsList l vs) (hx : RDs s₁.heap (Fr1 S s.heap) vs.toList xs) (hb : ∀ d ∈ xs, Bd target d (bd d)) (hloc : ∀ d ∈ xs, ∀ x e, (x, e) ∈ bd d → scope.names.lookup x = some .local)
    (hel : ∀ d ∈ xs, EltOk prog w A env scope cl h S ifs elt (bd d) (p d) (g d)) (hsz : xs.length ≤ sizeLine)
    (hRR : ∀ D C s', s.heap.get? D = none → s.heap.get? C = none → D ≠ C → (∃ m, s'.heap.Ns C m) → (∃ ys, s'.heap.PlainList D ys ∧ RDs s'.heap (fun b => Fr1 S s.heap b ∧ b ≠ C) ys.toList ((xs.filter p).map g)) → Kp s s' → RR (.ref D) C (.ok .next) s') :
    wpAny (model prog w) A (pyIter (.ref l)) (fun it s₂ => wpAny (model prog w) A (newList []) (fun acc s₃ => wpAny (model prog w) A (newFunctionEnv scope env.globals cl [] env.qual none .none (some env)) (fun cenv s₄ =>
      codeAny (model prog w) A (.compStart (.ListComp elt [⟨target, iter, ifs, 0⟩] scope pos) 0 it acc { cenv with scope := relabel scope env }) (RR acc cenv.locals) s₄) E s₃) E s₂) E s₁ := by
  refine wpAny_pyIter_list hl ?_
  refine wpAny_newObj_type (wpAny_newFunctionEnv hcell (by intro y hy; simp at hy) (fun h₄ hns₄ hsb₄ => ?_) hkind)
  dsimp only at hns₄ hsb₄ ⊢
  have i0 : s₁.heap.get? s₁.heap.objs.size = none := new_none _
  generalize hI : s₁.heap.objs.size = I at *
  generalize hH2 : s₁.heap.push { cls := .type "list_iterator", data := .fields #[.ref l, .int 0 0] } = H2 at *
  have hH2s : H2.objs.size = I + 1 := by rw [← hH2, Heap.size_push, hI]
  rw [hH2s]
  generalize hH3 : H2.push { cls := .type "list", dict := none, data := .seq ([] : List Value).toArray } = H3 at *
  have hH3s : H3.objs.size = I + 2 := by rw [← hH3, Heap.size_push, hH2s]
  rw [hH3s] at hns₄ hsb₄ ⊢
  have k12 : Le s₁.heap H2 := fun b o e => by rw [← hH2]; exact Heap.get?_push_of_some _ e
  have k23 : Le H2 H3 := fun b o e => by rw [← hH3]; exact Heap.get?_push_of_some _ e
  have k34 : Le H3 h₄ := fun b o e => hsb₄.extBut b o (fun z => ltne (Heap.lt_size e) 0 (z.trans hH3s.symm)) (Heap.get?_push_of_some _ e)
  have k14 : Le s₁.heap h₄ := (k12.trans k23).trans k34
  have hit : h₄.IsListIter I l 0 := ⟨_, k34 _ _ (k23 _ _ (by rw [← hH2, ← hI]; exact Heap.get?_push_size _ (by rfl))), rfl, rfl⟩
  have hacc : h₄.PlainList (I + 1) #[] := ⟨0, k34 _ _ (by rw [← hH3, ← hH2s]; exact Heap.get?_push_size _ (by rfl))⟩
  have f1 : ∀ b, s₁.heap.get? b ≠ none → b < I := fun b q => by
    cases e : s₁.heap.get? b with
    | none => exact absurd e q
    | some o => rw [← hI]; exact Heap.lt_size e
  have fD : s.heap.get? (I + 1) = none := fresh_le hk1.le (size_none (by omega))
  have fC : s.heap.get? (I + 2) = none := fresh_le hk1.le (size_none (by omega))
  have fI : s.heap.get? I = none := fresh_le hk1.le (size_none (by omega))
  let S'' : Addr → Prop := fun b => Fr1 S s.heap b ∧ b ≠ I ∧ b ≠ I + 1 ∧ b ≠ I + 2
  have up1 : Up s₁.heap (Fr1 S s.heap) S'' := fun a sa qa => ⟨sa, ltne (f1 a qa) 0, ltne (f1 a qa) 1, ltne (f1 a qa) 2⟩
  have uph : Up h S S'' := fun a sa qa => by
    have q : s₁.heap.get? a ≠ none := fun z => qa (fresh_le (hs.trans hk1.le) z)
    exact up1 a (.inl sa) q
  let cenv := compEnvC scope cl (I + 2) env
  have hlen := hx.length
  have loop : ∀ s₃ : Shared, s₃ = { s₁ with heap := h₄, toks := s₁.toks + ([] : List (Str × Value)).length } →
      codeAny (model prog w) A (.compLoop (.ListComp elt [⟨target, iter, ifs, 0⟩] scope pos) 0 (.ref I) (.ref (I + 1)) cenv) (RR (.ref (I + 1)) (I + 2)) s₃ := by
    rintro s₃ rfl
    refine comp_loop (fun k s' => ∃ i h' tk m' ys, s' = { s₁ with heap := h', toks := tk } ∧ h'.IsListIter I l i ∧ Le s₁.heap h' ∧ h'.PlainList (I + 1) ys ∧
      RDs h' S'' ys.toList (((xs.take i).filter p).map g) ∧ h'.Ns (I + 2) m' ∧ i ≤ xs.length ∧ k = xs.length + 1 - i) ?_ (xs.length + 1)
      ⟨0, h₄, _, _, #[], rfl, hit, k14, hacc, by simpa using RDs.nil, hns₄, Nat.zero_le _, rfl⟩
    rintro k s' ⟨i, H, tk, m', ys, rfl, hit', kH, hD', hR', hN', hi, rfl⟩ E'
    have hlH : H.IsList l vs := hl.at fun o e => kH _ o e
    by_cases hlt : i < xs.length
    · have hvi : ∃ v, vs[i]? = some v ∧ RD s₁.heap (Fr1 S s.heap) v xs[i] := by
        obtain ⟨v, h1, h2⟩ := hx.get (i := i) (d := xs[i]) (by simp [hlt])
        exact ⟨v, by rw [← Array.getElem?_toList]; exact h1, h2⟩
      obtain ⟨v, hv, rv⟩ := hvi
      have hmem : xs[i] ∈ xs := List.getElem_mem hlt
      refine wpAny_pyNext_list_item hit' hlH hv fun h5 hit5 hs5 => ?_
      have k5 : Le s₁.heap h5 := fun b o e => hs5.extBut b o (ltne (f1 b (some_ne e)) 0) (kH b o e)
      have rv5 : RD h5 S'' v xs[i] := rv.up k5 up1
      refine owned_bd (hb _ hmem) hit5 rv5 ?_
      have hN5 : h5.Ns cenv.locals m' := hN'.sameBut hs5 (by show I + 2 ≠ I; omega)
      refine assign_bd (hb _ hmem) ok.hd (by show (relabel scope env).kind = .function; exact hkind) (fun x d hxd => by show (relabel scope env).names.lookup x = _; exact lookup_relabel_local (hloc _ hmem x d hxd)) hN5 rv5 (fun z => z.2.2.2 rfl) fun h6 tk6 m6 hn6 hb6 _ hx6 => ?_
      have k6 : Le s₁.heap h6 := fun b o e => hx6 b o (ltne (f1 b (some_ne e)) 2) (k5 b o e)
      have el := hel _ hmem S'' (I + 2) h6 m6 uph ((hs.trans hk1.le).trans k6) hn6 hb6
      have hD6 : h6.PlainList (I + 1) ys := (hD'.at fun o e => hs5.extBut _ o (Nat.succ_ne_self _) e).at fun o e => hx6 _ o (by show I + 1 ≠ I + 2; omega) e
      have hR6 : RDs h6 S'' ys.toList (((xs.take i).filter p).map g) := (hR'.but hs5.extBut fun z => z.2.1 rfl).but hx6 fun z => z.2.2.2 rfl
      have hit6 : h6.IsListIter I l (i + 1) := hit5.at fun o e => hx6 _ o (by show I ≠ I + 2; omega) e
      have htk : xs.take (i + 1) = xs.take i ++ [xs[i]] := by rw [List.take_add_one, List.getElem?_eq_getElem hlt]; rfl
      refine el.1.run (fun _ _ e => e) fun s7 k7 => ?_
      obtain ⟨k7, h7, tk7, rfl⟩ := k7
      cases hp : p xs[i] with
      | false =>
        simp only [Bool.false_eq_true, if_false]
        refine ⟨xs.length + 1 - (i + 1), by omega, i + 1, h7, tk7, m6, ys, rfl, hit6.at fun o e => k7 _ o e, k6.trans k7, hD6.at fun o e => k7 _ o e, ?_, hn6.keeps k7, hlt, rfl⟩
        rw [htk, List.filter_append]
        simpa [hp] using hR6.le k7
      | true =>
        simp only [if_true]
        refine wpAny_mono (el.2 hp _ E' k7) (fun x s8 q8 => ?_) fun _ _ q => q
        obtain ⟨r8, k8, h8, tk8, rfl⟩ := q8
        have k68 : Le h6 h8 := k7.trans k8
        have hys : ys.size ≤ sizeLine := by
          have e1 := hR6.length
          have e2 : ((xs.take i).filter p).length ≤ (xs.take i).length := List.length_filter_le _ _
          have e3 : (xs.take i).length = i := by rw [List.length_take]; omega
          have e4 : ys.toList.length = ys.size := by simp
          rw [List.length_map] at e1
          omega
        refine wpAny_list_append_plain (hsz := hys) (hD6.at fun o e => k68 _ o e) fun h9 hl9 hs9 => ?_
        have nD : ¬ S'' (I + 1) := fun z => z.2.2.1 rfl
        refine ⟨xs.length + 1 - (i + 1), by omega, i + 1, h9, tk8, m6, ys.push x, rfl, ?_, ?_, hl9, ?_, (hn6.keeps k68).sameBut hs9 (by show I + 2 ≠ I + 1; omega), hlt, rfl⟩
        · exact (hit6.at fun o e => k68 _ o e).at fun o e => hs9.extBut _ o (Nat.ne_of_lt (Nat.lt_succ_self _)) e
        · exact fun b o e => hs9.extBut b o (ltne (f1 b (some_ne e)) 1) (k68 b o (k6 b o e))
        · rw [htk, List.filter_append, List.map_append]
          have r9 : RD h9 S'' x (g xs[i]) := by
            refine RD.but hs9.extBut nD (r8.sub fun a z => ?_)
            rcases z with z | z
            · exact z
            · have z6 := fresh_le k7 z
              have ex : ∀ b o, h6.get? b = some o → a ≠ b := fun b o e q => by rw [← q, z6] at e; cases e
              obtain ⟨oi, ei, _⟩ := hit6
              obtain ⟨od, ed⟩ := hD6
              obtain ⟨oc, _, _, ec, _⟩ := hn6
              exact ⟨.inr (fresh_le ((hk1.le).trans k6) z6), ex _ _ ei, ex _ _ ed, ex _ _ ec⟩
          have := ((hR6.le k68).but hs9.extBut nD).append (RDs.one r9)
          simpa [hp] using this
    · have hin : i = xs.length := by omega
      subst hin
      refine wpAny_pyNext_list_end ok.hd hit' hlH (by rw [← Array.getElem?_toList]; exact List.getElem?_eq_none (by omega)) fun h5 hx5 => ?_
      have k5 : Le s₁.heap h5 := fun b o e => hx5 b o (ltne (f1 b (some_ne e)) 0) (kH b o e)
      rw [List.take_length] at hR'
      obtain ⟨kk, hh, tt, rfl⟩ := hk1
      refine hRR _ _ _ fD fC (Nat.ne_of_lt (Nat.lt_succ_self _)) ⟨m', hN'.at' fun o e => hx5 _ o (by show I + 2 ≠ I; omega) e⟩ ⟨ys, hD'.at fun o e => hx5 _ o (Nat.succ_ne_self _) e, (hR'.but hx5 fun z => z.2.1 rfl).sub fun a z => ⟨z.1, z.2.2.2⟩⟩ (Kp.of tk (kk.trans k5))
  exact codeAny_compStart_list (loop _ rfl) (wpAny_pyIter_listiter hit (loop _ rfl))

theorem EvD.comp {elt target iter : Expr} {ifs : List Expr} {scope : Scope} {cl : List (Str × Addr)} {pos : Pos} {xs : List D} (bd : D → List (Str × D)) (p : D → Bool) (g : D → D)
    (src : SrcL prog w A env h S iter xs) (ok : OkA 0 A) (hclos : closureFor scope env = pure cl) (hcell : ∀ y ∈ scope.names, y.2 ≠ .cell) (hkind : scope.kind = .function)
    (hnames : ∀ y ∈ scope.names, y.2 = .local → scope.names.lookup y.1 = some .local)
    (hb : ∀ d ∈ xs, Bd target d (bd d)) (hloc : ∀ d ∈ xs, ∀ x e, (x, e) ∈ bd d → scope.names.lookup x = some .local)
    (hel : ∀ d ∈ xs, EltOk prog w A env scope cl h S ifs elt (bd d) (p d) (g d)) (hsz : xs.length ≤ sizeLine)
    (hst : ∀ x, foldedSetIterable iter env x = pure x := by intro _; rfl) :
    EvD prog w A env h S (.ListComp elt [⟨target, iter, ifs, 0⟩] scope pos) (.lst ((xs.filter p).map g)) := fun s E hs => by
  rw [eval_ListComp]
  refine wpAny_comprehension_free (use := none) rfl hst hclos hkind hnames (wpAny_mono (src s E hs) (fun xv s₁ h₁ => ?_) fun _ _ e => e)
  obtain ⟨⟨l, vs, rfl, hl, r⟩, k1⟩ := h₁
  refine comp_block (RR := fun acc C => compPost (model prog w) A E none _ acc C) bd p g ok hcell hkind hs k1 hl r hb hloc hel hsz ?_
  intro D C s' hD hC hDC hn hy hk
  obtain ⟨m, hn⟩ := hn
  obtain ⟨ys, ⟨n, hp⟩, hr⟩ := hy
  refine ⟨m, hn, fun h'' hs'' => ⟨.lst (.inr hD) (hs''.extBut _ _ hDC hp) rfl rfl ((hr.but hs''.extBut fun z => z.2 rfl).sub fun _ z => z.1), ?_⟩⟩
  obtain ⟨kk, hh, tt, rfl⟩ := hk
  exact Kp.of tt fun b o e => hs''.extBut b o (fun z => by rw [z, hC] at e; cases e) (kk b o e)

/-- the same, where the value is stored under a local name by the exchanged road -/
theorem assign_comp {elt target iter : Expr} {ifs : List Expr} {scope : Scope} {cl : List (Str × Addr)} {pos spos py : Pos} {y : Str} {xs : List D} {s : Shared} {E : Value → Shared → Prop} {m : Str → Option Value} {Q : Flow → Shared → Prop} (bd : D → List (Str × D)) (p : D → Bool) (g : D → D)
    (hsw : swapsWith (.ListComp elt [⟨target, iter, ifs, 0⟩] scope pos) (some (.Name y py)) spos.line env = pure true)
    (src : SrcL prog w A env h S iter xs) (hs : Le h s.heap) (ok : OkA 0 A) (hclos : closureFor scope env = pure cl) (hcell : ∀ y ∈ scope.names, y.2 ≠ .cell) (hkind : scope.kind = .function)
    (hnames : ∀ y ∈ scope.names, y.2 = .local → scope.names.lookup y.1 = some .local)
    (hb : ∀ d ∈ xs, Bd target d (bd d)) (hloc : ∀ d ∈ xs, ∀ x e, (x, e) ∈ bd d → scope.names.lookup x = some .local)
    (hel : ∀ d ∈ xs, EltOk prog w A env scope cl h S ifs elt (bd d) (p d) (g d)) (hsz : xs.length ≤ sizeLine)
    (hy : env.kindOf y = some .local) (hp : (env.scope.kind == .class || (env.scope.kind == .module && env.locals != env.globals)) = false) (hm : s.heap.Ns env.locals m)
    (hQ : ∀ D h' tk, s.heap.get? D = none → RD h' (Fr1 S s.heap) (.ref D) (.lst ((xs.filter p).map g)) → h'.Ns env.locals (fun z => if z = y then some (.ref D) else m z) → (¬ S env.locals) → Heap.ExtBut env.locals s.heap h' → Q .next { s with heap := h', toks := tk })
    (hSL : ¬ S env.locals)
    (hst : ∀ x, foldedSetIterable iter env x = pure x := by intro _; rfl) :
    wpAny (model prog w) A (exec (.Assign [.Name y py] (.ListComp elt [⟨target, iter, ifs, 0⟩] scope pos) spos) env) Q E s := by
  rw [exec_Assign_Name_used _ _ _ _ hsw]
  refine wpAny_bind (wpAny_standAt (wpAny_bind ?_))
  show wpAny _ A (do let _ ← comprehension (.ListComp elt [⟨target, iter, ifs, 0⟩] scope pos) scope env _ (newList []) false (eval iter env) (some (assign (.Name y py) env))) _ _ s
  refine wpAny_bind (wpAny_mono (wpAny_comprehension_free (use := some (assign (.Name y py) env)) (Q := fun _ s' => Q .next s') rfl hst hclos hkind hnames
    (wpAny_mono (src s E hs) (fun xv s₁ h₁ => ?_) fun _ _ e => e)) (fun _ s' hq => wpAny_pure (wpAny_pure hq)) fun _ _ e => e)
  obtain ⟨⟨l, vs, rfl, hl, r⟩, k1⟩ := h₁
  refine comp_block (RR := fun acc C => compPost (model prog w) A E (some (assign (.Name y py) env)) (fun _ s' => Q .next s') acc C) bd p g ok hcell hkind hs k1 hl r hb hloc hel hsz ?_
  intro D C s' hD hC hDC hn hyy hk
  obtain ⟨m', hn⟩ := hn
  obtain ⟨ys, ⟨n, hpl⟩, hr⟩ := hyy
  have hLs : s.heap.get? env.locals ≠ none := by obtain ⟨o, _, _, ho, _⟩ := hm; rw [ho]; exact fun z => nomatch z
  have hLC : env.locals ≠ C := fun z => hLs (z ▸ hC)
  have hLD : env.locals ≠ D := fun z => hLs (z ▸ hD)
  show wpAny _ A (assign (.Name y py) env (.ref D)) _ _ _
  refine wpAny_assign_Name (wpAny_storeName_local hy (hm.keeps hk.le) (fun h₂ hn₂ hs₂ => ?_) hp)
  refine ⟨m', hn.sameBut hs₂ (Ne.symm hLC), fun h₃ hs₃ => ?_⟩
  obtain ⟨kk, hh, tt, rfl⟩ := hk
  have nS : ¬ (Fr1 S s.heap env.locals ∧ env.locals ≠ C) := fun z => z.1.elim hSL hLs
  refine hQ D h₃ _ hD (.lst (.inr hD) (hs₃.extBut _ _ hDC (hs₂.extBut _ _ (Ne.symm hLD) hpl)) rfl rfl (((hr.but hs₂.extBut nS).but hs₃.extBut fun z => z.2 rfl).sub fun _ z => z.1)) (hn₂.sameBut hs₃ hLC) hSL ?_
  exact fun b o hb e => hs₃.extBut b o (fun z => by rw [z, hC] at e; cases e) (hs₂.extBut b o hb (kk b o e))
end
end Mine
end

section
open PySem PySem.W PyProof.Rows PySem.Calls
set_option maxRecDepth 10000
set_option linter.all false
namespace Mine
open PySem (eval)

section
variable {prog : Program} {w : World} {A : Around} {env : Env} {h : Heap} {S : Addr → Prop}

/-- a def of plain data: what it hands back, whatever the frames around -/
noncomputable def FnD (prog : Program) (w : World) (n : Nat) (h : Heap) (f : Addr) (ds : List D) (d : D) : Prop :=
  ∀ (A : Around) (S : Addr → Prop) (s : Shared) (vs : List Value), OkA n A → Le h s.heap → RDs s.heap S vs ds →
    codeAny (model prog w) A (.call (.ref f) ⟨vs, []⟩) (fun r s' => ∃ v, r = .ok (.ret v) ∧ RD s'.heap (Fr1 S s.heap) v d ∧ Kp s s') s
theorem FnD.mono {n : Nat} {h' : Heap} {f : Addr} {ds : List D} {d : D} (x : FnD prog w n h f ds d) (k : Le h h') : FnD prog w n h' f ds d := fun A S s vs ok hs r => x A S s vs ok (k.trans hs) r
noncomputable def IsFn (h : Heap) (f : Addr) : Prop := ∃ o fd, h.get? f = some o ∧ o.data = .func fd

theorem EvD.call {x : Str} {p pos : Pos} {f : Addr} {args : List Expr} {ds : List D} {d : D} {n : Nat} (vf : Var env h x (.ref f)) (hf : IsFn h f) (a : EvDs prog w A env h S args ds) (hne : args ≠ []) (fn : FnD prog w n h f ds d) (ok : OkA n A)
    (hd : (x == ("__debug__" : Str)) = false := by decide) : EvD prog w A env h S (.Call (.Name x p) args [] pos) d := fun s E hs => by
  refine wpAny_Call_NameR (wpAny_Name (vf _ _ _ _ s hs ?_) hd)
  obtain ⟨o, fd, ho, hdat⟩ := hf
  refine callWith_function (o := o) (fd := fd) ?_
  cases args with
  | nil => exact absurd rfl hne
  | cons e es =>
    cases a with
    | cons a1 ar hn =>
    have a' : EvDs prog w A env h S (e :: es) _ := .cons a1 ar hn
    have q := a'.spliced (pos := pos) (E := E) hs (Q := fun vs s' => (s'.heap.get? f = some o ∧ o.data = .func fd) ∧ wpAny (model prog w) A (PySem.call (.ref f) ([] ++ vs) []) (fun v s'' => RD s''.heap (Fr1 S s.heap) v d ∧ Kp s s'') E s') fun vs s' r k => ⟨⟨hs.trans k.le _ _ ho, hdat⟩, ?_⟩
    · rw [starEach_cons hn] at q ⊢
      exact evalArgs_plain q
    · refine wpAny_call (codeAny_mono (fn A _ s' vs ok (hs.trans k.le) r) fun rr s'' z => ?_)
      obtain ⟨v, rfl, r2, k2⟩ := z
      exact ⟨r2.sub (fr1_fr1 k.le), k.tr k2⟩

theorem EvD.idxL {value slice : Expr} {pos : Pos} {ds : List D} {k : Int} {d : D} (x : SrcL prog w A env h S value ds) (y : EvD prog w A env h S slice (.int k)) (h0 : 0 ≤ k) (h1 : k < 2 ^ 63) (hk : ds[k.toNat]? = some d)
    (hs : ∀ o i, subscripted slice false o i = operate [o, i] (getItem o i) := by intro _ _; rfl) : EvD prog w A env h S (.Subscript value slice pos) d := fun s E hS => by
  refine Subscript_ (wpAny_mono (x s E hS) (fun o s₁ q => ?_) fun _ _ q => q)
  obtain ⟨⟨l, vs, rfl, hl, r⟩, k1⟩ := q
  refine wpAny_mono (y s₁ E (hS.trans k1.le)) (fun i s₂ q => ?_) fun _ _ q => q
  obtain ⟨ri, k2⟩ := q
  (first | cases ri using RD.atomE | cases ri using RDs.nilE | cases ri using RD.strE | cases ri using RD.intE | cases ri using RD.boolE | cases ri using RD.noneE | cases ri)
  have hl2 : s₂.heap.IsList l vs := hl.at fun o e => k2.le _ o e
  obtain ⟨v, hv, rv⟩ := r.get hk
  refine tail_any hl2.typeIs slot_list_getitem.lookup (wpAny_getItem_list hl2 h0 h1 (by rw [← Array.getElem?_toList]; exact hv) ⟨rv.le k2.le, k1.tr k2⟩) (hs _ _)

/-- all but what may change still stands -/
noncomputable def KeepBut (Mu : Addr → Prop) (h h' : Heap) : Prop := ∀ b o, ¬ Mu b → h.get? b = some o → h'.get? b = some o
theorem KeepBut.refl {Mu : Addr → Prop} (h : Heap) : KeepBut Mu h h := fun _ _ _ e => e
theorem KeepBut.trans {Mu : Addr → Prop} {a b c : Heap} (x : KeepBut Mu a b) (y : KeepBut Mu b c) : KeepBut Mu a c := fun i o n e => y i o n (x i o n e)
theorem Le.keepBut {Mu : Addr → Prop} {a b : Heap} (x : Le a b) : KeepBut Mu a b := fun i o _ e => x i o e
theorem RD.keepBut {Mu : Addr → Prop} {h h' : Heap} {S : Addr → Prop} (k : KeepBut Mu h h') (n : ∀ a, S a → ¬ Mu a) {v d} (x : RD h S v d) : RD h' S v d := x.mono (fun a o s e => k a o (n a s) e) fun _ s => s
theorem RDs.keepBut {Mu : Addr → Prop} {h h' : Heap} {S : Addr → Prop} (k : KeepBut Mu h h') (n : ∀ a, S a → ¬ Mu a) {v d} (x : RDs h S v d) : RDs h' S v d := x.mono (fun a o s e => k a o (n a s) e) fun _ s => s

theorem for_walk {tgt : Expr} {body : List Stmt} {I : Addr} {fp wr : List Addr} {n : Nat} {P : Nat → Value → Prop} {St : Nat → Heap → Prop} (W : Walks prog w A I fp wr n P St) {s₁ : Shared} (hst : St 0 s₁.heap)
    (Mu : Addr → Prop) (hfp : ∀ b ∈ fp, ¬ Mu b) (J : Nat → Shared → Prop) (j0 : J 0 s₁)
    (jst : ∀ i s h' tk, J i s → (∀ b o, b ∉ wr → s.heap.get? b = some o → h'.get? b = some o) → J i { s with heap := h', toks := tk })
    (ho : ∀ i v (s : Shared) (Q : Unit → Shared → Prop) (E : Value → Shared → Prop), P i v → St (i + 1) s.heap → Q () s → wpAny (model prog w) A (letOwnedTupleGo tgt (.ref I) v) Q E s)
    {R : Result → Shared → Prop}
    (turn : ∀ i v s, i < n → P i v → J i s → St (i + 1) s.heap → ∀ E, wpAny (model prog w) A (assign tgt env v) (fun _ s₂ => wpAny (model prog w) A (execs body env) (fun f s₃ => (f = .next ∨ f = .cont) ∧ J (i + 1) s₃ ∧ KeepBut Mu s.heap s₃.heap) E s₂) E s)
    (done : ∀ s, J n s → R (.ok .next) s) :
    codeAny (model prog w) A (.forLoop tgt (.ref I) body [] env) R s₁ := by
  refine codeAny_forLoop_any (fun k s => ∃ i, J i s ∧ St i s.heap ∧ i ≤ n ∧ k = n + 1 - i) ?_ (n + 1) ⟨0, j0, hst, Nat.zero_le _, rfl⟩
  rintro k s ⟨i, j, st, hi, rfl⟩
  by_cases hlt : i < n
  · refine W.item i s _ _ hlt st fun v h' tk hP st' hk => ?_
    have j' := jst i s h' tk j hk
    refine ho i v _ _ _ hP st' ?_
    refine wpAny_mono (turn i v _ hlt hP j' st' _) (fun _ s₂ q => wpAny_mono q (fun f s₃ q => ?_) fun _ _ q => q) fun _ _ q => q
    obtain ⟨hf, j3, k3⟩ := q
    have fin : ∃ m, m < n + 1 - i ∧ ∃ i', J i' s₃ ∧ St i' s₃.heap ∧ i' ≤ n ∧ m = n + 1 - i' :=
      ⟨n + 1 - (i + 1), by omega, i + 1, j3, W.frame _ _ _ st' fun b hb o e => k3 b o (hfp b hb) e, hlt, rfl⟩
    rcases hf with rfl | rfl <;> exact fin
  · have hin : i = n := by omega
    subst hin
    refine W.done s _ _ st fun h' tk hk => ?_
    exact wpAny_execs_nil (done _ (jst _ s h' tk j hk))

/-- a for over a list: from its iterator on -/
theorem for_list {tgt : Expr} {body : List Stmt} {s₁ : Shared} {l : Addr} {vs : Array Value} {xs : List D} {S0 : Addr → Prop} (hh : A.handled = none) (hl : s₁.heap.IsList l vs) (hx : RDs s₁.heap S0 vs.toList xs)
    (Mu : Addr → Prop) (nl : ¬ Mu l) (nS : ∀ a, S0 a → ¬ Mu a) (hMu : ∀ a, Mu a → s₁.heap.get? a ≠ none) (tb : ∀ d ∈ xs, ∃ bs, Bd tgt d bs)
    (J : Addr → Nat → Shared → Prop)
    (j0 : ∀ h', Le s₁.heap h' → J s₁.heap.objs.size 0 { s₁ with heap := h' })
    (jst : ∀ i s h' tk, J s₁.heap.objs.size i s → Heap.ExtBut s₁.heap.objs.size s.heap h' → J s₁.heap.objs.size i { s with heap := h', toks := tk })
    {R : Result → Shared → Prop} {E : Value → Shared → Prop}
    (turn : ∀ i d v s, xs[i]? = some d → J s₁.heap.objs.size i s → RD s.heap (fun b => S0 b ∧ s₁.heap.get? b ≠ none) v d → KeepBut Mu s₁.heap s.heap → s.heap.get? s₁.heap.objs.size ≠ none → ∀ E, wpAny (model prog w) A (assign tgt env v) (fun _ s₂ => wpAny (model prog w) A (execs body env) (fun f s₃ => (f = .next ∨ f = .cont) ∧ J s₁.heap.objs.size (i + 1) s₃ ∧ KeepBut Mu s.heap s₃.heap) E s₂) E s)
    (done : ∀ s, J s₁.heap.objs.size xs.length s → KeepBut Mu s₁.heap s.heap → R (.ok .next) s) :
    wpAny (model prog w) A (pyIter (.ref l)) (fun it s₂ => codeAny (model prog w) A (.forLoop tgt it body [] env) R s₂) E s₁ := by
  refine wpAny_pyIter_list hl ?_
  generalize hI : s₁.heap.objs.size = I at *
  have hIn : s₁.heap.get? I = none := by rw [← hI]; exact new_none _
  have nI : ¬ Mu I := fun z => hMu _ z hIn
  have hlI : l ≠ I := fun z => by obtain ⟨o, e, _⟩ := hl; rw [z, hIn] at e; cases e
  have k2 : Le s₁.heap (s₁.heap.push { cls := .type "list_iterator", data := .fields #[.ref l, .int 0 0] }) := fun b o e => Heap.get?_push_of_some _ e
  have hlen := hx.length
  have hsz : vs.size = xs.length := by rw [← hlen, Array.length_toList]
  have W := Walks.list (prog := prog) (w := w) hh I l hlI vs
  have fp : ∀ b ∈ [I, l], ¬ Mu b := fun b hb => by
    rcases List.mem_cons.mp hb with rfl | hb
    · exact nI
    · rw [List.mem_singleton.mp hb]; exact nl
  have one : ∀ {h h' : Heap}, (∀ b o, b ∉ [I] → h.get? b = some o → h'.get? b = some o) → Heap.ExtBut I h h' := fun hk b o hb e => hk b o (by simpa using hb) e
  rw [hsz] at W
  refine for_walk W ⟨⟨_, by rw [← hI]; exact Heap.get?_push_size _ (by rfl), rfl, rfl⟩, hl.at fun o e => k2 _ o e⟩ Mu fp
    (fun i s => J I i s ∧ KeepBut Mu s₁.heap s.heap ∧ RDs s.heap (fun b => S0 b ∧ s₁.heap.get? b ≠ none) vs.toList xs) ⟨j0 _ k2, k2.keepBut, hx.dom.le k2⟩ ?_ ?_ ?_ ?_
  · rintro i s h' tk ⟨j, kk, r⟩ hk
    have nb : ∀ b o, s₁.heap.get? b = some o → b ≠ I := fun b o e z => by rw [z, hIn] at e; cases e
    exact ⟨jst i s h' tk j (one hk), fun b o n e => one hk b o (nb b o e) (kk b o n e),
      r.mono (fun a o s e => one hk a o (fun z => s.2 (by rw [z]; exact hIn)) e) fun _ s => s⟩
  · intro i v s Q E hP hst hQ
    obtain ⟨d, hd, rd⟩ := hx.get' (i := i) (v := v) (by rw [Array.getElem?_toList]; exact hP)
    obtain ⟨bs, b⟩ := tb d (List.mem_of_getElem? hd)
    cases b with
    | name => exact wpAny_pure hQ
    | tup2 => (first | cases rd using RD.atomE | cases rd using RDs.nilE | cases rd using RD.strE | cases rd using RD.intE | cases rd using RD.boolE | cases rd using RD.noneE | cases rd); exact wpAny_letOwnedTupleGo_listiter hst.1 hQ
    | tup3 => (first | cases rd using RD.atomE | cases rd using RDs.nilE | cases rd using RD.strE | cases rd using RD.intE | cases rd using RD.boolE | cases rd using RD.noneE | cases rd); exact wpAny_letOwnedTupleGo_listiter hst.1 hQ
  · rintro i v s hi hP ⟨j, kk, r⟩ hst E
    obtain ⟨d, hd, rd⟩ := r.get' (i := i) (v := v) (by rw [Array.getElem?_toList]; exact hP)
    have hin : s.heap.get? I ≠ none := by obtain ⟨o, e, _⟩ := hst.1; rw [e]; exact fun z => nomatch z
    refine wpAny_mono (turn i d v s hd j rd kk hin E) (fun _ s₂ q => wpAny_mono q (fun f s₃ q => ?_) fun _ _ q => q) fun _ _ q => q
    obtain ⟨hf, j3, k3⟩ := q
    exact ⟨hf, ⟨j3, kk.trans k3, r.keepBut k3 fun a s => nS a s.1⟩, k3⟩
  · rintro s ⟨j, kk, r⟩
    exact done s j kk
end
end Mine
end

section
open PySem PySem.W PyProof.Rows PySem.Calls
set_option maxRecDepth 10000
set_option linter.all false
namespace Mine
open PySem (eval)

/-- the frame of a def under way: its locals, its cells; all that stood at its call stands -/
structure Frm (s₀ : Shared) (env : Env) (m cm : Str → Option Value) (s : Shared) : Prop where
  eq : ∃ h' tk, s = { s₀ with heap := h', toks := tk }
  keep : Le s₀.heap s.heap
  ns : s.heap.Ns env.locals m
  cell : ∀ n c, env.cells.lookup n = some c → s.heap.IsCell c (cm n)
  newL : s₀.heap.get? env.locals = none
  newC : ∀ n c, env.cells.lookup n = some c → s₀.heap.get? c = none ∧ c ≠ env.locals
  apart : env.cells.Pairwise fun x y => x.2 ≠ y.2

section
variable {prog : Program} {w : World} {M : Model} {A : Around} {E : Value → Shared → Prop} {s₀ s : Shared} {env : Env} {m cm : Str → Option Value}

theorem Frm.ofCall (x : InCallC s₀ env.locals m env.cells cm s) : Frm s₀ env m cm s := by
  have d := x.done
  obtain ⟨h', tk, e, k⟩ := d
  have hf := x.toInCall.fresh
  refine ⟨⟨h', tk, e⟩, by rw [e]; exact k, x.toInCall.ns, x.cell, size_none hf, fun n c hc => ?_, x.apart⟩
  have := x.above n c (mem_of_lookup hc)
  exact ⟨size_none (Nat.le_of_lt (Nat.lt_of_le_of_lt hf this)), Nat.ne_of_gt this⟩
theorem Frm.kpAll (F : Frm s₀ env m cm s) : Kp s₀ s := by obtain ⟨h', tk, e⟩ := F.eq; exact ⟨F.keep, h', tk, e⟩
theorem Frm.kp {s' : Shared} (F : Frm s₀ env m cm s) (k : Kp s s') : Frm s₀ env m cm s' := by
  refine ⟨(F.kpAll.tr k).eq, (F.kpAll.tr k).le, F.ns.keeps k.le, fun n c e => (F.cell n c e).keeps k.le, F.newL, F.newC, F.apart⟩
theorem Frm.lives (F : Frm s₀ env m cm s) : s.heap.get? env.locals ≠ none := by obtain ⟨o, _, _, e, _⟩ := F.ns; exact some_ne e
theorem Frm.livesC (F : Frm s₀ env m cm s) {n c} (e : env.cells.lookup n = some c) : s.heap.get? c ≠ none := by obtain ⟨o, e, _⟩ := F.cell n c e; exact some_ne e

theorem Frm.but {a : Addr} {h' : Heap} (tk : Nat) (F : Frm s₀ env m cm s) (hs : Heap.ExtBut a s.heap h') (n0 : s₀.heap.get? a = none) (nL : a ≠ env.locals) (nC : ∀ n c, env.cells.lookup n = some c → a ≠ c) :
    Frm s₀ env m cm { s with heap := h', toks := tk } := by
  obtain ⟨h, t, e⟩ := F.eq
  subst e
  refine ⟨⟨h', tk, rfl⟩, fun b o e => hs b o (fun z => by rw [z, n0] at e; cases e) (F.keep b o e), F.ns.at' fun o e => hs _ o (Ne.symm nL) e, fun n c e => ?_, F.newL, F.newC, F.apart⟩
  obtain ⟨o, ho, hd⟩ := F.cell n c e
  exact ⟨o, hs c o (Ne.symm (nC n c e)) ho, hd⟩

theorem Frm.storeL {x : Str} {v : Value} {Q : Unit → Shared → Prop} (F : Frm s₀ env m cm s) (hk : env.scope.kind = .function) (hl : env.kindOf x = some .local)
    (hQ : ∀ h' tk, Frm s₀ env (fun y => if y = x then some v else m y) cm { s with heap := h', toks := tk } → Heap.ExtBut env.locals s.heap h' → Q () { s with heap := h', toks := tk }) : wpAny M A (storeName env x v) Q E s := by
  have hp : (env.scope.kind == .class || (env.scope.kind == .module && env.locals != env.globals)) = false := by rw [hk]; rfl
  refine wpAny_storeName_local hl F.ns (fun h' hn hs => hQ h' _ ?_ hs.extBut) hp
  obtain ⟨h, t, e⟩ := F.eq
  subst e
  refine ⟨⟨h', _, rfl⟩, fun b o e => hs.extBut b o (fun z => by rw [z, F.newL] at e; cases e) (F.keep b o e), hn, fun n c e => (F.cell n c e).sameBut hs (F.newC n c e).2, F.newL, F.newC, F.apart⟩
theorem Frm.storeC {x : Str} {c : Addr} {v : Value} {Q : Unit → Shared → Prop} (F : Frm s₀ env m cm s) (hk : env.scope.kind = .function) (hl : env.kindOf x = some .cell) (hc : env.cells.lookup x = some c)
    (hQ : ∀ h', Frm s₀ env m (fun y => if y = x then some v else cm y) { s with heap := h' } → Heap.ExtBut c s.heap h' → Q () { s with heap := h' }) : wpAny M A (storeName env x v) Q E s := by
  refine wpAny_storeName_cell hk hl hc (F.cell x c hc) fun h' hv hs => hQ h' ?_ hs.extBut
  obtain ⟨h, t, e⟩ := F.eq
  subst e
  have n := F.newC x c hc
  refine ⟨⟨h', t, rfl⟩, fun b o e => hs.extBut b o (fun z => by rw [z, n.1] at e; cases e) (F.keep b o e), F.ns.sameBut hs (Ne.symm n.2), fun n c' e => ?_, F.newL, F.newC, F.apart⟩
  by_cases hn : n = x
  · subst hn; rw [hc] at e; cases e; simpa using hv
  · have hcc : c' ≠ c := fun q => hn (name_of_addr F.apart (mem_of_lookup e) (q ▸ mem_of_lookup hc))
    simpa [hn] using (F.cell n c' e).sameBut hs hcc

theorem Frm.loc (F : Frm s₀ env m cm s) {x : Str} {v : Value} (hk : env.scope.kind = .function) (hx : env.kindOf x = some .local) (hv : m x = some v) : Var env s.heap x v :=
  fun M A E Q s hs q => wpAny_loadName_local hk hx (F.ns.keeps hs) hv q
theorem Frm.celV (F : Frm s₀ env m cm s) {x : Str} {v : Value} {c : Addr} (hk : env.scope.kind = .function) (hx : env.kindOf x = some .cell) (hc : env.cells.lookup x = some c) (hv : cm x = some v) : Var env s.heap x v :=
  fun M A E Q s hs q => wpAny_loadName_cell hk hx hc ((hv ▸ F.cell x c hc).keeps hs) q

/-- an own list is grown by a method call that stands alone -/
theorem exec_append {o elt : Expr} {p apos cpos epos : Pos} {x : Str} {dl : Addr} {its : Array Value} {d : D} {h : Heap} {S : Addr → Prop} {Q : Flow → Shared → Prop}
    (v : Var env s.heap x (.ref dl)) (hl : s.heap.PlainList dl its) (e : EvD prog w A env s.heap S elt d) (hsz : its.size ≤ sizeLine)
    (hQ : ∀ y h' tk, Heap.ExtBut dl s.heap h' → h'.PlainList dl (its.push y) → (∀ S' : Addr → Prop, (∀ a, Fr1 S s.heap a → a ≠ dl → S' a) → ¬ S dl → RD h' S' y d) → Q .next { s with heap := h', toks := tk })
    (hbase : attributeBase (.Name x p) "append" env (eval (.Name x p) env) = eval (.Name x p) env) (hstar : isStar elt = false) (hline : (apos.endLine == cpos.line) = true) (hi : interactive env = false)
    (hsw : swapsWith (.Call (.Attribute (.Name x p) "append" apos) [elt] [] cpos) none epos.line env = pure false) (hd : (x == ("__debug__" : Str)) = false := by decide) :
    wpAny (model prog w) A (exec (.Expr (.Call (.Attribute (.Name x p) "append" apos) [elt] [] cpos) epos) env) Q E s := by
  have htr : backTo cpos (starEach [elt] env) = [(false, eval elt env)] := by rw [starEach_cons hstar]; rfl
  refine wpAny_Expr (wpAny_Call_append hbase (by rw [htr]; rfl) hline htr (wpAny_Name (v _ _ _ _ s (fun _ _ e => e) ⟨dl, its, rfl, (let ⟨n, e⟩ := hl; ⟨_, n, e, rfl, rfl, rfl⟩), ?_⟩) hd)) hi hsw
  refine wpAny_mono (e s E fun _ _ e => e) (fun y s₂ q => ?_) fun _ _ q => q
  obtain ⟨r, k⟩ := q
  obtain ⟨k, h2, tk, rfl⟩ := k
  refine wpAny_list_append_plain (hsz := hsz) (hl.at fun o e => k _ o e) fun h' hl' hs' => ?_
  refine hQ y h' tk (fun b o hb e => hs'.extBut b o hb (k b o e)) hl' fun S' up nD => ?_
  have hD : s.heap.get? dl ≠ none := by obtain ⟨n, e⟩ := hl; exact some_ne e
  have r' : RD h2 (fun a => Fr1 S s.heap a ∧ a ≠ dl) y d := r.sub fun a z => ⟨z, fun q => by rw [q] at z; exact z.elim nD hD⟩
  exact (r'.but hs'.extBut fun z => z.2 rfl).sub fun a z => up a z.1 z.2
end
end Mine
end

section
open PySem PySem.W PyProof.Rows PySem.Calls
set_option maxRecDepth 100000
set_option linter.all false
namespace Mine
open PySem (eval)

noncomputable def fdOf (name : Str) (n code : Nat) : FuncData :=
  { name, qualname := name, params := fparams (stOf n), body := .stmts (fbody (stOf n)), scope := fscope (stOf n), globals := mainGlobals, closure := [], defaults := .none, kwdefaults := .none,
    doc := .none, pyModule := .str "law_il0121_01" 617, annotations := none, code := .ref code, closureTuple := .none, builtins := builtinsNs }
noncomputable abbrev K01 (w : World) : Frag := KF w.params

theorem K_same (w : World) : (K01 w).lookup 267 = some ⟨.type "function", none, .func (fdOf "_law_same" 13 266), #[]⟩ := by kernel_rfl
theorem K_small (w : World) : (K01 w).lookup 274 = some ⟨.type "function", none, .func (fdOf "_law_small" 14 273), #[]⟩ := by kernel_rfl
theorem K_run (w : World) : (K01 w).lookup 281 = some ⟨.type "function", none, .func (fdOf "_law_run" 15 280), #[]⟩ := by kernel_rfl
theorem K_due (w : World) : (K01 w).lookup 286 = some ⟨.type "function", none, .func (fdOf "_law_due" 16 285), #[]⟩ := by kernel_rfl
theorem K_shelf (w : World) : (K01 w).lookup 291 = some ⟨.type "function", none, .func (fdOf "_law_shelf" 17 290), #[]⟩ := by kernel_rfl
noncomputable def codeRecB (K : Frag) (c : Nat) (q : Str) : Bool := match K.lookup c with
  | some ⟨_, _, .fields vs, _⟩ => (match vs.toList with | _ :: .str n _ :: _ => n == q | _ => false)
  | _ => false
theorem codeRec_B {K : Frag} {h : Heap} (X : K.In h) {c : Nat} {q : Str} (e : codeRecB K c q = true) : h.CodeRec (.ref c) q := codeRec_of X (cd := .ref c) e

structure TopH (w : World) (h : Heap) : Prop where
  K : (K01 w).In h
  g : ∃ mg, h.Ns mainGlobals mg
  b : ∃ mb, h.Ns builtinsNs mb ∧ ∀ x : Str, x ≠ "__name__" → mb x = bootBuiltins x
  nl : h.NoLimit
theorem TopH.mono {w : World} {h h' : Heap} (T : TopH w h) (k : Le h h') : TopH w h' :=
  ⟨T.K.keeps k, let ⟨m, x⟩ := T.g; ⟨m, x.keeps k⟩, let ⟨m, x, y⟩ := T.b; ⟨m, x.keeps k, y⟩, T.nl.keeps k⟩

theorem Var.glob {w : World} {h : Heap} {env : Env} {x : Str} {v : Value} (T : TopH w h) (hk : env.scope.kind = .function) (hx : env.kindOf x = some .globalImplicit) (hg : env.globals = mainGlobals)
    (e : nsIn (K01 w) mainGlobals x = some (some v)) : Var env h x v := fun M A E Q s hs q => by
  obtain ⟨mg, hm⟩ := T.g
  have hm' := hm.keeps hs
  rw [loadName_read hk hx]
  exact loadGlobal_global (by rw [hg]; exact hm') (mg_of (T.K.keeps hs) hm' e) q
theorem Var.bi {w : World} {h : Heap} {env : Env} {x : Str} {v : Value} (T : TopH w h) (hk : env.scope.kind = .function) (hx : env.kindOf x = some .globalImplicit) (hg : env.globals = mainGlobals) (hb : env.builtins = builtinsNs)
    (e : nsIn (K01 w) mainGlobals x = some none) (hn : x ≠ "__name__") (hv : bootBuiltins x = some v) : Var env h x v := fun M A E Q s hs q => by
  obtain ⟨mg, hm⟩ := T.g
  obtain ⟨mb, hb1, hb2⟩ := T.b
  have hm' := hm.keeps hs
  rw [loadName_read hk hx]
  exact loadGlobal_builtin (by rw [hg]; exact hm') (ns_none_of (T.K.keeps hs) hm' e) (by rw [hb]; exact hb1.keeps hs) ((hb2 x hn).trans hv) q
theorem Var.loc {h : Heap} {env : Env} {x : Str} {v : Value} {m : Str → Option Value} (hk : env.scope.kind = .function) (hx : env.kindOf x = some .local) (hm : h.Ns env.locals m) (hv : m x = some v) : Var env h x v :=
  fun M A E Q s hs q => wpAny_loadName_local hk hx (hm.keeps hs) hv q
theorem Var.cell {h : Heap} {env : Env} {x : Str} {v : Value} {c : Addr} (hk : env.scope.kind = .function) (hx : env.kindOf x = some .cell) (hc : env.cells.lookup x = some c) (hv : h.IsCell c (some v)) : Var env h x v :=
  fun M A E Q s hs q => wpAny_loadName_cell hk hx hc (hv.keeps hs) q


/-- a call of one of the law's defs -/
theorem call_fn {w : World} {A : Around} {s : Shared} {f : Addr} {fd : FuncData} {vals : List Value} {binds : List (Str × Value)} {R : Result → Shared → Prop} (body : List Stmt) (hroom : A.depth < recursionLimit) (T : TopH w s.heap)
    (ho : (K01 w).lookup f = some ⟨.type "function", none, .func fd, #[]⟩) (code : Nat) (hcode : fd.code = .ref code) (hcd : codeRecB (K01 w) code fd.qualname = true) (hbody : fd.body = .stmts body) (hbind : bindArgs fd ⟨vals, []⟩ = pure binds) (hclo : fd.closure = [])
    (hkind : ∀ x ∈ binds, fd.scope.names.lookup x.1 = some .local ∨ (fd.scope.names.lookup x.1 = some .cell ∧ ((cellsFrom (s.heap.objs.size + 1) fd.scope.names []).lookup x.1).isSome = true))
    (h : ∀ s₁, InCallC s (callEnvC fd s.heap.objs.size f).locals (bindL (callEnvC fd s.heap.objs.size f).kindOf binds fun _ => none) (callEnvC fd s.heap.objs.size f).cells
        (bindC (callEnvC fd s.heap.objs.size f).kindOf binds fun _ => none) s₁ → Kp s s₁ →
      wpAny (model PySem.Challenge.pw_il0121_01 w) (A.deeper (callEnvC fd s.heap.objs.size f)) (execs body (callEnvC fd s.heap.objs.size f)) (fun f s' => R (.ok (.ret (match f with | .ret v => v | _ => .none))) s') (fun _ _ => False) s₁)
    (hco : fd.scope.isCoroutine = false := by rfl) (hgen : fd.scope.isGenerator = false := by rfl) (hk : fd.scope.kind = .function := by rfl) :
    codeAny (model PySem.Challenge.pw_il0121_01 w) A (.call (.ref f) ⟨vals, []⟩) R s := by
  refine codeAny_call_cells hroom (T.K _ _ ho) rfl T.nl (by rw [hcode]; exact codeRec_B T.K hcd) hbody hbind hclo hkind (fun s₁ X => ?_) hco hgen hk
  obtain ⟨h', tk, e, k⟩ := X.done
  exact wpAny_mono (h s₁ X (by rw [e]; exact Kp.of tk k)) (fun _ _ q => q) fun _ _ q => q.elim

theorem same_spec {w : World} {h : Heap} (T : TopH w h) (x : Str) : FnD PySem.Challenge.pw_il0121_01 w 1 h 267 [.str x] (.str x) := by
  intro A S s vs ok hs r
  have T' := T.mono hs
  cases r using RDs.consE with
  | cons r1 r2 =>
  (first | cases r2 using RD.atomE | cases r2 using RDs.nilE | cases r2 using RD.strE | cases r2 using RD.intE | cases r2 using RD.boolE | cases r2 using RD.noneE | cases r2)
  (first | cases r1 using RD.atomE | cases r1 using RDs.nilE | cases r1 using RD.strE | cases r1 using RD.intE | cases r1 using RD.boolE | cases r1 using RD.noneE | cases r1)
  rename_i t
  refine call_fn (binds := [("name", .str x t)]) _ ok.room T' (K_same w) 266 rfl (by kernel_rfl) rfl (by rfl) rfl (fun y hy => ?_) fun s₁ X k => ?_
  · rcases List.mem_singleton.mp hy with rfl; exact .inl (by rfl)
  · refine wpAny_execs_cons (wpAny_Return_some ?_)
    refine wpAny_Name (wpAny_loadName_local rfl (by rfl) X.toInCall.ns (v := .str x t) (by rfl) ?_) (by decide)
    exact ⟨_, rfl, .str _ _, k⟩
end Mine
end

section
open PySem PySem.W PyProof.Rows PySem.Calls
set_option maxRecDepth 100000
set_option linter.all false
namespace Mine
open PySem (eval)

noncomputable def names8 : List Str := ["go", "to", "at", "by", "Go", "TO", "aT", "BY"]
theorem names8_ok : ∀ x ∈ names8, PyData.strOk x = true := by decide +kernel
theorem names8_len : ∀ x ∈ names8, x.length = 2 := by decide +kernel
theorem names8_low : ∀ x ∈ names8, Txt.lower x ∈ names8 := by decide +kernel

theorem small_spec {w : World} {h : Heap} (T : TopH w h) (x : Str) (hx : x ∈ names8) : FnD pw w 1 h 274 [.str x] (.str (Txt.lower x)) := by
  intro A S s vs ok hs r
  have T' := T.mono hs
  cases r using RDs.consE with
  | cons r1 r2 =>
  (first | cases r2 using RD.atomE | cases r2 using RDs.nilE | cases r2 using RD.strE | cases r2 using RD.intE | cases r2 using RD.boolE | cases r2 using RD.noneE | cases r2)
  (first | cases r1 using RD.atomE | cases r1 using RDs.nilE | cases r1 using RD.strE | cases r1 using RD.intE | cases r1 using RD.boolE | cases r1 using RD.noneE | cases r1)
  rename_i t
  refine call_fn (binds := [("name", .str x t)]) _ ok.room T' (K_small w) 273 rfl (by kernel_rfl) rfl (by rfl) rfl (fun y hy => ?_) fun s₁ X k => ?_
  · rcases List.mem_singleton.mp hy with rfl; exact .inl (by rfl)
  · refine wpAny_execs_cons (wpAny_Return_some ?_)
    refine Call_method0 (by rfl) (by rfl) ?_
    refine wpAny_Name (wpAny_loadName_local rfl (by rfl) X.toInCall.ns (v := .str x t) (by rfl) ?_) (by decide)
    refine SB.lower (fit_lower (by rw [names8_len x hx]; decide)) ?_
    exact ⟨_, rfl, .str _ _, k.tr (Kp.tk _ _)⟩
end Mine
end

section
open PySem PySem.W PyProof.Rows PySem.Calls
set_option maxRecDepth 100000
set_option linter.all false
namespace Mine
open PySem (eval)

/-- what a frame with an own list may change -/
noncomputable def MuL (env : Env) (dl : Addr) : Addr → Prop := fun a => a = env.locals ∨ a = dl ∨ ∃ n, env.cells.lookup n = some a
structure FrmL (s₀ : Shared) (env : Env) (m cm : Str → Option Value) (dl : Addr) (S : Addr → Prop) (ds : List D) (s : Shared) : Prop where
  frm : Frm s₀ env m cm s
  lst : ∃ its, s.heap.PlainList dl its ∧ RDs s.heap S its.toList ds
  new : s₀.heap.get? dl = none
  nL : dl ≠ env.locals
  nC : ∀ n c, env.cells.lookup n = some c → dl ≠ c
  nS : ∀ a, S a → ¬ MuL env dl a

section
variable {prog : Program} {w : World} {M : Model} {A : Around} {E : Value → Shared → Prop} {s₀ s : Shared} {env : Env} {m cm : Str → Option Value} {dl : Addr} {S : Addr → Prop} {ds : List D}

theorem FrmL.kp {s' : Shared} (F : FrmL s₀ env m cm dl S ds s) (k : Kp s s') : FrmL s₀ env m cm dl S ds s' := by
  obtain ⟨its, ⟨n, hp⟩, r⟩ := F.lst
  exact ⟨F.frm.kp k, ⟨its, ⟨n, k.le _ _ hp⟩, r.le k.le⟩, F.new, F.nL, F.nC, F.nS⟩
theorem FrmL.livesD (F : FrmL s₀ env m cm dl S ds s) : s.heap.get? dl ≠ none := by obtain ⟨its, ⟨n, hp⟩, r⟩ := F.lst; exact some_ne hp
theorem FrmL.mu (F : FrmL s₀ env m cm dl S ds s) : ∀ a, MuL env dl a → s.heap.get? a ≠ none := by
  rintro a (rfl | rfl | ⟨n, e⟩)
  · exact F.frm.lives
  · exact F.livesD
  · exact F.frm.livesC e
theorem FrmL.mu0 (F : FrmL s₀ env m cm dl S ds s) : ∀ a, MuL env dl a → s₀.heap.get? a = none := by
  rintro a (rfl | rfl | ⟨n, e⟩)
  · exact F.frm.newL
  · exact F.new
  · exact (F.frm.newC n a e).1
theorem FrmL.freshI (F : FrmL s₀ env m cm dl S ds s) : s₀.heap.get? s.heap.objs.size = none ∧ ¬ MuL env dl s.heap.objs.size :=
  ⟨fresh_le F.frm.keep (new_none _), fun z => F.mu _ z (new_none _)⟩
theorem FrmL.it {I : Addr} {h' : Heap} (tk : Nat) (F : FrmL s₀ env m cm dl S ds s) (hs : Heap.ExtBut I s.heap h') (n0 : s₀.heap.get? I = none) (nI : ¬ MuL env dl I) (nS : ¬ S I) : FrmL s₀ env m cm dl S ds { s with heap := h', toks := tk } := by
  obtain ⟨its, ⟨n, hp⟩, r⟩ := F.lst
  refine ⟨F.frm.but tk hs n0 (fun z => nI (.inl z)) fun n c e z => nI (.inr (.inr ⟨n, by rw [z]; exact e⟩)), ⟨its, ⟨n, hs _ _ (fun z => nI (.inr (.inl z.symm))) hp⟩, r.but hs nS⟩, F.new, F.nL, F.nC, F.nS⟩
theorem FrmL.storeL {x : Str} {v : Value} {Q : Unit → Shared → Prop} (F : FrmL s₀ env m cm dl S ds s) (hk : env.scope.kind = .function) (hl : env.kindOf x = some .local)
    (hQ : ∀ s', FrmL s₀ env (fun y => if y = x then some v else m y) cm dl S ds s' → Heap.ExtBut env.locals s.heap s'.heap → Q () s') : wpAny M A (storeName env x v) Q E s := by
  refine F.frm.storeL hk hl fun h' tk F' hs => hQ _ ?_ hs
  obtain ⟨its, ⟨n, hp⟩, r⟩ := F.lst
  exact ⟨F', ⟨its, ⟨n, hs _ _ F.nL hp⟩, r.but hs fun z => F.nS _ z (.inl rfl)⟩, F.new, F.nL, F.nC, F.nS⟩
theorem FrmL.bd {tgt : Expr} {d : D} {bs : List (Str × D)} {v : Value} {S' : Addr → Prop} {Q : Unit → Shared → Prop} (F : FrmL s₀ env m cm dl S ds s) (hk : env.scope.kind = .function) (b : Bd tgt d bs) (hh : A.handled = none) (hl : ∀ x d, (x, d) ∈ bs → env.kindOf x = some .local)
    (hv : RD s.heap S' v d) (hL : ¬ S' env.locals)
    (hQ : ∀ m' s', FrmL s₀ env m' cm dl S ds s' → BdIn s'.heap S' m' bs → (∀ y, (∀ d, (y, d) ∉ bs) → m' y = m y) → Heap.ExtBut env.locals s.heap s'.heap → Q () s') : wpAny (model prog w) A (assign tgt env v) Q E s := by
  refine assign_bd b hh hk hl F.frm.ns hv hL fun h' tk m' hn hb hm hs => hQ m' _ ?_ hb hm hs
  obtain ⟨its, ⟨n, hp⟩, r⟩ := F.lst
  refine ⟨?_, ⟨its, ⟨n, hs _ _ F.nL hp⟩, r.but hs fun z => F.nS _ z (.inl rfl)⟩, F.new, F.nL, F.nC, F.nS⟩
  obtain ⟨h, t, e⟩ := F.frm.eq
  have keep := F.frm.keep
  have cell := F.frm.cell
  have newL := F.frm.newL
  subst e
  refine ⟨⟨h', tk, rfl⟩, fun b o e => hs b o (fun z => by rw [z, newL] at e; cases e) (keep b o e), hn, fun n c e => ?_, newL, F.frm.newC, F.frm.apart⟩
  obtain ⟨o, ho, hd⟩ := cell n c e
  exact ⟨o, hs c o (F.frm.newC n c e).2 ho, hd⟩
/-- `x.append(e)` on the own list -/
theorem FrmL.append {o elt : Expr} {p apos cpos epos : Pos} {x : Str} {d : D} {Se : Addr → Prop} {Q : Flow → Shared → Prop} (F : FrmL s₀ env m cm dl S ds s)
    (v : Var env s.heap x (.ref dl)) (e : EvD prog w A env s.heap Se elt d) (hsz : ds.length ≤ sizeLine) (hSe : d.flat = true ∨ ∀ a, Fr1 Se s.heap a → a ≠ dl → S a) (nSe : ¬ Se dl)
    (hQ : ∀ s', FrmL s₀ env m cm dl S (ds ++ [d]) s' → Heap.ExtBut dl s.heap s'.heap → Q .next s')
    (hbase : attributeBase (.Name x p) "append" env (eval (.Name x p) env) = eval (.Name x p) env := by rfl) (hstar : isStar elt = false := by rfl) (hline : (apos.endLine == cpos.line) = true := by rfl) (hi : interactive env = false := by rfl)
    (hsw : swapsWith (.Call (.Attribute (.Name x p) "append" apos) [elt] [] cpos) none epos.line env = pure false := by rfl) (hd : (x == ("__debug__" : Str)) = false := by decide) :
    wpAny (model prog w) A (exec (.Expr (.Call (.Attribute (.Name x p) "append" apos) [elt] [] cpos) epos) env) Q E s := by
  obtain ⟨its, hp, r⟩ := F.lst
  have hlen := r.length
  refine exec_append (o := o) (h := s.heap) v hp e (by rw [← Array.length_toList, hlen]; exact hsz) (fun y h' tk hs hp' hr => hQ _ ?_ hs) hbase hstar hline hi hsw hd
  have nSd : ¬ S dl := fun z => F.nS _ z (.inr (.inl rfl))
  refine ⟨F.frm.but tk hs F.new F.nL F.nC, ⟨_, hp', ?_⟩, F.new, F.nL, F.nC, F.nS⟩
  rw [Array.toList_push]
  refine (r.but hs nSd).append (RDs.one ?_)
  rcases hSe with hf | hSe
  · exact (hr (fun a => Fr1 Se s.heap a ∧ a ≠ dl) (fun a z q => ⟨z, q⟩) nSe).flat hf
  · exact hr S hSe nSe
end

/-- a keyword of the law: a def of one name -/
structure FoldOk (w : World) (h : Heap) (fa : Addr) (ff : Str → Str) : Prop where
  isFn : IsFn h fa
  spec : ∀ x ∈ names8, FnD pw w 1 h fa [.str x] (.str (ff x))
  mem : ∀ x ∈ names8, ff x ∈ names8
theorem FoldOk.mono {w : World} {h h' : Heap} {fa : Addr} {ff : Str → Str} (F : FoldOk w h fa ff) (k : Le h h') : FoldOk w h' fa ff :=
  ⟨let ⟨o, fd, a, b⟩ := F.isFn; ⟨o, fd, k _ _ a, b⟩, fun x hx => (F.spec x hx).mono k, F.mem⟩

theorem relabel_free {env : Env} {scope : Scope} {x : Str} (hsk : env.scope.kind = .function) (hfk : env.kindOf x = some .cell) (hl : scope.names.lookup x = some .free) : (relabel scope env).names.lookup x = some .cell := by
  have go : ∀ names : List (Str × NameKind), names.lookup x = some .free →
      (names.map fun (n, k) => if (k == NameKind.free && env.scope.kind == .function && env.kindOf n == some .cell) then (n, NameKind.cell) else (n, k)).lookup x = some .cell := by
    intro names
    induction names with
    | nil => intro h; simp at h
    | cons nk r ih =>
      obtain ⟨n, k⟩ := nk
      intro h
      cases hx : x == n with
      | true =>
        have hxn : x = n := by simpa using hx
        subst hxn
        simp only [List.lookup_cons, beq_self_eq_true] at h
        cases h
        simp [List.lookup_cons, hsk, hfk]
      | false =>
        simp only [List.lookup_cons, hx] at h
        have := ih h
        show List.lookup x ((if (k == NameKind.free && env.scope.kind == .function && env.kindOf n == some .cell) = true then (n, NameKind.cell) else (n, k)) :: _) = _
        split
        · simp only [List.lookup_cons, hx]; exact this
        · simp only [List.lookup_cons, hx]; exact this
  exact go _ hl

noncomputable abbrev scOne : Scope := { kind := .function, names := [(".0", .local), ("one", .local), ("fold", .free)], isGenerator := false, isCoroutine := false, more := [] }

theorem EvD.congr {prog : Program} {w : World} {A : Around} {env : Env} {h : Heap} {S : Addr → Prop} {e : Expr} {d d' : D} (x : EvD prog w A env h S e d) (q : d = d') : EvD prog w A env h S e d' := q ▸ x
theorem EvT.congr {prog : Program} {w : World} {A : Around} {env : Env} {h : Heap} {e : Expr} {d d' : Bool} (x : EvT prog w A env h e d) (q : d = d') : EvT prog w A env h e d' := q ▸ x

section
variable {w : World} {A : Around} {env : Env} {h : Heap} {S : Addr → Prop} {fa : Addr} {ff : Str → Str}

theorem ev_fold {y x : Str} {t : Tok} {p q pos : Pos} (fo : FoldOk w h fa ff) (ok : OkA 1 A) (vf : Var env h "fold" (.ref fa)) (vy : Var env h y (.str x t)) (hx : x ∈ names8) (hd : (y == ("__debug__" : Str)) = false := by decide) :
    EvD pw w A env h S (.Call (.Name "fold" p) [.Name y q] [] pos) (.str (ff x)) :=
  EvD.call vf fo.isFn (.cons (EvD.name vy (.str x t) hd) .nil rfl) (by simp) (fo.spec x hx) ok

theorem ev_folds {due : List Str} {dl : Addr} {its : Array Value} {c : Addr} {p1 p2 p3 p4 p5 p6 : Pos} (fo : FoldOk w h fa ff) (ok : OkA 1 A) (hdue : ∀ x ∈ due, x ∈ names8) (hlen : due.length ≤ sizeLine)
    (vd : Var env h "due" (.ref dl)) (hl : h.IsList dl its) (hr : RDs h S its.toList (due.map .str)) (hsk : env.scope.kind = .function) (hfk : env.kindOf "fold" = some .cell)
    (hclos : closureFor scOne env = pure [(("fold" : Str), c)]) (hc : h.IsCell c (some (.ref fa))) :
    EvD pw w A env h S (.ListComp (.Call (.Name "fold" p1) [.Name "one" p2] [] p3) [⟨.Name "one" p4, .Name "due" p5, [], 0⟩] scOne p6) (.lst ((due.map ff).map .str)) := by
  refine EvD.congr (EvD.comp (xs := due.map .str) (fun d => [("one", d)]) (fun _ => true) (fun d => match d with | .str x => .str (ff x) | d => d) (SrcL.own vd hl hr) (ok.weak (Nat.zero_le _)) hclos (by decide) rfl (by decide) (fun d hd => .name) ?_ ?_ (by simpa using hlen)) ?_
  · intro d hd x e hx
    cases List.mem_singleton.mp hx
    rfl
  · intro d hd S' C h' m hS hh hn hb
    obtain ⟨x, hx, rfl⟩ := List.mem_map.mp hd
    refine ⟨rfl, fun _ => ?_⟩
    obtain ⟨v, hv, rv⟩ := hb "one" _ (.head _)
    (first | cases rv using RD.atomE | cases rv using RDs.nilE | cases rv using RD.strE | cases rv using RD.intE | cases rv using RD.boolE | cases rv using RD.noneE | cases rv)
    rename_i t
    refine ev_fold (t := t) (fo.mono hh) ok (Var.cell (c := c) rfl ?_ rfl (hc.keeps hh)) (Var.loc rfl rfl hn hv) (hdue x hx)
    exact relabel_free hsk hfk rfl
  · have e : (due.map D.str).filter (fun _ => true) = due.map D.str := List.filter_eq_self.mpr fun _ _ => rfl
    rw [e, List.map_map, List.map_map]
    rfl

theorem due_test {y x : Str} {t : Tok} {due : List Str} {dl : Addr} {its : Array Value} {c : Addr} {p1 p2 p3 p4 p5 p6 q1 q2 q3 q4 : Pos} (fo : FoldOk w h fa ff) (ok : OkA 1 A) (hdue : ∀ x ∈ due, x ∈ names8) (hlen : due.length ≤ sizeLine)
    (vd : Var env h "due" (.ref dl)) (hl : h.IsList dl its) (hr : RDs h (fun _ => False) its.toList (due.map .str)) (hsk : env.scope.kind = .function) (hfk : env.kindOf "fold" = some .cell)
    (hclos : closureFor scOne env = pure [(("fold" : Str), c)]) (hc : h.IsCell c (some (.ref fa))) (vf : Var env h "fold" (.ref fa)) (vy : Var env h y (.str x t)) (hx : x ∈ names8) (hd : (y == ("__debug__" : Str)) = false := by decide) :
    EvT pw w A env h (.Compare (.Call (.Name "fold" q1) [.Name y q2] [] q3) [.NotIn] [.ListComp (.Call (.Name "fold" p1) [.Name "one" p2] [] p3) [⟨.Name "one" p4, .Name "due" p5, [], 0⟩] scOne p6] q4) (!(due.map ff).contains (ff x)) :=
  EvT.cmp (S := fun _ => False) (ev_fold fo ok vf vy hx hd) (ev_folds fo ok hdue hlen vd hl hr hsk hfk hclos hc) (CmpD.notInS (names8_ok _ (fo.mem x hx)) (fun y hy => by
    obtain ⟨z, hz, rfl⟩ := List.mem_map.mp hy
    exact names8_ok _ (fo.mem z (hdue z hz))) (ok.weak (Nat.zero_le _)))
end
end Mine
end

section
open PySem PySem.W PyProof.Rows PySem.Calls
set_option maxRecDepth 100000
set_option linter.all false
namespace Mine
open PySem (eval)

/-! the plain law's words -/
noncomputable def addNew (ff : Str → Str) (due : List Str) (x : Str) : List Str := if (!(due.map ff).contains (ff x)) = true then due ++ [x] else due
noncomputable def due1 (ff : Str → Str) (start : List Str) : List Str := start.foldl (addNew ff) []
noncomputable def dueIn (ff : Str → Str) (y : Str) (due : List Str) (ab : Str × Str) : List Str := if (ff ab.1 == ff y && !(due.map ff).contains (ff ab.2)) = true then due ++ [ab.2] else due
noncomputable def dueStep (ff : Str → Str) (arrows : List (Str × Str)) (due : List Str) (place : Nat) : List Str :=
  match due[place]? with
  | none => due
  | some y => arrows.foldl (dueIn ff y) due
noncomputable def dueF (ff : Str → Str) (arrows : List (Str × Str)) (start : List Str) : List Str := (List.range 8).foldl (dueStep ff arrows) (due1 ff start)

structure GoodN (ff : Str → Str) (due : List Str) : Prop where
  mem : ∀ x ∈ due, x ∈ names8
  nd : (due.map ff).Nodup
theorem nodup_len {α : Type} [BEq α] [LawfulBEq α] : ∀ {l m : List α}, l.Nodup → (∀ x ∈ l, x ∈ m) → l.length ≤ m.length
  | [], _, _, _ => Nat.zero_le _
  | x :: l, m, h, k => by
    rw [List.nodup_cons] at h
    have hx : x ∈ m := k x (.head _)
    have := nodup_len (m := m.erase x) h.2 fun y hy => by
      have : y ≠ x := fun z => h.1 (z ▸ hy)
      exact (List.mem_erase_of_ne this).mpr (k y (.tail _ hy))
    rw [List.length_erase_of_mem hx] at this
    have hp : 0 < m.length := List.length_pos_of_mem hx
    simp only [List.length_cons]; omega
theorem GoodN.len {ff : Str → Str} (hf : ∀ x ∈ names8, ff x ∈ names8) {due : List Str} (g : GoodN ff due) : due.length ≤ 8 := by
  have := nodup_len (m := names8) g.nd fun y hy => by
    obtain ⟨x, hx, rfl⟩ := List.mem_map.mp hy
    exact hf x (g.mem x hx)
  simpa [names8] using this
theorem GoodN.fit {ff : Str → Str} (hf : ∀ x ∈ names8, ff x ∈ names8) {due : List Str} (g : GoodN ff due) : due.length ≤ sizeLine := Nat.le_trans (g.len hf) (by decide)
theorem GoodN.nil {ff : Str → Str} : GoodN ff [] := ⟨fun _ h => by simp at h, by simp⟩
theorem GoodN.push {ff : Str → Str} {due : List Str} {x : Str} (g : GoodN ff due) (hx : x ∈ names8) (n : (due.map ff).contains (ff x) = false) : GoodN ff (due ++ [x]) := by
  refine ⟨fun y hy => ?_, ?_⟩
  · rcases List.mem_append.mp hy with hy | hy
    · exact g.mem y hy
    · rw [List.mem_singleton.mp hy]; exact hx
  · rw [List.map_append, List.nodup_append]
    refine ⟨g.nd, by simp, fun a ha b hb => ?_⟩
    simp only [List.map_cons, List.map_nil, List.mem_singleton] at hb
    subst hb
    intro q
    subst q
    have : (due.map ff).contains (ff x) = true := by simpa using ha
    rw [n] at this; cases this
theorem GoodN.add {ff : Str → Str} {due : List Str} {x : Str} (g : GoodN ff due) (hx : x ∈ names8) : GoodN ff (addNew ff due x) := by
  unfold addNew
  split
  · rename_i h; exact g.push hx (by simpa using h)
  · exact g
theorem GoodN.inn {ff : Str → Str} {due : List Str} {y : Str} {ab : Str × Str} (g : GoodN ff due) (hx : ab.2 ∈ names8) : GoodN ff (dueIn ff y due ab) := by
  unfold dueIn
  split
  · rename_i h; exact g.push hx (by simp only [Bool.and_eq_true] at h; simpa using h.2)
  · exact g
theorem GoodN.addAll {ff : Str → Str} : ∀ {xs due : List Str}, (∀ x ∈ xs, x ∈ names8) → GoodN ff due → GoodN ff (xs.foldl (addNew ff) due)
  | [], _, _, g => g
  | x :: xs, _, h, g => addAll (xs := xs) (fun y hy => h y (.tail _ hy)) (g.add (h x (.head _)))
theorem GoodN.inAll {ff : Str → Str} {y : Str} : ∀ {xs : List (Str × Str)} {due : List Str}, (∀ x ∈ xs, x.2 ∈ names8) → GoodN ff due → GoodN ff (xs.foldl (dueIn ff y) due)
  | [], _, _, g => g
  | x :: xs, _, h, g => inAll (xs := xs) (fun y hy => h y (.tail _ hy)) (g.inn (h x (.head _)))
theorem GoodN.step {ff : Str → Str} {arrows : List (Str × Str)} {due : List Str} {k : Nat} (h : ∀ x ∈ arrows, x.2 ∈ names8) (g : GoodN ff due) : GoodN ff (dueStep ff arrows due k) := by
  unfold dueStep
  split
  · exact g
  · exact g.inAll h
theorem GoodN.steps {ff : Str → Str} {arrows : List (Str × Str)} (h : ∀ x ∈ arrows, x.2 ∈ names8) : ∀ {ks : List Nat} {due : List Str}, GoodN ff due → GoodN ff (ks.foldl (dueStep ff arrows) due)
  | [], _, g => g
  | _ :: ks, _, g => steps h (ks := ks) (g.step h)
theorem GoodN.due1 {ff : Str → Str} {start : List Str} (h : ∀ x ∈ start, x ∈ names8) : GoodN ff (due1 ff start) := GoodN.nil.addAll h
theorem GoodN.due {ff : Str → Str} {arrows : List (Str × Str)} {start : List Str} (h : ∀ x ∈ arrows, x.2 ∈ names8) (hs : ∀ x ∈ start, x ∈ names8) : GoodN ff (dueF ff arrows start) := (GoodN.due1 hs).steps h

theorem dueIn_at {ff : Str → Str} {y z : Str} {k : Nat} : ∀ {xs : List (Str × Str)} {due : List Str}, due[k]? = some z → (xs.foldl (dueIn ff y) due)[k]? = some z
  | [], _, h => h
  | x :: xs, due, h => by
    refine dueIn_at (xs := xs) ?_
    unfold dueIn
    split
    · rw [List.getElem?_append_left (List.getElem?_eq_some_iff.mp h).1]; exact h
    · exact h
end Mine
end

section
open PySem PySem.W PyProof.Rows PySem.Calls
set_option maxRecDepth 100000
set_option linter.all false
namespace Mine
open PySem (eval)

section
variable {prog : Program} {w : World} {M : Model} {A : Around} {E : Value → Shared → Prop} {s₀ s : Shared} {env : Env} {m cm : Str → Option Value} {dl : Addr} {S : Addr → Prop} {ds : List D}

/-- `x = []` -/
theorem Frm.ownList {x : Str} {p pos epos : Pos} {Q : Flow → Shared → Prop} (F : Frm s₀ env m cm s) (hk : env.scope.kind = .function) (hl : env.kindOf x = some .local) (S : Addr → Addr → Prop) (hS : ∀ d a, S d a → ¬ MuL env d a)
    (hQ : ∀ dl s', FrmL s₀ env (fun y => if y = x then some (.ref dl) else m y) cm dl (S dl) [] s' → s.heap.get? dl = none → Heap.ExtBut env.locals s.heap s'.heap → Q .next s') :
    wpAny (model prog w) A (exec (.Assign [.Name x p] (.List [] pos) epos) env) Q E s := by
  refine wpAny_Assign_Name (List_ (spliced_nil (wpAny_newObj_type ?_ (by show (0 : Nat) ≤ sizeLine; decide)))) rfl
  have kk : Le s.heap (s.heap.push { cls := .type "list", data := .seq ([] : List Value).toArray }) := fun b o e => Heap.get?_push_of_some _ e
  have F1 : Frm s₀ env m cm { s with heap := s.heap.push { cls := .type "list", data := .seq ([] : List Value).toArray } } := F.kp (Kp.of' kk)
  have hn := new_none s.heap
  refine F1.storeL hk hl fun h' tk F2 hs => ?_
  have hL : s.heap.objs.size ≠ env.locals := fun z => F.lives (z ▸ hn)
  refine hQ s.heap.objs.size _ ⟨F2, ⟨#[], ⟨0, hs _ _ hL (Heap.get?_push_size _ rfl)⟩, .nil⟩, fresh_le F.keep hn, hL, fun n c e z => F.livesC e (z ▸ hn), fun a => hS _ a⟩ hn fun b o hb e => hs b o hb (kk b o e)
end

noncomputable abbrev envDue (N : Nat) : Env := callEnvC (fdOf "_law_due" 16 285) N 286

theorem due_add {w : World} {A : Around} {E : Value → Shared → Prop} {s₀ s : Shared} {N : Nat} {m cm : Str → Option Value} {dl : Addr} {due : List Str} {x nm : Str} {t : Tok} {b : Bool} {test : Expr} {p q ap cp ep ip : Pos} {Q : Flow → Shared → Prop}
    (F : FrmL s₀ (envDue N) m cm dl (fun _ => False) (due.map .str) s) (hmd : m "due" = some (.ref dl)) (hnm : (envDue N).kindOf nm = some .local) (hmn : m nm = some (.str x t)) (hsz : due.length ≤ sizeLine)
    (te : EvT pw w A (envDue N) s.heap test b)
    (hQ : ∀ s', FrmL s₀ (envDue N) m cm dl (fun _ => False) ((if b = true then due ++ [x] else due).map .str) s' → KeepBut (MuL (envDue N) dl) s.heap s'.heap → Q .next s') (hline : (ap.endLine == cp.line) = true := by rfl) (hd : (nm == ("__debug__" : Str)) = false := by decide) :
    wpAny (model pw w) A (exec (.If test [.Expr (.Call (.Attribute (.Name "due" p) "append" ap) [.Name nm q] [] cp) ep] [] ip) (envDue N)) Q E s := by
  refine wpAny_If (wpAny_mono (te s E fun _ _ e => e) (fun r s₁ h => ?_) fun _ _ q => q)
  obtain ⟨rfl, k⟩ := h
  have F1 := F.kp k
  cases r with
  | false => exact wpAny_execs_nil (hQ _ F1 k.le.keepBut)
  | true =>
    refine wpAny_execs_cons (F1.append (o := .Name "due" p) (x := "due") (d := .str x) (Se := fun _ => False) (F1.frm.loc rfl rfl hmd) (EvD.name (F1.frm.loc rfl hnm hmn) (.str x t) hd) (by simpa using hsz) (.inl rfl) (fun z => z) (fun s' F' k' => ?_) (hline := hline))
    refine wpAny_execs_nil (hQ _ (by simpa using F') fun b o hb e => k' b o (fun z => hb (.inr (.inl z))) (k.le b o e))
end Mine
end

section
open PySem PySem.W PyProof.Rows PySem.Calls
set_option maxRecDepth 100000
set_option linter.all false
namespace Mine
open PySem (eval)

theorem take_succ {α : Type} {xs : List α} {i : Nat} {d : α} (h : xs[i]? = some d) : xs.take (i + 1) = xs.take i ++ [d] := by
  rw [List.take_add_one, h]; rfl
theorem map_at {α β : Type} {f : α → β} {xs : List α} {i : Nat} {d : β} (h : (xs.map f)[i]? = some d) : ∃ x, xs[i]? = some x ∧ d = f x := by
  rw [List.getElem?_map] at h
  cases q : xs[i]? with
  | none => rw [q] at h; cases h
  | some x => rw [q] at h; exact ⟨x, rfl, by cases h; rfl⟩

noncomputable abbrev arrD (arrows : List (Str × Str)) : List D := arrows.map fun x => .tup [.str x.1, .str x.2]

section
variable {w : World} {A : Around} {fa : Addr} {ff : Str → Str}

/-- the state of `_law_due` -/
structure DueSt (w : World) (s₀ : Shared) (N : Nat) (fa a : Addr) (ff : Str → Str) (dl : Addr) (due : List Str) (m : Str → Option Value) (s : Shared) : Prop where
  F : FrmL s₀ (envDue N) m (fun y => if y = "fold" then some (.ref fa) else none) dl (fun _ => False) (due.map .str) s
  md : m "due" = some (.ref dl)
  ma : m "arrows" = some (.ref a)

variable {s₀ s : Shared} {N : Nat} {a dl : Addr} {due : List Str} {m : Str → Option Value}
theorem DueSt.vf (x : DueSt w s₀ N fa a ff dl due m s) : Var (envDue N) s.heap "fold" (.ref fa) := x.F.frm.celV rfl rfl rfl rfl
theorem DueSt.vd (x : DueSt w s₀ N fa a ff dl due m s) : Var (envDue N) s.heap "due" (.ref dl) := x.F.frm.loc rfl rfl x.md
theorem DueSt.ls (x : DueSt w s₀ N fa a ff dl due m s) : ∃ its, s.heap.IsList dl its ∧ s.heap.PlainList dl its ∧ RDs s.heap (fun _ => False) its.toList (due.map .str) := by
  obtain ⟨its, hp, r⟩ := x.F.lst
  obtain ⟨n, e⟩ := id hp
  exact ⟨its, ⟨_, e, rfl, n, rfl⟩, hp, r⟩
theorem DueSt.it {I : Addr} {h' : Heap} (tk : Nat) (x : DueSt w s₀ N fa a ff dl due m s) (hs : Heap.ExtBut I s.heap h') (n0 : s₀.heap.get? I = none) (nI : ¬ MuL (envDue N) dl I) : DueSt w s₀ N fa a ff dl due m { s with heap := h', toks := tk } :=
  ⟨x.F.it tk hs n0 nI fun z => z, x.md, x.ma⟩
theorem DueSt.kp {s' : Shared} (x : DueSt w s₀ N fa a ff dl due m s) (k : Kp s s') : DueSt w s₀ N fa a ff dl due m s' := ⟨x.F.kp k, x.md, x.ma⟩
theorem DueSt.test {y x : Str} {t : Tok} {p1 p2 p3 p4 p5 p6 q1 q2 q3 q4 : Pos} (X : DueSt w s₀ N fa a ff dl due m s) (fo : FoldOk w s₀.heap fa ff) (ok : OkA 1 A) (g : GoodN ff due)
    (hy : (envDue N).kindOf y = some .local) (hm : m y = some (.str x t)) (hx : x ∈ names8) (hd : (y == ("__debug__" : Str)) = false := by decide) :
    EvT pw w A (envDue N) s.heap (.Compare (.Call (.Name "fold" q1) [.Name y q2] [] q3) [.NotIn] [.ListComp (.Call (.Name "fold" p1) [.Name "one" p2] [] p3) [⟨.Name "one" p4, .Name "due" p5, [], 0⟩] scOne p6] q4) (!(due.map ff).contains (ff x)) := by
  obtain ⟨its, hl, hp, r⟩ := X.ls
  exact due_test (c := N + 1) (fo.mono X.F.frm.keep) ok g.mem (g.fit fo.mem) X.vd hl r rfl rfl rfl (X.F.frm.cell "fold" (N + 1) rfl) X.vf (X.F.frm.loc rfl hy hm) hx hd

/-- one arrow -/
theorem due_arrow {E : Value → Shared → Prop} {p1 p2 p3 p4 p5 p6 q1 q2 q3 q4 r1 r2 r3 r4 r5 r6 r7 r8 r9 p q q0 ap cp ep ip : Pos} {pl : Nat} {y x z : Str} {t u v : Tok} {Q : Flow → Shared → Prop} (X : DueSt w s₀ N fa a ff dl due m s) (fo : FoldOk w s₀.heap fa ff) (ok : OkA 1 A) (g : GoodN ff due)
    (hp : m "place" = some (.int pl t)) (hpl : pl < 8) (hy : due[pl]? = some y) (h1 : m "a" = some (.str x u)) (h2 : m "b" = some (.str z v)) (hx : x ∈ names8) (hz : z ∈ names8)
    (hQ : ∀ s', DueSt w s₀ N fa a ff dl (dueIn ff y due (x, z)) m s' → KeepBut (MuL (envDue N) dl) s.heap s'.heap → Q .next s') (hline : (ap.endLine == cp.line) = true := by rfl) :
    wpAny (model pw w) A (exec (.If (.BoolOp .And [.Compare (.Call (.Name "fold" r1) [.Name "a" r2] [] r3) [.Eq] [.Call (.Name "fold" r4) [.Subscript (.Name "due" r5) (.Name "place" r6) r7] [] r8] r9,
      .Compare (.Call (.Name "fold" q1) [.Name "b" q2] [] q3) [.NotIn] [.ListComp (.Call (.Name "fold" p1) [.Name "one" p2] [] p3) [⟨.Name "one" p4, .Name "due" p5, [], 0⟩] scOne p6] q4] q0)
      [.Expr (.Call (.Attribute (.Name "due" p) "append" ap) [.Name "b" q] [] cp) ep] [] ip) (envDue N)) Q E s := by
  have fo' := fo.mono X.F.frm.keep
  obtain ⟨its, hl, hpn, r⟩ := X.ls
  have hyn : y ∈ names8 := g.mem y (List.mem_of_getElem? hy)
  refine due_add (b := (ff x == ff y) && !(due.map ff).contains (ff z)) X.F X.md (nm := "b") rfl h2 (g.fit fo.mem) ?_ (fun s' F' k => hQ s' ⟨F', X.md, X.ma⟩ k) hline
  refine EvT.and (EvT.cmp (S := fun _ => False) (a := .str (ff x)) (b := .str (ff y)) ?_ ?_ CmpD.eqS) fun _ => X.test fo ok g rfl h2 hz
  · exact ev_fold fo' ok X.vf (X.F.frm.loc rfl rfl h1) hx
  · refine EvD.call X.vf fo'.isFn (.cons (EvD.idxL (ds := due.map .str) (k := pl) (d := .str y) (SrcL.own X.vd hl r) (EvD.name (X.F.frm.loc rfl rfl hp) (.int _ t)) (by omega) (by omega) (by simp [hy])) .nil rfl) (by simp) (fo'.spec y hyn) ok
end
end Mine
end

section
open PySem PySem.W PyProof.Rows PySem.Calls
set_option maxRecDepth 100000
set_option linter.all false
namespace Mine
open PySem (eval)

theorem EvD.len {prog : Program} {w : World} {A : Around} {env : Env} {h : Heap} {S : Addr → Prop} {e : Expr} {p pos : Pos} {xs : List D} (vl : Var env h "len" (.builtin "len")) (src : SrcL prog w A env h S e xs) (hn : isStar e = false) (hsz : xs.length ≤ sizeLine) :
    EvD prog w A env h S (.Call (.Name "len" p) [e] [] pos) (.int xs.length) := fun s E hs => by
  refine wpAny_Call_NameR (wpAny_Name (vl _ _ _ _ s hs ?_) (by decide))
  have he : backTo pos (starEach [e] env) = [(false, eval e env)] := by rw [starEach_cons hn]; rfl
  rw [he]
  refine Calls.callWith_builtin rfl (Calls.evalArgs_plain (Calls.spliced_cons (wpAny_mono (src s E hs) (fun v s₁ h₁ => Calls.spliced_nil ?_) fun _ _ e => e)))
  obtain ⟨⟨l, vs, rfl, hl, r⟩, k⟩ := h₁
  have hlen := r.length
  have e1 : vs.size = xs.length := by rw [← hlen, Array.length_toList]
  refine call_len_list hl (by rw [e1]; have : sizeLine < 2 ^ 63 := by decide
                              omega) ?_
  rw [e1]
  exact ⟨.int _ _, k.tr (Kp.tk _ _)⟩

/-- a for over `range(n)` -/
theorem for_range {prog : Program} {w : World} {A : Around} {env : Env} {tgt : Expr} {body : List Stmt} {k : Nat} {e : Expr} {p rp pos : Pos} {s : Shared} {E : Value → Shared → Prop} (hh : A.handled = none) (h : Heap) (hs : Le h s.heap) (vr : Var env h "range" (.type "range")) (he : EvD prog w A env h (fun _ => False) e (.int k)) (hk : k < 2 ^ 62) (hn : isStar e = false) (x : Str) (ht : tgt = .Name x p)
    (Mu : Addr → Prop) (hMu : ∀ a, Mu a → s.heap.get? a ≠ none)
    (J : Nat → Shared → Prop)
    (j0 : ∀ s', Kp s s' → J 0 s')
    (jst : ∀ I i s' h' tk, s.heap.get? I = none → ¬ Mu I → J i s' → Heap.ExtBut I s'.heap h' → J i { s' with heap := h', toks := tk })
    {Q : Flow → Shared → Prop}
    (turn : ∀ i t s', i < k → J i s' → KeepBut Mu s.heap s'.heap → ∀ E, wpAny (model prog w) A (storeName env x (.int i t)) (fun _ s₂ => wpAny (model prog w) A (execs body env) (fun f s₃ => (f = .next ∨ f = .cont) ∧ J (i + 1) s₃ ∧ KeepBut Mu s'.heap s₃.heap) E s₂) E s')
    (done : ∀ s', J k s' → KeepBut Mu s.heap s'.heap → Q .next s')
    (hset : ∀ x, foldedSetIterable (.Call (.Name "range" rp) [e] [] pos) env x = pure x := by intro _; rfl) (fpos : Pos) :
    wpAny (model prog w) A (exec (.For tgt (.Call (.Name "range" rp) [e] [] pos) body [] fpos) env) Q E s := by
  subst ht
  refine wpAny_For (wpAny_Call_NameR (wpAny_Name (vr _ _ _ _ s hs ?_) (by decide))) hset
  have hse : backTo pos (starEach [e] env) = [(false, eval e env)] := by rw [starEach_cons hn]; rfl
  rw [hse]
  refine PySem.callWith_type rfl (Calls.evalArgs_plain (Calls.spliced_cons (wpAny_mono (he s E hs) (fun nv s₁ h₁ => Calls.spliced_nil ?_) fun _ _ e => e)))
  obtain ⟨r, k1⟩ := h₁
  (first | cases r using RD.atomE | cases r using RDs.nilE | cases r using RD.strE | cases r using RD.intE | cases r using RD.boolE | cases r using RD.noneE | cases r)
  rename_i tN
  show wpAny _ _ (PySem.call (.type "range") [.int k tN]) _ _ _
  refine call_range_1 ?_
  refine wpAny_pyIter_range (IsRange.new ..) (small_one (by decide) (by decide) (by omega) (by omega)) ?_
  have hsz : Builtin.Range.rangeSize 0 k 1 = (k : Int) := by rw [rangeSize_one]; split <;> omega
  rw [hsz]
  have kA : Le s₁.heap (s₁.heap.push { cls := .type "range", data := .fields #[.int 0 s₁.toks, .int k tN, .int 1 (s₁.toks + 1)] }) := fun b o e => Heap.get?_push_of_some _ e
  generalize hA : s₁.heap.push { cls := .type "range", data := .fields #[.int 0 s₁.toks, .int k tN, .int 1 (s₁.toks + 1)] } = HA at *
  have kB : Le HA (HA.push { cls := .type "range_iterator", data := .fields #[rawInt 0, rawInt k, rawInt 1] }) := fun b o e => Heap.get?_push_of_some _ e
  have hst : IsRangeIter (HA.push { cls := .type "range_iterator", data := .fields #[rawInt 0, rawInt k, rawInt 1] }) HA.objs.size 0 k 1 := Heap.get?_push_size _ rfl
  have hIA := new_none HA
  generalize HA.push { cls := .type "range_iterator", data := .fields #[rawInt 0, rawInt k, rawInt 1] } = HB at *
  generalize HA.objs.size = I at *
  have hI1 : s.heap.get? I = none := fresh_le (k1.le.trans kA) hIA
  have nI : ¬ Mu I := fun z => hMu _ z hI1
  have W := Walks.range (prog := prog) (w := w) hh I 0 1 k
  have one : ∀ {h h' : Heap}, (∀ b o, b ∉ [I] → h.get? b = some o → h'.get? b = some o) → Heap.ExtBut I h h' := fun hk b o hb e => hk b o (by simpa using hb) e
  refine for_walk W ?_ Mu (fun b hb => by rw [List.mem_singleton.mp hb]; exact nI) (fun i s' => J i s' ∧ KeepBut Mu s.heap s'.heap) ⟨j0 _ (k1.tr (Kp.of _ (kA.trans kB))), (k1.le.trans (kA.trans kB)).keepBut⟩ ?_ ?_ ?_ ?_
  · have e1 : (0 + ((0 : Nat) : Int) * 1) = 0 := by simp
    have e2 : ((k : Int) - ((0 : Nat) : Int)) = k := by simp
    show IsRangeIter HB I (0 + ((0 : Nat) : Int) * 1) ((k : Int) - ((0 : Nat) : Int)) 1
    rw [e1, e2]
    exact hst
  · rintro i s' h' tk ⟨j, kk⟩ hk'
    exact ⟨jst I i s' h' tk hI1 nI j (one hk'), fun b o n e => one hk' b o (fun z => by rw [z, hI1] at e; cases e) (kk b o n e)⟩
  · intro i v s' Q E hP hst hQ
    exact wpAny_pure hQ
  · rintro i v s' hi ⟨t, rfl⟩ ⟨j, kk⟩ hst E
    have ei : (0 + (i : Int) * 1) = (i : Int) := by omega
    rw [ei]
    refine wpAny_assign_Name (wpAny_mono (turn i t s' hi j kk E) (fun _ s₂ q => wpAny_mono q (fun f s₃ q => ?_) fun _ _ q => q) fun _ _ q => q)
    exact ⟨q.1, ⟨q.2.1, kk.trans q.2.2⟩, q.2.2⟩
  · rintro s' ⟨j, kk⟩
    exact done s' j kk
end Mine
end

section
open PySem PySem.W PyProof.Rows PySem.Calls
set_option maxRecDepth 100000
set_option linter.all false
set_option maxHeartbeats 1000000
namespace Mine
open PySem (eval)

theorem upd_ne {m : Str → Option Value} {x y : Str} {v : Value} {r : Option Value} (h : m y = r) (n : y ≠ x) : (fun z => if z = x then some v else m z) y = r := by simp [n, h]

theorem upd_eq {m : Str → Option Value} {x : Str} {v : Value} : (fun z => if z = x then some v else m z) x = some v := by simp

theorem due_spec {w : World} {h : Heap} {fa : Addr} {ff : Str → Str} (T : TopH w h) (fo : FoldOk w h fa ff) (arrows : List (Str × Str)) (start : List Str) (ha : ∀ x ∈ arrows, x.1 ∈ names8 ∧ x.2 ∈ names8) (hst : ∀ x ∈ start, x ∈ names8) :
    FnD pw w 3 h 286 [.lst (arrD arrows), .lst (start.map .str), .atom (.ref fa)] (.lst ((dueF ff arrows start).map .str)) := by
  intro A S s vs ok hs r
  have T' := T.mono hs
  have fo' := fo.mono hs
  cases r using RDs.consE with
  | cons r1 r =>
  cases r using RDs.consE with
  | cons r2 r =>
  cases r using RDs.consE with
  | cons r3 r =>
  (first | cases r using RD.atomE | cases r using RDs.nilE | cases r using RD.strE | cases r using RD.intE | cases r using RD.boolE | cases r using RD.noneE | cases r)
  (first | cases r3 using RD.atomE | cases r3 using RDs.nilE | cases r3 using RD.strE | cases r3 using RD.intE | cases r3 using RD.boolE | cases r3 using RD.noneE | cases r3)
  cases r1 using RD.lstE with
  | lst sa ea ca da ra =>
  rename_i a oa va na
  cases r2 using RD.lstE with
  | lst sb eb cb db rb =>
  rename_i b ob vb nb
  refine call_fn (binds := [("arrows", .ref a), ("start", .ref b), ("fold", .ref fa)]) _ ok.room T' (K_due w) 285 rfl (by kernel_rfl) rfl (by rfl) rfl (fun y hy => ?_) fun s₁ X k => ?_
  · rcases List.mem_cons.mp hy with rfl | hy
    · exact .inl (by rfl)
    rcases List.mem_cons.mp hy with rfl | hy
    · exact .inl (by rfl)
    rcases List.mem_singleton.mp hy with rfl
    exact .inr ⟨by rfl, by rfl⟩
  generalize hN : s.heap.objs.size = N at *
  have okA : OkA 1 (A.deeper (envDue N)) := (OkA.deeper ok _).weak (by decide)
  generalize hA' : A.deeper (callEnvC (fdOf "_law_due" 16 285) N 286) = A' at *
  have F0 := Frm.ofCall X
  have hal : ∀ {s' : Shared}, Le s.heap s'.heap → s'.heap.IsList a va := fun k => ⟨_, k _ _ ea, ca, _, da⟩
  have hbl : ∀ {s' : Shared}, Le s.heap s'.heap → s'.heap.IsList b vb := fun k => ⟨_, k _ _ eb, cb, _, db⟩
  refine wp_abs fun QQ EE hQQ _ => ?_
  refine wpAny_execs_cons (F0.ownList rfl rfl (fun _ _ => False) (fun _ _ z => z.elim) fun dl s₂ F2 hdl x2 => ?_)
  have X0 : DueSt w s N fa a ff dl [] _ s₂ := ⟨F2, by rfl, by rfl⟩
  have hmb : (fun y => if y = ("due" : Str) then some (Value.ref dl) else bindL (envDue N).kindOf [("arrows", .ref a), ("start", .ref b), ("fold", .ref fa)] (fun _ => none) y) "start" = some (.ref b) := by rfl
  generalize (fun y => if y = ("due" : Str) then some (Value.ref dl) else bindL (envDue N).kindOf [("arrows", .ref a), ("start", .ref b), ("fold", .ref fa)] (fun _ => none) y) = m0 at *
  refine wpAny_execs_cons (wpAny_For (wpAny_Name (X0.F.frm.loc rfl rfl hmb _ _ _ _ s₂ (fun _ _ e => e) ?_) (by decide)) (fun _ => rfl))
  have mu0 : ∀ {dl m due s'}, DueSt w s N fa a ff dl due m s' → ∀ z o, s.heap.get? z = some o → ¬ MuL (envDue N) dl z := fun x z o e q => by
    have := x.F.mu0 z q; rw [e] at this; cases this
  have muS : ∀ {dl m due s'}, DueSt w s N fa a ff dl due m s' → ∀ z, s.heap.get? z ≠ none → ¬ MuL (envDue N) dl z := fun x z e q => e (x.F.mu0 z q)
  refine for_list (A := A') (xs := start.map .str) (S0 := fun z => S z ∧ s.heap.get? z ≠ none) okA.hd (hbl F2.frm.keep) (rb.dom.le F2.frm.keep) (MuL (envDue N) dl) (mu0 X0 _ _ eb) (fun z q => muS X0 _ q.2) F2.mu
    (fun d hd => ⟨_, .name⟩) (fun I i s' => ∃ m, DueSt w s N fa a ff dl ((start.take i).foldl (addNew ff) []) m s') ?_ ?_ ?_ ?_
  · intro h' k'
    exact ⟨m0, X0.kp (Kp.of' k')⟩
  · rintro i s' h' tk ⟨m, x⟩ hs'
    exact ⟨m, x.it tk hs' X0.F.freshI.1 X0.F.freshI.2⟩
  · rintro i d v s' hi ⟨m, x⟩ rv kb hI E
    obtain ⟨y, hy, rfl⟩ := map_at hi
    (first | cases rv using RD.atomE | cases rv using RDs.nilE | cases rv using RD.strE | cases rv using RD.intE | cases rv using RD.boolE | cases rv using RD.noneE | cases rv)
    rename_i t
    have hyn : y ∈ names8 := hst y (List.mem_of_getElem? hy)
    refine wpAny_assign_Name (x.F.storeL rfl rfl fun s3 F3 x3 => wp_abs fun Q1 E1 hq1 _ => ?_)
    have X3 : DueSt w s N fa a ff dl ((start.take i).foldl (addNew ff) []) _ s3 := ⟨F3, upd_ne x.md (by decide), upd_ne x.ma (by decide)⟩
    have g : GoodN ff ((start.take i).foldl (addNew ff) []) := GoodN.nil.addAll fun z hz => hst z (List.mem_of_mem_take hz)
    refine wpAny_execs_cons (due_add F3 X3.md (nm := "name") (x := y) (t := t) rfl upd_eq (g.fit fo.mem) (X3.test fo' okA g rfl upd_eq hyn) (fun s4 F4 k4 => ?_) (by rfl))
    refine wpAny_execs_nil (hq1 _ _ ⟨.inl rfl, ⟨(fun z => if z = ("name" : Str) then some (.str y t) else m z), ⟨?_, X3.md, X3.ma⟩⟩, ?_⟩)
    · rw [take_succ hy, List.foldl_append]
      exact F4
    · exact fun z o hz e => k4 z o hz (x3 z o (fun q => hz (.inl q)) e)
  rintro s3 ⟨m3, X3⟩ k3
  rw [List.length_map, List.take_length] at X3
  have g1 : GoodN ff (due1 ff start) := GoodN.due1 hst
  have ha2 : ∀ x ∈ arrows, x.2 ∈ names8 := fun x hx => (ha x hx).2
  refine wpAny_execs_cons (for_range (tgt := .Name "place" _) okA.hd s3.heap (fun _ _ e => e) (Var.bi (T'.mono X3.F.frm.keep) rfl rfl rfl rfl (by kernel_rfl) (by decide) (by rfl)) (EvD.cint (x := 8)) (by decide) rfl "place" rfl (MuL (envDue N) dl) X3.F.mu
    (fun i s' => ∃ m, DueSt w s N fa a ff dl ((List.range i).foldl (dueStep ff arrows) (due1 ff start)) m s') ?_ ?_ ?_ ?_ (fun _ => rfl) _)
  · exact fun s' k' => ⟨m3, X3.kp k'⟩
  · rintro I i s' h' tk hI nI ⟨m, x⟩ hs'
    exact ⟨m, x.it tk hs' (fresh_le X3.F.frm.keep hI) nI⟩
  · rintro i t s4 hi ⟨m4, X4⟩ k4 E
    have esR : (List.range (i + 1)).foldl (dueStep ff arrows) (due1 ff start) = dueStep ff arrows ((List.range i).foldl (dueStep ff arrows) (due1 ff start)) i := by rw [List.range_succ, List.foldl_append]; rfl
    rw [esR]
    refine X4.F.storeL rfl rfl fun s5 F5 x5 => wp_abs fun Q2 E2 hq2 _ => ?_
    have gi : GoodN ff ((List.range i).foldl (dueStep ff arrows) (due1 ff start)) := g1.steps ha2
    generalize (List.range i).foldl (dueStep ff arrows) (due1 ff start) = due at *
    have X5 : DueSt w s N fa a ff dl due _ s5 := ⟨F5, upd_ne X4.md (by decide), upd_ne X4.ma (by decide)⟩
    have hpl : (fun y => if y = ("place" : Str) then some (Value.int (i : Int) t) else m4 y) "place" = some (.int (i : Int) t) := by simp
    generalize (fun y => if y = ("place" : Str) then some (Value.int (i : Int) t) else m4 y) = m5 at *
    obtain ⟨its, hl, hp, hr⟩ := X5.ls
    refine wpAny_execs_cons (wpAny_If (wpAny_mono (EvT.cmp (S := fun _ => False) (EvD.name (X5.F.frm.loc rfl rfl hpl) (.int _ t)) (EvD.len (Var.bi (T'.mono X5.F.frm.keep) rfl rfl rfl rfl (by kernel_rfl) (by decide) (by rfl)) (SrcL.own X5.vd hl hr) rfl (by simpa using gi.fit fo.mem)) CmpD.ltI (by with_unfolding_all rfl) s5 _ fun _ _ e => e) (fun rr s6 h6 => ?_) fun _ _ q => q))
    obtain ⟨rfl, k6⟩ := h6
    have X6 := X5.kp k6
    rw [List.length_map]
    by_cases hlt : i < due.length
    · have e1 : decide ((i : Int) < (due.length : Int)) = true := by simpa using hlt
      rw [e1]
      simp only [if_true]
      have hy : due[i]? = some due[i] := by simp [hlt]
      have es : dueStep ff arrows due i = arrows.foldl (dueIn ff due[i]) due := by unfold dueStep; rw [hy]
      rw [es] at hq2
      refine wpAny_execs_cons (wpAny_For (wpAny_Name (X6.F.frm.loc rfl rfl X6.ma _ _ _ _ s6 (fun _ _ e => e) ?_) (by decide)) (fun _ => rfl))
      refine for_list (A := A') (xs := arrD arrows) (S0 := fun z => S z ∧ s.heap.get? z ≠ none) okA.hd (hal X6.F.frm.keep) (ra.dom.le X6.F.frm.keep) (MuL (envDue N) dl) (mu0 X6 _ _ ea) (fun z q => muS X6 _ q.2) X6.F.mu
        (fun d hd => ?_) (fun I j s' => ∃ m, DueSt w s N fa a ff dl ((arrows.take j).foldl (dueIn ff due[i]) due) m s' ∧ m "place" = some (.int (i : Int) t)) ?_ ?_ ?_ ?_
      · obtain ⟨x, hx, rfl⟩ := List.mem_map.mp hd
        exact ⟨_, .tup2 (by decide)⟩
      · exact fun h' k' => ⟨m5, X6.kp (Kp.of' k'), hpl⟩
      · rintro j s' h' tk ⟨m, x, hm⟩ hs'
        exact ⟨m, x.it tk hs' X6.F.freshI.1 X6.F.freshI.2, hm⟩
      · rintro j d v s7 hj ⟨m7, X7, hm7⟩ rv kb hI E
        obtain ⟨ab, hab, rfl⟩ := map_at hj
        have hmem := ha ab (List.mem_of_getElem? hab)
        refine X7.F.bd rfl (.tup2 (by decide)) okA.hd ?_ rv ?_ fun m8 s8 F8 hb8 hm8 x8 => wp_abs fun Q3 E3 hq3 _ => ?_
        · intro x d hx
          rcases List.mem_cons.mp hx with e | hx
          · cases e; rfl
          · cases List.mem_singleton.mp hx; rfl
        · rintro ⟨⟨_, q⟩, _⟩; exact muS X7 _ q (.inl rfl)
        obtain ⟨va8, hva8, rva⟩ := hb8 "a" _ (.head _)
        obtain ⟨vb8, hvb8, rvb⟩ := hb8 "b" _ (.tail _ (.head _))
        (first | cases rva using RD.atomE | cases rva using RDs.nilE | cases rva using RD.strE | cases rva using RD.intE | cases rva using RD.boolE | cases rva using RD.noneE | cases rva)
        (first | cases rvb using RD.atomE | cases rvb using RDs.nilE | cases rvb using RD.strE | cases rvb using RD.intE | cases rvb using RD.boolE | cases rvb using RD.noneE | cases rvb)
        have nb : ∀ y : Str, y ≠ "a" → y ≠ "b" → m8 y = m7 y := fun y h1 h2 => hm8 y fun d hd => by
          rcases List.mem_cons.mp hd with e | hd
          · cases e; exact h1 rfl
          · cases List.mem_singleton.mp hd; exact h2 rfl
        have X8 : DueSt w s N fa a ff dl ((arrows.take j).foldl (dueIn ff due[i]) due) m8 s8 := ⟨F8, (nb _ (by decide) (by decide)).trans X7.md, (nb _ (by decide) (by decide)).trans X7.ma⟩
        have gj : GoodN ff ((arrows.take j).foldl (dueIn ff due[i]) due) := gi.inAll fun z hz => ha2 z (List.mem_of_mem_take hz)
        refine wpAny_execs_cons (due_arrow (pl := i) X8 fo' okA gj ((nb _ (by decide) (by decide)).trans hm7) hi (dueIn_at hy) hva8 hvb8 hmem.1 hmem.2 (fun s9 X9 k9 => ?_) (by rfl))
        refine wpAny_execs_nil (hq3 _ _ ⟨.inl rfl, ⟨m8, ?_, (nb _ (by decide) (by decide)).trans hm7⟩, fun z o hz e => k9 z o hz (x8 z o (fun q => hz (.inl q)) e)⟩)
        rw [take_succ hab, List.foldl_append]
        exact X9
      · rintro s9 ⟨m9, X9, _⟩ k9
        rw [List.length_map, List.take_length] at X9
        refine wpAny_execs_nil ?_
        exact wpAny_execs_nil (hq2 _ _ ⟨.inl rfl, ⟨m9, X9⟩, fun z o hz e => k9 z o hz (k6.le _ _ (x5 z o (fun q => hz (.inl q)) e))⟩)
    · have e1 : decide ((i : Int) < (due.length : Int)) = false := by simpa using hlt
      rw [e1]
      have es : dueStep ff arrows due i = due := by unfold dueStep; rw [List.getElem?_eq_none (by omega)]
      rw [es] at hq2
      simp only [Bool.false_eq_true, if_false]
      exact wpAny_execs_nil (wpAny_execs_nil (hq2 _ _ ⟨.inl rfl, ⟨m5, X6⟩, fun z o hz e => k6.le _ _ (x5 z o (fun q => hz (.inl q)) e)⟩))
  · rintro s4 ⟨m4, X4⟩ k4
    refine wpAny_execs_cons (wpAny_Return_some (wpAny_Name (X4.F.frm.loc rfl rfl X4.md _ _ _ _ s4 (fun _ _ e => e) ?_) (by decide)))
    obtain ⟨its, hl, ⟨n, hp⟩, hr⟩ := X4.ls
    exact hQQ (.ret _) _ ⟨_, rfl, .lst (.inr X4.F.new) hp rfl rfl (hr.sub fun _ z => z.elim), X4.F.frm.kpAll⟩
end Mine
end

section
open PySem PySem.W PyProof.Rows PySem.Calls
set_option maxRecDepth 100000
set_option linter.all false
set_option maxHeartbeats 1000000
namespace Mine
open PySem (eval)

theorem BinD.addL {prog : Program} {w : World} {A : Around} {xs ys : List D} (hsz : xs.length + ys.length ≤ sizeLine) : BinD prog w A .Add (.lst xs) (.lst ys) (.lst (xs ++ ys)) := fun s S u v E ru rv => by
  cases ru using RD.lstE with
  | lst sa ea ca da ra =>
  cases rv using RD.lstE with
  | lst sb eb cb db rb =>
  rename_i a oa va na b ob vb nb
  obtain ⟨cl1, dd1, data1, sl1⟩ := oa
  obtain ⟨cl2, dd2, data2, sl2⟩ := ob
  simp only at ca da cb db
  subst ca da cb db
  have e1 := ra.length
  have e2 := rb.length
  have q1 : va.size = xs.length := by rw [← e1, Array.length_toList]
  have q2 : vb.size = ys.length := by rw [← e2, Array.length_toList]
  have hs : va.size + vb.size ≤ sizeLine := by rw [q1, q2]; exact hsz
  have kk : Le s.heap (s.heap.push { cls := .type "list", data := .seq (va ++ vb) }) := fun b o e => Heap.get?_push_of_some _ e
  refine concat_meets ⟨_, ea, rfl⟩ ⟨_, eb, rfl⟩ noFill_list_add seq_list_add PySem.F.slot_list_add PySem.F.entry_list_add (PySem.F.args_list_add_2 _ _) (list_addW a b va vb na nb dd1 dd2 sl1 sl2 hs) ⟨ea, eb, ?_⟩
  refine ⟨.lst (.inr (new_none _)) (Heap.get?_push_size _ rfl) rfl rfl ?_, Kp.of' kk⟩
  rw [Array.toList_append]
  exact ((ra.append rb).le kk).sub fun _ z => .inl z

noncomputable def bd2 (x y : Str) : D → List (Str × D)
  | .tup [d, e] => [(x, d), (y, e)]
  | _ => []

noncomputable abbrev scAB : Scope := { kind := .function, names := [(".0", .local), ("a", .local), ("b", .local)], isGenerator := false, isCoroutine := false, more := [] }
noncomputable abbrev scNV : Scope := { kind := .function, names := [(".0", .local), ("n", .local), ("values", .local)], isGenerator := false, isCoroutine := false, more := [] }
noncomputable abbrev scABF : Scope := { kind := .function, names := [(".0", .local), ("a", .local), ("b", .local), ("fold", .free), ("name", .free)], isGenerator := false, isCoroutine := false, more := [] }

section
variable {prog : Program} {w : World} {A : Around} {env : Env} {h : Heap} {S : Addr → Prop} {fa : Addr} {ff : Str → Str}

theorem filter_yes {α : Type} (xs : List α) : xs.filter (fun _ => true) = xs := List.filter_eq_self.mpr fun _ _ => rfl

theorem ev_froms {arrows : List (Str × Str)} {p1 p2 p3 p4 p5 p6 : Pos} (ok : OkA 0 A) (src : SrcL prog w A env h S (.Name "arrows" p5) (arrD arrows)) (hlen : arrows.length ≤ sizeLine) (hclos : closureFor scAB env = pure []) :
    EvD prog w A env h S (.ListComp (.Name "a" p1) [⟨.Tuple [.Name "a" p2, .Name "b" p3] 0 p4, .Name "arrows" p5, [], 0⟩] scAB p6) (.lst ((arrows.map (·.1)).map .str)) := by
  refine EvD.congr (EvD.comp (bd2 "a" "b") (fun _ => true) (fun d => match d with | .tup [x, _] => x | d => d) src ok hclos (by decide) rfl (by decide) ?_ ?_ ?_ (by simpa using hlen)) ?_
  · intro d hd
    obtain ⟨x, hx, rfl⟩ := List.mem_map.mp hd
    exact .tup2 (by decide)
  · intro d hd x e hx
    obtain ⟨z, hz, rfl⟩ := List.mem_map.mp hd
    rcases List.mem_cons.mp hx with q | hx
    · cases q; rfl
    · cases List.mem_singleton.mp hx; rfl
  · intro d hd S' C h' m hS hh hn hb
    obtain ⟨z, hz, rfl⟩ := List.mem_map.mp hd
    refine ⟨rfl, fun _ => ?_⟩
    obtain ⟨v, hv, rv⟩ := hb "a" _ (.head _)
    exact EvD.name (Var.loc rfl rfl hn hv) rv
  · rw [filter_yes, List.map_map, List.map_map]; rfl

noncomputable def shelfD (x : Str × List Str) : D := .tup [.str x.1, .lst (x.2.map .str)]

theorem ev_keys {shelf : List (Str × List Str)} {p1 p2 p3 p4 p5 p6 : Pos} (ok : OkA 0 A) (src : SrcL prog w A env h S (.Name "shelf" p5) (shelf.map shelfD)) (hlen : shelf.length ≤ sizeLine) (hclos : closureFor scNV env = pure []) :
    EvD prog w A env h S (.ListComp (.Name "n" p1) [⟨.Tuple [.Name "n" p2, .Name "values" p3] 0 p4, .Name "shelf" p5, [], 0⟩] scNV p6) (.lst ((shelf.map (·.1)).map .str)) := by
  refine EvD.congr (EvD.comp (bd2 "n" "values") (fun _ => true) (fun d => match d with | .tup [x, _] => x | d => d) src ok hclos (by decide) rfl (by decide) ?_ ?_ ?_ (by simpa using hlen)) ?_
  · intro d hd
    obtain ⟨x, hx, rfl⟩ := List.mem_map.mp hd
    exact .tup2 (by decide)
  · intro d hd x e hx
    obtain ⟨z, hz, rfl⟩ := List.mem_map.mp hd
    rcases List.mem_cons.mp hx with q | hx
    · cases q; rfl
    · cases List.mem_singleton.mp hx; rfl
  · intro d hd S' C h' m hS hh hn hb
    obtain ⟨z, hz, rfl⟩ := List.mem_map.mp hd
    refine ⟨rfl, fun _ => ?_⟩
    obtain ⟨v, hv, rv⟩ := hb "n" _ (.head _)
    exact EvD.name (Var.loc rfl rfl hn hv) rv
  · rw [filter_yes, List.map_map, List.map_map]; rfl
end

section
variable {w : World} {A : Around} {env : Env} {h : Heap} {S : Addr → Prop} {fa : Addr} {ff : Str → Str}
noncomputable def valsF (ff : Str → Str) (arrows : List (Str × Str)) (name : Str) : List Str := (arrows.filter fun x => ff x.1 == ff name).map (·.2)

theorem ev_vals {arrows : List (Str × Str)} {name : Str} {t : Tok} {c1 c2 : Addr} {p1 p2 p3 p4 p5 p6 q1 q2 q3 q4 q5 q6 q7 : Pos} (fo : FoldOk w h fa ff) (ok : OkA 1 A) (src : SrcL pw w A env h S (.Name "arrows" p5) (arrD arrows)) (hlen : arrows.length ≤ sizeLine)
    (harr : ∀ x ∈ arrows, x.1 ∈ names8) (hname : name ∈ names8) (hsk : env.scope.kind = .function) (hfk : env.kindOf "fold" = some .cell) (hnk : env.kindOf "name" = some .cell)
    (hclos : closureFor scABF env = pure [(("name" : Str), c2), (("fold" : Str), c1)]) (hc1 : h.IsCell c1 (some (.ref fa))) (hc2 : h.IsCell c2 (some (.str name t))) :
    EvD pw w A env h S (.ListComp (.Name "b" p1) [⟨.Tuple [.Name "a" p2, .Name "b" p3] 0 p4, .Name "arrows" p5, [.Compare (.Call (.Name "fold" q1) [.Name "a" q2] [] q3) [.Eq] [.Call (.Name "fold" q4) [.Name "name" q5] [] q6] q7], 0⟩] scABF p6) (.lst ((valsF ff arrows name).map .str)) := by
  refine EvD.congr (EvD.comp (bd2 "a" "b") (fun d => match d with | .tup [.str x, _] => ff x == ff name | d => false) (fun d => match d with | .tup [_, x] => x | d => d) src (ok.weak (Nat.zero_le _)) hclos (by decide) rfl (by decide) ?_ ?_ ?_ (by simpa using hlen)) ?_
  · intro d hd
    obtain ⟨x, hx, rfl⟩ := List.mem_map.mp hd
    exact .tup2 (by decide)
  · intro d hd x e hx
    obtain ⟨z, hz, rfl⟩ := List.mem_map.mp hd
    rcases List.mem_cons.mp hx with q | hx
    · cases q; rfl
    · cases List.mem_singleton.mp hx; rfl
  · intro d hd S' C h' m hS hh hn hb
    obtain ⟨z, hz, rfl⟩ := List.mem_map.mp hd
    obtain ⟨v1, hv1, rv1⟩ := hb "a" _ (.head _)
    obtain ⟨v2, hv2, rv2⟩ := hb "b" _ (.tail _ (.head _))
    (first | cases rv1 using RD.atomE | cases rv1 using RDs.nilE | cases rv1 using RD.strE | cases rv1 using RD.intE | cases rv1 using RD.boolE | cases rv1 using RD.noneE | cases rv1)
    rename_i t1
    have vf : Var (compEnvC scABF [(("name" : Str), c2), (("fold" : Str), c1)] C env) h' "fold" (.ref fa) := Var.cell (c := c1) rfl (relabel_free hsk hfk rfl) rfl (hc1.keeps hh)
    have vn : Var (compEnvC scABF [(("name" : Str), c2), (("fold" : Str), c1)] C env) h' "name" (.str name t) := Var.cell (c := c2) rfl (relabel_free hsk hnk rfl) rfl (hc2.keeps hh)
    refine ⟨EvT.cmp (S := fun _ => False) (ev_fold (t := t1) (fo.mono hh) ok vf (Var.loc rfl rfl hn hv1) (harr z hz)) (ev_fold (t := t) (fo.mono hh) ok vf vn hname) CmpD.eqS, fun _ => ?_⟩
    exact EvD.name (Var.loc rfl rfl hn hv2) rv2
  · rw [List.filter_map, List.map_map]
    unfold valsF
    rw [List.map_map]
    rfl
end
end Mine
end

section
open PySem PySem.W PyProof.Rows PySem.Calls
set_option maxRecDepth 100000
set_option linter.all false
set_option maxHeartbeats 1000000
namespace Mine
open PySem (eval)

noncomputable def shelfIn (ff : Str → Str) (arrows : List (Str × Str)) (sh : List (Str × List Str)) (name : Str) : List (Str × List Str) :=
  if (!(sh.map (·.1)).contains (ff name)) = true then sh ++ [(ff name, valsF ff arrows name)] else sh
noncomputable def shelfF (ff : Str → Str) (arrows : List (Str × Str)) (told : List Str) : List (Str × List Str) := (arrows.map (·.1) ++ told).foldl (shelfIn ff arrows) []

structure GoodS (sh : List (Str × List Str)) (n : Nat) : Prop where
  mem : ∀ x ∈ sh, x.1 ∈ names8
  len : sh.length ≤ n
theorem GoodS.inn {ff : Str → Str} {arrows : List (Str × Str)} {sh : List (Str × List Str)} {n : Nat} {name : Str} (g : GoodS sh n) (h : ff name ∈ names8) : GoodS (shelfIn ff arrows sh name) (n + 1) := by
  unfold shelfIn
  split
  · refine ⟨fun x hx => ?_, ?_⟩
    · rcases List.mem_append.mp hx with hx | hx
      · exact g.mem x hx
      · rw [List.mem_singleton.mp hx]; exact h
    · rw [List.length_append]; exact Nat.succ_le_succ g.len
  · exact ⟨g.mem, Nat.le_succ_of_le g.len⟩
theorem GoodS.all {ff : Str → Str} {arrows : List (Str × Str)} : ∀ {xs : List Str} {sh : List (Str × List Str)} {n : Nat}, (∀ x ∈ xs, ff x ∈ names8) → GoodS sh n → GoodS (xs.foldl (shelfIn ff arrows) sh) (n + xs.length)
  | [], _, _, _, g => g
  | x :: xs, _, n, h, g => by
    have := all (xs := xs) (arrows := arrows) (fun y hy => h y (.tail _ hy)) (g.inn (arrows := arrows) (h x (.head _)))
    simpa [Nat.add_assoc, Nat.add_comm 1] using this

theorem FrmL.storeC {M : Model} {A : Around} {E : Value → Shared → Prop} {s₀ s : Shared} {env : Env} {m cm : Str → Option Value} {dl : Addr} {S : Addr → Prop} {ds : List D} {x : Str} {c : Addr} {v : Value} {Q : Unit → Shared → Prop} (F : FrmL s₀ env m cm dl S ds s) (hk : env.scope.kind = .function) (hl : env.kindOf x = some .cell) (hc : env.cells.lookup x = some c)
    (hQ : ∀ s', FrmL s₀ env m (fun y => if y = x then some v else cm y) dl S ds s' → Heap.ExtBut c s.heap s'.heap → Q () s') : wpAny M A (storeName env x v) Q E s := by
  refine F.frm.storeC hk hl hc fun h' F' hs => hQ _ ?_ hs
  obtain ⟨its, ⟨n, hp⟩, r⟩ := F.lst
  exact ⟨F', ⟨its, ⟨n, hs _ _ (F.nC x c hc) hp⟩, r.but hs fun z => F.nS _ z (.inr (.inr ⟨x, hc⟩))⟩, F.new, F.nL, F.nC, F.nS⟩

noncomputable abbrev envSh (N : Nat) : Env := callEnvC (fdOf "_law_shelf" 17 290) N 291

/-- what lies in the shelf: not the frame, not the loop's iterator -/
noncomputable def ShS (s₀ : Shared) (N : Nat) (dl I : Addr) (S : Addr → Prop) : Addr → Prop := fun z => Fr1 S s₀.heap z ∧ ¬ MuL (envSh N) dl z ∧ z ≠ I

structure ShSt (s₀ : Shared) (N : Nat) (fa a : Addr) (dl I : Addr) (S : Addr → Prop) (sh : List (Str × List Str)) (m cm : Str → Option Value) (s : Shared) : Prop where
  F : FrmL s₀ (envSh N) m cm dl (ShS s₀ N dl I S) (sh.map shelfD) s
  ms : m "shelf" = some (.ref dl)
  ma : m "arrows" = some (.ref a)
  cf : cm "fold" = some (.ref fa)

section
variable {w : World} {A : Around} {fa : Addr} {ff : Str → Str} {s₀ s : Shared} {N : Nat} {a dl I : Addr} {S : Addr → Prop} {sh : List (Str × List Str)} {m cm : Str → Option Value}
theorem ShSt.vf (x : ShSt s₀ N fa a dl I S sh m cm s) : Var (envSh N) s.heap "fold" (.ref fa) := x.F.frm.celV rfl rfl rfl x.cf
theorem ShSt.vs (x : ShSt s₀ N fa a dl I S sh m cm s) : Var (envSh N) s.heap "shelf" (.ref dl) := x.F.frm.loc rfl rfl x.ms
theorem ShSt.ls (x : ShSt s₀ N fa a dl I S sh m cm s) : ∃ its, s.heap.IsList dl its ∧ s.heap.PlainList dl its ∧ RDs s.heap (ShS s₀ N dl I S) its.toList (sh.map shelfD) := by
  obtain ⟨its, hp, r⟩ := x.F.lst
  obtain ⟨n, e⟩ := id hp
  exact ⟨its, ⟨_, e, rfl, n, rfl⟩, hp, r⟩

theorem shelf_spec {h : Heap} (T : TopH w h) (fo : FoldOk w h fa ff) (arrows : List (Str × Str)) (told : List Str) (ha : ∀ x ∈ arrows, x.1 ∈ names8 ∧ x.2 ∈ names8) (hst : ∀ x ∈ told, x ∈ names8) (hla : arrows.length ≤ 100) (hlt : told.length ≤ 100) :
    FnD pw w 3 h 291 [.lst (arrD arrows), .atom (.ref fa), .lst (told.map .str)] (.lst ((shelfF ff arrows told).map shelfD)) := by
  intro A S s vs ok hs r
  have T' := T.mono hs
  have fo' := fo.mono hs
  cases r using RDs.consE with
  | cons r1 r =>
  cases r using RDs.consE with
  | cons r2 r =>
  cases r using RDs.consE with
  | cons r3 r =>
  (first | cases r using RD.atomE | cases r using RDs.nilE | cases r using RD.strE | cases r using RD.intE | cases r using RD.boolE | cases r using RD.noneE | cases r)
  (first | cases r2 using RD.atomE | cases r2 using RDs.nilE | cases r2 using RD.strE | cases r2 using RD.intE | cases r2 using RD.boolE | cases r2 using RD.noneE | cases r2)
  cases r1 using RD.lstE with
  | lst sa ea ca da ra =>
  rename_i a oa va na
  cases r3 using RD.lstE with
  | lst sb eb cb db rb =>
  rename_i b ob vb nb
  refine call_fn (binds := [("arrows", .ref a), ("fold", .ref fa), ("told", .ref b)]) _ ok.room T' (K_shelf w) 290 rfl (by kernel_rfl) rfl (by rfl) rfl (fun y hy => ?_) fun s₁ X k => ?_
  · rcases List.mem_cons.mp hy with rfl | hy
    · exact .inl (by rfl)
    rcases List.mem_cons.mp hy with rfl | hy
    · exact .inr ⟨by rfl, by rfl⟩
    rcases List.mem_singleton.mp hy with rfl
    exact .inl (by rfl)
  generalize hN : s.heap.objs.size = N at *
  have okA : OkA 1 (A.deeper (envSh N)) := (OkA.deeper ok _).weak (by decide)
  generalize hA' : A.deeper (callEnvC (fdOf "_law_shelf" 17 290) N 291) = A' at *
  have hsl : (1000 : Nat) ≤ sizeLine := by decide
  have F0 := Frm.ofCall X
  let S1 : Addr → Prop := fun z => S z ∧ s.heap.get? z ≠ none
  have src : ∀ {h' : Heap} {m : Str → Option Value}, Le s.heap h' → h'.Ns (envSh N).locals m → m "arrows" = some (.ref a) → ∀ p, SrcL pw w A' (envSh N) h' S1 (.Name "arrows" p) (arrD arrows) := fun k n e p =>
    SrcL.own (Var.loc rfl rfl n e) ⟨_, k _ _ ea, ca, _, da⟩ (ra.dom.le k)
  refine wpAny_execs_cons (F0.ownList rfl rfl (fun d z => Fr1 S s.heap z ∧ ¬ MuL (envSh N) d z) (fun _ _ z => z.2) fun dl s₂ F2 hdl x2 => ?_)
  have hma : (fun y => if y = ("shelf" : Str) then some (Value.ref dl) else bindL (envSh N).kindOf [("arrows", .ref a), ("fold", .ref fa), ("told", .ref b)] (fun _ => none) y) "arrows" = some (.ref a) := by rfl
  have hmt : (fun y => if y = ("shelf" : Str) then some (Value.ref dl) else bindL (envSh N).kindOf [("arrows", .ref a), ("fold", .ref fa), ("told", .ref b)] (fun _ => none) y) "told" = some (.ref b) := by rfl
  have hms : (fun y => if y = ("shelf" : Str) then some (Value.ref dl) else bindL (envSh N).kindOf [("arrows", .ref a), ("fold", .ref fa), ("told", .ref b)] (fun _ => none) y) "shelf" = some (.ref dl) := by rfl
  generalize (fun y => if y = ("shelf" : Str) then some (Value.ref dl) else bindL (envSh N).kindOf [("arrows", .ref a), ("fold", .ref fa), ("told", .ref b)] (fun _ => none) y) = m0 at *
  have hcf : bindC (envSh N).kindOf [("arrows", .ref a), ("fold", .ref fa), ("told", .ref b)] (fun _ => none) "fold" = some (.ref fa) := by rfl
  generalize hcm : bindC (envSh N).kindOf [("arrows", .ref a), ("fold", .ref fa), ("told", .ref b)] (fun _ => none) = cm0 at *
  have evx : EvD pw w A' (envSh N) s₂.heap S1 _ (.lst ((arrows.map (·.1)).map .str ++ told.map .str)) := EvD.bin (pos := ⟨209, 16, 209, 45⟩)
    (ev_froms (okA.weak (Nat.zero_le _)) (src F2.frm.keep F2.frm.ns hma ⟨209, 31, 209, 37⟩) (by omega) rfl (p1 := ⟨209, 17, 209, 18⟩) (p2 := ⟨209, 23, 209, 24⟩) (p3 := ⟨209, 26, 209, 27⟩) (p4 := ⟨209, 23, 209, 27⟩) (p6 := ⟨209, 16, 209, 38⟩))
    (EvD.name (pos := ⟨209, 41, 209, 45⟩) (F2.frm.loc (x := "told") rfl rfl hmt) (.lst (S := S1) ⟨sb, by rw [eb]; exact fun z => nomatch z⟩ (F2.frm.keep _ _ eb) cb db (rb.dom.le F2.frm.keep)))
    (BinD.addL (by simp only [List.length_map]; omega))
  refine wpAny_execs_cons (wpAny_For (wpAny_mono (evx s₂ _ fun _ _ e => e) (fun lv s₃ h₃ => ?_) fun _ _ q => q) (fun _ => rfl))
  obtain ⟨r3, k3⟩ := h₃
  rw [← List.map_append] at r3
  cases r3 using RD.lstE with
  | lst sl el cl dl' rl =>
  rename_i l ol vl nl
  have F3 := F2.kp k3
  have mu0 : ∀ {m cm S ds s'}, FrmL s (envSh N) m cm dl S ds s' → ∀ z, s.heap.get? z ≠ none → ¬ MuL (envSh N) dl z := fun x z e q => e (x.mu0 z q)
  have nl1 : ∀ z, Fr1 S1 s₂.heap z → ¬ MuL (envSh N) dl z := fun z q m => by
    rcases q with q | q
    · exact mu0 F2 z q.2 m
    · exact F2.mu z m q
  have hnames : ∀ x ∈ arrows.map (·.1) ++ told, x ∈ names8 := fun x hx => by
    rcases List.mem_append.mp hx with hx | hx
    · obtain ⟨z, hz, rfl⟩ := List.mem_map.mp hx; exact (ha z hz).1
    · exact hst x hx
  have hlen : (arrows.map (·.1) ++ told).length ≤ 200 := by simp only [List.length_append, List.length_map]; omega
  refine for_list (A := A') (S0 := Fr1 S1 s₂.heap) okA.hd ⟨_, el, cl, _, dl'⟩ rl (MuL (envSh N) dl) (nl1 _ sl) nl1 F3.mu
    (fun d hd => ⟨_, .name⟩) (fun I i s' => ∃ cm, ShSt s N fa a dl I S (((arrows.map (·.1) ++ told).take i).foldl (shelfIn ff arrows) []) m0 cm s') ?_ ?_ ?_ ?_
  · intro h' k'
    have F4 := F3.kp (Kp.of' k')
    obtain ⟨its, hp, hr⟩ := F4.lst
    have e : its.toList = [] := by cases q : its.toList with | nil => rfl | cons => rw [q] at hr; cases hr
    exact ⟨cm0, ⟨⟨F4.frm, ⟨its, hp, by rw [e]; exact .nil⟩, F4.new, F4.nL, F4.nC, fun z q => q.2.1⟩, hms, hma, hcf⟩⟩
  · rintro i s' h' tk ⟨cm, x⟩ hs'
    exact ⟨cm, ⟨x.F.it tk hs' F3.freshI.1 F3.freshI.2 fun z => z.2.2 rfl, x.ms, x.ma, x.cf⟩⟩
  · rintro i d v s' hi ⟨cm, x⟩ rv kb hI E
    obtain ⟨y, hy, rfl⟩ := map_at hi
    (first | cases rv using RD.atomE | cases rv using RDs.nilE | cases rv using RD.strE | cases rv using RD.intE | cases rv using RD.boolE | cases rv using RD.noneE | cases rv)
    rename_i t
    have hyn : y ∈ names8 := hnames y (List.mem_of_getElem? hy)
    have hil : i < (arrows.map (·.1) ++ told).length := (List.getElem?_eq_some_iff.mp hy).1
    refine wpAny_assign_Name (x.F.storeC (c := N + 2) rfl rfl rfl fun s4 F4 x4 => ?_)
    have gS := GoodS.all (arrows := arrows) (ff := ff) (xs := (arrows.map (·.1) ++ told).take i) (fun z hz => fo.mem z (hnames z (List.mem_of_mem_take hz))) (⟨fun _ h => by simp at h, Nat.le_refl _⟩ : GoodS [] 0)
    have hl1 : ((arrows.map (·.1) ++ told).take i).length ≤ i := by rw [List.length_take]; omega
    have est : ((arrows.map (·.1) ++ told).take (i + 1)).foldl (shelfIn ff arrows) [] = shelfIn ff arrows (((arrows.map (·.1) ++ told).take i).foldl (shelfIn ff arrows) []) y := by
      rw [take_succ hy, List.foldl_append]; rfl
    rw [est]
    have hshl := gS.len
    have hshm := gS.mem
    have X4 : ShSt s N fa a dl s₃.heap.objs.size S (((arrows.map (·.1) ++ told).take i).foldl (shelfIn ff arrows) []) m0 _ s4 := ⟨F4, x.ms, x.ma, upd_ne x.cf (by decide)⟩
    generalize ((arrows.map (·.1) ++ told).take i).foldl (shelfIn ff arrows) [] = sh at *
    have fo4 := fo'.mono X4.F.frm.keep
    have vn : Var (envSh N) s4.heap "name" (.str y t) := X4.F.frm.celV rfl rfl rfl upd_eq
    obtain ⟨its, hl, hp, hr⟩ := X4.ls
    have hcn : s4.heap.IsCell (N + 2) (some (.str y t)) := by have := X4.F.frm.cell "name" (N + 2) rfl; rwa [if_pos rfl] at this
    have hcf' : s4.heap.IsCell (N + 1) (some (.ref fa)) := by have := X4.F.frm.cell "fold" (N + 1) rfl; rwa [X4.cf] at this
    have te : EvT pw w A' (envSh N) s4.heap _ (!(sh.map (·.1)).contains (ff y)) := EvT.cmp (pos := ⟨210, 11, 210, 55⟩) (ev_fold (S := ShS s N dl s₃.heap.objs.size S) (p := ⟨210, 11, 210, 15⟩) (q := ⟨210, 16, 210, 20⟩) (pos := ⟨210, 11, 210, 21⟩) fo4 okA X4.vf vn hyn)
      (ev_keys (p1 := ⟨210, 30, 210, 31⟩) (p2 := ⟨210, 36, 210, 37⟩) (p3 := ⟨210, 39, 210, 45⟩) (p4 := ⟨210, 36, 210, 45⟩) (p5 := ⟨210, 49, 210, 54⟩) (p6 := ⟨210, 29, 210, 55⟩) (okA.weak (Nat.zero_le _)) (SrcL.own X4.vs hl hr) (by omega) rfl)
      (CmpD.notInS (names8_ok _ (fo.mem y hyn)) (fun z hz => by obtain ⟨q, hq, rfl⟩ := List.mem_map.mp hz; exact names8_ok _ (hshm q hq)) (okA.weak (Nat.zero_le _))) (by with_unfolding_all rfl)
    refine wpAny_execs_cons (wpAny_If (wpAny_mono (te s4 E fun _ _ e => e) (fun rr s5 h5 => ?_) fun _ _ q => q))
    obtain ⟨rfl, k5⟩ := h5
    have X5 : ShSt s N fa a dl s₃.heap.objs.size S sh m0 _ s5 := ⟨X4.F.kp k5, X4.ms, X4.ma, X4.cf⟩
    cases hb : (!(sh.map (·.1)).contains (ff y)) with
    | false =>
      simp only [Bool.false_eq_true, if_false]
      have e1 : shelfIn ff arrows sh y = sh := by unfold shelfIn; rw [hb]; rfl
      rw [e1]
      exact wpAny_execs_nil (wpAny_execs_nil ⟨.inl rfl, ⟨_, X5⟩, fun z o hz e => k5.le _ _ (x4 z o (fun q => hz (.inr (.inr ⟨"name", by rw [q]; rfl⟩))) e)⟩)
    | true =>
      simp only [if_true]
      have e1 : shelfIn ff arrows sh y = sh ++ [(ff y, valsF ff arrows y)] := by unfold shelfIn; rw [hb]; rfl
      rw [e1]
      have fo5 := fo'.mono X5.F.frm.keep
      have hvl : (valsF ff arrows y).length ≤ sizeLine := by
        unfold valsF; rw [List.length_map]; exact Nat.le_trans (List.length_filter_le _ _) (by omega)
      have el : EvD pw w A' (envSh N) s5.heap S1 _ (shelfD (ff y, valsF ff arrows y)) := EvD.tuple (k := 0) (pos := ⟨211, 25, 211, 86⟩) (.cons (ev_fold (p := ⟨211, 26, 211, 30⟩) (q := ⟨211, 31, 211, 35⟩) (pos := ⟨211, 26, 211, 36⟩) fo5 okA X5.vf (vn.mono k5.le) hyn)
        (.cons (ev_vals (p1 := ⟨211, 39, 211, 40⟩) (p2 := ⟨211, 45, 211, 46⟩) (p3 := ⟨211, 48, 211, 49⟩) (p4 := ⟨211, 45, 211, 49⟩) (p5 := ⟨211, 53, 211, 59⟩) (p6 := ⟨211, 38, 211, 85⟩) (q1 := ⟨211, 63, 211, 67⟩) (q2 := ⟨211, 68, 211, 69⟩) (q3 := ⟨211, 63, 211, 70⟩) (q4 := ⟨211, 74, 211, 78⟩) (q5 := ⟨211, 79, 211, 83⟩) (q6 := ⟨211, 74, 211, 84⟩) (q7 := ⟨211, 63, 211, 84⟩)
          fo5 okA (src X5.F.frm.keep X5.F.frm.ns X5.ma _) (by omega) (fun z hz => (ha z hz).1) hyn rfl rfl rfl rfl (hcf'.keeps k5.le) (hcn.keeps k5.le)) .nil rfl) rfl) (by show 2 ≤ sizeLine; decide)
      refine wpAny_execs_cons (X5.F.append (o := .Name "shelf" ⟨211, 12, 211, 17⟩) (x := "shelf") X5.vs el (by rw [List.length_map]; omega) (.inr fun z hz hzd => ?_) (fun z => mu0 X5.F _ z.2 (.inr (.inl rfl))) (fun s6 F6 x6 => ?_))
      · rcases hz with hz | hz
        · exact ⟨.inl hz.1, mu0 X5.F z hz.2, fun q => hz.2 (by rw [q]; exact F3.freshI.1)⟩
        · refine ⟨.inr (fresh_le X5.F.frm.keep hz), fun q => X5.F.mu z q hz, fun q => ?_⟩
          have h1 := fresh_le k5.le hz
          have hIs4 : s4.heap.get? s₃.heap.objs.size ≠ none := fun q2 => by
            cases e : s'.heap.get? s₃.heap.objs.size with
            | none => exact hI e
            | some o =>
              have hne : s₃.heap.objs.size ≠ N + 2 := fun q3 => F3.freshI.2 (.inr (.inr ⟨"name", by rw [q3]; rfl⟩))
              have := x4 _ _ hne e
              rw [q2] at this; cases this
          exact hIs4 (q ▸ h1)
      · refine wpAny_execs_nil (wpAny_execs_nil ⟨.inl rfl, ⟨(fun z => if z = ("name" : Str) then some (.str y t) else cm z), ⟨by rw [List.map_append]; exact F6, X5.ms, X5.ma, X5.cf⟩⟩, fun z o hz e => x6 z o (fun q => hz (.inr (.inl q))) (k5.le _ _ (x4 z o (fun q => hz (.inr (.inr ⟨"name", by rw [q]; rfl⟩))) e))⟩)
  · rintro s4 ⟨cm, X4⟩ k4
    rw [List.length_map, List.take_length] at X4
    refine wpAny_execs_cons (wpAny_Return_some (wpAny_Name (X4.F.frm.loc rfl rfl X4.ms _ _ _ _ s4 (fun _ _ e => e) ?_) (by decide)))
    obtain ⟨its, hl, ⟨n, hp⟩, hr⟩ := X4.ls
    exact ⟨_, rfl, .lst (.inr X4.F.new) hp rfl rfl (hr.sub fun _ z => z.1), X4.F.frm.kpAll⟩
end
end Mine
end

section
open PySem PySem.W PyProof.Rows PySem.Calls
set_option maxRecDepth 100000
set_option linter.all false
set_option maxHeartbeats 8000000
namespace Mine
open PySem (eval)

theorem litA {M : Model} {α : Type} {A : Around} {t : Sem α} {Q : α → Shared → Prop} {E : Value → Shared → Prop} {s : Shared} (ok : OkA 100 A)
    (h : ∀ l g, wpAny M ⟨none, 900, some l, some g, 8600⟩ t Q E s) : wpAny M A t Q E s := fun Γ p hΓ => by
  refine h (Γ.code.envs ++ envsOf Γ.below) (Γ.code.guards ++ guardsOf Γ.below) Γ p ⟨hΓ.1.trans ok.hd, ?_, ?_, ?_, ?_⟩
  · have := ok.dp; have := hΓ.2.1; simp only [recursionLimit] at *; omega
  · intro l hl; cases hl; rfl
  · intro l hl; cases hl; rfl
  · have := ok.un; have := hΓ.2.2.2.2; simp only [cLine] at *; omega

section
variable {s : Shared} {h' : Heap} {t : Nat} {news : List (Addr × Obj)}
theorem mem_at (D : X.Mem s.heap h' [] news) (i : Nat) {a : Addr} {o : Obj} (e : news[i]? = some (a, o)) : h'.get? a = some o ∧ s.heap.get? a = none := D.nw _ (List.mem_of_getElem? e)
theorem mem_kp (D : X.Mem s.heap h' [] news) : Kp s ⟨h', s.gens, s.drawn, t, s.os⟩ := Kp.of t fun b o q => D.keep b o q (by simp [X.away])
theorem mem_gt (D : X.Mem s.heap h' [] news) {i j : Nat} {a b : Addr} {o u : Obj} (e : news[i]? = some (a, o)) (f : news[j]? = some (b, u)) (hij : i < j) : b < a := by
  have := List.pairwise_iff_getElem.mp D.ord i j (by rw [List.length_map]; exact (List.getElem?_eq_some_iff.mp e).1) (by rw [List.length_map]; exact (List.getElem?_eq_some_iff.mp f).1) hij
  rw [List.getElem_map, List.getElem_map, (List.getElem?_eq_some_iff.mp e).2, (List.getElem?_eq_some_iff.mp f).2] at this
  exact this

noncomputable def PostBook (s : Shared) (v : Value) (s' : Shared) : Prop := ∃ b bd, v = .ref b ∧ s'.heap.get? b = some ⟨.ref 162, some bd, .dict #[] 0, #[some (.type "list")]⟩ ∧ s'.heap.get? bd = some ⟨.type "dict", none, .dict #[] 0, #[]⟩ ∧
  s.heap.get? b = none ∧ s.heap.get? bd = none ∧ bd < b ∧ Kp s s'
theorem post_book {b bd : Addr} (D : X.Mem s.heap h' [] news) (e1 : news[0]? = some (b, ⟨.ref 162, some bd, .dict #[] 0, #[some (.type "list")]⟩)) (e2 : news[1]? = some (bd, ⟨.type "dict", none, .dict #[] 0, #[]⟩)) :
    PostBook s (.ref b) ⟨h', s.gens, s.drawn, t, s.os⟩ := by
  have h1 := mem_at D 0 e1
  have h2 := mem_at D 1 e2
  exact ⟨b, bd, rfl, h1.1, h2.1, h1.2, h2.2, mem_gt D e1 e2 (by decide), mem_kp D⟩

noncomputable def PostPair (s : Shared) (x y : Str) (v : Value) (s' : Shared) : Prop := ∃ a d tx ty n, v = .ref a ∧ s'.heap.get? a = some ⟨.ref 257, some d, .seq #[.str x tx, .str y ty] n, #[]⟩ ∧ s'.heap.get? d = some ⟨.type "dict", none, .dict #[] 0, #[]⟩ ∧ s.heap.get? a = none ∧ s.heap.get? d = none ∧ Kp s s'
theorem post_pair {x y : Str} {tx ty : Tok} {a d : Addr} {n : Nat} (D : X.Mem s.heap h' [] news) (e1 : news[0]? = some (a, ⟨.ref 257, some d, .seq #[.str x tx, .str y ty] n, #[]⟩)) (e2 : news[1]? = some (d, ⟨.type "dict", none, .dict #[] 0, #[]⟩)) :
    PostPair s x y (.ref a) ⟨h', s.gens, s.drawn, t, s.os⟩ := by
  have h1 := mem_at D 0 e1
  have h2 := mem_at D 1 e2
  exact ⟨a, d, tx, ty, n, rfl, h1.1, h2.1, h1.2, h2.2, mem_kp D⟩

noncomputable def PostVal (s : Shared) (u v : Value) (s' : Shared) : Prop := v = u ∧ Kp s s'
theorem post_val {u v : Value} (D : X.Mem s.heap h' [] news) (e : v = u) : PostVal s u v ⟨h', s.gens, s.drawn, t, s.os⟩ := ⟨e, mem_kp D⟩

/-- a fresh iterator over a tuple -/
noncomputable def PostTupIt (s : Shared) (vs : Array Value) (v : Value) (s' : Shared) : Prop := ∃ I T, v = .ref I ∧ s'.heap.get? I = some ⟨.type "tuple_iterator", none, .fields #[.ref T, .int 0 0], #[]⟩ ∧
  (∃ o n, s'.heap.get? T = some o ∧ (o.cls = .type "tuple" ∨ o.cls = .ref 257) ∧ o.data = .seq vs n) ∧ s.heap.get? I = none ∧ I ≠ T ∧ Kp s s'
theorem post_tup_new {vs : Array Value} {I T : Addr} {n : Nat} (D : X.Mem s.heap h' [] news) (i : Nat) (e1 : news[0]? = some (I, ⟨.type "tuple_iterator", none, .fields #[.ref T, .int 0 0], #[]⟩)) (e2 : news[i+1]? = some (T, ⟨.type "tuple", none, .seq vs n, #[]⟩)) :
    PostTupIt s vs (.ref I) ⟨h', s.gens, s.drawn, t, s.os⟩ := by
  have h1 := mem_at D 0 e1
  have h2 := mem_at D _ e2
  exact ⟨I, T, rfl, h1.1, ⟨_, _, h2.1, .inl rfl, rfl⟩, h1.2, Nat.ne_of_gt (mem_gt D e1 e2 (Nat.succ_pos _)), mem_kp D⟩
theorem post_tup_old {vs : Array Value} {I T : Addr} {n : Nat} {d} (D : X.Mem s.heap h' [] news) (e1 : news[0]? = some (I, ⟨.type "tuple_iterator", none, .fields #[.ref T, .int 0 0], #[]⟩)) (e2 : s.heap.get? T = some ⟨.ref 257, d, .seq vs n, #[]⟩) :
    PostTupIt s vs (.ref I) ⟨h', s.gens, s.drawn, t, s.os⟩ := by
  have h1 := mem_at D 0 e1
  have k : Kp s ⟨h', s.gens, s.drawn, t, s.os⟩ := mem_kp D
  exact ⟨I, T, rfl, h1.1, ⟨_, _, k.le _ _ e2, .inr rfl, rfl⟩, h1.2, fun z => (by rw [z, e2] at h1; exact nomatch h1.2), k⟩
end

section
variable {w : World} {A : Around} {s : Shared} {E : Value → Shared → Prop}
local macro_rules | `(tactic| x_close) => `(tactic| exact post_book (by assumption) rfl rfl)
theorem mk_book (X : (KF w.params).In s.heap) (ok : OkA 100 A) : wpAny (model pw w) A (PySem.call (.ref 162) [.type "list"]) (PostBook s) E s := by
  refine litA ok fun l g => ?_
  x_run
end
end Mine
end

section
open PySem PySem.W PyProof.Rows PySem.Calls
set_option maxRecDepth 100000
set_option linter.all false
set_option maxHeartbeats 1000000
namespace Mine
open PySem (eval)

theorem inNil (h : Heap) : Frag.In [] h := fun _ _ e => nomatch e
theorem nil_tga : findIn [] (.type "type") "__getattribute__" = some (some (.builtin "type.__getattribute__")) := by decide +kernel

section
variable {prog : Program} {w : World} {A : Around} {E : Value → Shared → Prop} {s : Shared} {env : Env}
theorem getAttr_type {T : String} {name : Str} {v : Value} {expr : Bool} {Q : Value → Shared → Prop} (ht : typeOf (.type T) = pure (.type "type")) (hs : Manifest.isStub T = false)
    (e : findCls [] (.type T) (.type "type") name = some (.val v)) (hh : handedIn v = true) (h : Q v { s with toks := s.toks + 1 }) : wpAny (model prog w) A (getAttr (.type T) name expr) Q E s := by
  have LO : Looks (model prog w) s.heap (opaqueClassAbove (.type T)) none := Looks.of_pure (by unfold opaqueClassAbove; dsimp only; rw [hs]; rfl)
  refine cls_open (inNil _) LO (Looks.of_pure ht) nil_tga (looks_hook (K := []) (inNil _) (r := none) (by rfl)) (by show subIn [] _ _ = _; rfl) e (wpAny_pure ?_)
  exact handed_on hh h
theorem getMethod_type {T : String} {name : Str} {v : Value} {pl : Sem Bool} {Q : Value × List Value → Shared → Prop} (ht : typeOf (.type T) = pure (.type "type")) (hs : Manifest.isStub T = false)
    (e : findCls [] (.type T) (.type "type") name = some (.val v)) (hh : handedIn v = true) (h : Q (v, []) { s with toks := s.toks + 1 }) : wpAny (model prog w) A (getMethod (.type T) name pl) Q E s := by
  have L0 : Looks (model prog w) s.heap (typeOf (.type T)) (.type "type") := Looks.of_pure ht
  unfold getMethod specialOf
  refine wpAny_bind (wpAny_bind (L0.here ((looks_findIn (inNil _) nil_tga).here ?_)))
  dsimp only
  rw [if_pos canon_tga]
  exact wpAny_bind (getAttr_type ht hs e hh (wpAny_pure h))

theorem tgi1 : typeOf (.type "tuple") = pure (.type "type") := by kernel_rfl
theorem tgi2 : Manifest.isStub "tuple" = false := by decide +kernel
theorem tgi4 : handedIn (.builtin "tuple.__getitem__") = true := by kernel_rfl
theorem tgi3 : findCls [] (.type "tuple") (.type "type") "__getitem__" = some (.val (.builtin "tuple.__getitem__")) := by kernel_rfl
theorem getMethod_tupleItem {pl : Sem Bool} {Q : Value × List Value → Shared → Prop} (h : Q (.builtin "tuple.__getitem__", []) { s with toks := s.toks + 1 }) : wpAny (model prog w) A (getMethod (.type "tuple") "__getitem__" pl) Q E s :=
  @getMethod_type prog w A E s "tuple" "__getitem__" (.builtin "tuple.__getitem__") pl Q tgi1 tgi2 tgi3 tgi4 h
/-- a call of an attribute: whatever the base is -/
theorem call_meth {o : Expr} {name : Str} {apos pos : Pos} {args : List Expr} {trees : List (Bool × Sem Value)} {Q : Value → Shared → Prop}
    (htrees : backTo pos (starEach args env) = trees)
    (h : wpAny (model prog w) A (eval o env) (fun ov s₁ => ∀ pl, wpAny (model prog w) A (getMethod ov name pl) (fun fr s₂ => wpAny (model prog w) A (callWith pos fr.1 fr.2 trees []) Q E s₂) E s₁) E s)
    (hbase : attributeBase o name env (eval o env) = eval o env := by rfl) (hfew : methodCallForm args.length trees [] = true := by rfl) (hline : (apos.endLine == pos.line) = true := by rfl) :
    wpAny (model prog w) A (eval (.Call (.Attribute o name apos) args [] pos) env) Q E s := by
  subst htrees
  rw [arm_eval_Call, hbase]
  refine wpAny_bind (wpAny_mono h (fun ov s₁ h₁ => ?_) fun _ _ e => e)
  refine wpAny_bind (wpAny_standAt ?_)
  have hpos : methodCallPos true o env apos pos = pure pos := by unfold methodCallPos; simp [hline]
  have hform : methodCallForm (args.length + ([] : List Keyword).length) (backTo pos (starEach args env)) (backToKw pos (keywordEach [] env)) = true := hfew
  unfold methodCall
  rw [hform]
  refine wpAny_bind (wpAny_holding ?_)
  unfold calleeOf
  rw [if_pos rfl]
  exact wpAny_mono (h₁ _) (fun fr s₂ h₂ => wpAny_bind (wpAny_of_eq hpos h₂)) fun _ _ q => q
end
end Mine
end

section
open PySem PySem.W PyProof.Rows PySem.Calls
set_option maxRecDepth 100000
set_option linter.all false
set_option maxHeartbeats 2000000
namespace Mine
open PySem (eval)

noncomputable def fdM (st : Stmt) (name qual modN : Str) (modT : Nat) (defaults : Value) (ann : Option Addr) (code : Nat) (closure : List (Str × Addr)) (ct : Value) : FuncData :=
  { name, qualname := qual, params := fparams st, body := .stmts (fbody st), scope := fscope st, globals := mainGlobals, closure, defaults, kwdefaults := .none,
    doc := .none, pyModule := .str modN modT, annotations := ann, code := .ref code, closureTuple := ct, builtins := builtinsNs }
noncomputable abbrev fdGet : FuncData := fdM (mst 8 1) "__get__" "_tuplegetter.__get__" "cpy313.importlib.metadata._collections" 362 (.ref 108) none 114 [] .none
theorem K_get (w : World) : (K01 w).lookup 115 = some ⟨.type "function", none, .func fdGet, #[]⟩ := by kernel_rfl

theorem instPair {h : Heap} {a : Addr} {d : Option Addr} {o : Obj} (e : h.get? a = some o) (hc : o.cls = .ref 257) (hs : notCls o = true) (hd : o.dict = none) : InstAt h a o 257 none := by
  refine ⟨e, hc, hs, ?_⟩
  rw [hd]; trivial

section
variable {w : World} {A : Around} {E : Value → Shared → Prop} {s : Shared}
theorem looks_pair (K : (K01 w).In s.heap) {M : Model} {a : Addr} {o : Obj} (e : s.heap.get? a = some o) (hc : o.cls = .ref 257) : Looks M s.heap (isInstance (.ref a) (.type "tuple")) true := by
  have T : Looks M s.heap (typeOf (.ref a)) (.ref 257) := hc ▸ (Looks.ld e).andThen .now
  exact T.andThen (looks_mroIn K (by kernel_rfl))

theorem tup_get (K : (K01 w).In s.heap) {a : Addr} {o : Obj} {items : Array Value} {n : Nat} {k : Int} {u : Tok} {j : Nat} {x : Value} {Q : Value → Shared → Prop} (e : s.heap.get? a = some o) (hc : o.cls = .ref 257) (hd : o.data = .seq items n)
    (hlo : -(2 ^ 63) ≤ k) (hhi : k < 2 ^ 63) (hj : seqIndex? k items.size = some j) (hx : items[j]? = some x) (h : Q x s) :
    wpAny (model pw w) A (PySem.call (.builtin "tuple.__getitem__") [.ref a, .int k u]) Q E s := by
  refine wpAny_call (codeAny_call_builtin slot_tuple_getitem.plain entry_tuple_getitem ?_)
  refine @check_slot (model pw w) _ _ s "tuple.__getitem__" "tuple" "__getitem__" (.ref a) [.int k u] [] _ (by decide +kernel) (by decide +kernel) (looks_pair K e hc) (args_tuple_getitem (.ref a) (.int k u)) ?_
  show wpAny _ _ (Builtin.Tuple.tupleItemsOf (.ref a) >>= _) _ _ s
  refine wpAny_bind ?_
  unfold Builtin.Tuple.tupleItemsOf seqItems?
  refine wpAny_bind (wpAny_bind (wpAny_load e ?_))
  rw [hd]
  refine wpAny_pure (wpAny_pure ?_)
  refine wpAny_bind (wpAny_typeOf (typeIs_int s k u) ?_)
  rw [if_neg (by decide)]
  refine wpAny_bind (wpAny_specialOf (T := "int") (typeIs_int s k u) int_index ?_)
  rw [if_neg (by simp)]
  refine wpAny_bind (wpAny_of_eq (a := k) rfl ?_)
  rw [if_neg (by simp only [Bool.or_eq_true, decide_eq_true_eq]; omega)]
  simp only [hj, Option.bind_some, hx]
  exact wpAny_pure h
end
end Mine
end

section
open PySem PySem.W PyProof.Rows PySem.Calls
set_option maxRecDepth 100000
set_option linter.all false
set_option maxHeartbeats 8000000
namespace Mine
open PySem (eval)

section
variable {w : World} {A : Around} {E : Value → Shared → Prop} {s : Shared}
local macro_rules | `(tactic| x_close) => `(tactic| (first | refine post_val (by assumption) ?_ | refine post_val (PySem.W.X.Mem.start _) ?_; first | rfl | kernel_rfl))
theorem type_of_pair (X : (KF w.params).In s.heap) (ok : OkA 100 A) (a : Addr) (d : Option Addr) (vs : Array Value) (n : Nat) (h : s.heap.get? a = some ⟨.ref 257, d, .seq vs n, #[]⟩) :
    wpAny (model pw w) A (PySem.call (.type "type") [.ref a]) (PostVal s (.ref 257)) E s := by
  refine litA ok fun l g => ?_
  x_run
theorem sub_pair (X : (KF w.params).In s.heap) (ok : OkA 100 A) :
    wpAny (model pw w) A (PySem.call (.builtin "issubclass") [.ref 257, .type "tuple"]) (PostVal s (.bool true)) E s := by
  refine litA ok fun l g => ?_
  x_run
end

section
variable {prog : Program} {w : World} {A : Around} {env : Env} {h : Heap} {S : Addr → Prop}
theorem EvT.isNone {x : Str} {v : Value} {p c pos : Pos} {k : Nat} (a : Var env h x v) (hd : (x == ("__debug__" : Str)) = false := by decide) : EvT prog w A env h (.Compare (.Name x p) [.Is] [.Constant .none k c] pos) (v == .none) := fun s E hs =>
  wpAny_isTrue_Compare1 (wpAny_Name (a _ _ _ _ s hs (by rw [eval_Constant]; exact wpAny_pure (is_none_gen (wpAny_truthy_bool ⟨rfl, Kp.refl s⟩)))) hd) (by with_unfolding_all rfl)
theorem EvT.not {e : Expr} {b : Bool} {pos : Pos} (a : EvT prog w A env h e b) : EvT prog w A env h (.UnaryOp .Not e pos) (!b) := fun s E hs => isTrue_not (wpAny_mono (a s E hs) (fun c s' q => ⟨by rw [q.1], q.2⟩) fun _ _ q => q)
theorem EvT.ofBool {e : Expr} {b : Bool} (a : EvD prog w A env h S e (.bool b)) (he : ∀ whole, isTrue e env whole = (do let v ← whole; standAt e.pos; holding [v] (truthy v)) := by intro _; rfl) : EvT prog w A env h e b := fun s E hs =>
  isTrue_plain (wpAny_mono (a s E hs) (fun v s' q => by
    obtain ⟨r, k⟩ := q
    (first | cases r using RD.atomE | cases r using RDs.nilE | cases r using RD.strE | cases r using RD.intE | cases r using RD.boolE | cases r using RD.noneE | cases r)
    exact wpAny_truthy_bool ⟨rfl, k⟩) fun _ _ q => q) (he _)

/-- what a call of a machine's function hands back -/
noncomputable def CallD (prog : Program) (w : World) (A : Around) (h : Heap) (f : Value) (ds : List D) (d : D) : Prop := ∀ (s : Shared) (S : Addr → Prop) (vs : List Value) (E : Value → Shared → Prop), Le h s.heap → RDs s.heap S vs ds →
  wpAny (model prog w) A (PySem.call f vs) (fun v s' => RD s'.heap (Fr1 S s.heap) v d ∧ Kp s s') E s
theorem EvD.callB {x : Str} {id : String} {p pos : Pos} {args : List Expr} {ds : List D} {d : D} (vf : Var env h x (.builtin id)) (a : EvDs prog w A env h S args ds) (hne : args ≠ []) (c : CallD prog w A h (.builtin id) ds d)
    (hd : (x == ("__debug__" : Str)) = false := by decide) : EvD prog w A env h S (.Call (.Name x p) args [] pos) d := fun s E hs => by
  refine wpAny_Call_NameR (wpAny_Name (vf _ _ _ _ s hs ?_) hd)
  cases args with
  | nil => exact absurd rfl hne
  | cons e es =>
    cases a with
    | cons a1 ar hn =>
    have a' : EvDs prog w A env h S (e :: es) _ := .cons a1 ar hn
    have q := a'.spliced (pos := pos) (E := E) hs (Q := fun vs s' => wpAny (model prog w) A (PySem.call (.builtin id) ([] ++ vs) []) (fun v s'' => RD s''.heap (Fr1 S s.heap) v d ∧ Kp s s'') E s') fun vs s' r k =>
      wpAny_mono (c s' _ vs E (hs.trans k.le) r) (fun v s'' z => ⟨z.1.sub (fr1_fr1 k.le), k.tr z.2⟩) fun _ _ z => z
    have hp : (backTo pos (starEach (e :: es) env)).any (·.1) = false := by
      have : ∀ {es : List Expr} {ds}, EvDs prog w A env h S es ds → (backTo pos (starEach es env)).any (·.1) = false := by
        intro es ds z
        induction z with
        | nil => rfl
        | cons _ _ hn ih => rw [starEach_cons hn]; simpa [backTo] using ih
      exact this a'
    refine Calls.callWith_builtin hp ?_
    rw [starEach_cons hn] at q ⊢
    exact evalArgs_plain q
theorem EvD.callT {x : Str} {T : String} {p pos : Pos} {args : List Expr} {ds : List D} {d : D} (vf : Var env h x (.type T)) (a : EvDs prog w A env h S args ds) (hne : args ≠ []) (c : CallD prog w A h (.type T) ds d)
    (hd : (x == ("__debug__" : Str)) = false := by decide) : EvD prog w A env h S (.Call (.Name x p) args [] pos) d := fun s E hs => by
  refine wpAny_Call_NameR (wpAny_Name (vf _ _ _ _ s hs ?_) hd)
  cases args with
  | nil => exact absurd rfl hne
  | cons e es =>
    cases a with
    | cons a1 ar hn =>
    have a' : EvDs prog w A env h S (e :: es) _ := .cons a1 ar hn
    have q := a'.spliced (pos := pos) (E := E) hs (Q := fun vs s' => wpAny (model prog w) A (PySem.call (.type T) ([] ++ vs) []) (fun v s'' => RD s''.heap (Fr1 S s.heap) v d ∧ Kp s s'') E s') fun vs s' r k =>
      wpAny_mono (c s' _ vs E (hs.trans k.le) r) (fun v s'' z => ⟨z.1.sub (fr1_fr1 k.le), k.tr z.2⟩) fun _ _ z => z
    have hp : (backTo pos (starEach (e :: es) env)).any (·.1) = false := by
      have : ∀ {es : List Expr} {ds}, EvDs prog w A env h S es ds → (backTo pos (starEach es env)).any (·.1) = false := by
        intro es ds z
        induction z with
        | nil => rfl
        | cons _ _ hn ih => rw [starEach_cons hn]; simpa [backTo] using ih
      exact this a'
    refine PySem.callWith_type hp ?_
    rw [starEach_cons hn] at q ⊢
    exact evalArgs_plain q
end

/-- a call of a def of the text; the arguments are bound by a look -/
theorem call_fnL {w : World} {A : Around} {s : Shared} {f : Addr} {fd : FuncData} {vals : List Value} {binds : List (Str × Value)} {R : Result → Shared → Prop} (body : List Stmt) (hroom : A.depth < recursionLimit) (T : TopH w s.heap)
    (ho : (K01 w).lookup f = some ⟨.type "function", none, .func fd, #[]⟩) (code : Nat) (hcode : fd.code = .ref code) (hcd : codeRecB (K01 w) code fd.qualname = true) (hbody : fd.body = .stmts body) (hbind : Looks (model pw w) s.heap (bindArgs fd ⟨vals, []⟩) binds) (hclo : fd.closure = [])
    (hkind : ∀ x ∈ binds, fd.scope.names.lookup x.1 = some .local ∨ (fd.scope.names.lookup x.1 = some .cell ∧ ((cellsFrom (s.heap.objs.size + 1) fd.scope.names []).lookup x.1).isSome = true))
    (h : ∀ s₁, InCallC s (callEnvC fd s.heap.objs.size f).locals (bindL (callEnvC fd s.heap.objs.size f).kindOf binds fun _ => none) (callEnvC fd s.heap.objs.size f).cells
        (bindC (callEnvC fd s.heap.objs.size f).kindOf binds fun _ => none) s₁ → Kp s s₁ →
      wpAny (model pw w) (A.deeper (callEnvC fd s.heap.objs.size f)) (execs body (callEnvC fd s.heap.objs.size f)) (fun f s' => R (.ok (.ret (match f with | .ret v => v | _ => .none))) s')
        (fun e s' => wpAny (model pw w) (A.deeper (callEnvC fd s.heap.objs.size f)) (leaving (callEnvC fd s.heap.objs.size f) e) (fun _ s'' => R (.error e) s'') (fun e' s'' => R (.error e') s'') s') s₁)
    (hco : fd.scope.isCoroutine = false := by rfl) (hgen : fd.scope.isGenerator = false := by rfl) (hk : fd.scope.kind = .function := by rfl) :
    codeAny (model pw w) A (.call (.ref f) ⟨vals, []⟩) R s := by
  refine codeAny_call_function hroom (T.K _ _ ho) rfl hco hgen hbody (by rw [hcode]; exact codeRec_B T.K hcd) ?_
  refine hbind _ _ _ _ (fun _ _ e => e) ?_
  rw [hclo]
  refine wpAny_newFunctionEnv_cells hk hkind fun env he s' x => ?_
  subst he
  refine ⟨T.nl.keeps x.toInCall.keep, codeAny_func ?_⟩
  obtain ⟨h', tk, e, k⟩ := x.done
  exact h s' x (by rw [e]; exact Kp.of tk k)

section
variable {w : World} {A : Around} {E : Value → Shared → Prop} {s : Shared}
noncomputable abbrev envGet (N : Nat) : Env := callEnvC fdGet N 115

/-- `pair.name` and `pair.value`: the getter's text -/
theorem tg_get (T : TopH w s.heap) (ok : OkA 102 A) {tg dd : Addr} {idx : Int} {od : Obj} {tk : Tok} (hI : InstAt s.heap tg ⟨.ref 132, some dd, .plain, #[]⟩ 132 (some od)) (hf : findObj (K01 w) 132 (some od) "index" = some (.value (.int idx tk)))
    {a : Addr} {d : Option Addr} {vs : Array Value} {n : Nat} {j : Nat} {x : Value} (h : s.heap.get? a = some ⟨.ref 257, d, .seq vs n, #[]⟩) (h0 : 0 ≤ idx) (h1 : idx < 2 ^ 63) (hj : seqIndex? idx vs.size = some j) (hx : vs[j]? = some x) :
    codeAny (model pw w) A (.call (.ref 115) ⟨[.ref tg, .ref a, .ref 257], []⟩) (fun r s' => r = .ok (.ret x) ∧ Kp s s') s := by
  refine call_fnL (binds := [("self", .ref tg), ("obj", .ref a), ("objtype", .ref 257)]) _ ok.room T (K_get w) 114 rfl (by kernel_rfl) rfl (Looks.of_peek T.K (by kernel_rfl)) rfl (fun y hy => ?_) fun s₁ X k => ?_
  · rcases List.mem_cons.mp hy with rfl | hy
    · exact .inl (by rfl)
    rcases List.mem_cons.mp hy with rfl | hy
    · exact .inl (by rfl)
    rcases List.mem_singleton.mp hy with rfl
    exact .inl (by rfl)
  generalize hN : s.heap.objs.size = N at *
  have okA : OkA 101 (A.deeper (envGet N)) := OkA.deeper ok _
  generalize hA' : A.deeper (callEnvC fdGet N 115) = A' at *
  have F := Frm.ofCall X
  have vo : Var (envGet N) s₁.heap "obj" (.ref a) := F.loc rfl rfl rfl
  have vs' : Var (envGet N) s₁.heap "self" (.ref tg) := F.loc rfl rfl rfl
  have T1 := T.mono k.le
  have K1 := T1.K
  refine wpAny_execs_cons (wpAny_If (wpAny_mono ((EvT.isNone vo) s₁ _ fun _ _ e => e) (fun b s₂ h₂ => ?_) fun _ _ q => q))
  obtain ⟨rfl, k2⟩ := h₂
  rw [if_neg (by simp)]
  refine wpAny_execs_nil ?_
  have F2 := F.kp k2
  have T2 := T1.mono k2.le
  have a2 : s₂.heap.get? a = _ := F2.keep _ _ h
  have vi : Var (envGet N) s₂.heap "issubclass" (.builtin "issubclass") := Var.bi T2 rfl rfl rfl rfl (by kernel_rfl) (by decide) (by rfl)
  have vty : Var (envGet N) s₂.heap "type" (.type "type") := Var.bi T2 rfl rfl rfl rfl (by kernel_rfl) (by decide) (by rfl)
  have vtu : Var (envGet N) s₂.heap "tuple" (.type "tuple") := Var.bi T2 rfl rfl rfl rfl (by kernel_rfl) (by decide) (by rfl)
  have ci : EvT pw w A' (envGet N) s₂.heap _ true := EvT.ofBool (S := fun _ => False) (EvD.callB (p := ⟨99, 15, 99, 25⟩) (pos := ⟨99, 15, 99, 43⟩) (ds := [.atom (.ref 257), .atom (.type "tuple")]) (d := .bool true) vi
    (.cons (EvD.callT (p := ⟨99, 26, 99, 30⟩) (pos := ⟨99, 26, 99, 35⟩) (ds := [.atom (.ref a)]) vty (.cons (EvD.name (pos := ⟨99, 31, 99, 34⟩) (vo.mono k2.le) (.atom _)) .nil rfl) (by simp) (fun s3 S3 vs3 E3 hs3 r3 => by
        cases r3 using RDs.consE with
        | cons r3 r4 =>
        (first | cases r4 using RD.atomE | cases r4 using RDs.nilE | cases r4 using RD.strE | cases r4 using RD.intE | cases r4 using RD.boolE | cases r4 using RD.noneE | cases r4)
        (first | cases r3 using RD.atomE | cases r3 using RDs.nilE | cases r3 using RD.strE | cases r3 using RD.intE | cases r3 using RD.boolE | cases r3 using RD.noneE | cases r3)
        exact wpAny_mono (type_of_pair (T2.mono hs3).K (okA.weak (by decide)) a d vs n (hs3 _ _ a2)) (fun v s' q => ⟨by rw [q.1]; exact .atom _, q.2⟩) fun _ _ q => q))
      (.cons (EvD.name (pos := ⟨99, 37, 99, 42⟩) vtu (.atom _)) .nil rfl) rfl) (by simp) (fun s3 S3 vs3 E3 hs3 r3 => by
        cases r3 using RDs.consE with
        | cons r3 r4 =>
        (first | cases r3 using RD.atomE | cases r3 using RDs.nilE | cases r3 using RD.strE | cases r3 using RD.intE | cases r3 using RD.boolE | cases r3 using RD.noneE | cases r3)
        cases r4 using RDs.consE with
        | cons r4 r5 =>
        (first | cases r5 using RD.atomE | cases r5 using RDs.nilE | cases r5 using RD.strE | cases r5 using RD.intE | cases r5 using RD.boolE | cases r5 using RD.noneE | cases r5)
        (first | cases r4 using RD.atomE | cases r4 using RDs.nilE | cases r4 using RD.strE | cases r4 using RD.intE | cases r4 using RD.boolE | cases r4 using RD.noneE | cases r4)
        exact wpAny_mono (sub_pair (T2.mono hs3).K (okA.weak (by decide))) (fun v s' q => ⟨by rw [q.1]; exact .bool _, q.2⟩) fun _ _ q => q))
  refine wpAny_execs_cons (wpAny_If (wpAny_mono ((EvT.not ci) s₂ _ fun _ _ e => e) (fun b s₃ h₃ => ?_) fun _ _ q => q))
  obtain ⟨rfl, k3⟩ := h₃
  rw [if_neg (by simp)]
  refine wpAny_execs_nil ?_
  have F3 := F2.kp k3
  have T3 := T2.mono k3.le
  have a3 : s₃.heap.get? a = _ := F3.keep _ _ h
  refine wpAny_execs_cons (wpAny_Return_some (call_meth rfl ?_))
  refine wpAny_Name (vtu _ _ _ _ s₃ k3.le ?_) (by decide)
  intro pl
  refine getMethod_tupleItem ?_
  dsimp only
  refine Calls.callWith_builtin (by rfl) (Calls.evalArgs_plain (Calls.spliced_cons ?_))
  refine wpAny_Name ((vo.mono (k2.tr k3).le) _ _ _ _ _ (fun _ _ e => e) ?_) (by decide)
  refine Calls.spliced_cons (Attribute_name ?_)
  refine wpAny_Name ((vs'.mono (k2.tr k3).le) _ _ _ _ _ (fun _ _ e => e) ?_) (by decide)
  have Ki : InstAt s₃.heap tg ⟨.ref 132, some dd, .plain, #[]⟩ 132 (some od) := ⟨F3.keep _ _ hI.at_, hI.cls, hI.no, F3.keep _ _ hI.dict⟩
  refine get_value T3.K Ki (by kernel_rfl) hf (by rfl) ?_
  refine Calls.spliced_nil ?_
  show wpAny _ _ (PySem.call (.builtin "tuple.__getitem__") [.ref a, .int idx tk]) _ _ { s₃ with toks := s₃.toks + 1 + 1 }
  refine tup_get (s := { s₃ with toks := s₃.toks + 1 + 1 }) T3.K a3 rfl rfl (by omega) h1 hj hx ?_
  exact ⟨rfl, (k.tr (k2.tr k3)).tr (Kp.tk _ _)⟩
end
end Mine
end

section
open PySem PySem.W PyProof.Rows PySem.Calls
set_option maxRecDepth 100000
set_option linter.all false
set_option maxHeartbeats 2000000
namespace Mine
open PySem (eval)

section
variable {prog : Program} {w : World} {A : Around} {E : Value → Shared → Prop} {s : Shared} {I : Addr} {fp wr : List Addr} {G : Array GenState → Array GenState → Prop} {n : Nat} {P : Nat → Value → Prop} {St : Nat → Shared → Prop}

/-- a list is filled from an iterator -/
theorem ext_iter {R : Result → Shared → Prop} {T : String} (W : WalksS prog w A.in1 I fp wr G n P St) (hT : ∀ i s, St i s → s.TypeIs (.ref I) T) (h1 : (T == "list") = false) (h2 : (T == "tuple") = false)
    (hint : ∀ (s : Shared) (Q : Bool → Shared → Prop), St 0 s → (∀ b, Q b s) → wpAny (model prog w) A.in1 (Builtin.List.listLengthHint (.ref I)) Q (fun e s' => R (.error e) s') s)
    (hst : St 0 s) (S : Addr) (hSf : S ∉ fp) (hI : I ∈ fp) (res : Value) {c : Nat} (hS : s.heap.get? S = some { cls := .type "list", dict := none, data := .seq #[] c, slots := #[] })
    (hR : ∀ s' acc c', Moved (S :: wr) G s s' → s'.heap.get? S = some { cls := .type "list", dict := none, data := .seq acc c', slots := #[] } → ItemsOf P acc n → R (.ok (.ret res)) s') (hn : n ≤ sizeLine) :
    wpAny (model prog w) A.in1 (Builtin.List.listExtendWith (.ref S) (.ref I) res)
      (fun fin s' => match fin with | .done f => R (.ok f) s' | .again c' => c'.quiet = true ∧ codeAny (model prog w) A c' R s') (fun e s' => R (.error e) s') s := by
  have hSI : S ≠ I := fun e => hSf (e ▸ hI)
  unfold Builtin.List.listExtendWith
  refine wpAny_bind (wpAny_typeOf (hT 0 _ hst) ?_)
  have hs : Builtin.List.listSameRef (.ref S) (.ref I) = false := by simp [Builtin.List.listSameRef, hSI]
  have e1 : (Value.type T == Value.type "list") = false := by
    rw [← h1]; rw [Bool.eq_iff_iff]; simp
  have e2 : (Value.type T == Value.type "tuple") = false := by
    rw [← h2]; rw [Bool.eq_iff_iff]; simp
  simp only [hs, e1, e2, Bool.or_false, Bool.false_eq_true, if_false]
  refine wpAny_bind (W.self 0 _ _ _ hst ?_)
  refine wpAny_bind (wpAny_holding (hint _ _ hst fun b => ?_))
  have fin : ∀ (s₁ : Shared) c₁, s₁.heap.get? S = some { cls := .type "list", dict := none, data := .seq #[] c₁, slots := #[] } → St 0 s₁ → Moved (S :: wr) G s s₁ →
      wpAny (model prog w) A.in1 (again (.builtin "list.extend.loop" ⟨[.ref S, .ref I, res], []⟩)) (fun fin s' => match fin with | .done f => R (.ok f) s' | .again c' => c'.quiet = true ∧ codeAny (model prog w) A c' R s') (fun e s' => R (.error e) s') s₁ := fun s₁ c₁ hS₁ hst₁ hm =>
    wpAny_pure ⟨plainId_quiet F.plain_extend_loop _, codeAny_extend_loopS W hn _ hSf _ n 0 _ _ _ rfl (Nat.zero_le _) hst₁ hS₁ (ItemsOf.nil P) fun s' acc' c' hm' hS' hacc => hR s' acc' c' (Moved.trans W.gtrans hm hm') hS' hacc⟩
  split
  · refine wpAny_bind (wpAny_rule (wpAny_bind ?_))
    show wpAny _ A.in1 (updateSeq S (·.push .none) >>= fun _ => updateSeq S (·.pop)) _ _ _
    refine wpAny_bind (wpAny_updateSeq hS rfl ?_)
    have hS₂ := Heap.get?_update_self (Obj.mapSeq (·.push Value.none)) hS rfl
    refine wpAny_updateSeq hS₂ rfl ?_
    have hS₃ := Heap.get?_update_self (Obj.mapSeq (·.pop)) hS₂ rfl
    have oth : ∀ b o, b ≠ S → s.heap.get? b = some o → ((s.heap.update S (Obj.mapSeq (·.push Value.none))).update S (Obj.mapSeq (·.pop))).get? b = some o :=
      fun b o hb e => (Heap.get?_update_other _ _ (Ne.symm hb)).trans ((Heap.get?_update_other _ _ (Ne.symm hb)).trans e)
    refine fin _ _ hS₃ (W.frame 0 s _ s.toks hst (Nat.le_refl _) fun b hb o e => oth b o (fun h => hSf (h ▸ hb)) e) ((Moved.refl W.grefl).then_heap (Nat.le_refl _) fun b o hb e => oth b o (fun h => hb (h ▸ List.mem_cons_self)) e)
  · exact fin _ _ hS hst (Moved.refl W.grefl)

/-- list(iterator) -/
theorem list_iter {T : String} {Q : Value → Shared → Prop} (W : WalksS prog w A.in1.in1 I fp wr G n P St) (hT : ∀ i s, St i s → s.TypeIs (.ref I) T) (h1 : (T == "list") = false) (h2 : (T == "tuple") = false)
    (hint : ∀ (s : Shared) (Q : Bool → Shared → Prop) (E : Value → Shared → Prop), St 0 s → (∀ b, Q b s) → wpAny (model prog w) A.in1.in1 (Builtin.List.listLengthHint (.ref I)) Q E s)
    (hst : St 0 s) (hfp : ∀ b ∈ fp, b < s.heap.objs.size) (hI : I ∈ fp) (hn : n ≤ sizeLine)
    (hQ : ∀ s' acc' c', Moved (s.heap.objs.size :: wr) G { s with heap := s.heap.push { cls := .type "list", data := .seq #[] } } s' →
      s'.heap.get? s.heap.objs.size = some { cls := .type "list", dict := none, data := .seq acc' c', slots := #[] } → ItemsOf P acc' n → Q (.ref s.heap.objs.size) s') :
    wpAny (model prog w) A (PySem.call (.type "list") [.ref I]) Q E s := by
  have hSf : s.heap.objs.size ∉ fp := fun hm => Nat.lt_irrefl _ (hfp _ hm)
  refine callType_codes (Q₁ := fun obj s₁ => obj = .ref s.heap.objs.size ∧ s₁ = { s with heap := s.heap.push { cls := .type "list", data := .seq #[] } }) F.called_list (F.typeCall_list_1 _) F.entry_list_init
    (code_list_new _ ⟨rfl, rfl⟩) fun obj s₁ h₁ => ?_
  obtain ⟨rfl, rfl⟩ := h₁
  have hS : (s.heap.push { cls := .type "list", data := .seq #[] }).get? s.heap.objs.size = some { cls := .type "list", data := .seq #[] } := Heap.get?_push_size _ rfl
  refine ⟨⟨_, hS, rfl⟩, F.args_list_init_2 _ _, ?_⟩
  show wpAny _ A.in1.in1 (do let old ← Builtin.List.listItems (.ref s.heap.objs.size); Builtin.List.listUpdate (.ref s.heap.objs.size) (fun _ => #[]); letGo old.toList.reverse; Builtin.List.listExtendWith (.ref s.heap.objs.size) (.ref I) .none) _ _ _
  refine wpAny_bind ?_
  unfold Builtin.List.listItems
  refine wpAny_bind (wpAny_seqItems hS rfl (wpAny_pure ?_))
  show wpAny _ A.in1.in1 (updateSeq s.heap.objs.size (fun _ => #[]) >>= fun _ => letGo (#[] : Array Value).toList.reverse >>= fun _ => Builtin.List.listExtendWith (.ref s.heap.objs.size) (.ref I) .none) _ _ _
  refine wpAny_bind (wpAny_updateSeq hS rfl ?_)
  have hS₂ := Heap.get?_update_self (Obj.mapSeq (fun _ => (#[] : Array Value))) hS rfl
  have oth : ∀ b o, b ≠ s.heap.objs.size → (s.heap.push { cls := .type "list", data := .seq #[] }).get? b = some o → ((s.heap.push { cls := .type "list", data := .seq #[] }).update s.heap.objs.size (Obj.mapSeq (fun _ => (#[] : Array Value)))).get? b = some o :=
    fun b o hb e => (Heap.get?_update_other _ _ (Ne.symm hb)).trans e
  refine wpAny_bind (wpAny_letGo ?_)
  have hst₁ := W.frame 0 s (s.heap.push { cls := .type "list", data := .seq #[] }) s.toks hst (Nat.le_refl _) fun b _ o e => Heap.get?_push_of_some _ e
  refine ext_iter W hT h1 h2 (fun s Q => hint s Q _) (W.frame 0 { s with heap := s.heap.push { cls := .type "list", data := .seq #[] } } _ s.toks hst₁ (Nat.le_refl _) fun b hb o e => oth b o (fun h => hSf (h ▸ hb)) e) _ hSf hI .none hS₂ (fun s' acc' c' hm hS' hacc => ?_) hn
  exact ⟨rfl, hQ s' acc' c' (Moved.trans W.gtrans ((Moved.refl W.grefl).then_heap (Nat.le_refl _) fun b o hb e => oth b o (fun h => hb (h ▸ List.mem_cons_self)) e) hm) hS' hacc⟩

/-- collect of an iterator -/
theorem collect_iter {T : String} {Q : List Value → Shared → Prop} (W : WalksS prog w A.in1 I fp wr G n P St) (hT : ∀ i s, St i s → s.TypeIs (.ref I) T) (h1 : (T == "list") = false) (h2 : (T == "tuple") = false)
    (hint : ∀ (s : Shared) (Q : Bool → Shared → Prop) (E : Value → Shared → Prop), St 0 s → (∀ b, Q b s) → wpAny (model prog w) A.in1 (Builtin.List.listLengthHint (.ref I)) Q E s)
    (hst : St 0 s) (hfp : ∀ b ∈ fp, b < s.heap.objs.size) (hI : I ∈ fp) (hn : n ≤ sizeLine)
    (hQ : ∀ s' acc, Moved wr G s s' → ItemsOf P acc n → Q acc.toList s') : wpAny (model prog w) A (collect (.ref I)) Q E s := by
  have hSf : s.heap.objs.size ∉ fp := fun hm => Nat.lt_irrefl _ (hfp _ hm)
  unfold collect
  refine wpAny_bind (wpAny_runValue (codeAny_builtin F.entry_proto_collect ?_))
  rw [Around.under_plainId F.plain_proto_collect _]
  show wpAny _ A.in1 (newList [] >>= fun l => again (.builtin "list.__iadd__" ⟨[l, .ref I], []⟩)) _ _ s
  refine wpAny_bind (wpAny_newObj_type ?_ (by show (0 : Nat) ≤ sizeLine; decide))
  refine wpAny_pure ⟨plainId_quiet F.plain_list_iadd _, codeAny_builtin F.entry_list_iadd ?_⟩
  rw [Around.under_plainId F.plain_list_iadd _]
  have hst₁ := W.frame 0 s (s.heap.push { cls := .type "list", data := .seq ([] : List Value).toArray }) s.toks hst (Nat.le_refl _) fun b _ o e => Heap.get?_push_of_some _ e
  have hS₁ : (s.heap.push { cls := .type "list", data := .seq ([] : List Value).toArray }).get? s.heap.objs.size = some { cls := .type "list", data := .seq ([] : List Value).toArray } := Heap.get?_push_size _ rfl
  show wpAny _ A.in1 (Builtin.List.listExtendWith (.ref s.heap.objs.size) (.ref I) (.ref s.heap.objs.size)) _ _ _
  let RR : Result → Shared → Prop := fun r s' => match r with
    | .ok (.ret v) => wpAny (model prog w) A (match v with
      | .ref a => (do match (← load a).data with
          | .seq xs _ => pure xs.toList
          | _ => unsupported "internal:collect")
      | _ => unsupported "internal:collect") Q E s'
    | .ok _ => False
    | .error e => E e s'
  refine ext_iter (R := RR) W hT h1 h2 (fun s Q => hint s Q _) hst₁ _ hSf hI _ hS₁ (fun s' acc' c' hm hS' hacc => ?_) hn
  show wpAny _ A (load s.heap.objs.size >>= _) _ _ s'
  refine wpAny_bind (wpAny_load hS' ?_)
  exact wpAny_pure (hQ s' acc' (Moved.drop_new (o := { cls := .type "list", data := .seq ([] : List Value).toArray }) (tk := s.toks) hm (Nat.le_refl _)) hacc)
end
end Mine
end

section
open PySem PySem.W PyProof.Rows PySem.Calls
set_option maxRecDepth 100000
set_option linter.all false
set_option maxHeartbeats 2000000
namespace Mine
open PySem (eval)

/-- an object that holds a row of values, whatever its class -/
noncomputable def SeqOf (h : Heap) (T : Addr) (vs : Array Value) : Prop := ∃ o n, h.get? T = some o ∧ o.data = .seq vs n
theorem SeqOf.at {h h' : Heap} {T : Addr} {vs : Array Value} (x : SeqOf h T vs) (k : ∀ o, h.get? T = some o → h'.get? T = some o) : SeqOf h' T vs := let ⟨o, n, a, b⟩ := x; ⟨o, n, k o a, b⟩

section
variable {prog : Program} {w : World} {A : Around} {E : Value → Shared → Prop} {s : Shared}
theorem seq_next {it t : Addr} {i : Nat} {items : Array Value} {x : Value} {Q : Option Value → Shared → Prop} (hit : s.heap.IsTupleIter it t i) (ht : SeqOf s.heap t items) (hx : items[i]? = some x)
    (hQ : ∀ h', h'.IsTupleIter it t (i + 1) → Heap.SameBut it s.heap h' → Q (some x) { s with heap := h' }) : wpAny (model prog w) A (pyNext (.ref it)) Q E s := by
  obtain ⟨o, ho, hc, hd⟩ := id hit
  obtain ⟨ol, nl, hol, hdl⟩ := ht
  refine wpAny_bind (wpAny_attempt (wpAny_callSpecial?_slot (name := Str.ofString "__next__") hit.typeIs F.slot_tuple_iterator_next
    (wpAny_call_entry F.slot_tuple_iterator_next hit.typeIs F.entry_tuple_iterator_next ?_ (F.args_tuple_iterator_next_1 _))))
  refine wpAny_bind (m := field (.ref it) 0) (wpAny_field ho hd (x := .ref t) rfl ?_)
  show wpAny _ _ (if (Value.ref t == Value.none) = true then _ else _) _ _ s
  rw [if_neg (show ¬ ((Value.ref t == Value.none) = true) from Bool.false_ne_true)]
  refine wpAny_bind (m := field (.ref it) 1) (wpAny_field ho hd (x := .int i 0) rfl ?_)
  refine wpAny_bind (m := seqItems? (.ref t)) (wpAny_seqItems hol hdl ?_)
  simp only [Int.toNat_natCast, hx]
  refine wpAny_bind (wpAny_setField ho hd (by simp) (wpAny_pure ⟨x, rfl, wpAny_pure (hQ _ ?_ (Heap.SameBut.update ..))⟩))
  exact ⟨_, Heap.get?_update_self _ ho (Obj.isFreed_of_fields (Obj.data_mapFields hd _)), (Obj.cls_mapFields ..).trans hc, by rw [Obj.data_mapFields hd]; simp [rawInt]⟩
theorem seq_end {it t : Addr} {i : Nat} {items : Array Value} {Q : Option Value → Shared → Prop} (hh : A.handled = none) (hit : s.heap.IsTupleIter it t i) (ht : SeqOf s.heap t items) (hx : items[i]? = none)
    (hQ : ∀ h', Heap.ExtBut it s.heap h' → Q none { s with heap := h' }) : wpAny (model prog w) A (pyNext (.ref it)) Q E s := by
  obtain ⟨ol, nl, hol, hdl⟩ := ht
  by_cases hT : ol.cls = .type "tuple"
  · exact wpAny_pyNext_tuple_end hh hit ⟨ol, hol, hT, nl, hdl⟩ hx hQ
  obtain ⟨o, ho, hc, hd⟩ := id hit
  refine wpAny_bind (wpAny_attempt (wpAny_callSpecial?_slot (name := Str.ofString "__next__") hit.typeIs F.slot_tuple_iterator_next
    (wpAny_call_entry F.slot_tuple_iterator_next hit.typeIs F.entry_tuple_iterator_next ?_ (F.args_tuple_iterator_next_1 _))))
  refine wpAny_bind (m := field (.ref it) 0) (wpAny_field ho hd (x := .ref t) rfl ?_)
  show wpAny _ _ (if (Value.ref t == Value.none) = true then _ else _) _ _ s
  rw [if_neg (show ¬ ((Value.ref t == Value.none) = true) from Bool.false_ne_true)]
  refine wpAny_bind (m := field (.ref it) 1) (wpAny_field ho hd (x := .int i 0) rfl ?_)
  refine wpAny_bind (m := seqItems? (.ref t)) (wpAny_seqItems hol hdl ?_)
  simp only [Int.toNat_natCast, hx]
  refine wpAny_bind (wpAny_rule (wpAny_bind (wpAny_setField ho hd (by simp) ?_)))
  refine wpAny_bind (m := newExc (.type "StopIteration") []) ?_
  simp only [newExc, newTuple]
  refine wpAny_bind (wpAny_newObj_type ?_ (by show (0 : Nat) ≤ sizeLine; decide))
  refine wpAny_bind (m := firstArgMember _ _) (wpAny_of_eq (a := Value.none) (by first | rfl | (simp only [firstArgMember]; rfl)) ?_)
  refine wpAny_newObj_type ?_ (by size_fits)
  simp only [raiseNew]
  refine wpAny_bind (wpAny_handled ?_)
  first | rw [show A.in1.handled = none from hh] | rw [hh]
  refine wpAny_bind (wpAny_pure (wpAny_throw ?_))
  refine wpAny_bind (wpAny_isInstance (T := "StopIteration") (b := true) ⟨_, Heap.get?_push_size _ rfl, rfl⟩ isSubtype_stop ?_)
  exact wpAny_pure (hQ _ (((Heap.SameBut.update ..).extBut.push _).push _))

theorem walks_seq (hh : A.handled = none) (I T : Addr) (hne : T ≠ I) (items : Array Value) : Walks prog w A I [I, T] [I] items.size (fun i v => items[i]? = some v) (fun i h => h.IsTupleIter I T i ∧ SeqOf h T items) where
  sub := fun b hb => by simp at hb; simp [hb]
  frame := fun _ _ _ st hk => ⟨st.1.at fun o e => hk I (by simp) o e, st.2.at fun o e => hk T (by simp) o e⟩
  item := fun i s Q E hi st hQ => by
    refine seq_next st.1 st.2 (x := items[i]) (by simp [hi]) fun h' hit' hs' => ?_
    exact hQ _ h' s.toks (by simp [hi]) ⟨hit', st.2.at fun o e => hs'.extBut _ o hne e⟩ fun b o hb e => hs'.extBut b o (fun h => hb (by simp [h])) e
  done := fun s Q E st hQ => seq_end hh st.1 st.2 (by simp) fun h' he' => hQ h' s.toks fun b o hb e => he' b o (fun h => hb (by simp [h])) e
  self := fun _ _ _ _ st hQ => wpAny_pyIter_tupleiter st.1 hQ

theorem hint_tupit {s : Shared} {I T : Addr} {i : Nat} {Q : Bool → Shared → Prop} (h : s.heap.IsTupleIter I T i) (q : ∀ b, Q b s) : wpAny (model prog w) A (Builtin.List.listLengthHint (.ref I)) Q E s := by
  unfold Builtin.List.listLengthHint
  refine wpAny_bind (wpAny_specialOf h.typeIs F.nolen_tu ?_)
  show wpAny _ A (specialOf (Value.ref I) (Str.ofString "__length_hint__") >>= _) _ _ _
  refine wpAny_bind (wpAny_specialOf h.typeIs F.hint_tu ?_)
  (generalize hid : ("tuple_iterator.__length_hint__" : String) = id0; (fail_if_success (clear hid id0)); wp_delta; rw [show splitId id0 = some ("tuple_iterator", "__length_hint__") from by subst hid; decide +kernel]; subst hid)
  refine wpAny_bind (wpAny_isInstance (b := true) h.typeIs (by rw [isSubtype_type]; kernel_rfl) ?_)
  exact wpAny_pure (q _)

/-- list(iterator over a row) -/
theorem list_tupit {I T : Addr} {vs : Array Value} {Q : Value → Shared → Prop} (hh : A.handled = none) (hI : s.heap.IsTupleIter I T 0) (hT : SeqOf s.heap T vs) (hne : I ≠ T) (hn : vs.size ≤ sizeLine)
    (hQ : ∀ L s', s.heap.get? L = none → (∀ b o, b ≠ I → s.heap.get? b = some o → s'.heap.get? b = some o) → (∃ h' tk, s' = { s with heap := h', toks := tk }) → s'.heap.PlainList L vs → Q (.ref L) s') :
    wpAny (model prog w) A (PySem.call (.type "list") [.ref I]) Q E s := by
  have hTl : T < s.heap.objs.size := by obtain ⟨o, n, e, _⟩ := hT; exact Heap.lt_size e
  have hIl : I < s.heap.objs.size := by obtain ⟨o, e, _⟩ := hI; exact Heap.lt_size e
  refine list_iter (T := "tuple_iterator") (walks_seq (A := A.in1.in1) hh I T (Ne.symm hne) vs).toS (fun i s st => st.1.typeIs) (by decide) (by decide) (fun s Q E st q => hint_tupit st.1 q) ⟨hI, hT⟩
    (fun b hb => by
      rcases List.mem_cons.mp hb with rfl | hb
      · exact hIl
      · rw [List.mem_singleton.mp hb]; exact hTl) (List.mem_cons_self ..) hn fun s' acc c hm hS hacc => ?_
  have e : acc = vs := by
    refine Array.ext ?_ fun j h1 h2 => ?_
    · exact hacc.1
    · have : vs[j]? = some acc[j] := hacc.2 j acc[j] (by simp [h1])
      rw [Array.getElem?_eq_getElem h2] at this
      exact (Option.some.inj this).symm
  subst e
  refine hQ _ _ (new_none _) (fun b o hb e => hm.heap b o (fun z => ?_) (Heap.get?_push_of_some _ e)) ⟨s'.heap, s'.toks, ?_⟩ ⟨c, hS⟩
  · rcases List.mem_cons.mp z with rfl | z
    · rw [new_none] at e; cases e
    · exact hb (List.mem_singleton.mp z)
  · obtain ⟨h1, h2, h3, h4, h5⟩ := hm
    cases s'
    simp only at h2 h3 h4
    subst h2 h3 h4
    rfl
end
end Mine
end

section
open PySem PySem.W PyProof.Rows PySem.Calls
set_option maxRecDepth 100000
set_option linter.all false
set_option maxHeartbeats 8000000
namespace Mine
open PySem (eval)

section
variable {s : Shared} {h' : Heap} {t : Nat} {news : List (Addr × Obj)}
/-- a map over a list, just made -/
noncomputable def PostMap (s : Shared) (f : Value) (l : Addr) (v : Value) (s' : Shared) : Prop := ∃ M T I, v = .ref M ∧ s'.heap.get? M = some ⟨.type "map", none, .fields #[.ref T, f], #[]⟩ ∧ s'.heap.get? T = some ⟨.type "tuple", none, .seq #[.ref I] 0, #[]⟩ ∧
  s'.heap.IsListIter I l 0 ∧ s.heap.get? M = none ∧ s.heap.get? T = none ∧ s.heap.get? I = none ∧ T < M ∧ I < T ∧ Kp s s'
theorem post_map {f : Value} {l M T I : Addr} (D : X.Mem s.heap h' [] news) (e1 : news[0]? = some (M, ⟨.type "map", none, .fields #[.ref T, f], #[]⟩)) (e2 : news[1]? = some (T, ⟨.type "tuple", none, .seq #[.ref I] 0, #[]⟩))
    (e3 : news[2]? = some (I, ⟨.type "list_iterator", none, .fields #[.ref l, .int 0 0], #[]⟩)) : PostMap s f l (.ref M) ⟨h', s.gens, s.drawn, t, s.os⟩ := by
  have h1 := mem_at D 0 e1
  have h2 := mem_at D 1 e2
  have h3 := mem_at D 2 e3
  exact ⟨M, T, I, rfl, h1.1, h2.1, ⟨_, h3.1, rfl, rfl⟩, h1.2, h2.2, h3.2, mem_gt D e1 e2 (by decide), mem_gt D e2 e3 (by decide), mem_kp D⟩
end
section
variable {w : World} {A : Around} {s : Shared} {E : Value → Shared → Prop}
local macro_rules | `(tactic| x_close) => `(tactic| exact post_map (by assumption) rfl rfl rfl)
theorem mk_map (X : (KF w.params).In s.heap) (ok : OkA 100 A) (l : Addr) (d : Option Addr) (n : Nat) (sl : Array (Option Value)) (vs : Array Value) (h : s.heap.get? l = some ⟨.type "list", d, .seq vs n, sl⟩) :
    wpAny (model pw w) A (PySem.call (.type "map") [.builtin "str.strip", .ref l]) (PostMap s (.builtin "str.strip") l) E s := by
  refine litA ok fun l g => ?_
  x_run
end

section
variable {w : World} {A : Around} {s : Shared} {E : Value → Shared → Prop}
local macro_rules | `(tactic| x_close) => `(tactic| first | exact ⟨rfl, Kp.refl _⟩ | (refine post_val (by assumption) ?_; first | rfl | kernel_rfl) | (refine post_val (PySem.W.X.Mem.start _) ?_; first | rfl | kernel_rfl))
theorem isi_pair85 (X : (KF w.params).In s.heap) (ok : OkA 100 A) (a : Addr) (d : Option Addr) (vs : Array Value) (n : Nat) (h : s.heap.get? a = some ⟨.ref 257, d, .seq vs n, #[]⟩) : wpAny (model pw w) A (PySem.call (.builtin "isinstance") [.ref a, .ref 85]) (PostVal s (.bool false)) E s := by
  refine litA ok fun l g => ?_
  x_run
theorem isi_str85 (X : (KF w.params).In s.heap) (ok : OkA 100 A) (x : Str) (t : Tok) : wpAny (model pw w) A (PySem.call (.builtin "isinstance") [.str x t, .ref 85]) (PostVal s (.bool true)) E s := by
  refine litA ok fun l g => ?_
  x_run
end
section
variable {w : World} {A : Around} {s : Shared} {E : Value → Shared → Prop}
local macro_rules | `(tactic| x_close) => `(tactic| exact post_tup_old (by assumption) rfl (by assumption))
theorem iter_pair (X : (KF w.params).In s.heap) (ok : OkA 100 A) (a : Addr) (d : Option Addr) (n : Nat) (vs : Array Value) (h : s.heap.get? a = some ⟨.ref 257, d, .seq vs n, #[]⟩) :
    wpAny (model pw w) A (PySem.call (.builtin "iter") [.ref a]) (PostTupIt s vs) E s := by
  refine litA ok fun l g => ?_
  x_run
end

noncomputable def docOf (st : Stmt) : Str := match fbody st with
  | .Expr (.Constant (.str s) _ _) _ :: _ => s
  | _ => ""
noncomputable abbrev fdAi : FuncData := { fdM (stOf 6) "always_iterable" "always_iterable" "cpy313.importlib.metadata._itertools" 338 (.ref 86) none 92 [] .none with doc := .str (docOf (stOf 6)) 360 }
theorem K_ai (w : World) : (K01 w).lookup 93 = some ⟨.type "function", none, .func fdAi, #[]⟩ := by kernel_rfl
noncomputable abbrev envAi (N : Nat) : Env := callEnvC fdAi N 93
noncomputable def ai (i : Nat) : Stmt := (fbody (stOf 6)).getD i (.Pass default)
theorem ai_body : fbody (stOf 6) = [ai 0, ai 1, ai 2, ai 3] := by rfl
theorem entry_iterB : entryFor table "iter" = some Builtin.«iter» := entryFor_of_tree (by kernel_rfl)
theorem args_iterB (a : Value) : argsOk "iter" ⟨[a], []⟩ := by unfold argsOk; kernel_rfl

section
variable {prog : Program} {w : World} {A : Around} {E : Value → Shared → Prop} {s : Shared} {env : Env} {h : Heap}
/-- `iter(v)` -/
theorem call_iterB {v : Value} {Q : Value → Shared → Prop} (h : wpAny (model prog w) A.in1 (pyIter v) Q E s) : wpAny (model prog w) A (PySem.call (.builtin "iter") [v]) Q E s := by
  refine call_function_entry (by decide +kernel) (by decide +kernel) entry_iterB (args_iterB _) ?_
  unfold Builtin.«iter»
  refine wpAny_bind (m := someArgs "iter" 1 2 _) (wpAny_of_eq (a := [v]) (by first | rfl | kernel_rfl) ?_)
  exact wpAny_bind (wpAny_mono h (fun r s' q => wpAny_pure ⟨_, rfl, q⟩) fun _ _ q => q)
theorem EvT.notNone {x : Str} {v : Value} {p c pos : Pos} {k : Nat} (a : Var env h x v) (hv : v ≠ .none) (hd : (x == ("__debug__" : Str)) = false := by decide) : EvT prog w A env h (.Compare (.Name x p) [.IsNot] [.Constant .none k c] pos) true := fun s E hs =>
  wpAny_isTrue_Compare1 (wpAny_Name (a _ _ _ _ s hs (by rw [eval_Constant]; exact wpAny_pure (isnot_none_ne hv (wpAny_truthy_bool ⟨rfl, Kp.refl s⟩)))) hd) (by with_unfolding_all rfl)
end

section
variable {w : World} {A : Around} {E : Value → Shared → Prop} {s s₀ : Shared} {N : Nat} {m cm : Str → Option Value}
/-- `return iter((..))` -/
theorem ai_ret {es : List Expr} {ds : List D} {its : Array Value} {p1 p2 p3 p4 : Pos} {k : Nat} {Q : Flow → Shared → Prop} (T : TopH w s₀.heap) (F : Frm s₀ (envAi N) m cm s) (ev : EvDs pw w A (envAi N) s.heap (fun _ => False) es ds) (hds : ∀ {h S vs}, RDs h S vs ds → vs = its.toList) (hsz : ds.length ≤ sizeLine)
    (hQ : ∀ r s', PostTupIt s₀ its r s' → Q (.ret r) s') : wpAny (model pw w) A (exec (.Return (some (.Call (.Name "iter" p1) [.Tuple es k p2] [] p3)) p4) (envAi N)) Q E s := by
  refine wpAny_Return_some (wpAny_Call_NameR (wpAny_Name (Var.bi (T.mono F.keep) rfl (by rfl) rfl rfl (by kernel_rfl) (v := .builtin "iter") (by decide) (by rfl) _ _ _ _ s (fun _ _ e => e) ?_) (by decide)))
  have htr : backTo p3 (starEach [.Tuple es k p2] (envAi N)) = [(false, eval (.Tuple es k p2) (envAi N))] := by rw [starEach_cons (by rfl)]; rfl
  rw [htr]
  refine Calls.callWith_builtin (by rfl) (Calls.evalArgs_plain (Calls.spliced_cons (wpAny_mono ((EvD.tuple (k := k) (pos := p2) ev hsz) s _ fun _ _ e => e) (fun r s2 h2 => Calls.spliced_nil ?_) fun _ _ q => q)))
  obtain ⟨r2, k2⟩ := h2
  cases r2 using RD.tupE with
  | tup sa ea ca da ra =>
  rename_i T' o vs n
  have hv := hds ra
  have hv : vs = its := Array.ext' hv
  subst hv
  have F2 := F.kp k2
  refine call_iterB (wpAny_pyIter_tuple ⟨o, ea, ca, n, da⟩ ?_)
  have k3 : Kp s2 { s2 with heap := s2.heap.push { cls := .type "tuple_iterator", data := .fields #[.ref T', .int 0 0] } } := Kp.of' fun b o e => Heap.get?_push_of_some _ e
  have nw : s₀.heap.get? s2.heap.objs.size = none := by
    cases q : s₀.heap.get? s2.heap.objs.size with
    | none => rfl
    | some o => exact absurd (Heap.lt_size (F2.keep _ _ q)) (Nat.lt_irrefl _)
  exact hQ _ _ ⟨s2.heap.objs.size, T', rfl, Heap.get?_push_size _ rfl, ⟨o, n, k3.le _ _ ea, .inl ca, da⟩, nw, Nat.ne_of_gt (Heap.lt_size ea), (F2.kp k3).kpAll⟩

/-- the frame of always_iterable, ahead of its tests -/
theorem ai_pre {v bv : Value} {vals : List Value} {R : Result → Shared → Prop} (T : TopH w s.heap) (ok : OkA 101 A) (hb : Looks (model pw w) s.heap (bindArgs fdAi ⟨vals, []⟩) [("obj", v), ("base_type", bv)])
    (h : ∀ m cm s₁, Frm s (envAi s.heap.objs.size) m cm s₁ → m "obj" = some v → m "base_type" = some bv →
      wpAny (model pw w) (A.deeper (envAi s.heap.objs.size)) (execs [ai 1, ai 2, ai 3] (envAi s.heap.objs.size)) (fun f s' => R (.ok (.ret (match f with | .ret v => v | _ => .none))) s')
        (fun e s' => wpAny (model pw w) (A.deeper (envAi s.heap.objs.size)) (leaving (envAi s.heap.objs.size) e) (fun _ s'' => R (.error e) s'') (fun e' s'' => R (.error e') s'') s') s₁) :
    codeAny (model pw w) A (.call (.ref 93) ⟨vals, []⟩) R s := by
  refine call_fnL (binds := [("obj", v), ("base_type", bv)]) _ ok.room T (K_ai w) 92 rfl (by kernel_rfl) rfl hb rfl (fun y hy => ?_) fun s₁ X k => ?_
  · rcases List.mem_cons.mp hy with rfl | hy
    · exact .inl (by rfl)
    rcases List.mem_singleton.mp hy with rfl
    exact .inl (by rfl)
  have F := Frm.ofCall X
  show wpAny _ (A.deeper (envAi s.heap.objs.size)) (execs (fbody (stOf 6)) (envAi s.heap.objs.size)) _ _ _
  rw [ai_body]
  refine wpAny_execs_cons (wpAny_Expr (Constant_str ?_) (by rfl) (by rfl))
  exact h _ _ _ (F.kp (Kp.tk _ _)) rfl rfl

noncomputable abbrev IsiD (w : World) (h : Heap) (v bv : Value) (b : Bool) : Prop := ∀ (A : Around) (s : Shared) (E : Value → Shared → Prop), OkA 100 A → TopH w s.heap → Le h s.heap → wpAny (model pw w) A (PySem.call (.builtin "isinstance") [v, bv]) (PostVal s (.bool b)) E s

theorem Frm.ifT {test : Expr} {body orelse : List Stmt} {pos : Pos} {b : Bool} {env : Env} {Q : Flow → Shared → Prop} (F : Frm s₀ env m cm s) (te : EvT pw w A env s.heap test b) (h : ∀ s', Frm s₀ env m cm s' → Kp s s' → wpAny (model pw w) A (execs (if b = true then body else orelse) env) Q E s') :
    wpAny (model pw w) A (exec (.If test body orelse pos) env) Q E s := by
  refine wpAny_If (wpAny_mono (te s E fun _ _ e => e) (fun r s₁ q => ?_) fun _ _ q => q)
  obtain ⟨rfl, k⟩ := q
  have := h s₁ (F.kp k) k
  cases r <;> exact this

/-- what always_iterable does with no object -/
theorem ai_none1 {bv : Value} {vals : List Value} (T : TopH w s.heap) (ok : OkA 101 A) (hb : Looks (model pw w) s.heap (bindArgs fdAi ⟨vals, []⟩) [("obj", .none), ("base_type", bv)]) :
    codeAny (model pw w) A (.call (.ref 93) ⟨vals, []⟩) (fun r s' => ∃ v, r = .ok (.ret v) ∧ PostTupIt s #[] v s') s := by
  refine ai_pre T ok hb fun m cm s₁ F ho _ => ?_
  refine wpAny_execs_cons (F.ifT (EvT.isNone (F.loc rfl rfl ho)) fun s2 F2 k2 => ?_)
  show wpAny _ _ (execs [_] _) _ _ _
  refine wpAny_execs_cons (ai_ret T F2 .nil (its := #[]) (fun r => by cases r; rfl) (by decide) fun r s' P => ?_)
  exact ⟨r, rfl, P⟩

/-- the test of always_iterable -/
theorem ai_test {v bv : Value} {b : Bool} {A : Around} {Q : Flow → Shared → Prop} (T : TopH w s₀.heap) (ok : OkA 100 A) (F : Frm s₀ (envAi N) m cm s) (ho : m "obj" = some v) (hbt : m "base_type" = some bv) (hv : v ≠ .none) (hbv : bv ≠ .none) (hi : IsiD w s₀.heap v bv b)
    (h1 : b = true → ∀ r s', PostTupIt s₀ #[v] r s' → Q (.ret r) s') (h2 : b = false → ∀ s', Frm s₀ (envAi N) m cm s' → wpAny (model pw w) A (execs [ai 3] (envAi N)) Q E s') :
    wpAny (model pw w) A (execs [ai 1, ai 2, ai 3] (envAi N)) Q E s := by
  have t1 : EvT pw w A (envAi N) s.heap (.Compare (.Name "obj" ⟨81, 7, 81, 10⟩) [.Is] [.Constant .none 0 ⟨81, 14, 81, 18⟩] ⟨81, 7, 81, 18⟩) false := by
    have := EvT.isNone (prog := pw) (w := w) (A := A) (p := ⟨81, 7, 81, 10⟩) (c := ⟨81, 14, 81, 18⟩) (pos := ⟨81, 7, 81, 18⟩) (k := 0) (F.loc rfl rfl ho)
    rwa [show (v == Value.none) = false from by simpa using hv] at this
  refine wpAny_execs_cons (F.ifT t1 fun s2 F2 k2 => ?_)
  refine wpAny_execs_nil ?_
  have T2 := T.mono F2.keep
  have vi : Var (envAi N) s2.heap "isinstance" (.builtin "isinstance") := Var.bi T2 rfl (by rfl) rfl rfl (by kernel_rfl) (by decide) (by rfl)
  have t2 : EvT pw w A (envAi N) s2.heap (.Call (.Name "isinstance" ⟨83, 33, 83, 43⟩) [.Name "obj" ⟨83, 44, 83, 47⟩, .Name "base_type" ⟨83, 49, 83, 58⟩] [] ⟨83, 33, 83, 59⟩) b :=
    EvT.ofBool (S := fun _ => False) (EvD.callB (ds := [.atom v, .atom bv]) vi (.cons (EvD.name (F2.loc rfl rfl ho) (.atom _)) (.cons (EvD.name (F2.loc rfl rfl hbt) (.atom _)) .nil rfl) rfl) (by simp) fun s3 S3 vs3 E3 hs3 r3 => by
      cases r3 using RDs.consE with
      | cons r3 r4 =>
      cases r4 using RDs.consE with
      | cons r4 r5 =>
      (first | cases r5 using RD.atomE | cases r5 using RDs.nilE | cases r5 using RD.strE | cases r5 using RD.intE | cases r5 using RD.boolE | cases r5 using RD.noneE | cases r5)
      (first | cases r3 using RD.atomE | cases r3 using RDs.nilE | cases r3 using RD.strE | cases r3 using RD.intE | cases r3 using RD.boolE | cases r3 using RD.noneE | cases r3)
      (first | cases r4 using RD.atomE | cases r4 using RDs.nilE | cases r4 using RD.strE | cases r4 using RD.intE | cases r4 using RD.boolE | cases r4 using RD.noneE | cases r4)
      exact wpAny_mono (hi A s3 E3 ok (T2.mono hs3) (fun b o e => hs3 b o (F2.keep b o e))) (fun v s' q => ⟨by rw [q.1]; exact .bool _, q.2⟩) fun _ _ q => q)
  refine wpAny_execs_cons (F2.ifT (EvT.congr (EvT.and (EvT.notNone (F2.loc rfl rfl hbt) hbv) fun _ => t2) (Bool.true_and b)) fun s3 F3 k3 => ?_)
  cases b with
  | true =>
    show wpAny _ _ (execs [_] _) _ _ _
    refine wpAny_execs_cons (ai_ret T (ds := [.atom v]) F3 (.cons (EvD.name (F3.loc rfl rfl ho) (.atom _)) .nil rfl) (its := #[v]) (fun r => ?_) (by show (1 : Nat) ≤ sizeLine; decide) fun r s' P => h1 rfl r s' P)
    cases r using RDs.consE with
    | cons r1 r2 => (first | cases r2 using RD.atomE | cases r2 using RDs.nilE | cases r2 using RD.strE | cases r2 using RD.intE | cases r2 using RD.boolE | cases r2 using RD.noneE | cases r2); (first | cases r1 using RD.atomE | cases r1 using RDs.nilE | cases r1 using RD.strE | cases r1 using RD.intE | cases r1 using RD.boolE | cases r1 using RD.noneE | cases r1); rfl
  | false => exact wpAny_execs_nil (h2 rfl s3 F3)

/-- an instance of the base type: a row of one -/
theorem ai_one1 {v bv : Value} {vals : List Value} (T : TopH w s.heap) (ok : OkA 101 A) (hb : Looks (model pw w) s.heap (bindArgs fdAi ⟨vals, []⟩) [("obj", v), ("base_type", bv)]) (hv : v ≠ .none) (hbv : bv ≠ .none) (hi : IsiD w s.heap v bv true) :
    codeAny (model pw w) A (.call (.ref 93) ⟨vals, []⟩) (fun r s' => ∃ u, r = .ok (.ret u) ∧ PostTupIt s #[v] u s') s := by
  refine ai_pre T ok hb fun m cm s₁ F ho hbt => ?_
  exact ai_test T (ok.deeper _) F ho hbt hv hbv hi (fun _ r s' P => ⟨r, rfl, P⟩) fun h => nomatch h

/-- what can be gone over: its iterator -/
theorem ai_iter1 {v bv : Value} {vals : List Value} {P : Shared → Value → Shared → Prop} (T : TopH w s.heap) (ok : OkA 101 A) (hb : Looks (model pw w) s.heap (bindArgs fdAi ⟨vals, []⟩) [("obj", v), ("base_type", bv)]) (hv : v ≠ .none) (hbv : bv ≠ .none) (hi : IsiD w s.heap v bv false)
    (hp : ∀ (A : Around) (s' : Shared) (E : Value → Shared → Prop), OkA 100 A → TopH w s'.heap → Kp s s' → wpAny (model pw w) A (PySem.call (.builtin "iter") [v]) (fun r s'' => P s r s'') E s') :
    codeAny (model pw w) A (.call (.ref 93) ⟨vals, []⟩) (fun r s' => ∃ u, r = .ok (.ret u) ∧ P s u s') s := by
  refine ai_pre T ok hb fun m cm s₁ F ho hbt => ?_
  refine ai_test T (ok.deeper _) F ho hbt hv hbv hi (fun h => nomatch h) fun _ s2 F2 => ?_
  have T2 := T.mono F2.keep
  refine wpAny_execs_cons (wpAny_Try_except ?_)
  refine wpAny_execs_cons (wpAny_Return_some (wpAny_Call_NameR (wpAny_Name (Var.bi T2 rfl (by rfl) rfl rfl (by kernel_rfl) (v := .builtin "iter") (by decide) (by rfl) _ _ _ _ s2 (fun _ _ e => e) ?_) (by decide))))
  refine Calls.callWith_builtin (by rfl) (Calls.evalArgs_plain (Calls.spliced_cons (wpAny_Name (F2.loc rfl rfl ho _ _ _ _ s2 (fun _ _ e => e) ?_) (by decide))))
  refine Calls.spliced_nil (wpAny_mono (hp _ s2 _ (ok.deeper _) T2 F2.kpAll) (fun r s3 h3 => ?_) fun _ _ q => q)
  exact ⟨r, rfl, h3⟩
end

section
variable {w : World} {A : Around} {s : Shared} {E : Value → Shared → Prop}
theorem ai_call {v : Value} {P : Value → Shared → Prop} (h : codeAny (model pw w) A (.call (.ref 93) ⟨[v], []⟩) (fun r s' => ∃ u, r = .ok (.ret u) ∧ P u s') s) : wpAny (model pw w) A (PySem.call (.ref 93) [v]) P E s :=
  wpAny_call (codeAny_mono h fun r s' z => by obtain ⟨u, rfl, p⟩ := z; exact p)
theorem ai_none (T : TopH w s.heap) (ok : OkA 101 A) : wpAny (model pw w) A (PySem.call (.ref 93) [.none]) (PostTupIt s #[]) E s :=
  ai_call (ai_none1 (bv := .ref 85) T ok (Looks.of_peek T.K (by kernel_rfl)))
theorem ai_str (T : TopH w s.heap) (ok : OkA 101 A) (x : Str) (tk : Tok) : wpAny (model pw w) A (PySem.call (.ref 93) [.str x tk]) (PostTupIt s #[.str x tk]) E s :=
  ai_call (ai_one1 (v := .str x tk) (bv := .ref 85) T ok (Looks.of_peek T.K (by kernel_rfl)) (fun z => nomatch z) (fun z => nomatch z) fun A s E o T _ => isi_str85 T.K o x tk)
theorem ai_pair (T : TopH w s.heap) (ok : OkA 101 A) (a : Addr) (d : Option Addr) (n : Nat) (vs : Array Value) (h : s.heap.get? a = some ⟨.ref 257, d, .seq vs n, #[]⟩) :
    wpAny (model pw w) A (PySem.call (.ref 93) [.ref a]) (PostTupIt s vs) E s :=
  ai_call (ai_iter1 (v := .ref a) (bv := .ref 85) (P := fun s => PostTupIt s vs) T ok (Looks.of_peek T.K (by kernel_rfl)) (fun z => nomatch z) (fun z => nomatch z) (fun A s E o T k => isi_pair85 T.K o a d vs n (k _ _ h))
    fun A s' E o T k => wpAny_mono (iter_pair T.K o a d n vs (k.le _ _ h)) (fun v s2 q => by
      obtain ⟨I, T', rfl, e1, e2, e3, e4, e5⟩ := q
      refine ⟨I, T', rfl, e1, e2, ?_, e4, k.tr e5⟩
      cases z : s.heap.get? I with
      | none => rfl
      | some o => rw [k.le _ _ z] at e3; cases e3) fun _ _ q => q)
end
end Mine
end

section
open PySem PySem.W PyProof.Rows PySem.Calls
set_option maxRecDepth 100000
set_option linter.all false
set_option maxHeartbeats 2000000
namespace Mine
open PySem (eval)

theorem slot_map_next : Slot "map" "__next__" "map.__next__" :=
  .of (owner := "map") (n := "__next__") (by rw [typeLookup_type, builtinLookup_eq_fast]; kernel_rfl) (by decide +kernel) (by decide +kernel) (by decide +kernel)
    (by first | exact .inl (by decide +kernel) | exact .inr (by decide +kernel)) (by rw [isSubtype_type]; kernel_rfl)
theorem slot_map_iter : Slot "map" "__iter__" "map.__iter__" :=
  .of (owner := "map") (n := "__iter__") (by rw [typeLookup_type, builtinLookup_eq_fast]; kernel_rfl) (by decide +kernel) (by decide +kernel) (by decide +kernel)
    (by first | exact .inl (by decide +kernel) | exact .inr (by decide +kernel)) (by rw [isSubtype_type]; kernel_rfl)
theorem entry_map_next : entryFor table "map.__next__" = some Builtin.«map.__next__» := entryFor_of_tree (by kernel_rfl)
theorem entry_map_iter : entryFor table "map.__iter__" = some Builtin.«dict_keyiterator.__iter__» :=
  entryFor_alias (id' := "dict_keyiterator.__iter__") (by kernel_rfl) (by first | rfl | decide +kernel | (unfold String.splitOn; simp +decide [String.splitOnAux])) (by decide +kernel) (by kernel_rfl)
theorem args_map_next (a : Value) : argsOk "map.__next__" ⟨[a], []⟩ := by unfold argsOk; kernel_rfl
theorem args_map_iter (a : Value) : argsOk "map.__iter__" ⟨[a], []⟩ := by unfold argsOk; kernel_rfl
theorem nolen_map : typeLookup (.type "map") "__len__" = pure none := by rw [typeLookup_type, builtinLookup_eq_fast]; kernel_rfl
theorem nohint_map : typeLookup (.type "map") "__length_hint__" = pure none := by rw [typeLookup_type, builtinLookup_eq_fast]; kernel_rfl

/-- a map of `str.strip` over a list of texts, at place i -/
structure MapAt (M T I l : Addr) (vs : Array Value) (i : Nat) (h : Heap) : Prop where
  m : h.get? M = some ⟨.type "map", none, .fields #[.ref T, .builtin "str.strip"], #[]⟩
  t : h.get? T = some ⟨.type "tuple", none, .seq #[.ref I] 0, #[]⟩
  i : h.IsListIter I l i
  l : h.IsList l vs

section
variable {prog : Program} {w : World} {A : Around} {E : Value → Shared → Prop} {s : Shared}
theorem call_strip {x : Str} {t : Tok} {Q : Value → Shared → Prop} (h : ∀ t' k, Q (.str (Txt.strip x) t') { s with toks := k }) (hsz : x.length ≤ sizeLine) : wpAny (model prog w) A (PySem.call (.builtin "str.strip") [.str x t]) Q E s :=
  call_gives F.slot_str_strip (typeIs_str _ _ _) F.entry_str_strip (F.args_str_strip_1 _) (gives_str_strip x t) (post_val_or_made (fun _ => fits_stripped _ _ _ hsz) h)

theorem cs_item {it l : Addr} {i : Nat} {items : Array Value} {x : Value} {Q : Option Value → Shared → Prop} (hit : s.heap.IsListIter it l i) (hl : s.heap.IsList l items) (hx : items[i]? = some x)
    (hQ : ∀ h', h'.IsListIter it l (i + 1) → Heap.SameBut it s.heap h' → Q (some x) { s with heap := h' }) : wpAny (model prog w) A (callSpecial? (.ref it) (Str.ofString "__next__")) Q E s := by
  obtain ⟨o, ho, hc, hd⟩ := id hit
  obtain ⟨ol, hol, _, nl, hdl⟩ := hl
  refine wpAny_callSpecial?_slot hit.typeIs slot_listiter_next (wpAny_call_entry slot_listiter_next hit.typeIs entry_listiter_next ?_ (args_listiter_next _))
  refine wpAny_bind (m := field (.ref it) 0) (wpAny_field ho hd (x := .ref l) rfl ?_)
  show wpAny _ _ (if (Value.ref l == Value.none) = true then _ else _) _ _ s
  rw [if_neg (show ¬ ((Value.ref l == Value.none) = true) from Bool.false_ne_true)]
  refine wpAny_bind (m := field (.ref it) 1) (wpAny_field ho hd (x := .int i 0) rfl ?_)
  refine wpAny_bind (m := seqItems? (.ref l)) (wpAny_seqItems hol hdl ?_)
  simp only [Int.toNat_natCast, hx]
  refine wpAny_bind (wpAny_setField ho hd (by simp) (wpAny_pure ⟨x, rfl, hQ _ ?_ (Heap.SameBut.update ..)⟩))
  exact ⟨_, Heap.get?_update_self _ ho (Obj.isFreed_of_fields (Obj.data_mapFields hd _)), (Obj.cls_mapFields ..).trans hc, by rw [Obj.data_mapFields hd]; simp [rawInt]⟩
theorem cs_end {it l : Addr} {i : Nat} {items : Array Value} {Q : Option Value → Shared → Prop} (hh : A.handled = none) (hit : s.heap.IsListIter it l i) (hl : s.heap.IsList l items) (hx : items[i]? = none)
    (hE : ∀ e h', Heap.ExtBut it s.heap h' → (∃ o, h'.get? e = some o ∧ o.cls = .type "StopIteration") → E (.ref e) { s with heap := h' }) : wpAny (model prog w) A (callSpecial? (.ref it) (Str.ofString "__next__")) Q E s := by
  obtain ⟨o, ho, hc, hd⟩ := id hit
  obtain ⟨ol, hol, _, nl, hdl⟩ := hl
  refine wpAny_callSpecial?_slot hit.typeIs slot_listiter_next (wpAny_call_entry slot_listiter_next hit.typeIs entry_listiter_next ?_ (args_listiter_next _))
  refine wpAny_bind (m := field (.ref it) 0) (wpAny_field ho hd (x := .ref l) rfl ?_)
  show wpAny _ _ (if (Value.ref l == Value.none) = true then _ else _) _ _ s
  rw [if_neg (show ¬ ((Value.ref l == Value.none) = true) from Bool.false_ne_true)]
  refine wpAny_bind (m := field (.ref it) 1) (wpAny_field ho hd (x := .int i 0) rfl ?_)
  refine wpAny_bind (m := seqItems? (.ref l)) (wpAny_seqItems hol hdl ?_)
  simp only [Int.toNat_natCast, hx]
  refine wpAny_bind (wpAny_rule (wpAny_bind (wpAny_setField ho hd (by simp) ?_)))
  refine wpAny_bind (m := newExc (.type "StopIteration") []) ?_
  simp only [newExc, newTuple]
  refine wpAny_bind (wpAny_newObj_type ?_ (by show (0 : Nat) ≤ sizeLine; decide))
  refine wpAny_bind (m := firstArgMember _ _) (wpAny_of_eq (a := Value.none) (by first | rfl | (simp only [firstArgMember]; rfl)) ?_)
  refine wpAny_newObj_type ?_ (by size_fits)
  simp only [raiseNew]
  refine wpAny_bind (wpAny_handled ?_)
  first | rw [show A.in1.handled = none from hh] | rw [hh]
  refine wpAny_bind (wpAny_pure (wpAny_throw ?_))
  exact hE _ _ (((Heap.SameBut.update ..).extBut.push _).push _) ⟨_, Heap.get?_push_size _ rfl, rfl⟩

theorem walks_map (hh : A.handled = none) {M T I l : Addr} (xs : List Str) (vs : Array Value) (hvs : ∀ (i : Nat) (x : Str), xs[i]? = some x → ∃ t, vs[i]? = some (.str x t)) (hlen : vs.size = xs.length) (hsz : ∀ x ∈ xs, x.length ≤ sizeLine)
    (hMT : M ≠ I) (hTI : T ≠ I) (hlI : l ≠ I) :
    Walks prog w A M [M, T, I, l] [I] xs.length (fun i v => ∃ x t, xs[i]? = some x ∧ v = .str (Txt.strip x) t) (fun i h => MapAt M T I l vs i h) where
  sub := fun b hb => by simp at hb; simp [hb]
  frame := fun _ _ _ st hk => ⟨hk M (by simp) _ st.m, hk T (by simp) _ st.t, st.i.at fun o e => hk I (by simp) o e, st.l.at fun o e => hk l (by simp) o e⟩
  item := fun i s Q E hi st hQ => by
    have hTy : s.TypeIs (.ref M) "map" := ⟨_, st.m, rfl⟩
    obtain ⟨t, hv⟩ := hvs i xs[i] (by simp [hi])
    refine wpAny_bind (wpAny_attempt (wpAny_callSpecial?_slot (name := Str.ofString "__next__") hTy slot_map_next (wpAny_call_entry slot_map_next hTy entry_map_next ?_ (args_map_next _))))
    refine wpAny_bind (m := field (.ref M) 0) (wpAny_field st.m rfl (x := .ref T) rfl ?_)
    refine wpAny_bind (m := seqItems? (.ref T)) (wpAny_seqItems st.t rfl ?_)
    dsimp only
    rw [← Array.forIn_toList, List.forIn_cons]
    have M1 : ∀ {h' : Heap}, Heap.SameBut I s.heap h' → h'.get? M = _ := fun hs => hs.extBut _ _ hMT st.m
    refine wpAny_bind (wpAny_bind (wpAny_bind (wpAny_holding (wpAny_bind (m := callSpecial? (.ref I) (Str.ofString "__next__")) (cs_item st.i st.l hv fun h' hi' hs' => wpAny_pure (wpAny_pure ?_))))))
    dsimp only
    rw [List.forIn_nil]
    refine wpAny_pure (wpAny_bind (m := field (.ref M) 1) (wpAny_field (M1 hs') rfl (x := .builtin "str.strip") rfl ?_))
    refine wpAny_bind (wpAny_holding (call_strip (x := xs[i]) (t := t) (fun t' k => ?_) (hsz _ (List.getElem_mem hi))))
    refine wpAny_bind (wpAny_letGo (wpAny_pure ⟨_, rfl, wpAny_pure (hQ _ h' k ⟨xs[i], t', by simp [hi], rfl⟩ ⟨M1 hs', hs'.extBut _ _ hTI st.t, hi', st.l.at fun o e => hs'.extBut _ o hlI e⟩ fun b o hb e => hs'.extBut b o (fun z => hb (by simp [z])) e)⟩))
  done := fun s Q E st hQ => by
    have hTy : s.TypeIs (.ref M) "map" := ⟨_, st.m, rfl⟩
    refine wpAny_bind (wpAny_attempt (wpAny_callSpecial?_slot (name := Str.ofString "__next__") hTy slot_map_next (wpAny_call_entry slot_map_next hTy entry_map_next ?_ (args_map_next _))))
    refine wpAny_bind (m := field (.ref M) 0) (wpAny_field st.m rfl (x := .ref T) rfl ?_)
    refine wpAny_bind (m := seqItems? (.ref T)) (wpAny_seqItems st.t rfl ?_)
    dsimp only
    rw [← Array.forIn_toList, List.forIn_cons]
    refine wpAny_bind (wpAny_bind (wpAny_bind (wpAny_holding (wpAny_bind (m := callSpecial? (.ref I) (Str.ofString "__next__")) (cs_end (by exact hh) st.i st.l (by rw [Array.getElem?_eq_none (by omega)]) fun e h' hs' ht => ?_)))))
    obtain ⟨o, ho, hc⟩ := ht
    refine wpAny_bind (wpAny_isInstance (T := "StopIteration") (b := true) ⟨_, ho, hc⟩ isSubtype_stop ?_)
    exact wpAny_pure (hQ h' s.toks fun b o hb e => hs' b o (fun z => hb (by simp [z])) e)
  self := fun i s Q E st hQ => by
    have hTy : s.TypeIs (.ref M) "map" := ⟨_, st.m, rfl⟩
    refine wpAny_pyIter_slot hTy slot_map_iter (wpAny_call_entry slot_map_iter hTy entry_map_iter ?_ (args_map_iter _))
    show wpAny _ _ (ret (.ref M)) _ _ s
    exact wpAny_pure ⟨_, rfl, "map", _, hTy, slot_map_next.lookup, hQ⟩
end
end Mine
end

section
open PySem PySem.W PyProof.Rows PySem.Calls
set_option maxRecDepth 100000
set_option linter.all false
set_option maxHeartbeats 4000000
namespace Mine
open PySem (eval)
section
variable {w : World} {A : Around} {s : Shared} {E : Value → Shared → Prop}
local macro_rules | `(tactic| x_close) => `(tactic| exact post_pair (by assumption) rfl rfl)
theorem tn_pair (X : (KF w.params).In s.heap) (ok : OkA 100 A) (x y : Str) (tx ty : Tok) (T : Addr) (n : Nat) (od : Option Addr) (sl : Array (Option Value)) (h : s.heap.get? T = some ⟨.type "tuple", od, .seq #[.str x tx, .str y ty] n, sl⟩) :
    wpAny (model pw w) A (PySem.call (.builtin "tuple.__new__") [.ref 257, .ref T]) (PostPair s x y) E s := by
  refine litA ok fun l g => ?_
  x_run
end
section
variable {w : World} {A : Around} {s : Shared} {E : Value → Shared → Prop}
local macro_rules | `(tactic| x_close) => `(tactic| exact ⟨rfl, Kp.refl _⟩)
theorem oi_pair (X : (KF w.params).In s.heap) (ok : OkA 100 A) (u v : Value) (a : Addr) (d : Option Addr) (n : Nat) (vs : Array Value) (h : s.heap.get? a = some ⟨.ref 257, d, .seq vs n, #[]⟩) :
    wpAny (model pw w) A (PySem.call (.builtin "object.__init__") [.ref a, u, v]) (PostVal s .none) E s := by
  refine litA ok fun l g => ?_
  x_run
end

noncomputable abbrev fdPn : FuncData := { fdM (mst 10 4) "__new__" "Pair.__new__" "cpy313.importlib.metadata._collections" 362 .none none 183 [] .none with doc := .str "Create new instance of Pair(name, value)" 492 }
theorem K_pn (w : World) : (K01 w).lookup 184 = some ⟨.type "function", none, .func fdPn, #[]⟩ := by kernel_rfl
noncomputable abbrev envPn (N : Nat) : Env := callEnvC fdPn N 184
noncomputable def pn (i : Nat) : Stmt := (fbody (mst 10 4)).getD i (.Pass default)
theorem pn_body : fbody (mst 10 4) = [pn 0, .Return (some (.Call (.Attribute (.Name "tuple" ⟨136, 15, 136, 20⟩) "__new__" ⟨136, 15, 136, 28⟩) [.Name "_cls" ⟨136, 29, 136, 33⟩,
  .Tuple [.Name "name" ⟨136, 36, 136, 40⟩, .Name "value" ⟨136, 42, 136, 47⟩] 0 ⟨136, 35, 136, 48⟩] [] ⟨136, 15, 136, 49⟩)) ⟨136, 8, 136, 49⟩] := by rfl
theorem tnw1 : typeOf (.type "tuple") = pure (.type "type") := by kernel_rfl
theorem tnw2 : Manifest.isStub "tuple" = false := by decide +kernel
theorem tnw3 : findCls [] (.type "tuple") (.type "type") "__new__" = some (.val (.builtin "tuple.__new__")) := by kernel_rfl
theorem tnw4 : handedIn (.builtin "tuple.__new__") = true := by kernel_rfl

section
variable {w : World} {A : Around} {s : Shared} {E : Value → Shared → Prop}
/-- `Pair.__new__` -/
theorem pn_spec (T : TopH w s.heap) (ok : OkA 101 A) (x y : Str) (tx ty : Tok) : codeAny (model pw w) A (.call (.ref 184) ⟨[.ref 257, .str x tx, .str y ty], []⟩) (fun r s' => ∃ v, r = .ok (.ret v) ∧ PostPair s x y v s') s := by
  refine call_fnL (binds := [("_cls", .ref 257), ("name", .str x tx), ("value", .str y ty)]) _ ok.room T (K_pn w) 183 rfl (by kernel_rfl) rfl (Looks.of_peek T.K (by kernel_rfl)) rfl (fun y hy => ?_) fun s₁ X k => ?_
  · rcases List.mem_cons.mp hy with rfl | hy
    · exact .inl (by rfl)
    rcases List.mem_cons.mp hy with rfl | hy
    · exact .inl (by rfl)
    rcases List.mem_singleton.mp hy with rfl
    exact .inl (by rfl)
  generalize hN : s.heap.objs.size = N at *
  have okA : OkA 100 (A.deeper (envPn N)) := OkA.deeper ok _
  generalize hA' : A.deeper (callEnvC fdPn N 184) = A' at *
  have F := (Frm.ofCall X).kp (Kp.tk s₁ (s₁.toks + 1))
  show wpAny _ A' (execs (fbody (mst 10 4)) _) _ _ _
  rw [pn_body]
  refine wpAny_execs_cons (wpAny_Expr (Constant_str ?_) (by rfl) (by rfl))
  generalize hs2 : ({ s₁ with toks := s₁.toks + 1 } : Shared) = s₂ at *
  have T2 := T.mono F.keep
  have k2 : Kp s s₂ := F.kpAll
  have htr : backTo ⟨136, 15, 136, 49⟩ (starEach [.Name "_cls" ⟨136, 29, 136, 33⟩, .Tuple [.Name "name" ⟨136, 36, 136, 40⟩, .Name "value" ⟨136, 42, 136, 47⟩] 0 ⟨136, 35, 136, 48⟩] (envPn N)) =
      [(false, eval (.Name "_cls" ⟨136, 29, 136, 33⟩) (envPn N)), (false, eval (.Tuple [.Name "name" ⟨136, 36, 136, 40⟩, .Name "value" ⟨136, 42, 136, 47⟩] 0 ⟨136, 35, 136, 48⟩) (envPn N))] := by rw [starEach_cons (by rfl), starEach_cons (by rfl)]; rfl
  refine wpAny_execs_cons (wpAny_Return_some (call_meth htr (wpAny_Name (Var.bi T2 rfl (by rfl) rfl rfl (by kernel_rfl) (v := .type "tuple") (by decide) (by rfl) _ _ _ _ s₂ (fun _ _ e => e) ?_) (by decide))))
  intro pl
  refine @getMethod_type pw w A' _ s₂ "tuple" "__new__" (.builtin "tuple.__new__") pl _ tnw1 tnw2 tnw3 tnw4 ?_
  dsimp only
  have F3 := F.kp (Kp.tk s₂ (s₂.toks + 1))
  generalize hs3 : ({ s₂ with toks := s₂.toks + 1 } : Shared) = s₃ at *
  refine Calls.callWith_builtin (by rfl) (Calls.evalArgs_plain (Calls.spliced_cons (wpAny_Name (F3.loc rfl rfl (v := .ref 257) rfl _ _ _ _ s₃ (fun _ _ e => e) ?_) (by decide))))
  have ev : EvD pw w A' (envPn N) s₃.heap (fun _ => False) (.Tuple [.Name "name" ⟨136, 36, 136, 40⟩, .Name "value" ⟨136, 42, 136, 47⟩] 0 ⟨136, 35, 136, 48⟩) (.tup [.atom (.str x tx), .atom (.str y ty)]) :=
    EvD.tuple (.cons (EvD.name (F3.loc rfl rfl (v := .str x tx) rfl) (.atom _)) (.cons (EvD.name (F3.loc rfl rfl (v := .str y ty) rfl) (.atom _)) .nil rfl) rfl) (by show (2 : Nat) ≤ sizeLine; decide)
  refine Calls.spliced_cons (wpAny_mono (ev s₃ _ fun _ _ e => e) (fun r s4 h4 => Calls.spliced_nil ?_) fun _ _ q => q)
  obtain ⟨r4, k4⟩ := h4
  cases r4 using RD.tupE with
  | tup sa ea ca da ra =>
  rename_i T' o vs n
  obtain ⟨oc, od, odt, osl⟩ := o
  dsimp only at ca da
  subst ca da
  have hds : ∀ {h S l}, RDs h S l [.atom (.str x tx), .atom (.str y ty)] → l = [.str x tx, .str y ty] := fun r => by
    cases r using RDs.consE with
    | cons r1 r2 =>
    cases r2 using RDs.consE with
    | cons r2 r3 =>
    (first | cases r3 using RD.atomE | cases r3 using RDs.nilE | cases r3 using RD.strE | cases r3 using RD.intE | cases r3 using RD.boolE | cases r3 using RD.noneE | cases r3); (first | cases r1 using RD.atomE | cases r1 using RDs.nilE | cases r1 using RD.strE | cases r1 using RD.intE | cases r1 using RD.boolE | cases r1 using RD.noneE | cases r1); (first | cases r2 using RD.atomE | cases r2 using RDs.nilE | cases r2 using RD.strE | cases r2 using RD.intE | cases r2 using RD.boolE | cases r2 using RD.noneE | cases r2); rfl
  have hvs : vs = #[.str x tx, .str y ty] := Array.ext' (hds ra)
  subst hvs
  have T4 := T2.mono (fun b o e => k4.le b o (by rw [← hs3]; exact e))
  refine wpAny_mono (tn_pair T4.K (okA.weak (by decide)) x y tx ty T' n od osl ea) (fun v s5 h5 => ?_) fun _ _ q => q
  obtain ⟨a, d, tx', ty', n', rfl, e1, e2, e3, e4, k5⟩ := h5
  have k03 : Kp s s4 := F3.kpAll.tr k4
  exact ⟨_, rfl, a, d, tx', ty', n', rfl, e1, e2, fresh_le k03.le e3, fresh_le k03.le e4, k03.tr k5⟩

theorem call257 (w : World) : specialIn (K01 w) (.ref 257) "__call__" = some (some (.builtin "type.__call__")) := by kernel_rfl
theorem inst257 (w : World) : instIn (K01 w) (.ref 257) (.type "type") = some true := by kernel_rfl
theorem reads257 (w : World) : readsIn (K01 w) 257 (.type "type") = true := by kernel_rfl
theorem new257 (w : World) : findCls (K01 w) (.ref 257) (.type "type") "__new__" = some (.get (.builtin "staticmethod.__get__") (.ref 235) .none (.ref 257)) := by kernel_rfl
theorem sm235 (w : World) : recIn (K01 w) 235 "staticmethod" = some [.ref 184] := by kernel_rfl
theorem init257 (w : World) : findIn (K01 w) (.ref 257) "__init__" = some (some (.builtin "object.__init__")) := by kernel_rfl
theorem cls257 (w : World) : (clsIn (K01 w) 257).map (fun cd => (cd.mro.isEmpty, cd.mro)) = some (false, [.ref 257, .ref 234, .type "tuple", .type "object"]) := by kernel_rfl
theorem self257 (w : World) : mroIn (K01 w) 257 (.ref 257) = some true := by kernel_rfl
theorem slot4 (w : World) : ((K01 w).lookup 257).bind (fun o => o.slots[4]?) = some (some .none) := by kernel_rfl

/-- `Pair(x, y)` -/
theorem mk_pair (T : TopH w s.heap) (ok : OkA 102 A) (x y : Str) (tx ty : Tok) : wpAny (model pw w) A (PySem.call (.ref 257) [.str x tx, .str y ty]) (PostPair s x y) E s := by
  obtain ⟨cd, hc, hcm⟩ := Option.map_eq_some_iff.mp (cls257 w)
  obtain ⟨e4, em⟩ := Prod.mk.inj hcm
  have hm : Looks (model pw w) s.heap (mroOf (.ref 257)) cd.mro := (looks_clsIn T.K hc).andThen .now
  have call : Looks (model pw w) s.heap (specialOf (.ref 257) "__call__") (some (.builtin "type.__call__")) := looks_specialIn T.K (call257 w)
  have typ : Looks (model pw w) s.heap (isInstance (.ref 257) (.type "type")) true := looks_instIn T.K (inst257 w)
  have hC : ∃ oc od sl, s.heap.get? 257 = some ⟨oc, od, .cls cd, sl⟩ ∧ sl[4]? = some (some .none) := by
    unfold clsIn at hc
    have h4 := slot4 w
    split at hc
    · rename_i ho
      cases hc
      rw [ho] at h4
      exact ⟨_, _, _, T.K _ _ ho, h4⟩
    · cases hc
  obtain ⟨oc, od, sl, hC, h4⟩ := hC
  have made : Looks (model pw w) s.heap (Bind.madeBy (.ref 257)) none := by
    intro A Q E s' k q
    unfold Bind.madeBy
    refine wpAny_bind (hm A _ E s' k ?_)
    rw [em, List.forIn_cons]
    refine wpAny_bind (wpAny_bind (wpAny_bind (wpAny_bind (wpAny_loadPart (k _ _ hC) (wpAny_pure ?_)))))
    dsimp only
    rw [h4]
    exact wpAny_pure (wpAny_pure (wpAny_pure q))
  obtain ⟨h0, g, d, t, os⟩ := s
  refine wpAny_call (codeAny_of_tree ?_)
  show wpAny _ _ (callAny (.ref 257) _) _ _ _
  refine nd_load hC ?_
  show wpAny _ _ (callAny.viaDunder (.ref 257) _) _ _ _
  unfold callAny.viaDunder
  refine wpAny_bind (call.at ?_)
  dsimp only
  rw [tc_bind]
  refine wpAny_bind (wpAny_pure (wpAny_bind (wpAny_pure ?_)))
  refine wpAny_pure (a := Fin.again (.call (.builtin "type.__call__") ⟨.ref 257 :: [.str x tx, .str y ty], []⟩)) (And.intro rfl ?_)
  refine codeAny_call_builtin_at (Code.quiet_builtin _ (by decide +kernel)) entry_typeCall (check_slot tc_kind tc_split typ (tc_args _ _ _) ?_)
  unfold Builtin.«type.__call__»
  have okU : OkA 101 (A.under (.builtin "type.__call__" ⟨.ref 257 :: [.str x tx, .str y ty], []⟩)) := ⟨ok.hd, by have := ok.dp; show A.depth + 1 + 101 < recursionLimit; omega, by have := ok.un; show A.units + 1 + 10 * 101 + 300 < cLine; omega⟩
  generalize hU : A.under (.builtin "type.__call__" ⟨.ref 257 :: [.str x tx, .str y ty], []⟩) = U at *
  iterate 7 (first | simp only [e4, Bool.false_eq_true, if_false] | lk)
  refine wpAny_bind (cls_bind (C := 257) (g := .builtin "staticmethod.__get__") (a := .ref 235) (obj := .none) (tp := .ref 257) (mc := .type "type") T.K (reads257 w) (new257 w) ?_)
  refine wpAny_call (sm_get (s := ⟨h0, g, d, t + 1, os⟩) T.K (sm235 w) (handed_on (by rfl) ?_))
  refine wpAny_bind (wpAny_holding (wpAny_call (codeAny_mono (pn_spec (s := ⟨h0, g, d, t + 1, os⟩) T (okU.weak (by decide)) x y tx ty) fun r s' z => ?_)))
  obtain ⟨v, rfl, a, d', tx', ty', n', rfl, e1, e2, e3, e5, k⟩ := z
  have T' : TopH w s'.heap := T.mono k.le
  have t1 : Looks (model pw w) s'.heap (typeOf (.ref a)) (.ref 257) := (Looks.ld e1).andThen .now
  have i1 : Looks (model pw w) s'.heap (isInstance (.ref a) (.ref 257)) true := t1.andThen (looks_mroIn T'.K (self257 w))
  have l1 : Looks (model pw w) s'.heap (specialOf (.ref a) "__init__") (some (.builtin "object.__init__")) := t1.andThen (looks_findIn T'.K (init257 w))
  refine wpAny_bind (i1.here ?_)
  simp only [Bool.not_true, Bool.false_eq_true, if_false]
  refine wpAny_bind (wpAny_holding ?_)
  unfold callSpecial?
  refine wpAny_bind (l1.here (wpAny_holding ?_))
  rw [oi_bind]
  refine wpAny_bind (wpAny_pure (wpAny_bind (wpAny_mono (oi_pair T'.K (okU.weak (by decide)) (.str x tx) (.str y ty) a (some d') n' _ e1) (fun v s2 q => wpAny_pure ?_) fun _ _ q => q)))
  obtain ⟨rfl, k2⟩ := q
  simp only [bne_self_eq_false, Bool.false_eq_true, if_false]
  refine wpAny_pure ?_
  have k3 : Kp ⟨h0, g, d, t, os⟩ s2 := (Kp.tk ⟨h0, g, d, t, os⟩ (t + 1)).tr (k.tr k2)
  exact ⟨a, d', tx', ty', n', rfl, k2.le _ _ e1, k2.le _ _ e2, e3, e5, k3⟩
end
end Mine
end

section
open PySem PySem.W PyProof.Rows PySem.Calls
set_option maxRecDepth 100000
set_option linter.all false
set_option maxHeartbeats 2000000
namespace Mine
open PySem (eval)

theorem tst1 : typeOf (.type "str") = pure (.type "type") := by kernel_rfl
theorem tst2 : Manifest.isStub "str" = false := by decide +kernel
theorem tst3 : findCls [] (.type "str") (.type "type") "strip" = some (.val (.builtin "str.strip")) := by kernel_rfl
theorem tst4 : handedIn (.builtin "str.strip") = true := by kernel_rfl
theorem getAttr_strStrip {prog : Program} {w : World} {A : Around} {E : Value → Shared → Prop} {s : Shared} {expr : Bool} {Q : Value → Shared → Prop} (h : Q (.builtin "str.strip") { s with toks := s.toks + 1 }) : wpAny (model prog w) A (getAttr (.type "str") "strip" expr) Q E s :=
  @getAttr_type prog w A E s "str" "strip" (.builtin "str.strip") expr Q tst1 tst2 tst3 tst4 h

theorem call_split {prog : Program} {w : World} {A : Around} {E : Value → Shared → Prop} {s : Shared} {x y p q : Str} {t u v : Tok} (h : Txt.splitMax x y 1 = [p, q]) (hsz : x.length ≤ sizeLine) (hy : (y.length == 0) = false) :
    wpAny (model prog w) A (PySem.call (.builtin "str.split") [.str x t, .str y u, .int 1 v]) (fun r s' => ∃ l tp tq, r = .ref l ∧ s'.heap.get? l = some ⟨.type "list", none, .seq #[.str p tp, .str q tq] 0, #[]⟩ ∧ s.heap.get? l = none ∧ Kp s s') E s := by
  unfold Txt.splitMax at h
  split at h
  · cases h
  rename_i h1
  split at h
  · cases h
  rename_i h2
  simp only [Bool.not_eq_true] at h1 h2
  refine call_meets F.slot_str_split (typeIs_str _ _ _) F.entry_str_split (F.args_str_split_3 _ _ _) (meets_str_split_sep_max x y 1 t u v (by decide) h1 hy h2 hsz (by rw [h]; show (2 : Nat) ≤ sizeLine; decide)) ?_
  rw [h]
  exact ⟨_, _, _, rfl, Heap.get?_push_size _ rfl, new_none _, Kp.of _ fun b o e => Heap.get?_push_of_some _ e⟩

noncomputable abbrev fdParse : FuncData := fdM (mst 11 0) "parse" "Pair.parse" "cpy313.importlib.metadata._collections" 362 .none (some 254) 250 [] .none
theorem K_parse (w : World) : (K01 w).lookup 251 = some ⟨.type "function", none, .func fdParse, #[]⟩ := by kernel_rfl
noncomputable abbrev envParse (N : Nat) : Env := callEnvC fdParse N 251

section
variable {w : World} {A : Around} {E : Value → Shared → Prop} {s : Shared}
theorem parse_spec (T : TopH w s.heap) (ok : OkA 103 A) {x p q : Str} {t : Tok} (h : Txt.splitMax x "=" 1 = [p, q]) (hsz : x.length ≤ sizeLine) (hp : p.length ≤ sizeLine) (hq : q.length ≤ sizeLine) :
    codeAny (model pw w) A (.call (.ref 251) ⟨[.ref 257, .str x t], []⟩) (fun r s' => ∃ v, r = .ok (.ret v) ∧ PostPair s (Txt.strip p) (Txt.strip q) v s') s := by
  refine call_fn (binds := [("cls", .ref 257), ("text", .str x t)]) _ ok.room T (K_parse w) 250 rfl (by kernel_rfl) rfl (by rfl) rfl (fun y hy => ?_) fun s₁ X k => ?_
  · rcases List.mem_cons.mp hy with rfl | hy
    · exact .inl (by rfl)
    rcases List.mem_singleton.mp hy with rfl
    exact .inl (by rfl)
  generalize hN : s.heap.objs.size = N at *
  have okA : OkA 102 (A.deeper (envParse N)) := OkA.deeper ok _
  generalize hA' : A.deeper (callEnvC fdParse N 251) = A' at *
  have F := Frm.ofCall X
  have T1 := T.mono k.le
  have vc : Var (envParse N) s₁.heap "cls" (.ref 257) := F.loc rfl rfl rfl
  have vt : Var (envParse N) s₁.heap "text" (.str x t) := F.loc rfl rfl rfl
  have vm : Var (envParse N) s₁.heap "map" (.type "map") := Var.bi T1 rfl rfl rfl rfl (by kernel_rfl) (by decide) (by rfl)
  have vst : Var (envParse N) s₁.heap "str" (.type "str") := Var.bi T1 rfl rfl rfl rfl (by kernel_rfl) (by decide) (by rfl)
  refine wpAny_execs_cons (wpAny_Return_some (wpAny_Call_NameR (wpAny_Name (vc _ _ _ _ s₁ (fun _ _ e => e) ?_) (by decide))))
  refine callWith_S T1.K (by kernel_rfl) ?_
  refine wpAny_Call_NameR (wpAny_Name (vm _ _ _ _ s₁ (fun _ _ e => e) ?_) (by decide))
  refine PySem.callWith_type (by rfl) (Calls.evalArgs_plain (Calls.spliced_cons (Attribute_name (wpAny_Name (vst _ _ _ _ s₁ (fun _ _ e => e) ?_) (by decide)))))
  refine getAttr_strStrip ?_
  refine Calls.spliced_cons (call_meth rfl (wpAny_Name (vt _ _ _ _ _ (fun _ _ e => e) ?_) (by decide)))
  intro pl
  refine GM.split ?_
  dsimp only
  refine Calls.callWith_builtin (by rfl) (Calls.evalArgs_plain (Calls.spliced_cons ?_))
  refine Constant_str (pos := ⟨174, 46, 174, 49⟩) (k := 0) ?_
  refine Calls.spliced_cons ?_
  refine wpAny_Constant_int (pos := ⟨174, 51, 174, 52⟩) (k := 0) ?_
  refine Calls.spliced_nil ?_
  show wpAny _ _ (PySem.call (.builtin "str.split") [.str x t, .str "=" _, .int 1 _]) _ _ _
  refine wpAny_mono (call_split h hsz (by decide +kernel)) (fun r s₂ h₂ => ?_) fun _ _ z => z
  obtain ⟨l, tp, tq, rfl, hl, hl0, k2⟩ := h₂
  have K2 : Kp s₁ s₂ := (Kp.tk s₁ _).tr k2
  refine Calls.spliced_nil ?_
  show wpAny _ _ (PySem.call (.type "map") [.builtin "str.strip", .ref l]) _ _ _
  have T2 := T1.mono K2.le
  refine wpAny_mono (mk_map T2.K (okA.weak (by decide)) l none 0 #[] _ hl) (fun r s₃ h₃ => ?_) fun _ _ z => z
  obtain ⟨M, Tt, I, rfl, hM, hTt, hI, hM0, hT0, hI0, hTM, hIT, k3⟩ := h₃
  have hl3 := k3.le _ _ hl
  have st0 : MapAt M Tt I l #[.str p tp, .str q tq] 0 s₃.heap := ⟨hM, hTt, hI, ⟨_, hl3, rfl, _, rfl⟩⟩
  have hlI : l ≠ I := fun z => by rw [z, hI0] at hl; cases hl
  show StarOf _ _ _ _ _ s₃
  refine wpAny_bind (wpAny_specialOf (T := "map") ⟨_, hM, rfl⟩ slot_map_iter.lookup (wpAny_pure ⟨rfl, ?_⟩))
  refine collect_iter (T := "map") (walks_map (A := A'.in1) okA.hd [p, q] #[.str p tp, .str q tq] (fun i y hy => ?_) rfl (fun y hy => ?_) (fun z => by rw [z] at hTM; exact Nat.lt_irrefl _ (Nat.lt_trans hIT hTM)) (Nat.ne_of_gt hIT) hlI).toS
    (fun i s st => ⟨_, st.m, rfl⟩) (by decide) (by decide) (fun s Q E st z => ?_) st0 (fun b hb => ?_) (List.mem_cons_self ..) (by show (2 : Nat) ≤ sizeLine; decide) fun s₄ acc hm hacc => ?_
  · rcases i with _ | _ | i
    · cases hy; exact ⟨_, rfl⟩
    · cases hy; exact ⟨_, rfl⟩
    · cases hy
  · rcases List.mem_cons.mp hy with rfl | hy
    · exact hp
    · rw [List.mem_singleton.mp hy]; exact hq
  · unfold Builtin.List.listLengthHint
    refine wpAny_bind (wpAny_specialOf (T := "map") ⟨_, st.m, rfl⟩ nolen_map ?_)
    show wpAny _ _ (specialOf (Value.ref M) (Str.ofString "__length_hint__") >>= _) _ _ _
    refine wpAny_bind (wpAny_specialOf (T := "map") ⟨_, st.m, rfl⟩ nohint_map ?_)
    exact wpAny_pure (z _)
  · have hb' : s₃.heap.get? b ≠ none := by
      obtain ⟨oi, ei, _⟩ := hI
      simp only [List.mem_cons, List.not_mem_nil, or_false] at hb
      rcases hb with rfl | rfl | rfl | rfl
      · exact some_ne hM
      · exact some_ne hTt
      · exact some_ne ei
      · exact some_ne hl3
    cases e : s₃.heap.get? b with
    | none => exact absurd e hb'
    | some o => exact Heap.lt_size e
  · have K4 : Kp s₁ s₄ := by
      obtain ⟨g1, g2, g3, g4, g5⟩ := hm
      have K3 := K2.tr k3
      refine ⟨fun b o e => g1 b o (fun z => ?_) (K3.le b o e), s₄.heap, s₄.toks, ?_⟩
      · rw [List.mem_singleton.mp z, fresh_le K2.le hI0] at e; cases e
      · obtain ⟨z1, h', tk, rfl⟩ := K3
        cases s₄
        simp only at g2 g3 g4
        subst g2 g3 g4
        rfl
    have e : ∃ t1 t2, acc.toList = [.str (Txt.strip p) t1, .str (Txt.strip q) t2] := by
      obtain ⟨h1, h2⟩ := hacc
      match acc, h1 with
      | ⟨[a, b]⟩, _ =>
        obtain ⟨x1, t1, e1, e2⟩ := h2 0 a rfl
        obtain ⟨x2, t2, e3, e4⟩ := h2 1 b rfl
        cases e1
        cases e3
        exact ⟨t1, t2, by rw [e2, e4]⟩
    obtain ⟨t1, t2, e⟩ := e
    rw [e]
    have T4 := T1.mono K4.le
    refine ⟨T4.K, ?_⟩
    refine wpAny_mono (mk_pair T4 (okA.weak (by decide)) _ _ t1 t2) (fun v s₅ h₅ => ⟨v, rfl, ?_⟩) fun _ _ z => z
    obtain ⟨a, d, tx, ty, n, rfl, ha, hd, ha0, hd0, k5⟩ := h₅
    have kk := k.tr K4
    exact ⟨a, d, tx, ty, n, rfl, ha, hd, fresh_le kk.le ha0, fresh_le kk.le hd0, kk.tr k5⟩
end
end Mine
end

section
open PySem PySem.W PyProof.Rows PySem.Calls
set_option maxRecDepth 100000
set_option linter.all false
set_option maxHeartbeats 2000000
namespace Mine
open PySem (eval)

section
variable {w : World} {A : Around} {E : Value → Shared → Prop} {s : Shared} {env : Env}

/-- `Pair.parse(e)` -/
theorem ev_parse (T : TopH w s.heap) (ok : OkA 103 A) {e : Expr} {p0 ap cp : Pos} {x p q : Str} (vp : Var env s.heap "Pair" (.ref 257)) (ev : EvD pw w A env s.heap (fun _ => False) e (.str x)) (h : Txt.splitMax x "=" 1 = [p, q]) (hsz : x.length ≤ sizeLine) (hp : p.length ≤ sizeLine) (hq : q.length ≤ sizeLine)
    (hn : isStar e = false) (hline : (ap.endLine == cp.line) = true := by rfl) :
    wpAny (model pw w) A (eval (.Call (.Attribute (.Name "Pair" p0) "parse" ap) [e] [] cp) env) (PostPair s (Txt.strip p) (Txt.strip q)) E s := by
  have htr : backTo cp (starEach [e] env) = [(false, eval e env)] := by rw [starEach_cons hn]; rfl
  refine call_meth htr (wpAny_Name (vp _ _ _ _ s (fun _ _ e => e) ?_) (by decide)) (hline := hline)
  intro pl
  refine method_cls T.K (by kernel_rfl) ?_
  refine cls_bind (g := .builtin "classmethod.__get__") (a := .ref 253) (obj := .none) (tp := .ref 257) (mc := .type "type") T.K (by kernel_rfl) (by kernel_rfl) ?_
  refine wpAny_call (cm_get (s := { s with toks := s.toks + 1 }) (f := .ref 251) (rest := [.bool false]) T.K (by kernel_rfl) ?_)
  refine handed_on (by rfl) ?_
  have hm0 : (s.heap.push (methodObj (.ref 251) (.ref 257))).get? s.heap.objs.size = some (methodObj (.ref 251) (.ref 257)) := Heap.get?_push_size _ rfl
  have kk : Kp s { s with heap := s.heap.push (methodObj (.ref 251) (.ref 257)), toks := s.toks + 1 } := Kp.of _ fun b o e => Heap.get?_push_of_some _ e
  show wpAny _ A (callWith cp (.ref s.heap.objs.size) [] [(false, eval e env)] []) _ _ { s with heap := s.heap.push (methodObj (.ref 251) (.ref 257)), toks := s.toks + 1 }
  generalize hs1 : ({ s with heap := s.heap.push (methodObj (.ref 251) (.ref 257)), toks := s.toks + 1 } : Shared) = s₁ at *
  have hm1 : s₁.heap.get? s.heap.objs.size = some (methodObj (.ref 251) (.ref 257)) := by rw [← hs1]; exact hm0
  generalize s.heap.objs.size = m at *
  refine callWith_of (P := MethP (K01 w) m 251 (.ref 257)) (by rfl) (keeps_M (by kernel_rfl)) (Calls.evalArgs_plain (Calls.spliced_cons ?_))
  refine wpAny_mono ((ev.mono kk.le) s₁ E fun _ _ e => e) (fun v s₂ h₂ => Calls.spliced_nil ?_) fun _ _ z => z
  obtain ⟨r, k2⟩ := h₂
  (first | cases r using RD.atomE | cases r using RDs.nilE | cases r using RD.strE | cases r using RD.intE | cases r using RD.boolE | cases r using RD.noneE | cases r)
  rename_i t
  have T2 := T.mono (kk.tr k2).le
  refine ⟨⟨k2.le _ _ hm1, T2.K⟩, ?_⟩
  refine wpAny_call (method_call (k2.le _ _ hm1) (codeAny_mono (parse_spec T2 (ok.weak (by decide)) h hsz hp hq) fun r s₃ h₃ => ?_))
  obtain ⟨v, rfl, a, d, tx, ty, n, rfl, ha, hd, ha0, hd0, k3⟩ := h₃
  have k12 := kk.tr k2
  exact ⟨a, d, tx, ty, n, rfl, ha, hd, fresh_le k12.le ha0, fresh_le k12.le hd0, k12.tr k3⟩

end

theorem slot_tga : Slot "tuple" "__getattribute__" "tuple.__getattribute__" :=
  .of (owner := "tuple") (n := "__getattribute__") (by rw [typeLookup_type, builtinLookup_eq_fast]; kernel_rfl) (by decide +kernel) (by decide +kernel) (by decide +kernel)
    (by first | exact .inl (by decide +kernel) | exact .inr (by decide +kernel)) (by rw [isSubtype_type]; kernel_rfl)
theorem entry_tga : entryFor table "tuple.__getattribute__" = some Builtin.«object.__getattribute__» :=
  entryFor_alias (id' := "object.__getattribute__") (by kernel_rfl) (by first | rfl | decide +kernel | (unfold String.splitOn; simp +decide [String.splitOnAux])) (by decide +kernel) (by kernel_rfl)
theorem args_tga (a b : Value) : argsOk "tuple.__getattribute__" ⟨[a, b], []⟩ := by unfold argsOk; kernel_rfl
theorem slot_dga : Slot "collections.defaultdict" "__getattribute__" "collections.defaultdict.__getattribute__" :=
  .of (owner := "collections.defaultdict") (n := "__getattribute__") (by rw [typeLookup_type, builtinLookup_eq_fast]; kernel_rfl) (by decide +kernel) (by decide +kernel) (by decide +kernel)
    (by first | exact .inl (by decide +kernel) | exact .inr (by decide +kernel)) (by rw [isSubtype_type]; kernel_rfl)
theorem entry_dga : entryFor table "collections.defaultdict.__getattribute__" = some Builtin.«object.__getattribute__» :=
  entryFor_alias (id' := "object.__getattribute__") (by kernel_rfl) (by first | rfl | decide +kernel | (unfold String.splitOn; simp +decide [String.splitOnAux])) (by decide +kernel) (by kernel_rfl)
theorem args_dga (a b : Value) : argsOk "collections.defaultdict.__getattribute__" ⟨[a, b], []⟩ := by unfold argsOk; kernel_rfl

section
variable {prog : Program} {w : World} {A : Around} {E : Value → Shared → Prop} {s : Shared} {K : Frag} {x C : Addr} {ox : Obj} {od : Option Obj} {name : Str} {expr : Bool} {Q : Value → Shared → Prop}
open Builtin Builtin.ObjectAttr in
/-- an attribute by an alias of object.__getattribute__: found through a descriptor -/
theorem get_bind2 {id owner : String} {g a : Value} (X : K.In s.heap) (I : InstAt s.heap x ox C od) (slot : Slot owner "__getattribute__" id) (hsp : splitId id = some (owner, "__getattribute__")) (hkd : builtinKind id = some .slot) (entry : entryFor table id = some Builtin.«object.__getattribute__») (args : ∀ a b, argsOk id ⟨[a, b], []⟩)
    (hne : (Value.builtin id == .builtin "object.__getattribute__") = false) (hsub : mroIn K C (.type owner) = some true) (hga : findIn K (.ref C) "__getattribute__" = some (some (.builtin id))) (hk : findIn K (.ref C) "__getattr__" = some none)
    (hf : findObj K C od name = some (.bind g a))
    (h : wpAny (model prog w) A.in1 (PySem.call g [a, .ref x, .ref C]) (fun v s' => wpAny (model prog w) A (handedOut v) Q E s') (fun _ _ => False) { s with toks := s.toks + 1 }) :
    wpAny (model prog w) A (getAttr (.ref x) name expr) Q E s := by
  have L0 := I.type (M := model prog w)
  have L1 := looks_findIn (M := model prog w) X hga
  have L2 := looks_findIn (M := model prog w) X hk
  have LF := looks_find (M := model prog w) X I hf
  unfold getAttr getAttrBy
  refine wpAny_bind (wpAny_mkText (wpAny_holding (wpAny_bind (L0 _ _ _ _ (fun _ _ e => e) (wpAny_bind (L1 _ _ _ _ (fun _ _ e => e) ?_))))))
  dsimp only
  rw [hne, Bool.and_false, if_neg (by decide)]
  unfold getAttrByItsOwn
  refine wpAny_bind ?_
  unfold hookBefore
  rw [if_pos (by rfl)]
  refine L2 _ _ _ _ (fun _ _ e => e) (wpAny_bind (wpAny_attempt (wpAny_holding ?_)))
  unfold callGetattribute
  rw [show (expr && onTheHeap (Value.builtin id)) = false from Bool.and_false _, if_neg (by decide)]
  unfold boundAndCalled
  rw [slot.bind]
  refine wpAny_bind (wpAny_pure ?_)
  show wpAny _ _ (PySem.call (.builtin id) [.ref x, .str name s.toks]) _ _ { s with toks := s.toks + 1 }
  refine wpAny_call (codeAny_call_builtin slot.plain entry ?_)
  refine @check_slot (model prog w) _ _ { s with toks := s.toks + 1 } id owner "__getattribute__" (.ref x) [.str name s.toks] [] _ hkd hsp (L0.andThen (looks_mroIn X hsub)) (args _ _) ?_
  unfold «object.__getattribute__»
  refine wpAny_bind (wpAny_pure ?_)
  refine wpAny_bind (wpAny_pure ?_)
  refine wpAny_bind (L0 _ _ _ _ (fun _ _ e => e) (wpAny_bind (LF _ _ _ _ (fun _ _ e => e) ?_)))
  show wpAny _ _ (holding [a] (PySem.call g [a, .ref x, .ref C]) >>= ret) _ _ _
  exact wpAny_bind (wpAny_holding (wpAny_mono h (fun v s' z => wpAny_pure z) fun _ _ z => z.elim))
end

noncomputable def objK (w : World) (a : Addr) : Obj := ((K01 w).lookup a).getD { cls := .none, data := .plain }
theorem K_225 (w : World) : (K01 w).lookup 225 = some (objK w 225) := by kernel_rfl
theorem K_228 (w : World) : (K01 w).lookup 228 = some (objK w 228) := by kernel_rfl
theorem K_226 (w : World) : (K01 w).lookup 226 = some ⟨.ref 132, some 225, .plain, #[]⟩ := by kernel_rfl
theorem K_229 (w : World) : (K01 w).lookup 229 = some ⟨.ref 132, some 228, .plain, #[]⟩ := by kernel_rfl
theorem F_225 (w : World) : findObj (K01 w) 132 (some (objK w 225)) "index" = some (.value (.int 0 554)) := by kernel_rfl
theorem F_228 (w : World) : findObj (K01 w) 132 (some (objK w 228)) "index" = some (.value (.int 1 564)) := by kernel_rfl
theorem F_name (w : World) : findObj (K01 w) 257 (some ⟨.type "dict", none, .dict #[] 0, #[]⟩) "name" = some (.bind (.ref 115) (.ref 226)) := by kernel_rfl
theorem F_value (w : World) : findObj (K01 w) 257 (some ⟨.type "dict", none, .dict #[] 0, #[]⟩) "value" = some (.bind (.ref 115) (.ref 229)) := by kernel_rfl

section
variable {w : World} {A : Around} {E : Value → Shared → Prop} {s : Shared} {env : Env}
/-- `pair.name`, `pair.value` -/
theorem ev_name (T : TopH w s.heap) (ok : OkA 104 A) {x : Str} {p0 ap : Pos} {a d : Addr} {u v : Value} {n : Nat} (vp : Var env s.heap x (.ref a)) (ha : s.heap.get? a = some ⟨.ref 257, some d, .seq #[u, v] n, #[]⟩) (hd : s.heap.get? d = some ⟨.type "dict", none, .dict #[] 0, #[]⟩) (hu : handedIn u = true) (hx : (x == ("__debug__" : Str)) = false := by decide) :
    wpAny (model pw w) A (eval (.Attribute (.Name x p0) "name" ap) env) (fun r s' => r = u ∧ Kp s s') E s := by
  have I : InstAt s.heap a ⟨.ref 257, some d, .seq #[u, v] n, #[]⟩ 257 (some ⟨.type "dict", none, .dict #[] 0, #[]⟩) := ⟨ha, rfl, rfl, hd⟩
  refine Attribute_name (wpAny_Name (vp _ _ _ _ s (fun _ _ e => e) ?_) hx)
  refine get_bind2 (g := .ref 115) (a := .ref 226) T.K I slot_tga (by decide +kernel) (by decide +kernel) entry_tga args_tga (by decide) (by kernel_rfl) (by kernel_rfl) (by kernel_rfl) (F_name w) ?_
  have I2 : InstAt s.heap 226 ⟨.ref 132, some 225, .plain, #[]⟩ 132 (some (objK w 225)) := ⟨T.K _ _ (K_226 w), rfl, rfl, T.K 225 _ (K_225 w)⟩
  refine wpAny_call (codeAny_mono (tg_get (s := { s with toks := s.toks + 1 }) T (OkA.in1 (n := 102) (ok.weak (by decide))) I2 (F_225 w) ha (by decide) (by decide) (j := 0) (by rfl) (x := u) (by rfl)) fun r s₁ h₁ => ?_)
  obtain ⟨rfl, k⟩ := h₁
  exact handed_on hu ⟨rfl, (Kp.tk s _).tr k⟩
theorem ev_value (T : TopH w s.heap) (ok : OkA 104 A) {x : Str} {p0 ap : Pos} {a d : Addr} {u v : Value} {n : Nat} (vp : Var env s.heap x (.ref a)) (ha : s.heap.get? a = some ⟨.ref 257, some d, .seq #[u, v] n, #[]⟩) (hd : s.heap.get? d = some ⟨.type "dict", none, .dict #[] 0, #[]⟩) (hu : handedIn v = true) (hx : (x == ("__debug__" : Str)) = false := by decide) :
    wpAny (model pw w) A (eval (.Attribute (.Name x p0) "value" ap) env) (fun r s' => r = v ∧ Kp s s') E s := by
  have I : InstAt s.heap a ⟨.ref 257, some d, .seq #[u, v] n, #[]⟩ 257 (some ⟨.type "dict", none, .dict #[] 0, #[]⟩) := ⟨ha, rfl, rfl, hd⟩
  refine Attribute_name (wpAny_Name (vp _ _ _ _ s (fun _ _ e => e) ?_) hx)
  refine get_bind2 (g := .ref 115) (a := .ref 229) T.K I slot_tga (by decide +kernel) (by decide +kernel) entry_tga args_tga (by decide) (by kernel_rfl) (by kernel_rfl) (by kernel_rfl) (F_value w) ?_
  have I2 : InstAt s.heap 229 ⟨.ref 132, some 228, .plain, #[]⟩ 132 (some (objK w 228)) := ⟨T.K _ _ (K_229 w), rfl, rfl, T.K 228 _ (K_228 w)⟩
  refine wpAny_call (codeAny_mono (tg_get (s := { s with toks := s.toks + 1 }) T (OkA.in1 (n := 102) (ok.weak (by decide))) I2 (F_228 w) ha (by decide) (by decide) (j := 1) (by rfl) (x := v) (by rfl)) fun r s₁ h₁ => ?_)
  obtain ⟨rfl, k⟩ := h₁
  exact handed_on hu ⟨rfl, (Kp.tk s _).tr k⟩
end
end Mine
end

section
open PySem PySem.W PyProof.Rows PySem.Calls
set_option maxRecDepth 100000
set_option linter.all false
set_option maxHeartbeats 2000000
namespace Mine
open PySem (eval)

theorem check_meth {M : Model} {A : Around} {E : Value → Shared → Prop} {s : Shared} {i owner n : String} {self : Value} {rest : List Value} {Q : Unit → Shared → Prop}
    (hk : builtinKind i = some .method) (hs : splitId i = some (owner, n)) (hi : Looks M s.heap (isInstance self (.type owner)) true) (ha : argsOk i ⟨self :: rest, []⟩) (q : Q () s) : wpAny M A (checkBuiltinCall i ⟨self :: rest, []⟩) Q E s := by
  simp only [checkBuiltinCall, hk, hs]
  refine wpAny_bind (hi.here ?_)
  simp only [Bool.not_true, Bool.false_eq_true, if_false]
  cases hsig : Manifest.signature? i with
  | none => exact wpAny_pure q
  | some sig =>
    simp only [argsOk, hsig] at ha
    have h2 : Bind.checkArgs i sig ⟨self :: rest, []⟩ = pure () := ha
    first
      | (rw [h2]; exact wpAny_pure q)
      | exact wpAny_bind (wpAny_of_eq h2 (wpAny_pure q))
      | exact wpAny_of_eq h2 q

inductive Ents (w : World) : List DictEntry → List (Str × Addr) → Prop
  | nil : Ents w [] []
  | cons {k a t l ks} : Ents w l ks → Ents w (⟨hashStr w k, .str k t, .ref a⟩ :: l) ((k, a) :: ks)
noncomputable def lookA (ks : List (Str × Addr)) (x : Str) : Option Addr := (ks.find? fun k => k.1 == x).map (·.2)

/-- the book: an instance of FreezableDefaultDict(list) -/
structure BookAt (w : World) (h : Heap) (B bd : Addr) (ks : List (Str × Addr)) : Prop where
  at_ : ∃ l ep, h.get? B = some ⟨.ref 162, some bd, .dict l.toArray ep, #[some (.type "list")]⟩ ∧ Ents w l ks

theorem Ents.keys {w : World} {l : List DictEntry} {ks : List (Str × Addr)} (x : Ents w l ks) : KeysOf (strKind pw w) l.toArray := by
  intro e he
  have he' : e ∈ l := by simpa using he
  clear he
  induction x with
  | nil => cases he'
  | cons r ih =>
    cases he' with
    | head => exact ⟨_, strKind_is pw w _ _, rfl⟩
    | tail _ h => exact ih h
theorem Ents.len {w : World} {l : List DictEntry} {ks : List (Str × Addr)} (x : Ents w l ks) : l.length = ks.length := by
  induction x with
  | nil => rfl
  | cons r ih => simp [ih]
theorem isStr_key (w : World) (x k : Str) (t : Tok) : (strKind pw w).is x (.str k t) = (k == x) := by
  have := KeyKind.is_eq_decide (strKind_is pw w k t) x
  rw [this, Bool.eq_iff_iff]
  simp only [decide_eq_true_eq, beq_iff_eq]
  exact ⟨fun z => z.symm, fun z => z.symm⟩
theorem Ents.find {w : World} {x : Str} : ∀ {l : List DictEntry} {ks : List (Str × Addr)}, Ents w l ks → ((l.findIdx? fun e => (strKind pw w).is x e.key).bind fun i => (l[i]?).map (·.val)) = (lookA ks x).map .ref
  | _, _, .nil => rfl
  | _, _, .cons (k := k) (a := a) (t := t) (l := l) (ks := ks) r => by
    rw [List.findIdx?_cons]
    unfold lookA
    rw [List.find?_cons, isStr_key]
    cases hk : (k == x) with
    | true => simp
    | false =>
      simp only [Bool.false_eq_true, if_false]
      have := Ents.find (x := x) r
      unfold lookA at this
      rw [← this]
      cases (l.findIdx? fun e => (strKind pw w).is x e.key) <;> simp

section
variable {w : World} {A : Around} {E : Value → Shared → Prop} {s : Shared}
theorem get_book {B bd : Addr} {ks : List (Str × Addr)} {x : Str} {t : Tok} {Q : Option Value → Shared → Prop} (b : BookAt w s.heap B bd ks) (h : Q ((lookA ks x).map .ref) { s with toks := s.toks + 1 }) : wpAny (model pw w) A (dictGet B (.str x t)) Q E s := by
  obtain ⟨l, ep, e, en⟩ := b.at_
  unfold dictGet
  refine wpAny_holding (wpAny_bind ((strKind pw w).pyHash (strKind_is pw w x t) (wpAny_bind (wpAny_dictFind_of (knd := strKind pw w) (s := { s with toks := s.toks + 1 }) (strKind_is pw w x t) e rfl en.keys ?_))))
  rw [← en.find] at h
  have hf : l.toArray.findIdx? (fun e => (strKind pw w).is x e.key) = l.findIdx? fun e => (strKind pw w).is x e.key := by simp
  rw [hf]
  cases hi : l.findIdx? fun e => (strKind pw w).is x e.key with
  | none => rw [hi] at h; exact wpAny_pure h
  | some i =>
    rw [hi] at h
    refine wpAny_bind (wpAny_dictEntries (s := { s with toks := s.toks + 1 }) e rfl (wpAny_pure ?_))
    simpa using h

theorem looks_book (K : (K01 w).In s.heap) {M : Model} {a : Addr} {o : Obj} (e : s.heap.get? a = some o) (hc : o.cls = .ref 162) : Looks M s.heap (isInstance (.ref a) (.type "dict")) true := by
  have T : Looks M s.heap (typeOf (.ref a)) (.ref 162) := hc ▸ (Looks.ld e).andThen .now
  exact T.andThen (looks_mroIn K (by kernel_rfl))

theorem getItem_book (K : (K01 w).In s.heap) {B bd : Addr} {ks : List (Str × Addr)} {key : Value} {Q : Value → Shared → Prop} (b : BookAt w s.heap B bd ks)
    (h : wpAny (model pw w) A (PySem.call (.builtin "dict.__getitem__") [.ref B, key]) Q E s) : wpAny (model pw w) A (getItem (.ref B) key) Q E s := by
  obtain ⟨l, ep, e, en⟩ := b.at_
  have L0 : Looks (model pw w) s.heap (typeOf (.ref B)) (.ref 162) := (Looks.ld e).andThen .now
  have L1 : Looks (model pw w) s.heap (typeLookup (.ref 162) "__getitem__") (some (.builtin "dict.__getitem__")) := looks_findIn K (by kernel_rfl)
  unfold getItem sequenceKey
  refine wpAny_holding (wpAny_bind (wpAny_bind (L0.here ?_)))
  refine wpAny_bind ((anyM_none (C := 162) K (by kernel_rfl)).here ?_)
  rw [if_pos (show (!false) = true from rfl)]
  refine wpAny_pure (wpAny_bind ?_)
  unfold callSpecial? specialOf
  refine wpAny_bind (wpAny_bind (L0.here (L1.here (wpAny_holding ?_))))
  rw [slot_dict_getitem.bind]
  exact wpAny_bind (wpAny_pure (wpAny_bind (wpAny_mono h (fun v s' z => wpAny_pure (wpAny_pure z)) fun _ _ z => z)))

/-- `book[x]` where x stands in it -/
theorem item_hit (K : (K01 w).In s.heap) {B bd : Addr} {ks : List (Str × Addr)} {x : Str} {t : Tok} {a : Addr} {Q : Value → Shared → Prop} (b : BookAt w s.heap B bd ks) (hl : lookA ks x = some a)
    (h : Q (.ref a) { s with toks := s.toks + 1 }) : wpAny (model pw w) A (getItem (.ref B) (.str x t)) Q E s := by
  refine getItem_book K b ?_
  obtain ⟨l, ep, e, en⟩ := id b.at_
  refine wpAny_call (codeAny_call_builtin slot_dict_getitem.plain entry_dict_getitem ?_)
  refine @check_meth (model pw w) _ _ s "dict.__getitem__" "dict" "__getitem__" (.ref B) [.str x t] _ (by decide +kernel) (by decide +kernel) (looks_book K e rfl) (args_dict_getitem _ _) ?_
  show wpAny _ _ (dictGet B (.str x t) >>= _) _ _ s
  refine wpAny_bind (get_book b ?_)
  rw [hl]
  exact wpAny_pure h
end
end Mine
end

section
open PySem PySem.W PyProof.Rows PySem.Calls
set_option maxRecDepth 100000
set_option linter.all false
set_option maxHeartbeats 4000000
namespace Mine
open PySem (eval)
noncomputable abbrev bmObj (B : Addr) : Obj := { cls := .type "builtin_function_or_method", dict := none, data := .fields #[.builtin "collections.defaultdict.__missing__", .ref B], slots := #[] }
noncomputable abbrev suObj (B : Addr) : Obj := { cls := .type "super", dict := none, data := .fields #[.ref 162, .ref B, .ref 162], slots := #[] }

section
variable {s : Shared} {h' : Heap} {t : Nat} {news : List (Addr × Obj)}
noncomputable def PostBm (s : Shared) (B : Addr) (v : Value) (s' : Shared) : Prop := ∃ m, v = .ref m ∧ s'.heap.get? m = some (bmObj B) ∧ s.heap.get? m = none ∧ Kp s s'
theorem post_bm {B m : Addr} (D : X.Mem s.heap h' [] news) (e1 : news[0]? = some (m, bmObj B)) : PostBm s B (.ref m) ⟨h', s.gens, s.drawn, t, s.os⟩ :=
  have h1 := mem_at D 0 e1
  ⟨m, rfl, h1.1, h1.2, mem_kp D⟩
end
section
variable {w : World} {A : Around} {s : Shared} {E : Value → Shared → Prop}
local macro_rules | `(tactic| x_close) => `(tactic| (refine post_bm (by assumption) ?_; first | rfl | kernel_rfl))
theorem md_get (X : (KF w.params).In s.heap) (ok : OkA 100 A) (B bd : Addr) (es : Array DictEntry) (ep : Nat) (h1 : s.heap.get? B = some ⟨.ref 162, some bd, .dict es ep, #[some (.type "list")]⟩) :
    wpAny (model pw w) A (PySem.call (.builtin "method_descriptor.__get__") [.builtin "collections.defaultdict.__missing__", .ref B, .ref 162]) (PostBm s B) E s := by
  refine litA ok fun l g => ?_
  x_run
end

theorem ty_miss : typeOf (.builtin "collections.defaultdict.__missing__") = pure (.type "method_descriptor") := by show builtinType _ = _; rw [builtinType_eq_fast]; kernel_rfl
theorem lk_mdget : typeLookup (.type "method_descriptor") "__get__" = pure (some (.builtin "method_descriptor.__get__")) := by rw [typeLookup_type, builtinLookup_eq_fast]; kernel_rfl
theorem along_miss (w : World) : alongIn (K01 w) "__missing__" [.type "collections.defaultdict", .type "dict", .type "object"] = some (some (.builtin "collections.defaultdict.__missing__")) := by kernel_rfl
noncomputable def cd162 (w : World) : ClassData := (clsIn (K01 w) 162).getD default
theorem cls162 (w : World) : clsIn (K01 w) 162 = some (cd162 w) := by kernel_rfl
theorem mro162 (w : World) : (cd162 w).mro = [.ref 162, .type "collections.defaultdict", .type "dict", .type "object"] := by kernel_rfl

section
variable {prog : Program} {w : World} {A : Around} {E : Value → Shared → Prop}
theorem super_ga {h : Heap} {g : Array GenState} {d : Drawn} {t : Nat} {os : OsState} {K : Frag} (X : K.In h) {so B : Addr} {tk : Tok} {Q : Fin → Shared → Prop} (hso : h.get? so = some (suObj B))
    (hno : Looks (model prog w) h (opaqueClassAbove (.ref 162)) none) (hC : Looks (model prog w) h (mroOf (.ref 162)) [.ref 162, .type "collections.defaultdict", .type "dict", .type "object"])
    (hal : alongIn K "__missing__" [.type "collections.defaultdict", .type "dict", .type "object"] = some (some (.builtin "collections.defaultdict.__missing__"))) (hBC : B ≠ 162)
    (hc : wpAny (model prog w) A (PySem.call (.builtin "method_descriptor.__get__") [.builtin "collections.defaultdict.__missing__", .ref B, .ref 162]) (fun v s' => Q (.done (.ret v)) s') E ⟨h, g, d, t, os⟩) :
    wpAny (model prog w) A (Builtin.«super.__getattribute__» ⟨[.ref so, .str "__missing__" tk], []⟩) Q E ⟨h, g, d, t, os⟩ := by
  have hdt : (suObj B).data = .fields #[.ref 162, .ref B, .ref 162] := rfl
  have f0 : (#[.ref 162, .ref B, .ref 162] : Array Value)[0]? = some (.ref 162) := rfl
  have f1 : (#[.ref 162, .ref B, .ref 162] : Array Value)[1]? = some (.ref B) := rfl
  have f2 : (#[.ref 162, .ref B, .ref 162] : Array Value)[2]? = some (.ref 162) := rfl
  have hne : (Value.ref B == Value.ref 162) = false := by simpa using hBC
  have hl : (List.dropWhile (fun x => x != Value.ref 162) [.ref 162, .type "collections.defaultdict", .type "dict", .type "object"]).drop 1 = [.type "collections.defaultdict", .type "dict", .type "object"] := by decide
  generalize hL : ([.ref 162, .type "collections.defaultdict", .type "dict", .type "object"] : List Value) = L at *
  generalize hL2 : ([.type "collections.defaultdict", .type "dict", .type "object"] : List Value) = L2 at *
  unfold Builtin.«super.__getattribute__»
  refine wpAny_bind (wpAny_pure ?_)
  rw [if_neg (by decide)]
  refine wpAny_bind (wpAny_pure ?_)
  dsimp only
  refine wpAny_bind (wpAny_field hso hdt f0 ?_)
  refine wpAny_bind (wpAny_field hso hdt f1 ?_)
  refine wpAny_bind (wpAny_field hso hdt f2 ?_)
  rw [if_neg (by decide)]
  refine wpAny_bind (ks_wpAny_notOpaque hno ?_)
  rw [if_neg (by decide)]
  refine wpAny_bind (Looks.at hC ?_)
  rw [hl]
  refine wpAny_bind (ks_forIn_along X (fun _ _ => rfl) rfl ?_ hal)
  refine wpAny_bind (wpAny_of_eq ty_miss ?_)
  refine wpAny_bind (wpAny_of_eq lk_mdget ?_)
  dsimp only
  simp only [hne, Bool.false_eq_true, if_false]
  refine wpAny_bind (wpAny_holding (wpAny_mono hc (fun v s' z => ?_) fun _ _ z => z))
  exact wpAny_bind (wpAny_pure (wpAny_pure (wpAny_pure z)))
end

section
variable {w : World} {A : Around} {E : Value → Shared → Prop} {s : Shared}
theorem K_162 (w : World) : (K01 w).lookup 162 = some ⟨(((K01 w).lookup 162).getD { cls := .none, data := .plain }).cls, (((K01 w).lookup 162).getD { cls := .none, data := .plain }).dict, .cls (cd162 w), (((K01 w).lookup 162).getD { cls := .none, data := .plain }).slots⟩ := by kernel_rfl
/-- the attribute `__missing__` of super() -/
theorem super_missing (K : (K01 w).In s.heap) (ok : OkA 101 A) {so B bd : Addr} {es : Array DictEntry} {ep : Nat} {expr : Bool} (hso : s.heap.get? so = some (suObj B)) (hB : s.heap.get? B = some ⟨.ref 162, some bd, .dict es ep, #[some (.type "list")]⟩) :
    wpAny (model pw w) A (getAttr (.ref so) "__missing__" expr) (PostBm s B) E s := by
  obtain ⟨h, g, d, t, os⟩ := s
  have hT : ∀ t', (⟨h, g, d, t', os⟩ : Shared).TypeIs (.ref so) "super" := fun _ => ⟨_, hso, rfl⟩
  have hno : Looks (model pw w) h (opaqueClassAbove (.ref 162)) none := looks_opaque K (by kernel_rfl)
  have hC : Looks (model pw w) h (mroOf (.ref 162)) (cd162 w).mro := fun A Q E s k q => wpAny_bind ((looks_clsIn K (cls162 w)) A _ E s k (wpAny_pure q))
  rw [mro162] at hC
  have hBC : B ≠ 162 := fun z => by
    have := K 162 _ (K_162 w)
    rw [z] at hB
    dsimp only at hB
    rw [this] at hB
    injection hB with hB
    injection hB with _ _ hB _
    cases hB
  unfold getAttr getAttrBy
  refine wpAny_bind (wpAny_mkText (wpAny_holding (wpAny_bind (wpAny_typeOf (hT _) (wpAny_bind (wpAny_of_eq PySem.F.ks_slot_super_ga.lookup ?_))))))
  show wpAny _ _ (getAttrByItsOwn (.ref so) (.str "__missing__" t) (.type "super") (.builtin "super.__getattribute__") true expr) _ _ _
  unfold getAttrByItsOwn hookBefore callGetattribute boundAndCalled
  refine wpAny_bind (wpAny_of_eq (show (if onTheHeap (.type "super") then typeLookup (.type "super") "__getattr__" else pure none) = pure none from rfl) ?_)
  refine wpAny_bind (wpAny_attempt (wpAny_holding ?_))
  rw [show (expr && onTheHeap (Value.builtin "super.__getattribute__")) = false from Bool.and_false _, if_neg (by decide)]
  show wpAny _ _ (bindSpecial (.builtin "super.__getattribute__") (.ref so) >>= _) _ _ _
  refine wpAny_bind (wpAny_of_eq (PySem.F.ks_slot_super_ga.bind _) ?_)
  refine wpAny_mono (Q := fun v s' => PostBm ⟨h, g, d, t + 1, os⟩ B v s') (E := fun _ _ => False)
    (wpAny_call_entry PySem.F.ks_slot_super_ga (hT _) PySem.F.ks_entry_super_ga (super_ga K hso hno hC (along_miss w) hBC (wpAny_mono (md_get (s := ⟨h, g, d, t + 1, os⟩) K (OkA.in1 (n := 100) (ok.weak (by decide))) B bd es ep hB) (fun v s' z => ⟨v, rfl, z⟩) fun _ _ z => z)) (PySem.F.ks_gaArgs_super _ _)) (fun v s' hv => ?_) fun _ _ z => z.elim
  obtain ⟨m, rfl, e1, e2, k⟩ := hv
  exact wpAny_pure ⟨m, rfl, e1, e2, (Kp.tk ⟨h, g, d, t, os⟩ (t + 1)).tr k⟩
end
end Mine
end

section
open PySem PySem.W PyProof.Rows PySem.Calls
set_option maxRecDepth 100000
set_option linter.all false
set_option maxHeartbeats 2000000
namespace Mine
open PySem (eval)

noncomputable abbrev fdMiss : FuncData := fdM (mst 9 1) "__missing__" "FreezableDefaultDict.__missing__" "cpy313.importlib.metadata._collections" 362 .none none 151 [("__class__", 140)] (.ref 145)
theorem K_miss (w : World) : (K01 w).lookup 152 = some ⟨.type "function", none, .func fdMiss, #[]⟩ := by kernel_rfl
theorem K_140 (w : World) : (K01 w).lookup 140 = some ⟨.type "cell", none, .cell (some (.ref 162)), #[]⟩ := by kernel_rfl
noncomputable abbrev envMiss (N : Nat) : Env := callEnv fdMiss N 152

noncomputable def vs151 (w : World) : Array Value := match (objK w 151).data with | .fields vs => vs | _ => #[]
theorem D_151 (w : World) : (objK w 151).data = .fields (vs151 w) := by kernel_rfl
theorem V_151 (w : World) : (vs151 w)[2]? = some (.str "/claim/cut.py" 438) := by kernel_rfl
theorem K_151 (w : World) : (K01 w).lookup 151 = some (objK w 151) := by kernel_rfl
noncomputable def fldOf (o : Obj) (i : Nat) : Option Value := match o.data with | .fields vs => vs[i]? | _ => none
noncomputable def isFields (o : Obj) : Bool := match o.data with | .fields _ => true | _ => false

section
variable {w : World} {A : Around} {E : Value → Shared → Prop} {s : Shared}

theorem evalArgs_at {M : Model} {A : Around} {c : Code} {E : Value → Shared → Prop} {s : Shared} {f : Value} {x : Sem Value} {rest : List (Bool × Sem Value)} {Q : Args → Shared → Prop}
    (h : _root_.PySem.wpAt M A c (spliced ((false, x) :: rest)) (fun vs s' => Q ⟨vs, []⟩ s') E s) : _root_.PySem.wpAt M A c (evalArgs f true ((false, x) :: rest) []) Q E s := by
  unfold evalArgs
  show _root_.PySem.wpAt M A c (spliced ((false, x) :: rest) >>= _) Q E s
  refine _root_.PySem.wpAt_bind (ks_wpAt_mono h (fun vs s' h' => _root_.PySem.wpAt_of_wpAny ?_) fun _ _ x => x)
  refine wpAny_bind (wpAny_pure ?_)
  refine wpAny_holding ?_
  exact wpAny_bind (wpAny_pure (wpAny_bind (wpAny_pure (wpAny_pure h'))))
theorem spliced_at {M : Model} {A : Around} {c : Code} {E : Value → Shared → Prop} {s : Shared} {x : Sem Value} {rest : List (Bool × Sem Value)} {Q : List Value → Shared → Prop}
    (h : _root_.PySem.wpAt M A c x (fun v s₁ => _root_.PySem.wpAt M A c (spliced rest) (fun vs s₂ => Q (v :: vs) s₂) E s₁) E s) : _root_.PySem.wpAt M A c (spliced ((false, x) :: rest)) Q E s := by
  rw [spliced]
  refine _root_.PySem.wpAt_bind (ks_wpAt_mono h (fun v s₁ h₁ => ?_) fun _ _ x => x)
  simp only [Bool.false_eq_true, if_false]
  refine _root_.PySem.wpAt_bind (_root_.PySem.wpAt_of_wpAny (wpAny_pure ?_))
  exact _root_.PySem.wpAt_bind (ks_wpAt_holding (ks_wpAt_mono h₁ (fun vs s₂ h₂ => _root_.PySem.wpAt_of_wpAny (wpAny_pure h₂)) fun _ _ x => x))

theorem miss_pre {B bd : Addr} {ks : List (Str × Addr)} {key : Value} {R : Result → Shared → Prop} (T : TopH w s.heap) (ok : OkA 104 A) (b : BookAt w s.heap B bd ks)
    (hk : ∀ (A1 : Around) bm s₁ tk, OkA 103 A1 → Kp s s₁ → s₁.heap.get? bm = some (bmObj B) → wpAny (model pw w) A1 (PySem.call (.builtin "getattr") [.ref B, .str "_frozen" tk, .ref bm])
      (fun f s₂ => Kp s₁ s₂ ∧ (∃ k, (k = Keeper.frame ∨ k = Keeper.machine ∨ k = Keeper.boundFrame) ∧ Looks (model pw w) s₂.heap (keeperOf f) k) ∧ codeAny (model pw w) A1 (.call f ⟨[key], []⟩) (fun r s' => ∃ v, r = .ok (.ret v) ∧ R r s') s₂) (fun _ _ => False) s₁) :
    codeAny (model pw w) A (.call (.ref 152) ⟨[.ref B, key], []⟩) R s := by
  refine ks_codeAny_call_defAt (binds := [("self", .ref B), ("key", key)]) ok.room (T.K _ _ (K_miss w)) rfl T.nl (codeRec_B T.K (by kernel_rfl)) rfl (fun A Q E s q => ?_) (by decide) (fun y hy => ?_) fun h₀ hns k₀ => ?_
  · exact wpAny_of_eq (by rfl) q
  · rcases List.mem_cons.mp hy with rfl | hy
    · rfl
    rcases List.mem_singleton.mp hy with rfl
    rfl
  generalize hN : s.heap.objs.size = N at *
  have okA : OkA 103 (A.deeper (envMiss N)) := OkA.deeper ok _
  generalize hA' : A.deeper (callEnv fdMiss N 152) = A' at *
  have hKp : Kp s { s with heap := h₀, toks := s.toks + [(("self" : Str), Value.ref B), (("key" : Str), key)].length } := Kp.of _ k₀
  generalize hs1 : ({ s with heap := h₀, toks := s.toks + [(("self" : Str), Value.ref B), (("key" : Str), key)].length } : Shared) = s₁ at *
  have hns1 : s₁.heap.Ns N (fun x => [(("self" : Str), Value.ref B), (("key" : Str), key)].reverse.lookup x) := by rw [← hs1]; exact hns
  have T1 := T.mono hKp.le
  have vself : Var (envMiss N) s₁.heap "self" (.ref B) := Var.loc rfl rfl hns1 (by rfl)
  have vkey : Var (envMiss N) s₁.heap "key" key := Var.loc rfl rfl hns1 (by rfl)
  have vget : Var (envMiss N) s₁.heap "getattr" (.builtin "getattr") := Var.bi T1 rfl rfl rfl rfl (by kernel_rfl) (by decide) (by rfl)
  have vsup : Var (envMiss N) s₁.heap "super" (.type "super") := Var.bi T1 rfl rfl rfl rfl (by kernel_rfl) (by decide) (by rfl)
  obtain ⟨l, ep, eB, en⟩ := b.at_
  have eB1 := hKp.le _ _ eB
  refine ks_wpAt_execs_cons (ks_wpAt_Return_some ?_)
  refine _root_.PySem.wpAt_bind ?_
  refine _root_.PySem.wpAt_bind (_root_.PySem.wpAt_of_wpAny (wpAny_Name (vget _ _ _ _ s₁ (fun _ _ e => e) ?_) (by decide)))
  unfold callWith
  refine _root_.PySem.wpAt_bind (ks_wpAt_holding (evalArgs_at (spliced_at (_root_.PySem.wpAt_of_wpAny (wpAny_Name (vself _ _ _ _ s₁ (fun _ _ e => e) ?_) (by decide))))))
  refine spliced_at (_root_.PySem.wpAt_of_wpAny ?_)
  refine Constant_str (pos := ⟨124, 29, 124, 38⟩) (k := 0) ?_
  have e151 := T1.K _ _ (K_151 w)
  refine spliced_at ?_
  rw [arm_eval_Attribute]
  refine _root_.PySem.wpAt_bind (ks_wpAt_super_base (s := { s₁ with toks := s₁.toks + 1 }) (f := 152) (fd := fdMiss) (ar := { arg := "self", annotation := none, pos := ⟨123, 20, 123, 24⟩ }) rfl rfl (by decide) rfl (T1.K _ _ (K_miss w)) rfl (by rfl) rfl e151 (D_151 w) (V_151 w) (by decide +kernel) (by decide +kernel) ?_)
  have hc140 : s₁.heap.IsCell 140 (some (.ref 162)) := ⟨_, T1.K _ _ (K_140 w), rfl⟩
  refine vsup _ _ _ _ _ (fun _ _ e => e) ⟨rfl, ?_⟩
  refine wpAny_loadName_free (c := 140) rfl rfl (by rfl) hc140 ?_
  refine vself _ _ _ _ _ (fun _ _ e => e) ?_
  have e162 := T1.K _ _ (K_162 w)
  obtain ⟨h1, g1, d1, t1, o1⟩ := s₁
  refine ks_wpAny_isType_cls e162 rfl ⟨rfl, ?_⟩
  refine ks_wpAny_call_super (C := 162) e162 rfl eB1 rfl (fun c z => by cases z) (looks_mroIn T1.K (by kernel_rfl)) (fun h2 e2 k2 => ?_)
  have K2 : Kp (⟨h1, g1, d1, t1, o1⟩ : Shared) ⟨h2, g1, d1, t1 + 1, o1⟩ := Kp.of (s := ⟨h1, g1, d1, t1, o1⟩) (t1 + 1) k2
  have T2 : TopH w h2 := T1.mono k2
  refine _root_.PySem.wpAt_bind (_root_.PySem.wpAt_of_wpAny (wpAny_standAt ?_))
  refine _root_.PySem.wpAt_bind (_root_.PySem.wpAt_of_wpAny (wpAny_holding (wpAny_mono (super_missing (s := ⟨h2, g1, d1, t1 + 1, o1⟩) T2.K (okA.weak (by decide)) e2 (k2 _ _ eB1)) (fun r s₃ h₃ => ?_) fun _ _ z => z)))
  obtain ⟨bm, rfl, ebm, ebm0, k3⟩ := h₃
  refine _root_.PySem.wpAt_bind (_root_.PySem.wpAt_of_wpAny (wpAny_letTemporaryGo ?_))
  refine _root_.PySem.wpAt_of_wpAny (wpAny_pure ?_)
  refine _root_.PySem.wpAt_of_wpAny (Calls.spliced_nil ?_)
  have K3 : Kp s s₃ := hKp.tr (K2.tr k3)
  refine _root_.PySem.wpAt_of_wpAny (wpAny_bind (wpAny_standAt ?_))
  refine wpAny_bind (wpAny_pure ?_)
  have hkk := hk A' bm s₃ t1 okA K3 ebm
  show wpAny _ A' (PySem.call (.builtin "getattr") [.ref B, .str "_frozen" t1, .ref bm] >>= fun r => holding [r] point >>= fun _ => pure r) _ _ s₃
  refine wpAny_bind (wpAny_mono hkk (fun f s₄ h₄ => wpAny_bind (wpAny_holding (wpAny_point (wpAny_pure ?_)))) fun _ _ z => z.elim)
  obtain ⟨k4, ⟨kp, hkp, hlk⟩, hcode⟩ := h₄
  refine _root_.PySem.wpAt_of_wpAny ?_
  have k14 : Le h1 s₄.heap := (K2.tr (k3.tr k4)).le
  refine callWith_of (P := fun h => s₄.heap = h) (by rfl) (fun h hh => ⟨kp, hkp, hh ▸ hlk⟩) (Calls.evalArgs_plain (Calls.spliced_cons ?_))
  refine wpAny_Name (vkey _ _ _ _ s₄ k14 ?_) (by decide)
  refine Calls.spliced_nil ⟨rfl, ?_⟩
  refine wpAny_call (codeAny_mono hcode fun r s₅ h₅ => ?_)
  obtain ⟨v, rfl, hR⟩ := h₅
  exact hR
end
end Mine
end

section
open PySem PySem.W PyProof.Rows PySem.Calls
set_option maxRecDepth 100000
set_option linter.all false
set_option maxHeartbeats 2000000
namespace Mine
open PySem (eval)

theorem Ents.push {w : World} {x : Str} {t : Tok} {a : Addr} : ∀ {l : List DictEntry} {ks : List (Str × Addr)}, Ents w l ks → Ents w (l ++ [⟨hashStr w x, .str x t, .ref a⟩]) (ks ++ [(x, a)])
  | _, _, .nil => .cons .nil
  | _, _, .cons r => .cons r.push

section
variable {w : World} {A : Around} {E : Value → Shared → Prop} {s : Shared}
theorem sysMod_ne {h : Heap} {B : Addr} {o : Obj} (K : (K01 w).In h) (e : h.get? B = some o) (hc : o.cls = .ref 162) : (B == sysModules) = false := by
  have h1 : (K01 w).lookup sysModules = some (objK w sysModules) := by kernel_rfl
  have h2 : ((objK w sysModules).cls == .ref 162) = false := by kernel_rfl
  cases q : (B == sysModules) with
  | false => rfl
  | true =>
    rw [beq_iff_eq.mp q, K _ _ h1] at e
    rw [Option.some.inj e, hc] at h2
    simp at h2

theorem notOrd_book (K : (K01 w).In s.heap) {B : Addr} {o : Obj} {name : String} {rest : List Value} {Q : Unit → Shared → Prop} (e : s.heap.get? B = some o) (hc : o.cls = .ref 162) (h : Q () s) : wpAny (model pw w) A (Builtin.Dict.notOrdered name ⟨.ref B :: rest, []⟩) Q E s := by
  have L0 : Looks (model pw w) s.heap (typeOf (.ref B)) (.ref 162) := hc ▸ (Looks.ld e).andThen .now
  unfold Builtin.Dict.notOrdered
  split
  · refine wpAny_bind (L0.here ?_)
    rw [if_pos (by decide)]
    have L1 : Looks (model pw w) s.heap (isInstance (.ref B) (.type "collections.OrderedDict")) false := L0.andThen (looks_mroIn K (by kernel_rfl))
    refine wpAny_bind (L1.here ?_)
    exact wpAny_pure h
  · exact wpAny_pure h

/-- the new key at the book's end -/
theorem setdef_book (K : (K01 w).In s.heap) {B bd a : Addr} {ks : List (Str × Addr)} {x : Str} {t : Tok} {R : Result → Shared → Prop} (b : BookAt w s.heap B bd ks) (hn : lookA ks x = none) (hsz : ks.length ≤ sizeLine)
    (h : ∀ h' tk, BookAt w h' B bd (ks ++ [(x, a)]) → Heap.ExtBut B s.heap h' → R (.ok (.ret (.ref a))) { s with heap := h', toks := tk }) : codeAny (model pw w) A (.builtin "dict.setdefault" ⟨[.ref B, .str x t, .ref a], []⟩) R s := by
  obtain ⟨l, ep, e, en⟩ := b.at_
  refine codeAny_builtin F.entry_dict_setdefault ?_
  unfold Builtin.«dict.setdefault»
  refine wpAny_bind ?_
  unfold Builtin.Dict.keyAndDefault
  refine wpAny_bind (notOrd_book K e rfl ?_)
  show wpAny _ _ (pure (B, Value.str x t, some (Value.ref a))) _ _ s
  refine wpAny_pure ?_
  show wpAny _ _ (if (B == sysModules) = true then _ else (dictSetDefault B (.str x t) (.ref a) >>= _)) _ _ s
  rw [if_neg (by rw [sysMod_ne K e rfl]; exact Bool.false_ne_true)]
  refine wpAny_bind ?_
  unfold dictSetDefault
  refine wpAny_holding (wpAny_bind ((strKind pw w).pyHash (strKind_is pw w x t) (wpAny_bind (wpAny_dictFind_of (knd := strKind pw w) (s := { s with toks := s.toks + 1 }) (strKind_is pw w x t) e rfl en.keys ?_))))
  have hf : l.toArray.findIdx? (fun e => (strKind pw w).is x e.key) = none := by
    have := en.find (x := x)
    rw [hn] at this
    have h2 : l.toArray.findIdx? (fun e => (strKind pw w).is x e.key) = l.findIdx? fun e => (strKind pw w).is x e.key := by simp
    rw [h2]
    cases q : l.findIdx? fun e => (strKind pw w).is x e.key with
    | none => rfl
    | some i =>
      rw [q] at this
      have hi : i < l.length := (List.findIdx?_eq_some_iff_getElem.mp q).1
      simp [hi] at this
  rw [hf]
  refine wpAny_bind (wpAny_rule (wpAny_bind (wpAny_updateDictKeys (s := { s with toks := s.toks + 1 }) e rfl (wpAny_pure ?_) (by simpa [en.len] using hsz))))
  refine wpAny_pure (h _ _ ⟨⟨l ++ [⟨hashStr w x, .str x t, .ref a⟩], ep + 1, ?_, en.push⟩⟩ (Heap.SameBut.update ..).extBut)
  refine (Heap.get?_update_self _ e rfl).trans ?_
  simp [Obj.mapDictKeys]
  rfl
end
end Mine
end

section
open PySem PySem.W PyProof.Rows PySem.Calls
set_option maxRecDepth 100000
set_option linter.all false
set_option maxHeartbeats 2000000
namespace Mine
open PySem (eval)

theorem callBorrowed_eq (f : Value) (pos : List Value) : callBorrowed f pos = (PySem.call f pos []).keep [borrowed] := by
  unfold callBorrowed PySem.call runValue
  show _ = Sem.call _ _ _ _ _
  congr 1
  funext r
  rcases r with e | (_ | _ | _ | _) <;> rfl

theorem entry_ddm : entryFor table "collections.defaultdict.__missing__" = some Builtin.«collections.defaultdict.__missing__» := entryFor_of_tree (by kernel_rfl)

section
variable {s : Shared} {h' : Heap} {t : Nat} {news : List (Addr × Obj)}
noncomputable def PostNil (s : Shared) (v : Value) (s' : Shared) : Prop := ∃ a, v = .ref a ∧ s'.heap.get? a = some ⟨.type "list", none, .seq #[] 0, #[]⟩ ∧ s.heap.get? a = none ∧ Kp s s'
theorem post_nil {a : Addr} (D : X.Mem s.heap h' [] news) (e1 : news[0]? = some (a, ⟨.type "list", none, .seq #[] 0, #[]⟩)) : PostNil s (.ref a) ⟨h', s.gens, s.drawn, t, s.os⟩ :=
  have h1 := mem_at D 0 e1
  ⟨a, rfl, h1.1, h1.2, mem_kp D⟩
end
section
variable {w : World} {A : Around} {s : Shared} {E : Value → Shared → Prop}
local macro_rules | `(tactic| x_close) => `(tactic| (refine post_nil (by assumption) ?_; first | rfl | kernel_rfl))
theorem mk_nil (X : (KF w.params).In s.heap) (ok : OkA 100 A) : wpAny (model pw w) A (PySem.call (.type "list") []) (PostNil s) E s := by
  refine litA ok fun l g => ?_
  x_run
end

section
variable {w : World} {A : Around} {s : Shared} {E : Value → Shared → Prop}
theorem slot0 {B bd : Addr} {es : Array DictEntry} {ep : Nat} (e : s.heap.get? B = some ⟨.ref 162, some bd, .dict es ep, #[some (.type "list")]⟩) {Q : Option Value → Shared → Prop} (h : Q (some (.type "list")) s) :
    wpAny (model pw w) A (Builtin.Collections_defaultdict.factory? (.ref B)) Q E s := by
  unfold Builtin.Collections_defaultdict.factory? slotAt
  refine wpAny_bind (wpAny_bind (wpAny_loadPart e (wpAny_pure (wpAny_pure ?_))))
  exact h

/-- the factory's list under a new key -/
theorem dd_missing (T : TopH w s.heap) (ok : OkA 102 A) {B bd : Addr} {ks : List (Str × Addr)} {x : Str} {t : Tok} {R : Result → Shared → Prop} (b : BookAt w s.heap B bd ks) (hn : lookA ks x = none) (hsz : ks.length ≤ sizeLine)
    (h : ∀ a s', s.heap.get? a = none → s'.heap.get? a = some ⟨.type "list", none, .seq #[] 0, #[]⟩ → BookAt w s'.heap B bd (ks ++ [(x, a)]) → (∃ h' tk, s' = { s with heap := h', toks := tk }) → Heap.ExtBut B s.heap s'.heap → R (.ok (.ret (.ref a))) s') :
    codeAny (model pw w) A (.builtin "collections.defaultdict.__missing__" ⟨[.ref B, .str x t], []⟩) R s := by
  obtain ⟨l, ep, e, en⟩ := id b.at_
  refine codeAny_builtin entry_ddm ?_
  rw [Around.under_plainId (show plainId "collections.defaultdict.__missing__" = true by decide +kernel) _]
  unfold Builtin.«collections.defaultdict.__missing__»
  refine wpAny_bind (m := selfAndOne _ _) (wpAny_pure ?_)
  refine wpAny_bind (slot0 e ?_)
  dsimp only
  refine wpAny_bind ?_
  unfold callOutOfASlot
  refine wpAny_bind (m := borrowsExactly _) (wpAny_pure ?_)
  rw [if_pos rfl, callBorrowed_eq]
  refine Calls.wpAny_keep (wpAny_mono (mk_nil T.K (OkA.in1 (n := 101) (ok.weak (by decide)) |>.weak (by decide))) (fun v s₁ h₁ => ?_) fun _ _ z => z)
  obtain ⟨a, rfl, ea, ea0, k⟩ := h₁
  refine wpAny_pure ⟨Code.quiet_builtin _ (by decide +kernel), ?_⟩
  have b1 : BookAt w s₁.heap B bd ks := ⟨l, ep, k.le _ _ e, en⟩
  refine setdef_book (T.mono k.le).K b1 hn hsz fun h' tk b2 hx => ?_
  have hBa : a ≠ B := fun z => by rw [z, e] at ea0; cases ea0
  obtain ⟨kk, h1, t1, rfl⟩ := k
  exact h a _ ea0 (hx _ _ hBa ea) b2 ⟨h', tk, rfl⟩ fun c o hc ec => hx c o hc (kk c o ec)
end
end Mine
end

section
open PySem PySem.W PyProof.Rows PySem.Calls
set_option maxRecDepth 100000
set_option linter.all false
set_option maxHeartbeats 2000000
namespace Mine
open PySem (eval)

theorem sgM_some : (Manifest.signature? "collections.defaultdict.__missing__").isSome = true := by kernel_rfl
noncomputable def sgM : Manifest.Signature := (Manifest.signature? "collections.defaultdict.__missing__").get sgM_some
theorem sgM_is : Manifest.signature? "collections.defaultdict.__missing__" = some sgM := (Option.some_get _).symm
theorem sgM_args (w : World) (a b : Value) : Bind.checkArgs "collections.defaultdict.__missing__" { sgM with full := s!"{(cd162 w).qualname.toString}.{Bind.lastOf "collections.defaultdict.__missing__"}" } ⟨[a, b], []⟩ = pure () := by kernel_rfl
theorem bkM : builtinKind "collections.defaultdict.__missing__" = some .method := by decide +kernel
theorem tpC (w : World) : typeIn (K01 w) (.ref 162) = some (.type "type") := by kernel_rfl
section
variable {w : World} {A : Around} {s : Shared} {E : Value → Shared → Prop}
theorem bound_miss (K : (K01 w).In s.heap) {B : Addr} {o : Obj} {key : Value} {Q : Unit → Shared → Prop} (e : s.heap.get? B = some o) (hc : o.cls = .ref 162) (hnc : ∀ c, o.data ≠ .cls c) (h : Q () s) :
    wpAny (model pw w) A (checkBoundCall "collections.defaultdict.__missing__" ⟨[.ref B, key], []⟩) Q E s := by
  have L0 : Looks (model pw w) s.heap (typeOf (.ref B)) (.ref 162) := hc ▸ (Looks.ld e).andThen .now
  have L1 : Looks (model pw w) s.heap (isInstance (.ref B) (.type "module")) false := L0.andThen (looks_mroIn K (by kernel_rfl))
  obtain ⟨hh, g, d, t, os⟩ := s
  unfold checkBoundCall
  rw [sgM_is, bkM]
  show wpAny _ _ (if (Manifest.AttrKind.method != .method && Manifest.AttrKind.method != .classMethod) = true then _ else _) _ _ _
  rw [if_neg (by decide)]
  refine wpAny_bind (L1.here ?_)
  rw [if_neg (by decide +kernel)]
  refine wpAny_bind (ks_wpAny_isType_inst e hnc ?_)
  rw [if_neg (by decide)]
  refine wpAny_bind (L0.here ?_)
  dsimp only
  refine wpAny_bind ((looks_clsIn K (cls162 w)).here ?_)
  refine wpAny_bind ((looks_typeIn K (tpC w)).here ?_)
  rw [if_pos (by decide), sgM_args w]
  exact wpAny_pure h

/-- the bound method is called -/
theorem call_bm (T : TopH w s.heap) (ok : OkA 102 A) {B bd bm : Addr} {ks : List (Str × Addr)} {x : Str} {t : Tok} {R : Result → Shared → Prop} (hbm : s.heap.get? bm = some (bmObj B)) (b : BookAt w s.heap B bd ks) (hn : lookA ks x = none) (hsz : ks.length ≤ sizeLine)
    (h : ∀ a s', s.heap.get? a = none → s'.heap.get? a = some ⟨.type "list", none, .seq #[] 0, #[]⟩ → BookAt w s'.heap B bd (ks ++ [(x, a)]) → (∃ h' tk, s' = { s with heap := h', toks := tk }) → Heap.ExtBut B s.heap s'.heap → R (.ok (.ret (.ref a))) s') :
    codeAny (model pw w) A (.call (.ref bm) ⟨[.str x t], []⟩) R s := by
  obtain ⟨l, ep, e, en⟩ := id b.at_
  refine codeAny_of_tree ?_
  show wpAny _ A.in1 (callAny (.ref bm) ⟨[.str x t], []⟩) _ _ s
  simp only [callAny]
  refine wpAny_bind (wpAny_load hbm ?_)
  dsimp only
  rw [if_pos (by decide)]
  refine wpAny_bind (bound_miss T.K e rfl (fun c z => by cases z) ?_)
  refine wpAny_pure ⟨Code.quiet_builtin _ (by decide +kernel), ?_⟩
  exact dd_missing T ok b hn hsz h
end
end Mine
end

section
open PySem PySem.W PyProof.Rows PySem.Calls
set_option maxRecDepth 100000
set_option linter.all false
set_option maxHeartbeats 4000000
namespace Mine
open PySem (eval)

section
variable {w : World} {A : Around} {s : Shared} {E : Value → Shared → Prop}
local macro_rules | `(tactic| x_close) => `(tactic| (refine post_val (by assumption) ?_; rfl))
theorem ga_none (X : (KF w.params).In s.heap) (ok : OkA 100 A) (B bd M : Addr) (es : Array DictEntry) (ep : Nat) (tk : Tok) (h1 : s.heap.get? B = some ⟨.ref 162, some bd, .dict es ep, #[some (.type "list")]⟩) (h2 : s.heap.get? bd = some ⟨.type "dict", none, .dict #[] 0, #[]⟩) :
    wpAny (model pw w) A (PySem.call (.builtin "getattr") [.ref B, .str "_frozen" tk, .ref M]) (PostVal s (.ref M)) E s := by
  refine litA ok fun l g => ?_
  x_run
end
section
variable {w : World} {A : Around} {s : Shared} {E : Value → Shared → Prop}
local macro_rules | `(tactic| x_close) => `(tactic| exact ⟨rfl, Kp.refl _⟩)
theorem ga_some (X : (KF w.params).In s.heap) (ok : OkA 100 A) (B bd M : Addr) (v : Value) (es : Array DictEntry) (ep ep2 : Nat) (tk tk1 : Tok) (h1 : s.heap.get? B = some ⟨.ref 162, some bd, .dict es ep, #[some (.type "list")]⟩) (h2 : s.heap.get? bd = some ⟨.type "dict", none, .dict #[⟨hashStr w "_frozen", .str "_frozen" tk1, .ref M⟩] ep2, #[]⟩) :
    wpAny (model pw w) A (PySem.call (.builtin "getattr") [.ref B, .str "_frozen" tk, v]) (PostVal s (.ref M)) E s := by
  refine litA ok fun l g => ?_
  x_run
end

section
variable {w : World} {A : Around} {s : Shared} {E : Value → Shared → Prop}
/-- `book[x]` where x does not stand in it: on to `__missing__` -/
theorem item_miss (T : TopH w s.heap) {B bd : Addr} {ks : List (Str × Addr)} {x : Str} {t : Tok} {Q : Value → Shared → Prop} (b : BookAt w s.heap B bd ks) (hl : lookA ks x = none)
    (h : codeAny (model pw w) A.in1 (.call (.ref 152) ⟨[.ref B, .str x t], []⟩) (fun r s' => ∃ v, r = .ok (.ret v) ∧ Q v s') { s with toks := s.toks + 1 }) : wpAny (model pw w) A (getItem (.ref B) (.str x t)) Q E s := by
  have K := T.K
  refine getItem_book K b ?_
  obtain ⟨l, ep, e, en⟩ := id b.at_
  have L0 : Looks (model pw w) s.heap (typeOf (.ref B)) (.ref 162) := (Looks.ld e).andThen .now
  have L1 : Looks (model pw w) s.heap (typeLookup (.ref 162) "__missing__") (some (.ref 152)) := looks_findIn K (by kernel_rfl)
  have L2 : Looks (model pw w) s.heap (bindSpecial (.ref 152) (.ref B)) (.ref 152, [.ref B]) := bind_fn K (.ref B) (by kernel_rfl)
  refine wpAny_call (codeAny_call_builtin slot_dict_getitem.plain entry_dict_getitem ?_)
  refine @check_meth (model pw w) _ _ s "dict.__getitem__" "dict" "__getitem__" (.ref B) [.str x t] _ (by decide +kernel) (by decide +kernel) (looks_book K e rfl) (args_dict_getitem _ _) ?_
  show wpAny _ _ (dictGet B (.str x t) >>= _) _ _ s
  refine wpAny_bind (get_book b ?_)
  rw [hl]
  show wpAny _ _ (Builtin.Dict.missed B (.str x t) >>= _) _ _ _
  refine wpAny_bind ?_
  unfold Builtin.Dict.missed
  rw [sysMod_ne K e rfl]
  refine wpAny_pure ?_
  refine wpAny_bind (L0 _ _ _ _ (fun _ _ e => e) ?_)
  rw [if_pos (by decide)]
  refine wpAny_bind ?_
  unfold callSpecial? specialOf
  refine wpAny_bind (wpAny_bind (L0 _ _ _ _ (fun _ _ e => e) (L1 _ _ _ _ (fun _ _ e => e) (wpAny_holding (wpAny_bind (L2 _ _ _ _ (fun _ _ e => e) ?_))))))
  refine wpAny_bind (wpAny_call (codeAny_mono h fun r s' z => ?_))
  obtain ⟨v, rfl, q⟩ := z
  exact wpAny_pure (wpAny_bind (wpAny_rule (wpAny_pure q)))

/-- the unfrozen book grows by an empty list -/
theorem miss_open (T : TopH w s.heap) (ok : OkA 104 A) {B bd : Addr} {ks : List (Str × Addr)} {x : Str} {t : Tok} (b : BookAt w s.heap B bd ks) (hbd : s.heap.get? bd = some ⟨.type "dict", none, .dict #[] 0, #[]⟩) (hn : lookA ks x = none) (hsz : ks.length ≤ sizeLine) :
    codeAny (model pw w) A (.call (.ref 152) ⟨[.ref B, .str x t], []⟩) (fun r s' => ∃ a, r = .ok (.ret (.ref a)) ∧ s.heap.get? a = none ∧ s'.heap.get? a = some ⟨.type "list", none, .seq #[] 0, #[]⟩ ∧ BookAt w s'.heap B bd (ks ++ [(x, a)]) ∧
      (∃ h' tk, s' = { s with heap := h', toks := tk }) ∧ Heap.ExtBut B s.heap s'.heap) s := by
  obtain ⟨l, ep, e, en⟩ := id b.at_
  refine miss_pre T ok b fun A1 bm s₁ tk ok1 k1 hbm => ?_
  have T1 := T.mono k1.le
  refine wpAny_mono (ga_none T1.K (ok1.weak (by decide)) B bd bm _ ep tk (k1.le _ _ e) (k1.le _ _ hbd)) (fun f s₂ h₂ => ?_) fun _ _ z => z
  obtain ⟨rfl, k2⟩ := h₂
  have hbm2 := k2.le _ _ hbm
  refine ⟨k2, ⟨.machine, .inr (.inl rfl), (Looks.ld hbm2).andThen .now⟩, ?_⟩
  have b2 : BookAt w s₂.heap B bd ks := ⟨l, ep, (k1.tr k2).le _ _ e, en⟩
  refine call_bm (T1.mono k2.le) (ok1.weak (by decide)) hbm2 b2 hn hsz fun a s₃ ha0 ha hb3 hs3 hx3 => ?_
  have k12 := k1.tr k2
  refine ⟨_, rfl, a, rfl, fresh_le k12.le ha0, ha, hb3, ?_, fun c o hc ec => hx3 c o hc (k12.le c o ec)⟩
  obtain ⟨kk, h', t', rfl⟩ := k12
  obtain ⟨h3, t3, rfl⟩ := hs3
  exact ⟨h3, t3, rfl⟩
end
end Mine
end

section
open PySem PySem.W PyProof.Rows PySem.Calls
set_option maxRecDepth 100000
set_option linter.all false
set_option maxHeartbeats 2000000
namespace Mine
open PySem (eval)

section
variable {w : World} {A : Around} {s : Shared} {E : Value → Shared → Prop} {env : Env}
/-- `book[e]` from its base and its key on -/
theorem tail_book (T : TopH w s.heap) {value slice : Expr} {B bd : Addr} {ks : List (Str × Addr)} {key : Value} {Q : Value → Shared → Prop} (b : BookAt w s.heap B bd ks) (h : wpAny (model pw w) A (getItem (.ref B) key) Q E s)
    (hs : subscripted slice false (.ref B) key = operate [.ref B, key] (getItem (.ref B) key)) (ht : ∀ r, letTemporaryGo value (.ref B) r = pure ()) : wpAny (model pw w) A (subscriptTail value slice (.ref B) key) Q E s := by
  obtain ⟨l, ep, e, en⟩ := id b.at_
  have L0 : Looks (model pw w) s.heap (typeOf (.ref B)) (.ref 162) := (Looks.ld e).andThen .now
  have L1 : Looks (model pw w) s.heap (typeLookup (.ref 162) "__getitem__") (some (.builtin "dict.__getitem__")) := looks_findIn T.K (by kernel_rfl)
  unfold subscriptTail
  refine wpAny_bind ?_
  unfold getitemInPython specialOf
  refine wpAny_bind (wpAny_bind (L0.here (L1.here ?_)))
  refine wpAny_pure (wpAny_bind ?_)
  rw [hs]
  exact wpAny_operating (wpAny_mono h (fun r s₃ h₃ => wpAny_bind (wpAny_of_eq (ht r) (wpAny_pure h₃))) fun _ _ x => x)
end

section
variable {prog : Program} {w : World} {A : Around} {env : Env} {h : Heap} {S : Addr → Prop}
/-- a for over a list, where what may change is said of the iterator too -/
theorem for_list2 {tgt : Expr} {body : List Stmt} {s₁ : Shared} {l : Addr} {vs : Array Value} {xs : List D} {S0 : Addr → Prop} (hh : A.handled = none) (hl : s₁.heap.IsList l vs) (hx : RDs s₁.heap S0 vs.toList xs)
    (Mu : Addr → Prop) (nl : ¬ Mu l) (nS : ∀ a, S0 a → ¬ Mu a) (nI : ¬ Mu s₁.heap.objs.size) (tb : ∀ d ∈ xs, ∃ bs, Bd tgt d bs)
    (J : Addr → Nat → Shared → Prop)
    (j0 : ∀ h', Le s₁.heap h' → J s₁.heap.objs.size 0 { s₁ with heap := h' })
    (jst : ∀ i s h' tk, J s₁.heap.objs.size i s → Heap.ExtBut s₁.heap.objs.size s.heap h' → J s₁.heap.objs.size i { s with heap := h', toks := tk })
    {R : Result → Shared → Prop} {E : Value → Shared → Prop}
    (turn : ∀ i d v s, xs[i]? = some d → J s₁.heap.objs.size i s → RD s.heap (fun b => S0 b ∧ s₁.heap.get? b ≠ none) v d → KeepBut Mu s₁.heap s.heap → s.heap.get? s₁.heap.objs.size ≠ none → ∀ E, wpAny (model prog w) A (assign tgt env v) (fun _ s₂ => wpAny (model prog w) A (execs body env) (fun f s₃ => (f = .next ∨ f = .cont) ∧ J s₁.heap.objs.size (i + 1) s₃ ∧ KeepBut Mu s.heap s₃.heap) E s₂) E s)
    (done : ∀ s, J s₁.heap.objs.size xs.length s → KeepBut Mu s₁.heap s.heap → R (.ok .next) s) :
    wpAny (model prog w) A (pyIter (.ref l)) (fun it s₂ => codeAny (model prog w) A (.forLoop tgt it body [] env) R s₂) E s₁ := by
  refine wpAny_pyIter_list hl ?_
  generalize hI : s₁.heap.objs.size = I at *
  have hIn : s₁.heap.get? I = none := by rw [← hI]; exact new_none _
  have hlI : l ≠ I := fun z => by obtain ⟨o, e, _⟩ := hl; rw [z, hIn] at e; cases e
  have k2 : Le s₁.heap (s₁.heap.push { cls := .type "list_iterator", data := .fields #[.ref l, .int 0 0] }) := fun b o e => Heap.get?_push_of_some _ e
  have hlen := hx.length
  have hsz : vs.size = xs.length := by rw [← hlen, Array.length_toList]
  have W := Walks.list (prog := prog) (w := w) hh I l hlI vs
  have fp : ∀ b ∈ [I, l], ¬ Mu b := fun b hb => by
    rcases List.mem_cons.mp hb with rfl | hb
    · exact nI
    · rw [List.mem_singleton.mp hb]; exact nl
  have one : ∀ {h h' : Heap}, (∀ b o, b ∉ [I] → h.get? b = some o → h'.get? b = some o) → Heap.ExtBut I h h' := fun hk b o hb e => hk b o (by simpa using hb) e
  rw [hsz] at W
  refine for_walk W ⟨⟨_, by rw [← hI]; exact Heap.get?_push_size _ (by rfl), rfl, rfl⟩, hl.at fun o e => k2 _ o e⟩ Mu fp
    (fun i s => J I i s ∧ KeepBut Mu s₁.heap s.heap ∧ RDs s.heap (fun b => S0 b ∧ s₁.heap.get? b ≠ none) vs.toList xs) ⟨j0 _ k2, k2.keepBut, hx.dom.le k2⟩ ?_ ?_ ?_ ?_
  · rintro i s h' tk ⟨j, kk, r⟩ hk
    have nb : ∀ b o, s₁.heap.get? b = some o → b ≠ I := fun b o e z => by rw [z, hIn] at e; cases e
    exact ⟨jst i s h' tk j (one hk), fun b o n e => one hk b o (nb b o e) (kk b o n e),
      r.mono (fun a o s e => one hk a o (fun z => s.2 (by rw [z]; exact hIn)) e) fun _ s => s⟩
  · intro i v s Q E hP hst hQ
    obtain ⟨d, hd, rd⟩ := hx.get' (i := i) (v := v) (by rw [Array.getElem?_toList]; exact hP)
    obtain ⟨bs, b⟩ := tb d (List.mem_of_getElem? hd)
    cases b with
    | name => exact wpAny_pure hQ
    | tup2 => (first | cases rd using RD.atomE | cases rd using RDs.nilE | cases rd using RD.strE | cases rd using RD.intE | cases rd using RD.boolE | cases rd using RD.noneE | cases rd); exact wpAny_letOwnedTupleGo_listiter hst.1 hQ
    | tup3 => (first | cases rd using RD.atomE | cases rd using RDs.nilE | cases rd using RD.strE | cases rd using RD.intE | cases rd using RD.boolE | cases rd using RD.noneE | cases rd); exact wpAny_letOwnedTupleGo_listiter hst.1 hQ
  · rintro i v s hi hP ⟨j, kk, r⟩ hst E
    obtain ⟨d, hd, rd⟩ := r.get' (i := i) (v := v) (by rw [Array.getElem?_toList]; exact hP)
    have hin : s.heap.get? I ≠ none := by obtain ⟨o, e, _⟩ := hst.1; rw [e]; exact fun z => nomatch z
    refine wpAny_mono (turn i d v s hd j rd kk hin E) (fun _ s₂ q => wpAny_mono q (fun f s₃ q => ?_) fun _ _ q => q) fun _ _ q => q
    obtain ⟨hf, j3, k3⟩ := q
    exact ⟨hf, ⟨j3, kk.trans k3, r.keepBut k3 fun a s => nS a s.1⟩, k3⟩
  · rintro s ⟨j, kk, r⟩
    exact done s j kk
end

/-- the book with its lists: key, list, values -/
structure BookSt (w : World) (h : Heap) (B bd : Addr) (bk : List (Str × Addr × List Str)) : Prop where
  book : BookAt w h B bd (bk.map fun e => (e.1, e.2.1))
  lst : ∀ e ∈ bk, ∃ its, h.PlainList e.2.1 its ∧ RDs h (fun _ => False) its.toList (e.2.2.map .str)
  nd : (bk.map fun e => e.2.1).Nodup
  ne : ∀ e ∈ bk, e.2.1 ≠ B ∧ e.2.1 ≠ bd
  kd : (bk.map fun e => e.1).Nodup
/-- the objects of a book that may change -/
noncomputable def BookMu (B : Addr) (bk : List (Str × Addr × List Str)) (a : Addr) : Prop := a = B ∨ ∃ e ∈ bk, e.2.1 = a
theorem BookSt.keep {w : World} {h h' : Heap} {B bd : Addr} {bk : List (Str × Addr × List Str)} (x : BookSt w h B bd bk) (k : ∀ a o, BookMu B bk a → h.get? a = some o → h'.get? a = some o) : BookSt w h' B bd bk := by
  obtain ⟨l, ep, e, en⟩ := x.book.at_
  refine ⟨⟨l, ep, k _ _ (.inl rfl) e, en⟩, fun z hz => ?_, x.nd, x.ne, x.kd⟩
  obtain ⟨its, ⟨n, hp⟩, r⟩ := x.lst z hz
  exact ⟨its, ⟨n, k _ _ (.inr ⟨z, hz, rfl⟩) hp⟩, r.mono (fun a o s _ => s.elim) fun _ s => s⟩
end Mine
end

section
open PySem PySem.W PyProof.Rows PySem.Calls
set_option maxRecDepth 100000
set_option linter.all false
set_option maxHeartbeats 2000000
namespace Mine
open PySem (eval)

noncomputable abbrev Bk := List (Str × Addr × List Str)
noncomputable abbrev ksOf (bk : Bk) : List (Str × Addr) := bk.map fun e => (e.1, e.2.1)
theorem look_hit {bk : Bk} {x : Str} {a : Addr} (h : lookA (ksOf bk) x = some a) : ∃ v, (x, a, v) ∈ bk := by
  unfold lookA at h
  obtain ⟨k, hk, rfl⟩ := Option.map_eq_some_iff.mp h
  have h1 := List.find?_some hk
  have h2 := List.mem_of_find?_eq_some hk
  obtain ⟨e, he, rfl⟩ := List.mem_map.mp h2
  have h3 : e.1 = x := by simpa using h1
  exact ⟨e.2.2, by rw [← h3]; exact he⟩
theorem look_none {bk : Bk} {x : Str} (h : lookA (ksOf bk) x = none) : x ∉ bk.map fun e => e.1 := by
  unfold lookA at h
  rw [Option.map_eq_none_iff, List.find?_eq_none] at h
  intro hx
  obtain ⟨e, he, rfl⟩ := List.mem_map.mp hx
  exact h (e.1, e.2.1) (List.mem_map.mpr ⟨e, he, rfl⟩) (by simp)

/-- the values of a book, told without addresses -/
noncomputable def bkV (bk : Bk) : List (Str × List Str) := bk.map fun e => (e.1, e.2.2)
noncomputable def touchV (bv : List (Str × List Str)) (x : Str) : List (Str × List Str) := if (bv.map (·.1)).contains x = true then bv else bv ++ [(x, [])]
noncomputable def getV (bv : List (Str × List Str)) (x : Str) : List Str := ((bv.find? fun e => e.1 == x).map (·.2)).getD []

section
variable {w : World} {A : Around} {s : Shared} {E : Value → Shared → Prop}
/-- `book[x]` of the unfrozen book -/
theorem item_open (T : TopH w s.heap) (ok : OkA 105 A) {B bd : Addr} {bk : Bk} {x : Str} {t : Tok} (b : BookSt w s.heap B bd bk) (hbd : s.heap.get? bd = some ⟨.type "dict", none, .dict #[] 0, #[]⟩) (hB : B ≠ bd) (hsz : bk.length ≤ sizeLine) :
    wpAny (model pw w) A (getItem (.ref B) (.str x t)) (fun r s' => ∃ a v bk', r = .ref a ∧ (x, a, v) ∈ bk' ∧ BookSt w s'.heap B bd bk' ∧ bkV bk' = touchV (bkV bk) x ∧ (∀ e ∈ bk', e ∈ bk ∨ s.heap.get? e.2.1 = none) ∧ (∀ e ∈ bk, e ∈ bk') ∧
      (∃ h' tk, s' = { s with heap := h', toks := tk }) ∧ Heap.ExtBut B s.heap s'.heap) E s := by
  cases hl : lookA (ksOf bk) x with
  | some a =>
    refine item_hit T.K b.book hl ?_
    obtain ⟨v, hv⟩ := look_hit hl
    refine ⟨a, v, bk, rfl, hv, b.keep fun _ _ _ e => e, ?_, fun e he => .inl he, fun e he => he, ⟨_, _, rfl⟩, fun _ _ _ e => e⟩
    unfold touchV
    rw [if_pos]
    simp only [bkV, List.map_map, List.contains_iff_mem, List.mem_map]
    exact ⟨_, hv, rfl⟩
  | none =>
    have hx := look_none hl
    refine item_miss T b.book hl (codeAny_mono (miss_open (s := { s with toks := s.toks + 1 }) T (OkA.in1 (n := 104) ok) b.book hbd hl (by simpa using hsz)) fun r s' h => ?_)
    obtain ⟨a, rfl, ha0, ha, hb, hs, hx2⟩ := h
    have hlt : ∀ c o, s.heap.get? c = some o → c ≠ a := fun c o e z => by rw [z, show s.heap.get? a = none from ha0] at e; cases e
    have hold : ∀ e ∈ bk, s.heap.get? e.2.1 ≠ none := fun e he => by obtain ⟨its, ⟨n, hp⟩, _⟩ := b.lst e he; exact some_ne hp
    have haB : a ≠ B := fun z => by
      obtain ⟨l, ep, e, en⟩ := b.book.at_
      exact hlt _ _ e z.symm
    refine ⟨_, rfl, a, [], bk ++ [(x, a, [])], rfl, by simp, ⟨?_, ?_, ?_, ?_, ?_⟩, ?_, ?_, fun e he => List.mem_append_left _ he, ?_, hx2⟩
    · have : ksOf (bk ++ [(x, a, [])]) = ksOf bk ++ [(x, a)] := by simp [ksOf]
      rw [← this] at hb
      exact hb
    · intro e he
      rcases List.mem_append.mp he with he | he
      · obtain ⟨its, ⟨n, hp⟩, r⟩ := b.lst e he
        exact ⟨its, ⟨n, hx2 _ _ (b.ne e he).1 hp⟩, r.mono (fun a o s _ => s.elim) fun _ s => s⟩
      · rw [List.mem_singleton.mp he]
        exact ⟨#[], ⟨0, ha⟩, .nil⟩
    · rw [List.map_append, List.nodup_append]
      refine ⟨b.nd, by simp, fun u hu v hv => ?_⟩
      obtain ⟨e, he, rfl⟩ := List.mem_map.mp hu
      simp only [List.map_cons, List.map_nil, List.mem_singleton] at hv
      subst hv
      intro z
      exact hold e he (z ▸ ha0)
    · intro e he
      rcases List.mem_append.mp he with he | he
      · exact b.ne e he
      · rw [List.mem_singleton.mp he]
        exact ⟨haB, fun z => hlt _ _ hbd z.symm⟩
    · rw [List.map_append, List.nodup_append]
      refine ⟨b.kd, by simp, fun u hu v hv => ?_⟩
      simp only [List.map_cons, List.map_nil, List.mem_singleton] at hv
      subst hv
      intro z
      exact hx (z ▸ hu)
    · unfold touchV
      rw [if_neg]
      · simp [bkV]
      · simp only [bkV, List.map_map, List.contains_iff_mem]
        exact hx
    · intro e he
      rcases List.mem_append.mp he with he | he
      · exact .inl he
      · rw [List.mem_singleton.mp he]; exact .inr ha0
    · obtain ⟨h', tk, rfl⟩ := hs
      exact ⟨h', tk, rfl⟩
end
end Mine
end

section
open PySem PySem.W PyProof.Rows PySem.Calls
set_option maxRecDepth 100000
set_option linter.all false
set_option maxHeartbeats 2000000
namespace Mine
open PySem (eval)

noncomputable def pushV (bv : List (Str × List Str)) (x v : Str) : List (Str × List Str) := (touchV bv x).map fun e => if (e.1 == x) = true then (e.1, e.2 ++ [v]) else e

theorem inj_of_nodup {α β : Type} {f : α → β} : ∀ {l : List α}, (l.map f).Nodup → ∀ {e g}, e ∈ l → g ∈ l → f e = f g → e = g
  | [], _, _, _, he, _, _ => nomatch he
  | z :: r, nd, e, g, he, hg, h => by
    rw [List.map_cons, List.nodup_cons] at nd
    rcases List.mem_cons.mp he with q | he'
    · rcases List.mem_cons.mp hg with q2 | hg'
      · rw [q, q2]
      · exact absurd (by rw [← q, h]; exact List.mem_map_of_mem hg') nd.1
    · rcases List.mem_cons.mp hg with q2 | hg'
      · exact absurd (by rw [← q2, ← h]; exact List.mem_map_of_mem he') nd.1
      · exact inj_of_nodup nd.2 he' hg' h

section
variable {w : World} {h h' : Heap} {B bd : Addr} {bk : Bk}
/-- one list of the book is grown -/
theorem BookSt.grow (b : BookSt w h B bd bk) {x : Str} {a : Addr} {v : List Str} {y : Str} {t : Tok} {its : Array Value} (hm : (x, a, v) ∈ bk) (hl : h.PlainList a its) (hs : Heap.ExtBut a h h') (hl' : h'.PlainList a (its.push (.str y t))) :
    BookSt w h' B bd (bk.map fun e => if (e.1 == x) = true then (e.1, e.2.1, e.2.2 ++ [y]) else e) := by
  have haB : a ≠ B := (b.ne _ hm).1
  have e1 : (bk.map fun e => if (e.1 == x) = true then (e.1, e.2.1, e.2.2 ++ [y]) else e).map (fun e => e.1) = bk.map fun e => e.1 := by
    rw [List.map_map]
    refine List.map_congr_left fun e _ => ?_
    simp only [Function.comp]
    split <;> rfl
  have e2 : (bk.map fun e => if (e.1 == x) = true then (e.1, e.2.1, e.2.2 ++ [y]) else e).map (fun e => e.2.1) = bk.map fun e => e.2.1 := by
    rw [List.map_map]
    refine List.map_congr_left fun e _ => ?_
    simp only [Function.comp]
    split <;> rfl
  have e3 : (bk.map fun e => if (e.1 == x) = true then (e.1, e.2.1, e.2.2 ++ [y]) else e).map (fun e => (e.1, e.2.1)) = bk.map fun e => (e.1, e.2.1) := by
    rw [List.map_map]
    refine List.map_congr_left fun e _ => ?_
    simp only [Function.comp]
    split <;> rfl
  refine ⟨?_, ?_, e2 ▸ b.nd, ?_, e1 ▸ b.kd⟩
  · rw [e3]
    obtain ⟨l, ep, e, en⟩ := b.book.at_
    exact ⟨l, ep, hs _ _ (Ne.symm haB) e, en⟩
  · intro e' he'
    obtain ⟨e, he, rfl⟩ := List.mem_map.mp he'
    cases hx : (e.1 == x) with
    | true =>
      have q : e = (x, a, v) := inj_of_nodup b.kd he hm (by simpa using hx)
      subst q
      simp only [if_true]
      obtain ⟨its0, ⟨n0, hp0⟩, r⟩ := b.lst _ hm
      obtain ⟨n, hp⟩ := hl
      rw [hp] at hp0
      injection hp0 with hp0
      injection hp0 with _ _ hp0 _
      injection hp0 with hp0 _
      subst hp0
      refine ⟨_, hl', ?_⟩
      rw [Array.toList_push, List.map_append]
      exact (r.mono (fun a o s _ => s.elim) fun _ s => s).append (.cons (.str _ _) .nil)
    | false =>
      simp only [Bool.false_eq_true, if_false]
      obtain ⟨its0, ⟨n0, hp0⟩, r⟩ := b.lst _ he
      refine ⟨its0, ⟨n0, hs _ _ (fun z => ?_) hp0⟩, r.mono (fun a o s _ => s.elim) fun _ s => s⟩
      have := inj_of_nodup b.nd he hm z
      rw [this] at hx
      simp at hx
  · intro e' he'
    obtain ⟨e, he, rfl⟩ := List.mem_map.mp he'
    have := b.ne e he
    split <;> exact this
theorem bkV_grow (bk : Bk) (x y : Str) : bkV (bk.map fun e => if (e.1 == x) = true then (e.1, e.2.1, e.2.2 ++ [y]) else e) = (bkV bk).map fun e => if (e.1 == x) = true then (e.1, e.2 ++ [y]) else e := by
  unfold bkV
  rw [List.map_map, List.map_map]
  refine List.map_congr_left fun e _ => ?_
  simp only [Function.comp]
  split <;> rfl
end
end Mine
end

section
open PySem PySem.W PyProof.Rows PySem.Calls
set_option maxRecDepth 100000
set_option linter.all false
set_option maxHeartbeats 2000000
namespace Mine
open PySem (eval)

noncomputable abbrev envRun (N : Nat) : Env := callEnvC (fdOf "_law_run" 15 280) N 281

section
variable {w : World} {A : Around} {E : Value → Shared → Prop} {env : Env} {h : Heap} {S : Addr → Prop}
theorem EvD.fname (T : TopH w h) (ok : OkA 104 A) {x : Str} {p0 ap : Pos} {a d : Addr} {u v : Str} {tu tv : Tok} {n : Nat} (vp : Var env h x (.ref a)) (ha : h.get? a = some ⟨.ref 257, some d, .seq #[.str u tu, .str v tv] n, #[]⟩) (hd : h.get? d = some ⟨.type "dict", none, .dict #[] 0, #[]⟩) (hx : (x == ("__debug__" : Str)) = false := by decide) :
    EvD pw w A env h S (.Attribute (.Name x p0) "name" ap) (.str u) := fun s E hs => wpAny_mono (ev_name (T.mono hs) ok (vp.mono hs) (hs _ _ ha) (hs _ _ hd) rfl hx) (fun r s' q => by
  obtain ⟨rfl, k⟩ := q
  exact ⟨.str _ _, k⟩) fun _ _ q => q
theorem EvD.fvalue (T : TopH w h) (ok : OkA 104 A) {x : Str} {p0 ap : Pos} {a d : Addr} {u v : Str} {tu tv : Tok} {n : Nat} (vp : Var env h x (.ref a)) (ha : h.get? a = some ⟨.ref 257, some d, .seq #[.str u tu, .str v tv] n, #[]⟩) (hd : h.get? d = some ⟨.type "dict", none, .dict #[] 0, #[]⟩) (hx : (x == ("__debug__" : Str)) = false := by decide) :
    EvD pw w A env h S (.Attribute (.Name x p0) "value" ap) (.str v) := fun s E hs => wpAny_mono (ev_value (T.mono hs) ok (vp.mono hs) (hs _ _ ha) (hs _ _ hd) rfl hx) (fun r s' q => by
  obtain ⟨rfl, k⟩ := q
  exact ⟨.str _ _, k⟩) fun _ _ q => q
end

/-- what a look-up in the open book leaves -/
noncomputable def Opened (w : World) (B bd : Addr) (bk : Bk) (x : Str) (s : Shared) (r : Value) (s' : Shared) : Prop :=
  ∃ a v bk', r = .ref a ∧ (x, a, v) ∈ bk' ∧ BookSt w s'.heap B bd bk' ∧ bkV bk' = touchV (bkV bk) x ∧ (∀ e ∈ bk', e ∈ bk ∨ s.heap.get? e.2.1 = none) ∧ (∀ e ∈ bk, e ∈ bk') ∧ (∃ h' tk, s' = { s with heap := h', toks := tk }) ∧ Heap.ExtBut B s.heap s'.heap

section
variable {w : World} {A : Around} {E : Value → Shared → Prop} {env : Env} {s : Shared}
/-- `book[e]` -/
theorem ev_book (T : TopH w s.heap) (ok : OkA 105 A) {B bd : Addr} {bk : Bk} {x : Str} {p pos : Pos} {slice : Expr} (vb : Var env s.heap "book" (.ref B)) (b : BookSt w s.heap B bd bk) (hbd : s.heap.get? bd = some ⟨.type "dict", none, .dict #[] 0, #[]⟩) (hB : B ≠ bd) (hsz : bk.length ≤ sizeLine)
    (ev : EvD pw w A env s.heap (fun _ => False) slice (.str x)) (hs : ∀ o i, subscripted slice false o i = operate [o, i] (getItem o i) := by intro _ _; rfl) :
    wpAny (model pw w) A (eval (.Subscript (.Name "book" p) slice pos) env) (Opened w B bd bk x s) E s := by
  refine Subscript_ (wpAny_Name (vb _ _ _ _ s (fun _ _ e => e) ?_) (by decide))
  refine wpAny_mono (ev s E fun _ _ e => e) (fun i s₁ q => ?_) fun _ _ q => q
  obtain ⟨r, k⟩ := q
  (first | cases r using RD.atomE | cases r using RDs.nilE | cases r using RD.strE | cases r using RD.intE | cases r using RD.boolE | cases r using RD.noneE | cases r)
  rename_i t
  have b1 : BookSt w s₁.heap B bd bk := b.keep fun a o _ e => k.le a o e
  have T1 := T.mono k.le
  refine tail_book T1 b1.book (wpAny_mono (item_open T1 ok b1 (k.le _ _ hbd) hB hsz) (fun v s₂ q => ?_) fun _ _ q => q) (hs _ _) (fun _ => rfl)
  obtain ⟨a, v, bk', rfl, hm, hb, hv, hn, ho, hs2, hx2⟩ := q
  refine ⟨a, v, bk', rfl, hm, hb, hv, fun e he => (hn e he).imp id fun z => fresh_le k.le z, ho, ?_, fun c o hc ec => hx2 c o hc (k.le c o ec)⟩
  obtain ⟨kk, h', t', rfl⟩ := k
  obtain ⟨h3, t3, rfl⟩ := hs2
  exact ⟨h3, t3, rfl⟩
end
end Mine
end

section
open PySem PySem.W PyProof.Rows PySem.Calls
set_option maxRecDepth 100000
set_option linter.all false
set_option maxHeartbeats 2000000
namespace Mine
open PySem (eval)

theorem touch_at {bk bk' : Bk} {x : Str} (h : bkV bk' = touchV (bkV bk) x) : (bkV bk').map (fun e => if (e.1 == x) = true then (e.1, e.2 ++ [y]) else e) = pushV (bkV bk) x y := by
  unfold pushV; rw [h]

section
variable {w : World} {A : Around} {E : Value → Shared → Prop} {env : Env} {s : Shared}
/-- `book[e].append(f)` -/
theorem exec_bookAppend (T : TopH w s.heap) (ok : OkA 105 A) {B bd : Addr} {bk : Bk} {x y : Str} {p pos apos cpos epos : Pos} {slice elt : Expr} {Q : Flow → Shared → Prop} (vb : Var env s.heap "book" (.ref B)) (b : BookSt w s.heap B bd bk) (hbd : s.heap.get? bd = some ⟨.type "dict", none, .dict #[] 0, #[]⟩) (hB : B ≠ bd) (hsz : bk.length ≤ sizeLine)
    (ev : EvD pw w A env s.heap (fun _ => False) slice (.str x)) (ev2 : ∀ h', Heap.ExtBut B s.heap h' → EvD pw w A env h' (fun _ => False) elt (.str y)) (hlen : ∀ v : List Str, (x, v) ∈ touchV (bkV bk) x → v.length ≤ sizeLine)
    (hQ : ∀ bk' s', BookSt w s'.heap B bd bk' → bkV bk' = pushV (bkV bk) x y → (∀ e ∈ bk', (∃ v, (e.1, e.2.1, v) ∈ bk) ∨ s.heap.get? e.2.1 = none) → (∃ h' tk, s' = { s with heap := h', toks := tk }) → (∀ c o, c ≠ B → (∀ e ∈ bk, e.2.1 ≠ c) → s.heap.get? c = some o → s'.heap.get? c = some o) → Q .next s')
    (hs : ∀ o i, subscripted slice false o i = operate [o, i] (getItem o i) := by intro _ _; rfl) (hstar : isStar elt = false := by rfl) (hline : (apos.endLine == cpos.line) = true := by rfl) (hi : interactive env = false := by rfl)
    (hsw : swapsWith (.Call (.Attribute (.Subscript (.Name "book" p) slice pos) "append" apos) [elt] [] cpos) none epos.line env = pure false := by rfl)
    (hbase : attributeBase (.Subscript (.Name "book" p) slice pos) "append" env (eval (.Subscript (.Name "book" p) slice pos) env) = eval (.Subscript (.Name "book" p) slice pos) env := by rfl) :
    wpAny (model pw w) A (exec (.Expr (.Call (.Attribute (.Subscript (.Name "book" p) slice pos) "append" apos) [elt] [] cpos) epos) env) Q E s := by
  have htr : backTo cpos (starEach [elt] env) = [(false, eval elt env)] := by rw [starEach_cons hstar]; rfl
  refine wpAny_Expr (wpAny_Call_append hbase (by rw [htr]; rfl) hline htr (wpAny_mono (ev_book T ok vb b hbd hB hsz ev hs) (fun r s₁ h₁ => ?_) fun _ _ q => q)) hi hsw
  obtain ⟨a, v, bk1, rfl, hm, hb, hv, hn, ho, hs1, hx1⟩ := h₁
  obtain ⟨its, hp, hr⟩ := hb.lst _ hm
  obtain ⟨n, hpe⟩ := id hp
  refine ⟨a, its, rfl, ⟨_, n, hpe, rfl, rfl, rfl⟩, ?_⟩
  refine wpAny_mono ((ev2 _ hx1) s₁ E fun _ _ e => e) (fun z s₂ q => ?_) fun _ _ q => q
  obtain ⟨rz, k⟩ := q
  (first | cases rz using RD.atomE | cases rz using RDs.nilE | cases rz using RD.strE | cases rz using RD.intE | cases rz using RD.boolE | cases rz using RD.noneE | cases rz)
  rename_i t
  have hb2 : BookSt w s₂.heap B bd bk1 := hb.keep fun a o _ e => k.le a o e
  have hp2 : s₂.heap.PlainList a its := ⟨n, k.le _ _ hpe⟩
  have hl : its.size ≤ sizeLine := by
    rw [← Array.length_toList, hr.length, List.length_map]
    refine hlen v ?_
    rw [← hv]
    exact List.mem_map.mpr ⟨_, hm, rfl⟩
  refine wpAny_list_append_plain (hsz := hl) hp2 fun h' hl' hs' => ?_
  have hb3 := hb2.grow (y := y) (t := t) hm hp2 hs'.extBut hl'
  refine hQ _ _ hb3 ?_ ?_ ?_ ?_
  · rw [bkV_grow]; exact touch_at hv
  · intro e' he'
    obtain ⟨e, he, rfl⟩ := List.mem_map.mp he'
    have : (∃ v, (e.1, e.2.1, v) ∈ bk) ∨ s.heap.get? e.2.1 = none := (hn e he).imp (fun z => ⟨e.2.2, z⟩) id
    split <;> exact this
  · obtain ⟨h1, t1, rfl⟩ := hs1
    obtain ⟨kk, h2, t2, rfl⟩ := k
    exact ⟨_, _, rfl⟩
  · intro c o hcB hcl ec
    refine hs'.extBut c o (fun z => ?_) (k.le c o (hx1 c o hcB ec))
    rcases hn _ hm with q | q
    · exact hcl _ q z.symm
    · dsimp only at q; rw [← z, ec] at q; cases q
end
end Mine
end

section
open PySem PySem.W PyProof.Rows PySem.Calls
set_option maxRecDepth 100000
set_option linter.all false
set_option maxHeartbeats 2000000
namespace Mine
open PySem (eval)

/-- a line of the book -/
noncomputable def lineOf (a b : Str) : Str := a ++ " = " ++ b
theorem line_split : ∀ a ∈ names8, ∀ b ∈ names8, Txt.splitMax (lineOf a b) "=" 1 = [a ++ " ", " " ++ b] := by decide +kernel
theorem line_strip1 : ∀ a ∈ names8, Txt.strip (a ++ " ") = a := by decide +kernel
theorem line_strip2 : ∀ b ∈ names8, Txt.strip (" " ++ b) = b := by decide +kernel
theorem line_len : ∀ a ∈ names8, ∀ b ∈ names8, (lineOf a b).length = 7 ∧ (a ++ (" " : Str)).length = 3 ∧ ((" " : Str) ++ b).length = 3 := by decide +kernel
end Mine
end

section
open PySem PySem.W PyProof.Rows PySem.Calls
set_option maxRecDepth 100000
set_option linter.all false
set_option maxHeartbeats 2000000
namespace Mine
open PySem (eval)

/-- the state of `_law_run`: its frame and its book -/
structure RunSt (w : World) (s₀ : Shared) (N : Nat) (B bd I : Addr) (bk : Bk) (bdo : Obj) (m : Str → Option Value) (s : Shared) : Prop where
  F : Frm s₀ (envRun N) m (fun _ => none) s
  st : BookSt w s.heap B bd bk
  dk : s.heap.get? bd = some bdo
  mb : m "book" = some (.ref B)
  hB : B ≠ bd
  nB : s₀.heap.get? B = none ∧ B ≠ (envRun N).locals ∧ B ≠ I
  nbd : s₀.heap.get? bd = none ∧ bd ≠ (envRun N).locals ∧ bd ≠ I
  nl : ∀ e ∈ bk, s₀.heap.get? e.2.1 = none ∧ e.2.1 ≠ (envRun N).locals ∧ e.2.1 ≠ I

theorem noCells {N : Nat} {n : Str} {c : Addr} (h : (envRun N).cells.lookup n = some c) : False := by
  have : (envRun N).cells = [] := rfl
  rw [this] at h; cases h

section
variable {w : World} {M : Model} {A : Around} {E : Value → Shared → Prop} {s₀ s : Shared} {N : Nat} {B bd I : Addr} {bk : Bk} {bdo : Obj} {m : Str → Option Value}
theorem RunSt.kp {s' : Shared} (x : RunSt w s₀ N B bd I bk bdo m s) (k : Kp s s') : RunSt w s₀ N B bd I bk bdo m s' :=
  ⟨x.F.kp k, x.st.keep fun a o _ e => k.le a o e, k.le _ _ x.dk, x.mb, x.hB, x.nB, x.nbd, x.nl⟩
theorem RunSt.it {h' : Heap} (tk : Nat) (x : RunSt w s₀ N B bd I bk bdo m s) (hs : Heap.ExtBut I s.heap h') (n0 : s₀.heap.get? I = none) (nL : I ≠ (envRun N).locals) : RunSt w s₀ N B bd I bk bdo m { s with heap := h', toks := tk } := by
  refine ⟨x.F.but tk hs n0 nL fun n c e => (noCells e).elim, x.st.keep fun a o hm e => hs a o ?_ e, hs _ _ x.nbd.2.2 x.dk, x.mb, x.hB, x.nB, x.nbd, x.nl⟩
  rcases hm with rfl | ⟨z, hz, rfl⟩
  · exact x.nB.2.2
  · exact (x.nl z hz).2.2
theorem RunSt.store {y : Str} {v : Value} {Q : Unit → Shared → Prop} (x : RunSt w s₀ N B bd I bk bdo m s) (hl : (envRun N).kindOf y = some .local) (hy : ("book" : Str) ≠ y)
    (hQ : ∀ s', RunSt w s₀ N B bd I bk bdo (fun z => if z = y then some v else m z) s' → Heap.ExtBut (envRun N).locals s.heap s'.heap → Q () s') : wpAny M A (storeName (envRun N) y v) Q E s := by
  refine x.F.storeL rfl hl fun h' tk F' hs => hQ _ ⟨F', x.st.keep fun a o hm e => hs a o ?_ e, hs _ _ x.nbd.2.1 x.dk, upd_ne x.mb hy, x.hB, x.nB, x.nbd, x.nl⟩ hs
  rcases hm with rfl | ⟨z, hz, rfl⟩
  · exact x.nB.2.1
  · exact (x.nl z hz).2.1
/-- another address to keep off -/
theorem RunSt.newI {J : Addr} (x : RunSt w s₀ N B bd I bk bdo m s) (hJ : s.heap.get? J = none) : RunSt w s₀ N B bd J bk bdo m s := by
  have lv : ∀ {a o}, s.heap.get? a = some o → a ≠ J := fun e z => by rw [z, hJ] at e; cases e
  obtain ⟨l, ep, e, en⟩ := x.st.book.at_
  refine ⟨x.F, x.st, x.dk, x.mb, x.hB, ⟨x.nB.1, x.nB.2.1, lv e⟩, ⟨x.nbd.1, x.nbd.2.1, lv x.dk⟩, fun z hz => ⟨(x.nl z hz).1, (x.nl z hz).2.1, ?_⟩⟩
  obtain ⟨its, ⟨n, hp⟩, _⟩ := x.st.lst z hz
  exact lv hp
end
end Mine
end

section
open PySem PySem.W PyProof.Rows PySem.Calls
set_option maxRecDepth 100000
set_option linter.all false
set_option maxHeartbeats 2000000
namespace Mine
open PySem (eval)

theorem Frm.change {s₀ s s' : Shared} {env : Env} {m cm : Str → Option Value} (F : Frm s₀ env m cm s) (hs : ∃ h' tk, s' = { s with heap := h', toks := tk }) (hk : ∀ c o, s₀.heap.get? c ≠ none ∨ c = env.locals → s.heap.get? c = some o → s'.heap.get? c = some o) (nc : env.cells = []) : Frm s₀ env m cm s' := by
  obtain ⟨h1, t1, e1⟩ := F.eq
  refine ⟨?_, fun b o e => hk b o (.inl (some_ne e)) (F.keep b o e), F.ns.at' fun o e => hk _ o (.inr rfl) e, fun n c e => (by rw [nc] at e; cases e), F.newL, F.newC, F.apart⟩
  obtain ⟨h2, t2, rfl⟩ := hs
  rw [e1]
  exact ⟨h2, t2, rfl⟩

noncomputable abbrev emptyD : Obj := { cls := .type "dict", dict := none, data := .dict #[] 0, slots := #[] }
/-- what one line does: the pair, the book's list -/
theorem line_turn {w : World} {A : Around} {E : Value → Shared → Prop} {s₀ s : Shared} {N : Nat} {B bd I fa : Addr} {bk : Bk} {m : Str → Option Value} {ff : Str → Str} {a b : Str} {t : Tok} {p1 p2 p3 p4 p5 p6 p7 p8 p9 q1 q2 q3 q4 q5 q6 q7 q8 q9 : Pos} {Q : Flow → Shared → Prop} (T : TopH w s₀.heap) (ok : OkA 105 A)
    (fo : FoldOk w s₀.heap fa ff) (x : RunSt w s₀ N B bd I bk emptyD m s) (hl : m "line" = some (.str (lineOf a b) t)) (hf : m "fold" = some (.ref fa)) (ha : a ∈ names8) (hb : b ∈ names8) (hsz : bk.length ≤ 100) (hlen : ∀ e ∈ bkV bk, e.2.length ≤ 100) (hI : s.heap.get? I ≠ none)
    (hQ : ∀ bk' m' s', RunSt w s₀ N B bd I bk' emptyD m' s' → bkV bk' = pushV (bkV bk) (ff a) b → (∀ y : Str, y ≠ "pair" → m' y = m y) → (∀ c o, c ≠ (envRun N).locals → c ≠ B → (∀ e ∈ bk, e.2.1 ≠ c) → s.heap.get? c = some o → s'.heap.get? c = some o) → Q .next s')
    (l1 : (p4.endLine == p5.line) = true) (l2 : (q7.endLine == q8.line) = true) :
    wpAny (model pw w) A (execs [.Assign [.Name "pair" p1] (.Call (.Attribute (.Name "Pair" p2) "parse" p4) [.Name "line" p3] [] p5) p6,
      .Expr (.Call (.Attribute (.Subscript (.Name "book" q1) (.Call (.Name "fold" q2) [.Attribute (.Name "pair" q3) "name" q4] [] q5) q6) "append" q7) [.Attribute (.Name "pair" p7) "value" p8] [] q8) q9] (envRun N)) Q E s := by
  have Ts := T.mono x.F.keep
  have vp : Var (envRun N) s.heap "Pair" (.ref 257) := Var.glob Ts rfl rfl rfl (by kernel_rfl)
  have vl : Var (envRun N) s.heap "line" (.str (lineOf a b) t) := x.F.loc rfl rfl hl
  have ll := line_len a ha b hb
  have hs7 : (7 : Nat) ≤ sizeLine := by decide
  refine wpAny_execs_cons (wpAny_Assign_Name (wpAny_mono (ev_parse Ts (ok.weak (by decide)) vp (EvD.name vl (.str _ t)) (line_split a ha b hb) (by omega) (by omega) (by omega) rfl l1) (fun v s₁ h₁ => ?_) fun _ _ q => q) (by rfl))
  rw [line_strip1 a ha, line_strip2 b hb] at h₁
  obtain ⟨pa, pd, tx, ty, n, rfl, hpa, hpd, hpa0, hpd0, k1⟩ := h₁
  have x1 := x.kp k1
  refine x1.store rfl (by decide) fun s₂ x2 e2 => ?_
  have T2 := T.mono x2.F.keep
  have nL : ∀ {c : Addr} {o : Obj}, s₁.heap.get? c = some o → s.heap.get? c = none → c ≠ (envRun N).locals := fun _ h0 z => x.F.lives (z ▸ h0)
  have hpa2 := e2 _ _ (nL hpa hpa0) hpa
  have hpd2 := e2 _ _ (nL hpd hpd0) hpd
  have nB : ∀ {c : Addr}, s.heap.get? c = none → c ≠ B := fun h0 z => by
    obtain ⟨l, ep, e, _⟩ := x.st.book.at_
    rw [z, e] at h0; cases h0
  have vpr : Var (envRun N) s₂.heap "pair" (.ref pa) := x2.F.loc rfl rfl upd_eq
  have vfo : Var (envRun N) s₂.heap "fold" (.ref fa) := x2.F.loc rfl rfl (upd_ne hf (by decide))
  have fo2 := fo.mono x2.F.keep
  have hsl : (100 : Nat) ≤ sizeLine := by decide
  refine wpAny_execs_cons (exec_bookAppend T2 ok (y := b) (x := ff a) (x2.F.loc rfl rfl x2.mb) x2.st x2.dk x.hB (by omega)
    (EvD.call vfo fo2.isFn (.cons (EvD.fname T2 (ok.weak (by decide)) vpr hpa2 hpd2) .nil rfl) (by simp) (fo2.spec a ha) (ok.weak (by decide))) (fun h' hx => ?_) (fun v hv => ?_) (fun bk' s₃ hb' hbv hn hs3 hk3 => ?_) (hline := l2))
  · have x3 := x2.F.but (h' := h') s₂.toks hx x.nB.1 x.nB.2.1 fun n c e => (noCells e).elim
    exact EvD.fvalue (T.mono x3.keep) (ok.weak (by decide)) (x3.loc rfl rfl upd_eq) (hx _ _ (nB hpa0) hpa2) (hx _ _ (nB hpd0) hpd2)
  · unfold touchV at hv
    split at hv
    · exact Nat.le_trans (hlen _ hv) hsl
    · rcases List.mem_append.mp hv with hv | hv
      · exact Nat.le_trans (hlen _ hv) hsl
      · have := List.mem_singleton.mp hv
        cases this
        exact Nat.zero_le _
  · have hI2 : s₂.heap.get? I ≠ none := by
      by_cases q : I = (envRun N).locals
      · rw [q]; exact x2.F.lives
      · cases e : s.heap.get? I with
        | none => exact absurd e hI
        | some o => exact some_ne (e2 _ _ q (k1.le _ _ e))
    have old : ∀ c, s₀.heap.get? c ≠ none → c ≠ B ∧ ∀ e ∈ bk, e.2.1 ≠ c := fun c hc => ⟨fun z => hc (z ▸ x.nB.1), fun e he z => hc (z ▸ (x.nl e he).1)⟩
    refine wpAny_execs_nil (hQ bk' _ s₃ ⟨x2.F.change hs3 (fun c o hc e => ?_) rfl, hb', hk3 _ _ (Ne.symm x.hB) (fun e he => (x.st.ne e he).2) x2.dk, x2.mb, x.hB, x.nB, x.nbd, fun e he => ?_⟩ hbv (fun y hy => by simp [hy]) fun c o hcL hcB hcl e => hk3 c o hcB hcl (e2 c o hcL (k1.le c o e)))
    · rcases hc with hc | rfl
      · exact hk3 c o (old c hc).1 (old c hc).2 e
      · exact hk3 _ o (Ne.symm x.nB.2.1) (fun e he => (x.nl e he).2.1) e
    · rcases hn e he with ⟨v, hv⟩ | h0
      · exact x.nl (e.1, e.2.1, v) hv
      · exact ⟨fresh_le x2.F.keep h0, fun z => x2.F.lives (z ▸ h0), fun z => hI2 (z ▸ h0)⟩
end Mine
end

section
open PySem PySem.W PyProof.Rows PySem.Calls
set_option maxRecDepth 100000
set_option linter.all false
set_option maxHeartbeats 2000000
namespace Mine
open PySem (eval)

noncomputable def bookF (ff : Str → Str) (arrows : List (Str × Str)) : List (Str × List Str) := arrows.foldl (fun bv x => pushV bv (ff x.1) x.2) []
structure GoodV (bv : List (Str × List Str)) (n : Nat) : Prop where
  len : bv.length ≤ n
  vals : ∀ e ∈ bv, e.2.length ≤ n
theorem GoodV.touch {bv : List (Str × List Str)} {n : Nat} (g : GoodV bv n) (x : Str) : (touchV bv x).length ≤ n + 1 ∧ ∀ e ∈ touchV bv x, e.2.length ≤ n := by
  unfold touchV
  split
  · exact ⟨Nat.le_succ_of_le g.len, g.vals⟩
  · refine ⟨by rw [List.length_append]; exact Nat.succ_le_succ g.len, fun e he => ?_⟩
    rcases List.mem_append.mp he with he | he
    · exact g.vals e he
    · rw [List.mem_singleton.mp he]; exact Nat.zero_le _
theorem GoodV.push {bv : List (Str × List Str)} {n : Nat} (g : GoodV bv n) (x v : Str) : GoodV (pushV bv x v) (n + 1) := by
  have h := g.touch x
  unfold pushV
  refine ⟨by rw [List.length_map]; exact h.1, fun e' he' => ?_⟩
  obtain ⟨e, he, rfl⟩ := List.mem_map.mp he'
  have := h.2 e he
  split
  · simp only [List.length_append, List.length_cons, List.length_nil]; omega
  · omega
theorem GoodV.all {ff : Str → Str} : ∀ {xs : List (Str × Str)} {bv : List (Str × List Str)} {n : Nat}, GoodV bv n → GoodV (xs.foldl (fun bv x => pushV bv (ff x.1) x.2) bv) (n + xs.length)
  | [], _, _, g => g
  | x :: xs, _, n, g => by
    have := all (xs := xs) (ff := ff) (g.push (ff x.1) x.2)
    simpa [Nat.add_assoc, Nat.add_comm 1] using this

theorem lines_loop {w : World} {A : Around} {E : Value → Shared → Prop} {s₀ s : Shared} {N : Nat} {B bd fa l : Addr} {bk : Bk} {m : Str → Option Value} {ff : Str → Str} {arrows : List (Str × Str)} {vs : Array Value} {S0 : Addr → Prop} {p1 p2 p3 p4 p5 p6 p7 p8 p9 q1 q2 q3 q4 q5 q6 q7 q8 q9 r1 r2 r3 : Pos} {Q : Flow → Shared → Prop} (T : TopH w s₀.heap) (ok : OkA 105 A)
    (fo : FoldOk w s₀.heap fa ff) (x : RunSt w s₀ N B bd 0 bk emptyD m s) (hbk : bkV bk = []) (hm : m "lines" = some (.ref l)) (hl0 : s₀.heap.IsList l vs) (hr0 : RDs s₀.heap S0 vs.toList (arrows.map fun x => .str (lineOf x.1 x.2))) (hf : m "fold" = some (.ref fa))
    (ha : ∀ x ∈ arrows, x.1 ∈ names8 ∧ x.2 ∈ names8) (hlen : arrows.length ≤ 90)
    (hQ : ∀ bk' m' s', RunSt w s₀ N B bd s.heap.objs.size bk' emptyD m' s' → bkV bk' = bookF ff arrows → (∀ y : Str, y ≠ "pair" → y ≠ "line" → m' y = m y) → Q .next s')
    (l1 : (p4.endLine == p5.line) = true := by rfl) (l2 : (q7.endLine == q8.line) = true := by rfl) :
    wpAny (model pw w) A (exec (.For (.Name "line" r1) (.Name "lines" r2) [.Assign [.Name "pair" p1] (.Call (.Attribute (.Name "Pair" p2) "parse" p4) [.Name "line" p3] [] p5) p6,
      .Expr (.Call (.Attribute (.Subscript (.Name "book" q1) (.Call (.Name "fold" q2) [.Attribute (.Name "pair" q3) "name" q4] [] q5) q6) "append" q7) [.Attribute (.Name "pair" p7) "value" p8] [] q8) q9] [] r3) (envRun N)) Q E s := by
  have hl : s.heap.IsList l vs := hl0.at fun o e => x.F.keep _ _ e
  have hIn : s₀.heap.get? s.heap.objs.size = none := fresh_le x.F.keep (new_none _)
  have hInL : s.heap.objs.size ≠ (envRun N).locals := fun z => x.F.lives (z ▸ new_none _)
  have hl0' : s₀.heap.get? l ≠ none := by obtain ⟨o, e, _⟩ := hl0; exact some_ne e
  refine wpAny_For (wpAny_Name (x.F.loc rfl rfl hm _ _ _ _ s (fun _ _ e => e) ?_) (by decide)) (fun _ => rfl)
  refine for_list2 (A := A) (xs := arrows.map fun x => .str (lineOf x.1 x.2)) (S0 := fun z => S0 z ∧ s₀.heap.get? z ≠ none) ok.hd hl (hr0.dom.le x.F.keep) (fun c => s₀.heap.get? c = none ∧ c ≠ s.heap.objs.size) (fun z => hl0' z.1) (fun z q r => q.2 r.1) (fun z => z.2 rfl)
    (fun d hd => ⟨_, .name⟩) (fun I i s' => ∃ bk' m', RunSt w s₀ N B bd I bk' emptyD m' s' ∧ bkV bk' = bookF ff (arrows.take i) ∧ (∀ y : Str, y ≠ "pair" → y ≠ "line" → m' y = m y)) ?_ ?_ ?_ ?_
  · intro h' k'
    exact ⟨bk, m, (x.newI (new_none _)).kp (Kp.of' k'), hbk, fun y _ _ => rfl⟩
  · rintro i s' h' tk ⟨bk', m', x', hv, hmm⟩ hs'
    exact ⟨bk', m', x'.it tk hs' hIn hInL, hv, hmm⟩
  · rintro i d v s' hi ⟨bk', m', x', hv, hmm⟩ rv kb hI E'
    obtain ⟨y, hy, rfl⟩ := map_at hi
    (first | cases rv using RD.atomE | cases rv using RDs.nilE | cases rv using RD.strE | cases rv using RD.intE | cases rv using RD.boolE | cases rv using RD.noneE | cases rv)
    rename_i t
    have hyn := ha y (List.mem_of_getElem? hy)
    have hil : i < arrows.length := (List.getElem?_eq_some_iff.mp hy).1
    have g : GoodV (bkV bk') 90 := by
      rw [hv]
      have := GoodV.all (ff := ff) (xs := arrows.take i) (⟨Nat.le_refl _, fun e he => by simp at he⟩ : GoodV [] 0)
      have h2 : (arrows.take i).length ≤ 90 := by rw [List.length_take]; omega
      exact ⟨Nat.le_trans this.len (by omega), fun e he => Nat.le_trans (this.vals e he) (by omega)⟩
    have hbl : bk'.length = (bkV bk').length := by unfold bkV; rw [List.length_map]
    refine wpAny_assign_Name (x'.store rfl (by decide) fun s2 x2 e2 => ?_)
    have hI2 : s2.heap.get? s.heap.objs.size ≠ none := by
      cases e : s'.heap.get? s.heap.objs.size with
      | none => exact absurd e hI
      | some o => exact some_ne (e2 _ _ hInL e)
    have gl := g.len
    refine line_turn (p9 := p1) T ok fo x2 upd_eq (upd_ne ((hmm _ (by decide) (by decide)).trans hf) (by decide)) hyn.1 hyn.2 (by omega) (fun e he => Nat.le_trans (g.vals e he) (by decide)) hI2 (fun bk2 m2 s3 x3 hv3 hm3 hk3 => ?_) l1 l2
    refine ⟨.inl rfl, ⟨bk2, m2, x3, ?_, fun y h1 h2 => ?_⟩, fun c o hc e => ?_⟩
    · rw [take_succ hy]
      unfold bookF
      rw [List.foldl_append]
      rw [hv3, hv]
      rfl
    · rw [hm3 y h1]
      show (if y = ("line" : Str) then _ else m' y) = m y
      rw [if_neg h2]
      exact hmm y h1 h2
    · have nc : s₀.heap.get? c ≠ none ∨ c = s.heap.objs.size := by
        by_cases q : c = s.heap.objs.size
        · exact .inr q
        · exact .inl fun z => hc ⟨z, q⟩
      have k1 : c ≠ (envRun N).locals := by
        rcases nc with q | rfl
        · exact fun z => q (z ▸ x.F.newL)
        · exact hInL
      refine hk3 c o k1 ?_ (fun u hu => ?_) (e2 c o k1 e)
      · rcases nc with q | rfl
        · exact fun z => q (z ▸ x.nB.1)
        · exact Ne.symm x2.nB.2.2
      · rcases nc with q | rfl
        · exact fun z => q (z ▸ (x2.nl u hu).1)
        · exact (x2.nl u hu).2.2
  · rintro s' ⟨bk', m', x', hv, hmm⟩ kk
    rw [List.length_map, List.take_length] at hv
    exact hQ bk' m' s' x' hv hmm
end Mine
end

section
open PySem PySem.W PyProof.Rows PySem.Calls
set_option maxRecDepth 100000
set_option linter.all false
set_option maxHeartbeats 2000000
namespace Mine
open PySem (eval)
open Builtin Builtin.ObjectAttr

theorem passes162 (self : Value) : refuseLoop self "__setattr__" [.ref 162, .type "collections.defaultdict", .type "dict", .type "object"] = pure () := by
  rw [refuseLoop_ref]; kernel_rfl
theorem hasD162 (w : World) : (cd162 w).hasDict = true := by kernel_rfl

noncomputable abbrev frozenD (w : World) (M : Addr) (t : Tok) (ep : Nat) : Obj := ⟨.type "dict", none, .dict #[⟨hashStr w "_frozen", .str "_frozen" t, .ref M⟩] ep, #[]⟩
theorem putFrozen (w : World) (M : Addr) (t : Tok) : Obj.putName "_frozen" (PyData.keyHash w.params "_frozen") (.str "_frozen" t) (.ref M) emptyD = frozenD w M t 1 := by rfl
theorem canon_dga : (Manifest.canonical "collections.defaultdict.__getattribute__" != "object.__getattribute__") = false := by decide +kernel

section
variable {w : World} {A : Around} {E : Value → Shared → Prop} {s : Shared}
/-- `object.__setattr__(book, "_frozen", f)` -/
theorem osa_book (K : (K01 w).In s.heap) {B bd M : Addr} {es : Array DictEntry} {ep : Nat} {tk : Tok} {R : Result → Shared → Prop} (eB : s.heap.get? B = some ⟨.ref 162, some bd, .dict es ep, #[some (.type "list")]⟩) (ed : s.heap.get? bd = some emptyD)
    (h : ∀ h', Heap.ExtBut bd s.heap h' → h'.get? bd = some (frozenD w M s.toks 1) → R (.ok (.ret .none)) { s with heap := h', toks := s.toks + 1 }) :
    codeAny (model pw w) A (.call (.builtin "object.__setattr__") ⟨[.ref B, .str "_frozen" tk, .ref M], []⟩) R s := by
  have I : InstAt s.heap B ⟨.ref 162, some bd, .dict es ep, #[some (.type "list")]⟩ 162 (some emptyD) := ⟨eB, rfl, rfl, ed⟩
  have SF := PySem.F.store_object
  have sub : Looks (model pw w) s.heap (isInstance (.ref B) (.type "object")) true := I.type.andThen (looks_mroIn K (by kernel_rfl))
  refine codeAny_call_builtin SF.slot.plain SF.entry (@check_slot (model pw w) _ _ s "object.__setattr__" "object" "__setattr__" (.ref B) [.str "_frozen" tk, .ref M] [] _ SF.kind SF.split sub (SF.args (.ref B) (.str "_frozen" tk) (.ref M)) ?_)
  have hm : Looks (model pw w) s.heap (mroOf (.ref 162)) (cd162 w).mro := (looks_clsIn K (cls162 w)).andThen .now
  rw [osa_eq, refuse_eq]
  refine wpAny_bind (wpAny_bind (I.type.here (wpAny_bind (hm.here ?_))))
  rw [mro162, passes162]
  refine wpAny_pure (wpAny_bind (I.type.here (wpAny_bind ((looks_findIn K (r := none) (by kernel_rfl)).here (wpAny_bind (wpAny_pure ?_))))))
  refine wpAny_bind (wpAny_pure (wpAny_bind (wpAny_bind (wpAny_loadPart eB (wpAny_bind ((looks_clsIn K (cls162 w)).here ?_))))))
  rw [hasD162]
  refine wpAny_pure (a := some bd) (wpAny_bind (wpAny_pure (wpAny_bind ?_)))
  unfold nsSet
  refine wpAny_bind (wpAny_bind (wpAny_askSetting (wpAny_pure (wpAny_bind (wpAny_mkText (wpAny_bind (wpAny_loadPart ed ?_)))))))
  dsimp only
  rw [if_neg (by decide)]
  have D' : (s.heap.update bd (Obj.putName "_frozen" (PyData.keyHash w.params "_frozen") (.str "_frozen" s.toks) (.ref M))).get? bd = some (frozenD w M s.toks 1) := Heap.get?_update_self _ ed (by rfl)
  refine wpAny_updatePart ed ?_
  refine wpAny_bind (wpAny_lookBehind D' (by rfl) ?_)
  exact wpAny_pure (h _ (Heap.SameBut.update ..).extBut D')

theorem getMethod_book (K : (K01 w).In s.heap) {B bd f : Addr} {es : Array DictEntry} {ep : Nat} {name : Str} {pl : Sem Bool} {Q : Value × List Value → Shared → Prop} (eB : s.heap.get? B = some ⟨.ref 162, some bd, .dict es ep, #[some (.type "list")]⟩) (ed : s.heap.get? bd = some emptyD)
    (hf : findIn (K01 w) (.ref 162) name = some (some (.ref f))) (ht : typeIn (K01 w) (.ref f) = some (.type "function")) (h : Q (.ref f, [.ref B]) s) : wpAny (model pw w) A (getMethod (.ref B) name pl) Q E s := by
  have I : InstAt s.heap B ⟨.ref 162, some bd, .dict es ep, #[some (.type "list")]⟩ 162 (some emptyD) := ⟨eB, rfl, rfl, ed⟩
  unfold getMethod specialOf
  refine wpAny_bind (wpAny_bind (I.type.here ((looks_findIn K (r := some (.builtin "collections.defaultdict.__getattribute__")) (by kernel_rfl)).here ?_)))
  dsimp only
  rw [canon_dga, if_neg (by decide)]
  refine wpAny_bind (wpAny_bind (I.type.here ((looks_findIn K (r := none) (by kernel_rfl)).here ?_)))
  refine wpAny_bind (wpAny_bind (I.type.here ((looks_findIn K hf).here (wpAny_bind ((looks_typeIn K ht).here ?_)))))
  rw [if_neg (by decide +kernel)]
  refine wpAny_bind (wpAny_loadPart eB ?_)
  have hs : lookIn name emptyD = some none := by rfl
  refine wpAny_bind (wpAny_bind (wpAny_loadPart ed ?_))
  rw [nsLook_of hs]
  exact wpAny_pure (wpAny_bind (wpAny_rule (wpAny_pure h)))
theorem setAttr_book (K : (K01 w).In s.heap) {B bd M : Addr} {es : Array DictEntry} {ep : Nat} {Q : Unit → Shared → Prop} (eB : s.heap.get? B = some ⟨.ref 162, some bd, .dict es ep, #[some (.type "list")]⟩) (ed : s.heap.get? bd = some emptyD)
    (h : ∀ h' t, Heap.ExtBut bd s.heap h' → h'.get? bd = some (frozenD w M t 1) → Q () { s with heap := h', toks := t + 1 }) : wpAny (model pw w) A (setAttr (.ref B) "_frozen" (.ref M)) Q E s := by
  have I : InstAt s.heap B ⟨.ref 162, some bd, .dict es ep, #[some (.type "list")]⟩ 162 (some emptyD) := ⟨eB, rfl, rfl, ed⟩
  have SF := PySem.F.store_object
  unfold setAttr
  refine wpAny_bind (wpAny_mkText (wpAny_bind ?_))
  unfold callSpecial? specialOf
  have L0 : Looks (model pw w) s.heap (typeOf (.ref B)) (.ref 162) := I.type
  have L1 : Looks (model pw w) s.heap (typeLookup (.ref 162) "__setattr__") (some (.builtin "object.__setattr__")) := looks_findIn K (by kernel_rfl)
  refine wpAny_bind (wpAny_bind (L0 _ _ _ _ (fun _ _ e => e) (L1 _ _ _ _ (fun _ _ e => e) (wpAny_holding ?_))))
  rw [SF.slot.bind]
  refine wpAny_bind (wpAny_pure (wpAny_bind (wpAny_call (osa_book (s := { s with toks := s.toks + 1 }) K eB ed fun h' hx hd => ?_))))
  exact wpAny_pure (wpAny_pure (h h' _ hx hd))
end
end Mine
end

section
open PySem PySem.W PyProof.Rows PySem.Calls
set_option maxRecDepth 100000
set_option linter.all false
set_option maxHeartbeats 2000000
namespace Mine
open PySem (eval)

noncomputable abbrev fdFrz : FuncData := fdM (mst 9 2) "freeze" "FreezableDefaultDict.freeze" "cpy313.importlib.metadata._collections" 362 .none none 158 [] .none
theorem K_frz (w : World) : (K01 w).lookup 159 = some ⟨.type "function", none, .func fdFrz, #[]⟩ := by kernel_rfl
noncomputable def lamP : Arguments := { posonlyargs := [], args := [{ arg := "key", annotation := none, pos := ⟨127, 30, 127, 33⟩ }], vararg := none, kwonlyargs := [], kw_defaults := [], kwarg := none, defaults := [] }
noncomputable def lamB : Expr := .Call (.Attribute (.Name "self" ⟨127, 35, 127, 39⟩) "default_factory" ⟨127, 35, 127, 55⟩) [] [] ⟨127, 35, 127, 57⟩
noncomputable def lamS : Scope := { kind := .function, names := [("key", .local), ("self", .free)], isGenerator := false, isCoroutine := false, more := [] }
noncomputable def lamPos : Pos := ⟨127, 23, 127, 57⟩
noncomputable abbrev lamQ : Str := "FreezableDefaultDict.freeze.<locals>.<lambda>"
theorem frz_body : fbody (mst 9 2) = [.Assign [.Attribute (.Name "self" ⟨127, 8, 127, 12⟩) "_frozen" ⟨127, 8, 127, 20⟩] (.Lambda lamP lamB lamS lamPos) ⟨127, 8, 127, 57⟩] := by rfl
noncomputable abbrev envFrz (N : Nat) : Env := callEnvC fdFrz N 159

/-- the code table of `freeze`: empty, or with the lambda's code -/
noncomputable def TabAt (h : Heap) (ps : Array Value) : Prop := h.get? 154 = some (tabObj ps) ∧ (ps = #[] ∨ ∃ c, ps = #[rawInt 127, rawInt 23, .ref c] ∧ h.CodeRec (.ref c) lamQ)
theorem TabAt.keep {h h' : Heap} {ps : Array Value} (x : TabAt h ps) (k : Le h h') : TabAt h' ps :=
  ⟨k _ _ x.1, x.2.imp id fun ⟨c, e, c', oc, vs, t, e2, hoc, r⟩ => ⟨c, e, c', oc, vs, t, e2, k _ _ hoc, r⟩⟩
theorem TabAt.triples {h : Heap} {ps : Array Value} (x : TabAt h ps) : TriplesOk ps.toList := by
  rcases x.2 with rfl | ⟨c, rfl, _⟩
  · trivial
  · trivial
noncomputable def fields158 (vs : Array Value) : Bool := match vs[11]?, vs.getD 18 Value.none, vs.getD 7 Value.none, vs.getD 9 Value.none, vs.getD 10 Value.none with
    | some (Value.ref P), Value.str _ _, Value.int _ _, Value.bool _, Value.int _ _ => P == 154
    | _, _, _, _, _ => false
noncomputable def code158In (K : Frag) : Bool := match K.lookup 158 with
  | some ⟨.type c, _, .fields vs, _⟩ => c == "code" && fields158 vs
  | _ => false
theorem code158 {K : Frag} {h : Heap} (X : K.In h) (e : code158In K = true) : CodeHd h 158 154 := by
  unfold code158In at e
  split at e
  · rename_i c d vs sl q
    rw [Bool.and_eq_true] at e
    obtain ⟨e1, e2⟩ := e
    have e1 : c = "code" := by simpa using e1
    subst e1
    unfold fields158 at e2
    split at e2
    · rename_i P file tf flags tg inF text tt h11 h18 h7 h9 h10
      have eP : P = 154 := by simpa using e2
      subst eP
      refine ⟨_, vs, file, tf, flags, tg, inF, text, tt, X _ _ q, rfl, rfl, h11, ?_, h18, h7, h9, h10, by decide⟩
      rw [Array.getD_eq_getD_getElem?, h11]; rfl
    · cases e2
  · cases e

structure LamAt (h : Heap) (B M : Addr) : Prop where
  fn : ∃ pm c' ctv cl, h.get? M = some (kla_obj "<lambda>" lamQ lamP lamB lamS [("self", cl)] pm c' ctv) ∧ h.IsCell cl (some (.ref B)) ∧ h.CodeRec (.ref c') lamQ
theorem LamAt.keep {h h' : Heap} {B M : Addr} (x : LamAt h B M) (k : ∀ b o, (∀ es n, o.data ≠ .dict es n) → (∀ vs n, o.data ≠ .seq vs n) → h.get? b = some o → h'.get? b = some o) : LamAt h' B M := by
  obtain ⟨pm, c', ctv, cl, e, ⟨o, eo, r⟩, c, oc, vs, t, e2, hoc, hd, r2⟩ := x.fn
  exact ⟨pm, c', ctv, cl, k _ _ (fun _ _ z => by cases z) (fun _ _ z => by cases z) e, ⟨o, k _ _ (fun _ _ z => by rw [r] at z; cases z) (fun _ _ z => by rw [r] at z; cases z) eo, r⟩, c, oc, vs, t, e2,
    k _ _ (fun _ _ z => by rw [hd] at z; cases z) (fun _ _ z => by rw [hd] at z; cases z) hoc, hd, r2⟩

theorem bm_ok (w : World) : nsIn (K01 w) mainGlobals "__builtins__" = some (some (.ref 4)) := by kernel_rfl
theorem K_4 (w : World) : (K01 w).lookup 4 = some (objK w 4) := by kernel_rfl

section
variable {w : World} {A : Around} {E : Value → Shared → Prop} {s : Shared}
theorem builtinsAt (T : TopH w s.heap) : ∃ mg, s.heap.Ns mainGlobals mg ∧ s.heap.BuiltinsAt mg 154 := by
  obtain ⟨mg, hm⟩ := T.g
  exact ⟨mg, hm, 4, objK w 4, mg_of T.K hm (bm_ok w), by decide, by decide, by decide, T.K _ _ (K_4 w), by kernel_rfl, by kernel_rfl, by kernel_rfl⟩

/-- the lambda is made -/
theorem mk_lam (T : TopH w s.heap) {N : Nat} {ps : Array Value} {cl : Addr} {B : Addr} (tb : TabAt s.heap ps) (hcl : closureFor lamS (envFrz N) = pure [(("self" : Str), cl)]) (hc : s.heap.IsCell cl (some (.ref B))) (hcn : cl ≠ 154) :
    wpAny (model pw w) A (eval (.Lambda lamP lamB lamS lamPos) (envFrz N)) (fun v s' => ∃ M more, v = .ref M ∧ s.heap.get? M = none ∧ LamAt s'.heap B M ∧ TabAt s'.heap (ps ++ more) ∧ Heap.ExtBut 154 s.heap s'.heap ∧ ∃ h' tk, s' = { s with heap := h', toks := tk }) E s := by
  obtain ⟨mg, hm, hb⟩ := builtinsAt T
  have C : CodeHd s.heap 158 154 := code158 T.K (by kernel_rfl)
  refine kla_eval (by rfl) ?_
  rcases tb.2 with rfl | ⟨c, rfl, hrec⟩
  · refine kla_makeFunction (mg := mg) hcl rfl hm rfl C tb.1 tb.triples (by rfl) (by decide) hb fun c' ctv h' tk hx hge hlt hrec ht => ?_
    have hMn : s.heap.get? h'.objs.size = none := size_none (Nat.le_of_lt (Nat.lt_of_le_of_lt hge hlt))
    have kp : ∀ b o, h'.get? b = some o → (h'.push (kla_obj "<lambda>" lamQ lamP lamB lamS [("self", cl)] ((mg "__name__").getD .none) c' ctv)).get? b = some o := fun b o e => Heap.get?_push_of_some _ e
    obtain ⟨oc, eoc, doc⟩ := hc
    obtain ⟨c2, oc2, vs, t, e2, hoc, r2⟩ := hrec
    cases e2
    refine ⟨h'.objs.size, #[rawInt 127, rawInt 23, .ref c'], rfl, hMn, ⟨_, _, _, _, Heap.get?_push_size _ rfl, ⟨oc, kp _ _ (hx _ _ hcn eoc), doc⟩, c', oc2, vs, t, rfl, kp _ _ hoc, r2⟩,
      ⟨kp _ _ ht, .inr ⟨c', rfl, c', oc2, vs, t, rfl, kp _ _ hoc, r2⟩⟩, fun b o hb e => kp _ _ (hx b o hb e), _, _, rfl⟩
  · refine kla_makeFunctionHit (mg := mg) hcl rfl hm rfl C tb.1 tb.triples (by rfl) hb fun ctv h' tk hk hsz => ?_
    have hMn : s.heap.get? h'.objs.size = none := size_none hsz
    have kp : ∀ b o, s.heap.get? b = some o → (h'.push (kla_obj "<lambda>" lamQ lamP lamB lamS [("self", cl)] ((mg "__name__").getD .none) c ctv)).get? b = some o := fun b o e => Heap.get?_push_of_some _ (hk _ _ e)
    obtain ⟨oc, eoc, doc⟩ := hc
    obtain ⟨c2, oc2, vs, t, e2, hoc, r2⟩ := hrec
    cases e2
    refine ⟨h'.objs.size, #[], rfl, hMn, ⟨_, _, _, _, Heap.get?_push_size _ rfl, ⟨oc, kp _ _ eoc, doc⟩, c, oc2, vs, t, rfl, kp _ _ hoc, r2⟩,
      ⟨kp _ _ tb.1, .inr ⟨c, rfl, c, oc2, vs, t, rfl, kp _ _ hoc, r2⟩⟩, fun b o hb e => kp _ _ e, _, _, rfl⟩

/-- `book.freeze()` from the call on -/
theorem freeze_spec (T : TopH w s.heap) (ok : OkA 103 A) {B bd : Addr} {es : Array DictEntry} {ep : Nat} {ps : Array Value} (eB : s.heap.get? B = some ⟨.ref 162, some bd, .dict es ep, #[some (.type "list")]⟩) (ed : s.heap.get? bd = some emptyD) (tb : TabAt s.heap ps) :
    codeAny (model pw w) A (.call (.ref 159) ⟨[.ref B], []⟩) (fun r s' => r = .ok (.ret .none) ∧ ∃ M t more, s'.heap.get? bd = some (frozenD w M t 1) ∧ s.heap.get? M = none ∧ LamAt s'.heap B M ∧ TabAt s'.heap (ps ++ more) ∧
      (∀ b o, b ≠ 154 → b ≠ bd → s.heap.get? b = some o → s'.heap.get? b = some o) ∧ ∃ h' tk, s' = { s with heap := h', toks := tk }) s := by
  refine call_fn (binds := [("self", .ref B)]) _ ok.room T (K_frz w) 158 rfl (by kernel_rfl) rfl (by rfl) rfl (fun y hy => ?_) fun s₁ X k => ?_
  · rcases List.mem_singleton.mp hy with rfl; exact .inr ⟨by rfl, by rfl⟩
  have F := Frm.ofCall X
  have T1 := T.mono k.le
  have hcl : (envFrz s.heap.objs.size).cells.lookup ("self" : Str) = some (s.heap.objs.size + 1) := by rfl
  have hc := F.cell "self" _ hcl
  have hlt : (154 : Nat) < s.heap.objs.size := Heap.lt_size tb.1
  have hbl : bd < s.heap.objs.size := Heap.lt_size ed
  have vself : Var (envFrz s.heap.objs.size) s₁.heap "self" (.ref B) := F.celV rfl rfl hcl (by rfl)
  show wpAny _ _ (execs (fbody (mst 9 2)) _) _ _ _
  rw [frz_body]
  refine wpAny_execs_cons ?_
  refine plainObj_wpAny_Assign_Attribute ?_
  refine wpAny_mono (mk_lam T1 (tb.keep k.le) (cl := s.heap.objs.size + 1) (by rfl) hc (Nat.ne_of_gt (Nat.lt_succ_of_lt hlt))) (fun v s₂ h₂ => ?_) fun _ _ q => q
  obtain ⟨M, more, rfl, hM0, hL, ht, hx, h', tk, rfl⟩ := h₂
  have n154 : ∀ {c : Addr}, s.heap.get? c = none → c ≠ 154 := fun h0 z => by rw [z, tb.1] at h0; cases h0
  have hN : (envFrz s.heap.objs.size).locals ≠ 154 := n154 F.newL
  refine wpAny_Name (wpAny_loadName_cell rfl rfl hcl (v := .ref B) ?_ ?_) (by decide)
  · obtain ⟨oc, eoc, doc⟩ := hc
    exact ⟨oc, hx _ _ (Nat.ne_of_gt (Nat.lt_succ_of_lt hlt)) eoc, doc⟩
  have nB : B ≠ 154 := fun z => by rw [z, tb.1] at eB; cases eB
  have nbd : bd ≠ 154 := fun z => by rw [z, tb.1] at ed; cases ed
  have eB2 := hx _ _ nB (k.le _ _ eB)
  have ed2 := hx _ _ nbd (k.le _ _ ed)
  have k1 := k
  obtain ⟨kk, h1, t1, rfl⟩ := k
  have K2 : (K01 w).In h' := fun a o e => hx a o (fun z => by rw [z] at e; rw [show (K01 w).lookup 154 = none from by kernel_rfl] at e; cases e) (T1.K a o e)
  refine setAttr_book (s := { { s with heap := h1, toks := t1 } with heap := h', toks := tk }) K2 eB2 ed2 fun h3 t3 hx3 hd3 => ?_
  refine wpAny_execs_nil ⟨rfl, M, t3, more, hd3, fresh_le kk hM0, ?_, ?_, fun b o hb hbd e => hx3 b o hbd (hx b o hb (kk b o e)), _, _, rfl⟩
  · refine hL.keep fun b o n1 n2 e => hx3 b o (fun z => ?_) e
    rw [z] at e
    cases (ed2.symm.trans e)
    exact n1 _ _ rfl
  · refine ⟨hx3 _ _ (Ne.symm nbd) ht.1, ht.2.imp id fun ⟨c, e, c', oc, vs, t, e2, hoc, hd, r2⟩ => ⟨c, e, c', oc, vs, t, e2, hx3 _ _ (fun z => ?_) hoc, hd, r2⟩⟩
    rw [z] at hoc
    cases (ed2.symm.trans hoc)
    cases hd
end
end Mine
end

section
open PySem PySem.W PyProof.Rows PySem.Calls
set_option maxRecDepth 100000
set_option linter.all false
set_option maxHeartbeats 4000000
namespace Mine
open PySem (eval)

section
variable {w : World} {A : Around} {s : Shared} {E : Value → Shared → Prop}
local macro_rules | `(tactic| x_close) => `(tactic| first | exact ⟨rfl, Kp.refl _⟩ | (refine post_val (by assumption) ?_; rfl) | (refine post_val (PySem.W.X.Mem.start _) ?_; rfl))
theorem df_get (X : (KF w.params).In s.heap) (ok : OkA 100 A) (B bd : Addr) (es : Array DictEntry) (ep : Nat) (h1 : s.heap.get? B = some ⟨.ref 162, some bd, .dict es ep, #[some (.type "list")]⟩) :
    wpAny (model pw w) A (PySem.call (.builtin "member_descriptor.__get__") [.builtin "collections.defaultdict.default_factory", .ref B, .ref 162]) (PostVal s (.type "list")) E s := by
  refine litA ok fun l g => ?_
  x_run
end
theorem F_df (w : World) (M : Addr) (t : Tok) : findObj (K01 w) 162 (some (frozenD w M t 1)) "default_factory" = some (.bind (.builtin "member_descriptor.__get__") (.builtin "collections.defaultdict.default_factory")) := by kernel_rfl
theorem findIn_df (w : World) : findIn (K01 w) (.ref 162) "default_factory" = some (some (.builtin "collections.defaultdict.default_factory")) := by kernel_rfl
theorem typeIn_df (w : World) : typeIn (K01 w) (.builtin "collections.defaultdict.default_factory") = some (.type "member_descriptor") := by kernel_rfl

section
variable {w : World} {A : Around} {E : Value → Shared → Prop} {s : Shared}
theorem getMethod_df (T : TopH w s.heap) (ok : OkA 101 A) {B bd M : Addr} {tk : Tok} {es : Array DictEntry} {ep : Nat} {pl : Sem Bool} {Q : Value × List Value → Shared → Prop} (eB : s.heap.get? B = some ⟨.ref 162, some bd, .dict es ep, #[some (.type "list")]⟩) (ed : s.heap.get? bd = some (frozenD w M tk 1))
    (h : ∀ s', Kp s s' → Q (.type "list", []) s') : wpAny (model pw w) A (getMethod (.ref B) "default_factory" pl) Q E s := by
  have K := T.K
  have I : InstAt s.heap B ⟨.ref 162, some bd, .dict es ep, #[some (.type "list")]⟩ 162 (some (frozenD w M tk 1)) := ⟨eB, rfl, rfl, ed⟩
  unfold getMethod specialOf
  refine wpAny_bind (wpAny_bind (I.type.here ((looks_findIn K (r := some (.builtin "collections.defaultdict.__getattribute__")) (by kernel_rfl)).here ?_)))
  dsimp only
  rw [canon_dga, if_neg (by decide)]
  refine wpAny_bind (wpAny_bind (I.type.here ((looks_findIn K (r := none) (by kernel_rfl)).here ?_)))
  refine wpAny_bind (wpAny_bind (I.type.here ((looks_findIn K (findIn_df w)).here (wpAny_bind ((looks_typeIn K (typeIn_df w)).here ?_)))))
  rw [if_pos (by decide +kernel)]
  refine wpAny_bind ?_
  refine get_bind2 (g := .builtin "member_descriptor.__get__") (a := .builtin "collections.defaultdict.default_factory") K I slot_dga (by decide +kernel) (by decide +kernel) entry_dga args_dga (by decide) (by kernel_rfl) (by kernel_rfl) (by kernel_rfl) (F_df w M tk) ?_
  refine wpAny_mono (df_get (s := { s with toks := s.toks + 1 }) K (OkA.in1 (n := 100) ok) B bd es ep eB) (fun v s₁ h₁ => ?_) fun _ _ z => z
  obtain ⟨rfl, k⟩ := h₁
  exact handed_on (by rfl) (wpAny_pure (h s₁ ((Kp.tk s _).tr k)))

/-- the lambda of `freeze` is called: a new empty list -/
theorem lam_call (T : TopH w s.heap) (ok : OkA 103 A) {B bd M M' : Addr} {tk : Tok} {es : Array DictEntry} {ep : Nat} {v : Value} (eB : s.heap.get? B = some ⟨.ref 162, some bd, .dict es ep, #[some (.type "list")]⟩) (ed : s.heap.get? bd = some (frozenD w M' tk 1)) (L : LamAt s.heap B M) :
    codeAny (model pw w) A (.call (.ref M) ⟨[v], []⟩) (fun r s' => ∃ a, r = .ok (.ret (.ref a)) ∧ s.heap.get? a = none ∧ s'.heap.get? a = some ⟨.type "list", none, .seq #[] 0, #[]⟩ ∧ Kp s s') s := by
  obtain ⟨pm, c', ctv, cl, eM, hc, hrec⟩ := L.fn
  refine kla_callFunE ok.room eM rfl rfl rfl rfl hrec ?_
  have hb : bindArgs (kla_fn "<lambda>" lamQ lamP lamB lamS [("self", cl)] pm (.ref c') ctv) ⟨[v], []⟩ = pure [(("key" : Str), v)] := by rfl
  rw [hb]
  refine wpAny_pure ?_
  refine wpAny_newFunctionEnv (show ∀ x ∈ lamS.names, x.2 ≠ NameKind.cell by decide) (fun y hy => ?_) (fun h₁ hns hsb => ⟨T.nl.fresh _ hsb, ?_⟩) rfl
  · rcases List.mem_singleton.mp hy with rfl; rfl
  have hk₁ : Le s.heap h₁ := fun b o e => hsb.extBut b o (Nat.ne_of_lt (Heap.lt_size e)) (Heap.get?_push_of_some _ e)
  generalize hs1 : ({ heap := h₁, gens := s.gens, drawn := s.drawn, toks := s.toks + [(("key" : Str), v)].length, os := s.os } : Shared) = s₁
  have k1 : Kp s s₁ := by rw [← hs1]; exact Kp.of _ hk₁
  have T1 := T.mono k1.le
  refine kla_codeExpr ?_
  show wpAny _ (A.deeper (envX lamQ lamS s.heap.objs.size M (.ref c') [("self", cl)])) (eval lamB (envX lamQ lamS s.heap.objs.size M (.ref c') [("self", cl)])) _ _ _
  have okA := OkA.deeper (n := 102) ok (envX lamQ lamS s.heap.objs.size M (.ref c') [("self", cl)])
  generalize hA : A.deeper (envX lamQ lamS s.heap.objs.size M (.ref c') [("self", cl)]) = A1 at *
  refine call_meth (trees := []) (by rfl) (wpAny_Name (wpAny_loadName_free (c := cl) rfl rfl (by rfl) (hc.keeps k1.le) ?_) (by decide))
  intro pl
  refine getMethod_df T1 (okA.weak (by decide)) (k1.le _ _ eB) (k1.le _ _ ed) fun s₂ k2 => ?_
  refine PySem.callWith_type (by rfl) ?_
  refine PyProof.Rows.evalArgs_nil3 ?_
  refine wpAny_mono (mk_nil (T1.mono k2.le).K (okA.weak (by decide))) (fun v s₃ h₃ => ?_) fun _ _ q => q
  obtain ⟨a, rfl, ha, ha0, k3⟩ := h₃
  exact ⟨a, rfl, fresh_le (k1.tr k2).le ha0, ha, (k1.tr k2).tr k3⟩
end
end Mine
end

section
open PySem PySem.W PyProof.Rows PySem.Calls
set_option maxRecDepth 100000
set_option linter.all false
set_option maxHeartbeats 4000000
namespace Mine
open PySem (eval)

theorem getV_mem {bk : Bk} {x : Str} {a : Addr} {v : List Str} (kd : (bk.map fun e => e.1).Nodup) (hm : (x, a, v) ∈ bk) : getV (bkV bk) x = v := by
  unfold getV
  cases q : (bkV bk).find? fun e => e.1 == x with
  | none =>
    rw [List.find?_eq_none] at q
    exact absurd (by simp) (q (x, v) (by unfold bkV; exact List.mem_map.mpr ⟨_, hm, rfl⟩))
  | some e =>
    have h1 := List.find?_some q
    have h2 := List.mem_of_find?_eq_some q
    unfold bkV at h2
    obtain ⟨g, hg, rfl⟩ := List.mem_map.mp h2
    have : g = (x, a, v) := inj_of_nodup kd hg hm (by simpa using h1)
    rw [this]; rfl
theorem getV_none {bk : Bk} {x : Str} (h : lookA (ksOf bk) x = none) : getV (bkV bk) x = [] := by
  have hx := look_none h
  unfold getV
  rw [List.find?_eq_none.mpr]
  · rfl
  · intro e he
    unfold bkV at he
    obtain ⟨g, hg, rfl⟩ := List.mem_map.mp he
    intro z
    exact hx (List.mem_map.mpr ⟨g, hg, by simpa using z⟩)
theorem getV_touch (bv : List (Str × List Str)) (x : Str) : getV (touchV bv x) x = getV bv x := by
  unfold touchV
  split
  · rfl
  · rename_i h
    unfold getV
    rw [List.find?_append]
    cases q : bv.find? fun e => e.1 == x with
    | some e => rfl
    | none => simp

/-- the own dict of the book: with the lambda, or empty -/
noncomputable def BdOk (w : World) (fz : Bool) (h : Heap) (B bd : Addr) : Prop := if fz = true then ∃ M tk, h.get? bd = some (frozenD w M tk 1) ∧ LamAt h B M else h.get? bd = some emptyD

/-- what a look-up in the book leaves -/
structure GotItem (w : World) (fz : Bool) (B bd : Addr) (bk : Bk) (x : Str) (s : Shared) (a : Addr) (s' : Shared) : Prop where
  lst : ∃ its, s'.heap.PlainList a its ∧ RDs s'.heap (fun _ => False) its.toList ((getV (bkV bk) x).map .str)
  bk' : ∃ bk', BookSt w s'.heap B bd bk' ∧ bkV bk' = (if fz = true then bkV bk else touchV (bkV bk) x) ∧ (∀ e ∈ bk', e ∈ bk ∨ s.heap.get? e.2.1 = none)
  new : s.heap.get? a = none ∨ ∃ e ∈ bk, e.2.1 = a
  sh : ∃ h' tk, s' = { s with heap := h', toks := tk }
  ext : Heap.ExtBut B s.heap s'.heap
  le : fz = true → Le s.heap s'.heap

section
variable {w : World} {A : Around} {s : Shared} {E : Value → Shared → Prop}
/-- `book[x]`, frozen or not -/
theorem item_any (T : TopH w s.heap) (ok : OkA 106 A) {fz : Bool} {B bd : Addr} {bk : Bk} {x : Str} {t : Tok} (b : BookSt w s.heap B bd bk) (hbd : BdOk w fz s.heap B bd) (hB : B ≠ bd) (hsz : bk.length ≤ sizeLine) :
    wpAny (model pw w) A (getItem (.ref B) (.str x t)) (fun r s' => ∃ a, r = .ref a ∧ GotItem w fz B bd bk x s a s') E s := by
  cases fz with
  | false =>
    refine wpAny_mono (item_open T (ok.weak (by decide)) b hbd hB hsz) (fun r s' h => ?_) fun _ _ q => q
    obtain ⟨a, v, bk', rfl, hm, hb, hv, hn, ho, hs, hx⟩ := h
    obtain ⟨its, hp, r⟩ := hb.lst _ hm
    refine ⟨a, rfl, ⟨⟨its, hp, ?_⟩, ⟨bk', hb, hv, hn⟩, ?_, hs, hx, fun z => by cases z⟩⟩
    · have := getV_mem hb.kd hm
      rw [hv, getV_touch] at this
      rw [this]; exact r
    · rcases hn _ hm with h | h
      · exact .inr ⟨_, h, rfl⟩
      · exact .inl h
  | true =>
    obtain ⟨M, tk, ed, L⟩ := hbd
    obtain ⟨l, ep, e, en⟩ := id b.book.at_
    cases hl : lookA (ksOf bk) x with
    | some a =>
      refine item_hit T.K b.book hl ?_
      obtain ⟨v, hv⟩ := look_hit hl
      obtain ⟨its, hp, r⟩ := b.lst _ hv
      exact ⟨a, rfl, ⟨⟨its, hp, by rw [getV_mem b.kd hv]; exact r⟩, ⟨bk, b, rfl, fun e he => .inl he⟩, .inr ⟨_, hv, rfl⟩, ⟨_, _, rfl⟩, fun _ _ _ e => e, fun _ _ _ e => e⟩⟩
    | none =>
      refine item_miss T b.book hl (codeAny_mono (miss_pre (R := fun r s' => ∃ a, r = .ok (.ret (.ref a)) ∧ s.heap.get? a = none ∧ s'.heap.get? a = some ⟨.type "list", none, .seq #[] 0, #[]⟩ ∧ Kp s s') (s := { s with toks := s.toks + 1 }) T (OkA.in1 (n := 105) ok |>.weak (by decide)) b.book fun A1 bm s₁ tk1 ok1 k1 hbm => ?_) fun r s' h => ?_)
      · have T1 := T.mono k1.le
        refine wpAny_mono (ga_some T1.K (ok1.weak (by decide)) B bd M (.ref bm) _ ep 1 tk1 tk (k1.le _ _ e) (k1.le _ _ ed)) (fun f s₂ h₂ => ?_) fun _ _ z => z
        obtain ⟨rfl, k2⟩ := h₂
        have k12 := (show Kp s _ from Kp.tk s _).tr (k1.tr k2)
        have L2 : LamAt s₂.heap B M := L.keep fun b o _ _ e => k12.le _ _ e
        obtain ⟨pm, c', ctv, cl, eM, hc, hrec⟩ := id L2.fn
        refine ⟨k2, keeps_F s₂.heap ⟨_, _, _, _, eM⟩, ?_⟩
        refine codeAny_mono (lam_call (T1.mono k2.le) ok1 (k12.le _ _ e) (k12.le _ _ ed) L2) fun r s₃ h₃ => ?_
        obtain ⟨a, rfl, ha0, ha, k3⟩ := h₃
        exact ⟨_, rfl, a, rfl, fresh_le k12.le ha0, ha, k12.tr k3⟩
      · obtain ⟨a, rfl, ha0, ha, k⟩ := h
        refine ⟨_, rfl, a, rfl, ⟨⟨#[], ⟨0, ha⟩, by rw [getV_none hl]; exact .nil⟩, ⟨bk, b.keep fun c o _ e => k.le c o e, rfl, fun e he => .inl he⟩, .inl ha0, k.eq, fun c o _ e => k.le c o e, fun _ => k.le⟩⟩

/-- `book[e]` -/
theorem ev_item {env : Env} (T : TopH w s.heap) (ok : OkA 106 A) {fz : Bool} {B bd : Addr} {bk : Bk} {x : Str} {p pos : Pos} {slice : Expr} (vb : Var env s.heap "book" (.ref B)) (b : BookSt w s.heap B bd bk) (hbd : BdOk w fz s.heap B bd) (hB : B ≠ bd) (hsz : bk.length ≤ sizeLine)
    (ev : EvD pw w A env s.heap (fun _ => False) slice (.str x)) (hs : ∀ o i, subscripted slice false o i = operate [o, i] (getItem o i) := by intro _ _; rfl) :
    wpAny (model pw w) A (eval (.Subscript (.Name "book" p) slice pos) env) (fun r s' => ∃ a, r = .ref a ∧ GotItem w fz B bd bk x s a s') E s := by
  refine Subscript_ (wpAny_Name (vb _ _ _ _ s (fun _ _ e => e) ?_) (by decide))
  refine wpAny_mono (ev s E fun _ _ e => e) (fun i s₁ q => ?_) fun _ _ q => q
  obtain ⟨r, k⟩ := q
  (first | cases r using RD.atomE | cases r using RDs.nilE | cases r using RD.strE | cases r using RD.intE | cases r using RD.boolE | cases r using RD.noneE | cases r)
  rename_i t
  have b1 : BookSt w s₁.heap B bd bk := b.keep fun a o _ e => k.le a o e
  have T1 := T.mono k.le
  have hbd1 : BdOk w fz s₁.heap B bd := by
    cases fz with
    | false => exact k.le _ _ hbd
    | true => obtain ⟨M, tk, e, L⟩ := hbd; exact ⟨M, tk, k.le _ _ e, L.keep fun b o _ _ e => k.le _ _ e⟩
  refine tail_book T1 b1.book (wpAny_mono (item_any T1 ok b1 hbd1 hB hsz) (fun v s₂ q => ?_) fun _ _ q => q) (hs _ _) (fun _ => rfl)
  obtain ⟨a, rfl, ⟨hl, ⟨bk', hb, hv, hn⟩, hnew, hs2, hx2, hle⟩⟩ := q
  refine ⟨a, rfl, ⟨hl, ⟨bk', hb, hv, fun e he => (hn e he).imp id fun z => fresh_le k.le z⟩, hnew.imp (fun z => fresh_le k.le z) id, ?_, fun c o hc ec => hx2 c o hc (k.le c o ec), fun z => k.le.trans (hle z)⟩⟩
  obtain ⟨kk, h', t', rfl⟩ := k
  obtain ⟨h3, t3, rfl⟩ := hs2
  exact ⟨h3, t3, rfl⟩
end
end Mine
end

section
open PySem PySem.W PyProof.Rows PySem.Calls
set_option maxRecDepth 10000
set_option linter.all false
namespace Mine
open PySem (eval)

section
variable {M : Model} {A : Around} {R : GenEnd} {Y : Protocol} {n : Nat} {s₀ : Shared} {c : Code} {fs : List Frame} {s : Shared} {env : Env}
  {K : Flow → Sem Fin} {H : Value → Sem Fin} {gd : Bool → Bool} {lv : List Value → List Value}

theorem seg_wbind {α β : Type} {m : Sem α} {f : α → Sem β} {K : β → Sem Fin} {H : Value → Sem Fin} {gd : Bool → Bool} {lv : List Value → List Value}
    (h : wpAny M (A.over c fs) m (fun a s' => Seg M A R Y n s₀ c ((f a).wrap K H gd lv) fs s') (fun _ _ => False) s) : Seg M A R Y n s₀ c ((m >>= f).wrap K H gd lv) fs s := by
  rw [Sem.bind_eq_wrap', Sem.wrap_wrap]
  exact seg_wrap (wpAny_mono h (fun _ _ x => x) fun _ _ x => x.elim)

/-- a statement that does not yield -/
theorem seg_stmt {st : Stmt} {rest : List Stmt} (h : wpAny M (A.over c fs) (exec st env) (fun f s' => f = .next ∧ Seg M A R Y n s₀ c ((execs rest env).wrap K H gd lv) fs s') (fun _ _ => False) s) :
    Seg M A R Y n s₀ c ((execs (st :: rest) env).wrap K H gd lv) fs s := by
  refine seg_execs_cons (seg_wrap (wpAny_mono h (fun f s' x => ?_) fun _ _ x => x.elim))
  obtain ⟨rfl, h⟩ := x
  exact h

theorem seg_If {test : Expr} {body orelse : List Stmt} {pos : Pos} {b : Bool}
    (h : wpAny M (A.over c fs) (isTrue test env (eval test env)) (fun r s' => r = b ∧ Seg M A R Y n s₀ c ((execs (if b = true then body else orelse) env).wrap K H gd lv) fs s') (fun _ _ => False) s) :
    Seg M A R Y n s₀ c ((exec (.If test body orelse pos) env).wrap K H gd lv) fs s := by
  have e : exec (.If test body orelse pos) env = (standAt pos >>= fun _ => isTrue test env (eval test env) >>= fun r => if r = true then execs body env else execs orelse env) := rfl
  rw [e]
  refine seg_wbind (wpAny_standAt (seg_wbind (wpAny_mono h (fun r s' x => ?_) fun _ _ x => x)))
  obtain ⟨rfl, h⟩ := x
  cases r <;> exact h

/-- how a loop in a generator hands on its end -/
noncomputable abbrev loopRet (env : Env) (K : Flow → Sem Fin) (H : Value → Sem Fin) (gd : Bool → Bool) (lv : List Value → List Value) (c : Code) (p : Pos) : Frame :=
  .ret (fun r => ((match r with | .ok f => (.pure f : Sem Flow) | .error e => .raise e).onRaise fun (x : Value) => do
        if (← field x 1) == Value.none then unsupported "frame.own-activation:exception-without-traceback"
        setFlight x env.frame).wrap K H gd lv) none (gd false) (lv []) c p []
theorem seg_For {target iter : Expr} {body orelse : List Stmt} {pos : Pos}
    (h : wpAny M (A.over c fs) (eval iter env) (fun x s₁ => wpAny M (A.over c fs) (pyIter x) (fun it s₂ => ∀ p,
        Seg M A R Y n s₀ (.forLoop target it body orelse env) (M.den (.forLoop target it body orelse env)) (loopRet env K H gd lv c p :: fs) s₂) (fun _ _ => False) s₁) (fun _ _ => False) s)
    (hf : ∀ x, foldedSetIterable iter env x = pure x := by intro _; rfl) :
    Seg M A R Y n s₀ c ((exec (.For target iter body orelse pos) env).wrap K H gd lv) fs s := by
  have e : exec (.For target iter body orelse pos) env = (standAt pos >>= fun _ => eval iter env >>= fun x => foldedSetIterable iter env x >>= fun x => standAt iter.pos >>= fun _ =>
    holding [x] (pyIter x) >>= fun it => runOwn (.forLoop target it body orelse env) env) := rfl
  rw [e]
  refine seg_wbind (wpAny_standAt (seg_wbind (wpAny_mono h (fun x s₁ h₁ => ?_) fun _ _ x => x)))
  refine seg_wbind (wpAny_of_eq (hf x) (seg_wbind (wpAny_standAt (seg_wbind (wpAny_holding (wpAny_mono h₁ (fun it s₂ h₂ => ?_) fun _ _ x => x))))))
  exact seg_call h₂
theorem seg_loopEnd {p : Pos} {c' : Code} (h : Seg M A R Y n s₀ c (K .next) fs s) : Seg M A R Y n s₀ c' (.pure (.done .next)) (loopRet env K H gd lv c p :: fs) s :=
  seg_leaf (.ok .next) h
end

section
variable {prog : Program} {w : World} {A : Around} {R : GenEnd} {Y : Protocol} {n : Nat} {s₀ : Shared} {fs : List Frame} {s : Shared} {env : Env}
noncomputable abbrev loopK (target : Expr) (it : Value) (body : List Stmt) (env : Env) : Flow → Sem Fin := fun f => match f with
  | .next | .cont => .pure (.again (.forLoop target it body [] env))
  | .brk => .pure (.done .next)
  | .ret v => .pure (.done (.ret v))
noncomputable abbrev loopH (env : Env) : Value → Sem Fin := fun e => (do noteFrame e env; theTreesLotGoes e : Sem Unit).wrap (fun _ => .raise e) .raise id id
/-- a turn of a for in a generator -/
theorem seg_forLoop {x : Str} {p : Pos} {it : Value} {body : List Stmt}
    (h : wpAny (model prog w) (A.over (.forLoop (.Name x p) it body [] env) fs) (pyNext it) (fun r s₁ => match r with
      | none => ∀ c', Seg (model prog w) A R Y n s₀ c' (.pure (.done .next)) fs s₁
      | some v => wpAny (model prog w) (A.over (.forLoop (.Name x p) it body [] env) fs) (storeName env x v) (fun _ s₂ =>
          Seg (model prog w) A R Y n s₀ (.forLoop (.Name x p) it body [] env) ((execs body env).wrap (loopK (.Name x p) it body env) (loopH env) id id) fs s₂) (fun _ _ => False) s₁) (fun _ _ => False) s)
    (hd : (x == ("__debug__" : Str)) = false := by decide) :
    Seg (model prog w) A R Y n s₀ (.forLoop (.Name x p) it body [] env) ((model prog w).den (.forLoop (.Name x p) it body [] env)) fs s := by
  show Seg _ A R Y n s₀ _ ((forTurn (.Name x p) it body [] env).onRaise (fun x => do noteFrame x env; theTreesLotGoes x)) fs s
  unfold forTurn
  rw [Sem.onRaise_eq_wrap]
  refine seg_wbind (wpAny_standAt (seg_wbind (wpAny_onRaise (wpAny_mono h (fun r s₁ h₁ => ?_) fun _ _ x => x.elim))))
  cases r with
  | none =>
    refine seg_again rfl ?_
    exact h₁ _
  | some v =>
    refine seg_wbind (wpAny_pure ?_)
    refine seg_wbind (wpAny_assign_Name (wpAny_mono h₁ (fun _ s₂ h₂ => ?_) fun _ _ x => x))
    rw [Sem.bind_eq_wrap', Sem.wrap_wrap]
    rw [Sem.wrap_congr (execs body env) _ _ (K' := loopK (.Name x p) it body env) (H' := loopH env) (fun f => by cases f <;> rfl) (fun e => by
      show (do noteFrame e env; theTreesLotGoes e : Sem Unit).bind (fun _ => .raise e) = _
      rw [Sem.bind_eq_wrap])]
    exact h₂
end
end Mine
end

section
open PySem PySem.W PyProof.Rows PySem.Calls
set_option maxRecDepth 100000
set_option linter.all false
set_option maxHeartbeats 4000000
namespace Mine
open PySem (eval)
open Builtin Builtin.ObjectAttr

noncomputable abbrev bmSet (id : String) (Sa : Addr) : Obj := { cls := .type "builtin_function_or_method", dict := none, data := .fields #[.builtin id, .ref Sa], slots := #[] }
section
variable {s : Shared} {h' : Heap} {t : Nat} {news : List (Addr × Obj)}
noncomputable def PostBs (s : Shared) (id : String) (Sa : Addr) (v : Value) (s' : Shared) : Prop := ∃ m, v = .ref m ∧ s'.heap.get? m = some (bmSet id Sa) ∧ s.heap.get? m = none ∧ Kp s s'
theorem post_bs {id : String} {Sa m : Addr} (D : X.Mem s.heap h' [] news) (e1 : news[0]? = some (m, bmSet id Sa)) : PostBs s id Sa (.ref m) ⟨h', s.gens, s.drawn, t, s.os⟩ :=
  have h1 := mem_at D 0 e1
  ⟨m, rfl, h1.1, h1.2, mem_kp D⟩
end
section
variable {w : World} {A : Around} {s : Shared} {E : Value → Shared → Prop}
local macro_rules | `(tactic| x_close) => `(tactic| (refine post_bs (by assumption) ?_; first | rfl | kernel_rfl))
theorem md_add (X : (KF w.params).In s.heap) (ok : OkA 100 A) (Sa : Addr) (t : SetTable) (h1 : s.heap.get? Sa = some ⟨.type "set", none, .set #[] 0 t, #[]⟩) :
    wpAny (model pw w) A (PySem.call (.builtin "method_descriptor.__get__") [.builtin "set.add", .ref Sa, .type "set"]) (PostBs s "set.add" Sa) E s := by
  refine litA ok fun l g => ?_
  x_run
theorem md_cont (X : (KF w.params).In s.heap) (ok : OkA 100 A) (Sa : Addr) (t : SetTable) (h1 : s.heap.get? Sa = some ⟨.type "set", none, .set #[] 0 t, #[]⟩) :
    wpAny (model pw w) A (PySem.call (.builtin "method_descriptor.__get__") [.builtin "set.__contains__", .ref Sa, .type "set"]) (PostBs s "set.__contains__" Sa) E s := by
  refine litA ok fun l g => ?_
  x_run
end

theorem slot_sga : Slot "set" "__getattribute__" "set.__getattribute__" :=
  .of (owner := "set") (n := "__getattribute__") (by rw [typeLookup_type, builtinLookup_eq_fast]; kernel_rfl) (by decide +kernel) (by decide +kernel) (by decide +kernel)
    (by first | exact .inl (by decide +kernel) | exact .inr (by decide +kernel)) (by rw [isSubtype_type]; kernel_rfl)
theorem entry_sga : entryFor table "set.__getattribute__" = some Builtin.«object.__getattribute__» :=
  entryFor_alias (id' := "object.__getattribute__") (by kernel_rfl) (by first | rfl | decide +kernel | (unfold String.splitOn; simp +decide [String.splitOnAux])) (by decide +kernel) (by kernel_rfl)
theorem args_sga (a b : Value) : argsOk "set.__getattribute__" ⟨[a, b], []⟩ := by unfold argsOk; kernel_rfl

section
variable {M : Model} {h : Heap} {Sa : Addr} {o : Obj}
theorem looks_tset (e : h.get? Sa = some o) (hc : o.cls = .type "set") : Looks M h (typeOf (.ref Sa)) (.type "set") := hc ▸ (Looks.ld e).andThen .now
theorem looks_find_set (e : h.get? Sa = some o) (hc : o.cls = .type "set") (hd : o.dict = none) (hnc : ∀ c, o.data ≠ .cls c) {name : Str} {a g : Value} (h1 : findIn [] (.type "set") name = some (some a)) (h2 : specialIn [] a "__get__" = some (some g)) (h3 : takesIn [] a = some false) (h4 : copiedNames.contains name = false) :
    Looks M h (find (.ref Sa) (.type "set") name) (.bind g a) := by
  have L1 : Looks M h (typeLookup (.type "set") name) (some a) := looks_findIn (inNil h) h1
  have L2 : Looks M h (getOf (some a)) (some g) := looks_specialIn (inNil h) h2
  have L3 := looks_takesIn (M := M) (inNil h) h3
  have L4 : Looks M h (dataDescriptor? (some a) (some g)) none := L3.andThen .now
  have L5 : Looks M h (inOwnDict name (.ref Sa)) none := by
    intro A Q E s k q
    refine wpAny_bind (wpAny_bind (wpAny_loadPart (k _ _ e) ?_))
    obtain ⟨oc, od, oda, osl⟩ := o
    dsimp only at hc hd hnc
    subst hc hd
    have hb : wpAny M A (instanceDict Sa false) (fun a s' => wpAny M A (inDict name a) Q E s') E s := by
      unfold instanceDict
      refine wpAny_bind (wpAny_loadPart (k _ _ e) ?_)
      exact wpAny_pure (wpAny_pure q)
    cases oda <;> first | exact hb | exact absurd rfl (hnc _)
  have L6 : Looks M h (copiedAttributeGuard name (.ref Sa)) () := by
    unfold copiedAttributeGuard
    dsimp only
    rw [if_neg (by have h4' : (["__module__", "__name__", "__qualname__", "__doc__", "__annotations__"] : List Str).contains name = false := h4
                   rw [h4']; decide)]
    exact .now
  exact L1.andThen (L2.andThen (L4.andThen (L5.andThen (L6.andThen (Looks.tag .now)))))
end

section
variable {prog : Program} {w : World} {A : Around} {E : Value → Shared → Prop} {s : Shared} {Sa : Addr} {o : Obj} {name : Str} {expr : Bool} {Q : Value → Shared → Prop} {a g : Value}
theorem getAttr_set (e : s.heap.get? Sa = some o) (hc : o.cls = .type "set") (hd : o.dict = none) (hnc : ∀ c, o.data ≠ .cls c) (h1 : findIn [] (.type "set") name = some (some a)) (h2 : specialIn [] a "__get__" = some (some g)) (h3 : takesIn [] a = some false) (h4 : copiedNames.contains name = false)
    (h : wpAny (model prog w) A.in1 (PySem.call g [a, .ref Sa, .type "set"]) (fun v s' => wpAny (model prog w) A (handedOut v) Q E s') (fun _ _ => False) { s with toks := s.toks + 1 }) :
    wpAny (model prog w) A (getAttr (.ref Sa) name expr) Q E s := by
  have L0 := looks_tset (M := model prog w) e hc
  have L1 : Looks (model prog w) s.heap (typeLookup (.type "set") "__getattribute__") (some (.builtin "set.__getattribute__")) := looks_findIn (inNil _) (by kernel_rfl)
  have L2 : Looks (model prog w) s.heap (typeLookup (.type "set") "__getattr__") none := looks_findIn (inNil _) (by kernel_rfl)
  have LF := looks_find_set (M := model prog w) e hc hd hnc h1 h2 h3 h4
  unfold getAttr getAttrBy
  refine wpAny_bind (wpAny_mkText (wpAny_holding (wpAny_bind (L0 _ _ _ _ (fun _ _ e => e) (wpAny_bind (L1 _ _ _ _ (fun _ _ e => e) ?_))))))
  show wpAny _ _ (getAttrByItsOwn (.ref Sa) (.str name s.toks) (.type "set") (.builtin "set.__getattribute__") true expr) _ _ _
  unfold getAttrByItsOwn hookBefore callGetattribute boundAndCalled
  refine wpAny_bind (wpAny_of_eq (show (if onTheHeap (.type "set") then typeLookup (.type "set") "__getattr__" else pure none) = pure none from rfl) ?_)
  refine wpAny_bind (wpAny_attempt (wpAny_holding ?_))
  rw [show (expr && onTheHeap (Value.builtin "set.__getattribute__")) = false from Bool.and_false _, if_neg (by decide)]
  rw [slot_sga.bind]
  refine wpAny_bind (wpAny_pure ?_)
  show wpAny _ _ (PySem.call (.builtin "set.__getattribute__") [.ref Sa, .str name s.toks]) _ _ { s with toks := s.toks + 1 }
  refine wpAny_call (codeAny_call_builtin slot_sga.plain entry_sga ?_)
  refine @check_slot (model prog w) _ _ { s with toks := s.toks + 1 } "set.__getattribute__" "set" "__getattribute__" (.ref Sa) [.str name s.toks] [] _ (by decide +kernel) (by decide +kernel) (L0.andThen (Looks.of_pure (by rw [isSubtype_type]; kernel_rfl))) (args_sga _ _) ?_
  unfold «object.__getattribute__»
  refine wpAny_bind (wpAny_pure ?_)
  refine wpAny_bind (wpAny_pure ?_)
  refine wpAny_bind (L0 _ _ _ _ (fun _ _ e => e) (wpAny_bind (LF _ _ _ _ (fun _ _ e => e) ?_)))
  show wpAny _ _ (holding [a] (PySem.call g [a, .ref Sa, .type "set"]) >>= ret) _ _ _
  exact wpAny_bind (wpAny_holding (wpAny_mono h (fun v s' z => wpAny_pure z) fun _ _ z => z.elim))
end

section
variable {w : World} {A : Around} {E : Value → Shared → Prop} {s : Shared} {env : Env}
/-- `seen.add` as a value -/
theorem ev_setAdd (T : TopH w s.heap) (ok : OkA 102 A) {x : Str} {p ap : Pos} {Sa : Addr} {t : SetTable} (v : Var env s.heap x (.ref Sa)) (e : s.heap.get? Sa = some ⟨.type "set", none, .set #[] 0 t, #[]⟩) (hx : (x == ("__debug__" : Str)) = false := by decide) :
    wpAny (model pw w) A (eval (.Attribute (.Name x p) "add" ap) env) (PostBs s "set.add" Sa) E s := by
  refine Attribute_name (wpAny_Name (v _ _ _ _ s (fun _ _ e => e) ?_) hx)
  refine getAttr_set (a := .builtin "set.add") (g := .builtin "method_descriptor.__get__") e rfl rfl (fun c z => by cases z) (by kernel_rfl) (by kernel_rfl) (by kernel_rfl) (by decide) ?_
  refine wpAny_mono (md_add (s := { s with toks := s.toks + 1 }) T.K (OkA.in1 (n := 100) (ok.weak (by decide))) Sa t e) (fun v s₁ h₁ => ?_) fun _ _ z => z
  obtain ⟨m, rfl, e1, e2, k⟩ := h₁
  exact handed_on rfl ⟨m, rfl, e1, e2, (Kp.tk s _).tr k⟩
theorem ev_setCont (T : TopH w s.heap) (ok : OkA 102 A) {x : Str} {p ap : Pos} {Sa : Addr} {t : SetTable} (v : Var env s.heap x (.ref Sa)) (e : s.heap.get? Sa = some ⟨.type "set", none, .set #[] 0 t, #[]⟩) (hx : (x == ("__debug__" : Str)) = false := by decide) :
    wpAny (model pw w) A (eval (.Attribute (.Name x p) "__contains__" ap) env) (PostBs s "set.__contains__" Sa) E s := by
  refine Attribute_name (wpAny_Name (v _ _ _ _ s (fun _ _ e => e) ?_) hx)
  refine getAttr_set (a := .builtin "set.__contains__") (g := .builtin "method_descriptor.__get__") e rfl rfl (fun c z => by cases z) (by kernel_rfl) (by kernel_rfl) (by kernel_rfl) (by decide) ?_
  refine wpAny_mono (md_cont (s := { s with toks := s.toks + 1 }) T.K (OkA.in1 (n := 100) (ok.weak (by decide))) Sa t e) (fun v s₁ h₁ => ?_) fun _ _ z => z
  obtain ⟨m, rfl, e1, e2, k⟩ := h₁
  exact handed_on rfl ⟨m, rfl, e1, e2, (Kp.tk s _).tr k⟩
end
end Mine
end

section
open PySem PySem.W PyProof.Rows PySem.Calls
set_option maxRecDepth 100000
set_option linter.all false
set_option maxHeartbeats 4000000
namespace Mine
open PySem (eval)

theorem sgAdd_some : (Manifest.signature? "set.add").isSome = true := by kernel_rfl
noncomputable def sgAdd : Manifest.Signature := (Manifest.signature? "set.add").get sgAdd_some
theorem sgAdd_is : Manifest.signature? "set.add" = some sgAdd := (Option.some_get _).symm
theorem sgAdd_args (a b : Value) : Bind.checkArgs "set.add" { sgAdd with full := s!"{Bind.lastOf "set"}.{Bind.lastOf "set.add"}" } ⟨[a, b], []⟩ = pure () := by kernel_rfl
theorem bkAdd : builtinKind "set.add" = some .method := by decide +kernel
theorem sgCont_some : (Manifest.signature? "set.__contains__").isSome = true := by kernel_rfl
noncomputable def sgCont : Manifest.Signature := (Manifest.signature? "set.__contains__").get sgCont_some
theorem sgCont_is : Manifest.signature? "set.__contains__" = some sgCont := (Option.some_get _).symm
theorem sgCont_args (a b : Value) : Bind.checkArgs "set.__contains__" { sgCont with full := s!"{Bind.lastOf "set"}.{Bind.lastOf "set.__contains__"}" } ⟨[a, b], []⟩ = pure () := by kernel_rfl
theorem bkCont : builtinKind "set.__contains__" = some .method := by decide +kernel
theorem set_sub (base : String) (b : Bool) (h : isSubtype (.type "set") (.type base) = pure b) {M : Model} {hp : Heap} {Sa : Addr} {o : Obj} (e : hp.get? Sa = some o) (hc : o.cls = .type "set") : Looks M hp (isInstance (.ref Sa) (.type base)) b :=
  (looks_tset e hc).andThen (Looks.of_pure h)

section
variable {prog : Program} {w : World} {A : Around} {s : Shared} {E : Value → Shared → Prop}
theorem bound_set {id : String} {sg : Manifest.Signature} {Sa : Addr} {o : Obj} {key : Value} {Q : Unit → Shared → Prop} (hsg : Manifest.signature? id = some sg) (hk : builtinKind id = some .method) (hv : Manifest.varargsMethods.contains id = false)
    (ha : Bind.checkArgs id { sg with full := s!"{Bind.lastOf "set"}.{Bind.lastOf id}" } ⟨[.ref Sa, key], []⟩ = pure ()) (e : s.heap.get? Sa = some o) (hc : o.cls = .type "set") (hnc : ∀ c, o.data ≠ .cls c) (h : Q () s) :
    wpAny (model prog w) A (checkBoundCall id ⟨[.ref Sa, key], []⟩) Q E s := by
  have L0 := looks_tset (M := model prog w) e hc
  have L1 := set_sub "module" false (by rw [isSubtype_type]; kernel_rfl) (M := model prog w) e hc
  obtain ⟨hh, g, d, t, os⟩ := s
  unfold checkBoundCall
  rw [hsg, hk]
  show wpAny _ _ (if (Manifest.AttrKind.method != .method && Manifest.AttrKind.method != .classMethod) = true then _ else _) _ _ _
  rw [if_neg (by decide)]
  refine wpAny_bind (L1.here ?_)
  rw [if_neg (by rw [hv]; decide)]
  refine wpAny_bind (ks_wpAny_isType_inst e hnc ?_)
  rw [if_neg (by decide)]
  refine wpAny_bind (L0.here ?_)
  dsimp only
  exact wpAny_of_eq ha h

theorem bound_call {id : String} {sg : Manifest.Signature} {BM Sa : Addr} {o : Obj} {key : Value} {R : Result → Shared → Prop} (hsg : Manifest.signature? id = some sg) (hk : builtinKind id = some .method) (hv : Manifest.varargsMethods.contains id = false)
    (ha : Bind.checkArgs id { sg with full := s!"{Bind.lastOf "set"}.{Bind.lastOf id}" } ⟨[.ref Sa, key], []⟩ = pure ()) (hq : (Code.builtin id ⟨[.ref Sa, key], []⟩).quiet = true) (eb : s.heap.get? BM = some (bmSet id Sa)) (e : s.heap.get? Sa = some o) (hc : o.cls = .type "set") (hnc : ∀ c, o.data ≠ .cls c)
    (h : codeAny (model prog w) A (.builtin id ⟨[.ref Sa, key], []⟩) R s) : codeAny (model prog w) A (.call (.ref BM) ⟨[key], []⟩) R s := by
  refine codeAny_of_tree ?_
  show wpAny _ A.in1 (callAny (.ref BM) ⟨[key], []⟩) _ _ s
  simp only [callAny]
  refine wpAny_bind (wpAny_load eb ?_)
  dsimp only
  rw [if_pos (by decide)]
  refine wpAny_bind (bound_set hsg hk hv ha e hc hnc ?_)
  exact wpAny_pure ⟨hq, h⟩

variable {K : Type} [DecidableEq K] {knd : KeyKind prog w K} {a BM : Addr} {k : K} {key : Value}
theorem call_bmAdd {S : K → Bool} {n : Nat} {R : Result → Shared → Prop} (eb : s.heap.get? BM = some (bmSet "set.add" a)) (hkey : knd.is k key = true) (hsc : key.scannable = true) (hS : s.heap.SetOf knd a S n) (hroom : n + 1 < scanBound)
    (h : ∀ h', Heap.SameBut a s.heap h' → h'.SetOf knd a (fun k' => S k' || decide (k' = k)) (if S k then n else n + 1) → R (.ok (.ret .none)) { s with heap := h', toks := s.toks + 1 }) :
    codeAny (model prog w) A (.call (.ref BM) ⟨[key], []⟩) R s := by
  obtain ⟨o, es, ep, t, ho, hc, hd, r⟩ := id hS
  refine bound_call sgAdd_is bkAdd (by decide +kernel) (sgAdd_args _ _) (Code.quiet_builtin _ (by decide +kernel)) eb ho hc.1 (fun c z => by rw [hd] at z; cases z) ?_
  refine codeAny_builtin F.entry_set_add ?_
  rw [Around.under_plainId (show plainId "set.add" = true by decide +kernel) _]
  unfold Builtin.«set.add» Builtin.Frozenset.oneOther
  simp only [List.isEmpty_nil, bind_assoc]
  unfold Builtin.Frozenset.addrOf setAdd
  refine wpAny_bind (wpAny_pure ?_)
  try dsimp only
  refine wpAny_bind (wpAny_pure ?_)
  try dsimp only
  refine wpAny_bind ?_
  refine wpAny_holding ?_
  refine wpAny_bind (knd.pyHash hkey ?_)
  refine wpAny_setAddHashed_of (s := { s with toks := s.toks + 1 }) hkey hsc hS hroom fun h' hsb hS' => ?_
  show wpAny _ _ (ret Value.none) _ _ _
  exact wpAny_pure (h h' hsb hS')
theorem call_bmCont {S : K → Bool} {n : Nat} {R : Result → Shared → Prop} (eb : s.heap.get? BM = some (bmSet "set.__contains__" a)) (hkey : knd.is k key = true) (hsc : key.scannable = true) (hS : s.heap.SetOf knd a S n)
    (h : R (.ok (.ret (.bool (S k)))) { s with toks := s.toks + 1 }) :
    codeAny (model prog w) A (.call (.ref BM) ⟨[key], []⟩) R s := by
  obtain ⟨o, es, ep, t, ho, hc, hd, r⟩ := id hS
  refine bound_call sgCont_is bkCont (by decide +kernel) (sgCont_args _ _) (Code.quiet_builtin _ (by decide +kernel)) eb ho hc.1 (fun c z => by rw [hd] at z; cases z) ?_
  refine codeAny_builtin entry_set_contains ?_
  rw [Around.under_plainId (show plainId "set.__contains__" = true by decide +kernel) _]
  unfold Builtin.«frozenset.__contains__» Builtin.Frozenset.oneOther
  simp only [List.isEmpty_nil, bind_assoc]
  unfold Builtin.Frozenset.addrOf Builtin.Frozenset.withSetAsKey setContains
  refine wpAny_bind (wpAny_pure ?_)
  try dsimp only
  refine wpAny_bind (wpAny_pure ?_)
  try dsimp only
  refine wpAny_bind (wpAny_tryCatch ?_)
  refine wpAny_holding ?_
  refine wpAny_bind (knd.pyHash hkey ?_)
  refine wpAny_bind (wpAny_setFind_of (s := { s with toks := s.toks + 1 }) hkey hsc hS fun r hr => ?_)
  refine wpAny_pure ?_
  show wpAny _ _ (ret (Value.bool r.isSome)) _ _ _
  rw [hr]
  exact wpAny_pure h
end
end Mine
end

section
open PySem PySem.W PyProof.Rows PySem.Calls
set_option maxRecDepth 100000
set_option linter.all false
set_option maxHeartbeats 4000000
namespace Mine
open PySem (eval)

noncomputable abbrev fdUe : FuncData := { fdM (stOf 5) "unique_everseen" "unique_everseen" "cpy313.importlib.metadata._itertools" 338 (.ref 77) none 83 [] .none with doc := .str "List unique elements, preserving order. Remember all elements ever seen." 351 }
theorem K_ue (w : World) : (K01 w).lookup 84 = some ⟨.type "function", none, .func fdUe, #[]⟩ := by kernel_rfl
noncomputable abbrev envUe (C : Nat) : Env := callEnv fdUe C 84

/-- what the reader keeps for the generator, what the generator keeps for the reader -/
noncomputable def KeepFrom (O : Addr → Prop) (h h' : Heap) : Prop := (∀ b o, ¬ O b → h.get? b = some o → h'.get? b = some o) ∧ ∀ b, O b → h'.get? b ≠ none
noncomputable def Chg (O : Addr → Prop) (C : Addr) (h h' : Heap) : Prop := ∀ b o, h.get? b = some o → b ≠ C → (O b ∨ ((∀ es n t, o.data ≠ .set es n t) ∧ o.cls ≠ .type "list_iterator")) → h'.get? b = some o
theorem Chg.refl (O : Addr → Prop) (C : Addr) (h : Heap) : Chg O C h h := fun _ _ e _ _ => e
theorem Chg.trans {O : Addr → Prop} {C : Addr} {a b c : Heap} (x : Chg O C a b) (y : Chg O C b c) : Chg O C a c := fun i o e n z => y i o (x i o e n z) n z
theorem Chg.of_le {O : Addr → Prop} {C : Addr} {a b : Heap} (k : Le a b) : Chg O C a b := fun i o e _ _ => k i o e
theorem Chg.of_self {O : Addr → Prop} {C : Addr} {a b : Heap} (k : Heap.ExtBut C a b) : Chg O C a b := fun i o e n _ => k i o n e
theorem Chg.of_set {O : Addr → Prop} {C Sa : Addr} {a b : Heap} {oS : Obj} {es n t} (k : Heap.ExtBut Sa a b) (hC : ¬ O Sa) (e : a.get? Sa = some oS) (hd : oS.data = .set es n t) : Chg O C a b := fun i o e' n' z => k i o (fun q => by
  subst q
  rw [e] at e'; cases e'
  rcases z with z | z
  · exact absurd z hC
  · exact z.1 _ _ _ hd) e'
theorem Chg.of_iter {O : Addr → Prop} {C I : Addr} {a b : Heap} {oI : Obj} (k : Heap.ExtBut I a b) (hC : ¬ O I) (e : a.get? I = some oI) (hd : oI.cls = .type "list_iterator") : Chg O C a b := fun i o e' n' z => k i o (fun q => by
  subst q
  rw [e] at e'; cases e'
  rcases z with z | z
  · exact absurd z hC
  · exact z.2 hd) e'
theorem Chg.low {O : Addr → Prop} {C b : Addr} {h h' : Heap} (x : Chg O C h h') (hC : ¬ O C) (hb : O b) {o : Obj} (e : h.get? b = some o) : h'.get? b = some o := x b o e (fun q => hC (q ▸ hb)) (.inl hb)

/-- the same, but that frames in `Fs` may have been looked at -/
noncomputable def ChgF (O : Addr → Prop) (Fs : List Addr) (C : Addr) (h h' : Heap) : Prop := ∀ b o, h.get? b = some o → b ≠ C → (b ∈ Fs → ∃ sl, h'.get? b = some { o with slots := sl }) ∧ (b ∉ Fs → (O b ∨ ((∀ es n t, o.data ≠ .set es n t) ∧ o.cls ≠ .type "list_iterator")) → h'.get? b = some o)
theorem ChgF.of {O : Addr → Prop} {Fs : List Addr} {C : Addr} {h h' : Heap} (x : Chg O C h h') (hF : ∀ b ∈ Fs, O b) : ChgF O Fs C h h' := fun b o e n => ⟨fun hb => ⟨o.slots, x b o e n (.inl (hF b hb))⟩, fun _ z => x b o e n z⟩
theorem ChgF.le {O : Addr → Prop} {Fs : List Addr} {C : Addr} {a b c : Heap} (x : ChgF O Fs C a b) (k : Le b c) : ChgF O Fs C a c := fun i o e n => ⟨fun hb => let ⟨sl, q⟩ := (x i o e n).1 hb; ⟨sl, k _ _ q⟩, fun hb z => k _ _ ((x i o e n).2 hb z)⟩
theorem Chg.thenF {O : Addr → Prop} {Fs : List Addr} {C : Addr} {a b c : Heap} (x : Chg O C a b) (y : ChgF O Fs C b c) (hF : ∀ b ∈ Fs, O b) : ChgF O Fs C a c := fun i o e n => ⟨fun hb => (y i o (x i o e n (.inl (hF i hb))) n).1 hb, fun hb z => (y i o (x i o e n z) n).2 hb z⟩

/-- the frames around: functions, each with its object -/
noncomputable def OuterOk (h : Heap) (outer : List Env) : Prop := ∀ env ∈ outer, env.scope.kind ≠ .module ∧ ∃ L o, env.frame = some L ∧ h.get? L = some o ∧ ∀ vs, o.data ≠ .fields vs
noncomputable abbrev framesOf (outer : List Env) : List Addr := outer.filterMap (·.frame)
structure RowAt (h : Heap) (R : Addr) (xs : List Str) : Prop where
  lst : ∃ vs, h.PlainList R vs ∧ RDs h (fun _ => False) vs.toList (xs.map .str)
  good : ∀ x ∈ xs, x ∈ names8
theorem RowAt.keep {h h' : Heap} {R : Addr} {xs : List Str} (x : RowAt h R xs) (k : ∀ o, h.get? R = some o → h'.get? R = some o) : RowAt h' R xs := by
  obtain ⟨vs, hl, r⟩ := x.lst
  exact ⟨⟨vs, hl.at k, r.mono (fun _ _ s _ => s.elim) fun _ s => s⟩, x.good⟩
theorem RDs.str_inj {h : Heap} {S : Addr → Prop} : ∀ {vs : List Value} {xs ys : List Str}, RDs h S vs (xs.map .str) → RDs h S vs (ys.map .str) → xs = ys
  | _, [], [], _, _ => rfl
  | _, [], y :: ys, .nil, z => by cases z
  | _, x :: xs, [], z, q => by cases q; cases z
  | _, x :: xs, y :: ys, .cons a r, .cons b q => by
    cases a; cases b
    rw [RDs.str_inj r q]
theorem RowAt.det {h : Heap} {R : Addr} {xs ys : List Str} (x : RowAt h R xs) (y : RowAt h R ys) : xs = ys := by
  obtain ⟨vs, ⟨n, e⟩, r⟩ := x.lst
  obtain ⟨ws, ⟨n', e'⟩, r'⟩ := y.lst
  rw [e] at e'; cases e'
  exact RDs.str_inj r r'

/-- the names seen so far, read off the generator's frame -/
noncomputable def StAt (w : World) (O : Addr → Prop) (h : Heap) (C : Addr) (S : Str → Bool) : Prop := ∃ m, h.Ns C m ∧ ((m "seen" = none ∧ S = fun _ => false) ∨ ∃ Sa n, m "seen" = some (.ref Sa) ∧ ¬ O Sa ∧ h.SetOf (strKind pw w) Sa S n)
theorem ns_det {h : Heap} {C : Addr} {m m' : Str → Option Value} (x : h.Ns C m) (y : h.Ns C m') : m = m' := by
  obtain ⟨o, es, ep, e, hd, k, f⟩ := x
  obtain ⟨o', es', ep', e', hd', k', f'⟩ := y
  rw [e] at e'; cases e'
  rw [hd] at hd'; cases hd'
  funext y
  rw [← f y, f' y]
theorem setOf_det {w : World} {h : Heap} {a : Addr} {S S' : Str → Bool} {n n' : Nat} (x : h.SetOf (strKind pw w) a S n) (y : h.SetOf (strKind pw w) a S' n') : S = S' := by
  obtain ⟨o, es, ep, t, e, _, hd, _, f, _⟩ := x
  obtain ⟨o', es', ep', t', e', _, hd', _, f', _⟩ := y
  rw [e] at e'; cases e'
  rw [hd] at hd'; cases hd'
  funext k
  rw [Bool.eq_iff_iff, f k, f' k]
theorem StAt.det {w : World} {O : Addr → Prop} {h : Heap} {C : Addr} {S S' : Str → Bool} (x : StAt w O h C S) (y : StAt w O h C S') : S = S' := by
  obtain ⟨m, hm, x⟩ := x
  obtain ⟨m', hm', y⟩ := y
  have := ns_det hm hm'
  subst this
  rcases x with ⟨a, rfl⟩ | ⟨Sa, n, a, _, b⟩ <;> rcases y with ⟨a', rfl⟩ | ⟨Sa', n', a', _, b'⟩
  · rfl
  · rw [a] at a'; cases a'
  · rw [a] at a'; cases a'
  · rw [a] at a'; cases a'
    exact setOf_det b b'

noncomputable abbrev fresh? (f : Str → Str) (S : Str → Bool) (xs : List Str) : Option Str := xs.find? fun x => !S (f x)
noncomputable abbrev addS (S : Str → Bool) (k : Str) : Str → Bool := fun k' => S k' || decide (k' = k)
noncomputable def cnt (f : Str → Str) (S : Str → Bool) : Nat := (names8.filter fun x => !S (f x)).length
theorem cnt_add {f : Str → Str} {S : Str → Bool} {x : Str} (hx : x ∈ names8) (hS : S (f x) = false) : cnt f (addS S (f x)) + 1 ≤ cnt f S := by
  unfold cnt
  have gen : ∀ l : List Str, x ∈ l → (l.filter fun y => !addS S (f x) (f y)).length + 1 ≤ (l.filter fun y => !S (f y)).length := by
    have sub : ∀ l : List Str, (l.filter fun y => !addS S (f x) (f y)).length ≤ (l.filter fun y => !S (f y)).length := fun l => by
      induction l with
      | nil => exact Nat.le_refl _
      | cons y r ih =>
        simp only [List.filter_cons, addS]
        simp only [addS] at ih
        cases h1 : S (f y) <;> cases h2 : decide (f y = f x) <;> simp [-Bool.not_or] <;> omega
    intro l hl
    induction l with
    | nil => cases hl
    | cons y r ih =>
      rcases List.mem_cons.mp hl with rfl | hr
      · have := sub r
        simp only [List.filter_cons, addS, hS, decide_true, Bool.or_true, Bool.not_true, Bool.not_false, if_true, Bool.false_eq_true, if_false, List.length_cons] at this ⊢
        omega
      · have := ih hr
        simp only [List.filter_cons, addS] at this ⊢
        cases h1 : S (f y) <;> cases h2 : decide (f y = f x) <;> simp [-Bool.not_or] <;> omega
  exact gen names8 hx

section
variable (w : World) (f : Str → Str) (O : Addr → Prop) (C R : Addr) (outer : List Env)
noncomputable def GEndP (_ : Nat) (s₀ s₁ : Shared) : Prop := ∃ S xs, StAt w O s₀.heap C S ∧ RowAt s₀.heap R xs ∧ fresh? f S xs = none ∧ ChgF O (framesOf outer) C s₀.heap s₁.heap ∧ ∃ h' tk, s₁ = { s₀ with heap := h', toks := tk }
noncomputable def GY : Protocol := fun _ s₀ v s₁ kap => ∃ S xs x t, StAt w O s₀.heap C S ∧ RowAt s₀.heap R xs ∧ fresh? f S xs = some x ∧ v = .str x t ∧ StAt w O s₁.heap C (addS S (f x)) ∧ Chg O C s₀.heap s₁.heap ∧ (∃ h' tk, s₁ = { s₀ with heap := h', toks := tk }) ∧
  ∀ s'' ys, KeepFrom O s₁.heap s''.heap → TopH w s''.heap → OuterOk s''.heap outer → RowAt s''.heap R (xs ++ ys) → kap (.send .none) s''
noncomputable abbrev GR : GenEnd := fun n s₀ r s₁ => r = .ok (.ret .none) ∧ GEndP w f O C R outer n s₀ s₁
end

/-- the generator as its reader sees it -/
structure GenAt (w : World) (A : Around) (f : Str → Str) (O : Addr → Prop) (C G R : Addr) (outer : List Env) (g n : Nat) (S : Str → Bool) (xs : List Str) (s : Shared) : Prop where
  gen : s.heap.IsGen G g
  cg : ¬ O G ∧ G ≠ C
  st : StAt w O s.heap C S
  fuel : cnt f S ≤ n
  go : ∃ gs, s.gens[g]? = some gs ∧ ∀ s'' ys, KeepFrom O s.heap s''.heap → TopH w s''.heap → OuterOk s''.heap outer → RowAt s''.heap R (xs ++ ys) → gs.Goes (model pw w) A.in1 (GR w f O C R outer) (GY w f O C R outer) n (.send .none) s''

section
variable {w : World} {A : Around} {E : Value → Shared → Prop} {s : Shared} {f : Str → Str} {O : Addr → Prop} {C G R : Addr} {outer : List Env} {g n : Nat} {S : Str → Bool} {xs ys : List Str}
/-- the next name of the generator -/
theorem gen_next (hh : A.handled = none) (room : A.depth < recursionLimit) (T : TopH w s.heap) (hO : OuterOk s.heap outer) (alive : ∀ b, O b → s.heap.get? b ≠ none) (row : RowAt s.heap R (xs ++ ys)) (ga : GenAt w A f O C G R outer g n S xs s) :
    wpAny (model pw w) A (pyNext (.ref G)) (fun r s' => match fresh? f S (xs ++ ys) with
      | some x => ∃ t m, n = m + 1 ∧ r = some (.str x t) ∧ GenAt w A f O C G R outer g m (addS S (f x)) (xs ++ ys) s' ∧ Chg O C s.heap s'.heap ∧ ∃ h' tk gs, s' = { s.setGen g gs with heap := h', toks := tk }
      | none => r = none ∧ ChgF O (framesOf outer) C s.heap s'.heap ∧ ∃ h' tk, s' = { s.setGen g .finished with heap := h', toks := tk }) E s := by
  obtain ⟨gs, hgs, hgo⟩ := ga.go
  have key := hgo (s.setGen g .running) ys ⟨fun _ _ _ e => e, alive⟩ T hO row
  refine wpAny_pyNext_gen (P := GEndP w f O C R outer) hh T.nl room ga.gen hgs key (fun v s₁ gs' hv => ?_) (fun s₁ hp h' hk => ?_)
  · obtain ⟨S', zs, x, t, hst, hrow, hfx, rfl, hst1, hchg, hsh, hkap⟩ := hv
    have e1 := ga.st.det hst
    subst e1
    have e2 := row.det hrow
    subst e2
    rw [hfx]
    have hx : x ∈ names8 := row.good x (List.mem_of_find?_eq_some hfx)
    have hS : S (f x) = false := by simpa using List.find?_some hfx
    have hc := cnt_add hx hS
    cases n with
    | zero => exact absurd ga.fuel (by omega)
    | succ m =>
      obtain ⟨o, nm, qn, hoG, hcG, hdG, hsG⟩ := ga.gen
      have nn : (∀ es n t, o.data ≠ .set es n t) ∧ o.cls ≠ .type "list_iterator" := ⟨fun _ _ _ z => by (rw [hdG] at z; cases z), by rw [hcG]; decide⟩
      have hG1 : s₁.heap.get? G = some o := hchg G o hoG ga.cg.2 (.inr nn)
      obtain ⟨h1, tk1, rfl⟩ := hsh
      refine ⟨t, m, rfl, rfl, ⟨⟨o, nm, qn, hG1, hcG, hdG, hsG⟩, ga.cg, hst1, by have := ga.fuel; omega, gs', setGen_self (gs := .running) (setGen_self hgs), fun s'' zs k T' hO' row' => hkap s'' zs k T' hO' row'⟩, hchg, h1, tk1, gs', ?_⟩
      simp [Shared.setGen]
  · obtain ⟨S', zs, hst, hrow, hfx, hchg, h1, tk1, rfl⟩ := hp
    have e1 := ga.st.det hst
    subst e1
    have e2 := row.det hrow
    subst e2
    rw [hfx]
    refine ⟨rfl, ChgF.le hchg hk, h', tk1, ?_⟩
    simp [Shared.setGen]
end
end Mine
end

section
open PySem PySem.W PyProof.Rows PySem.Calls
set_option maxRecDepth 100000
set_option linter.all false
set_option maxHeartbeats 4000000
namespace Mine
open PySem (eval)

noncomputable def ueKey : List Stmt := [.Assign [.Name "k" ⟨36, 12, 36, 13⟩] (.Call (.Name "key" ⟨36, 16, 36, 19⟩) [.Name "element" ⟨36, 20, 36, 27⟩] [] ⟨36, 16, 36, 28⟩) ⟨36, 12, 36, 28⟩,
  .If (.Compare (.Name "k" ⟨37, 15, 37, 16⟩) [.NotIn] [.Name "seen" ⟨37, 24, 37, 28⟩] ⟨37, 15, 37, 28⟩) [.Expr (.Call (.Name "seen_add" ⟨38, 16, 38, 24⟩) [.Name "k" ⟨38, 25, 38, 26⟩] [] ⟨38, 16, 38, 27⟩) ⟨38, 16, 38, 27⟩,
    .Expr (.Yield (some (.Name "element" ⟨39, 22, 39, 29⟩)) ⟨39, 16, 39, 29⟩) ⟨39, 16, 39, 29⟩] [] ⟨37, 12, 39, 29⟩]
noncomputable def ueNone : List Stmt := [.Expr (.Call (.Name "seen_add" ⟨32, 12, 32, 20⟩) [.Name "element" ⟨32, 21, 32, 28⟩] [] ⟨32, 12, 32, 29⟩) ⟨32, 12, 32, 29⟩,
  .Expr (.Yield (some (.Name "element" ⟨33, 18, 33, 25⟩)) ⟨33, 12, 33, 25⟩) ⟨33, 12, 33, 25⟩]
noncomputable def ueIter : Expr := .Call (.Name "filterfalse" ⟨31, 23, 31, 34⟩) [.Attribute (.Name "seen" ⟨31, 35, 31, 39⟩) "__contains__" ⟨31, 35, 31, 52⟩, .Name "iterable" ⟨31, 54, 31, 62⟩] [] ⟨31, 23, 31, 63⟩
theorem ue_body : fbody (stOf 5) = [.Expr (.Constant (.str "List unique elements, preserving order. Remember all elements ever seen.") 0 ⟨27, 4, 27, 82⟩) ⟨27, 4, 27, 82⟩,
  .Assign [.Name "seen" ⟨28, 4, 28, 8⟩] (.Call (.Name "set" ⟨28, 11, 28, 14⟩) [] [] ⟨28, 11, 28, 16⟩) ⟨28, 4, 28, 16⟩,
  .Assign [.Name "seen_add" ⟨29, 4, 29, 12⟩] (.Attribute (.Name "seen" ⟨29, 15, 29, 19⟩) "add" ⟨29, 15, 29, 23⟩) ⟨29, 4, 29, 23⟩,
  .If (.Compare (.Name "key" ⟨30, 7, 30, 10⟩) [.Is] [.Constant .none 0 ⟨30, 14, 30, 18⟩] ⟨30, 7, 30, 18⟩)
    [.For (.Name "element" ⟨31, 12, 31, 19⟩) ueIter ueNone [] ⟨31, 8, 33, 25⟩]
    [.For (.Name "element" ⟨35, 12, 35, 19⟩) (.Name "iterable" ⟨35, 23, 35, 31⟩) ueKey [] ⟨35, 8, 39, 29⟩] ⟨30, 4, 39, 29⟩] := by rfl

/-- the generator under way -/
structure GSt (w : World) (f : Str → Str) (O : Addr → Prop) (C R : Addr) (kv : Value) (n : Nat) (S : Str → Bool) (xs : List Str) (Sa BM : Addr) (s₀ s : Shared) (m : Str → Option Value) : Prop where
  sh : ∃ h' tk, s = { s₀ with heap := h', toks := tk }
  st₀ : StAt w O s₀.heap C S
  row₀ : RowAt s₀.heap R xs
  chg : Chg O C s₀.heap s.heap
  T : TopH w s.heap
  ns : s.heap.Ns C m
  mi : m "iterable" = some (.ref R)
  my : m "key" = some kv
  ms : m "seen" = some (.ref Sa)
  ma : m "seen_add" = some (.ref BM)
  bm : s.heap.get? BM = some (bmSet "set.add" Sa)
  set : ∃ k, s.heap.SetOf (strKind pw w) Sa S k ∧ k + n ≤ 100
  fuel : cnt f S ≤ n
  low : O R
  lk : (∀ a o, (K01 w).lookup a = some o → O a) ∧ O builtinsNs ∧ O mainGlobals ∧ O cStatics
  nC : ¬ O C
  aS : ¬ O Sa ∧ Sa ≠ C
  aB : ¬ O BM ∧ BM ≠ C

/-- the K facts outlive a change of the generator's own objects -/
theorem top_chg {w : World} {O : Addr → Prop} {h h' : Heap} (T : TopH w h) (k : ∀ b o, h.get? b = some o → O b → h'.get? b = some o) (hC : ∀ a o, (K01 w).lookup a = some o → O a) (h0 : O builtinsNs ∧ O mainGlobals ∧ O cStatics) : TopH w h' := by
  refine ⟨fun a o e => k a o (T.K a o e) (hC _ _ e), ?_, ?_, ?_⟩
  · obtain ⟨mg, o, es, ep, e, r⟩ := T.g
    exact ⟨mg, o, es, ep, k _ _ e h0.2.1, r⟩
  · obtain ⟨mb, ⟨o, es, ep, e, r⟩, z⟩ := T.b
    exact ⟨mb, ⟨o, es, ep, k _ _ e h0.1, r⟩, z⟩
  · obtain ⟨mc, ⟨o, es, ep, e, r⟩, z⟩ := T.nl
    exact ⟨mc, ⟨o, es, ep, k _ _ e h0.2.2, r⟩, z⟩
section
variable {w : World} {f : Str → Str} {O : Addr → Prop} {C R : Addr} {kv : Value} {n : Nat} {S : Str → Bool} {xs : List Str} {Sa BM : Addr} {s₀ s : Shared} {m : Str → Option Value}
theorem GSt.row (G : GSt w f O C R kv n S xs Sa BM s₀ s m) : RowAt s.heap R xs := G.row₀.keep fun o e => G.chg.low G.nC G.low e
theorem GSt.objS (G : GSt w f O C R kv n S xs Sa BM s₀ s m) : ∃ o es ep t, s.heap.get? Sa = some o ∧ o.data = .set es ep t := by
  obtain ⟨k, ⟨o, es, ep, t, e, _, hd, _⟩, _⟩ := G.set
  exact ⟨o, es, ep, t, e, hd⟩
theorem GSt.ext {s' : Shared} {m' : Str → Option Value} (G : GSt w f O C R kv n S xs Sa BM s₀ s m) (sh : ∃ h' tk, s' = { s with heap := h', toks := tk }) (chg : Chg O C s.heap s'.heap) (ns : s'.heap.Ns C m')
    (hm : ∀ y : Str, y = "iterable" ∨ y = "key" ∨ y = "seen" ∨ y = "seen_add" → m' y = m y) (hS : ∀ o, s.heap.get? Sa = some o → s'.heap.get? Sa = some o) : GSt w f O C R kv n S xs Sa BM s₀ s' m' := by
  obtain ⟨h1, t1, e1⟩ := G.sh
  refine ⟨?_, G.st₀, G.row₀, G.chg.trans chg, top_chg G.T (fun b o e hb => chg.low G.nC hb e) G.lk.1 G.lk.2, ns, (hm _ (.inl rfl)).trans G.mi, (hm _ (.inr (.inl rfl))).trans G.my, (hm _ (.inr (.inr (.inl rfl)))).trans G.ms, (hm _ (.inr (.inr (.inr rfl)))).trans G.ma,
    chg _ _ G.bm G.aB.2 (.inr ⟨fun _ _ _ z => by (cases z), (show Value.type "builtin_function_or_method" ≠ Value.type "list_iterator" by decide)⟩), ?_, G.fuel, G.low, G.lk, G.nC, G.aS, G.aB⟩
  · obtain ⟨h2, t2, rfl⟩ := sh
    rw [e1]; exact ⟨h2, t2, rfl⟩
  · obtain ⟨k, ⟨o, es, ep, t, e, r⟩, hk⟩ := G.set
    exact ⟨k, ⟨o, es, ep, t, hS _ e, r⟩, hk⟩
theorem GSt.kp {s' : Shared} (G : GSt w f O C R kv n S xs Sa BM s₀ s m) (k : Kp s s') : GSt w f O C R kv n S xs Sa BM s₀ s' m :=
  G.ext k.eq (Chg.of_le k.le) (G.ns.keeps k.le) (fun _ _ => rfl) fun o e => k.le _ _ e
end
end Mine
end

section
open PySem PySem.W PyProof.Rows PySem.Calls
set_option maxRecDepth 100000
set_option linter.all false
set_option maxHeartbeats 4000000
namespace Mine
open PySem (eval)

section
variable {w : World} {M : Model} {A : Around} {E : Value → Shared → Prop} {f : Str → Str} {O : Addr → Prop} {C R : Addr} {kv : Value} {n : Nat} {S : Str → Bool} {xs : List Str} {Sa BM : Addr} {s₀ s : Shared} {m : Str → Option Value}
theorem GSt.loc (G : GSt w f O C R kv n S xs Sa BM s₀ s m) {x : Str} {v : Value} (hx : (envUe C).kindOf x = some .local) (hv : m x = some v) : Var (envUe C) s.heap x v := Var.loc rfl hx G.ns hv
theorem GSt.store {x : Str} {v : Value} {Q : Unit → Shared → Prop} (G : GSt w f O C R kv n S xs Sa BM s₀ s m) (hx : (envUe C).kindOf x = some .local) (hn : x ≠ "iterable" ∧ x ≠ "key" ∧ x ≠ "seen" ∧ x ≠ "seen_add")
    (hQ : ∀ s', GSt w f O C R kv n S xs Sa BM s₀ s' (fun y => if y = x then some v else m y) → Heap.ExtBut C s.heap s'.heap → (∃ h' tk, s' = { s with heap := h', toks := tk }) → Q () s') : wpAny M A (storeName (envUe C) x v) Q E s := by
  refine wpAny_storeName_local hx G.ns fun h' hn' hs => hQ _ (G.ext ⟨_, _, rfl⟩ (Chg.of_self hs.extBut) hn' (fun y hy => ?_) fun o e => (hs.2 _ G.aS.2).trans e) hs.extBut ⟨_, _, rfl⟩
  refine if_neg ?_
  rcases hy with rfl | rfl | rfl | rfl
  · exact Ne.symm hn.1
  · exact Ne.symm hn.2.1
  · exact Ne.symm hn.2.2.1
  · exact Ne.symm hn.2.2.2

variable {outer : List Env} {c : Code} {fs : List Frame} {K : Flow → Sem Fin} {H : Value → Sem Fin} {gd : Bool → Bool} {lv : List Value → List Value}
/-- the new name is kept, then told -/
theorem seg_addYield {y x : Str} {t1 t2 : Tok} {p1 p2 p3 p4 p5 p6 p7 : Pos} (G : GSt w f O C R kv (n + 1) S xs Sa BM s₀ s m) (hy : (envUe C).kindOf y = some .local) (hyd : (y == ("__debug__" : Str)) = false) (hmy : m y = some (.str (f x) t1)) (hme : m "element" = some (.str x t2))
    (hx : x ∈ names8) (hf : fresh? f S xs = some x) (hfs : splitAtGen fs = none) (hgd : gd false = false) (hfg : fs.any Frame.guarded = false)
    (cont : ∀ s'' ys, GSt w f O C R kv n (addS S (f x)) (xs ++ ys) Sa BM s'' s'' m → (∀ b o, ¬ O b → b ≠ Sa → s.heap.get? b = some o → s''.heap.get? b = some o) → OuterOk s''.heap outer → Seg (model pw w) A (GR w f O C R outer) (GY w f O C R outer) n s'' c (K .next) fs s'')
    (hsw : swapsWith (.Call (.Name "seen_add" p1) [.Name y p2] [] p3) none p4.line (envUe C) = pure false) :
    Seg (model pw w) A (GR w f O C R outer) (GY w f O C R outer) (n + 1) s₀ c ((execs [.Expr (.Call (.Name "seen_add" p1) [.Name y p2] [] p3) p4, .Expr (.Yield (some (.Name "element" p5)) p6) p7] (envUe C)).wrap K H gd lv) fs s := by
  have hS : S (f x) = false := by simpa using List.find?_some hf
  obtain ⟨k, hset, hk⟩ := G.set
  refine seg_stmt (wpAny_Expr (wpAny_Call_NameR (wpAny_Name (G.loc (by rfl) G.ma _ _ _ _ s (fun _ _ e => e) ?_) (by decide))) (by rfl) hsw)
  refine callWith_of (P := fun h => h.get? BM = some (bmSet "set.add" Sa)) (by rfl) (fun h e => ⟨.machine, .inr (.inl rfl), (Looks.ld e).andThen .now⟩) (Calls.evalArgs_plain (Calls.spliced_cons ?_))
  refine wpAny_Name (G.loc hy hmy _ _ _ _ s (fun _ _ e => e) ?_) hyd
  refine Calls.spliced_nil ⟨G.bm, ?_⟩
  refine wpAny_call (call_bmAdd (knd := strKind pw w) G.bm (strKind_is pw w _ _) (by rfl) hset (Nat.lt_of_le_of_lt (by omega) (show (101 : Nat) < scanBound by decide)) fun h' hsb hset' => ?_)
  obtain ⟨o, es, ep, t, e, hd⟩ := G.objS
  have hch : Chg O C s.heap h' := Chg.of_set hsb.extBut G.aS.1 e hd
  refine ⟨rfl, ?_⟩
  refine seg_execs_cons (seg_Expr_Yield hfs hgd hfg ?_)
  have hns : h'.Ns C m := G.ns.sameBut hsb (Ne.symm G.aS.2)
  refine wpAny_Name (wpAny_loadName_local rfl (by rfl) hns hme ?_) (by decide)
  intro kap hkap
  have T' : TopH w h' := top_chg G.T (fun b o e hb => hch.low G.nC hb e) G.lk.1 G.lk.2
  have hset2 : h'.SetOf (strKind pw w) Sa (addS S (f x)) (k + 1) := by rw [hS] at hset'; exact hset'
  obtain ⟨h1, tk1, e1⟩ := G.sh
  refine ⟨S, xs, x, t2, G.st₀, G.row₀, hf, rfl, ⟨m, hns, .inr ⟨Sa, _, G.ms, G.aS.1, hset2⟩⟩, G.chg.trans hch, ⟨h', s.toks + 1, by rw [e1]⟩, fun s'' ys kf T'' hO'' row => ?_⟩
  refine hkap .none s'' (cont s'' ys ?_ (fun b o hb hne e => kf.1 b o hb ((hsb.2 b hne).trans e)) hO'')
  have kS : ∀ o, h'.get? Sa = some o → s''.heap.get? Sa = some o := fun o e => kf.1 _ _ G.aS.1 e
  have hns'' : s''.heap.Ns C m := hns.at' fun o e => kf.1 _ _ G.nC e
  obtain ⟨o2, es2, ep2, t2', e2, r2⟩ := hset2
  have set'' : s''.heap.SetOf (strKind pw w) Sa (addS S (f x)) (k + 1) := ⟨o2, es2, ep2, t2', kS _ e2, r2⟩
  exact ⟨⟨_, _, rfl⟩, ⟨m, hns'', .inr ⟨Sa, _, G.ms, G.aS.1, set''⟩⟩, row, Chg.refl _ _ _, T'', hns'', G.mi, G.my, G.ms, G.ma, kf.1 _ _ G.aB.1 (hch _ _ G.bm G.aB.2 (.inr ⟨fun _ _ _ z => by (cases z), (show Value.type "builtin_function_or_method" ≠ Value.type "list_iterator" by decide)⟩)),
    ⟨k + 1, set'', by omega⟩, by have := cnt_add hx hS; have := G.fuel; omega, G.low, G.lk, G.nC, G.aS, G.aB⟩
end
end Mine
end

section
open PySem PySem.W PyProof.Rows PySem.Calls
set_option maxRecDepth 100000
set_option linter.all false
set_option maxHeartbeats 4000000
namespace Mine
open PySem (eval)

theorem overOk {A : Around} {env env' : Env} {t : Expr} {it : Value} {b body : List Stmt} {K : Flow → Sem Fin} {H : Value → Sem Fin} {p : Pos} (ok : OkA 110 A) : OkA 105 (A.over (.forLoop t it b [] env') [loopRet env K H id id (.func body env) p]) :=
  ⟨ok.hd, by have h1 : (A.over (.forLoop t it b [] env') [loopRet env K H id id (.func body env) p]).depth = A.depth + 1 + 0 := rfl
             have := ok.dp; omega,
   by have h1 : (A.over (.forLoop t it b [] env') [loopRet env K H id id (.func body env) p]).units = A.units + 3 + 0 := rfl
      have := ok.un; omega⟩

theorem overOk2 {A : Around} {env env' : Env} {t : Expr} {it : Value} {b body : List Stmt} {K : Flow → Sem Fin} {H : Value → Sem Fin} {p : Pos} (ok : OkA 112 A) : OkA 107 (A.over (.forLoop t it b [] env') [loopRet env K H id id (.func body env) p]) :=
  ⟨ok.hd, by have h1 : (A.over (.forLoop t it b [] env') [loopRet env K H id id (.func body env) p]).depth = A.depth + 1 + 0 := rfl
             have := ok.dp; omega,
   by have h1 : (A.over (.forLoop t it b [] env') [loopRet env K H id id (.func body env) p]).units = A.units + 3 + 0 := rfl
      have := ok.un; omega⟩

theorem row_item {h : Heap} {R : Addr} {xs : List Str} {i : Nat} {x : Str} (r : RowAt h R xs) (e : xs[i]? = some x) : ∃ vs t, h.IsList R vs ∧ vs[i]? = some (.str x t) := by
  obtain ⟨vs, hl, rd⟩ := r.lst
  have e2 : (xs.map D.str)[i]? = some (.str x) := by rw [List.getElem?_map, e]; rfl
  obtain ⟨v, hv, rv⟩ := rd.get e2
  (first | cases rv using RD.atomE | cases rv using RDs.nilE | cases rv using RD.strE | cases rv using RD.intE | cases rv using RD.boolE | cases rv using RD.noneE | cases rv)
  rename_i t
  obtain ⟨n, e3⟩ := hl
  exact ⟨vs, t, ⟨_, e3, rfl, n, rfl⟩, by rw [← Array.getElem?_toList]; exact hv⟩
theorem row_end {h : Heap} {R : Addr} {xs : List Str} {i : Nat} (r : RowAt h R xs) (e : xs[i]? = none) : ∃ vs, h.IsList R vs ∧ vs[i]? = none := by
  obtain ⟨vs, hl, rd⟩ := r.lst
  obtain ⟨n, e3⟩ := hl
  refine ⟨vs, ⟨_, e3, rfl, n, rfl⟩, ?_⟩
  have := rd.length
  rw [List.length_map, Array.length_toList] at this
  rw [Array.getElem?_eq_none]
  rw [this]; exact List.getElem?_eq_none_iff.mp e
theorem fresh_at {f : Str → Str} {S : Str → Bool} {x : Str} : ∀ {xs : List Str} {i : Nat}, xs[i]? = some x → (∀ j y, j < i → xs[j]? = some y → S (f y) = true) → S (f x) = false → fresh? f S xs = some x
  | [], i, e, _, _ => by simp at e
  | y :: r, 0, e, _, hS => by
    simp at e; subst e
    simp [fresh?, hS]
  | y :: r, i + 1, e, h, hS => by
    have h0 := h 0 y (Nat.succ_pos _) rfl
    have := fresh_at (xs := r) (i := i) (by simpa using e) (fun j z hj hz => h (j + 1) z (Nat.succ_lt_succ hj) (by simpa using hz)) hS
    simp only [fresh?, List.find?_cons, h0, Bool.not_true]
    exact this
theorem fresh_none {f : Str → Str} {S : Str → Bool} {xs : List Str} {i : Nat} (e : xs[i]? = none) (h : ∀ j y, j < i → xs[j]? = some y → S (f y) = true) : fresh? f S xs = none := by
  rw [List.find?_eq_none]
  intro y hy
  obtain ⟨j, hj, e2⟩ := List.mem_iff_getElem.mp hy
  have := h j y (Nat.lt_of_lt_of_le hj (List.getElem?_eq_none_iff.mp e)) (by rw [List.getElem?_eq_getElem hj, e2])
  simp [this]

section
variable {w : World} {A : Around} {f : Str → Str} {O : Addr → Prop} {C R ka : Addr} {outer : List Env} {Sa BM I : Addr} {body : List Stmt} {K1 : Flow → Sem Fin} {H1 : Value → Sem Fin} {p0 pe : Pos}
/-- the loop of the generator that has a key -/
theorem seg_key (ok : OkA 110 A) (fo : ∀ h, TopH w h → FoldOk w h ka f) (hK1 : K1 .next = .pure (.done (.ret .none))) (hF : ∀ b ∈ framesOf outer, O b) (hI : ¬ O I) (hIC : I ≠ C) (hIS : I ≠ Sa) : ∀ (n k i : Nat) (S : Str → Bool) (xs : List Str) (s₀ s : Shared) (m : Str → Option Value),
    xs.length - i ≤ k → GSt w f O C R (.ref ka) n S xs Sa BM s₀ s m → s.heap.IsListIter I R i → (∀ j y, j < i → xs[j]? = some y → S (f y) = true) →
    Seg (model pw w) A (GR w f O C R outer) (GY w f O C R outer) n s₀ (.forLoop (.Name "element" pe) (.ref I) ueKey [] (envUe C)) ((model pw w).den (.forLoop (.Name "element" pe) (.ref I) ueKey [] (envUe C))) [loopRet (envUe C) K1 H1 id id (.func body (envUe C)) p0] s := by
  intro n
  induction n using Nat.strongRecOn with
  | ind n ihn =>
  intro k
  induction k using Nat.strongRecOn with
  | ind k ihk =>
  intro i S xs s₀ s m hk G hit hseen
  have okA := overOk (env := envUe C) (env' := envUe C) (t := .Name "element" pe) (it := .ref I) (b := ueKey) (body := body) (K := K1) (H := H1) (p := p0) ok
  obtain ⟨oI, eI, cI, dI⟩ := id hit
  refine seg_forLoop ?_
  cases hx : xs[i]? with
  | none =>
    obtain ⟨vs, hl, hv⟩ := row_end G.row hx
    refine wpAny_pyNext_list_end okA.hd hit hl hv fun h' hxt => ?_
    intro c'
    refine seg_loopEnd ?_
    rw [hK1]
    refine seg_end (.ok (.ret .none)) ⟨rfl, S, xs, G.st₀, G.row₀, fresh_none hx hseen, ChgF.of (G.chg.trans (Chg.of_iter hxt hI eI cI)) hF, ?_⟩
    obtain ⟨h1, t1, e1⟩ := G.sh
    exact ⟨h', s.toks, by rw [e1]⟩
  | some x =>
    obtain ⟨vs, t, hl, hv⟩ := row_item G.row hx
    have hxn : x ∈ names8 := G.row.good x (List.mem_of_getElem? hx)
    refine wpAny_pyNext_list_item hit hl hv fun h' hit' hsb => ?_
    have G1 : GSt w f O C R (.ref ka) n S xs Sa BM s₀ { s with heap := h' } m := G.ext ⟨h', s.toks, rfl⟩ (Chg.of_iter hsb.extBut hI eI cI) (G.ns.sameBut hsb (Ne.symm hIC)) (fun _ _ => rfl) fun o e => (hsb.2 _ (Ne.symm hIS)).trans e
    refine G1.store (by rfl) (by decide) fun s2 G2 x2 sh2 => ?_
    have hit2 : s2.heap.IsListIter I R (i + 1) := hit'.at fun o e => x2 _ _ hIC e
    have F2 := fo s2.heap G2.T
    have vk : Var (envUe C) s2.heap "key" (.ref ka) := G2.loc (by rfl) G2.my
    have ve : Var (envUe C) s2.heap "element" (.str x t) := G2.loc (by rfl) (upd_eq (m := m))
    have evk : EvD pw w _ (envUe C) s2.heap (fun _ => False) (.Call (.Name "key" ⟨36, 16, 36, 19⟩) [.Name "element" ⟨36, 20, 36, 27⟩] [] ⟨36, 16, 36, 28⟩) (.str (f x)) :=
      EvD.call vk F2.isFn (.cons (EvD.name ve (.str x t)) .nil rfl) (by simp) (F2.spec x hxn) (okA.weak (by decide))
    refine seg_stmt (wpAny_Assign_Name (wpAny_mono (evk s2 _ fun _ _ e => e) (fun v s3 h3 => ?_) fun _ _ q => q) (by rfl))
    obtain ⟨r3, k3⟩ := h3
    (first | cases r3 using RD.atomE | cases r3 using RDs.nilE | cases r3 using RD.strE | cases r3 using RD.intE | cases r3 using RD.boolE | cases r3 using RD.noneE | cases r3)
    rename_i t3
    refine (G2.kp k3).store (by rfl) (by decide) fun s4 G4 x4 sh4 => ⟨rfl, ?_⟩
    have hit4 : s4.heap.IsListIter I R (i + 1) := hit2.at fun o e => x4 _ _ hIC (k3.le _ _ e)
    have hil : i < xs.length := (List.getElem?_eq_some_iff.mp hx).1
    obtain ⟨kk, hset, _⟩ := G4.set
    refine seg_execs_cons (seg_If (b := !S (f x)) ?_)
    refine wpAny_isTrue_Compare1 (wpAny_Name (G4.loc (by rfl) (upd_eq (m := fun y => if y = ("element" : Str) then _ else m y)) _ _ _ _ s4 (fun _ _ e => e) (wpAny_Name (G4.loc (by rfl) G4.ms _ _ _ _ s4 (fun _ _ e => e) ?_) (by decide))) (by decide)) (by with_unfolding_all rfl)
    refine wpAny_notInSet_of (knd := strKind pw w) (strKind_is pw w _ _) (by rfl) hset (wpAny_truthy_bool ⟨rfl, ?_⟩)
    have k5 : Kp s4 { s4 with toks := s4.toks + 1 } := Kp.tk _ _
    have G5 := G4.kp k5
    cases hSx : S (f x) with
    | true =>
      show Seg _ _ _ _ _ _ _ (.pure (.again (.forLoop (.Name "element" pe) (.ref I) ueKey [] (envUe C)))) _ _
      refine seg_again rfl (ihk (xs.length - (i + 1)) (by omega) (i + 1) S xs s₀ _ _ (Nat.le_refl _) G5 hit4 fun j y hj hy => ?_)
      rcases Nat.lt_succ_iff_lt_or_eq.mp hj with hj | rfl
      · exact hseen j y hj hy
      · rw [hx] at hy; cases hy; exact hSx
    | false =>
      have hfr := fresh_at hx hseen hSx
      cases n with
      | zero => exact absurd (cnt_add hxn hSx) (by have := G.fuel; omega)
      | succ n =>
      refine seg_addYield (x := x) (y := "k") G5 (by rfl) (by decide) (upd_eq (m := fun y => if y = ("element" : Str) then _ else m y)) (by rfl) hxn hfr rfl rfl rfl (fun s'' ys G6 kf _ => ?_) (by rfl)
      show Seg _ _ _ _ _ _ _ (.pure (.again (.forLoop (.Name "element" pe) (.ref I) ueKey [] (envUe C)))) _ _
      refine seg_again rfl (ihn n (Nat.lt_succ_self _) ((xs ++ ys).length - (i + 1)) (i + 1) _ (xs ++ ys) s'' _ _ (Nat.le_refl _) G6 (hit4.at fun o e => kf _ _ hI hIS e) fun j y hj hy => ?_)
      have hjl : j < xs.length := by omega
      rw [List.getElem?_append_left hjl] at hy
      rcases Nat.lt_succ_iff_lt_or_eq.mp hj with hj | rfl
      · show (S (f y) || decide (f y = f x)) = true
        rw [hseen j y hj hy]; rfl
      · rw [hx] at hy; cases hy
        show (S (f x) || decide (f x = f x)) = true
        simp
end
end Mine
end

section
open PySem PySem.W PyProof.Rows PySem.Calls
set_option maxRecDepth 100000
set_option linter.all false
set_option maxHeartbeats 8000000
namespace Mine
open PySem (eval)

noncomputable abbrev itO (R : Addr) (i : Nat) : Obj := { cls := .type "list_iterator", dict := none, data := .fields #[.ref R, .int i 0], slots := #[] }
noncomputable abbrev ffO (I B d : Addr) : Obj := { cls := .ref 72, dict := some d, data := .plain, slots := #[some (.ref B), some (.ref I)] }
noncomputable def PostFF (s : Shared) (R B : Addr) (v : Value) (s' : Shared) : Prop := ∃ F I d, v = .ref F ∧ s'.heap.get? F = some (ffO I B d) ∧ s'.heap.get? d = some emptyD ∧ s'.heap.get? I = some (itO R 0) ∧ s.heap.get? F = none ∧ s.heap.get? I = none ∧ s.heap.get? d = none ∧ Kp s s'

noncomputable abbrev fdFi : FuncData := fdM (mst 3 1) "__init__" "filterfalse.__init__" "itertools" 286 .none none 53 [] .none
theorem K_fi (w : World) : (K01 w).lookup 54 = some ⟨.type "function", none, .func fdFi, #[]⟩ := by kernel_rfl
noncomputable abbrev envFi (N : Nat) : Env := callEnvC fdFi N 54
noncomputable def fi (i : Nat) : Stmt := (fbody (mst 3 1)).getD i (.Pass default)
theorem fi_body : fbody (mst 3 1) = [fi 0, fi 1] := by rfl
theorem makes72 (w : World) : makesIn (K01 w) 72 = true := by kernel_rfl
theorem init72 (w : World) : findIn (K01 w) (.ref 72) "__init__" = some (some (.ref 54)) := by kernel_rfl
theorem fn54 (w : World) : typeIn (K01 w) (.ref 54) = some (.type "function") := by kernel_rfl
theorem sa72 (w : World) : findIn (K01 w) (.ref 72) "__setattr__" = some (some (.builtin "object.__setattr__")) := by kernel_rfl
theorem po72 (w : World) : plainOver (K01 w) 72 = true := by kernel_rfl
theorem tk73 (w : World) : takerIn (K01 w) 72 "_func" = some (some (.ref 73)) := by kernel_rfl
theorem tk74 (w : World) : takerIn (K01 w) 72 "_it" = some (some (.ref 74)) := by kernel_rfl
theorem ty73 (w : World) : typeIn (K01 w) (.ref 73) = some (.type "member_descriptor") := by kernel_rfl
theorem ty74 (w : World) : typeIn (K01 w) (.ref 74) = some (.type "member_descriptor") := by kernel_rfl
theorem sl73 (w : World) : slotIn (K01 w) 73 72 = some 0 := by kernel_rfl
theorem sl74 (w : World) : slotIn (K01 w) 74 72 = some 1 := by kernel_rfl

section
variable {w : World} {A : Around} {s : Shared} {E : Value → Shared → Prop}
/-- one of the two slots is set -/
theorem ff_set {h₀ : Heap} {L x dx p i : Nat} {m : Str → Option Value} {name : Str} {v : Value} {sl sl' : Array (Option Value)} {pre post : List (Addr × Obj)} {Q : Unit → Shared → Prop} (F : Fr h₀ L s.heap m) (X : (K01 w).In s.heap)
    (N : News h₀ L s.heap (pre ++ (x, ⟨.ref 72, some dx, .plain, sl⟩) :: post)) (hd : s.heap.get? dx = some emptyD) (ht : takerIn (K01 w) 72 name = some (some (.ref p))) (hT : typeIn (K01 w) (.ref p) = some (.type "member_descriptor")) (hi : slotIn (K01 w) p 72 = some i) (hz : i < 1000)
    (e : (sl ++ Array.replicate (i + 1 - sl.size) none).setIfInBounds i (some v) = sl') (a : ∀ p ∈ pre, p.1 ≠ x) (b : ∀ p ∈ post, p.1 ≠ x)
    (h : ∀ h', Fr h₀ L h' m → News h₀ L h' (pre ++ (x, ⟨.ref 72, some dx, .plain, sl'⟩) :: post) → Q () { s with heap := h', toks := s.toks + 1 }) : wpAny (model pw w) A (setAttr (.ref x) name v) Q E s := by
  have hx : s.heap.get? x = some ⟨.ref 72, some dx, .plain, sl⟩ := (N (x, ⟨.ref 72, some dx, .plain, sl⟩) (by simp)).1
  have I : InstAt s.heap x ⟨.ref 72, some dx, .plain, sl⟩ 72 (some emptyD) := ⟨hx, rfl, rfl, hd⟩
  exact set_plain X I (sa72 w) (osa_descr (s := { s with toks := s.toks + 1 }) KF.slot_mset X I (po72 w) ht hT (slot_set (s := { s with toks := s.toks + 1 }) F N X I hi hz a b (by rw [e]) rfl fun h' F' N' => h h' F' N'))

theorem mk_ff (T : TopH w s.heap) (ok : OkA 104 A) (R B : Addr) (vs : Array Value) (n : Nat) (h1 : s.heap.get? R = some ⟨.type "list", none, .seq vs n, #[]⟩) :
    wpAny (model pw w) A (PySem.call (.ref 72) [.ref B, .ref R]) (PostFF s R B) E s := by
  obtain ⟨h0, g, dr, t, os⟩ := s
  refine wpAny_call (make_core (makes_of T.K (makes72 w)) (looks_findIn T.K (init72 w)) (fun self => bind_fn T.K self (fn54 w)) (.inl rfl) ?_)
  generalize hs2 : (⟨(h0.push emptyDict).push (instObj 72 h0.objs.size), g, dr, t, os⟩ : Shared) = s2
  have le2 : Le h0 s2.heap := fun b o e => by rw [← hs2]; exact Heap.get?_push_of_some _ (Heap.get?_push_of_some _ e)
  have sz2 : s2.heap.objs.size = h0.objs.size + 2 := by rw [← hs2]; show ((h0.push emptyDict).push _).objs.size = _; rw [Heap.size_push, Heap.size_push]
  have ex2 : s2.heap.get? (h0.objs.size + 1) = some ⟨.ref 72, some h0.objs.size, .plain, #[]⟩ := by rw [← hs2, ← Heap.size_push h0 emptyDict]; exact Heap.get?_push_size _ rfl
  have ed2 : s2.heap.get? h0.objs.size = some emptyD := by rw [← hs2]; exact Heap.get?_push_of_some _ (Heap.get?_push_size _ rfl)
  have T2 := T.mono le2
  have okU : OkA 103 (A.under (.builtin "type.__call__" ⟨.ref 72 :: [.ref B, .ref R], []⟩)) := ⟨ok.hd, by have := ok.dp; show A.depth + 1 + 103 < recursionLimit; omega, by have := ok.un; show A.units + 1 + 10 * 103 + 300 < cLine; omega⟩
  refine call_fnL (binds := [("self", .ref (h0.objs.size + 1)), ("function", .ref B), ("iterable", .ref R)]) _ okU.room T2 (K_fi w) 53 rfl (by kernel_rfl) rfl (Looks.of_peek T2.K (by kernel_rfl)) rfl (fun y hy => ?_) fun s₁ X k => ?_
  · rcases List.mem_cons.mp hy with rfl | hy
    · exact .inl (by rfl)
    rcases List.mem_cons.mp hy with rfl | hy
    · exact .inl (by rfl)
    rcases List.mem_singleton.mp hy with rfl
    exact .inl (by rfl)
  have F := Frm.ofCall X
  have lx : (envFi s2.heap.objs.size).locals = s2.heap.objs.size := rfl
  have Fr0 : Fr h0 s2.heap.objs.size s₁.heap _ := ⟨F.ns, fun b o e => F.keep b o (le2 b o e), by omega⟩
  have T1 := T2.mono F.keep
  show wpAny _ _ (execs (fbody (mst 3 1)) _) _ _ _
  rw [fi_body]
  refine wpAny_execs_cons (plainObj_wpAny_Assign_Attribute ?_)
  refine wpAny_Call_NameR (wpAny_Name (Var.bi T1 rfl (by rfl) rfl rfl (by kernel_rfl) (v := .builtin "iter") (by decide) (by rfl) _ _ _ _ s₁ (fun _ _ e => e) ?_) (by decide))
  refine Calls.callWith_builtin (by rfl) (Calls.evalArgs_plain (Calls.spliced_cons (wpAny_Name (F.loc rfl rfl (v := .ref R) rfl _ _ _ _ s₁ (fun _ _ e => e) ?_) (by decide))))
  have eR : s₁.heap.get? R = some ⟨.type "list", none, .seq vs n, #[]⟩ := F.keep _ _ (le2 _ _ h1)
  refine Calls.spliced_nil (call_iterB (wpAny_pyIter_list ⟨_, eR, rfl, n, rfl⟩ ?_))
  generalize hs3 : ({ s₁ with heap := s₁.heap.push { cls := .type "list_iterator", data := .fields #[.ref R, .int 0 0] } } : Shared) = s3
  have k13 : Kp s₁ s3 := by rw [← hs3]; exact Kp.of' fun b o e => Heap.get?_push_of_some _ e
  have F3 := F.kp k13
  have T3 := T2.mono F3.keep
  refine wpAny_Name (F3.loc rfl rfl (v := .ref (h0.objs.size + 1)) rfl _ _ _ _ s3 (fun _ _ e => e) ?_) (by decide)
  have eI3 : s3.heap.get? s₁.heap.objs.size = some (itO R 0) := by rw [← hs3]; exact Heap.get?_push_size _ rfl
  have lt1 : s2.heap.objs.size < s₁.heap.objs.size := by
    obtain ⟨o, _, _, e, _⟩ := F.ns
    exact Heap.lt_size e
  have Fr3 : Fr h0 s2.heap.objs.size s3.heap _ := ⟨F3.ns, fun b o e => F3.keep b o (le2 b o e), by omega⟩
  have nz : ∀ {i : Nat}, h0.objs.size ≤ i → h0.get? i = none := fun h => size_none h
  have N3 : News h0 s2.heap.objs.size s3.heap ([(s₁.heap.objs.size, itO R 0)] ++ (h0.objs.size + 1, ⟨.ref 72, some h0.objs.size, .plain, #[]⟩) :: [(h0.objs.size, emptyD)]) := fun p hp => by
    rcases List.mem_cons.mp hp with rfl | hp
    · exact ⟨eI3, Nat.ne_of_gt lt1, nz (by omega)⟩
    rcases List.mem_cons.mp hp with rfl | hp
    · exact ⟨F3.keep _ _ ex2, Nat.ne_of_lt (by omega), nz (by omega)⟩
    rcases List.mem_singleton.mp hp with rfl
    exact ⟨F3.keep _ _ ed2, Nat.ne_of_lt (by omega), nz (by omega)⟩
  have a1 : ∀ p ∈ [(s₁.heap.objs.size, itO R 0)], p.1 ≠ h0.objs.size + 1 := fun p hp => by rcases List.mem_singleton.mp hp with rfl; exact Nat.ne_of_gt (by omega)
  have b1 : ∀ p ∈ [(h0.objs.size, emptyD)], p.1 ≠ h0.objs.size + 1 := fun p hp => by rcases List.mem_singleton.mp hp with rfl; exact Nat.ne_of_lt (by omega)
  refine ff_set Fr3 T3.K N3 (N3 (h0.objs.size, emptyD) (by simp)).1 (tk74 w) (ty74 w) (sl74 w) (by decide) rfl a1 b1 fun h4 Fr4 N4 => ?_
  have T4 : TopH w h4 := T.mono Fr4.keep
  refine wpAny_execs_cons (plainObj_wpAny_Assign_Attribute ?_)
  refine wpAny_Name (Var.loc (h := h4) rfl rfl Fr4.ns (v := .ref B) rfl _ _ _ _ { s3 with heap := h4, toks := s3.toks + 1 } (fun _ _ e => e) ?_) (by decide)
  refine wpAny_Name (Var.loc (h := h4) rfl rfl Fr4.ns (v := .ref (h0.objs.size + 1)) rfl _ _ _ _ { s3 with heap := h4, toks := s3.toks + 1 } (fun _ _ e => e) ?_) (by decide)
  refine ff_set (s := { s3 with heap := h4, toks := s3.toks + 1 }) Fr4 T4.K N4 (N4 (h0.objs.size, emptyD) (by simp)).1 (tk73 w) (ty73 w) (sl73 w) (by decide) rfl a1 b1 fun h5 Fr5 N5 => ?_
  refine wpAny_execs_nil ⟨rfl, ?_⟩
  obtain ⟨hh, tk, e3⟩ := F3.eq
  refine ⟨h0.objs.size + 1, s₁.heap.objs.size, h0.objs.size, rfl, (N5 _ (.tail _ (.head _))).1, (N5 _ (.tail _ (.tail _ (.head _)))).1, (N5 _ (.head _)).1, nz (by omega), nz (by omega), nz (by omega), Fr5.keep, h5, s3.toks + 1 + 1, ?_⟩
  rw [e3, ← hs2]
end
end Mine
end

section
open PySem PySem.W PyProof.Rows PySem.Calls
set_option maxRecDepth 100000
set_option linter.all false
set_option maxHeartbeats 4000000
namespace Mine
open PySem (eval)

theorem entry_nextB : entryFor table "next" = some Builtin.«next» := entryFor_of_tree (by kernel_rfl)
theorem args_nextB (a : Value) : argsOk "next" ⟨[a], []⟩ := by unfold argsOk; kernel_rfl

section
variable {prog : Program} {w : World} {A : Around} {s : Shared} {E : Value → Shared → Prop} {I R : Addr} {i : Nat} {items : Array Value} {x : Value}
theorem call_next_item {Q : Value → Shared → Prop} (hit : s.heap.IsListIter I R i) (hl : s.heap.IsList R items) (hx : items[i]? = some x)
    (hQ : ∀ h', h'.IsListIter I R (i + 1) → Heap.SameBut I s.heap h' → Q x { s with heap := h' }) : wpAny (model prog w) A (PySem.call (.builtin "next") [.ref I]) Q E s := by
  obtain ⟨o, ho, hc, hd⟩ := id hit
  obtain ⟨ol, hol, _, nl, hdl⟩ := hl
  refine call_function_entry (by decide +kernel) (by decide +kernel) entry_nextB (args_nextB _) ?_
  unfold Builtin.«next»
  refine wpAny_bind (m := someArgs "next" 1 2 _) (wpAny_of_eq (a := [Value.ref I]) (by first | rfl | kernel_rfl) ?_)
  dsimp only
  refine wpAny_bind (wpAny_specialOf (name := Str.ofString "__next__") hit.typeIs slot_listiter_next.lookup ?_)
  refine wpAny_ite_split (fun hab => absurd hab (by decide)) (fun _ => ?_)
  refine wpAny_bind (wpAny_callSpecial?_slot (name := Str.ofString "__next__") hit.typeIs slot_listiter_next
    (wpAny_call_entry slot_listiter_next hit.typeIs entry_listiter_next ?_ (args_listiter_next _)))
  show wpAny _ _ (field (.ref I) 0 >>= _) _ _ s
  refine wpAny_bind (wpAny_field ho hd (x := .ref R) rfl ?_)
  show wpAny _ _ (if (Value.ref R == Value.none) = true then _ else _) _ _ s
  rw [if_neg (show ¬ ((Value.ref R == Value.none) = true) from Bool.false_ne_true)]
  show wpAny _ _ (field (.ref I) 1 >>= _) _ _ s
  refine wpAny_bind (wpAny_field ho hd (x := .int i 0) rfl ?_)
  show wpAny _ _ (seqItems? (.ref R) >>= _) _ _ s
  refine wpAny_bind (wpAny_seqItems hol hdl ?_)
  simp only [Int.toNat_natCast, hx]
  refine wpAny_bind (wpAny_setField ho hd (by simp) (wpAny_pure ⟨x, rfl, wpAny_pure ⟨_, rfl, hQ _ ?_ (Heap.SameBut.update ..)⟩⟩))
  exact ⟨_, Heap.get?_update_self _ ho (Obj.isFreed_of_fields (Obj.data_mapFields hd _)), (Obj.cls_mapFields ..).trans hc, by
    rw [Obj.data_mapFields hd]; simp [rawInt]⟩
theorem call_next_end {Q : Value → Shared → Prop} (hh : A.handled = none) (hit : s.heap.IsListIter I R i) (hl : s.heap.IsList R items) (hx : items[i]? = none)
    (hE : ∀ h' e t oe vs, Heap.ExtBut I s.heap h' → s.heap.get? e = none → s.heap.get? t = none → h'.get? e = some oe → oe.cls = .type "StopIteration" → oe.data = .fields vs → vs[0]? = some (.ref t) → vs[1]? = some .none → E (.ref e) { s with heap := h' }) :
    wpAny (model prog w) A (PySem.call (.builtin "next") [.ref I]) Q E s := by
  obtain ⟨o, ho, hc, hd⟩ := id hit
  obtain ⟨ol, hol, _, nl, hdl⟩ := hl
  refine call_function_entry (by decide +kernel) (by decide +kernel) entry_nextB (args_nextB _) ?_
  unfold Builtin.«next»
  refine wpAny_bind (m := someArgs "next" 1 2 _) (wpAny_of_eq (a := [Value.ref I]) (by first | rfl | kernel_rfl) ?_)
  dsimp only
  refine wpAny_bind (wpAny_specialOf (name := Str.ofString "__next__") hit.typeIs slot_listiter_next.lookup ?_)
  refine wpAny_ite_split (fun hab => absurd hab (by decide)) (fun _ => ?_)
  refine wpAny_bind (wpAny_callSpecial?_slot (name := Str.ofString "__next__") hit.typeIs slot_listiter_next
    (wpAny_call_entry slot_listiter_next hit.typeIs entry_listiter_next ?_ (args_listiter_next _)))
  show wpAny _ _ (field (.ref I) 0 >>= _) _ _ s
  refine wpAny_bind (wpAny_field ho hd (x := .ref R) rfl ?_)
  show wpAny _ _ (if (Value.ref R == Value.none) = true then _ else _) _ _ s
  rw [if_neg (show ¬ ((Value.ref R == Value.none) = true) from Bool.false_ne_true)]
  show wpAny _ _ (field (.ref I) 1 >>= _) _ _ s
  refine wpAny_bind (wpAny_field ho hd (x := .int i 0) rfl ?_)
  show wpAny _ _ (seqItems? (.ref R) >>= _) _ _ s
  refine wpAny_bind (wpAny_seqItems hol hdl ?_)
  simp only [Int.toNat_natCast, hx]
  refine wpAny_bind (wpAny_rule (wpAny_bind (wpAny_setField ho hd (by simp) ?_)))
  show wpAny _ _ (newExc (.type "StopIteration") [] >>= _) _ _ _
  refine wpAny_bind ?_
  simp only [newExc, newTuple]
  refine wpAny_bind (wpAny_newObj_type ?_ (by size_fits))
  refine wpAny_bind (m := firstArgMember _ _) (wpAny_of_eq (a := Value.none) (by first | rfl | (simp only [firstArgMember]; rfl)) ?_)
  refine wpAny_newObj_type ?_ (by size_fits)
  simp only [raiseNew]
  have hh2 : A.in1.in1.handled = none := hh
  refine wpAny_bind (wpAny_handled ?_)
  rw [hh2]
  refine wpAny_bind (wpAny_pure (wpAny_throw ?_))
  refine hE _ _ _ _ _ (((Heap.SameBut.update ..).extBut.push _).push _) ?_ ?_ (Heap.get?_push_size _ rfl) rfl rfl rfl rfl
  · refine size_none ?_
    simp only [Heap.size_push, Heap.size_after_update]
    omega
  · refine size_none ?_
    simp only [Heap.size_push, Heap.size_after_update]
    omega
end
end Mine
end

section
open PySem PySem.W PyProof.Rows PySem.Calls
set_option maxRecDepth 100000
set_option linter.all false
set_option maxHeartbeats 4000000
namespace Mine
open PySem (eval)

noncomputable abbrev fdNx : FuncData := fdM (mst 3 3) "__next__" "filterfalse.__next__" "itertools" 286 .none none 67 [] .none
theorem K_nx (w : World) : (K01 w).lookup 68 = some ⟨.type "function", none, .func fdNx, #[]⟩ := by kernel_rfl
noncomputable abbrev fdIt : FuncData := fdM (mst 3 2) "__iter__" "filterfalse.__iter__" "itertools" 286 .none none 60 [] .none
theorem K_it (w : World) : (K01 w).lookup 61 = some ⟨.type "function", none, .func fdIt, #[]⟩ := by kernel_rfl
noncomputable abbrev envNx (N : Nat) : Env := callEnvC fdNx N 68
noncomputable def nxBody : List Stmt := [.Assign [.Name "item" ⟨19, 12, 19, 16⟩] (.Call (.Name "next" ⟨19, 19, 19, 23⟩) [.Attribute (.Name "self" ⟨19, 24, 19, 28⟩) "_it" ⟨19, 24, 19, 32⟩] [] ⟨19, 19, 19, 33⟩) ⟨19, 12, 19, 33⟩,
  .If (.BoolOp .Or [.Compare (.Name "func" ⟨20, 15, 20, 19⟩) [.Is] [.Constant .none 0 ⟨20, 23, 20, 27⟩] ⟨20, 15, 20, 27⟩, .Compare (.Name "func" ⟨20, 31, 20, 35⟩) [.Is] [.Name "bool" ⟨20, 39, 20, 43⟩] ⟨20, 31, 20, 43⟩] ⟨20, 15, 20, 43⟩)
    [.If (.UnaryOp .Not (.Name "item" ⟨21, 23, 21, 27⟩) ⟨21, 19, 21, 27⟩) [.Return (some (.Name "item" ⟨22, 27, 22, 31⟩)) ⟨22, 20, 22, 31⟩] [] ⟨21, 16, 22, 31⟩]
    [.If (.UnaryOp .Not (.Call (.Name "func" ⟨23, 21, 23, 25⟩) [.Name "item" ⟨23, 26, 23, 30⟩] [] ⟨23, 21, 23, 31⟩) ⟨23, 17, 23, 31⟩) [.Return (some (.Name "item" ⟨24, 23, 24, 27⟩)) ⟨24, 16, 24, 27⟩] [] ⟨23, 12, 24, 27⟩] ⟨20, 12, 24, 27⟩]
theorem nx_body : fbody (mst 3 3) = [.Assign [.Name "func" ⟨17, 8, 17, 12⟩] (.Attribute (.Name "self" ⟨17, 15, 17, 19⟩) "_func" ⟨17, 15, 17, 25⟩) ⟨17, 8, 17, 25⟩,
  .While (.Constant (.bool true) 0 ⟨18, 14, 18, 18⟩) nxBody [] ⟨18, 8, 24, 27⟩] := by rfl

theorem F_func (w : World) : findObj (K01 w) 72 (some emptyD) "_func" = some (.bind (.builtin "member_descriptor.__get__") (.ref 73)) := by kernel_rfl
theorem F_it (w : World) : findObj (K01 w) 72 (some emptyD) "_it" = some (.bind (.builtin "member_descriptor.__get__") (.ref 74)) := by kernel_rfl
theorem ga72 (w : World) : findIn (K01 w) (.ref 72) "__getattribute__" = some (some (.builtin "object.__getattribute__")) := by kernel_rfl
theorem gk72 (w : World) : findIn (K01 w) (.ref 72) "__getattr__" = some none := by kernel_rfl

section
variable {w : World} {A : Around} {s : Shared} {E : Value → Shared → Prop} {env : Env} {F I B d : Addr}
theorem instFF (eF : s.heap.get? F = some (ffO I B d)) (ed : s.heap.get? d = some emptyD) : InstAt s.heap F (ffO I B d) 72 (some emptyD) := ⟨eF, rfl, rfl, ed⟩
theorem ev_func (T : TopH w s.heap) (ok : OkA 102 A) {x : Str} {p ap : Pos} (v : Var env s.heap x (.ref F)) (eF : s.heap.get? F = some (ffO I B d)) (ed : s.heap.get? d = some emptyD) (hx : (x == ("__debug__" : Str)) = false := by decide) :
    wpAny (model pw w) A (eval (.Attribute (.Name x p) "_func" ap) env) (fun r s' => r = .ref B ∧ Kp s s') E s := by
  refine Attribute_name (wpAny_Name (v _ _ _ _ s (fun _ _ e => e) ?_) hx)
  refine get_bind T.K (instFF eF ed) (ga72 w) (F_func w) (gk72 w) ?_
  exact wpAny_call (slot_get (s := { s with toks := s.toks + 1 }) T.K (instFF eF ed) (sl73 w) (by rfl) (handed_on rfl ⟨rfl, Kp.tk s _⟩))
theorem ev_it (T : TopH w s.heap) (ok : OkA 102 A) {x : Str} {p ap : Pos} (v : Var env s.heap x (.ref F)) (eF : s.heap.get? F = some (ffO I B d)) (ed : s.heap.get? d = some emptyD) (hx : (x == ("__debug__" : Str)) = false := by decide) :
    wpAny (model pw w) A (eval (.Attribute (.Name x p) "_it" ap) env) (fun r s' => r = .ref I ∧ Kp s s') E s := by
  refine Attribute_name (wpAny_Name (v _ _ _ _ s (fun _ _ e => e) ?_) hx)
  refine get_bind T.K (instFF eF ed) (ga72 w) (F_it w) (gk72 w) ?_
  exact wpAny_call (slot_get (s := { s with toks := s.toks + 1 }) T.K (instFF eF ed) (sl74 w) (by rfl) (handed_on rfl ⟨rfl, Kp.tk s _⟩))

/-- `iter(filterfalse)` is itself -/
theorem ff_iter (T : TopH w s.heap) (ok : OkA 102 A) {Q : Value → Shared → Prop} (eF : s.heap.get? F = some (ffO I B d)) (ed : s.heap.get? d = some emptyD) (h : ∀ s', Kp s s' → Q (.ref F) s') : wpAny (model pw w) A (pyIter (.ref F)) Q E s := by
  have Ix := instFF eF ed
  have X := T.K
  have L1 : Looks (model pw w) s.heap (typeLookup (.ref 72) "__iter__") (some (.ref 61)) := looks_findIn X (by kernel_rfl)
  have L2 : Looks (model pw w) s.heap (bindSpecial (.ref 61) (.ref F)) (.ref 61, [.ref F]) := bind_fn X (.ref F) (by kernel_rfl)
  have hc : wpAny (model pw w) A (PySem.call (.ref 61) [.ref F]) (fun v s' => v = .ref F ∧ Kp s s') E s := by
    refine wpAny_call (call_fn (binds := [("self", .ref F)]) _ ok.room T (K_it w) 60 rfl (by kernel_rfl) rfl (by rfl) rfl (fun y hy => ?_) fun s₁ X k => ?_)
    · rcases List.mem_singleton.mp hy with rfl; exact .inl (by rfl)
    · refine wpAny_execs_cons (wpAny_Return_some ?_)
      exact wpAny_Name (wpAny_loadName_local rfl (by rfl) X.toInCall.ns (v := .ref F) (by rfl) ⟨rfl, k⟩) (by decide)
  have fin : wpAny (model pw w) A (PySem.call (.ref 61) [.ref F] >>= fun v => pure (some v)) (fun r s' => r = some (.ref F) ∧ Kp s s') E s :=
    wpAny_bind (wpAny_mono hc (fun v s' h' => wpAny_pure ⟨by rw [h'.1], h'.2⟩) fun _ _ z => z)
  have one : ∀ refuse : Sem Value, wpAny (model pw w) A (callSpecialIfBoundUnlessNone? (.ref F) "__iter__" refuse) (fun r s' => r = some (.ref F) ∧ Kp s s') E s := by
    intro refuse
    simp only [callSpecialIfBoundUnlessNone?, bindSpecialIfBound?]
    refine wpAny_holding (wpAny_bind (wpAny_bind (wpAny_bind (Ix.type.here (L1.here ?_)))))
    refine wpAny_bind (wpAny_askSetting (wpAny_ite ?_))
    have fin2 : wpAny (model pw w) A (if (Value.ref 61 == Value.none) = true then (refuse >>= fun v => pure (some v)) else (PySem.call (.ref 61) [.ref F] >>= fun v => pure (some v))) (fun r s' => r = some (.ref F) ∧ Kp s s') E s := by
      rw [if_neg (show ¬ ((Value.ref 61 == Value.none) = true) from Bool.false_ne_true)]
      exact fin
    split
    · exact wpAny_bind (L2.here (wpAny_pure (by exact fin2)))
    · exact wpAny_tryCatch (wpAny_bind (L2.here (wpAny_pure (by exact fin2))))
  unfold pyIter
  refine wpAny_bind (wpAny_bind (Ix.type.here (L1.here ?_)))
  show wpAny _ A (callSpecialIfBoundUnlessNone? (.ref F) "__iter__" _ >>= _) Q E s
  refine wpAny_bind (wpAny_mono (one _) (fun r s' hr => ?_) fun _ _ z => z)
  obtain ⟨rfl, k⟩ := hr
  have Ix' := instFF (k.le _ _ eF) (k.le _ _ ed)
  have L3 : Looks (model pw w) s'.heap (typeLookup (.ref 72) "__next__") (some (.ref 68)) := looks_findIn (T.mono k.le).K (by kernel_rfl)
  exact wpAny_bind (wpAny_bind (Ix'.type.here (L3.here (wpAny_pure (h s' k)))))
end
end Mine
end

section
open PySem PySem.W PyProof.Rows PySem.Calls
set_option maxRecDepth 100000
set_option linter.all false
set_option maxHeartbeats 4000000
namespace Mine
open PySem (eval)

section
variable {M : Model} {A : Around} {s : Shared} {E1 E2 E3 : Value → Shared → Prop}
/-- an exception that passes a loop and leaves its function -/
theorem stop_leaves {base : Heap} {env : Env} {outer : List Env} {L e : Addr} {oe : Obj} {vs : Array Value} {a0 : Value} {Q : Shared → Prop} (hfr : A.frames = some (env :: outer)) (hf : env.frame = some L) (hl : s.heap.FunFrames base (env :: outer)) (hkb : base.StaysIn s.heap) (hen : base.get? e = none)
    (he : s.heap.get? e = some oe) (hd : oe.data = .fields vs) (h0 : vs[0]? = some a0) (h1 : vs[1]? = some .none)
    (h : ∀ h', base.StaysIn h' → s.heap.UpToSlots h' → (∃ ob, h'.get? e = some ob ∧ ob.cls = oe.cls) → Q { s with heap := h' }) :
    wpAny M A (noteFrame (.ref e) env) (fun _ s1 => wpAny M A (do
      if (← field (.ref e) 1) == .none then unsupported "frame.own-activation:exception-without-traceback"
      setFlight (.ref e) env.frame) (fun _ s2 => wpAny M A (leaving env (.ref e)) (fun _ s3 => Q s3) E3 s2) E2 s1) E1 s := by
  unfold noteFrame
  simp only [hf]
  refine wpAny_bind (wpAny_field he hd h1 ?_)
  rw [if_neg (by decide)]
  refine wpAny_entryW hfr hl hf he hkb hen hd (Array.getElem?_eq_some_iff.mp h1).1 h0 fun h1' hN => ?_
  obtain ⟨k1, k2, k3, k4⟩ := hN
  obtain ⟨oe2, vs2, tb, oT, ts, he2, hc2, hd2, h12, hnT, hTe, hT, hdT, h3⟩ := id k3
  refine wpAny_bind (wpAny_field (s := { s with heap := h1' }) he2 hd2 h12 ?_)
  rw [if_neg (show ¬ ((Value.ref tb == Value.none) = true) from Bool.false_ne_true)]
  unfold setFlight
  refine wpAny_bind (wpAny_field (s := { s with heap := h1' }) he2 hd2 h12 ?_)
  rw [if_pos (show (Value.ref tb != Value.none) = true from by simp)]
  have hsz3 : 3 < ts.size := (Array.getElem?_eq_some_iff.mp h3).1
  refine wpAny_setField (s := { s with heap := h1' }) hT hdT hsz3 ?_
  have other : ∀ b, b ≠ tb → (h1'.update tb (Obj.mapFields (·.setIfInBounds 3 (rawInt L)))).get? b = h1'.get? b := fun b hb => Heap.get?_update_other _ _ (Ne.symm hb)
  have noRecord : ∀ b o, h1'.get? b = some o → (∀ vs, o.data ≠ .fields vs) → b ≠ tb := fun b o hb hnf q => by
    rw [q, hT] at hb; injection hb with hb; subst hb; exact hnf ts hdT
  have hH : Heap.HeldW base (env :: outer) e oe.cls a0 L (h1'.update tb (Obj.mapFields (·.setIfInBounds 3 (rawInt L)))) := by
    refine ⟨fun b o hbo => (other b fun q => by rw [q, hnT] at hbo; cases hbo).trans (k1 b o hbo), hen, k2.of_keeps fun b o hb hnf => ⟨o, (other b (noRecord b o hb hnf)).trans hb, rfl⟩, ?_⟩
    exact ⟨oe2, vs2, tb, _, _, (other e (Ne.symm hTe)).trans he2, hc2, hd2, h12, hnT, hTe, Heap.get?_update_self _ hT (Obj.isFreed_of_fields (Obj.data_mapFields hdT _)), Obj.data_mapFields hdT _, by simp [hsz3]⟩
  unfold leaving
  refine wpAny_bind (wpAny_noteFrame_againW hf hH.2.2.2 ?_)
  refine wpAny_landsW hH fun h' hfl hu => ?_
  refine h h' hfl.1 (fun b o hb hn => ?_) hfl.there
  obtain ⟨sl, e1⟩ := k4 b o hb hn
  obtain ⟨sl2, e2⟩ := hu b _ ((other b (noRecord b _ e1 hn)).trans e1) hn
  exact ⟨sl2, e2⟩
end

theorem OuterOk.fun_ {h base : Heap} : ∀ {outer : List Env}, OuterOk h outer → (∀ L ∈ framesOf outer, base.get? L = none) → h.FunFrames base outer
  | [], _, _ => trivial
  | env :: r, x, hb => by
    obtain ⟨hk, L, o, hf, ho, hd⟩ := x env (.head _)
    refine ⟨hk, ⟨L, o, hf, hb L ?_, ho, hd⟩, OuterOk.fun_ (fun e he => x e (.tail _ he)) fun L' hL => hb L' ?_⟩
    · rw [framesOf, List.filterMap_cons, hf]; exact .head _
    · rw [framesOf, List.filterMap_cons, hf]; exact .tail _ hL
theorem OuterOk.keep {h h' : Heap} {outer : List Env} (x : OuterOk h outer) (k : ∀ b o, h.get? b = some o → (∀ vs, o.data ≠ .fields vs) → ∃ o', h'.get? b = some o' ∧ o'.data = o.data) : OuterOk h' outer := fun env he => by
  obtain ⟨hk, L, o, hf, ho, hd⟩ := x env he
  obtain ⟨o', ho', hd'⟩ := k L o ho hd
  exact ⟨hk, L, o', hf, ho', fun vs => hd' ▸ hd vs⟩
theorem Frm.hide {s₀ s : Shared} {env : Env} {m cm : Str → Option Value} (F : Frm s₀ env m cm s) (l : List Addr) : Frm { s₀ with heap := hideAll s₀.heap l } env m cm s := by
  have hn : ∀ {a : Addr}, s₀.heap.get? a = none → (hideAll s₀.heap l).get? a = none := fun {a} h0 => by
    cases q : (hideAll s₀.heap l).get? a with
    | none => rfl
    | some o => have := of_hideAll _ q; rw [h0] at this; cases this
  obtain ⟨h', tk, e⟩ := F.eq
  exact ⟨⟨h', tk, by rw [e]⟩, fun b o e => F.keep b o (of_hideAll _ e), F.ns, F.cell, hn F.newL, fun n c e => ⟨hn (F.newC n c e).1, (F.newC n c e).2⟩, F.apart⟩
/-- what the end of an iterator leaves -/
noncomputable def EndChg (Fs : List Addr) (I : Addr) (h h' : Heap) : Prop := ∀ b o, h.get? b = some o → b ≠ I → (b ∈ Fs → ∃ sl, h'.get? b = some { o with slots := sl }) ∧ (b ∉ Fs → h'.get? b = some o)
noncomputable def FFEnd (Fs : List Addr) (I R : Addr) (S : Str → Bool) (xs : List Str) (i0 : Nat) (s : Shared) (r : Result) (s' : Shared) : Prop :=
  (∃ j x t, i0 ≤ j ∧ xs[j]? = some x ∧ S x = false ∧ (∀ k y, i0 ≤ k → k < j → xs[k]? = some y → S y = true) ∧ r = .ok (.ret (.str x t)) ∧ s'.heap.IsListIter I R (j + 1) ∧ Heap.ExtBut I s.heap s'.heap ∧ ∃ h' tk, s' = { s with heap := h', toks := tk }) ∨
  ((∀ k y, i0 ≤ k → xs[k]? = some y → S y = true) ∧ ∃ e, r = .error (.ref e) ∧ s'.TypeIs (.ref e) "StopIteration" ∧ EndChg Fs I s.heap s'.heap ∧ ∃ h' tk, s' = { s with heap := h', toks := tk })
end Mine
end

section
open PySem PySem.W PyProof.Rows PySem.Calls
set_option maxRecDepth 100000
set_option linter.all false
set_option maxHeartbeats 4000000
namespace Mine
open PySem (eval)

theorem hide_ne {h : Heap} {I : Addr} {b : Addr} {o : Obj} (e : h.get? b = some o) (n : b ≠ I) : (hideAll h [I]).get? b = some o := hideAll_get _ e fun q => n (List.mem_singleton.mp q)
theorem top_hide {w : World} {h : Heap} {I : Addr} (T : TopH w h) (hI : (∀ a o, (K01 w).lookup a = some o → a ≠ I) ∧ builtinsNs ≠ I ∧ mainGlobals ≠ I ∧ cStatics ≠ I) : TopH w (hideAll h [I]) := by
  refine ⟨fun a o e => hide_ne (T.K a o e) (hI.1 a o e), ?_, ?_, ?_⟩
  · obtain ⟨mg, o, es, ep, e, r⟩ := T.g
    exact ⟨mg, o, es, ep, hide_ne e hI.2.2.1, r⟩
  · obtain ⟨mb, ⟨o, es, ep, e, r⟩, z⟩ := T.b
    exact ⟨mb, ⟨o, es, ep, hide_ne e hI.2.1, r⟩, z⟩
  · obtain ⟨mc, ⟨o, es, ep, e, r⟩, z⟩ := T.nl
    exact ⟨mc, ⟨o, es, ep, hide_ne e hI.2.2.2, r⟩, z⟩

theorem hide_of_none {h : Heap} {a : Addr} (l : List Addr) (h0 : h.get? a = none) : (hideAll h l).get? a = none := by
  cases q : (hideAll h l).get? a with
  | none => rfl
  | some o => have := of_hideAll _ q; rw [h0] at this; cases this
theorem mem_frames {h : Heap} {outer : List Env} (x : OuterOk h outer) {b : Addr} (hb : b ∈ framesOf outer) : ∃ o, h.get? b = some o ∧ ∀ vs, o.data ≠ .fields vs := by
  obtain ⟨env, he, hf⟩ := List.mem_filterMap.mp hb
  obtain ⟨_, L, o, hf', ho, hd⟩ := x env he
  rw [hf'] at hf; cases hf
  exact ⟨o, ho, hd⟩

section
variable {w : World} {A : Around} {s : Shared}
theorem ff_call (T : TopH w s.heap) (ok : OkA 107 A) {outer : List Env} (hfr : A.frames = some outer) (hO : OuterOk s.heap outer) {F I B d Sa R : Addr} {S : Str → Bool} {n i0 : Nat} {xs : List Str} (eF : s.heap.get? F = some (ffO I B d)) (ed : s.heap.get? d = some emptyD)
    (eB : s.heap.get? B = some (bmSet "set.__contains__" Sa)) (hS : s.heap.SetOf (strKind pw w) Sa S n) (row : RowAt s.heap R xs) (hit : s.heap.IsListIter I R i0) (hI : (∀ a o, (K01 w).lookup a = some o → a ≠ I) ∧ builtinsNs ≠ I ∧ mainGlobals ≠ I ∧ cStatics ≠ I) (hi0 : i0 ≤ xs.length) :
    codeAny (model pw w) A (.call (.ref 68) ⟨[.ref F], []⟩) (FFEnd (framesOf outer) I R S xs i0 s) s := by
  obtain ⟨oI, eI, cI, dI⟩ := id hit
  have nI : ∀ {b : Addr} {o : Obj}, s.heap.get? b = some o → o.cls ≠ .type "list_iterator" → b ≠ I := fun e hc q => by rw [q, eI] at e; cases e; exact hc cI
  have TB := top_hide T hI
  generalize hsB : ({ s with heap := hideAll s.heap [I] } : Shared) = sB
  have hBh : sB.heap = hideAll s.heap [I] := by rw [← hsB]
  rw [← hBh] at TB
  have old : ∀ {b : Addr} {o : Obj}, s.heap.get? b = some o → b ≠ I → sB.heap.get? b = some o := fun e n => by rw [hBh]; exact hide_ne e n
  have eF0 := old eF (nI eF (show Value.ref 72 ≠ Value.type "list_iterator" by decide))
  have ed0 := old ed (nI ed (show Value.type "dict" ≠ Value.type "list_iterator" by decide))
  have eB0 := old eB (nI eB (show Value.type "builtin_function_or_method" ≠ Value.type "list_iterator" by decide))
  have hS0 : sB.heap.SetOf (strKind pw w) Sa S n := by
    obtain ⟨o, es, ep, t, e, hx, r⟩ := hS
    exact ⟨o, es, ep, t, old e (nI e (by rw [hx.1]; decide)), hx, r⟩
  have row0 : RowAt sB.heap R xs := row.keep fun o e => by
    obtain ⟨vs, ⟨nn, e2⟩, _⟩ := row.lst
    rw [e2] at e; cases e
    exact old e2 (nI e2 (show Value.type "list" ≠ Value.type "list_iterator" by decide))
  have hIB : sB.heap.get? I = none := by rw [hBh]; exact hideAll_none _ (.head _)
  refine codeAny_call_cells (fd := fdNx) (binds := [("self", .ref F)]) ok.room (T.K _ _ (K_nx w)) rfl T.nl (codeRec_B T.K (by kernel_rfl)) rfl (by rfl) rfl (fun y hy => ?_) (fun s₁ X => ?_)
  · rcases List.mem_singleton.mp hy with rfl; exact .inl (by rfl)
  have FO := Frm.ofCall X
  have F1 := FO.hide [I]
  rw [hsB] at F1
  have okA := OkA.deeper (n := 106) ok (envNx s.heap.objs.size)
  have hfr2 : (A.deeper (envNx s.heap.objs.size)).frames = some (envNx s.heap.objs.size :: outer) := Around.frames_deeper hfr
  show wpAny _ (A.deeper (envNx s.heap.objs.size)) (execs (fbody (mst 3 3)) (envNx s.heap.objs.size)) _ _ _
  rw [nx_body]
  generalize hA : A.deeper (envNx s.heap.objs.size) = A1 at *
  refine wp_abs fun QQ EE hQ hE => ?_
  have T1 := TB.mono F1.keep
  refine wpAny_execs_cons (wpAny_Assign_Name (wpAny_mono (ev_func T1 (okA.weak (by decide)) (F1.loc rfl (by rfl) (by rfl)) (F1.keep _ _ eF0) (F1.keep _ _ ed0)) (fun v s₂ h₂ => ?_) fun _ _ q => q) (by rfl))
  obtain ⟨rfl, k2⟩ := h₂
  refine (F1.kp k2).storeL rfl (by rfl) fun h' tk F3 hx3 => ?_
  refine wpAny_execs_cons (wpAny_While ?_)
  have hIL : I ≠ (envNx s.heap.objs.size).locals := fun q => by
    have := F3.newL
    have h1 := size_none (h := s.heap) (a := s.heap.objs.size) (Nat.le_refl _)
    rw [show I = s.heap.objs.size from q, h1] at eI
    cases eI
  have hit3 : h'.IsListIter I R i0 := hit.at fun o e => hx3 _ _ hIL (k2.le _ _ (FO.keep _ _ e))
  refine codeAny_whileLoop (fun k s' => ∃ i m cm, k = xs.length + 1 - i ∧ i ≤ xs.length ∧ i0 ≤ i ∧ Frm sB (envNx s.heap.objs.size) m cm s' ∧ m "self" = some (.ref F) ∧ m "func" = some (.ref B) ∧ s'.heap.IsListIter I R i ∧ (∀ j y, i0 ≤ j → j < i → xs[j]? = some y → S y = true)) ?_ (xs.length + 1 - i0)
    ⟨i0, _, _, rfl, hi0, Nat.le_refl _, F3, by rfl, by rfl, hit3, fun j y h1 h2 => absurd h2 (Nat.not_lt_of_le h1)⟩
  rintro k s4 ⟨i, m, cm, rfl, hil, hi0i, F4, hself, hfunc, hit4, hseen⟩
  refine wpAny_mono (EvT.ofBool (prog := pw) (w := w) (A := A1) (env := envNx s.heap.objs.size) (h := s4.heap) (S := fun _ => False) (EvD.cbool (x := true) (k := 0) (pos := ⟨18, 14, 18, 18⟩)) (by intro _; rfl) s4 _ fun _ _ e => e) (fun b s5 h5 => ?_) fun _ _ q => q
  obtain ⟨rfl, k5⟩ := h5
  rw [if_pos rfl]
  refine wp_abs fun Q1 E1 hQ1 hE1 => ?_
  have F5 := F4.kp k5
  have T5 := TB.mono F5.keep
  have hit5 := hit4.at fun o e => k5.le _ _ e
  have row5 := row0.keep fun o e => F5.keep _ _ e
  refine wpAny_execs_cons (wpAny_Assign_Name (wpAny_Call_NameR (wpAny_Name (Var.bi T5 rfl (by rfl) rfl rfl (by kernel_rfl) (by decide) (by rfl) _ _ _ _ s5 (fun _ _ e => e) ?_) (by decide))) (by rfl))
  refine Calls.callWith_builtin (id := "next") (by rfl) (Calls.evalArgs_plain (Calls.spliced_cons ?_))
  refine wpAny_mono (ev_it T5 (okA.weak (by decide)) (F5.loc rfl (by rfl) hself) (F5.keep _ _ eF0) (F5.keep _ _ ed0)) (fun v s6 h6 => ?_) fun _ _ q => q
  obtain ⟨rfl, k6⟩ := h6
  refine Calls.spliced_nil ?_
  have F6 := F5.kp k6
  have hit6 := hit5.at fun o e => k6.le _ _ e
  have row6 := row5.keep fun o e => k6.le _ _ e
  cases hx : xs[i]? with
  | none =>
    obtain ⟨vs, hl, hv⟩ := row_end row6 hx
    refine call_next_end okA.hd hit6 hl hv fun h7 e t oe vse hxt he0 ht0 hoe hcls hdata hv0 hv1 => ?_
    have up : ∀ {b : Addr} {o : Obj}, s.heap.get? b = some o → b ≠ I → h7.get? b = some o := fun e n => hxt _ _ n (F6.keep _ _ (old e n))
    have nfI : ∀ {b : Addr} {o : Obj}, s.heap.get? b = some o → (∀ vs, o.data ≠ .fields vs) → b ≠ I := fun e hn q => by rw [q, eI] at e; cases e; exact hn _ dI
    have hO7 : OuterOk h7 outer := hO.keep fun b o e hn => ⟨o, up e (nfI e hn), rfl⟩
    have hLn : s.heap.get? s.heap.objs.size = none := size_none (Nat.le_refl _)
    have he0' : s.heap.get? e = none := by
      cases q : s.heap.get? e with
      | none => rfl
      | some o =>
        by_cases qe : e = I
        · obtain ⟨oo, eo, _⟩ := hit6
          rw [qe, eo] at he0; cases he0
        · rw [F6.keep _ _ (old q qe)] at he0; cases he0
    have hsh : ∃ h' tk, s6 = { s with heap := h', toks := tk } := by
      obtain ⟨h', tk, e1⟩ := F6.eq
      exact ⟨h', tk, by rw [e1, ← hsB]⟩
    refine hE1 _ _ ?_
    show wpAny _ A1 (noteFrame (.ref e) (envNx s.heap.objs.size)) (fun _ s1 => wpAny _ A1 (do
      if (← field (.ref e) 1) == .none then unsupported "frame.own-activation:exception-without-traceback"
      setFlight (.ref e) (envNx s.heap.objs.size).frame) (fun _ s2 => EE (.ref e) s2) _ s1) _ _
    refine wpAny_mono (stop_leaves (E3 := fun e' s'' => FFEnd (framesOf outer) I R S xs i0 s (.error e') s'') (s := { s6 with heap := h7 }) (base := hideAll s.heap (I :: framesOf outer)) (L := s.heap.objs.size) (a0 := .ref t) (Q := fun s3 => FFEnd (framesOf outer) I R S xs i0 s (.error (.ref e)) s3) hfr2 rfl
      (Heap.FunFrames.cons (show ScopeKind.function ≠ ScopeKind.module by decide) rfl (F6.ns.at' fun o e => hxt _ _ (Ne.symm hIL) e) (hide_of_none _ hLn) (hO7.fun_ fun L hL => hideAll_none _ (.tail _ hL))) (fun b o eb => ?_) (hide_of_none _ he0') hoe hdata hv0 hv1 fun h8 hb hu he8 => ?_) (fun _ s1 h1 => wpAny_mono h1 (fun _ s2 h2 => hE _ _ h2) fun _ _ q => q) fun _ _ q => q
    · have e1 := of_hideAll _ eb
      exact up e1 fun q => by rw [q, hideAll_none _ (.head _)] at eb; cases eb
    · refine .inr ⟨fun j y h1 h2 => hseen j y h1 (Nat.lt_of_lt_of_le (List.getElem?_eq_some_iff.mp h2).1 (List.getElem?_eq_none_iff.mp hx)) h2, e, rfl, ?_, fun b o eb nb => ⟨fun hF => ?_, fun hF => ?_⟩, ?_⟩
      · obtain ⟨ob, e1, e2⟩ := he8
        exact ⟨ob, e1, e2.trans hcls⟩
      · obtain ⟨o', eo', hn⟩ := mem_frames hO hF
        rw [eb] at eo'; cases eo'
        exact hu b o (up eb nb) hn
      · exact hb b o (hideAll_get _ eb fun q => by rcases List.mem_cons.mp q with q | q; exact nb q; exact hF q)
      · obtain ⟨h', tk, e1⟩ := hsh
        exact ⟨h8, tk, by rw [e1]⟩
  | some x =>
    obtain ⟨vs, t, hl, hv⟩ := row_item row6 hx
    refine call_next_item hit6 hl hv fun h7 hit7 hsb => ?_
    have F7 := F6.but (a := I) s6.toks hsb.extBut hIB hIL fun n c e => by cases (show ([] : List (Str × Addr)).lookup n = some c from e)
    refine F7.storeL rfl (by rfl) fun h8 tk8 F8 hx8 => ?_
    have T8 := TB.mono F8.keep
    have hit8 : h8.IsListIter I R (i + 1) := hit7.at fun o e => hx8 _ _ hIL e
    have vf : Var (envNx s.heap.objs.size) h8 "func" (.ref B) := F8.loc rfl (by rfl) (upd_ne hfunc (by decide))
    have vi : Var (envNx s.heap.objs.size) h8 "item" (.str x t) := F8.loc rfl (by rfl) (upd_eq (m := m))
    have hlt : i < xs.length := (List.getElem?_eq_some_iff.mp hx).1
    refine wpAny_execs_cons (wpAny_If (isTrue_or (wpAny_mono ((EvT.isNone (prog := pw) (w := w) vf) { s6 with heap := h8, toks := tk8 } _ fun _ _ e => e) (fun c s9 h9 => ?_) fun _ _ q => q)))
    obtain ⟨rfl, k9⟩ := h9
    rw [if_neg (show ¬ ((Value.ref B == .none) = true) from Bool.false_ne_true)]
    refine isTrue_or (wpAny_isTrue_Compare1 (wpAny_Name (vf _ _ _ _ s9 k9.le ?_) (by decide)) (by with_unfolding_all rfl))
    refine wpAny_Name (Var.bi (T8.mono k9.le) rfl (by rfl) rfl rfl (by kernel_rfl) (v := .type "bool") (by decide) (by rfl) _ _ _ _ s9 (fun _ _ e => e) ?_) (by decide)
    refine wpAny_of_eq (a := .bool false) (by rfl) (wpAny_truthy_bool ?_)
    rw [if_neg Bool.false_ne_true]
    refine isTrue_or_nil ?_
    rw [if_neg Bool.false_ne_true]
    have F9 := F8.kp k9
    obtain ⟨on, esn, epn, tn, en, rn⟩ := id hS0
    refine wpAny_execs_cons (wpAny_If (isTrue_not (isTrue_plain (wpAny_Call_NameR (wpAny_Name (vf _ _ _ _ s9 k9.le ?_) (by decide))))))
    refine callWith_of (P := fun h => h.get? B = some (bmSet "set.__contains__" Sa)) (by rfl) (fun h e => ⟨.machine, .inr (.inl rfl), (Looks.ld e).andThen .now⟩) (Calls.evalArgs_plain (Calls.spliced_cons ?_))
    refine wpAny_Name (vi _ _ _ _ s9 k9.le ?_) (by decide)
    refine Calls.spliced_nil ⟨F9.keep _ _ eB0, ?_⟩
    have hS9 : s9.heap.SetOf (strKind pw w) Sa S n := ⟨on, esn, epn, tn, F9.keep _ _ en, rn⟩
    refine wpAny_call (call_bmCont (knd := strKind pw w) (F9.keep _ _ eB0) (strKind_is pw w _ _) (by rfl) hS9 ?_)
    refine wpAny_truthy_bool ?_
    have F10 := F9.kp (Kp.tk s9 (s9.toks + 1))
    have hit10 : s9.heap.IsListIter I R (i + 1) := hit8.at fun o e => k9.le _ _ e
    cases hSx : S x with
    | true =>
      rw [if_neg (by decide)]
      refine wpAny_execs_nil (wpAny_execs_nil (wpAny_execs_nil (hQ1 _ _ ?_)))
      refine ⟨xs.length + 1 - (i + 1), by omega, i + 1, _, cm, rfl, by omega, by omega, F10, upd_ne hself (by decide), upd_ne hfunc (by decide), hit10, fun j y h1 h2 h3 => ?_⟩
      rcases Nat.lt_succ_iff_lt_or_eq.mp h2 with h2 | rfl
      · exact hseen j y h1 h2 h3
      · rw [hx] at h3; cases h3; exact hSx
    | false =>
      rw [if_pos (by decide)]
      refine wpAny_execs_cons (wpAny_Return_some (wpAny_Name (vi _ _ _ _ _ k9.le ?_) (by decide)))
      refine hQ1 _ _ (hQ _ _ ?_)
      refine .inl ⟨i, x, t, hi0i, hx, hSx, hseen, rfl, hit10, fun b o nb eb => F10.keep _ _ (old eb nb), ?_⟩
      obtain ⟨h', tk, e1⟩ := F10.eq
      exact ⟨h', tk, by rw [e1, ← hsB]⟩
end
end Mine
end

section
open PySem PySem.W PyProof.Rows PySem.Calls
set_option maxRecDepth 100000
set_option linter.all false
set_option maxHeartbeats 4000000
namespace Mine
open PySem (eval)

noncomputable def FFNext (Fs : List Addr) (I R : Addr) (S : Str → Bool) (xs : List Str) (i0 : Nat) (s : Shared) (r : Option Value) (s' : Shared) : Prop :=
  (∃ j x t, i0 ≤ j ∧ xs[j]? = some x ∧ S x = false ∧ (∀ k y, i0 ≤ k → k < j → xs[k]? = some y → S y = true) ∧ r = some (.str x t) ∧ s'.heap.IsListIter I R (j + 1) ∧ Heap.ExtBut I s.heap s'.heap ∧ ∃ h' tk, s' = { s with heap := h', toks := tk }) ∨
  ((∀ k y, i0 ≤ k → xs[k]? = some y → S y = true) ∧ r = none ∧ EndChg Fs I s.heap s'.heap ∧ ∃ h' tk, s' = { s with heap := h', toks := tk })

section
variable {w : World} {A : Around} {s : Shared} {E : Value → Shared → Prop}
theorem ff_next (T : TopH w s.heap) (ok : OkA 107 A) {outer : List Env} (hfr : A.frames = some outer) (hO : OuterOk s.heap outer) {F I B d Sa R : Addr} {S : Str → Bool} {n i0 : Nat} {xs : List Str} (eF : s.heap.get? F = some (ffO I B d)) (ed : s.heap.get? d = some emptyD)
    (eB : s.heap.get? B = some (bmSet "set.__contains__" Sa)) (hS : s.heap.SetOf (strKind pw w) Sa S n) (row : RowAt s.heap R xs) (hit : s.heap.IsListIter I R i0) (hI : (∀ a o, (K01 w).lookup a = some o → a ≠ I) ∧ builtinsNs ≠ I ∧ mainGlobals ≠ I ∧ cStatics ≠ I) (hi0 : i0 ≤ xs.length) :
    wpAny (model pw w) A (pyNext (.ref F)) (FFNext (framesOf outer) I R S xs i0 s) E s := by
  unfold pyNext
  refine wpAny_bind (wpAny_attempt (special_fn (name := "__next__") (args := []) T.K (instFF eF ed) (f := 68) (by kernel_rfl) (by kernel_rfl) (wpAny_call (codeAny_mono (ff_call T ok hfr hO eF ed eB hS row hit hI hi0) fun r s' h => ?_))))
  rcases h with ⟨j, x, t, h1, h2, h3, h4, rfl, h5, h6, h7⟩ | ⟨h1, e, rfl, hT, h2, h3⟩
  · exact wpAny_pure (.inl ⟨j, x, t, h1, h2, h3, h4, rfl, h5, h6, h7⟩)
  · refine wpAny_bind (wpAny_isInstance (T := "StopIteration") (b := true) hT isSubtype_stop ?_)
    exact wpAny_pure (.inr ⟨h1, rfl, h2, h3⟩)
end

theorem over_frames {A : Around} {env env' : Env} {outer : List Env} {t : Expr} {it : Value} {b body : List Stmt} {K : Flow → Sem Fin} {H : Value → Sem Fin} {p : Pos} (hfr : A.frames = some outer) :
    (A.over (.forLoop t it b [] env') [loopRet env K H id id (.func body env) p]).frames = some (env :: outer) := by
  simp only [Around.over, hfr]
  rfl

section
variable {w : World} {A : Around} {O : Addr → Prop} {C R : Addr} {outer : List Env} {Sa BM I F B d : Addr} {body : List Stmt} {K1 : Flow → Sem Fin} {H1 : Value → Sem Fin} {p0 pe : Pos}
/-- the loop of the generator that has no key -/
theorem seg_none (ok : OkA 112 A) (hfr : A.frames = some outer) (hK1 : K1 .next = .pure (.done (.ret .none))) (hF : ∀ b ∈ framesOf outer, O b) (hC : ¬ O F ∧ ¬ O I ∧ ¬ O B ∧ ¬ O d) (hC2 : F ≠ C ∧ I ≠ C ∧ B ≠ C ∧ d ≠ C) : ∀ (n i : Nat) (S : Str → Bool) (xs : List Str) (s₀ s : Shared) (m : Str → Option Value),
    GSt w (fun x => x) O C R .none n S xs Sa BM s₀ s m → OuterOk s₀.heap outer → s.heap.get? F = some (ffO I B d) → s.heap.get? d = some emptyD → s.heap.get? B = some (bmSet "set.__contains__" Sa) → s.heap.IsListIter I R i → i ≤ xs.length → (∀ j y, j < i → xs[j]? = some y → S y = true) →
    Seg (model pw w) A (GR w (fun x => x) O C R outer) (GY w (fun x => x) O C R outer) n s₀ (.forLoop (.Name "element" pe) (.ref F) ueNone [] (envUe C)) ((model pw w).den (.forLoop (.Name "element" pe) (.ref F) ueNone [] (envUe C))) [loopRet (envUe C) K1 H1 id id (.func body (envUe C)) p0] s := by
  intro n
  induction n using Nat.strongRecOn with
  | ind n ihn =>
  intro i S xs s₀ s m G hO eF ed eB hit hil hseen
  have okA := overOk (env := envUe C) (env' := envUe C) (t := .Name "element" pe) (it := .ref F) (b := ueNone) (body := body) (K := K1) (H := H1) (p := p0) (OkA.weak (m := 110) ok (by decide))
  have ok107 : OkA 107 (A.over (.forLoop (.Name "element" pe) (.ref F) ueNone [] (envUe C)) [loopRet (envUe C) K1 H1 id id (.func body (envUe C)) p0]) := overOk2 ok
  have hfr2 := over_frames (env := envUe C) (env' := envUe C) (t := .Name "element" pe) (it := .ref F) (b := ueNone) (body := body) (K := K1) (H := H1) (p := p0) hfr
  have hIC : I ≠ C := hC2.2.1
  obtain ⟨oI, eI, cI, dI⟩ := id hit
  obtain ⟨oS, esS, epS, tS, eS, dS⟩ := G.objS
  have nS : ∀ {b : Addr} {o : Obj}, s.heap.get? b = some o → (∀ es n t, o.data ≠ .set es n t) → b ≠ Sa := fun e hn q => by rw [q, eS] at e; cases e; exact hn _ _ _ dS
  have hIS : I ≠ Sa := nS eI fun _ _ _ z => by rw [dI] at z; cases z
  have hO2 : OuterOk s.heap (envUe C :: outer) := fun env he => by
    rcases List.mem_cons.mp he with rfl | he
    · obtain ⟨o, es, ep, e, hd, _⟩ := G.ns
      exact ⟨show ScopeKind.function ≠ ScopeKind.module by decide, C, o, rfl, e, fun vs z => by rw [hd] at z; cases z⟩
    · obtain ⟨hk, L, o, hf, ho, hd⟩ := hO env he
      exact ⟨hk, L, o, hf, G.chg.low G.nC (hF L (List.mem_filterMap.mpr ⟨env, he, hf⟩)) ho, hd⟩
  obtain ⟨kk, hset, _⟩ := G.set
  refine seg_forLoop (wpAny_mono (ff_next G.T ok107 hfr2 hO2 eF ed eB hset G.row hit ⟨fun a o e q => hC.2.1 (q ▸ G.lk.1 a o e), fun q => hC.2.1 (q ▸ G.lk.2.1), fun q => hC.2.1 (q ▸ G.lk.2.2.1), fun q => hC.2.1 (q ▸ G.lk.2.2.2)⟩ hil) (fun r s1 hr => ?_) fun _ _ q => q)
  rcases hr with ⟨j, x, t, hij, hx, hSx, hbt, rfl, hit1, hx1, hsh⟩ | ⟨hall, rfl, hend, hsh⟩
  · have hxn : x ∈ names8 := G.row.good x (List.mem_of_getElem? hx)
    have hseen2 : ∀ k y, k < j → xs[k]? = some y → S y = true := fun k y hk hy => by
      by_cases q : k < i
      · exact hseen k y q hy
      · exact hbt k y (Nat.le_of_not_lt q) hk hy
    have hfr' : fresh? (fun x => x) S xs = some x := fresh_at (f := fun x => x) hx hseen2 hSx
    have G1 : GSt w (fun x => x) O C R .none n S xs Sa BM s₀ s1 m := G.ext hsh (Chg.of_iter hx1 hC.2.1 eI cI) (G.ns.at' fun o e => hx1 _ _ (Ne.symm hIC) e) (fun _ _ => rfl) fun o e => hx1 _ _ (Ne.symm hIS) e
    have nII : ∀ {b : Addr} {o : Obj}, s.heap.get? b = some o → o.cls ≠ .type "list_iterator" → b ≠ I := fun e hn q => by rw [q, eI] at e; cases e; exact hn cI
    have eF1 := hx1 _ _ (nII eF (show Value.ref 72 ≠ Value.type "list_iterator" by decide)) eF
    have ed1 := hx1 _ _ (nII ed (show Value.type "dict" ≠ Value.type "list_iterator" by decide)) ed
    have eB1 := hx1 _ _ (nII eB (show Value.type "builtin_function_or_method" ≠ Value.type "list_iterator" by decide)) eB
    refine G1.store (by rfl) (by decide) fun s2 G2 x2 sh2 => ?_
    cases n with
    | zero => exact absurd (cnt_add (f := fun x => x) hxn hSx) (by have := G.fuel; omega)
    | succ n =>
    have hit2 : s2.heap.IsListIter I R (j + 1) := hit1.at fun o e => x2 _ _ hIC e
    refine seg_addYield (x := x) (y := "element") G2 (by rfl) (by decide) (upd_eq (m := m)) (upd_eq (m := m)) hxn hfr' rfl rfl rfl (fun s'' ys G6 kf hO'' => ?_) (by rfl)
    show Seg _ _ _ _ _ _ _ (.pure (.again (.forLoop (.Name "element" pe) (.ref F) ueNone [] (envUe C)))) _ _
    have up : ∀ {b : Addr} {o : Obj}, s1.heap.get? b = some o → ¬ O b → b ≠ C → b ≠ Sa → s''.heap.get? b = some o := fun e hb hc n => kf _ _ hb n (x2 _ _ hc e)
    have hjl : j < xs.length := (List.getElem?_eq_some_iff.mp hx).1
    refine seg_again rfl (ihn n (Nat.lt_succ_self _) (j + 1) _ (xs ++ ys) s'' _ _ G6 hO'' (up eF1 hC.1 hC2.1 (nS eF fun _ _ _ z => by cases z)) (up ed1 hC.2.2.2 hC2.2.2.2 (nS ed fun _ _ _ z => by cases z)) (up eB1 hC.2.2.1 hC2.2.2.1 (nS eB fun _ _ _ z => by cases z))
      (hit2.at fun o e => kf _ _ hC.2.1 hIS e) (by rw [List.length_append]; omega) fun k y hk hy => ?_)
    have hkl : k < xs.length := by omega
    rw [List.getElem?_append_left hkl] at hy
    rcases Nat.lt_succ_iff_lt_or_eq.mp hk with hk | rfl
    · show (S y || decide (y = x)) = true
      rw [hseen2 k y hk hy]; rfl
    · rw [hx] at hy; cases hy
      show (S x || decide (x = x)) = true
      simp
  · intro c'
    refine seg_loopEnd ?_
    rw [hK1]
    have hnone : fresh? (fun x => x) S xs = none := by
      rw [List.find?_eq_none]
      intro y hy
      obtain ⟨j, hj, e2⟩ := List.mem_iff_getElem.mp hy
      have e3 : xs[j]? = some y := by rw [List.getElem?_eq_getElem hj, e2]
      by_cases q : j < i
      · simp [hseen j y q e3]
      · simp [hall j y (Nat.le_of_not_lt q) e3]
    refine seg_end (.ok (.ret .none)) ⟨rfl, S, xs, G.st₀, G.row₀, hnone, G.chg.thenF (fun b o e nC => ⟨fun hb => ?_, fun hb z => ?_⟩) hF, ?_⟩
    · exact (hend b o e (fun q => hC.2.1 (q ▸ hF b hb))).1 (List.mem_cons_of_mem _ hb)
    · have nI : b ≠ I := fun q => by
        rw [q, eI] at e; cases e
        rcases z with z | z
        · exact hC.2.1 (q ▸ z)
        · exact z.2 cI
      exact (hend b o e nI).2 (fun q => by
        rcases List.mem_cons.mp q with q | q
        · exact nC q
        · exact hb q)
    · obtain ⟨h1, t1, e1⟩ := G.sh
      obtain ⟨h2, t2, e2⟩ := hsh
      exact ⟨h2, t2, by rw [e2, e1]⟩
end
end Mine
end

section
open PySem PySem.W PyProof.Rows PySem.Calls
set_option maxRecDepth 100000
set_option linter.all false
set_option maxHeartbeats 4000000
namespace Mine
open PySem (eval)

theorem overOk0 {A : Around} {env : Env} {body : List Stmt} (ok : OkA 112 A) : OkA 110 (A.over (.func body env) []) :=
  ⟨ok.hd, by have h1 : (A.over (.func body env) []).depth = A.depth + 0 + 1 := rfl
             have := ok.dp; omega,
   by have h1 : (A.over (.func body env) []).units = A.units + 0 + 3 := rfl
      have := ok.un; omega⟩

theorem keep72 (w : World) : keepIn (K01 w) (.ref 72) = true := by kernel_rfl

section
variable {w : World} {A : Around} {E : Value → Shared → Prop} {f : Str → Str} {O : Addr → Prop} {C R : Addr} {outer : List Env} {kv : Value} {n : Nat} {xs : List Str} {s : Shared} {m : Str → Option Value}
/-- the head of the generator: the set and its bound method -/
theorem seg_head (ok : OkA 112 A) (T : TopH w s.heap) (hns : s.heap.Ns C m) (hi : m "iterable" = some (.ref R)) (hk : m "key" = some kv) (hse : m "seen" = none) (row : RowAt s.heap R xs) (hOld : ∀ b, O b → s.heap.get? b ≠ none) (hOR : O R) (hC : ¬ O C)
    (lk : (∀ a o, (K01 w).lookup a = some o → O a) ∧ O builtinsNs ∧ O mainGlobals ∧ O cStatics) (hf : cnt f (fun _ => false) ≤ n) (hn : n ≤ 50) {rest : List Stmt} {K : Flow → Sem Fin} {H : Value → Sem Fin} {body : List Stmt}
    (h : ∀ Sa BM s5 m5 t, GSt w f O C R kv n (fun _ => false) xs Sa BM s s5 m5 → s5.heap.get? Sa = some ⟨.type "set", none, .set #[] 0 t, #[]⟩ → (∀ b, O b → s5.heap.get? b ≠ none) →
      Seg (model pw w) A (GR w f O C R outer) (GY w f O C R outer) n s (.func body (envUe C)) ((execs rest (envUe C)).wrap K H id id) [] s5) :
    Seg (model pw w) A (GR w f O C R outer) (GY w f O C R outer) n s (.func body (envUe C)) ((execs (.Expr (.Constant (.str "List unique elements, preserving order. Remember all elements ever seen.") 0 ⟨27, 4, 27, 82⟩) ⟨27, 4, 27, 82⟩ ::
      .Assign [.Name "seen" ⟨28, 4, 28, 8⟩] (.Call (.Name "set" ⟨28, 11, 28, 14⟩) [] [] ⟨28, 11, 28, 16⟩) ⟨28, 4, 28, 16⟩ ::
      .Assign [.Name "seen_add" ⟨29, 4, 29, 12⟩] (.Attribute (.Name "seen" ⟨29, 15, 29, 19⟩) "add" ⟨29, 15, 29, 23⟩) ⟨29, 4, 29, 23⟩ :: rest) (envUe C)).wrap K H id id) [] s := by
  have okA := overOk0 (env := envUe C) (body := body) ok
  refine seg_stmt (wpAny_Expr (Constant_str ⟨rfl, ?_⟩) (by rfl) (by rfl))
  have k1 : Kp s { s with toks := s.toks + 1 } := Kp.tk _ _
  generalize hs1 : ({ s with toks := s.toks + 1 } : Shared) = s1
  have k1 : Kp s s1 := by rw [← hs1]; exact k1
  have T1 := T.mono k1.le
  refine seg_stmt (wpAny_Assign_Name (wpAny_Call_NameR (wpAny_Name (Var.bi T1 rfl (by rfl) rfl rfl (by kernel_rfl) (v := .type "set") (by decide) (by rfl) _ _ _ _ s1 (fun _ _ e => e) ?_) (by decide))) (by rfl))
  refine PySem.callWith_type (by rfl) (PyProof.Rows.evalArgs_nil3 (call_set_0 fun led => ?_))
  have k2 : Kp s1 { s1 with heap := s1.heap.push { cls := .type "set", dict := none, data := .set #[] 0 (.fresh 0 0 led) } } := Kp.of' fun b o e => Heap.get?_push_of_some _ e
  have hS2 : (s1.heap.push { cls := .type "set", dict := none, data := .set #[] 0 (.fresh 0 0 led) }).get? s1.heap.objs.size = some ⟨.type "set", none, .set #[] 0 (.fresh 0 0 led), #[]⟩ := Heap.get?_push_size _ rfl
  have nSa : s1.heap.get? s1.heap.objs.size = none := new_none _
  generalize hs2 : ({ s1 with heap := s1.heap.push { cls := .type "set", dict := none, data := .set #[] 0 (.fresh 0 0 led) } } : Shared) = s2 at k2
  have hS2' : s2.heap.get? s1.heap.objs.size = some ⟨.type "set", none, .set #[] 0 (.fresh 0 0 led), #[]⟩ := by rw [← hs2]; exact hS2
  generalize s1.heap.objs.size = Sa at *
  have k12 := k1.tr k2
  have T2 := T.mono k12.le
  have hns2 := hns.keeps k12.le
  have nSa' : s.heap.get? Sa = none := fresh_le k1.le nSa
  have aliveC : ∀ {h : Heap} {m : Str → Option Value}, h.Ns C m → h.get? C ≠ none := fun ⟨o, _, _, e, _⟩ => some_ne e
  have hSaO : ¬ O Sa := fun z => hOld _ z nSa'
  have hSaC : Sa ≠ C := fun z => aliveC hns (z ▸ nSa')
  show wpAny _ _ (storeName (envUe C) "seen" (.ref Sa)) _ _ s2
  refine wpAny_storeName_local (by rfl) hns2 fun h3 hns3 hs3 => ⟨rfl, ?_⟩
  have x3 := hs3.extBut
  generalize hs3' : ({ heap := h3, gens := s2.gens, drawn := s2.drawn, toks := s2.toks + 1, os := s2.os } : Shared) = s3
  have hns3 : s3.heap.Ns C (fun y => if y = "seen" then some (.ref Sa) else m y) := by rw [← hs3']; exact hns3
  have x3 : Heap.ExtBut C s2.heap s3.heap := by rw [← hs3']; exact x3
  have low3 : ∀ b o, s2.heap.get? b = some o → O b → s3.heap.get? b = some o := fun b o e hb => x3 b o (fun z => hC (z ▸ hb)) e
  have T3 : TopH w s3.heap := top_chg T2 low3 lk.1 lk.2
  have hS3 := x3 _ _ hSaC hS2'
  have sh3 : ∃ h' tk, s3 = { s with heap := h', toks := tk } := by
    obtain ⟨_, ha, ta, e⟩ := k12
    rw [← hs3', e]
    exact ⟨h3, ta + 1, rfl⟩
  refine seg_stmt (wpAny_Assign_Name (wpAny_mono (ev_setAdd T3 (okA.weak (by decide)) (Var.loc rfl (by rfl) hns3 (by rfl)) hS3) (fun v s4 h4 => ?_) fun _ _ q => q) (by rfl))
  obtain ⟨BM, rfl, eBM, nBM, k4⟩ := h4
  have hns4 := hns3.keeps k4.le
  have hS4 := k4.le _ _ hS3
  have nBMs : s.heap.get? BM = none := by
    cases q : s.heap.get? BM with
    | none => rfl
    | some o =>
      have hBC : BM ≠ C := fun z => aliveC hns3 (z ▸ nBM)
      rw [x3 _ _ hBC (k12.le _ _ q)] at nBM; cases nBM
  have hBO : ¬ O BM := fun z => hOld _ z nBMs
  have hBC : BM ≠ C := fun z => aliveC hns3 (z ▸ nBM)
  refine wpAny_storeName_local (by rfl) hns4 fun h5 hns5 hs5 => ⟨rfl, ?_⟩
  have x5 := hs5.extBut
  have c25 : Chg O C s.heap h5 := (Chg.of_le k12.le).trans ((Chg.of_self x3).trans ((Chg.of_le k4.le).trans (Chg.of_self x5)))
  have hS5 : h5.get? Sa = some ⟨.type "set", none, .set #[] 0 (.fresh 0 0 led), #[]⟩ := x5 _ _ hSaC hS4
  refine h Sa BM _ _ (.fresh 0 0 led) ⟨?_, ⟨m, hns, .inl ⟨hse, rfl⟩⟩, row, c25, top_chg T (fun b o e hb => c25.low hC hb e) lk.1 lk.2, hns5, ?_, ?_, by rfl, by rfl, x5 _ _ hBC eBM, ?_, hf, hOR, lk, hC, ⟨hSaO, hSaC⟩, hBO, hBC⟩ hS5 fun b hb => ?_
  · obtain ⟨h', tk, e⟩ := sh3
    obtain ⟨_, ha, ta, e4⟩ := k4
    exact ⟨h5, s4.toks + 1, by rw [e4, e]⟩
  · exact hi
  · exact hk
  · exact ⟨0, ⟨_, #[], 0, _, hS5, ⟨rfl, rfl, rfl⟩, rfl, fun e he => by simp at he, fun k => by simp, by decide, by rfl, rfl⟩, by omega⟩
  · cases q : s.heap.get? b with
    | none => exact absurd q (hOld b hb)
    | some o => exact some_ne (c25.low hC hb q)
end
end Mine
end

section
open PySem PySem.W PyProof.Rows PySem.Calls
set_option maxRecDepth 100000
set_option linter.all false
set_option maxHeartbeats 4000000
namespace Mine
open PySem (eval)

theorem keepsIn72 (w : World) {M : Model} (h : Heap) (X : (K01 w).In h) : ∃ k, (k = Keeper.frame ∨ k = Keeper.machine ∨ k = Keeper.boundFrame) ∧ Looks M h (keeperOf (.ref 72)) k := keeps_K (keep72 w) h X

section
variable {w : World} {A : Around} {E : Value → Shared → Prop} {O : Addr → Prop} {C R : Addr} {outer : List Env} {n : Nat} {xs : List Str} {s : Shared} {m : Str → Option Value}
/-- the generator without a key, from its start -/
theorem seg_ueN (ok : OkA 112 A) (hfr : A.frames = some outer) (T : TopH w s.heap) (hns : s.heap.Ns C m) (hi : m "iterable" = some (.ref R)) (hk : m "key" = some .none) (hse : m "seen" = none) (row : RowAt s.heap R xs) (hOld : ∀ b, O b → s.heap.get? b ≠ none) (hOR : O R) (hC : ¬ O C) (hO : OuterOk s.heap outer) (hF : ∀ b ∈ framesOf outer, O b)
    (lk : (∀ a o, (K01 w).lookup a = some o → O a) ∧ O builtinsNs ∧ O mainGlobals ∧ O cStatics) (hf : cnt (fun x => x) (fun _ => false) ≤ n) (hn : n ≤ 50) :
    Seg (model pw w) A (GR w (fun x => x) O C R outer) (GY w (fun x => x) O C R outer) n s (.func (fbody (stOf 5)) (envUe C)) ((model pw w).den (.func (fbody (stOf 5)) (envUe C))) [] s := by
  have okA := overOk0 (env := envUe C) (body := fbody (stOf 5)) ok
  refine seg_func ?_
  generalize hb : fbody (stOf 5) = body at *
  rw [show (execs body (envUe C)) = execs (fbody (stOf 5)) (envUe C) by rw [hb], ue_body]
  refine seg_head (f := fun x => x) ok T hns hi hk hse row hOld hOR hC lk hf hn fun Sa BM s5 m5 t G hS5 hOld5 => ?_
  refine seg_execs_cons (seg_If (b := true) ?_)
  refine wpAny_mono ((EvT.isNone (prog := pw) (w := w) (G.loc (by rfl) G.my)) s5 _ fun _ _ e => e) (fun r s6 h6 => ?_) fun _ _ q => q
  obtain ⟨rfl, k6⟩ := h6
  refine ⟨rfl, ?_⟩
  have G6 := G.kp k6
  have hS6 := k6.le _ _ hS5
  have old6 : ∀ b, O b → s6.heap.get? b ≠ none := fun b hb => by
    cases q : s5.heap.get? b with
    | none => exact absurd q (hOld5 b hb)
    | some o => exact some_ne (k6.le _ _ q)
  refine seg_execs_cons (seg_For ?_)
  unfold ueIter
  refine wpAny_Call_NameR (wpAny_Name (Var.glob G6.T rfl (by rfl) rfl (by kernel_rfl) (v := .ref 72) _ _ _ _ s6 (fun _ _ e => e) ?_) (by decide))
  refine callWith_of (P := fun h => (K01 w).In h) (by rfl) (keepsIn72 w) (Calls.evalArgs_plain (Calls.spliced_cons ?_))
  refine wpAny_mono (ev_setCont G6.T (okA.weak (by decide)) (G6.loc (by rfl) G6.ms) hS6) (fun v s7 h7 => ?_) fun _ _ q => q
  obtain ⟨B, rfl, eB, nB, k7⟩ := h7
  have G7 := G6.kp k7
  refine Calls.spliced_cons (wpAny_Name (G7.loc (by rfl) G7.mi _ _ _ _ s7 (fun _ _ e => e) ?_) (by decide))
  refine Calls.spliced_nil ⟨G7.T.K, ?_⟩
  obtain ⟨vs, ⟨nv, eR⟩, rR⟩ := G7.row.lst
  refine wpAny_mono (mk_ff G7.T (okA.weak (by decide)) R B vs nv eR) (fun v s8 h8 => ?_) fun _ _ q => q
  obtain ⟨F, I, d, rfl, eF, ed, eI, nF, nI, hd7, k8⟩ := h8
  have G8 := G7.kp k8
  have k68 := k7.tr k8
  have nB6 : s6.heap.get? B = none := nB
  have nF6 := fresh_le k7.le nF
  have nI6 := fresh_le k7.le nI
  have alC : s7.heap.get? C ≠ none := by obtain ⟨o, _, _, e, _⟩ := G7.ns; exact some_ne e
  have alC6 : s6.heap.get? C ≠ none := by obtain ⟨o, _, _, e, _⟩ := G6.ns; exact some_ne e
  refine ff_iter G8.T (okA.weak (by decide)) eF ed fun s9 k9 => ?_
  intro p
  have G9 := G8.kp k9
  refine seg_none ok hfr (by rfl) hF ⟨fun z => old6 _ z nF6, fun z => old6 _ z nI6, fun z => old6 _ z nB6, fun z => old6 _ z (fresh_le k7.le hd7)⟩ ⟨fun z => alC (by rw [← z]; exact nF), fun z => alC (by rw [← z]; exact nI), fun z => alC6 (by rw [← z]; exact nB6), fun z => alC (by rw [← z]; exact hd7)⟩ n 0 _ xs s s9 _ G9 hO (k9.le _ _ eF) (k9.le _ _ ed) (k9.le _ _ (k8.le _ _ eB)) ⟨_, k9.le _ _ eI, rfl, rfl⟩ (Nat.zero_le _) fun j y hj => absurd hj (Nat.not_lt_zero _)

/-- the generator with a key, from its start -/
theorem seg_ueK {f : Str → Str} {ka : Addr} (ok : OkA 112 A) (fo : ∀ h, TopH w h → FoldOk w h ka f) (T : TopH w s.heap) (hns : s.heap.Ns C m) (hi : m "iterable" = some (.ref R)) (hk : m "key" = some (.ref ka)) (hse : m "seen" = none) (row : RowAt s.heap R xs) (hOld : ∀ b, O b → s.heap.get? b ≠ none) (hOR : O R) (hC : ¬ O C) (hF : ∀ b ∈ framesOf outer, O b)
    (lk : (∀ a o, (K01 w).lookup a = some o → O a) ∧ O builtinsNs ∧ O mainGlobals ∧ O cStatics) (hf : cnt f (fun _ => false) ≤ n) (hn : n ≤ 50) :
    Seg (model pw w) A (GR w f O C R outer) (GY w f O C R outer) n s (.func (fbody (stOf 5)) (envUe C)) ((model pw w).den (.func (fbody (stOf 5)) (envUe C))) [] s := by
  have okA := overOk0 (env := envUe C) (body := fbody (stOf 5)) ok
  refine seg_func ?_
  generalize hb : fbody (stOf 5) = body at *
  rw [show (execs body (envUe C)) = execs (fbody (stOf 5)) (envUe C) by rw [hb], ue_body]
  refine seg_head (f := f) ok T hns hi hk hse row hOld hOR hC lk hf hn fun Sa BM s5 m5 t G hS5 hOld5 => ?_
  refine seg_execs_cons (seg_If (b := false) ?_)
  refine wpAny_mono ((EvT.isNone (prog := pw) (w := w) (G.loc (by rfl) G.my)) s5 _ fun _ _ e => e) (fun r s6 h6 => ?_) fun _ _ q => q
  obtain ⟨rfl, k6⟩ := h6
  refine ⟨rfl, ?_⟩
  have G6 := G.kp k6
  have old6 : ∀ b, O b → s6.heap.get? b ≠ none := fun b hb => by
    cases q : s5.heap.get? b with
    | none => exact absurd q (hOld5 b hb)
    | some o => exact some_ne (k6.le _ _ q)
  refine seg_execs_cons (seg_For ?_)
  refine wpAny_Name (G6.loc (by rfl) G6.mi _ _ _ _ s6 (fun _ _ e => e) ?_) (by decide)
  obtain ⟨vs, ⟨nv, eR⟩, rR⟩ := G6.row.lst
  refine wpAny_pyIter_list (items := vs) ⟨_, eR, rfl, nv, rfl⟩ ?_
  intro p
  have k7 : Kp s6 { s6 with heap := s6.heap.push { cls := .type "list_iterator", data := .fields #[.ref R, .int 0 0] } } := Kp.of' fun b o e => Heap.get?_push_of_some _ e
  have G7 := G6.kp k7
  have nI := new_none s6.heap
  have alC : s6.heap.get? C ≠ none := by obtain ⟨o, _, _, e, _⟩ := G6.ns; exact some_ne e
  have alS : s6.heap.get? Sa ≠ none := by obtain ⟨o, _, _, _, e, _⟩ := G6.objS; exact some_ne e
  exact seg_key (OkA.weak ok (by decide)) fo (by rfl) hF (fun z => old6 _ z nI) (fun z => alC (by rw [← z]; exact nI)) (fun z => alS (by rw [← z]; exact nI)) n _ 0 _ xs s _ _ (Nat.le_refl _) G7 ⟨_, Heap.get?_push_size _ rfl, rfl, rfl⟩ fun j y hj => absurd hj (Nat.not_lt_zero _)
end
end Mine
end

section
open PySem PySem.W PyProof.Rows PySem.Calls
set_option maxRecDepth 100000
set_option linter.all false
set_option maxHeartbeats 4000000
namespace Mine
open PySem (eval)

/-- the key of a run: none, or a def that folds -/
noncomputable def KeyOk (w : World) (kv : Value) (f : Str → Str) : Prop := (kv = .none ∧ f = fun x => x) ∨ ∃ ka, kv = .ref ka ∧ ∀ h, TopH w h → FoldOk w h ka f

section
variable {w : World} {A : Around} {s : Shared}
theorem ue_call (T : TopH w s.heap) (ok : OkA 114 A) {outer : List Env} (hfr : A.frames = some outer) (hF : ∀ b ∈ framesOf outer, s.heap.get? b ≠ none) {R : Addr} {kv : Value} {f : Str → Str} (ko : KeyOk w kv f) (hR : s.heap.get? R ≠ none) (hf : cnt f (fun _ => false) ≤ 8) :
    codeAny (model pw w) A (.call (.ref 84) ⟨[.ref R, kv], []⟩) (fun r s' => ∃ C G, r = .ok (.ret (.ref G)) ∧ GenAt w A f (fun b => s.heap.get? b ≠ none) C G R outer s.gens.size 8 (fun _ => false) [] s' ∧ Le s.heap s'.heap ∧ s.heap.get? C = none ∧ s.heap.get? G = none ∧ s'.heap.get? C ≠ none ∧
      ∃ h' tk gs, s' = { s with heap := h', toks := tk, gens := s.gens.push gs }) s := by
  refine codeAny_call_generator ok.room (T.K _ _ (K_ue w)) rfl rfl rfl rfl (codeRec_B T.K (by kernel_rfl)) ?_
  have hb : Looks (model pw w) s.heap (bindArgs fdUe ⟨[.ref R, kv], []⟩) [(("iterable" : Str), Value.ref R), (("key" : Str), kv)] := Looks.of_peek T.K (by kernel_rfl)
  refine hb.here ?_
  refine wpAny_newFunctionEnv (show ∀ x ∈ fdUe.scope.names, x.2 ≠ NameKind.cell by decide) (fun y hy => ?_) (fun h₁ hns hsb => ⟨T.nl.fresh _ hsb, ?_⟩) rfl
  · rcases List.mem_cons.mp hy with rfl | hy
    · rfl
    rcases List.mem_singleton.mp hy with rfl
    rfl
  have hk₁ : Le s.heap h₁ := fun b o e => hsb.extBut b o (Nat.ne_of_lt (Heap.lt_size e)) (Heap.get?_push_of_some _ e)
  have nC := new_none s.heap
  generalize hC : s.heap.objs.size = C at *
  dsimp only
  have hG : s.heap.get? h₁.objs.size = none := by
    refine size_none ?_
    have := hsb.1
    rw [Heap.size_push] at this
    omega
  have kp : ∀ (o : Obj) b ob, h₁.get? b = some ob → (h₁.push o).get? b = some ob := fun o b ob e => Heap.get?_push_of_some _ e
  have hGC : h₁.objs.size ≠ C := by
    have := hsb.1
    rw [Heap.size_push] at this
    omega
  refine ⟨C, h₁.objs.size, rfl, ⟨⟨_, _, _, Heap.get?_push_size _ rfl, rfl, rfl, rfl⟩, ⟨fun z => z hG, hGC⟩, ⟨_, hns.push _, .inl ⟨by rfl, rfl⟩⟩, hf, ?_⟩, hk₁.trans (kp _), nC, hG, ?_, _, _, _, rfl⟩
  · refine ⟨_, Array.getElem?_push_size .., fun s'' ys kf T'' hO'' row'' => ⟨rfl, ?_⟩⟩
    have lk : (∀ a o, (K01 w).lookup a = some o → s.heap.get? a ≠ none) ∧ s.heap.get? builtinsNs ≠ none ∧ s.heap.get? mainGlobals ≠ none ∧ s.heap.get? cStatics ≠ none :=
      ⟨fun a o e => some_ne (T.K a o e), by obtain ⟨mb, ⟨o, es, ep, e, r⟩, z⟩ := T.b; exact some_ne e, by obtain ⟨mg, o, es, ep, e, r⟩ := T.g; exact some_ne e, by obtain ⟨mc, ⟨o, es, ep, e, r⟩, z⟩ := T.nl; exact some_ne e⟩
    have hns'' : s''.heap.Ns C _ := (hns.push _).at' fun o e => kf.1 _ _ (fun z => z nC) e
    rcases ko with ⟨rfl, rfl⟩ | ⟨ka, rfl, fo⟩
    · exact seg_ueN (xs := [] ++ ys) (A := A.in1) (OkA.in1 (n := 113) ok |>.weak (by decide)) hfr T'' hns'' (by rfl) (by rfl) (by rfl) row'' (fun b hb => kf.2 b hb) hR (fun z => z nC) hO'' hF lk hf (by decide)
    · exact seg_ueK (xs := [] ++ ys) (A := A.in1) (OkA.in1 (n := 113) ok |>.weak (by decide)) fo T'' hns'' (by rfl) (by rfl) (by rfl) row'' (fun b hb => kf.2 b hb) hR (fun z => z nC) hF lk hf (by decide)
  · obtain ⟨o, es, ep, e, _⟩ := hns
    exact some_ne (kp _ _ _ e)
end
end Mine
end

section
open PySem PySem.W PyProof.Rows PySem.Calls
set_option maxRecDepth 100000
set_option linter.all false
set_option maxHeartbeats 4000000
namespace Mine
open PySem (eval)

section
variable {w : World} {A : Around} {E : Value → Shared → Prop} {env : Env} {s : Shared}
/-- `row.extend(e)` as a statement -/
theorem exec_extend {x : Str} {p ap cp ep : Pos} {elt : Expr} {R : Addr} {Q : Flow → Shared → Prop} (v : Var env s.heap x (.ref R)) (hR : ∃ its n, s.heap.get? R = some ⟨.type "list", none, .seq its n, #[]⟩)
    (h : wpAny (model pw w) A (eval elt env) (fun r s₁ => ∃ b items items2 n n2, items.size + items2.size ≤ sizeLine ∧ r = .ref b ∧ s₁.heap.get? R = some ⟨.type "list", none, .seq items n, #[]⟩ ∧ s₁.heap.get? b = some ⟨.type "list", none, .seq items2 n2, #[]⟩ ∧
      ∀ h' n', Heap.ExtBut R s₁.heap h' → h'.get? R = some ⟨.type "list", none, .seq (items ++ items2) n', #[]⟩ → Q .next { s₁ with heap := h' }) E s)
    (hstar : isStar elt = false) (hx : (x == ("__debug__" : Str)) = false) (hbase : attributeBase (.Name x p) "extend" env (eval (.Name x p) env) = eval (.Name x p) env) (hline : (ap.endLine == cp.line) = true)
    (hfew : ∀ t, methodCallForm 1 [(false, t)] [] = true) (hi : interactive env = false) (hsw : swapsWith (.Call (.Attribute (.Name x p) "extend" ap) [elt] [] cp) none ep.line env = pure false) :
    wpAny (model pw w) A (exec (.Expr (.Call (.Attribute (.Name x p) "extend" ap) [elt] [] cp) ep) env) Q E s := by
  obtain ⟨its0, n0, e0⟩ := hR
  have htr : backTo cp (starEach [elt] env) = [(false, eval elt env)] := by rw [starEach_cons hstar]; rfl
  refine wpAny_Expr (call_meth htr (wpAny_Name (v _ _ _ _ s (fun _ _ e => e) ?_) hx) hbase (hfew _) hline) hi hsw
  intro pl
  refine getMethod_builtin (T := "list") ⟨_, e0, rfl⟩ PySem.F.plainAttrs_list PySem.F.slot_list_extend PySem.F.type_list_extend (fun a e => by cases e; exact ⟨_, e0, rfl⟩) ?_
  refine Calls.callWith_builtin (by rfl) (Calls.evalArgs_plain (Calls.spliced_cons (wpAny_mono h (fun r s₁ h₁ => ?_) fun _ _ q => q)))
  obtain ⟨b, items, items2, n, n2, hsz, rfl, e1, e2, hq⟩ := h₁
  refine Calls.spliced_nil ?_
  refine call_meets PySem.F.slot_list_extend ⟨_, e1, rfl⟩ PySem.F.entry_list_extend (PySem.F.args_list_extend_2 _ _) (AutoSeq1.list_extend_list_list_0 R items n b items2 n2 (extend_door hsz) (by omega) (by omega)) ⟨e1, e2, ?_⟩
  exact hq _ _ (Heap.SameBut.update ..).extBut (by rw [Heap.get?_update_self _ e1 (by rw [mapSeq_app]; rfl), mapSeq_app])
end
end Mine
end

section
open PySem PySem.W PyProof.Rows PySem.Calls
set_option maxRecDepth 100000
set_option linter.all false
set_option maxHeartbeats 4000000
namespace Mine
open PySem (eval)

noncomputable abbrev Lr (N : Nat) : Addr := (envRun N).locals
/-- what a walk may change: the frame, the book, the row, the walk -/
noncomputable def MuW (N : Nat) (B R W : Addr) (b : Addr) : Prop := b = Lr N ∨ b = B ∨ b = R ∨ b = W
noncomputable def KMu (Mu : Addr → Prop) (h h' : Heap) : Prop := ∀ b o, ¬ Mu b → h.get? b = some o → h'.get? b = some o
theorem KMu.refl (Mu : Addr → Prop) (h : Heap) : KMu Mu h h := fun _ _ _ e => e
theorem KMu.trans {Mu : Addr → Prop} {a b c : Heap} (x : KMu Mu a b) (y : KMu Mu b c) : KMu Mu a c := fun i o n e => y i o n (x i o n e)
theorem KMu.of_le {Mu : Addr → Prop} {a b : Heap} (k : Le a b) : KMu Mu a b := fun i o _ e => k i o e
theorem KMu.of_but {Mu : Addr → Prop} {a : Addr} {h h' : Heap} (k : Heap.ExtBut a h h') (m : Mu a) : KMu Mu h h' := fun i o n e => k i o (fun q => n (q ▸ m)) e
/-- the K facts lie outside of what may change -/
noncomputable def KOut (w : World) (Mu : Addr → Prop) : Prop := (∀ a o, (K01 w).lookup a = some o → ¬ Mu a) ∧ ¬ Mu builtinsNs ∧ ¬ Mu mainGlobals ∧ ¬ Mu cStatics
theorem top_kmu {w : World} {Mu : Addr → Prop} {h h' : Heap} (T : TopH w h) (k : KMu Mu h h') (ko : KOut w Mu) : TopH w h' := top_chg (O := fun b => ¬ Mu b) T (fun b o e n => k b o n e) ko.1 ko.2

/-- the state of `_law_run` amid a walk -/
structure WSt (w : World) (fz : Bool) (f : Str → Str) (N : Nat) (B bd R W fa : Addr) (bk : Bk) (xs acc : List Str) (m : Str → Option Value) (s : Shared) : Prop where
  ns : s.heap.Ns (Lr N) m
  T : TopH w s.heap
  st : BookSt w s.heap B bd bk
  bdk : BdOk w fz s.heap B bd
  gv : ∀ e ∈ bkV bk, (∀ v ∈ e.2, v ∈ names8) ∧ e.2.length ≤ 100
  row : RowAt s.heap R xs
  wl : ∃ its, s.heap.PlainList W its ∧ RDs s.heap (fun _ => False) its.toList (acc.map .str)
  mb : m "book" = some (.ref B)
  mr : m "row" = some (.ref R)
  mw : m "walk" = some (.ref W)
  mf : m "fold" = some (.ref fa)
  hB : B ≠ bd
  lB : Lr N ≠ B
  lR : Lr N ≠ R
  lW : Lr N ≠ W
  bR : B ≠ R
  bW : B ≠ W
  rW : R ≠ W
  dM : ¬ MuW N B R W bd
  nl : ∀ e ∈ bk, ¬ MuW N B R W e.2.1
  ko : KOut w (MuW N B R W)

section
variable {w : World} {M : Model} {A : Around} {E : Value → Shared → Prop} {fz : Bool} {f : Str → Str} {N : Nat} {B bd R W fa : Addr} {bk : Bk} {xs acc : List Str} {m : Str → Option Value} {s : Shared}
theorem BdOk.kmu {h h' : Heap} (x : BdOk w fz h B bd) (kd : ∀ o, h.get? bd = some o → h'.get? bd = some o) (k : ∀ b o, (∀ es n, o.data ≠ .dict es n) → (∀ vs n, o.data ≠ .seq vs n) → h.get? b = some o → h'.get? b = some o) : BdOk w fz h' B bd := by
  cases fz with
  | false => exact kd _ x
  | true => obtain ⟨M, tk, e, L⟩ := x; exact ⟨M, tk, kd _ e, L.keep k⟩
theorem WSt.mu_data (x : WSt w fz f N B bd R W fa bk xs acc m s) {b : Addr} {o : Obj} (hm : MuW N B R W b) (e : s.heap.get? b = some o) (h1 : ∀ es n, o.data ≠ .dict es n) (h2 : ∀ vs n, o.data ≠ .seq vs n) : False := by
  rcases hm with q | q | q | q
  · obtain ⟨o', es, ep, e', hd, _⟩ := x.ns
    rw [q, e'] at e; cases e; exact h1 _ _ hd
  · obtain ⟨l, ep, e', _⟩ := x.st.book.at_
    rw [q, e'] at e; cases e; exact h1 _ _ rfl
  · obtain ⟨vs, ⟨n, e'⟩, _⟩ := x.row.lst
    rw [q, e'] at e; cases e; exact h2 _ _ rfl
  · obtain ⟨vs, ⟨n, e'⟩, _⟩ := x.wl
    rw [q, e'] at e; cases e; exact h2 _ _ rfl
/-- nothing but new objects -/
theorem WSt.kp {s' : Shared} (x : WSt w fz f N B bd R W fa bk xs acc m s) (k : Le s.heap s'.heap) : WSt w fz f N B bd R W fa bk xs acc m s' := by
  obtain ⟨its, ⟨n, hp⟩, r⟩ := x.wl
  exact ⟨x.ns.keeps k, x.T.mono k, x.st.keep fun a o _ e => k a o e, x.bdk.kmu (fun o e => k _ _ e) fun b o _ _ e => k _ _ e, x.gv, x.row.keep fun o e => k _ _ e, ⟨its, ⟨n, k _ _ hp⟩, r.le k⟩, x.mb, x.mr, x.mw, x.mf, x.hB, x.lB, x.lR, x.lW, x.bR, x.bW, x.rW, x.dM, x.nl, x.ko⟩
theorem WSt.store {y : Str} {v : Value} {Q : Unit → Shared → Prop} (x : WSt w fz f N B bd R W fa bk xs acc m s) (hl : (envRun N).kindOf y = some .local) (hy : y ≠ "book" ∧ y ≠ "row" ∧ y ≠ "walk" ∧ y ≠ "fold")
    (hQ : ∀ s', WSt w fz f N B bd R W fa bk xs acc (fun z => if z = y then some v else m z) s' → Heap.ExtBut (Lr N) s.heap s'.heap → (∃ h' tk, s' = { s with heap := h', toks := tk }) → Q () s') : wpAny M A (storeName (envRun N) y v) Q E s := by
  refine wpAny_storeName_local hl x.ns fun h' hn hs => hQ _ ?_ hs.extBut ⟨_, _, rfl⟩
  have k := hs.extBut
  have k2 : KMu (MuW N B R W) s.heap h' := .of_but k (.inl rfl)
  obtain ⟨its, ⟨n, hp⟩, r⟩ := x.wl
  have hm : ∀ z : Str, z ≠ y → (fun z => if z = y then some v else m z) z = m z := fun z hz => if_neg hz
  refine ⟨hn, top_kmu x.T k2 x.ko, x.st.keep fun a o hm e => k a o (fun z => ?_) e, x.bdk.kmu (fun o e => k2 _ _ x.dM e) fun b o h1 h2 e => k2 _ _ (fun hm => x.mu_data hm e h1 h2) e, x.gv, x.row.keep fun o e => k _ _ (Ne.symm x.lR) e,
    ⟨its, ⟨n, k _ _ (Ne.symm x.lW) hp⟩, r.mono (fun _ _ s _ => s.elim) fun _ s => s⟩, ?_, ?_, ?_, ?_, x.hB, x.lB, x.lR, x.lW, x.bR, x.bW, x.rW, x.dM, x.nl, x.ko⟩
  · rcases hm with q | ⟨g, hg, q⟩
    · exact x.lB (z.symm.trans q)
    · exact x.nl g hg (.inl (q.trans z))
  · exact (if_neg (Ne.symm hy.1)).trans x.mb
  · exact (if_neg (Ne.symm hy.2.1)).trans x.mr
  · exact (if_neg (Ne.symm hy.2.2.1)).trans x.mw
  · exact (if_neg (Ne.symm hy.2.2.2)).trans x.mf
theorem WSt.loc (x : WSt w fz f N B bd R W fa bk xs acc m s) {y : Str} {v : Value} (hy : (envRun N).kindOf y = some .local) (hv : m y = some v) : Var (envRun N) s.heap y v := Var.loc rfl hy x.ns hv

theorem getV_good {bv : List (Str × List Str)} {x : Str} (g : ∀ e ∈ bv, (∀ v ∈ e.2, v ∈ names8) ∧ e.2.length ≤ 100) : (∀ v ∈ getV bv x, v ∈ names8) ∧ (getV bv x).length ≤ 100 := by
  unfold getV
  cases q : bv.find? fun e => e.1 == x with
  | none => exact ⟨fun v hv => by simp at hv, by simp⟩
  | some e => exact g e (List.mem_of_find?_eq_some q)
theorem touch_good {bv : List (Str × List Str)} {x : Str} (g : ∀ e ∈ bv, (∀ v ∈ e.2, v ∈ names8) ∧ e.2.length ≤ 100) : ∀ e ∈ touchV bv x, (∀ v ∈ e.2, v ∈ names8) ∧ e.2.length ≤ 100 := by
  unfold touchV
  split
  · exact g
  · intro e he
    rcases List.mem_append.mp he with he | he
    · exact g e he
    · rw [List.mem_singleton.mp he]; exact ⟨fun v hv => by simp at hv, by simp⟩

/-- one turn of a walk: the name is told, its arrows are put on the row -/
theorem walk_turn (ok : OkA 107 A) (fo : ∀ h, TopH w h → FoldOk w h fa f) {x : Str} {t : Tok} {Q : Flow → Shared → Prop} (X : WSt w fz f N B bd R W fa bk xs acc m s) (hn : m "name" = some (.str x t)) (hx : x ∈ names8) (hxs : xs.length ≤ 2000) (hacc : acc.length ≤ 100) (hbk : bk.length ≤ 1000)
    (hQ : ∀ bk' s', WSt w fz f N B bd R W fa bk' (xs ++ getV (bkV bk) (f x)) (acc ++ [x]) m s' → bkV bk' = (if fz = true then bkV bk else touchV (bkV bk) (f x)) → KMu (MuW N B R W) s.heap s'.heap → (∃ h' tk, s' = { s with heap := h', toks := tk }) → (∀ e ∈ bk', e ∈ bk ∨ s.heap.get? e.2.1 = none) → Q .next s') :
    wpAny (model pw w) A (execs [.Expr (.Call (.Attribute (.Name "walk" ⟨192, 12, 192, 16⟩) "append" ⟨192, 12, 192, 23⟩) [.Name "name" ⟨192, 24, 192, 28⟩] [] ⟨192, 12, 192, 29⟩) ⟨192, 12, 192, 29⟩,
      .Expr (.Call (.Attribute (.Name "row" ⟨193, 12, 193, 15⟩) "extend" ⟨193, 12, 193, 22⟩) [.Subscript (.Name "book" ⟨193, 23, 193, 27⟩) (.Call (.Name "fold" ⟨193, 28, 193, 32⟩) [.Name "name" ⟨193, 33, 193, 37⟩] [] ⟨193, 28, 193, 38⟩) ⟨193, 23, 193, 39⟩] [] ⟨193, 12, 193, 40⟩) ⟨193, 12, 193, 40⟩] (envRun N)) Q E s := by
  obtain ⟨its, hpl, rW⟩ := X.wl
  have vn : Var (envRun N) s.heap "name" (.str x t) := X.loc (by rfl) hn
  have hlen : its.size ≤ sizeLine := by
    rw [← Array.length_toList, rW.length, List.length_map]
    exact Nat.le_trans hacc (by decide)
  refine wpAny_execs_cons (exec_append (h := s.heap) (o := .Name "walk" ⟨192, 12, 192, 16⟩) (S := fun _ => False) (d := .str x) (X.loc (by rfl) X.mw) hpl (EvD.name vn (.str x t)) hlen (fun y h1 tk1 hx1 hl1 hy => ?_) (by rfl) (by rfl) (by rfl) (by rfl) (by rfl) (by decide))
  have ry : RD h1 (fun _ => False) y (.str x) := by
    have := hy (fun _ => True) (fun _ _ _ => trivial) id
    cases this
    exact .str _ _
  have k1 : KMu (MuW N B R W) s.heap h1 := .of_but hx1 (.inr (.inr (.inr rfl)))
  have X1 : WSt w fz f N B bd R W fa bk xs (acc ++ [x]) m { s with heap := h1, toks := tk1 } := by
    refine ⟨X.ns.at' fun o e => hx1 _ _ X.lW e, top_kmu X.T k1 X.ko, X.st.keep fun a o hm e => hx1 a o (fun z => ?_) e, X.bdk.kmu (fun o e => k1 _ _ X.dM e) fun b o h1 h2 e => k1 _ _ (fun hm => X.mu_data hm e h1 h2) e, X.gv, X.row.keep fun o e => hx1 _ _ X.rW e,
      ⟨_, hl1, ?_⟩, X.mb, X.mr, X.mw, X.mf, X.hB, X.lB, X.lR, X.lW, X.bR, X.bW, X.rW, X.dM, X.nl, X.ko⟩
    · rcases hm with q | ⟨g, hg, q⟩
      · exact X.bW (q.symm.trans z)
      · exact X.nl g hg (.inr (.inr (.inr (q.trans z))))
    · rw [Array.toList_push, List.map_append]
      exact (rW.mono (fun _ _ s _ => s.elim) fun _ s => s).append (.cons ry .nil)
  generalize hs1 : ({ s with heap := h1, toks := tk1 } : Shared) = s1 at X1
  have k1 : KMu (MuW N B R W) s.heap s1.heap := by rw [← hs1]; exact k1
  have sh1 : ∃ h' tk, s1 = { s with heap := h', toks := tk } := ⟨h1, tk1, hs1.symm⟩
  have F1 := fo s1.heap X1.T
  have vn1 : Var (envRun N) s1.heap "name" (.str x t) := X1.loc (by rfl) hn
  have evf : EvD pw w A (envRun N) s1.heap (fun _ => False) (.Call (.Name "fold" ⟨193, 28, 193, 32⟩) [.Name "name" ⟨193, 33, 193, 37⟩] [] ⟨193, 28, 193, 38⟩) (.str (f x)) :=
    EvD.call (X1.loc (by rfl) X1.mf) F1.isFn (.cons (EvD.name vn1 (.str x t)) .nil rfl) (by simp) (F1.spec x hx) (ok.weak (by decide))
  obtain ⟨rvs, ⟨rn, eR⟩, rR⟩ := X1.row.lst
  refine wpAny_execs_cons (exec_extend (X1.loc (by rfl) X1.mr) ⟨_, _, eR⟩ (wpAny_mono (ev_item X1.T (ok.weak (by decide)) (X1.loc (by rfl) X1.mb) X1.st X1.bdk X1.hB (Nat.le_trans hbk (by decide)) evf) (fun r s2 h2 => ?_) fun _ _ q => q) (by rfl) (by decide) (by rfl) (by rfl) (fun _ => rfl) (by rfl) (by rfl))
  obtain ⟨a, rfl, ⟨⟨its2, ⟨n2, ea⟩, ra⟩, ⟨bk', hb', hbv, hbn⟩, hnew, hsh2, hx2, hle2⟩⟩ := h2
  have gg := getV_good (x := f x) X.gv
  have eR2 := hx2 _ _ (Ne.symm X.bR) eR
  have hsz : rvs.size + its2.size ≤ sizeLine := by
    have h1 := rR.length
    have h2 := ra.length
    rw [List.length_map, Array.length_toList] at h1 h2
    have h3 : (2100 : Nat) ≤ sizeLine := by decide
    have := gg.2
    omega
  refine ⟨a, rvs, its2, rn, n2, hsz, rfl, eR2, ea, fun h3 n3 hx3 e3 => wpAny_execs_nil ?_⟩
  have aliveMu : ∀ b, MuW N B R W b → s1.heap.get? b ≠ none := fun b hb => by
    rcases hb with q | q | q | q
    · obtain ⟨o, _, _, e, _⟩ := X1.ns; rw [q]; exact some_ne e
    · obtain ⟨l, ep, e, _⟩ := X1.st.book.at_; rw [q]; exact some_ne e
    · rw [q]; exact some_ne eR
    · obtain ⟨_, ⟨_, e⟩, _⟩ := X1.wl; rw [q]; exact some_ne e
  have nl' : ∀ e ∈ bk', ¬ MuW N B R W e.2.1 := fun e he hm => by
    rcases hbn e he with h | h
    · exact X1.nl e h hm
    · exact aliveMu _ hm h
  have k2 : KMu (MuW N B R W) s1.heap s2.heap := .of_but hx2 (.inr (.inl rfl))
  have k3 : KMu (MuW N B R W) s2.heap h3 := .of_but hx3 (.inr (.inr (.inl rfl)))
  have k13 := k2.trans k3
  have X1bdk := X1.bdk.kmu (h' := h3) (fun o e => k13 _ _ X1.dM e) fun b o h1 h2 e => k13 _ _ (fun hm => X1.mu_data hm e h1 h2) e
  obtain ⟨wits, ⟨wn, eW⟩, wr⟩ := X1.wl
  refine hQ bk' { s2 with heap := h3 } ⟨(X1.ns.at' fun o e => hx3 _ _ X1.lR (hx2 _ _ X1.lB e)), top_kmu X1.T k13 X1.ko, hb'.keep fun c o hm e => hx3 c o (fun z => ?_) e, X1bdk, ?_, ⟨⟨_, ⟨n3, e3⟩, ?_⟩, fun y hy => ?_⟩, ⟨wits, ⟨wn, hx3 _ _ (Ne.symm X1.rW) (hx2 _ _ (Ne.symm X1.bW) eW)⟩, wr.mono (fun _ _ s _ => s.elim) fun _ s => s⟩, X1.mb, X1.mr, X1.mw, X1.mf, X1.hB, X1.lB, X1.lR, X1.lW, X1.bR, X1.bW, X1.rW, X1.dM, nl', X1.ko⟩ hbv (k1.trans k13) ?_ fun e he => (hbn e he).imp id fun z => ?_
  · rcases hm with q | ⟨g, hg, q⟩
    · exact X1.bR (q.symm.trans z)
    · exact nl' g hg (.inr (.inr (.inl (q.trans z))))
  · rw [hbv]
    cases fz with
    | true => exact X.gv
    | false => exact touch_good X.gv
  · rw [Array.toList_append, List.map_append]
    exact (rR.mono (fun _ _ s _ => s.elim) fun _ s => s).append (ra.mono (fun _ _ s _ => s.elim) fun _ s => s)
  · rcases List.mem_append.mp hy with hy | hy
    · exact X1.row.good y hy
    · exact gg.1 y hy
  · obtain ⟨h', tk, e⟩ := hsh2
    obtain ⟨h'', tk'', e'⟩ := sh1
    exact ⟨h3, tk, by rw [e, e']⟩
  · cases q : s.heap.get? e.2.1 with
    | none => rfl
    | some o =>
      by_cases qm : MuW N B R W e.2.1
      · exact absurd z (aliveMu _ qm)
      · rw [k1 _ _ qm q] at z; cases z
end
end Mine
end

section
open PySem PySem.W PyProof.Rows PySem.Calls
set_option maxRecDepth 100000
set_option linter.all false
set_option maxHeartbeats 4000000
namespace Mine
open PySem (eval)

noncomputable def walkF (f : Str → Str) (fz : Bool) : Nat → (Str → Bool) → List Str → List Str → List (Str × List Str) → List Str × List (Str × List Str)
  | 0, _, _, acc, bv => (acc, bv)
  | n + 1, S, xs, acc, bv => match fresh? f S xs with
    | none => (acc, bv)
    | some x => walkF f fz n (addS S (f x)) (xs ++ getV bv (f x)) (acc ++ [x]) (if fz = true then bv else touchV bv (f x))
theorem walkF_none {f : Str → Str} {fz : Bool} {n : Nat} {S : Str → Bool} {xs acc : List Str} {bv : List (Str × List Str)} (h : fresh? f S xs = none) : walkF f fz n S xs acc bv = (acc, bv) := by
  cases n with
  | zero => rfl
  | succ n => unfold walkF; rw [h]

section
variable {w : World} {fz : Bool} {f : Str → Str} {N : Nat} {B bd R W fa : Addr} {bk : Bk} {xs acc : List Str} {m : Str → Option Value} {s s' : Shared} {O : Addr → Prop} {C : Addr} {Fs : List Addr}
/-- the reader's state outlives what the generator does -/
theorem WSt.chgF (X : WSt w fz f N B bd R W fa bk xs acc m s) (hc : ChgF O Fs C s.heap s'.heap) (hC : ¬ O C) (hCN : ∃ mc, s.heap.Ns C mc) (hMO : ∀ b, MuW N B R W b → O b) (hFB : B ∉ Fs ∧ R ∉ Fs ∧ W ∉ Fs) (hFl : ∀ e ∈ bk, e.2.1 ∉ Fs) (lk : (∀ a o, (K01 w).lookup a = some o → O a ∧ a ∉ Fs) ∧ (O builtinsNs ∧ builtinsNs ∉ Fs) ∧ (O mainGlobals ∧ mainGlobals ∉ Fs) ∧ (O cStatics ∧ cStatics ∉ Fs))
    (hbd : BdOk w fz s'.heap B bd) : WSt w fz f N B bd R W fa bk xs acc m s' := by
  have keep : ∀ b o, O b → b ∉ Fs → s.heap.get? b = some o → s'.heap.get? b = some o := fun b o hb hF e => (hc b o e (fun q => hC (q ▸ hb))).2 hF (.inl hb)
  have hL : ∀ o, s.heap.get? (Lr N) = some o → ∃ sl, s'.heap.get? (Lr N) = some { o with slots := sl } := fun o e => by
    have hb := hMO (Lr N) (.inl rfl)
    by_cases q : Lr N ∈ Fs
    · exact (hc _ o e (fun q => hC (q ▸ hb))).1 q
    · exact ⟨o.slots, keep _ _ hb q e⟩
  obtain ⟨its, ⟨n, hp⟩, r⟩ := X.wl
  refine ⟨?_, top_chg (O := fun b => O b ∧ b ∉ Fs) X.T (fun b o e z => keep b o z.1 z.2 e) lk.1 lk.2, X.st.keep fun a o hm e => ?_, hbd, X.gv, X.row.keep fun o e => keep _ _ (hMO _ (.inr (.inr (.inl rfl)))) hFB.2.1 e, ⟨its, ⟨n, keep _ _ (hMO _ (.inr (.inr (.inr rfl)))) hFB.2.2 hp⟩, r.mono (fun _ _ s _ => s.elim) fun _ s => s⟩,
    X.mb, X.mr, X.mw, X.mf, X.hB, X.lB, X.lR, X.lW, X.bR, X.bW, X.rW, X.dM, X.nl, X.ko⟩
  · obtain ⟨o, es, ep, e, hd, r⟩ := X.ns
    obtain ⟨sl, e'⟩ := hL o e
    exact ⟨_, es, ep, e', hd, r⟩
  · rcases hm with q | ⟨g, hg, q⟩
    · rw [q] at e ⊢; exact keep _ _ (hMO _ (.inr (.inl rfl))) hFB.1 e
    · rw [← q] at e ⊢
      obtain ⟨it, ⟨nn, hpl⟩, _⟩ := X.st.lst g hg
      rw [hpl] at e; cases e
      obtain ⟨mc, oC, es, ep, eC, hdC, _⟩ := hCN
      have hne : g.2.1 ≠ C := fun z => by rw [z, eC] at hpl; cases hpl; cases hdC
      exact (hc _ _ hpl hne).2 (hFl g hg) (.inr ⟨fun _ _ _ z => by (cases z), (show Value.type "list" ≠ Value.type "list_iterator" by decide)⟩)
end

theorem StAt.keep {w : World} {O : Addr → Prop} {C : Addr} {S : Str → Bool} {h h' : Heap} (x : StAt w O h C S) (hC : ¬ O C) (k : KeepFrom O h h') : StAt w O h' C S := by
  obtain ⟨m, hm, x⟩ := x
  exact ⟨m, hm.at' fun o e => k.1 _ _ hC e, x.imp id fun ⟨Sa, n, e1, hO, o, es, ep, t, e, r⟩ => ⟨Sa, n, e1, hO, o, es, ep, t, k.1 _ _ hO e, r⟩⟩
theorem GenAt.keep {w : World} {A : Around} {f : Str → Str} {O : Addr → Prop} {C G R : Addr} {outer : List Env} {g n : Nat} {S : Str → Bool} {xs : List Str} {s s' : Shared} (x : GenAt w A f O C G R outer g n S xs s) (hC : ¬ O C) (k : KeepFrom O s.heap s'.heap) (hg : s'.gens = s.gens) : GenAt w A f O C G R outer g n S xs s' := by
  obtain ⟨o, nm, qn, ho, r⟩ := x.gen
  obtain ⟨gs, e, hgo⟩ := x.go
  exact ⟨⟨o, nm, qn, k.1 _ _ x.cg.1 ho, r⟩, x.cg, x.st.keep hC k, x.fuel, gs, by rw [hg]; exact e, fun s'' ys kf T hO row => hgo s'' ys ⟨fun b o hb e => kf.1 b o hb (k.1 b o hb e), kf.2⟩ T hO row⟩
end Mine
end

section
open PySem PySem.W PyProof.Rows PySem.Calls
set_option maxRecDepth 100000
set_option linter.all false
set_option maxHeartbeats 4000000
namespace Mine
open PySem (eval)

noncomputable def walkBody : List Stmt := [.Expr (.Call (.Attribute (.Name "walk" ⟨192, 12, 192, 16⟩) "append" ⟨192, 12, 192, 23⟩) [.Name "name" ⟨192, 24, 192, 28⟩] [] ⟨192, 12, 192, 29⟩) ⟨192, 12, 192, 29⟩,
      .Expr (.Call (.Attribute (.Name "row" ⟨193, 12, 193, 15⟩) "extend" ⟨193, 12, 193, 22⟩) [.Subscript (.Name "book" ⟨193, 23, 193, 27⟩) (.Call (.Name "fold" ⟨193, 28, 193, 32⟩) [.Name "name" ⟨193, 33, 193, 37⟩] [] ⟨193, 28, 193, 38⟩) ⟨193, 23, 193, 39⟩] [] ⟨193, 12, 193, 40⟩) ⟨193, 12, 193, 40⟩]
noncomputable def walkFor : Stmt := .For (.Name "name" ⟨191, 12, 191, 16⟩) (.Call (.Name "unique_everseen" ⟨191, 20, 191, 35⟩) [.Name "row" ⟨191, 36, 191, 39⟩, .Name "key" ⟨191, 41, 191, 44⟩] [] ⟨191, 20, 191, 45⟩) walkBody [] ⟨191, 8, 193, 40⟩

theorem set_push {α : Type} (a : Array α) (x y : α) : (a.push x).setIfInBounds a.size y = a.push y := by
  apply Array.ext'
  simp
/-- the frames around `_law_run` -/
structure Around1 (w : World) (h : Heap) (outer : List Env) : Prop where
  ok : OuterOk h outer
  ns : ∀ b ∈ framesOf outer, ∃ ml, h.Ns b ml
  kf : (∀ a o, (K01 w).lookup a = some o → a ∉ framesOf outer) ∧ builtinsNs ∉ framesOf outer ∧ mainGlobals ∉ framesOf outer ∧ cStatics ∉ framesOf outer

/-- all stands but what `Mu` takes; frames may have been looked at -/
noncomputable def KFr (Mu : Addr → Prop) (Fs : List Addr) (h h' : Heap) : Prop := ∀ b o, ¬ Mu b → h.get? b = some o → (b ∈ Fs → ∃ sl, h'.get? b = some { o with slots := sl }) ∧ (b ∉ Fs → h'.get? b = some o)

section
variable {w : World} {A : Around} {E : Value → Shared → Prop} {fz : Bool} {f : Str → Str} {N : Nat} {B bd R W fa : Addr} {bk : Bk} {xs : List Str} {m : Str → Option Value} {s : Shared} {outer : List Env} {kv : Value}
theorem walk_loop (ok : OkA 116 A) (fo : ∀ h, TopH w h → FoldOk w h fa f) (ko : KeyOk w kv f) (hfr : A.frames = some (envRun N :: outer)) (X : WSt w fz f N B bd R W fa bk xs [] m s) (hkey : m "key" = some kv) (AR : Around1 w s.heap outer) (hLk : (∀ a o, (K01 w).lookup a = some o → a ≠ Lr N) ∧ builtinsNs ≠ Lr N ∧ mainGlobals ≠ Lr N ∧ cStatics ≠ Lr N)
    (hsep : ∀ b ∈ framesOf outer, ¬ MuW N B R W b ∧ b ≠ bd) (hxs : xs.length ≤ 1000) (hbk : bk.length ≤ 500) {Q : Flow → Shared → Prop}
    (hQ : ∀ bk' xs' acc m' s', WSt w fz f N B bd R W fa bk' xs' acc m' s' → (acc, bkV bk') = walkF f fz 8 (fun _ => false) xs [] (bkV bk) → KFr (MuW N B R W) (framesOf outer) s.heap s'.heap → (∀ y : Str, y ≠ "name" → m' y = m y) → (∃ h' tk, s' = { s with heap := h', toks := tk, gens := s.gens.push .finished }) → (∀ e ∈ bk', e ∈ bk ∨ s.heap.get? e.2.1 = none) → Q .next s') :
    wpAny (model pw w) A (exec walkFor (envRun N)) Q E s := by
  unfold walkFor
  have hcnt : cnt f (fun _ => false) ≤ 8 := by
    unfold cnt
    exact Nat.le_trans (List.length_filter_le _ _) (by decide)
  obtain ⟨rvs, ⟨rn, eR⟩, rR⟩ := X.row.lst
  have hFr : framesOf (envRun N :: outer) = Lr N :: framesOf outer := rfl
  have e84 : FnAt 84 s.heap := ⟨_, _, _, _, X.T.K _ _ (K_ue w)⟩
  refine wpAny_For ?_
  refine wpAny_Call_NameR (wpAny_Name (Var.glob X.T rfl (by rfl) rfl (by kernel_rfl) (v := .ref 84) _ _ _ _ s (fun _ _ e => e) ?_) (by decide))
  refine callWith_of (P := FnAt 84) (by rfl) keeps_F (Calls.evalArgs_plain (Calls.spliced_cons ?_))
  refine wpAny_Name (X.loc (by rfl) X.mr _ _ _ _ s (fun _ _ e => e) ?_) (by decide)
  refine Calls.spliced_cons (wpAny_Name (X.loc (by rfl) hkey _ _ _ _ s (fun _ _ e => e) ?_) (by decide))
  refine Calls.spliced_nil ⟨e84, ?_⟩
  have aliveL : s.heap.get? (Lr N) ≠ none := by obtain ⟨o, _, _, e, _⟩ := X.ns; exact some_ne e
  have aliveMu : ∀ {bk : Bk} {xs acc : List Str} {m : Str → Option Value} {s : Shared}, WSt w fz f N B bd R W fa bk xs acc m s → ∀ b, MuW N B R W b → s.heap.get? b ≠ none := fun X b hb => by
    rcases hb with q | q | q | q
    · obtain ⟨o, _, _, e, _⟩ := X.ns; rw [q]; exact some_ne e
    · obtain ⟨l, ep, e, _⟩ := X.st.book.at_; rw [q]; exact some_ne e
    · obtain ⟨_, ⟨_, e⟩, _⟩ := X.row.lst; rw [q]; exact some_ne e
    · obtain ⟨_, ⟨_, e⟩, _⟩ := X.wl; rw [q]; exact some_ne e
  refine wpAny_call (codeAny_mono (ue_call X.T (ok.weak (by decide)) hfr (fun b hb => ?_) ko (some_ne eR) hcnt) fun r s1 h1 => ?_)
  · rw [hFr] at hb
    rcases List.mem_cons.mp hb with rfl | hb
    · exact aliveL
    · obtain ⟨ml, o, _, _, e, _⟩ := AR.ns b hb; exact some_ne e
  obtain ⟨C, G, rfl, ga, k1, nC, nG, aC, h1, tk1, gs1, e1⟩ := h1
  refine wpAny_pyIter_gen ga.gen ?_
  have hCO : ¬ (fun b => s.heap.get? b ≠ none) C := fun z => z nC
  generalize hO : (fun b => s.heap.get? b ≠ none) = O at *
  have hOi : ∀ {b}, s.heap.get? b ≠ none → O b := fun h => by rw [← hO]; exact h
  have hOe : ∀ {b}, O b → s.heap.get? b ≠ none := fun h => by rw [← hO] at h; exact h
  have hMO : ∀ b, MuW N B R W b → O b := fun b hb => hOi (aliveMu X b hb)
  have lk : (∀ a o, (K01 w).lookup a = some o → O a ∧ a ∉ (Lr N :: framesOf outer)) ∧ (O builtinsNs ∧ builtinsNs ∉ (Lr N :: framesOf outer)) ∧ (O mainGlobals ∧ mainGlobals ∉ (Lr N :: framesOf outer)) ∧ (O cStatics ∧ cStatics ∉ (Lr N :: framesOf outer)) := by
    have nn : ∀ {a : Addr}, a ≠ Lr N → a ∉ framesOf outer → a ∉ (Lr N :: framesOf outer) := fun h1 h2 h3 => by
      rcases List.mem_cons.mp h3 with h | h
      · exact h1 h
      · exact h2 h
    refine ⟨fun a o e => ⟨hOi (some_ne (X.T.K a o e)), nn (hLk.1 a o e) (AR.kf.1 a o e)⟩, ⟨?_, nn hLk.2.1 AR.kf.2.1⟩, ⟨?_, nn hLk.2.2.1 AR.kf.2.2.1⟩, ⟨?_, nn hLk.2.2.2 AR.kf.2.2.2⟩⟩
    · obtain ⟨mb, ⟨o, es, ep, e, r⟩, z⟩ := X.T.b; exact hOi (some_ne e)
    · obtain ⟨mg, o, es, ep, e, r⟩ := X.T.g; exact hOi (some_ne e)
    · obtain ⟨mc, ⟨o, es, ep, e, r⟩, z⟩ := X.T.nl; exact hOi (some_ne e)
  have X1 := X.kp (s' := s1) k1
  refine codeAny_forLoop_any (fun k s' => ∃ S xs0 ys acc bk' m', GenAt w A f O C G R (envRun N :: outer) s.gens.size k S xs0 s' ∧ WSt w fz f N B bd R W fa bk' (xs0 ++ ys) acc m' s' ∧ walkF f fz k S (xs0 ++ ys) acc (bkV bk') = walkF f fz 8 (fun _ => false) xs [] (bkV bk) ∧
      KMu (MuW N B R W) s.heap s'.heap ∧ (xs0 ++ ys).length + 100 * k ≤ 2000 ∧ acc.length + k ≤ 100 ∧ bk'.length + k ≤ 1000 ∧ (∃ h' tk gs, s' = { s with heap := h', toks := tk, gens := s.gens.push gs }) ∧ (∀ y : Str, y ≠ "name" → m' y = m y) ∧ ∀ e ∈ bk', e ∈ bk ∨ s.heap.get? e.2.1 = none) ?_ 8
    ⟨_, [], xs, [], bk, m, ga, X1, rfl, KMu.of_le k1, by rw [List.nil_append]; omega, by simp, by omega, ⟨h1, tk1, gs1, e1⟩, fun _ _ => rfl, fun e he => .inl he⟩
  rintro k s2 ⟨S, xs0, ys, acc, bk2, m2, ga2, X2, hw, kmu, hl1, hl2, hl3, ⟨h2, tk2, gs2, e2⟩, hm2, hbn2⟩
  have alive2 : ∀ b, O b → s2.heap.get? b ≠ none := fun b hb => by
    by_cases q : MuW N B R W b
    · exact aliveMu X2 b q
    · cases q2 : s.heap.get? b with
      | none => exact absurd q2 (hOe hb)
      | some o => exact some_ne (kmu b o q q2)
  have hOut : OuterOk s2.heap (envRun N :: outer) := fun env he => by
    rcases List.mem_cons.mp he with rfl | he
    · obtain ⟨o, es, ep, e, hd, _⟩ := X2.ns
      exact ⟨show ScopeKind.function ≠ ScopeKind.module by decide, Lr N, o, rfl, e, fun vs z => by rw [hd] at z; cases z⟩
    · obtain ⟨hk, L, o, hf, ho, hd⟩ := AR.ok env he
      exact ⟨hk, L, o, hf, kmu _ _ (hsep L (List.mem_filterMap.mpr ⟨env, he, hf⟩)).1 ho, hd⟩
  have hCN : ∃ mc, s2.heap.Ns C mc := by obtain ⟨mc, hmc, _⟩ := ga2.st; exact ⟨mc, hmc⟩
  refine wpAny_mono (gen_next ok.hd ok.room X2.T hOut alive2 X2.row ga2) (fun r s3 hr => ?_) fun _ _ q => q
  have hFB : B ∉ (Lr N :: framesOf outer) ∧ R ∉ (Lr N :: framesOf outer) ∧ W ∉ (Lr N :: framesOf outer) := by
    refine ⟨fun z => ?_, fun z => ?_, fun z => ?_⟩
    · rcases List.mem_cons.mp z with z | z
      · exact X.lB z.symm
      · exact (hsep B z).1 (.inr (.inl rfl))
    · rcases List.mem_cons.mp z with z | z
      · exact X.lR z.symm
      · exact (hsep R z).1 (.inr (.inr (.inl rfl)))
    · rcases List.mem_cons.mp z with z | z
      · exact X.lW z.symm
      · exact (hsep W z).1 (.inr (.inr (.inr rfl)))
  have hbdF : bd ∉ (Lr N :: framesOf outer) := fun z => by
    rcases List.mem_cons.mp z with z | z
    · exact X.dM (.inl z)
    · exact (hsep bd z).2 rfl
  have hdF : ∀ {b o}, b ∈ (Lr N :: framesOf outer) → s.heap.get? b = some o → ∃ es n, o.data = .dict es n := fun {b o} hb e => by
    rcases List.mem_cons.mp hb with q | hb
    · obtain ⟨o', es, ep, e', hd, _⟩ := X.ns
      rw [q, e'] at e; cases e; exact ⟨es, ep, hd⟩
    · obtain ⟨ml, o', es, ep, e', hd, _⟩ := AR.ns b hb
      rw [e'] at e; cases e; exact ⟨es, ep, hd⟩
  have hdF2 : ∀ {b o}, b ∈ (Lr N :: framesOf outer) → s2.heap.get? b = some o → ∃ es n, o.data = .dict es n := fun {b o} hb e => by
    rcases List.mem_cons.mp hb with q | hb
    · obtain ⟨o', es, ep, e', hd, _⟩ := X2.ns
      rw [q, e'] at e; cases e; exact ⟨es, ep, hd⟩
    · obtain ⟨ml, o', es, ep, e', hd, _⟩ := AR.ns b hb
      rw [kmu _ _ (hsep b hb).1 e'] at e; cases e; exact ⟨es, ep, hd⟩
  have lstF : ∀ g ∈ bk2, g.2.1 ∉ (Lr N :: framesOf outer) := fun g hg z => by
    obtain ⟨its, ⟨n, hp⟩, _⟩ := X2.st.lst g hg
    obtain ⟨es, n2, hd⟩ := hdF2 z hp
    cases hd
  cases hfr2 : fresh? f S (xs0 ++ ys) with
  | none =>
    rw [hfr2] at hr
    obtain ⟨rfl, hc, h3, tk3, e3⟩ := hr
    rw [hFr] at hc
    refine wpAny_execs_nil ?_
    have hbd3 : BdOk w fz s3.heap B bd := X.bdk.kmu (fun o e => (hc _ _ (kmu _ _ X.dM e) (fun q => hCO (q ▸ hOi (some_ne e)))).2 hbdF (.inl (hOi (some_ne e)))) fun b o h1 h2 e =>
      (hc _ _ (kmu _ _ (fun hm => X.mu_data hm e h1 h2) e) (fun q => hCO (q ▸ hOi (some_ne e)))).2 (fun z => by obtain ⟨es, n, hd⟩ := hdF z e; exact h1 _ _ hd) (.inl (hOi (some_ne e)))
    have X3 := X2.chgF hc hCO hCN hMO hFB lstF lk hbd3
    rw [walkF_none hfr2] at hw
    refine hQ bk2 _ acc m2 s3 X3 hw (fun b o hb e => ?_) hm2 ⟨h3, tk3, ?_⟩ hbn2
    · have hz := hc b o (kmu b o hb e) (fun q => hCO (q ▸ hOi (some_ne e)))
      refine ⟨fun hF => hz.1 (List.mem_cons_of_mem _ hF), fun hF => hz.2 (fun z => ?_) (.inl (hOi (some_ne e)))⟩
      rcases List.mem_cons.mp z with z | z
      · exact hb (.inl z)
      · exact hF z
    · rw [e3, e2]
      simp only [Shared.setGen, set_push]
  | some x =>
    rw [hfr2] at hr
    obtain ⟨t, k', hk', rfl, ga3, hc, h3, tk3, gs3, e3⟩ := hr
    subst hk'
    have hxn : x ∈ names8 := X2.row.good x (List.mem_of_find?_eq_some hfr2)
    have hbd3 : BdOk w fz s3.heap B bd := X.bdk.kmu (fun o e => hc _ _ (kmu _ _ X.dM e) (fun q => hCO (q ▸ hOi (some_ne e))) (.inl (hOi (some_ne e)))) fun b o h1 h2 e =>
      hc _ _ (kmu _ _ (fun hm => X.mu_data hm e h1 h2) e) (fun q => hCO (q ▸ hOi (some_ne e))) (.inl (hOi (some_ne e)))
    have X3 : WSt w fz f N B bd R W fa bk2 (xs0 ++ ys) acc m2 s3 := X2.chgF (Fs := []) (ChgF.of hc fun b hb => nomatch hb) hCO hCN hMO ⟨by simp, by simp, by simp⟩ (fun _ _ => by simp) ⟨fun a o e => ⟨(lk.1 a o e).1, by simp⟩, ⟨lk.2.1.1, by simp⟩, ⟨lk.2.2.1.1, by simp⟩, ⟨lk.2.2.2.1, by simp⟩⟩ hbd3
    have kmu3 : KMu (MuW N B R W) s.heap s3.heap := fun b o hb e => hc b o (kmu b o hb e) (fun q => hCO (q ▸ hOi (some_ne e))) (.inl (hOi (some_ne e)))
    refine wpAny_pure ?_
    refine wpAny_assign_Name (X3.store (by rfl) (by decide) fun s4 X4 x4 sh4 => ?_)
    refine walk_turn (ok.weak (by decide)) fo X4 (upd_eq (m := m2)) hxn (by omega) (by omega) (by omega) fun bk5 s5 X5 hb5 k5 sh5 hbn5 => ?_
    have kmu5 : KMu (MuW N B R W) s3.heap s5.heap := (KMu.of_but x4 (.inl rfl)).trans k5
    refine ⟨k', Nat.lt_succ_self _, addS S (f x), xs0 ++ ys, getV (bkV bk2) (f x), acc ++ [x], bk5, _, ga3.keep hCO ⟨fun b o hb e => kmu5 b o (fun z => hb (hMO b z)) e, fun b hb => ?_⟩ ?_, X5, ?_, kmu3.trans kmu5, ?_, ?_, ?_, ?_, fun y hy => ?_, fun e he => ?_⟩
    · by_cases q : MuW N B R W b
      · exact aliveMu X5 b q
      · cases q2 : s.heap.get? b with
        | none => exact absurd q2 (hOe hb)
        | some o => exact some_ne (kmu5 b o q (kmu3 b o q q2))
    · obtain ⟨h4, tk4, e4⟩ := sh4
      obtain ⟨h5, tk5, e5⟩ := sh5
      rw [e5, e4]
    · rw [← hw]
      conv => rhs; unfold walkF
      rw [hfr2, hb5]
    · have := (getV_good (x := f x) X2.gv).2
      rw [List.length_append]
      omega
    · rw [List.length_append]; simp; omega
    · have h1 : bk5.length ≤ bk2.length + 1 := by
        have e1 : bk5.length = (bkV bk5).length := by unfold bkV; rw [List.length_map]
        have e2 : bk2.length = (bkV bk2).length := by unfold bkV; rw [List.length_map]
        rw [e1, hb5, e2]
        split
        · omega
        · unfold touchV
          split
          · omega
          · rw [List.length_append]; simp
      omega
    · obtain ⟨h4, tk4, e4⟩ := sh4
      obtain ⟨h5, tk5, e5⟩ := sh5
      refine ⟨h5, tk5, gs3, ?_⟩
      rw [e5, e4, e3, e2]
      simp only [Shared.setGen, set_push]
    · exact (if_neg hy).trans (hm2 y hy)
    · rcases hbn5 e he with h | h
      · exact hbn2 e h
      · refine .inr ?_
        cases q : s.heap.get? e.2.1 with
        | none => rfl
        | some o =>
          by_cases qm : MuW N B R W e.2.1
          · exact absurd h (aliveMu X4 _ qm)
          · have q4 := x4 _ _ (fun z => qm (.inl z)) (kmu3 _ _ qm q)
            rw [q4] at h; cases h
end
end Mine
end

section
open PySem PySem.W PyProof.Rows PySem.Calls
set_option maxRecDepth 100000
set_option linter.all false
set_option maxHeartbeats 4000000
namespace Mine
open PySem (eval)

/-- a start of a walk, and its names -/
inductive StartV (h : Heap) : Value → List Str → Prop
  | none : StartV h .none []
  | str (x t) : StartV h (.str x t) [x]
  | pair {a d n x tx y ty} : h.get? a = some ⟨.ref 257, some d, .seq #[.str x tx, .str y ty] n, #[]⟩ → StartV h (.ref a) [x, y]
theorem StartV.keep {h h' : Heap} {v : Value} {ws : List Str} (x : StartV h v ws) (k : ∀ a o, o.cls = .ref 257 → h.get? a = some o → h'.get? a = some o) : StartV h' v ws := by
  cases x with
  | none => exact .none
  | str x t => exact .str x t
  | pair e => exact .pair (k _ _ rfl e)

theorem tupIt_row {w : World} {A : Around} {s : Shared} {E : Value → Shared → Prop} {vs : Array Value} {ws : List Str} {v : Value} {s1 : Shared} (hh : A.handled = none) (P : PostTupIt s vs v s1) (hr : RDs s1.heap (fun _ => False) vs.toList (ws.map .str)) (hg : ∀ x ∈ ws, x ∈ names8) (hz : vs.size ≤ sizeLine) :
    wpAny (model pw w) A (PySem.call (.type "list") [v]) (fun r s' => ∃ R, r = .ref R ∧ s.heap.get? R = none ∧ RowAt s'.heap R ws ∧ Kp s s') E s1 := by
  obtain ⟨I, T, rfl, eI, ⟨o, n, eT, _, hd⟩, nI, hIT, k⟩ := P
  refine list_tupit hh ⟨_, eI, rfl, rfl⟩ ⟨o, n, eT, hd⟩ hIT hz fun L s' hL hk sh hl => ?_
  refine ⟨L, rfl, fresh_le k.le hL, ⟨⟨vs, hl, hr.mono (fun _ _ s _ => s.elim) fun _ s => s⟩, hg⟩, ?_⟩
  have hle : Le s.heap s'.heap := fun b o e => hk b o (fun z => by rw [z, nI] at e; cases e) (k.le b o e)
  obtain ⟨kk, h1, t1, rfl⟩ := k
  obtain ⟨h2, t2, rfl⟩ := sh
  exact ⟨hle, h2, t2, rfl⟩

theorem keep93 (w : World) : keepIn (K01 w) (.ref 93) = true := by kernel_rfl
section
variable {w : World} {A : Around} {E : Value → Shared → Prop} {s : Shared} {env : Env}
/-- `list(always_iterable(start))` -/
theorem ev_row (T : TopH w s.heap) (ok : OkA 102 A) {v : Value} {ws : List Str} {p1 p2 p3 p4 p5 : Pos} (sv : StartV s.heap v ws) (hg : ∀ x ∈ ws, x ∈ names8) (vs : Var env s.heap "start" v) (vl : Var env s.heap "list" (.type "list")) (va : Var env s.heap "always_iterable" (.ref 93)) :
    wpAny (model pw w) A (eval (.Call (.Name "list" p1) [.Call (.Name "always_iterable" p2) [.Name "start" p3] [] p4] [] p5) env) (fun r s' => ∃ R, r = .ref R ∧ s.heap.get? R = none ∧ RowAt s'.heap R ws ∧ Kp s s') E s := by
  refine wpAny_Call_NameR (wpAny_Name (vl _ _ _ _ s (fun _ _ e => e) ?_) (by decide))
  refine PySem.callWith_type (by rfl) (Calls.evalArgs_plain (Calls.spliced_cons ?_))
  refine wpAny_Call_NameR (wpAny_Name (va _ _ _ _ s (fun _ _ e => e) ?_) (by decide))
  refine callWith_of (P := fun h => (K01 w).In h) (by rfl) (keeps_K (keep93 w)) (Calls.evalArgs_plain (Calls.spliced_cons ?_))
  refine wpAny_Name (vs _ _ _ _ s (fun _ _ e => e) ?_) (by decide)
  refine Calls.spliced_nil ⟨T.K, ?_⟩
  have fin : ∀ {u : Array Value} {r : Value} {s1 : Shared}, PostTupIt s u r s1 → RDs s1.heap (fun _ => False) u.toList (ws.map .str) → u.size ≤ sizeLine →
      wpAny (model pw w) A (PySem.spliced []) (fun x s' => wpAny (model pw w) A (PySem.call (.type "list") ([] ++ (r :: x)) []) (fun r s' => ∃ R, r = .ref R ∧ s.heap.get? R = none ∧ RowAt s'.heap R ws ∧ Kp s s') E s') E s1 :=
    fun P hr hz => Calls.spliced_nil (tupIt_row ok.hd P hr hg hz)
  cases sv with
  | none =>
    refine wpAny_mono (ai_none T (ok.weak (by decide))) (fun r s1 P => ?_) fun _ _ q => q
    exact fin P .nil (by decide)
  | str x t =>
    refine wpAny_mono (ai_str T (ok.weak (by decide)) x t) (fun r s1 P => ?_) fun _ _ q => q
    exact fin P (.cons (.str _ _) .nil) (show (1 : Nat) ≤ sizeLine by decide)
  | pair e =>
    refine wpAny_mono (ai_pair T (ok.weak (by decide)) _ _ _ _ e) (fun r s1 P => ?_) fun _ _ q => q
    exact fin P (.cons (.str _ _) (.cons (.str _ _) .nil)) (show (2 : Nat) ≤ sizeLine by decide)
end
end Mine
end

section
open PySem PySem.W PyProof.Rows PySem.Calls
set_option maxRecDepth 100000
set_option linter.all false
set_option maxHeartbeats 4000000
namespace Mine
open PySem (eval)

noncomputable def WkAll (h : Heap) (WS : Addr) : List Value → List (List Str) → Prop
  | [], [] => True
  | v :: vs, a :: as => (∃ b its, v = .ref b ∧ b ≠ WS ∧ h.PlainList b its ∧ RDs h (fun _ => False) its.toList (a.map .str)) ∧ WkAll h WS vs as
  | _, _ => False
theorem WkAll.keep {h h' : Heap} {WS : Addr} (k : ∀ b vs n, b ≠ WS → h.get? b = some ⟨.type "list", none, .seq vs n, #[]⟩ → h'.get? b = some ⟨.type "list", none, .seq vs n, #[]⟩) : ∀ {vs : List Value} {as : List (List Str)}, WkAll h WS vs as → WkAll h' WS vs as
  | [], [], _ => trivial
  | _ :: _, _ :: _, ⟨⟨b, its, e, n, ⟨c, hp⟩, r⟩, t⟩ => ⟨⟨b, its, e, n, ⟨c, k _ _ _ n hp⟩, r.mono (fun _ _ s _ => s.elim) fun _ s => s⟩, WkAll.keep k t⟩
  | [], _ :: _, x => x.elim
  | _ :: _, [], x => x.elim
theorem WkAll.snoc {h : Heap} {WS b : Addr} {its : Array Value} {a : List Str} (hn : b ≠ WS) (hp : h.PlainList b its) (hr : RDs h (fun _ => False) its.toList (a.map .str)) : ∀ {vs : List Value} {as : List (List Str)}, WkAll h WS vs as → WkAll h WS (vs ++ [.ref b]) (as ++ [a])
  | [], [], _ => ⟨⟨b, its, rfl, hn, hp, hr⟩, trivial⟩
  | _ :: _, _ :: _, ⟨x, t⟩ => ⟨x, WkAll.snoc hn hp hr t⟩
  | [], _ :: _, x => x.elim
  | _ :: _, [], x => x.elim

theorem WkAll.length {h : Heap} {WS : Addr} : ∀ {vs : List Value} {as : List (List Str)}, WkAll h WS vs as → vs.length = as.length
  | [], [], _ => rfl
  | _ :: _, _ :: _, ⟨_, t⟩ => by simp [WkAll.length t]
  | [], _ :: _, x => x.elim
  | _ :: _, [], x => x.elim

/-- what the walks may change: the frame, the book, the walks' list, the iterator over the starts -/
noncomputable def MuO (N : Nat) (B WS It : Addr) (b : Addr) : Prop := b = Lr N ∨ b = B ∨ b = WS ∨ b = It
structure OSt (w : World) (fz : Bool) (N : Nat) (B bd WS It Ls fa : Addr) (kv : Value) (bk : Bk) (wk : List (List Str)) (i : Nat) (m : Str → Option Value) (s : Shared) : Prop where
  ns : s.heap.Ns (Lr N) m
  T : TopH w s.heap
  st : BookSt w s.heap B bd bk
  bdk : BdOk w fz s.heap B bd
  gv : ∀ e ∈ bkV bk, (∀ v ∈ e.2, v ∈ names8) ∧ e.2.length ≤ 100
  ws : ∃ its, s.heap.PlainList WS its ∧ WkAll s.heap WS its.toList wk
  it : s.heap.IsListIter It Ls i
  mb : m "book" = some (.ref B)
  mf : m "fold" = some (.ref fa)
  mk_ : m "key" = some kv
  mws : m "walks" = some (.ref WS)
  hB : B ≠ bd
  lB : Lr N ≠ B
  lS : Lr N ≠ WS
  lI : Lr N ≠ It
  bS : B ≠ WS
  bI : B ≠ It
  sI : WS ≠ It
  dM : ¬ MuO N B WS It bd
  nl : ∀ e ∈ bk, ¬ MuO N B WS It e.2.1
  ko : KOut w (MuO N B WS It)

section
variable {w : World} {M : Model} {A : Around} {E : Value → Shared → Prop} {fz : Bool} {f : Str → Str} {N : Nat} {B bd WS It Ls fa : Addr} {kv : Value} {bk : Bk} {wk : List (List Str)} {i : Nat} {m : Str → Option Value} {s : Shared}
theorem OSt.mu_data (x : OSt w fz N B bd WS It Ls fa kv bk wk i m s) {b : Addr} {o : Obj} (hm : MuO N B WS It b) (e : s.heap.get? b = some o) (h1 : ∀ es n, o.data ≠ .dict es n) (h2 : ∀ vs n, o.data ≠ .seq vs n) : b = It := by
  rcases hm with q | q | q | q
  · obtain ⟨o', es, ep, e', hd, _⟩ := x.ns
    rw [q, e'] at e; cases e; exact absurd hd (h1 _ _)
  · obtain ⟨l, ep, e', _⟩ := x.st.book.at_
    rw [q, e'] at e; cases e; exact absurd rfl (h1 _ _)
  · obtain ⟨vs, ⟨n, e'⟩, _⟩ := x.ws
    rw [q, e'] at e; cases e; exact absurd rfl (h2 _ _)
  · exact q
theorem OSt.list_out (x : OSt w fz N B bd WS It Ls fa kv bk wk i m s) {b : Addr} {vs : Array Value} {n : Nat} (e : s.heap.get? b = some ⟨.type "list", none, .seq vs n, #[]⟩) (hn : b ≠ WS) : ¬ MuO N B WS It b := fun hm => by
  rcases hm with q | q | q | q
  · obtain ⟨o', es, ep, e', hd, _⟩ := x.ns
    rw [q, e'] at e; cases e; cases hd
  · obtain ⟨l, ep, e', _⟩ := x.st.book.at_
    rw [q, e'] at e; cases e
  · exact hn q
  · obtain ⟨o, e', hc, _⟩ := x.it
    rw [q, e'] at e; cases e; exact absurd hc (show Value.type "list" ≠ Value.type "list_iterator" by decide)
/-- one of the objects that may change was changed; what the state says of it must be said anew -/
theorem OSt.upd {s' : Shared} {m' : Str → Option Value} {wk' : List (List Str)} {i' : Nat} (x : OSt w fz N B bd WS It Ls fa kv bk wk i m s) (k : KMu (MuO N B WS It) s.heap s'.heap) (hns : s'.heap.Ns (Lr N) m') (hm : ∀ y : Str, y = "book" ∨ y = "fold" ∨ y = "key" ∨ y = "walks" → m' y = m y)
    (hBk : ∀ o, s.heap.get? B = some o → s'.heap.get? B = some o) (hws : ∃ its, s'.heap.PlainList WS its ∧ WkAll s'.heap WS its.toList wk') (hit : s'.heap.IsListIter It Ls i') (hbd : BdOk w fz s'.heap B bd) : OSt w fz N B bd WS It Ls fa kv bk wk' i' m' s' := by
  refine ⟨hns, top_kmu x.T k x.ko, x.st.keep fun a o hm e => ?_, hbd, x.gv, hws, hit, (hm _ (.inl rfl)).trans x.mb, (hm _ (.inr (.inl rfl))).trans x.mf, (hm _ (.inr (.inr (.inl rfl)))).trans x.mk_, (hm _ (.inr (.inr (.inr rfl)))).trans x.mws, x.hB, x.lB, x.lS, x.lI, x.bS, x.bI, x.sI, x.dM, x.nl, x.ko⟩
  rcases hm with q | ⟨g, hg, q⟩
  · rw [q] at e ⊢; exact hBk o e
  · exact k a o (fun z => x.nl g hg (q ▸ z)) e
theorem OSt.kp {s' : Shared} (x : OSt w fz N B bd WS It Ls fa kv bk wk i m s) (k : Le s.heap s'.heap) : OSt w fz N B bd WS It Ls fa kv bk wk i m s' := by
  obtain ⟨its, ⟨n, hp⟩, r⟩ := x.ws
  exact x.upd (KMu.of_le k) (x.ns.keeps k) (fun _ _ => rfl) (fun o e => k _ _ e) ⟨its, ⟨n, k _ _ hp⟩, r.keep fun b _ _ _ e => k _ _ e⟩ (x.it.at fun o e => k _ _ e) (x.bdk.kmu (fun o e => k _ _ e) fun b o _ _ e => k _ _ e)
theorem OSt.store {y : Str} {v : Value} {Q : Unit → Shared → Prop} (x : OSt w fz N B bd WS It Ls fa kv bk wk i m s) (hl : (envRun N).kindOf y = some .local) (hy : y ≠ "book" ∧ y ≠ "fold" ∧ y ≠ "key" ∧ y ≠ "walks")
    (hQ : ∀ s', OSt w fz N B bd WS It Ls fa kv bk wk i (fun z => if z = y then some v else m z) s' → Heap.ExtBut (Lr N) s.heap s'.heap → (∃ h' tk, s' = { s with heap := h', toks := tk }) → Q () s') : wpAny M A (storeName (envRun N) y v) Q E s := by
  refine wpAny_storeName_local hl x.ns fun h' hn hs => hQ _ ?_ hs.extBut ⟨_, _, rfl⟩
  have k := hs.extBut
  have kd : ∀ {b : Addr} {o : Obj}, (∀ es n, o.data ≠ .dict es n) → s.heap.get? b = some o → h'.get? b = some o := fun {b o} h1 e => k _ _ (fun q => by
    obtain ⟨o', es, ep, e', hd, _⟩ := x.ns
    rw [q] at e
    rw [show s.heap.get? (envRun N).locals = some o' from e'] at e; cases e; exact h1 _ _ hd) e
  obtain ⟨its, ⟨n, hp⟩, r⟩ := x.ws
  refine x.upd (KMu.of_but k (.inl rfl)) hn (fun z hz => if_neg ?_) (fun o e => k _ _ (Ne.symm x.lB) e) ⟨its, ⟨n, k _ _ (Ne.symm x.lS) hp⟩, r.keep fun b _ _ hn e => k _ _ (fun q => x.list_out e hn (.inl q)) e⟩ (x.it.at fun o e => k _ _ (Ne.symm x.lI) e)
    (x.bdk.kmu (fun o e => k _ _ (fun q => x.dM (.inl q)) e) fun b o h1 h2 e => kd h1 e)
  · rcases hz with rfl | rfl | rfl | rfl
    · exact Ne.symm hy.1
    · exact Ne.symm hy.2.1
    · exact Ne.symm hy.2.2.1
    · exact Ne.symm hy.2.2.2
end
end Mine
end

section
open PySem PySem.W PyProof.Rows PySem.Calls
set_option maxRecDepth 100000
set_option linter.all false
set_option maxHeartbeats 4000000
namespace Mine
open PySem (eval)

noncomputable def startBody : List Stmt := [.Assign [.Name "row" ⟨189, 8, 189, 11⟩] (.Call (.Name "list" ⟨189, 14, 189, 18⟩) [.Call (.Name "always_iterable" ⟨189, 19, 189, 34⟩) [.Name "start" ⟨189, 35, 189, 40⟩] [] ⟨189, 19, 189, 41⟩] [] ⟨189, 14, 189, 42⟩) ⟨189, 8, 189, 42⟩,
  .Assign [.Name "walk" ⟨190, 8, 190, 12⟩] (.List [] ⟨190, 15, 190, 17⟩) ⟨190, 8, 190, 17⟩, walkFor,
  .Expr (.Call (.Attribute (.Name "walks" ⟨194, 8, 194, 13⟩) "append" ⟨194, 8, 194, 20⟩) [.Name "walk" ⟨194, 21, 194, 25⟩] [] ⟨194, 8, 194, 26⟩) ⟨194, 8, 194, 26⟩]

theorem Around1.keep {w : World} {h h' : Heap} {outer : List Env} (x : Around1 w h outer) (k : ∀ b ∈ framesOf outer, ∀ o, h.get? b = some o → h'.get? b = some o) : Around1 w h' outer := by
  refine ⟨fun env he => ?_, fun b hb => ?_, x.kf⟩
  · obtain ⟨hk, L, o, hf, ho, hd⟩ := x.ok env he
    exact ⟨hk, L, o, hf, k _ (List.mem_filterMap.mpr ⟨env, he, hf⟩) _ ho, hd⟩
  · obtain ⟨ml, hm⟩ := x.ns b hb
    exact ⟨ml, hm.at' fun o e => k b hb o e⟩
section
variable {w : World} {M : Model} {A : Around} {E : Value → Shared → Prop} {fz : Bool} {f : Str → Str} {N : Nat} {B bd WS It Ls fa : Addr} {kv : Value} {bk : Bk} {wk : List (List Str)} {i : Nat} {m : Str → Option Value} {s : Shared} {outer : List Env}
theorem OSt.loc (x : OSt w fz N B bd WS It Ls fa kv bk wk i m s) {y : Str} {v : Value} (hy : (envRun N).kindOf y = some .local) (hv : m y = some v) : Var (envRun N) s.heap y v := Var.loc rfl hy x.ns hv

/-- one start: its row, its walk, its names told -/
theorem start_turn (ok : OkA 116 A) (fo : ∀ h, TopH w h → FoldOk w h fa f) (ko : KeyOk w kv f) (hfr : A.frames = some (envRun N :: outer)) (X : OSt w fz N B bd WS It Ls fa kv bk wk i m s) {v : Value} {ws : List Str} (sv : StartV s.heap v ws) (hst : m "start" = some v) (hg : ∀ x ∈ ws, x ∈ names8) (hwl : ws.length ≤ 100) (AR : Around1 w s.heap outer)
    (hsep : ∀ b ∈ framesOf outer, ¬ MuO N B WS It b ∧ b ≠ bd) (hbk : bk.length ≤ 500) (hwk : wk.length ≤ 100) {Q : Flow → Shared → Prop}
    (hQ : ∀ bk' acc m' s', OSt w fz N B bd WS It Ls fa kv bk' (wk ++ [acc]) i m' s' → (acc, bkV bk') = walkF f fz 8 (fun _ => false) ws [] (bkV bk) → KFr (MuO N B WS It) (framesOf outer) s.heap s'.heap → (∃ h' tk, s' = { s with heap := h', toks := tk, gens := s.gens.push .finished }) → Q .next s') :
    wpAny (model pw w) A (execs startBody (envRun N)) Q E s := by
  have vl : Var (envRun N) s.heap "list" (.type "list") := Var.bi X.T rfl (by rfl) rfl rfl (by kernel_rfl) (by decide) (by rfl)
  have va : Var (envRun N) s.heap "always_iterable" (.ref 93) := Var.glob X.T rfl (by rfl) rfl (by kernel_rfl)
  refine wpAny_execs_cons (wpAny_Assign_Name (wpAny_mono (ev_row X.T (ok.weak (by decide)) sv hg (X.loc (by rfl) hst) vl va) (fun r s1 h1 => ?_) fun _ _ q => q) (by rfl))
  obtain ⟨R, rfl, nR, row1, k1⟩ := h1
  have aliveMu : ∀ {bk : Bk} {wk : List (List Str)} {i : Nat} {m : Str → Option Value} {s : Shared}, OSt w fz N B bd WS It Ls fa kv bk wk i m s → ∀ b, MuO N B WS It b → s.heap.get? b ≠ none := fun X b hb => by
    rcases hb with q | q | q | q
    · obtain ⟨o, _, _, e, _⟩ := X.ns; rw [q]; exact some_ne e
    · obtain ⟨l, ep, e, _⟩ := X.st.book.at_; rw [q]; exact some_ne e
    · obtain ⟨_, ⟨_, e⟩, _⟩ := X.ws; rw [q]; exact some_ne e
    · obtain ⟨o, e, _⟩ := X.it; rw [q]; exact some_ne e
  have hRM : ¬ MuO N B WS It R := fun z => aliveMu X R z nR
  refine (X.kp k1.le).store (by rfl) (by decide) fun s2 X2 x2 sh2 => ?_
  have row2 : RowAt s2.heap R ws := row1.keep fun o e => x2 _ _ (fun q => hRM (.inl q)) e
  refine wpAny_execs_cons (wpAny_Assign_Name (List_ (Calls.spliced_nil (wpAny_newObj_type ?_ (by show (0 : Nat) ≤ sizeLine; decide)))) (by rfl))
  have k3 : Le s2.heap (s2.heap.push { cls := .type "list", data := .seq #[] }) := fun b o e => Heap.get?_push_of_some _ e
  have eW : (s2.heap.push { cls := .type "list", data := .seq #[] }).get? s2.heap.objs.size = some ⟨.type "list", none, .seq #[] 0, #[]⟩ := Heap.get?_push_size _ rfl
  have nW : s2.heap.get? s2.heap.objs.size = none := new_none _
  show wpAny _ _ (storeName (envRun N) "walk" (.ref s2.heap.objs.size)) _ _ { s2 with heap := s2.heap.push { cls := .type "list", data := .seq #[] } }
  generalize hs3 : ({ s2 with heap := s2.heap.push { cls := .type "list", data := .seq #[] } } : Shared) = s3
  have k3 : Le s2.heap s3.heap := by rw [← hs3]; exact k3
  have eW : s3.heap.get? s2.heap.objs.size = some ⟨.type "list", none, .seq #[] 0, #[]⟩ := by rw [← hs3]; exact eW
  have sh3 : ∃ h' tk, s3 = { s2 with heap := h', toks := tk } := ⟨_, _, hs3.symm⟩
  generalize s2.heap.objs.size = W at *
  have hWM : ¬ MuO N B WS It W := fun z => aliveMu X2 W z nW
  have hWR : R ≠ W := fun z => by obtain ⟨_, ⟨_, e⟩, _⟩ := row2.lst; rw [z, nW] at e; cases e
  refine (X2.kp k3).store (by rfl) (by decide) fun s4 X4 x4 sh4 => ?_
  have eW4 := x4 _ _ (fun q => hWM (.inl q)) eW
  have row4 : RowAt s4.heap R ws := row2.keep fun o e => x4 _ _ (fun q => hRM (.inl q)) (k3 _ _ e)
  have mR : ∀ b, MuW N B R W b → b = Lr N ∨ b = B ∨ b = R ∨ b = W := fun b h => h
  have aliveW : ∀ {b o}, s.heap.get? b = some o → b ≠ R ∧ b ≠ W := fun {b o} e => by
    refine ⟨fun z => by (rw [z, nR] at e; cases e), fun z => ?_⟩
    have e2 : s.heap.get? W = some o := by rw [← z]; exact e
    by_cases q : W = Lr N
    · exact hWM (.inl q)
    · rw [x2 _ _ q (k1.le _ _ e2)] at nW; cases nW
  have offMu : ∀ {b o}, s.heap.get? b = some o → ¬ MuO N B WS It b → ¬ MuW N B R W b := fun {b o} e hn hm => by
    have := aliveW e
    rcases hm with q | q | q | q
    · exact hn (.inl q)
    · exact hn (.inr (.inl q))
    · exact this.1 q
    · exact this.2 q
  have hko : KOut w (MuW N B R W) := by
    refine ⟨fun a o e => offMu (X.T.K a o e) (X.ko.1 a o e), ?_, ?_, ?_⟩
    · obtain ⟨mb, ⟨o, es, ep, e, r⟩, z⟩ := X.T.b; exact offMu e X.ko.2.1
    · obtain ⟨mg, o, es, ep, e, r⟩ := X.T.g; exact offMu e X.ko.2.2.1
    · obtain ⟨mc, ⟨o, es, ep, e, r⟩, z⟩ := X.T.nl; exact offMu e X.ko.2.2.2
  have hbdA : ∃ o, s.heap.get? bd = some o := by
    have := X.bdk
    unfold BdOk at this
    split at this
    · obtain ⟨_, _, e, _⟩ := this; exact ⟨_, e⟩
    · exact ⟨_, this⟩
  obtain ⟨obd, ebd⟩ := hbdA
  have hlA : ∀ e ∈ bk, ∃ o, s.heap.get? e.2.1 = some o := fun e he => by obtain ⟨its, ⟨n, hp⟩, _⟩ := X.st.lst e he; exact ⟨_, hp⟩
  have WS4 : WSt w fz f N B bd R W fa bk ws [] _ s4 := ⟨X4.ns, X4.T, X4.st, X4.bdk, X4.gv, row4, ⟨#[], ⟨0, eW4⟩, .nil⟩, X4.mb, by rfl, by rfl, X4.mf, X.hB, X.lB, fun z => hRM (.inl z.symm), fun z => hWM (.inl z.symm), fun z => hRM (.inr (.inl z.symm)), fun z => hWM (.inr (.inl z.symm)), hWR, offMu ebd X.dM, fun e he => by obtain ⟨o, eo⟩ := hlA e he; exact offMu eo (X.nl e he), hko⟩
  have kO2 : KMu (MuO N B WS It) s.heap s2.heap := (KMu.of_le k1.le).trans (.of_but x2 (.inl rfl))
  have kO4 : KMu (MuO N B WS It) s.heap s4.heap := kO2.trans ((KMu.of_le k3).trans (.of_but x4 (.inl rfl)))
  have AR4 : Around1 w s4.heap outer := AR.keep fun b hb o e => kO4 b o (hsep b hb).1 e
  have frA : ∀ b ∈ framesOf outer, ∃ o, s.heap.get? b = some o := fun b hb => by obtain ⟨ml, o, _, _, e, _⟩ := AR.ns b hb; exact ⟨o, e⟩
  have hLk : (∀ a o, (K01 w).lookup a = some o → a ≠ Lr N) ∧ builtinsNs ≠ Lr N ∧ mainGlobals ≠ Lr N ∧ cStatics ≠ Lr N :=
    ⟨fun a o e z => X.ko.1 a o e (.inl z), fun z => X.ko.2.1 (.inl z), fun z => X.ko.2.2.1 (.inl z), fun z => X.ko.2.2.2 (.inl z)⟩
  refine wpAny_execs_cons (walk_loop ok fo ko hfr WS4 X4.mk_ AR4 hLk (fun b hb => by obtain ⟨o, e⟩ := frA b hb; exact ⟨offMu e (hsep b hb).1, (hsep b hb).2⟩) (by omega) hbk fun bk5 xs5 acc m5 s5 X5 hw kf hm5 sh5 hbn5 => ?_)
  obtain ⟨wits, ⟨wn, eWS0⟩, hWk⟩ := X.ws
  have eWS := x4 _ _ (Ne.symm X.lS) (k3 _ _ (x2 _ _ (Ne.symm X.lS) (k1.le _ _ eWS0)))
  have offW : ∀ {b}, MuO N B WS It b → b ≠ Lr N → b ≠ B → ¬ MuW N B R W b := fun {b} h h1 h2 hm => by
    rcases hm with q | q | q | q
    · exact h1 q
    · exact h2 q
    · exact hRM (q ▸ h)
    · exact hWM (q ▸ h)
  have hWSW : ¬ MuW N B R W WS := offW (.inr (.inr (.inl rfl))) (Ne.symm X.lS) (Ne.symm X.bS)
  have hItW : ¬ MuW N B R W It := offW (.inr (.inr (.inr rfl))) (Ne.symm X.lI) (Ne.symm X.bI)
  have hWSF : WS ∉ framesOf outer := fun z => (hsep WS z).1 (.inr (.inr (.inl rfl)))
  have hItF : It ∉ framesOf outer := fun z => (hsep It z).1 (.inr (.inr (.inr rfl)))
  have eWS5 := (kf _ _ hWSW eWS).2 hWSF
  have hdF4 : ∀ {b o}, b ∈ framesOf outer → s4.heap.get? b = some o → ∃ es n, o.data = .dict es n := fun {b o} hb e => by
    obtain ⟨ml, o', es, ep, e', hd, _⟩ := AR4.ns b hb
    rw [e'] at e; cases e; exact ⟨es, ep, hd⟩
  have hWk5 : WkAll s5.heap WS wits.toList wk := hWk.keep fun b vs n hn e => by
    have hnO := X.list_out e hn
    exact (kf b _ (offMu e hnO) (kO4 _ _ hnO e)).2 fun hF => by obtain ⟨es, n2, hd⟩ := hdF4 hF (kO4 _ _ hnO e); cases hd
  obtain ⟨aits, ⟨an, eWl⟩, hacc⟩ := X5.wl
  have vW : Var (envRun N) s5.heap "walk" (.ref W) := X5.loc (by rfl) X5.mw
  have vWS : Var (envRun N) s5.heap "walks" (.ref WS) := X5.loc (by rfl) ((hm5 _ (by decide)).trans X4.mws)
  refine wpAny_execs_cons (exec_append (h := s5.heap) (o := .Name "walks" ⟨194, 8, 194, 13⟩) (S := fun _ => False) (d := .atom (.ref W)) vWS ⟨wn, eWS5⟩ (EvD.name vW (.atom _)) (by rw [← Array.length_toList, hWk.length]; exact Nat.le_trans hwk (by decide)) (fun y h6 tk6 hx6 hl6 hy => ?_) (by rfl) (by rfl) (by rfl) (by rfl) (by rfl) (by decide))
  have ey : y = .ref W := by
    have := hy (fun _ => True) (fun _ _ _ => trivial) id
    cases this; rfl
  subst ey
  have hWWS : W ≠ WS := fun z => hWM (.inr (.inr (.inl z)))
  have k6 : KMu (MuO N B WS It) s5.heap h6 := .of_but hx6 (.inr (.inr (.inl rfl)))
  have nl5 : ∀ e ∈ bk5, ¬ MuO N B WS It e.2.1 := fun e he hm => by
    rcases hbn5 e he with h | h
    · exact X.nl e h hm
    · exact aliveMu X4 _ hm h
  have it5 : s5.heap.IsListIter It Ls i := X4.it.at fun o e => (kf _ _ hItW e).2 hItF
  refine wpAny_execs_nil (hQ bk5 acc m5 { s5 with heap := h6, toks := tk6 } ⟨X5.ns.at' fun o e => hx6 _ _ X.lS e, top_kmu X5.T k6 X.ko, X5.st.keep fun a o hm e => hx6 a o (fun z => ?_) e, X5.bdk.kmu (fun o e => hx6 _ _ (fun z => X.dM (.inr (.inr (.inl z)))) e) fun b o h1 h2 e => hx6 _ _ (fun z => ?_) e, X5.gv,
    ⟨_, hl6, ?_⟩, it5.at fun o e => hx6 _ _ (Ne.symm X.sI) e, X5.mb, X5.mf, (hm5 _ (by decide)).trans X4.mk_, (hm5 _ (by decide)).trans X4.mws, X.hB, X.lB, X.lS, X.lI, X.bS, X.bI, X.sI, X.dM, nl5, X.ko⟩ hw (fun b o hn e => ?_) ?_)
  · rcases hm with q | ⟨g, hg, q⟩
    · exact X.bS (q.symm.trans z)
    · exact nl5 g hg (.inr (.inr (.inl (q.trans z))))
  · rw [z, eWS5] at e; cases e; exact h2 _ _ rfl
  · rw [Array.toList_push]
    exact WkAll.snoc hWWS ⟨an, hx6 _ _ hWWS eWl⟩ (hacc.mono (fun _ _ s _ => s.elim) fun _ s => s) (hWk5.keep fun b vs n hn e => hx6 _ _ hn e)
  · have hz := kf b o (offMu e hn) (kO4 _ _ hn e)
    have hbW : b ≠ WS := fun z => hn (.inr (.inr (.inl z)))
    exact ⟨fun hF => let ⟨sl, q⟩ := hz.1 hF; ⟨sl, hx6 _ _ hbW q⟩, fun hF => hx6 _ _ hbW (hz.2 hF)⟩
  · obtain ⟨h1, t1, e1⟩ := k1.eq
    obtain ⟨h2, t2, e2⟩ := sh2
    obtain ⟨h3, t3, e3⟩ := sh3
    obtain ⟨h4, t4, e4⟩ := sh4
    obtain ⟨h5, t5, e5⟩ := sh5
    exact ⟨h6, tk6, by rw [e5, e4, e3, e2, e1]⟩
end
end Mine
end

section
open PySem PySem.W PyProof.Rows PySem.Calls
set_option maxRecDepth 100000
set_option linter.all false
set_option maxHeartbeats 4000000
namespace Mine
open PySem (eval)

noncomputable def runsF (f : Str → Str) (fz : Bool) (wss : List (List Str)) (bv : List (Str × List Str)) : List (List Str) × List (Str × List Str) :=
  wss.foldl (fun p ws => (p.1 ++ [(walkF f fz 8 (fun _ => false) ws [] p.2).1], (walkF f fz 8 (fun _ => false) ws [] p.2).2)) ([], bv)
theorem touchV_len (bv : List (Str × List Str)) (x : Str) : (touchV bv x).length ≤ bv.length + 1 := by
  unfold touchV
  split
  · omega
  · rw [List.length_append]; simp
theorem walkF_len {f : Str → Str} {fz : Bool} : ∀ (n : Nat) {S : Str → Bool} {xs acc : List Str} {bv : List (Str × List Str)}, (walkF f fz n S xs acc bv).2.length ≤ bv.length + n ∧ (walkF f fz n S xs acc bv).1.length ≤ acc.length + n
  | 0, _, _, _, _ => ⟨Nat.le_refl _, Nat.le_refl _⟩
  | n + 1, S, xs, acc, bv => by
    unfold walkF
    cases h : fresh? f S xs with
    | none => exact ⟨by simp, by simp⟩
    | some x =>
      have := walkF_len (f := f) (fz := fz) n (S := addS S (f x)) (xs := xs ++ getV bv (f x)) (acc := acc ++ [x]) (bv := if fz = true then bv else touchV bv (f x))
      refine ⟨Nat.le_trans this.1 ?_, Nat.le_trans this.2 ?_⟩
      · split
        · omega
        · have := touchV_len bv (f x); omega
      · rw [List.length_append]; simp; omega

theorem KFr.trans {Mu : Addr → Prop} {Fs : List Addr} {a b c : Heap} (x : KFr Mu Fs a b) (y : KFr Mu Fs b c) : KFr Mu Fs a c := fun i o n e =>
  ⟨fun hF => let ⟨_, q⟩ := (x i o n e).1 hF; (y i _ n q).1 hF, fun hF => (y i o n ((x i o n e).2 hF)).2 hF⟩
theorem KFr.of_kmu {Mu : Addr → Prop} {Fs : List Addr} {a b : Heap} (x : KMu Mu a b) : KFr Mu Fs a b := fun i o n e => ⟨fun _ => ⟨o.slots, x i o n e⟩, fun _ => x i o n e⟩
theorem Around1.slots {w : World} {h h' : Heap} {outer : List Env} (x : Around1 w h outer) (k : ∀ b ∈ framesOf outer, ∀ o, h.get? b = some o → ∃ sl, h'.get? b = some { o with slots := sl }) : Around1 w h' outer := by
  refine ⟨fun env he => ?_, fun b hb => ?_, x.kf⟩
  · obtain ⟨hk, L, o, hf, ho, hd⟩ := x.ok env he
    obtain ⟨sl, q⟩ := k _ (List.mem_filterMap.mpr ⟨env, he, hf⟩) _ ho
    exact ⟨hk, L, _, hf, q, hd⟩
  · obtain ⟨ml, o, es, ep, e, hd, r⟩ := x.ns b hb
    obtain ⟨sl, q⟩ := k b hb o e
    exact ⟨ml, _, es, ep, q, hd, r⟩

noncomputable def MuP (N : Nat) (B WS : Addr) (b : Addr) : Prop := b = Lr N ∨ b = B ∨ b = WS
/-- the state of `_law_run` ahead of the walks -/
structure PSt (w : World) (fz : Bool) (N : Nat) (B bd WS fa : Addr) (kv : Value) (bk : Bk) (m : Str → Option Value) (s : Shared) : Prop where
  ns : s.heap.Ns (Lr N) m
  T : TopH w s.heap
  st : BookSt w s.heap B bd bk
  bdk : BdOk w fz s.heap B bd
  gv : ∀ e ∈ bkV bk, (∀ v ∈ e.2, v ∈ names8) ∧ e.2.length ≤ 100
  ws : s.heap.PlainList WS #[]
  mb : m "book" = some (.ref B)
  mf : m "fold" = some (.ref fa)
  mk_ : m "key" = some kv
  mws : m "walks" = some (.ref WS)
  hB : B ≠ bd
  lB : Lr N ≠ B
  lS : Lr N ≠ WS
  bS : B ≠ WS
  dM : ¬ MuP N B WS bd
  nl : ∀ e ∈ bk, ¬ MuP N B WS e.2.1
  ko : KOut w (MuP N B WS)

/-- the state of `_law_run` behind the walks -/
structure ESt (w : World) (N : Nat) (B bd WS : Addr) (bk : Bk) (wk : List (List Str)) (m : Str → Option Value) (s : Shared) : Prop where
  ns : s.heap.Ns (Lr N) m
  T : TopH w s.heap
  st : BookSt w s.heap B bd bk
  ws : ∃ its, s.heap.PlainList WS its ∧ WkAll s.heap WS its.toList wk
  mb : m "book" = some (.ref B)
  mws : m "walks" = some (.ref WS)

section
variable {w : World} {M : Model} {A : Around} {E : Value → Shared → Prop} {fz : Bool} {f : Str → Str} {N : Nat} {B bd WS Ls fa : Addr} {kv : Value} {bk : Bk} {m : Str → Option Value} {s : Shared} {outer : List Env}
/-- the loop over the starts -/
theorem starts_loop (ok : OkA 116 A) (fo : ∀ h, TopH w h → FoldOk w h fa f) (ko : KeyOk w kv f) (hfr : A.frames = some (envRun N :: outer)) (X : PSt w fz N B bd WS fa kv bk m s) (hms : m "starts" = some (.ref Ls)) {vs : Array Value} {wss : List (List Str)} (hLs : s.heap.IsList Ls vs) (hLo : ¬ MuP N B WS Ls)
    (hsz : vs.size = wss.length) (hsv : ∀ (i : Nat) v, vs[i]? = some v → ∃ ws, wss[i]? = some ws ∧ StartV s.heap v ws) (hg : ∀ ws ∈ wss, (∀ x ∈ ws, x ∈ names8) ∧ ws.length ≤ 100) (hn : wss.length ≤ 10) (AR : Around1 w s.heap outer) (hsep : ∀ b ∈ framesOf outer, ¬ MuP N B WS b ∧ b ≠ bd ∧ b ≠ Ls) (hbk : bk.length ≤ 300) {p1 p2 p3 : Pos} {Q : Flow → Shared → Prop}
    (hQ : ∀ bk' wk m' s', ESt w N B bd WS bk' wk m' s' → (wk, bkV bk') = runsF f fz wss (bkV bk) → KFr (MuP N B WS) (framesOf outer) s.heap s'.heap → (∃ h' tk gens', s' = { s with heap := h', toks := tk, gens := gens' } ∧ (AllBare s.gens → AllBare gens')) → Q .next s') :
    wpAny (model pw w) A (exec (.For (.Name "start" p1) (.Name "starts" p2) startBody [] p3) (envRun N)) Q E s := by
  refine wpAny_For (wpAny_Name (Var.loc rfl (by rfl) X.ns hms _ _ _ _ s (fun _ _ e => e) ?_) (by decide))
  refine wpAny_pyIter_list hLs ?_
  have nIt := new_none s.heap
  have k1 : Le s.heap (s.heap.push { cls := .type "list_iterator", data := .fields #[.ref Ls, .int 0 0] }) := fun b o e => Heap.get?_push_of_some _ e
  have eIt : (s.heap.push { cls := .type "list_iterator", data := .fields #[.ref Ls, .int 0 0] }).IsListIter s.heap.objs.size Ls 0 := ⟨_, Heap.get?_push_size _ rfl, rfl, rfl⟩
  generalize hs1 : ({ s with heap := s.heap.push { cls := .type "list_iterator", data := .fields #[.ref Ls, .int 0 0] } } : Shared) = s1
  have k1 : Le s.heap s1.heap := by rw [← hs1]; exact k1
  have eIt : s1.heap.IsListIter s.heap.objs.size Ls 0 := by rw [← hs1]; exact eIt
  have sh1 : s1 = { s with heap := s1.heap } := by rw [← hs1]
  generalize s.heap.objs.size = It at *
  have aOff : ∀ {b o}, s.heap.get? b = some o → ¬ MuP N B WS b → ¬ MuO N B WS It b := fun {b o} e hn hm => by
    rcases hm with q | q | q | q
    · exact hn (.inl q)
    · exact hn (.inr (.inl q))
    · exact hn (.inr (.inr q))
    · rw [q, nIt] at e; cases e
  have alL : s.heap.get? (Lr N) ≠ none := by obtain ⟨o, _, _, e, _⟩ := X.ns; exact some_ne e
  have alB : s.heap.get? B ≠ none := by obtain ⟨l, ep, e, _⟩ := X.st.book.at_; exact some_ne e
  have alS : s.heap.get? WS ≠ none := by obtain ⟨n, e⟩ := X.ws; exact some_ne e
  have hbdA : ∃ o, s.heap.get? bd = some o := by
    have := X.bdk
    unfold BdOk at this
    split at this
    · obtain ⟨_, _, e, _⟩ := this; exact ⟨_, e⟩
    · exact ⟨_, this⟩
  obtain ⟨obd, ebd⟩ := hbdA
  have hko : KOut w (MuO N B WS It) := by
    refine ⟨fun a o e => aOff (X.T.K a o e) (X.ko.1 a o e), ?_, ?_, ?_⟩
    · obtain ⟨mb, ⟨o, es, ep, e, r⟩, z⟩ := X.T.b; exact aOff e X.ko.2.1
    · obtain ⟨mg, o, es, ep, e, r⟩ := X.T.g; exact aOff e X.ko.2.2.1
    · obtain ⟨mc, ⟨o, es, ep, e, r⟩, z⟩ := X.T.nl; exact aOff e X.ko.2.2.2
  obtain ⟨wn, eWS⟩ := X.ws
  have X1 : OSt w fz N B bd WS It Ls fa kv bk [] 0 m s1 := ⟨X.ns.keeps k1, X.T.mono k1, X.st.keep fun a o _ e => k1 _ _ e, X.bdk.kmu (fun o e => k1 _ _ e) fun b o _ _ e => k1 _ _ e, X.gv, ⟨#[], ⟨wn, k1 _ _ eWS⟩, trivial⟩, eIt, X.mb, X.mf, X.mk_, X.mws, X.hB, X.lB, X.lS, fun z => alL (by rw [z]; exact nIt), X.bS, fun z => alB (by rw [z]; exact nIt), fun z => alS (by rw [z]; exact nIt), aOff ebd X.dM,
    fun e he => by obtain ⟨its, ⟨n, hp⟩, _⟩ := X.st.lst e he; exact aOff hp (X.nl e he), hko⟩
  have frA : ∀ b ∈ framesOf outer, ∃ o, s.heap.get? b = some o := fun b hb => by obtain ⟨ml, o, _, _, e, _⟩ := AR.ns b hb; exact ⟨o, e⟩
  have hsep1 : ∀ b ∈ framesOf outer, ¬ MuO N B WS It b ∧ b ≠ bd := fun b hb => by obtain ⟨o, e⟩ := frA b hb; exact ⟨aOff e (hsep b hb).1, (hsep b hb).2.1⟩
  have hdF : ∀ {b o}, b ∈ framesOf outer → s.heap.get? b = some o → ∃ es n, o.data = .dict es n := fun {b o} hb e => by
    obtain ⟨ml, o', es, ep, e', hd, _⟩ := AR.ns b hb
    rw [e'] at e; cases e; exact ⟨es, ep, hd⟩
  have hLsF : Ls ∉ framesOf outer := fun z => (hsep Ls z).2.2 rfl
  obtain ⟨oLs, eLs, cLs, nLs, dLs⟩ := hLs
  have hLsO : ¬ MuO N B WS It Ls := aOff eLs hLo
  have svO : ∀ {v ws}, StartV s.heap v ws → ∀ {s2 : Shared}, KFr (MuO N B WS It) (framesOf outer) s1.heap s2.heap → StartV s2.heap v ws := fun {v ws} sv s2 kf => by
    cases sv with
    | none => exact .none
    | str x t => exact .str x t
    | pair e =>
      refine .pair ((kf _ _ (aOff e fun hm => ?_) (k1 _ _ e)).2 fun hF => by obtain ⟨es, n, hd⟩ := hdF hF e; cases hd)
      rcases hm with q | q | q
      · obtain ⟨o', es, ep, e', hd, _⟩ := X.ns
        rw [q, e'] at e; cases e; cases hd
      · obtain ⟨l, ep, e', _⟩ := X.st.book.at_
        rw [q, e'] at e; cases e
      · rw [q, eWS] at e; cases e
  refine codeAny_forLoop_any (fun k s' => ∃ i bk' wk m', k = vs.size + 1 - i ∧ i ≤ vs.size ∧ OSt w fz N B bd WS It Ls fa kv bk' wk i m' s' ∧ (wk, bkV bk') = runsF f fz (wss.take i) (bkV bk) ∧ wk.length = i ∧ bk'.length ≤ bk.length + 8 * i ∧ KFr (MuO N B WS It) (framesOf outer) s1.heap s'.heap ∧ (∃ h' tk gens', s' = { s with heap := h', toks := tk, gens := gens' } ∧ (AllBare s.gens → AllBare gens'))) ?_ (vs.size + 1)
    ⟨0, bk, [], m, rfl, Nat.zero_le _, X1, rfl, rfl, by omega, .of_kmu (.refl _ _), ⟨s1.heap, s.toks, s.gens, sh1, id⟩⟩
  rintro k s2 ⟨i, bk2, wk2, m2, rfl, hi, X2, hr, hwl, hbl, kf, ⟨h2, t2, g2, e2, hbare⟩⟩
  have hLs2 : s2.heap.IsList Ls vs := ⟨oLs, (kf _ _ hLsO (k1 _ _ eLs)).2 hLsF, cLs, nLs, dLs⟩
  cases hx : vs[i]? with
  | none =>
    have hiv : i = vs.size := by
      have := Array.getElem?_eq_none_iff.mp hx
      omega
    refine wpAny_pyNext_list_end ok.hd X2.it hLs2 hx fun h3 hx3 => wpAny_execs_nil ?_
    have k3 : KMu (MuO N B WS It) s2.heap h3 := .of_but hx3 (.inr (.inr (.inr rfl)))
    obtain ⟨its, ⟨n, hp⟩, r⟩ := X2.ws
    have htake : wss.take i = wss := List.take_of_length_le (by omega)
    rw [htake] at hr
    refine hQ bk2 wk2 m2 { s2 with heap := h3 } ⟨X2.ns.at' fun o e => hx3 _ _ X2.lI e, top_kmu X2.T k3 X2.ko, X2.st.keep fun a o hm e => hx3 a o (fun z => ?_) e, ⟨its, ⟨n, hx3 _ _ X2.sI hp⟩, r.keep fun b _ _ hn e => hx3 _ _ (fun z => X2.list_out e hn (.inr (.inr (.inr z)))) e⟩, X2.mb, X2.mws⟩ hr (fun b o hb e => ?_) ⟨h3, t2, g2, by rw [e2], hbare⟩
    · rcases hm with q | ⟨g, hg, q⟩
      · exact X2.bI (q.symm.trans z)
      · exact X2.nl g hg (.inr (.inr (.inr (q.trans z))))
    · have hbO := aOff e hb
      have hz := kf b o hbO (k1 _ _ e)
      have hne : b ≠ It := fun z => hbO (.inr (.inr (.inr z)))
      exact ⟨fun hF => let ⟨sl, q⟩ := hz.1 hF; ⟨sl, hx3 _ _ hne q⟩, fun hF => hx3 _ _ hne (hz.2 hF)⟩
  | some v =>
    have hlt : i < vs.size := (Array.getElem?_eq_some_iff.mp hx).1
    obtain ⟨ws, hws, sv⟩ := hsv i v hx
    refine wpAny_pyNext_list_item X2.it hLs2 hx fun h3 hit3 hsb => ?_
    have x3 := hsb.extBut
    have k3 : KMu (MuO N B WS It) s2.heap h3 := .of_but x3 (.inr (.inr (.inr rfl)))
    obtain ⟨its, ⟨n, hp⟩, r⟩ := X2.ws
    have X3 : OSt w fz N B bd WS It Ls fa kv bk2 wk2 (i + 1) m2 { s2 with heap := h3 } := X2.upd k3 (X2.ns.at' fun o e => x3 _ _ X2.lI e) (fun _ _ => rfl) (fun o e => x3 _ _ X2.bI e) ⟨its, ⟨n, x3 _ _ X2.sI hp⟩, r.keep fun b _ _ hn e => x3 _ _ (fun z => X2.list_out e hn (.inr (.inr (.inr z)))) e⟩ hit3
      (X.bdk.kmu (fun o e => x3 _ _ (fun z => aOff e X.dM (.inr (.inr (.inr z)))) ((kf _ _ (aOff e X.dM) (k1 _ _ e)).2 fun hF => (hsep bd hF).2.1 rfl)) fun b o h1 h2 e => by
        have hO : ¬ MuO N B WS It b := aOff e fun hm => by
          rcases hm with q | q | q
          · obtain ⟨o', es, ep, e', hd, _⟩ := X.ns
            rw [q, e'] at e; cases e; exact h1 _ _ hd
          · obtain ⟨l, ep, e', _⟩ := X.st.book.at_
            rw [q, e'] at e; cases e; exact h1 _ _ rfl
          · rw [q, eWS] at e; cases e; exact h2 _ _ rfl
        exact x3 _ _ (fun z => hO (.inr (.inr (.inr z)))) ((kf _ _ hO (k1 _ _ e)).2 fun hF => by obtain ⟨es, n, hd⟩ := hdF hF e; exact h1 _ _ hd))
    · refine wpAny_pure (wpAny_assign_Name (X3.store (by rfl) (by decide) fun s4 X4 x4 sh4 => ?_))
      have kf4 : KFr (MuO N B WS It) (framesOf outer) s1.heap s4.heap := kf.trans (.of_kmu (k3.trans (.of_but x4 (.inl rfl))))
      have AR4 : Around1 w s4.heap outer := AR.slots fun b hb o e => (kf4 b o (hsep1 b hb).1 (k1 _ _ e)).1 hb
      have hgw := hg ws (List.mem_of_getElem? hws)
      refine start_turn ok fo ko hfr X4 (svO sv kf4) (upd_eq (m := m2)) hgw.1 hgw.2 AR4 hsep1 (by omega) (by omega) fun bk5 acc m5 s5 X5 hw kf5 sh5 => ?_
      have hbkl : bk5.length ≤ bk2.length + 8 := by
        have e1 : bk5.length = (bkV bk5).length := by unfold bkV; rw [List.length_map]
        have e2 : bk2.length = (bkV bk2).length := by unfold bkV; rw [List.length_map]
        have := (walkF_len (f := f) (fz := fz) 8 (S := fun _ => false) (xs := ws) (acc := []) (bv := bkV bk2)).1
        rw [← hw] at this
        rw [e1, e2]; exact this
      refine ⟨vs.size + 1 - (i + 1), by omega, i + 1, bk5, wk2 ++ [acc], m5, rfl, hlt, X5.upd (.refl _ _) X5.ns (fun _ _ => rfl) (fun _ e => e) X5.ws X5.it X5.bdk, ?_, by rw [List.length_append, hwl]; rfl, by omega, kf4.trans kf5, ?_⟩
      · rw [take_succ hws]
        unfold runsF at hr ⊢
        rw [List.foldl_append, ← hr]
        simp only [List.foldl_cons, List.foldl_nil]
        rw [← hw]
      · obtain ⟨h4, t4, e4⟩ := sh4
        obtain ⟨h5, t5, e5⟩ := sh5
        refine ⟨h5, t5, g2.push .finished, by rw [e5, e4, e2], fun hb => (hbare hb).push rfl⟩
end
end Mine
end

section
open PySem PySem.W PyProof.Rows PySem.Calls
set_option maxRecDepth 100000
set_option linter.all false
set_option maxHeartbeats 4000000
namespace Mine
open PySem (eval)

/-- a mapping's entries, whatever its class -/
noncomputable def BRaw (h : Heap) (d : Addr) (es : Array DictEntry) (ep : Nat) : Prop := ∃ o, h.get? d = some o ∧ o.data = .dict es ep
theorem BRaw.at' {h h' : Heap} {d : Addr} {es : Array DictEntry} {ep : Nat} (x : BRaw h d es ep) (k : ∀ o, h.get? d = some o → h'.get? d = some o) : BRaw h' d es ep := let ⟨o, e, hd⟩ := x; ⟨o, k o e, hd⟩
/-- the iterator over its items, at place `i` -/
noncomputable def BIt (h : Heap) (it d : Addr) (i n ep : Nat) : Prop := ∃ f0 f1 k v, h.get? it = some { cls := .type "dict_itemiterator", dict := none, data := .fields #[f0, .bool f1, .ref d, .int i 0, .int n 0, .int ep 0, k, v], slots := #[] } ∧
  (f0 = .none ∨ ∃ (a : Addr) (oa : Obj), f0 = rawInt a ∧ h.get? a = some oa ∧ a ≠ it ∧ oa.cls = .type "tuple")
section
variable {prog : Program} {w : World} {A : Around} {E : Value → Shared → Prop} {s : Shared} {it d : Addr} {i n ep : Nat} {es : Array DictEntry}
theorem bit_alive {a : Addr} {o : Obj} {Q : Option Obj → Shared → Prop} (ho : s.heap.get? a = some o) (h : Q (some o) s) : wpAny (model prog w) A (loadIfAlive a) Q E s := by
  have h' : Q (s.heap.get? a) s := by rw [ho]; exact h
  exact fun _ _ _ => h'
theorem bit_next {e : DictEntry} {Q : Option Value → Shared → Prop} (hit : BIt s.heap it d i n ep) (hm : BRaw s.heap d es ep) (hn : es.size = n) (hx : es[i]? = some e)
    (hQ : ∀ h', BIt h' it d (i + 1) n ep → h'.get? s.heap.objs.size = some { cls := .type "tuple", data := .seq #[e.key, e.val] } → h'.objs.size = s.heap.objs.size + 1 →
      (∀ b o, b ≠ it → s.heap.get? b = some o → h'.get? b = some o) → Q (some (.ref s.heap.objs.size)) { s with heap := h' }) :
    wpAny (model prog w) A (pyNext (.ref it)) Q E s := by
  obtain ⟨hp, g, dr, tk, os⟩ := s
  obtain ⟨od, hod, hdd⟩ := id hm
  obtain ⟨f0, f1, ok, ov, hit, hf⟩ := hit
  have hT : Shared.TypeIs ⟨hp, g, dr, tk, os⟩ (.ref it) "dict_itemiterator" := ⟨_, hit, rfl⟩
  have hlt : i < es.size := (Array.getElem?_eq_some_iff.mp hx).1
  have hee : es[i] = e := (Array.getElem?_eq_some_iff.mp hx).2
  unfold pyNext
  refine wpAny_bind (wpAny_attempt (wpAny_callSpecial?_slot (name := Str.ofString "__next__") hT PySem.F.slot_dict_itemiterator_next
    (wpAny_call_entry PySem.F.slot_dict_itemiterator_next hT PySem.F.entry_dict_itemiterator_next ?_ (PySem.F.args_dict_itemiterator_next_1 _))))
  refine wpAny_bind (wpAny_pure ?_)
  refine wpAny_bind ?_
  refine wpAny_bind ?_
  refine wpAny_bind (wpAny_typeNameOfWhole_itemiter hT (wpAny_pure ?_))
  refine wpAny_bind (wpAny_fieldsOf hit rfl ?_)
  have hown : Builtin.Dict_items.ownsTuple "dict_itemiterator" = true := by decide
  simp only [hown, if_true]
  show wpAny _ _ (if (Value.ref d == Value.none) = true then _ else _) _ _ _
  rw [if_neg (show ¬ ((Value.ref d == Value.none) = true) from Bool.false_ne_true)]
  refine wpAny_bind (wpAny_pure ?_)
  refine wpAny_bind (wpAny_dictEntries hod hdd ?_)
  rw [if_neg (by rw [hn]; simp)]
  refine wpAny_bind (wpAny_pure ?_)
  refine wpAny_bind (wpAny_dictEpoch hod hdd ?_)
  rw [if_neg (by simp)]
  refine wpAny_pure ?_
  simp only [show ¬ ((i : Int) < 0) from by omega, if_false, Int.toNat_natCast, hx]
  refine wpAny_bind ?_
  refine wpAny_bind (wpAny_typeNameOfWhole_itemiter hT (wpAny_pure ?_))
  refine wpAny_bind (wpAny_isOneOf_itemiter hT ?_)
  show wpAny _ _ (setField (.ref it) 3 (rawInt ((i : Int) + 1)) >>= _) _ _ ⟨hp, g, dr, tk, os⟩
  refine wpAny_bind (wpAny_setField_rec hit (by simp) fun h₁ he₁ hs₁ => ?_)
  replace hs₁ : Heap.SameBut it hp h₁ := hs₁
  replace he₁ : h₁.get? it = some { cls := .type "dict_itemiterator", dict := none, data := .fields #[f0, .bool f1, .ref d, .int (i + 1 : Nat) 0, .int n 0, .int ep 0, ok, ov], slots := #[] } := by
    have e : ((i + 1 : Nat) : Int) = (i : Int) + 1 := by omega
    rw [e]; simpa [rawInt] using he₁
  have hT₁ : Shared.TypeIs ⟨h₁, g, dr, tk, os⟩ (.ref it) "dict_itemiterator" := ⟨_, he₁, rfl⟩
  refine wpAny_bind (wpAny_holding ?_)
  refine wpAny_bind (wpAny_isOneOf_itemiter hT₁ ?_)
  refine wpAny_bind (wpAny_isOneOf_itemiter hT₁ ?_)
  show wpAny _ _ (Builtin.Dict_items.pairFromOwner (.ref it) 6 e.key e.val) _ _ ⟨h₁, g, dr, tk, os⟩
  unfold Builtin.Dict_items.pairFromOwner
  refine wpAny_bind (wpAny_newTuple ?_)
  have he₂ := Heap.get?_push_of_some { cls := .type "tuple", data := .seq #[e.key, e.val] } he₁
  generalize hh₂ : h₁.push { cls := .type "tuple", data := .seq #[e.key, e.val] } = h₂ at he₂
  have hz₁ : h₁.objs.size = hp.objs.size := hs₁.1
  have hil : it < hp.objs.size := Heap.lt_size hit
  have ht₂ : h₂.get? hp.objs.size = some { cls := .type "tuple", data := .seq #[e.key, e.val] } := by rw [← hh₂, ← hz₁]; exact Heap.get?_push_size _ rfl
  have hz₂ : h₂.objs.size = hp.objs.size + 1 := by rw [← hh₂, Heap.size_push, hz₁]
  have hk₂ : ∀ b o, b ≠ it → hp.get? b = some o → h₂.get? b = some o := fun b o hb e => by rw [← hh₂]; exact Heap.get?_push_of_some _ (hs₁.extBut b o hb e)
  show wpAny _ _ (Builtin.Dict_items.ownedTupleIsFree (.ref it) >>= _) _ _ ⟨h₂, g, dr, tk, os⟩
  rw [hz₁]
  clear hh₂ he₁ hs₁ hT₁ hz₁ h₁
  refine wpAny_bind ?_
  unfold Builtin.Dict_items.ownedTupleIsFree
  rcases hf with rfl | ⟨a, oa, rfl, ha, hai, hat⟩
  · refine wpAny_bind (wpAny_field he₂ rfl (x := .none) rfl (wpAny_pure ?_))
    simp only [if_true]
    refine wpAny_bind (wpAny_field he₂ rfl (x := ok) rfl ?_)
    refine wpAny_bind (wpAny_field he₂ rfl (x := ov) rfl ?_)
    refine wpAny_bind (wpAny_setField_rec he₂ (by simp) fun h₃ he₃ hs₃ => ?_)
    replace hs₃ : Heap.SameBut it h₂ h₃ := hs₃
    refine wpAny_bind (wpAny_setField_rec he₃ (by simp) fun h₄ he₄ hs₄ => ?_)
    replace hs₄ : Heap.SameBut it h₃ h₄ := hs₄
    refine wpAny_bind (wpAny_setField_rec he₄ (by simp) fun h₅ he₅ hs₅ => ?_)
    replace hs₅ : Heap.SameBut it h₄ h₅ := hs₅
    refine wpAny_bind (wpAny_setField_rec he₅ (by simp) fun h₆ he₆ hs₆ => ?_)
    replace hs₆ : Heap.SameBut it h₅ h₆ := hs₆
    have all : ∀ b o, b ≠ it → h₂.get? b = some o → h₆.get? b = some o := fun b o hb e => hs₆.extBut b o hb (hs₅.extBut b o hb (hs₄.extBut b o hb (hs₃.extBut b o hb e)))
    have ht6 := all _ _ (Nat.ne_of_gt hil) ht₂
    refine wpAny_bind (wpAny_letGo (wpAny_pure (wpAny_pure ⟨_, rfl, wpAny_pure (hQ h₆ ⟨rawInt hp.objs.size, false, e.key, e.val, ?_, .inr ⟨hp.objs.size, _, rfl, ht6, Nat.ne_of_gt hil, rfl⟩⟩ ht6 ?_ fun b o hb e => all b o hb (hk₂ b o hb e))⟩)))
    · exact he₆
    · show h₆.objs.size = hp.objs.size + 1
      rw [hs₆.1, hs₅.1, hs₄.1, hs₃.1, hz₂]
  · have ha₂ : h₂.get? a = some oa := hk₂ a oa hai ha
    refine wpAny_bind (wpAny_field he₂ rfl (x := rawInt a) rfl ?_)
    show wpAny _ _ (loadIfAlive ((a : Int).toNat) >>= _) _ _ _
    rw [Int.toNat_natCast]
    refine wpAny_bind (bit_alive ha₂ ?_)
    simp only [Option.isNone_some, Bool.false_eq_true, if_false]
    refine wpAny_bind (wpAny_field he₂ rfl (x := .bool f1) rfl ?_)
    cases f1 with
    | true =>
      rw [if_neg (show ¬ ((Value.bool true != Value.bool true) = true) from Bool.false_ne_true)]
      refine wpAny_pure ?_
      simp only [Bool.false_eq_true, if_false]
      exact wpAny_pure (wpAny_pure ⟨_, rfl, wpAny_pure (hQ h₂ ⟨rawInt a, true, ok, ov, he₂, .inr ⟨a, oa, rfl, ha₂, hai, hat⟩⟩ ht₂ hz₂ hk₂)⟩)
    | false =>
      rw [if_pos (show (Value.bool false != Value.bool true) = true from rfl)]
      refine wpAny_bind (wpAny_setField_rec he₂ (by simp) fun h₃ he₃ hs₃ => ?_)
      replace hs₃ : Heap.SameBut it h₂ h₃ := hs₃
      refine wpAny_pure ?_
      simp only [Bool.false_eq_true, if_false]
      exact wpAny_pure (wpAny_pure ⟨_, rfl, wpAny_pure (hQ h₃ ⟨rawInt a, true, ok, ov, he₃, .inr ⟨a, oa, rfl, hs₃.extBut _ _ hai ha₂, hai, hat⟩⟩ (hs₃.extBut _ _ (Nat.ne_of_gt hil) ht₂) (by show h₃.objs.size = hp.objs.size + 1; rw [hs₃.1, hz₂]) fun b o hb e => hs₃.extBut b o hb (hk₂ b o hb e))⟩)
theorem bit_end {Q : Option Value → Shared → Prop} (hh : A.handled = none) (hit : BIt s.heap it d i n ep) (hm : BRaw s.heap d es ep) (hn : es.size = n) (hx : es[i]? = none)
    (hQ : ∀ h', Heap.ExtBut it s.heap h' → Q none { s with heap := h' }) : wpAny (model prog w) A (pyNext (.ref it)) Q E s := by
  obtain ⟨od, hod, hdd⟩ := id hm
  obtain ⟨f0, f1, ok, ov, hit, hf⟩ := hit
  have hT : s.TypeIs (.ref it) "dict_itemiterator" := ⟨_, hit, rfl⟩
  unfold pyNext
  refine wpAny_bind (wpAny_attempt (wpAny_callSpecial?_slot (name := Str.ofString "__next__") hT PySem.F.slot_dict_itemiterator_next
    (wpAny_call_entry PySem.F.slot_dict_itemiterator_next hT PySem.F.entry_dict_itemiterator_next ?_ (PySem.F.args_dict_itemiterator_next_1 _))))
  refine wpAny_bind (wpAny_pure ?_)
  refine wpAny_bind ?_
  refine wpAny_bind ?_
  refine wpAny_bind (wpAny_typeNameOfWhole_itemiter hT (wpAny_pure ?_))
  refine wpAny_bind (wpAny_fieldsOf hit rfl ?_)
  have hown : Builtin.Dict_items.ownsTuple "dict_itemiterator" = true := by decide
  simp only [hown, if_true]
  show wpAny _ _ (if (Value.ref d == Value.none) = true then _ else _) _ _ s
  rw [if_neg (show ¬ ((Value.ref d == Value.none) = true) from Bool.false_ne_true)]
  refine wpAny_bind (wpAny_pure ?_)
  refine wpAny_bind (wpAny_dictEntries hod hdd ?_)
  rw [if_neg (by rw [hn]; simp)]
  refine wpAny_bind (wpAny_pure ?_)
  refine wpAny_bind (wpAny_dictEpoch hod hdd ?_)
  rw [if_neg (by simp)]
  refine wpAny_pure ?_
  simp only [show ¬ ((i : Int) < 0) from by omega, if_false, Int.toNat_natCast, hx]
  refine wpAny_bind ?_
  refine wpAny_bind (wpAny_typeNameOfWhole_itemiter hT (wpAny_pure ?_))
  show wpAny _ _ (setField (.ref it) 2 .none >>= _) _ _ s
  refine wpAny_bind (wpAny_setField hit rfl (by simp) ?_)
  show wpAny _ _ (newExc (.type "StopIteration") [] >>= _) _ _ _
  refine wpAny_bind ?_
  simp only [newExc, newTuple]
  refine wpAny_bind (wpAny_newObj_type ?_ (by size_fits))
  refine wpAny_bind (m := firstArgMember _ _) (wpAny_of_eq (a := Value.none) (by first | rfl | (simp only [firstArgMember]; rfl)) ?_)
  refine wpAny_newObj_type ?_ (by size_fits)
  simp only [raiseNew]
  refine wpAny_bind (wpAny_handled ?_)
  rw [show A.in1.handled = none from hh]
  refine wpAny_bind (wpAny_pure (wpAny_throw ?_))
  refine wpAny_bind (wpAny_isInstance (T := "StopIteration") (b := true) ⟨_, Heap.get?_push_size _ rfl, rfl⟩ isSubtype_stop ?_)
  exact wpAny_pure (hQ _ (((Heap.SameBut.update ..).extBut.push _).push _))
end
end Mine
end

section
open PySem PySem.W PyProof.Rows PySem.Calls
set_option maxRecDepth 100000
set_option linter.all false
set_option maxHeartbeats 4000000
namespace Mine
open PySem (eval)

theorem ne_of_cls {h : Heap} {a b : Addr} {o1 o2 : Obj} (e1 : h.get? a = some o1) (e2 : h.get? b = some o2) (hc : o1.cls ≠ o2.cls) : a ≠ b := by
  rintro rfl; rw [e1] at e2; exact hc (congrArg Obj.cls (Option.some.inj e2))
noncomputable def TupAll (h : Heap) : List Value → List DictEntry → Prop
  | [], [] => True
  | v :: vs, e :: es => (∃ a, v = .ref a ∧ h.get? a = some { cls := .type "tuple", data := .seq #[e.key, e.val] }) ∧ TupAll h vs es
  | _, _ => False
theorem TupAll.keep {h h' : Heap} (k : ∀ b x y, h.get? b = some { cls := .type "tuple", data := .seq #[x, y] } → h'.get? b = some { cls := .type "tuple", data := .seq #[x, y] }) : ∀ {vs : List Value} {es : List DictEntry}, TupAll h vs es → TupAll h' vs es
  | [], [], _ => trivial
  | _ :: _, _ :: _, ⟨⟨a, e, q⟩, t⟩ => ⟨⟨a, e, k _ _ _ q⟩, TupAll.keep k t⟩
  | [], _ :: _, x => x.elim
  | _ :: _, [], x => x.elim
theorem TupAll.snoc {h : Heap} {a : Addr} {e : DictEntry} (q : h.get? a = some { cls := .type "tuple", data := .seq #[e.key, e.val] }) : ∀ {vs : List Value} {es : List DictEntry}, TupAll h vs es → TupAll h (vs ++ [.ref a]) (es ++ [e])
  | [], [], _ => ⟨⟨a, rfl, q⟩, trivial⟩
  | _ :: _, _ :: _, ⟨x, t⟩ => ⟨x, TupAll.snoc q t⟩
  | [], _ :: _, x => x.elim
  | _ :: _, [], x => x.elim
theorem TupAll.length {h : Heap} : ∀ {vs : List Value} {es : List DictEntry}, TupAll h vs es → vs.length = es.length
  | [], [], _ => rfl
  | _ :: _, _ :: _, ⟨_, t⟩ => by simp [TupAll.length t]
  | [], _ :: _, x => x.elim
  | _ :: _, [], x => x.elim

section
variable {prog : Program} {w : World} {A : Around} {s : Shared} {R : Result → Shared → Prop} {es : Array DictEntry} {ep : Nat}
theorem bit_loop {S I d : Addr} (hh : A.handled = none) (hSI : S ≠ I) (hSd : d ≠ S) (hId : d ≠ I) (hn : es.size ≤ sizeLine) (res : Value) {h₁ : Heap}
    (hR : ∀ h' tk acc c, (∀ b o, b ≠ S → b ≠ I → h₁.get? b = some o → h'.get? b = some o) → h'.get? S = some { cls := .type "list", dict := none, data := .seq acc c, slots := #[] } → TupAll h' acc.toList es.toList → R (.ok (.ret res)) { s with heap := h', toks := tk }) :
    ∀ (k i : Nat) (h : Heap) (tk c : Nat) (acc : Array Value), es.size - i = k → i ≤ es.size → BIt h I d i es.size ep → BRaw h d es ep → (∀ b o, b ≠ S → b ≠ I → h₁.get? b = some o → h.get? b = some o) →
      h.get? S = some { cls := .type "list", dict := none, data := .seq acc c, slots := #[] } → TupAll h acc.toList (es.toList.take i) →
      codeAny (model prog w) A (.builtin "list.extend.loop" ⟨[.ref S, .ref I, res], []⟩) R { s with heap := h, toks := tk } := by
  intro k
  induction k with
  | zero =>
    intro i h tk c acc hk hi hst hD hkeep hS hacc
    have hin : i = es.size := by omega
    refine codeAny_builtin PySem.F.entry_extend_loop ?_
    rw [Around.under_plainId PySem.F.plain_extend_loop _]
    show wpAny _ A.in1 (pyNext (.ref I) >>= _) _ _ _
    refine wpAny_bind (bit_end (s := { s with heap := h, toks := tk }) (A := A.in1) hh hst hD rfl (Array.getElem?_eq_none (by omega)) fun h' he => ?_)
    obtain ⟨f0, f1, k1, v1, eI, _⟩ := hst
    refine wpAny_pure (hR h' tk acc c (fun b o h1 h2 e => he b o h2 (hkeep b o h1 h2 e)) (he S _ hSI hS) ?_)
    have htk : es.toList.take i = es.toList := List.take_of_length_le (by rw [Array.length_toList]; omega)
    rw [htk] at hacc
    exact hacc.keep fun b x y e => he b _ (ne_of_cls e eI (show Value.type "tuple" ≠ Value.type "dict_itemiterator" by decide)) e
  | succ k ih =>
    intro i h tk c acc hk hi hst hD hkeep hS hacc
    have hlt : i < es.size := by omega
    have hx : es[i]? = some es[i] := Array.getElem?_eq_getElem hlt
    have hsz : acc.size = i := by rw [← Array.length_toList, hacc.length, List.length_take, Array.length_toList]; omega
    refine codeAny_builtin PySem.F.entry_extend_loop ?_
    rw [Around.under_plainId PySem.F.plain_extend_loop _]
    show wpAny _ A.in1 (pyNext (.ref I) >>= _) _ _ _
    refine wpAny_bind (bit_next (s := { s with heap := h, toks := tk }) hst hD rfl hx fun h' hst' ht hz hkp => ?_)
    dsimp only at ht hz hkp ⊢
    have hS' := hkp S _ hSI hS
    have up : ∀ b o, b ≠ S → h'.get? b = some o → (h'.update S (Obj.mapSeq (·.push (Value.ref h.objs.size)))).get? b = some o := fun b o hb e => (Heap.get?_update_other _ _ (Ne.symm hb)).trans e
    have hSl : S < h.objs.size := Heap.lt_size hS
    obtain ⟨f0, f1, k1, v1, eI, hf⟩ := hst
    obtain ⟨g0, g1, k2, v2, eI', hg⟩ := hst'
    show wpAny _ A.in1 (updateSeq S (·.push (Value.ref h.objs.size)) >>= _) _ _ _
    refine wpAny_bind ?_
    refine wpAny_updateSeq hS' rfl (wpAny_pure ⟨plainId_quiet PySem.F.plain_extend_loop _, ih (i + 1) _ tk _ (acc.push (Value.ref h.objs.size)) (by omega) hlt ⟨g0, g1, k2, v2, up _ _ (Ne.symm hSI) eI', hg.imp id fun ⟨a, oa, e1, e2, e3, e4⟩ => ⟨a, oa, e1, up _ _ (fun q => by rw [q, hS'] at e2; rw [← Option.some.inj e2] at e4; exact absurd e4 (show Value.type "list" ≠ Value.type "tuple" by decide)) e2, e3, e4⟩⟩ (hD.at' fun o e => up d o hSd (hkp d o hId e))
      (fun b o h1 h2 e => up b o h1 (hkp b o h2 (hkeep b o h1 h2 e))) (Heap.get?_update_self _ hS' rfl) ?_⟩) (by rw [hsz]; omega) (by show (acc.push (Value.ref h.objs.size)).size ≤ sizeLine + 1; rw [Array.size_push, hsz]; omega)
    rw [Array.toList_push, List.take_succ_eq_append_getElem (by rw [Array.length_toList]; exact hlt), Array.getElem_toList]
    refine TupAll.snoc (up _ _ (Nat.ne_of_gt hSl) ht) (hacc.keep fun b x y e => up b _ (ne_of_cls e hS (show Value.type "tuple" ≠ Value.type "list" by decide)) (hkp b _ (ne_of_cls e eI (show Value.type "tuple" ≠ Value.type "dict_itemiterator" by decide)) e))

theorem bit_hint {r : Addr} {E : Value → Shared → Prop} (hT : s.TypeIs (.ref r) "dict_items") {Q : Bool → Shared → Prop} (h : Q false s) : wpAny (model prog w) A (Builtin.List.listLengthHint (.ref r)) Q E s := by
  have hl : typeLookup (.type "dict_items") "__len__" = pure (some (.builtin "dict_items.__len__")) := by rw [typeLookup_type, builtinLookup_eq_fast]; kernel_rfl
  unfold Builtin.List.listLengthHint
  refine wpAny_bind (wpAny_specialOf hT hl ?_)
  generalize hid : ("dict_items.__len__" : String) = id0
  wp_delta
  rw [show splitId id0 = some ("dict_items", "__len__") from by subst hid; decide +kernel]
  subst hid
  refine wpAny_bind (wpAny_isInstance (T := "dict_items") (b := true) hT (by rw [isSubtype_type]; kernel_rfl) ?_)
  refine wpAny_ite_split (fun hab => absurd hab (by decide)) (fun _ => ?_)
  refine wpAny_ite_split (fun _ => ?_) (fun hab => absurd (by decide +kernel) hab)
  refine wpAny_bind (wpAny_typeOf hT ?_)
  exact wpAny_pure h

theorem bit_iter {E : Value → Shared → Prop} {v d : Addr} {Q : Value → Shared → Prop} (hv : s.heap.IsItemsView v d) (hm : BRaw s.heap d es ep)
    (hQ : Q (.ref s.heap.objs.size) { s with heap := s.heap.push { cls := .type "dict_itemiterator", data := .fields #[.none, .bool false, .ref d, .int 0 0, .int es.size 0, .int ep 0, .none, .none] } }) :
    wpAny (model prog w) A (pyIter (.ref v)) Q E s := by
  obtain ⟨ov, hov, hcv, hdv⟩ := id hv
  obtain ⟨o, ho, hdat⟩ := id hm
  refine wpAny_pyIter_slot hv.typeIs PySem.F.slot_dict_items_iter (wpAny_call_entry PySem.F.slot_dict_items_iter hv.typeIs PySem.F.entry_dict_items_iter ?_ (PySem.F.args_dict_items_iter_1 _))
  unfold Builtin.«dict_items.__iter__»
  refine wpAny_bind (wpAny_pure ?_)
  refine wpAny_bind ?_
  unfold Builtin.Dict_items.dictOf
  refine wpAny_bind (wpAny_field hov hdv (x := .ref d) rfl (wpAny_pure ?_))
  refine wpAny_bind ?_
  unfold Builtin.Dict_items.newIterator
  refine wpAny_bind (wpAny_dictEntries ho hdat ?_)
  refine wpAny_bind (wpAny_dictEpoch ho hdat ?_)
  have hown : Builtin.Dict_items.ownsTuple "dict_itemiterator" = true := by decide
  simp only [hown, if_true]
  refine wpAny_newObj_type (wpAny_pure ⟨_, rfl, "dict_itemiterator", _, ⟨_, Heap.get?_push_size _ rfl, rfl⟩, PySem.F.slot_dict_itemiterator_next.lookup, ?_⟩)
    (by simp only [sizeOk, Builtin.Dict_items.ownedTupleFields, List.size_toArray, List.length_append, List.length_cons, List.length_nil, sizeLine_eq]; omega)
  simpa [rawInt, Builtin.Dict_items.ownedTupleFields] using hQ
theorem bit_extend {r d : Addr} (hh : A.handled = none) (hv : s.heap.IsItemsView r d) (hm : BRaw s.heap d es ep) (S : Addr) (hSr : S ≠ r) (hSd : d ≠ S) (res : Value) (c₀ : Nat) (hS : s.heap.get? S = some { cls := .type "list", data := .seq #[] c₀ })
    (hR : ∀ h' tk acc c, (∀ b o, b ≠ S → s.heap.get? b = some o → h'.get? b = some o) → h'.get? S = some { cls := .type "list", dict := none, data := .seq acc c, slots := #[] } → TupAll h' acc.toList es.toList → R (.ok (.ret res)) { s with heap := h', toks := tk }) (hn : es.size ≤ sizeLine) :
    wpAny (model prog w) A.in1 (Builtin.List.listExtendWith (.ref S) (.ref r) res)
      (fun fin s' => match fin with | .done f => R (.ok f) s' | .again c' => c'.quiet = true ∧ codeAny (model prog w) A c' R s') (fun e s' => R (.error e) s') s := by
  have hSI : S < s.heap.objs.size := Heap.lt_size hS
  have hdI : d < s.heap.objs.size := by obtain ⟨o, e, _⟩ := hm; exact Heap.lt_size e
  have key : ∀ (h : Heap) (c₁ tk : Nat), (∀ b o, b ≠ S → (s.heap.push { cls := .type "dict_itemiterator", data := .fields #[.none, .bool false, .ref d, .int 0 0, .int es.size 0, .int ep 0, .none, .none] }).get? b = some o → h.get? b = some o) →
      h.get? S = some { cls := .type "list", data := .seq #[] c₁ } → codeAny (model prog w) A (.builtin "list.extend.loop" ⟨[.ref S, .ref s.heap.objs.size, res], []⟩) R { s with heap := h, toks := tk } := by
    intro h c₁ tk hk hS₁
    have hI := hk s.heap.objs.size _ (Nat.ne_of_gt hSI) (Heap.get?_push_size _ rfl)
    refine bit_loop (es := es) (ep := ep) (s := s) (h₁ := s.heap) hh (Nat.ne_of_lt hSI) hSd (Nat.ne_of_lt hdI) hn res (fun h' tk' acc c hk' hS' hacc => hR h' tk' acc c (fun b o hb e => hk' b o hb (Nat.ne_of_lt (Heap.lt_size e)) e) hS' hacc)
      es.size 0 h tk c₁ #[] (Nat.sub_zero _) (Nat.zero_le _) ⟨.none, false, .none, .none, hI, .inl rfl⟩ (hm.at' fun o e => hk d o hSd (Heap.get?_push_of_some _ e)) (fun b o hb _ e => hk b o hb (Heap.get?_push_of_some _ e)) hS₁ trivial
  unfold Builtin.List.listExtendWith
  refine wpAny_bind (wpAny_typeOf (T := "dict_items") hv.typeIs ?_)
  have h1 : Builtin.List.listSameRef (.ref S) (.ref r) = false := by simp [Builtin.List.listSameRef, hSr]
  have h2 : (Value.type "dict_items" == Value.type "list") = false := by decide
  have h3 : (Value.type "dict_items" == Value.type "tuple") = false := by decide
  simp only [h1, h2, h3, Bool.or_false, Bool.false_eq_true, if_false]
  refine wpAny_bind (bit_iter hv hm ?_)
  have hS₁ := Heap.get?_push_of_some { cls := .type "dict_itemiterator", data := .fields #[.none, .bool false, .ref d, .int 0 0, .int es.size 0, .int ep 0, .none, .none] } hS
  refine wpAny_bind (wpAny_holding (bit_hint (let ⟨o, ho, hc, _⟩ := hv; ⟨o, Heap.get?_push_of_some _ ho, hc⟩) ?_))
  refine wpAny_ite_split (fun _ => ?_) (fun _ => wpAny_pure ⟨plainId_quiet PySem.F.plain_extend_loop _, key _ c₀ _ (fun b o _ e => e) hS₁⟩)
  refine wpAny_bind (wpAny_rule ?_)
  refine wpAny_bind ?_
  show wpAny _ _ (updateSeq S (·.push .none) >>= fun _ => updateSeq S (·.pop)) _ _ _
  refine wpAny_bind (wpAny_updateSeq hS₁ rfl ?_)
  have hS₂ := Heap.get?_update_self (Obj.mapSeq (·.push Value.none)) hS₁ rfl
  refine wpAny_updateSeq (hz := by seq_fits) hS₂ rfl ?_
  have hS₃ := Heap.get?_update_self (Obj.mapSeq (·.pop)) hS₂ rfl
  refine wpAny_pure ⟨plainId_quiet PySem.F.plain_extend_loop _, key _ _ _ (fun b o hb e => ?_) hS₃⟩
  exact (Heap.get?_update_other _ _ (Ne.symm hb)).trans ((Heap.get?_update_other _ _ (Ne.symm hb)).trans e)
/-- `list(items)` -/
theorem bit_list {E : Value → Shared → Prop} {r d : Addr} {Q : Value → Shared → Prop} (hh : A.handled = none) (hv : s.heap.IsItemsView r d) (hm : BRaw s.heap d es ep) (hn : es.size ≤ sizeLine)
    (hQ : ∀ h' tk acc c, Le s.heap h' → h'.get? s.heap.objs.size = some { cls := .type "list", dict := none, data := .seq acc c, slots := #[] } → TupAll h' acc.toList es.toList → Q (.ref s.heap.objs.size) { s with heap := h', toks := tk }) :
    wpAny (model prog w) A (PySem.call (.type "list") [.ref r]) Q E s := by
  refine callType_codes (Q₁ := fun obj s₁ => obj = .ref s.heap.objs.size ∧ s₁ = { s with heap := s.heap.push { cls := .type "list", data := .seq #[] } }) PySem.F.called_list (PySem.F.typeCall_list_1 _) PySem.F.entry_list_init
    (code_list_new _ ⟨rfl, rfl⟩) fun obj s₁ h₁ => ?_
  obtain ⟨rfl, rfl⟩ := h₁
  have hS : (s.heap.push { cls := .type "list", data := .seq #[] }).get? s.heap.objs.size = some { cls := .type "list", data := .seq #[] } := Heap.get?_push_size _ rfl
  have hr : r < s.heap.objs.size := let ⟨_, ho, _⟩ := hv; Heap.lt_size ho
  have hd : d < s.heap.objs.size := by obtain ⟨o, e, _⟩ := hm; exact Heap.lt_size e
  refine ⟨⟨_, hS, rfl⟩, PySem.F.args_list_init_2 _ _, ?_⟩
  show wpAny _ A.in1.in1 (do let old ← Builtin.List.listItems (.ref s.heap.objs.size); Builtin.List.listUpdate (.ref s.heap.objs.size) (fun _ => #[]); letGo old.toList.reverse; Builtin.List.listExtendWith (.ref s.heap.objs.size) (.ref r) .none) _ _ _
  refine wpAny_bind ?_
  unfold Builtin.List.listItems
  refine wpAny_bind (wpAny_seqItems hS rfl (wpAny_pure ?_))
  show wpAny _ _ (updateSeq s.heap.objs.size (fun _ => #[]) >>= fun _ => letGo (#[] : Array Value).toList.reverse >>= fun _ => Builtin.List.listExtendWith (.ref s.heap.objs.size) (.ref r) .none) _ _ _
  refine wpAny_bind (wpAny_updateSeq hS rfl ?_)
  have hS₂ := Heap.get?_update_self (Obj.mapSeq (fun _ => (#[] : Array Value))) hS rfl
  have oth : ∀ b o, b ≠ s.heap.objs.size → s.heap.get? b = some o → ((s.heap.push { cls := .type "list", data := .seq #[] }).update s.heap.objs.size (Obj.mapSeq (fun _ => (#[] : Array Value)))).get? b = some o :=
    fun b o hb e => (Heap.get?_update_other _ _ (Ne.symm hb)).trans (Heap.get?_push_of_some _ e)
  refine wpAny_bind (wpAny_letGo ?_)
  refine bit_extend (A := A.in1) (s := { s with heap := (s.heap.push { cls := .type "list", data := .seq #[] }).update s.heap.objs.size (Obj.mapSeq (fun _ => (#[] : Array Value))) }) hh (let ⟨o, ho, x⟩ := hv; ⟨o, oth r o (Nat.ne_of_lt hr) ho, x⟩) (hm.at' fun o e => oth d o (Nat.ne_of_lt hd) e) _ (Nat.ne_of_gt hr) (Nat.ne_of_lt hd) .none _ hS₂ (fun h' tk acc c hk hS' hacc => ?_) hn
  exact ⟨rfl, hQ h' tk acc c (fun b o e => hk b o (Nat.ne_of_lt (Heap.lt_size e)) (oth b o (Nat.ne_of_lt (Heap.lt_size e)) e)) hS' hacc⟩
end
end Mine
end

section
open PySem PySem.W PyProof.Rows PySem.Calls
set_option maxRecDepth 100000
set_option linter.all false
set_option maxHeartbeats 4000000
namespace Mine
open PySem (eval)
open Builtin Builtin.ObjectAttr

theorem find_items (w : World) : findIn (K01 w) (.ref 162) "items" = some (some (.builtin "dict.items")) := by kernel_rfl
theorem type_items (w : World) : typeIn (K01 w) (.builtin "dict.items") = some (.type "method_descriptor") := by kernel_rfl
section
variable {w : World} {A : Around} {E : Value → Shared → Prop} {s : Shared}
theorem getMethod_items (K : (K01 w).In s.heap) {B bd : Addr} {es : Array DictEntry} {ep : Nat} {od : Obj} {pl : Sem Bool} {Q : Value × List Value → Shared → Prop} (eB : s.heap.get? B = some ⟨.ref 162, some bd, .dict es ep, #[some (.type "list")]⟩) (ed : s.heap.get? bd = some od)
    (hs : lookIn "items" od = some none) (h : Q (.builtin "dict.items", [.ref B]) s) : wpAny (model pw w) A (getMethod (.ref B) "items" pl) Q E s := by
  have I : InstAt s.heap B ⟨.ref 162, some bd, .dict es ep, #[some (.type "list")]⟩ 162 (some od) := ⟨eB, rfl, rfl, ed⟩
  unfold getMethod specialOf
  refine wpAny_bind (wpAny_bind (I.type.here ((looks_findIn K (r := some (.builtin "collections.defaultdict.__getattribute__")) (by kernel_rfl)).here ?_)))
  dsimp only
  rw [canon_dga, if_neg (by decide)]
  refine wpAny_bind (wpAny_bind (I.type.here ((looks_findIn K (r := none) (by kernel_rfl)).here ?_)))
  refine wpAny_bind (wpAny_bind (I.type.here ((looks_findIn K (find_items w)).here (wpAny_bind ((looks_typeIn K (type_items w)).here ?_)))))
  rw [if_neg (by decide +kernel)]
  refine wpAny_bind (wpAny_loadPart eB ?_)
  refine wpAny_bind (wpAny_bind (wpAny_loadPart ed ?_))
  rw [nsLook_of hs]
  exact wpAny_pure (wpAny_bind (wpAny_rule (wpAny_pure h)))
theorem call_items (K : (K01 w).In s.heap) {B : Addr} {o : Obj} {Q : Value → Shared → Prop} (e : s.heap.get? B = some o) (hc : o.cls = .ref 162) (h : Q (.ref s.heap.objs.size) { s with heap := s.heap.push { cls := .type "dict_items", data := .fields #[.ref B] } }) :
    wpAny (model pw w) A (PySem.call (.builtin "dict.items") [.ref B]) Q E s := by
  refine wpAny_call (codeAny_call_builtin PySem.F.slot_dict_items.plain PySem.F.entry_dict_items ?_)
  refine @check_meth (model pw w) _ _ s "dict.items" "dict" "items" (.ref B) [] _ (by decide +kernel) (by decide +kernel) (looks_book K e hc) (PySem.F.args_dict_items_1 _) ?_
  unfold Builtin.«dict.items»
  refine wpAny_bind ?_
  unfold Builtin.Dict.noArgs
  refine wpAny_bind (notOrd_book K e hc ?_)
  show wpAny _ _ (pure B) _ _ s
  refine wpAny_pure ?_
  show wpAny _ _ (Builtin.Dict.showsAll B >>= _) _ _ s
  unfold Builtin.Dict.showsAll
  rw [if_neg (by rw [sysMod_ne K e hc]; exact Bool.false_ne_true)]
  refine wpAny_bind (wpAny_pure ?_)
  exact wpAny_bind (wpAny_newObj_type (wpAny_pure h))
theorem bd_items {fz : Bool} {B bd : Addr} {h : Heap} (x : BdOk w fz h B bd) : ∃ od, h.get? bd = some od ∧ lookIn "items" od = some none := by
  cases fz with
  | false => exact ⟨_, x, by rfl⟩
  | true => obtain ⟨M, tk, e, _⟩ := x; exact ⟨_, e, by rfl⟩
/-- `list(book.items())` -/
theorem ev_items (T : TopH w s.heap) (ok : OkA 20 A) {env : Env} {B bd : Addr} {od : Obj} {bk : Bk} {p1 p2 p3 p4 p5 : Pos} (vl : Var env s.heap "list" (.type "list")) (vb : Var env s.heap "book" (.ref B)) (b : BookSt w s.heap B bd bk) (ed : s.heap.get? bd = some od) (hs : lookIn "items" od = some none) (hsz : bk.length ≤ sizeLine) (hl : (p3.endLine == p4.line) = true := by rfl) :
    wpAny (model pw w) A (eval (.Call (.Name "list" p1) [.Call (.Attribute (.Name "book" p2) "items" p3) [] [] p4] [] p5) env)
      (fun r s' => ∃ a acc c l ep, r = .ref a ∧ s.heap.get? B = some ⟨.ref 162, some bd, .dict l.toArray ep, #[some (.type "list")]⟩ ∧ Ents w l (ksOf bk) ∧ s.heap.get? a = none ∧ s'.heap.get? a = some { cls := .type "list", dict := none, data := .seq acc c, slots := #[] } ∧ TupAll s'.heap acc.toList l ∧ Kp s s') E s := by
  obtain ⟨l, ep, eB, en⟩ := id b.book.at_
  refine wpAny_Call_NameR (wpAny_Name (vl _ _ _ _ s (fun _ _ e => e) ?_) (by decide))
  have hse : backTo p5 (starEach [.Call (.Attribute (.Name "book" p2) "items" p3) [] [] p4] env) = [(false, eval (.Call (.Attribute (.Name "book" p2) "items" p3) [] [] p4) env)] := by rw [starEach_cons (by rfl)]; rfl
  rw [hse]
  refine PySem.callWith_type rfl (Calls.evalArgs_plain (Calls.spliced_cons ?_))
  refine call_meth (trees := []) (by rfl) (wpAny_Name (vb _ _ _ _ s (fun _ _ e => e) ?_) (by decide)) (by rfl) (by rfl) hl
  intro pl
  refine getMethod_items T.K eB ed hs ?_
  refine Calls.callWith_builtin rfl (PyProof.Rows.evalArgs_nil3 ?_)
  show wpAny _ _ (PySem.call (.builtin "dict.items") [.ref B]) _ _ _
  refine call_items T.K eB rfl (Calls.spliced_nil ?_)
  generalize hs1 : ({ s with heap := s.heap.push { cls := .type "dict_items", data := .fields #[.ref B] } } : Shared) = s1
  have k1 : Kp s s1 := by rw [← hs1]; exact Kp.of _ fun b o e => Heap.get?_push_of_some _ e
  have hv : s1.heap.IsItemsView s.heap.objs.size B := by rw [← hs1]; exact ⟨_, Heap.get?_push_size _ rfl, rfl, rfl⟩
  show wpAny _ _ (PySem.call (.type "list") [.ref s.heap.objs.size]) _ _ s1
  refine bit_list (es := l.toArray) (ep := ep) ok.hd hv ⟨_, k1.le _ _ eB, rfl⟩ ?_ fun h' tk acc c k2 e hT => ?_
  · have h1 := en.len
    have h2 : (ksOf bk).length = bk.length := by unfold ksOf; rw [List.length_map]
    rw [List.size_toArray, h1, h2]; exact hsz
  · exact ⟨_, acc, c, l, ep, rfl, eB, en, fresh_le k1.le (new_none _), e, hT, k1.tr (Kp.of tk k2)⟩
end
end Mine
end

section
open PySem PySem.W PyProof.Rows PySem.Calls
set_option maxRecDepth 100000
set_option linter.all false
set_option maxHeartbeats 4000000
namespace Mine
open PySem (eval)

noncomputable def frzStmt : Stmt := .If (.Name "frozen" ⟨185, 7, 185, 13⟩) [.Expr (.Call (.Attribute (.Name "book" ⟨186, 8, 186, 12⟩) "freeze" ⟨186, 8, 186, 19⟩) [] [] ⟨186, 8, 186, 21⟩) ⟨186, 8, 186, 21⟩] [] ⟨185, 4, 186, 21⟩
noncomputable def bookStmt : Stmt := .Assign [.Name "book" ⟨181, 4, 181, 8⟩] (.Call (.Name "FreezableDefaultDict" ⟨181, 11, 181, 31⟩) [.Name "list" ⟨181, 32, 181, 36⟩] [] ⟨181, 11, 181, 37⟩) ⟨181, 4, 181, 37⟩
noncomputable def walksStmt : Stmt := .Assign [.Name "walks" ⟨187, 4, 187, 9⟩] (.List [] ⟨187, 12, 187, 14⟩) ⟨187, 4, 187, 14⟩
noncomputable def linesStmt : Stmt := .For (.Name "line" ⟨182, 8, 182, 12⟩) (.Name "lines" ⟨182, 16, 182, 21⟩)
    [.Assign [.Name "pair" ⟨183, 8, 183, 12⟩] (.Call (.Attribute (.Name "Pair" ⟨183, 15, 183, 19⟩) "parse" ⟨183, 15, 183, 25⟩) [.Name "line" ⟨183, 26, 183, 30⟩] [] ⟨183, 15, 183, 31⟩) ⟨183, 8, 183, 31⟩,
      .Expr (.Call (.Attribute (.Subscript (.Name "book" ⟨184, 8, 184, 12⟩) (.Call (.Name "fold" ⟨184, 13, 184, 17⟩) [.Attribute (.Name "pair" ⟨184, 18, 184, 22⟩) "name" ⟨184, 18, 184, 27⟩] [] ⟨184, 13, 184, 28⟩) ⟨184, 8, 184, 29⟩) "append" ⟨184, 8, 184, 36⟩)
        [.Attribute (.Name "pair" ⟨184, 37, 184, 41⟩) "value" ⟨184, 37, 184, 47⟩] [] ⟨184, 8, 184, 48⟩) ⟨184, 8, 184, 48⟩] [] ⟨182, 4, 184, 48⟩
noncomputable def startsStmt : Stmt := .For (.Name "start" ⟨188, 8, 188, 13⟩) (.Name "starts" ⟨188, 17, 188, 23⟩) startBody [] ⟨188, 4, 194, 26⟩
noncomputable def retStmt : Stmt := .Return (some (.Tuple [.Name "walks" ⟨195, 12, 195, 17⟩, .Call (.Name "list" ⟨195, 19, 195, 23⟩) [.Call (.Attribute (.Name "book" ⟨195, 24, 195, 28⟩) "items" ⟨195, 24, 195, 34⟩) [] [] ⟨195, 24, 195, 36⟩] [] ⟨195, 19, 195, 37⟩] 0 ⟨195, 11, 195, 38⟩)) ⟨195, 4, 195, 38⟩
theorem run_body : fbody (stOf 15) = [bookStmt, linesStmt, frzStmt, walksStmt, startsStmt, retStmt] := by rfl

theorem find_frz (w : World) : findIn (K01 w) (.ref 162) "freeze" = some (some (.ref 159)) := by kernel_rfl
theorem type_frz (w : World) : typeIn (K01 w) (.ref 159) = some (.type "function") := by kernel_rfl
theorem keep162 (w : World) : keepIn (K01 w) (.ref 162) = true := by kernel_rfl

section
variable {w : World} {A : Around} {E : Value → Shared → Prop} {s : Shared} {N : Nat}
/-- `book = FreezableDefaultDict(list)`, the value -/
theorem ev_mkbook (T : TopH w s.heap) (ok : OkA 100 A) {env : Env} {p1 p2 p3 : Pos} (vf : Var env s.heap "FreezableDefaultDict" (.ref 162)) (vl : Var env s.heap "list" (.type "list")) :
    wpAny (model pw w) A (eval (.Call (.Name "FreezableDefaultDict" p1) [.Name "list" p2] [] p3) env) (PostBook s) E s := by
  refine wpAny_Call_NameR (wpAny_Name (vf _ _ _ _ s (fun _ _ e => e) ?_) (by decide))
  refine callWith_of (P := fun h => (K01 w).In h) (by rfl) (keeps_K (keep162 w)) (Calls.evalArgs_plain (Calls.spliced_cons ?_))
  refine wpAny_Name (vl _ _ _ _ s (fun _ _ e => e) ?_) (by decide)
  exact Calls.spliced_nil ⟨T.K, mk_book T.K ok⟩

/-- `if frozen: book.freeze()` -/
theorem frz_stmt (T : TopH w s.heap) (ok : OkA 104 A) {fz : Bool} {B bd : Addr} {ps : Array Value} {m : Str → Option Value} {es : Array DictEntry} {ep : Nat} (hns : s.heap.Ns (Lr N) m) (mb : m "book" = some (.ref B)) (mz : m "frozen" = some (.bool fz))
    (eB : s.heap.get? B = some ⟨.ref 162, some bd, .dict es ep, #[some (.type "list")]⟩) (ed : s.heap.get? bd = some emptyD) (tb : TabAt s.heap ps) {Q : Flow → Shared → Prop}
    (hQ : ∀ s', BdOk w fz s'.heap B bd → (∃ more, TabAt s'.heap (ps ++ more)) → (∀ b o, b ≠ 154 → b ≠ bd → s.heap.get? b = some o → s'.heap.get? b = some o) → (∃ h' tk, s' = { s with heap := h', toks := tk }) → Q .next s') :
    wpAny (model pw w) A (exec frzStmt (envRun N)) Q E s := by
  unfold frzStmt
  have vz : Var (envRun N) s.heap "frozen" (.bool fz) := Var.loc rfl (by rfl) hns mz
  refine wpAny_If (wpAny_mono ((EvT.ofBool (EvD.name (S := fun _ => False) (prog := pw) (w := w) (A := A) vz (.bool fz))) s E fun _ _ e => e) (fun b s1 h1 => ?_) fun _ _ q => q)
  obtain ⟨rfl, k⟩ := h1
  cases b with
  | false =>
    show wpAny _ _ (execs [] _) _ _ _
    refine wpAny_execs_nil (hQ s1 (k.le _ _ ed) ⟨#[], ?_⟩ (fun b o _ _ e => k.le _ _ e) ?_)
    · rw [Array.append_empty]; exact tb.keep k.le
    · exact k.eq
  | true =>
    show wpAny _ _ (execs [_] _) _ _ _
    refine wpAny_execs_cons (wpAny_Expr (call_meth (trees := []) (by rfl) (wpAny_Name (Var.loc rfl (by rfl) (hns.keeps k.le) mb _ _ _ _ s1 (fun _ _ e => e) ?_) (by decide))) (by rfl) (by rfl))
    intro pl
    have T1 := T.mono k.le
    refine getMethod_book T1.K (k.le _ _ eB) (k.le _ _ ed) (find_frz w) (type_frz w) ?_
    refine callWith_function (PyProof.Rows.evalArgs_nil3 ⟨⟨T1.K _ _ (K_frz w), rfl⟩, ?_⟩)
    show wpAny _ _ (PySem.call (.ref 159) [.ref B]) _ _ _
    refine wpAny_call (codeAny_mono (freeze_spec T1 (ok.weak (by decide)) (k.le _ _ eB) (k.le _ _ ed) (tb.keep k.le)) fun r s2 h2 => ?_)
    obtain ⟨rfl, M, t, more, e2, _, hL, ht, hk, h3, t3, rfl⟩ := h2
    refine wpAny_execs_nil (hQ _ ⟨M, t, e2, hL⟩ ⟨more, ht⟩ (fun b o h1 h2 e => hk b o h1 h2 (k.le _ _ e)) ?_)
    obtain ⟨_, h', tk, rfl⟩ := k
    exact ⟨h3, t3, rfl⟩
end
end Mine
end

section
open PySem PySem.W PyProof.Rows PySem.Calls
set_option maxRecDepth 100000
set_option linter.all false
set_option maxHeartbeats 4000000
namespace Mine
open PySem (eval)

theorem touch_vals {bv : List (Str × List Str)} {x : Str} {P : Str → Prop} (g : ∀ e ∈ bv, ∀ v ∈ e.2, P v) : ∀ e ∈ touchV bv x, ∀ v ∈ e.2, P v := by
  unfold touchV
  split
  · exact g
  · intro e he
    rcases List.mem_append.mp he with he | he
    · exact g e he
    · rw [List.mem_singleton.mp he]; intro v hv; simp at hv
theorem push_vals {bv : List (Str × List Str)} {x v : Str} {P : Str → Prop} (g : ∀ e ∈ bv, ∀ v ∈ e.2, P v) (hv : P v) : ∀ e ∈ pushV bv x v, ∀ v ∈ e.2, P v := by
  unfold pushV
  intro e he u hu
  obtain ⟨e0, he0, rfl⟩ := List.mem_map.mp he
  split at hu
  · rcases List.mem_append.mp hu with hu | hu
    · exact touch_vals g e0 he0 u hu
    · rw [List.mem_singleton.mp hu]; exact hv
  · exact touch_vals g e0 he0 u hu
theorem fold_vals {ff : Str → Str} {P : Str → Prop} : ∀ {arrows : List (Str × Str)} {bv : List (Str × List Str)}, (∀ e ∈ bv, ∀ v ∈ e.2, P v) → (∀ x ∈ arrows, P x.2) → ∀ e ∈ arrows.foldl (fun bv x => pushV bv (ff x.1) x.2) bv, ∀ v ∈ e.2, P v
  | [], _, g, _ => g
  | x :: xs, _, g, ha => fold_vals (arrows := xs) (push_vals g (ha x (.head _))) fun y hy => ha y (.tail _ hy)
theorem book_good {ff : Str → Str} {arrows : List (Str × Str)} (ha : ∀ x ∈ arrows, x.1 ∈ names8 ∧ x.2 ∈ names8) (hlen : arrows.length ≤ 90) : (bookF ff arrows).length ≤ 90 ∧ ∀ e ∈ bookF ff arrows, (∀ v ∈ e.2, v ∈ names8) ∧ e.2.length ≤ 100 := by
  have g := GoodV.all (ff := ff) (xs := arrows) (⟨Nat.le_refl _, fun e he => by simp at he⟩ : GoodV [] 0)
  have v := fold_vals (ff := ff) (P := fun v => v ∈ names8) (arrows := arrows) (bv := []) (fun e he => by simp at he) fun x hx => (ha x hx).2
  refine ⟨Nat.le_trans g.len (by omega), fun e he => ⟨v e he, Nat.le_trans (g.vals e he) (by omega)⟩⟩

section
variable {w : World} {A : Around} {E : Value → Shared → Prop} {fz : Bool} {f : Str → Str} {N : Nat} {B bd ll fa Ls : Addr} {kv : Value} {s s3 : Shared}
theorem K_no154 (w : World) : (K01 w).lookup 154 = none := by kernel_rfl
theorem K_0 (w : World) : (K01 w).lookup 0 = some (objK w 0) := by kernel_rfl
/-- `_law_run` from its book on to the walks -/
theorem run_pre (T : TopH w s.heap) (ok : OkA 116 A) (fo : ∀ h, TopH w h → FoldOk w h fa f) {ps : Array Value} (tb : TabAt s.heap ps) {arrows : List (Str × Str)} {lvs : Array Value} {S0 : Addr → Prop} (hl : s.heap.IsList ll lvs) (hlr : RDs s.heap S0 lvs.toList (arrows.map fun x => .str (lineOf x.1 x.2)))
    (ha : ∀ x ∈ arrows, x.1 ∈ names8 ∧ x.2 ∈ names8) (hlen : arrows.length ≤ 90) {m : Str → Option Value} (x : RunSt w s N B bd 0 [] emptyD m s3) (m1 : m "lines" = some (.ref ll)) (m2 : m "key" = some kv) (m3 : m "fold" = some (.ref fa)) (m4 : m "starts" = some (.ref Ls)) (m5 : m "frozen" = some (.bool fz)) {rest : List Stmt} {Q : Flow → Shared → Prop}
    (hQ : ∀ WS bk m' s', PSt w fz N B bd WS fa kv bk m' s' → bkV bk = bookF f arrows → m' "starts" = some (.ref Ls) → (∃ more, TabAt s'.heap (ps ++ more)) → (∀ b o, b ≠ 154 → s.heap.get? b = some o → s'.heap.get? b = some o) → s.heap.get? B = none → s.heap.get? bd = none → s.heap.get? WS = none → s.heap.get? (Lr N) = none → (∃ h' tk, s' = { s with heap := h', toks := tk }) →
      wpAny (model pw w) A (execs rest (envRun N)) Q E s') :
    wpAny (model pw w) A (execs (linesStmt :: frzStmt :: walksStmt :: rest) (envRun N)) Q E s3 := by
  have n154 : ∀ {b : Addr}, s.heap.get? b = none → b ≠ 154 := fun e z => by rw [z, tb.1] at e; cases e
  refine wpAny_execs_cons ?_
  unfold linesStmt
  refine lines_loop (p9 := default) T (ok.weak (by decide)) (fo _ T) x rfl m1 hl hlr m3 ha hlen fun bk m' s4 x4 hv hm4 => ?_
  obtain ⟨l, ep, eB, en⟩ := id x4.st.book.at_
  have T4 := T.mono x4.F.keep
  refine wpAny_execs_cons (frz_stmt T4 (ok.weak (by decide)) x4.F.ns x4.mb ((hm4 _ (by decide) (by decide)).trans m5) eB x4.dk (tb.keep x4.F.keep) fun s5 hbd ht5 hk5 sh5 => ?_)
  have nLr := x4.F.newL
  have nB := x4.nB.1
  have nbd := x4.nbd.1
  unfold walksStmt
  refine wpAny_execs_cons (wpAny_Assign_Name (List_ (Calls.spliced_nil (wpAny_newObj_type ?_ (by show (0 : Nat) ≤ sizeLine; decide)))) (by rfl))
  have k6 : Le s5.heap (s5.heap.push { cls := .type "list", data := .seq #[] }) := fun b o e => Heap.get?_push_of_some _ e
  have eW : (s5.heap.push { cls := .type "list", data := .seq #[] }).get? s5.heap.objs.size = some ⟨.type "list", none, .seq #[] 0, #[]⟩ := Heap.get?_push_size _ rfl
  have nW5 : s5.heap.get? s5.heap.objs.size = none := new_none _
  show wpAny _ _ (storeName (envRun N) "walks" (.ref s5.heap.objs.size)) _ _ { s5 with heap := s5.heap.push { cls := .type "list", data := .seq #[] } }
  generalize hs6 : ({ s5 with heap := s5.heap.push { cls := .type "list", data := .seq #[] } } : Shared) = s6
  have k6 : Le s5.heap s6.heap := by rw [← hs6]; exact k6
  have eW : s6.heap.get? s5.heap.objs.size = some ⟨.type "list", none, .seq #[] 0, #[]⟩ := by rw [← hs6]; exact eW
  have sh6 : ∃ h' tk, s6 = { s5 with heap := h', toks := tk } := ⟨_, _, hs6.symm⟩
  generalize s5.heap.objs.size = WS at *
  have ns5 : s5.heap.Ns (Lr N) m' := x4.F.ns.at' fun o e => hk5 _ o (n154 nLr) (Ne.symm x4.nbd.2.1) e
  refine wpAny_storeName_local (by rfl) (ns5.keeps k6) fun h7 hns7 hs7 => ?_
  have x7 := hs7.extBut
  have aW : ∀ {b o}, s5.heap.get? b = some o → b ≠ WS := fun e z => by rw [z, nW5] at e; cases e
  have k47 : ∀ b o, b ≠ 154 → b ≠ bd → b ≠ Lr N → s4.heap.get? b = some o → h7.get? b = some o := fun b o h1 h2 h3 e => x7 _ _ h3 (k6 _ _ (hk5 _ _ h1 h2 e))
  have k07 : ∀ b o, b ≠ 154 → s.heap.get? b = some o → h7.get? b = some o := fun b o h1 e => k47 b o h1 (fun z => by rw [z, nbd] at e; cases e) (fun z => by rw [z] at e; rw [nLr] at e; cases e) (x4.F.keep _ _ e)
  have nW : s.heap.get? WS = none := by
    cases q : s.heap.get? WS with
    | none => rfl
    | some o =>
      by_cases z : WS = 154
      · rw [z] at nW5
        obtain ⟨more, ht⟩ := ht5
        rw [ht.1] at nW5; cases nW5
      · have := hk5 _ _ z (fun z => by rw [z, nbd] at q; cases q) (x4.F.keep _ _ q)
        rw [nW5] at this; cases this
  have eL5 : s5.heap.get? (Lr N) ≠ none := by obtain ⟨o, _, _, e, _⟩ := ns5; exact some_ne e
  have hLW : Lr N ≠ WS := fun z => eL5 (z ▸ nW5)
  have T7 : TopH w h7 := top_kmu (Mu := fun b => b = 154) T (fun b o n e => k07 b o n e) ⟨fun a o e z => (by rw [z, K_no154] at e; cases e), by decide, by decide, by decide⟩
  have hbd5 : ∃ o, s5.heap.get? bd = some o := by
    unfold BdOk at hbd
    split at hbd
    · obtain ⟨_, _, e, _⟩ := hbd; exact ⟨_, e⟩
    · exact ⟨_, hbd⟩
  obtain ⟨obd, ebd⟩ := hbd5
  have eB5 := hk5 _ _ (n154 nB) x.hB eB
  have gb := book_good (ff := f) ha hlen
  have BM : ∀ a, BookMu B bk a → s.heap.get? a = none ∧ a ≠ bd ∧ a ≠ Lr N ∧ ∃ o, s4.heap.get? a = some o := fun a hm => by
    rcases hm with rfl | ⟨z, hz, rfl⟩
    · exact ⟨nB, x4.hB, x4.nB.2.1, _, eB⟩
    · obtain ⟨its, ⟨n, e⟩, _⟩ := x4.st.lst z hz
      exact ⟨(x4.nl z hz).1, (x4.st.ne z hz).2, (x4.nl z hz).2.1, _, e⟩
  have BW : ∀ a, BookMu B bk a → a ≠ WS := fun a hm => by
    obtain ⟨h1, h2, h3, o, e⟩ := BM a hm
    exact aW (hk5 _ _ (n154 h1) h2 e)
  refine hQ WS bk _ _ ⟨hns7, T7, x4.st.keep fun a o hm e => ?_, hbd.kmu (fun o e => x7 _ _ x4.nbd.2.1 (k6 _ _ e)) (fun b o h1 h2 e => x7 _ _ (fun z => ?_) (k6 _ _ e)), by rw [hv]; exact gb.2, ⟨0, x7 _ _ (Ne.symm hLW) eW⟩, ?_, ?_, ?_, ?_, x4.hB, Ne.symm x4.nB.2.1, hLW, BW _ (.inl rfl), ?_, fun e he hm => ?_, ?_⟩ hv ?_ ?_ k07 nB nbd nW nLr ?_
  · obtain ⟨h1, h2, h3, _⟩ := BM a hm
    exact k47 a o (n154 h1) h2 h3 e
  · obtain ⟨o', es, ep', e', hd, _⟩ := ns5
    rw [z] at e
    rw [show s5.heap.get? (envRun N).locals = some o' from e'] at e; cases e; exact h1 _ _ hd
  · exact upd_ne x4.mb (by decide)
  · exact upd_ne ((hm4 _ (by decide) (by decide)).trans m3) (by decide)
  · exact upd_ne ((hm4 _ (by decide) (by decide)).trans m2) (by decide)
  · exact upd_eq
  · rintro (q | q | q)
    · exact x4.nbd.2.1 q
    · exact x4.hB q.symm
    · exact aW ebd q
  · have hb := BM e.2.1 (.inr ⟨e, he, rfl⟩)
    rcases hm with q | q | q
    · exact hb.2.2.1 q
    · exact (x4.st.ne e he).1 q
    · exact BW e.2.1 (.inr ⟨e, he, rfl⟩) q
  · have off : ∀ {b o}, s.heap.get? b = some o → ¬ MuP N B WS b := fun {b o} e hm => by
      rcases hm with q | q | q
      · rw [q] at e; rw [nLr] at e; cases e
      · rw [q, nB] at e; cases e
      · rw [q, nW] at e; cases e
    refine ⟨fun a o e => off (T.K a o e), ?_, ?_, ?_⟩
    · obtain ⟨mb, ⟨o, es, ep, e, r⟩, z⟩ := T.b; exact off e
    · obtain ⟨mg, o, es, ep, e, r⟩ := T.g; exact off e
    · obtain ⟨mc, ⟨o, es, ep, e, r⟩, z⟩ := T.nl; exact off e
  · exact upd_ne ((hm4 _ (by decide) (by decide)).trans m4) (by decide)
  · obtain ⟨more, ht⟩ := ht5
    have l154 : s.heap.get? 154 ≠ none := some_ne tb.1
    have kk : ∀ b o, b ≠ Lr N → s5.heap.get? b = some o → h7.get? b = some o := fun b o h e => x7 _ _ h (k6 _ _ e)
    refine ⟨more, kk _ _ (fun z => l154 (z ▸ nLr)) ht.1, ht.2.imp id fun ⟨c, e, c', oc, vs, t, e2, hoc, hd, r⟩ => ⟨c, e, c', oc, vs, t, e2, kk _ _ (fun z => ?_) hoc, hd, r⟩⟩
    obtain ⟨o', es, ep', e', hd', _⟩ := ns5
    rw [z] at hoc
    rw [show s5.heap.get? (envRun N).locals = some o' from e'] at hoc; cases hoc
    rw [hd'] at hd; cases hd
  · obtain ⟨h1, t1, e1⟩ := x4.F.eq
    obtain ⟨h2, t2, e2⟩ := sh5
    obtain ⟨h3, t3, e3⟩ := sh6
    exact ⟨h7, _, by rw [e3, e2, e1]⟩
end
end Mine
end

section
open PySem PySem.W PyProof.Rows PySem.Calls
set_option maxRecDepth 100000
set_option linter.all false
set_option maxHeartbeats 4000000
namespace Mine
open PySem (eval)

noncomputable def bvD (bv : List (Str × List Str)) : D := .lst (bv.map fun e => .tup [.str e.1, .lst (e.2.map .str)])
noncomputable def wkD (wk : List (List Str)) : D := .lst (wk.map fun ws => .lst (ws.map .str))
noncomputable def runD (p : List (List Str) × List (Str × List Str)) : D := .tup [wkD p.1, bvD p.2]

theorem items_rd {w : World} {h : Heap} : ∀ {bk : Bk} {l : List DictEntry} {vs : List Value}, Ents w l (ksOf bk) → TupAll h vs l → (∀ e ∈ bk, ∃ its, h.PlainList e.2.1 its ∧ RDs h (fun _ => False) its.toList (e.2.2.map .str)) →
    RDs h (fun _ => True) vs ((bkV bk).map fun e => .tup [.str e.1, .lst (e.2.map .str)])
  | [], _, [], .nil, _, _ => .nil
  | [], _, _ :: _, .nil, x, _ => x.elim
  | (k, a, v) :: bk, _, [], .cons r, x, _ => x.elim
  | (k, a, v) :: bk, _, _ :: vs, .cons r, ⟨⟨b, eb, q⟩, t⟩, g => by
    obtain ⟨its, ⟨n, hp⟩, rl⟩ := g _ (.head _)
    subst eb
    refine .cons (.tup trivial q rfl rfl (.cons (.str _ _) (.cons (.lst trivial hp rfl rfl (rl.sub fun _ z => z.elim)) .nil))) ?_
    exact items_rd r t fun e he => g e (.tail _ he)
theorem walks_rd {h : Heap} {WS : Addr} : ∀ {vs : List Value} {wk : List (List Str)}, WkAll h WS vs wk → RDs h (fun _ => True) vs (wk.map fun ws => .lst (ws.map .str))
  | [], [], _ => .nil
  | _ :: _, _ :: _, ⟨⟨b, its, eb, _, ⟨n, hp⟩, rl⟩, t⟩ => by
    subst eb
    exact .cons (.lst trivial hp rfl rfl (rl.sub fun _ z => z.elim)) (walks_rd t)
  | [], _ :: _, x => x.elim
  | _ :: _, [], x => x.elim

structure RunRes (w : World) (outer : List Env) (ps : Array Value) (d : D) (v : Value) (s s' : Shared) : Prop where
  rd : RD s'.heap (fun _ => True) v d
  T : TopH w s'.heap
  tab : ∃ more, TabAt s'.heap (ps ++ more)
  kf : KFr (fun b => b = 154) (framesOf outer) s.heap s'.heap
  sh : ∃ h' tk gens', s' = { s with heap := h', toks := tk, gens := gens' } ∧ (AllBare s.gens → AllBare gens')

theorem TabAt.nd {h h' : Heap} {ps : Array Value} (x : TabAt h ps) (k1 : h.get? 154 = h'.get? 154) (k : ∀ b o, (∀ es n, o.data ≠ .dict es n) → (∀ vs n, o.data ≠ .seq vs n) → h.get? b = some o → h'.get? b = some o) : TabAt h' ps :=
  ⟨k1 ▸ x.1, x.2.imp id fun ⟨c, e, c', oc, vs, t, e2, hoc, hd, r⟩ => ⟨c, e, c', oc, vs, t, e2, k _ _ (fun _ _ z => by rw [hd] at z; cases z) (fun _ _ z => by rw [hd] at z; cases z) hoc, hd, r⟩⟩

section
variable {w : World} {A : Around} {E : Value → Shared → Prop} {fz : Bool} {f : Str → Str} {ll fa Ls : Addr} {kv : Value} {s : Shared}
/-- a call of `_law_run` -/
theorem run_call (T : TopH w s.heap) (ok : OkA 117 A) {outer : List Env} (hfr : A.frames = some outer) (AR : Around1 w s.heap outer) (fo : ∀ h, TopH w h → FoldOk w h fa f) (ko : KeyOk w kv f) {ps : Array Value} (tb : TabAt s.heap ps) (h154 : 154 ∉ framesOf outer)
    {arrows : List (Str × Str)} {lvs : Array Value} {S0 : Addr → Prop} (hl : s.heap.IsList ll lvs) (hlr : RDs s.heap S0 lvs.toList (arrows.map fun x => .str (lineOf x.1 x.2))) (ha : ∀ x ∈ arrows, x.1 ∈ names8 ∧ x.2 ∈ names8) (hlen : arrows.length ≤ 90)
    {vs : Array Value} {wss : List (List Str)} (hLs : s.heap.IsList Ls vs) (hLs1 : Ls ≠ 154) (hLs2 : Ls ∉ framesOf outer) (hsz : vs.size = wss.length) (hsv : ∀ (i : Nat) v, vs[i]? = some v → ∃ ws, wss[i]? = some ws ∧ StartV s.heap v ws) (hg : ∀ ws ∈ wss, (∀ x ∈ ws, x ∈ names8) ∧ ws.length ≤ 100) (hn : wss.length ≤ 10) :
    codeAny (model pw w) A (.call (.ref 281) ⟨[.ref ll, kv, .ref fa, .ref Ls, .bool fz], []⟩) (fun r s' => ∃ v, r = .ok (.ret v) ∧ RunRes w outer ps (runD (runsF f fz wss (bookF f arrows))) v s s') s := by
  refine call_fn (binds := [("lines", .ref ll), ("key", kv), ("fold", .ref fa), ("starts", .ref Ls), ("frozen", .bool fz)]) _ ok.room T (K_run w) 280 rfl (by kernel_rfl) rfl (by rfl) rfl (fun y hy => ?_) fun s₁ X k => ?_
  · simp only [List.mem_cons, List.not_mem_nil, or_false] at hy
    rcases hy with rfl | rfl | rfl | rfl | rfl <;> exact .inl (by rfl)
  have F := Frm.ofCall X
  have okD : OkA 116 (A.deeper (envRun s.heap.objs.size)) := ok.deeper _
  have hfrD : (A.deeper (envRun s.heap.objs.size)).frames = some (envRun s.heap.objs.size :: outer) := by
    show (A.deeper _).frames = _
    unfold Around.deeper
    simp [hfr]
  show wpAny _ (A.deeper (envRun s.heap.objs.size)) (execs (fbody (stOf 15)) (envRun s.heap.objs.size)) _ _ _
  rw [run_body]
  clear X
  generalize A.deeper (envRun s.heap.objs.size) = A1 at *
  have F : Frm s (envRun s.heap.objs.size) (bindL (envRun s.heap.objs.size).kindOf [("lines", .ref ll), ("key", kv), ("fold", .ref fa), ("starts", .ref Ls), ("frozen", .bool fz)] fun _ => none) (fun _ => none) s₁ := ⟨F.eq, F.keep, F.ns, fun n c e => (noCells e).elim, F.newL, F.newC, F.apart⟩
  generalize s.heap.objs.size = N at *
  have T1 := T.mono F.keep
  unfold bookStmt
  refine wpAny_execs_cons (wpAny_Assign_Name (wpAny_mono (ev_mkbook T1 (okD.weak (by decide)) (Var.glob T1 rfl (by rfl) rfl (by kernel_rfl)) (Var.bi T1 rfl (by rfl) rfl rfl (by kernel_rfl) (by decide) (by rfl))) (fun v s2 h2 => ?_) fun _ _ q => q) (by rfl))
  obtain ⟨B, bd, rfl, eB, ed, nB1, nbd1, hlt, k2⟩ := h2
  have nB := fresh_le F.keep nB1
  have nbd := fresh_le F.keep nbd1
  have F2 := F.kp k2
  refine F2.storeL rfl (by rfl) fun h3 t3 F3 x3 => ?_
  have nL : ∀ {a}, s₁.heap.get? a = none → a ≠ (envRun N).locals := fun e z => F.lives (z ▸ e)
  have n0 : ∀ {a}, s.heap.get? a = none → a ≠ 0 := fun e z => by rw [z, T.K _ _ (K_0 w)] at e; cases e
  have x : RunSt w s N B bd 0 [] emptyD (fun y => if y = "book" then some (.ref B) else bindL (envRun N).kindOf [("lines", .ref ll), ("key", kv), ("fold", .ref fa), ("starts", .ref Ls), ("frozen", .bool fz)] (fun _ => none) y) { s2 with heap := h3, toks := t3 } :=
    ⟨F3, ⟨⟨[], 0, x3 _ _ (nL nB1) eB, .nil⟩, fun _ he => (nomatch he), .nil, fun _ he => (nomatch he), .nil⟩, x3 _ _ (nL nbd1) ed, upd_eq, fun z => Nat.lt_irrefl _ (z ▸ hlt), ⟨nB, nL nB1, n0 nB⟩, ⟨nbd, nL nbd1, n0 nbd⟩, fun _ he => (nomatch he)⟩
  refine run_pre (kv := kv) (fz := fz) (Ls := Ls) T okD fo tb hl hlr ha hlen x (by rfl) (by rfl) (by rfl) (by rfl) (by rfl) fun WS bk m' s4 X4 hbv hms ht4 k04 _ _ nW nLr sh4 => ?_
  have off : ∀ {b o}, s.heap.get? b = some o → ¬ MuP N B WS b := fun {b o} e hm => by
    rcases hm with q | q | q
    · rw [q] at e; rw [nLr] at e; cases e
    · rw [q, nB] at e; cases e
    · rw [q, nW] at e; cases e
  have offd : ∀ {b o}, s.heap.get? b = some o → b ≠ bd := fun e z => by rw [z, nbd] at e; cases e
  have frA : ∀ b ∈ framesOf outer, ∃ o, s.heap.get? b = some o := fun b hb => by obtain ⟨ml, o, _, _, e, _⟩ := AR.ns b hb; exact ⟨o, e⟩
  have AR4 : Around1 w s4.heap outer := AR.keep fun b hb o e => k04 b o (fun z => h154 (z ▸ hb)) e
  obtain ⟨oLs, eLs, rLs⟩ := id hLs
  have eLs4 := k04 _ _ hLs1 eLs
  have hbl : bk.length ≤ 90 := by
    have e1 : bk.length = (bkV bk).length := by unfold bkV; rw [List.length_map]
    rw [e1, hbv]; exact (book_good ha hlen).1
  unfold startsStmt
  refine wpAny_execs_cons (starts_loop (vs := vs) okD fo ko hfrD X4 hms ⟨oLs, eLs4, rLs⟩ (off eLs) hsz (fun i v hv => ?_) hg hn AR4 (fun b hb => ?_) (by omega) fun bk5 wk m5 s5 X5 hrun kf5 sh5 => ?_)
  · obtain ⟨ws, h1, h2⟩ := hsv i v hv
    exact ⟨ws, h1, h2.keep fun a o hc e => k04 a o (fun z => by rw [z, tb.1] at e; cases e; cases hc) e⟩
  · obtain ⟨o, e⟩ := frA b hb
    exact ⟨off e, offd e, fun z => hLs2 (z ▸ hb)⟩
  obtain ⟨its, ⟨nw, eWS⟩, rW⟩ := X5.ws
  have hbk5 : ∃ od, s5.heap.get? bd = some od ∧ lookIn "items" od = some none := by
    obtain ⟨od, e, h⟩ := bd_items X4.bdk
    refine ⟨od, (kf5 _ _ X4.dM e).2 fun hF => ?_, h⟩
    obtain ⟨o, e⟩ := frA bd hF
    exact offd e rfl
  obtain ⟨od, ed5, hlk⟩ := hbk5
  have hl5 : bk5.length ≤ 1000 := by
    have e1 : bk5.length = (bkV bk5).length := by unfold bkV; rw [List.length_map]
    have e2 : bkV bk5 = (runsF f fz wss (bkV bk)).2 := by rw [← hrun]
    have gen : ∀ (l : List (List Str)) (p : List (List Str) × List (Str × List Str)), (l.foldl (fun p ws => (p.1 ++ [(walkF f fz 8 (fun _ => false) ws [] p.2).1], (walkF f fz 8 (fun _ => false) ws [] p.2).2)) p).2.length ≤ p.2.length + 8 * l.length := by
      intro l
      induction l with
      | nil => intro p; exact Nat.le_add_right _ _
      | cons a l ih =>
        intro p
        refine Nat.le_trans (ih _) ?_
        have := (walkF_len (f := f) (fz := fz) 8 (S := fun _ => false) (xs := a) (acc := []) (bv := p.2)).1
        simp only [List.length_cons]
        omega
    have h3 := gen wss ([], bkV bk)
    have e3 : (bkV bk).length = bk.length := by unfold bkV; rw [List.length_map]
    rw [e1, e2]
    unfold runsF
    dsimp only at h3
    omega
  have hsl : (1000 : Nat) ≤ sizeLine := by decide
  unfold retStmt
  refine wpAny_execs_cons (wpAny_Return_some (Tuple_ ?_))
  rw [starEach_cons (by rfl), starEach_cons (by rfl)]
  refine Calls.spliced_cons (wpAny_Name (Var.loc rfl (by rfl) X5.ns X5.mws _ _ _ _ s5 (fun _ _ e => e) ?_) (by decide))
  refine Calls.spliced_cons (wpAny_mono (ev_items X5.T (okD.weak (by decide)) (Var.bi X5.T rfl (by rfl) rfl rfl (by kernel_rfl) (by decide) (by rfl)) (Var.loc rfl (by rfl) X5.ns X5.mb) X5.st ed5 hlk (by omega)) (fun v s6 h6 => ?_) fun _ _ q => q)
  obtain ⟨a, acc, c, l, ep, rfl, _, en, na, ea, hT, k6⟩ := h6
  refine Calls.spliced_nil (wpAny_newObj_type ?_ (by show (2 : Nat) ≤ sizeLine; decide))
  have k7 : Le s6.heap (s6.heap.push { cls := .type "tuple", data := .seq #[.ref WS, .ref a] }) := fun b o e => Heap.get?_push_of_some _ e
  have k57 := k6.le.trans k7
  refine ⟨_, rfl, ?_, X5.T.mono k57, ?_, fun b o hb e => ?_, ?_⟩
  · refine .tup trivial (Heap.get?_push_size _ rfl) rfl rfl (.cons ?_ (.cons ?_ .nil))
    · have e1 : wk = (runsF f fz wss (bookF f arrows)).1 := by rw [← hbv, ← hrun]
      rw [← e1]
      exact .lst trivial (k57 _ _ eWS) rfl rfl ((walks_rd rW).le k57)
    · have e2 : bkV bk5 = (runsF f fz wss (bookF f arrows)).2 := by rw [← hbv, ← hrun]
      rw [← e2]
      refine .lst trivial (k7 _ _ ea) rfl rfl ((items_rd en hT fun e he => ?_).le k7)
      obtain ⟨its, ⟨n, hp⟩, r⟩ := X5.st.lst e he
      exact ⟨its, ⟨n, k6.le _ _ hp⟩, r.le k6.le⟩
  · obtain ⟨more, ht⟩ := ht4
    have hdF : ∀ {b o}, b ∈ framesOf outer → s4.heap.get? b = some o → ∃ es n, o.data = .dict es n := fun {b o} hb e => by
      obtain ⟨ml, o', es, ep, e', hd, _⟩ := AR4.ns b hb
      rw [e'] at e; cases e; exact ⟨es, ep, hd⟩
    have k154 := k57 _ _ ((kf5 _ _ (off tb.1) ht.1).2 h154)
    refine ⟨more, ht.nd (ht.1.trans k154.symm) fun b o h1 h2 e => k57 _ _ ((kf5 _ _ (fun hm => ?_) e).2 fun hF => by obtain ⟨es, n, hd⟩ := hdF hF e; exact h1 _ _ hd)⟩
    rcases hm with q | q | q
    · obtain ⟨o', es, ep, e', hd, _⟩ := X4.ns
      rw [q, e'] at e; cases e; exact h1 _ _ hd
    · obtain ⟨l, ep, e', _⟩ := X4.st.book.at_
      rw [q, e'] at e; cases e; exact h1 _ _ rfl
    · obtain ⟨n, e'⟩ := X4.ws
      rw [q, e'] at e; cases e; exact h2 _ _ rfl
  · have hz := kf5 b o (off e) (k04 b o hb e)
    exact ⟨fun hF => let ⟨sl, q⟩ := hz.1 hF; ⟨sl, k57 _ _ q⟩, fun hF => k57 _ _ (hz.2 hF)⟩
  · obtain ⟨h4, t4, e4⟩ := sh4
    obtain ⟨h5, t5, g5, e5, hbare⟩ := sh5
    obtain ⟨_, h6, t6, e6⟩ := k6
    exact ⟨_, t6, g5, by rw [e6, e5, e4], fun hb => hbare (by rw [e4]; exact hb)⟩
end
end Mine
end

section
open PySem PySem.W PyProof.Rows PySem.Calls
set_option maxRecDepth 100000
set_option linter.all false
set_option maxHeartbeats 2000000
namespace Mine
open PySem (eval)

/-! the plain law: the walk's words are the due words -/
theorem addNew_pre (f : Str → Str) : ∀ (xs D : List Str), ∃ t, xs.foldl (addNew f) D = D ++ t
  | [], D => ⟨[], (List.append_nil D).symm⟩
  | x :: xs, D => by
    rw [List.foldl_cons]
    obtain ⟨t, h⟩ := addNew_pre f xs (addNew f D x)
    rw [h]
    unfold addNew
    split
    · exact ⟨[x] ++ t, by rw [List.append_assoc]⟩
    · exact ⟨t, rfl⟩
theorem getElem_pre {α : Type} {D t : List α} {k : Nat} {x : α} (h : D[k]? = some x) : (D ++ t)[k]? = some x := by
  rw [List.getElem?_append_left (List.getElem?_eq_some_iff.mp h).1]; exact h
theorem take_pre {α : Type} {D t : List α} {k : Nat} (h : k ≤ D.length) : (D ++ t).take k = D.take k := List.take_append_of_le_length h

/-- the first thing not yet seen is the next of the list without twins -/
theorem find_next (f : Str → Str) : ∀ (xs D : List Str) (k : Nat), D.length ≤ k → k ≤ (xs.foldl (addNew f) D).length →
    xs.find? (fun x => !(((xs.foldl (addNew f) D).take k).map f).contains (f x)) = (xs.foldl (addNew f) D)[k]?
  | [], D, k, h1, h2 => by
    have : k = D.length := Nat.le_antisymm h2 h1
    subst this
    simp
  | x :: xs, D, k, h1, h2 => by
    rw [List.foldl_cons] at h2 ⊢
    rw [List.find?_cons]
    by_cases q : (!(D.map f).contains (f x)) = true
    · have e : addNew f D x = D ++ [x] := by unfold addNew; rw [if_pos q]
      rw [e] at h2 ⊢
      obtain ⟨t, ht⟩ := addNew_pre f xs (D ++ [x])
      by_cases hk : k = D.length
      · have e1 : (xs.foldl (addNew f) (D ++ [x])).take k = D := by
          rw [ht, hk, take_pre (by simp), List.take_append_of_le_length (Nat.le_refl _), List.take_length]
        rw [e1, q]
        show some x = _
        rw [ht, hk]
        symm
        refine getElem_pre ?_
        simp
      · have hk' : D.length + 1 ≤ k := by omega
        have hin : (((xs.foldl (addNew f) (D ++ [x])).take k).map f).contains (f x) = true := by
          rw [List.contains_iff_mem]
          refine List.mem_map.mpr ⟨x, ?_, rfl⟩
          rw [ht]
          refine List.mem_iff_getElem?.mpr ⟨D.length, ?_⟩
          rw [List.getElem?_take_of_lt (by omega)]
          exact getElem_pre (by simp)
        rw [hin]
        show xs.find? _ = _
        exact find_next f xs (D ++ [x]) k (by simpa using hk') h2
    · have e : addNew f D x = D := by unfold addNew; rw [if_neg q]
      rw [e] at h2 ⊢
      obtain ⟨t, ht⟩ := addNew_pre f xs D
      have q' : (D.map f).contains (f x) = true := by simpa using q
      have hin : (((xs.foldl (addNew f) D).take k).map f).contains (f x) = true := by
        rw [List.contains_iff_mem] at q' ⊢
        obtain ⟨y, hy, e2⟩ := List.mem_map.mp q'
        refine List.mem_map.mpr ⟨y, ?_, e2⟩
        rw [ht, List.take_append]
        refine List.mem_append_left _ ?_
        rw [List.take_of_length_le h1]
        exact hy
      rw [hin]
      show xs.find? _ = _
      exact find_next f xs D k h1 h2

theorem dueIn_vals (f : Str → Str) (y : Str) : ∀ (arrows : List (Str × Str)) (D : List Str), arrows.foldl (dueIn f y) D = (valsF f arrows y).foldl (addNew f) D
  | [], D => rfl
  | a :: arrows, D => by
    rw [List.foldl_cons, dueIn_vals f y arrows]
    unfold valsF
    rw [List.filter_cons]
    by_cases q : (f a.1 == f y) = true
    · rw [if_pos q, List.map_cons, List.foldl_cons]
      congr 1
      unfold dueIn addNew
      rw [q, Bool.true_and]
    · rw [if_neg q]
      congr 1
      unfold dueIn
      rw [if_neg (by simp only [Bool.and_eq_true, not_and]; exact fun z => absurd z q)]

theorem dueStep_pre (f : Str → Str) (arrows : List (Str × Str)) (D : List Str) (k : Nat) : ∃ t, dueStep f arrows D k = D ++ t := by
  unfold dueStep
  split
  · exact ⟨[], (List.append_nil D).symm⟩
  · rw [dueIn_vals]; exact addNew_pre f _ _
theorem dueSteps_pre (f : Str → Str) (arrows : List (Str × Str)) : ∀ (ks : List Nat) (D : List Str), ∃ t, ks.foldl (dueStep f arrows) D = D ++ t
  | [], D => ⟨[], (List.append_nil D).symm⟩
  | k :: ks, D => by
    obtain ⟨t, h⟩ := dueStep_pre f arrows D k
    obtain ⟨u, g⟩ := dueSteps_pre f arrows ks (dueStep f arrows D k)
    exact ⟨t ++ u, by rw [List.foldl_cons, g, h, List.append_assoc]⟩
theorem dueSteps_out (f : Str → Str) (arrows : List (Str × Str)) : ∀ (ks : List Nat) (D : List Str), (∀ k ∈ ks, D.length ≤ k) → ks.foldl (dueStep f arrows) D = D
  | [], D, _ => rfl
  | k :: ks, D, h => by
    have e : dueStep f arrows D k = D := by
      unfold dueStep
      rw [List.getElem?_eq_none (h k (.head _))]
    rw [List.foldl_cons, e]
    exact dueSteps_out f arrows ks D fun j hj => h j (.tail _ hj)

theorem getV_touch' (bv : List (Str × List Str)) (x y : Str) : getV (touchV bv x) y = getV bv y := by
  by_cases q : x = y
  · subst q; exact getV_touch bv x
  · unfold touchV
    split
    · rfl
    · unfold getV
      rw [List.find?_append]
      cases h : bv.find? fun e => e.1 == y with
      | some e => rfl
      | none =>
        have : (x == y) = false := by simpa using q
        simp [List.find?_cons, this]

/-- the touches of a walk -/
noncomputable def touches (f : Str → Str) (fz : Bool) (ns : List Str) (bv : List (Str × List Str)) : List (Str × List Str) := if fz = true then bv else (ns.map f).foldl touchV bv
theorem getV_touches (f : Str → Str) (fz : Bool) (y : Str) : ∀ (ns : List Str) (bv : List (Str × List Str)), getV (touches f fz ns bv) y = getV bv y := by
  unfold touches
  cases fz with
  | true => intro ns bv; rfl
  | false =>
    intro ns
    induction ns with
    | nil => intro bv; rfl
    | cons n ns ih =>
      intro bv
      have := ih (touchV bv (f n))
      simp only [Bool.false_eq_true, if_false, List.map_cons, List.foldl_cons] at this ⊢
      rw [this, getV_touch']

theorem walk_due (f : Str → Str) (fz : Bool) (arrows : List (Str × Str)) : ∀ (n k : Nat) (xs acc : List Str) (S : Str → Bool) (bv : List (Str × List Str)), k ≤ (due1 f xs).length → acc = (due1 f xs).take k →
    (∀ y, S y = (((due1 f xs).take k).map f).contains y) → (∀ y, getV bv (f y) = valsF f arrows y) →
    walkF f fz n S xs acc bv = ((((List.range' k n).foldl (dueStep f arrows) (due1 f xs)).take (k + n)), touches f fz ((((List.range' k n).foldl (dueStep f arrows) (due1 f xs)).take (k + n)).drop k) bv)
  | 0, k, xs, acc, S, bv, hk, ha, hS, hb => by
    unfold walkF
    have : ((due1 f xs).take k).drop k = [] := List.drop_eq_nil_of_le (by rw [List.length_take]; omega)
    simp only [List.range'_zero, List.foldl_nil, Nat.add_zero, this]
    rw [ha]
    unfold touches
    cases fz <;> rfl
  | n + 1, k, xs, acc, S, bv, hk, ha, hS, hb => by
    have hfr : fresh? f S xs = (due1 f xs)[k]? := by
      have := find_next f xs [] k (Nat.zero_le _) hk
      unfold due1 at hS ⊢
      rw [← this]
      unfold fresh?
      congr 1
      funext x
      rw [hS]
    unfold walkF
    rw [hfr]
    cases h : (due1 f xs)[k]? with
    | none =>
      have hl : (due1 f xs).length ≤ k := List.getElem?_eq_none_iff.mp h
      have e := dueSteps_out f arrows (List.range' k (n + 1)) (due1 f xs) fun j hj => by
        have := (List.mem_range'_1.mp hj).1; omega
      rw [e]
      have e1 : (due1 f xs).take (k + (n + 1)) = due1 f xs := List.take_of_length_le (by omega)
      have e2 : (due1 f xs).drop k = [] := List.drop_eq_nil_of_le hl
      rw [e1, e2, ha, List.take_of_length_le hl]
      unfold touches
      cases fz <;> rfl
    | some x =>
      dsimp only
      have hkl : k < (due1 f xs).length := (List.getElem?_eq_some_iff.mp h).1
      have hD : dueStep f arrows (due1 f xs) k = due1 f (xs ++ valsF f arrows x) := by
        unfold dueStep
        rw [h]
        dsimp only
        rw [dueIn_vals]
        unfold due1
        rw [List.foldl_append]
      obtain ⟨t, ht⟩ := dueStep_pre f arrows (due1 f xs) k
      rw [hD] at ht
      have htk : (due1 f (xs ++ valsF f arrows x)).take (k + 1) = (due1 f xs).take k ++ [x] := by
        rw [ht, take_pre (by omega), List.take_succ_eq_append_getElem hkl]
        congr 2
        exact (List.getElem?_eq_some_iff.mp h).2
      have ih := walk_due f fz arrows n (k + 1) (xs ++ valsF f arrows x) (acc ++ [x]) (addS S (f x)) (if fz = true then bv else touchV bv (f x)) (by rw [ht, List.length_append]; omega) (by rw [htk, ha])
        (fun y => by
          rw [htk, List.map_append]
          show (S y || decide (y = f x)) = _
          rw [hS]
          simp only [List.map_cons, List.map_nil]
          rw [Bool.eq_iff_iff]
          simp only [Bool.or_eq_true, decide_eq_true_eq, List.contains_iff_mem, List.mem_append, List.mem_singleton])
        (fun y => by
          cases fz with
          | true => exact hb y
          | false =>
            show getV (touchV bv (f x)) (f y) = _
            rw [getV_touch']; exact hb y)
      rw [hb x, ih]
      have e0 : (List.range' k (n + 1)).foldl (dueStep f arrows) (due1 f xs) = (List.range' (k + 1) n).foldl (dueStep f arrows) (due1 f (xs ++ valsF f arrows x)) := by
        rw [List.range'_succ, List.foldl_cons, hD]
      rw [e0]
      have e1 : k + 1 + n = k + (n + 1) := by omega
      rw [e1]
      generalize hE : (List.range' (k + 1) n).foldl (dueStep f arrows) (due1 f (xs ++ valsF f arrows x)) = F
      have hFk : F[k]? = some x := by
        obtain ⟨u, hu⟩ := dueSteps_pre f arrows (List.range' (k + 1) n) (due1 f (xs ++ valsF f arrows x))
        rw [← hE, hu, ht, List.append_assoc]
        exact getElem_pre h
      have hdrop : (F.take (k + (n + 1))).drop k = x :: (F.take (k + (n + 1))).drop (k + 1) := by
        have hk2 : (F.take (k + (n + 1)))[k]? = some x := by rw [List.getElem?_take_of_lt (by omega)]; exact hFk
        have hlt := (List.getElem?_eq_some_iff.mp hk2).1
        rw [List.drop_eq_getElem_cons hlt]
        congr 1
        exact (List.getElem?_eq_some_iff.mp hk2).2
      rw [hdrop]
      unfold touches
      cases fz <;> rfl

/-- a whole walk tells the due names -/
theorem walk_all (f : Str → Str) (hf : ∀ x ∈ names8, f x ∈ names8) (fz : Bool) (arrows : List (Str × Str)) (ha : ∀ x ∈ arrows, x.2 ∈ names8) (xs : List Str) (hx : ∀ x ∈ xs, x ∈ names8) (bv : List (Str × List Str)) (hb : ∀ y, getV bv (f y) = valsF f arrows y) :
    walkF f fz 8 (fun _ => false) xs [] bv = (dueF f arrows xs, touches f fz (dueF f arrows xs) bv) := by
  have h := walk_due f fz arrows 8 0 xs [] (fun _ => false) bv (Nat.zero_le _) rfl (fun y => by simp) hb
  have e : (List.range' 0 8).foldl (dueStep f arrows) (due1 f xs) = dueF f arrows xs := rfl
  rw [e, List.drop_zero, Nat.zero_add] at h
  have hl := (GoodN.due (arrows := arrows) ha hx).len hf
  rw [List.take_of_length_le hl] at h
  exact h

theorem runs_all (f : Str → Str) (hf : ∀ x ∈ names8, f x ∈ names8) (fz : Bool) (arrows : List (Str × Str)) (ha : ∀ x ∈ arrows, x.2 ∈ names8) : ∀ (wss : List (List Str)) (p : List (List Str) × List (Str × List Str)), (∀ xs ∈ wss, ∀ x ∈ xs, x ∈ names8) → (∀ y, getV p.2 (f y) = valsF f arrows y) →
    wss.foldl (fun p ws => (p.1 ++ [(walkF f fz 8 (fun _ => false) ws [] p.2).1], (walkF f fz 8 (fun _ => false) ws [] p.2).2)) p = (p.1 ++ wss.map (dueF f arrows), touches f fz ((wss.map (dueF f arrows)).flatten) p.2)
  | [], p, _, _ => by
    simp only [List.foldl_nil, List.map_nil, List.append_nil, List.flatten_nil]
    unfold touches
    cases fz <;> rfl
  | xs :: wss, p, hx, hb => by
    have h1 := walk_all f hf fz arrows ha xs (hx xs (.head _)) p.2 hb
    rw [List.foldl_cons, h1]
    dsimp only
    rw [runs_all f hf fz arrows ha wss _ (fun ys hys => hx ys (.tail _ hys)) fun y => by rw [getV_touches]; exact hb y]
    simp only [List.map_cons, List.flatten_cons, List.append_assoc, List.singleton_append]
    congr 1
    unfold touches
    cases fz with
    | true => rfl
    | false => simp only [Bool.false_eq_true, if_false, List.map_append, List.foldl_append]
end Mine
end

section
open PySem PySem.W PyProof.Rows PySem.Calls
set_option maxRecDepth 100000
set_option linter.all false
set_option maxHeartbeats 2000000
namespace Mine
open PySem (eval)

noncomputable def addKey (ks : List Str) (x : Str) : List Str := if ks.contains x = true then ks else ks ++ [x]
noncomputable def vals0 (f : Str → Str) (arrows : List (Str × Str)) (k : Str) : List Str := (arrows.filter fun x => f x.1 == k).map (·.2)
theorem touch_keys (bv : List (Str × List Str)) (x : Str) : (touchV bv x).map (·.1) = addKey (bv.map (·.1)) x := by
  unfold touchV addKey
  split <;> simp
theorem push_keys (bv : List (Str × List Str)) (x v : Str) : (pushV bv x v).map (·.1) = addKey (bv.map (·.1)) x := by
  unfold pushV
  rw [List.map_map, ← touch_keys]
  refine List.map_congr_left fun e he => ?_
  show (if (e.1 == x) = true then (e.1, e.2 ++ [v]) else e).1 = e.1
  split <;> rfl
theorem addKey_nd {ks : List Str} (x : Str) (h : ks.Nodup) : (addKey ks x).Nodup := by
  unfold addKey
  split
  · exact h
  · rename_i q
    rw [List.nodup_append]
    refine ⟨h, by simp, fun a ha b hb => ?_⟩
    rw [List.mem_singleton.mp hb]
    rintro rfl
    exact q (by simpa using ha)
theorem touch_find (bv : List (Str × List Str)) (x : Str) : ∃ e, (touchV bv x).find? (fun e => e.1 == x) = some e := by
  unfold touchV
  split
  · rename_i h
    rw [List.contains_iff_mem] at h
    obtain ⟨e, he, q⟩ := List.mem_map.mp h
    cases z : bv.find? fun e => e.1 == x with
    | some e => exact ⟨e, rfl⟩
    | none =>
      rw [List.find?_eq_none] at z
      exact absurd (by simpa using q) (z e he)
  · rw [List.find?_append]
    cases z : bv.find? fun e => e.1 == x with
    | some e => exact ⟨e, rfl⟩
    | none => exact ⟨(x, []), by simp⟩
theorem getV_push (bv : List (Str × List Str)) (x v y : Str) : getV (pushV bv x v) y = if x = y then getV bv y ++ [v] else getV bv y := by
  have e0 : getV bv y = getV (touchV bv x) y := (getV_touch' bv x y).symm
  rw [e0]
  unfold pushV getV
  rw [List.find?_map]
  have ep : ((fun e : Str × List Str => e.1 == y) ∘ fun e => if (e.1 == x) = true then (e.1, e.2 ++ [v]) else e) = fun e => e.1 == y := by
    funext e
    show ((if (e.1 == x) = true then (e.1, e.2 ++ [v]) else e).1 == y) = _
    split <;> rfl
  rw [ep]
  by_cases q : x = y
  · subst q
    obtain ⟨e, he⟩ := touch_find bv x
    rw [he, if_pos rfl]
    have := List.find?_some he
    simp only [Option.map_some, Option.getD_some]
    rw [if_pos this]
  · rw [if_neg q]
    cases z : (touchV bv x).find? fun e => e.1 == y with
    | none => rfl
    | some e =>
      have h1 : e.1 = y := by simpa using List.find?_some z
      have h2 : ¬ (e.1 == x) = true := by rw [h1]; simpa using Ne.symm q
      simp only [Option.map_some, Option.getD_some]
      rw [if_neg h2]
theorem getV_book (f : Str → Str) (k : Str) : ∀ (arrows : List (Str × Str)) (bv : List (Str × List Str)), getV (arrows.foldl (fun bv x => pushV bv (f x.1) x.2) bv) k = getV bv k ++ vals0 f arrows k
  | [], bv => (List.append_nil _).symm
  | a :: arrows, bv => by
    rw [List.foldl_cons, getV_book f k arrows, getV_push]
    unfold vals0
    rw [List.filter_cons]
    by_cases q : f a.1 = k
    · rw [if_pos q, if_pos (by simpa using q)]
      simp
    · rw [if_neg q, if_neg (by simpa using q)]
theorem keys_book (f : Str → Str) : ∀ (arrows : List (Str × Str)) (bv : List (Str × List Str)), (arrows.foldl (fun bv x => pushV bv (f x.1) x.2) bv).map (·.1) = (arrows.map fun x => f x.1).foldl addKey (bv.map (·.1))
  | [], bv => rfl
  | a :: arrows, bv => by
    rw [List.foldl_cons, keys_book f arrows, push_keys]
    rfl
theorem addKeys_nd : ∀ (xs ks : List Str), ks.Nodup → (xs.foldl addKey ks).Nodup
  | [], _, h => h
  | x :: xs, ks, h => addKeys_nd xs _ (addKey_nd x h)
theorem addKeys_mem : ∀ (xs ks : List Str) (x : Str), x ∈ ks ∨ x ∈ xs → x ∈ xs.foldl addKey ks
  | [], _, x, h => h.elim id fun z => nomatch z
  | y :: xs, ks, x, h => by
    refine addKeys_mem xs _ x ?_
    unfold addKey
    rcases h with h | h
    · refine .inl ?_
      split
      · exact h
      · exact List.mem_append_left _ h
    · rcases List.mem_cons.mp h with rfl | h
      · refine .inl ?_
        split
        · rename_i q; simpa using q
        · exact List.mem_append_right _ (List.mem_singleton_self _)
      · exact .inr h
theorem bv_eq {bv : List (Str × List Str)} (nd : (bv.map (·.1)).Nodup) : bv = (bv.map (·.1)).map fun k => (k, getV bv k) := by
  rw [List.map_map]
  conv => lhs; rw [← List.map_id bv]
  refine List.map_congr_left fun e he => ?_
  show e = (e.1, getV bv e.1)
  have : getV bv e.1 = e.2 := by
    unfold getV
    cases z : bv.find? fun x => x.1 == e.1 with
    | none =>
      rw [List.find?_eq_none] at z
      exact absurd (by simp) (z e he)
    | some g =>
      have h1 : g.1 = e.1 := by simpa using List.find?_some z
      have := inj_of_nodup nd (List.mem_of_find?_eq_some z) he h1
      rw [this]; rfl
  rw [this]
theorem book_eq (f : Str → Str) (arrows : List (Str × Str)) : bookF f arrows = ((arrows.map fun x => f x.1).foldl addKey []).map fun k => (k, vals0 f arrows k) := by
  have hk : (bookF f arrows).map (·.1) = (arrows.map fun x => f x.1).foldl addKey [] := keys_book f arrows []
  have nd : ((bookF f arrows).map (·.1)).Nodup := by rw [hk]; exact addKeys_nd _ _ .nil
  rw [bv_eq nd, hk]
  refine List.map_congr_left fun k _ => ?_
  have := getV_book f k arrows []
  unfold bookF
  rw [this]
  rfl
theorem shelf_eq (f : Str → Str) (arrows : List (Str × Str)) : ∀ (names ks : List Str), names.foldl (shelfIn f arrows) (ks.map fun k => (k, vals0 f arrows k)) = ((names.map f).foldl addKey ks).map fun k => (k, vals0 f arrows k)
  | [], ks => rfl
  | n :: names, ks => by
    rw [List.foldl_cons, List.map_cons, List.foldl_cons, ← shelf_eq f arrows names]
    congr 1
    unfold shelfIn addKey
    have e : (ks.map fun k => (k, vals0 f arrows k)).map (·.1) = ks := by rw [List.map_map]; exact List.map_id ks
    rw [e]
    cases ks.contains (f n) with
    | true => rfl
    | false =>
      show _ = (ks ++ [f n]).map _
      rw [List.map_append]; rfl
theorem touch_eq (f : Str → Str) (arrows : List (Str × Str)) : ∀ (xs ks : List Str), (∀ k, k ∉ ks → vals0 f arrows k = []) → xs.foldl touchV (ks.map fun k => (k, vals0 f arrows k)) = (xs.foldl addKey ks).map fun k => (k, vals0 f arrows k)
  | [], ks, _ => rfl
  | x :: xs, ks, h => by
    rw [List.foldl_cons, List.foldl_cons, ← touch_eq f arrows xs (addKey ks x) fun k hk => h k fun z => hk (addKeys_mem [x] ks k (.inl z))]
    congr 1
    unfold touchV addKey
    have e : (ks.map fun k => (k, vals0 f arrows k)).map (·.1) = ks := by rw [List.map_map]; exact List.map_id ks
    rw [e]
    split
    · rfl
    · rename_i q
      rw [List.map_append]
      show _ ++ [(x, [])] = _ ++ [(x, vals0 f arrows x)]
      rw [h x fun z => q (by simpa using z)]
theorem shelf_plain (f : Str → Str) (fz : Bool) (arrows : List (Str × Str)) (told : List Str) : touches f fz told (bookF f arrows) = shelfF f arrows (if fz = true then [] else told) := by
  have hs : ∀ t, shelfF f arrows t = (((arrows.map (·.1) ++ t).map f).foldl addKey []).map fun k => (k, vals0 f arrows k) := fun t => shelf_eq f arrows _ []
  have e : (arrows.map fun x => f x.1) = (arrows.map (·.1)).map f := by rw [List.map_map]; rfl
  unfold touches
  rw [hs, book_eq, List.map_append, List.foldl_append, e]
  cases fz with
  | true => rfl
  | false =>
    simp only [Bool.false_eq_true, if_false]
    refine touch_eq f arrows _ _ fun k hk => ?_
    unfold vals0
    rw [List.map_eq_nil_iff, List.filter_eq_nil_iff]
    intro x hx q
    refine hk (addKeys_mem _ _ _ (.inr ?_))
    rw [← (by simpa using q : f x.1 = k)]
    exact List.mem_map.mpr ⟨x.1, List.mem_map.mpr ⟨x, hx, rfl⟩, rfl⟩
/-- the run's answer, in the due words -/
theorem run_plain (f : Str → Str) (hf : ∀ x ∈ names8, f x ∈ names8) (fz : Bool) (arrows : List (Str × Str)) (ha : ∀ x ∈ arrows, x.2 ∈ names8) (wss : List (List Str)) (hw : ∀ xs ∈ wss, ∀ x ∈ xs, x ∈ names8) :
    runsF f fz wss (bookF f arrows) = (wss.map (dueF f arrows), shelfF f arrows (if fz = true then [] else (wss.map (dueF f arrows)).flatten)) := by
  unfold runsF
  rw [runs_all f hf fz arrows ha wss ([], bookF f arrows) hw fun y => (getV_book f (f y) arrows []).trans (by rfl)]
  simp only [List.nil_append]
  rw [shelf_plain]
end Mine
end

section
open PySem PySem.W PyProof.Rows PySem.Calls
set_option maxRecDepth 100000
set_option linter.all false
set_option maxHeartbeats 2000000
namespace Mine
open PySem (eval)

/-! the answers compared -/
noncomputable def wkP (wk : List (List Str)) : List PyData := wk.map fun ws => .list (strsP ws)
noncomputable def bvP (bv : List (Str × List Str)) : List PyData := bv.map fun e => .tuple [.str e.1, .list (strsP e.2)]
theorem lst_reads {h : Heap} {S : Addr → Prop} {v : Value} {ws : List Str} (r : RD h S v (.lst (ws.map .str))) : ∃ as, Reads h v (.list (strsP ws)) as := by
  cases r using RD.lstE with
  | lst sa e c dd ra => exact ⟨_, Reads.list e c dd (RDs.reads ra)⟩
theorem wk_reads {h : Heap} {S : Addr → Prop} : ∀ {wk : List (List Str)} {vs}, RDs h S vs (wk.map fun ws => .lst (ws.map .str)) → ∃ as, ReadsAll h vs (wkP wk) as
  | [], _, .nil => ⟨_, .nil⟩
  | x :: xs, _, .cons a r => by
    obtain ⟨as, q⟩ := wk_reads r
    obtain ⟨bs, p⟩ := lst_reads a
    exact ⟨_, .cons p q⟩
theorem two_reads {h : Heap} {S : Addr → Prop} {l : List Value} {k : Str} {v : List Str} (r : RDs h S l [.str k, .lst (v.map .str)]) : ∃ as, ReadsAll h l [.str k, .list (strsP v)] as := by
  cases r using RDs.consE with
  | cons r1 r2 =>
  cases r2 using RDs.consE with
  | cons r3 r4 =>
  (first | cases r4 using RD.atomE | cases r4 using RDs.nilE | cases r4 using RD.strE | cases r4 using RD.intE | cases r4 using RD.boolE | cases r4 using RD.noneE | cases r4)
  (first | cases r1 using RD.atomE | cases r1 using RDs.nilE | cases r1 using RD.strE | cases r1 using RD.intE | cases r1 using RD.boolE | cases r1 using RD.noneE | cases r1)
  obtain ⟨bs, p⟩ := lst_reads r3
  exact ⟨_, .cons (.str _ _) (.cons p .nil)⟩
theorem bv_reads {h : Heap} {S : Addr → Prop} : ∀ {bv : List (Str × List Str)} {vs}, RDs h S vs (bv.map fun e => .tup [.str e.1, .lst (e.2.map .str)]) → ∃ as, ReadsAll h vs (bvP bv) as
  | [], _, .nil => ⟨_, .nil⟩
  | x :: xs, _, .cons a r => by
    obtain ⟨as, q⟩ := bv_reads r
    cases a with
    | tup sa e c dd ra =>
      obtain ⟨bs, p⟩ := two_reads ra
      exact ⟨_, .cons (Reads.tuple e c dd p) q⟩
theorem run_reads1 {h : Heap} {S : Addr → Prop} {l : List Value} {p : List (List Str) × List (Str × List Str)} (r : RDs h S l [wkD p.1, bvD p.2]) : ∃ as, ReadsAll h l [.list (wkP p.1), .list (bvP p.2)] as := by
  cases r using RDs.consE with
  | cons r1 r2 =>
  cases r2 using RDs.consE with
  | cons r3 r4 =>
  (first | cases r4 using RD.atomE | cases r4 using RDs.nilE | cases r4 using RD.strE | cases r4 using RD.intE | cases r4 using RD.boolE | cases r4 using RD.noneE | cases r4)
  cases r1 using RD.lstE with
  | lst sa ea ca da ra =>
  cases r3 using RD.lstE with
  | lst sb eb cb db rb =>
  obtain ⟨as, p1⟩ := wk_reads ra
  obtain ⟨bs, p2⟩ := bv_reads rb
  exact ⟨_, .cons (Reads.list ea ca da p1) (.cons (Reads.list eb cb db p2) .nil)⟩
noncomputable def runP (p : List (List Str) × List (Str × List Str)) : PyData := .tuple [.list (wkP p.1), .list (bvP p.2)]
theorem run_reads {h : Heap} {S : Addr → Prop} {v : Value} {p : List (List Str) × List (Str × List Str)} (r : RD h S v (runD p)) : ∃ as, Reads h v (runP p) as := by
  cases r using RD.tupE with
  | tup sa e c dd ra =>
    obtain ⟨as, q⟩ := run_reads1 ra
    exact ⟨_, Reads.tuple e c dd q⟩

noncomputable def Shp (k : Nat) (d : PyData) : Prop := d.canLay0 = true ∧ d.depth ≤ k
theorem shp_all {k : Nat} : ∀ {ds : List PyData}, (∀ d ∈ ds, Shp k d) → PyData.canLayAll0 ds = true ∧ PyData.depthAll ds ≤ k
  | [], _ => ⟨rfl, Nat.zero_le _⟩
  | d :: ds, h => by
    have h1 := h d (.head _)
    have h2 := shp_all (ds := ds) fun e he => h e (.tail _ he)
    refine ⟨?_, ?_⟩
    · simp only [PyData.canLayAll0, Bool.and_eq_true]
      exact ⟨h1.1, h2.1⟩
    · simp only [PyData.depthAll]
      exact Nat.max_le.mpr ⟨h1.2, h2.2⟩
theorem Shp.list {k : Nat} {ds : List PyData} (h : ∀ d ∈ ds, Shp k d) : Shp (k + 1) (.list ds) := by
  obtain ⟨h1, h2⟩ := shp_all h
  exact ⟨by simpa [PyData.canLay0] using h1, by simp only [PyData.depth]; omega⟩
theorem Shp.tuple {k : Nat} {ds : List PyData} (h : ∀ d ∈ ds, Shp k d) : Shp (k + 1) (.tuple ds) := by
  obtain ⟨h1, h2⟩ := shp_all h
  exact ⟨by simpa [PyData.canLay0] using h1, by simp only [PyData.depth]; omega⟩
theorem Shp.str {x : Str} (h : PyData.strOk x = true) : Shp 0 (.str x) := ⟨by simpa [PyData.canLay0] using h, by simp [PyData.depth]⟩
theorem Shp.up {k l : Nat} {d : PyData} (h : Shp k d) (q : k ≤ l) : Shp l d := ⟨h.1, Nat.le_trans h.2 q⟩
theorem Shp.strs {ws : List Str} (h : ∀ x ∈ ws, x ∈ names8) : Shp 1 (.list (strsP ws)) := Shp.list fun d hd => by
  obtain ⟨x, hx, rfl⟩ := List.mem_map.mp hd
  exact Shp.str (names8_ok x (h x hx))
structure GoodR (p : List (List Str) × List (Str × List Str)) : Prop where
  wk : ∀ ws ∈ p.1, ∀ x ∈ ws, x ∈ names8
  bv : ∀ e ∈ p.2, e.1 ∈ names8 ∧ ∀ x ∈ e.2, x ∈ names8
theorem GoodR.shp {p : List (List Str) × List (Str × List Str)} (g : GoodR p) : Shp 4 (runP p) := Shp.tuple (k := 3) fun d hd => by
  rcases List.mem_cons.mp hd with rfl | hd
  · refine (Shp.list (k := 1) fun d hd => ?_).up (by decide)
    obtain ⟨ws, hw, rfl⟩ := List.mem_map.mp hd
    exact Shp.strs (g.wk ws hw)
  rcases List.mem_cons.mp hd with rfl | hd
  · refine Shp.list (k := 2) fun d hd => ?_
    obtain ⟨e, he, rfl⟩ := List.mem_map.mp hd
    have := g.bv e he
    refine Shp.tuple (k := 1) fun d hd => ?_
    rcases List.mem_cons.mp hd with rfl | hd
    · exact (Shp.str (names8_ok _ this.1)).up (by decide)
    rcases List.mem_cons.mp hd with rfl | hd
    · exact Shp.strs this.2
    · exact nomatch hd
  · exact nomatch hd
/-- the answers are the same: `!=` is False -/
theorem CmpD.neRun {prog : Program} {w : World} {A : Around} {p : List (List Str) × List (Str × List Str)} (g : GoodR p) (hu : A.units + 64 < cLine) : CmpD prog w A .NotEq (runD p) (runD p) false := fun s S u v E ru rv => by
  obtain ⟨as, qa⟩ := run_reads ru
  obtain ⟨bs, qb⟩ := run_reads rv
  have sh := g.shp
  have hs : SeqAt.shaped (runP p) = true := by
    unfold SeqAt.shaped
    rw [sh.1, Bool.true_and]
    exact decide_eq_true (Nat.le_trans sh.2 (by decide))
  refine SeqAt.compareNe_shaped qa qb hs hs hu ?_
  rw [SeqAt.eqv_refl _ sh.1]
  exact ⟨rfl, Kp.refl s⟩

section
variable {prog : Program} {w : World} {A : Around} {env : Env} {h : Heap} {S : Addr → Prop}
/-- `x[:b]` -/
theorem EvD.upto {x : Str} {p sp pos : Pos} {e : Expr} {ds : List D} {b : Nat} (src : SrcL prog w A env h S (.Name x p) ds) (he : EvD prog w A env h S e (.int b)) (hsz : ds.length ≤ sizeLine) :
    EvD prog w A env h S (.Subscript (.Name x p) (.Slice none (some e) none sp) pos) (.lst (ds.take b)) := fun s E hS => by
  refine Subscript_ (wpAny_mono (src s E hS) (fun o s₁ q => ?_) fun _ _ q => q)
  obtain ⟨⟨l, vs, rfl, hl, r⟩, k1⟩ := q
  rw [arm_eval_Slice]
  refine wpAny_bind (wpAny_pure (wpAny_bind (wpAny_holding ?_)))
  show wpAny _ _ (eval e env) _ _ s₁
  refine wpAny_mono (he s₁ _ (hS.trans k1.le)) (fun i s₂ q => ?_) fun _ _ q => q
  obtain ⟨ri, k2⟩ := q
  (first | cases ri using RD.atomE | cases ri using RDs.nilE | cases ri using RD.strE | cases ri using RD.intE | cases ri using RD.boolE | cases ri using RD.noneE | cases ri)
  rename_i t
  refine wpAny_bind (wpAny_holding (wpAny_pure ?_))
  refine wpAny_newObj_type ?_ (by size_fits)
  have hl2 : s₂.heap.IsList l vs := hl.at fun o e => k2.le _ o e
  have hsz2 : vs.size ≤ sizeLine := by rw [← Array.length_toList, r.length]; exact hsz
  refine PyProof.Rows.slice_listK (vl := .none) (vu := .int b t) (lo := none) (hi := some (b : Int)) hl2 .none (.int _ _) ?_ (by rfl) (by intro _; rfl) hsz2
  have k3 : Le s₂.heap (s₂.heap.push { cls := .type "slice", data := .fields #[.none, .int b t, .none] }) := fun b o e => Heap.get?_push_of_some _ e
  have k4 : Le (s₂.heap.push { cls := .type "slice", data := .fields #[.none, .int b t, .none] }) ((s₂.heap.push { cls := .type "slice", data := .fields #[.none, .int b t, .none] }).push { cls := .type "list", data := .seq (slicePick vs none (some (b : Int)) none) }) := fun b o e => Heap.get?_push_of_some _ e
  have e4 : ((s₂.heap.push { cls := .type "slice", data := .fields #[.none, .int b t, .none] }).push { cls := .type "list", data := .seq (slicePick vs none (some (b : Int)) none) }).get? (s₂.heap.objs.size + 1) = some { cls := .type "list", data := .seq (slicePick vs none (some (b : Int)) none) } := by
    have := Heap.get?_push_size (s₂.heap.push { cls := .type "slice", data := .fields #[.none, .int b t, .none] }) (o := { cls := .type "list", data := .seq (slicePick vs none (some (b : Int)) none) }) rfl
    rw [Heap.size_push] at this
    exact this
  refine ⟨.lst (.inr (fresh_le (k1.le.trans k2.le) (size_none (Nat.le_succ _)))) e4 rfl rfl ?_, (k1.tr k2).tr (Kp.of _ (k3.trans k4))⟩
  have e5 : (slicePick vs none (some (b : Int)) none).toList = vs.toList.take b := by rw [slicePick_upto']
  rw [e5]
  have rt : ∀ {vs : List Value} {ds : List D} {S : Addr → Prop} {h : Heap}, RDs h S vs ds → ∀ k, RDs h S (vs.take k) (ds.take k) := by
    intro vs ds S h r
    induction vs generalizing ds with
    | nil => intro k; cases r; simp; exact .nil
    | cons v vs ih =>
      intro k
      cases r with
      | cons r1 r2 =>
        cases k with
        | zero => exact .nil
        | succ k => exact .cons r1 (ih r2 k)
  exact (rt (r.le (k2.le.trans (k3.trans k4))) b)
theorem sum_ints {h : Heap} {S : Addr → Prop} : ∀ {vs : List Value} {ns : List Int}, RDs h S vs (ns.map .int) → IntsAre vs ns
  | _, [], .nil => .nil
  | _, n :: ns, .cons a r => by
    cases a with
    | int _ t => exact .cons n t (sum_ints r)
/-- `sum` of ints -/
theorem CallD.sum {ns : List Int} (ok : OkA 0 A) : CallD prog w A h (.builtin "sum") [.lst (ns.map .int)] (.int ns.sum) := fun s S vs E hs r => by
  cases r using RDs.consE with
  | cons r1 r2 =>
  (first | cases r2 using RD.atomE | cases r2 using RDs.nilE | cases r2 using RD.strE | cases r2 using RD.intE | cases r2 using RD.boolE | cases r2 using RD.noneE | cases r2)
  cases r1 using RD.lstE with
  | lst sa e c dd ra =>
  rename_i a o its n
  have hi := sum_ints ra
  obtain ⟨xs, hx⟩ := hi.allInts.items
  have hl : s.heap.IsList a its := ⟨o, e, c, n, dd⟩
  have e1 : its.toList.toArray = its := by simp
  rw [e1] at hx
  subst hx
  refine sum_intListG ok.hd hl fun h' tk t' hk => ?_
  rw [preSum_eq, List.take_of_length_le (by simp), ← nums_intItems, hi.numsOf]
  exact ⟨.int _ _, Kp.of tk hk⟩
end
end Mine
end

section
open PySem PySem.W PyProof.Rows PySem.Calls
set_option maxRecDepth 100000
set_option linter.all false
set_option maxHeartbeats 2000000
namespace Mine
open PySem (eval)

noncomputable abbrev fdLaw : FuncData := fdOf "law" 18 295
noncomputable abbrev envLaw (N : Nat) : Env := callEnvC fdLaw N 296
theorem law_cells (N : Nat) : (envLaw N).cells = [(("fold" : Str), N + 3), (("arrows" : Str), N + 2), (("names" : Str), N + 1)] := by rfl
theorem cells_law {N : Nat} {n : Str} {c : Addr} (h : (envLaw N).cells.lookup n = some c) : c = N + 1 ∨ c = N + 2 ∨ c = N + 3 := by
  have := mem_of_lookup h
  rw [law_cells] at this
  rcases List.mem_cons.mp this with q | this
  · exact .inr (.inr (congrArg Prod.snd q))
  rcases List.mem_cons.mp this with q | this
  · exact .inr (.inl (congrArg Prod.snd q))
  rcases List.mem_cons.mp this with q | this
  · exact .inl (congrArg Prod.snd q)
  · exact nomatch this
/-- outside of the law's frame -/
noncomputable def Off (N : Nat) (a : Addr) : Prop := a ≠ N ∧ a ≠ N + 1 ∧ a ≠ N + 2 ∧ a ≠ N + 3 ∧ a ≠ 154
noncomputable def Here (N : Nat) (m cm : Str → Option Value) (x : Str) (v : Value) : Prop := ((envLaw N).kindOf x = some .local ∧ m x = some v) ∨ ∃ c, (envLaw N).kindOf x = some .cell ∧ (envLaw N).cells.lookup x = some c ∧ cm x = some v
noncomputable abbrev Rho := List (Str × Value × D)
/-- the law's frame under way, and what its names hold -/
structure LSt (w : World) (s₀ : Shared) (ps : Array Value) (N : Nat) (ρ : Rho) (s : Shared) : Prop where
  T0 : TopH w s₀.heap
  T : TopH w s.heap
  tab : ∃ more, TabAt s.heap (ps ++ more)
  keep : ∀ b o, b ≠ 154 → s₀.heap.get? b = some o → s.heap.get? b = some o
  new : s₀.heap.get? N = none ∧ s₀.heap.get? (N + 1) = none ∧ s₀.heap.get? (N + 2) = none ∧ s₀.heap.get? (N + 3) = none ∧ s₀.heap.get? 154 ≠ none
  frm : ∃ m cm, s.heap.Ns N m ∧ (∀ n c, (envLaw N).cells.lookup n = some c → s.heap.IsCell c (cm n)) ∧ ∀ e ∈ ρ, Here N m cm e.1 e.2.1 ∧ RD s.heap (Off N) e.2.1 e.2.2
  sh : ∃ h' tk gens', s = { s₀ with heap := h', toks := tk, gens := gens' } ∧ AllBare gens'

section
variable {w : World} {M : Model} {A : Around} {E : Value → Shared → Prop} {s₀ s s' : Shared} {ps : Array Value} {N : Nat} {ρ ρ' : Rho} {x : Str} {v : Value} {d : D}
theorem LSt.sub (X : LSt w s₀ ps N ρ s) (h : ∀ e ∈ ρ', e ∈ ρ) : LSt w s₀ ps N ρ' s := by
  obtain ⟨m, cm, h1, h2, h3⟩ := X.frm
  exact ⟨X.T0, X.T, X.tab, X.keep, X.new, ⟨m, cm, h1, h2, fun e he => h3 e (h e he)⟩, X.sh⟩
theorem LSt.kp (X : LSt w s₀ ps N ρ s) (k : Kp s s') : LSt w s₀ ps N ρ s' := by
  obtain ⟨m, cm, h1, h2, h3⟩ := X.frm
  obtain ⟨more, ht⟩ := X.tab
  refine ⟨X.T0, X.T.mono k.le, ⟨more, ht.keep k.le⟩, fun b o hb e => k.le _ _ (X.keep b o hb e), X.new, ⟨m, cm, h1.keeps k.le, fun n c e => (h2 n c e).keeps k.le, fun e he => ⟨(h3 e he).1, (h3 e he).2.le k.le⟩⟩, ?_⟩
  obtain ⟨_, h4, t4, rfl⟩ := k
  obtain ⟨h', tk, g', rfl, hb⟩ := X.sh
  exact ⟨h4, t4, g', rfl, hb⟩
theorem LSt.alive (X : LSt w s₀ ps N ρ s) : s.heap.get? N ≠ none ∧ s.heap.get? (N + 1) ≠ none ∧ s.heap.get? (N + 2) ≠ none ∧ s.heap.get? (N + 3) ≠ none ∧ s.heap.get? 154 ≠ none := by
  obtain ⟨m, cm, ⟨o, _, _, e, _⟩, h2, h3⟩ := X.frm
  have cl : ∀ n c, (envLaw N).cells.lookup n = some c → s.heap.get? c ≠ none := fun n c e => let ⟨o, e', _⟩ := h2 n c e; some_ne e'
  obtain ⟨more, ht⟩ := X.tab
  exact ⟨some_ne e, cl "names" _ (by rfl), cl "arrows" _ (by rfl), cl "fold" _ (by rfl), some_ne ht.1⟩
theorem LSt.off (X : LSt w s₀ ps N ρ s) {a : Addr} (h : s.heap.get? a = none) : Off N a :=
  have q := X.alive
  ⟨fun z => q.1 (z ▸ h), fun z => q.2.1 (z ▸ h), fun z => q.2.2.1 (z ▸ h), fun z => q.2.2.2.1 (z ▸ h), fun z => q.2.2.2.2 (z ▸ h)⟩
theorem LSt.fr (X : LSt w s₀ ps N ρ s) {h' : Heap} (r : RD h' (Fr1 (Off N) s.heap) v d) : RD h' (Off N) v d := r.sub fun a z => z.elim id X.off
theorem LSt.rd (X : LSt w s₀ ps N ρ s) (h : (x, v, d) ∈ ρ) : RD s.heap (Off N) v d := let ⟨_, _, _, _, h3⟩ := X.frm; (h3 _ h).2
theorem LSt.var (X : LSt w s₀ ps N ρ s) (h : (x, v, d) ∈ ρ) : Var (envLaw N) s.heap x v := by
  obtain ⟨m, cm, h1, h2, h3⟩ := X.frm
  rcases (h3 _ h).1 with ⟨q1, q2⟩ | ⟨c, q1, q2, q3⟩
  · exact Var.loc rfl q1 h1 q2
  · have := h2 _ _ q2
    exact Var.cell rfl q1 q2 (q3 ▸ this)
theorem LSt.cell (X : LSt w s₀ ps N ρ s) (h : (x, v, d) ∈ ρ) {c : Addr} (hk : (envLaw N).kindOf x = some .cell) (hc : (envLaw N).cells.lookup x = some c) : s.heap.IsCell c (some v) := by
  obtain ⟨m, cm, h1, h2, h3⟩ := X.frm
  rcases (h3 _ h).1 with ⟨q1, q2⟩ | ⟨c', q1, q2, q3⟩
  · rw [hk] at q1; cases q1
  · have := h2 _ _ hc
    exact q3 ▸ this
theorem LSt.ev (X : LSt w s₀ ps N ρ s) (h : (x, v, d) ∈ ρ) {p : Pos} (hd : (x == ("__debug__" : Str)) = false := by decide) : EvD pw w A (envLaw N) s.heap (Off N) (.Name x p) d := EvD.name (X.var h) (X.rd h) hd
theorem LSt.src {ds : List D} (X : LSt w s₀ ps N ρ s) (h : (x, v, .lst ds) ∈ ρ) {p : Pos} (hd : (x == ("__debug__" : Str)) = false := by decide) : SrcL pw w A (envLaw N) s.heap (Off N) (.Name x p) ds := (X.ev h hd).src

/-- the K facts lie outside of the law's frame -/
theorem LSt.kout (X : LSt w s₀ ps N ρ s) : KOut w (fun b => ¬ Off N b) := by
  have off : ∀ {b o}, b ≠ 154 → s₀.heap.get? b = some o → ¬ ¬ Off N b := fun {b o} h e hm => hm ⟨fun z => (by rw [z, X.new.1] at e; cases e), fun z => (by rw [z, X.new.2.1] at e; cases e), fun z => (by rw [z, X.new.2.2.1] at e; cases e), fun z => (by rw [z, X.new.2.2.2.1] at e; cases e), h⟩
  refine ⟨fun a o e => off (fun z => by rw [z, K_no154] at e; cases e) (X.T0.K a o e), ?_, ?_, ?_⟩
  · obtain ⟨mb, ⟨o, es, ep, e, r⟩, z⟩ := X.T0.b; exact off (by decide) e
  · obtain ⟨mg, o, es, ep, e, r⟩ := X.T0.g; exact off (by decide) e
  · obtain ⟨mc, ⟨o, es, ep, e, r⟩, z⟩ := X.T0.nl; exact off (by decide) e
/-- an object of the frame is changed -/
theorem LSt.chg (X : LSt w s₀ ps N ρ s) {a : Addr} {h' : Heap} {tk : Nat} (ha : ¬ Off N a) (h154 : a ≠ 154) (hx : Heap.ExtBut a s.heap h') (hnd : ∀ o, s.heap.get? a = some o → (∃ es n, o.data = .dict es n) ∨ ∃ v, o.data = .cell v) (hfrm : ∃ m cm, h'.Ns N m ∧ (∀ n c, (envLaw N).cells.lookup n = some c → h'.IsCell c (cm n)) ∧ ∀ e ∈ ρ', Here N m cm e.1 e.2.1 ∧ RD h' (Off N) e.2.1 e.2.2) :
    LSt w s₀ ps N ρ' { s with heap := h', toks := tk } := by
  obtain ⟨more, ht⟩ := X.tab
  have k : KMu (fun b => ¬ Off N b) s.heap h' := .of_but hx ha
  refine ⟨X.T0, top_kmu X.T k X.kout, ⟨more, hx _ _ (Ne.symm h154) ht.1, ht.2.imp id fun ⟨c, e, c', oc, vs, t, e2, hoc, hd, r⟩ => ⟨c, e, c', oc, vs, t, e2, hx _ _ (fun z => (hnd _ (z ▸ hoc)).elim (fun ⟨es, n, q⟩ => by rw [hd] at q; cases q) fun ⟨v, q⟩ => by rw [hd] at q; cases q) hoc, hd, r⟩⟩, fun b o hb e => hx _ _ (fun z => ?_) (X.keep b o hb e), X.new, hfrm, ?_⟩
  · subst z
    exact ha ⟨fun z => (by rw [z, X.new.1] at e; cases e), fun z => (by rw [z, X.new.2.1] at e; cases e), fun z => (by rw [z, X.new.2.2.1] at e; cases e), fun z => (by rw [z, X.new.2.2.2.1] at e; cases e), hb⟩
  · obtain ⟨h1, t1, g1, rfl, hb⟩ := X.sh
    exact ⟨h', tk, g1, rfl, hb⟩
theorem LSt.storeL {Q : Unit → Shared → Prop} (X : LSt w s₀ ps N ρ s) (hl : (envLaw N).kindOf x = some .local) (hx : ∀ e ∈ ρ, e.1 ≠ x) (r : RD s.heap (Off N) v d)
    (hQ : ∀ s', LSt w s₀ ps N ((x, v, d) :: ρ) s' → KeepBut (fun b => ¬ Off N b) s.heap s'.heap → Q () s') : wpAny M A (storeName (envLaw N) x v) Q E s := by
  obtain ⟨m, cm, h1, h2, h3⟩ := X.frm
  have nN : N ≠ 154 := fun z => X.new.2.2.2.2 (z ▸ X.new.1)
  have nO : ¬ Off N N := fun z => z.1 rfl
  refine wpAny_storeName_local hl h1 fun h' hn hs => hQ _ (X.chg nO nN hs.extBut (fun o e => ?_) ⟨_, cm, hn, fun n c e => (h2 n c e).sameBut hs ?_, fun e he => ?_⟩) fun b o hb e => hs.extBut b o (fun z => hb (z ▸ nO)) e
  · obtain ⟨o', es, ep, e', hd', _⟩ := h1
    rw [e'] at e; cases e; exact .inl ⟨_, _, hd'⟩
  · rcases cells_law e with rfl | rfl | rfl <;> exact by show _ ≠ N; omega
  · rcases List.mem_cons.mp he with rfl | he
    · exact ⟨.inl ⟨hl, if_pos rfl⟩, r.but hs.extBut nO⟩
    · refine ⟨?_, (h3 e he).2.but hs.extBut nO⟩
      rcases (h3 e he).1 with ⟨q1, q2⟩ | q
      · exact .inl ⟨q1, (if_neg (hx e he)).trans q2⟩
      · exact .inr q
theorem LSt.storeC {Q : Unit → Shared → Prop} (X : LSt w s₀ ps N ρ s) {c : Addr} (hl : (envLaw N).kindOf x = some .cell) (hc : (envLaw N).cells.lookup x = some c) (hx : ∀ e ∈ ρ, e.1 ≠ x) (r : RD s.heap (Off N) v d)
    (hQ : ∀ s', LSt w s₀ ps N ((x, v, d) :: ρ) s' → KeepBut (fun b => ¬ Off N b) s.heap s'.heap → Q () s') : wpAny M A (storeName (envLaw N) x v) Q E s := by
  obtain ⟨m, cm, h1, h2, h3⟩ := X.frm
  have hcN := cells_law hc
  have nO : ¬ Off N c := fun z => hcN.elim z.2.1 fun q => q.elim z.2.2.1 z.2.2.2.1
  have cN : c ≠ N := by rcases hcN with q | q | q <;> (rw [q]; exact fun z => by have : N = N + _ := z.symm; omega)
  have c154 : c ≠ 154 := fun z => by
    rcases hcN with q | q | q
    · exact X.new.2.2.2.2 (by rw [← z, q]; exact X.new.2.1)
    · exact X.new.2.2.2.2 (by rw [← z, q]; exact X.new.2.2.1)
    · exact X.new.2.2.2.2 (by rw [← z, q]; exact X.new.2.2.2.1)
  have ap : (envLaw N).cells.Pairwise fun x y => x.2 ≠ y.2 := by
    rw [law_cells]
    simp only [List.pairwise_cons, List.mem_cons, List.not_mem_nil, or_false, List.Pairwise.nil, and_true]
    refine ⟨fun a ha => ?_, fun a ha => ?_, fun a ha => ha.elim⟩
    · rcases ha with rfl | rfl <;> (show N + 3 ≠ _; omega)
    · subst ha; show N + 2 ≠ N + 1; omega
  refine wpAny_storeName_cell rfl hl hc (h2 x c hc) fun h' hv hs => hQ _ (X.chg (tk := s.toks) nO c154 hs.extBut (fun o e => ?_) ⟨m, (fun y => if y = x then some v else cm y), h1.sameBut hs (Ne.symm cN), fun n c' e => ?_, fun e he => ?_⟩) fun b o hb e => hs.extBut b o (fun z => hb (z ▸ nO)) e
  · obtain ⟨o', e', hd'⟩ := h2 x c hc
    rw [e'] at e; cases e; exact .inr ⟨_, hd'⟩
  · by_cases hn : n = x
    · subst hn; rw [hc] at e; cases e; simpa using hv
    · have hcc : c' ≠ c := fun q => hn (name_of_addr ap (mem_of_lookup e) (q ▸ mem_of_lookup hc))
      simpa [hn] using (h2 n c' e).sameBut hs hcc
  · rcases List.mem_cons.mp he with rfl | he
    · exact ⟨.inr ⟨c, hl, hc, if_pos rfl⟩, r.but hs.extBut nO⟩
    · refine ⟨?_, (h3 e he).2.but hs.extBut nO⟩
      rcases (h3 e he).1 with q | ⟨c', q1, q2, q3⟩
      · exact .inl q
      · exact .inr ⟨c', q1, q2, (if_neg (hx e he)).trans q3⟩
/-- `x = e` -/
theorem LSt.assignL {p pos : Pos} {e : Expr} {Q : Flow → Shared → Prop} (X : LSt w s₀ ps N ρ s) (ev : EvD pw w A (envLaw N) s.heap (Off N) e d) (hl : (envLaw N).kindOf x = some .local) (hx : ∀ e ∈ ρ, e.1 ≠ x)
    (hQ : ∀ v s', LSt w s₀ ps N ((x, v, d) :: ρ) s' → KeepBut (fun b => ¬ Off N b) s.heap s'.heap → Q .next s') (hsw : swapsWith e (some (.Name x p)) pos.line (envLaw N) = pure false := by rfl) : wpAny (model pw w) A (exec (.Assign [.Name x p] e pos) (envLaw N)) Q E s := by
  refine wpAny_Assign_Name (wpAny_mono (ev s _ fun _ _ e => e) (fun v s' h => ?_) fun _ _ q => q) hsw
  exact (X.kp h.2).storeL hl hx (X.fr h.1) fun s2 X2 k2 => hQ v s2 X2 fun b o hb e => k2 b o hb (h.2.le b o e)
theorem LSt.assignC {p pos : Pos} {e : Expr} {c : Addr} {Q : Flow → Shared → Prop} (X : LSt w s₀ ps N ρ s) (ev : EvD pw w A (envLaw N) s.heap (Off N) e d) (hl : (envLaw N).kindOf x = some .cell) (hc : (envLaw N).cells.lookup x = some c) (hx : ∀ e ∈ ρ, e.1 ≠ x)
    (hQ : ∀ v s', LSt w s₀ ps N ((x, v, d) :: ρ) s' → KeepBut (fun b => ¬ Off N b) s.heap s'.heap → Q .next s') (hsw : swapsWith e (some (.Name x p)) pos.line (envLaw N) = pure false := by rfl) : wpAny (model pw w) A (exec (.Assign [.Name x p] e pos) (envLaw N)) Q E s := by
  refine wpAny_Assign_Name (wpAny_mono (ev s _ fun _ _ e => e) (fun v s' h => ?_) fun _ _ q => q) hsw
  exact (X.kp h.2).storeC hl hc hx (X.fr h.1) fun s2 X2 k2 => hQ v s2 X2 fun b o hb e => k2 b o hb (h.2.le b o e)
/-- `x = [.. for ..]` by the exchanged road -/
theorem LSt.assignComp {elt target iter : Expr} {ifs : List Expr} {scope : Scope} {cl : List (Str × Addr)} {pos spos py : Pos} {xs : List D} {Q : Flow → Shared → Prop} (X : LSt w s₀ ps N ρ s) (bd : D → List (Str × D)) (p : D → Bool) (g : D → D)
    (hsw : swapsWith (.ListComp elt [⟨target, iter, ifs, 0⟩] scope pos) (some (.Name x py)) spos.line (envLaw N) = pure true)
    (src : SrcL pw w A (envLaw N) s.heap (Off N) iter xs) (ok : OkA 0 A) (hclos : closureFor scope (envLaw N) = pure cl) (hcell : ∀ y ∈ scope.names, y.2 ≠ .cell) (hkind : scope.kind = .function)
    (hnames : ∀ y ∈ scope.names, y.2 = .local → scope.names.lookup y.1 = some .local)
    (hb : ∀ d ∈ xs, Bd target d (bd d)) (hloc : ∀ d ∈ xs, ∀ x e, (x, e) ∈ bd d → scope.names.lookup x = some .local)
    (hel : ∀ d ∈ xs, EltOk pw w A (envLaw N) scope cl s.heap (Off N) ifs elt (bd d) (p d) (g d)) (hsz : xs.length ≤ sizeLine)
    (hl : (envLaw N).kindOf x = some .local) (hx : ∀ e ∈ ρ, e.1 ≠ x)
    (hQ : ∀ v s', LSt w s₀ ps N ((x, v, .lst ((xs.filter p).map g)) :: ρ) s' → KeepBut (fun b => ¬ Off N b) s.heap s'.heap → Q .next s')
    (hst : ∀ x, foldedSetIterable iter (envLaw N) x = pure x := by intro _; rfl) :
    wpAny (model pw w) A (exec (.Assign [.Name x py] (.ListComp elt [⟨target, iter, ifs, 0⟩] scope pos) spos) (envLaw N)) Q E s := by
  obtain ⟨m, cm, h1, h2, h3⟩ := X.frm
  have nO : ¬ Off N N := fun z => z.1 rfl
  have nN : N ≠ 154 := fun z => X.new.2.2.2.2 (z ▸ X.new.1)
  refine assign_comp bd p g hsw src (fun _ _ e => e) ok hclos hcell hkind hnames hb hloc hel hsz hl rfl h1 (fun D h' tk hD r hn _ hx' => hQ (.ref D) _ (X.chg nO nN hx' (fun o e => ?_) ⟨_, cm, hn, fun n c e => ?_, fun e he => ?_⟩) fun b o hb e => hx' b o (fun z => hb (z ▸ nO)) e) nO hst
  · obtain ⟨o', es, ep, e', hd', _⟩ := h1
    rw [show s.heap.get? N = some o' from e'] at e; cases e; exact .inl ⟨_, _, hd'⟩
  · obtain ⟨o, eo, hd⟩ := h2 n c e
    refine ⟨o, hx' _ _ ?_ eo, hd⟩
    rcases cells_law e with rfl | rfl | rfl <;> exact by show _ ≠ N; omega
  · rcases List.mem_cons.mp he with rfl | he
    · exact ⟨.inl ⟨hl, if_pos rfl⟩, X.fr r⟩
    · refine ⟨?_, (h3 e he).2.but hx' nO⟩
      rcases (h3 e he).1 with ⟨q1, q2⟩ | q
      · exact .inl ⟨q1, (if_neg (hx e he)).trans q2⟩
      · exact .inr q
/-- behind a call of `_law_run` -/
theorem LSt.run {ps' : Array Value} {dd : D} {vr : Value} (X : LSt w s₀ ps N ρ s) {more : Array Value} (R : RunRes w [envLaw N] (ps ++ more) dd vr s s') :
    LSt w s₀ ps N ρ s' ∧ KeepBut (fun b => ¬ Off N b) s.heap s'.heap := by
  have hF : framesOf [envLaw N] = [N] := rfl
  have kf := R.kf
  rw [hF] at kf
  have kk : ∀ b o, b ≠ 154 → b ≠ N → s.heap.get? b = some o → s'.heap.get? b = some o := fun b o h1 h2 e => (kf b o h1 e).2 (by simpa using h2)
  have nN : N ≠ 154 := fun z => X.new.2.2.2.2 (z ▸ X.new.1)
  obtain ⟨m, cm, ⟨o, es, ep, e, hd, hr⟩, h2, h3⟩ := X.frm
  refine ⟨⟨X.T0, R.T, ?_, fun b o hb e => ?_, X.new, ⟨m, cm, ?_, fun n c ec => ?_, fun e he => ⟨(h3 e he).1, (h3 e he).2.mono (fun a o hs e => kk a o hs.2.2.2.2 hs.1 e) fun _ s => s⟩⟩, ?_⟩, fun b o hb e => ?_⟩
  · obtain ⟨more', ht⟩ := R.tab
    exact ⟨more ++ more', by rw [← Array.append_assoc]; exact ht⟩
  · exact kk _ _ hb (fun z => by rw [z, X.new.1] at e; cases e) (X.keep b o hb e)
  · obtain ⟨sl, e'⟩ := (kf N o nN e).1 (by simp)
    exact ⟨_, es, ep, e', hd, hr⟩
  · obtain ⟨o', eo, hd'⟩ := h2 n c ec
    have hcN := cells_law ec
    refine ⟨o', kk _ _ (fun z => ?_) (fun z => ?_) eo, hd'⟩
    · rcases hcN with q | q | q
      · exact X.new.2.2.2.2 (by rw [← z, q]; exact X.new.2.1)
      · exact X.new.2.2.2.2 (by rw [← z, q]; exact X.new.2.2.1)
      · exact X.new.2.2.2.2 (by rw [← z, q]; exact X.new.2.2.2.1)
    · rw [z] at hcN; rcases hcN with q | q | q <;> exact absurd q (by show ¬ N = N + _; omega)
  · obtain ⟨h1, t1, g1, rfl, hb⟩ := X.sh
    obtain ⟨h2, t2, g2, e2, hb2⟩ := R.sh
    exact ⟨h2, t2, g2, e2, hb2 hb⟩
  · have : Off N b := Classical.byContradiction hb
    exact kk _ _ this.2.2.2.2 this.1 e
end
end Mine
end

section
open PySem PySem.W PyProof.Rows PySem.Calls
set_option maxRecDepth 100000
set_option linter.all false
set_option maxHeartbeats 4000000
namespace Mine
open PySem (eval)

noncomputable abbrev scX : Scope := { kind := .function, names := [(".0", .local), ("x", .local)], isGenerator := false, isCoroutine := false, more := [] }
noncomputable abbrev scXN : Scope := { kind := .function, names := [(".0", .local), ("x", .local), ("names", .free)], isGenerator := false, isCoroutine := false, more := [] }
/-! the plain words of the law's head -/
noncomputable def nm (k : Int) : Str := (names8[k.toNat]?).getD "go"
noncomputable def rowF (ns : List Int) : List Int := (ns.take 6).map (fun x => x.fmod 64) ++ [40, 53, 17, 6, 26, 56]
noncomputable def arrF (ns : List Int) : List (Str × Str) := (rowF ns).map fun x => (nm (x.fmod 8), nm (x.fdiv 8))
noncomputable def sizeF (ns : List Int) : Int := (rowF ns).sum
noncomputable def oneF (ns : List Int) : Str := nm ((sizeF ns).fmod 8)
noncomputable def twoA (ns : List Int) : Str := nm (((sizeF ns).fdiv 8).fmod 8)
noncomputable def twoB (ns : List Int) : Str := nm ((sizeF ns).fmod 7)
theorem nm_at {k : Int} (h0 : 0 ≤ k) (h1 : k < 8) : names8[k.toNat]? = some (nm k) := by
  have h : k.toNat < 8 := by omega
  unfold nm
  have : names8[k.toNat]? = some (names8[k.toNat]'(by simpa [names8] using h)) := List.getElem?_eq_getElem _
  rw [this]; rfl
theorem nm_mem {k : Int} (h0 : 0 ≤ k) (h1 : k < 8) : nm k ∈ names8 := List.mem_of_getElem? (nm_at h0 h1)
theorem fm {x : Int} {b : Int} (h : 0 < b) : 0 ≤ x.fmod b ∧ x.fmod b < b := ⟨Int.fmod_nonneg_of_pos x h, Int.fmod_lt_of_pos x h⟩
theorem row_in (ns : List Int) : ∀ x ∈ rowF ns, 0 ≤ x ∧ x < 64 := fun x hx => by
  rcases List.mem_append.mp hx with hx | hx
  · obtain ⟨y, _, rfl⟩ := List.mem_map.mp hx
    exact fm (by decide)
  · have q : ∀ x ∈ ([40, 53, 17, 6, 26, 56] : List Int), 0 ≤ x ∧ x < 64 := by decide
    exact q x hx
theorem row_len (ns : List Int) : (rowF ns).length ≤ 12 := by
  unfold rowF
  rw [List.length_append, List.length_map, List.length_take]
  have : Min.min 6 ns.length ≤ 6 := Nat.min_le_left _ _
  show Min.min 6 ns.length + 6 ≤ 12
  omega
theorem sum_in : ∀ {l : List Int}, (∀ x ∈ l, 0 ≤ x ∧ x < 64) → 0 ≤ l.sum ∧ l.sum ≤ 63 * l.length
  | [], _ => by simp
  | x :: l, h => by
    have h1 := h x (.head _)
    have h2 := sum_in (l := l) fun y hy => h y (.tail _ hy)
    rw [List.sum_cons, List.length_cons]
    push_cast
    omega
theorem size_in (ns : List Int) : 0 ≤ sizeF ns ∧ sizeF ns < 1000 := by
  have := sum_in (row_in ns)
  have h2 := row_len ns
  unfold sizeF
  omega
theorem div8 {x : Int} (h0 : 0 ≤ x) (h1 : x < 64) : 0 ≤ x.fdiv 8 ∧ x.fdiv 8 < 8 := by
  rw [Int.fdiv_eq_ediv_of_nonneg x (by decide)]
  omega
theorem arr_in (ns : List Int) : ∀ x ∈ arrF ns, x.1 ∈ names8 ∧ x.2 ∈ names8 := fun x hx => by
  obtain ⟨y, hy, rfl⟩ := List.mem_map.mp hx
  have h := row_in ns y hy
  have h2 := fm (x := y) (b := 8) (by decide)
  have h3 := div8 h.1 h.2
  exact ⟨nm_mem h2.1 h2.2, nm_mem h3.1 h3.2⟩
theorem arr_len (ns : List Int) : (arrF ns).length ≤ 12 := by unfold arrF; rw [List.length_map]; exact row_len ns
theorem one_in (ns : List Int) : oneF ns ∈ names8 := nm_mem (fm (by decide)).1 (fm (by decide)).2
theorem twoA_in (ns : List Int) : twoA ns ∈ names8 := nm_mem (fm (by decide)).1 (fm (by decide)).2
theorem twoB_in (ns : List Int) : twoB ns ∈ names8 := by
  have := fm (x := sizeF ns) (b := 7) (by decide)
  exact nm_mem this.1 (by omega)

section
variable {prog : Program} {w : World} {A : Around} {env : Env} {h : Heap} {S : Addr → Prop}
/-- `[x % 64 for x in ..]` -/
theorem ev_mods {iter : Expr} {ns : List Int} {p1 p2 p3 p4 p5 : Pos} (ok : OkA 0 A) (src : SrcL prog w A env h S iter (ns.map .int)) (hlen : ns.length ≤ sizeLine) (hclos : closureFor scX env = pure []) (hst : ∀ x, foldedSetIterable iter env x = pure x) :
    EvD prog w A env h S (.ListComp (.BinOp (.Name "x" p1) .Mod (.Constant (.int 64) 0 p2) p3) [⟨.Name "x" p4, iter, [], 0⟩] scX p5) (.lst ((ns.map fun x => x.fmod 64).map .int)) := by
  refine EvD.congr (EvD.comp (fun d => [(("x" : Str), d)]) (fun _ => true) (fun d => match d with | .int i => .int (i.fmod 64) | d => d) src ok hclos (by decide) rfl (by decide) (fun d hd => .name) ?_ ?_ (by simpa using hlen) hst) ?_
  · intro d hd x e hx
    cases List.mem_singleton.mp hx; rfl
  · intro d hd S' C h' m hS hh hn hb
    obtain ⟨z, hz, rfl⟩ := List.mem_map.mp hd
    refine ⟨rfl, fun _ => ?_⟩
    obtain ⟨v, hv, rv⟩ := hb "x" _ (.head _)
    exact EvD.bin (EvD.name (Var.loc rfl rfl hn hv) rv) EvD.cint (BinD.mod (by decide))
  · rw [filter_yes, List.map_map, List.map_map]; rfl
/-- `[(names[x % 8], names[x // 8]) for x in row]` -/
theorem ev_arrs {xs : List Int} {c : Addr} {v : Value} {p0 p1 p2 p3 p4 p5 p6 p7 p8 p9 q1 q2 q3 q4 q5 : Pos} (ok : OkA 0 A) (src : SrcL prog w A env h S (.Name "row" q4) (xs.map .int)) (hin : ∀ x ∈ xs, 0 ≤ x ∧ x < 64) (hlen : xs.length ≤ sizeLine) (hclos : closureFor scXN env = pure [(("names" : Str), c)])
    (hsk : env.scope.kind = .function) (hk : env.kindOf "names" = some .cell) (hc : h.IsCell c (some v)) (hr : RD h S v (.lst (names8.map .str))) :
    EvD prog w A env h S (.ListComp (.Tuple [.Subscript (.Name "names" p0) (.BinOp (.Name "x" p1) .Mod (.Constant (.int 8) 0 p2) p3) p4, .Subscript (.Name "names" p5) (.BinOp (.Name "x" p6) .FloorDiv (.Constant (.int 8) 0 p7) p8) p9] 0 q1) [⟨.Name "x" q3, .Name "row" q4, [], 0⟩] scXN q5)
      (.lst (arrD (xs.map fun x => (nm (x.fmod 8), nm (x.fdiv 8))))) := by
  refine EvD.congr (EvD.comp (fun d => [(("x" : Str), d)]) (fun _ => true) (fun d => match d with | .int x => .tup [.str (nm (x.fmod 8)), .str (nm (x.fdiv 8))] | d => d) src ok hclos (by decide) rfl (by decide) (fun d hd => .name) ?_ ?_ (by simpa using hlen)) ?_
  · intro d hd x e hx
    cases List.mem_singleton.mp hx; rfl
  · intro d hd S' C h' m hS hh hn hb
    obtain ⟨z, hz, rfl⟩ := List.mem_map.mp hd
    refine ⟨rfl, fun _ => ?_⟩
    obtain ⟨v1, hv, rv⟩ := hb "x" _ (.head _)
    have hz' := hin z hz
    have hx : ∀ {p : Pos}, EvD prog w A (compEnvC scXN [(("names" : Str), c)] C env) h' S' (.Name "x" p) (.int z) := EvD.name (Var.loc rfl rfl hn hv) rv
    have vn : Var (compEnvC scXN [(("names" : Str), c)] C env) h' "names" v := Var.cell (c := c) rfl (relabel_free hsk hk rfl) rfl (hc.keeps hh)
    have hnm : ∀ {p : Pos}, SrcL prog w A (compEnvC scXN [(("names" : Str), c)] C env) h' S' (.Name "names" p) (names8.map .str) :=
      (EvD.name vn (hr.up hh hS)).src
    have h2 := fm (x := z) (b := 8) (by decide)
    have h3 := div8 hz'.1 hz'.2
    refine EvD.tuple (.cons (EvD.idxL hnm (EvD.bin hx EvD.cint (BinD.mod (by decide))) h2.1 (by omega) (d := .str (nm (z.fmod 8))) ?_) (.cons (EvD.idxL hnm (EvD.bin hx EvD.cint (BinD.div (by decide) (by omega) (by decide))) h3.1 (by omega) (d := .str (nm (z.fdiv 8))) ?_) .nil rfl) rfl) (by show (2 : Nat) ≤ sizeLine; decide)
    · rw [List.getElem?_map, nm_at h2.1 h2.2]; rfl
    · rw [List.getElem?_map, nm_at h3.1 h3.2]; rfl
  · rw [filter_yes, List.map_map]
    unfold arrD
    rw [List.map_map]; rfl
end
end Mine
end

section
open PySem PySem.W PyProof.Rows PySem.Calls
set_option maxRecDepth 100000
set_option linter.all false
set_option maxHeartbeats 4000000
namespace Mine
open PySem (eval)

noncomputable def lw (i : Nat) : Stmt := (fbody (stOf 18)).getD i (.Pass default)
theorem law_body : fbody (stOf 18) = [lw 0, lw 1, lw 2, lw 3, lw 4, lw 5, lw 6, lw 7, lw 8, lw 9] := by rfl

section
variable {w : World} {A : Around} {E : Value → Shared → Prop} {s₀ s : Shared} {ps : Array Value} {N : Nat} {ρ : Rho} {Q : Flow → Shared → Prop} {ns : List Int} {v : Value}
noncomputable abbrev Has (ρ : Rho) (x : Str) (v : Value) (d : D) : Prop := (x, v, d) ∈ ρ
noncomputable abbrev namesD : D := .lst (names8.map .str)
theorem ev_names {env : Env} {h : Heap} {S : Addr → Prop} {p1 p2 p3 p4 p5 p6 p7 p8 p9 : Pos} : EvD pw w A env h S (.List [.Constant (.str "go") 0 p1, .Constant (.str "to") 0 p2, .Constant (.str "at") 0 p3, .Constant (.str "by") 0 p4, .Constant (.str "Go") 0 p5, .Constant (.str "TO") 0 p6, .Constant (.str "aT") 0 p7, .Constant (.str "BY") 0 p8] p9) namesD :=
  EvD.list (.cons EvD.cstr (.cons EvD.cstr (.cons EvD.cstr (.cons EvD.cstr (.cons EvD.cstr (.cons EvD.cstr (.cons EvD.cstr (.cons EvD.cstr .nil rfl) rfl) rfl) rfl) rfl) rfl) rfl) rfl) (by decide)
theorem lw0 (X : LSt w s₀ ps N ρ s) (hx : ∀ e ∈ ρ, e.1 ≠ "names") (hQ : ∀ v s', LSt w s₀ ps N (("names", v, namesD) :: ρ) s' → KeepBut (fun b => ¬ Off N b) s.heap s'.heap → Q .next s') : wpAny (model pw w) A (exec (lw 0) (envLaw N)) Q E s :=
  X.assignC ev_names (by rfl) (by rfl) hx hQ
theorem lw1 (X : LSt w s₀ ps N ρ s) (ok : OkA 0 A) (hs : Has ρ "script" v (.lst (ns.map .int))) (hlen : ns.length ≤ sizeLine) (hx : ∀ e ∈ ρ, e.1 ≠ "row") (hQ : ∀ v s', LSt w s₀ ps N (("row", v, .lst ((rowF ns).map .int)) :: ρ) s' → KeepBut (fun b => ¬ Off N b) s.heap s'.heap → Q .next s') : wpAny (model pw w) A (exec (lw 1) (envLaw N)) Q E s := by
  have e : (rowF ns).map D.int = ((ns.take 6).map fun x => x.fmod 64).map .int ++ ([40, 53, 17, 6, 26, 56] : List Int).map .int := by unfold rowF; rw [List.map_append]
  have hq : (ns.take 6).length ≤ 6 := by rw [List.length_take]; exact Nat.min_le_left _ _
  have hs6 : (12 : Nat) ≤ sizeLine := by decide
  refine X.assignL (d := .lst ((rowF ns).map .int)) ?_ (by rfl) hx hQ
  rw [e]
  refine EvD.bin (ev_mods (ns := ns.take 6) ok (EvD.congr (EvD.upto (ds := ns.map .int) (b := 6) (X.src hs) EvD.cint (by simpa using hlen)) (by rw [List.map_take])).src (by omega) (by rfl) (by intro _; rfl)) (EvD.list (.cons EvD.cint (.cons EvD.cint (.cons EvD.cint (.cons EvD.cint (.cons EvD.cint (.cons EvD.cint .nil rfl) rfl) rfl) rfl) rfl) rfl) (by decide)) (BinD.addL ?_)
  simp only [List.length_map, List.length_cons, List.length_nil]
  omega
theorem lw2 (X : LSt w s₀ ps N ρ s) (ok : OkA 0 A) {vn vr : Value} (hn : Has ρ "names" vn namesD) (hs : Has ρ "row" vr (.lst ((rowF ns).map .int))) (hx : ∀ e ∈ ρ, e.1 ≠ "arrows") (hQ : ∀ v s', LSt w s₀ ps N (("arrows", v, .lst (arrD (arrF ns))) :: ρ) s' → KeepBut (fun b => ¬ Off N b) s.heap s'.heap → Q .next s') : wpAny (model pw w) A (exec (lw 2) (envLaw N)) Q E s := by
  have hs6 : (12 : Nat) ≤ sizeLine := by decide
  have hl := row_len ns
  exact X.assignC (ev_arrs (q2 := default) ok (X.src hs) (row_in ns) (by omega) (by rfl) rfl (by rfl) (X.cell hn (by rfl) (by rfl)) (X.rd hn)) (by rfl) (by rfl) hx hQ
/-- `[a + " = " + b for a, b in arrows]` -/
theorem lw3 (X : LSt w s₀ ps N ρ s) (ok : OkA 0 A) {va : Value} (hs : Has ρ "arrows" va (.lst (arrD (arrF ns)))) (hx : ∀ e ∈ ρ, e.1 ≠ "lines") (hQ : ∀ v s', LSt w s₀ ps N (("lines", v, .lst ((arrF ns).map fun x => .str (lineOf x.1 x.2))) :: ρ) s' → KeepBut (fun b => ¬ Off N b) s.heap s'.heap → Q .next s') : wpAny (model pw w) A (exec (lw 3) (envLaw N)) Q E s := by
  have hs6 : (12 : Nat) ≤ sizeLine := by decide
  have hl := arr_len ns
  refine X.assignComp (ρ := ρ) (x := "lines") (bd2 "a" "b") (fun _ => true) (fun d => match d with | .tup [.str x, .str y] => .str (lineOf x y) | d => d) (by rfl) (X.src hs) ok (by rfl) (by decide) rfl (by decide) ?_ ?_ ?_ (by rw [List.length_map]; omega) (by rfl) hx fun v s' X' k' => hQ v s' ?_ k'
  · intro d hd
    obtain ⟨x, hx, rfl⟩ := List.mem_map.mp hd
    exact .tup2 (by decide)
  · intro d hd x e hx
    obtain ⟨z, hz, rfl⟩ := List.mem_map.mp hd
    rcases List.mem_cons.mp hx with q | hx
    · cases q; rfl
    · cases List.mem_singleton.mp hx; rfl
  · intro d hd S' C h' m hS hh hn hb
    obtain ⟨z, hz, rfl⟩ := List.mem_map.mp hd
    refine ⟨rfl, fun _ => ?_⟩
    obtain ⟨v1, hv1, rv1⟩ := hb "a" _ (.head _)
    obtain ⟨v2, hv2, rv2⟩ := hb "b" _ (.tail _ (.head _))
    have hz' := arr_in ns z hz
    have hll := line_len _ hz'.1 _ hz'.2
    have q1 : z.1.length + (" = " : Str).length ≤ sizeLine ∧ (z.1 ++ " = ").length + z.2.length ≤ sizeLine := by
      have : ∀ a ∈ names8, ∀ b ∈ names8, a.length + (" = " : Str).length ≤ 12 ∧ (a ++ (" = " : Str)).length + b.length ≤ 12 := by decide +kernel
      have := this _ hz'.1 _ hz'.2
      omega
    exact EvD.bin (EvD.bin (EvD.name (Var.loc rfl rfl hn hv1) rv1) EvD.cstr (BinD.addS q1.1)) (EvD.name (Var.loc rfl rfl hn hv2) rv2) (BinD.addS q1.2)
  · rw [filter_yes, List.map_map] at X'
    exact X'
theorem lw4 (X : LSt w s₀ ps N ρ s) (ok : OkA 0 A) {vr : Value} (hs : Has ρ "row" vr (.lst ((rowF ns).map .int))) (hx : ∀ e ∈ ρ, e.1 ≠ "size") (hQ : ∀ v s', LSt w s₀ ps N (("size", v, .int (sizeF ns)) :: ρ) s' → KeepBut (fun b => ¬ Off N b) s.heap s'.heap → Q .next s') : wpAny (model pw w) A (exec (lw 4) (envLaw N)) Q E s :=
  X.assignL (EvD.callB (Var.bi X.T rfl (by rfl) rfl rfl (by kernel_rfl) (by decide) (by rfl)) (.cons (X.ev hs) .nil rfl) (by simp) (CallD.sum ok)) (by rfl) hx hQ
theorem lw5 (X : LSt w s₀ ps N ρ s) {vn vs : Value} (hn : Has ρ "names" vn namesD) (hs : Has ρ "size" vs (.int (sizeF ns))) (hx : ∀ e ∈ ρ, e.1 ≠ "one") (hQ : ∀ v s', LSt w s₀ ps N (("one", v, .str (oneF ns)) :: ρ) s' → KeepBut (fun b => ¬ Off N b) s.heap s'.heap → Q .next s') : wpAny (model pw w) A (exec (lw 5) (envLaw N)) Q E s := by
  have h := fm (x := sizeF ns) (b := 8) (by decide)
  exact X.assignL (EvD.idxL (X.src hn) (EvD.bin (X.ev hs) EvD.cint (BinD.mod (by decide))) h.1 (by omega) (by rw [List.getElem?_map, nm_at h.1 h.2]; rfl)) (by rfl) hx hQ
theorem lw6 (X : LSt w s₀ ps N ρ s) {vn vs : Value} (hn : Has ρ "names" vn namesD) (hs : Has ρ "size" vs (.int (sizeF ns))) (hx : ∀ e ∈ ρ, e.1 ≠ "two") (hQ : ∀ v s', LSt w s₀ ps N (("two", v, .lst ([twoA ns, twoB ns].map .str)) :: ρ) s' → KeepBut (fun b => ¬ Off N b) s.heap s'.heap → Q .next s') : wpAny (model pw w) A (exec (lw 6) (envLaw N)) Q E s := by
  have h := fm (x := (sizeF ns).fdiv 8) (b := 8) (by decide)
  have h7 := fm (x := sizeF ns) (b := 7) (by decide)
  have hz := size_in ns
  refine X.assignL (EvD.list (.cons (EvD.idxL (X.src hn) (EvD.bin (EvD.bin (X.ev hs) EvD.cint (BinD.div (by decide) (by omega) (by decide))) EvD.cint (BinD.mod (by decide))) h.1 (by omega) (d := .str (twoA ns)) ?_) (.cons (EvD.idxL (X.src hn) (EvD.bin (X.ev hs) EvD.cint (BinD.mod (by decide))) h7.1 (by omega) (d := .str (twoB ns)) ?_) .nil rfl) rfl) (by show (2 : Nat) ≤ sizeLine; decide)) (by rfl) hx hQ
  · rw [List.getElem?_map, nm_at h.1 h.2]; rfl
  · rw [List.getElem?_map, nm_at h7.1 (by omega)]; rfl
end
end Mine
end

section
open PySem PySem.W PyProof.Rows PySem.Calls
set_option maxRecDepth 100000
set_option linter.all false
set_option maxHeartbeats 4000000
namespace Mine
open PySem (eval)

theorem pair_split : ∀ a ∈ names8, ∀ b ∈ names8, Txt.splitMax (a ++ ("=" : Str) ++ b) "=" 1 = [a, b] ∧ Txt.strip a = a ∧ Txt.strip b = b ∧ a.length + ("=" : Str).length ≤ 12 ∧ (a ++ ("=" : Str)).length + b.length ≤ 12 ∧ (a ++ ("=" : Str) ++ b).length ≤ 12 ∧ a.length ≤ 12 ∧ b.length ≤ 12 := by decide +kernel
/-- the list of the starts -/
noncomputable def StartsAt (N : Nat) (ns : List Int) (h : Heap) (Ls : Addr) : Prop := ∃ a d t tx ty n n2, Off N Ls ∧ Off N a ∧ h.get? Ls = some ⟨.type "list", none, .seq #[.none, .str (oneF ns) t, .ref a] n2, #[]⟩ ∧ h.get? a = some ⟨.ref 257, some d, .seq #[.str (twoA ns) tx, .str (twoB ns) ty] n, #[]⟩
theorem StartsAt.keep {N : Nat} {ns : List Int} {h h' : Heap} {Ls : Addr} (x : StartsAt N ns h Ls) (k : KeepBut (fun b => ¬ Off N b) h h') : StartsAt N ns h' Ls := by
  obtain ⟨a, d, t, tx, ty, n, n2, h1, h2, e1, e2⟩ := x
  exact ⟨a, d, t, tx, ty, n, n2, h1, h2, k _ _ (fun z => z h1) e1, k _ _ (fun z => z h2) e2⟩
section
variable {w : World} {A : Around} {E : Value → Shared → Prop} {s₀ s : Shared} {ps : Array Value} {N : Nat} {ρ : Rho} {Q : Flow → Shared → Prop} {ns : List Int} {v : Value}
theorem lw7 (X : LSt w s₀ ps N ρ s) (ok : OkA 103 A) {vo vt : Value} (h1 : Has ρ "one" vo (.str (oneF ns))) (h2 : Has ρ "two" vt (.lst ([twoA ns, twoB ns].map .str))) (hx : ∀ e ∈ ρ, e.1 ≠ "starts")
    (hQ : ∀ Ls s', LSt w s₀ ps N (("starts", .ref Ls, .atom (.ref Ls)) :: ρ) s' → StartsAt N ns s'.heap Ls → Q .next s') : wpAny (model pw w) A (exec (lw 7) (envLaw N)) Q E s := by
  have h12 : (12 : Nat) ≤ sizeLine := by decide
  obtain ⟨q1, q2, q3, q4, q5, q6, q7, q8⟩ := pair_split _ (twoA_in ns) _ (twoB_in ns)
  refine wpAny_Assign_Name (x := "starts") (List_ ?_) (by rfl)
  rw [starEach_cons (by rfl), starEach_cons (by rfl), starEach_cons (by rfl)]
  refine Calls.spliced_cons ?_
  rw [eval_Constant]
  refine wpAny_pure ?_
  have X1 := X
  have k1 : Kp s s := Kp.refl s
  refine Calls.spliced_cons (wpAny_Name (X1.var h1 _ _ _ _ s (fun _ _ e => e) ?_) (by decide))
  have ro := X1.rd h1
  (first | cases ro using RD.atomE | cases ro using RDs.nilE | cases ro using RD.strE | cases ro using RD.intE | cases ro using RD.boolE | cases ro using RD.noneE | cases ro)
  rename_i t
  have vp : Var (envLaw N) s.heap "Pair" (.ref 257) := Var.glob X1.T rfl (by rfl) rfl (by kernel_rfl)
  have two0 : ∀ {p q : Pos}, EvD pw w A (envLaw N) s.heap (Off N) (.Subscript (.Name "two" p) (.Constant (.int 0) 0 q) ⟨221, 36, 221, 42⟩) (.str (twoA ns)) := EvD.idxL (X1.src h2) EvD.cint (by decide) (by decide) rfl
  have two1 : ∀ {p q : Pos}, EvD pw w A (envLaw N) s.heap (Off N) (.Subscript (.Name "two" p) (.Constant (.int 1) 0 q) ⟨221, 51, 221, 57⟩) (.str (twoB ns)) := EvD.idxL (X1.src h2) EvD.cint (by decide) (by decide) rfl
  refine Calls.spliced_cons (wpAny_mono (ev_parse X1.T ok vp (EvD.flat (EvD.bin (EvD.bin two0 EvD.cstr (BinD.addS (by omega))) two1 (BinD.addS (by omega))) rfl) q1 (by omega) (by omega) (by omega) (by rfl) (by rfl)) (fun v2 s2 g2 => ?_) fun _ _ q => q)
  rw [q2, q3] at g2
  obtain ⟨a, d, tx, ty, n, rfl, ea, ed, na, nd, k2⟩ := g2
  have X2 := X1.kp k2
  have oa : Off N a := X1.off na
  refine Calls.spliced_nil (wpAny_newObj_type ?_ (by show (3 : Nat) ≤ sizeLine; decide))
  have k3 : Kp s2 { s2 with heap := s2.heap.push { cls := .type "list", data := .seq #[.none, .str (oneF ns) t, .ref a] } } := Kp.of' fun b o e => Heap.get?_push_of_some _ e
  have X3 := X2.kp k3
  have oL : Off N s2.heap.objs.size := X2.off (new_none _)
  have eL : (s2.heap.push { cls := .type "list", data := .seq #[.none, .str (oneF ns) t, .ref a] }).get? s2.heap.objs.size = some ⟨.type "list", none, .seq #[.none, .str (oneF ns) t, .ref a] 0, #[]⟩ := Heap.get?_push_size _ rfl
  refine X3.storeL (d := .atom (.ref s2.heap.objs.size)) (by rfl) hx (.atom _) fun s4 X4 k4 => hQ s2.heap.objs.size s4 X4 ?_
  exact StartsAt.keep ⟨a, d, t, tx, ty, n, 0, oL, oa, eL, k3.le _ _ ea⟩ k4
end
end Mine
end

section
open PySem PySem.W PyProof.Rows PySem.Calls
set_option maxRecDepth 100000
set_option linter.all false
set_option maxHeartbeats 4000000
namespace Mine
open PySem (eval)

/-! a list comprehension with two `for`s -/
noncomputable abbrev twoE (elt t0 i0 t1 i1 : Expr) (scope : Scope) (pos : Pos) : Expr := .ListComp elt [⟨t0, i0, [], 0⟩, ⟨t1, i1, [], 0⟩] scope pos
theorem two_turn0 (elt t0 i0 t1 i1 : Expr) (scope : Scope) (pos : Pos) (it acc : Value) (env : Env) : compTurn (twoE elt t0 i0 t1 i1 scope pos) 0 it acc env = (do
      standAt i0.pos
      match ← pyNext it with
      | none => pure (.done .next)
      | some v =>
        letOwnedTupleGo t0 it v
        assign t0 env v
        let x ← eval i1 env
        standAt i1.pos
        let x ← foldedSetIterable i1 env x
        let _ ← runOwn (.compStart (twoE elt t0 i0 t1 i1 scope pos) 1 (← holding [x] (pyIter x)) acc env) env
        again (.compLoop (twoE elt t0 i0 t1 i1 scope pos) 0 it acc env)) := by rfl
theorem two_turn1 (elt t0 i0 t1 i1 : Expr) (scope : Scope) (pos : Pos) (it acc : Value) (env : Env) : compTurn (twoE elt t0 i0 t1 i1 scope pos) 1 it acc env = (do
      standAt i1.pos
      match ← pyNext it with
      | none => pure (.done .next)
      | some v =>
        letOwnedTupleGo t1 it v
        assign t1 env v
        (do let _ ← call (.builtin "list.append") [acc, ← eval elt env])
        again (.compLoop (twoE elt t0 i0 t1 i1 scope pos) 1 it acc env)) := by rfl

section
variable {prog : Program} {w : World} {A : Around} {env : Env} {R : Result → Shared → Prop} {s : Shared} {elt t0 i0 t1 i1 : Expr} {scope : Scope} {pos : Pos} {it acc : Value}
theorem two_start1 (h0 : codeAny (model prog w) A (.compLoop (twoE elt t0 i0 t1 i1 scope pos) 1 it acc env) R s)
    (h : wpAny (model prog w) A (pyIter it) (fun it' s' => codeAny (model prog w) A (.compLoop (twoE elt t0 i0 t1 i1 scope pos) 1 it' acc env) R s')
      (notedBy (model prog w) A env fun x s' => R (.error x) s') s) :
    codeAny (model prog w) A (.compStart (twoE elt t0 i0 t1 i1 scope pos) 1 it acc env) R s := by
  refine codeAny_of_tree ?_
  show wpAny _ _ ((compStart (twoE elt t0 i0 t1 i1 scope pos) 1 it acc env).onRaise (fun x => do noteFrame x env; standAt theWindowsPlace)) _ _ s
  refine wpAny_notedAt ?_
  unfold compStart
  show wpAny _ _ (ask >>= _) _ _ s
  refine wpAny_bind (wpAny_askSetting (wpAny_ite ?_))
  split
  · first
      | exact wpAny_bind (wpAny_pure (wpAny_pure (And.intro rfl h0)))
      | exact wpAny_pure (And.intro rfl h0)
  · first
      | exact wpAny_bind (wpAny_rule (wpAny_bind (wpAny_standAt (wpAny_bind (wpAny_mono h (fun it' s' h' => wpAny_pure (And.intro rfl h')) fun _ _ x => x)))))
      | (refine wpAny_bind (wpAny_rule ?_); show wpAny _ _ (standAt i1.pos >>= _) _ _ s; exact wpAny_bind (wpAny_standAt (wpAny_bind (wpAny_mono h (fun it' s' h' => wpAny_pure (And.intro rfl h')) fun _ _ x => x))))
theorem two_start0 (h0 : codeAny (model prog w) A (.compLoop (twoE elt t0 i0 t1 i1 scope pos) 0 it acc env) R s)
    (h : wpAny (model prog w) A (pyIter it) (fun it' s' => codeAny (model prog w) A (.compLoop (twoE elt t0 i0 t1 i1 scope pos) 0 it' acc env) R s')
      (notedBy (model prog w) A env fun x s' => R (.error x) s') s) :
    codeAny (model prog w) A (.compStart (twoE elt t0 i0 t1 i1 scope pos) 0 it acc env) R s := codeAny_compStart_list h0 h

theorem two_loop1 (I : Nat → Shared → Prop)
    (turn : ∀ n s, I n s → ∀ E : Value → Shared → Prop, wpAny (model prog w) A (pyNext it) (fun r s₁ => match r with
      | none => R (.ok .next) s₁
      | some v => wpAny (model prog w) A (assign t1 env v) (fun _ s₂ => wpAny (model prog w) A (eval elt env) (fun x s₄ =>
              wpAny (model prog w) A (call (.builtin "list.append") [acc, x]) (fun _ s₅ => ∃ m, m < n ∧ I m s₅) E s₄) E s₂) E s₁) E s)
    (n : Nat) (h : I n s) (ht : ∀ v, letOwnedTupleGo t1 it v = pure ()) : codeAny (model prog w) A (.compLoop (twoE elt t0 i0 t1 i1 scope pos) 1 it acc env) R s := by
  refine codeAny_loop rfl I (fun n s hI => ?_) n h
  show wpAny _ A ((compTurn (twoE elt t0 i0 t1 i1 scope pos) 1 it acc env).onRaise (fun x => do noteFrame x env; theTreesLotGoes x)) _ _ s
  refine wpAny_noted ?_
  rw [two_turn1]
  refine wpAny_bind (wpAny_standAt (wpAny_bind (wpAny_mono (turn n s hI _) (fun r s₁ h₁ => ?_) fun _ _ h' => h')))
  cases r with
  | none => exact wpAny_pure h₁
  | some v =>
    refine wpAny_bind (wpAny_of_eq (ht v) ?_)
    refine wpAny_bind (wpAny_mono h₁ (fun _ s₂ h₂ => ?_) fun _ _ h' => h')
    exact wpAny_bind (wpAny_bind (wpAny_mono h₂ (fun x s₄ h₄ => wpAny_bind (wpAny_mono h₄ (fun _ s₅ h₅ => wpAny_pure (wpAny_pure ⟨rfl, h₅⟩)) fun _ _ h' => h')) fun _ _ h' => h'))

theorem two_loop0 (I : Nat → Shared → Prop)
    (turn : ∀ n s, I n s → ∀ E : Value → Shared → Prop, wpAny (model prog w) A (pyNext it) (fun r s₁ => match r with
      | none => R (.ok .next) s₁
      | some v => wpAny (model prog w) A (assign t0 env v) (fun _ s₂ => wpAny (model prog w) A (eval i1 env) (fun x s₃ => wpAny (model prog w) A (pyIter x) (fun it' s₄ =>
              codeAny (model prog w) A (.compStart (twoE elt t0 i0 t1 i1 scope pos) 1 it' acc env) (fun r s₅ => ∃ f, r = .ok f ∧ ∃ m, m < n ∧ I m s₅) s₄) E s₃) E s₂) E s₁) E s)
    (n : Nat) (h : I n s) (ht : ∀ v, letOwnedTupleGo t0 it v = pure ()) (hf : ∀ x, foldedSetIterable i1 env x = pure x) : codeAny (model prog w) A (.compLoop (twoE elt t0 i0 t1 i1 scope pos) 0 it acc env) R s := by
  refine codeAny_loop rfl I (fun n s hI => ?_) n h
  show wpAny _ A ((compTurn (twoE elt t0 i0 t1 i1 scope pos) 0 it acc env).onRaise (fun x => do noteFrame x env; theTreesLotGoes x)) _ _ s
  refine wpAny_noted ?_
  rw [two_turn0]
  refine wpAny_bind (wpAny_standAt (wpAny_bind (wpAny_mono (turn n s hI _) (fun r s₁ h₁ => ?_) fun _ _ h' => h')))
  cases r with
  | none => exact wpAny_pure h₁
  | some v =>
    refine wpAny_bind (wpAny_of_eq (ht v) ?_)
    refine wpAny_bind (wpAny_mono h₁ (fun _ s₂ h₂ => ?_) fun _ _ h' => h')
    refine wpAny_bind (wpAny_mono h₂ (fun x s₃ h₃ => wpAny_bind (wpAny_standAt (wpAny_bind (wpAny_of_eq (hf x) (wpAny_bind (wpAny_holding (wpAny_mono h₃ (fun it' s₄ h₄ => ?_) fun _ _ h' => h'))))))) fun _ _ h' => h')
    refine wpAny_bind (wpAny_runOwn (codeAny_mono h₄ fun r s₅ h₅ => ?_))
    obtain ⟨f, rfl, hm⟩ := h₅
    exact wpAny_pure ⟨rfl, hm⟩
end
end Mine
end

section
open PySem PySem.W PyProof.Rows PySem.Calls
set_option maxRecDepth 100000
set_option linter.all false
set_option maxHeartbeats 4000000
namespace Mine
open PySem (eval)

noncomputable abbrev scTold : Scope := { kind := .function, names := [(".0", .local), ("walk", .local), ("name", .local)], isGenerator := false, isCoroutine := false, more := [] }
noncomputable abbrev toldE (p1 p2 p3 p4 p5 pos : Pos) : Expr := twoE (.Name "name" p1) (.Name "walk" p2) (.Name "due" p3) (.Name "name" p4) (.Name "walk" p5) scTold pos

section
variable {prog : Program} {w : World} {A : Around} {env : Env} {S : Addr → Prop}
theorem told_block {p1 p2 p3 p4 p5 pos : Pos} {s₁ : Shared} {l : Addr} {vs : Array Value} {wk : List (List Str)} {E : Value → Shared → Prop} {RR : Value → Addr → Result → Shared → Prop} (ok : OkA 0 A)
    (hl : s₁.heap.IsList l vs) (hx : RDs s₁.heap S vs.toList (wk.map fun ws => .lst (ws.map .str))) (hsz : wk.flatten.length ≤ sizeLine)
    (hRR : ∀ D C s', s₁.heap.get? D = none → s₁.heap.get? C = none → D ≠ C → (∃ m, s'.heap.Ns C m) → (∃ ys, s'.heap.PlainList D ys ∧ RDs s'.heap (fun _ => False) ys.toList (wk.flatten.map .str)) → Kp s₁ s' → RR (.ref D) C (.ok .next) s') :
    wpAny (model prog w) A (pyIter (.ref l)) (fun it s₂ => wpAny (model prog w) A (newList []) (fun acc s₃ => wpAny (model prog w) A (newFunctionEnv scTold env.globals [] [] env.qual none .none (some env)) (fun cenv s₄ =>
      codeAny (model prog w) A (.compStart (toldE p1 p2 p3 p4 p5 pos) 0 it acc { cenv with scope := relabel scTold env }) (RR acc cenv.locals) s₄) E s₃) E s₂) E s₁ := by
  refine wpAny_pyIter_list hl ?_
  refine wpAny_newObj_type (wpAny_newFunctionEnv (show ∀ y ∈ scTold.names, y.2 ≠ .cell by decide) (by intro y hy; simp at hy) (fun h₄ hns₄ hsb₄ => ?_) rfl)
  dsimp only at hns₄ hsb₄ ⊢
  have i0 : s₁.heap.get? s₁.heap.objs.size = none := new_none _
  generalize hI : s₁.heap.objs.size = I at *
  generalize hH2 : s₁.heap.push { cls := .type "list_iterator", data := .fields #[.ref l, .int 0 0] } = H2 at *
  have hH2s : H2.objs.size = I + 1 := by rw [← hH2, Heap.size_push, hI]
  rw [hH2s]
  generalize hH3 : H2.push { cls := .type "list", dict := none, data := .seq ([] : List Value).toArray } = H3 at *
  have hH3s : H3.objs.size = I + 2 := by rw [← hH3, Heap.size_push, hH2s]
  rw [hH3s] at hns₄ hsb₄ ⊢
  have k12 : Le s₁.heap H2 := fun b o e => by rw [← hH2]; exact Heap.get?_push_of_some _ e
  have k23 : Le H2 H3 := fun b o e => by rw [← hH3]; exact Heap.get?_push_of_some _ e
  have k34 : Le H3 h₄ := fun b o e => hsb₄.extBut b o (fun z => ltne (Heap.lt_size e) 0 (z.trans hH3s.symm)) (Heap.get?_push_of_some _ e)
  have k14 : Le s₁.heap h₄ := (k12.trans k23).trans k34
  have hit : h₄.IsListIter I l 0 := ⟨_, k34 _ _ (k23 _ _ (by rw [← hH2, ← hI]; exact Heap.get?_push_size _ (by rfl))), rfl, rfl⟩
  have hacc : h₄.PlainList (I + 1) #[] := ⟨0, k34 _ _ (by rw [← hH3, ← hH2s]; exact Heap.get?_push_size _ (by rfl))⟩
  have f1 : ∀ b, s₁.heap.get? b ≠ none → b < I := fun b q => by
    cases e : s₁.heap.get? b with
    | none => exact absurd e q
    | some o => rw [← hI]; exact Heap.lt_size e
  have fD : s₁.heap.get? (I + 1) = none := size_none (by omega)
  have fC : s₁.heap.get? (I + 2) = none := size_none (by omega)
  have fI : s₁.heap.get? I = none := size_none (by omega)
  let cenv := compEnvC scTold [] (I + 2) env
  have hlen := hx.length
  rw [List.length_map] at hlen
  have hloc : ∀ {x : Str}, scTold.names.lookup x = some .local → cenv.kindOf x = some .local := fun h => lookup_relabel_local h
  have hp : (cenv.scope.kind == .class || (cenv.scope.kind == .module && cenv.locals != cenv.globals)) = false := rfl
  let Inv : Nat → Shared → Prop := fun k s' => ∃ i h' tk m' ys, s' = { s₁ with heap := h', toks := tk } ∧ h'.IsListIter I l i ∧ Le s₁.heap h' ∧ h'.PlainList (I + 1) ys ∧
      RDs h' (fun _ => False) ys.toList ((wk.take i).flatten.map .str) ∧ h'.Ns (I + 2) m' ∧ i ≤ wk.length ∧ k = wk.length + 1 - i
  have loop : ∀ s₃ : Shared, s₃ = { s₁ with heap := h₄, toks := s₁.toks + ([] : List (Str × Value)).length } →
      codeAny (model prog w) A (.compLoop (toldE p1 p2 p3 p4 p5 pos) 0 (.ref I) (.ref (I + 1)) cenv) (RR (.ref (I + 1)) (I + 2)) s₃ := by
    rintro s₃ rfl
    refine two_loop0 Inv ?_ (wk.length + 1) ⟨0, h₄, _, _, #[], rfl, hit, k14, hacc, .nil, hns₄, Nat.zero_le _, rfl⟩ (by intro _; rfl) (by intro _; rfl)
    rintro k s' ⟨i, H, tk, m', ys, rfl, hit', kH, hD', hR', hN', hi, rfl⟩ E'
    have hlH : H.IsList l vs := hl.at fun o e => kH _ o e
    by_cases hlt : i < wk.length
    · have hws : wk[i]? = some wk[i] := List.getElem?_eq_getElem hlt
      generalize hwi : wk[i] = ws at hws
      obtain ⟨v, hv0, rv⟩ := hx.get (i := i) (d := .lst (ws.map .str)) (by rw [List.getElem?_map, hws]; rfl)
      have hv : vs[i]? = some v := by rw [← Array.getElem?_toList]; exact hv0
      cases rv using RD.lstE with
      | lst sa ea ca da ra =>
      rename_i li oi its ni
      refine wpAny_pyNext_list_item hit' hlH hv fun h5 hit5 hs5 => ?_
      have k5 : Le s₁.heap h5 := fun b o e => hs5.extBut b o (ltne (f1 b (some_ne e)) 0) (kH b o e)
      have hN5 : h5.Ns (I + 2) m' := hN'.sameBut hs5 (by show I + 2 ≠ I; omega)
      refine wpAny_assign_Name (wpAny_storeName_local (hloc (by rfl)) hN5 (fun h6 hn6 hs6 => ?_) hp)
      have x6 := hs6.extBut
      have k6 : Le s₁.heap h6 := fun b o e => x6 b o (ltne (f1 b (some_ne e)) 2) (k5 b o e)
      have hD6 : h6.PlainList (I + 1) ys := (hD'.at fun o e => hs5.extBut _ o (Nat.succ_ne_self _) e).at fun o e => x6 _ o (by show I + 1 ≠ I + 2; omega) e
      have hR6 : RDs h6 (fun _ => False) ys.toList ((wk.take i).flatten.map .str) := hR'.mono (fun _ _ s _ => s.elim) fun _ s => s
      have hit6 : h6.IsListIter I l (i + 1) := hit5.at fun o e => x6 _ o (by show I ≠ I + 2; omega) e
      refine wpAny_Name (wpAny_loadName_local rfl (hloc (by rfl)) hn6 (v := .ref li) (if_pos rfl) ?_) (by decide)
      have hli6 : h6.IsList li its := ⟨oi, k6 _ _ ea, ca, ni, da⟩
      have hra6 : RDs h6 S its.toList (ws.map .str) := ra.le k6
      refine wpAny_pyIter_list hli6 ?_
      have hJ0 : h6.get? h6.objs.size = none := new_none _
      have k7 : Le h6 (h6.push { cls := .type "list_iterator", data := .fields #[.ref li, .int 0 0] }) := fun b o e => Heap.get?_push_of_some _ e
      have hitJ : (h6.push { cls := .type "list_iterator", data := .fields #[.ref li, .int 0 0] }).IsListIter h6.objs.size li 0 := ⟨_, Heap.get?_push_size _ rfl, rfl, rfl⟩
      generalize h6.push { cls := .type "list_iterator", data := .fields #[.ref li, .int 0 0] } = h7 at *
      generalize h6.objs.size = J at *
      have nJ : ∀ {b o}, h6.get? b = some o → b ≠ J := fun e z => by rw [z, hJ0] at e; cases e
      obtain ⟨oI, eI, _⟩ := id hit6
      obtain ⟨nD, eD⟩ := id hD6
      obtain ⟨oC, _, _, eC, _⟩ := id hn6
      have jI := nJ eI
      have jD := nJ eD
      have jC : I + 2 ≠ J := nJ eC
      have j1 : ∀ {b o}, s₁.heap.get? b = some o → b ≠ J := fun e => nJ (k6 _ _ e)
      have hlen1 : its.size = ws.length := by rw [← Array.length_toList, ra.length, List.length_map]
      have htk : (wk.take (i + 1)).flatten = (wk.take i).flatten ++ ws := by rw [take_succ hws, List.flatten_append]; simp
      have hfl : ((wk.take i).flatten ++ ws).length ≤ sizeLine := by
        rw [← htk]
        have : wk.flatten = (wk.take (i + 1)).flatten ++ (wk.drop (i + 1)).flatten := by rw [← List.flatten_append, List.take_append_drop]
        rw [this, List.length_append] at hsz
        omega
      have loop1 : ∀ tk, codeAny (model prog w) A (.compLoop (toldE p1 p2 p3 p4 p5 pos) 1 (.ref J) (.ref (I + 1)) cenv) (fun r s₅ => ∃ f, r = .ok f ∧ ∃ m, m < wk.length + 1 - i ∧ Inv m s₅) { s₁ with heap := h7, toks := tk } := by
        intro tk
        refine two_loop1 (fun k s' => ∃ j h' tk m' ys, s' = { s₁ with heap := h', toks := tk } ∧ h'.IsListIter J li j ∧ h'.IsListIter I l (i + 1) ∧ Le s₁.heap h' ∧ h'.PlainList (I + 1) ys ∧
          RDs h' (fun _ => False) ys.toList (((wk.take i).flatten ++ ws.take j).map .str) ∧ h'.Ns (I + 2) m' ∧ j ≤ ws.length ∧ k = ws.length + 1 - j) ?_ (ws.length + 1)
          ⟨0, h7, _, _, ys, rfl, hitJ, hit6.at fun o e => k7 _ o e, k6.trans k7, hD6.at fun o e => k7 _ o e, by rw [List.take_zero, List.append_nil]; exact hR6.le k7, hn6.keeps k7, Nat.zero_le _, rfl⟩ (by intro _; rfl)
        rintro k s' ⟨j, G, tk', m2, zs, rfl, hJ', hI', kG, hDz, hRz, hNz, hj, rfl⟩ E2
        have hliG : G.IsList li its := ⟨oi, kG _ _ ea, ca, ni, da⟩
        by_cases hjl : j < ws.length
        · obtain ⟨y, hy0, ry⟩ := ra.get (i := j) (d := .str ws[j]) (by rw [List.getElem?_map, List.getElem?_eq_getElem hjl]; rfl)
          have hy : its[j]? = some y := by rw [← Array.getElem?_toList]; exact hy0
          refine wpAny_pyNext_list_item hJ' hliG hy fun g5 hJ5 hs5 => ?_
          cases ry using RD.strE with
          | str ty =>
          have y5 := hs5.extBut
          have hNg : g5.Ns (I + 2) m2 := hNz.sameBut hs5 jC
          refine wpAny_assign_Name (wpAny_storeName_local (hloc (by rfl)) hNg (fun g6 hn6 hs6 => ?_) hp)
          have y6 := hs6.extBut
          refine wpAny_Name (wpAny_loadName_local rfl (hloc (by rfl)) hn6 (v := .str ws[j] ty) (if_pos rfl) ?_) (by decide)
          have hD6 : g6.PlainList (I + 1) zs := (hDz.at fun o e => y5 _ o jD e).at fun o e => y6 _ o (by show I + 1 ≠ I + 2; omega) e
          have hzs : zs.size ≤ sizeLine := by
            have e1 := hRz.length
            rw [List.length_map, Array.length_toList, List.length_append, List.length_take] at e1
            rw [List.length_append] at hfl
            omega
          refine wpAny_list_append_plain (hsz := hzs) hD6 fun g7 hl7 hs7 => ?_
          have y7 := hs7.extBut
          have al : ∀ b o, b ≠ J → b ≠ I + 2 → b ≠ I + 1 → G.get? b = some o → g7.get? b = some o := fun b o h1 h2 h3 e => y7 _ _ h3 (y6 _ _ h2 (y5 _ _ h1 e))
          refine ⟨ws.length + 1 - (j + 1), by omega, j + 1, g7, _, _, zs.push (.str ws[j] ty), rfl, ?_, ?_, ?_, hl7, ?_, hn6.sameBut hs7 (by show I + 2 ≠ I + 1; omega), hjl, rfl⟩
          · exact (hJ5.at fun o e => y6 _ o (Ne.symm jC) e).at fun o e => y7 _ o (Ne.symm jD) e
          · exact hI'.at fun o e => al _ o jI (by show I ≠ I + 2; omega) (by show I ≠ I + 1; omega) e
          · exact fun b o e => al b o (j1 e) (ltne (f1 b (some_ne e)) 2) (ltne (f1 b (some_ne e)) 1) (kG _ _ e)
          · rw [take_succ (List.getElem?_eq_getElem hjl), ← List.append_assoc, List.map_append, Array.toList_push]
            exact (hRz.mono (fun _ _ s _ => s.elim) fun _ s => s).append (RDs.one (.str _ _))
        · have hjn : j = ws.length := by omega
          subst hjn
          refine wpAny_pyNext_list_end ok.hd hJ' hliG (by rw [← Array.getElem?_toList]; exact List.getElem?_eq_none (by rw [Array.length_toList, hlen1]; exact Nat.le_refl _)) fun g5 hx5 => ?_
          refine ⟨.next, rfl, wk.length + 1 - (i + 1), by omega, i + 1, g5, tk', m2, zs, rfl, hI'.at fun o e => hx5 _ o jI e, fun b o e => hx5 b o (j1 e) (kG b o e), hDz.at fun o e => hx5 _ o jD e, ?_, hNz.at' fun o e => hx5 _ o jC e, hlt, rfl⟩
          rw [List.take_length] at hRz
          rw [htk]
          exact hRz.mono (fun _ _ s _ => s.elim) fun _ s => s
      exact two_start1 (loop1 _) (wpAny_pyIter_listiter hitJ (loop1 _))
    · have hin : i = wk.length := by omega
      subst hin
      refine wpAny_pyNext_list_end ok.hd hit' hlH (by rw [← Array.getElem?_toList]; exact List.getElem?_eq_none (by omega)) fun h5 hx5 => ?_
      have k5 : Le s₁.heap h5 := fun b o e => hx5 b o (ltne (f1 b (some_ne e)) 0) (kH b o e)
      rw [List.take_length] at hR'
      exact hRR _ _ _ fD fC (Nat.ne_of_lt (Nat.lt_succ_self _)) ⟨m', hN'.at' fun o e => hx5 _ o (by show I + 2 ≠ I; omega) e⟩ ⟨ys, hD'.at fun o e => hx5 _ o (Nat.succ_ne_self _) e, hR'.mono (fun _ _ s _ => s.elim) fun _ s => s⟩ (Kp.of tk k5)
  exact two_start0 (loop _ rfl) (wpAny_pyIter_listiter hit (loop _ rfl))
end
end Mine
end

section
open PySem PySem.W PyProof.Rows PySem.Calls
set_option maxRecDepth 100000
set_option linter.all false
set_option maxHeartbeats 4000000
namespace Mine
open PySem (eval)

noncomputable def fbd : List Stmt := match lw 8 with
  | .For _ _ b _ _ => b
  | _ => []
noncomputable def bs (i : Nat) : Stmt := fbd.getD i (.Pass default)
theorem fbd_eq : fbd = [bs 0, bs 1, bs 2, bs 3] := by rfl
noncomputable abbrev scDue : Scope := { kind := .function, names := [(".0", .local), ("start", .local), ("_law_due", .globalImplicit), ("arrows", .free), ("fold", .free)], isGenerator := false, isCoroutine := false, more := [] }
noncomputable def wssF (ns : List Int) : List (List Str) := [[], [oneF ns], [twoA ns, twoB ns]]
noncomputable def strOf : D → Str
  | .str x => x
  | _ => "go"
theorem strOf_map (ws : List Str) : (ws.map D.str).map strOf = ws := by rw [List.map_map]; exact List.map_id ws
theorem wss_in (ns : List Int) : ∀ ws ∈ wssF ns, ∀ x ∈ ws, x ∈ names8 := fun ws hw x hx => by
  rcases List.mem_cons.mp hw with rfl | hw
  · exact nomatch hx
  rcases List.mem_cons.mp hw with rfl | hw
  · rw [List.mem_singleton.mp hx]; exact one_in ns
  rcases List.mem_cons.mp hw with rfl | hw
  · rcases List.mem_cons.mp hx with rfl | hx
    · exact twoA_in ns
    · rw [List.mem_singleton.mp hx]; exact twoB_in ns
  · exact nomatch hw

section
variable {w : World} {A : Around} {E : Value → Shared → Prop} {s₀ s : Shared} {ps : Array Value} {N : Nat} {ρ : Rho} {Q : Flow → Shared → Prop} {ns : List Int} {v : Value} {fa : Addr} {f : Str → Str}
/-- `due = ..` -/
theorem bs0 (X : LSt w s₀ ps N ρ s) (ok : OkA 3 A) (fo : FoldOk w s.heap fa f) {va vf vo vt : Value} (ha : Has ρ "arrows" va (.lst (arrD (arrF ns)))) (hf : Has ρ "fold" (.ref fa) (.atom (.ref fa))) (h1 : Has ρ "one" vo (.str (oneF ns))) (h2 : Has ρ "two" vt (.lst ([twoA ns, twoB ns].map .str))) (hx : ∀ e ∈ ρ, e.1 ≠ "due")
    (hQ : ∀ v s', LSt w s₀ ps N (("due", v, wkD ((wssF ns).map (dueF f (arrF ns)))) :: ρ) s' → KeepBut (fun b => ¬ Off N b) s.heap s'.heap → Q .next s') : wpAny (model pw w) A (exec (bs 0) (envLaw N)) Q E s := by
  have src : ∀ {p1 p2 p3 p4 p5 p6 : Pos}, SrcL pw w A (envLaw N) s.heap (Off N) (.List [.List [] p1, .List [.Name "one" p2] p3, .Name "two" p4] p5) ((wssF ns).map fun ws => .lst (ws.map .str)) := fun {p1 p2 p3 p4 p5 p6} =>
    EvD.src (EvD.list (.cons (EvD.list .nil (by decide)) (.cons (EvD.list (.cons (X.ev h1) .nil rfl) (by show (1 : Nat) ≤ sizeLine; decide)) (.cons (X.ev h2) .nil rfl) rfl) rfl) (by show (3 : Nat) ≤ sizeLine; decide))
  refine X.assignComp (ρ := ρ) (x := "due") (cl := [(("fold" : Str), N + 3), (("arrows" : Str), N + 2)]) (scope := scDue) (fun d => [(("start" : Str), d)]) (fun _ => true) (fun d => match d with | .lst ds => .lst ((dueF f (arrF ns) (ds.map strOf)).map .str) | d => d) (by rfl) (src (p6 := default)) (ok.weak (by decide)) (by rfl) (by decide) rfl (by decide) (fun d hd => .name) ?_ ?_ (by show (3 : Nat) ≤ sizeLine; decide) (by rfl) hx fun v s' X' k' => hQ v s' ?_ k'
  · intro d hd x e hx
    cases List.mem_singleton.mp hx; rfl
  · intro d hd S' C h' m hS hh hn hb
    obtain ⟨ws, hws, rfl⟩ := List.mem_map.mp hd
    refine ⟨rfl, fun _ => ?_⟩
    obtain ⟨v1, hv, rv⟩ := hb "start" _ (.head _)
    have vA : Var (compEnvC scDue [(("fold" : Str), N + 3), (("arrows" : Str), N + 2)] C (envLaw N)) h' "arrows" va := Var.cell (c := N + 2) rfl (relabel_free rfl (by rfl) rfl) rfl ((X.cell ha (by rfl) (by rfl)).keeps hh)
    have vF : Var (compEnvC scDue [(("fold" : Str), N + 3), (("arrows" : Str), N + 2)] C (envLaw N)) h' "fold" (.ref fa) := Var.cell (c := N + 3) rfl (relabel_free rfl (by rfl) rfl) rfl ((X.cell hf (by rfl) (by rfl)).keeps hh)
    have T' := X.T.mono hh
    have vD : Var (compEnvC scDue [(("fold" : Str), N + 3), (("arrows" : Str), N + 2)] C (envLaw N)) h' "_law_due" (.ref 286) := Var.glob T' rfl (by rfl) rfl (by kernel_rfl)
    refine EvD.congr (EvD.call vD ⟨_, _, T'.K _ _ (K_due w), rfl⟩ (.cons (EvD.name vA ((X.rd ha).up hh hS)) (.cons (EvD.name (Var.loc rfl rfl hn hv) rv) (.cons (EvD.name vF (.atom _)) .nil rfl) rfl) rfl) (by simp) (due_spec T' (fo.mono hh) (arrF ns) ws (arr_in ns) (wss_in ns ws hws)) ok) ?_
    show D.lst _ = D.lst _
    rw [strOf_map]
  · rw [filter_yes, List.map_map] at X'
    have e : (wssF ns).map ((fun d => match d with | D.lst ds => D.lst ((dueF f (arrF ns) (ds.map strOf)).map .str) | d => d) ∘ fun ws => D.lst (ws.map .str)) = ((wssF ns).map (dueF f (arrF ns))).map fun ws => .lst (ws.map .str) := by
      rw [List.map_map]
      refine List.map_congr_left fun ws _ => ?_
      show D.lst _ = D.lst _
      rw [strOf_map]
    rw [e] at X'
    exact X'
/-- `told = ..` -/
theorem bs1 (X : LSt w s₀ ps N ρ s) (ok : OkA 0 A) {vd : Value} {wk : List (List Str)} (hd : Has ρ "due" vd (wkD wk)) (hsz : wk.flatten.length ≤ sizeLine) (hx : ∀ e ∈ ρ, e.1 ≠ "told")
    (hQ : ∀ v s', LSt w s₀ ps N (("told", v, .lst (wk.flatten.map .str)) :: ρ) s' → KeepBut (fun b => ¬ Off N b) s.heap s'.heap → Q .next s') : wpAny (model pw w) A (exec (bs 1) (envLaw N)) Q E s := by
  have rd := X.rd hd
  unfold wkD at rd
  have hv := X.var hd
  cases rd using RD.lstE with
  | lst sa ea ca da ra =>
  rename_i l o vs n
  obtain ⟨m, cm, h1, h2, h3⟩ := X.frm
  have nO : ¬ Off N N := fun z => z.1 rfl
  have nN : N ≠ 154 := fun z => X.new.2.2.2.2 (z ▸ X.new.1)
  show wpAny _ _ (exec (.Assign [.Name "told" _] (toldE _ _ _ _ _ _) _) _) _ _ _
  rw [exec_Assign_Name_used _ _ _ _ (by rfl)]
  refine wpAny_bind (wpAny_standAt (wpAny_bind ?_))
  show wpAny _ A (do let _ ← comprehension (toldE _ _ _ _ _ _) scTold (envLaw N) _ (newList []) false (eval (.Name "due" _) (envLaw N)) (some (assign (.Name "told" _) (envLaw N)))) _ _ s
  refine wpAny_bind (wpAny_mono (wpAny_comprehension_free (use := some (assign (.Name "told" ⟨224, 8, 224, 12⟩) (envLaw N))) (Q := fun _ s' => Q .next s') rfl (by intro _; rfl) (by rfl) rfl (by decide)
    (wpAny_Name (hv _ _ _ _ s (fun _ _ e => e) ?_) (by decide))) (fun _ s' hq => wpAny_pure (wpAny_pure hq)) fun _ _ e => e)
  refine told_block (RR := fun acc C => compPost (model pw w) A E (some (assign (.Name "told" ⟨224, 8, 224, 12⟩) (envLaw N))) (fun _ s' => Q .next s') acc C) ok ⟨o, ea, ca, n, da⟩ ra hsz ?_
  intro D C s' hD hC hDC hn hyy hk
  obtain ⟨m', hn⟩ := hn
  obtain ⟨ys, ⟨n, hpl⟩, hr⟩ := hyy
  have X1 := X.kp hk
  have hN : s.heap.get? N ≠ none := X.alive.1
  have hNC : N ≠ C := fun z => hN (z ▸ hC)
  have oD : Off N D := X.off hD
  have rdT : RD s'.heap (Off N) (.ref D) (.lst (wk.flatten.map .str)) := .lst oD hpl rfl rfl (hr.sub fun _ z => z.elim)
  show wpAny _ A (assign (.Name "told" ⟨224, 8, 224, 12⟩) (envLaw N) (.ref D)) _ _ _
  refine wpAny_assign_Name (X1.storeL (x := "told") (by rfl) hx rdT fun s2 X2 k2 => ?_)
  have oC : Off N C := X.off hC
  obtain ⟨m2, cm2, g1, g2, g3⟩ := X2.frm
  have aC : ∀ {b o}, s.heap.get? b = some o → b ≠ C := fun e z => by rw [z, hC] at e; cases e
  have hn2 : s2.heap.Ns C m' := hn.at' fun o e => k2 _ _ (fun z => z oC) e
  refine ⟨m', hn2, fun h₃ hs₃ => hQ (.ref D) { s2 with heap := h₃ } ?_ fun b o hb e => hs₃.extBut b o (aC e) (k2 _ _ hb (hk.le _ _ e))⟩
  have x3 := hs₃.extBut
  have up : ∀ b o, Off N b → s.heap.get? b = some o → h₃.get? b = some o := fun b o hb e => x3 b o (aC e) (k2 _ _ (fun z => z hb) (hk.le _ _ e))
  obtain ⟨more, ht⟩ := X2.tab
  refine ⟨X.T0, top_kmu (Mu := fun b => b = C) X2.T (fun b o n e => x3 b o n e) ⟨fun a o e z => ?_, ?_, ?_, ?_⟩, ⟨more, ht.nd (ht.1.trans (x3 _ _ (Ne.symm oC.2.2.2.2) ht.1).symm) fun b o hd _ e => x3 b o (fun z => ?_) e⟩, fun b o hb e => x3 _ _ (aC (X.keep b o hb e)) (X2.keep b o hb e), X.new,
    ⟨m2, cm2, g1.sameBut hs₃ hNC, fun n c e => (g2 n c e).sameBut hs₃ (fun z => ?_), fun e he => ⟨(g3 e he).1, ?_⟩⟩, ?_⟩
  · exact aC (X.T.K a o e) z
  · obtain ⟨mb, ⟨o, es, ep, e, r⟩, z⟩ := X.T.b; exact aC e
  · obtain ⟨mg, o, es, ep, e, r⟩ := X.T.g; exact aC e
  · obtain ⟨mc, ⟨o, es, ep, e, r⟩, z⟩ := X.T.nl; exact aC e
  · obtain ⟨o', es, ep, e', hd', _⟩ := hn2
    rw [z, e'] at e; cases e; exact hd _ _ hd'
  · rcases cells_law e with q | q | q
    · exact oC.2.1 (z ▸ q)
    · exact oC.2.2.1 (z ▸ q)
    · exact oC.2.2.2.1 (z ▸ q)
  · rcases List.mem_cons.mp he with rfl | he
    · exact .lst oD (x3 _ _ hDC (k2 _ _ (fun z => z oD) hpl)) rfl rfl (hr.mono (fun _ _ s _ => s.elim) fun _ z => z.elim)
    · exact ((h3 e he).2.dom).mono (fun a o hs e => up a o hs.1 e) fun _ hs => hs.1
  · obtain ⟨h4, t4, g4, e4, hb⟩ := X2.sh
    exact ⟨h₃, t4, g4, by rw [e4], hb⟩
end
end Mine
end

section
open PySem PySem.W PyProof.Rows PySem.Calls
set_option maxRecDepth 100000
set_option linter.all false
set_option maxHeartbeats 4000000
namespace Mine
open PySem (eval)

theorem small_in : ∀ x ∈ names8, Txt.lower x ∈ names8 := by decide +kernel
theorem fo_same (w : World) : ∀ h, TopH w h → FoldOk w h 267 (fun x => x) := fun h T => ⟨⟨_, _, T.K _ _ (K_same w), rfl⟩, fun x _ => same_spec T x, fun x hx => hx⟩
theorem fo_small (w : World) : ∀ h, TopH w h → FoldOk w h 274 Txt.lower := fun h T => ⟨⟨_, _, T.K _ _ (K_small w), rfl⟩, fun x hx => small_spec T x hx, small_in⟩

theorem addKeys_of : ∀ (xs ks : List Str) (x : Str), x ∈ xs.foldl addKey ks → x ∈ ks ∨ x ∈ xs
  | [], _, x, h => .inl h
  | y :: xs, ks, x, h => by
    rcases addKeys_of xs (addKey ks y) x h with h | h
    · unfold addKey at h
      split at h
      · exact .inl h
      · rcases List.mem_append.mp h with h | h
        · exact .inl h
        · rw [List.mem_singleton.mp h]; exact .inr (.head _)
    · exact .inr (.tail _ h)
/-- the answer of a run, in the due words, is good -/
theorem run_good (f : Str → Str) (hf : ∀ x ∈ names8, f x ∈ names8) (arrows : List (Str × Str)) (ha : ∀ x ∈ arrows, x.1 ∈ names8 ∧ x.2 ∈ names8) (wss : List (List Str)) (hw : ∀ xs ∈ wss, ∀ x ∈ xs, x ∈ names8) (told : List Str) (ht : ∀ x ∈ told, x ∈ names8) :
    GoodR (wss.map (dueF f arrows), shelfF f arrows told) := by
  refine ⟨fun ws hws x hx => ?_, fun e he => ?_⟩
  · obtain ⟨xs, hxs, rfl⟩ := List.mem_map.mp hws
    exact (GoodN.due (fun x hx => (ha x hx).2) (hw xs hxs)).mem x hx
  · have h : shelfF f arrows told = (((arrows.map (·.1) ++ told).map f).foldl addKey []).map fun k => (k, vals0 f arrows k) := shelf_eq f arrows _ []
    rw [h] at he
    obtain ⟨k, hk, rfl⟩ := List.mem_map.mp he
    refine ⟨?_, fun x hx => ?_⟩
    · rcases addKeys_of _ _ _ hk with hk | hk
      · exact nomatch hk
      · obtain ⟨y, hy, rfl⟩ := List.mem_map.mp hk
        refine hf y ?_
        rcases List.mem_append.mp hy with hy | hy
        · obtain ⟨z, hz, rfl⟩ := List.mem_map.mp hy; exact (ha z hz).1
        · exact ht y hy
    · obtain ⟨z, hz, rfl⟩ := List.mem_map.mp hx
      exact (ha z (List.mem_filter.mp hz).1).2
noncomputable def toldF (f : Str → Str) (ns : List Int) : List Str := ((wssF ns).map (dueF f (arrF ns))).flatten
theorem told_in (f : Str → Str) (ns : List Int) : ∀ x ∈ toldF f ns, x ∈ names8 := fun x hx => by
  obtain ⟨ws, hws, hx⟩ := List.mem_flatten.mp hx
  obtain ⟨xs, hxs, rfl⟩ := List.mem_map.mp hws
  exact (GoodN.due (fun x hx => (arr_in ns x hx).2) (wss_in ns xs hxs)).mem x hx
theorem told_len (f : Str → Str) (hf : ∀ x ∈ names8, f x ∈ names8) (ns : List Int) : (toldF f ns).length ≤ 24 := by
  have h : ∀ ws ∈ wssF ns, (dueF f (arrF ns) ws).length ≤ 8 := fun ws hws => (GoodN.due (fun x hx => (arr_in ns x hx).2) (wss_in ns ws hws)).len hf
  unfold toldF wssF
  simp only [List.map_cons, List.map_nil, List.flatten_cons, List.flatten_nil, List.length_append, List.length_nil]
  have h1 := h _ (.head _)
  have h2 := h _ (.tail _ (.head _))
  have h3 := h _ (.tail _ (.tail _ (.head _)))
  omega

section
variable {w : World} {A : Around} {E : Value → Shared → Prop} {s₀ s : Shared} {ps : Array Value} {N : Nat} {ρ : Rho} {Q : Flow → Shared → Prop} {ns : List Int} {v : Value} {fa : Addr} {kv : Value} {f : Str → Str} {fz : Bool}
theorem LSt.around (X : LSt w s₀ ps N ρ s) : Around1 w s.heap [envLaw N] := by
  obtain ⟨m, cm, ⟨o, es, ep, e, hd, hr⟩, h2, h3⟩ := X.frm
  have nO : ¬ Off N N := fun z => z.1 rfl
  have ko := X.kout
  have fr : ∀ b, b ∈ framesOf [envLaw N] → b = N := fun b hb => by
    have : framesOf [envLaw N] = [N] := rfl
    rw [this] at hb; exact List.mem_singleton.mp hb
  refine ⟨fun env he => ?_, fun b hb => ?_, ⟨fun a o e hb => ko.1 a o e (fr a hb ▸ nO), fun hb => ko.2.1 (fr _ hb ▸ nO), fun hb => ko.2.2.1 (fr _ hb ▸ nO), fun hb => ko.2.2.2 (fr _ hb ▸ nO)⟩⟩
  · rw [List.mem_singleton.mp he]
    exact ⟨(show ScopeKind.function ≠ ScopeKind.module by decide), N, o, rfl, e, fun vs z => by rw [hd] at z; cases z⟩
  · rw [fr b hb]; exact ⟨m, o, es, ep, e, hd, hr⟩

/-- a call of `_law_run` from the law -/
theorem ev_run (X : LSt w s₀ ps N ρ s) (ok : OkA 117 A) (hfr : A.frames = some [envLaw N]) (fo : ∀ h, TopH w h → FoldOk w h fa f) (ko : KeyOk w kv f) {vl : Value} {Ls : Addr} (hl : Has ρ "lines" vl (.lst ((arrF ns).map fun x => .str (lineOf x.1 x.2)))) (hk : Has ρ "key" kv (.atom kv)) (hf : Has ρ "fold" (.ref fa) (.atom (.ref fa))) (hs : Has ρ "starts" (.ref Ls) (.atom (.ref Ls))) (st : StartsAt N ns s.heap Ls)
    {p0 p1 p2 p3 p4 p5 p6 : Pos} :
    wpAny (model pw w) A (eval (.Call (.Name "_law_run" p0) [.Name "lines" p1, .Name "key" p2, .Name "fold" p3, .Name "starts" p4, .Constant (.bool fz) 0 p5] [] p6) (envLaw N)) (fun r s' => LSt w s₀ ps N ρ s' ∧ KeepBut (fun b => ¬ Off N b) s.heap s'.heap ∧
      RD s'.heap (fun _ => True) r (runD ((wssF ns).map (dueF f (arrF ns)), shelfF f (arrF ns) (if fz = true then [] else toldF f ns)))) E s := by
  have F := fo s.heap X.T
  refine wpAny_Call_NameR (wpAny_Name (Var.glob X.T rfl (by rfl) rfl (by kernel_rfl) (v := .ref 281) _ _ _ _ s (fun _ _ e => e) ?_) (by decide))
  refine callWith_function (o := ⟨.type "function", none, .func (fdOf "_law_run" 15 280), #[]⟩) (fd := fdOf "_law_run" 15 280) (Calls.evalArgs_plain ?_)
  refine Calls.spliced_cons (wpAny_Name (X.var hl _ _ _ _ s (fun _ _ e => e) ?_) (by decide))
  refine Calls.spliced_cons (wpAny_Name (X.var hk _ _ _ _ s (fun _ _ e => e) ?_) (by decide))
  refine Calls.spliced_cons (wpAny_Name (X.var hf _ _ _ _ s (fun _ _ e => e) ?_) (by decide))
  refine Calls.spliced_cons (wpAny_Name (X.var hs _ _ _ _ s (fun _ _ e => e) ?_) (by decide))
  refine Calls.spliced_cons ?_
  rw [eval_Constant]
  refine wpAny_pure (Calls.spliced_nil ⟨⟨X.T.K _ _ (K_run w), rfl⟩, ?_⟩)
  have rl := X.rd hl
  cases rl using RD.lstE with
  | lst sa ea ca da ra =>
  rename_i ll ol lvs nl
  obtain ⟨a, d, t, tx, ty, n, n2, oL, oa, eL, ea2⟩ := st
  obtain ⟨more, ht⟩ := X.tab
  have nN : N ≠ 154 := fun z => X.new.2.2.2.2 (z ▸ X.new.1)
  have hFr : framesOf [envLaw N] = [N] := rfl
  have h90 := arr_len ns
  refine wpAny_call (codeAny_mono (run_call (ps := ps ++ more) (fz := fz) X.T ok hfr X.around fo ko ht (by rw [hFr]; simpa using Ne.symm nN) ⟨ol, ea, ca, nl, da⟩ ra (arr_in ns) (by omega) (vs := #[.none, .str (oneF ns) t, .ref a]) (wss := wssF ns) ⟨_, eL, rfl, _, rfl⟩ oL.2.2.2.2 (by rw [hFr]; simpa using oL.1) rfl (fun i v hv => ?_) (fun ws hws => ⟨wss_in ns ws hws, ?_⟩) (by show (3 : Nat) ≤ 10; decide)) fun r s' h => ?_)
  · match i, hv with
    | 0, hv => cases hv; exact ⟨_, rfl, .none⟩
    | 1, hv => cases hv; exact ⟨_, rfl, .str _ _⟩
    | 2, hv => cases hv; exact ⟨_, rfl, .pair ea2⟩
    | k + 3, hv => exact nomatch hv
  · rcases List.mem_cons.mp hws with rfl | hws
    · decide
    rcases List.mem_cons.mp hws with rfl | hws
    · show (1 : Nat) ≤ 100; decide
    rcases List.mem_cons.mp hws with rfl | hws
    · show (2 : Nat) ≤ 100; decide
    · exact nomatch hws
  · obtain ⟨vr, rfl, R⟩ := h
    obtain ⟨X', k'⟩ := X.run (ps' := ps) R
    refine ⟨X', k', ?_⟩
    have := R.rd
    rw [run_plain f F.mem fz (arrF ns) (fun x hx => (arr_in ns x hx).2) (wssF ns) (wss_in ns)] at this
    exact this

/-- one comparison of a run with what is due -/
theorem law_if (X : LSt w s₀ ps N ρ s) (ok : OkA 117 A) (hfr : A.frames = some [envLaw N]) (fo : ∀ h, TopH w h → FoldOk w h fa f) (ko : KeyOk w kv f) {vl va vd : Value} {Ls : Addr} (hl : Has ρ "lines" vl (.lst ((arrF ns).map fun x => .str (lineOf x.1 x.2)))) (ha : Has ρ "arrows" va (.lst (arrD (arrF ns)))) (hk : Has ρ "key" kv (.atom kv)) (hf : Has ρ "fold" (.ref fa) (.atom (.ref fa))) (hs : Has ρ "starts" (.ref Ls) (.atom (.ref Ls)))
    (hd : Has ρ "due" vd (wkD ((wssF ns).map (dueF f (arrF ns))))) (st : StartsAt N ns s.heap Ls) {tolds : List Str} (htold : tolds = if fz = true then [] else toldF f ns) {et : Expr} (evt : ∀ {s'}, LSt w s₀ ps N ρ s' → EvD pw w A (envLaw N) s'.heap (Off N) et (.lst (tolds.map .str))) (hstar : isStar et = false)
    {p0 p1 p2 p3 p4 p5 p6 q0 q1 q2 q3 q4 q5 q6 : Pos} {th : List Stmt} (hm : behindInMarks .NotEq (.Tuple [.Name "due" q0, .Call (.Name "_law_shelf" q1) [.Name "arrows" q2, .Name "fold" q3, et] [] q4] 0 q5) = false)
    (hQ : ∀ s', LSt w s₀ ps N ρ s' → KeepBut (fun b => ¬ Off N b) s.heap s'.heap → Q .next s') :
    wpAny (model pw w) A (exec (.If (.Compare (.Call (.Name "_law_run" p0) [.Name "lines" p1, .Name "key" p2, .Name "fold" p3, .Name "starts" p4, .Constant (.bool fz) 0 p5] [] p6) [.NotEq] [.Tuple [.Name "due" q0, .Call (.Name "_law_shelf" q1) [.Name "arrows" q2, .Name "fold" q3, et] [] q4] 0 q5] q6) th [] q6) (envLaw N)) Q E s := by
  have htl : tolds.length ≤ 24 ∧ ∀ x ∈ tolds, x ∈ names8 := by
    rw [htold]
    split
    · exact ⟨by decide, fun x hx => nomatch hx⟩
    · exact ⟨told_len f (fo s.heap X.T).mem ns, told_in f ns⟩
  refine wpAny_If (wpAny_isTrue_Compare1 ?_ hm)
  refine wpAny_mono (ev_run X ok hfr fo ko hl hk hf hs st) (fun r s1 h1 => ?_) fun _ _ q => q
  obtain ⟨X1, k1, rr⟩ := h1
  have h90 := arr_len ns
  have ev : EvD pw w A (envLaw N) s1.heap (Off N) (.Tuple [.Name "due" q0, .Call (.Name "_law_shelf" q1) [.Name "arrows" q2, .Name "fold" q3, et] [] q4] 0 q5) (runD ((wssF ns).map (dueF f (arrF ns)), shelfF f (arrF ns) tolds)) :=
    EvD.tuple (.cons (X1.ev hd) (.cons (EvD.call (Var.glob X1.T rfl (by rfl) rfl (by kernel_rfl)) ⟨_, _, X1.T.K _ _ (K_shelf w), rfl⟩ (.cons (X1.ev ha) (.cons (X1.ev hf) (.cons (evt X1) .nil hstar) rfl) rfl) (by simp) (shelf_spec X1.T (fo s1.heap X1.T) (arrF ns) tolds (arr_in ns) htl.2 (by omega) (by omega)) (ok.weak (by decide))) .nil rfl) rfl) (by show (2 : Nat) ≤ sizeLine; decide)
  refine wpAny_mono (ev s1 _ fun _ _ e => e) (fun u s2 h2 => ?_) fun _ _ q => q
  obtain ⟨ru, k2⟩ := h2
  have g : GoodR ((wssF ns).map (dueF f (arrF ns)), shelfF f (arrF ns) tolds) := run_good f (fo s.heap X.T).mem (arrF ns) (arr_in ns) (wssF ns) (wss_in ns) tolds htl.2
  rw [← htold] at rr
  refine wpAny_mono (CmpD.neRun g (by have := ok.un; omega) s2 (fun _ => True) r u _ (rr.le k2.le) (ru.sub fun _ _ => trivial)) (fun b s3 h3 => ?_) fun _ _ q => q
  obtain ⟨rfl, k3⟩ := h3
  refine wpAny_truthy_bool ?_
  show wpAny _ _ (execs [] _) _ _ _
  exact wpAny_execs_nil (hQ s3 ((X1.kp k2).kp k3) fun b o hb e => (k2.tr k3).le b o (k1 b o hb e))
end
end Mine
end

section
open PySem PySem.W PyProof.Rows PySem.Calls
set_option maxRecDepth 100000
set_option linter.all false
set_option maxHeartbeats 4000000
namespace Mine
open PySem (eval)

section
variable {w : World} {A : Around} {E : Value → Shared → Prop} {s₀ s : Shared} {ps : Array Value} {N : Nat} {ρ : Rho} {Q : Flow → Shared → Prop} {ns : List Int} {v : Value} {fa : Addr} {kv : Value} {f : Str → Str}
theorem Has.up {ρ : Rho} {x : Str} {v : Value} {d : D} {e : Str × Value × D} (h : Has ρ x v d) : Has (e :: ρ) x v d := .tail _ h
/-- one turn of the law's loop -/
theorem law_turn (X : LSt w s₀ ps N ρ s) (ok : OkA 117 A) (hfr : A.frames = some [envLaw N]) (fo : ∀ h, TopH w h → FoldOk w h fa f) (ko : KeyOk w kv f) {vl va vo vt : Value} {Ls : Addr} (hl : Has ρ "lines" vl (.lst ((arrF ns).map fun x => .str (lineOf x.1 x.2)))) (ha : Has ρ "arrows" va (.lst (arrD (arrF ns)))) (h1 : Has ρ "one" vo (.str (oneF ns))) (h2 : Has ρ "two" vt (.lst ([twoA ns, twoB ns].map .str))) (hs : Has ρ "starts" (.ref Ls) (.atom (.ref Ls)))
    (st : StartsAt N ns s.heap Ls) (hρ : ∀ e ∈ ρ, e.1 ≠ "key" ∧ e.1 ≠ "fold" ∧ e.1 ≠ "due" ∧ e.1 ≠ "told") {a : Addr} {o : Obj} {n : Nat} (ea : s.heap.get? a = some o) (ca : o.cls = .type "tuple") (da : o.data = .seq #[kv, .ref fa] n) {p q t : Pos} {k : Nat} :
    wpAny (model pw w) A (assign (.Tuple [.Name "key" p, .Name "fold" q] k t) (envLaw N) (.ref a)) (fun _ s₂ => wpAny (model pw w) A (execs fbd (envLaw N)) (fun fl s₃ => fl = .next ∧ LSt w s₀ ps N ρ s₃ ∧ KeepBut (fun b => ¬ Off N b) s.heap s₃.heap) E s₂) E s := by
  refine assign_Tuple_tuple ok.hd ⟨o, ea, ca, n, da⟩ rfl rfl fun h1' hx1 => ?_
  show wpAny _ A (assignInOrder [assign (.Name "key" p) (envLaw N), assign (.Name "fold" q) (envLaw N)] [kv, .ref fa]) _ _ _
  have k1 : Le s.heap h1' := extNew hx1
  have X1 := X.kp (Kp.of' k1)
  refine wpAny_bind (wpAny_holding (wpAny_assign_Name (X1.storeL (d := .atom kv) (by rfl) (fun e he => (hρ e he).1) (.atom _) fun s2 X2 k2 => ?_)))
  refine wpAny_bind (wpAny_holding (wpAny_assign_Name (X2.storeC (d := .atom (.ref fa)) (c := N + 3) (by rfl) (by rfl) (fun e he => ?_) (.atom _) fun s3 X3 k3 => ?_)))
  · rcases List.mem_cons.mp he with rfl | he
    · show ("key" : Str) ≠ "fold"; decide
    · exact (hρ e he).2.1
  refine wpAny_pure ?_
  rw [fbd_eq]
  have nx : ∀ {x : Str}, x ≠ "key" → x ≠ "fold" → (∀ e ∈ ρ, e.1 ≠ x) → ∀ e ∈ (("fold", .ref fa, .atom (.ref fa)) :: ("key", kv, .atom kv) :: ρ : Rho), e.1 ≠ x := fun h1 h2 h e he => by
    rcases List.mem_cons.mp he with rfl | he
    · exact Ne.symm h2
    rcases List.mem_cons.mp he with rfl | he
    · exact Ne.symm h1
    · exact h e he
  have hkk : Has (("fold", .ref fa, .atom (.ref fa)) :: ("key", kv, .atom kv) :: ρ) "key" kv (.atom kv) := .tail _ (.head _)
  have hff : Has (("fold", .ref fa, .atom (.ref fa)) :: ("key", kv, .atom kv) :: ρ) "fold" (.ref fa) (.atom (.ref fa)) := .head _
  refine wpAny_execs_cons (bs0 (vf := .none) (f := f) (ns := ns) X3 (ok.weak (by decide)) (fo _ X3.T) ha.up.up hff h1.up.up h2.up.up (nx (by decide) (by decide) fun e he => (hρ e he).2.2.1) fun vd s4 X4 k4 => ?_)
  have hdd : Has (("due", vd, wkD ((wssF ns).map (dueF f (arrF ns)))) :: ("fold", .ref fa, .atom (.ref fa)) :: ("key", kv, .atom kv) :: ρ) "due" vd (wkD ((wssF ns).map (dueF f (arrF ns)))) := .head _
  have htl := told_len f (fo _ X3.T).mem ns
  have h24 : (24 : Nat) ≤ sizeLine := by decide
  refine wpAny_execs_cons (bs1 X4 (ok.weak (by decide)) hdd (by unfold toldF at htl; omega) (fun e he => ?_) fun vt' s5 X5 k5 => ?_)
  · rcases List.mem_cons.mp he with rfl | he
    · show ("due" : Str) ≠ "told"; decide
    · exact nx (by decide) (by decide) (fun e he => (hρ e he).2.2.2) e he
  have k15 : KeepBut (fun b => ¬ Off N b) s.heap s5.heap := fun b o hb e => k5 b o hb (k4 b o hb (k3 b o hb (k2 b o hb (k1 b o e))))
  have ht : Has (("told", vt', .lst ((toldF f ns).map .str)) :: ("due", vd, wkD ((wssF ns).map (dueF f (arrF ns)))) :: ("fold", .ref fa, .atom (.ref fa)) :: ("key", kv, .atom kv) :: ρ) "told" vt' (.lst ((toldF f ns).map .str)) := .head _
  refine wpAny_execs_cons (law_if (fz := true) (tolds := []) X5 ok hfr fo ko hl.up.up.up.up ha.up.up.up.up hkk.up.up hff.up.up hs.up.up.up.up hdd.up (st.keep k15) rfl (fun X' => EvD.list .nil (by decide)) (by rfl) (by with_unfolding_all rfl) fun s6 X6 k6 => ?_)
  refine wpAny_execs_cons (law_if (fz := false) (tolds := toldF f ns) X6 ok hfr fo ko hl.up.up.up.up ha.up.up.up.up hkk.up.up hff.up.up hs.up.up.up.up hdd.up ((st.keep k15).keep k6) rfl (fun X' => X'.ev ht) (by rfl) (by with_unfolding_all rfl) fun s7 X7 k7 => ?_)
  refine wpAny_execs_nil ⟨rfl, X7.sub fun e he => .tail _ (.tail _ (.tail _ (.tail _ he))), fun b o hb e => k7 b o hb (k6 b o hb (k15 b o hb e))⟩
end
end Mine
end

section
open PySem PySem.W PyProof.Rows PySem.Calls
set_option maxRecDepth 100000
set_option linter.all false
set_option maxHeartbeats 4000000
namespace Mine
open PySem (eval)

theorem tup_two {h : Heap} {S : Addr → Prop} {v : Value} {d1 d2 : D} (r : RD h S v (.tup [d1, d2])) : ∃ a o n v1 v2, v = .ref a ∧ h.get? a = some o ∧ o.cls = .type "tuple" ∧ o.data = .seq #[v1, v2] n ∧ RD h S v1 d1 ∧ RD h S v2 d2 := by
  cases r using RD.tupE with
  | tup sa e c dd ra =>
  rename_i a o vs n
  obtain ⟨l⟩ := vs
  cases ra using RDs.consE with
  | cons r1 r2 =>
  cases r2 using RDs.consE with
  | cons r3 r4 =>
  (first | cases r4 using RD.atomE | cases r4 using RDs.nilE | cases r4 using RD.strE | cases r4 using RD.intE | cases r4 using RD.boolE | cases r4 using RD.noneE | cases r4)
  exact ⟨a, o, n, _, _, rfl, e, c, dd, r1, r3⟩
section
variable {w : World} {A : Around} {E : Value → Shared → Prop} {s₀ s : Shared} {ps : Array Value} {N : Nat} {ρ : Rho} {Q : Flow → Shared → Prop} {ns : List Int} {v : Value} {fa : Addr} {kv : Value} {f : Str → Str}
/-- the loop's iterator is moved -/
theorem LSt.butI (X : LSt w s₀ ps N ρ s) {I l : Addr} {i : Nat} (hit : s.heap.IsListIter I l i) (hI0 : s₀.heap.get? I = none) (oI : Off N I) {h' : Heap} {tk : Nat} (x : Heap.ExtBut I s.heap h') (r : ∀ e ∈ ρ, RD s.heap (fun a => Off N a ∧ a ≠ I) e.2.1 e.2.2) :
    LSt w s₀ ps N ρ { s with heap := h', toks := tk } ∧ ∀ e ∈ ρ, RD h' (fun a => Off N a ∧ a ≠ I) e.2.1 e.2.2 := by
  have aI : ∀ {b o}, s₀.heap.get? b = some o → b ≠ I := fun e z => by rw [z, hI0] at e; cases e
  have r' : ∀ e ∈ ρ, RD h' (fun a => Off N a ∧ a ≠ I) e.2.1 e.2.2 := fun e he => (r e he).but x fun z => z.2 rfl
  obtain ⟨m, cm, h1, h2, h3⟩ := X.frm
  obtain ⟨more, ht⟩ := X.tab
  refine ⟨⟨X.T0, top_kmu (Mu := fun b => b = I) X.T (fun b o n e => x b o n e) ⟨fun a o e => aI (X.T0.K a o e), ?_, ?_, ?_⟩, ⟨more, x _ _ (Ne.symm oI.2.2.2.2) ht.1, ht.2.imp id fun ⟨c, e, c', oc, vs, t, e2, hoc, hd, q⟩ => ⟨c, e, c', oc, vs, t, e2, x _ _ (fun z => ?_) hoc, hd, q⟩⟩, fun b o hb e => x _ _ (aI e) (X.keep b o hb e), X.new,
    ⟨m, cm, h1.at' fun o e => x _ o (Ne.symm oI.1) e, fun n c e => ?_, fun e he => ⟨(h3 e he).1, (r' e he).sub fun _ z => z.1⟩⟩, ?_⟩, r'⟩
  · obtain ⟨mb, ⟨o, es, ep, e, r⟩, z⟩ := X.T0.b; exact aI e
  · obtain ⟨mg, o, es, ep, e, r⟩ := X.T0.g; exact aI e
  · obtain ⟨mc, ⟨o, es, ep, e, r⟩, z⟩ := X.T0.nl; exact aI e
  · obtain ⟨o, eo, hd⟩ := h2 n c e
    refine ⟨o, x _ _ (fun z => ?_) eo, hd⟩
    rcases cells_law e with q | q | q
    · exact oI.2.1 (z ▸ q)
    · exact oI.2.2.1 (z ▸ q)
    · exact oI.2.2.2.1 (z ▸ q)
  · obtain ⟨h4, t4, g4, rfl, hb⟩ := X.sh
    exact ⟨h', tk, g4, rfl, hb⟩
  · obtain ⟨oi, ei, _, di⟩ := hit
    rw [z, ei] at hoc; cases hoc
    rw [di] at hd; cases hd
    exact nomatch q
noncomputable abbrev dsLaw : List D := [.tup [.none, .atom (.ref 267)], .tup [.atom (.ref 274), .atom (.ref 274)]]
/-- the law's loop -/
theorem law_loop (X : LSt w s₀ ps N ρ s) (ok : OkA 117 A) (hfr : A.frames = some [envLaw N]) {vl va vo vt : Value} {Ls : Addr} (hl : Has ρ "lines" vl (.lst ((arrF ns).map fun x => .str (lineOf x.1 x.2)))) (ha : Has ρ "arrows" va (.lst (arrD (arrF ns)))) (h1 : Has ρ "one" vo (.str (oneF ns))) (h2 : Has ρ "two" vt (.lst ([twoA ns, twoB ns].map .str))) (hs : Has ρ "starts" (.ref Ls) (.atom (.ref Ls)))
    (st : StartsAt N ns s.heap Ls) (hρ : ∀ e ∈ ρ, e.1 ≠ "key" ∧ e.1 ≠ "fold" ∧ e.1 ≠ "due" ∧ e.1 ≠ "told") (hQ : ∀ s', LSt w s₀ ps N ρ s' → Q .next s') : wpAny (model pw w) A (exec (lw 8) (envLaw N)) Q E s := by
  have vS : Var (envLaw N) s.heap "_law_same" (.ref 267) := Var.glob X.T rfl (by rfl) rfl (by kernel_rfl)
  have vM : Var (envLaw N) s.heap "_law_small" (.ref 274) := Var.glob X.T rfl (by rfl) rfl (by kernel_rfl)
  have ev : ∀ {p1 p2 p3 p4 p5 p6 : Pos}, EvD pw w A (envLaw N) s.heap (fun _ => False) (.List [.Tuple [.Constant .none 0 p1, .Name "_law_same" p2] 0 p3, .Tuple [.Name "_law_small" p4, .Name "_law_small" p5] 0 p6] ⟨222, 21, 222, 66⟩) (.lst dsLaw) := fun {p1 p2 p3 p4 p5 p6} =>
    EvD.list (.cons (EvD.tuple (.cons EvD.cnone (.cons (EvD.name vS (.atom _)) .nil rfl) rfl) (by show (2 : Nat) ≤ sizeLine; decide)) (.cons (EvD.tuple (.cons (EvD.name vM (.atom _)) (.cons (EvD.name vM (.atom _)) .nil rfl) rfl) (by show (2 : Nat) ≤ sizeLine; decide)) .nil rfl) rfl) (by show (2 : Nat) ≤ sizeLine; decide)
  refine wpAny_For (wpAny_mono (ev s _ fun _ _ e => e) (fun v s1 g1 => ?_) fun _ _ q => q) (fun _ => rfl)
  obtain ⟨r1, k1⟩ := g1
  cases r1 using RD.lstE with
  | lst sa ea ca da ra =>
  rename_i l ol vs nl
  have X1 := X.kp k1
  have st1 := st.keep (N := N) (h' := s1.heap) fun b o _ e => k1.le b o e
  have nl0 : s.heap.get? l = none := sa.elim (fun z => z.elim) id
  have ol' : Off N l := X.off nl0
  have hll : s1.heap.IsList l vs := ⟨ol, ea, ca, nl, da⟩
  refine wpAny_pyIter_list hll ?_
  have nI1 : s1.heap.get? s1.heap.objs.size = none := new_none _
  have k2 : Le s1.heap (s1.heap.push { cls := .type "list_iterator", data := .fields #[.ref l, .int 0 0] }) := fun b o e => Heap.get?_push_of_some _ e
  have hit2 : (s1.heap.push { cls := .type "list_iterator", data := .fields #[.ref l, .int 0 0] }).IsListIter s1.heap.objs.size l 0 := ⟨_, Heap.get?_push_size _ rfl, rfl, rfl⟩
  have oI : Off N s1.heap.objs.size := X1.off nI1
  generalize hs2 : ({ s1 with heap := s1.heap.push { cls := .type "list_iterator", data := .fields #[.ref l, .int 0 0] } } : Shared) = s2
  have k2' : Kp s1 s2 := by rw [← hs2]; exact Kp.of' k2
  have hit2 : s2.heap.IsListIter s1.heap.objs.size l 0 := by rw [← hs2]; exact hit2
  generalize s1.heap.objs.size = I at *
  have nI : ∀ {b o}, s1.heap.get? b = some o → b ≠ I := fun e z => by rw [z, nI1] at e; cases e
  have X2 := X1.kp k2'
  have nl154 : ∀ {b o}, s₀.heap.get? b = some o → b ≠ I := fun {b o} e => by
    by_cases z : b = 154
    · rw [z]; exact Ne.symm oI.2.2.2.2
    · exact nI (X1.keep b o z e)
  have hI0 : s₀.heap.get? I = none := by
    cases q : s₀.heap.get? I with
    | none => rfl
    | some o => exact absurd rfl (nl154 q)
  let S' : Addr → Prop := fun a => Off N a ∧ a ≠ I
  have rρ : ∀ e ∈ ρ, RD s2.heap S' e.2.1 e.2.2 := fun e he => by
    obtain ⟨m, cm, q1, q2, q3⟩ := X1.frm
    refine ((q3 e he).2.dom).mono (fun a o _ e => k2'.le a o e) fun a hs => ⟨hs.1, fun z => hs.2 (z ▸ nI1)⟩
  have rds : RDs s2.heap S' vs.toList dsLaw := ra.dom.mono (fun a o _ e => k2'.le a o e) fun a hs => ⟨hs.1.elim (fun z => z.elim) X.off, fun z => hs.2 (z ▸ nI1)⟩
  obtain ⟨sp, sd, stt, stx, sty, sn, sn2, sL, sA, sE1, sE2⟩ := st1
  have lI : l ≠ I := nI ea
  have hsz : vs.size = 2 := by rw [← Array.length_toList, ra.length]; rfl
  refine codeAny_forLoop_any (fun k s' => ∃ i, k = 3 - i ∧ i ≤ 2 ∧ LSt w s₀ ps N ρ s' ∧ (∀ e ∈ ρ, RD s'.heap S' e.2.1 e.2.2) ∧ s'.heap.IsListIter I l i ∧ s'.heap.get? l = some ol ∧ RDs s'.heap S' vs.toList dsLaw ∧ s'.heap.get? Ls = some ⟨.type "list", none, .seq #[.none, .str (oneF ns) stt, .ref sp] sn2, #[]⟩ ∧ s'.heap.get? sp = some ⟨.ref 257, some sd, .seq #[.str (twoA ns) stx, .str (twoB ns) sty] sn, #[]⟩) ?_ 3
    ⟨0, rfl, Nat.zero_le _, X2, rρ, hit2, k2'.le _ _ ea, rds, k2'.le _ _ sE1, k2'.le _ _ sE2⟩
  rintro k s3 ⟨i, rfl, hi, X3, r3, hit3, el3, rd3, e13, e23⟩
  have hl3 : s3.heap.IsList l vs := ⟨ol, el3, ca, nl, da⟩
  cases hx : vs[i]? with
  | none => exact wpAny_pyNext_list_end ok.hd hit3 hl3 hx fun h4 hx4 => wpAny_execs_nil (hQ _ (X3.butI (tk := s3.toks) hit3 hI0 oI hx4 r3).1)
  | some v =>
    have hlt : i < 2 := by rw [← hsz]; exact (Array.getElem?_eq_some_iff.mp hx).1
    refine wpAny_pyNext_list_item hit3 hl3 hx fun h4 hit4 hsb => ?_
    have x4 := hsb.extBut
    obtain ⟨X4, r4⟩ := X3.butI (tk := s3.toks) hit3 hI0 oI x4 r3
    have rd4 : RDs h4 S' vs.toList dsLaw := rd3.but x4 fun z => z.2 rfl
    obtain ⟨d, hd, rv⟩ := rd4.get' (i := i) (v := v) (by rw [Array.getElem?_toList]; exact hx)
    have st4 : StartsAt N ns h4 Ls := ⟨sp, sd, stt, stx, sty, sn, sn2, sL, sA, x4 _ _ (nI sE1) e13, x4 _ _ (nI sE2) e23⟩
    have turn : ∃ kv fa f, KeyOk w kv f ∧ (∀ h, TopH w h → FoldOk w h fa f) ∧ ∃ a o n, v = .ref a ∧ h4.get? a = some o ∧ o.cls = .type "tuple" ∧ o.data = .seq #[kv, .ref fa] n := by
      match i, hlt, hd with
      | 0, _, hd =>
        cases hd
        obtain ⟨a, o, n, v1, v2, rfl, e1, e2, e3, q1, q2⟩ := tup_two rv
        cases q1
        cases q2
        exact ⟨.none, 267, fun x => x, .inl ⟨rfl, rfl⟩, fo_same w, a, o, n, rfl, e1, e2, e3⟩
      | 1, _, hd =>
        cases hd
        obtain ⟨a, o, n, v1, v2, rfl, e1, e2, e3, q1, q2⟩ := tup_two rv
        cases q1
        cases q2
        exact ⟨.ref 274, 274, Txt.lower, .inr ⟨274, rfl, fo_small w⟩, fo_small w, a, o, n, rfl, e1, e2, e3⟩
    obtain ⟨kv, fa, f, ko, fo, a, o, n, rfl, e1, e2, e3⟩ := turn
    refine wpAny_letOwnedTupleGo_listiter hit4 ?_
    refine wpAny_mono (law_turn (s := { s3 with heap := h4 }) X4 ok hfr fo ko hl ha h1 h2 hs st4 hρ e1 e2 e3) (fun _ s5 q5 => wpAny_mono q5 (fun fl s6 q6 => ?_) fun _ _ q => q) fun _ _ q => q
    obtain ⟨rfl, X6, k6⟩ := q6
    have kk : ∀ b o, Off N b → h4.get? b = some o → s6.heap.get? b = some o := fun b o hb e => k6 b o (fun z => z hb) e
    refine ⟨3 - (i + 1), by omega, i + 1, rfl, hlt, X6, fun e he => (r4 e he).mono (fun a o hs e => kk a o hs.1 e) fun _ z => z, hit4.at fun o e => kk _ o oI e, kk _ _ ol' (x4 _ _ lI el3), rd4.mono (fun a o hs e => kk a o hs.1 e) fun _ z => z, kk _ _ sL (x4 _ _ (nI sE1) e13), kk _ _ sA (x4 _ _ (nI sE2) e23)⟩
end
end Mine
end

section
open PySem PySem.W PyProof.Rows PySem.Calls
set_option maxRecDepth 100000
set_option linter.all false
set_option maxHeartbeats 4000000
namespace Mine
open PySem (eval)

theorem K_law (w : World) : (K01 w).lookup 296 = some ⟨.type "function", none, .func fdLaw, #[]⟩ := by kernel_rfl
theorem ints_rd {h : Heap} {S : Addr → Prop} : ∀ {vs : List Value} {ns : List Int}, IntsAre vs ns → RDs h S vs (ns.map .int)
  | _, _, .nil => .nil
  | _, _, .cons n t r => .cons (.int n t) (ints_rd r)

theorem neOf {ρ : Rho} {x : Str} (h : ρ.all (fun e => e.1 != x) = true) : ∀ e ∈ ρ, e.1 ≠ x := fun e he z => by
  have := List.all_eq_true.mp h e he
  rw [z] at this
  simp at this
/-- the law: it ends and answers True -/
theorem law_call {w : World} {A : Around} {s : Shared} (T : TopH w s.heap) (ok : OkA 118 A) (hfr : A.frames = some []) {ps : Array Value} (tb : TabAt s.heap ps) (hb : AllBare s.gens) {l : Addr} {vs : Array Value} {ns : List Int} (hl : s.heap.IsList l vs) (hr : IntsAre vs.toList ns) (hlen : ns.length ≤ sizeLine) :
    codeAny (model pw w) A (.call (.ref 296) ⟨[.ref l], []⟩) (fun r s' => r = .ok (.ret (.bool true)) ∧ (∃ more, TabAt s'.heap (ps ++ more)) ∧ (∀ b o, b ≠ 154 → s.heap.get? b = some o → s'.heap.get? b = some o) ∧ ∃ h' tk gens', s' = { s with heap := h', toks := tk, gens := gens' } ∧ AllBare gens') s := by
  refine call_fn (binds := [("script", .ref l)]) _ ok.room T (K_law w) 295 rfl (by kernel_rfl) rfl (by rfl) rfl (fun y hy => ?_) fun s₁ X k => ?_
  · rcases List.mem_singleton.mp hy with rfl; exact .inl (by rfl)
  have F := Frm.ofCall X
  have okD : OkA 117 (A.deeper (envLaw s.heap.objs.size)) := ok.deeper _
  have hfrD : (A.deeper (envLaw s.heap.objs.size)).frames = some [envLaw s.heap.objs.size] := by
    unfold Around.deeper
    simp [hfr]
  show wpAny _ (A.deeper (envLaw s.heap.objs.size)) (execs (fbody (stOf 18)) (envLaw s.heap.objs.size)) _ _ _
  rw [law_body]
  clear X
  generalize A.deeper (envLaw s.heap.objs.size) = A1 at *
  have nN : s.heap.get? s.heap.objs.size = none := new_none _
  have F : Frm s (envLaw s.heap.objs.size) (bindL (envLaw s.heap.objs.size).kindOf [("script", .ref l)] fun _ => none) (bindC (envLaw s.heap.objs.size).kindOf [("script", .ref l)] fun _ => none) s₁ := F
  generalize s.heap.objs.size = N at *
  have nC : ∀ {n : Str} {c : Addr}, (envLaw N).cells.lookup n = some c → s.heap.get? c = none := fun e => (F.newC _ _ e).1
  obtain ⟨ol, el, cl, nl, dl⟩ := id hl
  have offl : Off N l := ⟨fun z => (by rw [z, nN] at el; cases el), fun z => (by rw [z, nC (n := "names") (by rfl)] at el; cases el), fun z => (by rw [z, nC (n := "arrows") (by rfl)] at el; cases el), fun z => (by rw [z, nC (n := "fold") (by rfl)] at el; cases el), fun z => (by rw [z, tb.1] at el; cases el; cases cl)⟩
  have X0 : LSt w s ps N [("script", .ref l, .lst (ns.map .int))] s₁ := by
    refine ⟨T, T.mono k.le, ⟨#[], by rw [Array.append_empty]; exact tb.keep k.le⟩, fun b o _ e => k.le _ _ e, ⟨nN, nC (n := "names") (by rfl), nC (n := "arrows") (by rfl), nC (n := "fold") (by rfl), some_ne tb.1⟩, ⟨_, _, F.ns, F.cell, fun e he => ?_⟩, ?_⟩
    · rcases List.mem_singleton.mp he with rfl
      exact ⟨.inl ⟨by rfl, by rfl⟩, .lst offl (k.le _ _ el) cl dl (ints_rd hr)⟩
    · obtain ⟨h', tk, e⟩ := F.eq
      exact ⟨h', tk, s.gens, e, hb⟩
  refine wpAny_execs_cons (lw0 X0 (neOf (by rfl)) fun v0 s2 X1 _ => ?_)
  refine wpAny_execs_cons (lw1 (ns := ns) X1 (okD.weak (by decide)) (.tail _ (.head _)) hlen (neOf (by rfl)) fun v1 s3 X2 _ => ?_)
  refine wpAny_execs_cons (lw2 (ns := ns) X2 (okD.weak (by decide)) (.tail _ (.head _)) (.head _) (neOf (by rfl)) fun v2 s4 X3 _ => ?_)
  refine wpAny_execs_cons (lw3 (ns := ns) X3 (okD.weak (by decide)) (.head _) (neOf (by rfl)) fun v3 s5 X4 _ => ?_)
  refine wpAny_execs_cons (lw4 (ns := ns) X4 (okD.weak (by decide)) (.tail _ (.tail _ (.head _))) (neOf (by rfl)) fun v4 s6 X5 _ => ?_)
  refine wpAny_execs_cons (lw5 (ns := ns) X5 (.tail _ (.tail _ (.tail _ (.tail _ (.head _))))) (.head _) (neOf (by rfl)) fun v5 s7 X6 _ => ?_)
  refine wpAny_execs_cons (lw6 (ns := ns) X6 (.tail _ (.tail _ (.tail _ (.tail _ (.tail _ (.head _)))))) (.tail _ (.head _)) (neOf (by rfl)) fun v6 s8 X7 _ => ?_)
  refine wpAny_execs_cons (lw7 (ns := ns) X7 (okD.weak (by decide)) (.tail _ (.head _)) (.head _) (neOf (by rfl)) fun Ls s9 X8 st => ?_)
  refine wpAny_execs_cons (law_loop (ns := ns) X8 okD hfrD (.tail _ (.tail _ (.tail _ (.tail _ (.head _))))) (.tail _ (.tail _ (.tail _ (.tail _ (.tail _ (.head _)))))) (.tail _ (.tail _ (.head _))) (.tail _ (.head _)) (.head _) st (fun e he => ⟨neOf (by rfl) e he, neOf (by rfl) e he, neOf (by rfl) e he, neOf (by rfl) e he⟩) fun s10 X9 => ?_)
  refine wpAny_execs_cons (wpAny_Return_some ?_)
  rw [eval_Constant]
  exact wpAny_pure ⟨rfl, X9.tab, X9.keep, X9.sh⟩
end Mine
end

section
open PySem PySem.W PyProof.Rows PySem.Calls
set_option maxRecDepth 100000
set_option linter.all false
set_option maxHeartbeats 4000000
namespace Mine
open PySem (eval)

theorem kf_heap {P : Params} {a : Addr} {o : Obj} (h0 : (KF P).lookup 154 = none) (e : (KF P).lookup a = some o) : (heapL P).lookup a = some o := by
  have ha : (a == 154) = false := by
    cases q : (a == 154) with
    | false => rfl
    | true => rw [beq_iff_eq.mp q, h0] at e; cases e
  show List.lookup a ((154, ko_154 P) :: KF P) = some o
  simp only [List.lookup, ha]
  exact e
theorem top_of {w : World} {h : Heap} {mg mb : Str → Option Value} (KX : (heapL w.params).In h) (g : h.Ns mainGlobals mg) (b : h.Ns builtinsNs mb) (bb : ∀ x : Str, x ≠ "__name__" → mb x = bootBuiltins x) (nl : h.NoLimit) : TopH w h :=
  ⟨fun a o e => KX a o (kf_heap (K_no154 w) e), ⟨mg, g⟩, ⟨mb, b, bb⟩, nl⟩
theorem K154 (P : Params) : (heapL P).lookup 154 = some (tabObj #[]) := by kernel_rfl
theorem tab_of {w : World} {h : Heap} (KX : (heapL w.params).In h) : TabAt h #[] := ⟨KX _ _ (K154 _), .inl rfl⟩

theorem fin_call {w : World} {s₁ : Shared} {c : ClaimW} {cl : Str → Option Addr} {mean : ExcName → Option Value} {args : List WData} {l : Addr} {vs : List Value} {ns : List Int} (T : TopH w s₁.heap) (tb : TabAt s₁.heap #[]) (hb : AllBare s₁.gens) (hl : s₁.heap.IsList l vs.toArray) (hi : IntsAre vs ns) (hlen : ns.length ≤ sizeLine)
    (hr : ∀ cls, c.raises args cls = false) (hp : c.post args (.bool true) args = true) :
    wpAny (model pw w) callerA (PySem.call (.ref 296) [.ref l]) (fun v s' => GoodWG c cl mean args s₁ (.ok (.ret v)) s') (fun e s' => GoodWG c cl mean args s₁ (.error e) s') s₁ := by
  have ok : OkA 118 callerA := ⟨rfl, by decide, by decide⟩
  refine wpAny_call (codeAny_mono (law_call T ok rfl tb hb hl hi hlen) fun r s' h => ?_)
  obtain ⟨rfl, ⟨more, ht⟩, hk, h', tk, gens', rfl, hb'⟩ := h
  have C : CodeHd s₁.heap 158 154 := code158 T.K (by kernel_rfl)
  obtain ⟨o, vs, _, _, _, _, _, _, _, e, ec, ed, e11, _⟩ := C
  have old : OldK s₁.heap h' := OldK.step_table (c₀ := 158) (c := 158) (P := 154) (ps₀ := #[]) (ps := #[]) (more := more) (.refl _) ⟨⟨o, vs, e, ec, ed, e11⟩, tb.1⟩ ⟨⟨o, vs, e, ec, ed, e11⟩, tb.1⟩ ⟨⟨o, vs, hk _ _ (by decide) e, ec, ed, e11⟩, ht.1⟩ (fun b o hb e => hk b o hb e) (by decide)
  exact ⟨.inl ⟨_, _, [], rfl, hr, ReadsW.bool true, hp, fun _ => ⟨List.nodup_nil, fun _ hm => (nomatch hm)⟩⟩, old, rfl, hb'⟩
end Mine
end

section
open PySem PySem.W PyProof.Rows PySem.Spec PySem.Calls PySem.W.X
set_option maxRecDepth 1000000 in
set_option maxHeartbeats 0 in
theorem Mine.saidL : OpenLaw.wellSaid PySem.Challenge.rw_il0121_01 = true := by
  kernel_rfl
set_option maxRecDepth 100000 in
set_option maxHeartbeats 8000000 in
theorem PySem.Challenge.cw_il0121_01_holds : PySem.Challenge.rw_il0121_01.Holds := by
  w_on
  refine holds_law Mine.saidL fun said => ?_
  refine holds_open (q := Mine.qv) (loose := Mine.looseL) (Xt := fun s => xlAt Mine.qv [] s && recOk (RowW.records PySem.Challenge.rw_il0121_01.row.toRowW) s) (XP := XL Mine.qv []) (Yf := Hook.obs Mine.hk) (Ya := Hook.val Mine.hk) (YP := Hook.says Mine.hk) (N := 5200) Mine.left1 (Hook.of Mine.hk) (Hook.keeps Mine.hk) (fun s e => xl_of s (Bool.and_eq_true_iff.mp e).1) XL.keeps (by rfl) (by rfl) (by rfl) (fun s e => recFacts_of (Bool.and_eq_true_iff.mp e).2) (by rfl) (by assumption) (by decide +kernel) ⟨rfl, rfl, rfl, rfl, rfl, by decide +kernel⟩ ?hw ?hc
  case hw => w_witness2
  intro w s₀ s₁ mg mb G Y fa o pm cd doc dV kV ho hd hcd hD hmg hg args vals as hpre hlay hrd hwl hlo
  have KX := kIn_of Y
  have gb : AllBare s₁.gens := .of_eq hg
  refine Ground.open G ?_
  intro T B D TE TW
  have TT := Mine.top_of KX T.g T.b T.builtins T.nolimit
  have TB := Mine.tab_of KX
  wrow_args hpre hlay hrd hwl hlo
  all_goals (
    x_fa T KX hmg)
  refine Mine.fin_call TT TB gb (by assumption) (by assumption) ?_ (fun _ => rfl) ?_
  · rename_i hc _
    rw [PySem.sizeLine_eq]
    omega
  · first | rfl | wrow_post
end

