import PyProof.Rows.All
import PyProof.CollectIter
import PyProof.ListCopy
import KE.KLam
import KE.KStar
import KE.KSuperObj
import KE.KIsAll
import Wide.FinOn
import OpenK.AllK
import Wide.All
import Lean
import PySem.Challenge.RW_il0121_02
set_option Elab.async false
set_option linter.all false
set_option maxRecDepth 100000
set_option maxHeartbeats 4000000
section
open PySem PySem.W PyProof.Rows PySem.Calls
namespace Mine
noncomputable abbrev pw := PySem.Challenge.pw_il0121_02
noncomputable def stOf (n : Nat) : Stmt := (PySem.Challenge.pw_il0121_02.main.body[n]?).getD (.Pass default)
noncomputable def fbody : Stmt → List Stmt
  | .FunctionDef _ _ b _ _ _ _ _ _ _ => b
  | _ => []
noncomputable def fscope : Stmt → Scope
  | .FunctionDef _ _ _ _ _ _ s _ _ _ => s
  | _ => { kind := .function, names := [], isGenerator := false, isCoroutine := false }
noncomputable def fparams : Stmt → Arguments
  | .FunctionDef _ a _ _ _ _ _ _ _ _ => a
  | _ => ⟨[], [], none, [], [], none, []⟩
noncomputable def cbody : Stmt → List Stmt
  | .ClassDef _ _ _ b .. => b
  | _ => []
noncomputable def mst (c k : Nat) : Stmt := ((cbody (stOf c))[k]?).getD (.Pass default)
noncomputable def sN (l : List Nat) : Str := ⟨⟨l⟩⟩
noncomputable abbrev de (P : Params) (x : Str) (n : Tok) (v : Value) : DictEntry := DictEntry.mk (PyData.keyHash P x) (.str x n) v
noncomputable def ko_0 (P : Params) : Obj := (.mk (.type "dict") none (.dict #[(DictEntry.mk (PyData.keyHash P (sN [95,95,110,97,109,101,95,95])) (.str (sN [95,95,110,97,109,101,95,95]) 1) (.str (sN [98,117,105,108,116,105,110,115]) 160)), (DictEntry.mk (PyData.keyHash P (sN [95,95,100,111,99,95,95])) (.str (sN [95,95,100,111,99,95,95]) 2) (.builtin "builtins.__doc__:str#opaque")), (DictEntry.mk (PyData.keyHash P (sN [95,95,112,97,99,107,97,103,101,95,95])) (.str (sN [95,95,112,97,99,107,97,103,101,95,95]) 3) (.builtin "builtins.__package__:str#opaque")), (DictEntry.mk (PyData.keyHash P (sN [95,95,108,111,97,100,101,114,95,95])) (.str (sN [95,95,108,111,97,100,101,114,95,95]) 4) (.builtin "builtins.__loader__:shared#opaque")), (DictEntry.mk (PyData.keyHash P (sN [95,95,115,112,101,99,95,95])) (.str (sN [95,95,115,112,101,99,95,95]) 5) (.builtin "builtins.__spec__#opaque")), (DictEntry.mk (PyData.keyHash P (sN [95,95,98,117,105,108,100,95,99,108,97,115,115,95,95])) (.str (sN [95,95,98,117,105,108,100,95,99,108,97,115,115,95,95]) 6) (.builtin "__build_class__")), (DictEntry.mk (PyData.keyHash P (sN [95,95,105,109,112,111,114,116,95,95])) (.str (sN [95,95,105,109,112,111,114,116,95,95]) 7) (.builtin "__import__")), (DictEntry.mk (PyData.keyHash P (sN [97,98,115])) (.str (sN [97,98,115]) 8) (.builtin "abs")), (DictEntry.mk (PyData.keyHash P (sN [97,108,108])) (.str (sN [97,108,108]) 9) (.builtin "all")), (DictEntry.mk (PyData.keyHash P (sN [97,110,121])) (.str (sN [97,110,121]) 10) (.builtin "any")), (DictEntry.mk (PyData.keyHash P (sN [97,115,99,105,105])) (.str (sN [97,115,99,105,105]) 11) (.builtin "ascii")), (DictEntry.mk (PyData.keyHash P (sN [98,105,110])) (.str (sN [98,105,110]) 12) (.builtin "bin")), (DictEntry.mk (PyData.keyHash P (sN [98,114,101,97,107,112,111,105,110,116])) (.str (sN [98,114,101,97,107,112,111,105,110,116]) 13) (.builtin "breakpoint")), (DictEntry.mk (PyData.keyHash P (sN [99,97,108,108,97,98,108,101])) (.str (sN [99,97,108,108,97,98,108,101]) 14) (.builtin "callable")), (DictEntry.mk (PyData.keyHash P (sN [99,104,114])) (.str (sN [99,104,114]) 15) (.builtin "chr")), (DictEntry.mk (PyData.keyHash P (sN [99,111,109,112,105,108,101])) (.str (sN [99,111,109,112,105,108,101]) 16) (.builtin "compile")), (DictEntry.mk (PyData.keyHash P (sN [100,101,108,97,116,116,114])) (.str (sN [100,101,108,97,116,116,114]) 17) (.builtin "delattr")), (DictEntry.mk (PyData.keyHash P (sN [100,105,114])) (.str (sN [100,105,114]) 18) (.builtin "dir")), (DictEntry.mk (PyData.keyHash P (sN [100,105,118,109,111,100])) (.str (sN [100,105,118,109,111,100]) 19) (.builtin "divmod")), (DictEntry.mk (PyData.keyHash P (sN [101,118,97,108])) (.str (sN [101,118,97,108]) 20) (.builtin "eval")), (DictEntry.mk (PyData.keyHash P (sN [101,120,101,99])) (.str (sN [101,120,101,99]) 21) (.builtin "exec")), (DictEntry.mk (PyData.keyHash P (sN [102,111,114,109,97,116])) (.str (sN [102,111,114,109,97,116]) 22) (.builtin "format")), (DictEntry.mk (PyData.keyHash P (sN [103,101,116,97,116,116,114])) (.str (sN [103,101,116,97,116,116,114]) 23) (.builtin "getattr")), (DictEntry.mk (PyData.keyHash P (sN [103,108,111,98,97,108,115])) (.str (sN [103,108,111,98,97,108,115]) 24) (.builtin "globals")), (DictEntry.mk (PyData.keyHash P (sN [104,97,115,97,116,116,114])) (.str (sN [104,97,115,97,116,116,114]) 25) (.builtin "hasattr")), (DictEntry.mk (PyData.keyHash P (sN [104,97,115,104])) (.str (sN [104,97,115,104]) 26) (.builtin "hash")), (DictEntry.mk (PyData.keyHash P (sN [104,101,120])) (.str (sN [104,101,120]) 27) (.builtin "hex")), (DictEntry.mk (PyData.keyHash P (sN [105,100])) (.str (sN [105,100]) 28) (.builtin "id")), (DictEntry.mk (PyData.keyHash P (sN [105,110,112,117,116])) (.str (sN [105,110,112,117,116]) 29) (.builtin "input")), (DictEntry.mk (PyData.keyHash P (sN [105,115,105,110,115,116,97,110,99,101])) (.str (sN [105,115,105,110,115,116,97,110,99,101]) 30) (.builtin "isinstance")), (DictEntry.mk (PyData.keyHash P (sN [105,115,115,117,98,99,108,97,115,115])) (.str (sN [105,115,115,117,98,99,108,97,115,115]) 31) (.builtin "issubclass")), (DictEntry.mk (PyData.keyHash P (sN [105,116,101,114])) (.str (sN [105,116,101,114]) 32) (.builtin "iter")), (DictEntry.mk (PyData.keyHash P (sN [97,105,116,101,114])) (.str (sN [97,105,116,101,114]) 33) (.builtin "aiter")), (DictEntry.mk (PyData.keyHash P (sN [108,101,110])) (.str (sN [108,101,110]) 34) (.builtin "len")), (DictEntry.mk (PyData.keyHash P (sN [108,111,99,97,108,115])) (.str (sN [108,111,99,97,108,115]) 35) (.builtin "locals")), (DictEntry.mk (PyData.keyHash P (sN [109,97,120])) (.str (sN [109,97,120]) 36) (.builtin "max")), (DictEntry.mk (PyData.keyHash P (sN [109,105,110])) (.str (sN [109,105,110]) 37) (.builtin "min")), (DictEntry.mk (PyData.keyHash P (sN [110,101,120,116])) (.str (sN [110,101,120,116]) 38) (.builtin "next")), (DictEntry.mk (PyData.keyHash P (sN [97,110,101,120,116])) (.str (sN [97,110,101,120,116]) 39) (.builtin "anext")), (DictEntry.mk (PyData.keyHash P (sN [111,99,116])) (.str (sN [111,99,116]) 40) (.builtin "oct")), (DictEntry.mk (PyData.keyHash P (sN [111,114,100])) (.str (sN [111,114,100]) 41) (.builtin "ord")), (DictEntry.mk (PyData.keyHash P (sN [112,111,119])) (.str (sN [112,111,119]) 42) (.builtin "pow")), (DictEntry.mk (PyData.keyHash P (sN [112,114,105,110,116])) (.str (sN [112,114,105,110,116]) 43) (.builtin "print")), (DictEntry.mk (PyData.keyHash P (sN [114,101,112,114])) (.str (sN [114,101,112,114]) 44) (.builtin "repr")), (DictEntry.mk (PyData.keyHash P (sN [114,111,117,110,100])) (.str (sN [114,111,117,110,100]) 45) (.builtin "round")), (DictEntry.mk (PyData.keyHash P (sN [115,101,116,97,116,116,114])) (.str (sN [115,101,116,97,116,116,114]) 46) (.builtin "setattr")), (DictEntry.mk (PyData.keyHash P (sN [115,111,114,116,101,100])) (.str (sN [115,111,114,116,101,100]) 47) (.builtin "sorted")), (DictEntry.mk (PyData.keyHash P (sN [115,117,109])) (.str (sN [115,117,109]) 48) (.builtin "sum")), (DictEntry.mk (PyData.keyHash P (sN [118,97,114,115])) (.str (sN [118,97,114,115]) 49) (.builtin "vars")), (DictEntry.mk (PyData.keyHash P (sN [78,111,110,101])) (.str (sN [78,111,110,101]) 50) .none), (DictEntry.mk (PyData.keyHash P (sN [69,108,108,105,112,115,105,115])) (.str (sN [69,108,108,105,112,115,105,115]) 51) .ellipsis), (DictEntry.mk (PyData.keyHash P (sN [78,111,116,73,109,112,108,101,109,101,110,116,101,100])) (.str (sN [78,111,116,73,109,112,108,101,109,101,110,116,101,100]) 52) .notImplemented), (DictEntry.mk (PyData.keyHash P (sN [70,97,108,115,101])) (.str (sN [70,97,108,115,101]) 53) (.bool false)), (DictEntry.mk (PyData.keyHash P (sN [84,114,117,101])) (.str (sN [84,114,117,101]) 54) (.bool true)), (DictEntry.mk (PyData.keyHash P (sN [98,111,111,108])) (.str (sN [98,111,111,108]) 55) (.type "bool")), (DictEntry.mk (PyData.keyHash P (sN [109,101,109,111,114,121,118,105,101,119])) (.str (sN [109,101,109,111,114,121,118,105,101,119]) 56) (.type "memoryview")), (DictEntry.mk (PyData.keyHash P (sN [98,121,116,101,97,114,114,97,121])) (.str (sN [98,121,116,101,97,114,114,97,121]) 57) (.type "bytearray")), (DictEntry.mk (PyData.keyHash P (sN [98,121,116,101,115])) (.str (sN [98,121,116,101,115]) 58) (.type "bytes")), (DictEntry.mk (PyData.keyHash P (sN [99,108,97,115,115,109,101,116,104,111,100])) (.str (sN [99,108,97,115,115,109,101,116,104,111,100]) 59) (.type "classmethod")), (DictEntry.mk (PyData.keyHash P (sN [99,111,109,112,108,101,120])) (.str (sN [99,111,109,112,108,101,120]) 60) (.type "complex")), (DictEntry.mk (PyData.keyHash P (sN [100,105,99,116])) (.str (sN [100,105,99,116]) 61) (.type "dict")), (DictEntry.mk (PyData.keyHash P (sN [101,110,117,109,101,114,97,116,101])) (.str (sN [101,110,117,109,101,114,97,116,101]) 62) (.type "enumerate")), (DictEntry.mk (PyData.keyHash P (sN [102,105,108,116,101,114])) (.str (sN [102,105,108,116,101,114]) 63) (.type "filter")), (DictEntry.mk (PyData.keyHash P (sN [102,108,111,97,116])) (.str (sN [102,108,111,97,116]) 64) (.type "float")), (DictEntry.mk (PyData.keyHash P (sN [102,114,111,122,101,110,115,101,116])) (.str (sN [102,114,111,122,101,110,115,101,116]) 65) (.type "frozenset")), (DictEntry.mk (PyData.keyHash P (sN [112,114,111,112,101,114,116,121])) (.str (sN [112,114,111,112,101,114,116,121]) 66) (.type "property")), (DictEntry.mk (PyData.keyHash P (sN [105,110,116])) (.str (sN [105,110,116]) 67) (.type "int")), (DictEntry.mk (PyData.keyHash P (sN [108,105,115,116])) (.str (sN [108,105,115,116]) 68) (.type "list")), (DictEntry.mk (PyData.keyHash P (sN [109,97,112])) (.str (sN [109,97,112]) 69) (.type "map")), (DictEntry.mk (PyData.keyHash P (sN [111,98,106,101,99,116])) (.str (sN [111,98,106,101,99,116]) 70) (.type "object")), (DictEntry.mk (PyData.keyHash P (sN [114,97,110,103,101])) (.str (sN [114,97,110,103,101]) 71) (.type "range")), (DictEntry.mk (PyData.keyHash P (sN [114,101,118,101,114,115,101,100])) (.str (sN [114,101,118,101,114,115,101,100]) 72) (.type "reversed")), (DictEntry.mk (PyData.keyHash P (sN [115,101,116])) (.str (sN [115,101,116]) 73) (.type "set")), (DictEntry.mk (PyData.keyHash P (sN [115,108,105,99,101])) (.str (sN [115,108,105,99,101]) 74) (.type "slice")), (DictEntry.mk (PyData.keyHash P (sN [115,116,97,116,105,99,109,101,116,104,111,100])) (.str (sN [115,116,97,116,105,99,109,101,116,104,111,100]) 75) (.type "staticmethod")), (DictEntry.mk (PyData.keyHash P (sN [115,116,114])) (.str (sN [115,116,114]) 76) (.type "str")), (DictEntry.mk (PyData.keyHash P (sN [115,117,112,101,114])) (.str (sN [115,117,112,101,114]) 77) (.type "super")), (DictEntry.mk (PyData.keyHash P (sN [116,117,112,108,101])) (.str (sN [116,117,112,108,101]) 78) (.type "tuple")), (DictEntry.mk (PyData.keyHash P (sN [116,121,112,101])) (.str (sN [116,121,112,101]) 79) (.type "type")), (DictEntry.mk (PyData.keyHash P (sN [122,105,112])) (.str (sN [122,105,112]) 80) (.type "zip")), (DictEntry.mk (PyData.keyHash P (sN [95,95,100,101,98,117,103,95,95])) (.str (sN [95,95,100,101,98,117,103,95,95]) 81) (.bool true)), (DictEntry.mk (PyData.keyHash P (sN [66,97,115,101,69,120,99,101,112,116,105,111,110])) (.str (sN [66,97,115,101,69,120,99,101,112,116,105,111,110]) 82) (.type "BaseException")), (DictEntry.mk (PyData.keyHash P (sN [66,97,115,101,69,120,99,101,112,116,105,111,110,71,114,111,117,112])) (.str (sN [66,97,115,101,69,120,99,101,112,116,105,111,110,71,114,111,117,112]) 83) (.type "BaseExceptionGroup")), (DictEntry.mk (PyData.keyHash P (sN [69,120,99,101,112,116,105,111,110])) (.str (sN [69,120,99,101,112,116,105,111,110]) 84) (.type "Exception")), (DictEntry.mk (PyData.keyHash P (sN [71,101,110,101,114,97,116,111,114,69,120,105,116])) (.str (sN [71,101,110,101,114,97,116,111,114,69,120,105,116]) 85) (.type "GeneratorExit")), (DictEntry.mk (PyData.keyHash P (sN [75,101,121,98,111,97,114,100,73,110,116,101,114,114,117,112,116])) (.str (sN [75,101,121,98,111,97,114,100,73,110,116,101,114,114,117,112,116]) 86) (.type "KeyboardInterrupt")), (DictEntry.mk (PyData.keyHash P (sN [83,121,115,116,101,109,69,120,105,116])) (.str (sN [83,121,115,116,101,109,69,120,105,116]) 87) (.type "SystemExit")), (DictEntry.mk (PyData.keyHash P (sN [65,114,105,116,104,109,101,116,105,99,69,114,114,111,114])) (.str (sN [65,114,105,116,104,109,101,116,105,99,69,114,114,111,114]) 88) (.type "ArithmeticError")), (DictEntry.mk (PyData.keyHash P (sN [65,115,115,101,114,116,105,111,110,69,114,114,111,114])) (.str (sN [65,115,115,101,114,116,105,111,110,69,114,114,111,114]) 89) (.type "AssertionError")), (DictEntry.mk (PyData.keyHash P (sN [65,116,116,114,105,98,117,116,101,69,114,114,111,114])) (.str (sN [65,116,116,114,105,98,117,116,101,69,114,114,111,114]) 90) (.type "AttributeError")), (DictEntry.mk (PyData.keyHash P (sN [66,117,102,102,101,114,69,114,114,111,114])) (.str (sN [66,117,102,102,101,114,69,114,114,111,114]) 91) (.type "BufferError")), (DictEntry.mk (PyData.keyHash P (sN [69,79,70,69,114,114,111,114])) (.str (sN [69,79,70,69,114,114,111,114]) 92) (.type "EOFError")), (DictEntry.mk (PyData.keyHash P (sN [73,109,112,111,114,116,69,114,114,111,114])) (.str (sN [73,109,112,111,114,116,69,114,114,111,114]) 93) (.type "ImportError")), (DictEntry.mk (PyData.keyHash P (sN [76,111,111,107,117,112,69,114,114,111,114])) (.str (sN [76,111,111,107,117,112,69,114,114,111,114]) 94) (.type "LookupError")), (DictEntry.mk (PyData.keyHash P (sN [77,101,109,111,114,121,69,114,114,111,114])) (.str (sN [77,101,109,111,114,121,69,114,114,111,114]) 95) (.type "MemoryError")), (DictEntry.mk (PyData.keyHash P (sN [78,97,109,101,69,114,114,111,114])) (.str (sN [78,97,109,101,69,114,114,111,114]) 96) (.type "NameError")), (DictEntry.mk (PyData.keyHash P (sN [79,83,69,114,114,111,114])) (.str (sN [79,83,69,114,114,111,114]) 97) (.type "OSError")), (DictEntry.mk (PyData.keyHash P (sN [82,101,102,101,114,101,110,99,101,69,114,114,111,114])) (.str (sN [82,101,102,101,114,101,110,99,101,69,114,114,111,114]) 98) (.type "ReferenceError")), (DictEntry.mk (PyData.keyHash P (sN [82,117,110,116,105,109,101,69,114,114,111,114])) (.str (sN [82,117,110,116,105,109,101,69,114,114,111,114]) 99) (.type "RuntimeError")), (DictEntry.mk (PyData.keyHash P (sN [83,116,111,112,65,115,121,110,99,73,116,101,114,97,116,105,111,110])) (.str (sN [83,116,111,112,65,115,121,110,99,73,116,101,114,97,116,105,111,110]) 100) (.type "StopAsyncIteration")), (DictEntry.mk (PyData.keyHash P (sN [83,116,111,112,73,116,101,114,97,116,105,111,110])) (.str (sN [83,116,111,112,73,116,101,114,97,116,105,111,110]) 101) (.type "StopIteration")), (DictEntry.mk (PyData.keyHash P (sN [83,121,110,116,97,120,69,114,114,111,114])) (.str (sN [83,121,110,116,97,120,69,114,114,111,114]) 102) (.type "SyntaxError")), (DictEntry.mk (PyData.keyHash P (sN [83,121,115,116,101,109,69,114,114,111,114])) (.str (sN [83,121,115,116,101,109,69,114,114,111,114]) 103) (.type "SystemError")), (DictEntry.mk (PyData.keyHash P (sN [84,121,112,101,69,114,114,111,114])) (.str (sN [84,121,112,101,69,114,114,111,114]) 104) (.type "TypeError")), (DictEntry.mk (PyData.keyHash P (sN [86,97,108,117,101,69,114,114,111,114])) (.str (sN [86,97,108,117,101,69,114,114,111,114]) 105) (.type "ValueError")), (DictEntry.mk (PyData.keyHash P (sN [87,97,114,110,105,110,103])) (.str (sN [87,97,114,110,105,110,103]) 106) (.type "Warning")), (DictEntry.mk (PyData.keyHash P (sN [70,108,111,97,116,105,110,103,80,111,105,110,116,69,114,114,111,114])) (.str (sN [70,108,111,97,116,105,110,103,80,111,105,110,116,69,114,114,111,114]) 107) (.type "FloatingPointError")), (DictEntry.mk (PyData.keyHash P (sN [79,118,101,114,102,108,111,119,69,114,114,111,114])) (.str (sN [79,118,101,114,102,108,111,119,69,114,114,111,114]) 108) (.type "OverflowError")), (DictEntry.mk (PyData.keyHash P (sN [90,101,114,111,68,105,118,105,115,105,111,110,69,114,114,111,114])) (.str (sN [90,101,114,111,68,105,118,105,115,105,111,110,69,114,114,111,114]) 109) (.type "ZeroDivisionError")), (DictEntry.mk (PyData.keyHash P (sN [66,121,116,101,115,87,97,114,110,105,110,103])) (.str (sN [66,121,116,101,115,87,97,114,110,105,110,103]) 110) (.type "BytesWarning")), (DictEntry.mk (PyData.keyHash P (sN [68,101,112,114,101,99,97,116,105,111,110,87,97,114,110,105,110,103])) (.str (sN [68,101,112,114,101,99,97,116,105,111,110,87,97,114,110,105,110,103]) 111) (.type "DeprecationWarning")), (DictEntry.mk (PyData.keyHash P (sN [69,110,99,111,100,105,110,103,87,97,114,110,105,110,103])) (.str (sN [69,110,99,111,100,105,110,103,87,97,114,110,105,110,103]) 112) (.type "EncodingWarning")), (DictEntry.mk (PyData.keyHash P (sN [70,117,116,117,114,101,87,97,114,110,105,110,103])) (.str (sN [70,117,116,117,114,101,87,97,114,110,105,110,103]) 113) (.type "FutureWarning")), (DictEntry.mk (PyData.keyHash P (sN [73,109,112,111,114,116,87,97,114,110,105,110,103])) (.str (sN [73,109,112,111,114,116,87,97,114,110,105,110,103]) 114) (.type "ImportWarning")), (DictEntry.mk (PyData.keyHash P (sN [80,101,110,100,105,110,103,68,101,112,114,101,99,97,116,105,111,110,87,97,114,110,105,110,103])) (.str (sN [80,101,110,100,105,110,103,68,101,112,114,101,99,97,116,105,111,110,87,97,114,110,105,110,103]) 115) (.type "PendingDeprecationWarning")), (DictEntry.mk (PyData.keyHash P (sN [82,101,115,111,117,114,99,101,87,97,114,110,105,110,103])) (.str (sN [82,101,115,111,117,114,99,101,87,97,114,110,105,110,103]) 116) (.type "ResourceWarning")), (DictEntry.mk (PyData.keyHash P (sN [82,117,110,116,105,109,101,87,97,114,110,105,110,103])) (.str (sN [82,117,110,116,105,109,101,87,97,114,110,105,110,103]) 117) (.type "RuntimeWarning")), (DictEntry.mk (PyData.keyHash P (sN [83,121,110,116,97,120,87,97,114,110,105,110,103])) (.str (sN [83,121,110,116,97,120,87,97,114,110,105,110,103]) 118) (.type "SyntaxWarning")), (DictEntry.mk (PyData.keyHash P (sN [85,110,105,99,111,100,101,87,97,114,110,105,110,103])) (.str (sN [85,110,105,99,111,100,101,87,97,114,110,105,110,103]) 119) (.type "UnicodeWarning")), (DictEntry.mk (PyData.keyHash P (sN [85,115,101,114,87,97,114,110,105,110,103])) (.str (sN [85,115,101,114,87,97,114,110,105,110,103]) 120) (.type "UserWarning")), (DictEntry.mk (PyData.keyHash P (sN [66,108,111,99,107,105,110,103,73,79,69,114,114,111,114])) (.str (sN [66,108,111,99,107,105,110,103,73,79,69,114,114,111,114]) 121) (.type "BlockingIOError")), (DictEntry.mk (PyData.keyHash P (sN [67,104,105,108,100,80,114,111,99,101,115,115,69,114,114,111,114])) (.str (sN [67,104,105,108,100,80,114,111,99,101,115,115,69,114,114,111,114]) 122) (.type "ChildProcessError")), (DictEntry.mk (PyData.keyHash P (sN [67,111,110,110,101,99,116,105,111,110,69,114,114,111,114])) (.str (sN [67,111,110,110,101,99,116,105,111,110,69,114,114,111,114]) 123) (.type "ConnectionError")), (DictEntry.mk (PyData.keyHash P (sN [70,105,108,101,69,120,105,115,116,115,69,114,114,111,114])) (.str (sN [70,105,108,101,69,120,105,115,116,115,69,114,114,111,114]) 124) (.type "FileExistsError")), (DictEntry.mk (PyData.keyHash P (sN [70,105,108,101,78,111,116,70,111,117,110,100,69,114,114,111,114])) (.str (sN [70,105,108,101,78,111,116,70,111,117,110,100,69,114,114,111,114]) 125) (.type "FileNotFoundError")), (DictEntry.mk (PyData.keyHash P (sN [73,110,116,101,114,114,117,112,116,101,100,69,114,114,111,114])) (.str (sN [73,110,116,101,114,114,117,112,116,101,100,69,114,114,111,114]) 126) (.type "InterruptedError")), (DictEntry.mk (PyData.keyHash P (sN [73,115,65,68,105,114,101,99,116,111,114,121,69,114,114,111,114])) (.str (sN [73,115,65,68,105,114,101,99,116,111,114,121,69,114,114,111,114]) 127) (.type "IsADirectoryError")), (DictEntry.mk (PyData.keyHash P (sN [78,111,116,65,68,105,114,101,99,116,111,114,121,69,114,114,111,114])) (.str (sN [78,111,116,65,68,105,114,101,99,116,111,114,121,69,114,114,111,114]) 128) (.type "NotADirectoryError")), (DictEntry.mk (PyData.keyHash P (sN [80,101,114,109,105,115,115,105,111,110,69,114,114,111,114])) (.str (sN [80,101,114,109,105,115,115,105,111,110,69,114,114,111,114]) 129) (.type "PermissionError")), (DictEntry.mk (PyData.keyHash P (sN [80,114,111,99,101,115,115,76,111,111,107,117,112,69,114,114,111,114])) (.str (sN [80,114,111,99,101,115,115,76,111,111,107,117,112,69,114,114,111,114]) 130) (.type "ProcessLookupError")), (DictEntry.mk (PyData.keyHash P (sN [84,105,109,101,111,117,116,69,114,114,111,114])) (.str (sN [84,105,109,101,111,117,116,69,114,114,111,114]) 131) (.type "TimeoutError")), (DictEntry.mk (PyData.keyHash P (sN [73,110,100,101,110,116,97,116,105,111,110,69,114,114,111,114])) (.str (sN [73,110,100,101,110,116,97,116,105,111,110,69,114,114,111,114]) 132) (.type "IndentationError")), (DictEntry.mk (PyData.keyHash P (sN [95,73,110,99,111,109,112,108,101,116,101,73,110,112,117,116,69,114,114,111,114])) (.str (sN [95,73,110,99,111,109,112,108,101,116,101,73,110,112,117,116,69,114,114,111,114]) 133) (.type "_IncompleteInputError")), (DictEntry.mk (PyData.keyHash P (sN [73,110,100,101,120,69,114,114,111,114])) (.str (sN [73,110,100,101,120,69,114,114,111,114]) 134) (.type "IndexError")), (DictEntry.mk (PyData.keyHash P (sN [75,101,121,69,114,114,111,114])) (.str (sN [75,101,121,69,114,114,111,114]) 135) (.type "KeyError")), (DictEntry.mk (PyData.keyHash P (sN [77,111,100,117,108,101,78,111,116,70,111,117,110,100,69,114,114,111,114])) (.str (sN [77,111,100,117,108,101,78,111,116,70,111,117,110,100,69,114,114,111,114]) 136) (.type "ModuleNotFoundError")), (DictEntry.mk (PyData.keyHash P (sN [78,111,116,73,109,112,108,101,109,101,110,116,101,100,69,114,114,111,114])) (.str (sN [78,111,116,73,109,112,108,101,109,101,110,116,101,100,69,114,114,111,114]) 137) (.type "NotImplementedError")), (DictEntry.mk (PyData.keyHash P (sN [80,121,116,104,111,110,70,105,110,97,108,105,122,97,116,105,111,110,69,114,114,111,114])) (.str (sN [80,121,116,104,111,110,70,105,110,97,108,105,122,97,116,105,111,110,69,114,114,111,114]) 138) (.type "PythonFinalizationError")), (DictEntry.mk (PyData.keyHash P (sN [82,101,99,117,114,115,105,111,110,69,114,114,111,114])) (.str (sN [82,101,99,117,114,115,105,111,110,69,114,114,111,114]) 139) (.type "RecursionError")), (DictEntry.mk (PyData.keyHash P (sN [85,110,98,111,117,110,100,76,111,99,97,108,69,114,114,111,114])) (.str (sN [85,110,98,111,117,110,100,76,111,99,97,108,69,114,114,111,114]) 140) (.type "UnboundLocalError")), (DictEntry.mk (PyData.keyHash P (sN [85,110,105,99,111,100,101,69,114,114,111,114])) (.str (sN [85,110,105,99,111,100,101,69,114,114,111,114]) 141) (.type "UnicodeError")), (DictEntry.mk (PyData.keyHash P (sN [66,114,111,107,101,110,80,105,112,101,69,114,114,111,114])) (.str (sN [66,114,111,107,101,110,80,105,112,101,69,114,114,111,114]) 142) (.type "BrokenPipeError")), (DictEntry.mk (PyData.keyHash P (sN [67,111,110,110,101,99,116,105,111,110,65,98,111,114,116,101,100,69,114,114,111,114])) (.str (sN [67,111,110,110,101,99,116,105,111,110,65,98,111,114,116,101,100,69,114,114,111,114]) 143) (.type "ConnectionAbortedError")), (DictEntry.mk (PyData.keyHash P (sN [67,111,110,110,101,99,116,105,111,110,82,101,102,117,115,101,100,69,114,114,111,114])) (.str (sN [67,111,110,110,101,99,116,105,111,110,82,101,102,117,115,101,100,69,114,114,111,114]) 144) (.type "ConnectionRefusedError")), (DictEntry.mk (PyData.keyHash P (sN [67,111,110,110,101,99,116,105,111,110,82,101,115,101,116,69,114,114,111,114])) (.str (sN [67,111,110,110,101,99,116,105,111,110,82,101,115,101,116,69,114,114,111,114]) 145) (.type "ConnectionResetError")), (DictEntry.mk (PyData.keyHash P (sN [84,97,98,69,114,114,111,114])) (.str (sN [84,97,98,69,114,114,111,114]) 146) (.type "TabError")), (DictEntry.mk (PyData.keyHash P (sN [85,110,105,99,111,100,101,68,101,99,111,100,101,69,114,114,111,114])) (.str (sN [85,110,105,99,111,100,101,68,101,99,111,100,101,69,114,114,111,114]) 147) (.type "UnicodeDecodeError")), (DictEntry.mk (PyData.keyHash P (sN [85,110,105,99,111,100,101,69,110,99,111,100,101,69,114,114,111,114])) (.str (sN [85,110,105,99,111,100,101,69,110,99,111,100,101,69,114,114,111,114]) 148) (.type "UnicodeEncodeError")), (DictEntry.mk (PyData.keyHash P (sN [85,110,105,99,111,100,101,84,114,97,110,115,108,97,116,101,69,114,114,111,114])) (.str (sN [85,110,105,99,111,100,101,84,114,97,110,115,108,97,116,101,69,114,114,111,114]) 149) (.type "UnicodeTranslateError")), (DictEntry.mk (PyData.keyHash P (sN [69,120,99,101,112,116,105,111,110,71,114,111,117,112])) (.str (sN [69,120,99,101,112,116,105,111,110,71,114,111,117,112]) 150) (.type "ExceptionGroup")), (DictEntry.mk (PyData.keyHash P (sN [69,110,118,105,114,111,110,109,101,110,116,69,114,114,111,114])) (.str (sN [69,110,118,105,114,111,110,109,101,110,116,69,114,114,111,114]) 151) (.type "OSError")), (DictEntry.mk (PyData.keyHash P (sN [73,79,69,114,114,111,114])) (.str (sN [73,79,69,114,114,111,114]) 152) (.type "OSError")), (DictEntry.mk (PyData.keyHash P (sN [111,112,101,110])) (.str (sN [111,112,101,110]) 153) (.builtin "open")), (DictEntry.mk (PyData.keyHash P (sN [113,117,105,116])) (.str (sN [113,117,105,116]) 154) (.builtin "builtins.quit#opaque")), (DictEntry.mk (PyData.keyHash P (sN [101,120,105,116])) (.str (sN [101,120,105,116]) 155) (.builtin "builtins.exit#opaque")), (DictEntry.mk (PyData.keyHash P (sN [99,111,112,121,114,105,103,104,116])) (.str (sN [99,111,112,121,114,105,103,104,116]) 156) (.builtin "builtins.copyright#opaque")), (DictEntry.mk (PyData.keyHash P (sN [99,114,101,100,105,116,115])) (.str (sN [99,114,101,100,105,116,115]) 157) (.builtin "builtins.credits#opaque")), (DictEntry.mk (PyData.keyHash P (sN [108,105,99,101,110,115,101])) (.str (sN [108,105,99,101,110,115,101]) 158) (.builtin "builtins.license#opaque")), (DictEntry.mk (PyData.keyHash P (sN [104,101,108,112])) (.str (sN [104,101,108,112]) 159) (.builtin "builtins.help#opaque"))] 159) #[])
noncomputable def ko_1 (P : Params) : Obj := (.mk (.type "dict") none (.dict #[(de P "builtins" 162 (.ref 4)), (de P "__main__" 163 (.ref 5)), (de P "_collections" 246 (.ref 13))] 3) #[])
noncomputable def ko_2 (P : Params) : Obj := (.mk .none none (.dict #[(de P "imp\x6frt.loaded._collections" 185 (.bool true)), (de P "class._frozen_importlib.BuiltinImporter" 187 (.ref 15)), (de P "watched.imp\x6frt" 208 (.ref 19)), (de P "class._frozen_importlib.ModuleSpec" 218 (.ref 23)), (de P "sys.modules.booked-epoch" 247 (.int 3 0)), (de P "sys.modules.landed._collections" 248 (.bool true)), (de P "imp\x6frt.later-laid._collections" 263 (.bool true)), (de P "watched.library" 265 (.ref 28)), (de P "watched.library-objects" 0 (.str "\x0d" 0)), (de P "watched.library-deep._collections" 266 (.str "\x04\x00\x00\x0c\x04\x00\x00\x0c\x04\x00\x00\x03\x04\x00\x00\x0c\x08\x04dict\x02" 0)), (de P "type.__subclasses__.collections.defaultdict.0" 460 (.int 162 0)), (de P "type.__subclasses__.collections.defaultdict.n" 461 (.int 1 0))] 12) #[])
noncomputable def ko_3 (P : Params) : Obj := (.mk (.type "dict") none (.dict #[(de P "__name__" 165 (.str "law_il0121_02" 617)), (de P "__doc__" 166 .none), (de P "__package__" 167 .none), (de P "__loader__" 168 (.builtin "__main__.__loader__#opaque")), (de P "__spec__" 169 .none), (de P "__annotations__" 170 (.ref 6)), (de P "__builtins__" 171 (.ref 4)), (de P "__file__" 173 (.str "/claim/cut.py" 172)), (de P "__cached__" 174 .none), (de P "defaultdict" 272 (.type "collections.defaultdict")), (de P "_wall" 285 (.ref 39)), (de P "filterfalse" 337 (.ref 72)), (de P "unique_everseen" 352 (.ref 84)), (de P "always_iterable" 361 (.ref 93)), (de P "_tuplegetter" 420 (.ref 132)), (de P "FreezableDefaultDict" 463 (.ref 162)), (de P "Pair" 578 (.ref 257)), (de P "_law_thing" 626 (.ref 267)), (de P "_law_things" 632 (.ref 272)), (de P "_law_written" 639 (.ref 279)), (de P "_law_setting" 649 (.ref 286)), (de P "_law_due" 655 (.ref 291)), (de P "_law_run" 661 (.ref 296)), (de P "law" 667 (.ref 301))] 24) #[])
noncomputable def ko_4 (P : Params) : Obj := (.mk (.type "module") (some 0) .plain #[])
noncomputable def ko_5 (P : Params) : Obj := (.mk (.type "module") (some 3) .plain #[])
noncomputable def ko_6 (P : Params) : Obj := (.mk (.type "dict") none (.dict #[] 0) #[])
noncomputable def ko_7 (P : Params) : Obj := (.mk (.type "tuple") none (.seq #[] 0) #[])
noncomputable def ko_8 (P : Params) : Obj := (.mk .none none (.fields #[]) #[])
noncomputable def ko_9 (P : Params) : Obj := (.mk (.type "code") none (.fields #[(.str "<module>" 176), (.str "<module>" 177), (.str "/claim/cut.py" 178), (.int 1 0), (.int 0 0), (.int 0 0), (.int 0 0), (.int 0 0), (.ref 7), (.bool false), (.int 175 0), (.ref 8), .none, .none, .none, .none, (.int 179 0), (.int 1 0), (.str "/claim/cut.py" 180)]) #[])
noncomputable def ko_10 (P : Params) : Obj := (.mk (.type "frame") none .plain #[(some (.ref 9)), (some (.ref 3)), (some (.ref 3)), none, (some (.str "__main__" 164)), none, (some (.ref 0))])
noncomputable def ko_11 (P : Params) : Obj := (.mk (.type "tuple") none (.seq #[(.str "defaultdict" 182)] 0) #[])
noncomputable def ko_12 (P : Params) : Obj := (.mk (.type "dict") none (.dict #[(de P "__name__" 250 (.str "_collections" 249)), (de P "__doc__" 251 (.builtin "off-the-table:_collections.__doc__:shared#opaque")), (de P "__package__" 253 (.str "" 252)), (de P "__loader__" 254 (.builtin "off-the-table:_collections.__loader__:shared#opaque")), (de P "__spec__" 255 (.builtin "off-the-table:_collections.__spec__:shared#opaque")), (de P "_count_elements" 256 (.builtin "_collections._count_elements")), (de P "deque" 257 (.type "collections.deque")), (de P "defaultdict" 258 (.type "collections.defaultdict")), (de P "_deque_iterator" 259 (.builtin "off-the-table:_collections._deque_iterator:shared#opaque")), (de P "_deque_reverse_iterator" 260 (.builtin "off-the-table:_collections._deque_reverse_iterator:shared#opaque")), (de P "_tuplegetter" 261 (.type "collections._tuplegetter")), (de P "OrderedDict" 262 (.type "collections.OrderedDict"))] 12) #[])
noncomputable def ko_13 (P : Params) : Obj := (.mk (.type "module") (some 12) .plain #[])
noncomputable def ko_14 (P : Params) : Obj := (.mk (.type "dict") none (.dict #[(de P "__module__" 191 (.str "_frozen_importlib" 188)), (de P "__firstlineno__" 192 (.int 971 189)), (de P "__doc__" 193 (.builtin "_frozen_importlib.BuiltinImporter.__doc__:str#opaque")), (de P "_ORIGIN" 194 (.str "built-in" 190)), (de P "find_spec" 195 (.builtin "_frozen_importlib.BuiltinImporter.find_spec#opaque")), (de P "create_module" 196 (.builtin "_frozen_importlib.BuiltinImporter.create_module#opaque")), (de P "exec_module" 197 (.builtin "_frozen_importlib.BuiltinImporter.exec_module#opaque")), (de P "get_code" 198 (.builtin "_frozen_importlib.BuiltinImporter.get_code#opaque")), (de P "get_source" 199 (.builtin "_frozen_importlib.BuiltinImporter.get_source#opaque")), (de P "is_package" 200 (.builtin "_frozen_importlib.BuiltinImporter.is_package#opaque")), (de P "load_module" 201 (.builtin "_frozen_importlib.BuiltinImporter.load_module#opaque")), (de P "__static_attributes__" 202 (.ref 16)), (de P "__dict__" 204 (.ref 17)), (de P "__weakref__" 206 (.ref 18))] 14) #[])
noncomputable def ko_15 (P : Params) : Obj := (.mk (.type "type") none (.cls (ClassData.mk "BuiltinImporter" [(.type "object")] [(.ref 15), (.type "object")] 14 "BuiltinImporter" true [] [] false none false)) #[])
noncomputable def ko_33 (P : Params) : Obj := (.mk (.type "tuple") none (.seq #[] 0) #[])
noncomputable def ko_34 (P : Params) : Obj := (.mk .none none (.fields #[]) #[])
noncomputable def ko_35 (P : Params) : Obj := (.mk (.type "tuple") none (.seq #[(.str "k" 282)] 0) #[])
noncomputable def ko_36 (P : Params) : Obj := (.mk (.type "tuple") none (.seq #[] 0) #[])
noncomputable def ko_37 (P : Params) : Obj := (.mk .none none (.func (FuncData.mk "_wall" "_wall" (fparams (stOf 1)) (.stmts (fbody (stOf 1))) (fscope (stOf 1)) 0 [] .none .none .none .none none .none .none 0)) #[])
noncomputable def ko_38 (P : Params) : Obj := (.mk (.type "code") none (.fields #[(.str "_wall" 279), (.str "_wall" 280), (.str "/claim/cut.py" 281), (.int 2 0), (.int 1 0), (.int 0 0), (.int 0 0), (.int 3 0), (.ref 33), (.bool true), (.int 273 0), (.ref 34), .none, (.ref 35), (.ref 36), (.ref 37), (.int 283 0), (.int 2 0), (.str "/claim/cut.py" 284)]) #[])
noncomputable def ko_39 (P : Params) : Obj := (.mk (.type "function") none (.func (FuncData.mk "_wall" "_wall" (fparams (stOf 1)) (.stmts (fbody (stOf 1))) (fscope (stOf 1)) 3 [] .none .none .none (.str "__main__" 164) none (.ref 38) .none 0)) #[])
noncomputable def ko_47 (P : Params) : Obj := (.mk (.type "tuple") none (.seq #[(.str "_it" 300), (.str "_func" 301)] 0) #[])
noncomputable def ko_48 (P : Params) : Obj := (.mk (.type "tuple") none (.seq #[] 0) #[])
noncomputable def ko_49 (P : Params) : Obj := (.mk .none none (.fields #[]) #[])
noncomputable def ko_50 (P : Params) : Obj := (.mk (.type "tuple") none (.seq #[(.str "self" 306), (.str "function" 307), (.str "iterable" 308)] 0) #[])
noncomputable def ko_51 (P : Params) : Obj := (.mk (.type "tuple") none (.seq #[] 0) #[])
noncomputable def ko_52 (P : Params) : Obj := (.mk .none none (.func (FuncData.mk "__init__" "filterfalse.__init__" (fparams (mst 3 1)) (.stmts (fbody (mst 3 1))) (fscope (mst 3 1)) 0 [] .none .none .none .none none .none .none 0)) #[])
noncomputable def ko_53 (P : Params) : Obj := (.mk (.type "code") none (.fields #[(.str "__init__" 303), (.str "filterfalse.__init__" 304), (.str "/claim/cut.py" 305), (.int 9 0), (.int 3 0), (.int 3 0), (.int 0 0), (.int 3 0), (.ref 48), (.bool true), (.int 273 0), (.ref 49), .none, (.ref 50), (.ref 51), (.ref 52), (.int 309 0), (.int 9 0), (.str "/claim/cut.py" 310)]) #[])
noncomputable def ko_54 (P : Params) : Obj := (.mk (.type "function") none (.func (FuncData.mk "__init__" "filterfalse.__init__" (fparams (mst 3 1)) (.stmts (fbody (mst 3 1))) (fscope (mst 3 1)) 3 [] .none .none .none (.str "itertools" 286) none (.ref 53) .none 0)) #[])
noncomputable def ko_55 (P : Params) : Obj := (.mk (.type "tuple") none (.seq #[] 0) #[])
noncomputable def ko_56 (P : Params) : Obj := (.mk .none none (.fields #[]) #[])
noncomputable def ko_57 (P : Params) : Obj := (.mk (.type "tuple") none (.seq #[(.str "self" 315)] 0) #[])
noncomputable def ko_58 (P : Params) : Obj := (.mk (.type "tuple") none (.seq #[] 0) #[])
noncomputable def ko_59 (P : Params) : Obj := (.mk .none none (.func (FuncData.mk "__iter__" "filterfalse.__iter__" (fparams (mst 3 2)) (.stmts (fbody (mst 3 2))) (fscope (mst 3 2)) 0 [] .none .none .none .none none .none .none 0)) #[])
noncomputable def ko_60 (P : Params) : Obj := (.mk (.type "code") none (.fields #[(.str "__iter__" 312), (.str "filterfalse.__iter__" 313), (.str "/claim/cut.py" 314), (.int 13 0), (.int 1 0), (.int 0 0), (.int 0 0), (.int 3 0), (.ref 55), (.bool true), (.int 273 0), (.ref 56), .none, (.ref 57), (.ref 58), (.ref 59), (.int 316 0), (.int 13 0), (.str "/claim/cut.py" 317)]) #[])
noncomputable def ko_61 (P : Params) : Obj := (.mk (.type "function") none (.func (FuncData.mk "__iter__" "filterfalse.__iter__" (fparams (mst 3 2)) (.stmts (fbody (mst 3 2))) (fscope (mst 3 2)) 3 [] .none .none .none (.str "itertools" 286) none (.ref 60) .none 0)) #[])
noncomputable def ko_62 (P : Params) : Obj := (.mk (.type "tuple") none (.seq #[] 0) #[])
noncomputable def ko_63 (P : Params) : Obj := (.mk .none none (.fields #[]) #[])
noncomputable def ko_64 (P : Params) : Obj := (.mk (.type "tuple") none (.seq #[(.str "self" 322), (.str "func" 323), (.str "item" 324)] 0) #[])
noncomputable def ko_65 (P : Params) : Obj := (.mk (.type "tuple") none (.seq #[] 0) #[])
noncomputable def ko_66 (P : Params) : Obj := (.mk .none none (.func (FuncData.mk "__next__" "filterfalse.__next__" (fparams (mst 3 3)) (.stmts (fbody (mst 3 3))) (fscope (mst 3 3)) 0 [] .none .none .none .none none .none .none 0)) #[])
noncomputable def ko_67 (P : Params) : Obj := (.mk (.type "code") none (.fields #[(.str "__next__" 319), (.str "filterfalse.__next__" 320), (.str "/claim/cut.py" 321), (.int 16 0), (.int 1 0), (.int 0 0), (.int 0 0), (.int 3 0), (.ref 62), (.bool true), (.int 273 0), (.ref 63), .none, (.ref 64), (.ref 65), (.ref 66), (.int 325 0), (.int 16 0), (.str "/claim/cut.py" 326)]) #[])
noncomputable def ko_68 (P : Params) : Obj := (.mk (.type "function") none (.func (FuncData.mk "__next__" "filterfalse.__next__" (fparams (mst 3 3)) (.stmts (fbody (mst 3 3))) (fscope (mst 3 3)) 3 [] .none .none .none (.str "itertools" 286) none (.ref 67) .none 0)) #[])
noncomputable def ko_69 (P : Params) : Obj := (.mk (.type "tuple") none (.seq #[(.str "_func" 328), (.str "_it" 329)] 0) #[])
noncomputable def ko_71 (P : Params) : Obj := (.mk (.type "dict") none (.dict #[(de P "__module__" 295 (.str "itertools" 286)), (de P "__firstlineno__" 299 (.int 6 298)), (de P "__slots__" 302 (.ref 47)), (de P "__init__" 311 (.ref 54)), (de P "__iter__" 318 (.ref 61)), (de P "__next__" 327 (.ref 68)), (de P "__static_attributes__" 330 (.ref 69)), (de P "_func" 332 (.ref 73)), (de P "_it" 334 (.ref 74)), (de P "__doc__" 335 .none)] 4) #[])
noncomputable def ko_72 (P : Params) : Obj := (.mk (.type "type") none (.cls (ClassData.mk "filterfalse" [(.type "object")] [(.ref 72), (.type "object")] 71 "filterfalse" false ["_func", "_it"] [] false none false)) #[none, none, (some (.str "filterfalse" 288)), (some (.str "filterfalse" 296)), (some (.builtin "object.__new__")), (some (.bool false))])
noncomputable def ko_73 (P : Params) : Obj := (.mk (.type "member_descriptor") none (.fields #[(.str "_func" 331), (.ref 72), (.builtin "proto.slot"), (.builtin "proto.slot#set"), (.int 1 0)]) #[])
noncomputable def ko_74 (P : Params) : Obj := (.mk (.type "member_descriptor") none (.fields #[(.str "_it" 333), (.ref 72), (.builtin "proto.slot"), (.builtin "proto.slot#set"), (.int 0 0)]) #[])
noncomputable def ko_77 (P : Params) : Obj := (.mk (.type "tuple") none (.seq #[.none] 0) #[])
noncomputable def ko_78 (P : Params) : Obj := (.mk (.type "tuple") none (.seq #[] 0) #[])
noncomputable def ko_79 (P : Params) : Obj := (.mk .none none (.fields #[]) #[])
noncomputable def ko_80 (P : Params) : Obj := (.mk (.type "tuple") none (.seq #[(.str "iterable" 343), (.str "key" 344), (.str "seen" 345), (.str "seen_add" 346), (.str "element" 347), (.str "k" 348)] 0) #[])
noncomputable def ko_81 (P : Params) : Obj := (.mk (.type "tuple") none (.seq #[] 0) #[])
noncomputable def ko_82 (P : Params) : Obj := (.mk .none none (.func (FuncData.mk "unique_everseen" "unique_everseen" (fparams (stOf 5)) (.stmts (fbody (stOf 5))) (fscope (stOf 5)) 0 [] .none .none .none .none none .none .none 0)) #[])
noncomputable def ko_83 (P : Params) : Obj := (.mk (.type "code") none (.fields #[(.str "unique_everseen" 340), (.str "unique_everseen" 341), (.str "/claim/cut.py" 342), (.int 26 0), (.int 2 0), (.int 0 0), (.int 0 0), (.int 35 0), (.ref 78), (.bool true), (.int 273 0), (.ref 79), .none, (.ref 80), (.ref 81), (.ref 82), (.int 349 0), (.int 26 0), (.str "/claim/cut.py" 350)]) #[])
noncomputable def ko_84 (P : Params) : Obj := (.mk (.type "function") none (.func (FuncData.mk "unique_everseen" "unique_everseen" (fparams (stOf 5)) (.stmts (fbody (stOf 5))) (fscope (stOf 5)) 3 [] (.ref 77) .none (.str "List unique elements, preserving order. Remember all elements ever seen." 351) (.str "cpy313.importlib.metadata._itertools" 338) none (.ref 83) .none 0)) #[])
noncomputable def ko_85 (P : Params) : Obj := (.mk (.type "tuple") none (.seq #[(.type "str"), (.type "bytes")] 0) #[])
noncomputable def ko_86 (P : Params) : Obj := (.mk (.type "tuple") none (.seq #[(.ref 85)] 0) #[])
noncomputable def ko_87 (P : Params) : Obj := (.mk (.type "tuple") none (.seq #[] 0) #[])
noncomputable def ko_88 (P : Params) : Obj := (.mk .none none (.fields #[]) #[])
noncomputable def ko_89 (P : Params) : Obj := (.mk (.type "tuple") none (.seq #[(.str "obj" 356), (.str "base_type" 357)] 0) #[])
noncomputable def ko_90 (P : Params) : Obj := (.mk (.type "tuple") none (.seq #[] 0) #[])
noncomputable def ko_91 (P : Params) : Obj := (.mk .none none (.func (FuncData.mk "always_iterable" "always_iterable" (fparams (stOf 6)) (.stmts (fbody (stOf 6))) (fscope (stOf 6)) 0 [] .none .none .none .none none .none .none 0)) #[])
noncomputable def ko_92 (P : Params) : Obj := (.mk (.type "code") none (.fields #[(.str "always_iterable" 353), (.str "always_iterable" 354), (.str "/claim/cut.py" 355), (.int 40 0), (.int 2 0), (.int 0 0), (.int 0 0), (.int 3 0), (.ref 87), (.bool true), (.int 273 0), (.ref 88), .none, (.ref 89), (.ref 90), (.ref 91), (.int 358 0), (.int 40 0), (.str "/claim/cut.py" 359)]) #[])
noncomputable def ko_93 (P : Params) : Obj := (.mk (.type "function") none (.func (FuncData.mk "always_iterable" "always_iterable" (fparams (stOf 6)) (.stmts (fbody (stOf 6))) (fscope (stOf 6)) 3 [] (.ref 86) .none (.str "If *obj* is iterable, return an iterator over its items::\n\n    >>> obj = (1, 2, 3)\n    >>> list(always_iterable(obj))\n    [1, 2, 3]\n\nIf *obj* is not iterable, return a one-item iterable containing *obj*::\n\n    >>> obj = 1\n    >>> list(always_iterable(obj))\n    [1]\n\nIf *obj* is ``None``, return an empty iterable:\n\n    >>> obj = None\n    >>> list(always_iterable(None))\n    []\n\nBy default, binary and text strings are not considered iterable::\n\n    >>> obj = 'foo'\n    >>> list(always_iterable(obj))\n    ['foo']\n\nIf *base_type* is set, objects for which ``isinstance(obj, base_type)``\nreturns ``True`` won't be considered iterable.\n\n    >>> obj = {'a': 1}\n    >>> list(always_iterable(obj))  # Iterate over the dict's keys\n    ['a']\n    >>> list(always_iterable(obj, base_type=dict))  # Treat dicts as a unit\n    [{'a': 1}]\n\nSet *base_type* to ``None`` to avoid any special handling and treat objects\nPython considers iterable as iterable:\n\n    >>> obj = 'foo'\n    >>> list(always_iterable(obj, base_type=None))\n    ['f', 'o', 'o']\n" 360) (.str "cpy313.importlib.metadata._itertools" 338) none (.ref 92) .none 0)) #[])
noncomputable def ko_101 (P : Params) : Obj := (.mk (.type "tuple") none (.seq #[] 0) #[])
noncomputable def ko_102 (P : Params) : Obj := (.mk .none none (.fields #[]) #[])
noncomputable def ko_103 (P : Params) : Obj := (.mk (.type "tuple") none (.seq #[(.str "self" 379), (.str "index" 380), (.str "doc" 381)] 0) #[])
noncomputable def ko_104 (P : Params) : Obj := (.mk (.type "tuple") none (.seq #[] 0) #[])
noncomputable def ko_105 (P : Params) : Obj := (.mk .none none (.func (FuncData.mk "__init__" "_tuplegetter.__init__" (fparams (mst 8 0)) (.stmts (fbody (mst 8 0))) (fscope (mst 8 0)) 0 [] .none .none .none .none none .none .none 0)) #[])
noncomputable def ko_106 (P : Params) : Obj := (.mk (.type "code") none (.fields #[(.str "__init__" 376), (.str "_tuplegetter.__init__" 377), (.str "/claim/cut.py" 378), (.int 92 0), (.int 3 0), (.int 0 0), (.int 0 0), (.int 3 0), (.ref 101), (.bool true), (.int 273 0), (.ref 102), .none, (.ref 103), (.ref 104), (.ref 105), (.int 382 0), (.int 92 0), (.str "/claim/cut.py" 383)]) #[])
noncomputable def ko_107 (P : Params) : Obj := (.mk (.type "function") none (.func (FuncData.mk "__init__" "_tuplegetter.__init__" (fparams (mst 8 0)) (.stmts (fbody (mst 8 0))) (fscope (mst 8 0)) 3 [] .none .none .none (.str "cpy313.importlib.metadata._collections" 362) none (.ref 106) .none 0)) #[])
noncomputable def ko_108 (P : Params) : Obj := (.mk (.type "tuple") none (.seq #[.none] 0) #[])
noncomputable def ko_109 (P : Params) : Obj := (.mk (.type "tuple") none (.seq #[] 0) #[])
noncomputable def ko_110 (P : Params) : Obj := (.mk .none none (.fields #[]) #[])
noncomputable def ko_111 (P : Params) : Obj := (.mk (.type "tuple") none (.seq #[(.str "self" 388), (.str "obj" 389), (.str "objtype" 390)] 0) #[])
noncomputable def ko_112 (P : Params) : Obj := (.mk (.type "tuple") none (.seq #[] 0) #[])
noncomputable def ko_113 (P : Params) : Obj := (.mk .none none (.func (FuncData.mk "__get__" "_tuplegetter.__get__" (fparams (mst 8 1)) (.stmts (fbody (mst 8 1))) (fscope (mst 8 1)) 0 [] .none .none .none .none none .none .none 0)) #[])
noncomputable def ko_114 (P : Params) : Obj := (.mk (.type "code") none (.fields #[(.str "__get__" 385), (.str "_tuplegetter.__get__" 386), (.str "/claim/cut.py" 387), (.int 96 0), (.int 3 0), (.int 0 0), (.int 0 0), (.int 3 0), (.ref 109), (.bool true), (.int 273 0), (.ref 110), .none, (.ref 111), (.ref 112), (.ref 113), (.int 391 0), (.int 96 0), (.str "/claim/cut.py" 392)]) #[])
noncomputable def ko_115 (P : Params) : Obj := (.mk (.type "function") none (.func (FuncData.mk "__get__" "_tuplegetter.__get__" (fparams (mst 8 1)) (.stmts (fbody (mst 8 1))) (fscope (mst 8 1)) 3 [] (.ref 108) .none .none (.str "cpy313.importlib.metadata._collections" 362) none (.ref 114) .none 0)) #[])
noncomputable def ko_116 (P : Params) : Obj := (.mk (.type "tuple") none (.seq #[] 0) #[])
noncomputable def ko_117 (P : Params) : Obj := (.mk .none none (.fields #[]) #[])
noncomputable def ko_118 (P : Params) : Obj := (.mk (.type "tuple") none (.seq #[(.str "self" 397), (.str "obj" 398), (.str "value" 399)] 0) #[])
noncomputable def ko_119 (P : Params) : Obj := (.mk (.type "tuple") none (.seq #[] 0) #[])
noncomputable def ko_120 (P : Params) : Obj := (.mk .none none (.func (FuncData.mk "__set__" "_tuplegetter.__set__" (fparams (mst 8 2)) (.stmts (fbody (mst 8 2))) (fscope (mst 8 2)) 0 [] .none .none .none .none none .none .none 0)) #[])
noncomputable def ko_121 (P : Params) : Obj := (.mk (.type "code") none (.fields #[(.str "__set__" 394), (.str "_tuplegetter.__set__" 395), (.str "/claim/cut.py" 396), (.int 103 0), (.int 3 0), (.int 0 0), (.int 0 0), (.int 3 0), (.ref 116), (.bool true), (.int 273 0), (.ref 117), .none, (.ref 118), (.ref 119), (.ref 120), (.int 400 0), (.int 103 0), (.str "/claim/cut.py" 401)]) #[])
noncomputable def ko_122 (P : Params) : Obj := (.mk (.type "function") none (.func (FuncData.mk "__set__" "_tuplegetter.__set__" (fparams (mst 8 2)) (.stmts (fbody (mst 8 2))) (fscope (mst 8 2)) 3 [] .none .none .none (.str "cpy313.importlib.metadata._collections" 362) none (.ref 121) .none 0)) #[])
noncomputable def ko_123 (P : Params) : Obj := (.mk (.type "tuple") none (.seq #[] 0) #[])
noncomputable def ko_124 (P : Params) : Obj := (.mk .none none (.fields #[]) #[])
noncomputable def ko_125 (P : Params) : Obj := (.mk (.type "tuple") none (.seq #[(.str "self" 406), (.str "obj" 407)] 0) #[])
noncomputable def ko_126 (P : Params) : Obj := (.mk (.type "tuple") none (.seq #[] 0) #[])
noncomputable def ko_127 (P : Params) : Obj := (.mk .none none (.func (FuncData.mk "__delete__" "_tuplegetter.__delete__" (fparams (mst 8 3)) (.stmts (fbody (mst 8 3))) (fscope (mst 8 3)) 0 [] .none .none .none .none none .none .none 0)) #[])
noncomputable def ko_128 (P : Params) : Obj := (.mk (.type "code") none (.fields #[(.str "__delete__" 403), (.str "_tuplegetter.__delete__" 404), (.str "/claim/cut.py" 405), (.int 106 0), (.int 2 0), (.int 0 0), (.int 0 0), (.int 3 0), (.ref 123), (.bool true), (.int 273 0), (.ref 124), .none, (.ref 125), (.ref 126), (.ref 127), (.int 408 0), (.int 106 0), (.str "/claim/cut.py" 409)]) #[])
noncomputable def ko_129 (P : Params) : Obj := (.mk (.type "function") none (.func (FuncData.mk "__delete__" "_tuplegetter.__delete__" (fparams (mst 8 3)) (.stmts (fbody (mst 8 3))) (fscope (mst 8 3)) 3 [] .none .none .none (.str "cpy313.importlib.metadata._collections" 362) none (.ref 128) .none 0)) #[])
noncomputable def ko_130 (P : Params) : Obj := (.mk (.type "tuple") none (.seq #[(.str "__doc__" 411), (.str "index" 412)] 0) #[])
noncomputable def ko_131 (P : Params) : Obj := (.mk (.type "dict") none (.dict #[(de P "__module__" 371 (.str "cpy313.importlib.metadata._collections" 362)), (de P "__firstlineno__" 375 (.int 90 374)), (de P "__init__" 384 (.ref 107)), (de P "__get__" 393 (.ref 115)), (de P "__set__" 402 (.ref 122)), (de P "__delete__" 410 (.ref 129)), (de P "__static_attributes__" 413 (.ref 130)), (de P "__dict__" 415 (.ref 133)), (de P "__weakref__" 417 (.ref 134)), (de P "__doc__" 418 .none)] 4) #[])
noncomputable def ko_132 (P : Params) : Obj := (.mk (.type "type") none (.cls (ClassData.mk "_tuplegetter" [(.type "object")] [(.ref 132), (.type "object")] 131 "_tuplegetter" true [] [] false none false)) #[none, none, (some (.str "_tuplegetter" 364)), (some (.str "_tuplegetter" 372)), (some (.builtin "object.__new__")), (some (.bool true))])
noncomputable def ko_133 (P : Params) : Obj := (.mk (.type "getset_descriptor") none (.fields #[(.str "__dict__" 414), (.ref 132), (.builtin "function.__dict__"), (.builtin "function.__dict__#set")]) #[])
noncomputable def ko_134 (P : Params) : Obj := (.mk (.type "getset_descriptor") none (.fields #[(.str "__weakref__" 416), (.ref 132), (.builtin "ExceptionGroup.__weakref__"), .none]) #[])
noncomputable def ko_137 (P : Params) : Obj := (.mk (.type "tuple") none (.seq #[(.type "collections.defaultdict")] 0) #[])
noncomputable def ko_140 (P : Params) : Obj := (.mk (.type "cell") none (.cell (some (.ref 162))) #[])
noncomputable def ko_145 (P : Params) : Obj := (.mk (.type "tuple") none (.seq #[(.ref 140)] 0) #[])
noncomputable def ko_146 (P : Params) : Obj := (.mk (.type "tuple") none (.seq #[(.str "__class__" 439)] 0) #[])
noncomputable def ko_147 (P : Params) : Obj := (.mk .none none (.fields #[]) #[])
noncomputable def ko_148 (P : Params) : Obj := (.mk (.type "tuple") none (.seq #[(.str "self" 440), (.str "key" 441)] 0) #[])
noncomputable def ko_149 (P : Params) : Obj := (.mk (.type "tuple") none (.seq #[] 0) #[])
noncomputable def ko_150 (P : Params) : Obj := (.mk .none none (.func (FuncData.mk "__missing__" "FreezableDefaultDict.__missing__" (fparams (mst 9 1)) (.stmts (fbody (mst 9 1))) (fscope (mst 9 1)) 0 [] .none .none .none .none none .none .none 0)) #[])
noncomputable def ko_151 (P : Params) : Obj := (.mk (.type "code") none (.fields #[(.str "__missing__" 436), (.str "FreezableDefaultDict.__missing__" 437), (.str "/claim/cut.py" 438), (.int 123 0), (.int 2 0), (.int 0 0), (.int 0 0), (.int 3 0), (.ref 146), (.bool true), (.int 273 0), (.ref 147), .none, (.ref 148), (.ref 149), (.ref 150), (.int 442 0), (.int 123 0), (.str "/claim/cut.py" 443)]) #[])
noncomputable def ko_152 (P : Params) : Obj := (.mk (.type "function") none (.func (FuncData.mk "__missing__" "FreezableDefaultDict.__missing__" (fparams (mst 9 1)) (.stmts (fbody (mst 9 1))) (fscope (mst 9 1)) 3 [("__class__", 140)] .none .none .none (.str "cpy313.importlib.metadata._collections" 362) none (.ref 151) (.ref 145) 0)) #[])
noncomputable def ko_153 (P : Params) : Obj := (.mk (.type "tuple") none (.seq #[] 0) #[])
noncomputable def ko_154 (P : Params) : Obj := (.mk .none none (.fields #[]) #[])
noncomputable def ko_155 (P : Params) : Obj := (.mk (.type "tuple") none (.seq #[(.str "self" 448)] 0) #[])
noncomputable def ko_156 (P : Params) : Obj := (.mk (.type "tuple") none (.seq #[(.str "self" 449)] 0) #[])
noncomputable def ko_157 (P : Params) : Obj := (.mk .none none (.func (FuncData.mk "freeze" "FreezableDefaultDict.freeze" (fparams (mst 9 2)) (.stmts (fbody (mst 9 2))) (fscope (mst 9 2)) 0 [] .none .none .none .none none .none .none 0)) #[])
noncomputable def ko_158 (P : Params) : Obj := (.mk (.type "code") none (.fields #[(.str "freeze" 445), (.str "FreezableDefaultDict.freeze" 446), (.str "/claim/cut.py" 447), (.int 126 0), (.int 1 0), (.int 0 0), (.int 0 0), (.int 3 0), (.ref 153), (.bool true), (.int 273 0), (.ref 154), .none, (.ref 155), (.ref 156), (.ref 157), (.int 450 0), (.int 126 0), (.str "/claim/cut.py" 451)]) #[])
noncomputable def ko_159 (P : Params) : Obj := (.mk (.type "function") none (.func (FuncData.mk "freeze" "FreezableDefaultDict.freeze" (fparams (mst 9 2)) (.stmts (fbody (mst 9 2))) (fscope (mst 9 2)) 3 [] .none .none .none (.str "cpy313.importlib.metadata._collections" 362) none (.ref 158) .none 0)) #[])
noncomputable def ko_160 (P : Params) : Obj := (.mk (.type "tuple") none (.seq #[(.str "_frozen" 453)] 0) #[])
noncomputable def ko_161 (P : Params) : Obj := (.mk (.type "dict") none (.dict #[(de P "__module__" 428 (.str "cpy313.importlib.metadata._collections" 362)), (de P "__firstlineno__" 432 (.int 108 431)), (de P "__doc__" 434 (.str "\nOften it is desirable to prevent the mutation of\na default dict after its initial construction, such\nas to prevent mutation during iteration.\n\n>>> dd = FreezableDefaultDict(list)\n>>> dd[0].append('1')\n>>> dd.freeze()\n>>> dd[1]\n[]\n>>> len(dd)\n1\n" 433)), (de P "__missing__" 444 (.ref 152)), (de P "freeze" 452 (.ref 159)), (de P "__static_attributes__" 454 (.ref 160)), (de P "__dict__" 457 (.ref 163)), (de P "__weakref__" 459 (.ref 164))] 4) #[])
noncomputable def ko_162 (P : Params) : Obj := (.mk (.type "type") none (.cls (ClassData.mk "FreezableDefaultDict" [(.type "collections.defaultdict")] [(.ref 162), (.type "collections.defaultdict"), (.type "dict"), (.type "object")] 161 "FreezableDefaultDict" true [""] [] false none false)) #[(some (.ref 137)), none, (some (.str "FreezableDefaultDict" 421)), (some (.str "FreezableDefaultDict" 429)), (some (.builtin "dict.__new__")), (some (.bool true))])
noncomputable def ko_163 (P : Params) : Obj := (.mk (.type "getset_descriptor") none (.fields #[(.str "__dict__" 456), (.ref 162), (.builtin "function.__dict__"), (.builtin "function.__dict__#set")]) #[])
noncomputable def ko_164 (P : Params) : Obj := (.mk (.type "getset_descriptor") none (.fields #[(.str "__weakref__" 458), (.ref 162), (.builtin "ExceptionGroup.__weakref__"), .none]) #[])
noncomputable def ko_167 (P : Params) : Obj := (.mk (.type "tuple") none (.seq #[(.type "tuple")] 0) #[])
noncomputable def ko_170 (P : Params) : Obj := (.mk (.type "cell") none (.cell (some (.ref 234))) #[])
noncomputable def ko_175 (P : Params) : Obj := (.mk (.type "tuple") none (.seq #[] 0) #[])
noncomputable def ko_176 (P : Params) : Obj := (.mk (.type "tuple") none (.seq #[(.str "name" 480), (.str "value" 481)] 0) #[])
noncomputable def ko_177 (P : Params) : Obj := (.mk (.type "dict") none (.dict #[] 0) #[])
noncomputable def ko_178 (P : Params) : Obj := (.mk (.type "tuple") none (.seq #[] 0) #[])
noncomputable def ko_179 (P : Params) : Obj := (.mk .none none (.fields #[]) #[])
noncomputable def ko_180 (P : Params) : Obj := (.mk (.type "tuple") none (.seq #[(.str "_cls" 487), (.str "name" 488), (.str "value" 489)] 0) #[])
noncomputable def ko_181 (P : Params) : Obj := (.mk (.type "tuple") none (.seq #[] 0) #[])
noncomputable def ko_182 (P : Params) : Obj := (.mk .none none (.func (FuncData.mk "__new__" "Pair.__new__" (fparams (mst 10 4)) (.stmts (fbody (mst 10 4))) (fscope (mst 10 4)) 0 [] .none .none .none .none none .none .none 0)) #[])
noncomputable def ko_183 (P : Params) : Obj := (.mk (.type "code") none (.fields #[(.str "__new__" 484), (.str "Pair.__new__" 485), (.str "/claim/cut.py" 486), (.int 134 0), (.int 3 0), (.int 0 0), (.int 0 0), (.int 3 0), (.ref 178), (.bool true), (.int 273 0), (.ref 179), .none, (.ref 180), (.ref 181), (.ref 182), (.int 490 0), (.int 134 0), (.str "/claim/cut.py" 491)]) #[])
noncomputable def ko_184 (P : Params) : Obj := (.mk (.type "function") none (.func (FuncData.mk "__new__" "Pair.__new__" (fparams (mst 10 4)) (.stmts (fbody (mst 10 4))) (fscope (mst 10 4)) 3 [] .none .none (.str "Create new instance of Pair(name, value)" 492) (.str "cpy313.importlib.metadata._collections" 362) none (.ref 183) .none 0)) #[])
noncomputable def ko_185 (P : Params) : Obj := (.mk (.type "tuple") none (.seq #[] 0) #[])
noncomputable def ko_186 (P : Params) : Obj := (.mk .none none (.fields #[]) #[])
noncomputable def ko_187 (P : Params) : Obj := (.mk (.type "tuple") none (.seq #[(.str "cls" 497), (.str "iterable" 498), (.str "result" 499)] 0) #[])
noncomputable def ko_188 (P : Params) : Obj := (.mk (.type "tuple") none (.seq #[] 0) #[])
noncomputable def ko_189 (P : Params) : Obj := (.mk .none none (.func (FuncData.mk "_make" "Pair._make" (fparams (mst 10 5)) (.stmts (fbody (mst 10 5))) (fscope (mst 10 5)) 0 [] .none .none .none .none none .none .none 0)) #[])
noncomputable def ko_190 (P : Params) : Obj := (.mk (.type "code") none (.fields #[(.str "_make" 494), (.str "Pair._make" 495), (.str "/claim/cut.py" 496), (.int 138 0), (.int 2 0), (.int 0 0), (.int 0 0), (.int 3 0), (.ref 185), (.bool true), (.int 273 0), (.ref 186), .none, (.ref 187), (.ref 188), (.ref 189), (.int 500 0), (.int 138 0), (.str "/claim/cut.py" 501)]) #[])
noncomputable def ko_191 (P : Params) : Obj := (.mk (.type "function") none (.func (FuncData.mk "_make" "Pair._make" (fparams (mst 10 5)) (.stmts (fbody (mst 10 5))) (fscope (mst 10 5)) 3 [] .none .none (.str "Make a new Pair object from a sequence or iterable" 502) (.str "cpy313.importlib.metadata._collections" 362) (some 194) (.ref 190) .none 0)) #[])
noncomputable def ko_192 (P : Params) : Obj := (.mk (.type "dict") none (.dict #[(de P "__module__" 504 (.str "cpy313.importlib.metadata._collections" 362)), (de P "__name__" 507 (.str "_make" 506)), (de P "__qualname__" 510 (.str "Pair._make" 509)), (de P "__doc__" 512 (.str "Make a new Pair object from a sequence or iterable" 502)), (de P "__annotations__" 514 (.ref 194))] 5) #[])
noncomputable def ko_193 (P : Params) : Obj := (.mk (.type "classmethod") (some 192) (.fields #[(.ref 191), (.bool false)]) #[])
noncomputable def ko_194 (P : Params) : Obj := (.mk (.type "dict") none (.dict #[] 0) #[])
noncomputable def ko_195 (P : Params) : Obj := (.mk (.type "tuple") none (.seq #[(.ref 170)] 0) #[])
noncomputable def ko_196 (P : Params) : Obj := (.mk (.type "tuple") none (.seq #[(.str "__class__" 519)] 0) #[])
noncomputable def ko_197 (P : Params) : Obj := (.mk .none none (.fields #[]) #[])
noncomputable def ko_198 (P : Params) : Obj := (.mk (.type "tuple") none (.seq #[(.str "self" 520), (.str "kwds" 521), (.str "result" 522)] 0) #[])
noncomputable def ko_199 (P : Params) : Obj := (.mk (.type "tuple") none (.seq #[] 0) #[])
noncomputable def ko_200 (P : Params) : Obj := (.mk .none none (.func (FuncData.mk "_replace" "Pair._replace" (fparams (mst 10 6)) (.stmts (fbody (mst 10 6))) (fscope (mst 10 6)) 0 [] .none .none .none .none none .none .none 0)) #[])
noncomputable def ko_201 (P : Params) : Obj := (.mk (.type "code") none (.fields #[(.str "_replace" 516), (.str "Pair._replace" 517), (.str "/claim/cut.py" 518), (.int 146 0), (.int 1 0), (.int 1 0), (.int 0 0), (.int 11 0), (.ref 196), (.bool true), (.int 273 0), (.ref 197), .none, (.ref 198), (.ref 199), (.ref 200), (.int 523 0), (.int 146 0), (.str "/claim/cut.py" 524)]) #[])
noncomputable def ko_202 (P : Params) : Obj := (.mk (.type "function") none (.func (FuncData.mk "_replace" "Pair._replace" (fparams (mst 10 6)) (.stmts (fbody (mst 10 6))) (fscope (mst 10 6)) 3 [("__class__", 170)] .none .none (.str "Return a new Pair object replacing specified fields with new values" 525) (.str "cpy313.importlib.metadata._collections" 362) none (.ref 201) (.ref 195) 0)) #[])
noncomputable def ko_203 (P : Params) : Obj := (.mk (.type "tuple") none (.seq #[] 0) #[])
noncomputable def ko_204 (P : Params) : Obj := (.mk .none none (.fields #[]) #[])
noncomputable def ko_205 (P : Params) : Obj := (.mk (.type "tuple") none (.seq #[(.str "self" 531)] 0) #[])
noncomputable def ko_206 (P : Params) : Obj := (.mk (.type "tuple") none (.seq #[] 0) #[])
noncomputable def ko_207 (P : Params) : Obj := (.mk .none none (.func (FuncData.mk "__repr__" "Pair.__repr__" (fparams (mst 10 8)) (.stmts (fbody (mst 10 8))) (fscope (mst 10 8)) 0 [] .none .none .none .none none .none .none 0)) #[])
noncomputable def ko_208 (P : Params) : Obj := (.mk (.type "code") none (.fields #[(.str "__repr__" 528), (.str "Pair.__repr__" 529), (.str "/claim/cut.py" 530), (.int 157 0), (.int 1 0), (.int 0 0), (.int 0 0), (.int 3 0), (.ref 203), (.bool true), (.int 273 0), (.ref 204), .none, (.ref 205), (.ref 206), (.ref 207), (.int 532 0), (.int 157 0), (.str "/claim/cut.py" 533)]) #[])
noncomputable def ko_209 (P : Params) : Obj := (.mk (.type "function") none (.func (FuncData.mk "__repr__" "Pair.__repr__" (fparams (mst 10 8)) (.stmts (fbody (mst 10 8))) (fscope (mst 10 8)) 3 [] .none .none (.str "Return a nicely formatted representation string" 534) (.str "cpy313.importlib.metadata._collections" 362) none (.ref 208) .none 0)) #[])
noncomputable def ko_210 (P : Params) : Obj := (.mk (.type "tuple") none (.seq #[] 0) #[])
noncomputable def ko_211 (P : Params) : Obj := (.mk .none none (.fields #[]) #[])
noncomputable def ko_212 (P : Params) : Obj := (.mk (.type "tuple") none (.seq #[(.str "self" 539)] 0) #[])
noncomputable def ko_213 (P : Params) : Obj := (.mk (.type "tuple") none (.seq #[] 0) #[])
noncomputable def ko_214 (P : Params) : Obj := (.mk .none none (.func (FuncData.mk "_asdict" "Pair._asdict" (fparams (mst 10 9)) (.stmts (fbody (mst 10 9))) (fscope (mst 10 9)) 0 [] .none .none .none .none none .none .none 0)) #[])
noncomputable def ko_215 (P : Params) : Obj := (.mk (.type "code") none (.fields #[(.str "_asdict" 536), (.str "Pair._asdict" 537), (.str "/claim/cut.py" 538), (.int 161 0), (.int 1 0), (.int 0 0), (.int 0 0), (.int 3 0), (.ref 210), (.bool true), (.int 273 0), (.ref 211), .none, (.ref 212), (.ref 213), (.ref 214), (.int 540 0), (.int 161 0), (.str "/claim/cut.py" 541)]) #[])
noncomputable def ko_216 (P : Params) : Obj := (.mk (.type "function") none (.func (FuncData.mk "_asdict" "Pair._asdict" (fparams (mst 10 9)) (.stmts (fbody (mst 10 9))) (fscope (mst 10 9)) 3 [] .none .none .none (.str "cpy313.importlib.metadata._collections" 362) none (.ref 215) .none 0)) #[])
noncomputable def ko_217 (P : Params) : Obj := (.mk (.type "tuple") none (.seq #[] 0) #[])
noncomputable def ko_218 (P : Params) : Obj := (.mk .none none (.fields #[]) #[])
noncomputable def ko_219 (P : Params) : Obj := (.mk (.type "tuple") none (.seq #[(.str "self" 546)] 0) #[])
noncomputable def ko_220 (P : Params) : Obj := (.mk (.type "tuple") none (.seq #[] 0) #[])
noncomputable def ko_221 (P : Params) : Obj := (.mk .none none (.func (FuncData.mk "__getnewargs__" "Pair.__getnewargs__" (fparams (mst 10 10)) (.stmts (fbody (mst 10 10))) (fscope (mst 10 10)) 0 [] .none .none .none .none none .none .none 0)) #[])
noncomputable def ko_222 (P : Params) : Obj := (.mk (.type "code") none (.fields #[(.str "__getnewargs__" 543), (.str "Pair.__getnewargs__" 544), (.str "/claim/cut.py" 545), (.int 164 0), (.int 1 0), (.int 0 0), (.int 0 0), (.int 3 0), (.ref 217), (.bool true), (.int 273 0), (.ref 218), .none, (.ref 219), (.ref 220), (.ref 221), (.int 547 0), (.int 164 0), (.str "/claim/cut.py" 548)]) #[])
noncomputable def ko_223 (P : Params) : Obj := (.mk (.type "function") none (.func (FuncData.mk "__getnewargs__" "Pair.__getnewargs__" (fparams (mst 10 10)) (.stmts (fbody (mst 10 10))) (fscope (mst 10 10)) 3 [] .none .none (.str "Return self as a plain tuple.  Used by copy and pickle." 549) (.str "cpy313.importlib.metadata._collections" 362) none (.ref 222) .none 0)) #[])
noncomputable def ko_224 (P : Params) : Obj := (.mk (.type "tuple") none (.seq #[(.str "name" 551), (.str "value" 552)] 0) #[])
noncomputable def ko_225 (P : Params) : Obj := (.mk (.type "dict") none (.dict #[(de P "index" 560 (.int 0 554)), (de P "__doc__" 562 (.str "Alias for field number 0" 555))] 2) #[])
noncomputable def ko_226 (P : Params) : Obj := (.mk (.ref 132) (some 225) .plain #[])
noncomputable def ko_228 (P : Params) : Obj := (.mk (.type "dict") none (.dict #[(de P "index" 570 (.int 1 564)), (de P "__doc__" 572 (.str "Alias for field number 1" 565))] 2) #[])
noncomputable def ko_229 (P : Params) : Obj := (.mk (.ref 132) (some 228) .plain #[])
noncomputable def ko_231 (P : Params) : Obj := (.mk (.type "tuple") none (.seq #[] 0) #[])
noncomputable def ko_233 (P : Params) : Obj := (.mk (.type "dict") none (.dict #[(de P "__module__" 471 (.str "cpy313.importlib.metadata._collections" 362)), (de P "__firstlineno__" 475 (.int 128 474)), (de P "__doc__" 477 (.str "Pair(name, value)" 476)), (de P "__slots__" 479 (.ref 175)), (de P "_fields" 482 (.ref 176)), (de P "_field_defaults" 483 (.ref 177)), (de P "__new__" 493 (.ref 235)), (de P "_make" 515 (.ref 193)), (de P "_replace" 526 (.ref 202)), (de P "__replace__" 527 (.ref 202)), (de P "__repr__" 535 (.ref 209)), (de P "_asdict" 542 (.ref 216)), (de P "__getnewargs__" 550 (.ref 223)), (de P "__match_args__" 553 (.ref 224)), (de P "name" 563 (.ref 226)), (de P "value" 573 (.ref 229)), (de P "__static_attributes__" 574 (.ref 231))] 2) #[])
noncomputable def ko_234 (P : Params) : Obj := (.mk (.type "type") none (.cls (ClassData.mk "Pair" [(.type "tuple")] [(.ref 234), (.type "tuple"), (.type "object")] 233 "Pair" false [] [(.ref 257)] false none false)) #[(some (.ref 167)), none, (some (.str "Pair" 464)), (some (.str "Pair" 472)), (some .none), (some (.bool false))])
noncomputable def ko_235 (P : Params) : Obj := (.mk (.type "staticmethod") none (.fields #[(.ref 184)]) #[])
noncomputable def ko_238 (P : Params) : Obj := (.mk (.type "tuple") none (.seq #[(.ref 234)] 0) #[])
noncomputable def ko_245 (P : Params) : Obj := (.mk (.type "tuple") none (.seq #[] 0) #[])
noncomputable def ko_246 (P : Params) : Obj := (.mk .none none (.fields #[]) #[])
noncomputable def ko_247 (P : Params) : Obj := (.mk (.type "tuple") none (.seq #[(.str "cls" 594), (.str "text" 595)] 0) #[])
noncomputable def ko_248 (P : Params) : Obj := (.mk (.type "tuple") none (.seq #[] 0) #[])
noncomputable def ko_249 (P : Params) : Obj := (.mk .none none (.func (FuncData.mk "parse" "Pair.parse" (fparams (mst 11 0)) (.stmts (fbody (mst 11 0))) (fscope (mst 11 0)) 0 [] .none .none .none .none none .none .none 0)) #[])
noncomputable def ko_250 (P : Params) : Obj := (.mk (.type "code") none (.fields #[(.str "parse" 591), (.str "Pair.parse" 592), (.str "/claim/cut.py" 593), (.int 172 0), (.int 2 0), (.int 0 0), (.int 0 0), (.int 3 0), (.ref 245), (.bool true), (.int 273 0), (.ref 246), .none, (.ref 247), (.ref 248), (.ref 249), (.int 596 0), (.int 172 0), (.str "/claim/cut.py" 597)]) #[])
noncomputable def ko_251 (P : Params) : Obj := (.mk (.type "function") none (.func (FuncData.mk "parse" "Pair.parse" (fparams (mst 11 0)) (.stmts (fbody (mst 11 0))) (fscope (mst 11 0)) 3 [] .none .none .none (.str "cpy313.importlib.metadata._collections" 362) (some 254) (.ref 250) .none 0)) #[])
noncomputable def ko_252 (P : Params) : Obj := (.mk (.type "dict") none (.dict #[(de P "__module__" 599 (.str "cpy313.importlib.metadata._collections" 362)), (de P "__name__" 602 (.str "parse" 601)), (de P "__qualname__" 605 (.str "Pair.parse" 604)), (de P "__doc__" 607 .none), (de P "__annotations__" 609 (.ref 254))] 5) #[])
noncomputable def ko_253 (P : Params) : Obj := (.mk (.type "classmethod") (some 252) (.fields #[(.ref 251), (.bool false)]) #[])
noncomputable def ko_254 (P : Params) : Obj := (.mk (.type "dict") none (.dict #[] 0) #[])
noncomputable def ko_255 (P : Params) : Obj := (.mk (.type "tuple") none (.seq #[] 0) #[])
noncomputable def ko_256 (P : Params) : Obj := (.mk (.type "dict") none (.dict #[(de P "__module__" 586 (.str "cpy313.importlib.metadata._collections" 362)), (de P "__firstlineno__" 590 (.int 170 589)), (de P "parse" 610 (.ref 253)), (de P "__static_attributes__" 611 (.ref 255)), (de P "__dict__" 613 (.ref 258)), (de P "__doc__" 614 .none)] 3) #[])
noncomputable def ko_257 (P : Params) : Obj := (.mk (.type "type") none (.cls (ClassData.mk "Pair" [(.ref 234)] [(.ref 257), (.ref 234), (.type "tuple"), (.type "object")] 256 "Pair" true [] [] false none false)) #[(some (.ref 238)), none, (some (.str "Pair" 579)), (some (.str "Pair" 587)), (some .none), (some (.bool false))])
noncomputable def ko_258 (P : Params) : Obj := (.mk (.type "getset_descriptor") none (.fields #[(.str "__dict__" 612), (.ref 257), (.builtin "function.__dict__"), (.builtin "function.__dict__#set")]) #[])
noncomputable def ko_261 (P : Params) : Obj := (.mk (.type "tuple") none (.seq #[] 0) #[])
noncomputable def ko_262 (P : Params) : Obj := (.mk .none none (.fields #[]) #[])
noncomputable def ko_263 (P : Params) : Obj := (.mk (.type "tuple") none (.seq #[(.str "n" 622), (.str "texts" 623)] 0) #[])
noncomputable def ko_264 (P : Params) : Obj := (.mk (.type "tuple") none (.seq #[] 0) #[])
noncomputable def ko_265 (P : Params) : Obj := (.mk .none none (.func (FuncData.mk "_law_thing" "_law_thing" (fparams (stOf 13)) (.stmts (fbody (stOf 13))) (fscope (stOf 13)) 0 [] .none .none .none .none none .none .none 0)) #[])
noncomputable def ko_266 (P : Params) : Obj := (.mk (.type "code") none (.fields #[(.str "_law_thing" 619), (.str "_law_thing" 620), (.str "/claim/cut.py" 621), (.int 176 0), (.int 1 0), (.int 0 0), (.int 0 0), (.int 3 0), (.ref 261), (.bool true), (.int 273 0), (.ref 262), .none, (.ref 263), (.ref 264), (.ref 265), (.int 624 0), (.int 176 0), (.str "/claim/cut.py" 625)]) #[])
noncomputable def ko_267 (P : Params) : Obj := (.mk (.type "function") none (.func (FuncData.mk "_law_thing" "_law_thing" (fparams (stOf 13)) (.stmts (fbody (stOf 13))) (fscope (stOf 13)) 3 [] .none .none .none (.str "law_il0121_02" 617) none (.ref 266) .none 0)) #[])
noncomputable def ko_268 (P : Params) : Obj := (.mk (.type "tuple") none (.seq #[] 0) #[])
noncomputable def ko_269 (P : Params) : Obj := (.mk .none none (.fields #[]) #[])
noncomputable def ko_270 (P : Params) : Obj := (.mk .none none (.func (FuncData.mk "_law_things" "_law_things" (fparams (stOf 14)) (.stmts (fbody (stOf 14))) (fscope (stOf 14)) 0 [] .none .none .none .none none .none .none 0)) #[])
noncomputable def ko_271 (P : Params) : Obj := (.mk (.type "code") none (.fields #[(.str "_law_things" 627), (.str "_law_things" 628), (.str "/claim/cut.py" 629), (.int 183 0), (.int 1 0), (.int 0 0), (.int 0 0), (.int 3 0), (.ref 268), (.bool true), (.int 273 0), (.ref 269), .none, .none, .none, (.ref 270), (.int 630 0), (.int 183 0), (.str "/claim/cut.py" 631)]) #[])
noncomputable def ko_272 (P : Params) : Obj := (.mk (.type "function") none (.func (FuncData.mk "_law_things" "_law_things" (fparams (stOf 14)) (.stmts (fbody (stOf 14))) (fscope (stOf 14)) 3 [] .none .none .none (.str "law_il0121_02" 617) none (.ref 271) .none 0)) #[])
noncomputable def ko_273 (P : Params) : Obj := (.mk (.type "tuple") none (.seq #[] 0) #[])
noncomputable def ko_274 (P : Params) : Obj := (.mk .none none (.fields #[]) #[])
noncomputable def ko_275 (P : Params) : Obj := (.mk (.type "tuple") none (.seq #[(.str "thing" 636)] 0) #[])
noncomputable def ko_276 (P : Params) : Obj := (.mk (.type "tuple") none (.seq #[] 0) #[])
noncomputable def ko_277 (P : Params) : Obj := (.mk .none none (.func (FuncData.mk "_law_written" "_law_written" (fparams (stOf 15)) (.stmts (fbody (stOf 15))) (fscope (stOf 15)) 0 [] .none .none .none .none none .none .none 0)) #[])
noncomputable def ko_278 (P : Params) : Obj := (.mk (.type "code") none (.fields #[(.str "_law_written" 633), (.str "_law_written" 634), (.str "/claim/cut.py" 635), (.int 185 0), (.int 1 0), (.int 0 0), (.int 0 0), (.int 3 0), (.ref 273), (.bool true), (.int 273 0), (.ref 274), .none, (.ref 275), (.ref 276), (.ref 277), (.int 637 0), (.int 185 0), (.str "/claim/cut.py" 638)]) #[])
noncomputable def ko_279 (P : Params) : Obj := (.mk (.type "function") none (.func (FuncData.mk "_law_written" "_law_written" (fparams (stOf 15)) (.stmts (fbody (stOf 15))) (fscope (stOf 15)) 3 [] .none .none .none (.str "law_il0121_02" 617) none (.ref 278) .none 0)) #[])
noncomputable def ko_280 (P : Params) : Obj := (.mk (.type "tuple") none (.seq #[] 0) #[])
noncomputable def ko_281 (P : Params) : Obj := (.mk .none none (.fields #[]) #[])
noncomputable def ko_282 (P : Params) : Obj := (.mk (.type "tuple") none (.seq #[(.str "kind" 643), (.str "n" 644), (.str "shelf" 645), (.str "thing" 646)] 0) #[])
noncomputable def ko_283 (P : Params) : Obj := (.mk (.type "tuple") none (.seq #[] 0) #[])
noncomputable def ko_284 (P : Params) : Obj := (.mk .none none (.func (FuncData.mk "_law_setting" "_law_setting" (fparams (stOf 16)) (.stmts (fbody (stOf 16))) (fscope (stOf 16)) 0 [] .none .none .none .none none .none .none 0)) #[])
noncomputable def ko_285 (P : Params) : Obj := (.mk (.type "code") none (.fields #[(.str "_law_setting" 640), (.str "_law_setting" 641), (.str "/claim/cut.py" 642), (.int 187 0), (.int 2 0), (.int 0 0), (.int 0 0), (.int 3 0), (.ref 280), (.bool true), (.int 273 0), (.ref 281), .none, (.ref 282), (.ref 283), (.ref 284), (.int 647 0), (.int 187 0), (.str "/claim/cut.py" 648)]) #[])
noncomputable def ko_286 (P : Params) : Obj := (.mk (.type "function") none (.func (FuncData.mk "_law_setting" "_law_setting" (fparams (stOf 16)) (.stmts (fbody (stOf 16))) (fscope (stOf 16)) 3 [] .none .none .none (.str "law_il0121_02" 617) none (.ref 285) .none 0)) #[])
noncomputable def ko_287 (P : Params) : Obj := (.mk (.type "tuple") none (.seq #[] 0) #[])
noncomputable def ko_288 (P : Params) : Obj := (.mk .none none (.fields #[]) #[])
noncomputable def ko_289 (P : Params) : Obj := (.mk .none none (.func (FuncData.mk "_law_due" "_law_due" (fparams (stOf 17)) (.stmts (fbody (stOf 17))) (fscope (stOf 17)) 0 [] .none .none .none .none none .none .none 0)) #[])
noncomputable def ko_290 (P : Params) : Obj := (.mk (.type "code") none (.fields #[(.str "_law_due" 650), (.str "_law_due" 651), (.str "/claim/cut.py" 652), (.int 202 0), (.int 3 0), (.int 0 0), (.int 0 0), (.int 3 0), (.ref 287), (.bool true), (.int 273 0), (.ref 288), .none, .none, .none, (.ref 289), (.int 653 0), (.int 202 0), (.str "/claim/cut.py" 654)]) #[])
noncomputable def ko_291 (P : Params) : Obj := (.mk (.type "function") none (.func (FuncData.mk "_law_due" "_law_due" (fparams (stOf 17)) (.stmts (fbody (stOf 17))) (fscope (stOf 17)) 3 [] .none .none .none (.str "law_il0121_02" 617) none (.ref 290) .none 0)) #[])
noncomputable def ko_292 (P : Params) : Obj := (.mk (.type "tuple") none (.seq #[] 0) #[])
noncomputable def ko_293 (P : Params) : Obj := (.mk .none none (.fields #[]) #[])
noncomputable def ko_294 (P : Params) : Obj := (.mk .none none (.func (FuncData.mk "_law_run" "_law_run" (fparams (stOf 18)) (.stmts (fbody (stOf 18))) (fscope (stOf 18)) 0 [] .none .none .none .none none .none .none 0)) #[])
noncomputable def ko_295 (P : Params) : Obj := (.mk (.type "code") none (.fields #[(.str "_law_run" 656), (.str "_law_run" 657), (.str "/claim/cut.py" 658), (.int 212 0), (.int 3 0), (.int 0 0), (.int 0 0), (.int 3 0), (.ref 292), (.bool true), (.int 273 0), (.ref 293), .none, .none, .none, (.ref 294), (.int 659 0), (.int 212 0), (.str "/claim/cut.py" 660)]) #[])
noncomputable def ko_296 (P : Params) : Obj := (.mk (.type "function") none (.func (FuncData.mk "_law_run" "_law_run" (fparams (stOf 18)) (.stmts (fbody (stOf 18))) (fscope (stOf 18)) 3 [] .none .none .none (.str "law_il0121_02" 617) none (.ref 295) .none 0)) #[])
noncomputable def ko_297 (P : Params) : Obj := (.mk (.type "tuple") none (.seq #[] 0) #[])
noncomputable def ko_298 (P : Params) : Obj := (.mk .none none (.fields #[]) #[])
noncomputable def ko_299 (P : Params) : Obj := (.mk .none none (.func (FuncData.mk "law" "law" (fparams (stOf 19)) (.stmts (fbody (stOf 19))) (fscope (stOf 19)) 0 [] .none .none .none .none none .none .none 0)) #[])
noncomputable def ko_300 (P : Params) : Obj := (.mk (.type "code") none (.fields #[(.str "law" 662), (.str "law" 663), (.str "/claim/cut.py" 664), (.int 224 0), (.int 1 0), (.int 0 0), (.int 0 0), (.int 3 0), (.ref 297), (.bool true), (.int 273 0), (.ref 298), .none, .none, .none, (.ref 299), (.int 665 0), (.int 224 0), (.str "/claim/cut.py" 666)]) #[])
noncomputable def ko_301 (P : Params) : Obj := (.mk (.type "function") none (.func (FuncData.mk "law" "law" (fparams (stOf 19)) (.stmts (fbody (stOf 19))) (fscope (stOf 19)) 3 [] .none .none .none (.str "law_il0121_02" 617) none (.ref 300) .none 0)) #[])
noncomputable def KF (P : Params) : Frag := [(0, ko_0 P), (1, ko_1 P), (2, ko_2 P), (3, ko_3 P), (4, ko_4 P), (5, ko_5 P), (6, ko_6 P), (7, ko_7 P), (8, ko_8 P), (9, ko_9 P), (10, ko_10 P), (11, ko_11 P), (12, ko_12 P), (13, ko_13 P), (14, ko_14 P), (15, ko_15 P), (33, ko_33 P), (34, ko_34 P), (35, ko_35 P), (36, ko_36 P), (37, ko_37 P), (38, ko_38 P), (39, ko_39 P), (47, ko_47 P), (48, ko_48 P), (49, ko_49 P), (50, ko_50 P), (51, ko_51 P), (52, ko_52 P), (53, ko_53 P), (54, ko_54 P), (55, ko_55 P), (56, ko_56 P), (57, ko_57 P), (58, ko_58 P), (59, ko_59 P), (60, ko_60 P), (61, ko_61 P), (62, ko_62 P), (63, ko_63 P), (64, ko_64 P), (65, ko_65 P), (66, ko_66 P), (67, ko_67 P), (68, ko_68 P), (69, ko_69 P), (71, ko_71 P), (72, ko_72 P), (73, ko_73 P), (74, ko_74 P), (77, ko_77 P), (78, ko_78 P), (79, ko_79 P), (80, ko_80 P), (81, ko_81 P), (82, ko_82 P), (83, ko_83 P), (84, ko_84 P), (85, ko_85 P), (86, ko_86 P), (87, ko_87 P), (88, ko_88 P), (89, ko_89 P), (90, ko_90 P), (91, ko_91 P), (92, ko_92 P), (93, ko_93 P), (101, ko_101 P), (102, ko_102 P), (103, ko_103 P), (104, ko_104 P), (105, ko_105 P), (106, ko_106 P), (107, ko_107 P), (108, ko_108 P), (109, ko_109 P), (110, ko_110 P), (111, ko_111 P), (112, ko_112 P), (113, ko_113 P), (114, ko_114 P), (115, ko_115 P), (116, ko_116 P), (117, ko_117 P), (118, ko_118 P), (119, ko_119 P), (120, ko_120 P), (121, ko_121 P), (122, ko_122 P), (123, ko_123 P), (124, ko_124 P), (125, ko_125 P), (126, ko_126 P), (127, ko_127 P), (128, ko_128 P), (129, ko_129 P), (130, ko_130 P), (131, ko_131 P), (132, ko_132 P), (133, ko_133 P), (134, ko_134 P), (137, ko_137 P), (140, ko_140 P), (145, ko_145 P), (146, ko_146 P), (147, ko_147 P), (148, ko_148 P), (149, ko_149 P), (150, ko_150 P), (151, ko_151 P), (152, ko_152 P), (153, ko_153 P), (155, ko_155 P), (156, ko_156 P), (157, ko_157 P), (158, ko_158 P), (159, ko_159 P), (160, ko_160 P), (161, ko_161 P), (162, ko_162 P), (163, ko_163 P), (164, ko_164 P), (167, ko_167 P), (170, ko_170 P), (175, ko_175 P), (176, ko_176 P), (177, ko_177 P), (178, ko_178 P), (179, ko_179 P), (180, ko_180 P), (181, ko_181 P), (182, ko_182 P), (183, ko_183 P), (184, ko_184 P), (185, ko_185 P), (186, ko_186 P), (187, ko_187 P), (188, ko_188 P), (189, ko_189 P), (190, ko_190 P), (191, ko_191 P), (192, ko_192 P), (193, ko_193 P), (194, ko_194 P), (195, ko_195 P), (196, ko_196 P), (197, ko_197 P), (198, ko_198 P), (199, ko_199 P), (200, ko_200 P), (201, ko_201 P), (202, ko_202 P), (203, ko_203 P), (204, ko_204 P), (205, ko_205 P), (206, ko_206 P), (207, ko_207 P), (208, ko_208 P), (209, ko_209 P), (210, ko_210 P), (211, ko_211 P), (212, ko_212 P), (213, ko_213 P), (214, ko_214 P), (215, ko_215 P), (216, ko_216 P), (217, ko_217 P), (218, ko_218 P), (219, ko_219 P), (220, ko_220 P), (221, ko_221 P), (222, ko_222 P), (223, ko_223 P), (224, ko_224 P), (225, ko_225 P), (226, ko_226 P), (228, ko_228 P), (229, ko_229 P), (231, ko_231 P), (233, ko_233 P), (234, ko_234 P), (235, ko_235 P), (238, ko_238 P), (245, ko_245 P), (246, ko_246 P), (247, ko_247 P), (248, ko_248 P), (249, ko_249 P), (250, ko_250 P), (251, ko_251 P), (252, ko_252 P), (253, ko_253 P), (254, ko_254 P), (255, ko_255 P), (256, ko_256 P), (257, ko_257 P), (258, ko_258 P), (261, ko_261 P), (262, ko_262 P), (263, ko_263 P), (264, ko_264 P), (265, ko_265 P), (266, ko_266 P), (267, ko_267 P), (268, ko_268 P), (269, ko_269 P), (270, ko_270 P), (271, ko_271 P), (272, ko_272 P), (273, ko_273 P), (274, ko_274 P), (275, ko_275 P), (276, ko_276 P), (277, ko_277 P), (278, ko_278 P), (279, ko_279 P), (280, ko_280 P), (281, ko_281 P), (282, ko_282 P), (283, ko_283 P), (284, ko_284 P), (285, ko_285 P), (286, ko_286 P), (287, ko_287 P), (288, ko_288 P), (289, ko_289 P), (290, ko_290 P), (291, ko_291 P), (292, ko_292 P), (293, ko_293 P), (294, ko_294 P), (295, ko_295 P), (296, ko_296 P), (297, ko_297 P), (298, ko_298 P), (299, ko_299 P), (300, ko_300 P), (301, ko_301 P)]
noncomputable def heapL (P : Params) : Frag := (154, ko_154 P) :: KF P
noncomputable def asL : List Addr := [154, 0, 1, 2, 3, 4, 5, 6, 7, 8, 9, 10, 11, 12, 13, 14, 15, 33, 34, 35, 36, 37, 38, 39, 47, 48, 49, 50, 51, 52, 53, 54, 55, 56, 57, 58, 59, 60, 61, 62, 63, 64, 65, 66, 67, 68, 69, 71, 72, 73, 74, 77, 78, 79, 80, 81, 82, 83, 84, 85, 86, 87, 88, 89, 90, 91, 92, 93, 101, 102, 103, 104, 105, 106, 107, 108, 109, 110, 111, 112, 113, 114, 115, 116, 117, 118, 119, 120, 121, 122, 123, 124, 125, 126, 127, 128, 129, 130, 131, 132, 133, 134, 137, 140, 145, 146, 147, 148, 149, 150, 151, 152, 153, 155, 156, 157, 158, 159, 160, 161, 162, 163, 164, 167, 170, 175, 176, 177, 178, 179, 180, 181, 182, 183, 184, 185, 186, 187, 188, 189, 190, 191, 192, 193, 194, 195, 196, 197, 198, 199, 200, 201, 202, 203, 204, 205, 206, 207, 208, 209, 210, 211, 212, 213, 214, 215, 216, 217, 218, 219, 220, 221, 222, 223, 224, 225, 226, 228, 229, 231, 233, 234, 235, 238, 245, 246, 247, 248, 249, 250, 251, 252, 253, 254, 255, 256, 257, 258, 261, 262, 263, 264, 265, 266, 267, 268, 269, 270, 271, 272, 273, 274, 275, 276, 277, 278, 279, 280, 281, 282, 283, 284, 285, 286, 287, 288, 289, 290, 291, 292, 293, 294, 295, 296, 297, 298, 299, 300, 301]
noncomputable def qv : Program := view PySem.Challenge.pw_il0121_02 [19]
noncomputable def looseL : List Str := ["defaultdict", "_wall", "filterfalse", "unique_everseen", "always_iterable", "_tuplegetter", "FreezableDefaultDict", "Pair", "_law_thing", "_law_things", "_law_written", "_law_setting", "_law_due", "_law_run"]
theorem as_heap (P : Params) : asL = (heapL P).map (·.1) := by kernel_rfl
noncomputable abbrev hk : Hook := kHook heapL asL as_heap
theorem left1 : LeftO PySem.Challenge.pw_il0121_02 qv looseL (fun s => xlAt qv [] s && recOk (RowW.records PySem.Challenge.rw_il0121_02.row.toRowW) s) hk.obs hk.val 5300 := fun w => by
  unfold openEnds fencedOpening topFrom
  rw [show @importEnds = _ from PySem.W.Fast.te10274390034422433532, show @start = _ from PySem.W.Fast.te1435165496053646825, show treeTable = _ from PySem.W.Fast.te14364793385576792824, show @topRun = _ from PySem.W.Fast.te14082659384304107361, show @openSeen = _ from PySem.W.Fast.te4187177175401517315, show @fenceModules? = _ from PySem.W.Fast.te14289696077712309145]
  kernel_rfl
noncomputable abbrev Le (h h' : Heap) : Prop := ∀ b o, h.get? b = some o → h'.get? b = some o
theorem Le.trans {a b c : Heap} (x : Le a b) (y : Le b c) : Le a c := fun i o e => y i o (x i o e)
inductive D where
  | none
  | bool (b : Bool)
  | int (i : Int)
  | str (s : Str)
  | tup (ds : List D)
  | lst (ds : List D)
  | pr (ds : List D)
  | atom (v : Value)
noncomputable def pairC : Addr := 257
noncomputable abbrev emptyD : Obj := { cls := .type "dict", dict := none, data := .dict #[] 0, slots := #[] }
mutual
inductive RD (h : Heap) (S : Addr → Prop) : Value → D → Prop
  | none : RD h S .none .none
  | bool (b) : RD h S (.bool b) (.bool b)
  | int (i t) : RD h S (.int i t) (.int i)
  | str (x t) : RD h S (.str x t) (.str x)
  | atom (v) : RD h S v (.atom v)
  | tup {a o vs n ds} : S a → h.get? a = some o → o.cls = .type "tuple" → o.data = .seq vs n → RDs h S vs.toList ds → RD h S (.ref a) (.tup ds)
  | lst {a o vs n ds} : S a → h.get? a = some o → o.cls = .type "list" → o.data = .seq vs n → RDs h S vs.toList ds → RD h S (.ref a) (.lst ds)
  | pr {a d vs n ds} : S a → S d → h.get? a = some ⟨.ref pairC, some d, .seq vs n, #[]⟩ → h.get? d = some emptyD → RDs h S vs.toList ds → RD h S (.ref a) (.pr ds)
inductive RDs (h : Heap) (S : Addr → Prop) : List Value → List D → Prop
  | nil : RDs h S [] []
  | cons {v vs d ds} : RD h S v d → RDs h S vs ds → RDs h S (v :: vs) (d :: ds)
end
mutual
theorem RD.mono {h h' : Heap} {S S' : Addr → Prop} (k : ∀ a o, S a → h.get? a = some o → h'.get? a = some o) (ks : ∀ a, S a → S' a) :
    ∀ {v d}, RD h S v d → RD h' S' v d
  | _, _, .none => .none
  | _, _, .bool b => .bool b
  | _, _, .int i t => .int i t
  | _, _, .str x t => .str x t
  | _, _, .atom v => .atom v
  | _, _, .tup s e c dd r => .tup (ks _ s) (k _ _ s e) c dd (RDs.mono k ks r)
  | _, _, .lst s e c dd r => .lst (ks _ s) (k _ _ s e) c dd (RDs.mono k ks r)
  | _, _, .pr s sd e ed r => .pr (ks _ s) (ks _ sd) (k _ _ s e) (k _ _ sd ed) (RDs.mono k ks r)
theorem RDs.mono {h h' : Heap} {S S' : Addr → Prop} (k : ∀ a o, S a → h.get? a = some o → h'.get? a = some o) (ks : ∀ a, S a → S' a) :
    ∀ {vs ds}, RDs h S vs ds → RDs h' S' vs ds
  | _, _, .nil => .nil
  | _, _, .cons x r => .cons (RD.mono k ks x) (RDs.mono k ks r)
end
section
variable {h : Heap} {S : Addr → Prop}
theorem RDs.consE {d : D} {ds : List D} {motive : (l : List Value) → RDs h S l (d :: ds) → Prop} (cons : ∀ {v vs} (r1 : RD h S v d) (r2 : RDs h S vs ds), motive (v :: vs) (.cons r1 r2)) : ∀ {l : List Value} (r : RDs h S l (d :: ds)), motive l r
  | _, .cons r1 r2 => cons r1 r2
theorem RDs.nilE {motive : (l : List Value) → RDs h S l [] → Prop} (nil : motive [] .nil) : ∀ {l : List Value} (r : RDs h S l []), motive l r
  | _, .nil => nil
theorem RD.atomE {u : Value} {motive : (v : Value) → RD h S v (.atom u) → Prop} (atom : motive u (.atom u)) : ∀ {v : Value} (r : RD h S v (.atom u)), motive v r
  | _, .atom _ => atom
theorem RD.strE {x : Str} {motive : (v : Value) → RD h S v (.str x) → Prop} (str : ∀ t, motive (.str x t) (.str x t)) : ∀ {v : Value} (r : RD h S v (.str x)), motive v r
  | _, .str _ t => str t
theorem RD.intE {x : Int} {motive : (v : Value) → RD h S v (.int x) → Prop} (int : ∀ t, motive (.int x t) (.int x t)) : ∀ {v : Value} (r : RD h S v (.int x)), motive v r
  | _, .int _ t => int t
theorem RD.lstE {ds : List D} {motive : (v : Value) → RD h S v (.lst ds) → Prop} (lst : ∀ {a o vs n} (sa : S a) (ea : h.get? a = some o) (ca : o.cls = .type "list") (da : o.data = .seq vs n) (ra : RDs h S vs.toList ds), motive (.ref a) (.lst sa ea ca da ra)) : ∀ {v : Value} (r : RD h S v (.lst ds)), motive v r
  | _, .lst sa ea ca da ra => lst sa ea ca da ra
theorem RD.tupE {ds : List D} {motive : (v : Value) → RD h S v (.tup ds) → Prop} (tup : ∀ {a o vs n} (sa : S a) (ea : h.get? a = some o) (ca : o.cls = .type "tuple") (da : o.data = .seq vs n) (ra : RDs h S vs.toList ds), motive (.ref a) (.tup sa ea ca da ra)) : ∀ {v : Value} (r : RD h S v (.tup ds)), motive v r
  | _, .tup sa ea ca da ra => tup sa ea ca da ra
theorem RD.prE {ds : List D} {motive : (v : Value) → RD h S v (.pr ds) → Prop} (pr : ∀ {a d vs n} (sa : S a) (sd : S d) (ea : h.get? a = some ⟨.ref pairC, some d, .seq vs n, #[]⟩) (ed : h.get? d = some emptyD) (ra : RDs h S vs.toList ds), motive (.ref a) (.pr sa sd ea ed ra)) : ∀ {v : Value} (r : RD h S v (.pr ds)), motive v r
  | _, .pr sa sd ea ed ra => pr sa sd ea ed ra
end
theorem RD.le {h h' : Heap} {S : Addr → Prop} (k : Le h h') {v d} (x : RD h S v d) : RD h' S v d := x.mono (fun a o _ e => k a o e) fun _ s => s
theorem RDs.le {h h' : Heap} {S : Addr → Prop} (k : Le h h') {v d} (x : RDs h S v d) : RDs h' S v d := x.mono (fun a o _ e => k a o e) fun _ s => s
theorem RD.sub {h : Heap} {S S' : Addr → Prop} (k : ∀ a, S a → S' a) {v d} (x : RD h S v d) : RD h S' v d := x.mono (fun _ _ _ e => e) k
theorem RDs.sub {h : Heap} {S S' : Addr → Prop} (k : ∀ a, S a → S' a) {v d} (x : RDs h S v d) : RDs h S' v d := x.mono (fun _ _ _ e => e) k
theorem RD.but {h h' : Heap} {S : Addr → Prop} {a : Addr} (hs : Heap.ExtBut a h h') (na : ¬ S a) {v d} (x : RD h S v d) : RD h' S v d :=
  x.mono (fun b o s e => hs b o (fun z => na (z ▸ s)) e) fun _ s => s
theorem RDs.but {h h' : Heap} {S : Addr → Prop} {a : Addr} (hs : Heap.ExtBut a h h') (na : ¬ S a) {v d} (x : RDs h S v d) : RDs h' S v d :=
  x.mono (fun b o s e => hs b o (fun z => na (z ▸ s)) e) fun _ s => s
theorem RDs.length {h : Heap} {S : Addr → Prop} : ∀ {vs ds}, RDs h S vs ds → vs.length = ds.length
  | _, _, .nil => rfl
  | _, _, .cons _ r => by simp [RDs.length r]
theorem RDs.get {h : Heap} {S : Addr → Prop} : ∀ {vs ds}, RDs h S vs ds → ∀ {i : Nat} {d}, ds[i]? = some d → ∃ v, vs[i]? = some v ∧ RD h S v d
  | _, _, .nil, i, d, e => by simp at e
  | _, _, .cons x r, 0, d, e => by simp at e; subst e; exact ⟨_, rfl, x⟩
  | _, _, .cons x r, i + 1, d, e => by simp at e; obtain ⟨v, h1, h2⟩ := r.get e; exact ⟨v, by simpa using h1, h2⟩
theorem RDs.get' {h : Heap} {S : Addr → Prop} : ∀ {vs ds}, RDs h S vs ds → ∀ {i : Nat} {v}, vs[i]? = some v → ∃ d, ds[i]? = some d ∧ RD h S v d
  | _, _, .nil, i, d, e => by simp at e
  | _, _, .cons x r, 0, d, e => by simp at e; subst e; exact ⟨_, rfl, x⟩
  | _, _, .cons x r, i + 1, d, e => by simp at e; obtain ⟨v, h1, h2⟩ := r.get' e; exact ⟨v, by simpa using h1, h2⟩
theorem RDs.append {h : Heap} {S : Addr → Prop} : ∀ {vs ds ws es}, RDs h S vs ds → RDs h S ws es → RDs h S (vs ++ ws) (ds ++ es)
  | _, _, _, _, .nil, y => y
  | _, _, _, _, .cons x r, y => .cons x (r.append y)
theorem RDs.one {h : Heap} {S : Addr → Prop} {v d} (x : RD h S v d) : RDs h S [v] [d] := .cons x .nil
noncomputable abbrev Fr1 (S : Addr → Prop) (h : Heap) : Addr → Prop := fun b => S b ∨ h.get? b = none
theorem fresh_le {h h' : Heap} (k : Le h h') {b : Addr} (e : h'.get? b = none) : h.get? b = none := by
  cases q : h.get? b with
  | none => rfl
  | some o => rw [k b o q] at e; cases e
structure OkA (n : Nat) (A : Around) : Prop where
  hd : A.handled = none
  dp : A.depth + n < recursionLimit
  un : A.units + 10 * n + 300 < cLine
theorem OkA.deeper {n : Nat} {A : Around} (x : OkA (n + 1) A) (env : Env) : OkA n (A.deeper env) :=
  ⟨x.hd, by have := x.dp; simp only [Around.deeper]; omega, by have := x.un; simp only [Around.deeper]; omega⟩
theorem OkA.in1 {n : Nat} {A : Around} (x : OkA (n + 1) A) : OkA n A.in1 := ⟨x.hd, by have := x.dp; show A.depth + n < recursionLimit; omega, by have := x.un; show A.units + 1 + 10 * n + 300 < cLine; omega⟩
theorem OkA.weak {n m : Nat} {A : Around} (x : OkA n A) (h : m ≤ n) : OkA m A := ⟨x.hd, by have := x.dp; omega, by have := x.un; omega⟩
theorem OkA.room {n : Nat} {A : Around} (x : OkA n A) : A.depth < recursionLimit := by have := x.dp; omega
structure Kp (s s' : Shared) : Prop where
  le : Le s.heap s'.heap
  eq : ∃ h' tk, s' = { s with heap := h', toks := tk }
theorem Kp.refl (s : Shared) : Kp s s := ⟨fun _ _ e => e, s.heap, s.toks, rfl⟩
theorem Kp.tk (s : Shared) (t : Nat) : Kp s { s with toks := t } := ⟨fun _ _ e => e, s.heap, t, rfl⟩
theorem Kp.of {s : Shared} {h' : Heap} (tk : Nat) (k : Le s.heap h') : Kp s { s with heap := h', toks := tk } := ⟨k, h', tk, rfl⟩
theorem Kp.of' {s : Shared} {h' : Heap} (k : Le s.heap h') : Kp s { s with heap := h' } := ⟨k, h', s.toks, rfl⟩
theorem Kp.tr {a b c : Shared} (x : Kp a b) (y : Kp b c) : Kp a c := by
  obtain ⟨k, h, t, rfl⟩ := x
  obtain ⟨k', h', t', rfl⟩ := y
  exact ⟨k.trans k', h', t', rfl⟩
section
variable (prog : Program) (w : World) (A : Around) (env : Env) (h : Heap) (S : Addr → Prop)
noncomputable def EvD (e : Expr) (d : D) : Prop := ∀ (s : Shared) (E : Value → Shared → Prop), Le h s.heap →
  wpAny (model prog w) A (eval e env) (fun v s' => RD s'.heap (Fr1 S s.heap) v d ∧ Kp s s') E s
noncomputable def EvT (e : Expr) (b : Bool) : Prop := ∀ (s : Shared) (E : Value → Shared → Prop), Le h s.heap →
  wpAny (model prog w) A (isTrue e env (eval e env)) (fun r s' => r = b ∧ Kp s s') E s
noncomputable def Var (x : Str) (v : Value) : Prop := ∀ (M : Model) (A : Around) (E : Value → Shared → Prop) (Q : Value → Shared → Prop) (s : Shared), Le h s.heap → Q v s → wpAny M A (loadName env x) Q E s
end
noncomputable def isStar : Expr → Bool
  | .Starred .. => true
  | _ => false
theorem starEach_cons {e : Expr} {r : List Expr} {env : Env} (hs : isStar e = false) : starEach (e :: r) env = (false, eval e env) :: starEach r env := by
  cases e <;> first | rfl | (simp [isStar] at hs)
section
variable {prog : Program} {w : World} {A : Around} {env : Env} {h : Heap} {S : Addr → Prop}
theorem Var.mono {h' : Heap} {x : Str} {v : Value} (a : Var env h x v) (k : Le h h') : Var env h' x v := fun M A E Q s hs => a M A E Q s (k.trans hs)
theorem EvD.mono {h' : Heap} {e : Expr} {d : D} (a : EvD prog w A env h S e d) (k : Le h h') : EvD prog w A env h' S e d := fun s E hs => a s E (k.trans hs)
theorem EvT.mono {h' : Heap} {e : Expr} {d} (a : EvT prog w A env h e d) (k : Le h h') : EvT prog w A env h' e d := fun s E hs => a s E (k.trans hs)
theorem EvD.name {x : Str} {pos : Pos} {v : Value} {d : D} (a : Var env h x v) (r : RD h S v d) (hd : (x == ("__debug__" : Str)) = false := by decide) : EvD prog w A env h S (.Name x pos) d :=
  fun s _ hs => wpAny_Name (a _ _ _ _ s hs ⟨(r.le hs).sub fun _ z => .inl z, Kp.refl s⟩) hd
theorem EvD.cstr {x : Str} {k : Nat} {pos : Pos} : EvD prog w A env h S (.Constant (.str x) k pos) (.str x) := fun s _ _ => Constant_str ⟨.str _ _, Kp.tk s _⟩
theorem EvD.cint {x : Int} {k : Nat} {pos : Pos} : EvD prog w A env h S (.Constant (.int x) k pos) (.int x) := fun s _ _ => wpAny_Constant_int ⟨.int _ _, Kp.tk s _⟩
theorem EvD.cbool {x : Bool} {k : Nat} {pos : Pos} : EvD prog w A env h S (.Constant (.bool x) k pos) (.bool x) := fun s _ _ => by
  rw [eval_Constant]; exact wpAny_pure ⟨.bool _, Kp.refl s⟩
theorem ev_two {e f : Expr} {d c : D} {α : Type} {t : Value → Value → Sem α} {s : Shared} {Q : α → Shared → Prop} {E : Value → Shared → Prop} (hs : Le h s.heap)
    (a : EvD prog w A env h S e d) (b : EvD prog w A env h S f c)
    (k : ∀ x y s', RD s'.heap (Fr1 S s.heap) x d → RD s'.heap (Fr1 S s.heap) y c → Kp s s' → wpAny (model prog w) A (t x y) Q E s') :
    wpAny (model prog w) A (eval e env) (fun x s₁ => wpAny (model prog w) A (eval f env) (fun y s₂ => wpAny (model prog w) A (t x y) Q E s₂) E s₁) E s :=
  wpAny_mono (a s E hs) (fun x s₁ ⟨r1, k1⟩ => wpAny_mono (b s₁ E (hs.trans k1.le)) (fun y s₂ ⟨r2, k2⟩ =>
    k x y s₂ (r1.le k2.le) (r2.sub fun _ z => z.imp id fun q => fresh_le k1.le q) (k1.tr k2)) fun _ _ q => q) fun _ _ q => q
inductive EvDs (prog : Program) (w : World) (A : Around) (env : Env) (h : Heap) (S : Addr → Prop) : List Expr → List D → Prop
  | nil : EvDs prog w A env h S [] []
  | cons {e es d ds} : EvD prog w A env h S e d → EvDs prog w A env h S es ds → isStar e = false → EvDs prog w A env h S (e :: es) (d :: ds)
theorem EvDs.spliced {es : List Expr} {ds : List D} (a : EvDs prog w A env h S es ds) : ∀ {s : Shared} {pos : Pos} {Q : List Value → Shared → Prop} {E : Value → Shared → Prop}, Le h s.heap →
    (∀ vs s', RDs s'.heap (Fr1 S s.heap) vs ds → Kp s s' → Q vs s') → wpAny (model prog w) A (PySem.spliced (backTo pos (starEach es env))) Q E s := by
  induction a with
  | nil => intro s pos Q E hs k; exact spliced_nil (k _ s .nil (Kp.refl s))
  | cons a r hn ih =>
    intro s pos Q E hs k
    rw [starEach_cons hn]
    show wpAny (model prog w) A (PySem.spliced ((false, eval _ env) :: backTo pos (starEach _ env))) Q E s
    refine spliced_cons (wpAny_mono (a s E hs) (fun v s₁ h1 => ?_) fun _ _ q => q)
    obtain ⟨r1, k1⟩ := h1
    refine ih (hs.trans k1.le) fun vs s₂ r2 k2 => ?_
    exact k _ _ (.cons (r1.le k2.le) (r2.sub fun _ z => z.imp id fun q => fresh_le k1.le q)) (k1.tr k2)
theorem EvD.tuple {es : List Expr} {ds : List D} {k : Nat} {pos : Pos} (a : EvDs prog w A env h S es ds) (hsz : ds.length ≤ sizeLine) : EvD prog w A env h S (.Tuple es k pos) (.tup ds) := fun s E hs => by
  refine Tuple_ (a.spliced hs fun vs s' r k' => ?_)
  have hl : vs.length ≤ sizeLine := by rw [r.length]; exact hsz
  have kk : Le s'.heap (s'.heap.push { cls := .type "tuple", data := .seq vs.toArray }) := fun b o e => Heap.get?_push_of_some _ e
  refine wpAny_newObj_type ⟨?_, k'.tr (Kp.of' kk)⟩ (by show vs.toArray.size ≤ sizeLine; rw [List.size_toArray]; exact hl)
  refine .tup (.inr ?_) (Heap.get?_push_size _ rfl) rfl rfl (r.le kk)
  refine fresh_le k'.le ?_
  cases q : s'.heap.get? s'.heap.objs.size with
  | none => rfl
  | some o => exact absurd (Heap.lt_size q) (Nat.lt_irrefl _)
theorem EvD.list {es : List Expr} {ds : List D} {pos : Pos} (a : EvDs prog w A env h S es ds) (hsz : ds.length ≤ sizeLine) : EvD prog w A env h S (.List es pos) (.lst ds) := fun s E hs => by
  refine List_ (a.spliced hs fun vs s' r k' => ?_)
  have hl : vs.length ≤ sizeLine := by rw [r.length]; exact hsz
  have kk : Le s'.heap (s'.heap.push { cls := .type "list", data := .seq vs.toArray }) := fun b o e => Heap.get?_push_of_some _ e
  refine wpAny_newObj_type ⟨?_, k'.tr (Kp.of' kk)⟩ (by show vs.toArray.size ≤ sizeLine; rw [List.size_toArray]; exact hl)
  refine .lst (.inr ?_) (Heap.get?_push_size _ rfl) rfl rfl (r.le kk)
  refine fresh_le k'.le ?_
  cases q : s'.heap.get? s'.heap.objs.size with
  | none => rfl
  | some o => exact absurd (Heap.lt_size q) (Nat.lt_irrefl _)
end
theorem wp_abs {M : Model} {α : Type} {A : Around} {t : Sem α} {s : Shared} {Q : α → Shared → Prop} {E : Value → Shared → Prop} (h : ∀ (Q' : α → Shared → Prop) (E' : Value → Shared → Prop), (∀ f s', Q f s' → Q' f s') → (∀ e s', E e s' → E' e s') → wpAny M A t Q' E' s) : wpAny M A t Q E s :=
  h Q E (fun _ _ q => q) fun _ _ q => q
end Mine
end
section
open PySem PySem.W PyProof.Rows PySem.Calls
namespace Mine
open PySem (eval)
mutual
theorem RD.dom {h : Heap} {S : Addr → Prop} : ∀ {v d}, RD h S v d → RD h (fun a => S a ∧ h.get? a ≠ none) v d
  | _, _, .none => .none
  | _, _, .bool b => .bool b
  | _, _, .int i t => .int i t
  | _, _, .str x t => .str x t
  | _, _, .atom v => .atom v
  | _, _, .tup s e c dd r => .tup ⟨s, by rw [e]; exact fun z => nomatch z⟩ e c dd (RDs.dom r)
  | _, _, .lst s e c dd r => .lst ⟨s, by rw [e]; exact fun z => nomatch z⟩ e c dd (RDs.dom r)
  | _, _, .pr s sd e ed r => .pr ⟨s, by rw [e]; exact fun z => nomatch z⟩ ⟨sd, by rw [ed]; exact fun z => nomatch z⟩ e ed (RDs.dom r)
theorem RDs.dom {h : Heap} {S : Addr → Prop} : ∀ {vs ds}, RDs h S vs ds → RDs h (fun a => S a ∧ h.get? a ≠ none) vs ds
  | _, _, .nil => .nil
  | _, _, .cons x r => .cons (RD.dom x) (RDs.dom r)
end
noncomputable def Up (h : Heap) (S S' : Addr → Prop) : Prop := ∀ a, S a → h.get? a ≠ none → S' a
theorem RD.up {h h' : Heap} {S S' : Addr → Prop} (k : Le h h') (u : Up h S S') {v d} (x : RD h S v d) : RD h' S' v d :=
  x.dom.mono (fun a o _ e => k a o e) fun a s => u a s.1 s.2
section
variable {prog : Program} {w : World} {A : Around} {env : Env} {h : Heap} {S : Addr → Prop}
theorem new_none (h : Heap) : h.get? h.objs.size = none := by
  cases q : h.get? h.objs.size with
  | none => rfl
  | some o => exact absurd (Heap.lt_size q) (Nat.lt_irrefl _)
theorem extNew {h h' : Heap} (x : Heap.ExtBut h.objs.size h h') : Le h h' := fun b o e => x b o (fun z => by rw [z, new_none] at e; cases e) e
noncomputable def D.flat : D → Bool
  | .tup _ | .lst _ | .pr _ => false
  | _ => true
theorem RD.flat {h h' : Heap} {S S' : Addr → Prop} {v d} (x : RD h S v d) (f : d.flat = true) : RD h' S' v d := by
  cases x <;> first | (simp [D.flat] at f; done) | constructor
theorem EvD.flat {S' : Addr → Prop} {e : Expr} {d : D} (a : EvD prog w A env h S e d) (f : d.flat = true) : EvD prog w A env h S' e d :=
  fun s E hs => wpAny_mono (a s E hs) (fun _ _ x => ⟨x.1.flat f, x.2⟩) fun _ _ x => x
noncomputable def BinD (prog : Program) (w : World) (A : Around) (op : Operator) (a b c : D) : Prop := ∀ (s : Shared) (S : Addr → Prop) (x y : Value) (E : Value → Shared → Prop), RD s.heap S x a → RD s.heap S y b →
  wpAny (model prog w) A (binaryOp op x y) (fun v s' => RD s'.heap (Fr1 S s.heap) v c ∧ Kp s s') E s
noncomputable def CmpD (prog : Program) (w : World) (A : Around) (op : CmpOp) (a b : D) (r : Bool) : Prop := ∀ (s : Shared) (S : Addr → Prop) (x y : Value) (E : Value → Shared → Prop), RD s.heap S x a → RD s.heap S y b →
  wpAny (model prog w) A (compareOp op x y) (fun v s' => v = .bool r ∧ Kp s s') E s
theorem fr1_fr1 {h h' : Heap} (k : Le h h') {S : Addr → Prop} : ∀ a, Fr1 (Fr1 S h) h' a → Fr1 S h a := fun _ z => z.elim id fun q => .inr (fresh_le k q)
theorem EvD.bin {e f : Expr} {op : Operator} {pos : Pos} {a b c : D} (x : EvD prog w A env h S e a) (y : EvD prog w A env h S f b) (o : BinD prog w A op a b c) : EvD prog w A env h S (.BinOp e op f pos) c := fun s E hs =>
  wpAny_BinOp (ev_two hs x y fun v u s' r1 r2 k => wpAny_mono (o s' _ v u E r1 r2) (fun z s'' q => ⟨q.1.sub (fr1_fr1 k.le), k.tr q.2⟩) fun _ _ q => q)
theorem EvT.cmp {e f : Expr} {op : CmpOp} {pos : Pos} {a b : D} {r : Bool} (x : EvD prog w A env h S e a) (y : EvD prog w A env h S f b) (o : CmpD prog w A op a b r)
    (hm : behindInMarks op f = false := by with_unfolding_all rfl) : EvT prog w A env h (.Compare e [op] [f] pos) r := fun s E hs =>
  wpAny_isTrue_Compare1 (ev_two (t := fun a b => compareOp op a b) hs x y fun v u s' r1 r2 k => wpAny_mono (o s' _ v u E r1 r2) (fun z s'' q => by
    obtain ⟨rfl, q2⟩ := q
    exact wpAny_truthy_bool ⟨rfl, k.tr q2⟩) fun _ _ q => q) hm
theorem EvT.and {e f : Expr} {pos : Pos} {a b : Bool} (x : EvT prog w A env h e a) (y : a = true → EvT prog w A env h f b) : EvT prog w A env h (.BoolOp .And [e, f] pos) (a && b) := fun s E hs => by
  show wpAny (model prog w) A (do
    match BoolOp.And, ← isTrue e env (eval e env) with
    | .And, false => pure false
    | .Or, true => pure true
    | _, _ => (do
      match BoolOp.And, ← isTrue f env (eval f env) with
      | .And, false => pure false
      | .Or, true => pure true
      | _, _ => allTrue .And [] env)) _ E s
  refine wpAny_bind (wpAny_mono (x s E hs) (fun r s₁ q => ?_) fun _ _ q => q)
  obtain ⟨rfl, k⟩ := q
  cases r with
  | false => exact wpAny_pure ⟨rfl, k⟩
  | true =>
    refine wpAny_bind (wpAny_mono (y rfl s₁ E (hs.trans k.le)) (fun r s₂ q => ?_) fun _ _ q => q)
    obtain ⟨rfl, k2⟩ := q
    cases r with
    | false => exact wpAny_pure ⟨rfl, k.tr k2⟩
    | true => exact wpAny_pure ⟨rfl, k.tr k2⟩
theorem BinD.addS {x y : Str} (hsz : x.length + y.length ≤ sizeLine) : BinD prog w A .Add (.str x) (.str y) (.str (x ++ y)) := fun s S u v E ru rv => by
  (first | cases ru using RD.atomE | cases ru using RDs.nilE | cases ru using RD.strE | cases ru using RD.intE | cases ru); (first | cases rv using RD.atomE | cases rv using RDs.nilE | cases rv using RD.strE | cases rv using RD.intE | cases rv)
  exact PyProof.Rows.add_str (fun t' tk => ⟨.str _ _, Kp.tk s tk⟩) hsz
theorem BinD.mod {x y : Int} (hy : y ≠ 0) : BinD prog w A .Mod (.int x) (.int y) (.int (x.fmod y)) := fun s S u v E ru rv => by
  (first | cases ru using RD.atomE | cases ru using RDs.nilE | cases ru using RD.strE | cases ru using RD.intE | cases ru); (first | cases rv using RD.atomE | cases rv using RDs.nilE | cases rv using RD.strE | cases rv using RD.intE | cases rv)
  exact mod_int' hy ⟨.int _ _, Kp.tk s _⟩
theorem BinD.div {x y : Int} (hy : y ≠ 0) (hx : x.natAbs < 2 ^ 30) (hy' : y.natAbs < 2 ^ 30) : BinD prog w A .FloorDiv (.int x) (.int y) (.int (x.fdiv y)) := fun s S u v E ru rv => by
  (first | cases ru using RD.atomE | cases ru using RDs.nilE | cases ru using RD.strE | cases ru using RD.intE | cases ru); (first | cases rv using RD.atomE | cases rv using RDs.nilE | cases rv using RD.strE | cases rv using RD.intE | cases rv)
  exact floordiv_int hy ⟨.int _ _, Kp.tk s _⟩ (.inl (PyProof.noPylong_small (by omega)))
theorem CmpD.eqS {x y : Str} : CmpD prog w A .Eq (.str x) (.str y) (x == y) := fun s S u v E ru rv => by
  (first | cases ru using RD.atomE | cases ru using RDs.nilE | cases ru using RD.strE | cases ru using RD.intE | cases ru); (first | cases rv using RD.atomE | cases rv using RDs.nilE | cases rv using RD.strE | cases rv using RD.intE | cases rv)
  exact PyProof.Rows.eq_str ⟨rfl, Kp.refl s⟩
theorem CmpD.ltI {x y : Int} : CmpD prog w A .Lt (.int x) (.int y) (decide (x < y)) := fun s S u v E ru rv => by
  (first | cases ru using RD.atomE | cases ru using RDs.nilE | cases ru using RD.strE | cases ru using RD.intE | cases ru); (first | cases rv using RD.atomE | cases rv using RDs.nilE | cases rv using RD.strE | cases rv using RD.intE | cases rv)
  exact PyProof.Rows.lt_int ⟨rfl, Kp.refl s⟩
noncomputable def strsP (xs : List Str) : List PyData := xs.map .str
theorem strs_canLay (xs : List Str) (hx : ∀ x ∈ xs, PyData.strOk x = true) : PyData.canLayAll0 (strsP xs) = true := by
  induction xs with
  | nil => rfl
  | cons x xs ih =>
    simp only [strsP, List.map_cons, PyData.canLayAll0, PyData.canLay0, Bool.and_eq_true]
    exact ⟨hx x (.head _), ih fun y hy => hx y (.tail _ hy)⟩
theorem RDs.reads {h : Heap} {S : Addr → Prop} : ∀ {xs : List Str} {vs}, RDs h S vs (xs.map .str) → ReadsAll h vs (strsP xs) []
  | [], _, .nil => .nil
  | x :: xs, _, .cons a r => by
    cases a with
    | str _ t => exact ReadsAll.cons (Reads.str (h := h) x t) (RDs.reads r)
theorem strs_any (xs : List Str) (x : Str) : ((strsP xs).any fun y => PyData.eqv y (.str x)) = xs.contains x := by
  induction xs with
  | nil => rfl
  | cons y ys ih =>
    simp only [strsP, List.map_cons, List.any_cons, List.contains_cons] at ih ⊢
    rw [ih]
    congr 1
    simp only [PyData.eqv]
    rw [Bool.eq_iff_iff]; simp only [beq_iff_eq]; exact ⟨fun q => q.symm, fun q => q.symm⟩
theorem CmpD.notInS {x : Str} {xs : List Str} (hx : PyData.strOk x = true) (hxs : ∀ y ∈ xs, PyData.strOk y = true) (ok : OkA 0 A) : CmpD prog w A .NotIn (.str x) (.lst (xs.map .str)) (!xs.contains x) := fun s S u v E ru rv => by
  (first | cases ru using RD.atomE | cases ru using RDs.nilE | cases ru using RD.strE | cases ru using RD.intE | cases ru)
  cases rv using RD.lstE with
  | lst sa e c dd r =>
    refine SeqAt.notIn_list_reads (Reads.list e c dd r.reads) (Reads.str x _) (strs_canLay xs hxs) (by simpa [PyData.canLay0] using hx) ?_ ?_
    · have := ok.un
      have h1 := Nat.min_le_right (PyData.depthAll (strsP xs)) (PyData.depth (.str x))
      have h2 : PyData.depth (.str x) = 0 := by simp [PyData.depth]
      rw [h2] at h1 ⊢
      omega
    · rw [strs_any]; exact ⟨rfl, Kp.refl s⟩
end
inductive Bd : Expr → D → List (Str × D) → Prop
  | name {x p d} : Bd (.Name x p) d [(x, d)]
  | tup2 {x y p q k t d e} : x ≠ y → Bd (.Tuple [.Name x p, .Name y q] k t) (.tup [d, e]) [(x, d), (y, e)]
  | tup3 {x y z p q r k t d e f} : x ≠ y → x ≠ z → y ≠ z → Bd (.Tuple [.Name x p, .Name y q, .Name z r] k t) (.tup [d, e, f]) [(x, d), (y, e), (z, f)]
noncomputable def BdIn (h : Heap) (S : Addr → Prop) (m : Str → Option Value) (bs : List (Str × D)) : Prop := ∀ x d, (x, d) ∈ bs → ∃ v, m x = some v ∧ RD h S v d
section
variable {prog : Program} {w : World} {A : Around} {env : Env} {h : Heap} {S : Addr → Prop}
theorem owned_bd {tgt : Expr} {d : D} {bs : List (Str × D)} (b : Bd tgt d bs) {I l : Addr} {v : Value} {i : Nat} {s : Shared} {E : Value → Shared → Prop} {Q : Unit → Shared → Prop} (hit : s.heap.IsListIter I l i) (hv : RD s.heap S v d) (hQ : Q () s) :
    wpAny (model prog w) A (letOwnedTupleGo tgt (Value.ref I) v) Q E s := by
  cases b with
  | name => exact wpAny_pure hQ
  | tup2 => cases hv; exact wpAny_letOwnedTupleGo_listiter hit hQ
  | tup3 => cases hv; exact wpAny_letOwnedTupleGo_listiter hit hQ
theorem assign_bd {tgt : Expr} {d : D} {bs : List (Str × D)} (b : Bd tgt d bs) (hh : A.handled = none) (hk : env.scope.kind = .function) (hl : ∀ x d, (x, d) ∈ bs → env.kindOf x = some .local)
    {v : Value} {s : Shared} {m : Str → Option Value} {E : Value → Shared → Prop} {Q : Unit → Shared → Prop} (hm : s.heap.Ns env.locals m) (hv : RD s.heap S v d) (hL : ¬ S env.locals)
    (hQ : ∀ h' tk m', h'.Ns env.locals m' → BdIn h' S m' bs → (∀ y, (∀ d, (y, d) ∉ bs) → m' y = m y) → Heap.ExtBut env.locals s.heap h' → Q () { s with heap := h', toks := tk }) :
    wpAny (model prog w) A (assign tgt env v) Q E s := by
  have hp : (env.scope.kind == .class || (env.scope.kind == .module && env.locals != env.globals)) = false := by rw [hk]; rfl
  cases b with
  | name =>
    refine wpAny_assign_Name (wpAny_storeName_local (hl _ _ (.head _)) hm (fun h' hn hs => hQ h' _ _ hn ?_ ?_ hs.extBut) hp)
    · intro y e hy
      cases hy with
      | head => exact ⟨v, by simp, hv.but hs.extBut hL⟩
      | tail _ z => cases z
    · intro y hy
      rename_i x p
      have : y ≠ x := fun z => hy d (by rw [z]; exact .head _)
      simp [this]
  | tup2 hxy =>
    rename_i x y p q k t d e
    cases hv with
    | tup sa ea ca da r =>
      rename_i a o vs n
      cases hvs : vs.toList with
      | nil => rw [hvs] at r; cases r
      | cons v1 l1 =>
      rw [hvs] at r
      cases r using RDs.consE with
      | cons r1 r' =>
      cases r' using RDs.consE with
      | cons r2 r'' =>
      cases r'' with
      | nil =>
      rename_i v2
      refine assign_Tuple_tuple hh ⟨o, ea, ca, n, da⟩ (by show 2 = vs.size; rw [← Array.length_toList, hvs]; rfl) rfl fun h1 hx1 => ?_
      rw [hvs]
      show wpAny _ A (assignInOrder [assign (.Name x p) env, assign (.Name y q) env] [v1, v2]) Q E _
      have k1 : Le s.heap h1 := extNew hx1
      refine wpAny_bind (wpAny_holding (wpAny_assign_Name (wpAny_storeName_local (hl _ _ (.head _)) (hm.keeps k1) (fun h2 hn2 hs2 => ?_) hp)))
      refine wpAny_bind (wpAny_holding (wpAny_assign_Name (wpAny_storeName_local (hl _ _ (.tail _ (.head _))) hn2 (fun h3 hn3 hs3 => ?_) hp)))
      have x3 : Heap.ExtBut env.locals h1 h3 := fun b ob hb eb => hs3.extBut b ob hb (hs2.extBut b ob hb eb)
      refine wpAny_pure (hQ h3 _ _ hn3 ?_ ?_ fun b ob hb eb => x3 b ob hb (k1 b ob eb))
      · intro z dz hz
        cases hz with
        | head => exact ⟨v1, by simp [hxy], (r1.le k1).but x3 hL⟩
        | tail _ hz =>
          cases hz with
          | head => exact ⟨v2, by simp, (r2.le k1).but x3 hL⟩
          | tail _ hz => cases hz
      · intro z hz
        have h1 : z ≠ x := fun q => hz d (by rw [q]; exact .head _)
        have h2 : z ≠ y := fun q => hz e (by rw [q]; exact .tail _ (.head _))
        simp [h1, h2]
  | tup3 hxy hxz hyz =>
    rename_i x y z p q u k t d e f
    cases hv with
    | tup sa ea ca da r =>
      rename_i a o vs n
      cases hvs : vs.toList with
      | nil => rw [hvs] at r; cases r
      | cons v1 l1 =>
      rw [hvs] at r
      cases r using RDs.consE with
      | cons r1 r' =>
      cases r' using RDs.consE with
      | cons r2 r'' =>
      cases r'' using RDs.consE with
      | cons r3 r''' =>
      cases r''' with
      | nil =>
      rename_i v2 v3
      refine assign_Tuple_tuple hh ⟨o, ea, ca, n, da⟩ (by show 3 = vs.size; rw [← Array.length_toList, hvs]; rfl) rfl fun h1 hx1 => ?_
      rw [hvs]
      show wpAny _ A (assignInOrder [assign (.Name x p) env, assign (.Name y q) env, assign (.Name z u) env] [v1, v2, v3]) Q E _
      have k1 : Le s.heap h1 := extNew hx1
      refine wpAny_bind (wpAny_holding (wpAny_assign_Name (wpAny_storeName_local (hl _ _ (.head _)) (hm.keeps k1) (fun h2 hn2 hs2 => ?_) hp)))
      refine wpAny_bind (wpAny_holding (wpAny_assign_Name (wpAny_storeName_local (hl _ _ (.tail _ (.head _))) hn2 (fun h3 hn3 hs3 => ?_) hp)))
      refine wpAny_bind (wpAny_holding (wpAny_assign_Name (wpAny_storeName_local (hl _ _ (.tail _ (.tail _ (.head _)))) hn3 (fun h4 hn4 hs4 => ?_) hp)))
      have x3 : Heap.ExtBut env.locals h1 h4 := fun b ob hb eb => hs4.extBut b ob hb (hs3.extBut b ob hb (hs2.extBut b ob hb eb))
      refine wpAny_pure (hQ h4 _ _ hn4 ?_ ?_ fun b ob hb eb => x3 b ob hb (k1 b ob eb))
      · intro z' dz hz
        cases hz with
        | head => exact ⟨v1, by simp [hxy, hxz], (r1.le k1).but x3 hL⟩
        | tail _ hz =>
          cases hz with
          | head => exact ⟨v2, by simp [hyz], (r2.le k1).but x3 hL⟩
          | tail _ hz =>
            cases hz with
            | head => exact ⟨v3, by simp, (r3.le k1).but x3 hL⟩
            | tail _ hz => cases hz
      · intro z' hz
        have h1 : z' ≠ x := fun q => hz d (by rw [q]; exact .head _)
        have h2 : z' ≠ y := fun q => hz e (by rw [q]; exact .tail _ (.head _))
        have h3 : z' ≠ z := fun q => hz f (by rw [q]; exact .tail _ (.tail _ (.head _)))
        simp [h1, h2, h3]
end
section
variable {prog : Program} {w : World} {A : Around} {env : Env} {h : Heap} {S : Addr → Prop}
noncomputable def SrcL (prog : Program) (w : World) (A : Around) (env : Env) (h : Heap) (S : Addr → Prop) (e : Expr) (xs : List D) : Prop := ∀ (s : Shared) (E : Value → Shared → Prop), Le h s.heap →
  wpAny (model prog w) A (eval e env) (fun v s' => (∃ l vs, v = .ref l ∧ s'.heap.IsList l vs ∧ RDs s'.heap (Fr1 S s.heap) vs.toList xs) ∧ Kp s s') E s
theorem EvD.src {e : Expr} {xs : List D} (a : EvD prog w A env h S e (.lst xs)) : SrcL prog w A env h S e xs := fun s E hs => wpAny_mono (a s E hs) (fun v s' q => by
  obtain ⟨r, k⟩ := q
  cases r using RD.lstE with
  | lst sa ea ca da rr => exact ⟨⟨_, _, rfl, ⟨_, ea, ca, _, da⟩, rr⟩, k⟩) fun _ _ q => q
noncomputable def Tests (prog : Program) (w : World) (A : Around) (env : Env) (h : Heap) : List Expr → Bool → Prop
  | [], b => b = true
  | [c], b => EvT prog w A env h c b
  | _, _ => False
theorem Tests.run {ifs : List Expr} {b : Bool} (t : Tests prog w A env h ifs b) {s : Shared} {E : Value → Shared → Prop} (hs : Le h s.heap) {Q : Bool → Shared → Prop} (hQ : ∀ s', Kp s s' → Q b s') :
    wpAny (model prog w) A (forIn ifs true fun c r => if r = true then do let ok ← isTrue c env (eval c env); pure (ForInStep.yield ok) else pure (ForInStep.yield r)) Q E s := by
  cases ifs with
  | nil => cases (show b = true from t); exact wpAny_tests_nil (hQ s (Kp.refl s))
  | cons c r =>
    cases r with
    | nil => exact wpAny_tests_one (wpAny_mono (t s E hs) (fun r s' q => by obtain ⟨rfl, k⟩ := q; exact hQ s' k) fun _ _ q => q)
    | cons => exact t.elim
theorem comp_loop {elt target iter : Expr} {ifs : List Expr} {scope : Scope} {pos : Pos} {it acc : Value} {R : Result → Shared → Prop} {s : Shared} (I : Nat → Shared → Prop)
    (turn : ∀ n s, I n s → ∀ E : Value → Shared → Prop, wpAny (model prog w) A (pyNext it) (fun r s₁ => match r with
      | none => R (.ok .next) s₁
      | some v => wpAny (model prog w) A (letOwnedTupleGo target it v) (fun _ s₁' => wpAny (model prog w) A (assign target env v) (fun _ s₂ =>
          wpAny (model prog w) A (forIn ifs true fun c r => if r = true then do let ok ← isTrue c env (eval c env); pure (ForInStep.yield ok) else pure (ForInStep.yield r)) (fun ok s₃ =>
            if ok = true then wpAny (model prog w) A (eval elt env) (fun x s₄ =>
              wpAny (model prog w) A (call (.builtin "list.append") [acc, x]) (fun _ s₅ => ∃ m, m < n ∧ I m s₅) E s₄) E s₃
            else ∃ m, m < n ∧ I m s₃) E s₂) E s₁') E s₁) E s)
    (n : Nat) (h : I n s) : codeAny (model prog w) A (.compLoop (.ListComp elt [⟨target, iter, ifs, 0⟩] scope pos) 0 it acc env) R s := by
  refine codeAny_loop rfl I (fun n s hI => ?_) n h
  show wpAny _ A ((compTurn (.ListComp elt [⟨target, iter, ifs, 0⟩] scope pos) 0 it acc env).onRaise (fun x => do noteFrame x env; theTreesLotGoes x)) _ _ s
  refine wpAny_noted ?_
  rw [compTurn_list]
  refine wpAny_bind (wpAny_standAt (wpAny_bind (wpAny_mono (turn n s hI _) (fun r s₁ h₁ => ?_) fun _ _ h' => h')))
  cases r with
  | none => exact wpAny_pure h₁
  | some v =>
    refine wpAny_bind (wpAny_mono h₁ (fun _ s₁' h₁' => ?_) fun _ _ h' => h')
    refine wpAny_bind (wpAny_mono h₁' (fun _ s₂ h₂ => wpAny_bind (wpAny_mono h₂ (fun ok s₃ h₃ => ?_) fun _ _ h' => h')) fun _ _ h' => h')
    cases ok with
    | false => exact wpAny_pure ⟨rfl, h₃⟩
    | true =>
      exact wpAny_bind (wpAny_bind (wpAny_mono h₃ (fun x s₄ h₄ => wpAny_bind (wpAny_mono h₄ (fun _ s₅ h₅ => wpAny_pure (wpAny_pure ⟨rfl, h₅⟩)) fun _ _ h' => h')) fun _ _ h' => h'))
theorem size_none {h : Heap} {a : Addr} (k : h.objs.size ≤ a) : h.get? a = none := by
  cases q : h.get? a with
  | none => rfl
  | some o => exact absurd (Heap.lt_size q) (Nat.not_lt.mpr k)
theorem ltne {b I : Nat} (h : b < I) (k : Nat) : b ≠ I + k := by omega
theorem some_ne {α : Type} {x : Option α} {o : α} (e : x = some o) : x ≠ none := by rw [e]; exact fun z => nomatch z
noncomputable def EltOk (prog : Program) (w : World) (A : Around) (env : Env) (scope : Scope) (cl : List (Str × Addr)) (h : Heap) (S : Addr → Prop) (ifs : List Expr) (elt : Expr) (bs : List (Str × D)) (p : Bool) (g : D) : Prop :=
  ∀ (S' : Addr → Prop) (C : Addr) (h' : Heap) (m : Str → Option Value), Up h S S' → Le h h' → h'.Ns C m → BdIn h' S' m bs →
    Tests prog w A (compEnvC scope cl C env) h' ifs p ∧ (p = true → EvD prog w A (compEnvC scope cl C env) h' S' elt g)
theorem comp_block {elt target iter : Expr} {ifs : List Expr} {scope : Scope} {cl : List (Str × Addr)} {pos : Pos} {s s₁ : Shared} {l : Addr} {vs : Array Value} {xs : List D} {E : Value → Shared → Prop}
    (bd : D → List (Str × D)) (p : D → Bool) (g : D → D) {RR : Value → Addr → Result → Shared → Prop}
    (ok : OkA 0 A) (hcell : ∀ y ∈ scope.names, y.2 ≠ .cell) (hkind : scope.kind = .function) (hs : Le h s.heap) (hk1 : Kp s s₁)
    (hl : s₁.heap.IsList l vs) (hx : RDs s₁.heap (Fr1 S s.heap) vs.toList xs) (hb : ∀ d ∈ xs, Bd target d (bd d)) (hloc : ∀ d ∈ xs, ∀ x e, (x, e) ∈ bd d → scope.names.lookup x = some .local)
    (hel : ∀ d ∈ xs, EltOk prog w A env scope cl h S ifs elt (bd d) (p d) (g d)) (hsz : xs.length ≤ sizeLine)
    (hRR : ∀ D C s', s.heap.get? D = none → s.heap.get? C = none → D ≠ C → (∃ m, s'.heap.Ns C m) → (∃ ys, s'.heap.PlainList D ys ∧ RDs s'.heap (fun b => Fr1 S s.heap b ∧ b ≠ C) ys.toList ((xs.filter p).map g)) → Kp s s' → RR (.ref D) C (.ok .next) s') :
    wpAny (model prog w) A (pyIter (.ref l)) (fun it s₂ => wpAny (model prog w) A (newList []) (fun acc s₃ => wpAny (model prog w) A (newFunctionEnv scope env.globals cl [] env.qual none .none (some env)) (fun cenv s₄ =>
      codeAny (model prog w) A (.compStart (.ListComp elt [⟨target, iter, ifs, 0⟩] scope pos) 0 it acc { cenv with scope := relabel scope env }) (RR acc cenv.locals) s₄) E s₃) E s₂) E s₁ := by
  refine wpAny_pyIter_list hl ?_
  refine wpAny_newObj_type (wpAny_newFunctionEnv hcell (by intro y hy; simp at hy) (fun h₄ hns₄ hsb₄ => ?_) hkind)
  dsimp only at hns₄ hsb₄ ⊢
  have i0 : s₁.heap.get? s₁.heap.objs.size = none := new_none _
  generalize hI : s₁.heap.objs.size = I at *
  generalize hH2 : s₁.heap.push { cls := .type "list_iterator", data := .fields #[.ref l, .int 0 0] } = H2 at *
  have hH2s : H2.objs.size = I + 1 := by rw [← hH2, Heap.size_push, hI]
  rw [hH2s]
  generalize hH3 : H2.push { cls := .type "list", dict := none, data := .seq ([] : List Value).toArray } = H3 at *
  have hH3s : H3.objs.size = I + 2 := by rw [← hH3, Heap.size_push, hH2s]
  rw [hH3s] at hns₄ hsb₄ ⊢
  have k12 : Le s₁.heap H2 := fun b o e => by rw [← hH2]; exact Heap.get?_push_of_some _ e
  have k23 : Le H2 H3 := fun b o e => by rw [← hH3]; exact Heap.get?_push_of_some _ e
  have k34 : Le H3 h₄ := fun b o e => hsb₄.extBut b o (fun z => ltne (Heap.lt_size e) 0 (z.trans hH3s.symm)) (Heap.get?_push_of_some _ e)
  have k14 : Le s₁.heap h₄ := (k12.trans k23).trans k34
  have hit : h₄.IsListIter I l 0 := ⟨_, k34 _ _ (k23 _ _ (by rw [← hH2, ← hI]; exact Heap.get?_push_size _ (by rfl))), rfl, rfl⟩
  have hacc : h₄.PlainList (I + 1) #[] := ⟨0, k34 _ _ (by rw [← hH3, ← hH2s]; exact Heap.get?_push_size _ (by rfl))⟩
  have f1 : ∀ b, s₁.heap.get? b ≠ none → b < I := fun b q => by
    cases e : s₁.heap.get? b with
    | none => exact absurd e q
    | some o => rw [← hI]; exact Heap.lt_size e
  have fD : s.heap.get? (I + 1) = none := fresh_le hk1.le (size_none (by omega))
  have fC : s.heap.get? (I + 2) = none := fresh_le hk1.le (size_none (by omega))
  have fI : s.heap.get? I = none := fresh_le hk1.le (size_none (by omega))
  let S'' : Addr → Prop := fun b => Fr1 S s.heap b ∧ b ≠ I ∧ b ≠ I + 1 ∧ b ≠ I + 2
  have up1 : Up s₁.heap (Fr1 S s.heap) S'' := fun a sa qa => ⟨sa, ltne (f1 a qa) 0, ltne (f1 a qa) 1, ltne (f1 a qa) 2⟩
  have uph : Up h S S'' := fun a sa qa => by
    have q : s₁.heap.get? a ≠ none := fun z => qa (fresh_le (hs.trans hk1.le) z)
    exact up1 a (.inl sa) q
  let cenv := compEnvC scope cl (I + 2) env
  have hlen := hx.length
  have loop : ∀ s₃ : Shared, s₃ = { s₁ with heap := h₄, toks := s₁.toks + ([] : List (Str × Value)).length } →
      codeAny (model prog w) A (.compLoop (.ListComp elt [⟨target, iter, ifs, 0⟩] scope pos) 0 (.ref I) (.ref (I + 1)) cenv) (RR (.ref (I + 1)) (I + 2)) s₃ := by
    rintro s₃ rfl
    refine comp_loop (fun k s' => ∃ i h' tk m' ys, s' = { s₁ with heap := h', toks := tk } ∧ h'.IsListIter I l i ∧ Le s₁.heap h' ∧ h'.PlainList (I + 1) ys ∧
      RDs h' S'' ys.toList (((xs.take i).filter p).map g) ∧ h'.Ns (I + 2) m' ∧ i ≤ xs.length ∧ k = xs.length + 1 - i) ?_ (xs.length + 1)
      ⟨0, h₄, _, _, #[], rfl, hit, k14, hacc, by simpa using RDs.nil, hns₄, Nat.zero_le _, rfl⟩
    rintro k s' ⟨i, H, tk, m', ys, rfl, hit', kH, hD', hR', hN', hi, rfl⟩ E'
    have hlH : H.IsList l vs := hl.at fun o e => kH _ o e
    by_cases hlt : i < xs.length
    · have hvi : ∃ v, vs[i]? = some v ∧ RD s₁.heap (Fr1 S s.heap) v xs[i] := by
        obtain ⟨v, h1, h2⟩ := hx.get (i := i) (d := xs[i]) (by simp [hlt])
        exact ⟨v, by rw [← Array.getElem?_toList]; exact h1, h2⟩
      obtain ⟨v, hv, rv⟩ := hvi
      have hmem : xs[i] ∈ xs := List.getElem_mem hlt
      refine wpAny_pyNext_list_item hit' hlH hv fun h5 hit5 hs5 => ?_
      have k5 : Le s₁.heap h5 := fun b o e => hs5.extBut b o (ltne (f1 b (some_ne e)) 0) (kH b o e)
      have rv5 : RD h5 S'' v xs[i] := rv.up k5 up1
      refine owned_bd (hb _ hmem) hit5 rv5 ?_
      have hN5 : h5.Ns cenv.locals m' := hN'.sameBut hs5 (by show I + 2 ≠ I; omega)
      refine assign_bd (hb _ hmem) ok.hd (by show (relabel scope env).kind = .function; exact hkind) (fun x d hxd => by show (relabel scope env).names.lookup x = _; exact lookup_relabel_local (hloc _ hmem x d hxd)) hN5 rv5 (fun z => z.2.2.2 rfl) fun h6 tk6 m6 hn6 hb6 _ hx6 => ?_
      have k6 : Le s₁.heap h6 := fun b o e => hx6 b o (ltne (f1 b (some_ne e)) 2) (k5 b o e)
      have el := hel _ hmem S'' (I + 2) h6 m6 uph ((hs.trans hk1.le).trans k6) hn6 hb6
      have hD6 : h6.PlainList (I + 1) ys := (hD'.at fun o e => hs5.extBut _ o (Nat.succ_ne_self _) e).at fun o e => hx6 _ o (by show I + 1 ≠ I + 2; omega) e
      have hR6 : RDs h6 S'' ys.toList (((xs.take i).filter p).map g) := (hR'.but hs5.extBut fun z => z.2.1 rfl).but hx6 fun z => z.2.2.2 rfl
      have hit6 : h6.IsListIter I l (i + 1) := hit5.at fun o e => hx6 _ o (by show I ≠ I + 2; omega) e
      have htk : xs.take (i + 1) = xs.take i ++ [xs[i]] := by rw [List.take_add_one, List.getElem?_eq_getElem hlt]; rfl
      refine el.1.run (fun _ _ e => e) fun s7 k7 => ?_
      obtain ⟨k7, h7, tk7, rfl⟩ := k7
      cases hp : p xs[i] with
      | false =>
        simp only [Bool.false_eq_true, if_false]
        refine ⟨xs.length + 1 - (i + 1), by omega, i + 1, h7, tk7, m6, ys, rfl, hit6.at fun o e => k7 _ o e, k6.trans k7, hD6.at fun o e => k7 _ o e, ?_, hn6.keeps k7, hlt, rfl⟩
        rw [htk, List.filter_append]
        simpa [hp] using hR6.le k7
      | true =>
        simp only [if_true]
        refine wpAny_mono (el.2 hp _ E' k7) (fun x s8 q8 => ?_) fun _ _ q => q
        obtain ⟨r8, k8, h8, tk8, rfl⟩ := q8
        have k68 : Le h6 h8 := k7.trans k8
        have hys : ys.size ≤ sizeLine := by
          have e1 := hR6.length
          have e2 : ((xs.take i).filter p).length ≤ (xs.take i).length := List.length_filter_le _ _
          have e3 : (xs.take i).length = i := by rw [List.length_take]; omega
          have e4 : ys.toList.length = ys.size := by simp
          rw [List.length_map] at e1
          omega
        refine wpAny_list_append_plain (hsz := hys) (hD6.at fun o e => k68 _ o e) fun h9 hl9 hs9 => ?_
        have nD : ¬ S'' (I + 1) := fun z => z.2.2.1 rfl
        refine ⟨xs.length + 1 - (i + 1), by omega, i + 1, h9, tk8, m6, ys.push x, rfl, ?_, ?_, hl9, ?_, (hn6.keeps k68).sameBut hs9 (by show I + 2 ≠ I + 1; omega), hlt, rfl⟩
        · exact (hit6.at fun o e => k68 _ o e).at fun o e => hs9.extBut _ o (Nat.ne_of_lt (Nat.lt_succ_self _)) e
        · exact fun b o e => hs9.extBut b o (ltne (f1 b (some_ne e)) 1) (k68 b o (k6 b o e))
        · rw [htk, List.filter_append, List.map_append]
          have r9 : RD h9 S'' x (g xs[i]) := by
            refine RD.but hs9.extBut nD (r8.sub fun a z => ?_)
            rcases z with z | z
            · exact z
            · have z6 := fresh_le k7 z
              have ex : ∀ b o, h6.get? b = some o → a ≠ b := fun b o e q => by rw [← q, z6] at e; cases e
              obtain ⟨oi, ei, _⟩ := hit6
              obtain ⟨od, ed⟩ := hD6
              obtain ⟨oc, _, _, ec, _⟩ := hn6
              exact ⟨.inr (fresh_le ((hk1.le).trans k6) z6), ex _ _ ei, ex _ _ ed, ex _ _ ec⟩
          have := ((hR6.le k68).but hs9.extBut nD).append (RDs.one r9)
          simpa [hp] using this
    · have hin : i = xs.length := by omega
      subst hin
      refine wpAny_pyNext_list_end ok.hd hit' hlH (by rw [← Array.getElem?_toList]; exact List.getElem?_eq_none (by omega)) fun h5 hx5 => ?_
      have k5 : Le s₁.heap h5 := fun b o e => hx5 b o (ltne (f1 b (some_ne e)) 0) (kH b o e)
      rw [List.take_length] at hR'
      obtain ⟨kk, hh, tt, rfl⟩ := hk1
      refine hRR _ _ _ fD fC (Nat.ne_of_lt (Nat.lt_succ_self _)) ⟨m', hN'.at' fun o e => hx5 _ o (by show I + 2 ≠ I; omega) e⟩ ⟨ys, hD'.at fun o e => hx5 _ o (Nat.succ_ne_self _) e, (hR'.but hx5 fun z => z.2.1 rfl).sub fun a z => ⟨z.1, z.2.2.2⟩⟩ (Kp.of tk (kk.trans k5))
  exact codeAny_compStart_list (loop _ rfl) (wpAny_pyIter_listiter hit (loop _ rfl))
theorem EvD.comp {elt target iter : Expr} {ifs : List Expr} {scope : Scope} {cl : List (Str × Addr)} {pos : Pos} {xs : List D} (bd : D → List (Str × D)) (p : D → Bool) (g : D → D)
    (src : SrcL prog w A env h S iter xs) (ok : OkA 0 A) (hclos : closureFor scope env = pure cl) (hcell : ∀ y ∈ scope.names, y.2 ≠ .cell) (hkind : scope.kind = .function)
    (hnames : ∀ y ∈ scope.names, y.2 = .local → scope.names.lookup y.1 = some .local)
    (hb : ∀ d ∈ xs, Bd target d (bd d)) (hloc : ∀ d ∈ xs, ∀ x e, (x, e) ∈ bd d → scope.names.lookup x = some .local)
    (hel : ∀ d ∈ xs, EltOk prog w A env scope cl h S ifs elt (bd d) (p d) (g d)) (hsz : xs.length ≤ sizeLine)
    (hst : ∀ x, foldedSetIterable iter env x = pure x := by intro _; rfl) :
    EvD prog w A env h S (.ListComp elt [⟨target, iter, ifs, 0⟩] scope pos) (.lst ((xs.filter p).map g)) := fun s E hs => by
  rw [eval_ListComp]
  refine wpAny_comprehension_free (use := none) rfl hst hclos hkind hnames (wpAny_mono (src s E hs) (fun xv s₁ h₁ => ?_) fun _ _ e => e)
  obtain ⟨⟨l, vs, rfl, hl, r⟩, k1⟩ := h₁
  refine comp_block (RR := fun acc C => compPost (model prog w) A E none _ acc C) bd p g ok hcell hkind hs k1 hl r hb hloc hel hsz ?_
  intro D C s' hD hC hDC hn hy hk
  obtain ⟨m, hn⟩ := hn
  obtain ⟨ys, ⟨n, hp⟩, hr⟩ := hy
  refine ⟨m, hn, fun h'' hs'' => ⟨.lst (.inr hD) (hs''.extBut _ _ hDC hp) rfl rfl ((hr.but hs''.extBut fun z => z.2 rfl).sub fun _ z => z.1), ?_⟩⟩
  obtain ⟨kk, hh, tt, rfl⟩ := hk
  exact Kp.of tt fun b o e => hs''.extBut b o (fun z => by rw [z, hC] at e; cases e) (kk b o e)
theorem assign_comp {elt target iter : Expr} {ifs : List Expr} {scope : Scope} {cl : List (Str × Addr)} {pos spos py : Pos} {y : Str} {xs : List D} {s : Shared} {E : Value → Shared → Prop} {m : Str → Option Value} {Q : Flow → Shared → Prop} (bd : D → List (Str × D)) (p : D → Bool) (g : D → D)
    (hsw : swapsWith (.ListComp elt [⟨target, iter, ifs, 0⟩] scope pos) (some (.Name y py)) spos.line env = pure true)
    (src : SrcL prog w A env h S iter xs) (hs : Le h s.heap) (ok : OkA 0 A) (hclos : closureFor scope env = pure cl) (hcell : ∀ y ∈ scope.names, y.2 ≠ .cell) (hkind : scope.kind = .function)
    (hnames : ∀ y ∈ scope.names, y.2 = .local → scope.names.lookup y.1 = some .local)
    (hb : ∀ d ∈ xs, Bd target d (bd d)) (hloc : ∀ d ∈ xs, ∀ x e, (x, e) ∈ bd d → scope.names.lookup x = some .local)
    (hel : ∀ d ∈ xs, EltOk prog w A env scope cl h S ifs elt (bd d) (p d) (g d)) (hsz : xs.length ≤ sizeLine)
    (hy : env.kindOf y = some .local) (hp : (env.scope.kind == .class || (env.scope.kind == .module && env.locals != env.globals)) = false) (hm : s.heap.Ns env.locals m)
    (hQ : ∀ D h' tk, s.heap.get? D = none → RD h' (Fr1 S s.heap) (.ref D) (.lst ((xs.filter p).map g)) → h'.Ns env.locals (fun z => if z = y then some (.ref D) else m z) → (¬ S env.locals) → Heap.ExtBut env.locals s.heap h' → Q .next { s with heap := h', toks := tk })
    (hSL : ¬ S env.locals)
    (hst : ∀ x, foldedSetIterable iter env x = pure x := by intro _; rfl) :
    wpAny (model prog w) A (exec (.Assign [.Name y py] (.ListComp elt [⟨target, iter, ifs, 0⟩] scope pos) spos) env) Q E s := by
  rw [exec_Assign_Name_used _ _ _ _ hsw]
  refine wpAny_bind (wpAny_standAt (wpAny_bind ?_))
  show wpAny _ A (do let _ ← comprehension (.ListComp elt [⟨target, iter, ifs, 0⟩] scope pos) scope env _ (newList []) false (eval iter env) (some (assign (.Name y py) env))) _ _ s
  refine wpAny_bind (wpAny_mono (wpAny_comprehension_free (use := some (assign (.Name y py) env)) (Q := fun _ s' => Q .next s') rfl hst hclos hkind hnames
    (wpAny_mono (src s E hs) (fun xv s₁ h₁ => ?_) fun _ _ e => e)) (fun _ s' hq => wpAny_pure (wpAny_pure hq)) fun _ _ e => e)
  obtain ⟨⟨l, vs, rfl, hl, r⟩, k1⟩ := h₁
  refine comp_block (RR := fun acc C => compPost (model prog w) A E (some (assign (.Name y py) env)) (fun _ s' => Q .next s') acc C) bd p g ok hcell hkind hs k1 hl r hb hloc hel hsz ?_
  intro D C s' hD hC hDC hn hyy hk
  obtain ⟨m', hn⟩ := hn
  obtain ⟨ys, ⟨n, hpl⟩, hr⟩ := hyy
  have hLs : s.heap.get? env.locals ≠ none := by obtain ⟨o, _, _, ho, _⟩ := hm; rw [ho]; exact fun z => nomatch z
  have hLC : env.locals ≠ C := fun z => hLs (z ▸ hC)
  have hLD : env.locals ≠ D := fun z => hLs (z ▸ hD)
  show wpAny _ A (assign (.Name y py) env (.ref D)) _ _ _
  refine wpAny_assign_Name (wpAny_storeName_local hy (hm.keeps hk.le) (fun h₂ hn₂ hs₂ => ?_) hp)
  refine ⟨m', hn.sameBut hs₂ (Ne.symm hLC), fun h₃ hs₃ => ?_⟩
  obtain ⟨kk, hh, tt, rfl⟩ := hk
  have nS : ¬ (Fr1 S s.heap env.locals ∧ env.locals ≠ C) := fun z => z.1.elim hSL hLs
  refine hQ D h₃ _ hD (.lst (.inr hD) (hs₃.extBut _ _ hDC (hs₂.extBut _ _ (Ne.symm hLD) hpl)) rfl rfl (((hr.but hs₂.extBut nS).but hs₃.extBut fun z => z.2 rfl).sub fun _ z => z.1)) (hn₂.sameBut hs₃ hLC) hSL ?_
  exact fun b o hb e => hs₃.extBut b o (fun z => by rw [z, hC] at e; cases e) (hs₂.extBut b o hb (kk b o e))
end
section
variable {prog : Program} {w : World} {A : Around} {env : Env} {h : Heap} {S : Addr → Prop}
noncomputable def FnD (prog : Program) (w : World) (n : Nat) (h : Heap) (f : Addr) (ds : List D) (d : D) : Prop :=
  ∀ (A : Around) (S : Addr → Prop) (s : Shared) (vs : List Value), OkA n A → Le h s.heap → RDs s.heap S vs ds →
    codeAny (model prog w) A (.call (.ref f) ⟨vs, []⟩) (fun r s' => ∃ v, r = .ok (.ret v) ∧ RD s'.heap (Fr1 S s.heap) v d ∧ Kp s s') s
noncomputable def IsFn (h : Heap) (f : Addr) : Prop := ∃ o fd, h.get? f = some o ∧ o.data = .func fd
theorem EvD.call {x : Str} {p pos : Pos} {f : Addr} {args : List Expr} {ds : List D} {d : D} {n : Nat} (vf : Var env h x (.ref f)) (hf : IsFn h f) (a : EvDs prog w A env h S args ds) (hne : args ≠ []) (fn : FnD prog w n h f ds d) (ok : OkA n A)
    (hd : (x == ("__debug__" : Str)) = false := by decide) : EvD prog w A env h S (.Call (.Name x p) args [] pos) d := fun s E hs => by
  refine wpAny_Call_NameR (wpAny_Name (vf _ _ _ _ s hs ?_) hd)
  obtain ⟨o, fd, ho, hdat⟩ := hf
  refine callWith_function (o := o) (fd := fd) ?_
  cases args with
  | nil => exact absurd rfl hne
  | cons e es =>
    cases a with
    | cons a1 ar hn =>
    have a' : EvDs prog w A env h S (e :: es) _ := .cons a1 ar hn
    have q := a'.spliced (pos := pos) (E := E) hs (Q := fun vs s' => (s'.heap.get? f = some o ∧ o.data = .func fd) ∧ wpAny (model prog w) A (PySem.call (.ref f) ([] ++ vs) []) (fun v s'' => RD s''.heap (Fr1 S s.heap) v d ∧ Kp s s'') E s') fun vs s' r k => ⟨⟨hs.trans k.le _ _ ho, hdat⟩, ?_⟩
    · rw [starEach_cons hn] at q ⊢
      exact evalArgs_plain q
    · refine wpAny_call (codeAny_mono (fn A _ s' vs ok (hs.trans k.le) r) fun rr s'' z => ?_)
      obtain ⟨v, rfl, r2, k2⟩ := z
      exact ⟨r2.sub (fr1_fr1 k.le), k.tr k2⟩
theorem EvD.idxL {value slice : Expr} {pos : Pos} {ds : List D} {k : Int} {d : D} (x : SrcL prog w A env h S value ds) (y : EvD prog w A env h S slice (.int k)) (h0 : 0 ≤ k) (h1 : k < 2 ^ 63) (hk : ds[k.toNat]? = some d)
    (hs : ∀ o i, subscripted slice false o i = operate [o, i] (getItem o i) := by intro _ _; rfl) : EvD prog w A env h S (.Subscript value slice pos) d := fun s E hS => by
  refine Subscript_ (wpAny_mono (x s E hS) (fun o s₁ q => ?_) fun _ _ q => q)
  obtain ⟨⟨l, vs, rfl, hl, r⟩, k1⟩ := q
  refine wpAny_mono (y s₁ E (hS.trans k1.le)) (fun i s₂ q => ?_) fun _ _ q => q
  obtain ⟨ri, k2⟩ := q
  (first | cases ri using RD.atomE | cases ri using RDs.nilE | cases ri using RD.strE | cases ri using RD.intE | cases ri)
  have hl2 : s₂.heap.IsList l vs := hl.at fun o e => k2.le _ o e
  obtain ⟨v, hv, rv⟩ := r.get hk
  refine tail_any hl2.typeIs slot_list_getitem.lookup (wpAny_getItem_list hl2 h0 h1 (by rw [← Array.getElem?_toList]; exact hv) ⟨rv.le k2.le, k1.tr k2⟩) (hs _ _)
noncomputable def KeepBut (Mu : Addr → Prop) (h h' : Heap) : Prop := ∀ b o, ¬ Mu b → h.get? b = some o → h'.get? b = some o
theorem KeepBut.trans {Mu : Addr → Prop} {a b c : Heap} (x : KeepBut Mu a b) (y : KeepBut Mu b c) : KeepBut Mu a c := fun i o n e => y i o n (x i o n e)
theorem Le.keepBut {Mu : Addr → Prop} {a b : Heap} (x : Le a b) : KeepBut Mu a b := fun i o _ e => x i o e
theorem RDs.keepBut {Mu : Addr → Prop} {h h' : Heap} {S : Addr → Prop} (k : KeepBut Mu h h') (n : ∀ a, S a → ¬ Mu a) {v d} (x : RDs h S v d) : RDs h' S v d := x.mono (fun a o s e => k a o (n a s) e) fun _ s => s
theorem for_walk {tgt : Expr} {body : List Stmt} {I : Addr} {fp wr : List Addr} {n : Nat} {P : Nat → Value → Prop} {St : Nat → Heap → Prop} (W : Walks prog w A I fp wr n P St) {s₁ : Shared} (hst : St 0 s₁.heap)
    (Mu : Addr → Prop) (hfp : ∀ b ∈ fp, ¬ Mu b) (J : Nat → Shared → Prop) (j0 : J 0 s₁)
    (jst : ∀ i s h' tk, J i s → (∀ b o, b ∉ wr → s.heap.get? b = some o → h'.get? b = some o) → J i { s with heap := h', toks := tk })
    (ho : ∀ i v (s : Shared) (Q : Unit → Shared → Prop) (E : Value → Shared → Prop), P i v → St (i + 1) s.heap → Q () s → wpAny (model prog w) A (letOwnedTupleGo tgt (.ref I) v) Q E s)
    {R : Result → Shared → Prop}
    (turn : ∀ i v s, i < n → P i v → J i s → St (i + 1) s.heap → ∀ E, wpAny (model prog w) A (assign tgt env v) (fun _ s₂ => wpAny (model prog w) A (execs body env) (fun f s₃ => (f = .next ∨ f = .cont) ∧ J (i + 1) s₃ ∧ KeepBut Mu s.heap s₃.heap) E s₂) E s)
    (done : ∀ s, J n s → R (.ok .next) s) :
    codeAny (model prog w) A (.forLoop tgt (.ref I) body [] env) R s₁ := by
  refine codeAny_forLoop_any (fun k s => ∃ i, J i s ∧ St i s.heap ∧ i ≤ n ∧ k = n + 1 - i) ?_ (n + 1) ⟨0, j0, hst, Nat.zero_le _, rfl⟩
  rintro k s ⟨i, j, st, hi, rfl⟩
  by_cases hlt : i < n
  · refine W.item i s _ _ hlt st fun v h' tk hP st' hk => ?_
    have j' := jst i s h' tk j hk
    refine ho i v _ _ _ hP st' ?_
    refine wpAny_mono (turn i v _ hlt hP j' st' _) (fun _ s₂ q => wpAny_mono q (fun f s₃ q => ?_) fun _ _ q => q) fun _ _ q => q
    obtain ⟨hf, j3, k3⟩ := q
    have fin : ∃ m, m < n + 1 - i ∧ ∃ i', J i' s₃ ∧ St i' s₃.heap ∧ i' ≤ n ∧ m = n + 1 - i' :=
      ⟨n + 1 - (i + 1), by omega, i + 1, j3, W.frame _ _ _ st' fun b hb o e => k3 b o (hfp b hb) e, hlt, rfl⟩
    rcases hf with rfl | rfl <;> exact fin
  · have hin : i = n := by omega
    subst hin
    refine W.done s _ _ st fun h' tk hk => ?_
    exact wpAny_execs_nil (done _ (jst _ s h' tk j hk))
end
structure Frm (s₀ : Shared) (env : Env) (m cm : Str → Option Value) (s : Shared) : Prop where
  eq : ∃ h' tk, s = { s₀ with heap := h', toks := tk }
  keep : Le s₀.heap s.heap
  ns : s.heap.Ns env.locals m
  cell : ∀ n c, env.cells.lookup n = some c → s.heap.IsCell c (cm n)
  newL : s₀.heap.get? env.locals = none
  newC : ∀ n c, env.cells.lookup n = some c → s₀.heap.get? c = none ∧ c ≠ env.locals
  apart : env.cells.Pairwise fun x y => x.2 ≠ y.2
section
variable {prog : Program} {w : World} {M : Model} {A : Around} {E : Value → Shared → Prop} {s₀ s : Shared} {env : Env} {m cm : Str → Option Value}
theorem Frm.ofCall (x : InCallC s₀ env.locals m env.cells cm s) : Frm s₀ env m cm s := by
  have d := x.done
  obtain ⟨h', tk, e, k⟩ := d
  have hf := x.toInCall.fresh
  refine ⟨⟨h', tk, e⟩, by rw [e]; exact k, x.toInCall.ns, x.cell, size_none hf, fun n c hc => ?_, x.apart⟩
  have := x.above n c (mem_of_lookup hc)
  exact ⟨size_none (Nat.le_of_lt (Nat.lt_of_le_of_lt hf this)), Nat.ne_of_gt this⟩
theorem Frm.kpAll (F : Frm s₀ env m cm s) : Kp s₀ s := by obtain ⟨h', tk, e⟩ := F.eq; exact ⟨F.keep, h', tk, e⟩
theorem Frm.kp {s' : Shared} (F : Frm s₀ env m cm s) (k : Kp s s') : Frm s₀ env m cm s' := by
  refine ⟨(F.kpAll.tr k).eq, (F.kpAll.tr k).le, F.ns.keeps k.le, fun n c e => (F.cell n c e).keeps k.le, F.newL, F.newC, F.apart⟩
theorem Frm.lives (F : Frm s₀ env m cm s) : s.heap.get? env.locals ≠ none := by obtain ⟨o, _, _, e, _⟩ := F.ns; exact some_ne e
theorem Frm.but {a : Addr} {h' : Heap} (tk : Nat) (F : Frm s₀ env m cm s) (hs : Heap.ExtBut a s.heap h') (n0 : s₀.heap.get? a = none) (nL : a ≠ env.locals) (nC : ∀ n c, env.cells.lookup n = some c → a ≠ c) :
    Frm s₀ env m cm { s with heap := h', toks := tk } := by
  obtain ⟨h, t, e⟩ := F.eq
  subst e
  refine ⟨⟨h', tk, rfl⟩, fun b o e => hs b o (fun z => by rw [z, n0] at e; cases e) (F.keep b o e), F.ns.at' fun o e => hs _ o (Ne.symm nL) e, fun n c e => ?_, F.newL, F.newC, F.apart⟩
  obtain ⟨o, ho, hd⟩ := F.cell n c e
  exact ⟨o, hs c o (Ne.symm (nC n c e)) ho, hd⟩
theorem Frm.storeL {x : Str} {v : Value} {Q : Unit → Shared → Prop} (F : Frm s₀ env m cm s) (hk : env.scope.kind = .function) (hl : env.kindOf x = some .local)
    (hQ : ∀ h' tk, Frm s₀ env (fun y => if y = x then some v else m y) cm { s with heap := h', toks := tk } → Heap.ExtBut env.locals s.heap h' → Q () { s with heap := h', toks := tk }) : wpAny M A (storeName env x v) Q E s := by
  have hp : (env.scope.kind == .class || (env.scope.kind == .module && env.locals != env.globals)) = false := by rw [hk]; rfl
  refine wpAny_storeName_local hl F.ns (fun h' hn hs => hQ h' _ ?_ hs.extBut) hp
  obtain ⟨h, t, e⟩ := F.eq
  subst e
  refine ⟨⟨h', _, rfl⟩, fun b o e => hs.extBut b o (fun z => by rw [z, F.newL] at e; cases e) (F.keep b o e), hn, fun n c e => (F.cell n c e).sameBut hs (F.newC n c e).2, F.newL, F.newC, F.apart⟩
theorem Frm.loc (F : Frm s₀ env m cm s) {x : Str} {v : Value} (hk : env.scope.kind = .function) (hx : env.kindOf x = some .local) (hv : m x = some v) : Var env s.heap x v :=
  fun M A E Q s hs q => wpAny_loadName_local hk hx (F.ns.keeps hs) hv q
theorem Frm.celV (F : Frm s₀ env m cm s) {x : Str} {v : Value} {c : Addr} (hk : env.scope.kind = .function) (hx : env.kindOf x = some .cell) (hc : env.cells.lookup x = some c) (hv : cm x = some v) : Var env s.heap x v :=
  fun M A E Q s hs q => wpAny_loadName_cell hk hx hc ((hv ▸ F.cell x c hc).keeps hs) q
theorem exec_append {o elt : Expr} {p apos cpos epos : Pos} {x : Str} {dl : Addr} {its : Array Value} {d : D} {h : Heap} {S : Addr → Prop} {Q : Flow → Shared → Prop}
    (v : Var env s.heap x (.ref dl)) (hl : s.heap.PlainList dl its) (e : EvD prog w A env s.heap S elt d) (hsz : its.size ≤ sizeLine)
    (hQ : ∀ y h' tk, Heap.ExtBut dl s.heap h' → h'.PlainList dl (its.push y) → (∀ S' : Addr → Prop, (∀ a, Fr1 S s.heap a → a ≠ dl → S' a) → ¬ S dl → RD h' S' y d) → Q .next { s with heap := h', toks := tk })
    (hbase : attributeBase (.Name x p) "append" env (eval (.Name x p) env) = eval (.Name x p) env) (hstar : isStar elt = false) (hline : (apos.endLine == cpos.line) = true) (hi : interactive env = false)
    (hsw : swapsWith (.Call (.Attribute (.Name x p) "append" apos) [elt] [] cpos) none epos.line env = pure false) (hd : (x == ("__debug__" : Str)) = false := by decide) :
    wpAny (model prog w) A (exec (.Expr (.Call (.Attribute (.Name x p) "append" apos) [elt] [] cpos) epos) env) Q E s := by
  have htr : backTo cpos (starEach [elt] env) = [(false, eval elt env)] := by rw [starEach_cons hstar]; rfl
  refine wpAny_Expr (wpAny_Call_append hbase (by rw [htr]; rfl) hline htr (wpAny_Name (v _ _ _ _ s (fun _ _ e => e) ⟨dl, its, rfl, (let ⟨n, e⟩ := hl; ⟨_, n, e, rfl, rfl, rfl⟩), ?_⟩) hd)) hi hsw
  refine wpAny_mono (e s E fun _ _ e => e) (fun y s₂ q => ?_) fun _ _ q => q
  obtain ⟨r, k⟩ := q
  obtain ⟨k, h2, tk, rfl⟩ := k
  refine wpAny_list_append_plain (hsz := hsz) (hl.at fun o e => k _ o e) fun h' hl' hs' => ?_
  refine hQ y h' tk (fun b o hb e => hs'.extBut b o hb (k b o e)) hl' fun S' up nD => ?_
  have hD : s.heap.get? dl ≠ none := by obtain ⟨n, e⟩ := hl; exact some_ne e
  have r' : RD h2 (fun a => Fr1 S s.heap a ∧ a ≠ dl) y d := r.sub fun a z => ⟨z, fun q => by rw [q] at z; exact z.elim nD hD⟩
  exact (r'.but hs'.extBut fun z => z.2 rfl).sub fun a z => up a z.1 z.2
end
noncomputable def fdOf (name : Str) (n code : Nat) : FuncData :=
  { name, qualname := name, params := fparams (stOf n), body := .stmts (fbody (stOf n)), scope := fscope (stOf n), globals := mainGlobals, closure := [], defaults := .none, kwdefaults := .none,
    doc := .none, pyModule := .str "law_il0121_02" 617, annotations := none, code := .ref code, closureTuple := .none, builtins := builtinsNs }
noncomputable abbrev K01 (w : World) : Frag := KF w.params
theorem K_thing (w : World) : (K01 w).lookup 267 = some ⟨.type "function", none, .func (fdOf "_law_thing" 13 266), #[]⟩ := by kernel_rfl
theorem K_things (w : World) : (K01 w).lookup 272 = some ⟨.type "function", none, .func (fdOf "_law_things" 14 271), #[]⟩ := by kernel_rfl
theorem K_written (w : World) : (K01 w).lookup 279 = some ⟨.type "function", none, .func (fdOf "_law_written" 15 278), #[]⟩ := by kernel_rfl
theorem K_setting (w : World) : (K01 w).lookup 286 = some ⟨.type "function", none, .func (fdOf "_law_setting" 16 285), #[]⟩ := by kernel_rfl
theorem K_due (w : World) : (K01 w).lookup 291 = some ⟨.type "function", none, .func (fdOf "_law_due" 17 290), #[]⟩ := by kernel_rfl
theorem K_run (w : World) : (K01 w).lookup 296 = some ⟨.type "function", none, .func (fdOf "_law_run" 18 295), #[]⟩ := by kernel_rfl
theorem K_law (w : World) : (K01 w).lookup 301 = some ⟨.type "function", none, .func (fdOf "law" 19 300), #[]⟩ := by kernel_rfl
noncomputable def codeRecB (K : Frag) (c : Nat) (q : Str) : Bool := match K.lookup c with
  | some ⟨_, _, .fields vs, _⟩ => (match vs.toList with | _ :: .str n _ :: _ => n == q | _ => false)
  | _ => false
theorem codeRec_B {K : Frag} {h : Heap} (X : K.In h) {c : Nat} {q : Str} (e : codeRecB K c q = true) : h.CodeRec (.ref c) q := codeRec_of X (cd := .ref c) e
structure TopH (w : World) (h : Heap) : Prop where
  K : (K01 w).In h
  g : ∃ mg, h.Ns mainGlobals mg
  b : ∃ mb, h.Ns builtinsNs mb ∧ ∀ x : Str, x ≠ "__name__" → mb x = bootBuiltins x
  nl : h.NoLimit
theorem TopH.mono {w : World} {h h' : Heap} (T : TopH w h) (k : Le h h') : TopH w h' :=
  ⟨T.K.keeps k, let ⟨m, x⟩ := T.g; ⟨m, x.keeps k⟩, let ⟨m, x, y⟩ := T.b; ⟨m, x.keeps k, y⟩, T.nl.keeps k⟩
theorem Var.glob {w : World} {h : Heap} {env : Env} {x : Str} {v : Value} (T : TopH w h) (hk : env.scope.kind = .function) (hx : env.kindOf x = some .globalImplicit) (hg : env.globals = mainGlobals)
    (e : nsIn (K01 w) mainGlobals x = some (some v)) : Var env h x v := fun M A E Q s hs q => by
  obtain ⟨mg, hm⟩ := T.g
  have hm' := hm.keeps hs
  rw [loadName_read hk hx]
  exact loadGlobal_global (by rw [hg]; exact hm') (mg_of (T.K.keeps hs) hm' e) q
theorem Var.bi {w : World} {h : Heap} {env : Env} {x : Str} {v : Value} (T : TopH w h) (hk : env.scope.kind = .function) (hx : env.kindOf x = some .globalImplicit) (hg : env.globals = mainGlobals) (hb : env.builtins = builtinsNs)
    (e : nsIn (K01 w) mainGlobals x = some none) (hn : x ≠ "__name__") (hv : bootBuiltins x = some v) : Var env h x v := fun M A E Q s hs q => by
  obtain ⟨mg, hm⟩ := T.g
  obtain ⟨mb, hb1, hb2⟩ := T.b
  have hm' := hm.keeps hs
  rw [loadName_read hk hx]
  exact loadGlobal_builtin (by rw [hg]; exact hm') (ns_none_of (T.K.keeps hs) hm' e) (by rw [hb]; exact hb1.keeps hs) ((hb2 x hn).trans hv) q
theorem Var.loc {h : Heap} {env : Env} {x : Str} {v : Value} {m : Str → Option Value} (hk : env.scope.kind = .function) (hx : env.kindOf x = some .local) (hm : h.Ns env.locals m) (hv : m x = some v) : Var env h x v :=
  fun M A E Q s hs q => wpAny_loadName_local hk hx (hm.keeps hs) hv q
theorem Var.cell {h : Heap} {env : Env} {x : Str} {v : Value} {c : Addr} (hk : env.scope.kind = .function) (hx : env.kindOf x = some .cell) (hc : env.cells.lookup x = some c) (hv : h.IsCell c (some v)) : Var env h x v :=
  fun M A E Q s hs q => wpAny_loadName_cell hk hx hc (hv.keeps hs) q
theorem call_fn {w : World} {A : Around} {s : Shared} {f : Addr} {fd : FuncData} {vals : List Value} {binds : List (Str × Value)} {R : Result → Shared → Prop} (body : List Stmt) (hroom : A.depth < recursionLimit) (T : TopH w s.heap)
    (ho : (K01 w).lookup f = some ⟨.type "function", none, .func fd, #[]⟩) (code : Nat) (hcode : fd.code = .ref code) (hcd : codeRecB (K01 w) code fd.qualname = true) (hbody : fd.body = .stmts body) (hbind : bindArgs fd ⟨vals, []⟩ = pure binds) (hclo : fd.closure = [])
    (hkind : ∀ x ∈ binds, fd.scope.names.lookup x.1 = some .local ∨ (fd.scope.names.lookup x.1 = some .cell ∧ ((cellsFrom (s.heap.objs.size + 1) fd.scope.names []).lookup x.1).isSome = true))
    (h : ∀ s₁, InCallC s (callEnvC fd s.heap.objs.size f).locals (bindL (callEnvC fd s.heap.objs.size f).kindOf binds fun _ => none) (callEnvC fd s.heap.objs.size f).cells
        (bindC (callEnvC fd s.heap.objs.size f).kindOf binds fun _ => none) s₁ → Kp s s₁ →
      wpAny (model PySem.Challenge.pw_il0121_02 w) (A.deeper (callEnvC fd s.heap.objs.size f)) (execs body (callEnvC fd s.heap.objs.size f)) (fun f s' => R (.ok (.ret (match f with | .ret v => v | _ => .none))) s') (fun _ _ => False) s₁)
    (hco : fd.scope.isCoroutine = false := by rfl) (hgen : fd.scope.isGenerator = false := by rfl) (hk : fd.scope.kind = .function := by rfl) :
    codeAny (model PySem.Challenge.pw_il0121_02 w) A (.call (.ref f) ⟨vals, []⟩) R s := by
  refine codeAny_call_cells hroom (T.K _ _ ho) rfl T.nl (by rw [hcode]; exact codeRec_B T.K hcd) hbody hbind hclo hkind (fun s₁ X => ?_) hco hgen hk
  obtain ⟨h', tk, e, k⟩ := X.done
  exact wpAny_mono (h s₁ X (by rw [e]; exact Kp.of tk k)) (fun _ _ q => q) fun _ _ q => q.elim
noncomputable def names8 : List Str := ["a", "b", "c", "d"]
theorem names8_ok : ∀ x ∈ names8, PyData.strOk x = true := by decide +kernel
theorem relabel_free {env : Env} {scope : Scope} {x : Str} (hsk : env.scope.kind = .function) (hfk : env.kindOf x = some .cell) (hl : scope.names.lookup x = some .free) : (relabel scope env).names.lookup x = some .cell := by
  have go : ∀ names : List (Str × NameKind), names.lookup x = some .free →
      (names.map fun (n, k) => if (k == NameKind.free && env.scope.kind == .function && env.kindOf n == some .cell) then (n, NameKind.cell) else (n, k)).lookup x = some .cell := by
    intro names
    induction names with
    | nil => intro h; simp at h
    | cons nk r ih =>
      obtain ⟨n, k⟩ := nk
      intro h
      cases hx : x == n with
      | true =>
        have hxn : x = n := by simpa using hx
        subst hxn
        simp only [List.lookup_cons, beq_self_eq_true] at h
        cases h
        simp [List.lookup_cons, hsk, hfk]
      | false =>
        simp only [List.lookup_cons, hx] at h
        have := ih h
        show List.lookup x ((if (k == NameKind.free && env.scope.kind == .function && env.kindOf n == some .cell) = true then (n, NameKind.cell) else (n, k)) :: _) = _
        split
        · simp only [List.lookup_cons, hx]; exact this
        · simp only [List.lookup_cons, hx]; exact this
  exact go _ hl
theorem EvD.congr {prog : Program} {w : World} {A : Around} {env : Env} {h : Heap} {S : Addr → Prop} {e : Expr} {d d' : D} (x : EvD prog w A env h S e d) (q : d = d') : EvD prog w A env h S e d' := q ▸ x
theorem EvT.congr {prog : Program} {w : World} {A : Around} {env : Env} {h : Heap} {e : Expr} {d d' : Bool} (x : EvT prog w A env h e d) (q : d = d') : EvT prog w A env h e d' := q ▸ x
theorem nodup_len {α : Type} [BEq α] [LawfulBEq α] : ∀ {l m : List α}, l.Nodup → (∀ x ∈ l, x ∈ m) → l.length ≤ m.length
  | [], _, _, _ => Nat.zero_le _
  | x :: l, m, h, k => by
    rw [List.nodup_cons] at h
    have hx : x ∈ m := k x (.head _)
    have := nodup_len (m := m.erase x) h.2 fun y hy => by
      have : y ≠ x := fun z => h.1 (z ▸ hy)
      exact (List.mem_erase_of_ne this).mpr (k y (.tail _ hy))
    rw [List.length_erase_of_mem hx] at this
    have hp : 0 < m.length := List.length_pos_of_mem hx
    simp only [List.length_cons]; omega
theorem take_succ {α : Type} {xs : List α} {i : Nat} {d : α} (h : xs[i]? = some d) : xs.take (i + 1) = xs.take i ++ [d] := by
  rw [List.take_add_one, h]; rfl
theorem map_at {α β : Type} {f : α → β} {xs : List α} {i : Nat} {d : β} (h : (xs.map f)[i]? = some d) : ∃ x, xs[i]? = some x ∧ d = f x := by
  rw [List.getElem?_map] at h
  cases q : xs[i]? with
  | none => rw [q] at h; cases h
  | some x => rw [q] at h; exact ⟨x, rfl, by cases h; rfl⟩
theorem EvD.len {prog : Program} {w : World} {A : Around} {env : Env} {h : Heap} {S : Addr → Prop} {e : Expr} {p pos : Pos} {xs : List D} (vl : Var env h "len" (.builtin "len")) (src : SrcL prog w A env h S e xs) (hn : isStar e = false) (hsz : xs.length ≤ sizeLine) :
    EvD prog w A env h S (.Call (.Name "len" p) [e] [] pos) (.int xs.length) := fun s E hs => by
  refine wpAny_Call_NameR (wpAny_Name (vl _ _ _ _ s hs ?_) (by decide))
  have he : backTo pos (starEach [e] env) = [(false, eval e env)] := by rw [starEach_cons hn]; rfl
  rw [he]
  refine Calls.callWith_builtin rfl (Calls.evalArgs_plain (Calls.spliced_cons (wpAny_mono (src s E hs) (fun v s₁ h₁ => Calls.spliced_nil ?_) fun _ _ e => e)))
  obtain ⟨⟨l, vs, rfl, hl, r⟩, k⟩ := h₁
  have hlen := r.length
  have e1 : vs.size = xs.length := by rw [← hlen, Array.length_toList]
  refine call_len_list hl (by rw [e1]; have : sizeLine < 2 ^ 63 := by decide
                              omega) ?_
  rw [e1]
  exact ⟨.int _ _, k.tr (Kp.tk _ _)⟩
theorem upd_ne {m : Str → Option Value} {x y : Str} {v : Value} {r : Option Value} (h : m y = r) (n : y ≠ x) : (fun z => if z = x then some v else m z) y = r := by simp [n, h]
theorem upd_eq {m : Str → Option Value} {x : Str} {v : Value} : (fun z => if z = x then some v else m z) x = some v := by simp
theorem BinD.addL {prog : Program} {w : World} {A : Around} {xs ys : List D} (hsz : xs.length + ys.length ≤ sizeLine) : BinD prog w A .Add (.lst xs) (.lst ys) (.lst (xs ++ ys)) := fun s S u v E ru rv => by
  cases ru using RD.lstE with
  | lst sa ea ca da ra =>
  cases rv using RD.lstE with
  | lst sb eb cb db rb =>
  rename_i a oa va na b ob vb nb
  obtain ⟨cl1, dd1, data1, sl1⟩ := oa
  obtain ⟨cl2, dd2, data2, sl2⟩ := ob
  simp only at ca da cb db
  subst ca da cb db
  have e1 := ra.length
  have e2 := rb.length
  have q1 : va.size = xs.length := by rw [← e1, Array.length_toList]
  have q2 : vb.size = ys.length := by rw [← e2, Array.length_toList]
  have hs : va.size + vb.size ≤ sizeLine := by rw [q1, q2]; exact hsz
  have kk : Le s.heap (s.heap.push { cls := .type "list", data := .seq (va ++ vb) }) := fun b o e => Heap.get?_push_of_some _ e
  refine concat_meets ⟨_, ea, rfl⟩ ⟨_, eb, rfl⟩ noFill_list_add seq_list_add PySem.F.slot_list_add PySem.F.entry_list_add (PySem.F.args_list_add_2 _ _) (list_addW a b va vb na nb dd1 dd2 sl1 sl2 hs) ⟨ea, eb, ?_⟩
  refine ⟨.lst (.inr (new_none _)) (Heap.get?_push_size _ rfl) rfl rfl ?_, Kp.of' kk⟩
  rw [Array.toList_append]
  exact ((ra.append rb).le kk).sub fun _ z => .inl z
theorem filter_yes {α : Type} (xs : List α) : xs.filter (fun _ => true) = xs := List.filter_eq_self.mpr fun _ _ => rfl
theorem litA {M : Model} {α : Type} {A : Around} {t : Sem α} {Q : α → Shared → Prop} {E : Value → Shared → Prop} {s : Shared} (ok : OkA 100 A)
    (h : ∀ l g, wpAny M ⟨none, 900, some l, some g, 8600⟩ t Q E s) : wpAny M A t Q E s := fun Γ p hΓ => by
  refine h (Γ.code.envs ++ envsOf Γ.below) (Γ.code.guards ++ guardsOf Γ.below) Γ p ⟨hΓ.1.trans ok.hd, ?_, ?_, ?_, ?_⟩
  · have := ok.dp; have := hΓ.2.1; simp only [recursionLimit] at *; omega
  · intro l hl; cases hl; rfl
  · intro l hl; cases hl; rfl
  · have := ok.un; have := hΓ.2.2.2.2; simp only [cLine] at *; omega
section
variable {s : Shared} {h' : Heap} {t : Nat} {news : List (Addr × Obj)}
theorem mem_at (D : X.Mem s.heap h' [] news) (i : Nat) {a : Addr} {o : Obj} (e : news[i]? = some (a, o)) : h'.get? a = some o ∧ s.heap.get? a = none := D.nw _ (List.mem_of_getElem? e)
theorem mem_kp (D : X.Mem s.heap h' [] news) : Kp s ⟨h', s.gens, s.drawn, t, s.os⟩ := Kp.of t fun b o q => D.keep b o q (by simp [X.away])
theorem mem_gt (D : X.Mem s.heap h' [] news) {i j : Nat} {a b : Addr} {o u : Obj} (e : news[i]? = some (a, o)) (f : news[j]? = some (b, u)) (hij : i < j) : b < a := by
  have := List.pairwise_iff_getElem.mp D.ord i j (by rw [List.length_map]; exact (List.getElem?_eq_some_iff.mp e).1) (by rw [List.length_map]; exact (List.getElem?_eq_some_iff.mp f).1) hij
  rw [List.getElem_map, List.getElem_map, (List.getElem?_eq_some_iff.mp e).2, (List.getElem?_eq_some_iff.mp f).2] at this
  exact this
noncomputable def PostBook (s : Shared) (v : Value) (s' : Shared) : Prop := ∃ b bd, v = .ref b ∧ s'.heap.get? b = some ⟨.ref 162, some bd, .dict #[] 0, #[some (.type "list")]⟩ ∧ s'.heap.get? bd = some ⟨.type "dict", none, .dict #[] 0, #[]⟩ ∧
  s.heap.get? b = none ∧ s.heap.get? bd = none ∧ bd < b ∧ Kp s s'
theorem post_book {b bd : Addr} (D : X.Mem s.heap h' [] news) (e1 : news[0]? = some (b, ⟨.ref 162, some bd, .dict #[] 0, #[some (.type "list")]⟩)) (e2 : news[1]? = some (bd, ⟨.type "dict", none, .dict #[] 0, #[]⟩)) :
    PostBook s (.ref b) ⟨h', s.gens, s.drawn, t, s.os⟩ := by
  have h1 := mem_at D 0 e1
  have h2 := mem_at D 1 e2
  exact ⟨b, bd, rfl, h1.1, h2.1, h1.2, h2.2, mem_gt D e1 e2 (by decide), mem_kp D⟩
noncomputable def PostPair (s : Shared) (x y : Str) (v : Value) (s' : Shared) : Prop := ∃ a d tx ty n, v = .ref a ∧ s'.heap.get? a = some ⟨.ref 257, some d, .seq #[.str x tx, .str y ty] n, #[]⟩ ∧ s'.heap.get? d = some ⟨.type "dict", none, .dict #[] 0, #[]⟩ ∧ s.heap.get? a = none ∧ s.heap.get? d = none ∧ Kp s s'
theorem post_pair {x y : Str} {tx ty : Tok} {a d : Addr} {n : Nat} (D : X.Mem s.heap h' [] news) (e1 : news[0]? = some (a, ⟨.ref 257, some d, .seq #[.str x tx, .str y ty] n, #[]⟩)) (e2 : news[1]? = some (d, ⟨.type "dict", none, .dict #[] 0, #[]⟩)) :
    PostPair s x y (.ref a) ⟨h', s.gens, s.drawn, t, s.os⟩ := by
  have h1 := mem_at D 0 e1
  have h2 := mem_at D 1 e2
  exact ⟨a, d, tx, ty, n, rfl, h1.1, h2.1, h1.2, h2.2, mem_kp D⟩
noncomputable def PostVal (s : Shared) (u v : Value) (s' : Shared) : Prop := v = u ∧ Kp s s'
theorem post_val {u v : Value} (D : X.Mem s.heap h' [] news) (e : v = u) : PostVal s u v ⟨h', s.gens, s.drawn, t, s.os⟩ := ⟨e, mem_kp D⟩
end
section
variable {w : World} {A : Around} {s : Shared} {E : Value → Shared → Prop}
local macro_rules | `(tactic| x_close) => `(tactic| exact post_book (by assumption) rfl rfl)
theorem mk_book (X : (KF w.params).In s.heap) (ok : OkA 100 A) : wpAny (model pw w) A (PySem.call (.ref 162) [.type "list"]) (PostBook s) E s := by
  refine litA ok fun l g => ?_
  x_run
end
theorem inNil (h : Heap) : Frag.In [] h := fun _ _ e => nomatch e
theorem nil_tga : findIn [] (.type "type") "__getattribute__" = some (some (.builtin "type.__getattribute__")) := by decide +kernel
section
variable {prog : Program} {w : World} {A : Around} {E : Value → Shared → Prop} {s : Shared} {env : Env}
theorem getAttr_type {T : String} {name : Str} {v : Value} {expr : Bool} {Q : Value → Shared → Prop} (ht : typeOf (.type T) = pure (.type "type")) (hs : Manifest.isStub T = false)
    (e : findCls [] (.type T) (.type "type") name = some (.val v)) (hh : handedIn v = true) (h : Q v { s with toks := s.toks + 1 }) : wpAny (model prog w) A (getAttr (.type T) name expr) Q E s := by
  have LO : Looks (model prog w) s.heap (opaqueClassAbove (.type T)) none := Looks.of_pure (by unfold opaqueClassAbove; dsimp only; rw [hs]; rfl)
  refine cls_open (inNil _) LO (Looks.of_pure ht) nil_tga (looks_hook (K := []) (inNil _) (r := none) (by rfl)) (by show subIn [] _ _ = _; rfl) e (wpAny_pure ?_)
  exact handed_on hh h
theorem getMethod_type {T : String} {name : Str} {v : Value} {pl : Sem Bool} {Q : Value × List Value → Shared → Prop} (ht : typeOf (.type T) = pure (.type "type")) (hs : Manifest.isStub T = false)
    (e : findCls [] (.type T) (.type "type") name = some (.val v)) (hh : handedIn v = true) (h : Q (v, []) { s with toks := s.toks + 1 }) : wpAny (model prog w) A (getMethod (.type T) name pl) Q E s := by
  have L0 : Looks (model prog w) s.heap (typeOf (.type T)) (.type "type") := Looks.of_pure ht
  unfold getMethod specialOf
  refine wpAny_bind (wpAny_bind (L0.here ((looks_findIn (inNil _) nil_tga).here ?_)))
  dsimp only
  rw [if_pos canon_tga]
  exact wpAny_bind (getAttr_type ht hs e hh (wpAny_pure h))
theorem tgi1 : typeOf (.type "tuple") = pure (.type "type") := by kernel_rfl
theorem tgi2 : Manifest.isStub "tuple" = false := by decide +kernel
theorem tgi4 : handedIn (.builtin "tuple.__getitem__") = true := by kernel_rfl
theorem tgi3 : findCls [] (.type "tuple") (.type "type") "__getitem__" = some (.val (.builtin "tuple.__getitem__")) := by kernel_rfl
theorem getMethod_tupleItem {pl : Sem Bool} {Q : Value × List Value → Shared → Prop} (h : Q (.builtin "tuple.__getitem__", []) { s with toks := s.toks + 1 }) : wpAny (model prog w) A (getMethod (.type "tuple") "__getitem__" pl) Q E s :=
  @getMethod_type prog w A E s "tuple" "__getitem__" (.builtin "tuple.__getitem__") pl Q tgi1 tgi2 tgi3 tgi4 h
theorem call_meth {o : Expr} {name : Str} {apos pos : Pos} {args : List Expr} {trees : List (Bool × Sem Value)} {Q : Value → Shared → Prop}
    (htrees : backTo pos (starEach args env) = trees)
    (h : wpAny (model prog w) A (eval o env) (fun ov s₁ => ∀ pl, wpAny (model prog w) A (getMethod ov name pl) (fun fr s₂ => wpAny (model prog w) A (callWith pos fr.1 fr.2 trees []) Q E s₂) E s₁) E s)
    (hbase : attributeBase o name env (eval o env) = eval o env := by rfl) (hfew : methodCallForm args.length trees [] = true := by rfl) (hline : (apos.endLine == pos.line) = true := by rfl) :
    wpAny (model prog w) A (eval (.Call (.Attribute o name apos) args [] pos) env) Q E s := by
  subst htrees
  rw [arm_eval_Call, hbase]
  refine wpAny_bind (wpAny_mono h (fun ov s₁ h₁ => ?_) fun _ _ e => e)
  refine wpAny_bind (wpAny_standAt ?_)
  have hpos : methodCallPos true o env apos pos = pure pos := by unfold methodCallPos; simp [hline]
  have hform : methodCallForm (args.length + ([] : List Keyword).length) (backTo pos (starEach args env)) (backToKw pos (keywordEach [] env)) = true := hfew
  unfold methodCall
  rw [hform]
  refine wpAny_bind (wpAny_holding ?_)
  unfold calleeOf
  rw [if_pos rfl]
  exact wpAny_mono (h₁ _) (fun fr s₂ h₂ => wpAny_bind (wpAny_of_eq hpos h₂)) fun _ _ q => q
end
noncomputable def fdM (st : Stmt) (name qual modN : Str) (modT : Nat) (defaults : Value) (ann : Option Addr) (code : Nat) (closure : List (Str × Addr)) (ct : Value) : FuncData :=
  { name, qualname := qual, params := fparams st, body := .stmts (fbody st), scope := fscope st, globals := mainGlobals, closure, defaults, kwdefaults := .none,
    doc := .none, pyModule := .str modN modT, annotations := ann, code := .ref code, closureTuple := ct, builtins := builtinsNs }
noncomputable abbrev fdGet : FuncData := fdM (mst 8 1) "__get__" "_tuplegetter.__get__" "cpy313.importlib.metadata._collections" 362 (.ref 108) none 114 [] .none
theorem K_get (w : World) : (K01 w).lookup 115 = some ⟨.type "function", none, .func fdGet, #[]⟩ := by kernel_rfl
section
variable {w : World} {A : Around} {E : Value → Shared → Prop} {s : Shared}
theorem looks_pair (K : (K01 w).In s.heap) {M : Model} {a : Addr} {o : Obj} (e : s.heap.get? a = some o) (hc : o.cls = .ref 257) : Looks M s.heap (isInstance (.ref a) (.type "tuple")) true := by
  have T : Looks M s.heap (typeOf (.ref a)) (.ref 257) := hc ▸ (Looks.ld e).andThen .now
  exact T.andThen (looks_mroIn K (by kernel_rfl))
theorem tup_get (K : (K01 w).In s.heap) {a : Addr} {o : Obj} {items : Array Value} {n : Nat} {k : Int} {u : Tok} {j : Nat} {x : Value} {Q : Value → Shared → Prop} (e : s.heap.get? a = some o) (hc : o.cls = .ref 257) (hd : o.data = .seq items n)
    (hlo : -(2 ^ 63) ≤ k) (hhi : k < 2 ^ 63) (hj : seqIndex? k items.size = some j) (hx : items[j]? = some x) (h : Q x s) :
    wpAny (model pw w) A (PySem.call (.builtin "tuple.__getitem__") [.ref a, .int k u]) Q E s := by
  refine wpAny_call (codeAny_call_builtin slot_tuple_getitem.plain entry_tuple_getitem ?_)
  refine @check_slot (model pw w) _ _ s "tuple.__getitem__" "tuple" "__getitem__" (.ref a) [.int k u] [] _ (by decide +kernel) (by decide +kernel) (looks_pair K e hc) (args_tuple_getitem (.ref a) (.int k u)) ?_
  show wpAny _ _ (Builtin.Tuple.tupleItemsOf (.ref a) >>= _) _ _ s
  refine wpAny_bind ?_
  unfold Builtin.Tuple.tupleItemsOf seqItems?
  refine wpAny_bind (wpAny_bind (wpAny_load e ?_))
  rw [hd]
  refine wpAny_pure (wpAny_pure ?_)
  refine wpAny_bind (wpAny_typeOf (typeIs_int s k u) ?_)
  rw [if_neg (by decide)]
  refine wpAny_bind (wpAny_specialOf (T := "int") (typeIs_int s k u) int_index ?_)
  rw [if_neg (by simp)]
  refine wpAny_bind (wpAny_of_eq (a := k) rfl ?_)
  rw [if_neg (by simp only [Bool.or_eq_true, decide_eq_true_eq]; omega)]
  simp only [hj, Option.bind_some, hx]
  exact wpAny_pure h
end
section
variable {w : World} {A : Around} {E : Value → Shared → Prop} {s : Shared}
theorem type_of_pair (X : (KF w.params).In s.heap) (ok : OkA 100 A) (a : Addr) (d : Option Addr) (vs : Array Value) (n : Nat) (h : s.heap.get? a = some ⟨.ref 257, d, .seq vs n, #[]⟩) :
    wpAny (model pw w) A (PySem.call (.type "type") [.ref a]) (PostVal s (.ref 257)) E s := by
  obtain ⟨hh, g, dd, t, os⟩ := s
  exact call_type_obj h (by rfl) ⟨rfl, Kp.refl _⟩
theorem sub_pair (X : (KF w.params).In s.heap) (ok : OkA 100 A) :
    wpAny (model pw w) A (PySem.call (.builtin "issubclass") [.ref 257, .type "tuple"]) (PostVal s (.bool true)) E s := by
  have l0 : Looks (model pw w) s.heap (typeOf (.type "tuple")) (.type "type") := Looks.of_peek X (by kernel_rfl)
  have l1 : Looks (model pw w) s.heap (isType (.ref 257)) true := Looks.of_peek X (by kernel_rfl)
  have l2 : Looks (model pw w) s.heap (isType (.type "tuple")) true := Looks.of_peek X (by kernel_rfl)
  have l3 : Looks (model pw w) s.heap (isSubtype (.ref 257) (.type "tuple")) true := Looks.of_peek X (by kernel_rfl)
  have l4 : Looks (model pw w) s.heap (checkBuiltinCall "issubclass" ⟨[.ref 257, .type "tuple"], []⟩) () := Looks.of_peek X (by kernel_rfl)
  refine wpAny_call (codeAny_call_builtin F.plain_issubclass F.entry_issubclass (l4.here ?_))
  refine issubclass_outer ?_
  unfold Builtin.«issubclass.nested»
  refine wpAny_bind (l0.here ?_)
  rw [if_pos (by rfl)]
  refine wpAny_bind (wpAny_bind (l1.here (wpAny_bind (l2.here ?_))))
  exact l3.here (wpAny_pure ⟨rfl, Kp.refl _⟩)
end
section
variable {prog : Program} {w : World} {A : Around} {env : Env} {h : Heap} {S : Addr → Prop}
theorem EvT.isNone {x : Str} {v : Value} {p c pos : Pos} {k : Nat} (a : Var env h x v) (hd : (x == ("__debug__" : Str)) = false := by decide) : EvT prog w A env h (.Compare (.Name x p) [.Is] [.Constant .none k c] pos) (v == .none) := fun s E hs =>
  wpAny_isTrue_Compare1 (wpAny_Name (a _ _ _ _ s hs (by rw [eval_Constant]; exact wpAny_pure (is_none_gen (wpAny_truthy_bool ⟨rfl, Kp.refl s⟩)))) hd) (by with_unfolding_all rfl)
theorem EvT.not {e : Expr} {b : Bool} {pos : Pos} (a : EvT prog w A env h e b) : EvT prog w A env h (.UnaryOp .Not e pos) (!b) := fun s E hs => isTrue_not (wpAny_mono (a s E hs) (fun c s' q => ⟨by rw [q.1], q.2⟩) fun _ _ q => q)
theorem EvT.ofBool {e : Expr} {b : Bool} (a : EvD prog w A env h S e (.bool b)) (he : ∀ whole, isTrue e env whole = (do let v ← whole; standAt e.pos; holding [v] (truthy v)) := by intro _; rfl) : EvT prog w A env h e b := fun s E hs =>
  isTrue_plain (wpAny_mono (a s E hs) (fun v s' q => by
    obtain ⟨r, k⟩ := q
    (first | cases r using RD.atomE | cases r using RDs.nilE | cases r using RD.strE | cases r using RD.intE | cases r)
    exact wpAny_truthy_bool ⟨rfl, k⟩) fun _ _ q => q) (he _)
noncomputable def CallD (prog : Program) (w : World) (A : Around) (h : Heap) (f : Value) (ds : List D) (d : D) : Prop := ∀ (s : Shared) (S : Addr → Prop) (vs : List Value) (E : Value → Shared → Prop), Le h s.heap → RDs s.heap S vs ds →
  wpAny (model prog w) A (PySem.call f vs) (fun v s' => RD s'.heap (Fr1 S s.heap) v d ∧ Kp s s') E s
theorem EvD.callB {x : Str} {id : String} {p pos : Pos} {args : List Expr} {ds : List D} {d : D} (vf : Var env h x (.builtin id)) (a : EvDs prog w A env h S args ds) (hne : args ≠ []) (c : CallD prog w A h (.builtin id) ds d)
    (hd : (x == ("__debug__" : Str)) = false := by decide) : EvD prog w A env h S (.Call (.Name x p) args [] pos) d := fun s E hs => by
  refine wpAny_Call_NameR (wpAny_Name (vf _ _ _ _ s hs ?_) hd)
  cases args with
  | nil => exact absurd rfl hne
  | cons e es =>
    cases a with
    | cons a1 ar hn =>
    have a' : EvDs prog w A env h S (e :: es) _ := .cons a1 ar hn
    have q := a'.spliced (pos := pos) (E := E) hs (Q := fun vs s' => wpAny (model prog w) A (PySem.call (.builtin id) ([] ++ vs) []) (fun v s'' => RD s''.heap (Fr1 S s.heap) v d ∧ Kp s s'') E s') fun vs s' r k =>
      wpAny_mono (c s' _ vs E (hs.trans k.le) r) (fun v s'' z => ⟨z.1.sub (fr1_fr1 k.le), k.tr z.2⟩) fun _ _ z => z
    have hp : (backTo pos (starEach (e :: es) env)).any (·.1) = false := by
      have : ∀ {es : List Expr} {ds}, EvDs prog w A env h S es ds → (backTo pos (starEach es env)).any (·.1) = false := by
        intro es ds z
        induction z with
        | nil => rfl
        | cons _ _ hn ih => rw [starEach_cons hn]; simpa [backTo] using ih
      exact this a'
    refine Calls.callWith_builtin hp ?_
    rw [starEach_cons hn] at q ⊢
    exact evalArgs_plain q
theorem EvD.callT {x : Str} {T : String} {p pos : Pos} {args : List Expr} {ds : List D} {d : D} (vf : Var env h x (.type T)) (a : EvDs prog w A env h S args ds) (hne : args ≠ []) (c : CallD prog w A h (.type T) ds d)
    (hd : (x == ("__debug__" : Str)) = false := by decide) : EvD prog w A env h S (.Call (.Name x p) args [] pos) d := fun s E hs => by
  refine wpAny_Call_NameR (wpAny_Name (vf _ _ _ _ s hs ?_) hd)
  cases args with
  | nil => exact absurd rfl hne
  | cons e es =>
    cases a with
    | cons a1 ar hn =>
    have a' : EvDs prog w A env h S (e :: es) _ := .cons a1 ar hn
    have q := a'.spliced (pos := pos) (E := E) hs (Q := fun vs s' => wpAny (model prog w) A (PySem.call (.type T) ([] ++ vs) []) (fun v s'' => RD s''.heap (Fr1 S s.heap) v d ∧ Kp s s'') E s') fun vs s' r k =>
      wpAny_mono (c s' _ vs E (hs.trans k.le) r) (fun v s'' z => ⟨z.1.sub (fr1_fr1 k.le), k.tr z.2⟩) fun _ _ z => z
    have hp : (backTo pos (starEach (e :: es) env)).any (·.1) = false := by
      have : ∀ {es : List Expr} {ds}, EvDs prog w A env h S es ds → (backTo pos (starEach es env)).any (·.1) = false := by
        intro es ds z
        induction z with
        | nil => rfl
        | cons _ _ hn ih => rw [starEach_cons hn]; simpa [backTo] using ih
      exact this a'
    refine PySem.callWith_type hp ?_
    rw [starEach_cons hn] at q ⊢
    exact evalArgs_plain q
end
theorem call_fnL {w : World} {A : Around} {s : Shared} {f : Addr} {fd : FuncData} {vals : List Value} {binds : List (Str × Value)} {R : Result → Shared → Prop} (body : List Stmt) (hroom : A.depth < recursionLimit) (T : TopH w s.heap)
    (ho : (K01 w).lookup f = some ⟨.type "function", none, .func fd, #[]⟩) (code : Nat) (hcode : fd.code = .ref code) (hcd : codeRecB (K01 w) code fd.qualname = true) (hbody : fd.body = .stmts body) (hbind : Looks (model pw w) s.heap (bindArgs fd ⟨vals, []⟩) binds) (hclo : fd.closure = [])
    (hkind : ∀ x ∈ binds, fd.scope.names.lookup x.1 = some .local ∨ (fd.scope.names.lookup x.1 = some .cell ∧ ((cellsFrom (s.heap.objs.size + 1) fd.scope.names []).lookup x.1).isSome = true))
    (h : ∀ s₁, InCallC s (callEnvC fd s.heap.objs.size f).locals (bindL (callEnvC fd s.heap.objs.size f).kindOf binds fun _ => none) (callEnvC fd s.heap.objs.size f).cells
        (bindC (callEnvC fd s.heap.objs.size f).kindOf binds fun _ => none) s₁ → Kp s s₁ →
      wpAny (model pw w) (A.deeper (callEnvC fd s.heap.objs.size f)) (execs body (callEnvC fd s.heap.objs.size f)) (fun f s' => R (.ok (.ret (match f with | .ret v => v | _ => .none))) s')
        (fun e s' => wpAny (model pw w) (A.deeper (callEnvC fd s.heap.objs.size f)) (leaving (callEnvC fd s.heap.objs.size f) e) (fun _ s'' => R (.error e) s'') (fun e' s'' => R (.error e') s'') s') s₁)
    (hco : fd.scope.isCoroutine = false := by rfl) (hgen : fd.scope.isGenerator = false := by rfl) (hk : fd.scope.kind = .function := by rfl) :
    codeAny (model pw w) A (.call (.ref f) ⟨vals, []⟩) R s := by
  refine codeAny_call_function hroom (T.K _ _ ho) rfl hco hgen hbody (by rw [hcode]; exact codeRec_B T.K hcd) ?_
  refine hbind _ _ _ _ (fun _ _ e => e) ?_
  rw [hclo]
  refine wpAny_newFunctionEnv_cells hk hkind fun env he s' x => ?_
  subst he
  refine ⟨T.nl.keeps x.toInCall.keep, codeAny_func ?_⟩
  obtain ⟨h', tk, e, k⟩ := x.done
  exact h s' x (by rw [e]; exact Kp.of tk k)
section
variable {w : World} {A : Around} {E : Value → Shared → Prop} {s : Shared}
noncomputable abbrev envGet (N : Nat) : Env := callEnvC fdGet N 115
theorem tg_get (T : TopH w s.heap) (ok : OkA 102 A) {tg dd : Addr} {idx : Int} {od : Obj} {tk : Tok} (hI : InstAt s.heap tg ⟨.ref 132, some dd, .plain, #[]⟩ 132 (some od)) (hf : findObj (K01 w) 132 (some od) "index" = some (.value (.int idx tk)))
    {a : Addr} {d : Option Addr} {vs : Array Value} {n : Nat} {j : Nat} {x : Value} (h : s.heap.get? a = some ⟨.ref 257, d, .seq vs n, #[]⟩) (h0 : 0 ≤ idx) (h1 : idx < 2 ^ 63) (hj : seqIndex? idx vs.size = some j) (hx : vs[j]? = some x) :
    codeAny (model pw w) A (.call (.ref 115) ⟨[.ref tg, .ref a, .ref 257], []⟩) (fun r s' => r = .ok (.ret x) ∧ Kp s s') s := by
  refine call_fnL (binds := [("self", .ref tg), ("obj", .ref a), ("objtype", .ref 257)]) _ ok.room T (K_get w) 114 rfl (by kernel_rfl) rfl (Looks.of_peek T.K (by kernel_rfl)) rfl (fun y hy => ?_) fun s₁ X k => ?_
  · rcases List.mem_cons.mp hy with rfl | hy
    · exact .inl (by rfl)
    rcases List.mem_cons.mp hy with rfl | hy
    · exact .inl (by rfl)
    rcases List.mem_singleton.mp hy with rfl
    exact .inl (by rfl)
  generalize hN : s.heap.objs.size = N at *
  have okA : OkA 101 (A.deeper (envGet N)) := OkA.deeper ok _
  generalize hA' : A.deeper (callEnvC fdGet N 115) = A' at *
  have F := Frm.ofCall X
  have vo : Var (envGet N) s₁.heap "obj" (.ref a) := F.loc rfl rfl rfl
  have vs' : Var (envGet N) s₁.heap "self" (.ref tg) := F.loc rfl rfl rfl
  have T1 := T.mono k.le
  have K1 := T1.K
  refine wpAny_execs_cons (wpAny_If (wpAny_mono ((EvT.isNone vo) s₁ _ fun _ _ e => e) (fun b s₂ h₂ => ?_) fun _ _ q => q))
  obtain ⟨rfl, k2⟩ := h₂
  rw [if_neg (by simp)]
  refine wpAny_execs_nil ?_
  have F2 := F.kp k2
  have T2 := T1.mono k2.le
  have a2 : s₂.heap.get? a = _ := F2.keep _ _ h
  have vi : Var (envGet N) s₂.heap "issubclass" (.builtin "issubclass") := Var.bi T2 rfl rfl rfl rfl (by kernel_rfl) (by decide) (by rfl)
  have vty : Var (envGet N) s₂.heap "type" (.type "type") := Var.bi T2 rfl rfl rfl rfl (by kernel_rfl) (by decide) (by rfl)
  have vtu : Var (envGet N) s₂.heap "tuple" (.type "tuple") := Var.bi T2 rfl rfl rfl rfl (by kernel_rfl) (by decide) (by rfl)
  have ci : EvT pw w A' (envGet N) s₂.heap _ true := EvT.ofBool (S := fun _ => False) (EvD.callB (p := ⟨99, 15, 99, 25⟩) (pos := ⟨99, 15, 99, 43⟩) (ds := [.atom (.ref 257), .atom (.type "tuple")]) (d := .bool true) vi
    (.cons (EvD.callT (p := ⟨99, 26, 99, 30⟩) (pos := ⟨99, 26, 99, 35⟩) (ds := [.atom (.ref a)]) vty (.cons (EvD.name (pos := ⟨99, 31, 99, 34⟩) (vo.mono k2.le) (.atom _)) .nil rfl) (by simp) (fun s3 S3 vs3 E3 hs3 r3 => by
        cases r3 using RDs.consE with
        | cons r3 r4 =>
        (first | cases r4 using RD.atomE | cases r4 using RDs.nilE | cases r4 using RD.strE | cases r4 using RD.intE | cases r4)
        (first | cases r3 using RD.atomE | cases r3 using RDs.nilE | cases r3 using RD.strE | cases r3 using RD.intE | cases r3)
        exact wpAny_mono (type_of_pair (T2.mono hs3).K (okA.weak (by decide)) a d vs n (hs3 _ _ a2)) (fun v s' q => ⟨by rw [q.1]; exact .atom _, q.2⟩) fun _ _ q => q))
      (.cons (EvD.name (pos := ⟨99, 37, 99, 42⟩) vtu (.atom _)) .nil rfl) rfl) (by simp) (fun s3 S3 vs3 E3 hs3 r3 => by
        cases r3 using RDs.consE with
        | cons r3 r4 =>
        (first | cases r3 using RD.atomE | cases r3 using RDs.nilE | cases r3 using RD.strE | cases r3 using RD.intE | cases r3)
        cases r4 using RDs.consE with
        | cons r4 r5 =>
        (first | cases r5 using RD.atomE | cases r5 using RDs.nilE | cases r5 using RD.strE | cases r5 using RD.intE | cases r5)
        (first | cases r4 using RD.atomE | cases r4 using RDs.nilE | cases r4 using RD.strE | cases r4 using RD.intE | cases r4)
        exact wpAny_mono (sub_pair (T2.mono hs3).K (okA.weak (by decide))) (fun v s' q => ⟨by rw [q.1]; exact .bool _, q.2⟩) fun _ _ q => q))
  refine wpAny_execs_cons (wpAny_If (wpAny_mono ((EvT.not ci) s₂ _ fun _ _ e => e) (fun b s₃ h₃ => ?_) fun _ _ q => q))
  obtain ⟨rfl, k3⟩ := h₃
  rw [if_neg (by simp)]
  refine wpAny_execs_nil ?_
  have F3 := F2.kp k3
  have T3 := T2.mono k3.le
  have a3 : s₃.heap.get? a = _ := F3.keep _ _ h
  refine wpAny_execs_cons (wpAny_Return_some (call_meth rfl ?_))
  refine wpAny_Name (vtu _ _ _ _ s₃ k3.le ?_) (by decide)
  intro pl
  refine getMethod_tupleItem ?_
  dsimp only
  refine Calls.callWith_builtin (by rfl) (Calls.evalArgs_plain (Calls.spliced_cons ?_))
  refine wpAny_Name ((vo.mono (k2.tr k3).le) _ _ _ _ _ (fun _ _ e => e) ?_) (by decide)
  refine Calls.spliced_cons (Attribute_name ?_)
  refine wpAny_Name ((vs'.mono (k2.tr k3).le) _ _ _ _ _ (fun _ _ e => e) ?_) (by decide)
  have Ki : InstAt s₃.heap tg ⟨.ref 132, some dd, .plain, #[]⟩ 132 (some od) := ⟨F3.keep _ _ hI.at_, hI.cls, hI.no, F3.keep _ _ hI.dict⟩
  refine get_value T3.K Ki (by kernel_rfl) hf (by rfl) ?_
  refine Calls.spliced_nil ?_
  show wpAny _ _ (PySem.call (.builtin "tuple.__getitem__") [.ref a, .int idx tk]) _ _ { s₃ with toks := s₃.toks + 1 + 1 }
  refine tup_get (s := { s₃ with toks := s₃.toks + 1 + 1 }) T3.K a3 rfl rfl (by omega) h1 hj hx ?_
  exact ⟨rfl, (k.tr (k2.tr k3)).tr (Kp.tk _ _)⟩
end
section
variable {prog : Program} {w : World} {A : Around} {E : Value → Shared → Prop} {s : Shared} {I : Addr} {fp wr : List Addr} {G : Array GenState → Array GenState → Prop} {n : Nat} {P : Nat → Value → Prop} {St : Nat → Shared → Prop}
theorem ext_iter {R : Result → Shared → Prop} {T : String} (W : WalksS prog w A.in1 I fp wr G n P St) (hT : ∀ i s, St i s → s.TypeIs (.ref I) T) (h1 : (T == "list") = false) (h2 : (T == "tuple") = false)
    (hint : ∀ (s : Shared) (Q : Bool → Shared → Prop), St 0 s → (∀ b, Q b s) → wpAny (model prog w) A.in1 (Builtin.List.listLengthHint (.ref I)) Q (fun e s' => R (.error e) s') s)
    (hst : St 0 s) (S : Addr) (hSf : S ∉ fp) (hI : I ∈ fp) (res : Value) {c : Nat} (hS : s.heap.get? S = some { cls := .type "list", dict := none, data := .seq #[] c, slots := #[] })
    (hR : ∀ s' acc c', Moved (S :: wr) G s s' → s'.heap.get? S = some { cls := .type "list", dict := none, data := .seq acc c', slots := #[] } → ItemsOf P acc n → R (.ok (.ret res)) s') (hn : n ≤ sizeLine) :
    wpAny (model prog w) A.in1 (Builtin.List.listExtendWith (.ref S) (.ref I) res)
      (fun fin s' => match fin with | .done f => R (.ok f) s' | .again c' => c'.quiet = true ∧ codeAny (model prog w) A c' R s') (fun e s' => R (.error e) s') s := by
  have hSI : S ≠ I := fun e => hSf (e ▸ hI)
  unfold Builtin.List.listExtendWith
  refine wpAny_bind (wpAny_typeOf (hT 0 _ hst) ?_)
  have hs : Builtin.List.listSameRef (.ref S) (.ref I) = false := by simp [Builtin.List.listSameRef, hSI]
  have e1 : (Value.type T == Value.type "list") = false := by
    rw [← h1]; rw [Bool.eq_iff_iff]; simp
  have e2 : (Value.type T == Value.type "tuple") = false := by
    rw [← h2]; rw [Bool.eq_iff_iff]; simp
  simp only [hs, e1, e2, Bool.or_false, Bool.false_eq_true, if_false]
  refine wpAny_bind (W.self 0 _ _ _ hst ?_)
  refine wpAny_bind (wpAny_holding (hint _ _ hst fun b => ?_))
  have fin : ∀ (s₁ : Shared) c₁, s₁.heap.get? S = some { cls := .type "list", dict := none, data := .seq #[] c₁, slots := #[] } → St 0 s₁ → Moved (S :: wr) G s s₁ →
      wpAny (model prog w) A.in1 (again (.builtin "list.extend.loop" ⟨[.ref S, .ref I, res], []⟩)) (fun fin s' => match fin with | .done f => R (.ok f) s' | .again c' => c'.quiet = true ∧ codeAny (model prog w) A c' R s') (fun e s' => R (.error e) s') s₁ := fun s₁ c₁ hS₁ hst₁ hm =>
    wpAny_pure ⟨plainId_quiet F.plain_extend_loop _, codeAny_extend_loopS W hn _ hSf _ n 0 _ _ _ rfl (Nat.zero_le _) hst₁ hS₁ (ItemsOf.nil P) fun s' acc' c' hm' hS' hacc => hR s' acc' c' (Moved.trans W.gtrans hm hm') hS' hacc⟩
  split
  · refine wpAny_bind (wpAny_rule (wpAny_bind ?_))
    show wpAny _ A.in1 (updateSeq S (·.push .none) >>= fun _ => updateSeq S (·.pop)) _ _ _
    refine wpAny_bind (wpAny_updateSeq hS rfl ?_)
    have hS₂ := Heap.get?_update_self (Obj.mapSeq (·.push Value.none)) hS rfl
    refine wpAny_updateSeq hS₂ rfl ?_
    have hS₃ := Heap.get?_update_self (Obj.mapSeq (·.pop)) hS₂ rfl
    have oth : ∀ b o, b ≠ S → s.heap.get? b = some o → ((s.heap.update S (Obj.mapSeq (·.push Value.none))).update S (Obj.mapSeq (·.pop))).get? b = some o :=
      fun b o hb e => (Heap.get?_update_other _ _ (Ne.symm hb)).trans ((Heap.get?_update_other _ _ (Ne.symm hb)).trans e)
    refine fin _ _ hS₃ (W.frame 0 s _ s.toks hst (Nat.le_refl _) fun b hb o e => oth b o (fun h => hSf (h ▸ hb)) e) ((Moved.refl W.grefl).then_heap (Nat.le_refl _) fun b o hb e => oth b o (fun h => hb (h ▸ List.mem_cons_self)) e)
  · exact fin _ _ hS hst (Moved.refl W.grefl)
theorem collect_iter {T : String} {Q : List Value → Shared → Prop} (W : WalksS prog w A.in1 I fp wr G n P St) (hT : ∀ i s, St i s → s.TypeIs (.ref I) T) (h1 : (T == "list") = false) (h2 : (T == "tuple") = false)
    (hint : ∀ (s : Shared) (Q : Bool → Shared → Prop) (E : Value → Shared → Prop), St 0 s → (∀ b, Q b s) → wpAny (model prog w) A.in1 (Builtin.List.listLengthHint (.ref I)) Q E s)
    (hst : St 0 s) (hfp : ∀ b ∈ fp, b < s.heap.objs.size) (hI : I ∈ fp) (hn : n ≤ sizeLine)
    (hQ : ∀ s' acc, Moved wr G s s' → ItemsOf P acc n → Q acc.toList s') : wpAny (model prog w) A (collect (.ref I)) Q E s := by
  have hSf : s.heap.objs.size ∉ fp := fun hm => Nat.lt_irrefl _ (hfp _ hm)
  unfold collect
  refine wpAny_bind (wpAny_runValue (codeAny_builtin F.entry_proto_collect ?_))
  rw [Around.under_plainId F.plain_proto_collect _]
  show wpAny _ A.in1 (newList [] >>= fun l => again (.builtin "list.__iadd__" ⟨[l, .ref I], []⟩)) _ _ s
  refine wpAny_bind (wpAny_newObj_type ?_ (by show (0 : Nat) ≤ sizeLine; decide))
  refine wpAny_pure ⟨plainId_quiet F.plain_list_iadd _, codeAny_builtin F.entry_list_iadd ?_⟩
  rw [Around.under_plainId F.plain_list_iadd _]
  have hst₁ := W.frame 0 s (s.heap.push { cls := .type "list", data := .seq ([] : List Value).toArray }) s.toks hst (Nat.le_refl _) fun b _ o e => Heap.get?_push_of_some _ e
  have hS₁ : (s.heap.push { cls := .type "list", data := .seq ([] : List Value).toArray }).get? s.heap.objs.size = some { cls := .type "list", data := .seq ([] : List Value).toArray } := Heap.get?_push_size _ rfl
  show wpAny _ A.in1 (Builtin.List.listExtendWith (.ref s.heap.objs.size) (.ref I) (.ref s.heap.objs.size)) _ _ _
  let RR : Result → Shared → Prop := fun r s' => match r with
    | .ok (.ret v) => wpAny (model prog w) A (match v with
      | .ref a => (do match (← load a).data with
          | .seq xs _ => pure xs.toList
          | _ => unsupported "internal:collect")
      | _ => unsupported "internal:collect") Q E s'
    | .ok _ => False
    | .error e => E e s'
  refine ext_iter (R := RR) W hT h1 h2 (fun s Q => hint s Q _) hst₁ _ hSf hI _ hS₁ (fun s' acc' c' hm hS' hacc => ?_) hn
  show wpAny _ A (load s.heap.objs.size >>= _) _ _ s'
  refine wpAny_bind (wpAny_load hS' ?_)
  exact wpAny_pure (hQ s' acc' (Moved.drop_new (o := { cls := .type "list", data := .seq ([] : List Value).toArray }) (tk := s.toks) hm (Nat.le_refl _)) hacc)
end
noncomputable def SeqOf (h : Heap) (T : Addr) (vs : Array Value) : Prop := ∃ o n, h.get? T = some o ∧ o.data = .seq vs n
theorem SeqOf.at {h h' : Heap} {T : Addr} {vs : Array Value} (x : SeqOf h T vs) (k : ∀ o, h.get? T = some o → h'.get? T = some o) : SeqOf h' T vs := let ⟨o, n, a, b⟩ := x; ⟨o, n, k o a, b⟩
section
variable {prog : Program} {w : World} {A : Around} {E : Value → Shared → Prop} {s : Shared}
theorem seq_next {it t : Addr} {i : Nat} {items : Array Value} {x : Value} {Q : Option Value → Shared → Prop} (hit : s.heap.IsTupleIter it t i) (ht : SeqOf s.heap t items) (hx : items[i]? = some x)
    (hQ : ∀ h', h'.IsTupleIter it t (i + 1) → Heap.SameBut it s.heap h' → Q (some x) { s with heap := h' }) : wpAny (model prog w) A (pyNext (.ref it)) Q E s := by
  obtain ⟨o, ho, hc, hd⟩ := id hit
  obtain ⟨ol, nl, hol, hdl⟩ := ht
  refine wpAny_bind (wpAny_attempt (wpAny_callSpecial?_slot (name := Str.ofString "__next__") hit.typeIs F.slot_tuple_iterator_next
    (wpAny_call_entry F.slot_tuple_iterator_next hit.typeIs F.entry_tuple_iterator_next ?_ (F.args_tuple_iterator_next_1 _))))
  refine wpAny_bind (m := field (.ref it) 0) (wpAny_field ho hd (x := .ref t) rfl ?_)
  show wpAny _ _ (if (Value.ref t == Value.none) = true then _ else _) _ _ s
  rw [if_neg (show ¬ ((Value.ref t == Value.none) = true) from Bool.false_ne_true)]
  refine wpAny_bind (m := field (.ref it) 1) (wpAny_field ho hd (x := .int i 0) rfl ?_)
  refine wpAny_bind (m := seqItems? (.ref t)) (wpAny_seqItems hol hdl ?_)
  simp only [Int.toNat_natCast, hx]
  refine wpAny_bind (wpAny_setField ho hd (by simp) (wpAny_pure ⟨x, rfl, wpAny_pure (hQ _ ?_ (Heap.SameBut.update ..))⟩))
  exact ⟨_, Heap.get?_update_self _ ho (Obj.isFreed_of_fields (Obj.data_mapFields hd _)), (Obj.cls_mapFields ..).trans hc, by rw [Obj.data_mapFields hd]; simp [rawInt]⟩
theorem seq_end {it t : Addr} {i : Nat} {items : Array Value} {Q : Option Value → Shared → Prop} (hh : A.handled = none) (hit : s.heap.IsTupleIter it t i) (ht : SeqOf s.heap t items) (hx : items[i]? = none)
    (hQ : ∀ h', Heap.ExtBut it s.heap h' → Q none { s with heap := h' }) : wpAny (model prog w) A (pyNext (.ref it)) Q E s := by
  obtain ⟨ol, nl, hol, hdl⟩ := ht
  by_cases hT : ol.cls = .type "tuple"
  · exact wpAny_pyNext_tuple_end hh hit ⟨ol, hol, hT, nl, hdl⟩ hx hQ
  obtain ⟨o, ho, hc, hd⟩ := id hit
  refine wpAny_bind (wpAny_attempt (wpAny_callSpecial?_slot (name := Str.ofString "__next__") hit.typeIs F.slot_tuple_iterator_next
    (wpAny_call_entry F.slot_tuple_iterator_next hit.typeIs F.entry_tuple_iterator_next ?_ (F.args_tuple_iterator_next_1 _))))
  refine wpAny_bind (m := field (.ref it) 0) (wpAny_field ho hd (x := .ref t) rfl ?_)
  show wpAny _ _ (if (Value.ref t == Value.none) = true then _ else _) _ _ s
  rw [if_neg (show ¬ ((Value.ref t == Value.none) = true) from Bool.false_ne_true)]
  refine wpAny_bind (m := field (.ref it) 1) (wpAny_field ho hd (x := .int i 0) rfl ?_)
  refine wpAny_bind (m := seqItems? (.ref t)) (wpAny_seqItems hol hdl ?_)
  simp only [Int.toNat_natCast, hx]
  refine wpAny_bind (wpAny_rule (wpAny_bind (wpAny_setField ho hd (by simp) ?_)))
  refine wpAny_bind (m := newExc (.type "StopIteration") []) ?_
  simp only [newExc, newTuple]
  refine wpAny_bind (wpAny_newObj_type ?_ (by show (0 : Nat) ≤ sizeLine; decide))
  refine wpAny_bind (m := firstArgMember _ _) (wpAny_of_eq (a := Value.none) (by first | rfl | (simp only [firstArgMember]; rfl)) ?_)
  refine wpAny_newObj_type ?_ (by size_fits)
  simp only [raiseNew]
  refine wpAny_bind (wpAny_handled ?_)
  first | rw [show A.in1.handled = none from hh] | rw [hh]
  refine wpAny_bind (wpAny_pure (wpAny_throw ?_))
  refine wpAny_bind (wpAny_isInstance (T := "StopIteration") (b := true) ⟨_, Heap.get?_push_size _ rfl, rfl⟩ isSubtype_stop ?_)
  exact wpAny_pure (hQ _ (((Heap.SameBut.update ..).extBut.push _).push _))
theorem walks_seq (hh : A.handled = none) (I T : Addr) (hne : T ≠ I) (items : Array Value) : Walks prog w A I [I, T] [I] items.size (fun i v => items[i]? = some v) (fun i h => h.IsTupleIter I T i ∧ SeqOf h T items) where
  sub := fun b hb => by simp at hb; simp [hb]
  frame := fun _ _ _ st hk => ⟨st.1.at fun o e => hk I (by simp) o e, st.2.at fun o e => hk T (by simp) o e⟩
  item := fun i s Q E hi st hQ => by
    refine seq_next st.1 st.2 (x := items[i]) (by simp [hi]) fun h' hit' hs' => ?_
    exact hQ _ h' s.toks (by simp [hi]) ⟨hit', st.2.at fun o e => hs'.extBut _ o hne e⟩ fun b o hb e => hs'.extBut b o (fun h => hb (by simp [h])) e
  done := fun s Q E st hQ => seq_end hh st.1 st.2 (by simp) fun h' he' => hQ h' s.toks fun b o hb e => he' b o (fun h => hb (by simp [h])) e
  self := fun _ _ _ _ st hQ => wpAny_pyIter_tupleiter st.1 hQ
end
section
variable {s : Shared} {h' : Heap} {t : Nat} {news : List (Addr × Obj)}
noncomputable def PostMap (s : Shared) (f : Value) (l : Addr) (v : Value) (s' : Shared) : Prop := ∃ M T I, v = .ref M ∧ s'.heap.get? M = some ⟨.type "map", none, .fields #[.ref T, f], #[]⟩ ∧ s'.heap.get? T = some ⟨.type "tuple", none, .seq #[.ref I] 0, #[]⟩ ∧
  s'.heap.IsListIter I l 0 ∧ s.heap.get? M = none ∧ s.heap.get? T = none ∧ s.heap.get? I = none ∧ T < M ∧ I < T ∧ Kp s s'
theorem post_map {f : Value} {l M T I : Addr} (D : X.Mem s.heap h' [] news) (e1 : news[0]? = some (M, ⟨.type "map", none, .fields #[.ref T, f], #[]⟩)) (e2 : news[1]? = some (T, ⟨.type "tuple", none, .seq #[.ref I] 0, #[]⟩))
    (e3 : news[2]? = some (I, ⟨.type "list_iterator", none, .fields #[.ref l, .int 0 0], #[]⟩)) : PostMap s f l (.ref M) ⟨h', s.gens, s.drawn, t, s.os⟩ := by
  have h1 := mem_at D 0 e1
  have h2 := mem_at D 1 e2
  have h3 := mem_at D 2 e3
  exact ⟨M, T, I, rfl, h1.1, h2.1, ⟨_, h3.1, rfl, rfl⟩, h1.2, h2.2, h3.2, mem_gt D e1 e2 (by decide), mem_gt D e2 e3 (by decide), mem_kp D⟩
end
section
variable {w : World} {A : Around} {s : Shared} {E : Value → Shared → Prop}
local macro_rules | `(tactic| x_close) => `(tactic| exact post_map (by assumption) rfl rfl rfl)
theorem mk_map (X : (KF w.params).In s.heap) (ok : OkA 100 A) (l : Addr) (d : Option Addr) (n : Nat) (sl : Array (Option Value)) (vs : Array Value) (h : s.heap.get? l = some ⟨.type "list", d, .seq vs n, sl⟩) :
    wpAny (model pw w) A (PySem.call (.type "map") [.builtin "str.strip", .ref l]) (PostMap s (.builtin "str.strip") l) E s := by
  refine litA ok fun l g => ?_
  x_run
end
section
variable {w : World} {A : Around} {s : Shared} {E : Value → Shared → Prop}
local macro_rules | `(tactic| x_close) => `(tactic| first | exact ⟨rfl, Kp.refl _⟩ | (refine post_val (by assumption) ?_; first | rfl | kernel_rfl) | (refine post_val (PySem.W.X.Mem.start _) ?_; first | rfl | kernel_rfl))
end
section
variable {w : World} {A : Around} {s : Shared} {E : Value → Shared → Prop}
local macro_rules | `(tactic| x_close) => `(tactic| exact post_tup_old (by assumption) rfl (by assumption))
end
noncomputable def docOf (st : Stmt) : Str := match fbody st with
  | .Expr (.Constant (.str s) _ _) _ :: _ => s
  | _ => ""
noncomputable abbrev fdAi : FuncData := { fdM (stOf 6) "always_iterable" "always_iterable" "cpy313.importlib.metadata._itertools" 338 (.ref 86) none 92 [] .none with doc := .str (docOf (stOf 6)) 360 }
theorem K_ai (w : World) : (K01 w).lookup 93 = some ⟨.type "function", none, .func fdAi, #[]⟩ := by kernel_rfl
noncomputable abbrev envAi (N : Nat) : Env := callEnvC fdAi N 93
noncomputable def ai (i : Nat) : Stmt := (fbody (stOf 6)).getD i (.Pass default)
theorem ai_body : fbody (stOf 6) = [ai 0, ai 1, ai 2, ai 3] := by rfl
theorem entry_iterB : entryFor table "iter" = some Builtin.«iter» := entryFor_of_tree (by kernel_rfl)
theorem args_iterB (a : Value) : argsOk "iter" ⟨[a], []⟩ := by unfold argsOk; kernel_rfl
section
variable {prog : Program} {w : World} {A : Around} {E : Value → Shared → Prop} {s : Shared} {env : Env} {h : Heap}
theorem call_iterB {v : Value} {Q : Value → Shared → Prop} (h : wpAny (model prog w) A.in1 (pyIter v) Q E s) : wpAny (model prog w) A (PySem.call (.builtin "iter") [v]) Q E s := by
  refine call_function_entry (by decide +kernel) (by decide +kernel) entry_iterB (args_iterB _) ?_
  unfold Builtin.«iter»
  refine wpAny_bind (m := someArgs "iter" 1 2 _) (wpAny_of_eq (a := [v]) (by first | rfl | kernel_rfl) ?_)
  exact wpAny_bind (wpAny_mono h (fun r s' q => wpAny_pure ⟨_, rfl, q⟩) fun _ _ q => q)
theorem EvT.notNone {x : Str} {v : Value} {p c pos : Pos} {k : Nat} (a : Var env h x v) (hv : v ≠ .none) (hd : (x == ("__debug__" : Str)) = false := by decide) : EvT prog w A env h (.Compare (.Name x p) [.IsNot] [.Constant .none k c] pos) true := fun s E hs =>
  wpAny_isTrue_Compare1 (wpAny_Name (a _ _ _ _ s hs (by rw [eval_Constant]; exact wpAny_pure (isnot_none_ne hv (wpAny_truthy_bool ⟨rfl, Kp.refl s⟩)))) hd) (by with_unfolding_all rfl)
end
section
variable {w : World} {A : Around} {E : Value → Shared → Prop} {s s₀ : Shared} {N : Nat} {m cm : Str → Option Value}
noncomputable def PostTupN (s : Shared) (vs : Array Value) (v : Value) (s' : Shared) : Prop := ∃ I T, v = .ref I ∧ s'.heap.get? I = some ⟨.type "tuple_iterator", none, .fields #[.ref T, .int 0 0], #[]⟩ ∧
  (∃ o n, s'.heap.get? T = some o ∧ o.cls = .type "tuple" ∧ o.data = .seq vs n) ∧ s.heap.get? I = none ∧ s.heap.get? T = none ∧ I ≠ T ∧ Kp s s'
theorem ai_ret {es : List Expr} {ds : List D} {its : Array Value} {p1 p2 p3 p4 : Pos} {k : Nat} {Q : Flow → Shared → Prop} (T : TopH w s₀.heap) (F : Frm s₀ (envAi N) m cm s) (ev : EvDs pw w A (envAi N) s.heap (fun _ => False) es ds) (hds : ∀ {h S vs}, RDs h S vs ds → vs = its.toList) (hsz : ds.length ≤ sizeLine)
    (hQ : ∀ r s', PostTupN s₀ its r s' → Kp s s' → Q (.ret r) s') : wpAny (model pw w) A (exec (.Return (some (.Call (.Name "iter" p1) [.Tuple es k p2] [] p3)) p4) (envAi N)) Q E s := by
  refine wpAny_Return_some (wpAny_Call_NameR (wpAny_Name (Var.bi (T.mono F.keep) rfl (by rfl) rfl rfl (by kernel_rfl) (v := .builtin "iter") (by decide) (by rfl) _ _ _ _ s (fun _ _ e => e) ?_) (by decide)))
  have htr : backTo p3 (starEach [.Tuple es k p2] (envAi N)) = [(false, eval (.Tuple es k p2) (envAi N))] := by rw [starEach_cons (by rfl)]; rfl
  rw [htr]
  refine Calls.callWith_builtin (by rfl) (Calls.evalArgs_plain (Calls.spliced_cons (wpAny_mono ((EvD.tuple (k := k) (pos := p2) ev hsz) s _ fun _ _ e => e) (fun r s2 h2 => Calls.spliced_nil ?_) fun _ _ q => q)))
  obtain ⟨r2, k2⟩ := h2
  cases r2 using RD.tupE with
  | tup sa ea ca da ra =>
  rename_i T' o vs n
  have hv := hds ra
  have hv : vs = its := Array.ext' hv
  subst hv
  have F2 := F.kp k2
  refine call_iterB (wpAny_pyIter_tuple ⟨o, ea, ca, n, da⟩ ?_)
  have k3 : Kp s2 { s2 with heap := s2.heap.push { cls := .type "tuple_iterator", data := .fields #[.ref T', .int 0 0] } } := Kp.of' fun b o e => Heap.get?_push_of_some _ e
  have nw : s₀.heap.get? s2.heap.objs.size = none := by
    cases q : s₀.heap.get? s2.heap.objs.size with
    | none => rfl
    | some o => exact absurd (Heap.lt_size (F2.keep _ _ q)) (Nat.lt_irrefl _)
  have nT : s₀.heap.get? T' = none := by
    cases q : s₀.heap.get? T' with
    | none => rfl
    | some o' => exact sa.elim False.elim fun z => by rw [F.keep _ _ q] at z; cases z
  exact hQ _ _ ⟨s2.heap.objs.size, T', rfl, Heap.get?_push_size _ rfl, ⟨o, n, k3.le _ _ ea, ca, da⟩, nw, nT, Nat.ne_of_gt (Heap.lt_size ea), (F2.kp k3).kpAll⟩ (k2.tr k3)
theorem ai_pre {v bv : Value} {vals : List Value} {R : Result → Shared → Prop} (T : TopH w s.heap) (ok : OkA 101 A) (hb : Looks (model pw w) s.heap (bindArgs fdAi ⟨vals, []⟩) [("obj", v), ("base_type", bv)])
    (h : ∀ m cm s₁, Frm s (envAi s.heap.objs.size) m cm s₁ → m "obj" = some v → m "base_type" = some bv →
      wpAny (model pw w) (A.deeper (envAi s.heap.objs.size)) (execs [ai 1, ai 2, ai 3] (envAi s.heap.objs.size)) (fun f s' => R (.ok (.ret (match f with | .ret v => v | _ => .none))) s')
        (fun e s' => wpAny (model pw w) (A.deeper (envAi s.heap.objs.size)) (leaving (envAi s.heap.objs.size) e) (fun _ s'' => R (.error e) s'') (fun e' s'' => R (.error e') s'') s') s₁) :
    codeAny (model pw w) A (.call (.ref 93) ⟨vals, []⟩) R s := by
  refine call_fnL (binds := [("obj", v), ("base_type", bv)]) _ ok.room T (K_ai w) 92 rfl (by kernel_rfl) rfl hb rfl (fun y hy => ?_) fun s₁ X k => ?_
  · rcases List.mem_cons.mp hy with rfl | hy
    · exact .inl (by rfl)
    rcases List.mem_singleton.mp hy with rfl
    exact .inl (by rfl)
  have F := Frm.ofCall X
  show wpAny _ (A.deeper (envAi s.heap.objs.size)) (execs (fbody (stOf 6)) (envAi s.heap.objs.size)) _ _ _
  rw [ai_body]
  refine wpAny_execs_cons (wpAny_Expr (Constant_str ?_) (by rfl) (by rfl))
  exact h _ _ _ (F.kp (Kp.tk _ _)) rfl rfl
noncomputable abbrev IsiD (w : World) (h : Heap) (v bv : Value) (b : Bool) : Prop := ∀ (A : Around) (s : Shared) (E : Value → Shared → Prop), OkA 100 A → TopH w s.heap → Le h s.heap → wpAny (model pw w) A (PySem.call (.builtin "isinstance") [v, bv]) (PostVal s (.bool b)) E s
theorem Frm.ifT {test : Expr} {body orelse : List Stmt} {pos : Pos} {b : Bool} {env : Env} {Q : Flow → Shared → Prop} (F : Frm s₀ env m cm s) (te : EvT pw w A env s.heap test b) (h : ∀ s', Frm s₀ env m cm s' → Kp s s' → wpAny (model pw w) A (execs (if b = true then body else orelse) env) Q E s') :
    wpAny (model pw w) A (exec (.If test body orelse pos) env) Q E s := by
  refine wpAny_If (wpAny_mono (te s E fun _ _ e => e) (fun r s₁ q => ?_) fun _ _ q => q)
  obtain ⟨rfl, k⟩ := q
  have := h s₁ (F.kp k) k
  cases r <;> exact this
theorem ai_none1 {bv : Value} {vals : List Value} (T : TopH w s.heap) (ok : OkA 101 A) (hb : Looks (model pw w) s.heap (bindArgs fdAi ⟨vals, []⟩) [("obj", .none), ("base_type", bv)]) :
    codeAny (model pw w) A (.call (.ref 93) ⟨vals, []⟩) (fun r s' => ∃ v, r = .ok (.ret v) ∧ PostTupN s #[] v s') s := by
  refine ai_pre T ok hb fun m cm s₁ F ho _ => ?_
  refine wpAny_execs_cons (F.ifT (EvT.isNone (F.loc rfl rfl ho)) fun s2 F2 k2 => ?_)
  show wpAny _ _ (execs [_] _) _ _ _
  refine wpAny_execs_cons (ai_ret T F2 .nil (its := #[]) (fun r => by cases r; rfl) (by decide) fun r s' P _ => ?_)
  exact ⟨r, rfl, P⟩
theorem ai_test {v bv : Value} {b : Bool} {A : Around} {Q : Flow → Shared → Prop} (T : TopH w s₀.heap) (ok : OkA 100 A) (F : Frm s₀ (envAi N) m cm s) (ho : m "obj" = some v) (hbt : m "base_type" = some bv) (hv : v ≠ .none) (hbv : bv ≠ .none) (hi : IsiD w s₀.heap v bv b)
    (h1 : b = true → ∀ r s', PostTupN s₀ #[v] r s' → Q (.ret r) s') (h2 : b = false → ∀ s', Frm s₀ (envAi N) m cm s' → wpAny (model pw w) A (execs [ai 3] (envAi N)) Q E s') :
    wpAny (model pw w) A (execs [ai 1, ai 2, ai 3] (envAi N)) Q E s := by
  have t1 : EvT pw w A (envAi N) s.heap (.Compare (.Name "obj" ⟨81, 7, 81, 10⟩) [.Is] [.Constant .none 0 ⟨81, 14, 81, 18⟩] ⟨81, 7, 81, 18⟩) false := by
    have := EvT.isNone (prog := pw) (w := w) (A := A) (p := ⟨81, 7, 81, 10⟩) (c := ⟨81, 14, 81, 18⟩) (pos := ⟨81, 7, 81, 18⟩) (k := 0) (F.loc rfl rfl ho)
    rwa [show (v == Value.none) = false from by simpa using hv] at this
  refine wpAny_execs_cons (F.ifT t1 fun s2 F2 k2 => ?_)
  refine wpAny_execs_nil ?_
  have T2 := T.mono F2.keep
  have vi : Var (envAi N) s2.heap "isinstance" (.builtin "isinstance") := Var.bi T2 rfl (by rfl) rfl rfl (by kernel_rfl) (by decide) (by rfl)
  have t2 : EvT pw w A (envAi N) s2.heap (.Call (.Name "isinstance" ⟨83, 33, 83, 43⟩) [.Name "obj" ⟨83, 44, 83, 47⟩, .Name "base_type" ⟨83, 49, 83, 58⟩] [] ⟨83, 33, 83, 59⟩) b :=
    EvT.ofBool (S := fun _ => False) (EvD.callB (ds := [.atom v, .atom bv]) vi (.cons (EvD.name (F2.loc rfl rfl ho) (.atom _)) (.cons (EvD.name (F2.loc rfl rfl hbt) (.atom _)) .nil rfl) rfl) (by simp) fun s3 S3 vs3 E3 hs3 r3 => by
      cases r3 using RDs.consE with
      | cons r3 r4 =>
      cases r4 using RDs.consE with
      | cons r4 r5 =>
      (first | cases r5 using RD.atomE | cases r5 using RDs.nilE | cases r5 using RD.strE | cases r5 using RD.intE | cases r5)
      (first | cases r3 using RD.atomE | cases r3 using RDs.nilE | cases r3 using RD.strE | cases r3 using RD.intE | cases r3)
      (first | cases r4 using RD.atomE | cases r4 using RDs.nilE | cases r4 using RD.strE | cases r4 using RD.intE | cases r4)
      exact wpAny_mono (hi A s3 E3 ok (T2.mono hs3) (fun b o e => hs3 b o (F2.keep b o e))) (fun v s' q => ⟨by rw [q.1]; exact .bool _, q.2⟩) fun _ _ q => q)
  refine wpAny_execs_cons (F2.ifT (EvT.congr (EvT.and (EvT.notNone (F2.loc rfl rfl hbt) hbv) fun _ => t2) (Bool.true_and b)) fun s3 F3 k3 => ?_)
  cases b with
  | true =>
    show wpAny _ _ (execs [_] _) _ _ _
    refine wpAny_execs_cons (ai_ret T (ds := [.atom v]) F3 (.cons (EvD.name (F3.loc rfl rfl ho) (.atom _)) .nil rfl) (its := #[v]) (fun r => ?_) (by show (1 : Nat) ≤ sizeLine; decide) fun r s' P _ => h1 rfl r s' P)
    cases r using RDs.consE with
    | cons r1 r2 => (first | cases r2 using RD.atomE | cases r2 using RDs.nilE | cases r2 using RD.strE | cases r2 using RD.intE | cases r2); (first | cases r1 using RD.atomE | cases r1 using RDs.nilE | cases r1 using RD.strE | cases r1 using RD.intE | cases r1); rfl
  | false => exact wpAny_execs_nil (h2 rfl s3 F3)
theorem ai_one1 {v bv : Value} {vals : List Value} (T : TopH w s.heap) (ok : OkA 101 A) (hb : Looks (model pw w) s.heap (bindArgs fdAi ⟨vals, []⟩) [("obj", v), ("base_type", bv)]) (hv : v ≠ .none) (hbv : bv ≠ .none) (hi : IsiD w s.heap v bv true) :
    codeAny (model pw w) A (.call (.ref 93) ⟨vals, []⟩) (fun r s' => ∃ u, r = .ok (.ret u) ∧ PostTupN s #[v] u s') s := by
  refine ai_pre T ok hb fun m cm s₁ F ho hbt => ?_
  exact ai_test T (ok.deeper _) F ho hbt hv hbv hi (fun _ r s' P => ⟨r, rfl, P⟩) fun h => nomatch h
theorem ai_iter1 {v bv : Value} {vals : List Value} {P : Shared → Value → Shared → Prop} (T : TopH w s.heap) (ok : OkA 101 A) (hb : Looks (model pw w) s.heap (bindArgs fdAi ⟨vals, []⟩) [("obj", v), ("base_type", bv)]) (hv : v ≠ .none) (hbv : bv ≠ .none) (hi : IsiD w s.heap v bv false)
    (hp : ∀ (A : Around) (s' : Shared) (E : Value → Shared → Prop), OkA 100 A → TopH w s'.heap → Kp s s' → wpAny (model pw w) A (PySem.call (.builtin "iter") [v]) (fun r s'' => P s r s'') E s') :
    codeAny (model pw w) A (.call (.ref 93) ⟨vals, []⟩) (fun r s' => ∃ u, r = .ok (.ret u) ∧ P s u s') s := by
  refine ai_pre T ok hb fun m cm s₁ F ho hbt => ?_
  refine ai_test T (ok.deeper _) F ho hbt hv hbv hi (fun h => nomatch h) fun _ s2 F2 => ?_
  have T2 := T.mono F2.keep
  refine wpAny_execs_cons (wpAny_Try_except ?_)
  refine wpAny_execs_cons (wpAny_Return_some (wpAny_Call_NameR (wpAny_Name (Var.bi T2 rfl (by rfl) rfl rfl (by kernel_rfl) (v := .builtin "iter") (by decide) (by rfl) _ _ _ _ s2 (fun _ _ e => e) ?_) (by decide))))
  refine Calls.callWith_builtin (by rfl) (Calls.evalArgs_plain (Calls.spliced_cons (wpAny_Name (F2.loc rfl rfl ho _ _ _ _ s2 (fun _ _ e => e) ?_) (by decide))))
  refine Calls.spliced_nil (wpAny_mono (hp _ s2 _ (ok.deeper _) T2 F2.kpAll) (fun r s3 h3 => ?_) fun _ _ q => q)
  exact ⟨r, rfl, h3⟩
end
theorem slot_map_next : Slot "map" "__next__" "map.__next__" :=
  .of (owner := "map") (n := "__next__") (by rw [typeLookup_type, builtinLookup_eq_fast]; kernel_rfl) (by decide +kernel) (by decide +kernel) (by decide +kernel)
    (by first | exact .inl (by decide +kernel) | exact .inr (by decide +kernel)) (by rw [isSubtype_type]; kernel_rfl)
theorem slot_map_iter : Slot "map" "__iter__" "map.__iter__" :=
  .of (owner := "map") (n := "__iter__") (by rw [typeLookup_type, builtinLookup_eq_fast]; kernel_rfl) (by decide +kernel) (by decide +kernel) (by decide +kernel)
    (by first | exact .inl (by decide +kernel) | exact .inr (by decide +kernel)) (by rw [isSubtype_type]; kernel_rfl)
theorem entry_map_next : entryFor table "map.__next__" = some Builtin.«map.__next__» := entryFor_of_tree (by kernel_rfl)
theorem entry_map_iter : entryFor table "map.__iter__" = some Builtin.«dict_keyiterator.__iter__» :=
  entryFor_alias (id' := "dict_keyiterator.__iter__") (by kernel_rfl) (by first | rfl | decide +kernel | (unfold String.splitOn; simp +decide [String.splitOnAux])) (by decide +kernel) (by kernel_rfl)
theorem args_map_next (a : Value) : argsOk "map.__next__" ⟨[a], []⟩ := by unfold argsOk; kernel_rfl
theorem args_map_iter (a : Value) : argsOk "map.__iter__" ⟨[a], []⟩ := by unfold argsOk; kernel_rfl
theorem nolen_map : typeLookup (.type "map") "__len__" = pure none := by rw [typeLookup_type, builtinLookup_eq_fast]; kernel_rfl
theorem nohint_map : typeLookup (.type "map") "__length_hint__" = pure none := by rw [typeLookup_type, builtinLookup_eq_fast]; kernel_rfl
structure MapAt (M T I l : Addr) (vs : Array Value) (i : Nat) (h : Heap) : Prop where
  m : h.get? M = some ⟨.type "map", none, .fields #[.ref T, .builtin "str.strip"], #[]⟩
  t : h.get? T = some ⟨.type "tuple", none, .seq #[.ref I] 0, #[]⟩
  i : h.IsListIter I l i
  l : h.IsList l vs
section
variable {prog : Program} {w : World} {A : Around} {E : Value → Shared → Prop} {s : Shared}
theorem call_strip {x : Str} {t : Tok} {Q : Value → Shared → Prop} (h : ∀ t' k, Q (.str (Txt.strip x) t') { s with toks := k }) (hsz : x.length ≤ sizeLine) : wpAny (model prog w) A (PySem.call (.builtin "str.strip") [.str x t]) Q E s :=
  call_gives F.slot_str_strip (typeIs_str _ _ _) F.entry_str_strip (F.args_str_strip_1 _) (gives_str_strip x t) (post_val_or_made (fun _ => fits_stripped _ _ _ hsz) h)
theorem cs_item {it l : Addr} {i : Nat} {items : Array Value} {x : Value} {Q : Option Value → Shared → Prop} (hit : s.heap.IsListIter it l i) (hl : s.heap.IsList l items) (hx : items[i]? = some x)
    (hQ : ∀ h', h'.IsListIter it l (i + 1) → Heap.SameBut it s.heap h' → Q (some x) { s with heap := h' }) : wpAny (model prog w) A (callSpecial? (.ref it) (Str.ofString "__next__")) Q E s := by
  obtain ⟨o, ho, hc, hd⟩ := id hit
  obtain ⟨ol, hol, _, nl, hdl⟩ := hl
  refine wpAny_callSpecial?_slot hit.typeIs slot_listiter_next (wpAny_call_entry slot_listiter_next hit.typeIs entry_listiter_next ?_ (args_listiter_next _))
  refine wpAny_bind (m := field (.ref it) 0) (wpAny_field ho hd (x := .ref l) rfl ?_)
  show wpAny _ _ (if (Value.ref l == Value.none) = true then _ else _) _ _ s
  rw [if_neg (show ¬ ((Value.ref l == Value.none) = true) from Bool.false_ne_true)]
  refine wpAny_bind (m := field (.ref it) 1) (wpAny_field ho hd (x := .int i 0) rfl ?_)
  refine wpAny_bind (m := seqItems? (.ref l)) (wpAny_seqItems hol hdl ?_)
  simp only [Int.toNat_natCast, hx]
  refine wpAny_bind (wpAny_setField ho hd (by simp) (wpAny_pure ⟨x, rfl, hQ _ ?_ (Heap.SameBut.update ..)⟩))
  exact ⟨_, Heap.get?_update_self _ ho (Obj.isFreed_of_fields (Obj.data_mapFields hd _)), (Obj.cls_mapFields ..).trans hc, by rw [Obj.data_mapFields hd]; simp [rawInt]⟩
theorem cs_end {it l : Addr} {i : Nat} {items : Array Value} {Q : Option Value → Shared → Prop} (hh : A.handled = none) (hit : s.heap.IsListIter it l i) (hl : s.heap.IsList l items) (hx : items[i]? = none)
    (hE : ∀ e h', Heap.ExtBut it s.heap h' → (∃ o, h'.get? e = some o ∧ o.cls = .type "StopIteration") → E (.ref e) { s with heap := h' }) : wpAny (model prog w) A (callSpecial? (.ref it) (Str.ofString "__next__")) Q E s := by
  obtain ⟨o, ho, hc, hd⟩ := id hit
  obtain ⟨ol, hol, _, nl, hdl⟩ := hl
  refine wpAny_callSpecial?_slot hit.typeIs slot_listiter_next (wpAny_call_entry slot_listiter_next hit.typeIs entry_listiter_next ?_ (args_listiter_next _))
  refine wpAny_bind (m := field (.ref it) 0) (wpAny_field ho hd (x := .ref l) rfl ?_)
  show wpAny _ _ (if (Value.ref l == Value.none) = true then _ else _) _ _ s
  rw [if_neg (show ¬ ((Value.ref l == Value.none) = true) from Bool.false_ne_true)]
  refine wpAny_bind (m := field (.ref it) 1) (wpAny_field ho hd (x := .int i 0) rfl ?_)
  refine wpAny_bind (m := seqItems? (.ref l)) (wpAny_seqItems hol hdl ?_)
  simp only [Int.toNat_natCast, hx]
  refine wpAny_bind (wpAny_rule (wpAny_bind (wpAny_setField ho hd (by simp) ?_)))
  refine wpAny_bind (m := newExc (.type "StopIteration") []) ?_
  simp only [newExc, newTuple]
  refine wpAny_bind (wpAny_newObj_type ?_ (by show (0 : Nat) ≤ sizeLine; decide))
  refine wpAny_bind (m := firstArgMember _ _) (wpAny_of_eq (a := Value.none) (by first | rfl | (simp only [firstArgMember]; rfl)) ?_)
  refine wpAny_newObj_type ?_ (by size_fits)
  simp only [raiseNew]
  refine wpAny_bind (wpAny_handled ?_)
  first | rw [show A.in1.handled = none from hh] | rw [hh]
  refine wpAny_bind (wpAny_pure (wpAny_throw ?_))
  exact hE _ _ (((Heap.SameBut.update ..).extBut.push _).push _) ⟨_, Heap.get?_push_size _ rfl, rfl⟩
theorem walks_map (hh : A.handled = none) {M T I l : Addr} (xs : List Str) (vs : Array Value) (hvs : ∀ (i : Nat) (x : Str), xs[i]? = some x → ∃ t, vs[i]? = some (.str x t)) (hlen : vs.size = xs.length) (hsz : ∀ x ∈ xs, x.length ≤ sizeLine)
    (hMT : M ≠ I) (hTI : T ≠ I) (hlI : l ≠ I) :
    Walks prog w A M [M, T, I, l] [I] xs.length (fun i v => ∃ x t, xs[i]? = some x ∧ v = .str (Txt.strip x) t) (fun i h => MapAt M T I l vs i h) where
  sub := fun b hb => by simp at hb; simp [hb]
  frame := fun _ _ _ st hk => ⟨hk M (by simp) _ st.m, hk T (by simp) _ st.t, st.i.at fun o e => hk I (by simp) o e, st.l.at fun o e => hk l (by simp) o e⟩
  item := fun i s Q E hi st hQ => by
    have hTy : s.TypeIs (.ref M) "map" := ⟨_, st.m, rfl⟩
    obtain ⟨t, hv⟩ := hvs i xs[i] (by simp [hi])
    refine wpAny_bind (wpAny_attempt (wpAny_callSpecial?_slot (name := Str.ofString "__next__") hTy slot_map_next (wpAny_call_entry slot_map_next hTy entry_map_next ?_ (args_map_next _))))
    refine wpAny_bind (m := field (.ref M) 0) (wpAny_field st.m rfl (x := .ref T) rfl ?_)
    refine wpAny_bind (m := seqItems? (.ref T)) (wpAny_seqItems st.t rfl ?_)
    dsimp only
    rw [← Array.forIn_toList, List.forIn_cons]
    have M1 : ∀ {h' : Heap}, Heap.SameBut I s.heap h' → h'.get? M = _ := fun hs => hs.extBut _ _ hMT st.m
    refine wpAny_bind (wpAny_bind (wpAny_bind (wpAny_holding (wpAny_bind (m := callSpecial? (.ref I) (Str.ofString "__next__")) (cs_item st.i st.l hv fun h' hi' hs' => wpAny_pure (wpAny_pure ?_))))))
    dsimp only
    rw [List.forIn_nil]
    refine wpAny_pure (wpAny_bind (m := field (.ref M) 1) (wpAny_field (M1 hs') rfl (x := .builtin "str.strip") rfl ?_))
    refine wpAny_bind (wpAny_holding (call_strip (x := xs[i]) (t := t) (fun t' k => ?_) (hsz _ (List.getElem_mem hi))))
    refine wpAny_bind (wpAny_letGo (wpAny_pure ⟨_, rfl, wpAny_pure (hQ _ h' k ⟨xs[i], t', by simp [hi], rfl⟩ ⟨M1 hs', hs'.extBut _ _ hTI st.t, hi', st.l.at fun o e => hs'.extBut _ o hlI e⟩ fun b o hb e => hs'.extBut b o (fun z => hb (by simp [z])) e)⟩))
  done := fun s Q E st hQ => by
    have hTy : s.TypeIs (.ref M) "map" := ⟨_, st.m, rfl⟩
    refine wpAny_bind (wpAny_attempt (wpAny_callSpecial?_slot (name := Str.ofString "__next__") hTy slot_map_next (wpAny_call_entry slot_map_next hTy entry_map_next ?_ (args_map_next _))))
    refine wpAny_bind (m := field (.ref M) 0) (wpAny_field st.m rfl (x := .ref T) rfl ?_)
    refine wpAny_bind (m := seqItems? (.ref T)) (wpAny_seqItems st.t rfl ?_)
    dsimp only
    rw [← Array.forIn_toList, List.forIn_cons]
    refine wpAny_bind (wpAny_bind (wpAny_bind (wpAny_holding (wpAny_bind (m := callSpecial? (.ref I) (Str.ofString "__next__")) (cs_end (by exact hh) st.i st.l (by rw [Array.getElem?_eq_none (by omega)]) fun e h' hs' ht => ?_)))))
    obtain ⟨o, ho, hc⟩ := ht
    refine wpAny_bind (wpAny_isInstance (T := "StopIteration") (b := true) ⟨_, ho, hc⟩ isSubtype_stop ?_)
    exact wpAny_pure (hQ h' s.toks fun b o hb e => hs' b o (fun z => hb (by simp [z])) e)
  self := fun i s Q E st hQ => by
    have hTy : s.TypeIs (.ref M) "map" := ⟨_, st.m, rfl⟩
    refine wpAny_pyIter_slot hTy slot_map_iter (wpAny_call_entry slot_map_iter hTy entry_map_iter ?_ (args_map_iter _))
    show wpAny _ _ (ret (.ref M)) _ _ s
    exact wpAny_pure ⟨_, rfl, "map", _, hTy, slot_map_next.lookup, hQ⟩
end
section
variable {w : World} {A : Around} {s : Shared} {E : Value → Shared → Prop}
theorem tn_pair (X : (KF w.params).In s.heap) (ok : OkA 100 A) (x y : Str) (tx ty : Tok) (T : Addr) (n : Nat) (od : Option Addr) (sl : Array (Option Value)) (h : s.heap.get? T = some ⟨.type "tuple", od, .seq #[.str x tx, .str y ty] n, sl⟩) :
    wpAny (model pw w) A (PySem.call (.builtin "tuple.__new__") [.ref 257, .ref T]) (PostPair s x y) E s := by
  have l1 : Looks (model pw w) s.heap (checkBuiltinCall "tuple.__new__" ⟨[.ref 257, .ref T], []⟩) () := Looks.of_peek X (by kernel_rfl)
  have l2 : Looks (model pw w) s.heap (isType (.ref 257)) true := Looks.of_peek X (by kernel_rfl)
  have l3 : Looks (model pw w) s.heap (isSubtype (.ref 257) (.type "tuple")) true := Looks.of_peek X (by kernel_rfl)
  have l4 : Looks (model pw w) s.heap (Bind.madeHere "tuple.__new__" (.ref 257)) () := Looks.of_peek X (by kernel_rfl)
  have l5 : Looks (model pw w) s.heap (typeLookup (.ref 257) "__init__") (some (.builtin "object.__init__")) := Looks.of_peek X (by kernel_rfl)
  refine wpAny_call (codeAny_of_tree ?_)
  show wpAny _ A.in1 (do checkBuiltinCall "tuple.__new__" ⟨[.ref 257, .ref T], []⟩; again (.builtin "tuple.__new__" ⟨[.ref 257, .ref T], []⟩)) _ _ s
  refine wpAny_bind (l1.here (wpAny_pure ⟨plainId_quiet (by decide +kernel) _, codeAny_builtin PySem.F.entry_tuple_new ?_⟩))
  rw [Around.under_plainId (by decide +kernel) _]
  unfold Builtin.«tuple.__new__»
  refine wpAny_bind (l2.here ?_)
  simp only [Bool.not_true, Bool.false_eq_true, if_false]
  refine wpAny_bind (l3.here ?_)
  simp only [Bool.not_true, Bool.false_eq_true, if_false]
  refine wpAny_bind (l4.here ?_)
  refine wpAny_bind (l5.here ?_)
  rw [if_pos (by decide +kernel)]
  refine wpAny_bind (wpAny_of_eq (a := ()) (by rfl) ?_)
  refine wpAny_bind (wpAny_of_eq (a := ()) (by rfl) ?_)
  rw [if_neg (by decide +kernel)]
  refine wpAny_bind (wpAny_collect_seq T (.inr rfl) h rfl rfl (fun h1 k1 => ?_) (by show (2 : Nat) ≤ sizeLine; decide))
  refine wpAny_bind (wpAny_pure (wpAny_bind (wpAny_alloc ?_)))
  have k2 : Le h1 (h1.push { cls := .type "dict", data := .dict #[] }) := fun b o e => Heap.get?_push_of_some _ e
  have e2 : (h1.push { cls := .type "dict", data := .dict #[] }).get? h1.objs.size = some emptyD := Heap.get?_push_size _ rfl
  have n1 := new_none h1
  generalize h1.push { cls := .type "dict", data := .dict #[] } = h2 at *
  dsimp only
  generalize h1.objs.size = d at *
  have k12 : Le s.heap h2 := fun b o e => k2 b o (k1 b o e)
  refine wpAny_bind ?_
  unfold newObj
  dsimp only
  rw [if_neg (show ¬ (#[Value.str x tx, Value.str y ty].size > sizeLine) from (show ¬ (2 > sizeLine) by decide))]
  unfold newObjAsIs
  refine wpAny_bind (wpAny_alloc ?_)
  have k3 : ∀ {o : Obj}, Le h2 (h2.push o) := fun b o e => Heap.get?_push_of_some _ e
  have l6 : Looks (model pw w) s.heap (classHasDel 257) false := Looks.of_peek X (by kernel_rfl)
  refine wpAny_bind ((l6.keeps (k12.trans k3)).here ?_)
  simp only [Bool.false_eq_true, if_false]
  refine wpAny_pure (wpAny_pure ⟨h2.objs.size, d, tx, ty, 0, rfl, Heap.get?_push_size _ rfl, k3 _ _ e2, fresh_le k12 (new_none h2), fresh_le k1 n1, Kp.of' (k12.trans k3)⟩)
end
section
variable {w : World} {A : Around} {s : Shared} {E : Value → Shared → Prop}
theorem oi_pair (X : (KF w.params).In s.heap) (ok : OkA 100 A) (u v : Value) (a : Addr) (d : Option Addr) (n : Nat) (vs : Array Value) (h : s.heap.get? a = some ⟨.ref 257, d, .seq vs n, #[]⟩) :
    wpAny (model pw w) A (PySem.call (.builtin "object.__init__") [.ref a, u, v]) (PostVal s .none) E s := by
  have l5 : Looks (model pw w) s.heap (typeLookup (.ref 257) "__init__") (some (.builtin "object.__init__")) := Looks.of_peek X (by kernel_rfl)
  have l6 : Looks (model pw w) s.heap (Bind.madeBy (.ref 257)) none := Looks.of_peek X (by kernel_rfl)
  have L0 : Looks (model pw w) s.heap (typeOf (.ref a)) (.ref 257) := (Looks.ld h).andThen .now
  refine wpAny_call (codeAny_call_builtin PySem.F.slot_object_init.plain PySem.F.entry_object_init ?_)
  refine @check_slot (model pw w) _ _ s "object.__init__" "object" "__init__" (.ref a) [u, v] [] _ (by decide +kernel) (by decide +kernel) (L0.andThen (looks_mroIn X (by kernel_rfl))) (by unfold argsOk; kernel_rfl) ?_
  unfold Builtin.«object.__init__»
  dsimp only
  rw [if_pos (by rfl)]
  refine wpAny_bind (L0.here (wpAny_bind (l5.here ?_)))
  refine wpAny_bind (l6.here ?_)
  rw [if_neg (by decide +kernel), if_neg (by decide +kernel)]
  exact wpAny_pure ⟨rfl, Kp.refl s⟩
end
noncomputable abbrev fdPn : FuncData := { fdM (mst 10 4) "__new__" "Pair.__new__" "cpy313.importlib.metadata._collections" 362 .none none 183 [] .none with doc := .str "Create new instance of Pair(name, value)" 492 }
theorem K_pn (w : World) : (K01 w).lookup 184 = some ⟨.type "function", none, .func fdPn, #[]⟩ := by kernel_rfl
noncomputable abbrev envPn (N : Nat) : Env := callEnvC fdPn N 184
noncomputable def pn (i : Nat) : Stmt := (fbody (mst 10 4)).getD i (.Pass default)
theorem pn_body : fbody (mst 10 4) = [pn 0, .Return (some (.Call (.Attribute (.Name "tuple" ⟨136, 15, 136, 20⟩) "__new__" ⟨136, 15, 136, 28⟩) [.Name "_cls" ⟨136, 29, 136, 33⟩,
  .Tuple [.Name "name" ⟨136, 36, 136, 40⟩, .Name "value" ⟨136, 42, 136, 47⟩] 0 ⟨136, 35, 136, 48⟩] [] ⟨136, 15, 136, 49⟩)) ⟨136, 8, 136, 49⟩] := by rfl
theorem tnw1 : typeOf (.type "tuple") = pure (.type "type") := by kernel_rfl
theorem tnw2 : Manifest.isStub "tuple" = false := by decide +kernel
theorem tnw3 : findCls [] (.type "tuple") (.type "type") "__new__" = some (.val (.builtin "tuple.__new__")) := by kernel_rfl
theorem tnw4 : handedIn (.builtin "tuple.__new__") = true := by kernel_rfl
section
variable {w : World} {A : Around} {s : Shared} {E : Value → Shared → Prop}
theorem pn_spec (T : TopH w s.heap) (ok : OkA 101 A) (x y : Str) (tx ty : Tok) : codeAny (model pw w) A (.call (.ref 184) ⟨[.ref 257, .str x tx, .str y ty], []⟩) (fun r s' => ∃ v, r = .ok (.ret v) ∧ PostPair s x y v s') s := by
  refine call_fnL (binds := [("_cls", .ref 257), ("name", .str x tx), ("value", .str y ty)]) _ ok.room T (K_pn w) 183 rfl (by kernel_rfl) rfl (Looks.of_peek T.K (by kernel_rfl)) rfl (fun y hy => ?_) fun s₁ X k => ?_
  · rcases List.mem_cons.mp hy with rfl | hy
    · exact .inl (by rfl)
    rcases List.mem_cons.mp hy with rfl | hy
    · exact .inl (by rfl)
    rcases List.mem_singleton.mp hy with rfl
    exact .inl (by rfl)
  generalize hN : s.heap.objs.size = N at *
  have okA : OkA 100 (A.deeper (envPn N)) := OkA.deeper ok _
  generalize hA' : A.deeper (callEnvC fdPn N 184) = A' at *
  have F := (Frm.ofCall X).kp (Kp.tk s₁ (s₁.toks + 1))
  show wpAny _ A' (execs (fbody (mst 10 4)) _) _ _ _
  rw [pn_body]
  refine wpAny_execs_cons (wpAny_Expr (Constant_str ?_) (by rfl) (by rfl))
  generalize hs2 : ({ s₁ with toks := s₁.toks + 1 } : Shared) = s₂ at *
  have T2 := T.mono F.keep
  have k2 : Kp s s₂ := F.kpAll
  have htr : backTo ⟨136, 15, 136, 49⟩ (starEach [.Name "_cls" ⟨136, 29, 136, 33⟩, .Tuple [.Name "name" ⟨136, 36, 136, 40⟩, .Name "value" ⟨136, 42, 136, 47⟩] 0 ⟨136, 35, 136, 48⟩] (envPn N)) =
      [(false, eval (.Name "_cls" ⟨136, 29, 136, 33⟩) (envPn N)), (false, eval (.Tuple [.Name "name" ⟨136, 36, 136, 40⟩, .Name "value" ⟨136, 42, 136, 47⟩] 0 ⟨136, 35, 136, 48⟩) (envPn N))] := by rw [starEach_cons (by rfl), starEach_cons (by rfl)]; rfl
  refine wpAny_execs_cons (wpAny_Return_some (call_meth htr (wpAny_Name (Var.bi T2 rfl (by rfl) rfl rfl (by kernel_rfl) (v := .type "tuple") (by decide) (by rfl) _ _ _ _ s₂ (fun _ _ e => e) ?_) (by decide))))
  intro pl
  refine @getMethod_type pw w A' _ s₂ "tuple" "__new__" (.builtin "tuple.__new__") pl _ tnw1 tnw2 tnw3 tnw4 ?_
  dsimp only
  have F3 := F.kp (Kp.tk s₂ (s₂.toks + 1))
  generalize hs3 : ({ s₂ with toks := s₂.toks + 1 } : Shared) = s₃ at *
  refine Calls.callWith_builtin (by rfl) (Calls.evalArgs_plain (Calls.spliced_cons (wpAny_Name (F3.loc rfl rfl (v := .ref 257) rfl _ _ _ _ s₃ (fun _ _ e => e) ?_) (by decide))))
  have ev : EvD pw w A' (envPn N) s₃.heap (fun _ => False) (.Tuple [.Name "name" ⟨136, 36, 136, 40⟩, .Name "value" ⟨136, 42, 136, 47⟩] 0 ⟨136, 35, 136, 48⟩) (.tup [.atom (.str x tx), .atom (.str y ty)]) :=
    EvD.tuple (.cons (EvD.name (F3.loc rfl rfl (v := .str x tx) rfl) (.atom _)) (.cons (EvD.name (F3.loc rfl rfl (v := .str y ty) rfl) (.atom _)) .nil rfl) rfl) (by show (2 : Nat) ≤ sizeLine; decide)
  refine Calls.spliced_cons (wpAny_mono (ev s₃ _ fun _ _ e => e) (fun r s4 h4 => Calls.spliced_nil ?_) fun _ _ q => q)
  obtain ⟨r4, k4⟩ := h4
  cases r4 using RD.tupE with
  | tup sa ea ca da ra =>
  rename_i T' o vs n
  obtain ⟨oc, od, odt, osl⟩ := o
  dsimp only at ca da
  subst ca da
  have hds : ∀ {h S l}, RDs h S l [.atom (.str x tx), .atom (.str y ty)] → l = [.str x tx, .str y ty] := fun r => by
    cases r using RDs.consE with
    | cons r1 r2 =>
    cases r2 using RDs.consE with
    | cons r2 r3 =>
    (first | cases r3 using RD.atomE | cases r3 using RDs.nilE | cases r3 using RD.strE | cases r3 using RD.intE | cases r3); (first | cases r1 using RD.atomE | cases r1 using RDs.nilE | cases r1 using RD.strE | cases r1 using RD.intE | cases r1); (first | cases r2 using RD.atomE | cases r2 using RDs.nilE | cases r2 using RD.strE | cases r2 using RD.intE | cases r2); rfl
  have hvs : vs = #[.str x tx, .str y ty] := Array.ext' (hds ra)
  subst hvs
  have T4 := T2.mono (fun b o e => k4.le b o (by rw [← hs3]; exact e))
  refine wpAny_mono (tn_pair T4.K (okA.weak (by decide)) x y tx ty T' n od osl ea) (fun v s5 h5 => ?_) fun _ _ q => q
  obtain ⟨a, d, tx', ty', n', rfl, e1, e2, e3, e4, k5⟩ := h5
  have k03 : Kp s s4 := F3.kpAll.tr k4
  exact ⟨_, rfl, a, d, tx', ty', n', rfl, e1, e2, fresh_le k03.le e3, fresh_le k03.le e4, k03.tr k5⟩
theorem call257 (w : World) : specialIn (K01 w) (.ref 257) "__call__" = some (some (.builtin "type.__call__")) := by kernel_rfl
theorem inst257 (w : World) : instIn (K01 w) (.ref 257) (.type "type") = some true := by kernel_rfl
theorem reads257 (w : World) : readsIn (K01 w) 257 (.type "type") = true := by kernel_rfl
theorem new257 (w : World) : findCls (K01 w) (.ref 257) (.type "type") "__new__" = some (.get (.builtin "staticmethod.__get__") (.ref 235) .none (.ref 257)) := by kernel_rfl
theorem sm235 (w : World) : recIn (K01 w) 235 "staticmethod" = some [.ref 184] := by kernel_rfl
theorem init257 (w : World) : findIn (K01 w) (.ref 257) "__init__" = some (some (.builtin "object.__init__")) := by kernel_rfl
theorem cls257 (w : World) : (clsIn (K01 w) 257).map (fun cd => (cd.mro.isEmpty, cd.mro)) = some (false, [.ref 257, .ref 234, .type "tuple", .type "object"]) := by kernel_rfl
theorem self257 (w : World) : mroIn (K01 w) 257 (.ref 257) = some true := by kernel_rfl
theorem slot4 (w : World) : ((K01 w).lookup 257).bind (fun o => o.slots[4]?) = some (some .none) := by kernel_rfl
theorem mk_pair (T : TopH w s.heap) (ok : OkA 102 A) (x y : Str) (tx ty : Tok) : wpAny (model pw w) A (PySem.call (.ref 257) [.str x tx, .str y ty]) (PostPair s x y) E s := by
  obtain ⟨cd, hc, hcm⟩ := Option.map_eq_some_iff.mp (cls257 w)
  obtain ⟨e4, em⟩ := Prod.mk.inj hcm
  have hm : Looks (model pw w) s.heap (mroOf (.ref 257)) cd.mro := (looks_clsIn T.K hc).andThen .now
  have call : Looks (model pw w) s.heap (specialOf (.ref 257) "__call__") (some (.builtin "type.__call__")) := looks_specialIn T.K (call257 w)
  have typ : Looks (model pw w) s.heap (isInstance (.ref 257) (.type "type")) true := looks_instIn T.K (inst257 w)
  have hC : ∃ oc od sl, s.heap.get? 257 = some ⟨oc, od, .cls cd, sl⟩ ∧ sl[4]? = some (some .none) := by
    unfold clsIn at hc
    have h4 := slot4 w
    split at hc
    · rename_i ho
      cases hc
      rw [ho] at h4
      exact ⟨_, _, _, T.K _ _ ho, h4⟩
    · cases hc
  obtain ⟨oc, od, sl, hC, h4⟩ := hC
  have made : Looks (model pw w) s.heap (Bind.madeBy (.ref 257)) none := Looks.of_peek T.K (by kernel_rfl)
  obtain ⟨h0, g, d, t, os⟩ := s
  refine wpAny_call (codeAny_of_tree ?_)
  show wpAny _ _ (callAny (.ref 257) _) _ _ _
  refine nd_load hC ?_
  show wpAny _ _ (callAny.viaDunder (.ref 257) _) _ _ _
  unfold callAny.viaDunder
  refine wpAny_bind (call.at ?_)
  dsimp only
  rw [tc_bind]
  refine wpAny_bind (wpAny_pure (wpAny_bind (wpAny_pure ?_)))
  refine wpAny_pure (a := Fin.again (.call (.builtin "type.__call__") ⟨.ref 257 :: [.str x tx, .str y ty], []⟩)) (And.intro rfl ?_)
  refine codeAny_call_builtin_at (Code.quiet_builtin _ (by decide +kernel)) entry_typeCall (check_slot tc_kind tc_split typ (tc_args _ _ _) ?_)
  unfold Builtin.«type.__call__»
  have okU : OkA 101 (A.under (.builtin "type.__call__" ⟨.ref 257 :: [.str x tx, .str y ty], []⟩)) := ⟨ok.hd, by have := ok.dp; show A.depth + 1 + 101 < recursionLimit; omega, by have := ok.un; show A.units + 1 + 10 * 101 + 300 < cLine; omega⟩
  generalize hU : A.under (.builtin "type.__call__" ⟨.ref 257 :: [.str x tx, .str y ty], []⟩) = U at *
  iterate 7 (first | simp only [e4, Bool.false_eq_true, if_false] | lk)
  refine wpAny_bind (cls_bind (C := 257) (g := .builtin "staticmethod.__get__") (a := .ref 235) (obj := .none) (tp := .ref 257) (mc := .type "type") T.K (reads257 w) (new257 w) ?_)
  refine wpAny_call (sm_get (s := ⟨h0, g, d, t + 1, os⟩) T.K (sm235 w) (handed_on (by rfl) ?_))
  refine wpAny_bind (wpAny_holding (wpAny_call (codeAny_mono (pn_spec (s := ⟨h0, g, d, t + 1, os⟩) T (okU.weak (by decide)) x y tx ty) fun r s' z => ?_)))
  obtain ⟨v, rfl, a, d', tx', ty', n', rfl, e1, e2, e3, e5, k⟩ := z
  have T' : TopH w s'.heap := T.mono k.le
  have t1 : Looks (model pw w) s'.heap (typeOf (.ref a)) (.ref 257) := (Looks.ld e1).andThen .now
  have i1 : Looks (model pw w) s'.heap (isInstance (.ref a) (.ref 257)) true := t1.andThen (looks_mroIn T'.K (self257 w))
  have l1 : Looks (model pw w) s'.heap (specialOf (.ref a) "__init__") (some (.builtin "object.__init__")) := t1.andThen (looks_findIn T'.K (init257 w))
  refine wpAny_bind (i1.here ?_)
  simp only [Bool.not_true, Bool.false_eq_true, if_false]
  refine wpAny_bind (wpAny_holding ?_)
  unfold callSpecial?
  refine wpAny_bind (l1.here (wpAny_holding ?_))
  rw [oi_bind]
  refine wpAny_bind (wpAny_pure (wpAny_bind (wpAny_mono (oi_pair T'.K (okU.weak (by decide)) (.str x tx) (.str y ty) a (some d') n' _ e1) (fun v s2 q => wpAny_pure ?_) fun _ _ q => q)))
  obtain ⟨rfl, k2⟩ := q
  simp only [bne_self_eq_false, Bool.false_eq_true, if_false]
  refine wpAny_pure ?_
  have k3 : Kp ⟨h0, g, d, t, os⟩ s2 := (Kp.tk ⟨h0, g, d, t, os⟩ (t + 1)).tr (k.tr k2)
  exact ⟨a, d', tx', ty', n', rfl, k2.le _ _ e1, k2.le _ _ e2, e3, e5, k3⟩
end
theorem tst1 : typeOf (.type "str") = pure (.type "type") := by kernel_rfl
theorem tst2 : Manifest.isStub "str" = false := by decide +kernel
theorem tst3 : findCls [] (.type "str") (.type "type") "strip" = some (.val (.builtin "str.strip")) := by kernel_rfl
theorem tst4 : handedIn (.builtin "str.strip") = true := by kernel_rfl
theorem getAttr_strStrip {prog : Program} {w : World} {A : Around} {E : Value → Shared → Prop} {s : Shared} {expr : Bool} {Q : Value → Shared → Prop} (h : Q (.builtin "str.strip") { s with toks := s.toks + 1 }) : wpAny (model prog w) A (getAttr (.type "str") "strip" expr) Q E s :=
  @getAttr_type prog w A E s "str" "strip" (.builtin "str.strip") expr Q tst1 tst2 tst3 tst4 h
theorem call_split {prog : Program} {w : World} {A : Around} {E : Value → Shared → Prop} {s : Shared} {x y p q : Str} {t u v : Tok} (h : Txt.splitMax x y 1 = [p, q]) (hsz : x.length ≤ sizeLine) (hy : (y.length == 0) = false) :
    wpAny (model prog w) A (PySem.call (.builtin "str.split") [.str x t, .str y u, .int 1 v]) (fun r s' => ∃ l tp tq, r = .ref l ∧ s'.heap.get? l = some ⟨.type "list", none, .seq #[.str p tp, .str q tq] 0, #[]⟩ ∧ s.heap.get? l = none ∧ Kp s s') E s := by
  unfold Txt.splitMax at h
  split at h
  · cases h
  rename_i h1
  split at h
  · cases h
  rename_i h2
  simp only [Bool.not_eq_true] at h1 h2
  refine call_meets F.slot_str_split (typeIs_str _ _ _) F.entry_str_split (F.args_str_split_3 _ _ _) (meets_str_split_sep_max x y 1 t u v (by decide) h1 hy h2 hsz (by rw [h]; show (2 : Nat) ≤ sizeLine; decide)) ?_
  rw [h]
  exact ⟨_, _, _, rfl, Heap.get?_push_size _ rfl, new_none _, Kp.of _ fun b o e => Heap.get?_push_of_some _ e⟩
noncomputable abbrev fdParse : FuncData := fdM (mst 11 0) "parse" "Pair.parse" "cpy313.importlib.metadata._collections" 362 .none (some 254) 250 [] .none
theorem K_parse (w : World) : (K01 w).lookup 251 = some ⟨.type "function", none, .func fdParse, #[]⟩ := by kernel_rfl
noncomputable abbrev envParse (N : Nat) : Env := callEnvC fdParse N 251
section
variable {w : World} {A : Around} {E : Value → Shared → Prop} {s : Shared}
theorem parse_spec (T : TopH w s.heap) (ok : OkA 103 A) {x p q : Str} {t : Tok} (h : Txt.splitMax x "=" 1 = [p, q]) (hsz : x.length ≤ sizeLine) (hp : p.length ≤ sizeLine) (hq : q.length ≤ sizeLine) :
    codeAny (model pw w) A (.call (.ref 251) ⟨[.ref 257, .str x t], []⟩) (fun r s' => ∃ v, r = .ok (.ret v) ∧ PostPair s (Txt.strip p) (Txt.strip q) v s') s := by
  refine call_fn (binds := [("cls", .ref 257), ("text", .str x t)]) _ ok.room T (K_parse w) 250 rfl (by kernel_rfl) rfl (by rfl) rfl (fun y hy => ?_) fun s₁ X k => ?_
  · rcases List.mem_cons.mp hy with rfl | hy
    · exact .inl (by rfl)
    rcases List.mem_singleton.mp hy with rfl
    exact .inl (by rfl)
  generalize hN : s.heap.objs.size = N at *
  have okA : OkA 102 (A.deeper (envParse N)) := OkA.deeper ok _
  generalize hA' : A.deeper (callEnvC fdParse N 251) = A' at *
  have F := Frm.ofCall X
  have T1 := T.mono k.le
  have vc : Var (envParse N) s₁.heap "cls" (.ref 257) := F.loc rfl rfl rfl
  have vt : Var (envParse N) s₁.heap "text" (.str x t) := F.loc rfl rfl rfl
  have vm : Var (envParse N) s₁.heap "map" (.type "map") := Var.bi T1 rfl rfl rfl rfl (by kernel_rfl) (by decide) (by rfl)
  have vst : Var (envParse N) s₁.heap "str" (.type "str") := Var.bi T1 rfl rfl rfl rfl (by kernel_rfl) (by decide) (by rfl)
  refine wpAny_execs_cons (wpAny_Return_some (wpAny_Call_NameR (wpAny_Name (vc _ _ _ _ s₁ (fun _ _ e => e) ?_) (by decide))))
  refine callWith_S T1.K (by kernel_rfl) ?_
  refine wpAny_Call_NameR (wpAny_Name (vm _ _ _ _ s₁ (fun _ _ e => e) ?_) (by decide))
  refine PySem.callWith_type (by rfl) (Calls.evalArgs_plain (Calls.spliced_cons (Attribute_name (wpAny_Name (vst _ _ _ _ s₁ (fun _ _ e => e) ?_) (by decide)))))
  refine getAttr_strStrip ?_
  refine Calls.spliced_cons (call_meth rfl (wpAny_Name (vt _ _ _ _ _ (fun _ _ e => e) ?_) (by decide)))
  intro pl
  refine GM.split ?_
  dsimp only
  refine Calls.callWith_builtin (by rfl) (Calls.evalArgs_plain (Calls.spliced_cons ?_))
  refine Constant_str (pos := ⟨174, 46, 174, 49⟩) (k := 0) ?_
  refine Calls.spliced_cons ?_
  refine wpAny_Constant_int (pos := ⟨174, 51, 174, 52⟩) (k := 0) ?_
  refine Calls.spliced_nil ?_
  show wpAny _ _ (PySem.call (.builtin "str.split") [.str x t, .str "=" _, .int 1 _]) _ _ _
  refine wpAny_mono (call_split h hsz (by decide +kernel)) (fun r s₂ h₂ => ?_) fun _ _ z => z
  obtain ⟨l, tp, tq, rfl, hl, hl0, k2⟩ := h₂
  have K2 : Kp s₁ s₂ := (Kp.tk s₁ _).tr k2
  refine Calls.spliced_nil ?_
  show wpAny _ _ (PySem.call (.type "map") [.builtin "str.strip", .ref l]) _ _ _
  have T2 := T1.mono K2.le
  refine wpAny_mono (mk_map T2.K (okA.weak (by decide)) l none 0 #[] _ hl) (fun r s₃ h₃ => ?_) fun _ _ z => z
  obtain ⟨M, Tt, I, rfl, hM, hTt, hI, hM0, hT0, hI0, hTM, hIT, k3⟩ := h₃
  have hl3 := k3.le _ _ hl
  have st0 : MapAt M Tt I l #[.str p tp, .str q tq] 0 s₃.heap := ⟨hM, hTt, hI, ⟨_, hl3, rfl, _, rfl⟩⟩
  have hlI : l ≠ I := fun z => by rw [z, hI0] at hl; cases hl
  show StarOf _ _ _ _ _ s₃
  refine wpAny_bind (wpAny_specialOf (T := "map") ⟨_, hM, rfl⟩ slot_map_iter.lookup (wpAny_pure ⟨rfl, ?_⟩))
  refine collect_iter (T := "map") (walks_map (A := A'.in1) okA.hd [p, q] #[.str p tp, .str q tq] (fun i y hy => ?_) rfl (fun y hy => ?_) (fun z => by rw [z] at hTM; exact Nat.lt_irrefl _ (Nat.lt_trans hIT hTM)) (Nat.ne_of_gt hIT) hlI).toS
    (fun i s st => ⟨_, st.m, rfl⟩) (by decide) (by decide) (fun s Q E st z => ?_) st0 (fun b hb => ?_) (List.mem_cons_self ..) (by show (2 : Nat) ≤ sizeLine; decide) fun s₄ acc hm hacc => ?_
  · rcases i with _ | _ | i
    · cases hy; exact ⟨_, rfl⟩
    · cases hy; exact ⟨_, rfl⟩
    · cases hy
  · rcases List.mem_cons.mp hy with rfl | hy
    · exact hp
    · rw [List.mem_singleton.mp hy]; exact hq
  · unfold Builtin.List.listLengthHint
    refine wpAny_bind (wpAny_specialOf (T := "map") ⟨_, st.m, rfl⟩ nolen_map ?_)
    show wpAny _ _ (specialOf (Value.ref M) (Str.ofString "__length_hint__") >>= _) _ _ _
    refine wpAny_bind (wpAny_specialOf (T := "map") ⟨_, st.m, rfl⟩ nohint_map ?_)
    exact wpAny_pure (z _)
  · have hb' : s₃.heap.get? b ≠ none := by
      obtain ⟨oi, ei, _⟩ := hI
      simp only [List.mem_cons, List.not_mem_nil, or_false] at hb
      rcases hb with rfl | rfl | rfl | rfl
      · exact some_ne hM
      · exact some_ne hTt
      · exact some_ne ei
      · exact some_ne hl3
    cases e : s₃.heap.get? b with
    | none => exact absurd e hb'
    | some o => exact Heap.lt_size e
  · have K4 : Kp s₁ s₄ := by
      obtain ⟨g1, g2, g3, g4, g5⟩ := hm
      have K3 := K2.tr k3
      refine ⟨fun b o e => g1 b o (fun z => ?_) (K3.le b o e), s₄.heap, s₄.toks, ?_⟩
      · rw [List.mem_singleton.mp z, fresh_le K2.le hI0] at e; cases e
      · obtain ⟨z1, h', tk, rfl⟩ := K3
        cases s₄
        simp only at g2 g3 g4
        subst g2 g3 g4
        rfl
    have e : ∃ t1 t2, acc.toList = [.str (Txt.strip p) t1, .str (Txt.strip q) t2] := by
      obtain ⟨h1, h2⟩ := hacc
      obtain ⟨ac⟩ := acc
      rcases ac with _ | ⟨a, _ | ⟨b, _ | ⟨c, ac⟩⟩⟩
      · cases h1
      · cases h1
      · obtain ⟨x1, t1, e1, e2⟩ := h2 0 a rfl
        obtain ⟨x2, t2, e3, e4⟩ := h2 1 b rfl
        cases e1
        cases e3
        exact ⟨t1, t2, by rw [e2, e4]⟩
      · cases h1
    obtain ⟨t1, t2, e⟩ := e
    rw [e]
    have T4 := T1.mono K4.le
    refine ⟨T4.K, ?_⟩
    refine wpAny_mono (mk_pair T4 (okA.weak (by decide)) _ _ t1 t2) (fun v s₅ h₅ => ⟨v, rfl, ?_⟩) fun _ _ z => z
    obtain ⟨a, d, tx, ty, n, rfl, ha, hd, ha0, hd0, k5⟩ := h₅
    have kk := k.tr K4
    exact ⟨a, d, tx, ty, n, rfl, ha, hd, fresh_le kk.le ha0, fresh_le kk.le hd0, kk.tr k5⟩
end
section
variable {w : World} {A : Around} {E : Value → Shared → Prop} {s : Shared} {env : Env}
theorem ev_parse (T : TopH w s.heap) (ok : OkA 103 A) {e : Expr} {p0 ap cp : Pos} {x p q : Str} (vp : Var env s.heap "Pair" (.ref 257)) (ev : EvD pw w A env s.heap (fun _ => False) e (.str x)) (h : Txt.splitMax x "=" 1 = [p, q]) (hsz : x.length ≤ sizeLine) (hp : p.length ≤ sizeLine) (hq : q.length ≤ sizeLine)
    (hn : isStar e = false) (hline : (ap.endLine == cp.line) = true := by rfl) :
    wpAny (model pw w) A (eval (.Call (.Attribute (.Name "Pair" p0) "parse" ap) [e] [] cp) env) (PostPair s (Txt.strip p) (Txt.strip q)) E s := by
  have htr : backTo cp (starEach [e] env) = [(false, eval e env)] := by rw [starEach_cons hn]; rfl
  refine call_meth htr (wpAny_Name (vp _ _ _ _ s (fun _ _ e => e) ?_) (by decide)) (hline := hline)
  intro pl
  refine method_cls T.K (by kernel_rfl) ?_
  refine cls_bind (g := .builtin "classmethod.__get__") (a := .ref 253) (obj := .none) (tp := .ref 257) (mc := .type "type") T.K (by kernel_rfl) (by kernel_rfl) ?_
  refine wpAny_call (cm_get (s := { s with toks := s.toks + 1 }) (f := .ref 251) (rest := [.bool false]) T.K (by kernel_rfl) ?_)
  refine handed_on (by rfl) ?_
  have hm0 : (s.heap.push (methodObj (.ref 251) (.ref 257))).get? s.heap.objs.size = some (methodObj (.ref 251) (.ref 257)) := Heap.get?_push_size _ rfl
  have kk : Kp s { s with heap := s.heap.push (methodObj (.ref 251) (.ref 257)), toks := s.toks + 1 } := Kp.of _ fun b o e => Heap.get?_push_of_some _ e
  show wpAny _ A (callWith cp (.ref s.heap.objs.size) [] [(false, eval e env)] []) _ _ { s with heap := s.heap.push (methodObj (.ref 251) (.ref 257)), toks := s.toks + 1 }
  generalize hs1 : ({ s with heap := s.heap.push (methodObj (.ref 251) (.ref 257)), toks := s.toks + 1 } : Shared) = s₁ at *
  have hm1 : s₁.heap.get? s.heap.objs.size = some (methodObj (.ref 251) (.ref 257)) := by rw [← hs1]; exact hm0
  generalize s.heap.objs.size = m at *
  refine callWith_of (P := MethP (K01 w) m 251 (.ref 257)) (by rfl) (keeps_M (by kernel_rfl)) (Calls.evalArgs_plain (Calls.spliced_cons ?_))
  refine wpAny_mono ((ev.mono kk.le) s₁ E fun _ _ e => e) (fun v s₂ h₂ => Calls.spliced_nil ?_) fun _ _ z => z
  obtain ⟨r, k2⟩ := h₂
  (first | cases r using RD.atomE | cases r using RDs.nilE | cases r using RD.strE | cases r using RD.intE | cases r)
  rename_i t
  have T2 := T.mono (kk.tr k2).le
  refine ⟨⟨k2.le _ _ hm1, T2.K⟩, ?_⟩
  refine wpAny_call (method_call (k2.le _ _ hm1) (codeAny_mono (parse_spec T2 (ok.weak (by decide)) h hsz hp hq) fun r s₃ h₃ => ?_))
  obtain ⟨v, rfl, a, d, tx, ty, n, rfl, ha, hd, ha0, hd0, k3⟩ := h₃
  have k12 := kk.tr k2
  exact ⟨a, d, tx, ty, n, rfl, ha, hd, fresh_le k12.le ha0, fresh_le k12.le hd0, k12.tr k3⟩
end
theorem slot_tga : Slot "tuple" "__getattribute__" "tuple.__getattribute__" :=
  .of (owner := "tuple") (n := "__getattribute__") (by rw [typeLookup_type, builtinLookup_eq_fast]; kernel_rfl) (by decide +kernel) (by decide +kernel) (by decide +kernel)
    (by first | exact .inl (by decide +kernel) | exact .inr (by decide +kernel)) (by rw [isSubtype_type]; kernel_rfl)
theorem entry_tga : entryFor table "tuple.__getattribute__" = some Builtin.«object.__getattribute__» :=
  entryFor_alias (id' := "object.__getattribute__") (by kernel_rfl) (by first | rfl | decide +kernel | (unfold String.splitOn; simp +decide [String.splitOnAux])) (by decide +kernel) (by kernel_rfl)
theorem args_tga (a b : Value) : argsOk "tuple.__getattribute__" ⟨[a, b], []⟩ := by unfold argsOk; kernel_rfl
theorem slot_dga : Slot "collections.defaultdict" "__getattribute__" "collections.defaultdict.__getattribute__" :=
  .of (owner := "collections.defaultdict") (n := "__getattribute__") (by rw [typeLookup_type, builtinLookup_eq_fast]; kernel_rfl) (by decide +kernel) (by decide +kernel) (by decide +kernel)
    (by first | exact .inl (by decide +kernel) | exact .inr (by decide +kernel)) (by rw [isSubtype_type]; kernel_rfl)
theorem entry_dga : entryFor table "collections.defaultdict.__getattribute__" = some Builtin.«object.__getattribute__» :=
  entryFor_alias (id' := "object.__getattribute__") (by kernel_rfl) (by first | rfl | decide +kernel | (unfold String.splitOn; simp +decide [String.splitOnAux])) (by decide +kernel) (by kernel_rfl)
theorem args_dga (a b : Value) : argsOk "collections.defaultdict.__getattribute__" ⟨[a, b], []⟩ := by unfold argsOk; kernel_rfl
section
variable {prog : Program} {w : World} {A : Around} {E : Value → Shared → Prop} {s : Shared} {K : Frag} {x C : Addr} {ox : Obj} {od : Option Obj} {name : Str} {expr : Bool} {Q : Value → Shared → Prop}
open Builtin Builtin.ObjectAttr in
theorem get_bind2 {id owner : String} {g a : Value} (X : K.In s.heap) (I : InstAt s.heap x ox C od) (slot : Slot owner "__getattribute__" id) (hsp : splitId id = some (owner, "__getattribute__")) (hkd : builtinKind id = some .slot) (entry : entryFor table id = some Builtin.«object.__getattribute__») (args : ∀ a b, argsOk id ⟨[a, b], []⟩)
    (hne : (Value.builtin id == .builtin "object.__getattribute__") = false) (hsub : mroIn K C (.type owner) = some true) (hga : findIn K (.ref C) "__getattribute__" = some (some (.builtin id))) (hk : findIn K (.ref C) "__getattr__" = some none)
    (hf : findObj K C od name = some (.bind g a))
    (h : wpAny (model prog w) A.in1 (PySem.call g [a, .ref x, .ref C]) (fun v s' => wpAny (model prog w) A (handedOut v) Q E s') (fun _ _ => False) { s with toks := s.toks + 1 }) :
    wpAny (model prog w) A (getAttr (.ref x) name expr) Q E s := by
  have L0 := I.type (M := model prog w)
  have L1 := looks_findIn (M := model prog w) X hga
  have L2 := looks_findIn (M := model prog w) X hk
  have LF := looks_find (M := model prog w) X I hf
  unfold getAttr getAttrBy
  refine wpAny_bind (wpAny_mkText (wpAny_holding (wpAny_bind (L0 _ _ _ _ (fun _ _ e => e) (wpAny_bind (L1 _ _ _ _ (fun _ _ e => e) ?_))))))
  dsimp only
  rw [hne, Bool.and_false, if_neg (by decide)]
  unfold getAttrByItsOwn
  refine wpAny_bind ?_
  unfold hookBefore
  rw [if_pos (by rfl)]
  refine L2 _ _ _ _ (fun _ _ e => e) (wpAny_bind (wpAny_attempt (wpAny_holding ?_)))
  unfold callGetattribute
  rw [show (expr && onTheHeap (Value.builtin id)) = false from Bool.and_false _, if_neg (by decide)]
  unfold boundAndCalled
  rw [slot.bind]
  refine wpAny_bind (wpAny_pure ?_)
  show wpAny _ _ (PySem.call (.builtin id) [.ref x, .str name s.toks]) _ _ { s with toks := s.toks + 1 }
  refine wpAny_call (codeAny_call_builtin slot.plain entry ?_)
  refine @check_slot (model prog w) _ _ { s with toks := s.toks + 1 } id owner "__getattribute__" (.ref x) [.str name s.toks] [] _ hkd hsp (L0.andThen (looks_mroIn X hsub)) (args _ _) ?_
  unfold «object.__getattribute__»
  refine wpAny_bind (wpAny_pure ?_)
  refine wpAny_bind (wpAny_pure ?_)
  refine wpAny_bind (L0 _ _ _ _ (fun _ _ e => e) (wpAny_bind (LF _ _ _ _ (fun _ _ e => e) ?_)))
  show wpAny _ _ (holding [a] (PySem.call g [a, .ref x, .ref C]) >>= ret) _ _ _
  exact wpAny_bind (wpAny_holding (wpAny_mono h (fun v s' z => wpAny_pure z) fun _ _ z => z.elim))
end
noncomputable def objK (w : World) (a : Addr) : Obj := ((K01 w).lookup a).getD { cls := .none, data := .plain }
theorem K_225 (w : World) : (K01 w).lookup 225 = some (objK w 225) := by kernel_rfl
theorem K_228 (w : World) : (K01 w).lookup 228 = some (objK w 228) := by kernel_rfl
theorem K_226 (w : World) : (K01 w).lookup 226 = some ⟨.ref 132, some 225, .plain, #[]⟩ := by kernel_rfl
theorem K_229 (w : World) : (K01 w).lookup 229 = some ⟨.ref 132, some 228, .plain, #[]⟩ := by kernel_rfl
theorem F_225 (w : World) : findObj (K01 w) 132 (some (objK w 225)) "index" = some (.value (.int 0 554)) := by kernel_rfl
theorem F_228 (w : World) : findObj (K01 w) 132 (some (objK w 228)) "index" = some (.value (.int 1 564)) := by kernel_rfl
theorem F_name (w : World) : findObj (K01 w) 257 (some ⟨.type "dict", none, .dict #[] 0, #[]⟩) "name" = some (.bind (.ref 115) (.ref 226)) := by kernel_rfl
theorem F_value (w : World) : findObj (K01 w) 257 (some ⟨.type "dict", none, .dict #[] 0, #[]⟩) "value" = some (.bind (.ref 115) (.ref 229)) := by kernel_rfl
section
variable {w : World} {A : Around} {E : Value → Shared → Prop} {s : Shared} {env : Env}
theorem ev_name (T : TopH w s.heap) (ok : OkA 104 A) {x : Str} {p0 ap : Pos} {a d : Addr} {u v : Value} {n : Nat} (vp : Var env s.heap x (.ref a)) (ha : s.heap.get? a = some ⟨.ref 257, some d, .seq #[u, v] n, #[]⟩) (hd : s.heap.get? d = some ⟨.type "dict", none, .dict #[] 0, #[]⟩) (hu : handedIn u = true) (hx : (x == ("__debug__" : Str)) = false := by decide) :
    wpAny (model pw w) A (eval (.Attribute (.Name x p0) "name" ap) env) (fun r s' => r = u ∧ Kp s s') E s := by
  have I : InstAt s.heap a ⟨.ref 257, some d, .seq #[u, v] n, #[]⟩ 257 (some ⟨.type "dict", none, .dict #[] 0, #[]⟩) := ⟨ha, rfl, rfl, hd⟩
  refine Attribute_name (wpAny_Name (vp _ _ _ _ s (fun _ _ e => e) ?_) hx)
  refine get_bind2 (g := .ref 115) (a := .ref 226) T.K I slot_tga (by decide +kernel) (by decide +kernel) entry_tga args_tga (by decide) (by kernel_rfl) (by kernel_rfl) (by kernel_rfl) (F_name w) ?_
  have I2 : InstAt s.heap 226 ⟨.ref 132, some 225, .plain, #[]⟩ 132 (some (objK w 225)) := ⟨T.K _ _ (K_226 w), rfl, rfl, T.K 225 _ (K_225 w)⟩
  refine wpAny_call (codeAny_mono (tg_get (s := { s with toks := s.toks + 1 }) T (OkA.in1 (n := 102) (ok.weak (by decide))) I2 (F_225 w) ha (by decide) (by decide) (j := 0) (by rfl) (x := u) (by rfl)) fun r s₁ h₁ => ?_)
  obtain ⟨rfl, k⟩ := h₁
  exact handed_on hu ⟨rfl, (Kp.tk s _).tr k⟩
theorem ev_value (T : TopH w s.heap) (ok : OkA 104 A) {x : Str} {p0 ap : Pos} {a d : Addr} {u v : Value} {n : Nat} (vp : Var env s.heap x (.ref a)) (ha : s.heap.get? a = some ⟨.ref 257, some d, .seq #[u, v] n, #[]⟩) (hd : s.heap.get? d = some ⟨.type "dict", none, .dict #[] 0, #[]⟩) (hu : handedIn v = true) (hx : (x == ("__debug__" : Str)) = false := by decide) :
    wpAny (model pw w) A (eval (.Attribute (.Name x p0) "value" ap) env) (fun r s' => r = v ∧ Kp s s') E s := by
  have I : InstAt s.heap a ⟨.ref 257, some d, .seq #[u, v] n, #[]⟩ 257 (some ⟨.type "dict", none, .dict #[] 0, #[]⟩) := ⟨ha, rfl, rfl, hd⟩
  refine Attribute_name (wpAny_Name (vp _ _ _ _ s (fun _ _ e => e) ?_) hx)
  refine get_bind2 (g := .ref 115) (a := .ref 229) T.K I slot_tga (by decide +kernel) (by decide +kernel) entry_tga args_tga (by decide) (by kernel_rfl) (by kernel_rfl) (by kernel_rfl) (F_value w) ?_
  have I2 : InstAt s.heap 229 ⟨.ref 132, some 228, .plain, #[]⟩ 132 (some (objK w 228)) := ⟨T.K _ _ (K_229 w), rfl, rfl, T.K 228 _ (K_228 w)⟩
  refine wpAny_call (codeAny_mono (tg_get (s := { s with toks := s.toks + 1 }) T (OkA.in1 (n := 102) (ok.weak (by decide))) I2 (F_228 w) ha (by decide) (by decide) (j := 1) (by rfl) (x := v) (by rfl)) fun r s₁ h₁ => ?_)
  obtain ⟨rfl, k⟩ := h₁
  exact handed_on hu ⟨rfl, (Kp.tk s _).tr k⟩
end
theorem check_meth {M : Model} {A : Around} {E : Value → Shared → Prop} {s : Shared} {i owner n : String} {self : Value} {rest : List Value} {Q : Unit → Shared → Prop}
    (hk : builtinKind i = some .method) (hs : splitId i = some (owner, n)) (hi : Looks M s.heap (isInstance self (.type owner)) true) (ha : argsOk i ⟨self :: rest, []⟩) (q : Q () s) : wpAny M A (checkBuiltinCall i ⟨self :: rest, []⟩) Q E s := by
  simp only [checkBuiltinCall, hk, hs]
  refine wpAny_bind (hi.here ?_)
  simp only [Bool.not_true, Bool.false_eq_true, if_false]
  cases hsig : Manifest.signature? i with
  | none => exact wpAny_pure q
  | some sig =>
    simp only [argsOk, hsig] at ha
    have h2 : Bind.checkArgs i sig ⟨self :: rest, []⟩ = pure () := ha
    first
      | (rw [h2]; exact wpAny_pure q)
      | exact wpAny_bind (wpAny_of_eq h2 (wpAny_pure q))
      | exact wpAny_of_eq h2 q
inductive Ents (w : World) : List DictEntry → List (Str × Addr) → Prop
  | nil : Ents w [] []
  | cons {k a t l ks} : Ents w l ks → Ents w (⟨hashStr w k, .str k t, .ref a⟩ :: l) ((k, a) :: ks)
noncomputable def lookA (ks : List (Str × Addr)) (x : Str) : Option Addr := (ks.find? fun k => k.1 == x).map (·.2)
structure BookAt (w : World) (h : Heap) (B bd : Addr) (ks : List (Str × Addr)) : Prop where
  at_ : ∃ l ep, h.get? B = some ⟨.ref 162, some bd, .dict l.toArray ep, #[some (.type "list")]⟩ ∧ Ents w l ks
theorem Ents.keys {w : World} {l : List DictEntry} {ks : List (Str × Addr)} (x : Ents w l ks) : KeysOf (strKind pw w) l.toArray := by
  intro e he
  have he' : e ∈ l := by simpa using he
  clear he
  induction x with
  | nil => cases he'
  | cons r ih =>
    cases he' with
    | head => exact ⟨_, strKind_is pw w _ _, rfl⟩
    | tail _ h => exact ih h
theorem Ents.len {w : World} {l : List DictEntry} {ks : List (Str × Addr)} (x : Ents w l ks) : l.length = ks.length := by
  induction x with
  | nil => rfl
  | cons r ih => simp [ih]
theorem isStr_key (w : World) (x k : Str) (t : Tok) : (strKind pw w).is x (.str k t) = (k == x) := by
  have := KeyKind.is_eq_decide (strKind_is pw w k t) x
  rw [this, Bool.eq_iff_iff]
  simp only [decide_eq_true_eq, beq_iff_eq]
  exact ⟨fun z => z.symm, fun z => z.symm⟩
theorem Ents.find {w : World} {x : Str} : ∀ {l : List DictEntry} {ks : List (Str × Addr)}, Ents w l ks → ((l.findIdx? fun e => (strKind pw w).is x e.key).bind fun i => (l[i]?).map (·.val)) = (lookA ks x).map .ref
  | _, _, .nil => rfl
  | _, _, .cons (k := k) (a := a) (t := t) (l := l) (ks := ks) r => by
    rw [List.findIdx?_cons]
    unfold lookA
    rw [List.find?_cons, isStr_key]
    cases hk : (k == x) with
    | true => simp
    | false =>
      simp only [Bool.false_eq_true, if_false]
      have := Ents.find (x := x) r
      unfold lookA at this
      rw [← this]
      cases (l.findIdx? fun e => (strKind pw w).is x e.key) <;> simp
section
variable {w : World} {A : Around} {E : Value → Shared → Prop} {s : Shared}
theorem get_book {B bd : Addr} {ks : List (Str × Addr)} {x : Str} {t : Tok} {Q : Option Value → Shared → Prop} (b : BookAt w s.heap B bd ks) (h : Q ((lookA ks x).map .ref) { s with toks := s.toks + 1 }) : wpAny (model pw w) A (dictGet B (.str x t)) Q E s := by
  obtain ⟨l, ep, e, en⟩ := b.at_
  unfold dictGet
  refine wpAny_holding (wpAny_bind ((strKind pw w).pyHash (strKind_is pw w x t) (wpAny_bind (wpAny_dictFind_of (knd := strKind pw w) (s := { s with toks := s.toks + 1 }) (strKind_is pw w x t) e rfl en.keys ?_))))
  rw [← en.find] at h
  have hf : l.toArray.findIdx? (fun e => (strKind pw w).is x e.key) = l.findIdx? fun e => (strKind pw w).is x e.key := by simp
  rw [hf]
  cases hi : l.findIdx? fun e => (strKind pw w).is x e.key with
  | none => rw [hi] at h; exact wpAny_pure h
  | some i =>
    rw [hi] at h
    refine wpAny_bind (wpAny_dictEntries (s := { s with toks := s.toks + 1 }) e rfl (wpAny_pure ?_))
    simpa using h
theorem looks_book (K : (K01 w).In s.heap) {M : Model} {a : Addr} {o : Obj} (e : s.heap.get? a = some o) (hc : o.cls = .ref 162) : Looks M s.heap (isInstance (.ref a) (.type "dict")) true := by
  have T : Looks M s.heap (typeOf (.ref a)) (.ref 162) := hc ▸ (Looks.ld e).andThen .now
  exact T.andThen (looks_mroIn K (by kernel_rfl))
theorem getItem_book (K : (K01 w).In s.heap) {B bd : Addr} {ks : List (Str × Addr)} {key : Value} {Q : Value → Shared → Prop} (b : BookAt w s.heap B bd ks)
    (h : wpAny (model pw w) A (PySem.call (.builtin "dict.__getitem__") [.ref B, key]) Q E s) : wpAny (model pw w) A (getItem (.ref B) key) Q E s := by
  obtain ⟨l, ep, e, en⟩ := b.at_
  have L0 : Looks (model pw w) s.heap (typeOf (.ref B)) (.ref 162) := (Looks.ld e).andThen .now
  have L1 : Looks (model pw w) s.heap (typeLookup (.ref 162) "__getitem__") (some (.builtin "dict.__getitem__")) := looks_findIn K (by kernel_rfl)
  unfold getItem sequenceKey
  refine wpAny_holding (wpAny_bind (wpAny_bind (L0.here ?_)))
  refine wpAny_bind ((anyM_none (C := 162) K (by kernel_rfl)).here ?_)
  rw [if_pos (show (!false) = true from rfl)]
  refine wpAny_pure (wpAny_bind ?_)
  unfold callSpecial? specialOf
  refine wpAny_bind (wpAny_bind (L0.here (L1.here (wpAny_holding ?_))))
  rw [slot_dict_getitem.bind]
  exact wpAny_bind (wpAny_pure (wpAny_bind (wpAny_mono h (fun v s' z => wpAny_pure (wpAny_pure z)) fun _ _ z => z)))
theorem item_hit (K : (K01 w).In s.heap) {B bd : Addr} {ks : List (Str × Addr)} {x : Str} {t : Tok} {a : Addr} {Q : Value → Shared → Prop} (b : BookAt w s.heap B bd ks) (hl : lookA ks x = some a)
    (h : Q (.ref a) { s with toks := s.toks + 1 }) : wpAny (model pw w) A (getItem (.ref B) (.str x t)) Q E s := by
  refine getItem_book K b ?_
  obtain ⟨l, ep, e, en⟩ := id b.at_
  refine wpAny_call (codeAny_call_builtin slot_dict_getitem.plain entry_dict_getitem ?_)
  refine @check_meth (model pw w) _ _ s "dict.__getitem__" "dict" "__getitem__" (.ref B) [.str x t] _ (by decide +kernel) (by decide +kernel) (looks_book K e rfl) (args_dict_getitem _ _) ?_
  show wpAny _ _ (dictGet B (.str x t) >>= _) _ _ s
  refine wpAny_bind (get_book b ?_)
  rw [hl]
  exact wpAny_pure h
end
noncomputable abbrev bmObj (B : Addr) : Obj := { cls := .type "builtin_function_or_method", dict := none, data := .fields #[.builtin "collections.defaultdict.__missing__", .ref B], slots := #[] }
noncomputable abbrev suObj (B : Addr) : Obj := { cls := .type "super", dict := none, data := .fields #[.ref 162, .ref B, .ref 162], slots := #[] }
section
variable {s : Shared} {h' : Heap} {t : Nat} {news : List (Addr × Obj)}
noncomputable def PostBm (s : Shared) (B : Addr) (v : Value) (s' : Shared) : Prop := ∃ m, v = .ref m ∧ s'.heap.get? m = some (bmObj B) ∧ s.heap.get? m = none ∧ Kp s s'
theorem post_bm {B m : Addr} (D : X.Mem s.heap h' [] news) (e1 : news[0]? = some (m, bmObj B)) : PostBm s B (.ref m) ⟨h', s.gens, s.drawn, t, s.os⟩ :=
  have h1 := mem_at D 0 e1
  ⟨m, rfl, h1.1, h1.2, mem_kp D⟩
end
section
variable {w : World} {A : Around} {s : Shared} {E : Value → Shared → Prop}
local macro_rules | `(tactic| x_close) => `(tactic| (refine post_bm (by assumption) ?_; first | rfl | kernel_rfl))
theorem md_get (X : (KF w.params).In s.heap) (ok : OkA 100 A) (B bd : Addr) (es : Array DictEntry) (ep : Nat) (h1 : s.heap.get? B = some ⟨.ref 162, some bd, .dict es ep, #[some (.type "list")]⟩) :
    wpAny (model pw w) A (PySem.call (.builtin "method_descriptor.__get__") [.builtin "collections.defaultdict.__missing__", .ref B, .ref 162]) (PostBm s B) E s := by
  refine litA ok fun l g => ?_
  x_run
end
theorem ty_miss : typeOf (.builtin "collections.defaultdict.__missing__") = pure (.type "method_descriptor") := by show builtinType _ = _; rw [builtinType_eq_fast]; kernel_rfl
theorem lk_mdget : typeLookup (.type "method_descriptor") "__get__" = pure (some (.builtin "method_descriptor.__get__")) := by rw [typeLookup_type, builtinLookup_eq_fast]; kernel_rfl
theorem along_miss (w : World) : alongIn (K01 w) "__missing__" [.type "collections.defaultdict", .type "dict", .type "object"] = some (some (.builtin "collections.defaultdict.__missing__")) := by kernel_rfl
noncomputable def cd162 (w : World) : ClassData := (clsIn (K01 w) 162).getD default
theorem cls162 (w : World) : clsIn (K01 w) 162 = some (cd162 w) := by kernel_rfl
theorem mro162 (w : World) : (cd162 w).mro = [.ref 162, .type "collections.defaultdict", .type "dict", .type "object"] := by kernel_rfl
section
variable {prog : Program} {w : World} {A : Around} {E : Value → Shared → Prop}
theorem super_ga {h : Heap} {g : Array GenState} {d : Drawn} {t : Nat} {os : OsState} {K : Frag} (X : K.In h) {so B : Addr} {tk : Tok} {Q : Fin → Shared → Prop} (hso : h.get? so = some (suObj B))
    (hno : Looks (model prog w) h (opaqueClassAbove (.ref 162)) none) (hC : Looks (model prog w) h (mroOf (.ref 162)) [.ref 162, .type "collections.defaultdict", .type "dict", .type "object"])
    (hal : alongIn K "__missing__" [.type "collections.defaultdict", .type "dict", .type "object"] = some (some (.builtin "collections.defaultdict.__missing__"))) (hBC : B ≠ 162)
    (hc : wpAny (model prog w) A (PySem.call (.builtin "method_descriptor.__get__") [.builtin "collections.defaultdict.__missing__", .ref B, .ref 162]) (fun v s' => Q (.done (.ret v)) s') E ⟨h, g, d, t, os⟩) :
    wpAny (model prog w) A (Builtin.«super.__getattribute__» ⟨[.ref so, .str "__missing__" tk], []⟩) Q E ⟨h, g, d, t, os⟩ := by
  have hdt : (suObj B).data = .fields #[.ref 162, .ref B, .ref 162] := rfl
  have f0 : (#[.ref 162, .ref B, .ref 162] : Array Value)[0]? = some (.ref 162) := rfl
  have f1 : (#[.ref 162, .ref B, .ref 162] : Array Value)[1]? = some (.ref B) := rfl
  have f2 : (#[.ref 162, .ref B, .ref 162] : Array Value)[2]? = some (.ref 162) := rfl
  have hne : (Value.ref B == Value.ref 162) = false := by simpa using hBC
  have hl : (List.dropWhile (fun x => x != Value.ref 162) [.ref 162, .type "collections.defaultdict", .type "dict", .type "object"]).drop 1 = [.type "collections.defaultdict", .type "dict", .type "object"] := by decide
  generalize hL : ([.ref 162, .type "collections.defaultdict", .type "dict", .type "object"] : List Value) = L at *
  generalize hL2 : ([.type "collections.defaultdict", .type "dict", .type "object"] : List Value) = L2 at *
  unfold Builtin.«super.__getattribute__»
  refine wpAny_bind (wpAny_pure ?_)
  rw [if_neg (by decide)]
  refine wpAny_bind (wpAny_pure ?_)
  dsimp only
  refine wpAny_bind (wpAny_field hso hdt f0 ?_)
  refine wpAny_bind (wpAny_field hso hdt f1 ?_)
  refine wpAny_bind (wpAny_field hso hdt f2 ?_)
  rw [if_neg (by decide)]
  refine wpAny_bind (ks_wpAny_notOpaque hno ?_)
  rw [if_neg (by decide)]
  refine wpAny_bind (Looks.at hC ?_)
  rw [hl]
  refine wpAny_bind (ks_forIn_along X (fun _ _ => rfl) rfl ?_ hal)
  refine wpAny_bind (wpAny_of_eq ty_miss ?_)
  refine wpAny_bind (wpAny_of_eq lk_mdget ?_)
  dsimp only
  simp only [hne, Bool.false_eq_true, if_false]
  refine wpAny_bind (wpAny_holding (wpAny_mono hc (fun v s' z => ?_) fun _ _ z => z))
  exact wpAny_bind (wpAny_pure (wpAny_pure (wpAny_pure z)))
end
section
variable {w : World} {A : Around} {E : Value → Shared → Prop} {s : Shared}
theorem K_162 (w : World) : (K01 w).lookup 162 = some ⟨(((K01 w).lookup 162).getD { cls := .none, data := .plain }).cls, (((K01 w).lookup 162).getD { cls := .none, data := .plain }).dict, .cls (cd162 w), (((K01 w).lookup 162).getD { cls := .none, data := .plain }).slots⟩ := by kernel_rfl
theorem super_missing (K : (K01 w).In s.heap) (ok : OkA 101 A) {so B bd : Addr} {es : Array DictEntry} {ep : Nat} {expr : Bool} (hso : s.heap.get? so = some (suObj B)) (hB : s.heap.get? B = some ⟨.ref 162, some bd, .dict es ep, #[some (.type "list")]⟩) :
    wpAny (model pw w) A (getAttr (.ref so) "__missing__" expr) (PostBm s B) E s := by
  obtain ⟨h, g, d, t, os⟩ := s
  have hT : ∀ t', (⟨h, g, d, t', os⟩ : Shared).TypeIs (.ref so) "super" := fun _ => ⟨_, hso, rfl⟩
  have hno : Looks (model pw w) h (opaqueClassAbove (.ref 162)) none := looks_opaque K (by kernel_rfl)
  have hC : Looks (model pw w) h (mroOf (.ref 162)) (cd162 w).mro := fun A Q E s k q => wpAny_bind ((looks_clsIn K (cls162 w)) A _ E s k (wpAny_pure q))
  rw [mro162] at hC
  have hBC : B ≠ 162 := fun z => by
    have := K 162 _ (K_162 w)
    rw [z] at hB
    dsimp only at hB
    rw [this] at hB
    injection hB with hB
    injection hB with _ _ hB _
    cases hB
  unfold getAttr getAttrBy
  refine wpAny_bind (wpAny_mkText (wpAny_holding (wpAny_bind (wpAny_typeOf (hT _) (wpAny_bind (wpAny_of_eq PySem.F.ks_slot_super_ga.lookup ?_))))))
  show wpAny _ _ (getAttrByItsOwn (.ref so) (.str "__missing__" t) (.type "super") (.builtin "super.__getattribute__") true expr) _ _ _
  unfold getAttrByItsOwn hookBefore callGetattribute boundAndCalled
  refine wpAny_bind (wpAny_of_eq (show (if onTheHeap (.type "super") then typeLookup (.type "super") "__getattr__" else pure none) = pure none from rfl) ?_)
  refine wpAny_bind (wpAny_attempt (wpAny_holding ?_))
  rw [show (expr && onTheHeap (Value.builtin "super.__getattribute__")) = false from Bool.and_false _, if_neg (by decide)]
  show wpAny _ _ (bindSpecial (.builtin "super.__getattribute__") (.ref so) >>= _) _ _ _
  refine wpAny_bind (wpAny_of_eq (PySem.F.ks_slot_super_ga.bind _) ?_)
  refine wpAny_mono (Q := fun v s' => PostBm ⟨h, g, d, t + 1, os⟩ B v s') (E := fun _ _ => False)
    (wpAny_call_entry PySem.F.ks_slot_super_ga (hT _) PySem.F.ks_entry_super_ga (super_ga K hso hno hC (along_miss w) hBC (wpAny_mono (md_get (s := ⟨h, g, d, t + 1, os⟩) K (OkA.in1 (n := 100) (ok.weak (by decide))) B bd es ep hB) (fun v s' z => ⟨v, rfl, z⟩) fun _ _ z => z)) (PySem.F.ks_gaArgs_super _ _)) (fun v s' hv => ?_) fun _ _ z => z.elim
  obtain ⟨m, rfl, e1, e2, k⟩ := hv
  exact wpAny_pure ⟨m, rfl, e1, e2, (Kp.tk ⟨h, g, d, t, os⟩ (t + 1)).tr k⟩
end
noncomputable abbrev fdMiss : FuncData := fdM (mst 9 1) "__missing__" "FreezableDefaultDict.__missing__" "cpy313.importlib.metadata._collections" 362 .none none 151 [("__class__", 140)] (.ref 145)
theorem K_miss (w : World) : (K01 w).lookup 152 = some ⟨.type "function", none, .func fdMiss, #[]⟩ := by kernel_rfl
theorem K_140 (w : World) : (K01 w).lookup 140 = some ⟨.type "cell", none, .cell (some (.ref 162)), #[]⟩ := by kernel_rfl
noncomputable abbrev envMiss (N : Nat) : Env := callEnv fdMiss N 152
noncomputable def vs151 (w : World) : Array Value := match (objK w 151).data with | .fields vs => vs | _ => #[]
theorem D_151 (w : World) : (objK w 151).data = .fields (vs151 w) := by kernel_rfl
theorem V_151 (w : World) : (vs151 w)[2]? = some (.str "/claim/cut.py" 438) := by kernel_rfl
theorem K_151 (w : World) : (K01 w).lookup 151 = some (objK w 151) := by kernel_rfl
section
variable {w : World} {A : Around} {E : Value → Shared → Prop} {s : Shared}
theorem evalArgs_at {M : Model} {A : Around} {c : Code} {E : Value → Shared → Prop} {s : Shared} {f : Value} {x : Sem Value} {rest : List (Bool × Sem Value)} {Q : Args → Shared → Prop}
    (h : _root_.PySem.wpAt M A c (spliced ((false, x) :: rest)) (fun vs s' => Q ⟨vs, []⟩ s') E s) : _root_.PySem.wpAt M A c (evalArgs f true ((false, x) :: rest) []) Q E s := by
  unfold evalArgs
  show _root_.PySem.wpAt M A c (spliced ((false, x) :: rest) >>= _) Q E s
  refine _root_.PySem.wpAt_bind (ks_wpAt_mono h (fun vs s' h' => _root_.PySem.wpAt_of_wpAny ?_) fun _ _ x => x)
  refine wpAny_bind (wpAny_pure ?_)
  refine wpAny_holding ?_
  exact wpAny_bind (wpAny_pure (wpAny_bind (wpAny_pure (wpAny_pure h'))))
theorem spliced_at {M : Model} {A : Around} {c : Code} {E : Value → Shared → Prop} {s : Shared} {x : Sem Value} {rest : List (Bool × Sem Value)} {Q : List Value → Shared → Prop}
    (h : _root_.PySem.wpAt M A c x (fun v s₁ => _root_.PySem.wpAt M A c (spliced rest) (fun vs s₂ => Q (v :: vs) s₂) E s₁) E s) : _root_.PySem.wpAt M A c (spliced ((false, x) :: rest)) Q E s := by
  rw [spliced]
  refine _root_.PySem.wpAt_bind (ks_wpAt_mono h (fun v s₁ h₁ => ?_) fun _ _ x => x)
  simp only [Bool.false_eq_true, if_false]
  refine _root_.PySem.wpAt_bind (_root_.PySem.wpAt_of_wpAny (wpAny_pure ?_))
  exact _root_.PySem.wpAt_bind (ks_wpAt_holding (ks_wpAt_mono h₁ (fun vs s₂ h₂ => _root_.PySem.wpAt_of_wpAny (wpAny_pure h₂)) fun _ _ x => x))
theorem miss_pre {B bd : Addr} {ks : List (Str × Addr)} {key : Value} {R : Result → Shared → Prop} (T : TopH w s.heap) (ok : OkA 104 A) (b : BookAt w s.heap B bd ks)
    (hk : ∀ (A1 : Around) bm s₁ tk, OkA 103 A1 → Kp s s₁ → s₁.heap.get? bm = some (bmObj B) → wpAny (model pw w) A1 (PySem.call (.builtin "getattr") [.ref B, .str "_frozen" tk, .ref bm])
      (fun f s₂ => Kp s₁ s₂ ∧ (∃ k, (k = Keeper.frame ∨ k = Keeper.machine ∨ k = Keeper.boundFrame) ∧ Looks (model pw w) s₂.heap (keeperOf f) k) ∧ codeAny (model pw w) A1 (.call f ⟨[key], []⟩) (fun r s' => ∃ v, r = .ok (.ret v) ∧ R r s') s₂) (fun _ _ => False) s₁) :
    codeAny (model pw w) A (.call (.ref 152) ⟨[.ref B, key], []⟩) R s := by
  refine ks_codeAny_call_defAt (binds := [("self", .ref B), ("key", key)]) ok.room (T.K _ _ (K_miss w)) rfl T.nl (codeRec_B T.K (by kernel_rfl)) rfl (fun A Q E s q => ?_) (by decide) (fun y hy => ?_) fun h₀ hns k₀ => ?_
  · exact wpAny_of_eq (by rfl) q
  · rcases List.mem_cons.mp hy with rfl | hy
    · rfl
    rcases List.mem_singleton.mp hy with rfl
    rfl
  generalize hN : s.heap.objs.size = N at *
  have okA : OkA 103 (A.deeper (envMiss N)) := OkA.deeper ok _
  generalize hA' : A.deeper (callEnv fdMiss N 152) = A' at *
  have hKp : Kp s { s with heap := h₀, toks := s.toks + [(("self" : Str), Value.ref B), (("key" : Str), key)].length } := Kp.of _ k₀
  generalize hs1 : ({ s with heap := h₀, toks := s.toks + [(("self" : Str), Value.ref B), (("key" : Str), key)].length } : Shared) = s₁ at *
  have hns1 : s₁.heap.Ns N (fun x => [(("self" : Str), Value.ref B), (("key" : Str), key)].reverse.lookup x) := by rw [← hs1]; exact hns
  have T1 := T.mono hKp.le
  have vself : Var (envMiss N) s₁.heap "self" (.ref B) := Var.loc rfl rfl hns1 (by rfl)
  have vkey : Var (envMiss N) s₁.heap "key" key := Var.loc rfl rfl hns1 (by rfl)
  have vget : Var (envMiss N) s₁.heap "getattr" (.builtin "getattr") := Var.bi T1 rfl rfl rfl rfl (by kernel_rfl) (by decide) (by rfl)
  have vsup : Var (envMiss N) s₁.heap "super" (.type "super") := Var.bi T1 rfl rfl rfl rfl (by kernel_rfl) (by decide) (by rfl)
  obtain ⟨l, ep, eB, en⟩ := b.at_
  have eB1 := hKp.le _ _ eB
  refine ks_wpAt_execs_cons (ks_wpAt_Return_some ?_)
  refine _root_.PySem.wpAt_bind ?_
  refine _root_.PySem.wpAt_bind (_root_.PySem.wpAt_of_wpAny (wpAny_Name (vget _ _ _ _ s₁ (fun _ _ e => e) ?_) (by decide)))
  unfold callWith
  refine _root_.PySem.wpAt_bind (ks_wpAt_holding (evalArgs_at (spliced_at (_root_.PySem.wpAt_of_wpAny (wpAny_Name (vself _ _ _ _ s₁ (fun _ _ e => e) ?_) (by decide))))))
  refine spliced_at (_root_.PySem.wpAt_of_wpAny ?_)
  refine Constant_str (pos := ⟨124, 29, 124, 38⟩) (k := 0) ?_
  have e151 := T1.K _ _ (K_151 w)
  refine spliced_at ?_
  rw [arm_eval_Attribute]
  refine _root_.PySem.wpAt_bind (ks_wpAt_super_base (s := { s₁ with toks := s₁.toks + 1 }) (f := 152) (fd := fdMiss) (ar := { arg := "self", annotation := none, pos := ⟨123, 20, 123, 24⟩ }) rfl rfl (by decide) rfl (T1.K _ _ (K_miss w)) rfl (by rfl) rfl e151 (D_151 w) (V_151 w) (by decide +kernel) (by decide +kernel) ?_)
  have hc140 : s₁.heap.IsCell 140 (some (.ref 162)) := ⟨_, T1.K _ _ (K_140 w), rfl⟩
  refine vsup _ _ _ _ _ (fun _ _ e => e) ⟨rfl, ?_⟩
  refine wpAny_loadName_free (c := 140) rfl rfl (by rfl) hc140 ?_
  refine vself _ _ _ _ _ (fun _ _ e => e) ?_
  have e162 := T1.K _ _ (K_162 w)
  obtain ⟨h1, g1, d1, t1, o1⟩ := s₁
  refine ks_wpAny_isType_cls e162 rfl ⟨rfl, ?_⟩
  refine ks_wpAny_call_super (C := 162) e162 rfl eB1 rfl (fun c z => by cases z) (looks_mroIn T1.K (by kernel_rfl)) (fun h2 e2 k2 => ?_)
  have K2 : Kp (⟨h1, g1, d1, t1, o1⟩ : Shared) ⟨h2, g1, d1, t1 + 1, o1⟩ := Kp.of (s := ⟨h1, g1, d1, t1, o1⟩) (t1 + 1) k2
  have T2 : TopH w h2 := T1.mono k2
  refine _root_.PySem.wpAt_bind (_root_.PySem.wpAt_of_wpAny (wpAny_standAt ?_))
  refine _root_.PySem.wpAt_bind (_root_.PySem.wpAt_of_wpAny (wpAny_holding (wpAny_mono (super_missing (s := ⟨h2, g1, d1, t1 + 1, o1⟩) T2.K (okA.weak (by decide)) e2 (k2 _ _ eB1)) (fun r s₃ h₃ => ?_) fun _ _ z => z)))
  obtain ⟨bm, rfl, ebm, ebm0, k3⟩ := h₃
  refine _root_.PySem.wpAt_bind (_root_.PySem.wpAt_of_wpAny (wpAny_letTemporaryGo ?_))
  refine _root_.PySem.wpAt_of_wpAny (wpAny_pure ?_)
  refine _root_.PySem.wpAt_of_wpAny (Calls.spliced_nil ?_)
  have K3 : Kp s s₃ := hKp.tr (K2.tr k3)
  refine _root_.PySem.wpAt_of_wpAny (wpAny_bind (wpAny_standAt ?_))
  refine wpAny_bind (wpAny_pure ?_)
  have hkk := hk A' bm s₃ t1 okA K3 ebm
  show wpAny _ A' (PySem.call (.builtin "getattr") [.ref B, .str "_frozen" t1, .ref bm] >>= fun r => holding [r] point >>= fun _ => pure r) _ _ s₃
  refine wpAny_bind (wpAny_mono hkk (fun f s₄ h₄ => wpAny_bind (wpAny_holding (wpAny_point (wpAny_pure ?_)))) fun _ _ z => z.elim)
  obtain ⟨k4, ⟨kp, hkp, hlk⟩, hcode⟩ := h₄
  refine _root_.PySem.wpAt_of_wpAny ?_
  have k14 : Le h1 s₄.heap := (K2.tr (k3.tr k4)).le
  refine callWith_of (P := fun h => s₄.heap = h) (by rfl) (fun h hh => ⟨kp, hkp, hh ▸ hlk⟩) (Calls.evalArgs_plain (Calls.spliced_cons ?_))
  refine wpAny_Name (vkey _ _ _ _ s₄ k14 ?_) (by decide)
  refine Calls.spliced_nil ⟨rfl, ?_⟩
  refine wpAny_call (codeAny_mono hcode fun r s₅ h₅ => ?_)
  obtain ⟨v, rfl, hR⟩ := h₅
  exact hR
end
theorem Ents.push {w : World} {x : Str} {t : Tok} {a : Addr} : ∀ {l : List DictEntry} {ks : List (Str × Addr)}, Ents w l ks → Ents w (l ++ [⟨hashStr w x, .str x t, .ref a⟩]) (ks ++ [(x, a)])
  | _, _, .nil => .cons .nil
  | _, _, .cons r => .cons r.push
section
variable {w : World} {A : Around} {E : Value → Shared → Prop} {s : Shared}
theorem sysMod_ne {h : Heap} {B : Addr} {o : Obj} (K : (K01 w).In h) (e : h.get? B = some o) (hc : o.cls = .ref 162) : (B == sysModules) = false := by
  have h1 : (K01 w).lookup sysModules = some (objK w sysModules) := by kernel_rfl
  have h2 : ((objK w sysModules).cls == .ref 162) = false := by kernel_rfl
  cases q : (B == sysModules) with
  | false => rfl
  | true =>
    rw [beq_iff_eq.mp q, K _ _ h1] at e
    rw [Option.some.inj e, hc] at h2
    simp at h2
theorem notOrd_book (K : (K01 w).In s.heap) {B : Addr} {o : Obj} {name : String} {rest : List Value} {Q : Unit → Shared → Prop} (e : s.heap.get? B = some o) (hc : o.cls = .ref 162) (h : Q () s) : wpAny (model pw w) A (Builtin.Dict.notOrdered name ⟨.ref B :: rest, []⟩) Q E s := by
  have L0 : Looks (model pw w) s.heap (typeOf (.ref B)) (.ref 162) := hc ▸ (Looks.ld e).andThen .now
  unfold Builtin.Dict.notOrdered
  split
  · refine wpAny_bind (L0.here ?_)
    rw [if_pos (by decide)]
    have L1 : Looks (model pw w) s.heap (isInstance (.ref B) (.type "collections.OrderedDict")) false := L0.andThen (looks_mroIn K (by kernel_rfl))
    refine wpAny_bind (L1.here ?_)
    exact wpAny_pure h
  · exact wpAny_pure h
theorem setdef_book (K : (K01 w).In s.heap) {B bd a : Addr} {ks : List (Str × Addr)} {x : Str} {t : Tok} {R : Result → Shared → Prop} (b : BookAt w s.heap B bd ks) (hn : lookA ks x = none) (hsz : ks.length ≤ sizeLine)
    (h : ∀ h' tk, BookAt w h' B bd (ks ++ [(x, a)]) → Heap.ExtBut B s.heap h' → R (.ok (.ret (.ref a))) { s with heap := h', toks := tk }) : codeAny (model pw w) A (.builtin "dict.setdefault" ⟨[.ref B, .str x t, .ref a], []⟩) R s := by
  obtain ⟨l, ep, e, en⟩ := b.at_
  refine codeAny_builtin F.entry_dict_setdefault ?_
  unfold Builtin.«dict.setdefault»
  refine wpAny_bind ?_
  unfold Builtin.Dict.keyAndDefault
  refine wpAny_bind (notOrd_book K e rfl ?_)
  show wpAny _ _ (pure (B, Value.str x t, some (Value.ref a))) _ _ s
  refine wpAny_pure ?_
  show wpAny _ _ (if (B == sysModules) = true then _ else (dictSetDefault B (.str x t) (.ref a) >>= _)) _ _ s
  rw [if_neg (by rw [sysMod_ne K e rfl]; exact Bool.false_ne_true)]
  refine wpAny_bind ?_
  unfold dictSetDefault
  refine wpAny_holding (wpAny_bind ((strKind pw w).pyHash (strKind_is pw w x t) (wpAny_bind (wpAny_dictFind_of (knd := strKind pw w) (s := { s with toks := s.toks + 1 }) (strKind_is pw w x t) e rfl en.keys ?_))))
  have hf : l.toArray.findIdx? (fun e => (strKind pw w).is x e.key) = none := by
    have := en.find (x := x)
    rw [hn] at this
    have h2 : l.toArray.findIdx? (fun e => (strKind pw w).is x e.key) = l.findIdx? fun e => (strKind pw w).is x e.key := by simp
    rw [h2]
    cases q : l.findIdx? fun e => (strKind pw w).is x e.key with
    | none => rfl
    | some i =>
      rw [q] at this
      have hi : i < l.length := (List.findIdx?_eq_some_iff_getElem.mp q).1
      simp [hi] at this
  rw [hf]
  refine wpAny_bind (wpAny_rule (wpAny_bind (wpAny_updateDictKeys (s := { s with toks := s.toks + 1 }) e rfl (wpAny_pure ?_) (by simpa [en.len] using hsz))))
  refine wpAny_pure (h _ _ ⟨⟨l ++ [⟨hashStr w x, .str x t, .ref a⟩], ep + 1, ?_, en.push⟩⟩ (Heap.SameBut.update ..).extBut)
  refine (Heap.get?_update_self _ e rfl).trans ?_
  simp [Obj.mapDictKeys]
  rfl
end
theorem callBorrowed_eq (f : Value) (pos : List Value) : callBorrowed f pos = (PySem.call f pos []).keep [borrowed] := by
  unfold callBorrowed PySem.call runValue
  show _ = Sem.call _ _ _ _ _
  congr 1
  funext r
  rcases r with e | (_ | _ | _ | _) <;> rfl
theorem entry_ddm : entryFor table "collections.defaultdict.__missing__" = some Builtin.«collections.defaultdict.__missing__» := entryFor_of_tree (by kernel_rfl)
section
variable {s : Shared} {h' : Heap} {t : Nat} {news : List (Addr × Obj)}
noncomputable def PostNil (s : Shared) (v : Value) (s' : Shared) : Prop := ∃ a, v = .ref a ∧ s'.heap.get? a = some ⟨.type "list", none, .seq #[] 0, #[]⟩ ∧ s.heap.get? a = none ∧ Kp s s'
theorem post_nil {a : Addr} (D : X.Mem s.heap h' [] news) (e1 : news[0]? = some (a, ⟨.type "list", none, .seq #[] 0, #[]⟩)) : PostNil s (.ref a) ⟨h', s.gens, s.drawn, t, s.os⟩ :=
  have h1 := mem_at D 0 e1
  ⟨a, rfl, h1.1, h1.2, mem_kp D⟩
end
section
variable {w : World} {A : Around} {s : Shared} {E : Value → Shared → Prop}
local macro_rules | `(tactic| x_close) => `(tactic| (refine post_nil (by assumption) ?_; first | rfl | kernel_rfl))
theorem mk_nil (X : (KF w.params).In s.heap) (ok : OkA 100 A) : wpAny (model pw w) A (PySem.call (.type "list") []) (PostNil s) E s := by
  refine litA ok fun l g => ?_
  x_run
end
section
variable {w : World} {A : Around} {s : Shared} {E : Value → Shared → Prop}
theorem slot0 {B bd : Addr} {es : Array DictEntry} {ep : Nat} (e : s.heap.get? B = some ⟨.ref 162, some bd, .dict es ep, #[some (.type "list")]⟩) {Q : Option Value → Shared → Prop} (h : Q (some (.type "list")) s) :
    wpAny (model pw w) A (Builtin.Collections_defaultdict.factory? (.ref B)) Q E s := by
  unfold Builtin.Collections_defaultdict.factory? slotAt
  refine wpAny_bind (wpAny_bind (wpAny_loadPart e (wpAny_pure (wpAny_pure ?_))))
  exact h
theorem dd_missing (T : TopH w s.heap) (ok : OkA 102 A) {B bd : Addr} {ks : List (Str × Addr)} {x : Str} {t : Tok} {R : Result → Shared → Prop} (b : BookAt w s.heap B bd ks) (hn : lookA ks x = none) (hsz : ks.length ≤ sizeLine)
    (h : ∀ a s', s.heap.get? a = none → s'.heap.get? a = some ⟨.type "list", none, .seq #[] 0, #[]⟩ → BookAt w s'.heap B bd (ks ++ [(x, a)]) → (∃ h' tk, s' = { s with heap := h', toks := tk }) → Heap.ExtBut B s.heap s'.heap → R (.ok (.ret (.ref a))) s') :
    codeAny (model pw w) A (.builtin "collections.defaultdict.__missing__" ⟨[.ref B, .str x t], []⟩) R s := by
  obtain ⟨l, ep, e, en⟩ := id b.at_
  refine codeAny_builtin entry_ddm ?_
  rw [Around.under_plainId (show plainId "collections.defaultdict.__missing__" = true by decide +kernel) _]
  unfold Builtin.«collections.defaultdict.__missing__»
  refine wpAny_bind (m := selfAndOne _ _) (wpAny_pure ?_)
  refine wpAny_bind (slot0 e ?_)
  dsimp only
  refine wpAny_bind ?_
  unfold callOutOfASlot
  refine wpAny_bind (m := borrowsExactly _) (wpAny_pure ?_)
  rw [if_pos rfl, callBorrowed_eq]
  refine Calls.wpAny_keep (wpAny_mono (mk_nil T.K (OkA.in1 (n := 101) (ok.weak (by decide)) |>.weak (by decide))) (fun v s₁ h₁ => ?_) fun _ _ z => z)
  obtain ⟨a, rfl, ea, ea0, k⟩ := h₁
  refine wpAny_pure ⟨Code.quiet_builtin _ (by decide +kernel), ?_⟩
  have b1 : BookAt w s₁.heap B bd ks := ⟨l, ep, k.le _ _ e, en⟩
  refine setdef_book (T.mono k.le).K b1 hn hsz fun h' tk b2 hx => ?_
  have hBa : a ≠ B := fun z => by rw [z, e] at ea0; cases ea0
  obtain ⟨kk, h1, t1, rfl⟩ := k
  exact h a _ ea0 (hx _ _ hBa ea) b2 ⟨h', tk, rfl⟩ fun c o hc ec => hx c o hc (kk c o ec)
end
theorem sgM_some : (Manifest.signature? "collections.defaultdict.__missing__").isSome = true := by kernel_rfl
noncomputable def sgM : Manifest.Signature := (Manifest.signature? "collections.defaultdict.__missing__").get sgM_some
theorem sgM_is : Manifest.signature? "collections.defaultdict.__missing__" = some sgM := (Option.some_get _).symm
theorem sgM_args (w : World) (a b : Value) : Bind.checkArgs "collections.defaultdict.__missing__" { sgM with full := s!"{(cd162 w).qualname.toString}.{Bind.lastOf "collections.defaultdict.__missing__"}" } ⟨[a, b], []⟩ = pure () := by kernel_rfl
theorem bkM : builtinKind "collections.defaultdict.__missing__" = some .method := by decide +kernel
theorem tpC (w : World) : typeIn (K01 w) (.ref 162) = some (.type "type") := by kernel_rfl
section
variable {w : World} {A : Around} {s : Shared} {E : Value → Shared → Prop}
theorem bound_miss (K : (K01 w).In s.heap) {B : Addr} {o : Obj} {key : Value} {Q : Unit → Shared → Prop} (e : s.heap.get? B = some o) (hc : o.cls = .ref 162) (hnc : ∀ c, o.data ≠ .cls c) (h : Q () s) :
    wpAny (model pw w) A (checkBoundCall "collections.defaultdict.__missing__" ⟨[.ref B, key], []⟩) Q E s := by
  have L0 : Looks (model pw w) s.heap (typeOf (.ref B)) (.ref 162) := hc ▸ (Looks.ld e).andThen .now
  have L1 : Looks (model pw w) s.heap (isInstance (.ref B) (.type "module")) false := L0.andThen (looks_mroIn K (by kernel_rfl))
  obtain ⟨hh, g, d, t, os⟩ := s
  unfold checkBoundCall
  rw [sgM_is, bkM]
  show wpAny _ _ (if (Manifest.AttrKind.method != .method && Manifest.AttrKind.method != .classMethod) = true then _ else _) _ _ _
  rw [if_neg (by decide)]
  refine wpAny_bind (L1.here ?_)
  rw [if_neg (by decide +kernel)]
  refine wpAny_bind (ks_wpAny_isType_inst e hnc ?_)
  rw [if_neg (by decide)]
  refine wpAny_bind (L0.here ?_)
  dsimp only
  refine wpAny_bind ((looks_clsIn K (cls162 w)).here ?_)
  refine wpAny_bind ((looks_typeIn K (tpC w)).here ?_)
  rw [if_pos (by decide), sgM_args w]
  exact wpAny_pure h
theorem call_bm (T : TopH w s.heap) (ok : OkA 102 A) {B bd bm : Addr} {ks : List (Str × Addr)} {x : Str} {t : Tok} {R : Result → Shared → Prop} (hbm : s.heap.get? bm = some (bmObj B)) (b : BookAt w s.heap B bd ks) (hn : lookA ks x = none) (hsz : ks.length ≤ sizeLine)
    (h : ∀ a s', s.heap.get? a = none → s'.heap.get? a = some ⟨.type "list", none, .seq #[] 0, #[]⟩ → BookAt w s'.heap B bd (ks ++ [(x, a)]) → (∃ h' tk, s' = { s with heap := h', toks := tk }) → Heap.ExtBut B s.heap s'.heap → R (.ok (.ret (.ref a))) s') :
    codeAny (model pw w) A (.call (.ref bm) ⟨[.str x t], []⟩) R s := by
  obtain ⟨l, ep, e, en⟩ := id b.at_
  refine codeAny_of_tree ?_
  show wpAny _ A.in1 (callAny (.ref bm) ⟨[.str x t], []⟩) _ _ s
  simp only [callAny]
  refine wpAny_bind (wpAny_load hbm ?_)
  dsimp only
  rw [if_pos (by decide)]
  refine wpAny_bind (bound_miss T.K e rfl (fun c z => by cases z) ?_)
  refine wpAny_pure ⟨Code.quiet_builtin _ (by decide +kernel), ?_⟩
  exact dd_missing T ok b hn hsz h
end
section
variable {w : World} {A : Around} {s : Shared} {E : Value → Shared → Prop}
local macro_rules | `(tactic| x_close) => `(tactic| (refine post_val (by assumption) ?_; rfl))
theorem ga_none (X : (KF w.params).In s.heap) (ok : OkA 100 A) (B bd M : Addr) (es : Array DictEntry) (ep : Nat) (tk : Tok) (h1 : s.heap.get? B = some ⟨.ref 162, some bd, .dict es ep, #[some (.type "list")]⟩) (h2 : s.heap.get? bd = some ⟨.type "dict", none, .dict #[] 0, #[]⟩) :
    wpAny (model pw w) A (PySem.call (.builtin "getattr") [.ref B, .str "_frozen" tk, .ref M]) (PostVal s (.ref M)) E s := by
  refine litA ok fun l g => ?_
  x_run
end
section
variable {w : World} {A : Around} {s : Shared} {E : Value → Shared → Prop}
local macro_rules | `(tactic| x_close) => `(tactic| exact ⟨rfl, Kp.refl _⟩)
theorem ga_some (X : (KF w.params).In s.heap) (ok : OkA 100 A) (B bd M : Addr) (v : Value) (es : Array DictEntry) (ep ep2 : Nat) (tk tk1 : Tok) (h1 : s.heap.get? B = some ⟨.ref 162, some bd, .dict es ep, #[some (.type "list")]⟩) (h2 : s.heap.get? bd = some ⟨.type "dict", none, .dict #[⟨hashStr w "_frozen", .str "_frozen" tk1, .ref M⟩] ep2, #[]⟩) :
    wpAny (model pw w) A (PySem.call (.builtin "getattr") [.ref B, .str "_frozen" tk, v]) (PostVal s (.ref M)) E s := by
  refine litA ok fun l g => ?_
  x_run
end
section
variable {w : World} {A : Around} {s : Shared} {E : Value → Shared → Prop}
theorem item_miss (T : TopH w s.heap) {B bd : Addr} {ks : List (Str × Addr)} {x : Str} {t : Tok} {Q : Value → Shared → Prop} (b : BookAt w s.heap B bd ks) (hl : lookA ks x = none)
    (h : codeAny (model pw w) A.in1 (.call (.ref 152) ⟨[.ref B, .str x t], []⟩) (fun r s' => ∃ v, r = .ok (.ret v) ∧ Q v s') { s with toks := s.toks + 1 }) : wpAny (model pw w) A (getItem (.ref B) (.str x t)) Q E s := by
  have K := T.K
  refine getItem_book K b ?_
  obtain ⟨l, ep, e, en⟩ := id b.at_
  have L0 : Looks (model pw w) s.heap (typeOf (.ref B)) (.ref 162) := (Looks.ld e).andThen .now
  have L1 : Looks (model pw w) s.heap (typeLookup (.ref 162) "__missing__") (some (.ref 152)) := looks_findIn K (by kernel_rfl)
  have L2 : Looks (model pw w) s.heap (bindSpecial (.ref 152) (.ref B)) (.ref 152, [.ref B]) := bind_fn K (.ref B) (by kernel_rfl)
  refine wpAny_call (codeAny_call_builtin slot_dict_getitem.plain entry_dict_getitem ?_)
  refine @check_meth (model pw w) _ _ s "dict.__getitem__" "dict" "__getitem__" (.ref B) [.str x t] _ (by decide +kernel) (by decide +kernel) (looks_book K e rfl) (args_dict_getitem _ _) ?_
  show wpAny _ _ (dictGet B (.str x t) >>= _) _ _ s
  refine wpAny_bind (get_book b ?_)
  rw [hl]
  show wpAny _ _ (Builtin.Dict.missed B (.str x t) >>= _) _ _ _
  refine wpAny_bind ?_
  unfold Builtin.Dict.missed
  rw [sysMod_ne K e rfl]
  refine wpAny_pure ?_
  refine wpAny_bind (L0 _ _ _ _ (fun _ _ e => e) ?_)
  rw [if_pos (by decide)]
  refine wpAny_bind ?_
  unfold callSpecial? specialOf
  refine wpAny_bind (wpAny_bind (L0 _ _ _ _ (fun _ _ e => e) (L1 _ _ _ _ (fun _ _ e => e) (wpAny_holding (wpAny_bind (L2 _ _ _ _ (fun _ _ e => e) ?_))))))
  refine wpAny_bind (wpAny_call (codeAny_mono h fun r s' z => ?_))
  obtain ⟨v, rfl, q⟩ := z
  exact wpAny_pure (wpAny_bind (wpAny_rule (wpAny_pure q)))
theorem miss_open (T : TopH w s.heap) (ok : OkA 104 A) {B bd : Addr} {ks : List (Str × Addr)} {x : Str} {t : Tok} (b : BookAt w s.heap B bd ks) (hbd : s.heap.get? bd = some ⟨.type "dict", none, .dict #[] 0, #[]⟩) (hn : lookA ks x = none) (hsz : ks.length ≤ sizeLine) :
    codeAny (model pw w) A (.call (.ref 152) ⟨[.ref B, .str x t], []⟩) (fun r s' => ∃ a, r = .ok (.ret (.ref a)) ∧ s.heap.get? a = none ∧ s'.heap.get? a = some ⟨.type "list", none, .seq #[] 0, #[]⟩ ∧ BookAt w s'.heap B bd (ks ++ [(x, a)]) ∧
      (∃ h' tk, s' = { s with heap := h', toks := tk }) ∧ Heap.ExtBut B s.heap s'.heap) s := by
  obtain ⟨l, ep, e, en⟩ := id b.at_
  refine miss_pre T ok b fun A1 bm s₁ tk ok1 k1 hbm => ?_
  have T1 := T.mono k1.le
  refine wpAny_mono (ga_none T1.K (ok1.weak (by decide)) B bd bm _ ep tk (k1.le _ _ e) (k1.le _ _ hbd)) (fun f s₂ h₂ => ?_) fun _ _ z => z
  obtain ⟨rfl, k2⟩ := h₂
  have hbm2 := k2.le _ _ hbm
  refine ⟨k2, ⟨.machine, .inr (.inl rfl), (Looks.ld hbm2).andThen .now⟩, ?_⟩
  have b2 : BookAt w s₂.heap B bd ks := ⟨l, ep, (k1.tr k2).le _ _ e, en⟩
  refine call_bm (T1.mono k2.le) (ok1.weak (by decide)) hbm2 b2 hn hsz fun a s₃ ha0 ha hb3 hs3 hx3 => ?_
  have k12 := k1.tr k2
  refine ⟨_, rfl, a, rfl, fresh_le k12.le ha0, ha, hb3, ?_, fun c o hc ec => hx3 c o hc (k12.le c o ec)⟩
  obtain ⟨kk, h', t', rfl⟩ := k12
  obtain ⟨h3, t3, rfl⟩ := hs3
  exact ⟨h3, t3, rfl⟩
end
section
variable {w : World} {A : Around} {s : Shared} {E : Value → Shared → Prop} {env : Env}
theorem tail_book (T : TopH w s.heap) {value slice : Expr} {B bd : Addr} {ks : List (Str × Addr)} {key : Value} {Q : Value → Shared → Prop} (b : BookAt w s.heap B bd ks) (h : wpAny (model pw w) A (getItem (.ref B) key) Q E s)
    (hs : subscripted slice false (.ref B) key = operate [.ref B, key] (getItem (.ref B) key)) (ht : ∀ r, letTemporaryGo value (.ref B) r = pure ()) : wpAny (model pw w) A (subscriptTail value slice (.ref B) key) Q E s := by
  obtain ⟨l, ep, e, en⟩ := id b.at_
  have L0 : Looks (model pw w) s.heap (typeOf (.ref B)) (.ref 162) := (Looks.ld e).andThen .now
  have L1 : Looks (model pw w) s.heap (typeLookup (.ref 162) "__getitem__") (some (.builtin "dict.__getitem__")) := looks_findIn T.K (by kernel_rfl)
  unfold subscriptTail
  refine wpAny_bind ?_
  unfold getitemInPython specialOf
  refine wpAny_bind (wpAny_bind (L0.here (L1.here ?_)))
  refine wpAny_pure (wpAny_bind ?_)
  rw [hs]
  exact wpAny_operating (wpAny_mono h (fun r s₃ h₃ => wpAny_bind (wpAny_of_eq (ht r) (wpAny_pure h₃))) fun _ _ x => x)
end
section
variable {prog : Program} {w : World} {A : Around} {env : Env} {h : Heap} {S : Addr → Prop}
theorem for_list3 {tgt : Expr} {body : List Stmt} {s₁ : Shared} {l : Addr} {vs : Array Value} {xs : List D} {S0 : Addr → Prop} (hh : A.handled = none) (hl : s₁.heap.IsList l vs) (hx : RDs s₁.heap S0 vs.toList xs)
    (Mu : Addr → Prop) (nl : ¬ Mu l) (nS : ∀ a, S0 a → ¬ Mu a) (nI : ¬ Mu s₁.heap.objs.size) (tb : ∀ d ∈ xs, ∃ bs, Bd tgt d bs)
    (J : Addr → Nat → Shared → Prop)
    (j0 : ∀ h', Le s₁.heap h' → h'.get? s₁.heap.objs.size ≠ none → J s₁.heap.objs.size 0 { s₁ with heap := h' })
    (jst : ∀ i s h' tk, J s₁.heap.objs.size i s → Heap.ExtBut s₁.heap.objs.size s.heap h' → J s₁.heap.objs.size i { s with heap := h', toks := tk })
    {R : Result → Shared → Prop} {E : Value → Shared → Prop}
    (turn : ∀ i d v s, xs[i]? = some d → J s₁.heap.objs.size i s → RD s.heap (fun b => S0 b ∧ s₁.heap.get? b ≠ none) v d → KeepBut Mu s₁.heap s.heap → s.heap.get? s₁.heap.objs.size ≠ none → ∀ E, wpAny (model prog w) A (assign tgt env v) (fun _ s₂ => wpAny (model prog w) A (execs body env) (fun f s₃ => (f = .next ∨ f = .cont) ∧ J s₁.heap.objs.size (i + 1) s₃ ∧ KeepBut Mu s.heap s₃.heap) E s₂) E s)
    (done : ∀ s, J s₁.heap.objs.size xs.length s → KeepBut Mu s₁.heap s.heap → R (.ok .next) s) :
    wpAny (model prog w) A (pyIter (.ref l)) (fun it s₂ => codeAny (model prog w) A (.forLoop tgt it body [] env) R s₂) E s₁ := by
  refine wpAny_pyIter_list hl ?_
  generalize hI : s₁.heap.objs.size = I at *
  have hIn : s₁.heap.get? I = none := by rw [← hI]; exact new_none _
  have hlI : l ≠ I := fun z => by obtain ⟨o, e, _⟩ := hl; rw [z, hIn] at e; cases e
  have k2 : Le s₁.heap (s₁.heap.push { cls := .type "list_iterator", data := .fields #[.ref l, .int 0 0] }) := fun b o e => Heap.get?_push_of_some _ e
  have hlen := hx.length
  have hsz : vs.size = xs.length := by rw [← hlen, Array.length_toList]
  have W := Walks.list (prog := prog) (w := w) hh I l hlI vs
  have fp : ∀ b ∈ [I, l], ¬ Mu b := fun b hb => by
    rcases List.mem_cons.mp hb with rfl | hb
    · exact nI
    · rw [List.mem_singleton.mp hb]; exact nl
  have one : ∀ {h h' : Heap}, (∀ b o, b ∉ [I] → h.get? b = some o → h'.get? b = some o) → Heap.ExtBut I h h' := fun hk b o hb e => hk b o (by simpa using hb) e
  rw [hsz] at W
  refine for_walk W ⟨⟨_, by rw [← hI]; exact Heap.get?_push_size _ (by rfl), rfl, rfl⟩, hl.at fun o e => k2 _ o e⟩ Mu fp
    (fun i s => J I i s ∧ KeepBut Mu s₁.heap s.heap ∧ RDs s.heap (fun b => S0 b ∧ s₁.heap.get? b ≠ none) vs.toList xs) ⟨j0 _ k2 (by rw [← hI]; exact some_ne (Heap.get?_push_size _ (by rfl))), k2.keepBut, hx.dom.le k2⟩ ?_ ?_ ?_ ?_
  · rintro i s h' tk ⟨j, kk, r⟩ hk
    have nb : ∀ b o, s₁.heap.get? b = some o → b ≠ I := fun b o e z => by rw [z, hIn] at e; cases e
    exact ⟨jst i s h' tk j (one hk), fun b o n e => one hk b o (nb b o e) (kk b o n e),
      r.mono (fun a o s e => one hk a o (fun z => s.2 (by rw [z]; exact hIn)) e) fun _ s => s⟩
  · intro i v s Q E hP hst hQ
    obtain ⟨d, hd, rd⟩ := hx.get' (i := i) (v := v) (by rw [Array.getElem?_toList]; exact hP)
    obtain ⟨bs, b⟩ := tb d (List.mem_of_getElem? hd)
    cases b with
    | name => exact wpAny_pure hQ
    | tup2 => (first | cases rd using RD.atomE | cases rd using RDs.nilE | cases rd using RD.strE | cases rd using RD.intE | cases rd); exact wpAny_letOwnedTupleGo_listiter hst.1 hQ
    | tup3 => (first | cases rd using RD.atomE | cases rd using RDs.nilE | cases rd using RD.strE | cases rd using RD.intE | cases rd); exact wpAny_letOwnedTupleGo_listiter hst.1 hQ
  · rintro i v s hi hP ⟨j, kk, r⟩ hst E
    obtain ⟨d, hd, rd⟩ := r.get' (i := i) (v := v) (by rw [Array.getElem?_toList]; exact hP)
    have hin : s.heap.get? I ≠ none := by obtain ⟨o, e, _⟩ := hst.1; rw [e]; exact fun z => nomatch z
    refine wpAny_mono (turn i d v s hd j rd kk hin E) (fun _ s₂ q => wpAny_mono q (fun f s₃ q => ?_) fun _ _ q => q) fun _ _ q => q
    obtain ⟨hf, j3, k3⟩ := q
    exact ⟨hf, ⟨j3, kk.trans k3, r.keepBut k3 fun a s => nS a s.1⟩, k3⟩
  · rintro s ⟨j, kk, r⟩
    exact done s j kk
theorem for_list2 {tgt : Expr} {body : List Stmt} {s₁ : Shared} {l : Addr} {vs : Array Value} {xs : List D} {S0 : Addr → Prop} (hh : A.handled = none) (hl : s₁.heap.IsList l vs) (hx : RDs s₁.heap S0 vs.toList xs)
    (Mu : Addr → Prop) (nl : ¬ Mu l) (nS : ∀ a, S0 a → ¬ Mu a) (nI : ¬ Mu s₁.heap.objs.size) (tb : ∀ d ∈ xs, ∃ bs, Bd tgt d bs)
    (J : Addr → Nat → Shared → Prop)
    (j0 : ∀ h', Le s₁.heap h' → J s₁.heap.objs.size 0 { s₁ with heap := h' })
    (jst : ∀ i s h' tk, J s₁.heap.objs.size i s → Heap.ExtBut s₁.heap.objs.size s.heap h' → J s₁.heap.objs.size i { s with heap := h', toks := tk })
    {R : Result → Shared → Prop} {E : Value → Shared → Prop}
    (turn : ∀ i d v s, xs[i]? = some d → J s₁.heap.objs.size i s → RD s.heap (fun b => S0 b ∧ s₁.heap.get? b ≠ none) v d → KeepBut Mu s₁.heap s.heap → s.heap.get? s₁.heap.objs.size ≠ none → ∀ E, wpAny (model prog w) A (assign tgt env v) (fun _ s₂ => wpAny (model prog w) A (execs body env) (fun f s₃ => (f = .next ∨ f = .cont) ∧ J s₁.heap.objs.size (i + 1) s₃ ∧ KeepBut Mu s.heap s₃.heap) E s₂) E s)
    (done : ∀ s, J s₁.heap.objs.size xs.length s → KeepBut Mu s₁.heap s.heap → R (.ok .next) s) :
    wpAny (model prog w) A (pyIter (.ref l)) (fun it s₂ => codeAny (model prog w) A (.forLoop tgt it body [] env) R s₂) E s₁ :=
  for_list3 hh hl hx Mu nl nS nI tb J (fun h' k _ => j0 h' k) jst turn done
end
open Builtin Builtin.ObjectAttr
theorem passes162 (self : Value) : refuseLoop self "__setattr__" [.ref 162, .type "collections.defaultdict", .type "dict", .type "object"] = pure () := by
  rw [refuseLoop_ref]; kernel_rfl
theorem hasD162 (w : World) : (cd162 w).hasDict = true := by kernel_rfl
noncomputable abbrev frozenD (w : World) (M : Addr) (t : Tok) (ep : Nat) : Obj := ⟨.type "dict", none, .dict #[⟨hashStr w "_frozen", .str "_frozen" t, .ref M⟩] ep, #[]⟩
theorem canon_dga : (Manifest.canonical "collections.defaultdict.__getattribute__" != "object.__getattribute__") = false := by decide +kernel
section
variable {w : World} {A : Around} {E : Value → Shared → Prop} {s : Shared}
theorem osa_book (K : (K01 w).In s.heap) {B bd M : Addr} {es : Array DictEntry} {ep : Nat} {tk : Tok} {R : Result → Shared → Prop} (eB : s.heap.get? B = some ⟨.ref 162, some bd, .dict es ep, #[some (.type "list")]⟩) (ed : s.heap.get? bd = some emptyD)
    (h : ∀ h', Heap.ExtBut bd s.heap h' → h'.get? bd = some (frozenD w M s.toks 1) → R (.ok (.ret .none)) { s with heap := h', toks := s.toks + 1 }) :
    codeAny (model pw w) A (.call (.builtin "object.__setattr__") ⟨[.ref B, .str "_frozen" tk, .ref M], []⟩) R s := by
  have I : InstAt s.heap B ⟨.ref 162, some bd, .dict es ep, #[some (.type "list")]⟩ 162 (some emptyD) := ⟨eB, rfl, rfl, ed⟩
  have SF := PySem.F.store_object
  have sub : Looks (model pw w) s.heap (isInstance (.ref B) (.type "object")) true := I.type.andThen (looks_mroIn K (by kernel_rfl))
  refine codeAny_call_builtin SF.slot.plain SF.entry (@check_slot (model pw w) _ _ s "object.__setattr__" "object" "__setattr__" (.ref B) [.str "_frozen" tk, .ref M] [] _ SF.kind SF.split sub (SF.args (.ref B) (.str "_frozen" tk) (.ref M)) ?_)
  have hm : Looks (model pw w) s.heap (mroOf (.ref 162)) (cd162 w).mro := (looks_clsIn K (cls162 w)).andThen .now
  rw [osa_eq, refuse_eq]
  refine wpAny_bind (wpAny_bind (I.type.here (wpAny_bind (hm.here ?_))))
  rw [mro162, passes162]
  refine wpAny_pure (wpAny_bind (I.type.here (wpAny_bind ((looks_findIn K (r := none) (by kernel_rfl)).here (wpAny_bind (wpAny_pure ?_))))))
  refine wpAny_bind (wpAny_pure (wpAny_bind (wpAny_bind (wpAny_loadPart eB (wpAny_bind ((looks_clsIn K (cls162 w)).here ?_))))))
  rw [hasD162]
  refine wpAny_pure (a := some bd) (wpAny_bind (wpAny_pure (wpAny_bind ?_)))
  unfold nsSet
  refine wpAny_bind (wpAny_bind (wpAny_askSetting (wpAny_pure (wpAny_bind (wpAny_mkText (wpAny_bind (wpAny_loadPart ed ?_)))))))
  dsimp only
  rw [if_neg (by decide)]
  have D' : (s.heap.update bd (Obj.putName "_frozen" (PyData.keyHash w.params "_frozen") (.str "_frozen" s.toks) (.ref M))).get? bd = some (frozenD w M s.toks 1) := Heap.get?_update_self _ ed (by rfl)
  refine wpAny_updatePart ed ?_
  refine wpAny_bind (wpAny_lookBehind D' (by rfl) ?_)
  exact wpAny_pure (h _ (Heap.SameBut.update ..).extBut D')
theorem getMethod_book (K : (K01 w).In s.heap) {B bd f : Addr} {es : Array DictEntry} {ep : Nat} {name : Str} {pl : Sem Bool} {Q : Value × List Value → Shared → Prop} (eB : s.heap.get? B = some ⟨.ref 162, some bd, .dict es ep, #[some (.type "list")]⟩) (ed : s.heap.get? bd = some emptyD)
    (hf : findIn (K01 w) (.ref 162) name = some (some (.ref f))) (ht : typeIn (K01 w) (.ref f) = some (.type "function")) (h : Q (.ref f, [.ref B]) s) : wpAny (model pw w) A (getMethod (.ref B) name pl) Q E s := by
  have I : InstAt s.heap B ⟨.ref 162, some bd, .dict es ep, #[some (.type "list")]⟩ 162 (some emptyD) := ⟨eB, rfl, rfl, ed⟩
  unfold getMethod specialOf
  refine wpAny_bind (wpAny_bind (I.type.here ((looks_findIn K (r := some (.builtin "collections.defaultdict.__getattribute__")) (by kernel_rfl)).here ?_)))
  dsimp only
  rw [canon_dga, if_neg (by decide)]
  refine wpAny_bind (wpAny_bind (I.type.here ((looks_findIn K (r := none) (by kernel_rfl)).here ?_)))
  refine wpAny_bind (wpAny_bind (I.type.here ((looks_findIn K hf).here (wpAny_bind ((looks_typeIn K ht).here ?_)))))
  rw [if_neg (by decide +kernel)]
  refine wpAny_bind (wpAny_loadPart eB ?_)
  have hs : lookIn name emptyD = some none := by rfl
  refine wpAny_bind (wpAny_bind (wpAny_loadPart ed ?_))
  rw [nsLook_of hs]
  exact wpAny_pure (wpAny_bind (wpAny_rule (wpAny_pure h)))
theorem setAttr_book (K : (K01 w).In s.heap) {B bd M : Addr} {es : Array DictEntry} {ep : Nat} {Q : Unit → Shared → Prop} (eB : s.heap.get? B = some ⟨.ref 162, some bd, .dict es ep, #[some (.type "list")]⟩) (ed : s.heap.get? bd = some emptyD)
    (h : ∀ h' t, Heap.ExtBut bd s.heap h' → h'.get? bd = some (frozenD w M t 1) → Q () { s with heap := h', toks := t + 1 }) : wpAny (model pw w) A (setAttr (.ref B) "_frozen" (.ref M)) Q E s := by
  have I : InstAt s.heap B ⟨.ref 162, some bd, .dict es ep, #[some (.type "list")]⟩ 162 (some emptyD) := ⟨eB, rfl, rfl, ed⟩
  have SF := PySem.F.store_object
  unfold setAttr
  refine wpAny_bind (wpAny_mkText (wpAny_bind ?_))
  unfold callSpecial? specialOf
  have L0 : Looks (model pw w) s.heap (typeOf (.ref B)) (.ref 162) := I.type
  have L1 : Looks (model pw w) s.heap (typeLookup (.ref 162) "__setattr__") (some (.builtin "object.__setattr__")) := looks_findIn K (by kernel_rfl)
  refine wpAny_bind (wpAny_bind (L0 _ _ _ _ (fun _ _ e => e) (L1 _ _ _ _ (fun _ _ e => e) (wpAny_holding ?_))))
  rw [SF.slot.bind]
  refine wpAny_bind (wpAny_pure (wpAny_bind (wpAny_call (osa_book (s := { s with toks := s.toks + 1 }) K eB ed fun h' hx hd => ?_))))
  exact wpAny_pure (wpAny_pure (h h' _ hx hd))
end
noncomputable abbrev fdFrz : FuncData := fdM (mst 9 2) "freeze" "FreezableDefaultDict.freeze" "cpy313.importlib.metadata._collections" 362 .none none 158 [] .none
theorem K_frz (w : World) : (K01 w).lookup 159 = some ⟨.type "function", none, .func fdFrz, #[]⟩ := by kernel_rfl
noncomputable def lamP : Arguments := { posonlyargs := [], args := [{ arg := "key", annotation := none, pos := ⟨127, 30, 127, 33⟩ }], vararg := none, kwonlyargs := [], kw_defaults := [], kwarg := none, defaults := [] }
noncomputable def lamB : Expr := .Call (.Attribute (.Name "self" ⟨127, 35, 127, 39⟩) "default_factory" ⟨127, 35, 127, 55⟩) [] [] ⟨127, 35, 127, 57⟩
noncomputable def lamS : Scope := { kind := .function, names := [("key", .local), ("self", .free)], isGenerator := false, isCoroutine := false, more := [] }
noncomputable def lamPos : Pos := ⟨127, 23, 127, 57⟩
noncomputable abbrev lamQ : Str := "FreezableDefaultDict.freeze.<locals>.<lambda>"
theorem frz_body : fbody (mst 9 2) = [.Assign [.Attribute (.Name "self" ⟨127, 8, 127, 12⟩) "_frozen" ⟨127, 8, 127, 20⟩] (.Lambda lamP lamB lamS lamPos) ⟨127, 8, 127, 57⟩] := by rfl
noncomputable abbrev envFrz (N : Nat) : Env := callEnvC fdFrz N 159
noncomputable def TabAt (h : Heap) (ps : Array Value) : Prop := h.get? 154 = some (tabObj ps) ∧ (ps = #[] ∨ ∃ c, ps = #[rawInt 127, rawInt 23, .ref c] ∧ h.CodeRec (.ref c) lamQ)
theorem TabAt.keep {h h' : Heap} {ps : Array Value} (x : TabAt h ps) (k : Le h h') : TabAt h' ps :=
  ⟨k _ _ x.1, x.2.imp id fun ⟨c, e, c', oc, vs, t, e2, hoc, r⟩ => ⟨c, e, c', oc, vs, t, e2, k _ _ hoc, r⟩⟩
theorem TabAt.triples {h : Heap} {ps : Array Value} (x : TabAt h ps) : TriplesOk ps.toList := by
  rcases x.2 with rfl | ⟨c, rfl, _⟩
  · trivial
  · trivial
theorem isS (v : Value) (e : v.ctorIdx = 6) : ∃ a b, v = .str a b := by
  cases v with
  | str => exact ⟨_, _, rfl⟩
  | _ => exact Bool.noConfusion (congrArg (Nat.beq · 6) e : false = true)
theorem isI (v : Value) (e : v.ctorIdx = 4) : ∃ a b, v = .int a b := by
  cases v with
  | int => exact ⟨_, _, rfl⟩
  | _ => exact Bool.noConfusion (congrArg (Nat.beq · 4) e : false = true)
theorem isB (v : Value) (e : v.ctorIdx = 3) : ∃ a, v = .bool a := by
  cases v with
  | bool => exact ⟨_, rfl⟩
  | _ => exact Bool.noConfusion (congrArg (Nat.beq · 3) e : false = true)
noncomputable def fsOf : Data → Array Value
  | .fields vs => vs
  | _ => #[]
theorem K_158 (w : World) : (K01 w).lookup 158 = some (objK w 158) := by kernel_rfl
theorem code158 {w : World} {h : Heap} (X : (K01 w).In h) : CodeHd h 158 154 := by
  obtain ⟨file, tf, h1⟩ := isS ((fsOf (objK w 158).data).getD 18 .none) (by kernel_rfl)
  obtain ⟨flags, tg, h2⟩ := isI ((fsOf (objK w 158).data).getD 7 .none) (by kernel_rfl)
  obtain ⟨inF, h3⟩ := isB ((fsOf (objK w 158).data).getD 9 .none) (by kernel_rfl)
  obtain ⟨text, tt, h4⟩ := isI ((fsOf (objK w 158).data).getD 10 .none) (by kernel_rfl)
  exact ⟨objK w 158, fsOf (objK w 158).data, file, tf, flags, tg, inF, text, tt, X _ _ (K_158 w), by kernel_rfl, by kernel_rfl, by kernel_rfl, by kernel_rfl, h1, h2, h3, h4, by decide⟩
structure LamAt (h : Heap) (B M : Addr) : Prop where
  fn : ∃ pm c' ctv cl, h.get? M = some (kla_obj "<lambda>" lamQ lamP lamB lamS [("self", cl)] pm c' ctv) ∧ h.IsCell cl (some (.ref B)) ∧ h.CodeRec (.ref c') lamQ
theorem LamAt.keep {h h' : Heap} {B M : Addr} (x : LamAt h B M) (k : ∀ b o, (∀ es n, o.data ≠ .dict es n) → (∀ vs n, o.data ≠ .seq vs n) → h.get? b = some o → h'.get? b = some o) : LamAt h' B M := by
  obtain ⟨pm, c', ctv, cl, e, ⟨o, eo, r⟩, c, oc, vs, t, e2, hoc, hd, r2⟩ := x.fn
  exact ⟨pm, c', ctv, cl, k _ _ (fun _ _ z => by cases z) (fun _ _ z => by cases z) e, ⟨o, k _ _ (fun _ _ z => by rw [r] at z; cases z) (fun _ _ z => by rw [r] at z; cases z) eo, r⟩, c, oc, vs, t, e2,
    k _ _ (fun _ _ z => by rw [hd] at z; cases z) (fun _ _ z => by rw [hd] at z; cases z) hoc, hd, r2⟩
theorem bm_ok (w : World) : nsIn (K01 w) mainGlobals "__builtins__" = some (some (.ref 4)) := by kernel_rfl
theorem K_4 (w : World) : (K01 w).lookup 4 = some (objK w 4) := by kernel_rfl
section
variable {w : World} {A : Around} {E : Value → Shared → Prop} {s : Shared}
theorem builtinsAt (T : TopH w s.heap) : ∃ mg, s.heap.Ns mainGlobals mg ∧ s.heap.BuiltinsAt mg 154 := by
  obtain ⟨mg, hm⟩ := T.g
  exact ⟨mg, hm, 4, objK w 4, mg_of T.K hm (bm_ok w), by decide, by decide, by decide, T.K _ _ (K_4 w), by kernel_rfl, by kernel_rfl, by kernel_rfl⟩
theorem mk_lam (T : TopH w s.heap) {N : Nat} {ps : Array Value} {cl : Addr} {B : Addr} (tb : TabAt s.heap ps) (hcl : closureFor lamS (envFrz N) = pure [(("self" : Str), cl)]) (hc : s.heap.IsCell cl (some (.ref B))) (hcn : cl ≠ 154) :
    wpAny (model pw w) A (eval (.Lambda lamP lamB lamS lamPos) (envFrz N)) (fun v s' => ∃ M more, v = .ref M ∧ s.heap.get? M = none ∧ LamAt s'.heap B M ∧ TabAt s'.heap (ps ++ more) ∧ Heap.ExtBut 154 s.heap s'.heap ∧ ∃ h' tk, s' = { s with heap := h', toks := tk }) E s := by
  obtain ⟨mg, hm, hb⟩ := builtinsAt T
  have C : CodeHd s.heap 158 154 := code158 T.K
  refine kla_eval (by rfl) ?_
  rcases tb.2 with rfl | ⟨c, rfl, hrec⟩
  · refine kla_makeFunction (mg := mg) hcl rfl hm rfl C tb.1 tb.triples (by rfl) (by decide) hb fun c' ctv h' tk hx hge hlt hrec ht => ?_
    have hMn : s.heap.get? h'.objs.size = none := size_none (Nat.le_of_lt (Nat.lt_of_le_of_lt hge hlt))
    have kp : ∀ b o, h'.get? b = some o → (h'.push (kla_obj "<lambda>" lamQ lamP lamB lamS [("self", cl)] ((mg "__name__").getD .none) c' ctv)).get? b = some o := fun b o e => Heap.get?_push_of_some _ e
    obtain ⟨oc, eoc, doc⟩ := hc
    obtain ⟨c2, oc2, vs, t, e2, hoc, r2⟩ := hrec
    cases e2
    refine ⟨h'.objs.size, #[rawInt 127, rawInt 23, .ref c'], rfl, hMn, ⟨_, _, _, _, Heap.get?_push_size _ rfl, ⟨oc, kp _ _ (hx _ _ hcn eoc), doc⟩, c', oc2, vs, t, rfl, kp _ _ hoc, r2⟩,
      ⟨kp _ _ ht, .inr ⟨c', rfl, c', oc2, vs, t, rfl, kp _ _ hoc, r2⟩⟩, fun b o hb e => kp _ _ (hx b o hb e), _, _, rfl⟩
  · refine kla_makeFunctionHit (mg := mg) hcl rfl hm rfl C tb.1 tb.triples (by rfl) hb fun ctv h' tk hk hsz => ?_
    have hMn : s.heap.get? h'.objs.size = none := size_none hsz
    have kp : ∀ b o, s.heap.get? b = some o → (h'.push (kla_obj "<lambda>" lamQ lamP lamB lamS [("self", cl)] ((mg "__name__").getD .none) c ctv)).get? b = some o := fun b o e => Heap.get?_push_of_some _ (hk _ _ e)
    obtain ⟨oc, eoc, doc⟩ := hc
    obtain ⟨c2, oc2, vs, t, e2, hoc, r2⟩ := hrec
    cases e2
    refine ⟨h'.objs.size, #[], rfl, hMn, ⟨_, _, _, _, Heap.get?_push_size _ rfl, ⟨oc, kp _ _ eoc, doc⟩, c, oc2, vs, t, rfl, kp _ _ hoc, r2⟩,
      ⟨kp _ _ tb.1, .inr ⟨c, rfl, c, oc2, vs, t, rfl, kp _ _ hoc, r2⟩⟩, fun b o hb e => kp _ _ e, _, _, rfl⟩
theorem freeze_spec (T : TopH w s.heap) (ok : OkA 103 A) {B bd : Addr} {es : Array DictEntry} {ep : Nat} {ps : Array Value} (eB : s.heap.get? B = some ⟨.ref 162, some bd, .dict es ep, #[some (.type "list")]⟩) (ed : s.heap.get? bd = some emptyD) (tb : TabAt s.heap ps) :
    codeAny (model pw w) A (.call (.ref 159) ⟨[.ref B], []⟩) (fun r s' => r = .ok (.ret .none) ∧ ∃ M t more, s'.heap.get? bd = some (frozenD w M t 1) ∧ s.heap.get? M = none ∧ LamAt s'.heap B M ∧ TabAt s'.heap (ps ++ more) ∧
      (∀ b o, b ≠ 154 → b ≠ bd → s.heap.get? b = some o → s'.heap.get? b = some o) ∧ ∃ h' tk, s' = { s with heap := h', toks := tk }) s := by
  refine call_fn (binds := [("self", .ref B)]) _ ok.room T (K_frz w) 158 rfl (by kernel_rfl) rfl (by rfl) rfl (fun y hy => ?_) fun s₁ X k => ?_
  · rcases List.mem_singleton.mp hy with rfl; exact .inr ⟨by rfl, by rfl⟩
  have F := Frm.ofCall X
  have T1 := T.mono k.le
  have hcl : (envFrz s.heap.objs.size).cells.lookup ("self" : Str) = some (s.heap.objs.size + 1) := by rfl
  have hc := F.cell "self" _ hcl
  have hlt : (154 : Nat) < s.heap.objs.size := Heap.lt_size tb.1
  have hbl : bd < s.heap.objs.size := Heap.lt_size ed
  have vself : Var (envFrz s.heap.objs.size) s₁.heap "self" (.ref B) := F.celV rfl rfl hcl (by rfl)
  show wpAny _ _ (execs (fbody (mst 9 2)) _) _ _ _
  rw [frz_body]
  refine wpAny_execs_cons ?_
  refine plainObj_wpAny_Assign_Attribute ?_
  refine wpAny_mono (mk_lam T1 (tb.keep k.le) (cl := s.heap.objs.size + 1) (by rfl) hc (Nat.ne_of_gt (Nat.lt_succ_of_lt hlt))) (fun v s₂ h₂ => ?_) fun _ _ q => q
  obtain ⟨M, more, rfl, hM0, hL, ht, hx, h', tk, rfl⟩ := h₂
  have n154 : ∀ {c : Addr}, s.heap.get? c = none → c ≠ 154 := fun h0 z => by rw [z, tb.1] at h0; cases h0
  have hN : (envFrz s.heap.objs.size).locals ≠ 154 := n154 F.newL
  refine wpAny_Name (wpAny_loadName_cell rfl rfl hcl (v := .ref B) ?_ ?_) (by decide)
  · obtain ⟨oc, eoc, doc⟩ := hc
    exact ⟨oc, hx _ _ (Nat.ne_of_gt (Nat.lt_succ_of_lt hlt)) eoc, doc⟩
  have nB : B ≠ 154 := fun z => by rw [z, tb.1] at eB; cases eB
  have nbd : bd ≠ 154 := fun z => by rw [z, tb.1] at ed; cases ed
  have eB2 := hx _ _ nB (k.le _ _ eB)
  have ed2 := hx _ _ nbd (k.le _ _ ed)
  have k1 := k
  obtain ⟨kk, h1, t1, rfl⟩ := k
  have K2 : (K01 w).In h' := fun a o e => hx a o (fun z => by rw [z] at e; rw [show (K01 w).lookup 154 = none from by kernel_rfl] at e; cases e) (T1.K a o e)
  refine setAttr_book (s := { { s with heap := h1, toks := t1 } with heap := h', toks := tk }) K2 eB2 ed2 fun h3 t3 hx3 hd3 => ?_
  refine wpAny_execs_nil ⟨rfl, M, t3, more, hd3, fresh_le kk hM0, ?_, ?_, fun b o hb hbd e => hx3 b o hbd (hx b o hb (kk b o e)), _, _, rfl⟩
  · refine hL.keep fun b o n1 n2 e => hx3 b o (fun z => ?_) e
    rw [z] at e
    cases (ed2.symm.trans e)
    exact n1 _ _ rfl
  · refine ⟨hx3 _ _ (Ne.symm nbd) ht.1, ht.2.imp id fun ⟨c, e, c', oc, vs, t, e2, hoc, hd, r2⟩ => ⟨c, e, c', oc, vs, t, e2, hx3 _ _ (fun z => ?_) hoc, hd, r2⟩⟩
    rw [z] at hoc
    cases (ed2.symm.trans hoc)
    cases hd
end
section
variable {w : World} {A : Around} {s : Shared} {E : Value → Shared → Prop}
local macro_rules | `(tactic| x_close) => `(tactic| first | exact ⟨rfl, Kp.refl _⟩ | (refine post_val (by assumption) ?_; rfl) | (refine post_val (PySem.W.X.Mem.start _) ?_; rfl))
theorem df_get (X : (KF w.params).In s.heap) (ok : OkA 100 A) (B bd : Addr) (es : Array DictEntry) (ep : Nat) (h1 : s.heap.get? B = some ⟨.ref 162, some bd, .dict es ep, #[some (.type "list")]⟩) :
    wpAny (model pw w) A (PySem.call (.builtin "member_descriptor.__get__") [.builtin "collections.defaultdict.default_factory", .ref B, .ref 162]) (PostVal s (.type "list")) E s := by
  refine litA ok fun l g => ?_
  x_run
end
theorem F_df (w : World) (M : Addr) (t : Tok) : findObj (K01 w) 162 (some (frozenD w M t 1)) "default_factory" = some (.bind (.builtin "member_descriptor.__get__") (.builtin "collections.defaultdict.default_factory")) := by kernel_rfl
theorem findIn_df (w : World) : findIn (K01 w) (.ref 162) "default_factory" = some (some (.builtin "collections.defaultdict.default_factory")) := by kernel_rfl
theorem typeIn_df (w : World) : typeIn (K01 w) (.builtin "collections.defaultdict.default_factory") = some (.type "member_descriptor") := by kernel_rfl
section
variable {w : World} {A : Around} {E : Value → Shared → Prop} {s : Shared}
theorem getMethod_df (T : TopH w s.heap) (ok : OkA 101 A) {B bd M : Addr} {tk : Tok} {es : Array DictEntry} {ep : Nat} {pl : Sem Bool} {Q : Value × List Value → Shared → Prop} (eB : s.heap.get? B = some ⟨.ref 162, some bd, .dict es ep, #[some (.type "list")]⟩) (ed : s.heap.get? bd = some (frozenD w M tk 1))
    (h : ∀ s', Kp s s' → Q (.type "list", []) s') : wpAny (model pw w) A (getMethod (.ref B) "default_factory" pl) Q E s := by
  have K := T.K
  have I : InstAt s.heap B ⟨.ref 162, some bd, .dict es ep, #[some (.type "list")]⟩ 162 (some (frozenD w M tk 1)) := ⟨eB, rfl, rfl, ed⟩
  unfold getMethod specialOf
  refine wpAny_bind (wpAny_bind (I.type.here ((looks_findIn K (r := some (.builtin "collections.defaultdict.__getattribute__")) (by kernel_rfl)).here ?_)))
  dsimp only
  rw [canon_dga, if_neg (by decide)]
  refine wpAny_bind (wpAny_bind (I.type.here ((looks_findIn K (r := none) (by kernel_rfl)).here ?_)))
  refine wpAny_bind (wpAny_bind (I.type.here ((looks_findIn K (findIn_df w)).here (wpAny_bind ((looks_typeIn K (typeIn_df w)).here ?_)))))
  rw [if_pos (by decide +kernel)]
  refine wpAny_bind ?_
  refine get_bind2 (g := .builtin "member_descriptor.__get__") (a := .builtin "collections.defaultdict.default_factory") K I slot_dga (by decide +kernel) (by decide +kernel) entry_dga args_dga (by decide) (by kernel_rfl) (by kernel_rfl) (by kernel_rfl) (F_df w M tk) ?_
  refine wpAny_mono (df_get (s := { s with toks := s.toks + 1 }) K (OkA.in1 (n := 100) ok) B bd es ep eB) (fun v s₁ h₁ => ?_) fun _ _ z => z
  obtain ⟨rfl, k⟩ := h₁
  exact handed_on (by rfl) (wpAny_pure (h s₁ ((Kp.tk s _).tr k)))
theorem lam_call (T : TopH w s.heap) (ok : OkA 103 A) {B bd M M' : Addr} {tk : Tok} {es : Array DictEntry} {ep : Nat} {v : Value} (eB : s.heap.get? B = some ⟨.ref 162, some bd, .dict es ep, #[some (.type "list")]⟩) (ed : s.heap.get? bd = some (frozenD w M' tk 1)) (L : LamAt s.heap B M) :
    codeAny (model pw w) A (.call (.ref M) ⟨[v], []⟩) (fun r s' => ∃ a, r = .ok (.ret (.ref a)) ∧ s.heap.get? a = none ∧ s'.heap.get? a = some ⟨.type "list", none, .seq #[] 0, #[]⟩ ∧ Kp s s') s := by
  obtain ⟨pm, c', ctv, cl, eM, hc, hrec⟩ := L.fn
  refine kla_callFunE ok.room eM rfl rfl rfl rfl hrec ?_
  have hb : bindArgs (kla_fn "<lambda>" lamQ lamP lamB lamS [("self", cl)] pm (.ref c') ctv) ⟨[v], []⟩ = pure [(("key" : Str), v)] := by rfl
  rw [hb]
  refine wpAny_pure ?_
  refine wpAny_newFunctionEnv (show ∀ x ∈ lamS.names, x.2 ≠ NameKind.cell by decide) (fun y hy => ?_) (fun h₁ hns hsb => ⟨T.nl.fresh _ hsb, ?_⟩) rfl
  · rcases List.mem_singleton.mp hy with rfl; rfl
  have hk₁ : Le s.heap h₁ := fun b o e => hsb.extBut b o (Nat.ne_of_lt (Heap.lt_size e)) (Heap.get?_push_of_some _ e)
  generalize hs1 : ({ heap := h₁, gens := s.gens, drawn := s.drawn, toks := s.toks + [(("key" : Str), v)].length, os := s.os } : Shared) = s₁
  have k1 : Kp s s₁ := by rw [← hs1]; exact Kp.of _ hk₁
  have T1 := T.mono k1.le
  refine kla_codeExpr ?_
  show wpAny _ (A.deeper (envX lamQ lamS s.heap.objs.size M (.ref c') [("self", cl)])) (eval lamB (envX lamQ lamS s.heap.objs.size M (.ref c') [("self", cl)])) _ _ _
  have okA := OkA.deeper (n := 102) ok (envX lamQ lamS s.heap.objs.size M (.ref c') [("self", cl)])
  generalize hA : A.deeper (envX lamQ lamS s.heap.objs.size M (.ref c') [("self", cl)]) = A1 at *
  refine call_meth (trees := []) (by rfl) (wpAny_Name (wpAny_loadName_free (c := cl) rfl rfl (by rfl) (hc.keeps k1.le) ?_) (by decide))
  intro pl
  refine getMethod_df T1 (okA.weak (by decide)) (k1.le _ _ eB) (k1.le _ _ ed) fun s₂ k2 => ?_
  refine PySem.callWith_type (by rfl) ?_
  refine PyProof.Rows.evalArgs_nil3 ?_
  refine wpAny_mono (mk_nil (T1.mono k2.le).K (okA.weak (by decide))) (fun v s₃ h₃ => ?_) fun _ _ q => q
  obtain ⟨a, rfl, ha, ha0, k3⟩ := h₃
  exact ⟨a, rfl, fresh_le (k1.tr k2).le ha0, ha, (k1.tr k2).tr k3⟩
end
inductive Th where
  | s (x : Str)
  | i (n : Nat)
  | p (a b : Str)
  deriving DecidableEq
noncomputable def Th.d : Th → D
  | .s x => .str x
  | .i n => .int n
  | .p a b => .pr [.str a, .str b]
noncomputable def texts4 : List Str := ["", "a", "go", "a-b"]
noncomputable def tx (k : Nat) : Str := texts4.getD k ""
noncomputable def thingF (n : Nat) : Th := if n % 3 = 0 then .s (tx (n / 3 % 4)) else if n % 3 = 1 then .i (n / 3) else .p (tx (n / 3 % 4)) (tx (n / 12 % 4))
theorem nfmod (n k : Nat) : (n : Int).fmod (k : Int) = ((n % k : Nat) : Int) := by
  rw [Int.fmod_eq_emod_of_nonneg _ (Int.natCast_nonneg k)]; exact (Int.natCast_emod n k).symm
theorem nfdiv (n k : Nat) : (n : Int).fdiv (k : Int) = ((n / k : Nat) : Int) := by
  rw [Int.fdiv_eq_ediv_of_nonneg _ (Int.natCast_nonneg k)]; exact (Int.natCast_ediv n k).symm
section
variable {prog : Program} {w : World} {A : Around} {env : Env} {h : Heap} {S : Addr → Prop}
theorem CmpD.eqI {x y : Int} : CmpD prog w A .Eq (.int x) (.int y) (x == y) := fun s S u v E ru rv => by
  (first | cases ru using RD.atomE | cases ru using RDs.nilE | cases ru using RD.strE | cases ru using RD.intE | cases ru); (first | cases rv using RD.atomE | cases rv using RDs.nilE | cases rv using RD.strE | cases rv using RD.intE | cases rv)
  exact PyProof.Rows.eq_int ⟨rfl, Kp.refl s⟩
theorem EvD.modN {e : Expr} {n k : Nat} {p1 p2 : Pos} {c : Nat} (a : EvD prog w A env h S e (.int n)) (hk : k ≠ 0) : EvD prog w A env h S (.BinOp e .Mod (.Constant (.int k) c p1) p2) (.int (n % k : Nat)) :=
  EvD.congr (EvD.bin a (EvD.cint (x := (k : Int))) (BinD.mod (by omega))) (by rw [nfmod])
theorem EvD.divN {e : Expr} {n k : Nat} {p1 p2 : Pos} {c : Nat} (a : EvD prog w A env h S e (.int n)) (hk : k ≠ 0) (hn : n < 2 ^ 30) (hk2 : k < 2 ^ 30) : EvD prog w A env h S (.BinOp e .FloorDiv (.Constant (.int k) c p1) p2) (.int (n / k : Nat)) :=
  EvD.congr (EvD.bin a (EvD.cint (x := (k : Int))) (BinD.div (by omega) (by omega) (by omega))) (by rw [nfdiv])
end
theorem keep257 (w : World) : keepIn (K01 w) (.ref 257) = true := by kernel_rfl
section
variable {w : World} {A : Around} {env : Env} {h : Heap} {S : Addr → Prop}
theorem pair_rd {s s' : Shared} {x y : Str} {v : Value} (P : PostPair s x y v s') : RD s'.heap (Fr1 S s.heap) v (.pr [.str x, .str y]) ∧ Kp s s' := by
  obtain ⟨a, d, tx, ty, n, rfl, ha, hd, ha0, hd0, k⟩ := P
  exact ⟨.pr (.inr ha0) (.inr hd0) ha hd (.cons (.str _ _) (.cons (.str _ _) .nil)), k⟩
theorem EvD.pair (T : TopH w h) (ok : OkA 102 A) {e f : Expr} {a b : Str} {p pos : Pos} (vp : Var env h "Pair" (.ref 257)) (x : EvD pw w A env h (fun _ => False) e (.str a)) (y : EvD pw w A env h (fun _ => False) f (.str b)) (he : isStar e = false := by rfl) (hf : isStar f = false := by rfl) :
    EvD pw w A env h S (.Call (.Name "Pair" p) [e, f] [] pos) (.pr [.str a, .str b]) := fun s E hs => by
  refine wpAny_Call_NameR (wpAny_Name (vp _ _ _ _ s hs ?_) (by decide))
  rw [starEach_cons he, starEach_cons hf]
  refine callWith_of (P := fun h => (K01 w).In h) (by rfl) (keeps_K (keep257 w)) (Calls.evalArgs_plain (Calls.spliced_cons ?_))
  refine wpAny_mono (x s E hs) (fun u s1 h1 => ?_) fun _ _ q => q
  obtain ⟨r1, k1⟩ := h1
  (first | cases r1 using RD.atomE | cases r1 using RDs.nilE | cases r1 using RD.strE | cases r1 using RD.intE | cases r1)
  refine Calls.spliced_cons (wpAny_mono (y s1 E (hs.trans k1.le)) (fun v s2 h2 => Calls.spliced_nil ?_) fun _ _ q => q)
  obtain ⟨r2, k2⟩ := h2
  (first | cases r2 using RD.atomE | cases r2 using RDs.nilE | cases r2 using RD.strE | cases r2 using RD.intE | cases r2)
  have T2 := T.mono ((hs.trans k1.le).trans k2.le)
  refine ⟨T2.K, wpAny_mono (mk_pair T2 ok _ _ _ _) (fun v s3 h3 => ?_) fun _ _ q => q⟩
  obtain ⟨r, k⟩ := pair_rd (S := Fr1 S s.heap) h3
  exact ⟨r.sub (fr1_fr1 (k1.tr k2).le), (k1.tr k2).tr k⟩
end
noncomputable abbrev envThing (N : Nat) : Env := callEnvC (fdOf "_law_thing" 13 266) N 267
theorem tx_at {k : Nat} (h : k < 4) : (texts4.map D.str)[((k : Int)).toNat]? = some (.str (tx k)) := by
  match k, h with
  | 0, _ => rfl
  | 1, _ => rfl
  | 2, _ => rfl
  | 3, _ => rfl
theorem tx_in (k : Nat) : tx k ∈ texts4 := by
  unfold tx
  rw [List.getD_eq_getElem?_getD]
  cases q : texts4[k]? with
  | none => exact List.mem_cons_self ..
  | some x => exact List.mem_of_getElem? q
theorem thing_spec {w : World} {h : Heap} (T : TopH w h) (n : Nat) (hn : n < 2 ^ 30) : FnD pw w 103 h 267 [.int n] (thingF n).d := by
  intro A S s vs ok hs r
  have T' := T.mono hs
  cases r using RDs.consE with
  | cons r1 r2 =>
  (first | cases r2 using RD.atomE | cases r2 using RDs.nilE | cases r2 using RD.strE | cases r2 using RD.intE | cases r2)
  (first | cases r1 using RD.atomE | cases r1 using RDs.nilE | cases r1 using RD.strE | cases r1 using RD.intE | cases r1)
  rename_i t
  refine call_fn (binds := [("n", .int n t)]) _ ok.room T' (K_thing w) 266 rfl (by kernel_rfl) rfl (by rfl) rfl (fun y hy => ?_) fun s₁ X k => ?_
  · rcases List.mem_singleton.mp hy with rfl; exact .inl (by rfl)
  have okA : OkA 102 (A.deeper (envThing s.heap.objs.size)) := ok.deeper _
  have F := Frm.ofCall X
  have T1 := T'.mono k.le
  refine wpAny_execs_cons (wpAny_Assign_Name (wpAny_mono ((EvD.list (S := fun _ => False) (ds := texts4.map D.str) (.cons EvD.cstr (.cons EvD.cstr (.cons EvD.cstr (.cons EvD.cstr .nil rfl) rfl) rfl) rfl) (by decide)) s₁ _ fun _ _ e => e) (fun v s2 h2 => ?_) fun _ _ q => q) (by rfl))
  obtain ⟨r2, k2⟩ := h2
  refine (F.kp k2).storeL rfl (by rfl) fun h3 t3 F3 x3 => ?_
  have r3 : RD h3 (fun a => a ≠ (envThing s.heap.objs.size).locals) v (.lst (texts4.map .str)) := by
    refine ((r2.sub fun a z => ?_).but x3 fun z => z rfl)
    rcases z with z | z
    · exact z.elim
    · exact fun q => F.lives (q ▸ z)
  generalize hs3 : ({ s2 with heap := h3, toks := t3 } : Shared) = s3 at F3
  have r3 : RD s3.heap (fun a => a ≠ (envThing s.heap.objs.size).locals) v (.lst (texts4.map .str)) := by rw [← hs3]; exact r3
  have T3 := T'.mono F3.keep
  have vn : Var (envThing s.heap.objs.size) s3.heap "n" (.int n t) := F3.loc rfl (by rfl) (by rfl)
  have vt : Var (envThing s.heap.objs.size) s3.heap "texts" v := F3.loc rfl (by rfl) (upd_eq (m := bindL (envThing s.heap.objs.size).kindOf [("n", .int n t)] fun _ => none))
  have en : ∀ {A' : Around} {S' : Addr → Prop} {p : Pos}, EvD pw w A' (envThing s.heap.objs.size) s3.heap S' (.Name "n" p) (.int n) := EvD.name vn (.int _ _)
  have et : ∀ {A' : Around} {p : Pos}, SrcL pw w A' (envThing s.heap.objs.size) s3.heap (fun a => a ≠ (envThing s.heap.objs.size).locals) (.Name "texts" p) (texts4.map .str) := (EvD.name vt r3).src
  have test : ∀ {A' : Around} (k : Nat) {p1 p2 p3 p4 p5 : Pos}, EvT pw w A' (envThing s.heap.objs.size) s3.heap (.Compare (.BinOp (.Name "n" p1) .Mod (.Constant (.int 3) 0 p2) p3) [.Eq] [.Constant (.int k) 0 p4] p5) (((n % 3 : Nat) : Int) == (k : Int)) :=
    fun k => EvT.cmp (S := fun _ => False) (EvD.modN en (k := 3) (by decide)) (EvD.cint (x := (k : Int))) CmpD.eqI
  refine wpAny_execs_cons (wpAny_If (wpAny_mono (test 0 s3 _ fun _ _ e => e) (fun b s4 h4 => ?_) fun _ _ q => q))
  obtain ⟨rfl, k4⟩ := h4
  have h34 : n / 3 % 4 < 4 := Nat.mod_lt _ (by decide)
  have h124 : n / 12 % 4 < 4 := Nat.mod_lt _ (by decide)
  have e34 : ∀ {A' : Around} {p1 p2 p3 p4 p5 p6 p7 : Pos}, EvD pw w A' (envThing s.heap.objs.size) s3.heap (fun a => a ≠ (envThing s.heap.objs.size).locals) (.Subscript (.Name "texts" p1) (.BinOp (.BinOp (.Name "n" p2) .FloorDiv (.Constant (.int 3) 0 p3) p4) .Mod (.Constant (.int 4) 0 p5) p6) p7) (.str (tx (n / 3 % 4))) :=
    EvD.idxL et (EvD.modN (EvD.divN en (k := 3) (by decide) hn (by decide)) (k := 4) (by decide)) (by omega) (by omega) (tx_at h34)
  have e124 : ∀ {A' : Around} {p1 p2 p3 p4 p5 p6 p7 : Pos}, EvD pw w A' (envThing s.heap.objs.size) s3.heap (fun a => a ≠ (envThing s.heap.objs.size).locals) (.Subscript (.Name "texts" p1) (.BinOp (.BinOp (.Name "n" p2) .FloorDiv (.Constant (.int 12) 0 p3) p4) .Mod (.Constant (.int 4) 0 p5) p6) p7) (.str (tx (n / 12 % 4))) :=
    EvD.idxL et (EvD.modN (EvD.divN en (k := 12) (by decide) hn (by decide)) (k := 4) (by decide)) (by omega) (by omega) (tx_at h124)
  have fin : ∀ {e : Expr} {d : D} {s5 : Shared} {Q EE : Value → Shared → Prop}, Kp s3 s5 → (∀ v s6, RD s6.heap (Fr1 S s.heap) v d → Kp s s6 → Q v s6) → EvD pw w (A.deeper (envThing s.heap.objs.size)) (envThing s.heap.objs.size) s3.heap (fun _ => False) e d →
      wpAny (model pw w) (A.deeper (envThing s.heap.objs.size)) (eval e (envThing s.heap.objs.size)) Q EE s5 := fun k5 hR ev => by
    refine wpAny_mono (ev _ _ k5.le) (fun v s6 h6 => ?_) fun _ _ q => q
    obtain ⟨r6, k6⟩ := h6
    have kk := F3.kpAll.tr k5
    exact hR v s6 (r6.sub fun a z => z.elim (fun q => q.elim) fun q => .inr (fresh_le kk.le q)) (kk.tr k6)
  by_cases c0 : n % 3 = 0
  · have e0 : (((n % 3 : Nat) : Int) == ((0 : Nat) : Int)) = true := by simp [c0]
    rw [e0, if_pos rfl]
    refine wpAny_execs_cons (wpAny_Return_some (fin (d := .str (tx (n / 3 % 4))) k4 (fun v s6 r6 k6 => ?_) (EvD.flat e34 rfl)))
    refine ⟨v, rfl, ?_, k6⟩
    unfold thingF
    rw [if_pos c0]
    exact r6
  · have e0 : (((n % 3 : Nat) : Int) == ((0 : Nat) : Int)) = false := by
      rw [beq_eq_false_iff_ne]; omega
    rw [e0, if_neg (by decide)]
    refine wpAny_execs_nil (wpAny_execs_cons (wpAny_If (wpAny_mono ((test 1).mono k4.le s4 _ fun _ _ e => e) (fun b s5 h5 => ?_) fun _ _ q => q)))
    obtain ⟨rfl, k5⟩ := h5
    have k45 := k4.tr k5
    by_cases c1 : n % 3 = 1
    · have e1 : (((n % 3 : Nat) : Int) == ((1 : Nat) : Int)) = true := by simp [c1]
      rw [e1, if_pos rfl]
      refine wpAny_execs_cons (wpAny_Return_some (fin (d := .int (n / 3 : Nat)) k45 (fun v s6 r6 k6 => ?_) (EvD.divN en (k := 3) (by decide) hn (by decide))))
      refine ⟨v, rfl, ?_, k6⟩
      unfold thingF
      rw [if_neg c0, if_pos c1]
      exact r6
    · have e1 : (((n % 3 : Nat) : Int) == ((1 : Nat) : Int)) = false := by
        rw [beq_eq_false_iff_ne]; omega
      rw [e1, if_neg (by decide)]
      refine wpAny_execs_nil (wpAny_execs_cons (wpAny_Return_some (fin (d := .pr [.str (tx (n / 3 % 4)), .str (tx (n / 12 % 4))]) k45 (fun v s6 r6 k6 => ?_) (EvD.pair T3 (okA.weak (by decide)) (Var.glob T3 rfl (by rfl) rfl (by kernel_rfl)) (EvD.flat e34 rfl) (EvD.flat e124 rfl)))))
      refine ⟨v, rfl, ?_, k6⟩
      unfold thingF
      rw [if_neg c0, if_neg c1]
      exact r6
section
variable {M : Model} {A : Around} {R : GenEnd} {Y : Protocol} {n : Nat} {s₀ : Shared} {c : Code} {fs : List Frame} {s : Shared} {env : Env}
  {K : Flow → Sem Fin} {H : Value → Sem Fin} {gd : Bool → Bool} {lv : List Value → List Value}
theorem seg_wbind {α β : Type} {m : Sem α} {f : α → Sem β} {K : β → Sem Fin} {H : Value → Sem Fin} {gd : Bool → Bool} {lv : List Value → List Value}
    (h : wpAny M (A.over c fs) m (fun a s' => Seg M A R Y n s₀ c ((f a).wrap K H gd lv) fs s') (fun _ _ => False) s) : Seg M A R Y n s₀ c ((m >>= f).wrap K H gd lv) fs s := by
  rw [Sem.bind_eq_wrap', Sem.wrap_wrap]
  exact seg_wrap (wpAny_mono h (fun _ _ x => x) fun _ _ x => x.elim)
theorem seg_stmt {st : Stmt} {rest : List Stmt} (h : wpAny M (A.over c fs) (exec st env) (fun f s' => f = .next ∧ Seg M A R Y n s₀ c ((execs rest env).wrap K H gd lv) fs s') (fun _ _ => False) s) :
    Seg M A R Y n s₀ c ((execs (st :: rest) env).wrap K H gd lv) fs s := by
  refine seg_execs_cons (seg_wrap (wpAny_mono h (fun f s' x => ?_) fun _ _ x => x.elim))
  obtain ⟨rfl, h⟩ := x
  exact h
theorem seg_If {test : Expr} {body orelse : List Stmt} {pos : Pos} {b : Bool}
    (h : wpAny M (A.over c fs) (isTrue test env (eval test env)) (fun r s' => r = b ∧ Seg M A R Y n s₀ c ((execs (if b = true then body else orelse) env).wrap K H gd lv) fs s') (fun _ _ => False) s) :
    Seg M A R Y n s₀ c ((exec (.If test body orelse pos) env).wrap K H gd lv) fs s := by
  have e : exec (.If test body orelse pos) env = (standAt pos >>= fun _ => isTrue test env (eval test env) >>= fun r => if r = true then execs body env else execs orelse env) := rfl
  rw [e]
  refine seg_wbind (wpAny_standAt (seg_wbind (wpAny_mono h (fun r s' x => ?_) fun _ _ x => x)))
  obtain ⟨rfl, h⟩ := x
  cases r <;> exact h
noncomputable abbrev loopRet (env : Env) (K : Flow → Sem Fin) (H : Value → Sem Fin) (gd : Bool → Bool) (lv : List Value → List Value) (c : Code) (p : Pos) : Frame :=
  .ret (fun r => ((match r with | .ok f => (.pure f : Sem Flow) | .error e => .raise e).onRaise fun (x : Value) => do
        if (← field x 1) == Value.none then unsupported "frame.own-activation:exception-without-traceback"
        setFlight x env.frame).wrap K H gd lv) none (gd false) (lv []) c p []
theorem seg_For {target iter : Expr} {body orelse : List Stmt} {pos : Pos}
    (h : wpAny M (A.over c fs) (eval iter env) (fun x s₁ => wpAny M (A.over c fs) (pyIter x) (fun it s₂ => ∀ p,
        Seg M A R Y n s₀ (.forLoop target it body orelse env) (M.den (.forLoop target it body orelse env)) (loopRet env K H gd lv c p :: fs) s₂) (fun _ _ => False) s₁) (fun _ _ => False) s)
    (hf : ∀ x, foldedSetIterable iter env x = pure x := by intro _; rfl) :
    Seg M A R Y n s₀ c ((exec (.For target iter body orelse pos) env).wrap K H gd lv) fs s := by
  have e : exec (.For target iter body orelse pos) env = (standAt pos >>= fun _ => eval iter env >>= fun x => foldedSetIterable iter env x >>= fun x => standAt iter.pos >>= fun _ =>
    holding [x] (pyIter x) >>= fun it => runOwn (.forLoop target it body orelse env) env) := rfl
  rw [e]
  refine seg_wbind (wpAny_standAt (seg_wbind (wpAny_mono h (fun x s₁ h₁ => ?_) fun _ _ x => x)))
  refine seg_wbind (wpAny_of_eq (hf x) (seg_wbind (wpAny_standAt (seg_wbind (wpAny_holding (wpAny_mono h₁ (fun it s₂ h₂ => ?_) fun _ _ x => x))))))
  exact seg_call h₂
theorem seg_loopEnd {p : Pos} {c' : Code} (h : Seg M A R Y n s₀ c (K .next) fs s) : Seg M A R Y n s₀ c' (.pure (.done .next)) (loopRet env K H gd lv c p :: fs) s :=
  seg_leaf (.ok .next) h
end
section
variable {prog : Program} {w : World} {A : Around} {R : GenEnd} {Y : Protocol} {n : Nat} {s₀ : Shared} {fs : List Frame} {s : Shared} {env : Env}
noncomputable abbrev loopK (target : Expr) (it : Value) (body : List Stmt) (env : Env) : Flow → Sem Fin := fun f => match f with
  | .next | .cont => .pure (.again (.forLoop target it body [] env))
  | .brk => .pure (.done .next)
  | .ret v => .pure (.done (.ret v))
noncomputable abbrev loopH (env : Env) : Value → Sem Fin := fun e => (do noteFrame e env; theTreesLotGoes e : Sem Unit).wrap (fun _ => .raise e) .raise id id
theorem seg_forLoop {x : Str} {p : Pos} {it : Value} {body : List Stmt}
    (h : wpAny (model prog w) (A.over (.forLoop (.Name x p) it body [] env) fs) (pyNext it) (fun r s₁ => match r with
      | none => ∀ c', Seg (model prog w) A R Y n s₀ c' (.pure (.done .next)) fs s₁
      | some v => wpAny (model prog w) (A.over (.forLoop (.Name x p) it body [] env) fs) (storeName env x v) (fun _ s₂ =>
          Seg (model prog w) A R Y n s₀ (.forLoop (.Name x p) it body [] env) ((execs body env).wrap (loopK (.Name x p) it body env) (loopH env) id id) fs s₂) (fun _ _ => False) s₁) (fun _ _ => False) s)
    (hd : (x == ("__debug__" : Str)) = false := by decide) :
    Seg (model prog w) A R Y n s₀ (.forLoop (.Name x p) it body [] env) ((model prog w).den (.forLoop (.Name x p) it body [] env)) fs s := by
  show Seg _ A R Y n s₀ _ ((forTurn (.Name x p) it body [] env).onRaise (fun x => do noteFrame x env; theTreesLotGoes x)) fs s
  unfold forTurn
  rw [Sem.onRaise_eq_wrap]
  refine seg_wbind (wpAny_standAt (seg_wbind (wpAny_onRaise (wpAny_mono h (fun r s₁ h₁ => ?_) fun _ _ x => x.elim))))
  cases r with
  | none =>
    refine seg_again rfl ?_
    exact h₁ _
  | some v =>
    refine seg_wbind (wpAny_pure ?_)
    refine seg_wbind (wpAny_assign_Name (wpAny_mono h₁ (fun _ s₂ h₂ => ?_) fun _ _ x => x))
    rw [Sem.bind_eq_wrap', Sem.wrap_wrap]
    rw [Sem.wrap_congr (execs body env) _ _ (K' := loopK (.Name x p) it body env) (H' := loopH env) (fun f => by cases f <;> rfl) (fun e => by
      show (do noteFrame e env; theTreesLotGoes e : Sem Unit).bind (fun _ => .raise e) = _
      rw [Sem.bind_eq_wrap])]
    exact h₂
end
open Builtin Builtin.ObjectAttr
noncomputable abbrev bmSet (id : String) (Sa : Addr) : Obj := { cls := .type "builtin_function_or_method", dict := none, data := .fields #[.builtin id, .ref Sa], slots := #[] }
section
variable {s : Shared} {h' : Heap} {t : Nat} {news : List (Addr × Obj)}
noncomputable def PostBs (s : Shared) (id : String) (Sa : Addr) (v : Value) (s' : Shared) : Prop := ∃ m, v = .ref m ∧ s'.heap.get? m = some (bmSet id Sa) ∧ s.heap.get? m = none ∧ Kp s s'
theorem post_bs {id : String} {Sa m : Addr} (D : X.Mem s.heap h' [] news) (e1 : news[0]? = some (m, bmSet id Sa)) : PostBs s id Sa (.ref m) ⟨h', s.gens, s.drawn, t, s.os⟩ :=
  have h1 := mem_at D 0 e1
  ⟨m, rfl, h1.1, h1.2, mem_kp D⟩
end
section
variable {w : World} {A : Around} {s : Shared} {E : Value → Shared → Prop}
local macro_rules | `(tactic| x_close) => `(tactic| (refine post_bs (by assumption) ?_; first | rfl | kernel_rfl))
theorem md_add (X : (KF w.params).In s.heap) (ok : OkA 100 A) (Sa : Addr) (t : SetTable) (h1 : s.heap.get? Sa = some ⟨.type "set", none, .set #[] 0 t, #[]⟩) :
    wpAny (model pw w) A (PySem.call (.builtin "method_descriptor.__get__") [.builtin "set.add", .ref Sa, .type "set"]) (PostBs s "set.add" Sa) E s := by
  refine litA ok fun l g => ?_
  x_run
theorem md_cont (X : (KF w.params).In s.heap) (ok : OkA 100 A) (Sa : Addr) (t : SetTable) (h1 : s.heap.get? Sa = some ⟨.type "set", none, .set #[] 0 t, #[]⟩) :
    wpAny (model pw w) A (PySem.call (.builtin "method_descriptor.__get__") [.builtin "set.__contains__", .ref Sa, .type "set"]) (PostBs s "set.__contains__" Sa) E s := by
  refine litA ok fun l g => ?_
  x_run
end
theorem slot_sga : Slot "set" "__getattribute__" "set.__getattribute__" :=
  .of (owner := "set") (n := "__getattribute__") (by rw [typeLookup_type, builtinLookup_eq_fast]; kernel_rfl) (by decide +kernel) (by decide +kernel) (by decide +kernel)
    (by first | exact .inl (by decide +kernel) | exact .inr (by decide +kernel)) (by rw [isSubtype_type]; kernel_rfl)
theorem entry_sga : entryFor table "set.__getattribute__" = some Builtin.«object.__getattribute__» :=
  entryFor_alias (id' := "object.__getattribute__") (by kernel_rfl) (by first | rfl | decide +kernel | (unfold String.splitOn; simp +decide [String.splitOnAux])) (by decide +kernel) (by kernel_rfl)
theorem args_sga (a b : Value) : argsOk "set.__getattribute__" ⟨[a, b], []⟩ := by unfold argsOk; kernel_rfl
section
variable {M : Model} {h : Heap} {Sa : Addr} {o : Obj}
theorem looks_tset (e : h.get? Sa = some o) (hc : o.cls = .type "set") : Looks M h (typeOf (.ref Sa)) (.type "set") := hc ▸ (Looks.ld e).andThen .now
theorem looks_find_set (e : h.get? Sa = some o) (hc : o.cls = .type "set") (hd : o.dict = none) (hnc : ∀ c, o.data ≠ .cls c) {name : Str} {a g : Value} (h1 : findIn [] (.type "set") name = some (some a)) (h2 : specialIn [] a "__get__" = some (some g)) (h3 : takesIn [] a = some false) (h4 : copiedNames.contains name = false) :
    Looks M h (find (.ref Sa) (.type "set") name) (.bind g a) := by
  have L1 : Looks M h (typeLookup (.type "set") name) (some a) := looks_findIn (inNil h) h1
  have L2 : Looks M h (getOf (some a)) (some g) := looks_specialIn (inNil h) h2
  have L3 := looks_takesIn (M := M) (inNil h) h3
  have L4 : Looks M h (dataDescriptor? (some a) (some g)) none := L3.andThen .now
  have L5 : Looks M h (inOwnDict name (.ref Sa)) none := by
    intro A Q E s k q
    refine wpAny_bind (wpAny_bind (wpAny_loadPart (k _ _ e) ?_))
    obtain ⟨oc, od, oda, osl⟩ := o
    dsimp only at hc hd hnc
    subst hc hd
    have hb : wpAny M A (instanceDict Sa false) (fun a s' => wpAny M A (inDict name a) Q E s') E s := by
      unfold instanceDict
      refine wpAny_bind (wpAny_loadPart (k _ _ e) ?_)
      exact wpAny_pure (wpAny_pure q)
    cases oda <;> first | exact hb | exact absurd rfl (hnc _)
  have L6 : Looks M h (copiedAttributeGuard name (.ref Sa)) () := by
    unfold copiedAttributeGuard
    dsimp only
    rw [if_neg (by have h4' : (["__module__", "__name__", "__qualname__", "__doc__", "__annotations__"] : List Str).contains name = false := h4
                   rw [h4']; decide)]
    exact .now
  exact L1.andThen (L2.andThen (L4.andThen (L5.andThen (L6.andThen (Looks.tag .now)))))
end
section
variable {prog : Program} {w : World} {A : Around} {E : Value → Shared → Prop} {s : Shared} {Sa : Addr} {o : Obj} {name : Str} {expr : Bool} {Q : Value → Shared → Prop} {a g : Value}
theorem getAttr_set (e : s.heap.get? Sa = some o) (hc : o.cls = .type "set") (hd : o.dict = none) (hnc : ∀ c, o.data ≠ .cls c) (h1 : findIn [] (.type "set") name = some (some a)) (h2 : specialIn [] a "__get__" = some (some g)) (h3 : takesIn [] a = some false) (h4 : copiedNames.contains name = false)
    (h : wpAny (model prog w) A.in1 (PySem.call g [a, .ref Sa, .type "set"]) (fun v s' => wpAny (model prog w) A (handedOut v) Q E s') (fun _ _ => False) { s with toks := s.toks + 1 }) :
    wpAny (model prog w) A (getAttr (.ref Sa) name expr) Q E s := by
  have L0 := looks_tset (M := model prog w) e hc
  have L1 : Looks (model prog w) s.heap (typeLookup (.type "set") "__getattribute__") (some (.builtin "set.__getattribute__")) := looks_findIn (inNil _) (by kernel_rfl)
  have L2 : Looks (model prog w) s.heap (typeLookup (.type "set") "__getattr__") none := looks_findIn (inNil _) (by kernel_rfl)
  have LF := looks_find_set (M := model prog w) e hc hd hnc h1 h2 h3 h4
  unfold getAttr getAttrBy
  refine wpAny_bind (wpAny_mkText (wpAny_holding (wpAny_bind (L0 _ _ _ _ (fun _ _ e => e) (wpAny_bind (L1 _ _ _ _ (fun _ _ e => e) ?_))))))
  show wpAny _ _ (getAttrByItsOwn (.ref Sa) (.str name s.toks) (.type "set") (.builtin "set.__getattribute__") true expr) _ _ _
  unfold getAttrByItsOwn hookBefore callGetattribute boundAndCalled
  refine wpAny_bind (wpAny_of_eq (show (if onTheHeap (.type "set") then typeLookup (.type "set") "__getattr__" else pure none) = pure none from rfl) ?_)
  refine wpAny_bind (wpAny_attempt (wpAny_holding ?_))
  rw [show (expr && onTheHeap (Value.builtin "set.__getattribute__")) = false from Bool.and_false _, if_neg (by decide)]
  rw [slot_sga.bind]
  refine wpAny_bind (wpAny_pure ?_)
  show wpAny _ _ (PySem.call (.builtin "set.__getattribute__") [.ref Sa, .str name s.toks]) _ _ { s with toks := s.toks + 1 }
  refine wpAny_call (codeAny_call_builtin slot_sga.plain entry_sga ?_)
  refine @check_slot (model prog w) _ _ { s with toks := s.toks + 1 } "set.__getattribute__" "set" "__getattribute__" (.ref Sa) [.str name s.toks] [] _ (by decide +kernel) (by decide +kernel) (L0.andThen (Looks.of_pure (by rw [isSubtype_type]; kernel_rfl))) (args_sga _ _) ?_
  unfold «object.__getattribute__»
  refine wpAny_bind (wpAny_pure ?_)
  refine wpAny_bind (wpAny_pure ?_)
  refine wpAny_bind (L0 _ _ _ _ (fun _ _ e => e) (wpAny_bind (LF _ _ _ _ (fun _ _ e => e) ?_)))
  show wpAny _ _ (holding [a] (PySem.call g [a, .ref Sa, .type "set"]) >>= ret) _ _ _
  exact wpAny_bind (wpAny_holding (wpAny_mono h (fun v s' z => wpAny_pure z) fun _ _ z => z.elim))
end
section
variable {w : World} {A : Around} {E : Value → Shared → Prop} {s : Shared} {env : Env}
theorem ev_setAdd (T : TopH w s.heap) (ok : OkA 102 A) {x : Str} {p ap : Pos} {Sa : Addr} {t : SetTable} (v : Var env s.heap x (.ref Sa)) (e : s.heap.get? Sa = some ⟨.type "set", none, .set #[] 0 t, #[]⟩) (hx : (x == ("__debug__" : Str)) = false := by decide) :
    wpAny (model pw w) A (eval (.Attribute (.Name x p) "add" ap) env) (PostBs s "set.add" Sa) E s := by
  refine Attribute_name (wpAny_Name (v _ _ _ _ s (fun _ _ e => e) ?_) hx)
  refine getAttr_set (a := .builtin "set.add") (g := .builtin "method_descriptor.__get__") e rfl rfl (fun c z => by cases z) (by kernel_rfl) (by kernel_rfl) (by kernel_rfl) (by decide) ?_
  refine wpAny_mono (md_add (s := { s with toks := s.toks + 1 }) T.K (OkA.in1 (n := 100) (ok.weak (by decide))) Sa t e) (fun v s₁ h₁ => ?_) fun _ _ z => z
  obtain ⟨m, rfl, e1, e2, k⟩ := h₁
  exact handed_on rfl ⟨m, rfl, e1, e2, (Kp.tk s _).tr k⟩
theorem ev_setCont (T : TopH w s.heap) (ok : OkA 102 A) {x : Str} {p ap : Pos} {Sa : Addr} {t : SetTable} (v : Var env s.heap x (.ref Sa)) (e : s.heap.get? Sa = some ⟨.type "set", none, .set #[] 0 t, #[]⟩) (hx : (x == ("__debug__" : Str)) = false := by decide) :
    wpAny (model pw w) A (eval (.Attribute (.Name x p) "__contains__" ap) env) (PostBs s "set.__contains__" Sa) E s := by
  refine Attribute_name (wpAny_Name (v _ _ _ _ s (fun _ _ e => e) ?_) hx)
  refine getAttr_set (a := .builtin "set.__contains__") (g := .builtin "method_descriptor.__get__") e rfl rfl (fun c z => by cases z) (by kernel_rfl) (by kernel_rfl) (by kernel_rfl) (by decide) ?_
  refine wpAny_mono (md_cont (s := { s with toks := s.toks + 1 }) T.K (OkA.in1 (n := 100) (ok.weak (by decide))) Sa t e) (fun v s₁ h₁ => ?_) fun _ _ z => z
  obtain ⟨m, rfl, e1, e2, k⟩ := h₁
  exact handed_on rfl ⟨m, rfl, e1, e2, (Kp.tk s _).tr k⟩
end
theorem sgAdd_some : (Manifest.signature? "set.add").isSome = true := by kernel_rfl
noncomputable def sgAdd : Manifest.Signature := (Manifest.signature? "set.add").get sgAdd_some
theorem sgAdd_is : Manifest.signature? "set.add" = some sgAdd := (Option.some_get _).symm
theorem sgAdd_args (a b : Value) : Bind.checkArgs "set.add" { sgAdd with full := s!"{Bind.lastOf "set"}.{Bind.lastOf "set.add"}" } ⟨[a, b], []⟩ = pure () := by kernel_rfl
theorem bkAdd : builtinKind "set.add" = some .method := by decide +kernel
theorem sgCont_some : (Manifest.signature? "set.__contains__").isSome = true := by kernel_rfl
noncomputable def sgCont : Manifest.Signature := (Manifest.signature? "set.__contains__").get sgCont_some
theorem sgCont_is : Manifest.signature? "set.__contains__" = some sgCont := (Option.some_get _).symm
theorem sgCont_args (a b : Value) : Bind.checkArgs "set.__contains__" { sgCont with full := s!"{Bind.lastOf "set"}.{Bind.lastOf "set.__contains__"}" } ⟨[a, b], []⟩ = pure () := by kernel_rfl
theorem bkCont : builtinKind "set.__contains__" = some .method := by decide +kernel
theorem set_sub (base : String) (b : Bool) (h : isSubtype (.type "set") (.type base) = pure b) {M : Model} {hp : Heap} {Sa : Addr} {o : Obj} (e : hp.get? Sa = some o) (hc : o.cls = .type "set") : Looks M hp (isInstance (.ref Sa) (.type base)) b :=
  (looks_tset e hc).andThen (Looks.of_pure h)
section
variable {prog : Program} {w : World} {A : Around} {s : Shared} {E : Value → Shared → Prop}
theorem bound_set {id : String} {sg : Manifest.Signature} {Sa : Addr} {o : Obj} {key : Value} {Q : Unit → Shared → Prop} (hsg : Manifest.signature? id = some sg) (hk : builtinKind id = some .method) (hv : Manifest.varargsMethods.contains id = false)
    (ha : Bind.checkArgs id { sg with full := s!"{Bind.lastOf "set"}.{Bind.lastOf id}" } ⟨[.ref Sa, key], []⟩ = pure ()) (e : s.heap.get? Sa = some o) (hc : o.cls = .type "set") (hnc : ∀ c, o.data ≠ .cls c) (h : Q () s) :
    wpAny (model prog w) A (checkBoundCall id ⟨[.ref Sa, key], []⟩) Q E s := by
  have L0 := looks_tset (M := model prog w) e hc
  have L1 := set_sub "module" false (by rw [isSubtype_type]; kernel_rfl) (M := model prog w) e hc
  obtain ⟨hh, g, d, t, os⟩ := s
  unfold checkBoundCall
  rw [hsg, hk]
  show wpAny _ _ (if (Manifest.AttrKind.method != .method && Manifest.AttrKind.method != .classMethod) = true then _ else _) _ _ _
  rw [if_neg (by decide)]
  refine wpAny_bind (L1.here ?_)
  rw [if_neg (by rw [hv]; decide)]
  refine wpAny_bind (ks_wpAny_isType_inst e hnc ?_)
  rw [if_neg (by decide)]
  refine wpAny_bind (L0.here ?_)
  dsimp only
  exact wpAny_of_eq ha h
theorem bound_call {id : String} {sg : Manifest.Signature} {BM Sa : Addr} {o : Obj} {key : Value} {R : Result → Shared → Prop} (hsg : Manifest.signature? id = some sg) (hk : builtinKind id = some .method) (hv : Manifest.varargsMethods.contains id = false)
    (ha : Bind.checkArgs id { sg with full := s!"{Bind.lastOf "set"}.{Bind.lastOf id}" } ⟨[.ref Sa, key], []⟩ = pure ()) (hq : (Code.builtin id ⟨[.ref Sa, key], []⟩).quiet = true) (eb : s.heap.get? BM = some (bmSet id Sa)) (e : s.heap.get? Sa = some o) (hc : o.cls = .type "set") (hnc : ∀ c, o.data ≠ .cls c)
    (h : codeAny (model prog w) A (.builtin id ⟨[.ref Sa, key], []⟩) R s) : codeAny (model prog w) A (.call (.ref BM) ⟨[key], []⟩) R s := by
  refine codeAny_of_tree ?_
  show wpAny _ A.in1 (callAny (.ref BM) ⟨[key], []⟩) _ _ s
  simp only [callAny]
  refine wpAny_bind (wpAny_load eb ?_)
  dsimp only
  rw [if_pos (by decide)]
  refine wpAny_bind (bound_set hsg hk hv ha e hc hnc ?_)
  exact wpAny_pure ⟨hq, h⟩
variable {K : Type} [DecidableEq K] {knd : KeyKind prog w K} {a BM : Addr} {k : K} {key : Value}
theorem call_bmAdd {S : K → Bool} {n : Nat} {R : Result → Shared → Prop} (eb : s.heap.get? BM = some (bmSet "set.add" a)) (hkey : knd.is k key = true) (hsc : key.scannable = true) (hS : s.heap.SetOf knd a S n) (hroom : n + 1 < scanBound)
    (h : ∀ h', Heap.SameBut a s.heap h' → h'.SetOf knd a (fun k' => S k' || decide (k' = k)) (if S k then n else n + 1) → R (.ok (.ret .none)) { s with heap := h', toks := s.toks + 1 }) :
    codeAny (model prog w) A (.call (.ref BM) ⟨[key], []⟩) R s := by
  obtain ⟨o, es, ep, t, ho, hc, hd, r⟩ := id hS
  refine bound_call sgAdd_is bkAdd (by decide +kernel) (sgAdd_args _ _) (Code.quiet_builtin _ (by decide +kernel)) eb ho hc.1 (fun c z => by rw [hd] at z; cases z) ?_
  refine codeAny_builtin F.entry_set_add ?_
  rw [Around.under_plainId (show plainId "set.add" = true by decide +kernel) _]
  unfold Builtin.«set.add» Builtin.Frozenset.oneOther
  simp only [List.isEmpty_nil, bind_assoc]
  unfold Builtin.Frozenset.addrOf setAdd
  refine wpAny_bind (wpAny_pure ?_)
  try dsimp only
  refine wpAny_bind (wpAny_pure ?_)
  try dsimp only
  refine wpAny_bind ?_
  refine wpAny_holding ?_
  refine wpAny_bind (knd.pyHash hkey ?_)
  refine wpAny_setAddHashed_of (s := { s with toks := s.toks + 1 }) hkey hsc hS hroom fun h' hsb hS' => ?_
  show wpAny _ _ (ret Value.none) _ _ _
  exact wpAny_pure (h h' hsb hS')
theorem call_bmCont {S : K → Bool} {n : Nat} {R : Result → Shared → Prop} (eb : s.heap.get? BM = some (bmSet "set.__contains__" a)) (hkey : knd.is k key = true) (hsc : key.scannable = true) (hS : s.heap.SetOf knd a S n)
    (h : R (.ok (.ret (.bool (S k)))) { s with toks := s.toks + 1 }) :
    codeAny (model prog w) A (.call (.ref BM) ⟨[key], []⟩) R s := by
  obtain ⟨o, es, ep, t, ho, hc, hd, r⟩ := id hS
  refine bound_call sgCont_is bkCont (by decide +kernel) (sgCont_args _ _) (Code.quiet_builtin _ (by decide +kernel)) eb ho hc.1 (fun c z => by rw [hd] at z; cases z) ?_
  refine codeAny_builtin entry_set_contains ?_
  rw [Around.under_plainId (show plainId "set.__contains__" = true by decide +kernel) _]
  unfold Builtin.«frozenset.__contains__» Builtin.Frozenset.oneOther
  simp only [List.isEmpty_nil, bind_assoc]
  unfold Builtin.Frozenset.addrOf Builtin.Frozenset.withSetAsKey setContains
  refine wpAny_bind (wpAny_pure ?_)
  try dsimp only
  refine wpAny_bind (wpAny_pure ?_)
  try dsimp only
  refine wpAny_bind (wpAny_tryCatch ?_)
  refine wpAny_holding ?_
  refine wpAny_bind (knd.pyHash hkey ?_)
  refine wpAny_bind (wpAny_setFind_of (s := { s with toks := s.toks + 1 }) hkey hsc hS fun r hr => ?_)
  refine wpAny_pure ?_
  show wpAny _ _ (ret (Value.bool r.isSome)) _ _ _
  rw [hr]
  exact wpAny_pure h
end
noncomputable abbrev fdUe : FuncData := { fdM (stOf 5) "unique_everseen" "unique_everseen" "cpy313.importlib.metadata._itertools" 338 (.ref 77) none 83 [] .none with doc := .str "List unique elements, preserving order. Remember all elements ever seen." 351 }
theorem K_ue (w : World) : (K01 w).lookup 84 = some ⟨.type "function", none, .func fdUe, #[]⟩ := by kernel_rfl
noncomputable abbrev envUe (C : Nat) : Env := callEnv fdUe C 84
noncomputable def KeepFrom (O : Addr → Prop) (h h' : Heap) : Prop := (∀ b o, ¬ O b → h.get? b = some o → h'.get? b = some o) ∧ ∀ b, O b → h'.get? b ≠ none
noncomputable def Chg (O : Addr → Prop) (C : Addr) (h h' : Heap) : Prop := ∀ b o, h.get? b = some o → b ≠ C → (O b ∨ ((∀ es n t, o.data ≠ .set es n t) ∧ o.cls ≠ .type "list_iterator")) → h'.get? b = some o
theorem Chg.refl (O : Addr → Prop) (C : Addr) (h : Heap) : Chg O C h h := fun _ _ e _ _ => e
theorem Chg.trans {O : Addr → Prop} {C : Addr} {a b c : Heap} (x : Chg O C a b) (y : Chg O C b c) : Chg O C a c := fun i o e n z => y i o (x i o e n z) n z
theorem Chg.of_le {O : Addr → Prop} {C : Addr} {a b : Heap} (k : Le a b) : Chg O C a b := fun i o e _ _ => k i o e
theorem Chg.of_self {O : Addr → Prop} {C : Addr} {a b : Heap} (k : Heap.ExtBut C a b) : Chg O C a b := fun i o e n _ => k i o n e
theorem Chg.of_set {O : Addr → Prop} {C Sa : Addr} {a b : Heap} {oS : Obj} {es n t} (k : Heap.ExtBut Sa a b) (hC : ¬ O Sa) (e : a.get? Sa = some oS) (hd : oS.data = .set es n t) : Chg O C a b := fun i o e' n' z => k i o (fun q => by
  subst q
  rw [e] at e'; cases e'
  rcases z with z | z
  · exact absurd z hC
  · exact z.1 _ _ _ hd) e'
theorem Chg.of_iter {O : Addr → Prop} {C I : Addr} {a b : Heap} {oI : Obj} (k : Heap.ExtBut I a b) (hC : ¬ O I) (e : a.get? I = some oI) (hd : oI.cls = .type "list_iterator") : Chg O C a b := fun i o e' n' z => k i o (fun q => by
  subst q
  rw [e] at e'; cases e'
  rcases z with z | z
  · exact absurd z hC
  · exact z.2 hd) e'
theorem Chg.low {O : Addr → Prop} {C b : Addr} {h h' : Heap} (x : Chg O C h h') (hC : ¬ O C) (hb : O b) {o : Obj} (e : h.get? b = some o) : h'.get? b = some o := x b o e (fun q => hC (q ▸ hb)) (.inl hb)
noncomputable def ChgF (O : Addr → Prop) (Fs : List Addr) (C : Addr) (h h' : Heap) : Prop := ∀ b o, h.get? b = some o → b ≠ C → (b ∈ Fs → ∃ sl, h'.get? b = some { o with slots := sl }) ∧ (b ∉ Fs → (O b ∨ ((∀ es n t, o.data ≠ .set es n t) ∧ o.cls ≠ .type "list_iterator")) → h'.get? b = some o)
theorem ChgF.le {O : Addr → Prop} {Fs : List Addr} {C : Addr} {a b c : Heap} (x : ChgF O Fs C a b) (k : Le b c) : ChgF O Fs C a c := fun i o e n => ⟨fun hb => let ⟨sl, q⟩ := (x i o e n).1 hb; ⟨sl, k _ _ q⟩, fun hb z => k _ _ ((x i o e n).2 hb z)⟩
theorem Chg.thenF {O : Addr → Prop} {Fs : List Addr} {C : Addr} {a b c : Heap} (x : Chg O C a b) (y : ChgF O Fs C b c) (hF : ∀ b ∈ Fs, O b) : ChgF O Fs C a c := fun i o e n => ⟨fun hb => (y i o (x i o e n (.inl (hF i hb))) n).1 hb, fun hb z => (y i o (x i o e n z) n).2 hb z⟩
noncomputable def OuterOk (h : Heap) (outer : List Env) : Prop := ∀ env ∈ outer, env.scope.kind ≠ .module ∧ ∃ L o, env.frame = some L ∧ h.get? L = some o ∧ ∀ vs, o.data ≠ .fields vs
noncomputable abbrev framesOf (outer : List Env) : List Addr := outer.filterMap (·.frame)
structure RowAt (h : Heap) (R : Addr) (xs : List Str) : Prop where
  lst : ∃ vs, h.PlainList R vs ∧ RDs h (fun _ => False) vs.toList (xs.map .str)
  good : ∀ x ∈ xs, x ∈ names8
theorem RowAt.keep {h h' : Heap} {R : Addr} {xs : List Str} (x : RowAt h R xs) (k : ∀ o, h.get? R = some o → h'.get? R = some o) : RowAt h' R xs := by
  obtain ⟨vs, hl, r⟩ := x.lst
  exact ⟨⟨vs, hl.at k, r.mono (fun _ _ s _ => s.elim) fun _ s => s⟩, x.good⟩
theorem RDs.str_inj {h : Heap} {S : Addr → Prop} {vs : List Value} {xs ys : List Str} (r : RDs h S vs (xs.map .str)) (q : RDs h S vs (ys.map .str)) : xs = ys := by
  induction xs generalizing vs ys with
  | nil =>
    cases r using RDs.nilE
    cases ys with
    | nil => rfl
    | cons y ys => exact nomatch q
  | cons x xs ih =>
    cases r using RDs.consE with
    | cons a r =>
    cases ys with
    | nil => exact nomatch q
    | cons y ys =>
    cases q using RDs.consE with
    | cons b q =>
    cases a using RD.strE
    cases b using RD.strE
    rw [ih r q]
theorem RowAt.det {h : Heap} {R : Addr} {xs ys : List Str} (x : RowAt h R xs) (y : RowAt h R ys) : xs = ys := by
  obtain ⟨vs, ⟨n, e⟩, r⟩ := x.lst
  obtain ⟨ws, ⟨n', e'⟩, r'⟩ := y.lst
  rw [e] at e'; cases e'
  exact RDs.str_inj r r'
noncomputable def StAt (w : World) (O : Addr → Prop) (h : Heap) (C : Addr) (S : Str → Bool) : Prop := ∃ m, h.Ns C m ∧ ((m "seen" = none ∧ S = fun _ => false) ∨ ∃ Sa n, m "seen" = some (.ref Sa) ∧ ¬ O Sa ∧ h.SetOf (strKind pw w) Sa S n)
theorem ns_det {h : Heap} {C : Addr} {m m' : Str → Option Value} (x : h.Ns C m) (y : h.Ns C m') : m = m' := by
  obtain ⟨o, es, ep, e, hd, k, f⟩ := x
  obtain ⟨o', es', ep', e', hd', k', f'⟩ := y
  rw [e] at e'; cases e'
  rw [hd] at hd'; cases hd'
  funext y
  rw [← f y, f' y]
theorem setOf_det {w : World} {h : Heap} {a : Addr} {S S' : Str → Bool} {n n' : Nat} (x : h.SetOf (strKind pw w) a S n) (y : h.SetOf (strKind pw w) a S' n') : S = S' := by
  obtain ⟨o, es, ep, t, e, _, hd, _, f, _⟩ := x
  obtain ⟨o', es', ep', t', e', _, hd', _, f', _⟩ := y
  rw [e] at e'; cases e'
  rw [hd] at hd'; cases hd'
  funext k
  rw [Bool.eq_iff_iff, f k, f' k]
theorem StAt.det {w : World} {O : Addr → Prop} {h : Heap} {C : Addr} {S S' : Str → Bool} (x : StAt w O h C S) (y : StAt w O h C S') : S = S' := by
  obtain ⟨m, hm, x⟩ := x
  obtain ⟨m', hm', y⟩ := y
  have := ns_det hm hm'
  subst this
  rcases x with ⟨a, rfl⟩ | ⟨Sa, n, a, _, b⟩ <;> rcases y with ⟨a', rfl⟩ | ⟨Sa', n', a', _, b'⟩
  · rfl
  · rw [a] at a'; cases a'
  · rw [a] at a'; cases a'
  · rw [a] at a'; cases a'
    exact setOf_det b b'
noncomputable abbrev fresh? (f : Str → Str) (S : Str → Bool) (xs : List Str) : Option Str := xs.find? fun x => !S (f x)
noncomputable abbrev addS (S : Str → Bool) (k : Str) : Str → Bool := fun k' => S k' || decide (k' = k)
noncomputable def cnt (f : Str → Str) (S : Str → Bool) : Nat := (names8.filter fun x => !S (f x)).length
theorem cnt_add {f : Str → Str} {S : Str → Bool} {x : Str} (hx : x ∈ names8) (hS : S (f x) = false) : cnt f (addS S (f x)) + 1 ≤ cnt f S := by
  unfold cnt
  have gen : ∀ l : List Str, x ∈ l → (l.filter fun y => !addS S (f x) (f y)).length + 1 ≤ (l.filter fun y => !S (f y)).length := by
    have sub : ∀ l : List Str, (l.filter fun y => !addS S (f x) (f y)).length ≤ (l.filter fun y => !S (f y)).length := fun l => by
      induction l with
      | nil => exact Nat.le_refl _
      | cons y r ih =>
        simp only [List.filter_cons, addS]
        simp only [addS] at ih
        cases h1 : S (f y) <;> cases h2 : decide (f y = f x) <;> simp [-Bool.not_or] <;> omega
    intro l hl
    induction l with
    | nil => cases hl
    | cons y r ih =>
      rcases List.mem_cons.mp hl with rfl | hr
      · have := sub r
        simp only [List.filter_cons, addS, hS, decide_true, Bool.or_true, Bool.not_true, Bool.not_false, if_true, Bool.false_eq_true, if_false, List.length_cons] at this ⊢
        omega
      · have := ih hr
        simp only [List.filter_cons, addS] at this ⊢
        cases h1 : S (f y) <;> cases h2 : decide (f y = f x) <;> simp [-Bool.not_or] <;> omega
  exact gen names8 hx
section
variable (w : World) (f : Str → Str) (O : Addr → Prop) (C R : Addr) (outer : List Env)
noncomputable def GEndP (_ : Nat) (s₀ s₁ : Shared) : Prop := ∃ S xs, StAt w O s₀.heap C S ∧ RowAt s₀.heap R xs ∧ fresh? f S xs = none ∧ ChgF O (framesOf outer) C s₀.heap s₁.heap ∧ ∃ h' tk, s₁ = { s₀ with heap := h', toks := tk }
noncomputable def GY : Protocol := fun _ s₀ v s₁ kap => ∃ S xs x t, StAt w O s₀.heap C S ∧ RowAt s₀.heap R xs ∧ fresh? f S xs = some x ∧ v = .str x t ∧ StAt w O s₁.heap C (addS S (f x)) ∧ Chg O C s₀.heap s₁.heap ∧ (∃ h' tk, s₁ = { s₀ with heap := h', toks := tk }) ∧
  ∀ s'' ys, KeepFrom O s₁.heap s''.heap → TopH w s''.heap → OuterOk s''.heap outer → RowAt s''.heap R (xs ++ ys) → kap (.send .none) s''
noncomputable abbrev GR : GenEnd := fun n s₀ r s₁ => r = .ok (.ret .none) ∧ GEndP w f O C R outer n s₀ s₁
end
structure GenAt (w : World) (A : Around) (f : Str → Str) (O : Addr → Prop) (C G R : Addr) (outer : List Env) (g n : Nat) (S : Str → Bool) (xs : List Str) (s : Shared) : Prop where
  gen : s.heap.IsGen G g
  cg : ¬ O G ∧ G ≠ C
  st : StAt w O s.heap C S
  fuel : cnt f S ≤ n
  go : ∃ gs, s.gens[g]? = some gs ∧ ∀ s'' ys, KeepFrom O s.heap s''.heap → TopH w s''.heap → OuterOk s''.heap outer → RowAt s''.heap R (xs ++ ys) → gs.Goes (model pw w) A.in1 (GR w f O C R outer) (GY w f O C R outer) n (.send .none) s''
section
variable {w : World} {A : Around} {E : Value → Shared → Prop} {s : Shared} {f : Str → Str} {O : Addr → Prop} {C G R : Addr} {outer : List Env} {g n : Nat} {S : Str → Bool} {xs ys : List Str}
theorem gen_next (hh : A.handled = none) (room : A.depth < recursionLimit) (T : TopH w s.heap) (hO : OuterOk s.heap outer) (alive : ∀ b, O b → s.heap.get? b ≠ none) (row : RowAt s.heap R (xs ++ ys)) (ga : GenAt w A f O C G R outer g n S xs s) :
    wpAny (model pw w) A (pyNext (.ref G)) (fun r s' => match fresh? f S (xs ++ ys) with
      | some x => ∃ t m, n = m + 1 ∧ r = some (.str x t) ∧ GenAt w A f O C G R outer g m (addS S (f x)) (xs ++ ys) s' ∧ Chg O C s.heap s'.heap ∧ ∃ h' tk gs, s' = { s.setGen g gs with heap := h', toks := tk }
      | none => r = none ∧ ChgF O (framesOf outer) C s.heap s'.heap ∧ ∃ h' tk, s' = { s.setGen g .finished with heap := h', toks := tk }) E s := by
  obtain ⟨gs, hgs, hgo⟩ := ga.go
  have key := hgo (s.setGen g .running) ys ⟨fun _ _ _ e => e, alive⟩ T hO row
  refine wpAny_pyNext_gen (P := GEndP w f O C R outer) hh T.nl room ga.gen hgs key (fun v s₁ gs' hv => ?_) (fun s₁ hp h' hk => ?_)
  · obtain ⟨S', zs, x, t, hst, hrow, hfx, rfl, hst1, hchg, hsh, hkap⟩ := hv
    have e1 := ga.st.det hst
    subst e1
    have e2 := row.det hrow
    subst e2
    rw [hfx]
    have hx : x ∈ names8 := row.good x (List.mem_of_find?_eq_some hfx)
    have hS : S (f x) = false := by simpa using List.find?_some hfx
    have hc := cnt_add hx hS
    cases n with
    | zero => exact absurd ga.fuel (by omega)
    | succ m =>
      obtain ⟨o, nm, qn, hoG, hcG, hdG, hsG⟩ := ga.gen
      have nn : (∀ es n t, o.data ≠ .set es n t) ∧ o.cls ≠ .type "list_iterator" := ⟨fun _ _ _ z => by (rw [hdG] at z; cases z), by rw [hcG]; decide⟩
      have hG1 : s₁.heap.get? G = some o := hchg G o hoG ga.cg.2 (.inr nn)
      obtain ⟨h1, tk1, rfl⟩ := hsh
      refine ⟨t, m, rfl, rfl, ⟨⟨o, nm, qn, hG1, hcG, hdG, hsG⟩, ga.cg, hst1, by have := ga.fuel; omega, gs', setGen_self (gs := .running) (setGen_self hgs), fun s'' zs k T' hO' row' => hkap s'' zs k T' hO' row'⟩, hchg, h1, tk1, gs', ?_⟩
      simp [Shared.setGen]
  · obtain ⟨S', zs, hst, hrow, hfx, hchg, h1, tk1, rfl⟩ := hp
    have e1 := ga.st.det hst
    subst e1
    have e2 := row.det hrow
    subst e2
    rw [hfx]
    refine ⟨rfl, ChgF.le hchg hk, h', tk1, ?_⟩
    simp [Shared.setGen]
end
noncomputable def ueKey : List Stmt := [.Assign [.Name "k" ⟨36, 12, 36, 13⟩] (.Call (.Name "key" ⟨36, 16, 36, 19⟩) [.Name "element" ⟨36, 20, 36, 27⟩] [] ⟨36, 16, 36, 28⟩) ⟨36, 12, 36, 28⟩,
  .If (.Compare (.Name "k" ⟨37, 15, 37, 16⟩) [.NotIn] [.Name "seen" ⟨37, 24, 37, 28⟩] ⟨37, 15, 37, 28⟩) [.Expr (.Call (.Name "seen_add" ⟨38, 16, 38, 24⟩) [.Name "k" ⟨38, 25, 38, 26⟩] [] ⟨38, 16, 38, 27⟩) ⟨38, 16, 38, 27⟩,
    .Expr (.Yield (some (.Name "element" ⟨39, 22, 39, 29⟩)) ⟨39, 16, 39, 29⟩) ⟨39, 16, 39, 29⟩] [] ⟨37, 12, 39, 29⟩]
noncomputable def ueNone : List Stmt := [.Expr (.Call (.Name "seen_add" ⟨32, 12, 32, 20⟩) [.Name "element" ⟨32, 21, 32, 28⟩] [] ⟨32, 12, 32, 29⟩) ⟨32, 12, 32, 29⟩,
  .Expr (.Yield (some (.Name "element" ⟨33, 18, 33, 25⟩)) ⟨33, 12, 33, 25⟩) ⟨33, 12, 33, 25⟩]
noncomputable def ueIter : Expr := .Call (.Name "filterfalse" ⟨31, 23, 31, 34⟩) [.Attribute (.Name "seen" ⟨31, 35, 31, 39⟩) "__contains__" ⟨31, 35, 31, 52⟩, .Name "iterable" ⟨31, 54, 31, 62⟩] [] ⟨31, 23, 31, 63⟩
theorem ue_body : fbody (stOf 5) = [.Expr (.Constant (.str "List unique elements, preserving order. Remember all elements ever seen.") 0 ⟨27, 4, 27, 82⟩) ⟨27, 4, 27, 82⟩,
  .Assign [.Name "seen" ⟨28, 4, 28, 8⟩] (.Call (.Name "set" ⟨28, 11, 28, 14⟩) [] [] ⟨28, 11, 28, 16⟩) ⟨28, 4, 28, 16⟩,
  .Assign [.Name "seen_add" ⟨29, 4, 29, 12⟩] (.Attribute (.Name "seen" ⟨29, 15, 29, 19⟩) "add" ⟨29, 15, 29, 23⟩) ⟨29, 4, 29, 23⟩,
  .If (.Compare (.Name "key" ⟨30, 7, 30, 10⟩) [.Is] [.Constant .none 0 ⟨30, 14, 30, 18⟩] ⟨30, 7, 30, 18⟩)
    [.For (.Name "element" ⟨31, 12, 31, 19⟩) ueIter ueNone [] ⟨31, 8, 33, 25⟩]
    [.For (.Name "element" ⟨35, 12, 35, 19⟩) (.Name "iterable" ⟨35, 23, 35, 31⟩) ueKey [] ⟨35, 8, 39, 29⟩] ⟨30, 4, 39, 29⟩] := by rfl
structure GSt (w : World) (f : Str → Str) (O : Addr → Prop) (C R : Addr) (kv : Value) (n : Nat) (S : Str → Bool) (xs : List Str) (Sa BM : Addr) (s₀ s : Shared) (m : Str → Option Value) : Prop where
  sh : ∃ h' tk, s = { s₀ with heap := h', toks := tk }
  st₀ : StAt w O s₀.heap C S
  row₀ : RowAt s₀.heap R xs
  chg : Chg O C s₀.heap s.heap
  T : TopH w s.heap
  ns : s.heap.Ns C m
  mi : m "iterable" = some (.ref R)
  my : m "key" = some kv
  ms : m "seen" = some (.ref Sa)
  ma : m "seen_add" = some (.ref BM)
  bm : s.heap.get? BM = some (bmSet "set.add" Sa)
  set : ∃ k, s.heap.SetOf (strKind pw w) Sa S k ∧ k + n ≤ 100
  fuel : cnt f S ≤ n
  low : O R
  lk : (∀ a o, (K01 w).lookup a = some o → O a) ∧ O builtinsNs ∧ O mainGlobals ∧ O cStatics
  nC : ¬ O C
  aS : ¬ O Sa ∧ Sa ≠ C
  aB : ¬ O BM ∧ BM ≠ C
theorem top_chg {w : World} {O : Addr → Prop} {h h' : Heap} (T : TopH w h) (k : ∀ b o, h.get? b = some o → O b → h'.get? b = some o) (hC : ∀ a o, (K01 w).lookup a = some o → O a) (h0 : O builtinsNs ∧ O mainGlobals ∧ O cStatics) : TopH w h' := by
  refine ⟨fun a o e => k a o (T.K a o e) (hC _ _ e), ?_, ?_, ?_⟩
  · obtain ⟨mg, o, es, ep, e, r⟩ := T.g
    exact ⟨mg, o, es, ep, k _ _ e h0.2.1, r⟩
  · obtain ⟨mb, ⟨o, es, ep, e, r⟩, z⟩ := T.b
    exact ⟨mb, ⟨o, es, ep, k _ _ e h0.1, r⟩, z⟩
  · obtain ⟨mc, ⟨o, es, ep, e, r⟩, z⟩ := T.nl
    exact ⟨mc, ⟨o, es, ep, k _ _ e h0.2.2, r⟩, z⟩
section
variable {w : World} {f : Str → Str} {O : Addr → Prop} {C R : Addr} {kv : Value} {n : Nat} {S : Str → Bool} {xs : List Str} {Sa BM : Addr} {s₀ s : Shared} {m : Str → Option Value}
theorem GSt.row (G : GSt w f O C R kv n S xs Sa BM s₀ s m) : RowAt s.heap R xs := G.row₀.keep fun o e => G.chg.low G.nC G.low e
theorem GSt.objS (G : GSt w f O C R kv n S xs Sa BM s₀ s m) : ∃ o es ep t, s.heap.get? Sa = some o ∧ o.data = .set es ep t := by
  obtain ⟨k, ⟨o, es, ep, t, e, _, hd, _⟩, _⟩ := G.set
  exact ⟨o, es, ep, t, e, hd⟩
theorem GSt.ext {s' : Shared} {m' : Str → Option Value} (G : GSt w f O C R kv n S xs Sa BM s₀ s m) (sh : ∃ h' tk, s' = { s with heap := h', toks := tk }) (chg : Chg O C s.heap s'.heap) (ns : s'.heap.Ns C m')
    (hm : ∀ y : Str, y = "iterable" ∨ y = "key" ∨ y = "seen" ∨ y = "seen_add" → m' y = m y) (hS : ∀ o, s.heap.get? Sa = some o → s'.heap.get? Sa = some o) : GSt w f O C R kv n S xs Sa BM s₀ s' m' := by
  obtain ⟨h1, t1, e1⟩ := G.sh
  refine ⟨?_, G.st₀, G.row₀, G.chg.trans chg, top_chg G.T (fun b o e hb => chg.low G.nC hb e) G.lk.1 G.lk.2, ns, (hm _ (.inl rfl)).trans G.mi, (hm _ (.inr (.inl rfl))).trans G.my, (hm _ (.inr (.inr (.inl rfl)))).trans G.ms, (hm _ (.inr (.inr (.inr rfl)))).trans G.ma,
    chg _ _ G.bm G.aB.2 (.inr ⟨fun _ _ _ z => by (cases z), (show Value.type "builtin_function_or_method" ≠ Value.type "list_iterator" by decide)⟩), ?_, G.fuel, G.low, G.lk, G.nC, G.aS, G.aB⟩
  · obtain ⟨h2, t2, rfl⟩ := sh
    rw [e1]; exact ⟨h2, t2, rfl⟩
  · obtain ⟨k, ⟨o, es, ep, t, e, r⟩, hk⟩ := G.set
    exact ⟨k, ⟨o, es, ep, t, hS _ e, r⟩, hk⟩
theorem GSt.kp {s' : Shared} (G : GSt w f O C R kv n S xs Sa BM s₀ s m) (k : Kp s s') : GSt w f O C R kv n S xs Sa BM s₀ s' m :=
  G.ext k.eq (Chg.of_le k.le) (G.ns.keeps k.le) (fun _ _ => rfl) fun o e => k.le _ _ e
end
noncomputable def KMu (Mu : Addr → Prop) (h h' : Heap) : Prop := ∀ b o, ¬ Mu b → h.get? b = some o → h'.get? b = some o
theorem KMu.refl (Mu : Addr → Prop) (h : Heap) : KMu Mu h h := fun _ _ _ e => e
theorem KMu.of_le {Mu : Addr → Prop} {a b : Heap} (k : Le a b) : KMu Mu a b := fun i o _ e => k i o e
theorem KMu.of_but {Mu : Addr → Prop} {a : Addr} {h h' : Heap} (k : Heap.ExtBut a h h') (m : Mu a) : KMu Mu h h' := fun i o n e => k i o (fun q => n (q ▸ m)) e
noncomputable def KOut (w : World) (Mu : Addr → Prop) : Prop := (∀ a o, (K01 w).lookup a = some o → ¬ Mu a) ∧ ¬ Mu builtinsNs ∧ ¬ Mu mainGlobals ∧ ¬ Mu cStatics
theorem top_kmu {w : World} {Mu : Addr → Prop} {h h' : Heap} (T : TopH w h) (k : KMu Mu h h') (ko : KOut w Mu) : TopH w h' := top_chg (O := fun b => ¬ Mu b) T (fun b o e n => k b o n e) ko.1 ko.2
noncomputable def KFr (Mu : Addr → Prop) (Fs : List Addr) (h h' : Heap) : Prop := ∀ b o, ¬ Mu b → h.get? b = some o → (b ∈ Fs → ∃ sl, h'.get? b = some { o with slots := sl }) ∧ (b ∉ Fs → h'.get? b = some o)
theorem KFr.trans {Mu : Addr → Prop} {Fs : List Addr} {a b c : Heap} (x : KFr Mu Fs a b) (y : KFr Mu Fs b c) : KFr Mu Fs a c := fun i o n e =>
  ⟨fun hF => let ⟨_, q⟩ := (x i o n e).1 hF; (y i _ n q).1 hF, fun hF => (y i o n ((x i o n e).2 hF)).2 hF⟩
theorem KFr.of_kmu {Mu : Addr → Prop} {Fs : List Addr} {a b : Heap} (x : KMu Mu a b) : KFr Mu Fs a b := fun i o n e => ⟨fun _ => ⟨o.slots, x i o n e⟩, fun _ => x i o n e⟩
theorem KFr.refl {Mu : Addr → Prop} {Fs : List Addr} {a : Heap} : KFr Mu Fs a a := .of_kmu (.refl _ _)
noncomputable abbrev Rho := List (Str × Value × D)
noncomputable def Own (env : Env) (a : Addr) : Prop := a = env.locals ∨ ∃ n, env.cells.lookup n = some a
noncomputable def HereE (env : Env) (m cm : Str → Option Value) (x : Str) (v : Value) : Prop := (env.kindOf x = some .local ∧ m x = some v) ∨ ∃ c, env.kindOf x = some .cell ∧ env.cells.lookup x = some c ∧ cm x = some v
noncomputable def OkF (s₀ : Shared) (env : Env) (S0 : Addr → Prop) (Fs : List Addr) (X : Addr → Prop) (a : Addr) : Prop := Fr1 S0 s₀.heap a ∧ ¬ Own env a ∧ a ∉ Fs ∧ ¬ X a
noncomputable def KFs (w : World) (Fs : List Addr) : Prop := (∀ a o, (K01 w).lookup a = some o → a ∉ Fs) ∧ builtinsNs ∉ Fs ∧ mainGlobals ∉ Fs ∧ cStatics ∉ Fs
theorem KFs.nil {w : World} : KFs w [] := ⟨fun _ _ _ h => (nomatch h), fun h => (nomatch h), fun h => (nomatch h), fun h => (nomatch h)⟩
structure RSt (w : World) (s₀ : Shared) (env : Env) (S0 : Addr → Prop) (Fs : List Addr) (X : Addr → Prop) (ρ : Rho) (s : Shared) : Prop where
  T0 : TopH w s₀.heap
  T : TopH w s.heap
  kfs : KFs w Fs
  fn : env.scope.kind = .function
  frm : ∃ m cm, s.heap.Ns env.locals m ∧ (∀ n c, env.cells.lookup n = some c → s.heap.IsCell c (cm n)) ∧ ∀ e ∈ ρ, HereE env m cm e.1 e.2.1
  rd : ∀ e ∈ ρ, RD s.heap (OkF s₀ env S0 Fs X) e.2.1 e.2.2
  kf : KFr (fun _ => False) Fs s₀.heap s.heap
  newO : ∀ a, Own env a → s₀.heap.get? a = none
  newX : ∀ a, X a → s₀.heap.get? a = none ∧ s.heap.get? a ≠ none ∧ ¬ Own env a
  fsA : ∀ b ∈ Fs, s₀.heap.get? b ≠ none
  ap : env.cells.Pairwise (fun x y => x.2 ≠ y.2) ∧ ∀ n c, env.cells.lookup n = some c → c ≠ env.locals
  sh : ∃ h' tk, s = { s₀ with heap := h', toks := tk }
section
variable {w : World} {M : Model} {A : Around} {E : Value → Shared → Prop} {s₀ s s' : Shared} {env : Env} {S0 : Addr → Prop} {Fs : List Addr} {X X' : Addr → Prop} {ρ ρ' : Rho} {x : Str} {v : Value} {d : D}
theorem RSt.alive (R : RSt w s₀ env S0 Fs X ρ s) {a : Addr} (h : s₀.heap.get? a ≠ none) : s.heap.get? a ≠ none := by
  cases q : s₀.heap.get? a with
  | none => exact absurd q h
  | some o =>
    by_cases hF : a ∈ Fs
    · obtain ⟨sl, e⟩ := (R.kf a o id q).1 hF; exact some_ne e
    · exact some_ne ((R.kf a o id q).2 hF)
theorem RSt.fresh0 (R : RSt w s₀ env S0 Fs X ρ s) {a : Addr} (h : s.heap.get? a = none) : s₀.heap.get? a = none := Classical.byContradiction fun z => R.alive z h
theorem RSt.ownA (R : RSt w s₀ env S0 Fs X ρ s) {a : Addr} (h : Own env a) : s.heap.get? a ≠ none := by
  obtain ⟨m, cm, ⟨o, _, _, e, _⟩, h2, _⟩ := R.frm
  rcases h with rfl | ⟨n, hc⟩
  · exact some_ne e
  · obtain ⟨o, e, _⟩ := h2 n a hc; exact some_ne e
theorem RSt.okNew (R : RSt w s₀ env S0 Fs X ρ s) {a : Addr} (h : s.heap.get? a = none) : OkF s₀ env S0 Fs X a :=
  ⟨.inr (R.fresh0 h), fun z => R.ownA z h, fun z => R.alive (R.fsA a z) h, fun z => (R.newX a z).2.1 h⟩
theorem RSt.fr (R : RSt w s₀ env S0 Fs X ρ s) {h' : Heap} (r : RD h' (Fr1 (OkF s₀ env S0 Fs X) s.heap) v d) : RD h' (OkF s₀ env S0 Fs X) v d := r.sub fun a z => z.elim id R.okNew
theorem RSt.out (R : RSt w s₀ env S0 Fs X ρ s) {h' : Heap} (r : RD h' (OkF s₀ env S0 Fs X) v d) : RD h' (Fr1 S0 s₀.heap) v d := r.sub fun a z => z.1
theorem RSt.le (R : RSt w s₀ env S0 [] X ρ s) : Le s₀.heap s.heap := fun b o e => (R.kf b o id e).2 (fun z => nomatch z)
theorem RSt.kpAll (R : RSt w s₀ env S0 [] X ρ s) : Kp s₀ s := ⟨R.le, R.sh⟩
theorem RSt.sub (R : RSt w s₀ env S0 Fs X ρ s) (h : ∀ e ∈ ρ', e ∈ ρ) : RSt w s₀ env S0 Fs X ρ' s := by
  obtain ⟨m, cm, h1, h2, h3⟩ := R.frm
  exact ⟨R.T0, R.T, R.kfs, R.fn, ⟨m, cm, h1, h2, fun e he => h3 e (h e he)⟩, fun e he => R.rd e (h e he), R.kf, R.newO, R.newX, R.fsA, R.ap, R.sh⟩
theorem RSt.kout (R : RSt w s₀ env S0 Fs X ρ s) : KOut w (fun a => Own env a ∨ a ∈ Fs ∨ X a) := by
  have off : ∀ {b : Addr} {o : Obj}, b ∉ Fs → s₀.heap.get? b = some o → ¬ (Own env b ∨ b ∈ Fs ∨ X b) := fun hF e hm => by
    rcases hm with q | q | q
    · rw [R.newO _ q] at e; cases e
    · exact hF q
    · rw [(R.newX _ q).1] at e; cases e
  refine ⟨fun a o e => off (R.kfs.1 a o e) (R.T0.K a o e), ?_, ?_, ?_⟩
  · obtain ⟨mb, ⟨o, es, ep, e, r⟩, z⟩ := R.T0.b; exact off R.kfs.2.1 e
  · obtain ⟨mg, o, es, ep, e, r⟩ := R.T0.g; exact off R.kfs.2.2.1 e
  · obtain ⟨mc, ⟨o, es, ep, e, r⟩, z⟩ := R.T0.nl; exact off R.kfs.2.2.2 e
theorem RSt.step (R : RSt w s₀ env S0 Fs X ρ s) (k : KFr (fun a => Own env a ∨ X a) Fs s.heap s'.heap) (sh : ∃ h' tk, s' = { s with heap := h', toks := tk })
    (frm : ∃ m cm, s'.heap.Ns env.locals m ∧ (∀ n c, env.cells.lookup n = some c → s'.heap.IsCell c (cm n)) ∧ ∀ e ∈ ρ', HereE env m cm e.1 e.2.1)
    (rd : ∀ e ∈ ρ', e ∈ ρ ∨ RD s'.heap (OkF s₀ env S0 Fs X) e.2.1 e.2.2) (xa : ∀ a, X a → s'.heap.get? a ≠ none) : RSt w s₀ env S0 Fs X ρ' s' := by
  have kk : ∀ b o, ¬ (Own env b ∨ b ∈ Fs ∨ X b) → s.heap.get? b = some o → s'.heap.get? b = some o := fun b o h e => (k b o (fun z => h (z.elim .inl fun q => .inr (.inr q))) e).2 fun z => h (.inr (.inl z))
  refine ⟨R.T0, top_kmu R.T kk R.kout, R.kfs, R.fn, frm, fun e he => ?_, fun b o _ e => ?_, R.newO, fun a h => ⟨(R.newX a h).1, xa a h, (R.newX a h).2.2⟩, R.fsA, R.ap, ?_⟩
  · rcases rd e he with h | h
    · exact (R.rd e h).mono (fun a o hs e => kk a o (fun z => z.elim hs.2.1 fun q => q.elim hs.2.2.1 hs.2.2.2) e) fun _ s => s
    · exact h
  · have nb : ¬ (Own env b ∨ X b) := fun z => by
      rcases z with q | q
      · rw [R.newO _ q] at e; cases e
      · rw [(R.newX _ q).1] at e; cases e
    have x := R.kf b o id e
    refine ⟨fun hF => ?_, fun hF => (k b o nb (x.2 hF)).2 hF⟩
    obtain ⟨sl, q⟩ := x.1 hF
    exact (k b _ nb q).1 hF
  · obtain ⟨h1, t1, e1⟩ := R.sh
    obtain ⟨h2, t2, e2⟩ := sh
    exact ⟨h2, t2, by rw [e2, e1]⟩
theorem RSt.kp (R : RSt w s₀ env S0 Fs X ρ s) (k : Kp s s') : RSt w s₀ env S0 Fs X ρ s' := by
  obtain ⟨m, cm, h1, h2, h3⟩ := R.frm
  exact R.step (.of_kmu (.of_le k.le)) k.eq ⟨m, cm, h1.keeps k.le, fun n c e => (h2 n c e).keeps k.le, h3⟩ (fun e he => .inl he) fun a h z => by
    cases q : s.heap.get? a with
    | none => exact (R.newX a h).2.1 q
    | some o => rw [k.le _ _ q] at z; cases z
theorem RSt.var (R : RSt w s₀ env S0 Fs X ρ s) (h : (x, v, d) ∈ ρ) : Var env s.heap x v := by
  obtain ⟨m, cm, h1, h2, h3⟩ := R.frm
  rcases h3 _ h with ⟨q1, q2⟩ | ⟨c, q1, q2, q3⟩
  · exact Var.loc R.fn q1 h1 q2
  · have := h2 _ _ q2
    exact Var.cell R.fn q1 q2 (q3 ▸ this)
theorem RSt.cell (R : RSt w s₀ env S0 Fs X ρ s) (h : (x, v, d) ∈ ρ) {c : Addr} (hk : env.kindOf x = some .cell) (hc : env.cells.lookup x = some c) : s.heap.IsCell c (some v) := by
  obtain ⟨m, cm, h1, h2, h3⟩ := R.frm
  rcases h3 _ h with ⟨q1, q2⟩ | ⟨c', q1, q2, q3⟩
  · rw [hk] at q1; cases q1
  · have := h2 _ _ hc
    exact q3 ▸ this
theorem RSt.ev (R : RSt w s₀ env S0 Fs X ρ s) (h : (x, v, d) ∈ ρ) {p : Pos} (hd : (x == ("__debug__" : Str)) = false := by decide) : EvD pw w A env s.heap (OkF s₀ env S0 Fs X) (.Name x p) d := EvD.name (R.var h) (R.rd _ h) hd
theorem RSt.src {ds : List D} (R : RSt w s₀ env S0 Fs X ρ s) (h : (x, v, .lst ds) ∈ ρ) {p : Pos} (hd : (x == ("__debug__" : Str)) = false := by decide) : SrcL pw w A env s.heap (OkF s₀ env S0 Fs X) (.Name x p) ds := (R.ev h hd).src
theorem RSt.ownDom (R : RSt w s₀ env S0 Fs X ρ s) {a : Addr} {h' : Heap} (hx : Heap.ExtBut a s.heap h') (ho : ∀ o, s.heap.get? a = some o → h'.get? a ≠ none) : ∀ b, X b → h'.get? b ≠ none := fun b h => by
  cases q : s.heap.get? b with
  | none => exact absurd q (R.newX b h).2.1
  | some o =>
    by_cases z : b = a
    · subst z; exact ho o q
    · exact some_ne (hx b o z q)
theorem RSt.storeL {Q : Unit → Shared → Prop} (R : RSt w s₀ env S0 Fs X ρ s) (hl : env.kindOf x = some .local) (hx : ∀ e ∈ ρ', e.1 ≠ x ∧ e ∈ ρ) (r : RD s.heap (OkF s₀ env S0 Fs X) v d)
    (hQ : ∀ s', RSt w s₀ env S0 Fs X ((x, v, d) :: ρ') s' → Heap.ExtBut env.locals s.heap s'.heap → (∃ h' tk, s' = { s with heap := h', toks := tk }) → Q () s') : wpAny M A (storeName env x v) Q E s := by
  obtain ⟨m, cm, h1, h2, h3⟩ := R.frm
  have hp : (env.scope.kind == .class || (env.scope.kind == .module && env.locals != env.globals)) = false := by rw [R.fn]; rfl
  have r' : ∀ {h'}, Heap.ExtBut env.locals s.heap h' → RD h' (OkF s₀ env S0 Fs X) v d := fun hs => r.but hs fun z => z.2.1 (.inl rfl)
  refine wpAny_storeName_local hl h1 (fun h' hn hs => hQ _ (R.step (.of_kmu (.of_but hs.extBut (.inl (.inl rfl)))) ⟨_, _, rfl⟩ ⟨_, cm, hn, fun n c e => (h2 n c e).sameBut hs (R.ap.2 n c e), fun e he => ?_⟩ (fun e he => ?_) (R.ownDom hs.extBut fun o _ => ?_)) hs.extBut ⟨_, _, rfl⟩) hp
  · rcases List.mem_cons.mp he with rfl | he
    · exact .inl ⟨hl, if_pos rfl⟩
    · rcases h3 e (hx e he).2 with ⟨q1, q2⟩ | q
      · exact .inl ⟨q1, (if_neg (hx e he).1).trans q2⟩
      · exact .inr q
  · rcases List.mem_cons.mp he with rfl | he
    · exact .inr (r' hs.extBut)
    · exact .inl (hx e he).2
  · obtain ⟨o, _, _, e, _⟩ := hn; exact some_ne e
theorem RSt.storeC {Q : Unit → Shared → Prop} (R : RSt w s₀ env S0 Fs X ρ s) {c : Addr} (hl : env.kindOf x = some .cell) (hc : env.cells.lookup x = some c) (hx : ∀ e ∈ ρ', e.1 ≠ x ∧ e ∈ ρ) (r : RD s.heap (OkF s₀ env S0 Fs X) v d)
    (hQ : ∀ s', RSt w s₀ env S0 Fs X ((x, v, d) :: ρ') s' → Heap.ExtBut c s.heap s'.heap → (∃ h' tk, s' = { s with heap := h', toks := tk }) → Q () s') : wpAny M A (storeName env x v) Q E s := by
  obtain ⟨m, cm, h1, h2, h3⟩ := R.frm
  have oc : Own env c := .inr ⟨x, hc⟩
  refine wpAny_storeName_cell R.fn hl hc (h2 x c hc) fun h' hv hs => hQ _ (R.step (.of_kmu (.of_but hs.extBut (.inl oc))) ⟨_, _, rfl⟩ ⟨m, (fun y => if y = x then some v else cm y), h1.sameBut hs (Ne.symm (R.ap.2 x c hc)), fun n c' e => ?_, fun e he => ?_⟩ (fun e he => ?_) (R.ownDom hs.extBut fun o _ => ?_)) hs.extBut ⟨_, _, rfl⟩
  · by_cases hn : n = x
    · subst hn; rw [hc] at e; cases e; simpa using hv
    · have hcc : c' ≠ c := fun q => hn (name_of_addr R.ap.1 (mem_of_lookup e) (q ▸ mem_of_lookup hc))
      simpa [hn] using (h2 n c' e).sameBut hs hcc
  · rcases List.mem_cons.mp he with rfl | he
    · exact .inr ⟨c, hl, hc, if_pos rfl⟩
    · rcases h3 e (hx e he).2 with q | ⟨c', q1, q2, q3⟩
      · exact .inl q
      · exact .inr ⟨c', q1, q2, (if_neg (hx e he).1).trans q3⟩
  · rcases List.mem_cons.mp he with rfl | he
    · exact .inr (r.but hs.extBut fun z => z.2.1 oc)
    · exact .inl (hx e he).2
  · obtain ⟨o, e, _⟩ := hv; exact some_ne e
theorem RSt.assignL {p pos : Pos} {e : Expr} {Q : Flow → Shared → Prop} (R : RSt w s₀ env S0 Fs X ρ s) (ev : EvD pw w A env s.heap (OkF s₀ env S0 Fs X) e d) (hl : env.kindOf x = some .local) (hx : ∀ e ∈ ρ', e.1 ≠ x ∧ e ∈ ρ)
    (hQ : ∀ v s', RSt w s₀ env S0 Fs X ((x, v, d) :: ρ') s' → KeepBut (fun a => a = env.locals) s.heap s'.heap → (∃ h' tk, s' = { s with heap := h', toks := tk }) → Q .next s') (hsw : swapsWith e (some (.Name x p)) pos.line env = pure false := by rfl) : wpAny (model pw w) A (exec (.Assign [.Name x p] e pos) env) Q E s := by
  refine wpAny_Assign_Name (wpAny_mono (ev s _ fun _ _ e => e) (fun v s' h => ?_) fun _ _ q => q) hsw
  refine (R.kp h.2).storeL hl hx (R.fr h.1) fun s2 X2 k2 sh => hQ v s2 X2 (fun b o hb e => k2 b o hb (h.2.le b o e)) ?_
  obtain ⟨_, h1, t1, rfl⟩ := h.2
  obtain ⟨h2, t2, rfl⟩ := sh
  exact ⟨h2, t2, rfl⟩
theorem RSt.assignC {p pos : Pos} {e : Expr} {c : Addr} {Q : Flow → Shared → Prop} (R : RSt w s₀ env S0 Fs X ρ s) (ev : EvD pw w A env s.heap (OkF s₀ env S0 Fs X) e d) (hl : env.kindOf x = some .cell) (hc : env.cells.lookup x = some c) (hx : ∀ e ∈ ρ', e.1 ≠ x ∧ e ∈ ρ)
    (hQ : ∀ v s', RSt w s₀ env S0 Fs X ((x, v, d) :: ρ') s' → KeepBut (fun a => a = c) s.heap s'.heap → (∃ h' tk, s' = { s with heap := h', toks := tk }) → Q .next s') (hsw : swapsWith e (some (.Name x p)) pos.line env = pure false := by rfl) : wpAny (model pw w) A (exec (.Assign [.Name x p] e pos) env) Q E s := by
  refine wpAny_Assign_Name (wpAny_mono (ev s _ fun _ _ e => e) (fun v s' h => ?_) fun _ _ q => q) hsw
  refine (R.kp h.2).storeC hl hc hx (R.fr h.1) fun s2 X2 k2 sh => hQ v s2 X2 (fun b o hb e => k2 b o hb (h.2.le b o e)) ?_
  obtain ⟨_, h1, t1, rfl⟩ := h.2
  obtain ⟨h2, t2, rfl⟩ := sh
  exact ⟨h2, t2, rfl⟩
theorem RSt.ret {e : Expr} {pos : Pos} {rest : List Stmt} {Q : Flow → Shared → Prop} (R : RSt w s₀ env S0 [] X ρ s) (ev : EvD pw w A env s.heap (OkF s₀ env S0 [] X) e d) (hQ : ∀ v s', RD s'.heap (Fr1 S0 s₀.heap) v d → Kp s₀ s' → Q (.ret v) s') :
    wpAny (model pw w) A (execs (.Return (some e) pos :: rest) env) Q E s := by
  refine wpAny_execs_cons (wpAny_Return_some (wpAny_mono (ev s _ fun _ _ e => e) (fun v s' h => ?_) fun _ _ q => q))
  exact hQ v s' (R.out (R.fr h.1)) ((R.kp h.2).kpAll)
theorem RSt.if_ {test : Expr} {body orelse : List Stmt} {pos : Pos} {b : Bool} {Q : Flow → Shared → Prop} (R : RSt w s₀ env S0 Fs X ρ s) (te : EvT pw w A env s.heap test b) (h : ∀ s', RSt w s₀ env S0 Fs X ρ s' → Kp s s' → wpAny (model pw w) A (execs (if b = true then body else orelse) env) Q E s') :
    wpAny (model pw w) A (exec (.If test body orelse pos) env) Q E s := by
  refine wpAny_If (wpAny_mono (te s E fun _ _ e => e) (fun r s₁ q => ?_) fun _ _ q => q)
  obtain ⟨rfl, k⟩ := q
  have := h s₁ (R.kp k) k
  cases r <;> exact this
end
theorem RSt.ofFrm {w : World} {s₀ s : Shared} {env : Env} {m cm : Str → Option Value} {S0 : Addr → Prop} {ρ : Rho} {Fs : List Addr} (T : TopH w s₀.heap) (F : Frm s₀ env m cm s) (fn : env.scope.kind = .function) (kfs : KFs w Fs) (fsA : ∀ b ∈ Fs, s₀.heap.get? b ≠ none) (hρ : ∀ e ∈ ρ, HereE env m cm e.1 e.2.1) (rd : ∀ e ∈ ρ, RD s₀.heap (fun a => S0 a ∧ a ∉ Fs) e.2.1 e.2.2) : RSt w s₀ env S0 Fs (fun _ => False) ρ s := by
  have nO : ∀ a, Own env a → s₀.heap.get? a = none := fun a h => by
    rcases h with rfl | ⟨n, hc⟩
    · exact F.newL
    · exact (F.newC n a hc).1
  refine ⟨T, T.mono F.keep, kfs, fn, ⟨m, cm, F.ns, F.cell, hρ⟩, fun e he => ?_, .of_kmu (.of_le F.keep), nO, fun a h => h.elim, fsA, ⟨F.apart, fun n c e => (F.newC n c e).2⟩, F.eq⟩
  exact ((rd e he).dom.mono (fun a o _ e => F.keep a o e) fun a hs => ⟨.inl hs.1.1, fun z => hs.2 (nO a z), hs.1.2, id⟩)
section
variable {w : World} {M : Model} {A : Around} {E : Value → Shared → Prop} {f : Str → Str} {O : Addr → Prop} {C R : Addr} {kv : Value} {n : Nat} {S : Str → Bool} {xs : List Str} {Sa BM : Addr} {s₀ s : Shared} {m : Str → Option Value}
theorem GSt.loc (G : GSt w f O C R kv n S xs Sa BM s₀ s m) {x : Str} {v : Value} (hx : (envUe C).kindOf x = some .local) (hv : m x = some v) : Var (envUe C) s.heap x v := Var.loc rfl hx G.ns hv
theorem GSt.store {x : Str} {v : Value} {Q : Unit → Shared → Prop} (G : GSt w f O C R kv n S xs Sa BM s₀ s m) (hx : (envUe C).kindOf x = some .local) (hn : x ≠ "iterable" ∧ x ≠ "key" ∧ x ≠ "seen" ∧ x ≠ "seen_add")
    (hQ : ∀ s', GSt w f O C R kv n S xs Sa BM s₀ s' (fun y => if y = x then some v else m y) → Heap.ExtBut C s.heap s'.heap → (∃ h' tk, s' = { s with heap := h', toks := tk }) → Q () s') : wpAny M A (storeName (envUe C) x v) Q E s := by
  refine wpAny_storeName_local hx G.ns fun h' hn' hs => hQ _ (G.ext ⟨_, _, rfl⟩ (Chg.of_self hs.extBut) hn' (fun y hy => ?_) fun o e => (hs.2 _ G.aS.2).trans e) hs.extBut ⟨_, _, rfl⟩
  refine if_neg ?_
  rcases hy with rfl | rfl | rfl | rfl
  · exact Ne.symm hn.1
  · exact Ne.symm hn.2.1
  · exact Ne.symm hn.2.2.1
  · exact Ne.symm hn.2.2.2
variable {outer : List Env} {c : Code} {fs : List Frame} {K : Flow → Sem Fin} {H : Value → Sem Fin} {gd : Bool → Bool} {lv : List Value → List Value}
theorem seg_addYield {y x : Str} {t1 t2 : Tok} {p1 p2 p3 p4 p5 p6 p7 : Pos} (G : GSt w f O C R kv (n + 1) S xs Sa BM s₀ s m) (hy : (envUe C).kindOf y = some .local) (hyd : (y == ("__debug__" : Str)) = false) (hmy : m y = some (.str (f x) t1)) (hme : m "element" = some (.str x t2))
    (hx : x ∈ names8) (hf : fresh? f S xs = some x) (hfs : splitAtGen fs = none) (hgd : gd false = false) (hfg : fs.any Frame.guarded = false)
    (cont : ∀ s'' ys, GSt w f O C R kv n (addS S (f x)) (xs ++ ys) Sa BM s'' s'' m → (∀ b o, ¬ O b → b ≠ Sa → s.heap.get? b = some o → s''.heap.get? b = some o) → OuterOk s''.heap outer → Seg (model pw w) A (GR w f O C R outer) (GY w f O C R outer) n s'' c (K .next) fs s'')
    (hsw : swapsWith (.Call (.Name "seen_add" p1) [.Name y p2] [] p3) none p4.line (envUe C) = pure false) :
    Seg (model pw w) A (GR w f O C R outer) (GY w f O C R outer) (n + 1) s₀ c ((execs [.Expr (.Call (.Name "seen_add" p1) [.Name y p2] [] p3) p4, .Expr (.Yield (some (.Name "element" p5)) p6) p7] (envUe C)).wrap K H gd lv) fs s := by
  have hS : S (f x) = false := by simpa using List.find?_some hf
  obtain ⟨k, hset, hk⟩ := G.set
  refine seg_stmt (wpAny_Expr (wpAny_Call_NameR (wpAny_Name (G.loc (by rfl) G.ma _ _ _ _ s (fun _ _ e => e) ?_) (by decide))) (by rfl) hsw)
  refine callWith_of (P := fun h => h.get? BM = some (bmSet "set.add" Sa)) (by rfl) (fun h e => ⟨.machine, .inr (.inl rfl), (Looks.ld e).andThen .now⟩) (Calls.evalArgs_plain (Calls.spliced_cons ?_))
  refine wpAny_Name (G.loc hy hmy _ _ _ _ s (fun _ _ e => e) ?_) hyd
  refine Calls.spliced_nil ⟨G.bm, ?_⟩
  refine wpAny_call (call_bmAdd (knd := strKind pw w) G.bm (strKind_is pw w _ _) (by rfl) hset (Nat.lt_of_le_of_lt (by omega) (show (101 : Nat) < scanBound by decide)) fun h' hsb hset' => ?_)
  obtain ⟨o, es, ep, t, e, hd⟩ := G.objS
  have hch : Chg O C s.heap h' := Chg.of_set hsb.extBut G.aS.1 e hd
  refine ⟨rfl, ?_⟩
  refine seg_execs_cons (seg_Expr_Yield hfs hgd hfg ?_)
  have hns : h'.Ns C m := G.ns.sameBut hsb (Ne.symm G.aS.2)
  refine wpAny_Name (wpAny_loadName_local rfl (by rfl) hns hme ?_) (by decide)
  intro kap hkap
  have T' : TopH w h' := top_chg G.T (fun b o e hb => hch.low G.nC hb e) G.lk.1 G.lk.2
  have hset2 : h'.SetOf (strKind pw w) Sa (addS S (f x)) (k + 1) := by rw [hS] at hset'; exact hset'
  obtain ⟨h1, tk1, e1⟩ := G.sh
  refine ⟨S, xs, x, t2, G.st₀, G.row₀, hf, rfl, ⟨m, hns, .inr ⟨Sa, _, G.ms, G.aS.1, hset2⟩⟩, G.chg.trans hch, ⟨h', s.toks + 1, by rw [e1]⟩, fun s'' ys kf T'' hO'' row => ?_⟩
  refine hkap .none s'' (cont s'' ys ?_ (fun b o hb hne e => kf.1 b o hb ((hsb.2 b hne).trans e)) hO'')
  have kS : ∀ o, h'.get? Sa = some o → s''.heap.get? Sa = some o := fun o e => kf.1 _ _ G.aS.1 e
  have hns'' : s''.heap.Ns C m := hns.at' fun o e => kf.1 _ _ G.nC e
  obtain ⟨o2, es2, ep2, t2', e2, r2⟩ := hset2
  have set'' : s''.heap.SetOf (strKind pw w) Sa (addS S (f x)) (k + 1) := ⟨o2, es2, ep2, t2', kS _ e2, r2⟩
  exact ⟨⟨_, _, rfl⟩, ⟨m, hns'', .inr ⟨Sa, _, G.ms, G.aS.1, set''⟩⟩, row, Chg.refl _ _ _, T'', hns'', G.mi, G.my, G.ms, G.ma, kf.1 _ _ G.aB.1 (hch _ _ G.bm G.aB.2 (.inr ⟨fun _ _ _ z => by (cases z), (show Value.type "builtin_function_or_method" ≠ Value.type "list_iterator" by decide)⟩)),
    ⟨k + 1, set'', by omega⟩, by have := cnt_add hx hS; have := G.fuel; omega, G.low, G.lk, G.nC, G.aS, G.aB⟩
end
theorem overOk {A : Around} {env env' : Env} {t : Expr} {it : Value} {b body : List Stmt} {K : Flow → Sem Fin} {H : Value → Sem Fin} {p : Pos} (ok : OkA 110 A) : OkA 105 (A.over (.forLoop t it b [] env') [loopRet env K H id id (.func body env) p]) :=
  ⟨ok.hd, by have h1 : (A.over (.forLoop t it b [] env') [loopRet env K H id id (.func body env) p]).depth = A.depth + 1 + 0 := rfl
             have := ok.dp; omega,
   by have h1 : (A.over (.forLoop t it b [] env') [loopRet env K H id id (.func body env) p]).units = A.units + 3 + 0 := rfl
      have := ok.un; omega⟩
theorem overOk2 {A : Around} {env env' : Env} {t : Expr} {it : Value} {b body : List Stmt} {K : Flow → Sem Fin} {H : Value → Sem Fin} {p : Pos} (ok : OkA 112 A) : OkA 107 (A.over (.forLoop t it b [] env') [loopRet env K H id id (.func body env) p]) :=
  ⟨ok.hd, by have h1 : (A.over (.forLoop t it b [] env') [loopRet env K H id id (.func body env) p]).depth = A.depth + 1 + 0 := rfl
             have := ok.dp; omega,
   by have h1 : (A.over (.forLoop t it b [] env') [loopRet env K H id id (.func body env) p]).units = A.units + 3 + 0 := rfl
      have := ok.un; omega⟩
theorem row_item {h : Heap} {R : Addr} {xs : List Str} {i : Nat} {x : Str} (r : RowAt h R xs) (e : xs[i]? = some x) : ∃ vs t, h.IsList R vs ∧ vs[i]? = some (.str x t) := by
  obtain ⟨vs, hl, rd⟩ := r.lst
  have e2 : (xs.map D.str)[i]? = some (.str x) := by rw [List.getElem?_map, e]; rfl
  obtain ⟨v, hv, rv⟩ := rd.get e2
  (first | cases rv using RD.atomE | cases rv using RDs.nilE | cases rv using RD.strE | cases rv using RD.intE | cases rv)
  rename_i t
  obtain ⟨n, e3⟩ := hl
  exact ⟨vs, t, ⟨_, e3, rfl, n, rfl⟩, by rw [← Array.getElem?_toList]; exact hv⟩
theorem row_end {h : Heap} {R : Addr} {xs : List Str} {i : Nat} (r : RowAt h R xs) (e : xs[i]? = none) : ∃ vs, h.IsList R vs ∧ vs[i]? = none := by
  obtain ⟨vs, hl, rd⟩ := r.lst
  obtain ⟨n, e3⟩ := hl
  refine ⟨vs, ⟨_, e3, rfl, n, rfl⟩, ?_⟩
  have := rd.length
  rw [List.length_map, Array.length_toList] at this
  rw [Array.getElem?_eq_none]
  rw [this]; exact List.getElem?_eq_none_iff.mp e
theorem fresh_at {f : Str → Str} {S : Str → Bool} {x : Str} : ∀ {xs : List Str} {i : Nat}, xs[i]? = some x → (∀ j y, j < i → xs[j]? = some y → S (f y) = true) → S (f x) = false → fresh? f S xs = some x
  | [], i, e, _, _ => by simp at e
  | y :: r, 0, e, _, hS => by
    simp at e; subst e
    simp [fresh?, hS]
  | y :: r, i + 1, e, h, hS => by
    have h0 := h 0 y (Nat.succ_pos _) rfl
    have := fresh_at (xs := r) (i := i) (by simpa using e) (fun j z hj hz => h (j + 1) z (Nat.succ_lt_succ hj) (by simpa using hz)) hS
    simp only [fresh?, List.find?_cons, h0, Bool.not_true]
    exact this
noncomputable abbrev itO (R : Addr) (i : Nat) : Obj := { cls := .type "list_iterator", dict := none, data := .fields #[.ref R, .int i 0], slots := #[] }
noncomputable abbrev ffO (I B d : Addr) : Obj := { cls := .ref 72, dict := some d, data := .plain, slots := #[some (.ref B), some (.ref I)] }
noncomputable def PostFF (s : Shared) (R B : Addr) (v : Value) (s' : Shared) : Prop := ∃ F I d, v = .ref F ∧ s'.heap.get? F = some (ffO I B d) ∧ s'.heap.get? d = some emptyD ∧ s'.heap.get? I = some (itO R 0) ∧ s.heap.get? F = none ∧ s.heap.get? I = none ∧ s.heap.get? d = none ∧ Kp s s'
noncomputable abbrev fdFi : FuncData := fdM (mst 3 1) "__init__" "filterfalse.__init__" "itertools" 286 .none none 53 [] .none
theorem K_fi (w : World) : (K01 w).lookup 54 = some ⟨.type "function", none, .func fdFi, #[]⟩ := by kernel_rfl
noncomputable abbrev envFi (N : Nat) : Env := callEnvC fdFi N 54
noncomputable def fi (i : Nat) : Stmt := (fbody (mst 3 1)).getD i (.Pass default)
theorem fi_body : fbody (mst 3 1) = [fi 0, fi 1] := by rfl
theorem makes72 (w : World) : makesIn (K01 w) 72 = true := by kernel_rfl
theorem init72 (w : World) : findIn (K01 w) (.ref 72) "__init__" = some (some (.ref 54)) := by kernel_rfl
theorem fn54 (w : World) : typeIn (K01 w) (.ref 54) = some (.type "function") := by kernel_rfl
theorem sa72 (w : World) : findIn (K01 w) (.ref 72) "__setattr__" = some (some (.builtin "object.__setattr__")) := by kernel_rfl
theorem po72 (w : World) : plainOver (K01 w) 72 = true := by kernel_rfl
theorem tk73 (w : World) : takerIn (K01 w) 72 "_func" = some (some (.ref 73)) := by kernel_rfl
theorem tk74 (w : World) : takerIn (K01 w) 72 "_it" = some (some (.ref 74)) := by kernel_rfl
theorem ty73 (w : World) : typeIn (K01 w) (.ref 73) = some (.type "member_descriptor") := by kernel_rfl
theorem ty74 (w : World) : typeIn (K01 w) (.ref 74) = some (.type "member_descriptor") := by kernel_rfl
theorem sl73 (w : World) : slotIn (K01 w) 73 72 = some 0 := by kernel_rfl
theorem sl74 (w : World) : slotIn (K01 w) 74 72 = some 1 := by kernel_rfl
section
variable {w : World} {A : Around} {s : Shared} {E : Value → Shared → Prop}
theorem ff_set {h₀ : Heap} {L x dx p i : Nat} {m : Str → Option Value} {name : Str} {v : Value} {sl sl' : Array (Option Value)} {pre post : List (Addr × Obj)} {Q : Unit → Shared → Prop} (F : Fr h₀ L s.heap m) (X : (K01 w).In s.heap)
    (N : News h₀ L s.heap (pre ++ (x, ⟨.ref 72, some dx, .plain, sl⟩) :: post)) (hd : s.heap.get? dx = some emptyD) (ht : takerIn (K01 w) 72 name = some (some (.ref p))) (hT : typeIn (K01 w) (.ref p) = some (.type "member_descriptor")) (hi : slotIn (K01 w) p 72 = some i) (hz : i < 1000)
    (e : (sl ++ Array.replicate (i + 1 - sl.size) none).setIfInBounds i (some v) = sl') (a : ∀ p ∈ pre, p.1 ≠ x) (b : ∀ p ∈ post, p.1 ≠ x)
    (h : ∀ h', Fr h₀ L h' m → News h₀ L h' (pre ++ (x, ⟨.ref 72, some dx, .plain, sl'⟩) :: post) → Q () { s with heap := h', toks := s.toks + 1 }) : wpAny (model pw w) A (setAttr (.ref x) name v) Q E s := by
  have hx : s.heap.get? x = some ⟨.ref 72, some dx, .plain, sl⟩ := (N (x, ⟨.ref 72, some dx, .plain, sl⟩) (by simp)).1
  have I : InstAt s.heap x ⟨.ref 72, some dx, .plain, sl⟩ 72 (some emptyD) := ⟨hx, rfl, rfl, hd⟩
  exact set_plain X I (sa72 w) (osa_descr (s := { s with toks := s.toks + 1 }) KF.slot_mset X I (po72 w) ht hT (slot_set (s := { s with toks := s.toks + 1 }) F N X I hi hz a b (by rw [e]) rfl fun h' F' N' => h h' F' N'))
theorem mk_ff (T : TopH w s.heap) (ok : OkA 104 A) (R B : Addr) (vs : Array Value) (n : Nat) (h1 : s.heap.get? R = some ⟨.type "list", none, .seq vs n, #[]⟩) :
    wpAny (model pw w) A (PySem.call (.ref 72) [.ref B, .ref R]) (PostFF s R B) E s := by
  obtain ⟨h0, g, dr, t, os⟩ := s
  refine wpAny_call (make_core (makes_of T.K (makes72 w)) (looks_findIn T.K (init72 w)) (fun self => bind_fn T.K self (fn54 w)) (.inl rfl) ?_)
  generalize hs2 : (⟨(h0.push emptyDict).push (instObj 72 h0.objs.size), g, dr, t, os⟩ : Shared) = s2
  have le2 : Le h0 s2.heap := fun b o e => by rw [← hs2]; exact Heap.get?_push_of_some _ (Heap.get?_push_of_some _ e)
  have sz2 : s2.heap.objs.size = h0.objs.size + 2 := by rw [← hs2]; show ((h0.push emptyDict).push _).objs.size = _; rw [Heap.size_push, Heap.size_push]
  have ex2 : s2.heap.get? (h0.objs.size + 1) = some ⟨.ref 72, some h0.objs.size, .plain, #[]⟩ := by rw [← hs2, ← Heap.size_push h0 emptyDict]; exact Heap.get?_push_size _ rfl
  have ed2 : s2.heap.get? h0.objs.size = some emptyD := by rw [← hs2]; exact Heap.get?_push_of_some _ (Heap.get?_push_size _ rfl)
  have T2 := T.mono le2
  have okU : OkA 103 (A.under (.builtin "type.__call__" ⟨.ref 72 :: [.ref B, .ref R], []⟩)) := ⟨ok.hd, by have := ok.dp; show A.depth + 1 + 103 < recursionLimit; omega, by have := ok.un; show A.units + 1 + 10 * 103 + 300 < cLine; omega⟩
  refine call_fnL (binds := [("self", .ref (h0.objs.size + 1)), ("function", .ref B), ("iterable", .ref R)]) _ okU.room T2 (K_fi w) 53 rfl (by kernel_rfl) rfl (Looks.of_peek T2.K (by kernel_rfl)) rfl (fun y hy => ?_) fun s₁ X k => ?_
  · rcases List.mem_cons.mp hy with rfl | hy
    · exact .inl (by rfl)
    rcases List.mem_cons.mp hy with rfl | hy
    · exact .inl (by rfl)
    rcases List.mem_singleton.mp hy with rfl
    exact .inl (by rfl)
  have F := Frm.ofCall X
  have lx : (envFi s2.heap.objs.size).locals = s2.heap.objs.size := rfl
  have Fr0 : Fr h0 s2.heap.objs.size s₁.heap _ := ⟨F.ns, fun b o e => F.keep b o (le2 b o e), by omega⟩
  have T1 := T2.mono F.keep
  show wpAny _ _ (execs (fbody (mst 3 1)) _) _ _ _
  rw [fi_body]
  refine wpAny_execs_cons (plainObj_wpAny_Assign_Attribute ?_)
  refine wpAny_Call_NameR (wpAny_Name (Var.bi T1 rfl (by rfl) rfl rfl (by kernel_rfl) (v := .builtin "iter") (by decide) (by rfl) _ _ _ _ s₁ (fun _ _ e => e) ?_) (by decide))
  refine Calls.callWith_builtin (by rfl) (Calls.evalArgs_plain (Calls.spliced_cons (wpAny_Name (F.loc rfl rfl (v := .ref R) rfl _ _ _ _ s₁ (fun _ _ e => e) ?_) (by decide))))
  have eR : s₁.heap.get? R = some ⟨.type "list", none, .seq vs n, #[]⟩ := F.keep _ _ (le2 _ _ h1)
  refine Calls.spliced_nil (call_iterB (wpAny_pyIter_list ⟨_, eR, rfl, n, rfl⟩ ?_))
  generalize hs3 : ({ s₁ with heap := s₁.heap.push { cls := .type "list_iterator", data := .fields #[.ref R, .int 0 0] } } : Shared) = s3
  have k13 : Kp s₁ s3 := by rw [← hs3]; exact Kp.of' fun b o e => Heap.get?_push_of_some _ e
  have F3 := F.kp k13
  have T3 := T2.mono F3.keep
  refine wpAny_Name (F3.loc rfl rfl (v := .ref (h0.objs.size + 1)) rfl _ _ _ _ s3 (fun _ _ e => e) ?_) (by decide)
  have eI3 : s3.heap.get? s₁.heap.objs.size = some (itO R 0) := by rw [← hs3]; exact Heap.get?_push_size _ rfl
  have lt1 : s2.heap.objs.size < s₁.heap.objs.size := by
    obtain ⟨o, _, _, e, _⟩ := F.ns
    exact Heap.lt_size e
  have Fr3 : Fr h0 s2.heap.objs.size s3.heap _ := ⟨F3.ns, fun b o e => F3.keep b o (le2 b o e), by omega⟩
  have nz : ∀ {i : Nat}, h0.objs.size ≤ i → h0.get? i = none := fun h => size_none h
  have N3 : News h0 s2.heap.objs.size s3.heap ([(s₁.heap.objs.size, itO R 0)] ++ (h0.objs.size + 1, ⟨.ref 72, some h0.objs.size, .plain, #[]⟩) :: [(h0.objs.size, emptyD)]) := fun p hp => by
    rcases List.mem_cons.mp hp with rfl | hp
    · exact ⟨eI3, Nat.ne_of_gt lt1, nz (by omega)⟩
    rcases List.mem_cons.mp hp with rfl | hp
    · exact ⟨F3.keep _ _ ex2, Nat.ne_of_lt (by omega), nz (by omega)⟩
    rcases List.mem_singleton.mp hp with rfl
    exact ⟨F3.keep _ _ ed2, Nat.ne_of_lt (by omega), nz (by omega)⟩
  have a1 : ∀ p ∈ [(s₁.heap.objs.size, itO R 0)], p.1 ≠ h0.objs.size + 1 := fun p hp => by rcases List.mem_singleton.mp hp with rfl; exact Nat.ne_of_gt (by omega)
  have b1 : ∀ p ∈ [(h0.objs.size, emptyD)], p.1 ≠ h0.objs.size + 1 := fun p hp => by rcases List.mem_singleton.mp hp with rfl; exact Nat.ne_of_lt (by omega)
  refine ff_set Fr3 T3.K N3 (N3 (h0.objs.size, emptyD) (by simp)).1 (tk74 w) (ty74 w) (sl74 w) (by decide) rfl a1 b1 fun h4 Fr4 N4 => ?_
  have T4 : TopH w h4 := T.mono Fr4.keep
  refine wpAny_execs_cons (plainObj_wpAny_Assign_Attribute ?_)
  refine wpAny_Name (Var.loc (h := h4) rfl rfl Fr4.ns (v := .ref B) rfl _ _ _ _ { s3 with heap := h4, toks := s3.toks + 1 } (fun _ _ e => e) ?_) (by decide)
  refine wpAny_Name (Var.loc (h := h4) rfl rfl Fr4.ns (v := .ref (h0.objs.size + 1)) rfl _ _ _ _ { s3 with heap := h4, toks := s3.toks + 1 } (fun _ _ e => e) ?_) (by decide)
  refine ff_set (s := { s3 with heap := h4, toks := s3.toks + 1 }) Fr4 T4.K N4 (N4 (h0.objs.size, emptyD) (by simp)).1 (tk73 w) (ty73 w) (sl73 w) (by decide) rfl a1 b1 fun h5 Fr5 N5 => ?_
  refine wpAny_execs_nil ⟨rfl, ?_⟩
  obtain ⟨hh, tk, e3⟩ := F3.eq
  refine ⟨h0.objs.size + 1, s₁.heap.objs.size, h0.objs.size, rfl, (N5 _ (.tail _ (.head _))).1, (N5 _ (.tail _ (.tail _ (.head _)))).1, (N5 _ (.head _)).1, nz (by omega), nz (by omega), nz (by omega), Fr5.keep, h5, s3.toks + 1 + 1, ?_⟩
  rw [e3, ← hs2]
end
theorem entry_nextB : entryFor table "next" = some Builtin.«next» := entryFor_of_tree (by kernel_rfl)
theorem args_nextB (a : Value) : argsOk "next" ⟨[a], []⟩ := by unfold argsOk; kernel_rfl
section
variable {prog : Program} {w : World} {A : Around} {s : Shared} {E : Value → Shared → Prop} {I R : Addr} {i : Nat} {items : Array Value} {x : Value}
theorem call_next_item {Q : Value → Shared → Prop} (hit : s.heap.IsListIter I R i) (hl : s.heap.IsList R items) (hx : items[i]? = some x)
    (hQ : ∀ h', h'.IsListIter I R (i + 1) → Heap.SameBut I s.heap h' → Q x { s with heap := h' }) : wpAny (model prog w) A (PySem.call (.builtin "next") [.ref I]) Q E s := by
  obtain ⟨o, ho, hc, hd⟩ := id hit
  obtain ⟨ol, hol, _, nl, hdl⟩ := hl
  refine call_function_entry (by decide +kernel) (by decide +kernel) entry_nextB (args_nextB _) ?_
  unfold Builtin.«next»
  refine wpAny_bind (m := someArgs "next" 1 2 _) (wpAny_of_eq (a := [Value.ref I]) (by first | rfl | kernel_rfl) ?_)
  dsimp only
  refine wpAny_bind (wpAny_specialOf (name := Str.ofString "__next__") hit.typeIs slot_listiter_next.lookup ?_)
  refine wpAny_ite_split (fun hab => absurd hab (by decide)) (fun _ => ?_)
  refine wpAny_bind (wpAny_callSpecial?_slot (name := Str.ofString "__next__") hit.typeIs slot_listiter_next
    (wpAny_call_entry slot_listiter_next hit.typeIs entry_listiter_next ?_ (args_listiter_next _)))
  show wpAny _ _ (field (.ref I) 0 >>= _) _ _ s
  refine wpAny_bind (wpAny_field ho hd (x := .ref R) rfl ?_)
  show wpAny _ _ (if (Value.ref R == Value.none) = true then _ else _) _ _ s
  rw [if_neg (show ¬ ((Value.ref R == Value.none) = true) from Bool.false_ne_true)]
  show wpAny _ _ (field (.ref I) 1 >>= _) _ _ s
  refine wpAny_bind (wpAny_field ho hd (x := .int i 0) rfl ?_)
  show wpAny _ _ (seqItems? (.ref R) >>= _) _ _ s
  refine wpAny_bind (wpAny_seqItems hol hdl ?_)
  simp only [Int.toNat_natCast, hx]
  refine wpAny_bind (wpAny_setField ho hd (by simp) (wpAny_pure ⟨x, rfl, wpAny_pure ⟨_, rfl, hQ _ ?_ (Heap.SameBut.update ..)⟩⟩))
  exact ⟨_, Heap.get?_update_self _ ho (Obj.isFreed_of_fields (Obj.data_mapFields hd _)), (Obj.cls_mapFields ..).trans hc, by
    rw [Obj.data_mapFields hd]; simp [rawInt]⟩
theorem call_next_end {Q : Value → Shared → Prop} (hh : A.handled = none) (hit : s.heap.IsListIter I R i) (hl : s.heap.IsList R items) (hx : items[i]? = none)
    (hE : ∀ h' e t oe vs, Heap.ExtBut I s.heap h' → s.heap.get? e = none → s.heap.get? t = none → h'.get? e = some oe → oe.cls = .type "StopIteration" → oe.data = .fields vs → vs[0]? = some (.ref t) → vs[1]? = some .none → E (.ref e) { s with heap := h' }) :
    wpAny (model prog w) A (PySem.call (.builtin "next") [.ref I]) Q E s := by
  obtain ⟨o, ho, hc, hd⟩ := id hit
  obtain ⟨ol, hol, _, nl, hdl⟩ := hl
  refine call_function_entry (by decide +kernel) (by decide +kernel) entry_nextB (args_nextB _) ?_
  unfold Builtin.«next»
  refine wpAny_bind (m := someArgs "next" 1 2 _) (wpAny_of_eq (a := [Value.ref I]) (by first | rfl | kernel_rfl) ?_)
  dsimp only
  refine wpAny_bind (wpAny_specialOf (name := Str.ofString "__next__") hit.typeIs slot_listiter_next.lookup ?_)
  refine wpAny_ite_split (fun hab => absurd hab (by decide)) (fun _ => ?_)
  refine wpAny_bind (wpAny_callSpecial?_slot (name := Str.ofString "__next__") hit.typeIs slot_listiter_next
    (wpAny_call_entry slot_listiter_next hit.typeIs entry_listiter_next ?_ (args_listiter_next _)))
  show wpAny _ _ (field (.ref I) 0 >>= _) _ _ s
  refine wpAny_bind (wpAny_field ho hd (x := .ref R) rfl ?_)
  show wpAny _ _ (if (Value.ref R == Value.none) = true then _ else _) _ _ s
  rw [if_neg (show ¬ ((Value.ref R == Value.none) = true) from Bool.false_ne_true)]
  show wpAny _ _ (field (.ref I) 1 >>= _) _ _ s
  refine wpAny_bind (wpAny_field ho hd (x := .int i 0) rfl ?_)
  show wpAny _ _ (seqItems? (.ref R) >>= _) _ _ s
  refine wpAny_bind (wpAny_seqItems hol hdl ?_)
  simp only [Int.toNat_natCast, hx]
  refine wpAny_bind (wpAny_rule (wpAny_bind (wpAny_setField ho hd (by simp) ?_)))
  show wpAny _ _ (newExc (.type "StopIteration") [] >>= _) _ _ _
  refine wpAny_bind ?_
  simp only [newExc, newTuple]
  refine wpAny_bind (wpAny_newObj_type ?_ (by size_fits))
  refine wpAny_bind (m := firstArgMember _ _) (wpAny_of_eq (a := Value.none) (by first | rfl | (simp only [firstArgMember]; rfl)) ?_)
  refine wpAny_newObj_type ?_ (by size_fits)
  simp only [raiseNew]
  have hh2 : A.in1.in1.handled = none := hh
  refine wpAny_bind (wpAny_handled ?_)
  rw [hh2]
  refine wpAny_bind (wpAny_pure (wpAny_throw ?_))
  refine hE _ _ _ _ _ (((Heap.SameBut.update ..).extBut.push _).push _) ?_ ?_ (Heap.get?_push_size _ rfl) rfl rfl rfl rfl
  · refine size_none ?_
    simp only [Heap.size_push, Heap.size_after_update]
    omega
  · refine size_none ?_
    simp only [Heap.size_push, Heap.size_after_update]
    omega
end
noncomputable abbrev fdNx : FuncData := fdM (mst 3 3) "__next__" "filterfalse.__next__" "itertools" 286 .none none 67 [] .none
theorem K_nx (w : World) : (K01 w).lookup 68 = some ⟨.type "function", none, .func fdNx, #[]⟩ := by kernel_rfl
noncomputable abbrev fdIt : FuncData := fdM (mst 3 2) "__iter__" "filterfalse.__iter__" "itertools" 286 .none none 60 [] .none
theorem K_it (w : World) : (K01 w).lookup 61 = some ⟨.type "function", none, .func fdIt, #[]⟩ := by kernel_rfl
noncomputable abbrev envNx (N : Nat) : Env := callEnvC fdNx N 68
noncomputable def nxBody : List Stmt := [.Assign [.Name "item" ⟨19, 12, 19, 16⟩] (.Call (.Name "next" ⟨19, 19, 19, 23⟩) [.Attribute (.Name "self" ⟨19, 24, 19, 28⟩) "_it" ⟨19, 24, 19, 32⟩] [] ⟨19, 19, 19, 33⟩) ⟨19, 12, 19, 33⟩,
  .If (.BoolOp .Or [.Compare (.Name "func" ⟨20, 15, 20, 19⟩) [.Is] [.Constant .none 0 ⟨20, 23, 20, 27⟩] ⟨20, 15, 20, 27⟩, .Compare (.Name "func" ⟨20, 31, 20, 35⟩) [.Is] [.Name "bool" ⟨20, 39, 20, 43⟩] ⟨20, 31, 20, 43⟩] ⟨20, 15, 20, 43⟩)
    [.If (.UnaryOp .Not (.Name "item" ⟨21, 23, 21, 27⟩) ⟨21, 19, 21, 27⟩) [.Return (some (.Name "item" ⟨22, 27, 22, 31⟩)) ⟨22, 20, 22, 31⟩] [] ⟨21, 16, 22, 31⟩]
    [.If (.UnaryOp .Not (.Call (.Name "func" ⟨23, 21, 23, 25⟩) [.Name "item" ⟨23, 26, 23, 30⟩] [] ⟨23, 21, 23, 31⟩) ⟨23, 17, 23, 31⟩) [.Return (some (.Name "item" ⟨24, 23, 24, 27⟩)) ⟨24, 16, 24, 27⟩] [] ⟨23, 12, 24, 27⟩] ⟨20, 12, 24, 27⟩]
theorem nx_body : fbody (mst 3 3) = [.Assign [.Name "func" ⟨17, 8, 17, 12⟩] (.Attribute (.Name "self" ⟨17, 15, 17, 19⟩) "_func" ⟨17, 15, 17, 25⟩) ⟨17, 8, 17, 25⟩,
  .While (.Constant (.bool true) 0 ⟨18, 14, 18, 18⟩) nxBody [] ⟨18, 8, 24, 27⟩] := by rfl
theorem F_func (w : World) : findObj (K01 w) 72 (some emptyD) "_func" = some (.bind (.builtin "member_descriptor.__get__") (.ref 73)) := by kernel_rfl
theorem F_it (w : World) : findObj (K01 w) 72 (some emptyD) "_it" = some (.bind (.builtin "member_descriptor.__get__") (.ref 74)) := by kernel_rfl
theorem ga72 (w : World) : findIn (K01 w) (.ref 72) "__getattribute__" = some (some (.builtin "object.__getattribute__")) := by kernel_rfl
theorem gk72 (w : World) : findIn (K01 w) (.ref 72) "__getattr__" = some none := by kernel_rfl
section
variable {w : World} {A : Around} {s : Shared} {E : Value → Shared → Prop} {env : Env} {F I B d : Addr}
theorem instFF (eF : s.heap.get? F = some (ffO I B d)) (ed : s.heap.get? d = some emptyD) : InstAt s.heap F (ffO I B d) 72 (some emptyD) := ⟨eF, rfl, rfl, ed⟩
theorem ev_func (T : TopH w s.heap) (ok : OkA 102 A) {x : Str} {p ap : Pos} (v : Var env s.heap x (.ref F)) (eF : s.heap.get? F = some (ffO I B d)) (ed : s.heap.get? d = some emptyD) (hx : (x == ("__debug__" : Str)) = false := by decide) :
    wpAny (model pw w) A (eval (.Attribute (.Name x p) "_func" ap) env) (fun r s' => r = .ref B ∧ Kp s s') E s := by
  refine Attribute_name (wpAny_Name (v _ _ _ _ s (fun _ _ e => e) ?_) hx)
  refine get_bind T.K (instFF eF ed) (ga72 w) (F_func w) (gk72 w) ?_
  exact wpAny_call (slot_get (s := { s with toks := s.toks + 1 }) T.K (instFF eF ed) (sl73 w) (by rfl) (handed_on rfl ⟨rfl, Kp.tk s _⟩))
theorem ev_it (T : TopH w s.heap) (ok : OkA 102 A) {x : Str} {p ap : Pos} (v : Var env s.heap x (.ref F)) (eF : s.heap.get? F = some (ffO I B d)) (ed : s.heap.get? d = some emptyD) (hx : (x == ("__debug__" : Str)) = false := by decide) :
    wpAny (model pw w) A (eval (.Attribute (.Name x p) "_it" ap) env) (fun r s' => r = .ref I ∧ Kp s s') E s := by
  refine Attribute_name (wpAny_Name (v _ _ _ _ s (fun _ _ e => e) ?_) hx)
  refine get_bind T.K (instFF eF ed) (ga72 w) (F_it w) (gk72 w) ?_
  exact wpAny_call (slot_get (s := { s with toks := s.toks + 1 }) T.K (instFF eF ed) (sl74 w) (by rfl) (handed_on rfl ⟨rfl, Kp.tk s _⟩))
theorem ff_iter (T : TopH w s.heap) (ok : OkA 102 A) {Q : Value → Shared → Prop} (eF : s.heap.get? F = some (ffO I B d)) (ed : s.heap.get? d = some emptyD) (h : ∀ s', Kp s s' → Q (.ref F) s') : wpAny (model pw w) A (pyIter (.ref F)) Q E s := by
  have Ix := instFF eF ed
  have X := T.K
  have L1 : Looks (model pw w) s.heap (typeLookup (.ref 72) "__iter__") (some (.ref 61)) := looks_findIn X (by kernel_rfl)
  have L2 : Looks (model pw w) s.heap (bindSpecial (.ref 61) (.ref F)) (.ref 61, [.ref F]) := bind_fn X (.ref F) (by kernel_rfl)
  have hc : wpAny (model pw w) A (PySem.call (.ref 61) [.ref F]) (fun v s' => v = .ref F ∧ Kp s s') E s := by
    refine wpAny_call (call_fn (binds := [("self", .ref F)]) _ ok.room T (K_it w) 60 rfl (by kernel_rfl) rfl (by rfl) rfl (fun y hy => ?_) fun s₁ X k => ?_)
    · rcases List.mem_singleton.mp hy with rfl; exact .inl (by rfl)
    · refine wpAny_execs_cons (wpAny_Return_some ?_)
      exact wpAny_Name (wpAny_loadName_local rfl (by rfl) X.toInCall.ns (v := .ref F) (by rfl) ⟨rfl, k⟩) (by decide)
  have fin : wpAny (model pw w) A (PySem.call (.ref 61) [.ref F] >>= fun v => pure (some v)) (fun r s' => r = some (.ref F) ∧ Kp s s') E s :=
    wpAny_bind (wpAny_mono hc (fun v s' h' => wpAny_pure ⟨by rw [h'.1], h'.2⟩) fun _ _ z => z)
  have one : ∀ refuse : Sem Value, wpAny (model pw w) A (callSpecialIfBoundUnlessNone? (.ref F) "__iter__" refuse) (fun r s' => r = some (.ref F) ∧ Kp s s') E s := by
    intro refuse
    simp only [callSpecialIfBoundUnlessNone?, bindSpecialIfBound?]
    refine wpAny_holding (wpAny_bind (wpAny_bind (wpAny_bind (Ix.type.here (L1.here ?_)))))
    refine wpAny_bind (wpAny_askSetting (wpAny_ite ?_))
    have fin2 : wpAny (model pw w) A (if (Value.ref 61 == Value.none) = true then (refuse >>= fun v => pure (some v)) else (PySem.call (.ref 61) [.ref F] >>= fun v => pure (some v))) (fun r s' => r = some (.ref F) ∧ Kp s s') E s := by
      rw [if_neg (show ¬ ((Value.ref 61 == Value.none) = true) from Bool.false_ne_true)]
      exact fin
    split
    · exact wpAny_bind (L2.here (wpAny_pure (by exact fin2)))
    · exact wpAny_tryCatch (wpAny_bind (L2.here (wpAny_pure (by exact fin2))))
  unfold pyIter
  refine wpAny_bind (wpAny_bind (Ix.type.here (L1.here ?_)))
  show wpAny _ A (callSpecialIfBoundUnlessNone? (.ref F) "__iter__" _ >>= _) Q E s
  refine wpAny_bind (wpAny_mono (one _) (fun r s' hr => ?_) fun _ _ z => z)
  obtain ⟨rfl, k⟩ := hr
  have Ix' := instFF (k.le _ _ eF) (k.le _ _ ed)
  have L3 : Looks (model pw w) s'.heap (typeLookup (.ref 72) "__next__") (some (.ref 68)) := looks_findIn (T.mono k.le).K (by kernel_rfl)
  exact wpAny_bind (wpAny_bind (Ix'.type.here (L3.here (wpAny_pure (h s' k)))))
end
section
variable {M : Model} {A : Around} {s : Shared} {E1 E2 E3 : Value → Shared → Prop}
theorem stop_leaves {base : Heap} {env : Env} {outer : List Env} {L e : Addr} {oe : Obj} {vs : Array Value} {a0 : Value} {Q : Shared → Prop} (hfr : A.frames = some (env :: outer)) (hf : env.frame = some L) (hl : s.heap.FunFrames base (env :: outer)) (hkb : base.StaysIn s.heap) (hen : base.get? e = none)
    (he : s.heap.get? e = some oe) (hd : oe.data = .fields vs) (h0 : vs[0]? = some a0) (h1 : vs[1]? = some .none)
    (h : ∀ h', base.StaysIn h' → s.heap.UpToSlots h' → (∃ ob, h'.get? e = some ob ∧ ob.cls = oe.cls) → Q { s with heap := h' }) :
    wpAny M A (noteFrame (.ref e) env) (fun _ s1 => wpAny M A (do
      if (← field (.ref e) 1) == .none then unsupported "frame.own-activation:exception-without-traceback"
      setFlight (.ref e) env.frame) (fun _ s2 => wpAny M A (leaving env (.ref e)) (fun _ s3 => Q s3) E3 s2) E2 s1) E1 s := by
  unfold noteFrame
  simp only [hf]
  refine wpAny_bind (wpAny_field he hd h1 ?_)
  rw [if_neg (by decide)]
  refine wpAny_entryW hfr hl hf he hkb hen hd (Array.getElem?_eq_some_iff.mp h1).1 h0 fun h1' hN => ?_
  obtain ⟨k1, k2, k3, k4⟩ := hN
  obtain ⟨oe2, vs2, tb, oT, ts, he2, hc2, hd2, h12, hnT, hTe, hT, hdT, h3⟩ := id k3
  refine wpAny_bind (wpAny_field (s := { s with heap := h1' }) he2 hd2 h12 ?_)
  rw [if_neg (show ¬ ((Value.ref tb == Value.none) = true) from Bool.false_ne_true)]
  unfold setFlight
  refine wpAny_bind (wpAny_field (s := { s with heap := h1' }) he2 hd2 h12 ?_)
  rw [if_pos (show (Value.ref tb != Value.none) = true from by simp)]
  have hsz3 : 3 < ts.size := (Array.getElem?_eq_some_iff.mp h3).1
  refine wpAny_setField (s := { s with heap := h1' }) hT hdT hsz3 ?_
  have other : ∀ b, b ≠ tb → (h1'.update tb (Obj.mapFields (·.setIfInBounds 3 (rawInt L)))).get? b = h1'.get? b := fun b hb => Heap.get?_update_other _ _ (Ne.symm hb)
  have noRecord : ∀ b o, h1'.get? b = some o → (∀ vs, o.data ≠ .fields vs) → b ≠ tb := fun b o hb hnf q => by
    rw [q, hT] at hb; injection hb with hb; subst hb; exact hnf ts hdT
  have hH : Heap.HeldW base (env :: outer) e oe.cls a0 L (h1'.update tb (Obj.mapFields (·.setIfInBounds 3 (rawInt L)))) := by
    refine ⟨fun b o hbo => (other b fun q => by rw [q, hnT] at hbo; cases hbo).trans (k1 b o hbo), hen, k2.of_keeps fun b o hb hnf => ⟨o, (other b (noRecord b o hb hnf)).trans hb, rfl⟩, ?_⟩
    exact ⟨oe2, vs2, tb, _, _, (other e (Ne.symm hTe)).trans he2, hc2, hd2, h12, hnT, hTe, Heap.get?_update_self _ hT (Obj.isFreed_of_fields (Obj.data_mapFields hdT _)), Obj.data_mapFields hdT _, by simp [hsz3]⟩
  unfold leaving
  refine wpAny_bind (wpAny_noteFrame_againW hf hH.2.2.2 ?_)
  refine wpAny_landsW hH fun h' hfl hu => ?_
  refine h h' hfl.1 (fun b o hb hn => ?_) hfl.there
  obtain ⟨sl, e1⟩ := k4 b o hb hn
  obtain ⟨sl2, e2⟩ := hu b _ ((other b (noRecord b _ e1 hn)).trans e1) hn
  exact ⟨sl2, e2⟩
end
theorem OuterOk.fun_ {h base : Heap} : ∀ {outer : List Env}, OuterOk h outer → (∀ L ∈ framesOf outer, base.get? L = none) → h.FunFrames base outer
  | [], _, _ => trivial
  | env :: r, x, hb => by
    obtain ⟨hk, L, o, hf, ho, hd⟩ := x env (.head _)
    refine ⟨hk, ⟨L, o, hf, hb L ?_, ho, hd⟩, OuterOk.fun_ (fun e he => x e (.tail _ he)) fun L' hL => hb L' ?_⟩
    · rw [framesOf, List.filterMap_cons, hf]; exact .head _
    · rw [framesOf, List.filterMap_cons, hf]; exact .tail _ hL
theorem OuterOk.keep {h h' : Heap} {outer : List Env} (x : OuterOk h outer) (k : ∀ b o, h.get? b = some o → (∀ vs, o.data ≠ .fields vs) → ∃ o', h'.get? b = some o' ∧ o'.data = o.data) : OuterOk h' outer := fun env he => by
  obtain ⟨hk, L, o, hf, ho, hd⟩ := x env he
  obtain ⟨o', ho', hd'⟩ := k L o ho hd
  exact ⟨hk, L, o', hf, ho', fun vs => hd' ▸ hd vs⟩
theorem Frm.hide {s₀ s : Shared} {env : Env} {m cm : Str → Option Value} (F : Frm s₀ env m cm s) (l : List Addr) : Frm { s₀ with heap := hideAll s₀.heap l } env m cm s := by
  have hn : ∀ {a : Addr}, s₀.heap.get? a = none → (hideAll s₀.heap l).get? a = none := fun {a} h0 => by
    cases q : (hideAll s₀.heap l).get? a with
    | none => rfl
    | some o => have := of_hideAll _ q; rw [h0] at this; cases this
  obtain ⟨h', tk, e⟩ := F.eq
  exact ⟨⟨h', tk, by rw [e]⟩, fun b o e => F.keep b o (of_hideAll _ e), F.ns, F.cell, hn F.newL, fun n c e => ⟨hn (F.newC n c e).1, (F.newC n c e).2⟩, F.apart⟩
noncomputable def EndChg (Fs : List Addr) (I : Addr) (h h' : Heap) : Prop := ∀ b o, h.get? b = some o → b ≠ I → (b ∈ Fs → ∃ sl, h'.get? b = some { o with slots := sl }) ∧ (b ∉ Fs → h'.get? b = some o)
noncomputable def FFEnd (Fs : List Addr) (I R : Addr) (S : Str → Bool) (xs : List Str) (i0 : Nat) (s : Shared) (r : Result) (s' : Shared) : Prop :=
  (∃ j x t, i0 ≤ j ∧ xs[j]? = some x ∧ S x = false ∧ (∀ k y, i0 ≤ k → k < j → xs[k]? = some y → S y = true) ∧ r = .ok (.ret (.str x t)) ∧ s'.heap.IsListIter I R (j + 1) ∧ Heap.ExtBut I s.heap s'.heap ∧ ∃ h' tk, s' = { s with heap := h', toks := tk }) ∨
  ((∀ k y, i0 ≤ k → xs[k]? = some y → S y = true) ∧ ∃ e, r = .error (.ref e) ∧ s'.TypeIs (.ref e) "StopIteration" ∧ EndChg Fs I s.heap s'.heap ∧ ∃ h' tk, s' = { s with heap := h', toks := tk })
theorem hide_ne {h : Heap} {I : Addr} {b : Addr} {o : Obj} (e : h.get? b = some o) (n : b ≠ I) : (hideAll h [I]).get? b = some o := hideAll_get _ e fun q => n (List.mem_singleton.mp q)
theorem top_hide {w : World} {h : Heap} {I : Addr} (T : TopH w h) (hI : (∀ a o, (K01 w).lookup a = some o → a ≠ I) ∧ builtinsNs ≠ I ∧ mainGlobals ≠ I ∧ cStatics ≠ I) : TopH w (hideAll h [I]) := by
  refine ⟨fun a o e => hide_ne (T.K a o e) (hI.1 a o e), ?_, ?_, ?_⟩
  · obtain ⟨mg, o, es, ep, e, r⟩ := T.g
    exact ⟨mg, o, es, ep, hide_ne e hI.2.2.1, r⟩
  · obtain ⟨mb, ⟨o, es, ep, e, r⟩, z⟩ := T.b
    exact ⟨mb, ⟨o, es, ep, hide_ne e hI.2.1, r⟩, z⟩
  · obtain ⟨mc, ⟨o, es, ep, e, r⟩, z⟩ := T.nl
    exact ⟨mc, ⟨o, es, ep, hide_ne e hI.2.2.2, r⟩, z⟩
theorem hide_of_none {h : Heap} {a : Addr} (l : List Addr) (h0 : h.get? a = none) : (hideAll h l).get? a = none := by
  cases q : (hideAll h l).get? a with
  | none => rfl
  | some o => have := of_hideAll _ q; rw [h0] at this; cases this
theorem mem_frames {h : Heap} {outer : List Env} (x : OuterOk h outer) {b : Addr} (hb : b ∈ framesOf outer) : ∃ o, h.get? b = some o ∧ ∀ vs, o.data ≠ .fields vs := by
  obtain ⟨env, he, hf⟩ := List.mem_filterMap.mp hb
  obtain ⟨_, L, o, hf', ho, hd⟩ := x env he
  rw [hf'] at hf; cases hf
  exact ⟨o, ho, hd⟩
section
variable {w : World} {A : Around} {s : Shared}
theorem ff_call (T : TopH w s.heap) (ok : OkA 107 A) {outer : List Env} (hfr : A.frames = some outer) (hO : OuterOk s.heap outer) {F I B d Sa R : Addr} {S : Str → Bool} {n i0 : Nat} {xs : List Str} (eF : s.heap.get? F = some (ffO I B d)) (ed : s.heap.get? d = some emptyD)
    (eB : s.heap.get? B = some (bmSet "set.__contains__" Sa)) (hS : s.heap.SetOf (strKind pw w) Sa S n) (row : RowAt s.heap R xs) (hit : s.heap.IsListIter I R i0) (hI : (∀ a o, (K01 w).lookup a = some o → a ≠ I) ∧ builtinsNs ≠ I ∧ mainGlobals ≠ I ∧ cStatics ≠ I) (hi0 : i0 ≤ xs.length) :
    codeAny (model pw w) A (.call (.ref 68) ⟨[.ref F], []⟩) (FFEnd (framesOf outer) I R S xs i0 s) s := by
  obtain ⟨oI, eI, cI, dI⟩ := id hit
  have nI : ∀ {b : Addr} {o : Obj}, s.heap.get? b = some o → o.cls ≠ .type "list_iterator" → b ≠ I := fun e hc q => by rw [q, eI] at e; cases e; exact hc cI
  have TB := top_hide T hI
  generalize hsB : ({ s with heap := hideAll s.heap [I] } : Shared) = sB
  have hBh : sB.heap = hideAll s.heap [I] := by rw [← hsB]
  rw [← hBh] at TB
  have old : ∀ {b : Addr} {o : Obj}, s.heap.get? b = some o → b ≠ I → sB.heap.get? b = some o := fun e n => by rw [hBh]; exact hide_ne e n
  have eF0 := old eF (nI eF (show Value.ref 72 ≠ Value.type "list_iterator" by decide))
  have ed0 := old ed (nI ed (show Value.type "dict" ≠ Value.type "list_iterator" by decide))
  have eB0 := old eB (nI eB (show Value.type "builtin_function_or_method" ≠ Value.type "list_iterator" by decide))
  have hS0 : sB.heap.SetOf (strKind pw w) Sa S n := by
    obtain ⟨o, es, ep, t, e, hx, r⟩ := hS
    exact ⟨o, es, ep, t, old e (nI e (by rw [hx.1]; decide)), hx, r⟩
  have row0 : RowAt sB.heap R xs := row.keep fun o e => by
    obtain ⟨vs, ⟨nn, e2⟩, _⟩ := row.lst
    rw [e2] at e; cases e
    exact old e2 (nI e2 (show Value.type "list" ≠ Value.type "list_iterator" by decide))
  have hIB : sB.heap.get? I = none := by rw [hBh]; exact hideAll_none _ (.head _)
  refine codeAny_call_cells (fd := fdNx) (binds := [("self", .ref F)]) ok.room (T.K _ _ (K_nx w)) rfl T.nl (codeRec_B T.K (by kernel_rfl)) rfl (by rfl) rfl (fun y hy => ?_) (fun s₁ X => ?_)
  · rcases List.mem_singleton.mp hy with rfl; exact .inl (by rfl)
  have FO := Frm.ofCall X
  have F1 := FO.hide [I]
  rw [hsB] at F1
  have okA := OkA.deeper (n := 106) ok (envNx s.heap.objs.size)
  have hfr2 : (A.deeper (envNx s.heap.objs.size)).frames = some (envNx s.heap.objs.size :: outer) := Around.frames_deeper hfr
  show wpAny _ (A.deeper (envNx s.heap.objs.size)) (execs (fbody (mst 3 3)) (envNx s.heap.objs.size)) _ _ _
  rw [nx_body]
  generalize hA : A.deeper (envNx s.heap.objs.size) = A1 at *
  refine wp_abs fun QQ EE hQ hE => ?_
  have T1 := TB.mono F1.keep
  refine wpAny_execs_cons (wpAny_Assign_Name (wpAny_mono (ev_func T1 (okA.weak (by decide)) (F1.loc rfl (by rfl) (by rfl)) (F1.keep _ _ eF0) (F1.keep _ _ ed0)) (fun v s₂ h₂ => ?_) fun _ _ q => q) (by rfl))
  obtain ⟨rfl, k2⟩ := h₂
  refine (F1.kp k2).storeL rfl (by rfl) fun h' tk F3 hx3 => ?_
  refine wpAny_execs_cons (wpAny_While ?_)
  have hIL : I ≠ (envNx s.heap.objs.size).locals := fun q => by
    have := F3.newL
    have h1 := size_none (h := s.heap) (a := s.heap.objs.size) (Nat.le_refl _)
    rw [show I = s.heap.objs.size from q, h1] at eI
    cases eI
  have hit3 : h'.IsListIter I R i0 := hit.at fun o e => hx3 _ _ hIL (k2.le _ _ (FO.keep _ _ e))
  refine codeAny_whileLoop (fun k s' => ∃ i m cm, k = xs.length + 1 - i ∧ i ≤ xs.length ∧ i0 ≤ i ∧ Frm sB (envNx s.heap.objs.size) m cm s' ∧ m "self" = some (.ref F) ∧ m "func" = some (.ref B) ∧ s'.heap.IsListIter I R i ∧ (∀ j y, i0 ≤ j → j < i → xs[j]? = some y → S y = true)) ?_ (xs.length + 1 - i0)
    ⟨i0, _, _, rfl, hi0, Nat.le_refl _, F3, by rfl, by rfl, hit3, fun j y h1 h2 => absurd h2 (Nat.not_lt_of_le h1)⟩
  rintro k s4 ⟨i, m, cm, rfl, hil, hi0i, F4, hself, hfunc, hit4, hseen⟩
  refine wpAny_mono (EvT.ofBool (prog := pw) (w := w) (A := A1) (env := envNx s.heap.objs.size) (h := s4.heap) (S := fun _ => False) (EvD.cbool (x := true) (k := 0) (pos := ⟨18, 14, 18, 18⟩)) (by intro _; rfl) s4 _ fun _ _ e => e) (fun b s5 h5 => ?_) fun _ _ q => q
  obtain ⟨rfl, k5⟩ := h5
  rw [if_pos rfl]
  refine wp_abs fun Q1 E1 hQ1 hE1 => ?_
  have F5 := F4.kp k5
  have T5 := TB.mono F5.keep
  have hit5 := hit4.at fun o e => k5.le _ _ e
  have row5 := row0.keep fun o e => F5.keep _ _ e
  refine wpAny_execs_cons (wpAny_Assign_Name (wpAny_Call_NameR (wpAny_Name (Var.bi T5 rfl (by rfl) rfl rfl (by kernel_rfl) (by decide) (by rfl) _ _ _ _ s5 (fun _ _ e => e) ?_) (by decide))) (by rfl))
  refine Calls.callWith_builtin (id := "next") (by rfl) (Calls.evalArgs_plain (Calls.spliced_cons ?_))
  refine wpAny_mono (ev_it T5 (okA.weak (by decide)) (F5.loc rfl (by rfl) hself) (F5.keep _ _ eF0) (F5.keep _ _ ed0)) (fun v s6 h6 => ?_) fun _ _ q => q
  obtain ⟨rfl, k6⟩ := h6
  refine Calls.spliced_nil ?_
  have F6 := F5.kp k6
  have hit6 := hit5.at fun o e => k6.le _ _ e
  have row6 := row5.keep fun o e => k6.le _ _ e
  cases hx : xs[i]? with
  | none =>
    obtain ⟨vs, hl, hv⟩ := row_end row6 hx
    refine call_next_end okA.hd hit6 hl hv fun h7 e t oe vse hxt he0 ht0 hoe hcls hdata hv0 hv1 => ?_
    have up : ∀ {b : Addr} {o : Obj}, s.heap.get? b = some o → b ≠ I → h7.get? b = some o := fun e n => hxt _ _ n (F6.keep _ _ (old e n))
    have nfI : ∀ {b : Addr} {o : Obj}, s.heap.get? b = some o → (∀ vs, o.data ≠ .fields vs) → b ≠ I := fun e hn q => by rw [q, eI] at e; cases e; exact hn _ dI
    have hO7 : OuterOk h7 outer := hO.keep fun b o e hn => ⟨o, up e (nfI e hn), rfl⟩
    have hLn : s.heap.get? s.heap.objs.size = none := size_none (Nat.le_refl _)
    have he0' : s.heap.get? e = none := by
      cases q : s.heap.get? e with
      | none => rfl
      | some o =>
        by_cases qe : e = I
        · obtain ⟨oo, eo, _⟩ := hit6
          rw [qe, eo] at he0; cases he0
        · rw [F6.keep _ _ (old q qe)] at he0; cases he0
    have hsh : ∃ h' tk, s6 = { s with heap := h', toks := tk } := by
      obtain ⟨h', tk, e1⟩ := F6.eq
      exact ⟨h', tk, by rw [e1, ← hsB]⟩
    refine hE1 _ _ ?_
    show wpAny _ A1 (noteFrame (.ref e) (envNx s.heap.objs.size)) (fun _ s1 => wpAny _ A1 (do
      if (← field (.ref e) 1) == .none then unsupported "frame.own-activation:exception-without-traceback"
      setFlight (.ref e) (envNx s.heap.objs.size).frame) (fun _ s2 => EE (.ref e) s2) _ s1) _ _
    refine wpAny_mono (stop_leaves (E3 := fun e' s'' => FFEnd (framesOf outer) I R S xs i0 s (.error e') s'') (s := { s6 with heap := h7 }) (base := hideAll s.heap (I :: framesOf outer)) (L := s.heap.objs.size) (a0 := .ref t) (Q := fun s3 => FFEnd (framesOf outer) I R S xs i0 s (.error (.ref e)) s3) hfr2 rfl
      (Heap.FunFrames.cons (show ScopeKind.function ≠ ScopeKind.module by decide) rfl (F6.ns.at' fun o e => hxt _ _ (Ne.symm hIL) e) (hide_of_none _ hLn) (hO7.fun_ fun L hL => hideAll_none _ (.tail _ hL))) (fun b o eb => ?_) (hide_of_none _ he0') hoe hdata hv0 hv1 fun h8 hb hu he8 => ?_) (fun _ s1 h1 => wpAny_mono h1 (fun _ s2 h2 => hE _ _ h2) fun _ _ q => q) fun _ _ q => q
    · have e1 := of_hideAll _ eb
      exact up e1 fun q => by rw [q, hideAll_none _ (.head _)] at eb; cases eb
    · refine .inr ⟨fun j y h1 h2 => hseen j y h1 (Nat.lt_of_lt_of_le (List.getElem?_eq_some_iff.mp h2).1 (List.getElem?_eq_none_iff.mp hx)) h2, e, rfl, ?_, fun b o eb nb => ⟨fun hF => ?_, fun hF => ?_⟩, ?_⟩
      · obtain ⟨ob, e1, e2⟩ := he8
        exact ⟨ob, e1, e2.trans hcls⟩
      · obtain ⟨o', eo', hn⟩ := mem_frames hO hF
        rw [eb] at eo'; cases eo'
        exact hu b o (up eb nb) hn
      · exact hb b o (hideAll_get _ eb fun q => by rcases List.mem_cons.mp q with q | q; exact nb q; exact hF q)
      · obtain ⟨h', tk, e1⟩ := hsh
        exact ⟨h8, tk, by rw [e1]⟩
  | some x =>
    obtain ⟨vs, t, hl, hv⟩ := row_item row6 hx
    refine call_next_item hit6 hl hv fun h7 hit7 hsb => ?_
    have F7 := F6.but (a := I) s6.toks hsb.extBut hIB hIL fun n c e => by cases (show ([] : List (Str × Addr)).lookup n = some c from e)
    refine F7.storeL rfl (by rfl) fun h8 tk8 F8 hx8 => ?_
    have T8 := TB.mono F8.keep
    have hit8 : h8.IsListIter I R (i + 1) := hit7.at fun o e => hx8 _ _ hIL e
    have vf : Var (envNx s.heap.objs.size) h8 "func" (.ref B) := F8.loc rfl (by rfl) (upd_ne hfunc (by decide))
    have vi : Var (envNx s.heap.objs.size) h8 "item" (.str x t) := F8.loc rfl (by rfl) (upd_eq (m := m))
    have hlt : i < xs.length := (List.getElem?_eq_some_iff.mp hx).1
    refine wpAny_execs_cons (wpAny_If (isTrue_or (wpAny_mono ((EvT.isNone (prog := pw) (w := w) vf) { s6 with heap := h8, toks := tk8 } _ fun _ _ e => e) (fun c s9 h9 => ?_) fun _ _ q => q)))
    obtain ⟨rfl, k9⟩ := h9
    rw [if_neg (show ¬ ((Value.ref B == .none) = true) from Bool.false_ne_true)]
    refine isTrue_or (wpAny_isTrue_Compare1 (wpAny_Name (vf _ _ _ _ s9 k9.le ?_) (by decide)) (by with_unfolding_all rfl))
    refine wpAny_Name (Var.bi (T8.mono k9.le) rfl (by rfl) rfl rfl (by kernel_rfl) (v := .type "bool") (by decide) (by rfl) _ _ _ _ s9 (fun _ _ e => e) ?_) (by decide)
    refine wpAny_of_eq (a := .bool false) (by rfl) (wpAny_truthy_bool ?_)
    rw [if_neg Bool.false_ne_true]
    refine isTrue_or_nil ?_
    rw [if_neg Bool.false_ne_true]
    have F9 := F8.kp k9
    obtain ⟨on, esn, epn, tn, en, rn⟩ := id hS0
    refine wpAny_execs_cons (wpAny_If (isTrue_not (isTrue_plain (wpAny_Call_NameR (wpAny_Name (vf _ _ _ _ s9 k9.le ?_) (by decide))))))
    refine callWith_of (P := fun h => h.get? B = some (bmSet "set.__contains__" Sa)) (by rfl) (fun h e => ⟨.machine, .inr (.inl rfl), (Looks.ld e).andThen .now⟩) (Calls.evalArgs_plain (Calls.spliced_cons ?_))
    refine wpAny_Name (vi _ _ _ _ s9 k9.le ?_) (by decide)
    refine Calls.spliced_nil ⟨F9.keep _ _ eB0, ?_⟩
    have hS9 : s9.heap.SetOf (strKind pw w) Sa S n := ⟨on, esn, epn, tn, F9.keep _ _ en, rn⟩
    refine wpAny_call (call_bmCont (knd := strKind pw w) (F9.keep _ _ eB0) (strKind_is pw w _ _) (by rfl) hS9 ?_)
    refine wpAny_truthy_bool ?_
    have F10 := F9.kp (Kp.tk s9 (s9.toks + 1))
    have hit10 : s9.heap.IsListIter I R (i + 1) := hit8.at fun o e => k9.le _ _ e
    cases hSx : S x with
    | true =>
      rw [if_neg (by decide)]
      refine wpAny_execs_nil (wpAny_execs_nil (wpAny_execs_nil (hQ1 _ _ ?_)))
      refine ⟨xs.length + 1 - (i + 1), by omega, i + 1, _, cm, rfl, by omega, by omega, F10, upd_ne hself (by decide), upd_ne hfunc (by decide), hit10, fun j y h1 h2 h3 => ?_⟩
      rcases Nat.lt_succ_iff_lt_or_eq.mp h2 with h2 | rfl
      · exact hseen j y h1 h2 h3
      · rw [hx] at h3; cases h3; exact hSx
    | false =>
      rw [if_pos (by decide)]
      refine wpAny_execs_cons (wpAny_Return_some (wpAny_Name (vi _ _ _ _ _ k9.le ?_) (by decide)))
      refine hQ1 _ _ (hQ _ _ ?_)
      refine .inl ⟨i, x, t, hi0i, hx, hSx, hseen, rfl, hit10, fun b o nb eb => F10.keep _ _ (old eb nb), ?_⟩
      obtain ⟨h', tk, e1⟩ := F10.eq
      exact ⟨h', tk, by rw [e1, ← hsB]⟩
end
theorem top_hideF {w : World} {h : Heap} {Fs : List Addr} (T : TopH w h) (kf : KFs w Fs) : TopH w (hideAll h Fs) := by
  refine ⟨fun a o e => hideAll_get _ (T.K a o e) (kf.1 a o e), ?_, ?_, ?_⟩
  · obtain ⟨mg, o, es, ep, e, r⟩ := T.g
    exact ⟨mg, o, es, ep, hideAll_get _ e kf.2.2.1, r⟩
  · obtain ⟨mb, ⟨o, es, ep, e, r⟩, z⟩ := T.b
    exact ⟨mb, ⟨o, es, ep, hideAll_get _ e kf.2.1, r⟩, z⟩
  · obtain ⟨mc, ⟨o, es, ep, e, r⟩, z⟩ := T.nl
    exact ⟨mc, ⟨o, es, ep, hideAll_get _ e kf.2.2.2, r⟩, z⟩
section
variable {prog : Program} {w : World} {A : Around} {s : Shared} {E : Value → Shared → Prop}
theorem try_caught {base : Heap} {env : Env} {outer : List Env} {L e : Addr} {oe : Obj} {vs : Array Value} {a0 : Value} {X T : String} {t : Expr} {b₀ : Stmt} {suite : List Stmt} {pos : Pos} {rest : List ExceptHandler} {Q : Flow → Shared → Prop}
    (hfr : A.frames = some (env :: outer)) (hf : env.frame = some L) (hl : s.heap.FunFrames base (env :: outer)) (hkb : base.StaysIn s.heap) (hen : base.get? e = none)
    (he : s.heap.get? e = some oe) (hcls : oe.cls = .type X) (hd : oe.data = .fields vs) (h0 : vs[0]? = some a0) (h1 : vs[1]? = some .none)
    (hexc : isSubtype (.type T) (.type "BaseException") = pure true) (hnt : isSubtype (.type ((Manifest.find? T).elim "type" fun x => x.metatype)) (.type "tuple") = pure false) (hsub : isSubtype (.type X) (.type T) = pure true)
    (hname : ∀ h' (Q' : Value → Shared → Prop) E', base.StaysIn h' → s.heap.UpToSlots h' → Q' (.type T) { s with heap := h' } → wpAny (model prog w) (A.mark (some (.ref e))) (eval t env) Q' E' { s with heap := h' })
    (k : ∀ h' E', base.StaysIn h' → s.heap.UpToSlots h' → wpAny (model prog w) (A.mark (some (.ref e))) (execs (b₀ :: suite) env) Q E' { s with heap := h' }) :
    wpAny (model prog w) A (noteFrame (.ref e) env) (fun _ s₂ => wpAny (model prog w) A (setFlight (.ref e) none) (fun _ s₃ => wpAny (model prog w) A (handleBy (.ref e) env (.ExceptHandler (some t) none (b₀ :: suite) pos :: rest)) Q E s₃) E s₂) E s := by
  unfold noteFrame
  simp only [hf]
  refine wpAny_bind (wpAny_field he hd h1 ?_)
  rw [if_neg (by decide)]
  refine wpAny_entryW hfr hl hf he hkb hen hd (Array.getElem?_eq_some_iff.mp h1).1 h0 fun h1' hN => ?_
  obtain ⟨k1, k2, k3, k4⟩ := hN
  obtain ⟨oe2, vs2, tb, oT, ts, he2, hc2, hd2, h12, hnT, hTe, hT, hdT, h3⟩ := id k3
  have hsz3 : 3 < ts.size := (Array.getElem?_eq_some_iff.mp h3).1
  refine wpAny_setFlight_none (s := { s with heap := h1' }) he2 hd2 h12 hT hdT hsz3 ?_
  have other : ∀ {H : Heap} {f : Obj → Obj} b, b ≠ tb → (H.update tb f).get? b = H.get? b := fun b hb => Heap.get?_update_other _ _ (Ne.symm hb)
  have noRecord : ∀ b o, h1'.get? b = some o → (∀ vs, o.data ≠ .fields vs) → b ≠ tb := fun b o hb hnf q => by
    rw [q, hT] at hb; injection hb with hb; subst hb; exact hnf ts hdT
  generalize hH2 : h1'.update tb (Obj.mapFields (·.setIfInBounds 3 Value.none)) = H2
  have he3 : H2.get? e = some oe2 := by rw [← hH2]; exact (other e (Ne.symm hTe)).trans he2
  have hT3 : H2.get? tb = some (oT.mapFields (·.setIfInBounds 3 Value.none)) := by rw [← hH2]; exact Heap.get?_update_self _ hT (Obj.isFreed_of_fields (Obj.data_mapFields hdT _))
  have st2 : base.StaysIn H2 := fun b o hbo => by rw [← hH2]; exact (other b fun q => by rw [q, hnT] at hbo; cases hbo).trans (k1 b o hbo)
  have u2 : s.heap.UpToSlots H2 := fun b o hb hn => by
    obtain ⟨sl, e1⟩ := k4 b o hb hn
    exact ⟨sl, by rw [← hH2]; exact (other b (noRecord b _ e1 hn)).trans e1⟩
  refine wpAny_handleBy_builtin (X := X) (T := T) (b := true) hexc hnt hsub (hname H2 _ _ st2 u2 ⟨rfl, ⟨oe2, he3, hc2.1.trans hcls⟩, ?_⟩)
  rw [if_pos rfl]
  refine wpAny_setFlight_none (s := { s with heap := H2 }) he3 hd2 h12 hT3 (Obj.data_mapFields hdT _) (by simpa using hsz3) ?_
  refine k _ _ (fun b o hbo => (other b fun q => by rw [q, hnT] at hbo; cases hbo).trans (st2 b o hbo)) fun b o hb hn => ?_
  obtain ⟨sl, e1⟩ := u2 b o hb hn
  refine ⟨sl, (other b fun q => ?_).trans e1⟩
  rw [q, hT3] at e1
  have e2 : (oT.mapFields (·.setIfInBounds 3 Value.none)).data = o.data := congrArg (·.data) (Option.some.inj e1)
  exact hn _ (e2.symm.trans (Obj.data_mapFields hdT _))
end
noncomputable def PostTupF (Fs : List Addr) (s : Shared) (vs : Array Value) (v : Value) (s' : Shared) : Prop := ∃ I T, v = .ref I ∧ s'.heap.get? I = some ⟨.type "tuple_iterator", none, .fields #[.ref T, .int 0 0], #[]⟩ ∧
  (∃ o n, s'.heap.get? T = some o ∧ o.cls = .type "tuple" ∧ o.data = .seq vs n) ∧ s.heap.get? I = none ∧ s.heap.get? T = none ∧ I ≠ T ∧ KFr (fun _ => False) Fs s.heap s'.heap ∧ ∃ h' tk, s' = { s with heap := h', toks := tk }
theorem PostTupF.of {Fs : List Addr} {s s' : Shared} {vs : Array Value} {v : Value} (x : PostTupN s vs v s') : PostTupF Fs s vs v s' := by
  obtain ⟨I, T, e, e1, e2, e3, e4, e5, k⟩ := x
  exact ⟨I, T, e, e1, e2, e3, e4, e5, .of_kmu (.of_le k.le), k.eq⟩
theorem no_iter_int (x : Int) (t : Tok) : specialOf (.int x t) "__iter__" = pure none := by kernel_rfl
theorem no_item_int (x : Int) (t : Tok) : specialOf (.int x t) "__getitem__" = pure none := by kernel_rfl
theorem tyerr_exc : isSubtype (.type "TypeError") (.type "BaseException") = pure true := by rw [isSubtype_type]; kernel_rfl
theorem tyerr_meta : isSubtype (.type ((Manifest.find? "TypeError").elim "type" fun x => x.metatype)) (.type "tuple") = pure false := by rw [find?_eq_fast, isSubtype_type]; kernel_rfl
theorem tyerr_self : isSubtype (.type "TypeError") (.type "TypeError") = pure true := by rw [isSubtype_type]; kernel_rfl
section
variable {prog : Program} {w : World} {A : Around} {s : Shared} {E : Value → Shared → Prop}
theorem iter_int {x : Int} {t : Tok} {Q : Value → Shared → Prop} (hh : A.handled = none) (h : ∀ h' tk e, Heap.NewExc s.heap h' e "TypeError" → E (.ref e) { s with heap := h', toks := tk }) : wpAny (model prog w) A (pyIter (.int x t)) Q E s := by
  unfold pyIter
  rw [no_iter_int, no_item_int]
  refine wpAny_bind (wpAny_pure ?_)
  dsimp only
  refine wpAny_bind (wpAny_pure ?_)
  dsimp only
  refine wpAny_bind (wpAny_rule ?_)
  refine wpAny_bind (wpAny_of_eq (a := "int") (by kernel_rfl) ?_)
  exact PyProof.Rows.raiseError_exc PyProof.Rows.excClass_TypeError hh h (by decide)
end
section
variable {w : World} {A : Around} {E : Value → Shared → Prop} {s s₀ : Shared} {N : Nat} {m cm : Str → Option Value}
theorem ai_int1 {x : Int} {t : Tok} {bv : Value} {vals : List Value} {outer : List Env} (T : TopH w s.heap) (ok : OkA 101 A) (hfr : A.frames = some outer) (hO : OuterOk s.heap outer) (kf : KFs w (framesOf outer)) (hD : ∀ b ∈ framesOf outer, ∃ o es n, s.heap.get? b = some o ∧ o.data = .dict es n) (hb : Looks (model pw w) s.heap (bindArgs fdAi ⟨vals, []⟩) [("obj", .int x t), ("base_type", bv)])
    (hbv : bv ≠ .none) (hi : IsiD w s.heap (.int x t) bv false) : codeAny (model pw w) A (.call (.ref 93) ⟨vals, []⟩) (fun r s' => ∃ u, r = .ok (.ret u) ∧ PostTupF (framesOf outer) s #[.int x t] u s') s := by
  refine ai_pre T ok hb fun m cm s₁ F ho hbt => ?_
  have hfr2 : (A.deeper (envAi s.heap.objs.size)).frames = some (envAi s.heap.objs.size :: outer) := Around.frames_deeper hfr
  have ok2 : OkA 100 (A.deeper (envAi s.heap.objs.size)) := ok.deeper _
  generalize A.deeper (envAi s.heap.objs.size) = A1 at *
  refine ai_test T ok2 F ho hbt (fun z => nomatch z) hbv hi (fun h => nomatch h) fun _ s2 F2 => ?_
  have T2 := T.mono F2.keep
  refine wpAny_execs_cons (wpAny_Try_except ?_)
  refine wpAny_execs_cons (wpAny_Return_some (wpAny_Call_NameR (wpAny_Name (Var.bi T2 rfl (by rfl) rfl rfl (by kernel_rfl) (v := .builtin "iter") (by decide) (by rfl) _ _ _ _ s2 (fun _ _ e => e) ?_) (by decide))))
  refine Calls.callWith_builtin (by rfl) (Calls.evalArgs_plain (Calls.spliced_cons (wpAny_Name (F2.loc rfl rfl ho _ _ _ _ s2 (fun _ _ e => e) ?_) (by decide))))
  refine Calls.spliced_nil (call_iterB (iter_int (OkA.in1 (n := 99) ok2).hd fun h3 tk3 e hx => ?_))
  obtain ⟨ob, tt, he, hcls, hd⟩ := hx.there
  have hLn : s.heap.get? s.heap.objs.size = none := size_none (Nat.le_refl _)
  have he0 : s.heap.get? e = none := F2.kpAll.le |> fun k => by
    cases q : s.heap.get? e with
    | none => rfl
    | some o => have := k _ _ q; rw [hx.new] at this; cases this
  have up : ∀ {b : Addr} {o : Obj}, s.heap.get? b = some o → h3.get? b = some o := fun e => hx.keeps _ _ (F2.keep _ _ e)
  have hO3 : OuterOk h3 outer := hO.keep fun b o e _ => ⟨o, up e, rfl⟩
  generalize hB : hideAll s.heap (framesOf outer) = base
  have ns3 : h3.Ns (envAi s.heap.objs.size).locals m := F2.ns.keeps hx.keeps
  have TB : TopH w base := hB ▸ top_hideF T kf
  have frm : ∀ {h' : Heap} {tk : Nat}, base.StaysIn h' → h3.UpToSlots h' → Frm { s with heap := base } (envAi s.heap.objs.size) m cm { s2 with heap := h', toks := tk } := fun {h' tk} st u => by
    obtain ⟨h4, t4, e4⟩ := F2.eq
    refine ⟨⟨h', tk, by rw [e4]⟩, st, u.ns ns3, fun n c q => (by cases (show ([] : List (Str × Addr)).lookup n = some c from q)), by rw [← hB]; exact hide_of_none _ F2.newL, fun n c q => (by cases (show ([] : List (Str × Addr)).lookup n = some c from q)), F2.apart⟩
  refine try_caught (s := { s2 with heap := h3, toks := tk3 }) (base := base) (L := s.heap.objs.size) (a0 := tt) hfr2 rfl
    (Heap.FunFrames.cons (show ScopeKind.function ≠ ScopeKind.module by decide) rfl ns3 (by rw [← hB]; exact hide_of_none _ hLn) (hO3.fun_ fun L hL => by rw [← hB]; exact hideAll_none _ hL))
    (fun b o eb => up (of_hideAll _ (by rw [hB]; exact eb))) (by rw [← hB]; exact hide_of_none _ he0) he hcls hd rfl rfl tyerr_exc tyerr_meta tyerr_self (fun h' Q' E' st u q => ?_) fun h' E' st u => ?_
  · exact wpAny_Name (Var.bi (TB.mono st) rfl (by rfl) rfl rfl (by kernel_rfl) (v := .type "TypeError") (by decide) (by rfl) _ _ _ _ { s2 with heap := h', toks := tk3 } (fun _ _ e => e) q) (by decide)
  · have FB := frm (tk := tk3) st u
    refine wpAny_execs_cons (ai_ret TB FB (ds := [.atom (.int x t)]) (.cons (EvD.name (FB.loc rfl rfl ho) (.atom _)) .nil rfl) (its := #[.int x t]) (fun r => ?_) (by show (1 : Nat) ≤ sizeLine; decide) fun r s' P kk => ⟨r, rfl, ?_⟩)
    · cases r using RDs.consE with
      | cons r1 r2 => (first | cases r2 using RD.atomE | cases r2 using RDs.nilE | cases r2 using RD.strE | cases r2 using RD.intE | cases r2); (first | cases r1 using RD.atomE | cases r1 using RDs.nilE | cases r1 using RD.strE | cases r1 using RD.intE | cases r1); rfl
    · obtain ⟨I, T', e, e1, e2, e3, e3', e4, kp⟩ := P
      refine ⟨I, T', e, e1, e2, ?_, ?_, e4, fun b o _ eb => ⟨fun hF => ?_, fun hF => ?_⟩, ?_⟩
      · cases q : s.heap.get? I with
        | none => rfl
        | some o =>
          by_cases hF : I ∈ framesOf outer
          · obtain ⟨o', eo', hn⟩ := mem_frames hO hF
            rw [q] at eo'; cases eo'
            obtain ⟨sl, q2⟩ := u I o (up q) hn
            have := kk.le _ _ q2
            rw [e1] at this
            exact absurd (congrArg (·.data) (Option.some.inj this)).symm (hn _)
          · have : base.get? I = some o := by rw [← hB]; exact hideAll_get _ q hF
            rw [this] at e3; cases e3
      · cases q : s.heap.get? T' with
        | none => rfl
        | some o =>
          by_cases hF : T' ∈ framesOf outer
          · obtain ⟨o', es, nd, eo', hd'⟩ := hD T' hF
            rw [q] at eo'; cases eo'
            obtain ⟨sl, q2⟩ := u T' o (up q) fun vs z => by rw [hd'] at z; cases z
            have := kk.le _ _ q2
            obtain ⟨o2, n2, e5, c5, d5⟩ := e2
            rw [this] at e5
            cases e5
            rw [hd'] at d5
            cases d5
          · have : base.get? T' = some o := by rw [← hB]; exact hideAll_get _ q hF
            rw [this] at e3'; cases e3'
      · obtain ⟨o', eo', hn⟩ := mem_frames hO hF
        rw [eb] at eo'; cases eo'
        obtain ⟨sl, q⟩ := u b o (up eb) hn
        exact ⟨sl, kk.le _ _ q⟩
      · exact kk.le _ _ (st b o (by rw [← hB]; exact hideAll_get _ eb hF))
      · obtain ⟨h4, t4, e4⟩ := F2.eq
        obtain ⟨h5, t5, e5⟩ := kk.eq
        exact ⟨h5, t5, by rw [e5, e4]⟩
end
section
variable {prog : Program} {w : World} {A : Around} {E : Value → Shared → Prop} {s : Shared} {K : Frag} {x C : Addr} {ox : Obj} {od : Option Obj} {name : Str}
open Builtin Builtin.ObjectAttr in
theorem getq_bind2 {id owner : String} {g a : Value} {Q : Option Value → Shared → Prop} (X : K.In s.heap) (I : InstAt s.heap x ox C od) (slot : Slot owner "__getattribute__" id) (hsp : splitId id = some (owner, "__getattribute__")) (hkd : builtinKind id = some .slot) (entry : entryFor table id = some Builtin.«object.__getattribute__») (args : ∀ a b, argsOk id ⟨[a, b], []⟩)
    (hne : (Value.builtin id == .builtin "object.__getattribute__") = false) (hsub : mroIn K C (.type owner) = some true) (hga : findIn K (.ref C) "__getattribute__" = some (some (.builtin id))) (hk : findIn K (.ref C) "__getattr__" = some none)
    (hf : findObj K C od name = some (.bind g a))
    (h : wpAny (model prog w) A.in1 (PySem.call g [a, .ref x, .ref C]) (fun v s' => wpAny (model prog w) A (handedOut v) (fun v s'' => Q (some v) s'') (fun _ _ => False) s') (fun _ _ => False) { s with toks := s.toks + 1 }) :
    wpAny (model prog w) A (getAttr? (.ref x) name) Q E s := by
  have L0 := I.type (M := model prog w)
  have L1 := looks_findIn (M := model prog w) X hga
  have L2 := looks_findIn (M := model prog w) X hk
  have LF := looks_find (M := model prog w) X I hf
  unfold getAttr? getAttrBy? getAttrBy
  refine wpAny_bind (wpAny_mkText (wpAny_bind (wpAny_attempt (wpAny_holding (wpAny_bind (L0 _ _ _ _ (fun _ _ e => e) (wpAny_bind (L1 _ _ _ _ (fun _ _ e => e) ?_))))))))
  dsimp only
  rw [hne, Bool.and_false, if_neg (by decide)]
  unfold getAttrByItsOwn
  refine wpAny_bind ?_
  unfold hookBefore
  rw [if_pos (by rfl)]
  refine L2 _ _ _ _ (fun _ _ e => e) (wpAny_bind (wpAny_attempt (wpAny_holding ?_)))
  unfold callGetattribute
  rw [show (false && onTheHeap (Value.builtin id)) = false from rfl, if_neg (by decide)]
  unfold boundAndCalled
  rw [slot.bind]
  refine wpAny_bind (wpAny_pure ?_)
  show wpAny _ _ (PySem.call (.builtin id) [.ref x, .str name s.toks]) _ _ { s with toks := s.toks + 1 }
  refine wpAny_call (codeAny_call_builtin slot.plain entry ?_)
  refine @check_slot (model prog w) _ _ { s with toks := s.toks + 1 } id owner "__getattribute__" (.ref x) [.str name s.toks] [] _ hkd hsp (L0.andThen (looks_mroIn X hsub)) (args _ _) ?_
  unfold «object.__getattribute__»
  refine wpAny_bind (wpAny_pure ?_)
  refine wpAny_bind (wpAny_pure ?_)
  refine wpAny_bind (L0 _ _ _ _ (fun _ _ e => e) (wpAny_bind (LF _ _ _ _ (fun _ _ e => e) ?_)))
  show wpAny _ _ (holding [a] (PySem.call g [a, .ref x, .ref C]) >>= ret) _ _ _
  refine wpAny_bind (wpAny_holding (wpAny_mono h (fun v s' z => wpAny_pure ?_) fun _ _ z => z.elim))
  exact wpAny_mono z (fun v s2 hv => wpAny_pure hv) fun _ _ z => z.elim
theorem kitx_alias {w : World} {x C : Addr} {id owner : String} {H : Heap → Prop} (slot : Slot owner "__getattribute__" id) (hsp : splitId id = some (owner, "__getattribute__")) (hkd : builtinKind id = some .slot) (entry : entryFor table id = some Builtin.«object.__getattribute__») (args : ∀ a b, argsOk id ⟨[a, b], []⟩)
    (hne : (Value.builtin id == .builtin "object.__getattribute__") = false) (hsub : mroIn (K01 w) C (.type owner) = some true) (hga : findIn (K01 w) (.ref C) "__getattribute__" = some (some (.builtin id))) (hk : findIn (K01 w) (.ref C) "__getattr__" = some none)
    (hf : findObj (K01 w) C (some emptyD) "__class__" = some (.bind (.builtin "getset_descriptor.__get__") (.builtin "object.__class__"))) (hm : mroIn (K01 w) C (.type "object") = some true) (hc : (clsIn (K01 w) C).isSome = true)
    (hI : ∀ h, H h → ∃ ox, InstAt h x ox C (some emptyD)) : KitX (K01 w) (.ref x) (.ref C) H where
  ty := fun _ h _ p => let ⟨_, I⟩ := hI h p; I.type
  it := fun _ _ X _ => by
    obtain ⟨cd, hcD⟩ := Option.isSome_iff_exists.mp hc
    unfold clsIn at hcD
    split at hcD
    · rename_i c' d' cd' sl' ho
      intro A' Q' E' s' k q
      unfold isType loadHead
      exact wpAny_bind (wpAny_loadPart (k _ _ (X _ _ ho)) (wpAny_pure q))
    · cases hcD
  ne := fun h tp dd its n sl X htp => by
    obtain ⟨cd, hcD⟩ := Option.isSome_iff_exists.mp hc
    refine Bool.eq_false_iff.mpr fun q => ?_
    have e : C = tp := Value.ref.inj (beq_iff_eq.mp q)
    subst e
    unfold clsIn at hcD
    split at hcD
    · rename_i c' d' cd' sl' ho
      have z := (X _ _ ho).symm.trans htp
      cases z
    · cases hcD
  ca := fun {prog w' A E Q s} X p k => by
    obtain ⟨ox, I⟩ := hI _ p
    exact getq_bind2 X I slot hsp hkd entry args hne hsub hga hk hf (wpAny_call (class_get (s := { s with toks := s.toks + 1 }) (ox := ox) (od := some emptyD) X I hm (handed_on rfl k)))
noncomputable def PairAt (a : Addr) (h : Heap) : Prop := ∃ d vs n, h.get? a = some ⟨.ref 257, some d, .seq vs n, #[]⟩ ∧ h.get? d = some emptyD
theorem kitx_pair (w : World) (a : Addr) : KitX (K01 w) (.ref a) (.ref 257) (PairAt a) :=
  kitx_alias slot_tga (by decide +kernel) (by decide +kernel) entry_tga args_tga (by decide +kernel) (by kernel_rfl) (by kernel_rfl) (by kernel_rfl) (by kernel_rfl) (by kernel_rfl) (by kernel_rfl)
    fun h ⟨d, vs, n, e, ed⟩ => ⟨_, e, rfl, rfl, ed⟩
noncomputable def BookIn (a : Addr) (h : Heap) : Prop := ∃ d es ep, h.get? a = some ⟨.ref 162, some d, .dict es ep, #[some (.type "list")]⟩ ∧ h.get? d = some emptyD
theorem kitx_book (w : World) (a : Addr) : KitX (K01 w) (.ref a) (.ref 162) (BookIn a) :=
  kitx_alias slot_dga (by decide +kernel) (by decide +kernel) entry_dga args_dga (by decide +kernel) (by kernel_rfl) (by kernel_rfl) (by kernel_rfl) (by kernel_rfl) (by kernel_rfl) (by kernel_rfl)
    fun h ⟨d, es, ep, e, ed⟩ => ⟨_, e, rfl, rfl, ed⟩
end
theorem slot_liga : Slot "list_iterator" "__getattribute__" "object.__getattribute__" :=
  .of (owner := "object") (n := "__getattribute__") (by rw [typeLookup_type, builtinLookup_eq_fast]; kernel_rfl) (by decide +kernel) (by decide +kernel) (by decide +kernel)
    (by first | exact .inl (by decide +kernel) | exact .inr (by decide +kernel)) (by rw [isSubtype_type]; kernel_rfl)
theorem li_lk_class : typeLookup (.type "list_iterator") "__class__" = pure (some (.builtin "object.__class__")) := by rw [typeLookup_type, builtinLookup_eq_fast]; kernel_rfl
theorem li_sub_owner : isSubtype (.type "list_iterator") (.type (".".intercalate ("object.__class__".cutAt '.').dropLast)) = pure true := by
  rw [PySem.F.owner_object_class, isSubtype_type]; kernel_rfl
section
variable {prog : Program} {w : World} {A : Around} {E : Value → Shared → Prop} {h : Heap} {g : Array GenState} {d : Drawn} {t : Nat} {os : OsState} {a : Addr} {o : Obj}
theorem class_get_li {R : Result → Shared → Prop} (hx : h.get? a = some o) (hc : o.cls = .type "list_iterator") (hq : R (.ok (.ret (.type "list_iterator"))) ⟨h, g, d, t, os⟩) :
    codeAny (model prog w) A (.call (.builtin "getset_descriptor.__get__") ⟨[.builtin "object.__class__", .ref a, .type "list_iterator"], []⟩) R ⟨h, g, d, t, os⟩ := by
  have hT : (⟨h, g, d, t, os⟩ : Shared).TypeIs (.ref a) "list_iterator" := ⟨_, hx, hc⟩
  have hT5 : (⟨h, g, d, t, os⟩ : Shared).TypeIs (.builtin "object.__class__") "getset_descriptor" := PySem.F.typeOf_object_class
  have f8 := li_sub_owner
  refine codeAny_call_builtin PySem.F.slot_gs_get.plain PySem.F.entry_gs_get (PySem.F.slot_gs_get.check _ _ _ _ _ _ _ _ hT5 (PySem.F.args_gs_get _ _ _) ?_)
  repeat (any_goals (first | assumption | wp_step))
  refine ⟨Code.quiet_builtin _ (by decide +kernel), codeAny_builtin PySem.F.entry_object_class ?_⟩
  repeat (any_goals (first | assumption | wp_step))
theorem class_entry_li {tk : Tok} {Q : Fin → Shared → Prop} (hx : h.get? a = some o) (hc : o.cls = .type "list_iterator") (hq : Q (.done (.ret (.type "list_iterator"))) ⟨h, g, d, t, os⟩) :
    wpAny (model prog w) A (Builtin.«object.__getattribute__» ⟨[.ref a, .str "__class__" tk], []⟩) Q E ⟨h, g, d, t, os⟩ := by
  have hT : (⟨h, g, d, t, os⟩ : Shared).TypeIs (.ref a) "list_iterator" := ⟨_, hx, hc⟩
  have hT5 : (⟨h, g, d, t, os⟩ : Shared).TypeIs (.builtin "object.__class__") "getset_descriptor" := PySem.F.typeOf_object_class
  have f4 := li_lk_class
  have f5 := PySem.F.typeOf_object_class
  have f6 := PySem.F.slot_gs_get.lookup
  have f7 := PySem.F.slot_gs_set.lookup
  repeat (any_goals (first | assumption | wp_step))
  refine class_get_li hx hc ?_
  repeat (any_goals (first | assumption | wp_step))
theorem class_call_li {tk : Tok} {R : Result → Shared → Prop} (hx : h.get? a = some o) (hc : o.cls = .type "list_iterator") (hq : R (.ok (.ret (.type "list_iterator"))) ⟨h, g, d, t, os⟩) :
    codeAny (model prog w) A (.call (.builtin "object.__getattribute__") ⟨[.ref a, .str "__class__" tk], []⟩) R ⟨h, g, d, t, os⟩ :=
  codeAny_call_builtin slot_liga.plain PySem.F.entry_object_getattribute (slot_liga.check _ _ _ _ _ _ _ _ (show (⟨h, g, d, t, os⟩ : Shared).TypeIs (.ref a) "list_iterator" from ⟨_, hx, hc⟩) (PySem.F.args_object_getattribute_2 _ _) (class_entry_li hx hc hq))
theorem class_by_li {tk : Tok} {Q : Value → Shared → Prop} (hx : h.get? a = some o) (hc : o.cls = .type "list_iterator") (hq : Q (.type "list_iterator") ⟨h, g, d, t, os⟩) : wpAny (model prog w) A (getAttrBy (.ref a) (.str "__class__" tk) false) Q E ⟨h, g, d, t, os⟩ := by
  have hT : (⟨h, g, d, t, os⟩ : Shared).TypeIs (.ref a) "list_iterator" := ⟨_, hx, hc⟩
  have f2 := slot_liga.lookup
  have f3 := slot_liga.bind (.ref a)
  repeat (any_goals (first | assumption | wp_step))
  refine class_call_li hx hc ?_
  repeat (any_goals (first | assumption | wp_step))
theorem class_attr_li {Q : Option Value → Shared → Prop} (hx : h.get? a = some o) (hc : o.cls = .type "list_iterator") (hq : Q (some (.type "list_iterator")) ⟨h, g, d, t + 1, os⟩) : wpAny (model prog w) A (getAttr? (.ref a) "__class__") Q E ⟨h, g, d, t, os⟩ := by
  unfold getAttr? getAttrBy?
  repeat (any_goals (first | assumption | with_reducible apply class_by_li hx hc | wp_step))
end
theorem kitx_li {K : Frag} {a : Addr} : KitX K (.ref a) (.type "list_iterator") (KitAt a "list_iterator") := kitx_of kitAt_ty (fun {_ _ _ _ _ s} p k => by obtain ⟨h, g, d, t, os⟩ := s; obtain ⟨o, h1, h2⟩ := p; exact class_attr_li h1 h2 k)
section
variable {w : World} {A : Around} {E : Value → Shared → Prop} {s : Shared}
theorem isi_one {x t c : Value} {H : Heap → Prop} {b : Bool} (Z : KitX (K01 w) x t H) (T : TopH w s.heap) (p : H s.heap) (e : kitOne (K01 w) t c = some b) (hx : x ≠ .builtin "__main__.__loader__#opaque") : wpAny (model pw w) A (PySem.call (.builtin "isinstance") [x, c]) (PostVal s (.bool b)) E s :=
  kia_one Z T.K p e hx fun tk => ⟨rfl, Kp.tk s tk⟩
theorem isi_tup {x t : Value} {H : Heap → Prop} {b : Bool} {tp : Addr} {dd : Option Addr} {its : List Value} {n : Nat} {sl : Array (Option Value)} (Z : KitX (K01 w) x t H) (T : TopH w s.heap) (p : H s.heap) (htp : s.heap.get? tp = some ⟨.type "tuple", dd, .seq its.toArray n, sl⟩) (e : kitAny (K01 w) t its = some b) (hx : x ≠ .builtin "__main__.__loader__#opaque") :
    wpAny (model pw w) A (PySem.call (.builtin "isinstance") [x, .ref tp]) (PostVal s (.bool b)) E s :=
  kia_tup Z T.K p htp e hx fun tk => ⟨rfl, Kp.tk s tk⟩
end
structure ItAs (w : World) (Fs : List Addr) (s : Shared) (S : Addr → Prop) (ds : List D) (v : Value) (s' : Shared) : Prop where
  it : ∃ I fp wr P St, v = .ref I ∧ (∀ A : Around, A.handled = none → Walks pw w A I fp wr ds.length P St) ∧ St 0 s'.heap ∧ (∀ b ∈ fp, Fr1 S s.heap b ∧ s'.heap.get? b ≠ none) ∧ I ∈ fp ∧ (∀ b ∈ wr, s.heap.get? b = none ∨ ∃ o, s.heap.get? b = some o ∧ o.cls = .type "list_iterator") ∧ (∀ i h, St i h → ∀ b ∈ wr, h.get? b ≠ none) ∧
    ∀ i u, P i u → ∃ d, ds[i]? = some d ∧ RD s'.heap (fun a => Fr1 S s.heap a ∧ a ∉ wr) u d
  kf : KFr (fun _ => False) Fs s.heap s'.heap
  sh : ∃ h' tk, s' = { s with heap := h', toks := tk }
section
variable {w : World} {A : Around} {E : Value → Shared → Prop} {s s' : Shared} {S : Addr → Prop} {ds : List D} {v : Value} {Fs : List Addr}
theorem ItAs.tup {vs : Array Value} {I T : Addr} (eI : s'.heap.get? I = some ⟨.type "tuple_iterator", none, .fields #[.ref T, .int 0 0], #[]⟩) (eT : SeqOf s'.heap T vs) (sI : s.heap.get? I = none) (sT : Fr1 S s.heap T) (hne : I ≠ T)
    (r : RDs s'.heap (fun a => Fr1 S s.heap a ∧ a ≠ I) vs.toList ds) (kf : KFr (fun _ => False) Fs s.heap s'.heap) (sh : ∃ h' tk, s' = { s with heap := h', toks := tk }) : ItAs w Fs s S ds (.ref I) s' := by
  refine ⟨⟨I, [I, T], [I], fun i v => vs[i]? = some v, fun i h => h.IsTupleIter I T i ∧ SeqOf h T vs, rfl, fun A hA => ?_, ⟨⟨_, eI, rfl, rfl⟩, eT⟩, fun b hb => ?_, .head _, fun b hb => .inl (by rw [List.mem_singleton.mp hb]; exact sI), fun _ _ st b hb => by rw [List.mem_singleton.mp hb]; obtain ⟨o, e, _⟩ := st.1; exact some_ne e, fun i u hu => ?_⟩, kf, sh⟩
  · have := walks_seq (prog := pw) (w := w) hA I T (Ne.symm hne) vs
    rwa [← Array.length_toList, r.length] at this
  · rcases List.mem_cons.mp hb with rfl | hb
    · exact ⟨.inr sI, some_ne eI⟩
    · rcases List.mem_singleton.mp hb with rfl
      obtain ⟨o, n, e, _⟩ := eT
      exact ⟨sT, some_ne e⟩
  · obtain ⟨d, hd, rd⟩ := r.get' (i := i) (v := u) (by rw [Array.getElem?_toList]; exact hu)
    exact ⟨d, hd, rd.sub fun a h => ⟨h.1, fun z => h.2 (List.mem_singleton.mp z)⟩⟩
theorem ItAs.tupF {vs : Array Value} (x : PostTupF Fs s vs v s') (r : RDs s'.heap (fun a => S a ∧ s.heap.get? a ≠ none) vs.toList ds) : ItAs w Fs s S ds v s' := by
  obtain ⟨I, T, rfl, eI, ⟨o, n, eT, cT, dT⟩, nI, nT, hne, kf, sh⟩ := x
  exact ItAs.tup eI ⟨o, n, eT, dT⟩ nI (.inr nT) hne (r.sub fun a h => ⟨.inl h.1, fun z => h.2 (z ▸ nI)⟩) kf sh
theorem ItAs.lst {vs : Array Value} {I L : Addr} {k : Nat} (eI : s'.heap.IsListIter I L 0) (eL : s'.heap.IsList L vs) (sI : Fr1 S s.heap I) (wI : s.heap.get? I = none ∨ ∃ o, s.heap.get? I = some o ∧ o.cls = .type "list_iterator") (sL : Fr1 S s.heap L) (hne : L ≠ I)
    (r : RDs s'.heap (fun a => Fr1 S s.heap a ∧ a ≠ I) vs.toList ds) (kf : KFr (fun _ => False) Fs s.heap s'.heap) (sh : ∃ h' tk, s' = { s with heap := h', toks := tk }) : ItAs w Fs s S ds (.ref I) s' := by
  refine ⟨⟨I, [I, L], [I], fun i v => vs[i]? = some v, fun i h => h.IsListIter I L i ∧ h.IsList L vs, rfl, fun A hA => ?_, ⟨eI, eL⟩, fun b hb => ?_, .head _, fun b hb => by rw [List.mem_singleton.mp hb]; exact wI, fun _ _ st b hb => by rw [List.mem_singleton.mp hb]; obtain ⟨o, e, _⟩ := st.1; exact some_ne e, fun i u hu => ?_⟩, kf, sh⟩
  · have := Walks.list (prog := pw) (w := w) hA I L hne vs
    rwa [← Array.length_toList, r.length] at this
  · rcases List.mem_cons.mp hb with rfl | hb
    · obtain ⟨o, e, _⟩ := eI
      exact ⟨sI, some_ne e⟩
    · rcases List.mem_singleton.mp hb with rfl
      obtain ⟨o, e, _⟩ := eL
      exact ⟨sL, some_ne e⟩
  · obtain ⟨d, hd, rd⟩ := r.get' (i := i) (v := u) (by rw [Array.getElem?_toList]; exact hu)
    exact ⟨d, hd, rd.sub fun a h => ⟨h.1, fun z => h.2 (List.mem_singleton.mp z)⟩⟩
noncomputable def signs (x : Str) : List D := x.cps.toList.map fun c => .str ⟨#[c]⟩
theorem iter_signs {x : Str} {t : Tok} (ha : x.cps.all (· < 128) = true) : wpAny (model pw w) A (pyIter (.str x t)) (fun r s' => ItAs w Fs s S (signs x) r s') E s := by
  refine wpAny_pyIter_ascii ha ?_
  have k : Le s.heap (s.heap.push { cls := .type "str_ascii_iterator", dict := none, data := .fields #[.str x t, .int 0 0] }) := fun b o e => Heap.get?_push_of_some _ e
  have e0 : (s.heap.push { cls := .type "str_ascii_iterator", dict := none, data := .fields #[.str x t, .int 0 0] }).get? s.heap.objs.size = some { cls := .type "str_ascii_iterator", dict := none, data := .fields #[.str x t, .int 0 0] } := Heap.get?_push_size _ rfl
  refine ⟨⟨s.heap.objs.size, [s.heap.objs.size], [s.heap.objs.size], SignAt x, fun i h => h.IsStrIter s.heap.objs.size "str_ascii_iterator" x t i, rfl, fun A hA => ?_, ⟨_, e0, rfl, rfl⟩, fun b hb => ?_, .head _, fun b hb => .inl (by rw [List.mem_singleton.mp hb]; exact new_none _), fun _ _ st b hb => by rw [List.mem_singleton.mp hb]; obtain ⟨o, e, _⟩ := st; exact some_ne e, fun i u hu => ?_⟩, .of_kmu (.of_le k), _, _, rfl⟩
  · have := Walks.strAscii (prog := pw) (w := w) hA s.heap.objs.size x t
    have e : (signs x).length = x.cps.size := by unfold signs; rw [List.length_map, Array.length_toList]
    rwa [← e] at this
  · rcases List.mem_singleton.mp hb with rfl
    exact ⟨.inr (new_none _), some_ne e0⟩
  · obtain ⟨c, u', e1, rfl⟩ := hu
    exact ⟨.str ⟨#[c]⟩, by unfold signs; rw [List.getElem?_map, Array.getElem?_toList, e1]; rfl, .str _ _⟩
theorem iter_inst {K : Frag} {a C : Addr} {ox : Obj} {od : Option Obj} {owner id : String} {Q : Value → Shared → Prop} (X : K.In s.heap) (I : InstAt s.heap a ox C od) (hf : findIn K (.ref C) "__iter__" = some (some (.builtin id))) (slot : Slot owner "__iter__" id)
    (h : wpAny (model pw w) A (PySem.call (.builtin id) [.ref a]) (fun it s' => ∃ T' r, s'.TypeIs it T' ∧ typeLookup (.type T') "__next__" = pure (some r) ∧ Q it s') E s) : wpAny (model pw w) A (pyIter (.ref a)) Q E s := by
  have L : Looks (model pw w) s.heap (specialOf (.ref a) "__iter__") (some (.builtin id)) := I.type.andThen (looks_findIn X hf)
  unfold pyIter
  refine wpAny_bind (L.here ?_)
  show wpAny _ A (callSpecialIfBoundUnlessNone? (.ref a) "__iter__" _ >>= _) Q E s
  refine wpAny_bind ?_
  simp only [callSpecialIfBoundUnlessNone?, bindSpecialIfBound?]
  refine wpAny_holding (wpAny_bind (wpAny_bind (L.here ?_)))
  simp only [slot.bind]
  refine wpAny_bind (wpAny_askSetting (wpAny_ite ?_))
  have fin : ∀ {refuse : Sem Value} {Q' : Option Value → Shared → Prop}, wpAny (model pw w) A (PySem.call (.builtin id) [.ref a]) (fun v => Q' (some v)) E s → wpAny (model pw w) A (if (Value.builtin id == Value.none) = true then (refuse >>= fun v => pure (some v)) else (PySem.call (.builtin id) [.ref a] >>= fun v => pure (some v))) Q' E s := fun hc => by
    simp only [builtin_beq_none, Bool.false_eq_true, if_false]
    exact wpAny_bind (wpAny_mono hc (fun v s' h' => wpAny_pure h') fun _ _ h' => h')
  have goal2 : wpAny (model pw w) A (PySem.call (.builtin id) [.ref a]) (fun v s' => wpAny (model pw w) A (do match ← specialOf v "__next__" with
      | none => rule "iter.non-iterator"; raiseError "TypeError" s!"iter() returned non-iterator of type '{← typeNameOf v}'"
      | some _ => pure v) Q E s') E s := wpAny_mono h (fun it s' h' => by
    obtain ⟨T', r, hT', hl, hQ⟩ := h'
    exact wpAny_bind (wpAny_specialOf hT' hl (wpAny_pure hQ))) fun _ _ q => q
  split
  · exact wpAny_bind (wpAny_pure (wpAny_pure (fin goal2)))
  · exact wpAny_tryCatch (wpAny_bind (wpAny_pure (wpAny_pure (fin goal2))))
theorem iter257 (w : World) : findIn (K01 w) (.ref 257) "__iter__" = some (some (.builtin "tuple.__iter__")) := by kernel_rfl
theorem tup257 (w : World) : mroIn (K01 w) 257 (.type "tuple") = some true := by kernel_rfl
theorem iter_pairK (T : TopH w s.heap) {a d : Addr} {vs : Array Value} {n : Nat} (e : s.heap.get? a = some ⟨.ref 257, some d, .seq vs n, #[]⟩) (ed : s.heap.get? d = some emptyD) (sa : S a) (r : RDs s.heap S vs.toList ds) : wpAny (model pw w) A (pyIter (.ref a)) (fun r s' => ItAs w Fs s S ds r s') E s := by
  have I : InstAt s.heap a ⟨.ref 257, some d, .seq vs n, #[]⟩ 257 (some emptyD) := ⟨e, rfl, rfl, ed⟩
  refine iter_inst T.K I (iter257 w) PySem.F.slot_tuple_iter (wpAny_call (codeAny_call_builtin PySem.F.slot_tuple_iter.plain PySem.F.entry_tuple_iter ?_))
  refine @check_slot (model pw w) _ _ s "tuple.__iter__" "tuple" "__iter__" (.ref a) [] [] _ (by decide +kernel) (by decide +kernel) (I.type.andThen (looks_mroIn T.K (tup257 w))) (PySem.F.args_tuple_iter_1 _) ?_
  show wpAny _ _ (do ret (← newFields "tuple_iterator" [.ref a, rawInt 0])) _ _ s
  have k : Le s.heap (s.heap.push { cls := .type "tuple_iterator", dict := none, data := .fields #[.ref a, .int 0 0] }) := fun b o e => Heap.get?_push_of_some _ e
  have e0 : (s.heap.push { cls := .type "tuple_iterator", dict := none, data := .fields #[.ref a, .int 0 0] }).get? s.heap.objs.size = some { cls := .type "tuple_iterator", dict := none, data := .fields #[.ref a, .int 0 0] } := Heap.get?_push_size _ rfl
  refine wpAny_bind (wpAny_newObj_type (wpAny_pure ⟨"tuple_iterator", _, ⟨_, Heap.get?_push_size _ rfl, rfl⟩, PySem.F.slot_tuple_iterator_next.lookup, ?_⟩))
  refine ItAs.tup e0 ⟨_, n, k _ _ e, rfl⟩ (new_none _) (.inl sa) (fun z => ?_) ((r.dom.le k).sub fun b h => ⟨.inl h.1, fun z => h.2 (z ▸ new_none _)⟩) (.of_kmu (.of_le k)) ⟨_, _, rfl⟩
  exact absurd (Heap.lt_size e) (by rw [z]; exact Nat.lt_irrefl _)
theorem iter_lstK {L : Addr} {vs : Array Value} (hl : s.heap.IsList L vs) (sL : S L) (r : RDs s.heap S vs.toList ds) : wpAny (model pw w) A (pyIter (.ref L)) (fun r s' => ItAs w Fs s S ds r s') E s := by
  refine wpAny_pyIter_list hl ?_
  have k : Le s.heap (s.heap.push { cls := .type "list_iterator", dict := none, data := .fields #[.ref L, .int 0 0] }) := fun b o e => Heap.get?_push_of_some _ e
  have e0 : (s.heap.push { cls := .type "list_iterator", dict := none, data := .fields #[.ref L, .int 0 0] }).get? s.heap.objs.size = some { cls := .type "list_iterator", dict := none, data := .fields #[.ref L, .int 0 0] } := Heap.get?_push_size _ rfl
  obtain ⟨o, e, c, n, hd⟩ := hl
  refine ItAs.lst (k := 0) ⟨_, e0, rfl, rfl⟩ ⟨o, k _ _ e, c, n, hd⟩ (.inr (new_none _)) (.inl (new_none _)) (.inl sL) (fun z => ?_) ((r.dom.le k).sub fun b h => ⟨.inl h.1, fun z => h.2 (z ▸ new_none _)⟩) (.of_kmu (.of_le k)) ⟨_, _, rfl⟩
  exact absurd (Heap.lt_size e) (by rw [z]; exact Nat.lt_irrefl _)
theorem iter_tupK {L : Addr} {vs : Array Value} (hl : s.heap.IsTuple L vs) (sL : S L) (r : RDs s.heap S vs.toList ds) : wpAny (model pw w) A (pyIter (.ref L)) (fun r s' => ItAs w Fs s S ds r s') E s := by
  refine wpAny_pyIter_tuple hl ?_
  have k : Le s.heap (s.heap.push { cls := .type "tuple_iterator", dict := none, data := .fields #[.ref L, .int 0 0] }) := fun b o e => Heap.get?_push_of_some _ e
  have e0 : (s.heap.push { cls := .type "tuple_iterator", dict := none, data := .fields #[.ref L, .int 0 0] }).get? s.heap.objs.size = some { cls := .type "tuple_iterator", dict := none, data := .fields #[.ref L, .int 0 0] } := Heap.get?_push_size _ rfl
  obtain ⟨o, e, c, n, hd⟩ := hl
  refine ItAs.tup e0 ⟨o, n, k _ _ e, hd⟩ (new_none _) (.inl sL) (fun z => ?_) ((r.dom.le k).sub fun b h => ⟨.inl h.1, fun z => h.2 (z ▸ new_none _)⟩) (.of_kmu (.of_le k)) ⟨_, _, rfl⟩
  exact absurd (Heap.lt_size e) (by rw [z]; exact Nat.lt_irrefl _)
theorem iter_liK {I L : Addr} {vs : Array Value} (hi : s.heap.IsListIter I L 0) (hl : s.heap.IsList L vs) (sI : S I) (sL : S L) (hne : L ≠ I) (r : RDs s.heap (fun a => S a ∧ a ≠ I) vs.toList ds) : wpAny (model pw w) A (pyIter (.ref I)) (fun r s' => ItAs w Fs s S ds r s') E s := by
  refine wpAny_pyIter_listiter hi ?_
  exact ItAs.lst (k := 0) hi hl (.inl sI) (.inr (let ⟨o, e, c, _⟩ := hi; ⟨o, e, c⟩)) (.inl sL) hne (r.sub fun a h => ⟨.inl h.1, h.2⟩) (KFr.refl) ⟨_, _, rfl⟩
end
inductive BaseK where | b0 | b1 | b2
noncomputable def BaseV (w : World) (h : Heap) : BaseK → List Value → Value → Prop
  | .b0, args, bv => args = [] ∧ bv = .ref 85
  | .b1, args, bv => ∃ T dd n sl, args = [.ref T] ∧ bv = .ref T ∧ h.get? T = some ⟨.type "tuple", dd, .seq [.type "str", .ref 257].toArray n, sl⟩
  | .b2, args, bv => args = [.ref 257] ∧ bv = .ref 257
theorem BaseV.mono {w : World} {h h' : Heap} {b : BaseK} {args : List Value} {bv : Value} (k : Le h h') (x : BaseV w h b args bv) : BaseV w h' b args bv := by
  cases b with
  | b0 => exact x
  | b1 => obtain ⟨T, dd, n, sl, e1, e2, e3⟩ := x; exact ⟨T, dd, n, sl, e1, e2, k _ _ e3⟩
  | b2 => exact x
theorem BaseV.ne {w : World} {h : Heap} {b : BaseK} {args : List Value} {bv : Value} (x : BaseV w h b args bv) : bv ≠ .none := by
  cases b with
  | b0 => rw [x.2]; exact fun z => nomatch z
  | b1 => obtain ⟨T, dd, n, sl, e1, e2, e3⟩ := x; rw [e2]; exact fun z => nomatch z
  | b2 => rw [x.2]; exact fun z => nomatch z
theorem K_85 (w : World) : (K01 w).lookup 85 = some ⟨.type "tuple", none, .seq #[.type "str", .type "bytes"] 0, #[]⟩ := by kernel_rfl
theorem BaseV.binds {w : World} {h : Heap} {b : BaseK} {args : List Value} {bv v : Value} (T : TopH w h) (x : BaseV w h b args bv) : Looks (model pw w) h (bindArgs fdAi ⟨v :: args, []⟩) [("obj", v), ("base_type", bv)] := by
  cases b with
  | b0 => obtain ⟨rfl, rfl⟩ := x; exact Looks.of_peek T.K (by kernel_rfl)
  | b1 => obtain ⟨T', dd, n, sl, rfl, rfl, e3⟩ := x; exact Looks.of_peek T.K (by kernel_rfl)
  | b2 => obtain ⟨rfl, rfl⟩ := x; exact Looks.of_peek T.K (by kernel_rfl)
noncomputable def isBase : BaseK → Bool → Bool → Bool → Bool
  | .b0, x, _, _ => x
  | .b1, _, x, _ => x
  | .b2, _, _, x => x
theorem isi_base {w : World} {h : Heap} {x t bv : Value} {H : Heap → Prop} {b : BaseK} {args : List Value} {r0 r1 r2 : Bool} (Z : KitX (K01 w) x t H) (hp : ∀ h', Le h h' → H h') (hx : x ≠ .builtin "__main__.__loader__#opaque") (B : BaseV w h b args bv)
    (e0 : kitAny (K01 w) t [.type "str", .type "bytes"] = some r0) (e1 : kitAny (K01 w) t [.type "str", .ref 257] = some r1) (e2 : kitOne (K01 w) t (.ref 257) = some r2) : IsiD w h x bv (isBase b r0 r1 r2) := fun A s E ok T k => by
  cases b with
  | b0 => obtain ⟨rfl, rfl⟩ := B; exact isi_tup Z T (hp _ k) (T.K _ _ (K_85 w)) e0 hx
  | b1 => obtain ⟨T', dd, n, sl, rfl, rfl, e3⟩ := B; exact isi_tup Z T (hp _ k) (k _ _ e3) e1 hx
  | b2 => obtain ⟨rfl, rfl⟩ := B; exact isi_one Z T (hp _ k) e2 hx
section
variable {w : World} {h : Heap} {b : BaseK} {args : List Value} {bv : Value}
theorem isb_str (B : BaseV w h b args bv) (x : Str) (t : Tok) : IsiD w h (.str x t) bv (isBase b true true false) :=
  isi_base kitx_str (fun _ _ => trivial) (fun z => nomatch z) B (by kernel_rfl) (by kernel_rfl) (by kernel_rfl)
theorem isb_int (B : BaseV w h b args bv) (x : Int) (t : Tok) : IsiD w h (.int x t) bv (isBase b false false false) :=
  isi_base kitx_int (fun _ _ => trivial) (fun z => nomatch z) B (by kernel_rfl) (by kernel_rfl) (by kernel_rfl)
theorem isb_pair (B : BaseV w h b args bv) {a : Addr} (p : PairAt a h) : IsiD w h (.ref a) bv (isBase b false true true) :=
  isi_base (kitx_pair w a) (fun h' k => let ⟨d, vs, n, e, ed⟩ := p; ⟨d, vs, n, k _ _ e, k _ _ ed⟩) (fun z => nomatch z) B (by kernel_rfl) (by kernel_rfl) (by kernel_rfl)
theorem isb_list (B : BaseV w h b args bv) {a : Addr} (p : KitAt a "list" h) : IsiD w h (.ref a) bv (isBase b false false false) :=
  isi_base kitx_list (fun h' k => let ⟨o, e, c⟩ := p; ⟨o, k _ _ e, c⟩) (fun z => nomatch z) B (by kernel_rfl) (by kernel_rfl) (by kernel_rfl)
theorem isb_tup (B : BaseV w h b args bv) {a : Addr} (p : KitAt a "tuple" h) : IsiD w h (.ref a) bv (isBase b false false false) :=
  isi_base kitx_tuple (fun h' k => let ⟨o, e, c⟩ := p; ⟨o, k _ _ e, c⟩) (fun z => nomatch z) B (by kernel_rfl) (by kernel_rfl) (by kernel_rfl)
theorem isb_li (B : BaseV w h b args bv) {a : Addr} (p : KitAt a "list_iterator" h) : IsiD w h (.ref a) bv (isBase b false false false) :=
  isi_base kitx_li (fun h' k => let ⟨o, e, c⟩ := p; ⟨o, k _ _ e, c⟩) (fun z => nomatch z) B (by kernel_rfl) (by kernel_rfl) (by kernel_rfl)
theorem isb_book (B : BaseV w h b args bv) {a : Addr} (p : BookIn a h) : IsiD w h (.ref a) bv (isBase b false false false) :=
  isi_base (kitx_book w a) (fun h' k => let ⟨d, es, ep, e, ed⟩ := p; ⟨d, es, ep, k _ _ e, k _ _ ed⟩) (fun z => nomatch z) B (by kernel_rfl) (by kernel_rfl) (by kernel_rfl)
end
theorem ItAs.from {w : World} {Fs : List Addr} {s s1 s' : Shared} {S : Addr → Prop} {ds : List D} {v : Value} (x : ItAs w Fs s1 S ds v s') (k : Kp s s1) : ItAs w Fs s S ds v s' := by
  obtain ⟨⟨I, fp, wr, P, St, e, W, st, hf, hI, hw, hal, hP⟩, kf, sh⟩ := x
  have up : ∀ {a : Addr}, Fr1 S s1.heap a → Fr1 S s.heap a := fun h => h.imp id fun z => fresh_le k.le z
  refine ⟨⟨I, fp, wr, P, St, e, W, st, fun b hb => ⟨up (hf b hb).1, (hf b hb).2⟩, hI, fun b hb => ?_, hal, fun i u hu => ?_⟩, (KFr.of_kmu (.of_le k.le)).trans kf, ?_⟩
  · rcases hw b hb with h | ⟨o, h, c⟩
    · exact .inl (fresh_le k.le h)
    · cases q : s.heap.get? b with
      | none => exact .inl rfl
      | some o' =>
        have := k.le _ _ q
        rw [h] at this
        cases this
        exact .inr ⟨o, rfl, c⟩
  · obtain ⟨d, hd, r⟩ := hP i u hu
    exact ⟨d, hd, r.sub fun a h => ⟨up h.1, h.2⟩⟩
  · obtain ⟨h1, t1, rfl⟩ := k.eq
    obtain ⟨h2, t2, rfl⟩ := sh
    exact ⟨h2, t2, rfl⟩
inductive SV where
  | none
  | th (t : Th)
  | lst (ts : List Th)
  | tup (ts : List Th)
  | li (ts : List Th)
  | keys (ks : List Str)
noncomputable def signsT (x : Str) : List Th := x.cps.toList.map fun c => .s ⟨#[c]⟩
theorem signs_eq (x : Str) : signs x = (signsT x).map Th.d := by unfold signs signsT; rw [List.map_map]; rfl
noncomputable def SV.out : BaseK → SV → List Th
  | _, .none => []
  | .b0, .th (.p a b) => [.s a, .s b]
  | .b2, .th (.s x) => signsT x
  | _, .th t => [t]
  | _, .lst ts => ts
  | _, .tup ts => ts
  | _, .li ts => ts
  | _, .keys ks => ks.map .s
noncomputable def IterBook (w : World) (S : Addr → Prop) (ks : List Str) (v : Value) (h : Heap) : Prop :=
  ∀ (A : Around) (s : Shared) (E : Value → Shared → Prop) (Fs : List Addr), OkA 90 A → TopH w s.heap → Le h s.heap → wpAny (model pw w) A (pyIter v) (fun r s' => ItAs w Fs s S (ks.map .str) r s') E s
noncomputable def SV.At (w : World) (h : Heap) (S : Addr → Prop) : SV → Value → Prop
  | .none, v => v = .none
  | .th t, v => RD h S v t.d
  | .lst ts, v => RD h S v (.lst (ts.map Th.d))
  | .tup ts, v => RD h S v (.tup (ts.map Th.d))
  | .li ts, v => ∃ I L vs, v = .ref I ∧ h.IsListIter I L 0 ∧ h.IsList L vs ∧ S I ∧ S L ∧ L ≠ I ∧ RDs h (fun a => S a ∧ a ≠ I) vs.toList (ts.map Th.d)
  | .keys ks, v => ∃ B, v = .ref B ∧ BookIn B h ∧ IterBook w S ks v h
noncomputable def SV.Plain : SV → Prop
  | .th (.s x) => x.cps.all (· < 128) = true
  | _ => True
section
variable {w : World} {A : Around} {E : Value → Shared → Prop} {s : Shared} {S : Addr → Prop} {b : BaseK} {args : List Value} {bv : Value} {outer : List Env}
theorem one_as {v : Value} {d : D} {Fs : List Addr} {r : Value} {s' : Shared} (P : PostTupF Fs s #[v] r s') (rv : RD s.heap S v d) (hk : ∀ a, S a → a ∉ Fs) : ItAs w Fs s S [d] r s' := by
  have P' := P
  obtain ⟨I, T, e, _, _, _, _, _, kf, _⟩ := P'
  exact ItAs.tupF P (.cons (rv.dom.mono (fun a o hs e => (kf a o id e).2 (hk a hs.1)) fun _ h => h) .nil)
theorem ai_go (T : TopH w s.heap) (ok : OkA 102 A) (hfr : A.frames = some outer) (hO : OuterOk s.heap outer) (kf : KFs w (framesOf outer)) (hD : ∀ b ∈ framesOf outer, ∃ o es n, s.heap.get? b = some o ∧ o.data = .dict es n) (hSF : ∀ a, S a → a ∉ framesOf outer)
    {sv : SV} {v : Value} (B : BaseV w s.heap b args bv) (h : sv.At w s.heap S v) (hpl : sv.Plain) : wpAny (model pw w) A (PySem.call (.ref 93) (v :: args)) (fun r s' => ItAs w (framesOf outer) s S ((sv.out b).map Th.d) r s') E s := by
  have okA : OkA 101 A := ok.weak (by decide)
  have it : ∀ {ds : List D}, v ≠ .none → IsiD w s.heap v bv false → (∀ (A : Around) (s' : Shared) (E : Value → Shared → Prop), OkA 99 A → TopH w s'.heap → Kp s s' → wpAny (model pw w) A (pyIter v) (fun r s'' => ItAs w (framesOf outer) s' S ds r s'') E s') →
      wpAny (model pw w) A (PySem.call (.ref 93) (v :: args)) (fun r s' => ItAs w (framesOf outer) s S ds r s') E s := fun hv hi hp =>
    wpAny_call (codeAny_mono (ai_iter1 (P := fun s r s' => ItAs w (framesOf outer) s S _ r s') T okA (B.binds T) hv B.ne hi fun A1 s1 E1 ok1 T1 k1 => call_iterB (wpAny_mono (hp A1.in1 s1 E1 (OkA.in1 (n := 99) ok1) T1 k1) (fun r s2 h2 => h2.from k1) fun _ _ q => q)) fun r s' z => by obtain ⟨u, rfl, p⟩ := z; exact p)
  have one : ∀ {d : D}, v ≠ .none → IsiD w s.heap v bv true → RD s.heap S v d → wpAny (model pw w) A (PySem.call (.ref 93) (v :: args)) (fun r s' => ItAs w (framesOf outer) s S [d] r s') E s := fun hv hi rv =>
    wpAny_call (codeAny_mono (ai_one1 T okA (B.binds T) hv B.ne hi) fun r s' z => by obtain ⟨u, rfl, p⟩ := z; exact one_as (PostTupF.of p) rv hSF)
  cases sv with
  | none =>
    have e : v = .none := h
    subst e
    have : ((SV.none.out b).map Th.d) = [] := by cases b <;> rfl
    rw [this]
    exact wpAny_call (codeAny_mono (ai_none1 T okA (B.binds T)) fun r s' z => by obtain ⟨u, rfl, p⟩ := z; exact ItAs.tupF (PostTupF.of p) .nil)
  | th t =>
    have rv : RD s.heap S v t.d := h
    cases t with
    | s x =>
      have rv0 := rv
      cases rv using RD.strE
      rename_i tk
      have hi := isb_str B x tk
      cases b with
      | b0 => exact one (fun z => nomatch z) hi rv0
      | b1 => exact one (fun z => nomatch z) hi rv0
      | b2 =>
        show wpAny _ _ _ (fun r s' => ItAs w (framesOf outer) s S ((signsT x).map Th.d) r s') _ _
        rw [← signs_eq]
        exact it (fun z => nomatch z) hi fun A1 s1 E1 _ _ _ => iter_signs hpl
    | i n =>
      have rv0 := rv
      cases rv using RD.intE
      rename_i tk
      have hi := isb_int B n tk
      have e : isBase b false false false = false := by cases b <;> rfl
      rw [e] at hi
      have e2 : ((SV.th (.i n)).out b).map Th.d = [.int n] := by cases b <;> rfl
      rw [e2]
      exact wpAny_call (codeAny_mono (ai_int1 T okA hfr hO kf hD (B.binds T) B.ne hi) fun r s' z => by obtain ⟨u, rfl, p⟩ := z; exact one_as p rv0 hSF)
    | p x y =>
      have rv0 := rv
      cases rv using RD.prE with
      | pr sa sd ea ed ra =>
      rename_i a d vs n
      have hi := isb_pair B ⟨d, vs, n, ea, ed⟩
      cases b with
      | b0 =>
        refine it (fun z => nomatch z) hi fun A1 s1 E1 _ T1 k1 => ?_
        exact iter_pairK T1 (k1.le _ _ ea) (k1.le _ _ ed) sa (ra.le k1.le)
      | b1 => exact one (fun z => nomatch z) hi rv0
      | b2 => exact one (fun z => nomatch z) hi rv0
  | lst ts =>
    have rv : RD s.heap S v (.lst (ts.map Th.d)) := h
    cases rv using RD.lstE with
    | lst sa ea ca da ra =>
    rename_i a o vs n
    have hi := isb_list B ⟨o, ea, ca⟩
    have e : isBase b false false false = false := by cases b <;> rfl
    rw [e] at hi
    have e2 : (SV.lst ts).out b = ts := by cases b <;> rfl
    rw [e2]
    exact it (fun z => nomatch z) hi fun A1 s1 E1 _ T1 k1 => iter_lstK ⟨o, k1.le _ _ ea, ca, n, da⟩ sa (ra.le k1.le)
  | tup ts =>
    have rv : RD s.heap S v (.tup (ts.map Th.d)) := h
    cases rv using RD.tupE with
    | tup sa ea ca da ra =>
    rename_i a o vs n
    have hi := isb_tup B ⟨o, ea, ca⟩
    have e : isBase b false false false = false := by cases b <;> rfl
    rw [e] at hi
    have e2 : (SV.tup ts).out b = ts := by cases b <;> rfl
    rw [e2]
    exact it (fun z => nomatch z) hi fun A1 s1 E1 _ T1 k1 => iter_tupK ⟨o, k1.le _ _ ea, ca, n, da⟩ sa (ra.le k1.le)
  | li ts =>
    obtain ⟨I, L, vs, rfl, hI, hL, sI, sL, hne, ra⟩ := h
    obtain ⟨oI, eI, cI, dI⟩ := id hI
    have hi := isb_li B ⟨oI, eI, cI⟩
    have e : isBase b false false false = false := by cases b <;> rfl
    rw [e] at hi
    have e2 : (SV.li ts).out b = ts := by cases b <;> rfl
    rw [e2]
    exact it (fun z => nomatch z) hi fun A1 s1 E1 _ T1 k1 => iter_liK (hI.at fun o e => k1.le _ _ e) (hL.at fun o e => k1.le _ _ e) sI sL hne (ra.le k1.le)
  | keys ks =>
    obtain ⟨Bk, rfl, hB, hit⟩ := h
    have hi := isb_book B hB
    have e : isBase b false false false = false := by cases b <;> rfl
    rw [e] at hi
    have e2 : ((SV.keys ks).out b).map Th.d = ks.map .str := by cases b <;> simp [SV.out, Th.d]
    rw [e2]
    exact it (fun z => nomatch z) hi fun A1 s1 E1 ok1 T1 k1 => hit A1 s1 E1 _ (ok1.weak (by decide)) T1 k1.le
end
section
variable {prog : Program} {w : World} {A : Around} {env : Env} {h : Heap} {S : Addr → Prop}
theorem BinD.addI {x y : Int} : BinD prog w A .Add (.int x) (.int y) (.int (x + y)) := fun s S u v E ru rv => by
  cases ru using RD.intE
  cases rv using RD.intE
  exact PyProof.Rows.add_int ⟨.int _ _, Kp.tk s _⟩
theorem RDs.take {vs : List Value} {ds : List D} (r : RDs h S vs ds) : ∀ k, RDs h S (vs.take k) (ds.take k) := by
  induction vs generalizing ds with
  | nil => intro k; cases r; simp; exact .nil
  | cons v vs ih =>
    intro k
    obtain _ | ⟨r1, r2⟩ := r
    cases k with
    | zero => exact .nil
    | succ k => exact .cons r1 (ih r2 k)
theorem EvD.upto {o : Expr} {sp pos : Pos} {e : Expr} {ds : List D} {b : Nat} (src : SrcL prog w A env h S o ds) (he : EvD prog w A env h S e (.int b)) (hsz : ds.length ≤ sizeLine)
    (hs : ∀ l i, subscripted (.Slice none (some e) none sp) false (.ref l) (.ref i) = operate [.ref i, .ref l] (getItem (.ref l) (.ref i)) := by intro _ _; with_unfolding_all rfl) :
    EvD prog w A env h S (.Subscript o (.Slice none (some e) none sp) pos) (.lst (ds.take b)) := fun s E hS => by
  refine Subscript_ (wpAny_mono (src s E hS) (fun o s₁ q => ?_) fun _ _ q => q)
  obtain ⟨⟨l, vs, rfl, hl, r⟩, k1⟩ := q
  rw [arm_eval_Slice]
  refine wpAny_bind (wpAny_pure (wpAny_bind (wpAny_holding ?_)))
  show wpAny _ _ (eval e env) _ _ s₁
  refine wpAny_mono (he s₁ _ (hS.trans k1.le)) (fun i s₂ q => ?_) fun _ _ q => q
  obtain ⟨ri, k2⟩ := q
  cases ri using RD.intE
  rename_i t
  refine wpAny_bind (wpAny_holding (wpAny_pure ?_))
  refine wpAny_newObj_type ?_ (by size_fits)
  have hl2 : s₂.heap.IsList l vs := hl.at fun o e => k2.le _ o e
  have hsz2 : vs.size ≤ sizeLine := by rw [← Array.length_toList, r.length]; exact hsz
  have k3 : Le s₂.heap (s₂.heap.push { cls := .type "slice", data := .fields #[.none, .int b t, .none] }) := fun b o e => Heap.get?_push_of_some _ e
  refine PyProof.Rows.tail_any (s := { s₂ with heap := s₂.heap.push { cls := .type "slice", data := .fields #[.none, .int b t, .none] } }) (Heap.IsList.typeIs (hl2.push _)) list_getitem_lookup
    (wpAny_getItem_list_slice (lo := none) (hi := some (b : Int)) (st := none) (hl2.push _) (Heap.IsSliceOf.new ..) .none (.int _ _) .none (by simp) ?_ hsz2) (hs _ _)
  have k4 : Le (s₂.heap.push { cls := .type "slice", data := .fields #[.none, .int b t, .none] }) ((s₂.heap.push { cls := .type "slice", data := .fields #[.none, .int b t, .none] }).push { cls := .type "list", data := .seq (slicePick vs none (some (b : Int)) none) }) := fun b o e => Heap.get?_push_of_some _ e
  refine ⟨.lst (.inr (fresh_le (k1.le.trans k2.le) (fresh_le k3 (new_none _)))) (Heap.get?_push_size _ rfl) rfl rfl ?_, (k1.tr k2).tr (Kp.of _ (k3.trans k4))⟩
  have e5 : (slicePick vs none (some (b : Int)) none).toList = vs.toList.take b := by rw [slicePick_upto']
  rw [e5]
  exact (r.le (k2.le.trans (k3.trans k4))).take b
end
noncomputable def thingsF (n : Nat) : List Th := ([0, 5, 12].take (n % 4)).map fun j => thingF (n / 4 + j)
noncomputable abbrev envThs (N : Nat) : Env := callEnvC (fdOf "_law_things" 14 271) N 272
noncomputable abbrev scThs : Scope := { kind := .function, names := [(".0", .local), ("j", .local), ("_law_thing", .globalImplicit), ("n", .free)], isGenerator := false, isCoroutine := false }
theorem isFn267 {w : World} {h : Heap} (T : TopH w h) : IsFn h 267 := ⟨_, _, T.K _ _ (K_thing w), rfl⟩
theorem isFn272 {w : World} {h : Heap} (T : TopH w h) : IsFn h 272 := ⟨_, _, T.K _ _ (K_things w), rfl⟩
noncomputable def cells1 (d : D) : List (Str × D) := [("j", d)]
theorem things_spec {w : World} {h : Heap} (T : TopH w h) (n : Nat) (hn : n < 2 ^ 29) : FnD pw w 105 h 272 [.int n] (.lst ((thingsF n).map Th.d)) := by
  intro A S s vs ok hs r
  have T' := T.mono hs
  cases r using RDs.consE with
  | cons r1 r2 =>
  cases r2 using RDs.nilE
  cases r1 using RD.intE
  rename_i t
  refine call_fn (binds := [("n", .int n t)]) _ ok.room T' (K_things w) 271 rfl (by kernel_rfl) rfl (by rfl) rfl (fun y hy => ?_) fun s₁ X k => ?_
  · rcases List.mem_singleton.mp hy with rfl; exact .inr ⟨by rfl, by rfl⟩
  have okA : OkA 104 (A.deeper (envThs s.heap.objs.size)) := ok.deeper _
  generalize hN : s.heap.objs.size = N at *
  generalize hA' : A.deeper (callEnvC (fdOf "_law_things" 14 271) N 272) = A' at *
  have F := Frm.ofCall X
  have T1 := T'.mono k.le
  refine wp_abs fun Q E hQ _ => ?_
  have hcell : s₁.heap.IsCell (N + 1) (some (.int n t)) := by have := F.cell "n" (N + 1) (by rfl); exact this
  have vn : Var (envThs N) s₁.heap "n" (.int n t) := F.celV rfl (by rfl) (c := N + 1) (by rfl) (by rfl)
  have en : ∀ {S' : Addr → Prop} {p : Pos}, EvD pw w A' (envThs N) s₁.heap S' (.Name "n" p) (.int n) := EvD.name vn (.int _ _)
  have src : SrcL pw w A' (envThs N) s₁.heap S _ (([0, 5, 12] : List Nat).map (fun j : Nat => D.int j) |>.take (n % 4)) :=
    (EvD.upto (sp := ⟨184, 55, 184, 61⟩) (pos := ⟨184, 44, 184, 62⟩) ((EvD.list (pos := ⟨184, 44, 184, 54⟩) (.cons (EvD.cint (x := 0) (k := 0) (pos := ⟨184, 45, 184, 46⟩)) (.cons (EvD.cint (x := 5) (k := 0) (pos := ⟨184, 48, 184, 49⟩)) (.cons (EvD.cint (x := 12) (k := 0) (pos := ⟨184, 51, 184, 53⟩)) .nil rfl) rfl) rfl) (by decide)).src)
      (EvD.modN (k := 4) (c := 0) (p1 := ⟨184, 60, 184, 61⟩) (p2 := ⟨184, 56, 184, 61⟩) (en (p := ⟨184, 56, 184, 57⟩)) (by decide)) (by decide)).src
  have ev : EvD pw w A' (envThs N) s₁.heap S _ (.lst ((thingsF n).map Th.d)) := EvD.congr (EvD.comp (elt := .Call (.Name "_law_thing" ⟨184, 12, 184, 22⟩) [.BinOp (.BinOp (.Name "n" ⟨184, 23, 184, 24⟩) .FloorDiv (.Constant (.int 4) 0 ⟨184, 28, 184, 29⟩) ⟨184, 23, 184, 29⟩) .Add (.Name "j" ⟨184, 32, 184, 33⟩) ⟨184, 23, 184, 33⟩] [] ⟨184, 12, 184, 34⟩)
      (target := .Name "j" ⟨184, 39, 184, 40⟩) (ifs := []) (scope := scThs) (cl := [(("n" : Str), N + 1)]) (pos := ⟨184, 11, 184, 63⟩) cells1 (fun _ => true) (fun d => match d with | .int j => (thingF (n / 4 + j.toNat)).d | d => d) src (okA.weak (Nat.zero_le _)) (by rfl) (by decide) rfl (by decide) ?_ ?_ ?_ ?_) ?_
  · refine wpAny_execs_cons (wpAny_Return_some (wpAny_mono (ev s₁ _ fun _ _ e => e) (fun v s2 h2 => ?_) fun _ _ q => q))
    obtain ⟨r2, k2⟩ := h2
    exact hQ _ _ ⟨v, rfl, r2.sub fun a z => z.imp id fun q => fresh_le k.le q, k.tr k2⟩
  · intro d hd
    exact .name
  · intro d hd x e hx
    cases List.mem_singleton.mp hx; rfl
  · intro d hd S' C h' m hS hh hn' hb
    obtain ⟨j, hj, rfl⟩ := List.mem_map.mp (List.mem_of_mem_take hd)
    have hj12 : j ≤ 12 := by
      rcases List.mem_cons.mp hj with rfl | hj
      · decide
      rcases List.mem_cons.mp hj with rfl | hj
      · decide
      rcases List.mem_singleton.mp hj with rfl
      decide
    obtain ⟨v1, hv1, rv1⟩ := hb "j" _ (.head _)
    refine ⟨rfl, fun _ => ?_⟩
    have T3 := T1.mono hh
    have vn2 : Var (compEnvC scThs [(("n" : Str), N + 1)] C (envThs N)) h' "n" (.int n t) := Var.cell (c := N + 1) rfl (relabel_free rfl (by rfl) rfl) rfl (hcell.keeps hh)
    have vj : Var (compEnvC scThs [(("n" : Str), N + 1)] C (envThs N)) h' "j" v1 := Var.loc rfl rfl hn' hv1
    refine EvD.call (ds := [.int ((n / 4 : Nat) + (j : Nat) : Nat)]) (Var.glob T3 rfl (by rfl) rfl (by kernel_rfl)) (isFn267 T3) (.cons (EvD.congr (EvD.bin (EvD.divN (EvD.name vn2 (.int _ _)) (k := 4) (by decide) (by omega) (by decide)) (EvD.name vj rv1) BinD.addI) (by simp)) .nil rfl) (by simp) (thing_spec T3 (n / 4 + j) (by omega)) (okA.weak (by decide))
  · exact Nat.le_trans (List.length_take_le' _ _) (by decide)
  · rw [filter_yes, ← List.map_take, List.map_map]
    unfold thingsF
    rw [List.map_map]
    rfl
noncomputable def intS (n : Nat) : Str := Str.ofString (toString (n : Int))
noncomputable def Th.isP : Th → Bool
  | .p _ _ => true
  | _ => false
noncomputable def writtenF : Th → Str
  | .s x => x
  | .i n => intS n
  | .p a b => a ++ " = " ++ b
noncomputable def plainT : Th → Th
  | .i n => .s (intS n)
  | t => t
noncomputable def Th.small : Th → Prop
  | .s x => x.length ≤ 100
  | .i n => n < 2 ^ 30
  | .p a b => a.length ≤ 100 ∧ b.length ≤ 100
section
variable {w : World} {A : Around} {env : Env} {h : Heap} {S : Addr → Prop} {t : Th}
theorem EvT.isPair (T : TopH w h) (ok : OkA 100 A) {e : Expr} {p q pos : Pos} (ev : EvD pw w A env h S e t.d) (vi : Var env h "isinstance" (.builtin "isinstance")) (vp : Var env h "Pair" (.ref 257)) (he : isStar e = false := by rfl) :
    EvT pw w A env h (.Call (.Name "isinstance" p) [e, .Name "Pair" q] [] pos) t.isP :=
  EvT.ofBool (S := S) (EvD.callB (ds := [t.d, .atom (.ref 257)]) vi (.cons ev (.cons (EvD.name vp (.atom _)) .nil rfl) he) (by simp) fun s S vs E hs r => by
    have T' := T.mono hs
    cases r using RDs.consE with
    | cons r1 r2 =>
    cases r2 using RDs.consE with
    | cons r2 r3 =>
    cases r3 using RDs.nilE
    cases r2 using RD.atomE
    have fin : ∀ {v : Value} {b : Bool}, b = t.isP → wpAny (model pw w) A (PySem.call (.builtin "isinstance") [v, .ref 257]) (PostVal s (.bool b)) E s → wpAny (model pw w) A (PySem.call (.builtin "isinstance") [v, .ref 257]) (fun v s' => RD s'.heap (Fr1 S s.heap) v (.bool t.isP) ∧ Kp s s') E s := fun e x =>
      wpAny_mono x (fun v s' q => ⟨by rw [q.1, e]; exact .bool _, q.2⟩) fun _ _ q => q
    cases t with
    | s x => cases r1 using RD.strE; exact fin rfl (isi_one kitx_str T' trivial (by kernel_rfl) (fun z => nomatch z))
    | i n => cases r1 using RD.intE; exact fin rfl (isi_one kitx_int T' trivial (by kernel_rfl) (fun z => nomatch z))
    | p a b =>
      cases r1 using RD.prE with
      | pr sa sd ea ed ra => exact fin rfl (isi_one (kitx_pair w _) T' ⟨_, _, _, ea, ed⟩ (by kernel_rfl) (fun z => nomatch z)))
theorem int_small (n : Nat) (hn : n < 2 ^ 30) : (n : Int).natAbs.log2 < 1920 := by
  rw [Int.natAbs_natCast]
  by_cases h0 : n = 0
  · subst h0; decide
  · exact Nat.lt_trans ((Nat.log2_lt h0).mpr hn) (by decide)
theorem EvD.strT {e : Expr} {p pos : Pos} (ev : EvD pw w A env h S e t.d) (vs : Var env h "str" (.type "str")) (hp : t.isP = false) (hsm : t.small) (he : isStar e = false := by rfl) :
    EvD pw w A env h S (.Call (.Name "str" p) [e] [] pos) (.str (writtenF t)) :=
  EvD.callT (ds := [t.d]) vs (.cons ev .nil he) (by simp) fun s S vs E hs r => by
    cases r using RDs.consE with
    | cons r1 r2 =>
    cases r2 using RDs.nilE
    cases t with
    | s x => cases r1 using RD.strE; exact PySem.P.str_of_str ⟨.str _ _, Kp.refl s⟩
    | i n => cases r1 using RD.intE; exact PySem.P.str_of_int (int_small n hsm) ⟨.str _ _, Kp.tk s _⟩
    | p a b => cases hp
theorem EvD.pname (T : TopH w h) (ok : OkA 104 A) {x : Str} {p0 ap : Pos} {u : Value} {a b : Str} (vp : Var env h x u) (r : RD h S u (.pr [.str a, .str b])) (hx : (x == ("__debug__" : Str)) = false := by decide) : EvD pw w A env h S (.Attribute (.Name x p0) "name" ap) (.str a) := fun s E hs => by
  cases r using RD.prE with
  | pr sa sd ea ed ra =>
  rename_i ad d vs n
  obtain ⟨l⟩ := vs
  have ra : RDs h S l [.str a, .str b] := ra
  cases ra using RDs.consE with
  | cons r1 r2 =>
  cases r2 using RDs.consE with
  | cons r2 r3 =>
  cases r3 using RDs.nilE
  cases r1 using RD.strE
  cases r2 using RD.strE
  exact wpAny_mono (ev_name (T.mono hs) ok (vp.mono hs) (hs _ _ ea) (hs _ _ ed) rfl hx) (fun r s' q => by
    obtain ⟨rfl, k⟩ := q
    exact ⟨.str _ _, k⟩) fun _ _ q => q
theorem EvD.pvalue (T : TopH w h) (ok : OkA 104 A) {x : Str} {p0 ap : Pos} {u : Value} {a b : Str} (vp : Var env h x u) (r : RD h S u (.pr [.str a, .str b])) (hx : (x == ("__debug__" : Str)) = false := by decide) : EvD pw w A env h S (.Attribute (.Name x p0) "value" ap) (.str b) := fun s E hs => by
  cases r using RD.prE with
  | pr sa sd ea ed ra =>
  rename_i ad d vs n
  obtain ⟨l⟩ := vs
  have ra : RDs h S l [.str a, .str b] := ra
  cases ra using RDs.consE with
  | cons r1 r2 =>
  cases r2 using RDs.consE with
  | cons r2 r3 =>
  cases r3 using RDs.nilE
  cases r1 using RD.strE
  cases r2 using RD.strE
  exact wpAny_mono (ev_value (T.mono hs) ok (vp.mono hs) (hs _ _ ea) (hs _ _ ed) rfl hx) (fun r s' q => by
    obtain ⟨rfl, k⟩ := q
    exact ⟨.str _ _, k⟩) fun _ _ q => q
end
section
variable {prog : Program} {w : World} {A : Around} {env : Env} {h : Heap} {S : Addr → Prop}
theorem EvD.ifExp {t e f : Expr} {pos : Pos} {b : Bool} {d : D} (ht : EvT prog w A env h t b) (he : b = true → EvD prog w A env h S e d) (hf : b = false → EvD prog w A env h S f d) : EvD prog w A env h S (.IfExp t e f pos) d := fun s E hs =>
  IfExp_ (wpAny_mono (ht s E hs) (fun c s2 q => by
    obtain ⟨rfl, k⟩ := q
    have fin : ∀ {e : Expr}, EvD prog w A env h S e d → wpAny (model prog w) A (eval e env) (fun v s' => RD s'.heap (Fr1 S s.heap) v d ∧ Kp s s') E s2 := fun ev =>
      wpAny_mono (ev s2 E (hs.trans k.le)) (fun v s3 z => ⟨z.1.sub fun a y => y.imp id fun q => fresh_le k.le q, k.tr z.2⟩) fun _ _ q => q
    cases c with
    | true => rw [if_pos rfl]; exact fin (he rfl)
    | false => rw [if_neg (by decide)]; exact fin (hf rfl)) fun _ _ q => q)
end
noncomputable abbrev envWr (N : Nat) : Env := callEnvC (fdOf "_law_written" 15 278) N 279
theorem isFn279 {w : World} {h : Heap} (T : TopH w h) : IsFn h 279 := ⟨_, _, T.K _ _ (K_written w), rfl⟩
theorem written_spec {w : World} {h : Heap} (T : TopH w h) (t : Th) (hsm : t.small) : FnD pw w 105 h 279 [t.d] (.str (writtenF t)) := by
  intro A S s vs ok hs r
  have T' := T.mono hs
  cases r using RDs.consE with
  | cons r1 r2 =>
  rename_i u _
  cases r2 using RDs.nilE
  refine call_fn (binds := [("thing", u)]) _ ok.room T' (K_written w) 278 rfl (by kernel_rfl) rfl (by rfl) rfl (fun y hy => ?_) fun s₁ X k => ?_
  · rcases List.mem_singleton.mp hy with rfl; exact .inl (by rfl)
  have okA : OkA 104 (A.deeper (envWr s.heap.objs.size)) := ok.deeper _
  generalize hN : s.heap.objs.size = N at *
  generalize hA' : A.deeper (callEnvC (fdOf "_law_written" 15 278) N 279) = A' at *
  have F := Frm.ofCall X
  have T1 := T'.mono k.le
  refine wp_abs fun Q E hQ _ => ?_
  have vt : Var (envWr N) s₁.heap "thing" u := F.loc rfl (by rfl) (by rfl)
  have rt : RD s₁.heap S u t.d := r1.le k.le
  have vi : Var (envWr N) s₁.heap "isinstance" (.builtin "isinstance") := Var.bi T1 rfl (by rfl) rfl rfl (by kernel_rfl) (by decide) (by rfl)
  have vp : Var (envWr N) s₁.heap "Pair" (.ref 257) := Var.glob T1 rfl (by rfl) rfl (by kernel_rfl)
  have vs' : Var (envWr N) s₁.heap "str" (.type "str") := Var.bi T1 rfl (by rfl) rfl rfl (by kernel_rfl) (by decide) (by rfl)
  have ev : EvD pw w A' (envWr N) s₁.heap S _ (.str (writtenF t)) := EvD.ifExp (pos := ⟨186, 11, 186, 86⟩) (EvT.isPair (p := ⟨186, 47, 186, 57⟩) (q := ⟨186, 65, 186, 69⟩) (pos := ⟨186, 47, 186, 70⟩) T1 (okA.weak (by decide)) (EvD.name (pos := ⟨186, 58, 186, 63⟩) vt rt) vi vp)
    (e := .BinOp (.BinOp (.Attribute (.Name "thing" ⟨186, 11, 186, 16⟩) "name" ⟨186, 11, 186, 21⟩) .Add (.Constant (.str " = ") 0 ⟨186, 24, 186, 29⟩) ⟨186, 11, 186, 29⟩) .Add (.Attribute (.Name "thing" ⟨186, 32, 186, 37⟩) "value" ⟨186, 32, 186, 43⟩) ⟨186, 11, 186, 43⟩) (f := .Call (.Name "str" ⟨186, 76, 186, 79⟩) [.Name "thing" ⟨186, 80, 186, 85⟩] [] ⟨186, 76, 186, 86⟩)
    (fun hp => by
      cases t with
      | p a b =>
        have hl : (a ++ " = ").length ≤ 103 := by rw [Str.length_append]; have := hsm.1; show a.length + 3 ≤ 103; omega
        exact EvD.bin (EvD.bin (EvD.pname T1 okA vt rt) EvD.cstr (BinD.addS (by have := hsm.1; have h2 : (1000 : Nat) ≤ sizeLine := (by decide); show a.length + 3 ≤ sizeLine; omega))) (EvD.pvalue T1 okA vt rt) (BinD.addS (by have := hsm.2; have h2 : (1000 : Nat) ≤ sizeLine := (by decide); omega))
      | s x => cases hp
      | i n => cases hp)
    (fun hp => EvD.strT (EvD.name vt rt) vs' hp hsm)
  refine wpAny_execs_cons (wpAny_Return_some (wpAny_mono (ev s₁ _ fun _ _ e => e) (fun v s2 h2 => ?_) fun _ _ q => q))
  obtain ⟨r2, k2⟩ := h2
  exact hQ _ _ ⟨v, rfl, r2.sub fun a z => z.imp id fun q => fresh_le k.le q, k.tr k2⟩
noncomputable def rangeD (n : Nat) : List D := (List.range n).map fun i : Nat => .int i
theorem rangeD_len (n : Nat) : (rangeD n).length = n := by unfold rangeD; rw [List.length_map, List.length_range]
theorem rangeD_take {n i : Nat} (h : i < n) : (rangeD n).take (i + 1) = (rangeD n).take i ++ [.int (i : Nat)] := by
  rw [List.take_add_one, List.getElem?_eq_getElem (by rw [rangeD_len]; exact h)]
  unfold rangeD
  simp
section
variable {prog : Program} {w : World} {A : Around} {env : Env} {h : Heap} {S : Addr → Prop}
theorem comp_blockR {elt iter : Expr} {ifs : List Expr} {scope : Scope} {cl : List (Str × Addr)} {pos tp : Pos} {x : Str} {s s₁ : Shared} {l : Addr} {n : Nat} {u1 u2 u3 : Tok} {E : Value → Shared → Prop}
    (p : D → Bool) (g : D → D) {RR : Value → Addr → Result → Shared → Prop}
    (ok : OkA 0 A) (hcell : ∀ y ∈ scope.names, y.2 ≠ .cell) (hkind : scope.kind = .function) (hs : Le h s.heap) (hk1 : Kp s s₁)
    (hl : IsRange s₁.heap l 0 n 1 u1 u2 u3) (hn : n < 2 ^ 62) (hloc : scope.names.lookup x = some .local)
    (hel : ∀ i, i < n → EltOk prog w A env scope cl h S ifs elt [(x, .int (i : Nat))] (p (.int (i : Nat))) (g (.int (i : Nat)))) (hsz : n ≤ sizeLine)
    (hRR : ∀ D C s', s.heap.get? D = none → s.heap.get? C = none → D ≠ C → (∃ m, s'.heap.Ns C m) → (∃ ys, s'.heap.PlainList D ys ∧ RDs s'.heap (fun b => Fr1 S s.heap b ∧ b ≠ C) ys.toList (((rangeD n).filter p).map g)) → Kp s s' → RR (.ref D) C (.ok .next) s') :
    wpAny (model prog w) A (pyIter (.ref l)) (fun it s₂ => wpAny (model prog w) A (newList []) (fun acc s₃ => wpAny (model prog w) A (newFunctionEnv scope env.globals cl [] env.qual none .none (some env)) (fun cenv s₄ =>
      codeAny (model prog w) A (.compStart (.ListComp elt [⟨.Name x tp, iter, ifs, 0⟩] scope pos) 0 it acc { cenv with scope := relabel scope env }) (RR acc cenv.locals) s₄) E s₃) E s₂) E s₁ := by
  refine wpAny_pyIter_range hl (small_one (by decide) (by decide) (by omega) (by omega)) ?_
  have hrs : Builtin.Range.rangeSize 0 n 1 = (n : Int) := by rw [rangeSize_one]; split <;> omega
  rw [hrs]
  refine wpAny_newObj_type (wpAny_newFunctionEnv hcell (by intro y hy; simp at hy) (fun h₄ hns₄ hsb₄ => ?_) hkind)
  dsimp only at hns₄ hsb₄ ⊢
  have i0 : s₁.heap.get? s₁.heap.objs.size = none := new_none _
  generalize hI : s₁.heap.objs.size = I at *
  generalize hH2 : s₁.heap.push { cls := .type "range_iterator", data := .fields #[rawInt 0, rawInt n, rawInt 1] } = H2 at *
  have hH2s : H2.objs.size = I + 1 := by rw [← hH2, Heap.size_push, hI]
  rw [hH2s]
  generalize hH3 : H2.push { cls := .type "list", dict := none, data := .seq ([] : List Value).toArray } = H3 at *
  have hH3s : H3.objs.size = I + 2 := by rw [← hH3, Heap.size_push, hH2s]
  rw [hH3s] at hns₄ hsb₄ ⊢
  have k12 : Le s₁.heap H2 := fun b o e => by rw [← hH2]; exact Heap.get?_push_of_some _ e
  have k23 : Le H2 H3 := fun b o e => by rw [← hH3]; exact Heap.get?_push_of_some _ e
  have k34 : Le H3 h₄ := fun b o e => hsb₄.extBut b o (fun z => ltne (Heap.lt_size e) 0 (z.trans hH3s.symm)) (Heap.get?_push_of_some _ e)
  have k14 : Le s₁.heap h₄ := (k12.trans k23).trans k34
  have hit : IsRangeIter h₄ I ((0 : Nat) : Int) ((n : Int) - ((0 : Nat) : Int)) 1 := by
    have e1 : ((n : Int) - ((0 : Nat) : Int)) = n := by simp
    rw [e1]
    exact k34 _ _ (k23 _ _ (by rw [← hH2, ← hI]; exact Heap.get?_push_size _ (by rfl)))
  have hacc : h₄.PlainList (I + 1) #[] := ⟨0, k34 _ _ (by rw [← hH3, ← hH2s]; exact Heap.get?_push_size _ (by rfl))⟩
  have f1 : ∀ b, s₁.heap.get? b ≠ none → b < I := fun b q => by
    cases e : s₁.heap.get? b with
    | none => exact absurd e q
    | some o => rw [← hI]; exact Heap.lt_size e
  have fD : s.heap.get? (I + 1) = none := fresh_le hk1.le (size_none (by omega))
  have fC : s.heap.get? (I + 2) = none := fresh_le hk1.le (size_none (by omega))
  have fI : s.heap.get? I = none := fresh_le hk1.le (size_none (by omega))
  let S'' : Addr → Prop := fun b => Fr1 S s.heap b ∧ b ≠ I ∧ b ≠ I + 1 ∧ b ≠ I + 2
  have up1 : Up s₁.heap (Fr1 S s.heap) S'' := fun a sa qa => ⟨sa, ltne (f1 a qa) 0, ltne (f1 a qa) 1, ltne (f1 a qa) 2⟩
  have uph : Up h S S'' := fun a sa qa => by
    have q : s₁.heap.get? a ≠ none := fun z => qa (fresh_le (hs.trans hk1.le) z)
    exact up1 a (.inl sa) q
  let cenv := compEnvC scope cl (I + 2) env
  have hlx : (rangeD n).length = n := rangeD_len n
  have loop : ∀ s₃ : Shared, s₃ = { s₁ with heap := h₄, toks := s₁.toks + ([] : List (Str × Value)).length } →
      codeAny (model prog w) A (.compLoop (.ListComp elt [⟨.Name x tp, iter, ifs, 0⟩] scope pos) 0 (.ref I) (.ref (I + 1)) cenv) (RR (.ref (I + 1)) (I + 2)) s₃ := by
    rintro s₃ rfl
    refine comp_loop (fun k s' => ∃ i : Nat, ∃ h' tk m' ys, s' = { s₁ with heap := h', toks := tk } ∧ IsRangeIter h' I (i : Int) ((n : Int) - (i : Int)) 1 ∧ Le s₁.heap h' ∧ h'.PlainList (I + 1) ys ∧
      RDs h' S'' ys.toList ((((rangeD n).take i).filter p).map g) ∧ h'.Ns (I + 2) m' ∧ i ≤ n ∧ k = n + 1 - i) ?_ (n + 1)
      ⟨0, h₄, _, _, #[], rfl, hit, k14, hacc, by simpa using RDs.nil, hns₄, Nat.zero_le _, rfl⟩
    rintro k s' ⟨i, H, tk, m', ys, rfl, hit', kH, hD', hR', hN', hi, rfl⟩ E'
    by_cases hlt : i < n
    · refine wpAny_pyNext_range_item hit' (by omega) fun h5 hit5 hs5 => ?_
      have k5 : Le s₁.heap h5 := fun b o e => hs5.extBut b o (ltne (f1 b (some_ne e)) 0) (kH b o e)
      have e5 : (i : Int) + 1 = ((i + 1 : Nat) : Int) := by omega
      have e6 : (n : Int) - (i : Int) - 1 = (n : Int) - ((i + 1 : Nat) : Int) := by omega
      rw [e5, e6] at hit5
      refine wpAny_pure ?_
      have hN5 : h5.Ns cenv.locals m' := hN'.sameBut hs5 (by show I + 2 ≠ I; omega)
      refine assign_bd (d := .int (i : Nat)) (bs := [(x, .int (i : Nat))]) .name ok.hd (by show (relabel scope env).kind = .function; exact hkind) (fun y d hxd => by cases List.mem_singleton.mp hxd; show (relabel scope env).names.lookup x = _; exact lookup_relabel_local hloc) hN5 (RD.int (h := h5) (S := S'') (i : Nat) _) (fun z => z.2.2.2 rfl) fun h6 tk6 m6 hn6 hb6 _ hx6 => ?_
      have k6 : Le s₁.heap h6 := fun b o e => hx6 b o (ltne (f1 b (some_ne e)) 2) (k5 b o e)
      have el := hel i hlt S'' (I + 2) h6 m6 uph ((hs.trans hk1.le).trans k6) hn6 hb6
      have hD6 : h6.PlainList (I + 1) ys := (hD'.at fun o e => hs5.extBut _ o (Nat.succ_ne_self _) e).at fun o e => hx6 _ o (by show I + 1 ≠ I + 2; omega) e
      have hR6 : RDs h6 S'' ys.toList ((((rangeD n).take i).filter p).map g) := (hR'.but hs5.extBut fun z => z.2.1 rfl).but hx6 fun z => z.2.2.2 rfl
      have hit6 : IsRangeIter h6 I ((i + 1 : Nat) : Int) ((n : Int) - ((i + 1 : Nat) : Int)) 1 := hx6 _ _ (by show I ≠ I + 2; omega) hit5
      have htk : (rangeD n).take (i + 1) = (rangeD n).take i ++ [.int (i : Nat)] := rangeD_take hlt
      refine el.1.run (fun _ _ e => e) fun s7 k7 => ?_
      obtain ⟨k7, h7, tk7, rfl⟩ := k7
      cases hp : p (.int (i : Nat)) with
      | false =>
        simp only [Bool.false_eq_true, if_false]
        refine ⟨n + 1 - (i + 1), by omega, i + 1, h7, tk7, m6, ys, rfl, k7 _ _ hit6, k6.trans k7, hD6.at fun o e => k7 _ o e, ?_, hn6.keeps k7, hlt, rfl⟩
        rw [htk, List.filter_append]
        simpa [hp] using hR6.le k7
      | true =>
        simp only [if_true]
        refine wpAny_mono (el.2 hp _ E' k7) (fun y9 s8 q8 => ?_) fun _ _ q => q
        obtain ⟨r8, k8, h8, tk8, rfl⟩ := q8
        have k68 : Le h6 h8 := k7.trans k8
        have hys : ys.size ≤ sizeLine := by
          have e1 := hR6.length
          have e2 : (((rangeD n).take i).filter p).length ≤ ((rangeD n).take i).length := List.length_filter_le _ _
          have e3 : ((rangeD n).take i).length = i := by rw [List.length_take, hlx]; omega
          have e4 : ys.toList.length = ys.size := by simp
          rw [List.length_map] at e1
          omega
        refine wpAny_list_append_plain (hsz := hys) (hD6.at fun o e => k68 _ o e) fun h9 hl9 hs9 => ?_
        have nD : ¬ S'' (I + 1) := fun z => z.2.2.1 rfl
        refine ⟨n + 1 - (i + 1), by omega, i + 1, h9, tk8, m6, ys.push y9, rfl, ?_, ?_, hl9, ?_, (hn6.keeps k68).sameBut hs9 (by show I + 2 ≠ I + 1; omega), hlt, rfl⟩
        · exact hs9.extBut _ _ (Nat.ne_of_lt (Nat.lt_succ_self _)) (k68 _ _ hit6)
        · exact fun b o e => hs9.extBut b o (ltne (f1 b (some_ne e)) 1) (k68 b o (k6 b o e))
        · rw [htk, List.filter_append, List.map_append]
          have r9 : RD h9 S'' y9 (g (.int (i : Nat))) := by
            refine RD.but hs9.extBut nD (r8.sub fun a z => ?_)
            rcases z with z | z
            · exact z
            · have z6 := fresh_le k7 z
              have ex : ∀ b o, h6.get? b = some o → a ≠ b := fun b o e q => by rw [← q, z6] at e; cases e
              obtain ⟨od, ed⟩ := hD6
              obtain ⟨oc, _, _, ec, _⟩ := hn6
              exact ⟨.inr (fresh_le ((hk1.le).trans k6) z6), ex _ _ hit6, ex _ _ ed, ex _ _ ec⟩
          have := ((hR6.le k68).but hs9.extBut nD).append (RDs.one r9)
          simpa [hp] using this
    · have hin : i = n := by omega
      subst hin
      refine wpAny_pyNext_range_end ok.hd hit' (by omega) fun h5 hx5 => ?_
      have k5 : Le s₁.heap h5 := fun b o e => hx5 b o (ltne (f1 b (some_ne e)) 0) (kH b o e)
      rw [show (rangeD i).take i = rangeD i from by rw [List.take_of_length_le (by rw [hlx]; exact Nat.le_refl _)]] at hR'
      obtain ⟨kk, hh, tt, rfl⟩ := hk1
      refine hRR _ _ _ fD fC (Nat.ne_of_lt (Nat.lt_succ_self _)) ⟨m', hN'.at' fun o e => hx5 _ o (by show I + 2 ≠ I; omega) e⟩ ⟨ys, hD'.at fun o e => hx5 _ o (Nat.succ_ne_self _) e, (hR'.but hx5 fun z => z.2.1 rfl).sub fun a z => ⟨z.1, z.2.2.2⟩⟩ (Kp.of tk (kk.trans k5))
  exact codeAny_compStart_list (loop _ rfl) (wpAny_pyIter_rangeiter hit (loop _ rfl))
theorem EvD.compR {elt e : Expr} {ifs : List Expr} {scope : Scope} {cl : List (Str × Addr)} {pos tp rp cp : Pos} {x : Str} {n : Nat} (p : D → Bool) (g : D → D)
    (vr : Var env h "range" (.type "range")) (he : EvD prog w A env h (fun _ => False) e (.int (n : Nat))) (hst : isStar e = false) (hn : n < 2 ^ 62) (ok : OkA 0 A) (hclos : closureFor scope env = pure cl) (hcell : ∀ y ∈ scope.names, y.2 ≠ .cell) (hkind : scope.kind = .function)
    (hnames : ∀ y ∈ scope.names, y.2 = .local → scope.names.lookup y.1 = some .local) (hloc : scope.names.lookup x = some .local)
    (hel : ∀ i, i < n → EltOk prog w A env scope cl h S ifs elt [(x, .int (i : Nat))] (p (.int (i : Nat))) (g (.int (i : Nat)))) (hsz : n ≤ sizeLine)
    (hset : ∀ x, foldedSetIterable (.Call (.Name "range" rp) [e] [] cp) env x = pure x := by intro _; rfl) :
    EvD prog w A env h S (.ListComp elt [⟨.Name x tp, .Call (.Name "range" rp) [e] [] cp, ifs, 0⟩] scope pos) (.lst (((rangeD n).filter p).map g)) := fun s E hs => by
  rw [eval_ListComp]
  refine wpAny_comprehension_free (use := none) rfl hset hclos hkind hnames ?_
  refine wpAny_Call_NameR (wpAny_Name (vr _ _ _ _ s hs ?_) (by decide))
  have hse : backTo cp (starEach [e] env) = [(false, eval e env)] := by rw [starEach_cons hst]; rfl
  rw [hse]
  refine PySem.callWith_type rfl (Calls.evalArgs_plain (Calls.spliced_cons (wpAny_mono (he s _ hs) (fun nv s₁ h₁ => Calls.spliced_nil ?_) fun _ _ e => e)))
  obtain ⟨r, k1⟩ := h₁
  cases r using RD.intE
  rename_i tN
  show wpAny _ _ (PySem.call (.type "range") [.int n tN]) _ _ _
  refine call_range_1 ?_
  have kA : Le s₁.heap (s₁.heap.push { cls := .type "range", data := .fields #[.int 0 s₁.toks, .int n tN, .int 1 (s₁.toks + 1)] }) := fun b o e => Heap.get?_push_of_some _ e
  refine comp_blockR (RR := fun acc C => compPost (model prog w) A E none _ acc C) p g ok hcell hkind hs (k1.tr (Kp.of _ kA)) (IsRange.new ..) hn hloc hel hsz ?_
  intro D C s' hD hC hDC hn hy hk
  obtain ⟨m, hn⟩ := hn
  obtain ⟨ys, ⟨n, hp⟩, hr⟩ := hy
  refine ⟨m, hn, fun h'' hs'' => ⟨.lst (.inr hD) (hs''.extBut _ _ hDC hp) rfl rfl ((hr.but hs''.extBut fun z => z.2 rfl).sub fun _ z => z.1), ?_⟩⟩
  obtain ⟨kk, hh, tt, rfl⟩ := hk
  exact Kp.of tt fun b o e => hs''.extBut b o (fun z => by rw [z, hC] at e; cases e) (kk b o e)
end
noncomputable abbrev twoE (elt t0 i0 t1 i1 : Expr) (scope : Scope) (pos : Pos) : Expr := .ListComp elt [⟨t0, i0, [], 0⟩, ⟨t1, i1, [], 0⟩] scope pos
theorem two_turn0 (elt t0 i0 t1 i1 : Expr) (scope : Scope) (pos : Pos) (it acc : Value) (env : Env) : compTurn (twoE elt t0 i0 t1 i1 scope pos) 0 it acc env = (do
      standAt i0.pos
      match ← pyNext it with
      | none => pure (.done .next)
      | some v =>
        letOwnedTupleGo t0 it v
        assign t0 env v
        let x ← eval i1 env
        standAt i1.pos
        let x ← foldedSetIterable i1 env x
        let _ ← runOwn (.compStart (twoE elt t0 i0 t1 i1 scope pos) 1 (← holding [x] (pyIter x)) acc env) env
        again (.compLoop (twoE elt t0 i0 t1 i1 scope pos) 0 it acc env)) := by rfl
theorem two_turn1 (elt t0 i0 t1 i1 : Expr) (scope : Scope) (pos : Pos) (it acc : Value) (env : Env) : compTurn (twoE elt t0 i0 t1 i1 scope pos) 1 it acc env = (do
      standAt i1.pos
      match ← pyNext it with
      | none => pure (.done .next)
      | some v =>
        letOwnedTupleGo t1 it v
        assign t1 env v
        (do let _ ← call (.builtin "list.append") [acc, ← eval elt env])
        again (.compLoop (twoE elt t0 i0 t1 i1 scope pos) 1 it acc env)) := by rfl
section
variable {prog : Program} {w : World} {A : Around} {env : Env} {R : Result → Shared → Prop} {s : Shared} {elt t0 i0 t1 i1 : Expr} {scope : Scope} {pos : Pos} {it acc : Value}
theorem two_start1 (h0 : codeAny (model prog w) A (.compLoop (twoE elt t0 i0 t1 i1 scope pos) 1 it acc env) R s)
    (h : wpAny (model prog w) A (pyIter it) (fun it' s' => codeAny (model prog w) A (.compLoop (twoE elt t0 i0 t1 i1 scope pos) 1 it' acc env) R s')
      (notedBy (model prog w) A env fun x s' => R (.error x) s') s) :
    codeAny (model prog w) A (.compStart (twoE elt t0 i0 t1 i1 scope pos) 1 it acc env) R s := by
  refine codeAny_of_tree ?_
  show wpAny _ _ ((compStart (twoE elt t0 i0 t1 i1 scope pos) 1 it acc env).onRaise (fun x => do noteFrame x env; standAt theWindowsPlace)) _ _ s
  refine wpAny_notedAt ?_
  unfold compStart
  show wpAny _ _ (ask >>= _) _ _ s
  refine wpAny_bind (wpAny_askSetting (wpAny_ite ?_))
  split
  · first
      | exact wpAny_bind (wpAny_pure (wpAny_pure (And.intro rfl h0)))
      | exact wpAny_pure (And.intro rfl h0)
  · first
      | exact wpAny_bind (wpAny_rule (wpAny_bind (wpAny_standAt (wpAny_bind (wpAny_mono h (fun it' s' h' => wpAny_pure (And.intro rfl h')) fun _ _ x => x)))))
      | (refine wpAny_bind (wpAny_rule ?_); show wpAny _ _ (standAt i1.pos >>= _) _ _ s; exact wpAny_bind (wpAny_standAt (wpAny_bind (wpAny_mono h (fun it' s' h' => wpAny_pure (And.intro rfl h')) fun _ _ x => x))))
theorem two_loop1 (I : Nat → Shared → Prop)
    (turn : ∀ n s, I n s → ∀ E : Value → Shared → Prop, wpAny (model prog w) A (pyNext it) (fun r s₁ => match r with
      | none => R (.ok .next) s₁
      | some v => wpAny (model prog w) A (assign t1 env v) (fun _ s₂ => wpAny (model prog w) A (eval elt env) (fun x s₄ =>
              wpAny (model prog w) A (call (.builtin "list.append") [acc, x]) (fun _ s₅ => ∃ m, m < n ∧ I m s₅) E s₄) E s₂) E s₁) E s)
    (n : Nat) (h : I n s) (ht : ∀ v, letOwnedTupleGo t1 it v = pure ()) : codeAny (model prog w) A (.compLoop (twoE elt t0 i0 t1 i1 scope pos) 1 it acc env) R s := by
  refine codeAny_loop rfl I (fun n s hI => ?_) n h
  show wpAny _ A ((compTurn (twoE elt t0 i0 t1 i1 scope pos) 1 it acc env).onRaise (fun x => do noteFrame x env; theTreesLotGoes x)) _ _ s
  refine wpAny_noted ?_
  rw [two_turn1]
  refine wpAny_bind (wpAny_standAt (wpAny_bind (wpAny_mono (turn n s hI _) (fun r s₁ h₁ => ?_) fun _ _ h' => h')))
  cases r with
  | none => exact wpAny_pure h₁
  | some v =>
    refine wpAny_bind (wpAny_of_eq (ht v) ?_)
    refine wpAny_bind (wpAny_mono h₁ (fun _ s₂ h₂ => ?_) fun _ _ h' => h')
    exact wpAny_bind (wpAny_bind (wpAny_mono h₂ (fun x s₄ h₄ => wpAny_bind (wpAny_mono h₄ (fun _ s₅ h₅ => wpAny_pure (wpAny_pure ⟨rfl, h₅⟩)) fun _ _ h' => h')) fun _ _ h' => h'))
theorem two_loop0 (I : Nat → Shared → Prop)
    (turn : ∀ n s, I n s → ∀ E : Value → Shared → Prop, wpAny (model prog w) A (pyNext it) (fun r s₁ => match r with
      | none => R (.ok .next) s₁
      | some v => wpAny (model prog w) A (letOwnedTupleGo t0 it v) (fun _ s₁' => wpAny (model prog w) A (assign t0 env v) (fun _ s₂ => wpAny (model prog w) A (eval i1 env) (fun x s₃ => wpAny (model prog w) A (pyIter x) (fun it' s₄ =>
              codeAny (model prog w) A (.compStart (twoE elt t0 i0 t1 i1 scope pos) 1 it' acc env) (fun r s₅ => ∃ f, r = .ok f ∧ ∃ m, m < n ∧ I m s₅) s₄) E s₃) E s₂) E s₁') E s₁) E s)
    (n : Nat) (h : I n s) (hf : ∀ x, foldedSetIterable i1 env x = pure x) : codeAny (model prog w) A (.compLoop (twoE elt t0 i0 t1 i1 scope pos) 0 it acc env) R s := by
  refine codeAny_loop rfl I (fun n s hI => ?_) n h
  show wpAny _ A ((compTurn (twoE elt t0 i0 t1 i1 scope pos) 0 it acc env).onRaise (fun x => do noteFrame x env; theTreesLotGoes x)) _ _ s
  refine wpAny_noted ?_
  rw [two_turn0]
  refine wpAny_bind (wpAny_standAt (wpAny_bind (wpAny_mono (turn n s hI _) (fun r s₁ h₁ => ?_) fun _ _ h' => h')))
  cases r with
  | none => exact wpAny_pure h₁
  | some v =>
    refine wpAny_bind (wpAny_mono h₁ (fun _ s₁' h₁' => ?_) fun _ _ h' => h')
    refine wpAny_bind (wpAny_mono h₁' (fun _ s₂ h₂ => ?_) fun _ _ h' => h')
    refine wpAny_bind (wpAny_mono h₂ (fun x s₃ h₃ => wpAny_bind (wpAny_standAt (wpAny_bind (wpAny_of_eq (hf x) (wpAny_bind (wpAny_holding (wpAny_mono h₃ (fun it' s₄ h₄ => ?_) fun _ _ h' => h'))))))) fun _ _ h' => h')
    refine wpAny_bind (wpAny_runOwn (codeAny_mono h₄ fun r s₅ h₅ => ?_))
    obtain ⟨f, rfl, hm⟩ := h₅
    exact wpAny_pure ⟨rfl, hm⟩
end
section
variable {prog : Program} {w : World} {A : Around} {env : Env} {h : Heap} {S : Addr → Prop}
noncomputable def InnOk (prog : Program) (w : World) (A : Around) (env : Env) (scope : Scope) (cl : List (Str × Addr)) (h : Heap) (S : Addr → Prop) (i1 : Expr) (x1 : Str) (elt : Expr) (bs : List (Str × D)) (ys : List D) (g : D → D) : Prop :=
  ∀ (S' : Addr → Prop) (C : Addr) (h' : Heap) (m : Str → Option Value), Up h S S' → Le h h' → h'.Ns C m → BdIn h' S' m bs →
    EvD prog w A (compEnvC scope cl C env) h' S' i1 (.lst ys) ∧ ∀ e ∈ ys, ∀ v, m x1 = some v → RD h' S' v e → EvD prog w A (compEnvC scope cl C env) h' S' elt (g e)
theorem comp2_block {elt t0 i0 i1 : Expr} {x1 : Str} {p1 : Pos} {scope : Scope} {cl : List (Str × Addr)} {pos : Pos} {s s₁ : Shared} {l : Addr} {vs : Array Value} {xs : List D} {E : Value → Shared → Prop}
    (bd : D → List (Str × D)) (ys : D → List D) (g : D → D → D) {RR : Value → Addr → Result → Shared → Prop}
    (ok : OkA 0 A) (hcell : ∀ y ∈ scope.names, y.2 ≠ .cell) (hkind : scope.kind = .function) (hs : Le h s.heap) (hk1 : Kp s s₁)
    (hl : s₁.heap.IsList l vs) (hx : RDs s₁.heap (Fr1 S s.heap) vs.toList xs) (hb : ∀ d ∈ xs, Bd t0 d (bd d)) (hloc : ∀ d ∈ xs, ∀ x e, (x, e) ∈ bd d → scope.names.lookup x = some .local ∧ x ≠ x1) (hx1 : scope.names.lookup x1 = some .local)
    (hel : ∀ d ∈ xs, InnOk prog w A env scope cl h S i1 x1 elt (bd d) (ys d) (g d)) (hsz : (xs.flatMap fun d => (ys d).map (g d)).length ≤ sizeLine)
    (hf : ∀ C x, foldedSetIterable i1 (compEnvC scope cl C env) x = pure x)
    (hRR : ∀ D C s', s.heap.get? D = none → s.heap.get? C = none → D ≠ C → (∃ m, s'.heap.Ns C m) → (∃ zs, s'.heap.PlainList D zs ∧ RDs s'.heap (fun b => Fr1 S s.heap b ∧ b ≠ C) zs.toList (xs.flatMap fun d => (ys d).map (g d))) → Kp s s' → RR (.ref D) C (.ok .next) s') :
    wpAny (model prog w) A (pyIter (.ref l)) (fun it s₂ => wpAny (model prog w) A (newList []) (fun acc s₃ => wpAny (model prog w) A (newFunctionEnv scope env.globals cl [] env.qual none .none (some env)) (fun cenv s₄ =>
      codeAny (model prog w) A (.compStart (twoE elt t0 i0 (.Name x1 p1) i1 scope pos) 0 it acc { cenv with scope := relabel scope env }) (RR acc cenv.locals) s₄) E s₃) E s₂) E s₁ := by
  refine wpAny_pyIter_list hl ?_
  refine wpAny_newObj_type (wpAny_newFunctionEnv hcell (by intro y hy; simp at hy) (fun h₄ hns₄ hsb₄ => ?_) hkind)
  dsimp only at hns₄ hsb₄ ⊢
  generalize hI : s₁.heap.objs.size = I at *
  generalize hH2 : s₁.heap.push { cls := .type "list_iterator", data := .fields #[.ref l, .int 0 0] } = H2 at *
  have hH2s : H2.objs.size = I + 1 := by rw [← hH2, Heap.size_push, hI]
  rw [hH2s]
  generalize hH3 : H2.push { cls := .type "list", dict := none, data := .seq ([] : List Value).toArray } = H3 at *
  have hH3s : H3.objs.size = I + 2 := by rw [← hH3, Heap.size_push, hH2s]
  rw [hH3s] at hns₄ hsb₄ ⊢
  have k12 : Le s₁.heap H2 := fun b o e => by rw [← hH2]; exact Heap.get?_push_of_some _ e
  have k23 : Le H2 H3 := fun b o e => by rw [← hH3]; exact Heap.get?_push_of_some _ e
  have k34 : Le H3 h₄ := fun b o e => hsb₄.extBut b o (fun z => ltne (Heap.lt_size e) 0 (z.trans hH3s.symm)) (Heap.get?_push_of_some _ e)
  have k14 : Le s₁.heap h₄ := (k12.trans k23).trans k34
  have hit : h₄.IsListIter I l 0 := ⟨_, k34 _ _ (k23 _ _ (by rw [← hH2, ← hI]; exact Heap.get?_push_size _ (by rfl))), rfl, rfl⟩
  have hacc : h₄.PlainList (I + 1) #[] := ⟨0, k34 _ _ (by rw [← hH3, ← hH2s]; exact Heap.get?_push_size _ (by rfl))⟩
  have f1 : ∀ b, s₁.heap.get? b ≠ none → b < I := fun b q => by
    cases e : s₁.heap.get? b with
    | none => exact absurd e q
    | some o => rw [← hI]; exact Heap.lt_size e
  have fD : s.heap.get? (I + 1) = none := fresh_le hk1.le (size_none (by omega))
  have fC : s.heap.get? (I + 2) = none := fresh_le hk1.le (size_none (by omega))
  have fI : s.heap.get? I = none := fresh_le hk1.le (size_none (by omega))
  let S'' : Addr → Prop := fun b => Fr1 S s.heap b ∧ b ≠ I ∧ b ≠ I + 1 ∧ b ≠ I + 2
  have up1 : Up s₁.heap (Fr1 S s.heap) S'' := fun a sa qa => ⟨sa, ltne (f1 a qa) 0, ltne (f1 a qa) 1, ltne (f1 a qa) 2⟩
  have uph : Up h S S'' := fun a sa qa => by
    have q : s₁.heap.get? a ≠ none := fun z => qa (fresh_le (hs.trans hk1.le) z)
    exact up1 a (.inl sa) q
  have freshS : ∀ {a}, s₁.heap.get? a = none → a ≠ I → a ≠ I + 1 → a ≠ I + 2 → S'' a := fun h1 h2 h3 h4 => ⟨.inr (fresh_le hk1.le h1), h2, h3, h4⟩
  let cenv := compEnvC scope cl (I + 2) env
  let F : D → List D := fun d => (ys d).map (g d)
  have hlen := hx.length
  have hlk : ∀ {x : Str}, scope.names.lookup x = some .local → cenv.kindOf x = some .local := fun h => lookup_relabel_local h
  have hfn : cenv.scope.kind = .function := by show (relabel scope env).kind = .function; exact hkind
  have hp : (cenv.scope.kind == .class || (cenv.scope.kind == .module && cenv.locals != cenv.globals)) = false := by rw [hfn]; rfl
  let Inv : Nat → Shared → Prop := fun k s' => ∃ i h' tk m' zs, s' = { s₁ with heap := h', toks := tk } ∧ h'.IsListIter I l i ∧ Le s₁.heap h' ∧ h'.PlainList (I + 1) zs ∧
      RDs h' S'' zs.toList ((xs.take i).flatMap F) ∧ h'.Ns (I + 2) m' ∧ i ≤ xs.length ∧ k = xs.length + 1 - i
  have loop : ∀ s₃ : Shared, s₃ = { s₁ with heap := h₄, toks := s₁.toks + ([] : List (Str × Value)).length } →
      codeAny (model prog w) A (.compLoop (twoE elt t0 i0 (.Name x1 p1) i1 scope pos) 0 (.ref I) (.ref (I + 1)) cenv) (RR (.ref (I + 1)) (I + 2)) s₃ := by
    rintro s₃ rfl
    refine two_loop0 Inv ?_ (xs.length + 1) ⟨0, h₄, _, _, #[], rfl, hit, k14, hacc, .nil, hns₄, Nat.zero_le _, rfl⟩ (hf _)
    rintro k s' ⟨i, H, tk, m', zs, rfl, hit', kH, hD', hR', hN', hi, rfl⟩ E'
    have hlH : H.IsList l vs := hl.at fun o e => kH _ o e
    by_cases hlt : i < xs.length
    · obtain ⟨d, hd⟩ : ∃ d, xs[i]? = some d := ⟨_, List.getElem?_eq_getElem hlt⟩
      have hmem := List.mem_of_getElem? hd
      obtain ⟨v, hv0, rv⟩ := hx.get hd
      have hv : vs[i]? = some v := by rw [← Array.getElem?_toList]; exact hv0
      refine wpAny_pyNext_list_item hit' hlH hv fun h5 hit5 hs5 => ?_
      have k5 : Le s₁.heap h5 := fun b o e => hs5.extBut b o (ltne (f1 b (some_ne e)) 0) (kH b o e)
      have rv5 : RD h5 S'' v d := rv.up k5 up1
      refine owned_bd (hb _ hmem) hit5 rv5 ?_
      have hN5 : h5.Ns cenv.locals m' := hN'.sameBut hs5 (by show I + 2 ≠ I; omega)
      refine assign_bd (hb _ hmem) ok.hd hfn (fun x e hxd => hlk (hloc _ hmem x e hxd).1) hN5 rv5 (fun z => z.2.2.2 rfl) fun h6 tk6 m6 hn6 hb6 _ hx6 => ?_
      have k6 : Le s₁.heap h6 := fun b o e => hx6 b o (ltne (f1 b (some_ne e)) 2) (k5 b o e)
      have hD6 : h6.PlainList (I + 1) zs := (hD'.at fun o e => hs5.extBut _ o (Nat.succ_ne_self _) e).at fun o e => hx6 _ o (by show I + 1 ≠ I + 2; omega) e
      have hR6 : RDs h6 S'' zs.toList ((xs.take i).flatMap F) := (hR'.but hs5.extBut fun z => z.2.1 rfl).but hx6 fun z => z.2.2.2 rfl
      have hit6 : h6.IsListIter I l (i + 1) := hit5.at fun o e => hx6 _ o (by show I ≠ I + 2; omega) e
      refine wpAny_mono ((hel _ hmem S'' (I + 2) h6 m6 uph ((hs.trans hk1.le).trans k6) hn6 hb6).1 { s₁ with heap := h6, toks := tk6 } _ fun _ _ e => e) (fun xv s7 q7 => ?_) fun _ _ q => q
      obtain ⟨rx, k7, h7, tk7, rfl⟩ := q7
      dsimp only at rx k7
      cases rx using RD.lstE with
      | lst sa ea ca da ra =>
      rename_i li oi its ni
      have hli : h7.IsList li its := ⟨oi, ea, ca, ni, da⟩
      refine wpAny_pyIter_list hli ?_
      dsimp only
      have hJ0 : h7.get? h7.objs.size = none := new_none _
      have k8 : Le h7 (h7.push { cls := .type "list_iterator", data := .fields #[.ref li, .int 0 0] }) := fun b o e => Heap.get?_push_of_some _ e
      have hitJ : (h7.push { cls := .type "list_iterator", data := .fields #[.ref li, .int 0 0] }).IsListIter h7.objs.size li 0 := ⟨_, Heap.get?_push_size _ rfl, rfl, rfl⟩
      generalize h7.push { cls := .type "list_iterator", data := .fields #[.ref li, .int 0 0] } = h8 at *
      generalize h7.objs.size = J at *
      have nJ : ∀ {b o}, h7.get? b = some o → b ≠ J := fun e z => by rw [z, hJ0] at e; cases e
      have k68 : Le h6 h8 := k7.trans k8
      obtain ⟨oI, eI, rI⟩ := id hit6
      obtain ⟨nD, eD⟩ := id hD6
      obtain ⟨oC, esC, epC, eC, rC⟩ := id hn6
      have jI : I ≠ J := nJ (k7 _ _ eI)
      have jD : I + 1 ≠ J := nJ (k7 _ _ eD)
      have jC : I + 2 ≠ J := nJ (k7 _ _ eC)
      have j1 : ∀ {b o}, s₁.heap.get? b = some o → b ≠ J := fun e => nJ (k7 _ _ (k6 _ _ e))
      let SJ : Addr → Prop := fun b => S'' b ∧ b ≠ J
      have upJ : ∀ {a}, S'' a → h7.get? a ≠ none → SJ a := fun h1 h2 => ⟨h1, fun z => h2 (z ▸ hJ0)⟩
      have new6 : ∀ {a}, h6.get? a = none → S'' a := fun {a} h1 => freshS (fresh_le k6 h1) (fun z => by rw [z, eI] at h1; cases h1) (fun z => by rw [z, eD] at h1; cases h1) fun z => by rw [z, show h6.get? (I + 2) = some oC from eC] at h1; cases h1
      have hRits : RDs h8 SJ its.toList (ys d) := (ra.dom.mono (fun a o _ e => k8 _ _ e) fun a z => upJ (z.1.elim id new6) z.2)
      have hbJ : BdIn h8 SJ m6 (bd d) := fun x e hxe => by
        obtain ⟨u, hu, ru⟩ := hb6 x e hxe
        exact ⟨u, hu, ru.dom.mono (fun a o _ e => k68 _ _ e) fun a z => ⟨z.1, fun q => by
          cases q2 : h6.get? a with
          | none => exact z.2 q2
          | some o => exact nJ (k7 _ _ q2) q⟩⟩
      have hRJ : RDs h8 SJ zs.toList ((xs.take i).flatMap F) := hR6.dom.mono (fun a o _ e => k68 _ _ e) fun a z => ⟨z.1, fun q => by
          cases q2 : h6.get? a with
          | none => exact z.2 q2
          | some o => exact nJ (k7 _ _ q2) q⟩
      have htk : (xs.take (i + 1)).flatMap F = (xs.take i).flatMap F ++ F d := by rw [take_succ hd, List.flatMap_append]; simp
      have hfl : ((xs.take i).flatMap F ++ F d).length ≤ sizeLine := by
        rw [← htk]
        have e : xs.flatMap F = (xs.take (i + 1)).flatMap F ++ (xs.drop (i + 1)).flatMap F := by rw [← List.flatMap_append, List.take_append_drop]
        have : (xs.flatMap F).length ≤ sizeLine := hsz
        rw [e, List.length_append] at this
        omega
      have hlen1 : its.size = (ys d).length := by rw [← Array.length_toList, ra.length]
      have uph8 : Up h S SJ := fun a sa qa => ⟨uph a sa qa, fun z => by
        cases q : h.get? a with
        | none => exact qa q
        | some o => exact nJ (k7 _ _ (k6 _ _ (hk1.le _ _ (hs _ _ q)))) z⟩
      have loop1 : codeAny (model prog w) A (.compLoop (twoE elt t0 i0 (.Name x1 p1) i1 scope pos) 1 (.ref J) (.ref (I + 1)) cenv) (fun r s₅ => ∃ f, r = .ok f ∧ ∃ m, m < xs.length + 1 - i ∧ Inv m s₅) { s₁ with heap := h8, toks := tk7 } := by
        refine two_loop1 (fun k s' => ∃ j h' tk m2 zs, s' = { s₁ with heap := h', toks := tk } ∧ h'.IsListIter J li j ∧ (∀ b o, b ≠ J → b ≠ I + 1 → b ≠ I + 2 → h8.get? b = some o → h'.get? b = some o) ∧ h'.PlainList (I + 1) zs ∧
          RDs h' SJ zs.toList ((xs.take i).flatMap F ++ ((ys d).take j).map (g d)) ∧ h'.Ns (I + 2) m2 ∧ BdIn h' SJ m2 (bd d) ∧ j ≤ (ys d).length ∧ k = (ys d).length + 1 - j) ?_ ((ys d).length + 1)
          ⟨0, h8, tk7, m6, zs, rfl, hitJ, fun b o _ _ _ e => e, hD6.at fun o e => k68 _ o e, by simpa using hRJ, hn6.keeps k68, hbJ, Nat.zero_le _, rfl⟩ (by intro _; rfl)
        rintro k s' ⟨j, G, tk', m2, us, rfl, hJ', kG, hDz, hRz, hNz, hbz, hj, rfl⟩ E2
        have n1 : ∀ {b o}, s₁.heap.get? b = some o → b ≠ I + 1 ∧ b ≠ I + 2 := fun {b o} e => ⟨ltne (f1 b (some_ne e)) 1, ltne (f1 b (some_ne e)) 2⟩
        have k1G : Le s₁.heap G := fun b o e => kG b o (j1 e) (n1 e).1 (n1 e).2 (k68 _ _ (k6 _ _ e))
        have kS : ∀ {b o}, SJ b → h8.get? b = some o → G.get? b = some o := fun h e => kG _ _ h.2 h.1.2.2.1 h.1.2.2.2 e
        have nli : li ≠ I + 1 ∧ li ≠ I + 2 := by
          have := sa.elim id new6
          exact ⟨this.2.2.1, this.2.2.2⟩
        have hliG : G.IsList li its := ⟨oi, kG _ _ (nJ ea) nli.1 nli.2 (k8 _ _ ea), ca, ni, da⟩
        by_cases hjl : j < (ys d).length
        · obtain ⟨e, he⟩ : ∃ e, (ys d)[j]? = some e := ⟨_, List.getElem?_eq_getElem hjl⟩
          obtain ⟨y, hy0, ry⟩ := hRits.get he
          have hy : its[j]? = some y := by rw [← Array.getElem?_toList]; exact hy0
          refine wpAny_pyNext_list_item hJ' hliG hy fun g5 hJ5 hs5 => ?_
          have y5 := hs5.extBut
          have hNg : g5.Ns (I + 2) m2 := hNz.sameBut hs5 jC
          refine wpAny_assign_Name (wpAny_storeName_local (hlk hx1) hNg (fun g6 hn6' hs6 => ?_) hp)
          have y6 := hs6.extBut
          have kSg : ∀ {b o}, SJ b → G.get? b = some o → g6.get? b = some o := fun h e => y6 _ _ (fun z => h.1.2.2.2 z) (y5 _ _ h.2 e)
          have ry6 : RD g6 SJ y e := ry.mono (fun a o h e => kSg h (kS h e)) fun _ h => h
          have hb6' : BdIn g6 SJ (fun z => if z = x1 then some y else m2 z) (bd d) := fun x e hxe => by
            obtain ⟨u, hu, ru⟩ := hbz x e hxe
            exact ⟨u, (if_neg (hloc _ hmem x e hxe).2).trans hu, ru.mono (fun a o h e => kSg h e) fun _ h => h⟩
          have k1g : Le s₁.heap g6 := fun b o e => y6 _ _ (n1 e).2 (y5 _ _ (j1 e) (k1G _ _ e))
          refine wpAny_mono ((hel _ hmem SJ (I + 2) g6 _ uph8 ((hs.trans hk1.le).trans k1g) hn6' hb6').2 e (List.mem_of_getElem? he) y (if_pos rfl) ry6 _ E2 fun _ _ e => e) (fun r s8 q8 => ?_) fun _ _ q => q
          obtain ⟨r8, k9, g8, tk8, rfl⟩ := q8
          dsimp only at r8 k9
          have hD8 : g8.PlainList (I + 1) us := ((hDz.at fun o e => y5 _ o jD e).at fun o e => y6 _ o (by show I + 1 ≠ I + 2; omega) e).at fun o e => k9 _ o e
          have hus : us.size ≤ sizeLine := by
            have e1 := hRz.length
            rw [Array.length_toList, List.length_append, List.length_map, List.length_take] at e1
            rw [List.length_append] at hfl
            have : (F d).length = (ys d).length := List.length_map _
            omega
          refine wpAny_list_append_plain (hsz := hus) hD8 fun g9 hl9 hs9 => ?_
          have y9 := hs9.extBut
          have al : ∀ b o, b ≠ J → b ≠ I + 1 → b ≠ I + 2 → G.get? b = some o → g9.get? b = some o := fun b o h1 h2 h3 e => y9 _ _ h2 (k9 _ _ (y6 _ _ h3 (y5 _ _ h1 e)))
          have nD' : ¬ SJ (I + 1) := fun z => z.1.2.2.1 rfl
          have r9 : RD g9 SJ r (g d e) := RD.but y9 nD' (r8.sub fun a z => by
            rcases z with z | z
            · exact z
            · have aJ : ∀ {b o}, g6.get? b = some o → a ≠ b := fun e q => by rw [← q, z] at e; cases e
              obtain ⟨oj, ej, _⟩ := id hJ5
              obtain ⟨od, ed⟩ := id hDz
              obtain ⟨oc, _, _, ec, _⟩ := id hn6'
              have eIG : G.get? I = some oI := kG _ _ jI (by omega) (by omega) (k68 _ _ eI)
              exact ⟨freshS (fresh_le k1g z) (aJ (y6 _ _ (by show I ≠ I + 2; omega) (y5 _ _ jI eIG))) (aJ (y6 _ _ (by show I + 1 ≠ I + 2; omega) (y5 _ _ jD ed))) (aJ ec), aJ (y6 _ _ (Ne.symm jC) ej)⟩)
          refine ⟨(ys d).length + 1 - (j + 1), by omega, j + 1, g9, _, _, us.push r, rfl, ?_, fun b o h1 h2 h3 e => al b o h1 h2 h3 (kG b o h1 h2 h3 e), hl9, ?_, (hn6'.keeps k9).sameBut hs9 (by show I + 2 ≠ I + 1; omega), fun x e hxe => ?_, hjl, rfl⟩
          · exact ((hJ5.at fun o e => y6 _ o (Ne.symm jC) e).at fun o e => k9 _ o e).at fun o e => y9 _ o (Ne.symm jD) e
          · rw [take_succ he, List.map_append, ← List.append_assoc, Array.toList_push]
            exact (hRz.mono (fun a o h e => al a o h.2 h.1.2.2.1 h.1.2.2.2 e) fun _ h => h).append (RDs.one r9)
          · obtain ⟨u, hu, ru⟩ := hb6' x e hxe
            exact ⟨u, hu, ru.mono (fun a o h e => y9 _ _ h.1.2.2.1 (k9 _ _ e)) fun _ h => h⟩
        · have hjn : j = (ys d).length := by omega
          subst hjn
          refine wpAny_pyNext_list_end ok.hd hJ' hliG (by rw [← Array.getElem?_toList]; exact List.getElem?_eq_none (by rw [Array.length_toList, hlen1]; exact Nat.le_refl _)) fun g5 hx5 => ?_
          refine ⟨.next, rfl, xs.length + 1 - (i + 1), by omega, i + 1, g5, tk', m2, us, rfl, ⟨oI, hx5 _ _ jI (kG _ _ jI (by omega) (by omega) (k68 _ _ eI)), rI⟩, fun b o e => hx5 b o (j1 e) (k1G b o e), hDz.at fun o e => hx5 _ o jD e, ?_, hNz.at' fun o e => hx5 _ o jC e, hlt, rfl⟩
          rw [List.take_length] at hRz
          rw [htk]
          exact hRz.mono (fun a o h e => hx5 a o h.2 e) fun _ h => h.1
      exact two_start1 loop1 (wpAny_pyIter_listiter hitJ loop1)
    · have hin : i = xs.length := by omega
      subst hin
      refine wpAny_pyNext_list_end ok.hd hit' hlH (by rw [← Array.getElem?_toList]; exact List.getElem?_eq_none (by omega)) fun h5 hx5 => ?_
      have k5 : Le s₁.heap h5 := fun b o e => hx5 b o (ltne (f1 b (some_ne e)) 0) (kH b o e)
      rw [List.take_length] at hR'
      obtain ⟨kk, hh, tt, rfl⟩ := hk1
      refine hRR _ _ _ fD fC (Nat.ne_of_lt (Nat.lt_succ_self _)) ⟨m', hN'.at' fun o e => hx5 _ o (by show I + 2 ≠ I; omega) e⟩ ⟨zs, hD'.at fun o e => hx5 _ o (Nat.succ_ne_self _) e, (hR'.but hx5 fun z => z.2.1 rfl).sub fun a z => ⟨z.1, z.2.2.2⟩⟩ (Kp.of tk (kk.trans k5))
  exact codeAny_compStart_list (loop _ rfl) (wpAny_pyIter_listiter hit (loop _ rfl))
theorem EvD.comp2 {elt t0 i0 i1 : Expr} {x1 : Str} {p1 : Pos} {scope : Scope} {cl : List (Str × Addr)} {pos : Pos} {xs : List D} (bd : D → List (Str × D)) (ys : D → List D) (g : D → D → D)
    (src : SrcL prog w A env h S i0 xs) (ok : OkA 0 A) (hclos : closureFor scope env = pure cl) (hcell : ∀ y ∈ scope.names, y.2 ≠ .cell) (hkind : scope.kind = .function)
    (hnames : ∀ y ∈ scope.names, y.2 = .local → scope.names.lookup y.1 = some .local)
    (hb : ∀ d ∈ xs, Bd t0 d (bd d)) (hloc : ∀ d ∈ xs, ∀ x e, (x, e) ∈ bd d → scope.names.lookup x = some .local ∧ x ≠ x1) (hx1 : scope.names.lookup x1 = some .local)
    (hel : ∀ d ∈ xs, InnOk prog w A env scope cl h S i1 x1 elt (bd d) (ys d) (g d)) (hsz : (xs.flatMap fun d => (ys d).map (g d)).length ≤ sizeLine)
    (hf : ∀ C x, foldedSetIterable i1 (compEnvC scope cl C env) x = pure x := by intro _ _; rfl) (hst : ∀ x, foldedSetIterable i0 env x = pure x := by intro _; rfl) :
    EvD prog w A env h S (twoE elt t0 i0 (.Name x1 p1) i1 scope pos) (.lst (xs.flatMap fun d => (ys d).map (g d))) := fun s E hs => by
  rw [eval_ListComp]
  refine wpAny_comprehension_free (use := none) rfl hst hclos hkind hnames (wpAny_mono (src s E hs) (fun xv s₁ h₁ => ?_) fun _ _ e => e)
  obtain ⟨⟨l, vs, rfl, hl, r⟩, k1⟩ := h₁
  refine comp2_block (RR := fun acc C => compPost (model prog w) A E none _ acc C) bd ys g ok hcell hkind hs k1 hl r hb hloc hx1 hel hsz hf ?_
  intro D C s' hD hC hDC hn hy hk
  obtain ⟨m, hn⟩ := hn
  obtain ⟨ys, ⟨n, hp⟩, hr⟩ := hy
  refine ⟨m, hn, fun h'' hs'' => ⟨.lst (.inr hD) (hs''.extBut _ _ hDC hp) rfl rfl ((hr.but hs''.extBut fun z => z.2 rfl).sub fun _ z => z.1), ?_⟩⟩
  obtain ⟨kk, hh, tt, rfl⟩ := hk
  exact Kp.of tt fun b o e => hs''.extBut b o (fun z => by rw [z, hC] at e; cases e) (kk b o e)
end
section
variable {prog : Program} {w : World} {A : Around} {env : Env} {h : Heap} {S : Addr → Prop}
theorem compC_block {elt iter : Expr} {x : Str} {p : Pos} {scope : Scope} {cl : List (Str × Addr)} {pos : Pos} {s s₁ : Shared} {l : Addr} {vs : Array Value} {xs : List D} {E : Value → Shared → Prop}
    (g : D → D) {RR : Value → Addr → Result → Shared → Prop}
    (ok : OkA 0 A) (hc1 : ∀ n, cellsFrom n scope.names cl = (x, n) :: cl) (hc2 : ∀ h, pushCells h scope.names = h.push { cls := .type "cell", data := .cell none }) (hxk : (relabel scope env).names.lookup x = some .cell) (hkind : scope.kind = .function) (hs : Le h s.heap) (hk1 : Kp s s₁)
    (hl : s₁.heap.IsList l vs) (hx : RDs s₁.heap (Fr1 S s.heap) vs.toList xs)
    (hel : ∀ d ∈ xs, ∀ (S' : Addr → Prop) (C Cx : Addr) (h' : Heap) (v : Value), Up h S S' → Le h h' → h'.IsCell Cx (some v) → RD h' S' v d → EvD prog w A (compEnvC scope ((x, Cx) :: cl) C env) h' S' elt (g d)) (hsz : xs.length ≤ sizeLine)
    (hRR : ∀ D C s', s.heap.get? D = none → s.heap.get? C = none → D ≠ C → (∃ m, s'.heap.Ns C m) → (∃ ys, s'.heap.PlainList D ys ∧ RDs s'.heap (fun b => Fr1 S s.heap b ∧ b ≠ C) ys.toList (xs.map g)) → Kp s s' → RR (.ref D) C (.ok .next) s') :
    wpAny (model prog w) A (pyIter (.ref l)) (fun it s₂ => wpAny (model prog w) A (newList []) (fun acc s₃ => wpAny (model prog w) A (newFunctionEnv scope env.globals cl [] env.qual none .none (some env)) (fun cenv s₄ =>
      codeAny (model prog w) A (.compStart (.ListComp elt [⟨.Name x p, iter, [], 0⟩] scope pos) 0 it acc { cenv with scope := relabel scope env }) (RR acc cenv.locals) s₄) E s₃) E s₂) E s₁ := by
  refine wpAny_pyIter_list hl ?_
  refine wpAny_newObj_type ?_
  simp only [newFunctionEnv, Option.isSome_some, if_true]
  refine wpAny_bind (wpAny_alloc ?_)
  refine wpAny_bind (wpAny_layCells _ (fun name kind cells => by cases hkc : kind == NameKind.cell <;> simp [hkc]) _ _ _ _ ?_)
  rw [hc1, hc2, List.forIn_nil]
  refine wpAny_bind (wpAny_pure (wpAny_pure ?_))
  dsimp only
  generalize hI : s₁.heap.objs.size = I at *
  generalize hH2 : s₁.heap.push { cls := .type "list_iterator", data := .fields #[.ref l, .int 0 0] } = H2 at *
  have hH2s : H2.objs.size = I + 1 := by rw [← hH2, Heap.size_push, hI]
  rw [hH2s]
  generalize hH3 : H2.push { cls := .type "list", dict := none, data := .seq ([] : List Value).toArray } = H3 at *
  have hH3s : H3.objs.size = I + 2 := by rw [← hH3, Heap.size_push, hH2s]
  rw [hH3s]
  generalize hH4 : H3.push { cls := .type "dict", data := .dict #[] } = H4 at *
  have hH4s : H4.objs.size = I + 3 := by rw [← hH4, Heap.size_push, hH3s]
  rw [hH4s]
  generalize hH5 : H4.push { cls := .type "cell", data := .cell none } = h₄ at *
  have k12 : Le s₁.heap H2 := fun b o e => by rw [← hH2]; exact Heap.get?_push_of_some _ e
  have k23 : Le H2 H3 := fun b o e => by rw [← hH3]; exact Heap.get?_push_of_some _ e
  have k34 : Le H3 H4 := fun b o e => by rw [← hH4]; exact Heap.get?_push_of_some _ e
  have k45 : Le H4 h₄ := fun b o e => by rw [← hH5]; exact Heap.get?_push_of_some _ e
  have k14 : Le s₁.heap h₄ := ((k12.trans k23).trans k34).trans k45
  have hit : h₄.IsListIter I l 0 := ⟨_, k45 _ _ (k34 _ _ (k23 _ _ (by rw [← hH2, ← hI]; exact Heap.get?_push_size _ (by rfl)))), rfl, rfl⟩
  have hacc : h₄.PlainList (I + 1) #[] := ⟨0, k45 _ _ (k34 _ _ (by rw [← hH3, ← hH2s]; exact Heap.get?_push_size _ (by rfl)))⟩
  have hns₄ : h₄.Ns (I + 2) fun _ => none := by rw [← hH3s]; exact (hH4 ▸ Heap.Ns.new H3 (.type "dict")).keeps k45
  have hcel : h₄.IsCell (I + 3) none := ⟨_, by rw [← hH5, ← hH4s]; exact Heap.get?_push_size _ (by rfl), rfl⟩
  have f1 : ∀ b, s₁.heap.get? b ≠ none → b < I := fun b q => by
    cases e : s₁.heap.get? b with
    | none => exact absurd e q
    | some o => rw [← hI]; exact Heap.lt_size e
  have fD : s.heap.get? (I + 1) = none := fresh_le hk1.le (size_none (by omega))
  have fC : s.heap.get? (I + 2) = none := fresh_le hk1.le (size_none (by omega))
  let S'' : Addr → Prop := fun b => Fr1 S s.heap b ∧ b ≠ I ∧ b ≠ I + 1 ∧ b ≠ I + 2 ∧ b ≠ I + 3
  have up1 : Up s₁.heap (Fr1 S s.heap) S'' := fun a sa qa => ⟨sa, ltne (f1 a qa) 0, ltne (f1 a qa) 1, ltne (f1 a qa) 2, ltne (f1 a qa) 3⟩
  have uph : Up h S S'' := fun a sa qa => by
    have q : s₁.heap.get? a ≠ none := fun z => qa (fresh_le (hs.trans hk1.le) z)
    exact up1 a (.inl sa) q
  let cenv := compEnvC scope ((x, I + 3) :: cl) (I + 2) env
  have hfn : cenv.scope.kind = .function := by show (relabel scope env).kind = .function; exact hkind
  have hlen := hx.length
  have loop : ∀ s₃ : Shared, s₃ = { s₁ with heap := h₄, toks := s₁.toks } →
      codeAny (model prog w) A (.compLoop (.ListComp elt [⟨.Name x p, iter, [], 0⟩] scope pos) 0 (.ref I) (.ref (I + 1)) cenv) (RR (.ref (I + 1)) (I + 2)) s₃ := by
    rintro s₃ rfl
    refine comp_loop (fun k s' => ∃ i h' tk cv ys, s' = { s₁ with heap := h', toks := tk } ∧ h'.IsListIter I l i ∧ Le s₁.heap h' ∧ h'.PlainList (I + 1) ys ∧
      RDs h' S'' ys.toList ((xs.take i).map g) ∧ h'.Ns (I + 2) (fun _ => none) ∧ h'.IsCell (I + 3) cv ∧ i ≤ xs.length ∧ k = xs.length + 1 - i) ?_ (xs.length + 1)
      ⟨0, h₄, _, _, #[], rfl, hit, k14, hacc, .nil, hns₄, hcel, Nat.zero_le _, rfl⟩
    rintro k s' ⟨i, H, tk, cv, ys, rfl, hit', kH, hD', hR', hN', hC', hi, rfl⟩ E'
    have hlH : H.IsList l vs := hl.at fun o e => kH _ o e
    by_cases hlt : i < xs.length
    · obtain ⟨d, hd⟩ : ∃ d, xs[i]? = some d := ⟨_, List.getElem?_eq_getElem hlt⟩
      have hmem := List.mem_of_getElem? hd
      obtain ⟨v, hv0, rv⟩ := hx.get hd
      have hv : vs[i]? = some v := by rw [← Array.getElem?_toList]; exact hv0
      refine wpAny_pyNext_list_item hit' hlH hv fun h5 hit5 hs5 => ?_
      have k5 : Le s₁.heap h5 := fun b o e => hs5.extBut b o (ltne (f1 b (some_ne e)) 0) (kH b o e)
      have rv5 : RD h5 S'' v d := rv.up k5 up1
      refine wpAny_pure ?_
      have hC5 : h5.IsCell (I + 3) cv := hC'.sameBut hs5 (by show I + 3 ≠ I; omega)
      refine wpAny_assign_Name (wpAny_storeName_cell (c := I + 3) hfn hxk (by show List.lookup x ((x, I + 3) :: cl) = _; simp [List.lookup_cons]) hC5 fun h6 hv6 hs6 => ?_)
      have hx6 := hs6.extBut
      have k6 : Le s₁.heap h6 := fun b o e => hx6 b o (ltne (f1 b (some_ne e)) 3) (k5 b o e)
      have hD6 : h6.PlainList (I + 1) ys := (hD'.at fun o e => hs5.extBut _ o (Nat.succ_ne_self _) e).at fun o e => hx6 _ o (by show I + 1 ≠ I + 3; omega) e
      have hR6 : RDs h6 S'' ys.toList ((xs.take i).map g) := (hR'.but hs5.extBut fun z => z.2.1 rfl).but hx6 fun z => z.2.2.2.2 rfl
      have hit6 : h6.IsListIter I l (i + 1) := hit5.at fun o e => hx6 _ o (by show I ≠ I + 3; omega) e
      have hn6 : h6.Ns (I + 2) fun _ => none := (hN'.sameBut hs5 (by show I + 2 ≠ I; omega)).at' fun o e => hx6 _ o (by show I + 2 ≠ I + 3; omega) e
      refine wpAny_tests_nil ?_
      simp only [if_true]
      refine wpAny_mono (hel _ hmem S'' (I + 2) (I + 3) h6 v uph ((hs.trans hk1.le).trans k6) hv6 (rv5.but hx6 fun z => z.2.2.2.2 rfl) _ E' fun _ _ e => e) (fun y s8 q8 => ?_) fun _ _ q => q
      obtain ⟨r8, k8, h8, tk8, rfl⟩ := q8
      dsimp only at r8 k8
      have hys : ys.size ≤ sizeLine := by
        have e1 := hR'.length
        rw [Array.length_toList, List.length_map, List.length_take] at e1
        omega
      refine wpAny_list_append_plain (hsz := hys) (hD6.at fun o e => k8 _ o e) fun h9 hl9 hs9 => ?_
      have nD : ¬ S'' (I + 1) := fun z => z.2.2.1 rfl
      refine ⟨xs.length + 1 - (i + 1), by omega, i + 1, h9, tk8, _, ys.push y, rfl, (hit6.at fun o e => k8 _ o e).at fun o e => hs9.extBut _ o (Nat.ne_of_lt (Nat.lt_succ_self _)) e, fun b o e => hs9.extBut b o (ltne (f1 b (some_ne e)) 1) (k8 b o (k6 b o e)), hl9, ?_, (hn6.keeps k8).sameBut hs9 (by show I + 2 ≠ I + 1; omega), (hv6.keeps k8).sameBut hs9 (by show I + 3 ≠ I + 1; omega), hlt, rfl⟩
      rw [take_succ hd, List.map_append, Array.toList_push]
      have r9 : RD h9 S'' y (g d) := by
        refine RD.but hs9.extBut nD (r8.sub fun a z => ?_)
        rcases z with z | z
        · exact z
        · have ex : ∀ b o, h6.get? b = some o → a ≠ b := fun b o e q => by rw [← q, z] at e; cases e
          obtain ⟨oi, ei, _⟩ := hit6
          obtain ⟨od, ed⟩ := hD6
          obtain ⟨oc, _, _, ec, _⟩ := hn6
          obtain ⟨ox, ex', _⟩ := hv6
          exact ⟨.inr (fresh_le ((hk1.le).trans k6) z), ex _ _ ei, ex _ _ ed, ex _ _ ec, ex _ _ ex'⟩
      exact ((hR6.le k8).but hs9.extBut nD).append (RDs.one r9)
    · have hin : i = xs.length := by omega
      subst hin
      refine wpAny_pyNext_list_end ok.hd hit' hlH (by rw [← Array.getElem?_toList]; exact List.getElem?_eq_none (by omega)) fun h5 hx5 => ?_
      have k5 : Le s₁.heap h5 := fun b o e => hx5 b o (ltne (f1 b (some_ne e)) 0) (kH b o e)
      rw [List.take_length] at hR'
      obtain ⟨kk, hh, tt, rfl⟩ := hk1
      refine hRR _ _ _ fD fC (Nat.ne_of_lt (Nat.lt_succ_self _)) ⟨_, hN'.at' fun o e => hx5 _ o (by show I + 2 ≠ I; omega) e⟩ ⟨ys, hD'.at fun o e => hx5 _ o (Nat.succ_ne_self _) e, (hR'.but hx5 fun z => z.2.1 rfl).sub fun a z => ⟨z.1, z.2.2.2.1⟩⟩ (Kp.of tk (kk.trans k5))
  exact codeAny_compStart_list (loop _ rfl) (wpAny_pyIter_listiter hit (loop _ rfl))
end
noncomputable abbrev lstO (vs : Array Value) (c : Nat) : Obj := { cls := .type "list", dict := none, data := .seq vs c, slots := #[] }
structure Fills (w : World) (A : Around) (L : Addr) (I : Addr) (wr : List Addr) (n : Nat) (P : Nat → Value → Prop) (s : Shared) : Prop where
  ex : ∃ fp St, Walks pw w A I fp wr n P St ∧ St 0 s.heap ∧ L ∉ fp ∧ I ∈ fp
  small : n ≤ sizeLine
section
variable {w : World} {A : Around} {s : Shared} {E : Value → Shared → Prop}
theorem ext_of {v tv : Value} {R : Result → Shared → Prop} {L : Addr} {res : Value} (hty : Looks (model pw w) s.heap (typeOf v) tv) (h1 : (tv == .type "list") = false) (h2 : (tv == .type "tuple") = false) (hs : Builtin.List.listSameRef (.ref L) v = false)
    (hit : wpAny (model pw w) A.in1 (pyIter v) (fun it s1 => ∃ I wr n P, it = .ref I ∧ Fills w A.in1 L I wr n P s1 ∧ (∀ (Q : Bool → Shared → Prop) (E : Value → Shared → Prop), (∀ b s', Kp s1 s' → Q b s') → wpAny (model pw w) A.in1 (Builtin.List.listLengthHint v) Q E s1) ∧ (∃ c, s1.heap.get? L = some (lstO #[] c)) ∧
      ∀ s' acc c', (∀ b o, b ≠ L → b ∉ wr → s1.heap.get? b = some o → s'.heap.get? b = some o) → (∃ h' tk, s' = { s1 with heap := h', toks := tk }) → s'.heap.get? L = some (lstO acc c') → ItemsOf P acc n → R (.ok (.ret res)) s') (fun e s' => R (.error e) s') s) :
    wpAny (model pw w) A.in1 (Builtin.List.listExtendWith (.ref L) v res)
      (fun fin s' => match fin with | .done f => R (.ok f) s' | .again c' => c'.quiet = true ∧ codeAny (model pw w) A c' R s') (fun e s' => R (.error e) s') s := by
  unfold Builtin.List.listExtendWith
  refine wpAny_bind (hty.here ?_)
  simp only [hs, h1, h2, Bool.or_false, Bool.false_eq_true, if_false]
  refine wpAny_bind (wpAny_mono hit (fun it s1 q => ?_) fun _ _ q => q)
  obtain ⟨I, wr, n, P, rfl, ⟨⟨fp, St, W, st, hLf, hI⟩, hn⟩, hint, ⟨c, hL⟩, hR⟩ := q
  refine wpAny_bind (wpAny_holding (hint _ _ fun b s1' k1' => ?_))
  have WS := W.toS
  replace st := W.frame _ _ _ st fun b _ o e => k1'.le _ _ e
  replace hL := k1'.le _ _ hL
  replace hR : ∀ s' acc c', (∀ b o, b ≠ L → b ∉ wr → s1'.heap.get? b = some o → s'.heap.get? b = some o) → (∃ h' tk, s' = { s1' with heap := h', toks := tk }) → s'.heap.get? L = some (lstO acc c') → ItemsOf P acc n → R (.ok (.ret res)) s' := fun s' acc c' hk sh hl hi =>
    hR s' acc c' (fun b o h1 h2 e => hk b o h1 h2 (k1'.le _ _ e)) (by
      obtain ⟨h1, t1, e1⟩ := k1'.eq
      obtain ⟨h2, t2, e2⟩ := sh
      exact ⟨h2, t2, by rw [e2, e1]⟩) hl hi
  clear hint
  generalize hs1 : s1' = s1 at *
  have fin : ∀ (s₁ : Shared) c₁, s₁.heap.get? L = some (lstO #[] c₁) → St 0 s₁.heap → (∀ b o, b ≠ L → b ∉ wr → s1.heap.get? b = some o → s₁.heap.get? b = some o) → (∃ h' tk, s₁ = { s1 with heap := h', toks := tk }) →
      wpAny (model pw w) A.in1 (again (.builtin "list.extend.loop" ⟨[.ref L, .ref I, res], []⟩)) (fun fin s' => match fin with | .done f => R (.ok f) s' | .again c' => c'.quiet = true ∧ codeAny (model pw w) A c' R s') (fun e s' => R (.error e) s') s₁ := fun s₁ c₁ hL₁ st₁ hm sh =>
    wpAny_pure ⟨plainId_quiet PySem.F.plain_extend_loop _, codeAny_extend_loopS WS hn _ hLf _ n 0 _ _ _ rfl (Nat.zero_le _) st₁ hL₁ (ItemsOf.nil P) fun s' acc' c' hm' hS' hacc => hR s' acc' c' (fun b o hb hw e => hm'.heap b o (fun z => (List.mem_cons.mp z).elim hb hw) (hm b o hb hw e)) (by
      obtain ⟨h2, t2, e2⟩ := sh
      obtain ⟨_, g1, d1, o1, _⟩ := hm'
      refine ⟨s'.heap, s'.toks, ?_⟩
      subst e2
      cases s'
      simp only at g1 d1 o1
      subst g1 d1 o1
      rfl) hS' hacc⟩
  split
  · refine wpAny_bind (wpAny_rule (wpAny_bind ?_))
    show wpAny _ A.in1 (updateSeq L (·.push .none) >>= fun _ => updateSeq L (·.pop)) _ _ _
    refine wpAny_bind (wpAny_updateSeq hL rfl ?_)
    have hS₂ := Heap.get?_update_self (Obj.mapSeq (·.push Value.none)) hL rfl
    refine wpAny_updateSeq hS₂ rfl ?_
    have hS₃ := Heap.get?_update_self (Obj.mapSeq (·.pop)) hS₂ rfl
    have oth : ∀ b o, b ≠ L → s1.heap.get? b = some o → ((s1.heap.update L (Obj.mapSeq (·.push Value.none))).update L (Obj.mapSeq (·.pop))).get? b = some o :=
      fun b o hb e => (Heap.get?_update_other _ _ (Ne.symm hb)).trans ((Heap.get?_update_other _ _ (Ne.symm hb)).trans e)
    exact fin _ _ hS₃ (W.frame 0 _ _ st fun b hb o e => oth b o (fun h => hLf (h ▸ hb)) e) (fun b o hb _ e => oth b o hb e) ⟨_, _, rfl⟩
  · exact fin _ _ hL st (fun b o _ _ e => e) ⟨_, _, rfl⟩
theorem RDs.of_get {h : Heap} {S : Addr → Prop} : ∀ {l : List Value} {ds : List D}, l.length = ds.length → (∀ (i : Nat) v, l[i]? = some v → ∃ d, ds[i]? = some d ∧ RD h S v d) → RDs h S l ds
  | [], [], _, _ => .nil
  | v :: l, d :: ds, e, f => by
    obtain ⟨d', e', r⟩ := f 0 v rfl
    cases e'
    exact .cons r (RDs.of_get (Nat.succ.inj e) fun i u hu => by
      obtain ⟨d2, e2, r2⟩ := f (i + 1) u hu
      exact ⟨d2, e2, r2⟩)
  | [], _ :: _, e, _ => by cases e
  | _ :: _, [], e, _ => by cases e
theorem list_of {v tv : Value} {S : Addr → Prop} {ds : List D} (ok : OkA 105 A) (hty : ∀ h', Le s.heap h' → Looks (model pw w) h' (typeOf v) tv) (h1 : (tv == .type "list") = false) (h2t : (tv == .type "tuple") = false) (hv : ∀ L, s.heap.get? L = none → Builtin.List.listSameRef (.ref L) v = false)
    (hit : ∀ (A' : Around) (s1 : Shared) (E' : Value → Shared → Prop), OkA 102 A' → Kp s s1 → wpAny (model pw w) A' (pyIter v) (fun r s2 => ItAs w [] s1 S ds r s2) E' s1)
    (hint : ∀ (A' : Around) (s1 : Shared) (Q : Bool → Shared → Prop) (E' : Value → Shared → Prop), OkA 102 A' → Kp s s1 → (∀ b s2, Kp s1 s2 → Q b s2) → wpAny (model pw w) A' (Builtin.List.listLengthHint v) Q E' s1)
    (hli : ∀ b o, S b → s.heap.get? b = some o → o.cls ≠ .type "list_iterator") (hSa : ∀ a, S a → s.heap.get? a ≠ none) (hn : ds.length ≤ sizeLine) :
    wpAny (model pw w) A (PySem.call (.type "list") [v]) (fun r s' => (∃ L acc c, r = .ref L ∧ s.heap.get? L = none ∧ s'.heap.get? L = some (lstO acc c) ∧ RDs s'.heap (Fr1 S s.heap) acc.toList ds) ∧ Kp s s') E s := by
  refine callType_codes (Q₁ := fun obj s₁ => obj = .ref s.heap.objs.size ∧ s₁ = { s with heap := s.heap.push { cls := .type "list", data := .seq #[] } }) PySem.F.called_list (PySem.F.typeCall_list_1 _) PySem.F.entry_list_init
    (code_list_new _ ⟨rfl, rfl⟩) fun obj s₁ h₁ => ?_
  obtain ⟨rfl, rfl⟩ := h₁
  have hS : (s.heap.push { cls := .type "list", data := .seq #[] }).get? s.heap.objs.size = some { cls := .type "list", data := .seq #[] } := Heap.get?_push_size _ rfl
  refine ⟨⟨_, hS, rfl⟩, PySem.F.args_list_init_2 _ _, ?_⟩
  show wpAny _ A.in1.in1 (do let old ← Builtin.List.listItems (.ref s.heap.objs.size); Builtin.List.listUpdate (.ref s.heap.objs.size) (fun _ => #[]); letGo old.toList.reverse; Builtin.List.listExtendWith (.ref s.heap.objs.size) v .none) _ _ _
  refine wpAny_bind ?_
  unfold Builtin.List.listItems
  refine wpAny_bind (wpAny_seqItems hS rfl (wpAny_pure ?_))
  show wpAny _ A.in1.in1 (updateSeq s.heap.objs.size (fun _ => #[]) >>= fun _ => letGo (#[] : Array Value).toList.reverse >>= fun _ => Builtin.List.listExtendWith (.ref s.heap.objs.size) v .none) _ _ _
  refine wpAny_bind (wpAny_updateSeq hS rfl ?_)
  have hS₂ := Heap.get?_update_self (Obj.mapSeq (fun _ => (#[] : Array Value))) hS rfl
  have hL0 : s.heap.get? s.heap.objs.size = none := new_none _
  have k2 : Le s.heap ((s.heap.push { cls := .type "list", data := .seq #[] }).update s.heap.objs.size (Obj.mapSeq (fun _ => (#[] : Array Value)))) :=
    fun b o e => (Heap.get?_update_other _ _ (fun z => by rw [← z, hL0] at e; cases e)).trans (Heap.get?_push_of_some _ e)
  generalize (s.heap.push { cls := .type "list", data := .seq #[] }).update s.heap.objs.size (Obj.mapSeq (fun _ => (#[] : Array Value))) = h2 at *
  generalize hL : s.heap.objs.size = L at *
  refine wpAny_bind (wpAny_letGo ?_)
  have kp2 : Kp s { s with heap := h2 } := Kp.of' k2
  have ok2 : OkA 103 A.in1.in1 := (OkA.in1 (n := 103) (OkA.in1 (n := 104) ok))
  refine ext_of (w := w) (A := A.in1) (s := { s with heap := h2 }) (tv := tv) (hty _ k2) h1 h2t (hv L hL0) (wpAny_mono (hit A.in1.in1 { s with heap := h2 } _ (ok2.weak (by decide)) kp2) (fun it s3 x => ?_) fun _ _ q => q)
  obtain ⟨⟨I, fp, wr, P, St, rfl, W, st, hf, hI, hw, _, hP⟩, kf, sh⟩ := x
  have k3 : Le h2 s3.heap := fun b o e => (kf b o id e).2 (fun z => nomatch z)
  have kp3 : Kp s s3 := kp2.tr ⟨k3, sh⟩
  have e2 : h2.get? L = some (lstO #[] 0) := hS₂
  have hLf : L ∉ fp := fun z => by
    rcases (hf L z).1 with q | q
    · exact hSa L q hL0
    · rw [e2] at q; cases q
  refine ⟨I, wr, ds.length, P, rfl, ⟨⟨fp, St, W A.in1.in1 ok2.hd, st, hLf, hI⟩, hn⟩, fun Q E' hQ => hint _ _ _ _ (ok2.weak (by decide)) kp3 hQ, ⟨0, k3 _ _ e2⟩, fun s' acc c' hk sh' hL' hacc => ?_⟩
  have wn : ∀ b ∈ wr, s.heap.get? b = none := fun b hb => by
    have hbf := (W A.in1.in1 ok2.hd).sub b hb
    rcases (hf b hbf).1 with q | q
    · rcases hw b hb with z | ⟨o, z, c⟩
      · exact fresh_le k2 z
      · cases q2 : s.heap.get? b with
        | none => rfl
        | some o' =>
          have := k2 _ _ q2
          rw [show h2.get? b = some o from z] at this
          cases this
          exact absurd c (hli b o q q2)
    · exact fresh_le k2 q
  have kk : Kp s s' := by
    refine ⟨fun b o e => hk b o (fun z => by rw [z, hL0] at e; cases e) (fun z => by rw [wn b z] at e; cases e) (kp3.le _ _ e), ?_⟩
    obtain ⟨h4, t4, e4⟩ := kp3.eq
    obtain ⟨h5, t5, e5⟩ := sh'
    exact ⟨h5, t5, by rw [e5, e4]⟩
  refine ⟨rfl, ⟨L, acc, c', rfl, hL0, hL', RDs.of_get (by rw [Array.length_toList]; exact hacc.1) fun i u hu => ?_⟩, kk⟩
  obtain ⟨d, hd, r⟩ := hP i u (hacc.2 i u (by rw [← Array.getElem?_toList]; exact hu))
  refine ⟨d, hd, r.mono (fun a o h e => hk a o (fun z => ?_) h.2 e) fun a h => h.1.imp id fun q => fresh_le k2 q⟩
  rcases h.1 with q | q
  · exact hSa a q (z ▸ hL0)
  · rw [show ({ s with heap := h2 } : Shared).heap = h2 from rfl, z, e2] at q; cases q
end
theorem len257 (w : World) : findIn (K01 w) (.ref 257) "__len__" = some (some (.builtin "tuple.__len__")) := by kernel_rfl
section
variable {w : World} {A : Around} {s : Shared} {E : Value → Shared → Prop}
theorem len_pair (X : (KF w.params).In s.heap) (ok : OkA 100 A) (x y : Value) (a : Addr) (d : Option Addr) (n : Nat) (h : s.heap.get? a = some ⟨.ref 257, d, .seq #[x, y] n, #[]⟩) :
    wpAny (model pw w) A (PySem.call (.builtin "len") [.ref a]) (fun v s' => (∃ t, v = .int 2 t) ∧ Kp s s') E s := by
  have L0 : Looks (model pw w) s.heap (typeOf (.ref a)) (.ref 257) := (Looks.ld h).andThen .now
  have L : Looks (model pw w) s.heap (specialOf (.ref a) "__len__") (some (.builtin "tuple.__len__")) := L0.andThen (looks_findIn X (len257 w))
  refine Calls.call_function_entry kind_len plain_len entry_len (args_len1 _) ?_
  unfold Builtin.«len»
  refine wpAny_bind (m := oneArg "len" _) (wpAny_pure ?_)
  refine wpAny_bind ?_
  unfold callSpecial?
  refine wpAny_bind (L.here (wpAny_holding ?_))
  rw [PySem.F.slot_tuple_len.bind]
  refine wpAny_bind (wpAny_pure (wpAny_bind (wpAny_call (codeAny_call_builtin PySem.F.slot_tuple_len.plain PySem.F.entry_tuple_len ?_))))
  refine @check_slot (model pw w) _ _ s "tuple.__len__" "tuple" "__len__" (.ref a) [] [] _ (by decide +kernel) (by decide +kernel) (L0.andThen (looks_mroIn X (tup257 w))) (PySem.F.args_tuple_len_1 _) ?_
  unfold Builtin.«tuple.__len__»
  refine wpAny_bind (wpAny_pure ?_)
  unfold Builtin.Tuple.tupleItemsOf
  refine wpAny_bind (wpAny_bind (wpAny_seqItems h rfl (wpAny_pure ?_)))
  refine wpAny_bind (wpAny_mkInt (wpAny_pure ?_))
  show wpAny _ _ (pure _) _ _ _
  refine wpAny_pure ?_
  dsimp only
  refine wpAny_bind (wpAny_holding (wpAny_pure ?_))
  refine wpAny_bind (wpAny_letGo ?_)
  rw [show ((#[x, y].size : Nat) : Int) = 2 from rfl, if_neg (show ¬ ((2 : Int) < 0) by decide), if_neg (show ¬ ((2 : Int) ≥ 2 ^ 63) by decide)]
  exact wpAny_bind (wpAny_mkInt (wpAny_pure ⟨_, rfl, ⟨_, rfl⟩, Kp.tk s _⟩))
theorem hint_pair (T : TopH w s.heap) (ok : OkA 100 A) {x y : Value} {a d : Addr} {n : Nat} {Q : Bool → Shared → Prop} (e : s.heap.get? a = some ⟨.ref 257, some d, .seq #[x, y] n, #[]⟩) (hQ : ∀ b s', Kp s s' → Q b s') : wpAny (model pw w) A (Builtin.List.listLengthHint (.ref a)) Q E s := by
  have L0 : Looks (model pw w) s.heap (typeOf (.ref a)) (.ref 257) := (Looks.ld e).andThen .now
  have L1 : Looks (model pw w) s.heap (specialOf (.ref a) "__len__") (some (.builtin "tuple.__len__")) := L0.andThen (looks_findIn T.K (len257 w))
  have L2 : Looks (model pw w) s.heap (isInstance (.ref a) (.type "tuple")) true := L0.andThen (looks_mroIn T.K (tup257 w))
  unfold Builtin.List.listLengthHint
  refine wpAny_bind (L1.here ?_)
  dsimp only
  rw [show splitId "tuple.__len__" = some ("tuple", "__len__") from by decide +kernel]
  dsimp only
  refine wpAny_bind (L2.here ?_)
  simp only [Bool.not_true, Bool.false_eq_true, if_false]
  rw [if_pos (by decide +kernel)]
  refine wpAny_bind (L0.here ?_)
  dsimp only
  refine wpAny_bind (wpAny_mono (len_pair T.K ok x y a (some d) n e) (fun v s' q => ?_) fun _ _ q => q)
  obtain ⟨⟨t, rfl⟩, k⟩ := q
  refine wpAny_bind (wpAny_of_eq (a := some 2) (by rfl) ?_)
  exact wpAny_pure (hQ _ _ k)
end
theorem eq257 (w : World) : findIn (K01 w) (.ref 257) "__eq__" = some (some (.builtin "tuple.__eq__")) := by kernel_rfl
theorem str257 (w : World) : mroIn (K01 w) 257 (.type "str") = some false := by kernel_rfl
section
variable {prog : Program} {w w0 : World} {A : Around} {s : Shared} {E : Value → Shared → Prop}
theorem try_eq {a : Addr} {d : Option Addr} {vs : Array Value} {n : Nat} {other : Value} {Q : Option Value → Shared → Prop} (X : (K01 w0).In s.heap) (ea : s.heap.get? a = some ⟨.ref 257, d, .seq vs n, #[]⟩)
    (h : wpAny (model prog w) A (PySem.call (.builtin "tuple.__eq__") [.ref a, other]) (fun v s' => match v with | .notImplemented => Q none s' | v => Q (some v) s') E s) : wpAny (model prog w) A (tryCompare (.ref a) "__eq__" other) Q E s := by
  have L0 : Looks (model prog w) s.heap (typeOf (.ref a)) (.ref 257) := (Looks.ld ea).andThen .now
  have L : Looks (model prog w) s.heap (specialOf (.ref a) "__eq__") (some (.builtin "tuple.__eq__")) := L0.andThen (looks_findIn X (eq257 w0))
  simp only [tryCompare]
  refine wpAny_bind ?_
  simp only [callSpecialIfBound?, bindSpecialIfBound?]
  refine wpAny_holding (wpAny_bind (wpAny_bind (L.here ?_)))
  simp only [PySem.F.slot_tuple_eq.bind]
  refine wpAny_bind (wpAny_askSetting (wpAny_ite ?_))
  have fin : wpAny (model prog w) A (PySem.call (.builtin "tuple.__eq__") ([.ref a] ++ [other]) >>= fun v => pure (some v)) (fun v s' => wpAny (model prog w) A (match v with | some .notImplemented | none => pure none | some v => pure (some v)) Q E s') E s :=
    wpAny_bind (wpAny_mono h (fun v s' z => wpAny_pure (by cases v <;> exact wpAny_pure z)) fun _ _ q => q)
  split
  · exact wpAny_bind (wpAny_pure (wpAny_pure fin))
  · exact wpAny_tryCatch (wpAny_bind (wpAny_pure (wpAny_pure fin)))
theorem call_teq {a : Addr} {d : Option Addr} {vs : Array Value} {n : Nat} {other : Value} {Q : Value → Shared → Prop} (X : (K01 w0).In s.heap) (ea : s.heap.get? a = some ⟨.ref 257, d, .seq vs n, #[]⟩) (h : wpAny (model prog w) A.in1 (Builtin.«tuple.__eq__» ⟨[.ref a, other], []⟩) (fun fin s' => match fin with | .done (.ret v) => Q v s' | _ => False) (fun e s' => E e s') s) :
    wpAny (model prog w) A (PySem.call (.builtin "tuple.__eq__") [.ref a, other]) Q E s := by
  have L0 : Looks (model prog w) s.heap (typeOf (.ref a)) (.ref 257) := (Looks.ld ea).andThen .now
  refine wpAny_call (codeAny_call_builtin PySem.F.slot_tuple_eq.plain PySem.F.entry_tuple_eq ?_)
  refine @check_slot (model prog w) _ _ s "tuple.__eq__" "tuple" "__eq__" (.ref a) [other] [] _ (by decide +kernel) (by decide +kernel) (L0.andThen (looks_mroIn X (tup257 w0))) (PySem.F.args_tuple_eq_2 _ _) ?_
  refine wpAny_mono h (fun fin s' z => ?_) fun _ _ q => q
  rcases fin with (_ | _ | _ | _) | _ <;> first | exact z | exact z.elim
theorem teq_pairs {a b : Addr} {d d2 : Option Addr} {x1 y1 x2 y2 : Value} {p q : Bool} {n n2 : Nat} {Q : Value → Shared → Prop} (X : (K01 w0).In s.heap) (ea : s.heap.get? a = some ⟨.ref 257, d, .seq #[x1, y1] n, #[]⟩) (eb : s.heap.get? b = some ⟨.ref 257, d2, .seq #[x2, y2] n2, #[]⟩)
    (h1 : SeqAt.EqAt A s x1 x2 p) (h2 : SeqAt.EqAt A s y1 y2 q) (h : Q (.bool (p && q)) s) : wpAny (model prog w) A (Builtin.«tuple.__eq__» ⟨[.ref a, .ref b], []⟩) (fun fin s' => match fin with | .done (.ret v) => Q v s' | _ => False) (fun e s' => E e s') s := by
  have L0 : Looks (model prog w) s.heap (typeOf (.ref b)) (.ref 257) := (Looks.ld eb).andThen .now
  have LI : Looks (model prog w) s.heap (isInstance (.ref b) (.type "tuple")) true := L0.andThen (looks_mroIn X (tup257 w0))
  unfold Builtin.«tuple.__eq__»
  refine wpAny_bind (wpAny_pure ?_)
  refine wpAny_bind (LI.here ?_)
  simp only [Bool.not_true, Bool.false_eq_true, if_false]
  unfold Builtin.Tuple.tupleItemsOf
  refine wpAny_bind (wpAny_bind (wpAny_seqItems ea rfl (wpAny_pure ?_)))
  refine wpAny_bind (wpAny_bind (wpAny_seqItems eb rfl (wpAny_pure ?_)))
  show wpAny _ _ (forIn [(x1, x2), (y1, y2)] _ _ >>= _) _ _ _
  refine wpAny_bind ?_
  rw [List.forIn_cons]
  refine wpAny_bind (wpAny_bind (h1 prog w _ _ ?_))
  cases p with
  | false =>
    rw [if_pos (by rfl)]
    exact wpAny_bind (wpAny_pure (wpAny_pure (wpAny_pure (wpAny_pure h))))
  | true =>
    rw [if_neg (by decide)]
    refine wpAny_pure ?_
    show wpAny _ _ (forIn [(y1, y2)] _ _) _ _ _
    rw [List.forIn_cons]
    refine wpAny_bind (wpAny_bind (h2 prog w _ _ ?_))
    cases q with
    | false =>
      rw [if_pos (by rfl)]
      exact wpAny_bind (wpAny_pure (wpAny_pure (wpAny_pure (wpAny_pure h))))
    | true =>
      rw [if_neg (by decide)]
      exact wpAny_pure (wpAny_pure (wpAny_pure h))
theorem teq_other {a : Addr} {d : Option Addr} {vs : Array Value} {n : Nat} {x : Str} {t : Tok} {Q : Value → Shared → Prop} (ea : s.heap.get? a = some ⟨.ref 257, d, .seq vs n, #[]⟩) (h : Q .notImplemented s) : wpAny (model prog w) A (Builtin.«tuple.__eq__» ⟨[.ref a, .str x t], []⟩) (fun fin s' => match fin with | .done (.ret v) => Q v s' | _ => False) (fun e s' => E e s') s := by
  unfold Builtin.«tuple.__eq__»
  refine wpAny_bind (wpAny_pure ?_)
  refine wpAny_bind (wpAny_of_eq (a := false) (by kernel_rfl) ?_)
  simp only [Bool.not_false, if_true]
  exact wpAny_pure h
theorem rc_pairs {a b : Addr} {d d2 : Option Addr} {x1 y1 x2 y2 : Value} {p q : Bool} {n n2 : Nat} (X : (K01 w0).In s.heap) (hu : A.units < cLine) (ea : s.heap.get? a = some ⟨.ref 257, d, .seq #[x1, y1] n, #[]⟩) (eb : s.heap.get? b = some ⟨.ref 257, d2, .seq #[x2, y2] n2, #[]⟩)
    (h1 : SeqAt.EqAt A.in1 s x1 x2 p) (h2 : SeqAt.EqAt A.in1 s y1 y2 q) : SeqAt.RcAt A s (.ref a) (.ref b) (p && q) := fun prog w E Q hq => by
  have La : Looks (model prog w) s.heap (typeOf (.ref a)) (.ref 257) := (Looks.ld ea).andThen .now
  have Lb : Looks (model prog w) s.heap (typeOf (.ref b)) (.ref 257) := (Looks.ld eb).andThen .now
  unfold richCompare
  refine wpAny_holding (wpAny_bind (wpAny_cRoomFor hu ?_))
  dsimp only [oneThing?, cmpInfo]
  refine wpAny_bind (La.here (wpAny_bind (Lb.here ?_)))
  refine wpAny_bind (wpAny_pure ?_)
  rw [if_neg (by decide)]
  refine wpAny_bind (try_eq X ea (call_teq X ea (teq_pairs X ea eb h1 h2 ?_)))
  exact wpAny_pure hq
theorem rc_pair_str {a : Addr} {d : Option Addr} {vs : Array Value} {n : Nat} {x : Str} {t : Tok} (X : (K01 w0).In s.heap) (hu : A.units < cLine) (ea : s.heap.get? a = some ⟨.ref 257, d, .seq vs n, #[]⟩) : SeqAt.RcAt A s (.ref a) (.str x t) false := fun prog w E Q hq => by
  have La : Looks (model prog w) s.heap (typeOf (.ref a)) (.ref 257) := (Looks.ld ea).andThen .now
  unfold richCompare
  refine wpAny_holding (wpAny_bind (wpAny_cRoomFor hu ?_))
  dsimp only [oneThing?, cmpInfo]
  refine wpAny_bind (La.here (wpAny_bind (wpAny_pure ?_)))
  refine wpAny_bind ?_
  refine wpAny_of_eq (a := false) (by kernel_rfl) ?_
  rw [if_neg (by decide)]
  refine wpAny_bind (try_eq X ea (call_teq X ea (teq_other ea ?_)))
  rw [if_pos (by decide)]
  have L2 : Looks (model prog w) s.heap (specialOf (.str x t) "__eq__") (some (.builtin "str.__eq__")) := Looks.of_pure (by kernel_rfl)
  refine wpAny_bind ?_
  have fin : wpAny (model prog w) A (PySem.call (.builtin "str.__eq__") ([.str x t] ++ [.ref a]) >>= fun v => pure (some v)) (fun v s' => v = some .notImplemented ∧ s' = s) E s := by
    refine wpAny_bind (wpAny_call (codeAny_call_builtin PySem.F.slot_str_eq.plain PySem.F.entry_str_eq ?_))
    refine @check_slot (model prog w) _ _ s "str.__eq__" "str" "__eq__" (.str x t) [.ref a] [] _ (by decide +kernel) (by decide +kernel) (Looks.of_pure (by kernel_rfl)) (PySem.F.args_str_eq_2 _ _) ?_
    unfold Builtin.«str.__eq__»
    refine wpAny_bind (wpAny_pure ?_)
    dsimp only
    refine wpAny_bind ?_
    show wpAny _ _ (load a >>= _) _ _ _
    refine wpAny_bind (wpAny_load ea (wpAny_pure ?_))
    exact wpAny_bind (wpAny_rule (wpAny_pure (wpAny_pure ⟨rfl, rfl⟩)))
  simp only [tryCompare]
  refine wpAny_bind ?_
  simp only [callSpecialIfBound?, bindSpecialIfBound?]
  refine wpAny_holding (wpAny_bind (wpAny_bind (L2.here ?_)))
  simp only [PySem.F.slot_str_eq.bind]
  refine wpAny_bind (wpAny_askSetting (wpAny_ite ?_))
  have fin2 : wpAny (model prog w) A (PySem.call (.builtin "str.__eq__") ([.str x t] ++ [.ref a]) >>= fun v => pure (some v)) (fun v s' => wpAny (model prog w) A (match v with | some .notImplemented | none => pure none | some v => pure (some v)) (fun r s'' => wpAny (model prog w) A (match r with
      | some v => pure v
      | _ => do
        rule "compare.eq-identity"
        let b ← isSame (.ref a) (.str x t)
        pure (.bool b)) Q E s'') E s') E s := by
    refine wpAny_mono fin (fun v s' z => ?_) fun _ _ q => q
    obtain ⟨rfl, rfl⟩ := z
    refine wpAny_pure (wpAny_bind (wpAny_rule (wpAny_bind (wpAny_of_eq (a := false) (by rfl) (wpAny_pure hq)))))
  split
  · exact wpAny_bind (wpAny_pure (wpAny_pure fin2))
  · exact wpAny_tryCatch (wpAny_bind (wpAny_pure (wpAny_pure fin2)))
theorem rc_str_pair {a : Addr} {d : Option Addr} {vs : Array Value} {n : Nat} {x : Str} {t : Tok} (X : (K01 w0).In s.heap) (hu : A.units < cLine) (ea : s.heap.get? a = some ⟨.ref 257, d, .seq vs n, #[]⟩) : SeqAt.RcAt A s (.str x t) (.ref a) false := fun prog w E Q hq => by
  have La : Looks (model prog w) s.heap (typeOf (.ref a)) (.ref 257) := (Looks.ld ea).andThen .now
  have L2 : Looks (model prog w) s.heap (specialOf (.str x t) "__eq__") (some (.builtin "str.__eq__")) := Looks.of_pure (by kernel_rfl)
  unfold richCompare
  refine wpAny_holding (wpAny_bind (wpAny_cRoomFor hu ?_))
  dsimp only [oneThing?, cmpInfo]
  refine wpAny_bind (wpAny_pure (wpAny_bind (La.here ?_)))
  refine wpAny_bind ?_
  refine (looks_mroIn X (str257 w0)).here ?_
  rw [if_neg (by decide)]
  refine wpAny_bind ?_
  have call1 : ∀ {Q' : Value → Shared → Prop}, Q' .notImplemented s → wpAny (model prog w) A (PySem.call (.builtin "str.__eq__") ([.str x t] ++ [.ref a])) Q' E s := fun {Q'} hq' => by
    refine wpAny_call (codeAny_call_builtin PySem.F.slot_str_eq.plain PySem.F.entry_str_eq ?_)
    refine @check_slot (model prog w) _ _ s "str.__eq__" "str" "__eq__" (.str x t) [.ref a] [] _ (by decide +kernel) (by decide +kernel) (Looks.of_pure (by kernel_rfl)) (PySem.F.args_str_eq_2 _ _) ?_
    unfold Builtin.«str.__eq__»
    refine wpAny_bind (wpAny_pure ?_)
    dsimp only
    refine wpAny_bind ?_
    show wpAny _ _ (load a >>= _) _ _ _
    refine wpAny_bind (wpAny_load ea (wpAny_pure ?_))
    exact wpAny_bind (wpAny_rule (wpAny_pure hq'))
  simp only [tryCompare]
  refine wpAny_bind ?_
  simp only [callSpecialIfBound?, bindSpecialIfBound?]
  refine wpAny_holding (wpAny_bind (wpAny_bind (L2.here ?_)))
  simp only [PySem.F.slot_str_eq.bind]
  refine wpAny_bind (wpAny_askSetting (wpAny_ite ?_))
  have fin2 : wpAny (model prog w) A (PySem.call (.builtin "str.__eq__") ([.str x t] ++ [.ref a]) >>= fun v => pure (some v)) (fun v s' => wpAny (model prog w) A (match v with | some .notImplemented | none => pure none | some v => pure (some v)) (fun r s'' => wpAny (model prog w) A (match r with
      | some v => pure v
      | _ => if (!false) = true then (do
          match ← tryCompare (.ref a) "__eq__" (.str x t) with
          | some v => pure v
          | _ => do
            rule "compare.eq-identity"
            let b ← isSame (.str x t) (.ref a)
            pure (.bool b)) else (do
            rule "compare.eq-identity"
            let b ← isSame (.str x t) (.ref a)
            pure (.bool b))) Q E s'') E s') E s := by
    refine wpAny_bind (call1 (wpAny_pure (wpAny_pure ?_)))
    dsimp only
    rw [if_pos (by decide)]
    refine wpAny_bind (try_eq X ea (call_teq X ea (teq_other ea ?_)))
    exact wpAny_bind (wpAny_rule (wpAny_bind (wpAny_of_eq (a := false) (by rfl) (wpAny_pure hq))))
  split
  · exact wpAny_bind (wpAny_pure (wpAny_pure fin2))
  · exact wpAny_tryCatch (wpAny_bind (wpAny_pure (wpAny_pure fin2)))
end
noncomputable def Th.said : Th → Bool
  | .i _ => false
  | _ => true
section
variable {h : Heap} {S S' : Addr → Prop}
theorem pr_inv {v : Value} {a b : Str} (r : RD h S v (.pr [.str a, .str b])) : ∃ p d n ta tb, v = .ref p ∧ h.get? p = some ⟨.ref 257, some d, .seq #[.str a ta, .str b tb] n, #[]⟩ := by
  cases r using RD.prE with
  | pr sa sd ea ed ra =>
  rename_i ad d vs n
  obtain ⟨l⟩ := vs
  have ra : RDs h S l [.str a, .str b] := ra
  cases ra using RDs.consE with
  | cons r1 r2 =>
  cases r2 using RDs.consE with
  | cons r2 r3 =>
  cases r3 using RDs.nilE
  cases r1 using RD.strE
  cases r2 using RD.strE
  exact ⟨_, d, n, _, _, rfl, ea⟩
theorem th_inj {v : Value} {t t' : Th} (r : RD h S v t.d) (r' : RD h S' v t'.d) : t = t' := by
  cases t with
  | s x =>
    have r : RD h S v (.str x) := r
    cases r using RD.strE with
    | str k =>
    generalize hv : Value.str x k = v at r'
    cases t' with
    | s y =>
      have r' : RD h S' v (.str y) := r'
      cases r' using RD.strE
      cases hv
      rfl
    | i m =>
      have r' : RD h S' v (.int m) := r'
      cases r' using RD.intE
      cases hv
    | p a b =>
      obtain ⟨p, d, n, ta, tb, e, _⟩ := pr_inv r'
      rw [e] at hv
      cases hv
  | i n =>
    have r : RD h S v (.int n) := r
    cases r using RD.intE with
    | int k =>
    generalize hv : Value.int n k = v at r'
    cases t' with
    | s y =>
      have r' : RD h S' v (.str y) := r'
      cases r' using RD.strE
      cases hv
    | i m =>
      have r' : RD h S' v (.int m) := r'
      cases r' using RD.intE
      injection hv with e
      congr 1
      omega
    | p a b =>
      obtain ⟨p, d, n, ta, tb, e, _⟩ := pr_inv r'
      rw [e] at hv
      cases hv
  | p a b =>
    obtain ⟨p, d, n, ta, tb, rfl, e⟩ := pr_inv r
    generalize hv : Value.ref p = v at r'
    cases t' with
    | s y =>
      have r' : RD h S' v (.str y) := r'
      cases r' using RD.strE
      cases hv
    | i m =>
      have r' : RD h S' v (.int m) := r'
      cases r' using RD.intE
      cases hv
    | p a' b' =>
      obtain ⟨p', d', n', ta', tb', e1, e'⟩ := pr_inv r'
      rw [← hv] at e1
      cases e1
      rw [e] at e'
      cases e'
      rfl
end
section
variable {w : World} {A : Around} {s : Shared} {S S' : Addr → Prop}
theorem eq_th (X : (K01 w).In s.heap) (hu : A.units + 8 < cLine) {y x : Value} {t1 t2 : Th} (g1 : t1.said = true) (g2 : t2.said = true) (r1 : RD s.heap S y t1.d) (r2 : RD s.heap S' x t2.d) : SeqAt.EqAt A s y x (decide (t1 = t2)) := by
  have hu0 : A.units < cLine := by omega
  cases t1 with
  | i n => cases g1
  | s a =>
    cases r1 using RD.strE
    cases t2 with
    | i n => cases g2
    | s b =>
      cases r2 using RD.strE
      have e0 : decide (Th.s a = Th.s b) = (a == b) := by rw [Bool.eq_iff_iff]; simp
      rw [e0]
      exact (PyProof.Rows.eqGives_str _ _ _ _).at _ _
    | p b c =>
      obtain ⟨p, d, n, ta, tb, rfl, e⟩ := pr_inv r2
      have e0 : decide (Th.s a = Th.p b c) = false := by simp
      rw [e0]
      intro prog w' E Q hq
      unfold eqBool
      refine wpAny_holding ?_
      refine wpAny_ite_split (fun hab => absurd (eq_of_beq hab) (fun z => nomatch z)) (fun _ => ?_)
      exact wpAny_bind (rc_str_pair X hu0 e prog w' E _ (wpAny_truthy_bool hq))
  | p a b =>
    obtain ⟨p, d, n, ta, tb, rfl, e⟩ := pr_inv r1
    cases t2 with
    | i n => cases g2
    | s c =>
      cases r2 using RD.strE
      have e0 : decide (Th.p a b = Th.s c) = false := by simp
      rw [e0]
      intro prog w' E Q hq
      unfold eqBool
      refine wpAny_holding ?_
      refine wpAny_ite_split (fun hab => absurd (eq_of_beq hab) (fun z => nomatch z)) (fun _ => ?_)
      exact wpAny_bind (rc_pair_str X hu0 e prog w' E _ (wpAny_truthy_bool hq))
    | p a' b' =>
      obtain ⟨p', d', n', ta', tb', rfl, e'⟩ := pr_inv r2
      by_cases hpp : p = p'
      · subst hpp
        rw [e] at e'
        cases e'
        rw [decide_eq_true rfl]
        exact SeqAt.EqAt.same _
      · have e0 : decide (Th.p a b = Th.p a' b') = ((a == a') && (b == b')) := by
          rw [Bool.eq_iff_iff]; simp
        rw [e0]
        exact SeqAt.EqAt.of_refs hpp (rc_pairs X hu0 e e' ((PyProof.Rows.eqGives_str _ _ _ _).at _ _) ((PyProof.Rows.eqGives_str _ _ _ _).at _ _))
theorem notIn_th (X : (K01 w).In s.heap) (hu : A.units + 9 < cLine) {E : Value → Shared → Prop} {x v : Value} {t : Th} {ts : List Th} (gt : t.said = true) (gs : ∀ u ∈ ts, u.said = true) (rx : RD s.heap S x t.d) (rl : RD s.heap S' v (.lst (ts.map Th.d))) :
    wpAny (model pw w) A (compareOp .NotIn x v) (fun r s' => r = .bool (!ts.contains t) ∧ Kp s s') E s := by
  classical
  cases rl using RD.lstE with
  | lst sa ea ca da ra =>
  rename_i a o vs n
  let e : Value → Bool := fun y => decide (RD s.heap S' y t.d)
  have he : ∀ y, y ∈ vs → ∃ u ∈ ts, RD s.heap S' y u.d ∧ e y = decide (u = t) := fun y hy => by
    obtain ⟨i, hi, rfl⟩ := Array.mem_iff_getElem.mp hy
    obtain ⟨d, hd, r⟩ := ra.get' (i := i) (v := vs[i]) (by rw [Array.getElem?_toList]; simp [hi])
    rw [List.getElem?_map] at hd
    obtain ⟨u, hu, rfl⟩ := Option.map_eq_some_iff.mp hd
    refine ⟨u, List.mem_of_getElem? hu, r, ?_⟩
    rw [Bool.eq_iff_iff]
    simp only [e, decide_eq_true_eq]
    exact ⟨fun z => th_inj r z, fun z => z ▸ r⟩
  refine SeqAt.notIn_listAt e ⟨o, ea, ca, n, da⟩ (fun y hy => ?_) ⟨?_, Kp.refl s⟩
  · obtain ⟨u, hu', r, hey⟩ := he y hy
    rw [hey]
    exact eq_th X (by show A.units + 1 + 8 < cLine; omega) (gs u hu') gt r rx
  · congr 2
    rw [Bool.eq_iff_iff, Array.any_eq_true', List.contains_iff_mem]
    constructor
    · rintro ⟨y, hy, hey⟩
      obtain ⟨u, hu', _, h2⟩ := he y hy
      rw [h2] at hey
      rw [← of_decide_eq_true hey]
      exact hu'
    · intro ht
      obtain ⟨i, hi, rfl⟩ := List.mem_iff_getElem.mp ht
      obtain ⟨v, hv, rv⟩ := ra.get (i := i) (d := (ts[i]).d) (by rw [List.getElem?_map, List.getElem?_eq_getElem hi]; rfl)
      rw [Array.getElem?_toList] at hv
      exact ⟨v, Array.mem_of_getElem? hv, decide_eq_true rv⟩
end
noncomputable def CmpH (w : World) (A : Around) (h : Heap) (op : CmpOp) (a b : D) (r : Bool) : Prop := ∀ (s : Shared) (S : Addr → Prop) (x y : Value) (E : Value → Shared → Prop), Le h s.heap → RD s.heap S x a → RD s.heap S y b →
  wpAny (model pw w) A (compareOp op x y) (fun v s' => v = .bool r ∧ Kp s s') E s
section
variable {w : World} {A : Around} {env : Env} {h : Heap} {S : Addr → Prop}
theorem EvT.cmpH {e f : Expr} {op : CmpOp} {pos : Pos} {a b : D} {r : Bool} (x : EvD pw w A env h S e a) (y : EvD pw w A env h S f b) (o : CmpH w A h op a b r)
    (hm : behindInMarks op f = false := by with_unfolding_all rfl) : EvT pw w A env h (.Compare e [op] [f] pos) r := fun s E hs =>
  wpAny_isTrue_Compare1 (ev_two (t := fun a b => compareOp op a b) hs x y fun v u s' r1 r2 k => wpAny_mono (o s' _ v u E (hs.trans k.le) r1 r2) (fun z s'' q => by
    obtain ⟨rfl, q2⟩ := q
    exact wpAny_truthy_bool ⟨rfl, k.tr q2⟩) fun _ _ q => q) hm
theorem CmpH.notIn (T : TopH w h) (hu : A.units + 9 < cLine) {t : Th} {ts : List Th} (gt : t.said = true) (gs : ∀ u ∈ ts, u.said = true) : CmpH w A h .NotIn t.d (.lst (ts.map Th.d)) (!ts.contains t) := fun s S x y E hs r1 r2 =>
  notIn_th (T.mono hs).K hu gt gs r1 r2
end
noncomputable def isOpen : BaseK → Th → Bool
  | .b0, t => t.isP
  | .b1, _ => false
  | .b2, .s _ => true
  | .b2, _ => false
noncomputable def listT : Th → List Th
  | .s x => signsT x
  | .p a b => [.s a, .s b]
  | .i _ => []
noncomputable def dedupT (l : List Th) : List Th := ((List.range l.length).filter fun k => !(l.take k).contains (l.getD k (.i 0))).map fun k => l.getD k (.i 0)
noncomputable def dueF (b : BaseK) (kind n : Nat) : List Th :=
  if kind = 0 then [] else if kind = 1 ∧ isOpen b (thingF n) = true then listT (thingF n) else
    if kind < 5 then (if kind = 1 then [thingF n] else thingsF n).map plainT else dedupT ((if kind = 1 then [thingF n] else thingsF n).map plainT)
theorem tx_small (k : Nat) : (tx k).length ≤ 3 := by
  unfold tx texts4
  match k with
  | 0 => decide
  | 1 => decide
  | 2 => decide
  | 3 => decide
  | k + 4 => simp [List.getD]; decide
theorem thing_small (n : Nat) (hn : n < 2 ^ 30) : (thingF n).small := by
  unfold thingF
  split
  · exact Nat.le_trans (tx_small _) (by decide)
  split
  · show n / 3 < 2 ^ 30; omega
  · exact ⟨Nat.le_trans (tx_small _) (by decide), Nat.le_trans (tx_small _) (by decide)⟩
theorem things_small (n : Nat) (hn : n < 2 ^ 29) : ∀ t ∈ thingsF n, t.small := fun t ht => by
  obtain ⟨j, hj, rfl⟩ := List.mem_map.mp ht
  have := List.mem_of_mem_take hj
  refine thing_small _ ?_
  rcases List.mem_cons.mp this with rfl | h
  · omega
  rcases List.mem_cons.mp h with rfl | h
  · omega
  rcases List.mem_singleton.mp h with rfl
  omega
theorem things_len (n : Nat) : (thingsF n).length ≤ 3 := by
  unfold thingsF
  rw [List.length_map, List.length_take]
  exact Nat.min_le_right _ _
theorem plain_said (t : Th) : (plainT t).said = true := by cases t <;> rfl
section
variable {w : World} {A : Around} {h : Heap}
theorem list_thing (T : TopH w h) (ok : OkA 105 A) {t : Th} (hs : t.said = true) (hsm : t.small) : CallD pw w A h (.type "list") [t.d] (.lst ((listT t).map Th.d)) := fun s S vs E hs' r => by
  cases r using RDs.consE with
  | cons r1 r2 =>
  cases r2 using RDs.nilE
  have hsl : (100 : Nat) ≤ sizeLine := by decide
  cases t with
  | i n => cases hs
  | s x =>
    cases r1 using RD.strE
    refine call_list_str ok.hd x _ (fun h' tk acc c hk hS hi => ⟨?_, Kp.of tk hk⟩) (Nat.le_trans hsm hsl)
    refine .lst (.inr (new_none _)) hS rfl rfl (RDs.of_get ?_ fun i u hu => ?_)
    · rw [Array.length_toList, hi.1]
      show _ = ((signsT x).map Th.d).length
      rw [← signs_eq]
      unfold signs
      rw [List.length_map, Array.length_toList]
    · obtain ⟨c, t', e, rfl⟩ := hi.2 i u (by rw [← Array.getElem?_toList]; exact hu)
      refine ⟨.str ⟨#[c]⟩, ?_, .str _ _⟩
      show ((signsT x).map Th.d)[i]? = _
      rw [← signs_eq]
      unfold signs
      rw [List.getElem?_map, Array.getElem?_toList, e]
      rfl
  | p a b =>
    have T' := T.mono hs'
    have r1' := r1
    cases r1 using RD.prE with
    | pr sa sd ea ed ra =>
    rename_i ad d vs n
    obtain ⟨p, d', n', ta, tb, e1, e2⟩ := pr_inv r1'
    cases e1
    rw [ea] at e2
    cases e2
    refine wpAny_mono (list_of (S := fun z => z = ad) (ds := [.str a, .str b]) (tv := .ref 257) (ok.weak (by decide)) (fun h' k => (Looks.ld (k _ _ ea)).andThen .now) (by decide) (by decide) (fun L hL => by
        have : L ≠ ad := fun z => by rw [z, ea] at hL; cases hL
        simp [Builtin.List.listSameRef, this])
      (fun A' s1 E' ok' k1 => iter_pairK (T'.mono k1.le) (k1.le _ _ ea) (k1.le _ _ ed) rfl (.cons (.str _ _) (.cons (.str _ _) .nil)))
      (fun A' s1 Q E' ok' k1 hQ => hint_pair (T'.mono k1.le) (ok'.weak (by decide)) (k1.le _ _ ea) hQ)
      (fun z o hz e => by subst hz; rw [ea] at e; cases e; exact fun q => nomatch q) (fun z hz => by subst hz; exact some_ne ea) (show (2 : Nat) ≤ sizeLine by decide)) (fun v s' q => ?_) fun _ _ q => q
    obtain ⟨⟨L, acc, c, rfl, nL, eL, rL⟩, k⟩ := q
    exact ⟨.lst (.inr nL) eL rfl rfl (rL.sub fun z q => q.imp (fun e => by rw [e]; exact sa) id), k⟩
end
noncomputable def OpenV (h : Heap) : BaseK → Value → Prop
  | .b0, v => v = .ref 257
  | .b1, v => ∃ T dd n sl, v = .ref T ∧ h.get? T = some ⟨.type "tuple", dd, .seq [].toArray n, sl⟩
  | .b2, v => v = .type "str"
theorem OpenV.mono {h h' : Heap} {b : BaseK} {v : Value} (x : OpenV h b v) (k : Le h h') : OpenV h' b v := by
  cases b with
  | b0 => exact x
  | b1 => obtain ⟨T, dd, n, sl, e1, e2⟩ := x; exact ⟨T, dd, n, sl, e1, k _ _ e2⟩
  | b2 => exact x
theorem isi_open {w : World} {A : Around} {s : Shared} {E : Value → Shared → Prop} {x t ov : Value} {H : Heap → Prop} {b : BaseK} {r0 r2 : Bool} (Z : KitX (K01 w) x t H) (T : TopH w s.heap) (hp : H s.heap) (hx : x ≠ .builtin "__main__.__loader__#opaque") (O : OpenV s.heap b ov)
    (e0 : kitOne (K01 w) t (.ref 257) = some r0) (e2 : kitOne (K01 w) t (.type "str") = some r2) : wpAny (model pw w) A (PySem.call (.builtin "isinstance") [x, ov]) (PostVal s (.bool (isBase b r0 false r2))) E s := by
  cases b with
  | b0 => have O : ov = .ref 257 := O; subst O; exact isi_one Z T hp e0 hx
  | b1 => obtain ⟨T', dd, n, sl, rfl, e3⟩ := O; exact isi_tup Z T hp e3 rfl hx
  | b2 => have O : ov = .type "str" := O; subst O; exact isi_one Z T hp e2 hx
section
variable {w : World} {A : Around} {env : Env} {h : Heap} {S : Addr → Prop} {t : Th} {b : BaseK} {ov : Value}
theorem EvT.isOpen (T : TopH w h) {e : Expr} {p q pos : Pos} (ev : EvD pw w A env h S e t.d) (vi : Var env h "isinstance" (.builtin "isinstance")) (vo : Var env h "opened" ov) (O : OpenV h b ov) (he : isStar e = false := by rfl) :
    EvT pw w A env h (.Call (.Name "isinstance" p) [e, .Name "opened" q] [] pos) (isOpen b t) :=
  EvT.ofBool (S := S) (EvD.callB (ds := [t.d, .atom ov]) vi (.cons ev (.cons (EvD.name vo (.atom _)) .nil rfl) he) (by simp) fun s S vs E hs r => by
    have T' := T.mono hs
    have O' := O.mono hs
    cases r using RDs.consE with
    | cons r1 r2 =>
    cases r2 using RDs.consE with
    | cons r2 r3 =>
    cases r3 using RDs.nilE
    cases r2 using RD.atomE
    have fin : ∀ {v : Value} {c : Bool}, c = Mine.isOpen b t → wpAny (model pw w) A (PySem.call (.builtin "isinstance") [v, ov]) (PostVal s (.bool c)) E s → wpAny (model pw w) A (PySem.call (.builtin "isinstance") [v, ov]) (fun v s' => RD s'.heap (Fr1 S s.heap) v (.bool (Mine.isOpen b t)) ∧ Kp s s') E s := fun e x =>
      wpAny_mono x (fun v s' q => ⟨by rw [q.1, e]; exact .bool _, q.2⟩) fun _ _ q => q
    cases t with
    | s x => cases r1 using RD.strE; exact fin (by cases b <;> rfl) (isi_open kitx_str T' trivial (fun z => nomatch z) O' (by kernel_rfl) (by kernel_rfl))
    | i n => cases r1 using RD.intE; exact fin (by cases b <;> rfl) (isi_open kitx_int T' trivial (fun z => nomatch z) O' (by kernel_rfl) (by kernel_rfl))
    | p x y =>
      cases r1 using RD.prE with
      | pr sa sd ea ed ra => exact fin (by cases b <;> rfl) (isi_open (kitx_pair w _) T' ⟨_, _, _, ea, ed⟩ (fun z => nomatch z) O' (by kernel_rfl) (by kernel_rfl)))
end
noncomputable abbrev envDu (N : Nat) : Env := callEnvC (fdOf "_law_due" 17 290) N 291
noncomputable abbrev scPl : Scope := { kind := .function, names := [(".0", .local), ("thing", .local), ("isinstance", .globalImplicit), ("Pair", .globalImplicit), ("str", .globalImplicit)], isGenerator := false, isCoroutine := false }
noncomputable abbrev scK : Scope := { kind := .function, names := [(".0", .local), ("k", .local), ("plain", .free)], isGenerator := false, isCoroutine := false }
noncomputable def thBd (d : D) : List (Str × D) := [("thing", d)]
noncomputable def plD : D → D
  | .int n => .str (intS n.toNat)
  | d => d
theorem plD_eq (t : Th) : plD t.d = (plainT t).d := by cases t <;> rfl
section
variable {w : World} {A : Around} {env : Env} {h : Heap} {S : Addr → Prop}
theorem ev_plain (T : TopH w h) (ok : OkA 100 A) {ts : List Th} {it : Expr} {p1 p2 p3 p4 p5 p6 p7 p8 p9 p10 p11 : Pos} (src : SrcL pw w A env h S it (ts.map Th.d)) (hsm : ∀ t ∈ ts, t.small) (hlen : ts.length ≤ 1000) (hgl : env.globals = mainGlobals) (hbi : env.builtins = builtinsNs) (hclos : closureFor scPl env = pure [])
    (hst : ∀ x, foldedSetIterable it env x = pure x := by intro _; rfl) :
    EvD pw w A env h S (.ListComp (.IfExp (.Call (.Name "isinstance" p1) [.Name "thing" p2, .Name "Pair" p3] [] p4) (.Name "thing" p5) (.Call (.Name "str" p6) [.Name "thing" p7] [] p8) p9) [⟨.Name "thing" p10, it, [], 0⟩] scPl p11) (.lst ((ts.map plainT).map Th.d)) := by
  have hsl : (1000 : Nat) ≤ sizeLine := by decide
  refine EvD.congr (EvD.comp thBd (fun _ => true) plD src (ok.weak (Nat.zero_le _)) hclos (by decide) rfl (by decide) (fun d hd => .name) (fun d hd x e hx => by cases List.mem_singleton.mp hx; rfl) (fun d hd S' C h' m hS hh hn hb => ?_) (by rw [List.length_map]; omega) hst) ?_
  · obtain ⟨t, ht, rfl⟩ := List.mem_map.mp hd
    obtain ⟨v, hv, rv⟩ := hb "thing" _ (.head _)
    have T' := T.mono hh
    have vt : Var (compEnvC scPl [] C env) h' "thing" v := Var.loc rfl rfl hn hv
    refine ⟨rfl, fun _ => EvD.ifExp (EvT.isPair T' ok (EvD.name vt rv) (Var.bi T' rfl (by rfl) hgl hbi (by kernel_rfl) (by decide) (by rfl)) (Var.glob T' rfl (by rfl) hgl (by kernel_rfl))) (fun hp => ?_) fun hp => ?_⟩
    · rw [plD_eq]
      have e : plainT t = t := by cases t <;> first | rfl | cases hp
      rw [e]
      exact EvD.name vt rv
    · have e : plD t.d = .str (writtenF t) := by cases t <;> first | rfl | cases hp
      rw [e]
      exact EvD.strT (EvD.name vt rv) (Var.bi T' rfl (by rfl) hgl hbi (by kernel_rfl) (by decide) (by rfl)) hp (hsm t ht)
  · rw [filter_yes, List.map_map, List.map_map]
    congr 1
    exact List.map_congr_left fun t _ => plD_eq t
theorem ev_dedup (T : TopH w h) (ok : OkA 100 A) {ts : List Th} {pv : Value} {c : Addr} {q1 q2 q3 q4 q5 q6 q7 q8 q9 q10 q11 q12 q13 q14 q15 q16 q17 q18 : Pos} (hsk : env.scope.kind = .function) (hpk : env.kindOf "plain" = some .cell) (hclos : closureFor scK env = pure [(("plain" : Str), c)]) (hc : h.IsCell c (some pv)) (vp : Var env h "plain" pv)
    (rp : RD h S pv (.lst (ts.map Th.d))) (gs : ∀ t ∈ ts, t.said = true) (hlen : ts.length ≤ 1000) (vr : Var env h "range" (.type "range")) (vl : Var env h "len" (.builtin "len")) :
    EvD pw w A env h S (.ListComp (.Subscript (.Name "plain" q1) (.Name "k" q2) q3) [⟨.Name "k" q4, .Call (.Name "range" q5) [.Call (.Name "len" q6) [.Name "plain" q7] [] q8] [] q9, [.Compare (.Subscript (.Name "plain" q10) (.Name "k" q11) q12) [.NotIn] [.Subscript (.Name "plain" q13) (.Slice none (some (.Name "k" q14)) none q15) q16] q17], 0⟩] scK q18) (.lst ((dedupT ts).map Th.d)) := by
  have hsl : (1000 : Nat) ≤ sizeLine := by decide
  refine EvD.congr (EvD.compR (fun d => match d with | .int k => !(ts.take k.toNat).contains (ts.getD k.toNat (.i 0)) | _ => false) (fun d => match d with | .int k => (ts.getD k.toNat (.i 0)).d | d => d) (n := ts.length) vr
    (EvD.congr ((EvD.len vl (EvD.name vp rp).src rfl (by rw [List.length_map]; omega)).flat rfl) (by rw [List.length_map])) rfl (by omega) (ok.weak (Nat.zero_le _)) hclos (by decide) rfl (by decide) rfl (fun i hi S' C h' m hS hh hn hb => ?_) (by omega)) ?_
  · obtain ⟨v, hv, rv⟩ := hb "k" _ (.head _)
    have T' := T.mono hh
    have vk : Var (compEnvC scK [(("plain" : Str), c)] C env) h' "k" v := Var.loc rfl rfl hn hv
    have vp' : Var (compEnvC scK [(("plain" : Str), c)] C env) h' "plain" pv := Var.cell (c := c) rfl (relabel_free hsk hpk rfl) rfl (hc.keeps hh)
    have rp' : RD h' S' pv (.lst (ts.map Th.d)) := rp.up hh hS
    have hgd : ts.getD i (.i 0) = ts[i] := by rw [List.getD_eq_getElem?_getD, List.getElem?_eq_getElem hi]; rfl
    have hget : (ts.map Th.d)[((i : Nat) : Int).toNat]? = some (ts.getD i (.i 0)).d := by
      rw [Int.toNat_natCast, List.getElem?_map, List.getElem?_eq_getElem hi, hgd]; rfl
    have hmem : ts.getD i (.i 0) ∈ ts := by rw [hgd]; exact List.getElem_mem hi
    have e1 : ∀ {a1 a2 a3 : Pos}, EvD pw w A (compEnvC scK [(("plain" : Str), c)] C env) h' S' (.Subscript (.Name "plain" a1) (.Name "k" a2) a3) (ts.getD i (.i 0)).d := EvD.idxL (EvD.name vp' rp').src (EvD.name vk rv) (by omega) (by omega) hget
    refine ⟨?_, fun _ => e1⟩
    show EvT pw w A _ h' _ (!(ts.take ((i : Nat) : Int).toNat).contains (ts.getD ((i : Nat) : Int).toNat (.i 0)))
    rw [Int.toNat_natCast]
    exact EvT.cmpH e1 (EvD.congr (EvD.upto (EvD.name vp' rp').src (EvD.name vk rv) (by rw [List.length_map]; omega)) (by rw [← List.map_take])) (CmpH.notIn T' (by have := ok.un; omega) (gs _ hmem) fun u hu => gs u (List.mem_of_mem_take hu))
  · unfold rangeD dedupT
    rw [List.filter_map, List.map_map, List.map_map]
    rfl
end
theorem isFn291 {w : World} {h : Heap} (T : TopH w h) : IsFn h 291 := ⟨_, _, T.K _ _ (K_due w), rfl⟩
noncomputable def du (i : Nat) : Stmt := (fbody (stOf 17)).getD i (.Pass default)
theorem du_body : fbody (stOf 17) = [du 0, du 1, du 2, du 3, du 4, du 5] := by rfl
theorem due_spec {w : World} {h : Heap} (T : TopH w h) {b : BaseK} {ov : Value} (O : OpenV h b ov) (kind n : Nat) (hn : n < 2 ^ 29) : FnD pw w 107 h 291 [.int kind, .int n, .atom ov] (.lst ((dueF b kind n).map Th.d)) := by
  intro A S s vs ok hs r
  have T' := T.mono hs
  have O' := O.mono hs
  cases r using RDs.consE with
  | cons r1 r =>
  cases r using RDs.consE with
  | cons r2 r =>
  cases r using RDs.consE with
  | cons r3 r =>
  cases r using RDs.nilE
  cases r1 using RD.intE
  cases r2 using RD.intE
  cases r3 using RD.atomE
  rename_i tk tn
  refine call_fn (binds := [("kind", .int kind tk), ("n", .int n tn), ("opened", ov)]) _ ok.room T' (K_due w) 290 rfl (by kernel_rfl) rfl (by rfl) rfl (fun y hy => ?_) fun s₁ X k => ?_
  · rcases List.mem_cons.mp hy with rfl | hy
    · exact .inl (by rfl)
    rcases List.mem_cons.mp hy with rfl | hy
    · exact .inl (by rfl)
    rcases List.mem_singleton.mp hy with rfl
    exact .inl (by rfl)
  have okA : OkA 106 (A.deeper (envDu s.heap.objs.size)) := ok.deeper _
  generalize hN : s.heap.objs.size = N at *
  generalize hA' : A.deeper (callEnvC (fdOf "_law_due" 17 290) N 291) = A' at *
  have F := Frm.ofCall X
  refine wp_abs fun Q E hQ _ => ?_
  have R0 : RSt w s (envDu N) (fun _ => False) [] (fun _ => False) [("kind", .int kind tk, .int kind), ("n", .int n tn, .int n), ("opened", ov, .atom ov)] s₁ := RSt.ofFrm T' F rfl KFs.nil (fun b hb => nomatch hb) (fun e he => by
      rcases List.mem_cons.mp he with rfl | he
      · exact .inl ⟨by rfl, by rfl⟩
      rcases List.mem_cons.mp he with rfl | he
      · exact .inl ⟨by rfl, by rfl⟩
      rcases List.mem_singleton.mp he with rfl
      exact .inl ⟨by rfl, by rfl⟩) (fun e he => by
      rcases List.mem_cons.mp he with rfl | he
      · exact .int _ _
      rcases List.mem_cons.mp he with rfl | he
      · exact .int _ _
      rcases List.mem_singleton.mp he with rfl
      exact .atom _)
  show wpAny _ A' (execs (fbody (stOf 17)) _) _ _ _
  rw [du_body]
  have hret : ∀ {e : Expr} {pos : Pos} {rest : List Stmt} {ρ : Rho} {s' : Shared} {Q' : Flow → Shared → Prop} {E' : Value → Shared → Prop}, (∀ v s', Q (.ret v) s' → Q' (.ret v) s') → RSt w s (envDu N) (fun _ => False) [] (fun _ => False) ρ s' → EvD pw w A' (envDu N) s'.heap (OkF s (envDu N) (fun _ => False) [] (fun _ => False)) e (.lst ((dueF b kind n).map Th.d)) → wpAny (model pw w) A' (execs (.Return (some e) pos :: rest) (envDu N)) Q' E' s' := fun hq R ev =>
    R.ret ev fun v s' r k => hq _ _ (hQ _ _ ⟨v, rfl, r.sub fun a z => z.imp False.elim id, k⟩)
  have tk0 : ∀ {s' : Shared} {ρ : Rho} {q1 q2 q3 : Pos} (m : Nat), RSt w s (envDu N) (fun _ => False) [] (fun _ => False) ρ s' → (("kind", .int kind tk, .int kind) : Str × Value × D) ∈ ρ → EvT pw w A' (envDu N) s'.heap (.Compare (.Name "kind" q1) [.Eq] [.Constant (.int m) 0 q2] q3) ((kind : Int) == (m : Int)) := fun m R hm =>
    EvT.cmp (R.ev hm) (EvD.cint (x := (m : Int))) CmpD.eqI
  have bk : ∀ m : Nat, ((kind : Int) == (m : Int)) = decide (kind = m) := fun m => by rw [Bool.eq_iff_iff]; simp only [beq_iff_eq, decide_eq_true_eq]; omega
  refine wpAny_execs_cons (R0.if_ (EvT.congr (tk0 0 R0 (.head _)) (bk 0)) fun s2 R2 k2 => ?_)
  by_cases c0 : kind = 0
  · rw [decide_eq_true c0, if_pos rfl]
    refine hret (fun _ _ q => q) R2 (EvD.congr (EvD.list .nil (by decide)) ?_)
    unfold dueF
    rw [if_pos c0]
    rfl
  rw [decide_eq_false c0, if_neg (by decide)]
  refine wpAny_execs_nil ?_
  have thg : ∀ {s' : Shared} {ρ : Rho} {q1 q2 q3 : Pos} {S' : Addr → Prop}, RSt w s (envDu N) (fun _ => False) [] (fun _ => False) ρ s' → (("n", .int n tn, .int n) : Str × Value × D) ∈ ρ → EvD pw w A' (envDu N) s'.heap S' (.Call (.Name "_law_thing" q1) [.Name "n" q2] [] q3) (thingF n).d := fun R hm =>
    EvD.call (Var.glob R.T rfl (by rfl) rfl (by kernel_rfl)) (isFn267 R.T) (.cons (EvD.name (R.var hm) (.int _ _)) .nil rfl) (by simp) (thing_spec R.T n (by omega)) (okA.weak (by decide))
  have tgs : ∀ {s' : Shared} {ρ : Rho} {q1 q2 q3 : Pos} {S' : Addr → Prop}, RSt w s (envDu N) (fun _ => False) [] (fun _ => False) ρ s' → (("n", .int n tn, .int n) : Str × Value × D) ∈ ρ → EvD pw w A' (envDu N) s'.heap S' (.Call (.Name "_law_things" q1) [.Name "n" q2] [] q3) (.lst ((thingsF n).map Th.d)) := fun R hm =>
    EvD.call (Var.glob R.T rfl (by rfl) rfl (by kernel_rfl)) (isFn272 R.T) (.cons (EvD.name (R.var hm) (.int _ _)) .nil rfl) (by simp) (things_spec R.T n hn) (okA.weak (by decide))
  have vi : ∀ {s' : Shared} {ρ : Rho}, RSt w s (envDu N) (fun _ => False) [] (fun _ => False) ρ s' → Var (envDu N) s'.heap "isinstance" (.builtin "isinstance") := fun R => Var.bi R.T rfl (by rfl) rfl rfl (by kernel_rfl) (by decide) (by rfl)
  have t1 : ∀ {s' : Shared}, RSt w s (envDu N) (fun _ => False) [] (fun _ => False) [("kind", .int kind tk, .int kind), ("n", .int n tn, .int n), ("opened", ov, .atom ov)] s' → EvT pw w A' (envDu N) s'.heap _ (decide (kind = 1) && isOpen b (thingF n)) := fun R =>
    EvT.and (pos := ⟨205, 7, 205, 54⟩) (EvT.congr (tk0 (q1 := ⟨205, 7, 205, 11⟩) (q2 := ⟨205, 15, 205, 16⟩) (q3 := ⟨205, 7, 205, 16⟩) 1 R (.head _)) (bk 1)) fun _ =>
      EvT.isOpen (S := fun _ => False) (p := ⟨205, 21, 205, 31⟩) (q := ⟨205, 47, 205, 53⟩) (pos := ⟨205, 21, 205, 54⟩) R.T (thg (q1 := ⟨205, 32, 205, 42⟩) (q2 := ⟨205, 43, 205, 44⟩) (q3 := ⟨205, 32, 205, 45⟩) R (.tail _ (.head _))) (vi R) (R.var (.tail _ (.tail _ (.head _)))) (O'.mono R.le)
  refine wpAny_execs_cons (R2.if_ (t1 R2) fun s3 R3 k3 => ?_)
  by_cases c1 : kind = 1 ∧ isOpen b (thingF n) = true
  · rw [decide_eq_true c1.1, c1.2, Bool.and_self, if_pos rfl]
    have hsaid : (thingF n).said = true := by
      have := c1.2
      cases h : thingF n with
      | i m => rw [h] at this; cases b <;> cases this
      | s x => rfl
      | p x y => rfl
    refine hret (fun _ _ q => q) R3 (EvD.congr (EvD.callT (x := "list") (T := "list") (Var.bi R3.T rfl (by rfl) rfl rfl (by kernel_rfl) (by decide) (by rfl)) (.cons (thg R3 (.tail _ (.head _))) .nil rfl) (by simp) (list_thing R3.T (okA.weak (by decide)) hsaid (thing_small n (by omega)))) ?_)
    unfold dueF
    rw [if_neg c0, if_pos c1]
  have e1 : (decide (kind = 1) && isOpen b (thingF n)) = false := by
    cases q : (decide (kind = 1) && isOpen b (thingF n)) with
    | false => rfl
    | true => rw [Bool.and_eq_true] at q; exact absurd ⟨of_decide_eq_true q.1, q.2⟩ c1
  rw [e1, if_neg (by decide)]
  refine wpAny_execs_nil ?_
  generalize hth : (if kind = 1 then [thingF n] else thingsF n) = things
  have hsm : ∀ t ∈ things, t.small := fun t ht => by
    rw [← hth] at ht
    split at ht
    · rw [List.mem_singleton.mp ht]; exact thing_small n (by omega)
    · exact things_small n hn t ht
  have hln : things.length ≤ 3 := by
    rw [← hth]
    split
    · exact (by decide : (1 : Nat) ≤ 3)
    · exact things_len n
  refine wpAny_execs_cons (R3.assignL (ρ' := [("kind", .int kind tk, .int kind), ("n", .int n tn, .int n), ("opened", ov, .atom ov)]) (d := .lst (things.map Th.d)) (EvD.ifExp (tk0 1 R3 (.head _)) (fun hb => ?_) fun hb => ?_) (by rfl) (fun e he => ⟨?_, he⟩) (fun v s4 R4 _ _ => ?_))
  · have hb : kind = 1 := by simp only [beq_iff_eq] at hb; omega
    refine EvD.congr (EvD.list (.cons (thg R3 (.tail _ (.head _))) .nil rfl) (show (1 : Nat) ≤ sizeLine by decide)) ?_
    rw [← hth, if_pos hb]
    rfl
  · have hb : kind ≠ 1 := fun z => by rw [z] at hb; simp at hb
    refine EvD.congr (tgs R3 (.tail _ (.head _))) ?_
    rw [← hth, if_neg hb]
  · rcases List.mem_cons.mp he with rfl | he
    · exact (by decide : ("kind" : Str) ≠ "things")
    rcases List.mem_cons.mp he with rfl | he
    · exact (by decide : ("n" : Str) ≠ "things")
    rcases List.mem_singleton.mp he with rfl
    exact (by decide : ("opened" : Str) ≠ "things")
  refine wpAny_execs_cons (R4.assignC (c := N + 1) (ρ' := [("kind", .int kind tk, .int kind)]) (ev_plain (ts := things) R4.T (okA.weak (by decide)) (R4.src (.head _)) hsm (by omega) rfl rfl (by rfl)) (by rfl) (by rfl) (fun e he => ?_) (fun v5 s5 R5 _ _ => ?_))
  · rcases List.mem_singleton.mp he with rfl
    exact ⟨(by decide : ("kind" : Str) ≠ "plain"), .tail _ (.head _)⟩
  have t5 : EvT pw w A' (envDu N) s5.heap _ (decide (kind < 5)) := EvT.congr (EvT.cmp (pos := ⟨209, 7, 209, 15⟩) (R5.ev (p := ⟨209, 7, 209, 11⟩) (.tail _ (.head _))) (EvD.cint (x := 5) (k := 0) (pos := ⟨209, 14, 209, 15⟩)) CmpD.ltI) (by rw [Bool.eq_iff_iff]; simp only [decide_eq_true_eq]; omega)
  refine wpAny_execs_cons (R5.if_ t5 fun s6 R6 k6 => ?_)
  have hdue : dueF b kind n = if kind < 5 then things.map plainT else dedupT (things.map plainT) := by
    unfold dueF
    rw [if_neg c0, if_neg c1, hth]
  by_cases c5 : kind < 5
  · rw [decide_eq_true c5, if_pos rfl]
    refine hret (fun _ _ q => q) R6 (EvD.congr (R6.ev (.head _)) ?_)
    rw [hdue, if_pos c5]
  rw [decide_eq_false c5, if_neg (by decide)]
  refine wpAny_execs_nil ?_
  refine hret (fun _ _ q => q) R6 (EvD.congr (ev_dedup (ts := things.map plainT) (pv := v5) (c := N + 1) R6.T (okA.weak (by decide)) rfl (by rfl) (by rfl) (R6.cell (.head _) (by rfl) (by rfl)) (R6.var (.head _)) (R6.rd _ (.head _)) (fun t ht => ?_) ?_ (Var.bi R6.T rfl (by rfl) rfl rfl (by kernel_rfl) (by decide) (by rfl)) (Var.bi R6.T rfl (by rfl) rfl rfl (by kernel_rfl) (by decide) (by rfl))) ?_)
  · obtain ⟨u, _, rfl⟩ := List.mem_map.mp ht
    exact plain_said u
  · rw [List.length_map]; omega
  · rw [hdue, if_neg c5]
noncomputable def BookMu (B : Addr) (bk : List (Str × Addr × List D)) (a : Addr) : Prop := a = B ∨ ∃ e ∈ bk, e.2.1 = a
structure BookSt (w : World) (h : Heap) (B bd : Addr) (P : Addr → Prop) (bk : List (Str × Addr × List D)) : Prop where
  book : BookAt w h B bd (bk.map fun e => (e.1, e.2.1))
  lst : ∀ e ∈ bk, ∃ its, h.PlainList e.2.1 its ∧ RDs h (fun a => P a ∧ ¬ BookMu B bk a) its.toList e.2.2
  nd : (bk.map fun e => e.2.1).Nodup
  ne : ∀ e ∈ bk, e.2.1 ≠ B ∧ e.2.1 ≠ bd
  kd : (bk.map fun e => e.1).Nodup
theorem BookSt.keep {w : World} {h h' : Heap} {B bd : Addr} {P : Addr → Prop} {bk : List (Str × Addr × List D)} (x : BookSt w h B bd P bk) (k : ∀ a o, BookMu B bk a ∨ P a → h.get? a = some o → h'.get? a = some o) : BookSt w h' B bd P bk := by
  obtain ⟨l, ep, e, en⟩ := x.book.at_
  refine ⟨⟨l, ep, k _ _ (.inl (.inl rfl)) e, en⟩, fun z hz => ?_, x.nd, x.ne, x.kd⟩
  obtain ⟨its, ⟨n, hp⟩, r⟩ := x.lst z hz
  exact ⟨its, ⟨n, k _ _ (.inl (.inr ⟨z, hz, rfl⟩)) hp⟩, r.mono (fun a o s e => k a o (.inr s.1) e) fun _ s => s⟩
noncomputable abbrev Bk := List (Str × Addr × List D)
noncomputable abbrev ksOf (bk : Bk) : List (Str × Addr) := bk.map fun e => (e.1, e.2.1)
theorem look_hit {bk : Bk} {x : Str} {a : Addr} (h : lookA (ksOf bk) x = some a) : ∃ v, (x, a, v) ∈ bk := by
  unfold lookA at h
  obtain ⟨k, hk, rfl⟩ := Option.map_eq_some_iff.mp h
  have h1 := List.find?_some hk
  have h2 := List.mem_of_find?_eq_some hk
  obtain ⟨e, he, rfl⟩ := List.mem_map.mp h2
  have h3 : e.1 = x := by simpa using h1
  exact ⟨e.2.2, by rw [← h3]; exact he⟩
theorem look_none {bk : Bk} {x : Str} (h : lookA (ksOf bk) x = none) : x ∉ bk.map fun e => e.1 := by
  unfold lookA at h
  rw [Option.map_eq_none_iff, List.find?_eq_none] at h
  intro hx
  obtain ⟨e, he, rfl⟩ := List.mem_map.mp hx
  exact h (e.1, e.2.1) (List.mem_map.mpr ⟨e, he, rfl⟩) (by simp)
noncomputable def bkV (bk : Bk) : List (Str × List D) := bk.map fun e => (e.1, e.2.2)
noncomputable def touchV (bv : List (Str × List D)) (x : Str) : List (Str × List D) := if (bv.map (·.1)).contains x = true then bv else bv ++ [(x, [])]
noncomputable def getV (bv : List (Str × List D)) (x : Str) : List D := ((bv.find? fun e => e.1 == x).map (·.2)).getD []
section
variable {w : World} {A : Around} {s : Shared} {E : Value → Shared → Prop}
theorem item_open (T : TopH w s.heap) (ok : OkA 105 A) {B bd : Addr} {P : Addr → Prop} {bk : Bk} {x : Str} {t : Tok} (b : BookSt w s.heap B bd P bk) (hbd : s.heap.get? bd = some ⟨.type "dict", none, .dict #[] 0, #[]⟩) (hB : B ≠ bd) (hsz : bk.length ≤ sizeLine) :
    wpAny (model pw w) A (getItem (.ref B) (.str x t)) (fun r s' => ∃ a v bk', r = .ref a ∧ (x, a, v) ∈ bk' ∧ BookSt w s'.heap B bd P bk' ∧ bkV bk' = touchV (bkV bk) x ∧ (∀ e ∈ bk', e ∈ bk ∨ s.heap.get? e.2.1 = none) ∧ (∀ e ∈ bk, e ∈ bk') ∧
      (∃ h' tk, s' = { s with heap := h', toks := tk }) ∧ Heap.ExtBut B s.heap s'.heap) E s := by
  cases hl : lookA (ksOf bk) x with
  | some a =>
    refine item_hit T.K b.book hl ?_
    obtain ⟨v, hv⟩ := look_hit hl
    refine ⟨a, v, bk, rfl, hv, b.keep fun _ _ _ e => e, ?_, fun e he => .inl he, fun e he => he, ⟨_, _, rfl⟩, fun _ _ _ e => e⟩
    unfold touchV
    rw [if_pos]
    simp only [bkV, List.map_map, List.contains_iff_mem, List.mem_map]
    exact ⟨_, hv, rfl⟩
  | none =>
    have hx := look_none hl
    refine item_miss T b.book hl (codeAny_mono (miss_open (s := { s with toks := s.toks + 1 }) T (OkA.in1 (n := 104) ok) b.book hbd hl (by simpa using hsz)) fun r s' h => ?_)
    obtain ⟨a, rfl, ha0, ha, hb, hs, hx2⟩ := h
    have hlt : ∀ c o, s.heap.get? c = some o → c ≠ a := fun c o e z => by rw [z, show s.heap.get? a = none from ha0] at e; cases e
    have hold : ∀ e ∈ bk, s.heap.get? e.2.1 ≠ none := fun e he => by obtain ⟨its, ⟨n, hp⟩, _⟩ := b.lst e he; exact some_ne hp
    have haB : a ≠ B := fun z => by
      obtain ⟨l, ep, e, en⟩ := b.book.at_
      exact hlt _ _ e z.symm
    refine ⟨_, rfl, a, [], bk ++ [(x, a, [])], rfl, by simp, ⟨?_, ?_, ?_, ?_, ?_⟩, ?_, ?_, fun e he => List.mem_append_left _ he, ?_, hx2⟩
    · have : ksOf (bk ++ [(x, a, [])]) = ksOf bk ++ [(x, a)] := by simp [ksOf]
      rw [← this] at hb
      exact hb
    · intro e he
      rcases List.mem_append.mp he with he | he
      · obtain ⟨its, ⟨n, hp⟩, r⟩ := b.lst e he
        exact ⟨its, ⟨n, hx2 _ _ (b.ne e he).1 hp⟩, r.dom.mono (fun a o s e => hx2 _ _ (fun z => s.1.2 (.inl z)) e) fun c s => ⟨s.1.1, fun z => by
          rcases z with z | ⟨g, hg, z⟩
          · exact s.1.2 (.inl z)
          · rcases List.mem_append.mp hg with hg | hg
            · exact s.1.2 (.inr ⟨g, hg, z⟩)
            · rw [List.mem_singleton.mp hg] at z; exact s.2 (z ▸ ha0)⟩⟩
      · rw [List.mem_singleton.mp he]
        exact ⟨#[], ⟨0, ha⟩, .nil⟩
    · rw [List.map_append, List.nodup_append]
      refine ⟨b.nd, by simp, fun u hu v hv => ?_⟩
      obtain ⟨e, he, rfl⟩ := List.mem_map.mp hu
      simp only [List.map_cons, List.map_nil, List.mem_singleton] at hv
      subst hv
      intro z
      exact hold e he (z ▸ ha0)
    · intro e he
      rcases List.mem_append.mp he with he | he
      · exact b.ne e he
      · rw [List.mem_singleton.mp he]
        exact ⟨haB, fun z => hlt _ _ hbd z.symm⟩
    · rw [List.map_append, List.nodup_append]
      refine ⟨b.kd, by simp, fun u hu v hv => ?_⟩
      simp only [List.map_cons, List.map_nil, List.mem_singleton] at hv
      subst hv
      intro z
      exact hx (z ▸ hu)
    · unfold touchV
      rw [if_neg]
      · simp [bkV]
      · simp only [bkV, List.map_map, List.contains_iff_mem]
        exact hx
    · intro e he
      rcases List.mem_append.mp he with he | he
      · exact .inl he
      · rw [List.mem_singleton.mp he]; exact .inr ha0
    · obtain ⟨h', tk, rfl⟩ := hs
      exact ⟨h', tk, rfl⟩
end
noncomputable def pushV (bv : List (Str × List D)) (x : Str) (v : D) : List (Str × List D) := (touchV bv x).map fun e => if (e.1 == x) = true then (e.1, e.2 ++ [v]) else e
theorem inj_of_nodup {α β : Type} {f : α → β} : ∀ {l : List α}, (l.map f).Nodup → ∀ {e g}, e ∈ l → g ∈ l → f e = f g → e = g
  | [], _, _, _, he, _, _ => nomatch he
  | z :: r, nd, e, g, he, hg, h => by
    rw [List.map_cons, List.nodup_cons] at nd
    rcases List.mem_cons.mp he with q | he'
    · rcases List.mem_cons.mp hg with q2 | hg'
      · rw [q, q2]
      · exact absurd (by rw [← q, h]; exact List.mem_map_of_mem hg') nd.1
    · rcases List.mem_cons.mp hg with q2 | hg'
      · exact absurd (by rw [← q2, ← h]; exact List.mem_map_of_mem he') nd.1
      · exact inj_of_nodup nd.2 he' hg' h
section
variable {w : World} {h h' : Heap} {B bd : Addr} {P : Addr → Prop} {bk : Bk}
theorem BookSt.grow (b : BookSt w h B bd P bk) {x : Str} {a : Addr} {v : List D} {y : D} {yv : Value} {its : Array Value} (hm : (x, a, v) ∈ bk) (hl : h.PlainList a its) (hs : Heap.ExtBut a h h') (hl' : h'.PlainList a (its.push yv)) (ry : RD h' (fun a => P a ∧ ¬ BookMu B bk a) yv y) :
    BookSt w h' B bd P (bk.map fun e => if (e.1 == x) = true then (e.1, e.2.1, e.2.2 ++ [y]) else e) := by
  have haB : a ≠ B := (b.ne _ hm).1
  have e1 : (bk.map fun e => if (e.1 == x) = true then (e.1, e.2.1, e.2.2 ++ [y]) else e).map (fun e => e.1) = bk.map fun e => e.1 := by
    rw [List.map_map]
    refine List.map_congr_left fun e _ => ?_
    simp only [Function.comp]
    split <;> rfl
  have e2 : (bk.map fun e => if (e.1 == x) = true then (e.1, e.2.1, e.2.2 ++ [y]) else e).map (fun e => e.2.1) = bk.map fun e => e.2.1 := by
    rw [List.map_map]
    refine List.map_congr_left fun e _ => ?_
    simp only [Function.comp]
    split <;> rfl
  have e3 : (bk.map fun e => if (e.1 == x) = true then (e.1, e.2.1, e.2.2 ++ [y]) else e).map (fun e => (e.1, e.2.1)) = bk.map fun e => (e.1, e.2.1) := by
    rw [List.map_map]
    refine List.map_congr_left fun e _ => ?_
    simp only [Function.comp]
    split <;> rfl
  have mu : ∀ {c : Addr}, ¬ BookMu B bk c → ¬ BookMu B (bk.map fun e => if (e.1 == x) = true then (e.1, e.2.1, e.2.2 ++ [y]) else e) c := fun {c} h z => by
    rcases z with z | ⟨g, hg, z⟩
    · exact h (.inl z)
    · have : c ∈ (bk.map fun e => if (e.1 == x) = true then (e.1, e.2.1, e.2.2 ++ [y]) else e).map (fun e => e.2.1) := List.mem_map.mpr ⟨g, hg, z⟩
      rw [e2] at this
      obtain ⟨g', hg', z'⟩ := List.mem_map.mp this
      exact h (.inr ⟨g', hg', z'⟩)
  have haM : BookMu B bk a := .inr ⟨_, hm, rfl⟩
  refine ⟨?_, ?_, e2 ▸ b.nd, ?_, e1 ▸ b.kd⟩
  · rw [e3]
    obtain ⟨l, ep, e, en⟩ := b.book.at_
    exact ⟨l, ep, hs _ _ (Ne.symm haB) e, en⟩
  · intro e' he'
    obtain ⟨e, he, rfl⟩ := List.mem_map.mp he'
    cases hx : (e.1 == x) with
    | true =>
      have q : e = (x, a, v) := inj_of_nodup b.kd he hm (by simpa using hx)
      subst q
      simp only [if_true]
      obtain ⟨its0, ⟨n0, hp0⟩, r⟩ := b.lst _ hm
      obtain ⟨n, hp⟩ := hl
      rw [hp] at hp0
      injection hp0 with hp0
      injection hp0 with _ _ hp0 _
      injection hp0 with hp0 _
      subst hp0
      refine ⟨_, hl', ?_⟩
      rw [Array.toList_push]
      exact (r.mono (fun c o s e => hs _ _ (fun z => s.2 (z ▸ haM)) e) fun _ s => ⟨s.1, mu s.2⟩).append (.cons (ry.sub fun _ s => ⟨s.1, mu s.2⟩) .nil)
    | false =>
      simp only [Bool.false_eq_true, if_false]
      obtain ⟨its0, ⟨n0, hp0⟩, r⟩ := b.lst _ he
      refine ⟨its0, ⟨n0, hs _ _ (fun z => ?_) hp0⟩, r.mono (fun c o s e => hs _ _ (fun z => s.2 (z ▸ haM)) e) fun _ s => ⟨s.1, mu s.2⟩⟩
      have := inj_of_nodup b.nd he hm z
      rw [this] at hx
      simp at hx
  · intro e' he'
    obtain ⟨e, he, rfl⟩ := List.mem_map.mp he'
    have := b.ne e he
    split <;> exact this
theorem bkV_grow (bk : Bk) (x : Str) (y : D) : bkV (bk.map fun e => if (e.1 == x) = true then (e.1, e.2.1, e.2.2 ++ [y]) else e) = (bkV bk).map fun e => if (e.1 == x) = true then (e.1, e.2 ++ [y]) else e := by
  unfold bkV
  rw [List.map_map, List.map_map]
  refine List.map_congr_left fun e _ => ?_
  simp only [Function.comp]
  split <;> rfl
end
noncomputable def Opened (w : World) (B bd : Addr) (P : Addr → Prop) (bk : Bk) (x : Str) (s : Shared) (r : Value) (s' : Shared) : Prop :=
  ∃ a v bk', r = .ref a ∧ (x, a, v) ∈ bk' ∧ BookSt w s'.heap B bd P bk' ∧ bkV bk' = touchV (bkV bk) x ∧ (∀ e ∈ bk', e ∈ bk ∨ s.heap.get? e.2.1 = none) ∧ (∀ e ∈ bk, e ∈ bk') ∧ (∃ h' tk, s' = { s with heap := h', toks := tk }) ∧ Heap.ExtBut B s.heap s'.heap
section
variable {w : World} {A : Around} {E : Value → Shared → Prop} {env : Env} {s : Shared}
theorem ev_book (T : TopH w s.heap) (ok : OkA 105 A) {B bd : Addr} {P : Addr → Prop} {bk : Bk} {bn x : Str} {p pos : Pos} {slice : Expr} (vb : Var env s.heap bn (.ref B)) (b : BookSt w s.heap B bd P bk) (hbd : s.heap.get? bd = some ⟨.type "dict", none, .dict #[] 0, #[]⟩) (hB : B ≠ bd) (hsz : bk.length ≤ sizeLine)
    (ev : EvD pw w A env s.heap (fun _ => False) slice (.str x)) (hs : ∀ o i, subscripted slice false o i = operate [o, i] (getItem o i) := by intro _ _; rfl) (hbn : (bn == ("__debug__" : Str)) = false := by decide) :
    wpAny (model pw w) A (eval (.Subscript (.Name bn p) slice pos) env) (Opened w B bd P bk x s) E s := by
  refine Subscript_ (wpAny_Name (vb _ _ _ _ s (fun _ _ e => e) ?_) hbn)
  refine wpAny_mono (ev s E fun _ _ e => e) (fun i s₁ q => ?_) fun _ _ q => q
  obtain ⟨r, k⟩ := q
  (first | cases r using RD.atomE | cases r using RDs.nilE | cases r using RD.strE | cases r using RD.intE | cases r)
  rename_i t
  have b1 : BookSt w s₁.heap B bd P bk := b.keep fun a o _ e => k.le a o e
  have T1 := T.mono k.le
  refine tail_book T1 b1.book (wpAny_mono (item_open T1 ok b1 (k.le _ _ hbd) hB hsz) (fun v s₂ q => ?_) fun _ _ q => q) (hs _ _) (fun _ => rfl)
  obtain ⟨a, v, bk', rfl, hm, hb, hv, hn, ho, hs2, hx2⟩ := q
  refine ⟨a, v, bk', rfl, hm, hb, hv, fun e he => (hn e he).imp id fun z => fresh_le k.le z, ho, ?_, fun c o hc ec => hx2 c o hc (k.le c o ec)⟩
  obtain ⟨kk, h', t', rfl⟩ := k
  obtain ⟨h3, t3, rfl⟩ := hs2
  exact ⟨h3, t3, rfl⟩
end
theorem touch_at {bk bk' : Bk} {x : Str} {y : D} (h : bkV bk' = touchV (bkV bk) x) : (bkV bk').map (fun e => if (e.1 == x) = true then (e.1, e.2 ++ [y]) else e) = pushV (bkV bk) x y := by
  unfold pushV; rw [h]
section
variable {w : World} {A : Around} {E : Value → Shared → Prop} {env : Env} {s : Shared}
theorem exec_bookAppend (T : TopH w s.heap) (ok : OkA 105 A) {B bd : Addr} {P Se : Addr → Prop} {bk : Bk} {bn x : Str} {y : D} {p pos apos cpos epos : Pos} {slice elt : Expr} {Q : Flow → Shared → Prop} (vb : Var env s.heap bn (.ref B)) (b : BookSt w s.heap B bd P bk) (hbd : s.heap.get? bd = some ⟨.type "dict", none, .dict #[] 0, #[]⟩) (hB : B ≠ bd) (hsz : bk.length ≤ sizeLine)
    (ev : EvD pw w A env s.heap (fun _ => False) slice (.str x)) (ev2 : ∀ h', Heap.ExtBut B s.heap h' → EvD pw w A env h' Se elt y) (hSe : ∀ a, Se a → P a ∧ ¬ BookMu B bk a ∧ s.heap.get? a ≠ none) (hPn : ∀ a, s.heap.get? a = none → P a) (hlen : ∀ v : List D, (x, v) ∈ touchV (bkV bk) x → v.length ≤ sizeLine)
    (hQ : ∀ bk' s', BookSt w s'.heap B bd P bk' → bkV bk' = pushV (bkV bk) x y → (∀ e ∈ bk', (∃ v, (e.1, e.2.1, v) ∈ bk) ∨ s.heap.get? e.2.1 = none) → (∃ h' tk, s' = { s with heap := h', toks := tk }) → (∀ c o, c ≠ B → (∀ e ∈ bk, e.2.1 ≠ c) → s.heap.get? c = some o → s'.heap.get? c = some o) → Q .next s')
    (hs : ∀ o i, subscripted slice false o i = operate [o, i] (getItem o i) := by intro _ _; rfl) (hstar : isStar elt = false := by rfl) (hline : (apos.endLine == cpos.line) = true := by rfl) (hi : interactive env = false := by rfl)
    (hsw : swapsWith (.Call (.Attribute (.Subscript (.Name bn p) slice pos) "append" apos) [elt] [] cpos) none epos.line env = pure false := by rfl)
    (hbn : (bn == ("__debug__" : Str)) = false := by decide)
    (hbase : attributeBase (.Subscript (.Name bn p) slice pos) "append" env (eval (.Subscript (.Name bn p) slice pos) env) = eval (.Subscript (.Name bn p) slice pos) env := by rfl) :
    wpAny (model pw w) A (exec (.Expr (.Call (.Attribute (.Subscript (.Name bn p) slice pos) "append" apos) [elt] [] cpos) epos) env) Q E s := by
  have htr : backTo cpos (starEach [elt] env) = [(false, eval elt env)] := by rw [starEach_cons hstar]; rfl
  refine wpAny_Expr (wpAny_Call_append hbase (by rw [htr]; rfl) hline htr (wpAny_mono (ev_book T ok vb b hbd hB hsz ev hs hbn) (fun r s₁ h₁ => ?_) fun _ _ q => q)) hi hsw
  obtain ⟨a, v, bk1, rfl, hm, hb, hv, hn, ho, hs1, hx1⟩ := h₁
  obtain ⟨its, hp, hr⟩ := hb.lst _ hm
  obtain ⟨n, hpe⟩ := id hp
  refine ⟨a, its, rfl, ⟨_, n, hpe, rfl, rfl, rfl⟩, ?_⟩
  refine wpAny_mono ((ev2 _ hx1) s₁ E fun _ _ e => e) (fun z s₂ q => ?_) fun _ _ q => q
  obtain ⟨rz, k⟩ := q
  have aliveL : ∀ e ∈ bk1, s₁.heap.get? e.2.1 ≠ none := fun e he => by obtain ⟨its, ⟨n, hp⟩, _⟩ := hb.lst e he; exact some_ne hp
  have aliveB : s₁.heap.get? B ≠ none := by obtain ⟨l, ep, e, _⟩ := hb.book.at_; exact some_ne e
  have rz' : RD s₂.heap (fun a => P a ∧ ¬ BookMu B bk1 a) z y := rz.sub fun a q => by
    rcases q with q | q
    · obtain ⟨q1, q2, q3⟩ := hSe a q
      refine ⟨q1, fun m => ?_⟩
      rcases m with m | ⟨g, hg, m⟩
      · exact q2 (.inl m)
      · rcases hn g hg with h | h
        · exact q2 (.inr ⟨g, h, m⟩)
        · exact q3 (m ▸ h)
    · refine ⟨hPn a (Classical.byContradiction fun q2 => ?_), fun m => ?_⟩
      · cases q3 : s.heap.get? a with
        | none => exact q2 q3
        | some o =>
          by_cases hab : a = B
          · exact aliveB (hab ▸ q)
          · rw [hx1 a o hab q3] at q; cases q
      · rcases m with m | ⟨g, hg, m⟩
        · exact aliveB (m ▸ q)
        · exact aliveL g hg (m ▸ q)
  have hb2 : BookSt w s₂.heap B bd P bk1 := hb.keep fun a o _ e => k.le a o e
  have hp2 : s₂.heap.PlainList a its := ⟨n, k.le _ _ hpe⟩
  have hl : its.size ≤ sizeLine := by
    rw [← Array.length_toList, hr.length]
    refine hlen v ?_
    rw [← hv]
    exact List.mem_map.mpr ⟨_, hm, rfl⟩
  refine wpAny_list_append_plain (hsz := hl) hp2 fun h' hl' hs' => ?_
  have hb3 := hb2.grow (y := y) hm hp2 hs'.extBut hl' (rz'.but hs'.extBut fun z => z.2 (.inr ⟨_, hm, rfl⟩))
  refine hQ _ _ hb3 ?_ ?_ ?_ ?_
  · rw [bkV_grow]; exact touch_at hv
  · intro e' he'
    obtain ⟨e, he, rfl⟩ := List.mem_map.mp he'
    have : (∃ v, (e.1, e.2.1, v) ∈ bk) ∨ s.heap.get? e.2.1 = none := (hn e he).imp (fun z => ⟨e.2.2, z⟩) id
    split <;> exact this
  · obtain ⟨h1, t1, rfl⟩ := hs1
    obtain ⟨kk, h2, t2, rfl⟩ := k
    exact ⟨_, _, rfl⟩
  · intro c o hcB hcl ec
    refine hs'.extBut c o (fun z => ?_) (k.le c o (hx1 c o hcB ec))
    rcases hn _ hm with q | q
    · exact hcl _ q z.symm
    · dsimp only at q; rw [← z, ec] at q; cases q
end
theorem getV_mem {bk : Bk} {x : Str} {a : Addr} {v : List D} (kd : (bk.map fun e => e.1).Nodup) (hm : (x, a, v) ∈ bk) : getV (bkV bk) x = v := by
  unfold getV
  cases q : (bkV bk).find? fun e => e.1 == x with
  | none =>
    rw [List.find?_eq_none] at q
    exact absurd (by simp) (q (x, v) (by unfold bkV; exact List.mem_map.mpr ⟨_, hm, rfl⟩))
  | some e =>
    have h1 := List.find?_some q
    have h2 := List.mem_of_find?_eq_some q
    unfold bkV at h2
    obtain ⟨g, hg, rfl⟩ := List.mem_map.mp h2
    have : g = (x, a, v) := inj_of_nodup kd hg hm (by simpa using h1)
    rw [this]; rfl
theorem getV_none {bk : Bk} {x : Str} (h : lookA (ksOf bk) x = none) : getV (bkV bk) x = [] := by
  have hx := look_none h
  unfold getV
  rw [List.find?_eq_none.mpr]
  · rfl
  · intro e he
    unfold bkV at he
    obtain ⟨g, hg, rfl⟩ := List.mem_map.mp he
    intro z
    exact hx (List.mem_map.mpr ⟨g, hg, by simpa using z⟩)
theorem getV_touch (bv : List (Str × List D)) (x : Str) : getV (touchV bv x) x = getV bv x := by
  unfold touchV
  split
  · rfl
  · rename_i h
    unfold getV
    rw [List.find?_append]
    cases q : bv.find? fun e => e.1 == x with
    | some e => rfl
    | none => simp
noncomputable def BdOk (w : World) (fz : Bool) (h : Heap) (B bd : Addr) : Prop := if fz = true then ∃ M tk, h.get? bd = some (frozenD w M tk 1) ∧ LamAt h B M else h.get? bd = some emptyD
structure GotItem (w : World) (fz : Bool) (B bd : Addr) (P : Addr → Prop) (bk : Bk) (x : Str) (s : Shared) (a : Addr) (s' : Shared) : Prop where
  lst : ∃ its, s'.heap.PlainList a its ∧ RDs s'.heap (fun c => P c ∧ ¬ BookMu B bk c) its.toList (getV (bkV bk) x)
  bk' : ∃ bk', BookSt w s'.heap B bd P bk' ∧ bkV bk' = (if fz = true then bkV bk else touchV (bkV bk) x) ∧ (∀ e ∈ bk', e ∈ bk ∨ s.heap.get? e.2.1 = none)
  new : s.heap.get? a = none ∨ ∃ e ∈ bk, e.2.1 = a
  sh : ∃ h' tk, s' = { s with heap := h', toks := tk }
  ext : Heap.ExtBut B s.heap s'.heap
  le : fz = true → Le s.heap s'.heap
section
variable {w : World} {A : Around} {s : Shared} {E : Value → Shared → Prop}
theorem item_any (T : TopH w s.heap) (ok : OkA 106 A) {fz : Bool} {B bd : Addr} {P : Addr → Prop} {bk : Bk} {x : Str} {t : Tok} (b : BookSt w s.heap B bd P bk) (hbd : BdOk w fz s.heap B bd) (hB : B ≠ bd) (hsz : bk.length ≤ sizeLine) :
    wpAny (model pw w) A (getItem (.ref B) (.str x t)) (fun r s' => ∃ a, r = .ref a ∧ GotItem w fz B bd P bk x s a s') E s := by
  cases fz with
  | false =>
    refine wpAny_mono (item_open T (ok.weak (by decide)) b hbd hB hsz) (fun r s' h => ?_) fun _ _ q => q
    obtain ⟨a, v, bk', rfl, hm, hb, hv, hn, ho, hs, hx⟩ := h
    obtain ⟨its, hp, r⟩ := hb.lst _ hm
    refine ⟨a, rfl, ⟨⟨its, hp, ?_⟩, ⟨bk', hb, hv, hn⟩, ?_, hs, hx, fun z => by cases z⟩⟩
    · have := getV_mem hb.kd hm
      rw [hv, getV_touch] at this
      rw [this]; exact r.sub fun c q => ⟨q.1, fun z => q.2 (by
        rcases z with z | ⟨g, hg, z⟩
        · exact .inl z
        · exact .inr ⟨g, ho g hg, z⟩)⟩
    · rcases hn _ hm with h | h
      · exact .inr ⟨_, h, rfl⟩
      · exact .inl h
  | true =>
    obtain ⟨M, tk, ed, L⟩ := hbd
    obtain ⟨l, ep, e, en⟩ := id b.book.at_
    cases hl : lookA (ksOf bk) x with
    | some a =>
      refine item_hit T.K b.book hl ?_
      obtain ⟨v, hv⟩ := look_hit hl
      obtain ⟨its, hp, r⟩ := b.lst _ hv
      exact ⟨a, rfl, ⟨⟨its, hp, by rw [getV_mem b.kd hv]; exact r⟩, ⟨bk, b, rfl, fun e he => .inl he⟩, .inr ⟨_, hv, rfl⟩, ⟨_, _, rfl⟩, fun _ _ _ e => e, fun _ _ _ e => e⟩⟩
    | none =>
      refine item_miss T b.book hl (codeAny_mono (miss_pre (R := fun r s' => ∃ a, r = .ok (.ret (.ref a)) ∧ s.heap.get? a = none ∧ s'.heap.get? a = some ⟨.type "list", none, .seq #[] 0, #[]⟩ ∧ Kp s s') (s := { s with toks := s.toks + 1 }) T (OkA.in1 (n := 105) ok |>.weak (by decide)) b.book fun A1 bm s₁ tk1 ok1 k1 hbm => ?_) fun r s' h => ?_)
      · have T1 := T.mono k1.le
        refine wpAny_mono (ga_some T1.K (ok1.weak (by decide)) B bd M (.ref bm) _ ep 1 tk1 tk (k1.le _ _ e) (k1.le _ _ ed)) (fun f s₂ h₂ => ?_) fun _ _ z => z
        obtain ⟨rfl, k2⟩ := h₂
        have k12 := (show Kp s _ from Kp.tk s _).tr (k1.tr k2)
        have L2 : LamAt s₂.heap B M := L.keep fun b o _ _ e => k12.le _ _ e
        obtain ⟨pm, c', ctv, cl, eM, hc, hrec⟩ := id L2.fn
        refine ⟨k2, keeps_F s₂.heap ⟨_, _, _, _, eM⟩, ?_⟩
        refine codeAny_mono (lam_call (T1.mono k2.le) ok1 (k12.le _ _ e) (k12.le _ _ ed) L2) fun r s₃ h₃ => ?_
        obtain ⟨a, rfl, ha0, ha, k3⟩ := h₃
        exact ⟨_, rfl, a, rfl, fresh_le k12.le ha0, ha, k12.tr k3⟩
      · obtain ⟨a, rfl, ha0, ha, k⟩ := h
        refine ⟨_, rfl, a, rfl, ⟨⟨#[], ⟨0, ha⟩, by rw [getV_none hl]; exact .nil⟩, ⟨bk, b.keep fun c o _ e => k.le c o e, rfl, fun e he => .inl he⟩, .inl ha0, k.eq, fun c o _ e => k.le c o e, fun _ => k.le⟩⟩
theorem ev_item {env : Env} (T : TopH w s.heap) (ok : OkA 106 A) {fz : Bool} {B bd : Addr} {P : Addr → Prop} {bk : Bk} {x : Str} {p pos : Pos} {slice : Expr} (vb : Var env s.heap "book" (.ref B)) (b : BookSt w s.heap B bd P bk) (hbd : BdOk w fz s.heap B bd) (hB : B ≠ bd) (hsz : bk.length ≤ sizeLine)
    (ev : EvD pw w A env s.heap (fun _ => False) slice (.str x)) (hs : ∀ o i, subscripted slice false o i = operate [o, i] (getItem o i) := by intro _ _; rfl) :
    wpAny (model pw w) A (eval (.Subscript (.Name "book" p) slice pos) env) (fun r s' => ∃ a, r = .ref a ∧ GotItem w fz B bd P bk x s a s') E s := by
  refine Subscript_ (wpAny_Name (vb _ _ _ _ s (fun _ _ e => e) ?_) (by decide))
  refine wpAny_mono (ev s E fun _ _ e => e) (fun i s₁ q => ?_) fun _ _ q => q
  obtain ⟨r, k⟩ := q
  (first | cases r using RD.atomE | cases r using RDs.nilE | cases r using RD.strE | cases r using RD.intE | cases r)
  rename_i t
  have b1 : BookSt w s₁.heap B bd P bk := b.keep fun a o _ e => k.le a o e
  have T1 := T.mono k.le
  have hbd1 : BdOk w fz s₁.heap B bd := by
    cases fz with
    | false => exact k.le _ _ hbd
    | true => obtain ⟨M, tk, e, L⟩ := hbd; exact ⟨M, tk, k.le _ _ e, L.keep fun b o _ _ e => k.le _ _ e⟩
  refine tail_book T1 b1.book (wpAny_mono (item_any T1 ok b1 hbd1 hB hsz) (fun v s₂ q => ?_) fun _ _ q => q) (hs _ _) (fun _ => rfl)
  obtain ⟨a, rfl, ⟨hl, ⟨bk', hb, hv, hn⟩, hnew, hs2, hx2, hle⟩⟩ := q
  refine ⟨a, rfl, ⟨hl, ⟨bk', hb, hv, fun e he => (hn e he).imp id fun z => fresh_le k.le z⟩, hnew.imp (fun z => fresh_le k.le z) id, ?_, fun c o hc ec => hx2 c o hc (k.le c o ec), fun z => k.le.trans (hle z)⟩⟩
  obtain ⟨kk, h', t', rfl⟩ := k
  obtain ⟨h3, t3, rfl⟩ := hs2
  exact ⟨h3, t3, rfl⟩
end
section
variable {prog : Program} {w : World} {A : Around} {E : Value → Shared → Prop} {s : Shared}
theorem kit_item {it d : Addr} {i ep : Nat} {od : Obj} {es : Array DictEntry} {Q : Option Value → Shared → Prop} (hit : s.heap.IsKeyIter it d i es.size ep) (hod : s.heap.get? d = some od) (hdd : od.data = .dict es ep) (hi : i < es.size)
    (hQ : ∀ h', h'.IsKeyIter it d (i + 1) es.size ep → Heap.SameBut it s.heap h' → Q (some es[i].key) { s with heap := h' }) : wpAny (model prog w) A (pyNext (.ref it)) Q E s := by
  obtain ⟨o, ho, hc, hd⟩ := id hit
  unfold pyNext
  refine wpAny_bind (wpAny_attempt (wpAny_callSpecial?_slot (name := Str.ofString "__next__") hit.typeIs PySem.F.slot_dict_keyiterator_next
    (wpAny_call_entry PySem.F.slot_dict_keyiterator_next hit.typeIs PySem.F.entry_dict_keyiterator_next ?_ (PySem.F.args_dict_keyiterator_next_1 _))))
  refine wpAny_bind (wpAny_pure (wpAny_bind (wpAny_bind ?_)))
  first | refine wpAny_bind (wpAny_typeNameOfWhole_keyiter hit.typeIs (wpAny_pure ?_)) | refine wpAny_bind (wpAny_typeNameOf_keyiter hit.typeIs (wpAny_pure ?_))
  refine wpAny_bind (wpAny_fieldsOf ho hd ?_)
  simp only [show Builtin.Dict_items.ownsTuple "dict_keyiterator" = false from by decide, Bool.false_eq_true, if_false]
  show wpAny _ _ (if (Value.ref d == Value.none) = true then _ else _) _ _ s
  rw [if_neg (show ¬ ((Value.ref d == Value.none) = true) from Bool.false_ne_true)]
  refine wpAny_bind (wpAny_pure (wpAny_bind (wpAny_dictEntries hod hdd ?_)))
  rw [if_neg (by simp)]
  refine wpAny_bind (wpAny_pure (wpAny_bind (wpAny_dictEpoch hod hdd ?_)))
  rw [if_neg (by simp)]
  refine wpAny_pure ?_
  simp only [show ¬ ((i : Int) < 0) from by omega, if_false, Int.toNat_natCast, Array.getElem?_eq_getElem hi]
  refine wpAny_bind ?_
  first | refine wpAny_bind (wpAny_typeNameOfWhole_keyiter hit.typeIs (wpAny_pure ?_)) | refine wpAny_bind (wpAny_typeNameOf_keyiter hit.typeIs (wpAny_pure ?_))
  refine wpAny_bind (wpAny_isOneOf_keyiter hit.typeIs ?_)
  show wpAny _ _ (setField (.ref it) 1 (rawInt ((i : Int) + 1)) >>= _) _ _ s
  refine wpAny_bind (wpAny_setField ho hd (by simp) ?_)
  have hit' : (s.heap.update it (Obj.mapFields (·.setIfInBounds 1 (rawInt ((i : Int) + 1))))).IsKeyIter it d (i + 1) es.size ep :=
    ⟨_, Heap.get?_update_self _ ho (Obj.isFreed_of_fields (Obj.data_mapFields hd _)), (Obj.cls_mapFields ..).trans hc, by rw [Obj.data_mapFields hd]; simp [rawInt]⟩
  refine wpAny_bind (wpAny_holding ?_)
  refine wpAny_bind (wpAny_isOneOf_keyiter (s := { s with heap := s.heap.update it (Obj.mapFields (·.setIfInBounds 1 (rawInt ((i : Int) + 1)))) }) hit'.typeIs ?_)
  show wpAny _ _ (pure es[i].key) _ _ _
  exact wpAny_pure (wpAny_pure ⟨_, rfl, wpAny_pure (hQ _ hit' (Heap.SameBut.update ..))⟩)
theorem kit_end {it d : Addr} {ep : Nat} {od : Obj} {es : Array DictEntry} {Q : Option Value → Shared → Prop} (hh : A.handled = none) (hit : s.heap.IsKeyIter it d es.size es.size ep) (hod : s.heap.get? d = some od) (hdd : od.data = .dict es ep)
    (hQ : ∀ h', Heap.ExtBut it s.heap h' → Q none { s with heap := h' }) : wpAny (model prog w) A (pyNext (.ref it)) Q E s := by
  obtain ⟨o, ho, hc, hd⟩ := id hit
  unfold pyNext
  refine wpAny_bind (wpAny_attempt (wpAny_callSpecial?_slot (name := Str.ofString "__next__") hit.typeIs PySem.F.slot_dict_keyiterator_next
    (wpAny_call_entry PySem.F.slot_dict_keyiterator_next hit.typeIs PySem.F.entry_dict_keyiterator_next ?_ (PySem.F.args_dict_keyiterator_next_1 _))))
  refine wpAny_bind (wpAny_pure (wpAny_bind (wpAny_bind ?_)))
  first | refine wpAny_bind (wpAny_typeNameOfWhole_keyiter hit.typeIs (wpAny_pure ?_)) | refine wpAny_bind (wpAny_typeNameOf_keyiter hit.typeIs (wpAny_pure ?_))
  refine wpAny_bind (wpAny_fieldsOf ho hd ?_)
  simp only [show Builtin.Dict_items.ownsTuple "dict_keyiterator" = false from by decide, Bool.false_eq_true, if_false]
  show wpAny _ _ (if (Value.ref d == Value.none) = true then _ else _) _ _ s
  rw [if_neg (show ¬ ((Value.ref d == Value.none) = true) from Bool.false_ne_true)]
  refine wpAny_bind (wpAny_pure (wpAny_bind (wpAny_dictEntries hod hdd ?_)))
  rw [if_neg (by simp)]
  refine wpAny_bind (wpAny_pure (wpAny_bind (wpAny_dictEpoch hod hdd ?_)))
  rw [if_neg (by simp)]
  refine wpAny_pure ?_
  simp only [show ¬ (((es.size : Nat) : Int) < 0) from by omega, if_false, Int.toNat_natCast, Array.getElem?_eq_none (Nat.le_refl es.size)]
  refine wpAny_bind ?_
  first | refine wpAny_bind (wpAny_typeNameOfWhole_keyiter hit.typeIs (wpAny_pure ?_)) | refine wpAny_bind (wpAny_typeNameOf_keyiter hit.typeIs (wpAny_pure ?_))
  show wpAny _ _ (setField (.ref it) 0 .none >>= _) _ _ s
  refine wpAny_bind (wpAny_setField ho hd (by simp) ?_)
  show wpAny _ _ (newExc (.type "StopIteration") [] >>= _) _ _ _
  refine wpAny_bind ?_
  simp only [newExc, newTuple]
  refine wpAny_bind (wpAny_newObj_type ?_ (by size_fits))
  refine wpAny_bind (m := firstArgMember _ _) (wpAny_of_eq (a := Value.none) (by first | rfl | (simp only [firstArgMember]; rfl)) ?_)
  refine wpAny_newObj_type ?_ (by size_fits)
  simp only [raiseNew]
  refine wpAny_bind (wpAny_handled ?_)
  rw [show A.in1.handled = none from hh]
  refine wpAny_bind (wpAny_pure (wpAny_throw ?_))
  refine wpAny_bind (wpAny_isInstance (T := "StopIteration") (b := true) ⟨_, Heap.get?_push_size _ rfl, rfl⟩ isSubtype_stop ?_)
  exact wpAny_pure (hQ _ (((Heap.SameBut.update ..).extBut.push _).push _))
theorem walks_keys (hh : A.handled = none) (I d : Addr) (hne : d ≠ I) (es : Array DictEntry) (ep : Nat) :
    Walks prog w A I [I, d] [I] es.size (fun i v => ∃ h : i < es.size, v = es[i].key) (fun i h => h.IsKeyIter I d i es.size ep ∧ ∃ od, h.get? d = some od ∧ od.data = .dict es ep) where
  sub := fun b hb => by simp at hb; simp [hb]
  frame := fun _ _ _ st hk => ⟨let ⟨o, e, r⟩ := st.1; ⟨o, hk I (by simp) o e, r⟩, let ⟨od, e, r⟩ := st.2; ⟨od, hk d (by simp) od e, r⟩⟩
  item := fun i s Q E hi st hQ => by
    obtain ⟨hit, od, hod, hdd⟩ := st
    refine kit_item hit hod hdd hi fun h' hit' hs' => ?_
    exact hQ _ h' s.toks ⟨hi, rfl⟩ ⟨hit', od, hs'.extBut _ _ hne hod, hdd⟩ fun b o hb e => hs'.extBut b o (fun h => hb (by simp [h])) e
  done := fun s Q E st hQ => by
    obtain ⟨hit, od, hod, hdd⟩ := st
    exact kit_end hh hit hod hdd fun h' he' => hQ h' s.toks fun b o hb e => he' b o (fun h => hb (by simp [h])) e
  self := fun i s Q E st hQ => by
    refine wpAny_pyIter_slot st.1.typeIs PySem.F.slot_dict_keyiterator_iter (wpAny_call_entry PySem.F.slot_dict_keyiterator_iter st.1.typeIs PySem.F.entry_dict_keyiterator_iter ?_ (PySem.F.args_dict_keyiterator_iter_1 _))
    show wpAny _ _ (ret (.ref I)) _ _ s
    exact wpAny_pure ⟨_, rfl, "dict_keyiterator", _, st.1.typeIs, PySem.F.slot_dict_keyiterator_next.lookup, hQ⟩
end
theorem iter162 (w : World) : findIn (K01 w) (.ref 162) "__iter__" = some (some (.builtin "dict.__iter__")) := by kernel_rfl
theorem dict162 (w : World) : mroIn (K01 w) 162 (.type "dict") = some true := by kernel_rfl
theorem Ents.key {w : World} : ∀ {l : List DictEntry} {ks : List (Str × Addr)}, Ents w l ks → ∀ (i : Nat) (h : i < l.length), ∃ k a t, ks[i]? = some (k, a) ∧ l[i].key = .str k t
  | _, _, .nil, i, h => absurd h (Nat.not_lt_zero _)
  | _, _, .cons (k := k) (a := a) (t := t) r, 0, h => ⟨k, a, t, rfl, rfl⟩
  | _, _, .cons r, i + 1, h => by
    obtain ⟨k, a, t, e1, e2⟩ := r.key i (Nat.lt_of_succ_lt_succ h)
    exact ⟨k, a, t, e1, e2⟩
section
variable {w : World} {A : Around} {E : Value → Shared → Prop} {s : Shared} {S : Addr → Prop} {Fs : List Addr}
theorem iter_book (T : TopH w s.heap) {B bd : Addr} {ks : List (Str × Addr)} {o : Obj} (b : BookAt w s.heap B bd ks) (ed : s.heap.get? bd = some o) (sB : S B) : wpAny (model pw w) A (pyIter (.ref B)) (fun r s' => ItAs w Fs s S (ks.map fun e => .str e.1) r s') E s := by
  obtain ⟨l, ep, e, en⟩ := id b.at_
  have I : InstAt s.heap B ⟨.ref 162, some bd, .dict l.toArray ep, #[some (.type "list")]⟩ 162 (some o) := ⟨e, rfl, rfl, ed⟩
  refine iter_inst T.K I (iter162 w) PySem.F.slot_dict_iter (wpAny_call (codeAny_call_builtin PySem.F.slot_dict_iter.plain PySem.F.entry_dict_iter ?_))
  refine @check_slot (model pw w) _ _ s "dict.__iter__" "dict" "__iter__" (.ref B) [] [] _ (by decide +kernel) (by decide +kernel) (I.type.andThen (looks_mroIn T.K (dict162 w))) (PySem.F.args_dict_iter_1 _) ?_
  unfold Builtin.«dict.__iter__»
  refine wpAny_bind ?_
  unfold Builtin.Dict.dictSlotNone
  refine wpAny_bind (notOrd_book T.K e rfl ?_)
  show wpAny _ _ (pure (Value.ref B)) _ _ s
  refine wpAny_pure ?_
  show wpAny _ _ (Builtin.Dict.showsAll B >>= _) _ _ s
  unfold Builtin.Dict.showsAll
  rw [if_neg (by rw [sysMod_ne T.K e rfl]; exact Bool.false_ne_true)]
  refine wpAny_bind (wpAny_pure ?_)
  refine wpAny_bind (wpAny_dictEntries e rfl ?_)
  refine wpAny_bind (wpAny_dictEpoch e rfl ?_)
  refine wpAny_bind (wpAny_newObj_type (wpAny_pure ⟨"dict_keyiterator", _, ⟨_, Heap.get?_push_size _ rfl, rfl⟩, PySem.F.slot_dict_keyiterator_next.lookup, ?_⟩))
  have k : ∀ {o : Obj}, Le s.heap (s.heap.push o) := fun b o e => Heap.get?_push_of_some _ e
  have hne : B ≠ s.heap.objs.size := fun z => absurd (Heap.lt_size e) (by rw [z]; exact Nat.lt_irrefl _)
  have hlen : l.toArray.size = (ks.map fun e => D.str e.1).length := by rw [List.length_map, List.size_toArray]; exact en.len
  refine ⟨⟨s.heap.objs.size, [s.heap.objs.size, B], [s.heap.objs.size], fun i v => ∃ h : i < l.toArray.size, v = l.toArray[i].key, fun i h => h.IsKeyIter s.heap.objs.size B i l.toArray.size ep ∧ ∃ od, h.get? B = some od ∧ od.data = .dict l.toArray ep, rfl, fun A hA => ?_,
    ⟨⟨_, Heap.get?_push_size _ rfl, rfl, by simp [rawInt]⟩, _, k _ _ e, rfl⟩, fun b hb => ?_, .head _, fun b hb => .inl (by rw [List.mem_singleton.mp hb]; exact new_none _), fun _ _ st b hb => by rw [List.mem_singleton.mp hb]; obtain ⟨o, e, _⟩ := st.1; exact some_ne e, fun i u hu => ?_⟩, .of_kmu (.of_le k), _, _, rfl⟩
  · have cast : ∀ {n m : Nat} {P : Nat → Value → Prop} {St : Nat → Heap → Prop} {fp wr : List Addr} {I : Addr}, n = m → Walks pw w A I fp wr n P St → Walks pw w A I fp wr m P St := fun e x => e ▸ x
    exact cast hlen (walks_keys (prog := pw) (w := w) hA s.heap.objs.size B hne l.toArray ep)
  · rcases List.mem_cons.mp hb with rfl | hb
    · exact ⟨.inr (new_none _), some_ne (Heap.get?_push_size _ rfl)⟩
    · rcases List.mem_singleton.mp hb with rfl
      exact ⟨.inl sB, some_ne (k _ _ e)⟩
  · obtain ⟨h, rfl⟩ := hu
    obtain ⟨k', a, t, e1, e2⟩ := en.key i (by simpa using h)
    refine ⟨.str k', by rw [List.getElem?_map, e1]; rfl, ?_⟩
    rw [show l.toArray[i].key = .str k' t from by simpa using e2]
    exact .str _ _
theorem len162 (w : World) : findIn (K01 w) (.ref 162) "__len__" = some (some (.builtin "dict.__len__")) := by kernel_rfl
theorem len_book (T : TopH w s.heap) {B bd : Addr} {ks : List (Str × Addr)} {Q : Value → Shared → Prop} (b : BookAt w s.heap B bd ks) (hsz : ks.length ≤ 1000) (h : ∀ t tk, Q (.int ks.length t) { s with toks := tk }) : wpAny (model pw w) A (PySem.call (.builtin "len") [.ref B]) Q E s := by
  obtain ⟨l, ep, e, en⟩ := id b.at_
  have L0 : Looks (model pw w) s.heap (typeOf (.ref B)) (.ref 162) := (Looks.ld e).andThen .now
  have L : Looks (model pw w) s.heap (specialOf (.ref B) "__len__") (some (.builtin "dict.__len__")) := L0.andThen (looks_findIn T.K (len162 w))
  have hfit : (ks.length : Int) < 2 ^ 63 := by omega
  refine Calls.call_function_entry kind_len plain_len entry_len (args_len1 _) ?_
  unfold Builtin.«len»
  refine wpAny_bind (m := oneArg "len" _) (wpAny_pure ?_)
  refine wpAny_bind ?_
  unfold callSpecial?
  refine wpAny_bind (L.here (wpAny_holding ?_))
  rw [PySem.F.slot_dict_len.bind]
  refine wpAny_bind (wpAny_pure (wpAny_bind (wpAny_call (codeAny_call_builtin PySem.F.slot_dict_len.plain PySem.F.entry_dict_len ?_))))
  refine @check_slot (model pw w) _ _ s "dict.__len__" "dict" "__len__" (.ref B) [] [] _ (by decide +kernel) (by decide +kernel) (L0.andThen (looks_mroIn T.K (dict162 w))) (PySem.F.args_dict_len_1 _) ?_
  unfold Builtin.«dict.__len__»
  refine wpAny_bind ?_
  unfold Builtin.Dict.dictSlotNone
  refine wpAny_bind (notOrd_book T.K e rfl ?_)
  show wpAny _ _ (pure (Value.ref B)) _ _ s
  refine wpAny_pure ?_
  show wpAny _ _ (pure B >>= _) _ _ _
  refine wpAny_bind (wpAny_pure ?_)
  unfold dictSize
  refine wpAny_bind (wpAny_bind (wpAny_dictEntries e rfl (wpAny_pure ?_)))
  refine wpAny_bind (wpAny_pendingCount_other (sysMod_ne T.K e rfl) ?_)
  refine wpAny_bind (wpAny_mkInt (wpAny_pure ?_))
  show wpAny _ _ (pure _) _ _ _
  refine wpAny_pure ?_
  dsimp only
  refine wpAny_bind (wpAny_holding (wpAny_pure ?_))
  refine wpAny_bind (wpAny_letGo ?_)
  have hl : (l.toArray.size + 0 : Nat) = ks.length := by rw [List.size_toArray]; exact en.len
  have hli : (l.toArray.size : Int) + ((0 : Nat) : Int) = (ks.length : Int) := by omega
  rw [hli, if_neg (by omega), if_neg (by omega)]
  exact wpAny_bind (wpAny_mkInt (wpAny_pure ⟨_, rfl, h _ _⟩))
theorem hint_book (T : TopH w s.heap) {B bd : Addr} {ks : List (Str × Addr)} {Q : Bool → Shared → Prop} (b : BookAt w s.heap B bd ks) (hsz : ks.length ≤ 1000) (hQ : ∀ b s', Kp s s' → Q b s') : wpAny (model pw w) A (Builtin.List.listLengthHint (.ref B)) Q E s := by
  obtain ⟨l, ep, e, en⟩ := id b.at_
  have L0 : Looks (model pw w) s.heap (typeOf (.ref B)) (.ref 162) := (Looks.ld e).andThen .now
  have L1 : Looks (model pw w) s.heap (specialOf (.ref B) "__len__") (some (.builtin "dict.__len__")) := L0.andThen (looks_findIn T.K (len162 w))
  have L2 : Looks (model pw w) s.heap (isInstance (.ref B) (.type "dict")) true := L0.andThen (looks_mroIn T.K (dict162 w))
  unfold Builtin.List.listLengthHint
  refine wpAny_bind (L1.here ?_)
  dsimp only
  rw [show splitId "dict.__len__" = some ("dict", "__len__") from by decide +kernel]
  dsimp only
  refine wpAny_bind (L2.here ?_)
  simp only [Bool.not_true, Bool.false_eq_true, if_false]
  have fin : wpAny (model pw w) A (do
    let .ref _ ← typeOf (.ref B) | return false
    let some k ← asInt? (← PySem.call (.builtin "len") [.ref B]) | unsupported "internal:len-gave-no-int"
    return k != 0) Q E s := by
    refine wpAny_bind (L0.here ?_)
    dsimp only
    refine wpAny_bind (len_book T b hsz fun t tk => ?_)
    refine wpAny_bind (wpAny_of_eq (a := some (ks.length : Int)) (by rfl) ?_)
    exact wpAny_pure (hQ _ _ (Kp.tk s tk))
  first
    | (rw [if_pos (by decide +kernel)]; exact fin)
    | (rw [if_neg (by decide +kernel)]
       refine wpAny_ite_split (fun _ => ?_) (fun hab => absurd rfl hab)
       refine wpAny_bind (wpAny_rule (wpAny_bind (wpAny_attempt (len_book T b hsz fun t tk => ?_))))
       refine wpAny_bind (m := asInt? _) (wpAny_pure ?_)
       have htl : Builtin.List.listTooLong ((ks.length : Int).toNat) = false := by simp [Builtin.List.listTooLong, sizeLine]; omega
       exact wpAny_ite_split (fun hab => absurd hab (by rw [htl]; decide)) (fun _ => wpAny_pure (hQ _ _ (Kp.tk s tk))))
end
section
variable {w : World} {A : Around} {E : Value → Shared → Prop} {s : Shared}
theorem list_book (T : TopH w s.heap) (ok : OkA 105 A) {B bd : Addr} {ks : List (Str × Addr)} {o : Obj} (b : BookAt w s.heap B bd ks) (ed : s.heap.get? bd = some o) (hsz : ks.length ≤ 1000) :
    wpAny (model pw w) A (PySem.call (.type "list") [.ref B]) (fun r s' => (∃ L acc c, r = .ref L ∧ s.heap.get? L = none ∧ s'.heap.get? L = some (lstO acc c) ∧ RDs s'.heap (fun _ => False) acc.toList (ks.map fun e => .str e.1)) ∧ Kp s s') E s := by
  obtain ⟨l, ep, e, en⟩ := id b.at_
  have bk : ∀ {h : Heap}, Le s.heap h → BookAt w h B bd ks := fun k => ⟨l, ep, k _ _ e, en⟩
  have hsl : (1000 : Nat) ≤ sizeLine := by decide
  refine wpAny_mono (list_of (S := fun z => z = B) (ds := ks.map fun e => .str e.1) (tv := .ref 162) ok (fun h' k => (Looks.ld (k _ _ e)).andThen .now) (by decide) (by decide) (fun L hL => by
      have : L ≠ B := fun z => by rw [z, e] at hL; cases hL
      simp [Builtin.List.listSameRef, this])
    (fun A' s1 E' ok' k1 => iter_book (S := fun z => z = B) (T.mono k1.le) (bk k1.le) (k1.le _ _ ed) rfl)
    (fun A' s1 Q E' ok' k1 hQ => hint_book (T.mono k1.le) (bk k1.le) hsz hQ)
    (fun z o hz e' => by subst hz; rw [e] at e'; cases e'; exact fun q => nomatch q) (fun z hz => by subst hz; exact some_ne e) (by rw [List.length_map]; omega)) (fun v s' q => ?_) fun _ _ q => q
  obtain ⟨⟨L, acc, c, rfl, nL, eL, rL⟩, k⟩ := q
  refine ⟨⟨L, acc, c, rfl, nL, eL, ?_⟩, k⟩
  have : ∀ {ks : List (Str × Addr)} {vs : List Value} {S : Addr → Prop}, RDs s'.heap S vs (ks.map fun e => D.str e.1) → RDs s'.heap (fun _ => False) vs (ks.map fun e => D.str e.1) := by
    intro ks
    induction ks with
    | nil => intro vs S r; cases r; exact .nil
    | cons e ks ih =>
      intro vs S r
      cases r using RDs.consE with
      | cons r1 r2 => (first | cases r1 using RD.atomE | cases r1 using RDs.nilE | cases r1 using RD.strE | cases r1 using RD.intE | cases r1); exact .cons (.str _ _) (ih r2)
  exact this rL
end
theorem Frm.change {s₀ s s' : Shared} {env : Env} {m cm : Str → Option Value} (F : Frm s₀ env m cm s) (hs : ∃ h' tk, s' = { s with heap := h', toks := tk }) (hk : ∀ c o, s₀.heap.get? c ≠ none ∨ c = env.locals → s.heap.get? c = some o → s'.heap.get? c = some o) (nc : env.cells = []) : Frm s₀ env m cm s' := by
  obtain ⟨h1, t1, e1⟩ := F.eq
  refine ⟨?_, fun b o e => hk b o (.inl (some_ne e)) (F.keep b o e), F.ns.at' fun o e => hk _ o (.inr rfl) e, fun n c e => (by rw [nc] at e; cases e), F.newL, F.newC, F.apart⟩
  obtain ⟨h2, t2, rfl⟩ := hs
  rw [e1]
  exact ⟨h2, t2, rfl⟩
theorem BookSt.sub {w : World} {h : Heap} {B bd : Addr} {P P' : Addr → Prop} {bk : Bk} (x : BookSt w h B bd P bk) (k : ∀ a, P a → h.get? a ≠ none → P' a) : BookSt w h B bd P' bk :=
  ⟨x.book, fun e he => let ⟨its, hp, r⟩ := x.lst e he; ⟨its, hp, r.dom.sub fun a z => ⟨k a z.1.1 z.2, z.1.2⟩⟩, x.nd, x.ne, x.kd⟩
noncomputable def PF (s₀ : Shared) (env : Env) (I : Addr) (a : Addr) : Prop := s₀.heap.get? a = none ∧ a ≠ env.locals ∧ a ≠ I
structure BFr (w : World) (s₀ : Shared) (env : Env) (B bd I : Addr) (bk : Bk) (m cm : Str → Option Value) (s : Shared) : Prop where
  F : Frm s₀ env m cm s
  st : BookSt w s.heap B bd (PF s₀ env I) bk
  dk : s.heap.get? bd = some emptyD
  hB : B ≠ bd
  nB : s₀.heap.get? B = none ∧ B ≠ env.locals ∧ B ≠ I
  nbd : s₀.heap.get? bd = none ∧ bd ≠ env.locals ∧ bd ≠ I
  nl : ∀ e ∈ bk, s₀.heap.get? e.2.1 = none ∧ e.2.1 ≠ env.locals ∧ e.2.1 ≠ I
section
variable {w : World} {M : Model} {A : Around} {E : Value → Shared → Prop} {s₀ s : Shared} {env : Env} {B bd I : Addr} {bk : Bk} {m cm : Str → Option Value}
theorem BFr.kp {s' : Shared} (x : BFr w s₀ env B bd I bk m cm s) (k : Kp s s') : BFr w s₀ env B bd I bk m cm s' :=
  ⟨x.F.kp k, x.st.keep fun a o _ e => k.le a o e, k.le _ _ x.dk, x.hB, x.nB, x.nbd, x.nl⟩
theorem BFr.it {h' : Heap} (nc : env.cells = []) (tk : Nat) (x : BFr w s₀ env B bd I bk m cm s) (hs : Heap.ExtBut I s.heap h') (n0 : s₀.heap.get? I = none) (nL : I ≠ env.locals) : BFr w s₀ env B bd I bk m cm { s with heap := h', toks := tk } := by
  refine ⟨x.F.but tk hs n0 nL fun n c e => (by rw [nc] at e; cases e), x.st.keep fun a o hm e => hs a o ?_ e, hs _ _ x.nbd.2.2 x.dk, x.hB, x.nB, x.nbd, x.nl⟩
  rcases hm with (rfl | ⟨z, hz, rfl⟩) | hm
  · exact x.nB.2.2
  · exact (x.nl z hz).2.2
  · exact hm.2.2
theorem BFr.store {y : Str} {v : Value} {Q : Unit → Shared → Prop} (x : BFr w s₀ env B bd I bk m cm s) (hk : env.scope.kind = .function) (hl : env.kindOf y = some .local)
    (hQ : ∀ s', BFr w s₀ env B bd I bk (fun z => if z = y then some v else m z) cm s' → Heap.ExtBut env.locals s.heap s'.heap → Q () s') : wpAny M A (storeName env y v) Q E s := by
  refine x.F.storeL hk hl fun h' tk F' hs => hQ _ ⟨F', x.st.keep fun a o hm e => hs a o ?_ e, hs _ _ x.nbd.2.1 x.dk, x.hB, x.nB, x.nbd, x.nl⟩ hs
  rcases hm with (rfl | ⟨z, hz, rfl⟩) | hm
  · exact x.nB.2.1
  · exact (x.nl z hz).2.1
  · exact hm.2.1
theorem BFr.newI {J : Addr} (x : BFr w s₀ env B bd I bk m cm s) (hJ : s.heap.get? J = none) : BFr w s₀ env B bd J bk m cm s := by
  have lv : ∀ {a o}, s.heap.get? a = some o → a ≠ J := fun e z => by rw [z, hJ] at e; cases e
  obtain ⟨l, ep, e, en⟩ := x.st.book.at_
  refine ⟨x.F, x.st.sub fun a q ha => ⟨q.1, q.2.1, fun z => ha (z ▸ hJ)⟩, x.dk, x.hB, ⟨x.nB.1, x.nB.2.1, lv e⟩, ⟨x.nbd.1, x.nbd.2.1, lv x.dk⟩, fun z hz => ⟨(x.nl z hz).1, (x.nl z hz).2.1, ?_⟩⟩
  obtain ⟨its, ⟨n, hp⟩, _⟩ := x.st.lst z hz
  exact lv hp
end
theorem keep162 (w : World) : keepIn (K01 w) (.ref 162) = true := by kernel_rfl
section
variable {w : World} {A : Around} {E : Value → Shared → Prop} {s : Shared} {env : Env}
theorem ev_newBook (T : TopH w s.heap) (ok : OkA 100 A) {p1 p2 p3 : Pos} (vf : Var env s.heap "FreezableDefaultDict" (.ref 162)) (vl : Var env s.heap "list" (.type "list")) : wpAny (model pw w) A (eval (.Call (.Name "FreezableDefaultDict" p1) [.Name "list" p2] [] p3) env) (PostBook s) E s := by
  refine wpAny_Call_NameR (wpAny_Name (vf _ _ _ _ s (fun _ _ e => e) ?_) (by decide))
  refine callWith_of (P := fun h => (K01 w).In h) (by rfl) (keeps_K (keep162 w)) (Calls.evalArgs_plain (Calls.spliced_cons ?_))
  refine wpAny_Name (vl _ _ _ _ s (fun _ _ e => e) ?_) (by decide)
  exact Calls.spliced_nil ⟨T.K, mk_book T.K ok⟩
end
noncomputable def touchK (ks : List Str) (x : Str) : List Str := if ks.contains x = true then ks else ks ++ [x]
noncomputable def keysF (ts : List Th) : List Str := ts.foldl (fun ks t => touchK ks (writtenF t)) []
theorem keys_touch (bv : List (Str × List D)) (x : Str) : (touchV bv x).map (·.1) = touchK (bv.map (·.1)) x := by
  unfold touchV touchK
  split
  · rfl
  · simp
theorem keys_push (bv : List (Str × List D)) (x : Str) (y : D) : (pushV bv x y).map (·.1) = touchK (bv.map (·.1)) x := by
  rw [← keys_touch]
  unfold pushV
  rw [List.map_map]
  refine List.map_congr_left fun e _ => ?_
  simp only [Function.comp]
  split <;> rfl
structure GoodV (bv : List (Str × List D)) (n : Nat) : Prop where
  len : bv.length ≤ n
  vals : ∀ e ∈ bv, e.2.length ≤ n
theorem GoodV.touch {bv : List (Str × List D)} {n : Nat} (g : GoodV bv n) (x : Str) : (touchV bv x).length ≤ n + 1 ∧ ∀ e ∈ touchV bv x, e.2.length ≤ n := by
  unfold touchV
  split
  · exact ⟨Nat.le_succ_of_le g.len, g.vals⟩
  · refine ⟨by rw [List.length_append]; exact Nat.succ_le_succ g.len, fun e he => ?_⟩
    rcases List.mem_append.mp he with he | he
    · exact g.vals e he
    · rw [List.mem_singleton.mp he]; exact Nat.zero_le _
theorem GoodV.push {bv : List (Str × List D)} {n : Nat} (g : GoodV bv n) (x : Str) (v : D) : GoodV (pushV bv x v) (n + 1) := by
  have h := g.touch x
  unfold pushV
  refine ⟨by rw [List.length_map]; exact h.1, fun e' he' => ?_⟩
  obtain ⟨e, he, rfl⟩ := List.mem_map.mp he'
  have := h.2 e he
  split
  · simp only [List.length_append, List.length_cons, List.length_nil]; omega
  · omega
theorem GoodV.up {bv : List (Str × List D)} {n m : Nat} (g : GoodV bv n) (h : n ≤ m) : GoodV bv m := ⟨Nat.le_trans g.len h, fun e he => Nat.le_trans (g.vals e he) h⟩
noncomputable def svF (kind n : Nat) : SV :=
  if kind = 0 then .none else if kind = 1 then .th (thingF n) else if kind = 2 then .lst (thingsF n) else if kind = 3 then .tup (thingsF n) else if kind = 4 then .li (thingsF n) else .keys (keysF (thingsF n))
noncomputable abbrev envSe (N : Nat) : Env := callEnvC (fdOf "_law_setting" 16 285) N 286
noncomputable def se (i : Nat) : Stmt := (fbody (stOf 16)).getD i (.Pass default)
theorem se_body : fbody (stOf 16) = [se 0, se 1, se 2, se 3, se 4, se 5, se 6, se 7] := by rfl
theorem seCells {N : Nat} : (envSe N).cells = [] := rfl
section
variable {w : World} {A : Around} {E : Value → Shared → Prop} {s₀ s : Shared} {N : Nat} {B bd I : Addr} {bk : Bk} {m cm : Str → Option Value}
theorem shelf_turn (T : TopH w s₀.heap) (ok : OkA 106 A) (x : BFr w s₀ (envSe N) B bd I bk m cm s) {n : Nat} {tn : Tok} {u : Value} {t : Th} {S : Addr → Prop} {Q : Flow → Shared → Prop} (ms : m "shelf" = some (.ref B)) (mn : m "n" = some (.int n tn)) (mt : m "thing" = some u) (ru : RD s.heap S u t.d) (hsm : t.small) (g : GoodV (bkV bk) 100)
    (hI : s.heap.get? I ≠ none) {p1 p2 p3 p4 p5 p6 p7 p8 p9 : Pos} (l1 : (p6.endLine == p8.line) = true)
    (hQ : ∀ bk' s', BFr w s₀ (envSe N) B bd I bk' m cm s' → bkV bk' = pushV (bkV bk) (writtenF t) (.int n) → (∀ e ∈ bk', (∃ v, (e.1, e.2.1, v) ∈ bk) ∨ s.heap.get? e.2.1 = none) → (∀ c o, c ≠ B → (∀ e ∈ bk, e.2.1 ≠ c) → s.heap.get? c = some o → s'.heap.get? c = some o) → Q .next s') :
    wpAny (model pw w) A (exec (.Expr (.Call (.Attribute (.Subscript (.Name "shelf" p1) (.Call (.Name "_law_written" p2) [.Name "thing" p3] [] p4) p5) "append" p6) [.Name "n" p7] [] p8) p9) (envSe N)) Q E s := by
  have Ts := T.mono x.F.keep
  have hsl : (1000 : Nat) ≤ sizeLine := by decide
  have hbl : bk.length = (bkV bk).length := by unfold bkV; rw [List.length_map]
  have gl := g.len
  refine exec_bookAppend (Se := fun _ => False) (bn := "shelf") Ts (ok.weak (by decide)) (y := .int n) (x := writtenF t) (x.F.loc rfl (by rfl) ms) x.st x.dk x.hB (by omega)
    ((EvD.call (S := S) (Var.glob Ts rfl (by rfl) rfl (by kernel_rfl)) (isFn279 Ts) (.cons (EvD.name (x.F.loc rfl (by rfl) mt) ru) .nil rfl) (by simp) (written_spec Ts t hsm) (ok.weak (by decide))).flat rfl) (fun h' hx => ?_) (fun a h => h.elim) (fun a h => ⟨fresh_le x.F.keep h, fun z => x.F.lives (z ▸ h), fun z => hI (z ▸ h)⟩) (fun v hv => ?_) (fun bk' s' hb' hbv hn hs hk => ?_) (hline := l1)
  · exact EvD.name (Var.loc rfl (by rfl) (x.F.ns.at' fun o e => hx _ _ (Ne.symm x.nB.2.1) e) mn) (.int _ _)
  · exact Nat.le_trans ((g.touch (writtenF t)).2 (writtenF t, v) hv) (by omega)
  · refine hQ bk' s' ⟨x.F.change hs (fun c o hc e => hk c o ?_ (fun u hu => ?_) e) seCells, hb', hk _ _ (Ne.symm x.hB) (fun u hu => (x.st.ne u hu).2) x.dk, x.hB, x.nB, x.nbd, fun e he => ?_⟩ hbv hn hk
    · rcases hc with h | h
      · exact fun z => h (z ▸ x.nB.1)
      · exact fun z => x.nB.2.1 (z ▸ h)
    · rcases hc with h | h
      · exact fun z => h (z ▸ (x.nl u hu).1)
      · exact fun z => (x.nl u hu).2.1 (z.trans h)
    · rcases hn e he with ⟨v, h⟩ | h
      · exact x.nl (e.1, e.2.1, v) h
      · exact ⟨fresh_le x.F.keep h, fun z => x.F.lives (z ▸ h), fun z => hI (z ▸ h)⟩
end
theorem keysF_take {ts : List Th} {i : Nat} {t : Th} (h : ts[i]? = some t) : keysF (ts.take (i + 1)) = touchK (keysF (ts.take i)) (writtenF t) := by
  unfold keysF
  rw [take_succ h, List.foldl_append]
  rfl
theorem ents_keys (bk : Bk) : (bkV bk).map (·.1) = bk.map fun e => e.1 := by unfold bkV; rw [List.map_map]; rfl
theorem setting_spec {w : World} {A : Around} {s : Shared} (T : TopH w s.heap) (ok : OkA 108 A) (kind n : Nat) (tk tn : Tok) (hn : n < 2 ^ 29) :
    codeAny (model pw w) A (.call (.ref 286) ⟨[.int kind tk, .int n tn], []⟩) (fun r s' => ∃ v, r = .ok (.ret v) ∧ (svF kind n).At w s'.heap (fun a => s.heap.get? a = none) v ∧ Kp s s') s := by
  refine call_fn (binds := [("kind", .int kind tk), ("n", .int n tn)]) _ ok.room T (K_setting w) 285 rfl (by kernel_rfl) rfl (by rfl) rfl (fun y hy => ?_) fun s₁ X k => ?_
  · rcases List.mem_cons.mp hy with rfl | hy
    · exact .inl (by rfl)
    rcases List.mem_singleton.mp hy with rfl
    exact .inl (by rfl)
  have okA : OkA 107 (A.deeper (envSe s.heap.objs.size)) := ok.deeper _
  generalize hN : s.heap.objs.size = N at *
  generalize hA' : A.deeper (callEnvC (fdOf "_law_setting" 16 285) N 286) = A' at *
  have F := Frm.ofCall X
  refine wp_abs fun Q E hQ _ => ?_
  have R0 : RSt w s (envSe N) (fun _ => False) [] (fun _ => False) [("kind", .int kind tk, .int kind), ("n", .int n tn, .int n)] s₁ := RSt.ofFrm T F rfl KFs.nil (fun b hb => nomatch hb) (fun e he => by
      rcases List.mem_cons.mp he with rfl | he
      · exact .inl ⟨by rfl, by rfl⟩
      rcases List.mem_singleton.mp he with rfl
      exact .inl ⟨by rfl, by rfl⟩) (fun e he => by
      rcases List.mem_cons.mp he with rfl | he
      · exact .int _ _
      rcases List.mem_singleton.mp he with rfl
      exact .int _ _)
  show wpAny _ A' (execs (fbody (stOf 16)) _) _ _ _
  rw [se_body]
  have fin : ∀ {v : Value} {s' : Shared}, (svF kind n).At w s'.heap (fun a => s.heap.get? a = none) v → Kp s s' → Q (.ret v) s' := fun h k => hQ _ _ ⟨_, rfl, h, k⟩
  have bk : ∀ m : Nat, ((kind : Int) == (m : Int)) = decide (kind = m) := fun m => by rw [Bool.eq_iff_iff]; simp only [beq_iff_eq, decide_eq_true_eq]; omega
  have tk0 : ∀ {s' : Shared} {q1 q2 q3 : Pos} (m : Nat), RSt w s (envSe N) (fun _ => False) [] (fun _ => False) [("kind", .int kind tk, .int kind), ("n", .int n tn, .int n)] s' → EvT pw w A' (envSe N) s'.heap (.Compare (.Name "kind" q1) [.Eq] [.Constant (.int m) 0 q2] q3) (decide (kind = m)) := fun m R =>
    EvT.congr (EvT.cmp (R.ev (.head _)) (EvD.cint (x := (m : Int))) CmpD.eqI) (bk m)
  have thg : ∀ {s' : Shared} {q1 q2 q3 : Pos} {S' : Addr → Prop}, RSt w s (envSe N) (fun _ => False) [] (fun _ => False) [("kind", .int kind tk, .int kind), ("n", .int n tn, .int n)] s' → EvD pw w A' (envSe N) s'.heap S' (.Call (.Name "_law_thing" q1) [.Name "n" q2] [] q3) (thingF n).d := fun R =>
    EvD.call (Var.glob R.T rfl (by rfl) rfl (by kernel_rfl)) (isFn267 R.T) (.cons (EvD.name (R.var (.tail _ (.head _))) (.int _ _)) .nil rfl) (by simp) (thing_spec R.T n (by omega)) (okA.weak (by decide))
  have tgs : ∀ {s' : Shared} {q1 q2 q3 : Pos} {S' : Addr → Prop}, RSt w s (envSe N) (fun _ => False) [] (fun _ => False) [("kind", .int kind tk, .int kind), ("n", .int n tn, .int n)] s' → EvD pw w A' (envSe N) s'.heap S' (.Call (.Name "_law_things" q1) [.Name "n" q2] [] q3) (.lst ((thingsF n).map Th.d)) := fun R =>
    EvD.call (Var.glob R.T rfl (by rfl) rfl (by kernel_rfl)) (isFn272 R.T) (.cons (EvD.name (R.var (.tail _ (.head _))) (.int _ _)) .nil rfl) (by simp) (things_spec R.T n hn) (okA.weak (by decide))
  have hsl : (1000 : Nat) ≤ sizeLine := by decide
  have hln := things_len n
  refine wpAny_execs_cons (R0.if_ (tk0 0 R0) fun s2 R2 k2 => ?_)
  by_cases c0 : kind = 0
  · rw [decide_eq_true c0, if_pos rfl]
    have h0 : (svF kind n).At w s2.heap (fun a => s.heap.get? a = none) .none := by
      unfold svF
      rw [if_pos c0]
      rfl
    exact wpAny_execs_cons (wpAny_Return_some (by rw [eval_Constant]; exact wpAny_pure (fin h0 R2.kpAll)))
  rw [decide_eq_false c0, if_neg (by decide)]
  refine wpAny_execs_nil (wpAny_execs_cons (R2.if_ (tk0 1 R2) fun s3 R3 k3 => ?_))
  by_cases c1 : kind = 1
  · rw [decide_eq_true c1, if_pos rfl]
    refine R3.ret (thg R3) fun v s' r k => fin ?_ k
    unfold svF
    rw [if_neg c0, if_pos c1]
    exact r.sub fun a z => z.elim False.elim id
  rw [decide_eq_false c1, if_neg (by decide)]
  refine wpAny_execs_nil (wpAny_execs_cons (R3.if_ (tk0 2 R3) fun s4 R4 k4 => ?_))
  by_cases c2 : kind = 2
  · rw [decide_eq_true c2, if_pos rfl]
    refine R4.ret (tgs R4) fun v s' r k => fin ?_ k
    unfold svF
    rw [if_neg c0, if_neg c1, if_pos c2]
    exact r.sub fun a z => z.elim False.elim id
  rw [decide_eq_false c2, if_neg (by decide)]
  refine wpAny_execs_nil (wpAny_execs_cons (R4.if_ (tk0 3 R4) fun s5 R5 k5 => ?_))
  by_cases c3 : kind = 3
  · rw [decide_eq_true c3, if_pos rfl]
    have ct : CallD pw w A' s5.heap (.type "tuple") [.lst ((thingsF n).map Th.d)] (.tup ((thingsF n).map Th.d)) := fun s6 S6 vs E6 hs6 r6 => by
      cases r6 using RDs.consE with
      | cons r1 r2 =>
      cases r2 using RDs.nilE
      cases r1 using RD.lstE with
      | lst sa ea ca da ra =>
      rename_i a o vs n'
      refine call_tuple_list ⟨o, ea, ca, n', da⟩ (fun h' hk => ?_) (by rw [← Array.length_toList, ra.length, List.length_map]; omega)
      have kk : Le s6.heap (h'.push { cls := .type "tuple", data := .seq vs }) := fun b o e => Heap.get?_push_of_some _ (hk b o e)
      exact ⟨.tup (.inr (fresh_le hk (new_none _))) (Heap.get?_push_size _ rfl) rfl rfl ((ra.le kk).sub fun _ z => .inl z), Kp.of' kk⟩
    refine R5.ret (EvD.callT (x := "tuple") (T := "tuple") (Var.bi R5.T rfl (by rfl) rfl rfl (by kernel_rfl) (by decide) (by rfl)) (.cons (tgs R5) .nil rfl) (by simp) ct) fun v s' r k => fin ?_ k
    unfold svF
    rw [if_neg c0, if_neg c1, if_neg c2, if_pos c3]
    exact r.sub fun a z => z.elim False.elim id
  rw [decide_eq_false c3, if_neg (by decide)]
  refine wpAny_execs_nil (wpAny_execs_cons (R5.if_ (tk0 4 R5) fun s6 R6 k6 => ?_))
  by_cases c4 : kind = 4
  · rw [decide_eq_true c4, if_pos rfl]
    refine wpAny_execs_cons (wpAny_Return_some (wpAny_Call_NameR (wpAny_Name (Var.bi R6.T rfl (by rfl) rfl rfl (by kernel_rfl) (v := .builtin "iter") (by decide) (by rfl) _ _ _ _ s6 (fun _ _ e => e) ?_) (by decide))))
    refine Calls.callWith_builtin (by rfl) (Calls.evalArgs_plain (Calls.spliced_cons (wpAny_mono ((tgs (S' := fun _ => False) R6) s6 _ fun _ _ e => e) (fun v s7 h7 => Calls.spliced_nil ?_) fun _ _ q => q)))
    obtain ⟨r7, k7⟩ := h7
    cases r7 using RD.lstE with
    | lst sa ea ca da ra =>
    rename_i L o vs n'
    refine call_iterB (wpAny_pyIter_list ⟨o, ea, ca, n', da⟩ ?_)
    have k8 : Le s7.heap (s7.heap.push { cls := .type "list_iterator", data := .fields #[.ref L, .int 0 0] }) := fun b o e => Heap.get?_push_of_some _ e
    have k06 := R6.kpAll.tr k7
    have n8 : s7.heap.get? s7.heap.objs.size = none := new_none _
    refine fin ?_ (k06.tr (Kp.of' k8))
    unfold svF
    rw [if_neg c0, if_neg c1, if_neg c2, if_neg c3, if_pos c4]
    refine ⟨s7.heap.objs.size, L, vs, rfl, ⟨_, Heap.get?_push_size _ rfl, rfl, rfl⟩, ⟨o, k8 _ _ ea, ca, n', da⟩, fresh_le k06.le n8, ?_, fun z => ?_, (ra.dom.le k8).sub fun a z => ⟨?_, fun q => z.2 (q ▸ n8)⟩⟩
    · exact sa.elim False.elim fun z => fresh_le R6.kpAll.le z
    · rw [z, n8] at ea; cases ea
    · exact z.1.elim False.elim fun q => fresh_le R6.kpAll.le q
  rw [decide_eq_false c4, if_neg (by decide)]
  refine wpAny_execs_nil ?_
  have k16 : Kp s₁ s6 := k2.tr (k3.tr (k4.tr (k5.tr k6)))
  have F6 := F.kp k16
  have T6 := R6.T
  have alive85 : s.heap.get? 85 ≠ none := some_ne (T.K _ _ (K_85 w))
  refine wpAny_execs_cons (wpAny_Assign_Name (wpAny_mono (ev_newBook T6 (okA.weak (by decide)) (Var.glob T6 rfl (by rfl) rfl (by kernel_rfl)) (Var.bi T6 rfl (by rfl) rfl rfl (by kernel_rfl) (by decide) (by rfl))) (fun v s7 P => ?_) fun _ _ q => q) (by rfl))
  obtain ⟨B, bd, rfl, eB, ebd, nB, nbd, hlt, k7⟩ := P
  have F7 := F6.kp k7
  refine F7.storeL rfl (by rfl) fun h8 t8 F8 x8 => ?_
  have nB0 : s.heap.get? B = none := fresh_le F6.keep nB
  have nbd0 : s.heap.get? bd = none := fresh_le F6.keep nbd
  have nBL : B ≠ (envSe N).locals := fun z => F6.lives (z ▸ nB)
  have nbdL : bd ≠ (envSe N).locals := fun z => F6.lives (z ▸ nbd)
  have hBb : B ≠ bd := Nat.ne_of_gt hlt
  have X8 : BFr w s (envSe N) B bd 85 [] _ _ { s7 with heap := h8, toks := t8 } := ⟨F8, ⟨⟨[], 0, x8 _ _ nBL eB, .nil⟩, fun e he => (nomatch he), List.nodup_nil, fun e he => (nomatch he), List.nodup_nil⟩, x8 _ _ nbdL ebd, hBb, ⟨nB0, nBL, fun z => alive85 (z ▸ nB0)⟩, ⟨nbd0, nbdL, fun z => alive85 (z ▸ nbd0)⟩, fun e he => (nomatch he)⟩
  have ms : (fun y => if y = ("shelf" : Str) then some (Value.ref B) else bindL (envSe N).kindOf [("kind", .int kind tk), ("n", .int n tn)] (fun _ => none) y) "shelf" = some (.ref B) := by rfl
  have mn : (fun y => if y = ("shelf" : Str) then some (Value.ref B) else bindL (envSe N).kindOf [("kind", .int kind tk), ("n", .int n tn)] (fun _ => none) y) "n" = some (.int n tn) := by rfl
  generalize (fun y => if y = ("shelf" : Str) then some (Value.ref B) else bindL (envSe N).kindOf [("kind", .int kind tk), ("n", .int n tn)] (fun _ => none) y) = m8 at *
  generalize bindC (envSe N).kindOf [("kind", .int kind tk), ("n", .int n tn)] (fun _ => none) = cm0 at *
  generalize hs8 : ({ s7 with heap := h8, toks := t8 } : Shared) = s8 at *
  have T8 := T.mono X8.F.keep
  refine wpAny_execs_cons (wpAny_For (wpAny_mono ((EvD.call (S := fun _ => False) (Var.glob T8 rfl (by rfl) rfl (by kernel_rfl)) (isFn272 T8) (.cons (EvD.name (X8.F.loc rfl (by rfl) mn) (.int _ _)) .nil rfl) (by simp) (things_spec T8 n hn) (okA.weak (by decide))) s8 _ fun _ _ e => e) (fun lv s9 h9 => ?_) fun _ _ q => q) (fun _ => rfl))
  obtain ⟨r9, k9⟩ := h9
  have X9 := X8.kp k9
  cases r9 using RD.lstE with
  | lst sl el cl dl rl =>
  rename_i l ol vl nl
  have nl8 : s8.heap.get? l = none := sl.elim False.elim id
  have nI0 : s.heap.get? s9.heap.objs.size = none := fresh_le X9.F.keep (new_none _)
  have nIL : s9.heap.objs.size ≠ (envSe N).locals := fun z => X9.F.lives (z ▸ new_none _)
  refine for_list2 (A := A') (xs := (thingsF n).map Th.d) (S0 := fun z => s8.heap.get? z = none ∧ s9.heap.get? z ≠ none) okA.hd ⟨_, el, cl, _, dl⟩ (rl.dom.sub fun a z => ⟨z.1.elim False.elim id, z.2⟩)
    (fun c => c = (envSe N).locals ∨ c = B ∨ (s9.heap.get? c = none ∧ c ≠ s9.heap.objs.size)) (fun z => ?_) (fun z q r => ?_) (fun z => ?_)
    (fun d hd => ⟨_, .name⟩) (fun I i s' => ∃ bk m, BFr w s (envSe N) B bd I bk m cm0 s' ∧ m "shelf" = some (.ref B) ∧ m "n" = some (.int n tn) ∧ (bkV bk).map (·.1) = keysF ((thingsF n).take i) ∧ GoodV (bkV bk) i ∧ ∀ e ∈ bk, s9.heap.get? e.2.1 = none ∧ e.2.1 ≠ s9.heap.objs.size) ?_ ?_ ?_ ?_
  · rcases z with z | z | z
    · exact X8.F.lives (z ▸ nl8)
    · exact absurd (z ▸ nl8) (by obtain ⟨l', ep, e, _⟩ := X8.st.book.at_; exact some_ne e)
    · exact absurd z.1 (some_ne el)
  · rcases r with r | r | r
    · exact X8.F.lives (r ▸ q.1)
    · exact absurd (r ▸ q.1) (by obtain ⟨l', ep, e, _⟩ := X8.st.book.at_; exact some_ne e)
    · exact q.2 r.1
  · rcases z with z | z | z
    · exact nIL z
    · exact absurd (z ▸ new_none s9.heap) (by obtain ⟨l', ep, e, _⟩ := X9.st.book.at_; exact some_ne e)
    · exact z.2 rfl
  · intro h' k'
    exact ⟨[], m8, (X9.newI (new_none _)).kp (Kp.of' k'), ms, mn, rfl, ⟨Nat.le_refl _, fun e he => (nomatch he)⟩, fun e he => (nomatch he)⟩
  · rintro i s' h' t' ⟨bk', m', x', h1, h2, h3, h4, h5⟩ hs'
    exact ⟨bk', m', x'.it seCells t' hs' nI0 nIL, h1, h2, h3, h4, h5⟩
  · rintro i d v s' hi ⟨bk', m', x', h1, h2, h3, h4, h5⟩ rv kb hI E'
    obtain ⟨t, ht, rfl⟩ := map_at hi
    have hil : i < 3 := Nat.lt_of_lt_of_le (List.getElem?_eq_some_iff.mp ht).1 hln
    refine wpAny_assign_Name (x'.store rfl (by rfl) fun s2' x2 e2 => ?_)
    have nvL : ∀ a, (s8.heap.get? a = none ∧ s9.heap.get? a ≠ none) ∧ s9.heap.get? a ≠ none → a ≠ (envSe N).locals := fun a z q => X8.F.lives (q ▸ z.1.1)
    have hI2 : s2'.heap.get? s9.heap.objs.size ≠ none := by
      cases e : s'.heap.get? s9.heap.objs.size with
      | none => exact absurd e hI
      | some o => exact some_ne (e2 _ _ nIL e)
    refine wpAny_execs_cons (shelf_turn T (okA.weak (by decide)) x2 (upd_ne h1 (by decide)) (upd_ne h2 (by decide)) upd_eq (rv.but e2 fun z => nvL _ z rfl) (things_small n hn t (List.mem_of_getElem? ht)) (h4.up (by omega)) hI2 (by rfl) fun bk2 s3' x3 hv3 hn3 hk3 => ?_)
    have h5' : ∀ e ∈ bk2, s9.heap.get? e.2.1 = none ∧ e.2.1 ≠ s9.heap.objs.size := fun e he => by
      rcases hn3 e he with ⟨v', h⟩ | h
      · exact h5 (e.1, e.2.1, v') h
      · refine ⟨?_, fun z => hI2 (z ▸ h)⟩
        cases q : s9.heap.get? e.2.1 with
        | none => rfl
        | some o =>
          by_cases q1 : e.2.1 = (envSe N).locals
          · exact absurd h (q1 ▸ x2.F.lives)
          by_cases q2 : e.2.1 = B
          · obtain ⟨l', ep, e', _⟩ := x2.st.book.at_
            rw [q2, e'] at h; cases h
          · have := e2 _ _ q1 (kb _ _ (fun z => z.elim q1 fun z => z.elim q2 fun z => by rw [z.1] at q; cases q) q)
            rw [h] at this; cases this
    refine wpAny_execs_nil ⟨.inl rfl, ⟨bk2, _, x3, upd_ne h1 (by decide), upd_ne h2 (by decide), ?_, ?_, h5'⟩, fun c o hc e => ?_⟩
    · rw [hv3, keys_push, h3, keysF_take ht]
    · rw [hv3]; exact h4.push _ _
    · refine hk3 c o (fun z => hc (.inr (.inl z))) (fun u hu z => hc (.inr (.inr ?_))) (e2 c o (fun z => hc (.inl z)) e)
      exact z ▸ h5 u hu
  · rintro s10 ⟨bk', m', x', h1, h2, h3, h4, h5⟩ kk
    rw [List.length_map, List.take_length] at h3
    have T10 := T.mono x'.F.keep
    obtain ⟨lB, epB, eB10, enB⟩ := id x'.st.book.at_
    have hat : (svF kind n).At w s10.heap (fun a => s.heap.get? a = none) (.ref B) := by
      unfold svF
      rw [if_neg c0, if_neg c1, if_neg c2, if_neg c3, if_neg c4]
      refine ⟨B, rfl, ⟨bd, _, _, eB10, x'.dk⟩, fun A2 s11 E2 Fs2 ok2 T11 k11 => ?_⟩
      have e1 : (keysF (thingsF n)).map D.str = (ksOf bk').map fun e => D.str e.1 := by
        rw [← h3, ents_keys, List.map_map, List.map_map]
        rfl
      rw [e1]
      exact iter_book T11 ⟨lB, epB, k11 _ _ eB10, enB⟩ (k11 _ _ x'.dk) nB0
    exact wpAny_execs_cons (wpAny_Return_some (wpAny_Name (x'.F.loc rfl (by rfl) h1 _ _ _ _ s10 (fun _ _ e => e) (fin hat x'.F.kpAll)) (by decide)))
end Mine
end
section
open PySem PySem.W PyProof.Rows PySem.Calls
namespace Mine
noncomputable def namesS : List Str := ["a", "b", "c"]
noncomputable def plainAll : List Str := texts4 ++ (["g", "o", "-", "b"] : List Str) ++ (List.range 80).map intS
noncomputable def pairAll : List Str := texts4.flatMap fun a => texts4.map fun b => (a ++ (" = " : Str) ++ b : Str)
noncomputable def writtenAll : List Str := plainAll ++ pairAll
noncomputable def parsedV (x : Str) : Str := Txt.strip (" " ++ x ++ " ")
noncomputable def hasEq (x : Str) : Bool := !(Builtin.Str.occurrences x "=" 0 x.length 1).isEmpty
noncomputable def lineS (name x : Str) : Str := name ++ " = " ++ x ++ " "
noncomputable def valueT (pv : Str) : Th := if hasEq pv = true then (match Txt.splitMax pv "=" 1 with | [p, q] => .p (Txt.strip p) (Txt.strip q) | _ => .s pv) else .s pv
theorem facts1 : ∀ name ∈ namesS, ∀ x ∈ writtenAll, Txt.splitMax (lineS name x) "=" 1 = [name ++ " ", " " ++ x ++ " "] ∧ Txt.strip (name ++ " ") = name ∧ (lineS name x).length ≤ 100 := by decide +kernel
theorem facts2 : ∀ x ∈ writtenAll, (parsedV x).length ≤ 100 ∧ (hasEq (parsedV x) = true → ∃ p q, Txt.splitMax (parsedV x) "=" 1 = [p, q] ∧ p.length ≤ 100 ∧ q.length ≤ 100) := by
  have : ∀ x ∈ writtenAll, ((parsedV x).length ≤ 100 ∧ (hasEq (parsedV x) = true → (match Txt.splitMax (parsedV x) "=" 1 with | [p, q] => decide (p.length ≤ 100) && decide (q.length ≤ 100) | _ => false) = true)) := by decide +kernel
  intro x hx
  obtain ⟨h1, h2⟩ := this x hx
  refine ⟨h1, fun he => ?_⟩
  have h3 := h2 he
  split at h3
  · rename_i p q e
    simp only [Bool.and_eq_true, decide_eq_true_eq] at h3
    exact ⟨p, q, e, h3.1, h3.2⟩
  · cases h3
theorem facts3 : ∀ a ∈ plainAll, valueT (parsedV a) = .s a := by decide +kernel
theorem facts4 : ∀ a ∈ texts4, ∀ b ∈ texts4, valueT (parsedV (a ++ " = " ++ b)) = .p a b := by decide +kernel
end Mine
end
section
open PySem PySem.W PyProof.Rows PySem.Calls
namespace Mine
open PySem (eval)
noncomputable def pairD (l : Str × Str) : D := .pr [.str l.1, .str l.2]
section
variable {w : World} {A : Around} {env : Env} {h : Heap} {S : Addr → Prop}
theorem EvD.parse (T : TopH w h) (ok : OkA 103 A) {e : Expr} {p0 ap cp : Pos} {x p q : Str} (vp : Var env h "Pair" (.ref 257)) (ev : EvD pw w A env h S e (.str x)) (hsp : Txt.splitMax x "=" 1 = [p, q]) (hsz : x.length ≤ 1000) (hp : p.length ≤ 1000) (hq : q.length ≤ 1000)
    (hn : isStar e = false := by rfl) (hline : (ap.endLine == cp.line) = true := by rfl) : EvD pw w A env h S (.Call (.Attribute (.Name "Pair" p0) "parse" ap) [e] [] cp) (pairD (Txt.strip p, Txt.strip q)) := fun s E hs => by
  have hsl : (1000 : Nat) ≤ sizeLine := by decide
  refine wpAny_mono (ev_parse (T.mono hs) ok (vp.mono hs) ((ev.mono hs).flat rfl) hsp (by omega) (by omega) (by omega) hn hline) (fun v s' h1 => ?_) fun _ _ q => q
  obtain ⟨a, d, tx, ty, n, rfl, ha, hd, ha0, hd0, k⟩ := h1
  exact ⟨.pr (.inr ha0) (.inr hd0) ha hd (.cons (.str _ _) (.cons (.str _ _) .nil)), k⟩
theorem EvT.inS {e f : Expr} {pos : Pos} {x y : Str} (a : EvD pw w A env h S e (.str y)) (b : EvD pw w A env h S f (.str x)) (hm : behindInMarks .In f = false := by with_unfolding_all rfl) :
    EvT pw w A env h (.Compare e [.In] [f] pos) (!(Builtin.Str.occurrences x y 0 x.length 1).isEmpty) :=
  EvT.cmp a b (fun s S' u v E ru rv => by
    cases ru using RD.strE
    cases rv using RD.strE
    exact PyProof.Rows.in_str ⟨rfl, Kp.refl s⟩) hm
theorem EvD.value (T : TopH w h) (ok : OkA 104 A) {u : Value} {nm x : Str} {p1 p2 p3 p4 p5 p6 p7 p8 p9 p10 p11 p12 : Pos} (vp : Var env h "Pair" (.ref 257)) (vu : Var env h "pair" u) (r : RD h S u (pairD (nm, parsedV x))) (hx : x ∈ writtenAll) (l1 : (p4.endLine == p7.line) = true := by rfl) :
    EvD pw w A env h S (.IfExp (.Compare (.Constant (.str "=") 0 p1) [.In] [.Attribute (.Name "pair" p2) "value" p3] p12)
      (.Call (.Attribute (.Name "Pair" p5) "parse" p4) [.Attribute (.Name "pair" p6) "value" p8] [] p7) (.Attribute (.Name "pair" p9) "value" p10) p11) (valueT (parsedV x)).d := by
  have h2 := facts2 x hx
  have pv : ∀ {q1 q2 : Pos}, EvD pw w A env h S (.Attribute (.Name "pair" q1) "value" q2) (.str (parsedV x)) := EvD.pvalue T ok vu r
  refine EvD.ifExp (EvT.inS EvD.cstr pv) (fun he => ?_) fun he => ?_
  · obtain ⟨p, q, e, hp, hq⟩ := h2.2 he
    have e2 : (valueT (parsedV x)).d = pairD (Txt.strip p, Txt.strip q) := by
      unfold valueT
      rw [if_pos (show hasEq (parsedV x) = true from he), e]
      rfl
    rw [e2]
    exact EvD.parse T (ok.weak (by decide)) vp pv e (by omega) (by omega) (by omega) rfl l1
  · have e2 : (valueT (parsedV x)).d = .str (parsedV x) := by
      unfold valueT
      rw [if_neg (by rw [show hasEq (parsedV x) = false from he]; decide)]
      rfl
    rw [e2]
    exact pv
theorem EvD.line (T : TopH w h) (ok : OkA 105 A) {nm x : Str} {e : Expr} {q1 q2 q3 q4 q5 q6 q7 q8 q9 : Pos} (vp : Var env h "Pair" (.ref 257)) (en : EvD pw w A env h S (.Name "name" q1) (.str nm)) (ew : EvD pw w A env h S e (.str x)) (hn : nm ∈ namesS) (hx : x ∈ writtenAll) (l1 : (q3.endLine == q4.line) = true := by rfl) :
    EvD pw w A env h S (.Call (.Attribute (.Name "Pair" q2) "parse" q3) [.BinOp (.BinOp (.BinOp (.Name "name" q1) .Add (.Constant (.str " = ") 0 q5) q6) .Add e q7) .Add (.Constant (.str " ") 0 q8) q9] [] q4) (pairD (nm, parsedV x)) := by
  have h1 := facts1 nm hn x hx
  have hsl : (1000 : Nat) ≤ sizeLine := by decide
  have hl : (nm ++ " = " ++ x ++ " " : Str).length ≤ 100 := h1.2.2
  have hl2 : (nm ++ " = " ++ x ++ " " : Str).length = (nm ++ " = " ++ x : Str).length + 1 := Str.length_append ..
  have hl3 : (nm ++ " = " ++ x : Str).length = (nm ++ " = " : Str).length + x.length := Str.length_append ..
  have hl4 : (nm ++ " = " : Str).length = nm.length + 3 := Str.length_append ..
  have e0 : pairD (nm, parsedV x) = pairD (Txt.strip (nm ++ " "), Txt.strip (" " ++ x ++ " ")) := by rw [h1.2.1]; rfl
  rw [e0]
  refine EvD.parse T (ok.weak (by decide)) vp (x := lineS nm x) (EvD.bin (EvD.bin (EvD.bin en EvD.cstr (BinD.addS (by show nm.length + 3 ≤ sizeLine; omega))) ew (BinD.addS (by omega))) EvD.cstr (BinD.addS (by show (nm ++ " = " ++ x : Str).length + 1 ≤ sizeLine; omega))) h1.1 (Nat.le_trans h1.2.2 (by decide)) ?_ ?_ rfl l1
  · rw [Str.length_append]; show nm.length + 1 ≤ 1000; omega
  · rw [Str.length_append, Str.length_append]; show 1 + x.length + 1 ≤ 1000; omega
end
structure Around1 (w : World) (h : Heap) (outer : List Env) : Prop where
  ok : OuterOk h outer
  ns : ∀ b ∈ framesOf outer, ∃ ml, h.Ns b ml
  kf : KFs w (framesOf outer)
theorem Around1.slots {w : World} {h h' : Heap} {outer : List Env} (x : Around1 w h outer) (k : ∀ b ∈ framesOf outer, ∀ o, h.get? b = some o → ∃ sl, h'.get? b = some { o with slots := sl }) : Around1 w h' outer := by
  refine ⟨fun env he => ?_, fun b hb => ?_, x.kf⟩
  · obtain ⟨hk, L, o, hf, ho, hd⟩ := x.ok env he
    obtain ⟨sl, q⟩ := k _ (List.mem_filterMap.mpr ⟨env, he, hf⟩) _ ho
    exact ⟨hk, L, _, hf, q, hd⟩
  · obtain ⟨ml, o, es, ep, e, hd, r⟩ := x.ns b hb
    obtain ⟨sl, q⟩ := k b hb o e
    exact ⟨ml, _, es, ep, q, hd, r⟩
theorem Around1.alive {w : World} {h : Heap} {outer : List Env} (x : Around1 w h outer) {b : Addr} (hb : b ∈ framesOf outer) : h.get? b ≠ none := by
  obtain ⟨ml, o, es, ep, e, hd, r⟩ := x.ns b hb; exact some_ne e
theorem Around1.dict {w : World} {h : Heap} {outer : List Env} (x : Around1 w h outer) {b : Addr} (hb : b ∈ framesOf outer) : ∃ o es n, h.get? b = some o ∧ o.data = .dict es n := by
  obtain ⟨ml, o, es, ep, e, hd, r⟩ := x.ns b hb; exact ⟨o, es, ep, e, hd⟩
section
variable {w : World} {M : Model} {A : Around} {E : Value → Shared → Prop} {s₀ s s' : Shared} {env : Env} {S0 : Addr → Prop} {outer : List Env} {Fs : List Addr} {X X' : Addr → Prop} {ρ ρ' : Rho} {x : Str} {v : Value} {d : D}
theorem RSt.around (R : RSt w s₀ env S0 (framesOf outer) X ρ s) (x : Around1 w s₀.heap outer) : Around1 w s.heap outer := x.slots fun b hb o e => (R.kf b o id e).1 hb
theorem RSt.stab (R : RSt w s₀ env S0 Fs X ρ s) (r : RD s₀.heap (fun a => S0 a ∧ a ∉ Fs) v d) (hX : ∀ a, X' a → s₀.heap.get? a = none) : RD s.heap (OkF s₀ env S0 Fs X') v d :=
  r.dom.mono (fun a o h e => (R.kf a o id e).2 h.1.2) fun a h => ⟨.inl h.1.1, fun z => h.2 (R.newO a z), h.1.2, fun z => h.2 (hX a z)⟩
theorem RSt.stand (R : RSt w s₀ env S0 Fs X ρ s) {a : Addr} {o : Obj} (e : s₀.heap.get? a = some o) (h : a ∉ Fs) : s.heap.get? a = some o := (R.kf a o id e).2 h
theorem RSt.go (R : RSt w s₀ env S0 Fs X ρ s) (k : KFr (fun a => Own env a ∨ X a) Fs s.heap s'.heap) (sh : ∃ h' tk, s' = { s with heap := h', toks := tk })
    (frm : ∃ m cm, s'.heap.Ns env.locals m ∧ (∀ n c, env.cells.lookup n = some c → s'.heap.IsCell c (cm n)) ∧ ∀ e ∈ ρ', HereE env m cm e.1 e.2.1)
    (rd : ∀ e ∈ ρ', RD s'.heap (OkF s₀ env S0 Fs X') e.2.1 e.2.2) (hX : ∀ a, X' a → s₀.heap.get? a = none ∧ s'.heap.get? a ≠ none ∧ ¬ Own env a) : RSt w s₀ env S0 Fs X' ρ' s' := by
  have kk : ∀ b o, ¬ (Own env b ∨ b ∈ Fs ∨ X b) → s.heap.get? b = some o → s'.heap.get? b = some o := fun b o h e => (k b o (fun z => h (z.elim .inl fun q => .inr (.inr q))) e).2 fun z => h (.inr (.inl z))
  refine ⟨R.T0, top_kmu R.T kk R.kout, R.kfs, R.fn, frm, rd, fun b o _ e => ?_, R.newO, hX, R.fsA, R.ap, ?_⟩
  · have nb : ¬ (Own env b ∨ X b) := fun z => by
      rcases z with q | q
      · rw [R.newO _ q] at e; cases e
      · rw [(R.newX _ q).1] at e; cases e
    have x := R.kf b o id e
    refine ⟨fun hF => ?_, fun hF => (k b o nb (x.2 hF)).2 hF⟩
    obtain ⟨sl, q⟩ := x.1 hF
    exact (k b _ nb q).1 hF
  · obtain ⟨h1, t1, e1⟩ := R.sh
    obtain ⟨h2, t2, e2⟩ := sh
    exact ⟨h2, t2, by rw [e2, e1]⟩
theorem RSt.reX (R : RSt w s₀ env S0 Fs X ρ s) (hρ : ∀ e ∈ ρ', e ∈ ρ) (rd : ∀ e ∈ ρ', RD s.heap (OkF s₀ env S0 Fs X') e.2.1 e.2.2) (hX : ∀ a, X' a → s₀.heap.get? a = none ∧ s.heap.get? a ≠ none ∧ ¬ Own env a) : RSt w s₀ env S0 Fs X' ρ' s := by
  obtain ⟨m, cm, h1, h2, h3⟩ := R.frm
  exact ⟨R.T0, R.T, R.kfs, R.fn, ⟨m, cm, h1, h2, fun e he => h3 e (hρ e he)⟩, rd, R.kf, R.newO, hX, R.fsA, R.ap, R.sh⟩
theorem Ns.slots {h h' : Heap} {a : Addr} {m : Str → Option Value} (x : h.Ns a m) (k : ∀ o, h.get? a = some o → ∃ sl, h'.get? a = some { o with slots := sl }) : h'.Ns a m := by
  obtain ⟨o, es, ep, e, hd, r⟩ := x
  obtain ⟨sl, q⟩ := k o e
  exact ⟨_, es, ep, q, hd, r⟩
theorem RSt.called (R : RSt w s₀ env S0 Fs X ρ s) (st : ∀ e ∈ ρ, RD s₀.heap (fun a => S0 a ∧ a ∉ Fs) e.2.1 e.2.2) (k : KFr (fun _ => False) (env.locals :: Fs) s.heap s'.heap) (sh : ∃ h' tk, s' = { s with heap := h', toks := tk })
    (hX : ∀ a, X' a → s₀.heap.get? a = none ∧ s'.heap.get? a ≠ none ∧ ¬ Own env a) : RSt w s₀ env S0 Fs X' ρ s' := by
  obtain ⟨m, cm, h1, h2, h3⟩ := R.frm
  have k' : KFr (fun a => Own env a ∨ X a) Fs s.heap s'.heap := fun b o hn e => ⟨fun hF => (k b o id e).1 (.tail _ hF), fun hF => (k b o id e).2 fun z => by
    rcases List.mem_cons.mp z with z | z
    · exact hn (.inl (.inl z))
    · exact hF z⟩
  have nF : ∀ {a}, Own env a → a ∉ Fs := fun h z => R.fsA _ z (R.newO _ h)
  have R0 : RSt w s₀ env S0 Fs (fun _ => False) [] s' := R.go k' sh ⟨m, cm, Ns.slots h1 fun o e => (k _ o id e).1 (.head _), fun n c e => ?_, fun e he => nomatch he⟩ (fun e he => nomatch he) fun a h => h.elim
  · refine ⟨R0.T0, R0.T, R0.kfs, R0.fn, ⟨m, cm, Ns.slots h1 fun o e => (k _ o id e).1 (.head _), fun n c e => ?_, h3⟩, fun e he => R0.stab (st e he) fun a z => (hX a z).1, R0.kf, R0.newO, hX, R0.fsA, R0.ap, R0.sh⟩
    obtain ⟨o, eo, hd⟩ := h2 n c e
    exact ⟨o, (k _ _ id eo).2 fun z => by
      rcases List.mem_cons.mp z with z | z
      · exact R.ap.2 n c e z
      · exact nF (.inr ⟨n, e⟩) z, hd⟩
  · obtain ⟨o, eo, hd⟩ := h2 n c e
    exact ⟨o, (k _ _ id eo).2 fun z => by
      rcases List.mem_cons.mp z with z | z
      · exact R.ap.2 n c e z
      · exact nF (.inr ⟨n, e⟩) z, hd⟩
theorem star_tup {a : Addr} {o : Obj} {its : Array Value} {n : Nat} {Q : List Value → Shared → Prop} (e : s.heap.get? a = some o) (hc : o.cls = .type "tuple") (hd : o.data = .seq its n) (hz : its.size ≤ sizeLine) (h : ∀ h', Le s.heap h' → Q its.toList { s with heap := h' }) : StarOf (model pw w) A E (.ref a) Q s := by
  have hT' : s.TypeIs (.ref a) "tuple" := ⟨o, e, hc⟩
  unfold StarOf notIterableAtAll
  exact wpAny_bind (wpAny_specialOf hT' PySem.F.slot_tuple_iter.lookup (wpAny_pure ⟨rfl, wpAny_collect_seq a (.inr rfl) e hc hd (fun h' hk => h h' hk) hz⟩))
noncomputable def BaseT (w : World) (h : Heap) (b : BaseK) (v : Value) : Prop := ∃ a o its n bv, v = .ref a ∧ h.get? a = some o ∧ o.cls = .type "tuple" ∧ o.data = .seq its n ∧ BaseV w h b its.toList bv
theorem BaseT.size {w : World} {h : Heap} {b : BaseK} {its : Array Value} {bv : Value} (x : BaseV w h b its.toList bv) : its.size ≤ 1 := by
  rw [← Array.length_toList]
  cases b with
  | b0 => rw [x.1]; exact Nat.zero_le _
  | b1 => obtain ⟨T, dd, n, sl, e1, e2, e3⟩ := x; rw [e1]; exact Nat.le_refl _
  | b2 => rw [x.1]; exact Nat.le_refl _
theorem BaseT.stand {w : World} {h h' : Heap} {b : BaseK} {v : Value} (x : BaseT w h b v) (k : ∀ a o vs n, o.data = .seq vs n → h.get? a = some o → h'.get? a = some o) : BaseT w h' b v := by
  obtain ⟨a, o, its, n, bv, e1, e2, e3, e4, B⟩ := x
  refine ⟨a, o, its, n, bv, e1, k _ _ _ _ e4 e2, e3, e4, ?_⟩
  cases b with
  | b0 => exact B
  | b1 => obtain ⟨T, dd, n, sl, e1, e2, e3⟩ := B; exact ⟨T, dd, n, sl, e1, e2, k _ _ _ _ rfl e3⟩
  | b2 => exact B
end
noncomputable abbrev envRun (N : Nat) : Env := callEnvC (fdOf "_law_run" 18 295) N 296
noncomputable def thingIter : Expr := .Call (.Name "always_iterable" ⟨215, 21, 215, 36⟩) [.Call (.Name "_law_setting" ⟨215, 37, 215, 49⟩) [.Name "kind" ⟨215, 50, 215, 54⟩, .Name "n" ⟨215, 56, 215, 57⟩] [] ⟨215, 37, 215, 58⟩, .Starred (.Name "base" ⟨215, 61, 215, 65⟩) ⟨215, 60, 215, 65⟩] [] ⟨215, 21, 215, 66⟩
noncomputable def thingBody : List Stmt := [.Expr (.Call (.Attribute (.Name "pairs" ⟨216, 12, 216, 17⟩) "append" ⟨216, 12, 216, 24⟩) [.Call (.Attribute (.Name "Pair" ⟨216, 25, 216, 29⟩) "parse" ⟨216, 25, 216, 35⟩)
  [.BinOp (.BinOp (.BinOp (.Name "name" ⟨216, 36, 216, 40⟩) .Add (.Constant (.str " = ") 0 ⟨216, 43, 216, 48⟩) ⟨216, 36, 216, 48⟩) .Add (.Call (.Name "_law_written" ⟨216, 51, 216, 63⟩) [.Name "thing" ⟨216, 64, 216, 69⟩] [] ⟨216, 51, 216, 70⟩) ⟨216, 36, 216, 70⟩) .Add (.Constant (.str " ") 0 ⟨216, 73, 216, 76⟩) ⟨216, 36, 216, 76⟩] [] ⟨216, 25, 216, 77⟩] [] ⟨216, 12, 216, 78⟩) ⟨216, 12, 216, 78⟩]
noncomputable def thingFor : Stmt := .For (.Name "thing" ⟨215, 12, 215, 17⟩) thingIter thingBody [] ⟨215, 8, 216, 78⟩
theorem keep93 (w : World) : keepIn (K01 w) (.ref 93) = true := by kernel_rfl
theorem isFn286 {w : World} {h : Heap} (T : TopH w h) : IsFn h 286 := ⟨_, _, T.K _ _ (K_setting w), rfl⟩
theorem SV.At.mono {w : World} {h h' : Heap} {S : Addr → Prop} {sv : SV} {v : Value} (x : sv.At w h S v) (k : Le h h') : sv.At w h' S v := by
  cases sv with
  | none => exact x
  | th t => exact RD.le k x
  | lst ts => exact RD.le k x
  | tup ts => exact RD.le k x
  | li ts => obtain ⟨I, L, vs, rfl, hI, hL, r⟩ := x; exact ⟨I, L, vs, rfl, hI.at fun o e => k _ _ e, hL.at fun o e => k _ _ e, r.1, r.2.1, r.2.2.1, r.2.2.2.le k⟩
  | keys ks => obtain ⟨B, rfl, ⟨bd, l, ep, e, ed⟩, it⟩ := x; exact ⟨B, rfl, ⟨bd, l, ep, k _ _ e, k _ _ ed⟩, fun A s E Fs ok T k2 => it A s E Fs ok T (k.trans k2)⟩
section
variable {w : World} {A : Around} {E : Value → Shared → Prop} {s₀ s : Shared} {N : Nat} {S0 : Addr → Prop} {outer : List Env} {ρ : Rho} {X : Addr → Prop} {b : BaseK} {bt : Value} {kind n : Nat} {tk tn : Tok}
theorem ev_thingIter (ok : OkA 110 A) (hfr : A.frames = some (envRun N :: outer)) (AR : Around1 w s₀.heap outer) (R : RSt w s₀ (envRun N) S0 (framesOf outer) X ρ s) (hk : (("kind" : Str), Value.int kind tk, D.int kind) ∈ ρ) (hn : (("n" : Str), Value.int n tn, D.int n) ∈ ρ) (hb : (("base" : Str), bt, D.atom bt) ∈ ρ)
    (B : BaseT w s₀.heap b bt) (hn2 : n < 2 ^ 29) (hpl : (svF kind n).Plain) :
    wpAny (model pw w) A (eval thingIter (envRun N)) (fun r s' => ∃ s1, Kp s s1 ∧ ItAs w ((envRun N).locals :: framesOf outer) s1 (fun a => s.heap.get? a = none) (((svF kind n).out b).map Th.d) r s') E s := by
  unfold thingIter
  have T := R.T
  refine wpAny_Call_NameR (wpAny_Name (Var.glob T rfl (by rfl) rfl (by kernel_rfl) (v := .ref 93) _ _ _ _ s (fun _ _ e => e) ?_) (by decide))
  refine callWith_S2 T.K (keep93 w) ?_
  refine Calls.spliced_cons ?_
  refine wpAny_Call_NameR (wpAny_Name (Var.glob T rfl (by rfl) rfl (by kernel_rfl) (v := .ref 286) _ _ _ _ s (fun _ _ e => e) ?_) (by decide))
  obtain ⟨o286, fd286, e286, d286⟩ := isFn286 T
  refine callWith_function (o := o286) (fd := fd286) (Calls.evalArgs_plain (Calls.spliced_cons ?_))
  refine wpAny_Name (R.var hk _ _ _ _ s (fun _ _ e => e) ?_) (by decide)
  refine Calls.spliced_cons (wpAny_Name (R.var hn _ _ _ _ s (fun _ _ e => e) ?_) (by decide))
  refine Calls.spliced_nil ⟨⟨e286, d286⟩, ?_⟩
  show wpAny _ _ (PySem.call (.ref 286) [.int kind tk, .int n tn]) _ _ _
  refine wpAny_call (codeAny_mono (setting_spec T (ok.weak (by decide)) kind n tk tn hn2) fun r s1 h1 => ?_)
  obtain ⟨v, rfl, hat, k1⟩ := h1
  have R1 := R.kp k1
  have T1 := R1.T
  have AR1 := R1.around AR
  refine items_star ?_
  refine wpAny_Name (R1.var hb _ _ _ _ s1 (fun _ _ e => e) ?_) (by decide)
  have dF : ∀ {a : Addr} {o : Obj} {vs : Array Value} {m : Nat}, o.data = .seq vs m → s₀.heap.get? a = some o → a ∉ framesOf outer := fun hd e z => by
    obtain ⟨o', es, ep, e', hd'⟩ := AR.dict z
    rw [e'] at e; cases e; rw [hd] at hd'; cases hd'
  have B1 : BaseT w s1.heap b bt := B.stand fun a o vs m hd e => R1.stand e (dF hd e)
  obtain ⟨a, o, its, m, bv, rfl, eo, hc, hd, BV⟩ := B1
  have hsl : (1 : Nat) ≤ sizeLine := by decide
  refine star_tup eo hc hd (Nat.le_trans (BaseT.size BV) hsl) fun h' k2 => ?_
  refine Calls.spliced_nil ?_
  have K2 : Kp s1 { s1 with heap := h' } := Kp.of' k2
  have R2 := R1.kp K2
  have AR2 := R2.around AR
  refine ⟨R2.T.K, ?_⟩
  show wpAny _ _ (PySem.call (.ref 93) (v :: (its.toList ++ []))) _ _ _
  rw [List.append_nil]
  have fr : framesOf (envRun N :: outer) = (envRun N).locals :: framesOf outer := rfl
  have aL : s.heap.get? (envRun N).locals ≠ none := R.ownA (.inl rfl)
  have aL0 : s₀.heap.get? (envRun N).locals = none := R.newO _ (.inl rfl)
  have hO : OuterOk h' (envRun N :: outer) := fun env he => by
    rcases List.mem_cons.mp he with rfl | he
    · obtain ⟨m, cm, ⟨o, es, ep, e, hd, _⟩, _⟩ := R2.frm
      exact ⟨show ScopeKind.function ≠ ScopeKind.module by decide, _, o, rfl, e, fun vs z => by rw [hd] at z; cases z⟩
    · exact AR2.ok env he
  have hD : ∀ b ∈ framesOf (envRun N :: outer), ∃ o es n, h'.get? b = some o ∧ o.data = .dict es n := fun c hc => by
    rw [fr] at hc
    rcases List.mem_cons.mp hc with rfl | hc
    · obtain ⟨m, cm, ⟨o, es, ep, e, hd, _⟩, _⟩ := R2.frm
      exact ⟨o, es, ep, e, hd⟩
    · exact AR2.dict hc
  have kf : KFs w (framesOf (envRun N :: outer)) := by
    rw [fr]
    have off : ∀ {c : Addr} {o : Obj}, c ∉ framesOf outer → s₀.heap.get? c = some o → c ∉ (envRun N).locals :: framesOf outer := fun h e z => by
      rcases List.mem_cons.mp z with z | z
      · rw [z, aL0] at e; cases e
      · exact h z
    refine ⟨fun a o e => off (AR.kf.1 a o e) (R.T0.K a o e), ?_, ?_, ?_⟩
    · obtain ⟨mb, ⟨o, es, ep, e, r⟩, z⟩ := R.T0.b; exact off AR.kf.2.1 e
    · obtain ⟨mg, o, es, ep, e, r⟩ := R.T0.g; exact off AR.kf.2.2.1 e
    · obtain ⟨mc, ⟨o, es, ep, e, r⟩, z⟩ := R.T0.nl; exact off AR.kf.2.2.2 e
  have hSF : ∀ a, s.heap.get? a = none → a ∉ framesOf (envRun N :: outer) := fun a ha => by
    rw [fr]
    intro z
    rcases List.mem_cons.mp z with z | z
    · exact aL (z ▸ ha)
    · exact (R.around AR).alive z ha
  have hat2 : (svF kind n).At w h' (fun a => s.heap.get? a = none) v := hat.mono k2
  refine wpAny_mono (ai_go (s := { s1 with heap := h' }) R2.T (ok.weak (by decide)) hfr hO kf hD hSF (BV.mono k2) hat2 hpl) (fun r s' x => ?_) fun _ _ q => q
  exact ⟨_, k1.tr K2, by rw [← fr]; exact x⟩
end
noncomputable def lineP (nm : Str) (t : Th) : Str × Str := (nm, parsedV (writtenF t))
noncomputable def PairsAt (s₀ : Shared) (env : Env) (S0 : Addr → Prop) (Fs : List Addr) (X : Addr → Prop) (h : Heap) (P : Addr) (ls : List (Str × Str)) : Prop := ∃ its, h.PlainList P its ∧ RDs h (OkF s₀ env S0 Fs X) its.toList (ls.map pairD)
section
variable {w : World} {A : Around} {E : Value → Shared → Prop} {s₀ s : Shared} {N : Nat} {S0 : Addr → Prop} {Fs : List Addr} {X : Addr → Prop} {ρ : Rho} {P : Addr} {ls : List (Str × Str)} {nm : Str} {tm : Tok} {u : Value} {t : Th}
theorem thing_turn (ok : OkA 110 A) (R : RSt w s₀ (envRun N) S0 Fs X ρ s) (hX : X P) (hp : (("pairs" : Str), Value.ref P, D.atom (.ref P)) ∈ ρ) (hnm : (("name" : Str), Value.str nm tm, D.str nm) ∈ ρ) (hth : (("thing" : Str), u, t.d) ∈ ρ) (L : PairsAt s₀ (envRun N) S0 Fs X s.heap P ls)
    (hn : nm ∈ namesS) (hw : writtenF t ∈ writtenAll) (hsm : t.small) (hlen : ls.length ≤ 500) {Q : Flow → Shared → Prop}
    (hQ : ∀ s', RSt w s₀ (envRun N) S0 Fs X ρ s' → PairsAt s₀ (envRun N) S0 Fs X s'.heap P (ls ++ [lineP nm t]) → KMu (fun a => a = P) s.heap s'.heap → (∃ h' tk, s' = { s with heap := h', toks := tk }) → Q .next s') :
    wpAny (model pw w) A (execs thingBody (envRun N)) Q E s := by
  obtain ⟨its, hl, r⟩ := L
  have hsl : (1000 : Nat) ≤ sizeLine := by decide
  have T := R.T
  have hsz : its.size = ls.length := by rw [← Array.length_toList, r.length, List.length_map]
  refine wpAny_execs_cons (exec_append (o := .Name "pairs" ⟨216, 12, 216, 17⟩) (h := s.heap) (x := "pairs") (S := OkF s₀ (envRun N) S0 Fs X) (d := pairD (nm, parsedV (writtenF t))) (R.var hp) hl ?_ (by omega) (fun y h' tk hx hl' hy => ?_) (by rfl) (by rfl) (by rfl) (by rfl) (by rfl) (by decide))
  · exact EvD.line T (ok.weak (by decide)) (Var.glob T rfl (by rfl) rfl (by kernel_rfl)) (R.ev hnm) (EvD.call (Var.glob T rfl (by rfl) rfl (by kernel_rfl)) (isFn279 T) (.cons (R.ev hth) .nil rfl) (by simp) (written_spec T t hsm) (ok.weak (by decide))) hn hw (by rfl)
  · have nO : ¬ Own (envRun N) P := (R.newX P hX).2.2
    have ry : RD h' (OkF s₀ (envRun N) S0 Fs X) y (pairD (nm, parsedV (writtenF t))) := hy _ (fun a z _ => z.elim id R.okNew) fun z => z.2.2.2 hX
    obtain ⟨m, cm, h1, h2, h3⟩ := R.frm
    refine wpAny_execs_nil (hQ _ (R.step (.of_kmu (.of_but hx (.inr hX))) ⟨_, _, rfl⟩ ⟨m, cm, h1.at' fun o e => hx _ _ (fun z => nO (.inl z.symm)) e, fun n c e => ?_, h3⟩ (fun e he => .inl he) (R.ownDom hx fun o _ => ?_)) ⟨its.push y, hl', ?_⟩ (.of_but hx rfl) ⟨_, _, rfl⟩)
    · obtain ⟨o, eo, hd⟩ := h2 n c e
      exact ⟨o, hx _ _ (fun z => nO (.inr ⟨n, z ▸ e⟩)) eo, hd⟩
    · obtain ⟨n, e⟩ := hl'; exact some_ne e
    · rw [Array.toList_push, List.map_append]
      exact (r.but hx fun z => z.2.2.2 hX).append (.one ry)
end
theorem KFr.alive {Mu : Addr → Prop} {Fs : List Addr} {h h' : Heap} {a : Addr} (k : KFr Mu Fs h h') (n : ¬ Mu a) (e : h.get? a ≠ none) : h'.get? a ≠ none := by
  cases q : h.get? a with
  | none => exact absurd q e
  | some o =>
    by_cases hF : a ∈ Fs
    · obtain ⟨sl, e⟩ := (k a o n q).1 hF; exact some_ne e
    · exact some_ne ((k a o n q).2 hF)
section
variable {w : World} {A : Around} {E : Value → Shared → Prop} {s₀ s : Shared} {N : Nat} {S0 : Addr → Prop} {outer : List Env} {ρ : Rho} {P : Addr} {X : Addr → Prop} {b : BaseK} {bt : Value} {kind n : Nat} {tk tn tm : Tok} {ls : List (Str × Str)} {nm : Str}
theorem inner_loop (ok : OkA 111 A) (hfr : A.frames = some (envRun N :: outer)) (AR : Around1 w s₀.heap outer) (R : RSt w s₀ (envRun N) S0 (framesOf outer) X ρ s) (hXP : X P) (st : ∀ e ∈ ρ, RD s₀.heap (fun a => S0 a ∧ a ∉ framesOf outer) e.2.1 e.2.2)
    (hp : (("pairs" : Str), Value.ref P, D.atom (.ref P)) ∈ ρ) (hnm : (("name" : Str), Value.str nm tm, D.str nm) ∈ ρ) (hk : (("kind" : Str), Value.int kind tk, D.int kind) ∈ ρ) (hn : (("n" : Str), Value.int n tn, D.int n) ∈ ρ) (hb : (("base" : Str), bt, D.atom bt) ∈ ρ) (hth : ∀ e ∈ ρ, e.1 ≠ "thing")
    (L : PairsAt s₀ (envRun N) S0 (framesOf outer) X s.heap P ls) (B : BaseT w s₀.heap b bt) (hn2 : n < 2 ^ 29) (hpl : (svF kind n).Plain) (hns : nm ∈ namesS) (hw : ∀ t ∈ (svF kind n).out b, writtenF t ∈ writtenAll ∧ t.small) (hlen : ls.length + ((svF kind n).out b).length ≤ 500) {Q : Flow → Shared → Prop}
    (hQ : ∀ s', RSt w s₀ (envRun N) S0 (framesOf outer) X ρ s' → PairsAt s₀ (envRun N) S0 (framesOf outer) X s'.heap P (ls ++ ((svF kind n).out b).map (lineP nm)) → KMu (fun a => Own (envRun N) a ∨ a = P ∨ a ∈ framesOf outer) s.heap s'.heap → (∃ h' tk, s' = { s with heap := h', toks := tk }) → Q .next s') :
    wpAny (model pw w) A (exec thingFor (envRun N)) Q E s := by
  unfold thingFor
  refine wpAny_For (wpAny_mono (ev_thingIter (ok.weak (by decide)) hfr AR R hk hn hb B hn2 hpl) (fun r sc h => ?_) fun _ _ q => q) (fun _ => rfl)
  obtain ⟨sb, kb, ⟨I, fp, wr, Pe, St, rfl, W, st0, hf, hI, hw2, hal, hPe⟩, kf, sh⟩ := h
  have Wk := W A ok.hd
  refine Wk.self 0 sc _ _ st0 ?_
  generalize hout : (svF kind n).out b = out at *
  generalize hFs : framesOf outer = Fs at *
  have fpN : ∀ b ∈ fp, s.heap.get? b = none := fun b hb => (hf b hb).1.elim id (fresh_le kb.le)
  have wrN : ∀ b ∈ wr, s.heap.get? b = none := fun b hb => fpN b (Wk.sub b hb)
  have kac : KFr (fun _ => False) ((envRun N).locals :: Fs) s.heap sc.heap := (KFr.of_kmu (.of_le kb.le)).trans kf
  have shac : ∃ h' tk, sc = { s with heap := h', toks := tk } := by
    obtain ⟨_, h1, t1, rfl⟩ := kb
    obtain ⟨h2, t2, rfl⟩ := sh
    exact ⟨h2, t2, rfl⟩
  have aP : s.heap.get? P ≠ none := (R.newX P hXP).2.1
  have nPO : ¬ Own (envRun N) P := (R.newX P hXP).2.2
  have nPF : P ∉ Fs := fun z => R.fsA P z (R.newX P hXP).1
  have nPw : P ∉ wr := fun z => aP (wrN P z)
  have nOw : ∀ {a}, a ∈ wr → ¬ Own (envRun N) a := fun h z => R.ownA z (wrN _ h)
  have hX2 : ∀ h' : Heap, (∀ a ∈ wr, h'.get? a ≠ none) → (∀ a, X a → h'.get? a ≠ none) → ∀ a, (X a ∨ a ∈ wr) → s₀.heap.get? a = none ∧ h'.get? a ≠ none ∧ ¬ Own (envRun N) a := fun h' h1 h2 a ha => by
    rcases ha with ha | ha
    · exact ⟨(R.newX a ha).1, h2 a ha, (R.newX a ha).2.2⟩
    · exact ⟨R.fresh0 (wrN a ha), h1 a ha, nOw ha⟩
  have Rc : RSt w s₀ (envRun N) S0 Fs (fun a => X a ∨ a ∈ wr) ρ sc := R.called st kac shac (hX2 _ (hal 0 _ st0) fun a ha => kac.alive id (R.newX a ha).2.1)
  have nLF : ∀ {a}, ¬ Own (envRun N) a → a ∉ Fs → a ∉ (envRun N).locals :: Fs := fun h1 h2 z => by
    rcases List.mem_cons.mp z with z | z
    · exact h1 (.inl z)
    · exact h2 z
  have Lc : PairsAt s₀ (envRun N) S0 Fs (fun a => X a ∨ a ∈ wr) sc.heap P ls := by
    obtain ⟨its, hl, r⟩ := L
    refine ⟨its, hl.at fun o e => (kac _ o id e).2 (nLF nPO nPF), r.dom.mono (fun a o h e => (kac a o id e).2 (nLF h.1.2.1 h.1.2.2.1)) fun a h => ⟨h.1.1, h.1.2.1, h.1.2.2.1, fun z => ?_⟩⟩
    rcases z with z | z
    · exact h.1.2.2.2 z
    · exact h.2 (wrN a z)
  refine for_walk Wk st0 (fun a => Own (envRun N) a ∨ a = P) (fun c hc hm => ?_) (fun i s' => ∃ s1, RSt w s₀ (envRun N) S0 Fs (fun a => X a ∨ a ∈ wr) ρ s1 ∧ PairsAt s₀ (envRun N) S0 Fs (fun a => X a ∨ a ∈ wr) s1.heap P (ls ++ (out.take i).map (lineP nm)) ∧ KMu (fun a => Own (envRun N) a ∨ a = P ∨ a ∈ wr) sc.heap s1.heap ∧
    (∀ b o, b ∉ wr → s1.heap.get? b = some o → s'.heap.get? b = some o) ∧ (∃ h' tk, s1 = { s with heap := h', toks := tk }) ∧ ∃ h' tk, s' = { s1 with heap := h', toks := tk }) ?_ ?_ ?_ ?_ ?_
  · rcases hm with hm | hm
    · exact R.ownA hm (fpN c hc)
    · exact aP (hm ▸ fpN c hc)
  · exact ⟨sc, Rc, by simpa using Lc, .refl _ _, fun _ _ _ e => e, shac, _, _, rfl⟩
  · rintro i s' h' t' ⟨s1, R1, L1, k1, hwr, sh1, h2, t2, rfl⟩ hk'
    exact ⟨s1, R1, L1, k1, fun c o hc e => hk' c o hc (hwr c o hc e), sh1, h', t', rfl⟩
  · intro i v s' Q' E' _ _ hq
    exact wpAny_pure hq
  · rintro i v s' hi hPv ⟨s1, R1, L1, k1, hwr, sh1, sh2⟩ hst E'
    have al := hal (i + 1) _ hst
    have R' : RSt w s₀ (envRun N) S0 Fs (fun a => X a ∨ a ∈ wr) ρ s' := by
      obtain ⟨m, cm, h1, h2, h3⟩ := R1.frm
      refine R1.step (.of_kmu fun c o hc e => hwr c o (fun z => hc (.inr (.inr z))) e) sh2 ⟨m, cm, h1.at' fun o e => hwr _ _ (fun z => nOw z (.inl rfl)) e, fun n c e => ?_, h3⟩ (fun e he => .inl he) fun a ha => ?_
      · obtain ⟨o, eo, hd⟩ := h2 n c e
        exact ⟨o, hwr _ _ (fun z => nOw z (.inr ⟨n, e⟩)) eo, hd⟩
      · rcases ha with ha | ha
        · cases q : s1.heap.get? a with
          | none => exact absurd q (R1.newX a (.inl ha)).2.1
          | some o => exact some_ne (hwr _ _ (fun z => (R.newX a ha).2.1 (wrN a z)) q)
        · exact al a ha
    have L' : PairsAt s₀ (envRun N) S0 Fs (fun a => X a ∨ a ∈ wr) s'.heap P (ls ++ (out.take i).map (lineP nm)) := by
      obtain ⟨its, hl, r⟩ := L1
      exact ⟨its, hl.at fun o e => hwr _ _ nPw e, r.mono (fun a o h e => hwr a o (fun z => h.2.2.2 (.inr z)) e) fun a h => h⟩
    obtain ⟨d, hd, rv⟩ := hPe i v hPv
    obtain ⟨t, ht, rfl⟩ := map_at hd
    have htm := List.mem_of_getElem? ht
    have rv' : RD s'.heap (OkF s₀ (envRun N) S0 Fs (fun a => X a ∨ a ∈ wr)) v t.d := by
      have fr : ∀ {a}, (Fr1 (fun a => s.heap.get? a = none) sb.heap a) → s.heap.get? a = none := fun h => h.elim id (fresh_le kb.le)
      refine rv.mono (fun a o h e => hwr a o h.2 (k1 a o (fun z => ?_) e)) fun a h => ⟨.inr (R.fresh0 (fr h.1)), fun z => R.ownA z (fr h.1), fun z => R.alive (R.fsA a z) (fr h.1), fun z => ?_⟩
      · rcases z with z | z | z
        · exact R.ownA z (fr h.1)
        · exact aP (z ▸ fr h.1)
        · exact h.2 z
      · rcases z with z | z
        · exact (R.newX a z).2.1 (fr h.1)
        · exact h.2 z
    refine wpAny_assign_Name (R'.storeL (ρ' := ρ) (by rfl) (fun e he => ⟨hth e he, he⟩) rv' fun s2 R2 x2 sh2' => ?_)
    have L2 : PairsAt s₀ (envRun N) S0 Fs (fun a => X a ∨ a ∈ wr) s2.heap P (ls ++ (out.take i).map (lineP nm)) := by
      obtain ⟨its, hl, r⟩ := L'
      exact ⟨its, hl.at fun o e => x2 _ _ (fun z => nPO (.inl z)) e, r.but x2 fun z => z.2.1 (.inl rfl)⟩
    have hil : (out.take i).length ≤ out.length := List.length_take_le' _ _
    have hw' := hw t htm
    refine thing_turn (ok.weak (by decide)) R2 (.inl hXP) (.tail _ hp) (.tail _ hnm) (.head _) L2 hns hw'.1 hw'.2 (by rw [List.length_append, List.length_map]; omega) fun s3 R3 L3 k3 sh3 => ⟨.inl rfl, ⟨s3, R3.sub (fun e he => .tail _ he), ?_, ?_, fun _ _ _ e => e, ?_, _, _, rfl⟩, fun c o hc e => ?_⟩
    · rw [take_succ ht, List.map_append, ← List.append_assoc]
      exact L3
    · intro c o hc e
      exact k3 c o (fun z => hc (.inr (.inl z))) (x2 c o (fun z => hc (.inl (.inl z))) (hwr c o (fun z => hc (.inr (.inr z))) (k1 c o hc e)))
    · obtain ⟨h1, t1, e1⟩ := sh1
      obtain ⟨h2, t2, e2⟩ := sh2
      obtain ⟨h3, t3, e3⟩ := sh2'
      obtain ⟨h4, t4, e4⟩ := sh3
      exact ⟨h4, t4, by rw [e4, e3, e2, e1]⟩
    · exact k3 c o (fun z => hc (.inr z)) (x2 c o (fun z => hc (.inl (.inl z))) e)
  · rintro s' ⟨s1, R1, L1, k1, hwr, sh1, sh2⟩
    rw [List.length_map, List.take_length] at L1
    obtain ⟨its, hl, r⟩ := L1
    have nwF : ∀ {a o}, s.heap.get? a = some o → a ∉ wr := fun e z => by rw [wrN _ z] at e; cases e
    refine hQ s' ?_ ⟨its, hl.at fun o e => hwr _ _ nPw e, r.mono (fun a o h e => hwr a o (fun z => h.2.2.2 (.inr z)) e) fun a h => ⟨h.1, h.2.1, h.2.2.1, fun z => h.2.2.2 (.inl z)⟩⟩ (fun c o hc e => ?_) ?_
    · obtain ⟨m, cm, h1, h2, h3⟩ := R1.frm
      refine R1.go (.of_kmu fun c o hc e => hwr c o (fun z => hc (.inr (.inr z))) e) sh2 ⟨m, cm, h1.at' fun o e => hwr _ _ (fun z => nOw z (.inl rfl)) e, fun n c e => ?_, h3⟩ (fun e he => (R1.rd e he).mono (fun a o h e => hwr a o (fun z => h.2.2.2 (.inr z)) e) fun a h => ⟨h.1, h.2.1, h.2.2.1, fun z => h.2.2.2 (.inl z)⟩) fun a ha => ?_
      · obtain ⟨o, eo, hd⟩ := h2 n c e
        exact ⟨o, hwr _ _ (fun z => nOw z (.inr ⟨n, e⟩)) eo, hd⟩
      · refine ⟨(R.newX a ha).1, ?_, (R.newX a ha).2.2⟩
        cases q : s1.heap.get? a with
        | none => exact absurd q (R1.newX a (.inl ha)).2.1
        | some o => exact some_ne (hwr _ _ (fun z => (R.newX a ha).2.1 (wrN a z)) q)
    · have e2 := (kac c o id e).2 (nLF (fun z => hc (.inl z)) fun z => hc (.inr (.inr z)))
      exact hwr c o (nwF e) (k1 c o (fun z => by
        rcases z with z | z | z
        · exact hc (.inl z)
        · exact hc (.inr (.inl z))
        · exact nwF e z) e2)
    · obtain ⟨h1, t1, e1⟩ := sh1
      obtain ⟨h2, t2, e2⟩ := sh2
      exact ⟨h2, t2, by rw [e2, e1]⟩
end
noncomputable abbrev Cfg := Str × Nat × Nat
noncomputable def cfgD (c : Cfg) : D := .tup [.str c.1, .int c.2.1, .int c.2.2]
noncomputable def cfgTgt : Expr := .Tuple [.Name "name" ⟨214, 8, 214, 12⟩, .Name "kind" ⟨214, 14, 214, 18⟩, .Name "n" ⟨214, 20, 214, 21⟩] 0 ⟨214, 8, 214, 21⟩
noncomputable def cfgFor : Stmt := .For cfgTgt (.Name "settings" ⟨214, 25, 214, 33⟩) [thingFor] [] ⟨214, 4, 216, 78⟩
noncomputable def cfgLines (b : BaseK) (c : Cfg) : List (Str × Str) := ((svF c.2.1 c.2.2).out b).map (lineP c.1)
noncomputable def CfgOk (b : BaseK) (c : Cfg) : Prop := c.1 ∈ namesS ∧ c.2.2 < 2 ^ 29 ∧ (svF c.2.1 c.2.2).Plain ∧ (∀ t ∈ (svF c.2.1 c.2.2).out b, writtenF t ∈ writtenAll ∧ t.small) ∧ ((svF c.2.1 c.2.2).out b).length ≤ 8
theorem flat_len {α β : Type} {f : α → List β} {n : Nat} : ∀ {l : List α}, (∀ x ∈ l, (f x).length ≤ n) → (l.flatMap f).length ≤ n * l.length
  | [], _ => Nat.zero_le _
  | x :: l, h => by
    have h1 := h x (.head _)
    have h2 := flat_len (l := l) fun y hy => h y (.tail _ hy)
    rw [List.flatMap_cons, List.length_append, List.length_cons, Nat.mul_succ]
    omega
section
variable {w : World} {A : Around} {E : Value → Shared → Prop} {s₀ s : Shared} {N : Nat} {S0 : Addr → Prop} {outer : List Env} {ρ : Rho} {P : Addr} {b : BaseK} {bt sv : Value} {cs : List Cfg}
theorem outer_loop (ok : OkA 111 A) (hfr : A.frames = some (envRun N :: outer)) (AR : Around1 w s₀.heap outer) (R : RSt w s₀ (envRun N) S0 (framesOf outer) (fun a => a = P) ρ s) (st : ∀ e ∈ ρ, RD s₀.heap (fun a => S0 a ∧ a ∉ framesOf outer) e.2.1 e.2.2)
    (hp : (("pairs" : Str), Value.ref P, D.atom (.ref P)) ∈ ρ) (hb : (("base" : Str), bt, D.atom bt) ∈ ρ) (hse : (("settings" : Str), sv, D.lst (cs.map cfgD)) ∈ ρ) (hno : ∀ e ∈ ρ, e.1 ≠ "thing" ∧ e.1 ≠ "name" ∧ e.1 ≠ "kind" ∧ e.1 ≠ "n")
    (L : PairsAt s₀ (envRun N) S0 (framesOf outer) (fun a => a = P) s.heap P []) (B : BaseT w s₀.heap b bt) (hc : ∀ c ∈ cs, CfgOk b c) (hlen : cs.length ≤ 20) {Q : Flow → Shared → Prop}
    (hQ : ∀ s', RSt w s₀ (envRun N) S0 (framesOf outer) (fun a => a = P) ρ s' → PairsAt s₀ (envRun N) S0 (framesOf outer) (fun a => a = P) s'.heap P (cs.flatMap (cfgLines b)) → (∃ h' tk, s' = { s with heap := h', toks := tk }) → Q .next s') :
    wpAny (model pw w) A (exec cfgFor (envRun N)) Q E s := by
  unfold cfgFor
  have rs := R.rd _ hse
  refine wpAny_For (wpAny_Name (R.var hse _ _ _ _ s (fun _ _ e => e) ?_) (by decide)) (fun _ => rfl)
  cases rs using RD.lstE with
  | lst sa ea ca da ra =>
  rename_i l o vs nl
  have nI := new_none s.heap
  have aP : s.heap.get? P ≠ none := (R.newX P rfl).2.1
  have nPO : ¬ Own (envRun N) P := (R.newX P rfl).2.2
  generalize hI : s.heap.objs.size = I at *
  have nIO : ¬ Own (envRun N) I := fun z => R.ownA z nI
  have nIF : I ∉ (framesOf outer) := fun z => R.alive (R.fsA I z) nI
  have nIP : I ≠ P := fun z => aP (z ▸ nI)
  have nMu : ∀ {a}, OkF s₀ (envRun N) S0 (framesOf outer) (fun a => a = P) a → ¬ (Own (envRun N) a ∨ a = P ∨ a ∈ framesOf outer) := fun h z => by
    rcases z with z | z | z
    · exact h.2.1 z
    · exact h.2.2.2 z
    · exact h.2.2.1 z
  have eI : s.heap.objs.size = I := hI
  subst hI
  refine for_list3 (A := A) (xs := cs.map cfgD) (S0 := OkF s₀ (envRun N) S0 (framesOf outer) (fun a => a = P)) ok.hd ⟨_, ea, ca, _, da⟩ ra (fun a => Own (envRun N) a ∨ a = P ∨ a ∈ framesOf outer) (nMu sa) (fun a h => nMu h) (fun z => ?_) (fun d hd => ?_)
    (fun I i s' => ∃ s1, RSt w s₀ (envRun N) S0 (framesOf outer) (fun a => a = P ∨ a = I) ρ s1 ∧ PairsAt s₀ (envRun N) S0 (framesOf outer) (fun a => a = P ∨ a = I) s1.heap P ((cs.take i).flatMap (cfgLines b)) ∧ (∀ b o, b ≠ I → s1.heap.get? b = some o → s'.heap.get? b = some o) ∧ (∃ h' tk, s1 = { s with heap := h', toks := tk }) ∧ ∃ h' tk, s' = { s1 with heap := h', toks := tk }) ?_ ?_ ?_ ?_
  · rcases z with z | z | z
    · exact nIO z
    · exact nIP z
    · exact nIF z
  · obtain ⟨c, hc, rfl⟩ := List.mem_map.mp hd
    exact ⟨_, .tup3 (by decide) (by decide) (by decide)⟩
  · intro h' k' hIa
    have R1 := R.kp (Kp.of' k')
    have hX2 : ∀ a, (a = P ∨ a = s.heap.objs.size) → s₀.heap.get? a = none ∧ h'.get? a ≠ none ∧ ¬ Own (envRun N) a := fun a ha => by
      rcases ha with rfl | rfl
      · exact R1.newX _ rfl
      · exact ⟨R.fresh0 nI, hIa, nIO⟩
    obtain ⟨its, hl, r⟩ := L
    exact ⟨_, R1.reX (fun e he => he) (fun e he => R1.stab (st e he) fun a z => (hX2 a z).1) hX2, ⟨its, hl.at fun o e => k' _ _ e, r.dom.mono (fun a o _ e => k' a o e) fun a h => ⟨h.1.1, h.1.2.1, h.1.2.2.1, fun z => z.elim h.1.2.2.2 fun z => h.2 (z ▸ nI)⟩⟩, fun _ _ _ e => e, ⟨_, _, rfl⟩, _, _, rfl⟩
  · rintro i s' h' t' ⟨s1, R1, L1, hk1, sh1, h2, t2, rfl⟩ hx
    exact ⟨s1, R1, L1, fun c o hc e => hx c o hc (hk1 c o hc e), sh1, h', t', rfl⟩
  · rintro i d v s' hi ⟨s1, R1, L1, hk1, sh1, sh2⟩ rv kb hIa E'
    obtain ⟨c, hci, rfl⟩ := map_at hi
    have hcm := List.mem_of_getElem? hci
    obtain ⟨c1, c2, c3, c4, c5⟩ := hc c hcm
    have R' : RSt w s₀ (envRun N) S0 (framesOf outer) (fun a => a = P ∨ a = s.heap.objs.size) ρ s' := by
      obtain ⟨m, cm, h1, h2, h3⟩ := R1.frm
      refine R1.step (.of_kmu fun c o hc e => hk1 c o (fun z => hc (.inr (.inr z))) e) sh2 ⟨m, cm, h1.at' fun o e => hk1 _ _ (fun z => nIO (z ▸ .inl rfl)) e, fun n c e => ?_, h3⟩ (fun e he => .inl he) fun a ha => ?_
      · obtain ⟨o, eo, hd⟩ := h2 n c e
        exact ⟨o, hk1 _ _ (fun z => nIO (z ▸ .inr ⟨n, e⟩)) eo, hd⟩
      · by_cases q : a = s.heap.objs.size
        · rw [q]; exact hIa
        · cases q2 : s1.heap.get? a with
          | none => exact absurd q2 (R1.newX a ha).2.1
          | some o => exact some_ne (hk1 _ _ q q2)
    have L' : PairsAt s₀ (envRun N) S0 (framesOf outer) (fun a => a = P ∨ a = s.heap.objs.size) s'.heap P ((cs.take i).flatMap (cfgLines b)) := by
      obtain ⟨its, hl, r⟩ := L1
      exact ⟨its, hl.at fun o e => hk1 _ _ (Ne.symm nIP) e, r.mono (fun a o h e => hk1 a o (fun z => h.2.2.2 (.inr z)) e) fun a h => h⟩
    have rv' : RD s'.heap (OkF s₀ (envRun N) S0 (framesOf outer) (fun a => a = P ∨ a = s.heap.objs.size)) v (cfgD c) := rv.sub fun a h => ⟨h.1.1, h.1.2.1, h.1.2.2.1, fun z => z.elim h.1.2.2.2 fun z => h.2 (z ▸ nI)⟩
    obtain ⟨m, cm, h1, h2, h3⟩ := R'.frm
    refine assign_bd (S := OkF s₀ (envRun N) S0 (framesOf outer) (fun a => a = P ∨ a = s.heap.objs.size)) (.tup3 (by decide) (by decide) (by decide)) ok.hd rfl (fun y d hy => ?_) h1 rv' (fun z => z.2.1 (.inl rfl)) fun h3' t3 m3 hn3 hbi hmo hx3 => ?_
    · simp only [List.mem_cons, List.not_mem_nil, or_false, Prod.mk.injEq] at hy
      rcases hy with ⟨rfl, _⟩ | ⟨rfl, _⟩ | ⟨rfl, _⟩ <;> rfl
    obtain ⟨v1, hv1, rv1⟩ := hbi _ _ (.head _)
    obtain ⟨v2, hv2, rv2⟩ := hbi _ _ (.tail _ (.head _))
    obtain ⟨v3, hv3, rv3⟩ := hbi _ _ (.tail _ (.tail _ (.head _)))
    cases rv1 using RD.strE with
    | str tm =>
    cases rv2 using RD.intE with
    | int tk =>
    cases rv3 using RD.intE with
    | int tn =>
    have R3 : RSt w s₀ (envRun N) S0 (framesOf outer) (fun a => a = P ∨ a = s.heap.objs.size) (("name", .str c.1 tm, .str c.1) :: ("kind", .int c.2.1 tk, .int c.2.1) :: ("n", .int c.2.2 tn, .int c.2.2) :: ρ) { s' with heap := h3', toks := t3 } := by
      refine R'.step (.of_kmu (.of_but hx3 (.inl (.inl rfl)))) ⟨_, _, rfl⟩ ⟨m3, cm, hn3, fun n c e => ?_, fun e he => ?_⟩ (fun e he => ?_) (R'.ownDom hx3 fun o _ => ?_)
      · obtain ⟨o, eo, hd⟩ := h2 n c e
        exact ⟨o, hx3 _ _ (R'.ap.2 n c e) eo, hd⟩
      · rcases List.mem_cons.mp he with rfl | he
        · exact .inl ⟨rfl, hv1⟩
        rcases List.mem_cons.mp he with rfl | he
        · exact .inl ⟨rfl, hv2⟩
        rcases List.mem_cons.mp he with rfl | he
        · exact .inl ⟨rfl, hv3⟩
        rcases h3 e he with ⟨q1, q2⟩ | q
        · refine .inl ⟨q1, (hmo e.1 fun d hd => ?_).trans q2⟩
          have hn := hno e he
          simp only [List.mem_cons, List.not_mem_nil, or_false, Prod.mk.injEq] at hd
          rcases hd with ⟨z, _⟩ | ⟨z, _⟩ | ⟨z, _⟩
          · exact hn.2.1 z
          · exact hn.2.2.1 z
          · exact hn.2.2.2 z
        · exact .inr q
      · rcases List.mem_cons.mp he with rfl | he
        · exact .inr (.str _ _)
        rcases List.mem_cons.mp he with rfl | he
        · exact .inr (.int _ _)
        rcases List.mem_cons.mp he with rfl | he
        · exact .inr (.int _ _)
        exact .inl he
      · obtain ⟨o, _, _, e, _⟩ := hn3; exact some_ne e
    have L3 : PairsAt s₀ (envRun N) S0 (framesOf outer) (fun a => a = P ∨ a = s.heap.objs.size) h3' P ((cs.take i).flatMap (cfgLines b)) := by
      obtain ⟨its, hl, r⟩ := L'
      exact ⟨its, hl.at fun o e => hx3 _ _ (fun z => nPO (.inl z)) e, r.but hx3 fun z => z.2.1 (.inl rfl)⟩
    have hl1 : ((cs.take i).flatMap (cfgLines b)).length ≤ 8 * 20 := by
      refine Nat.le_trans (flat_len (n := 8) fun c hc' => ?_) (Nat.mul_le_mul_left 8 (Nat.le_trans (List.length_take_le' _ _) hlen))
      unfold cfgLines
      rw [List.length_map]
      exact (hc c (List.mem_of_mem_take hc')).2.2.2.2
    refine wpAny_execs_cons (inner_loop (ls := (cs.take i).flatMap (cfgLines b)) ok hfr AR R3 (.inl rfl) (fun e he => ?_) (.tail _ (.tail _ (.tail _ hp))) (.head _) (.tail _ (.head _)) (.tail _ (.tail _ (.head _))) (.tail _ (.tail _ (.tail _ hb))) (fun e he => ?_) L3 B c2 c3 c1 c4 (by omega) fun s4 R4 L4 k4 sh4 => ?_)
    · rcases List.mem_cons.mp he with rfl | he
      · exact .str _ _
      rcases List.mem_cons.mp he with rfl | he
      · exact .int _ _
      rcases List.mem_cons.mp he with rfl | he
      · exact .int _ _
      exact st e he
    · rcases List.mem_cons.mp he with rfl | he
      · exact (show ("name" : Str) ≠ "thing" by decide)
      rcases List.mem_cons.mp he with rfl | he
      · exact (show ("kind" : Str) ≠ "thing" by decide)
      rcases List.mem_cons.mp he with rfl | he
      · exact (show ("n" : Str) ≠ "thing" by decide)
      exact (hno e he).1
    · refine wpAny_execs_nil ⟨.inl rfl, ⟨s4, R4.sub fun e he => .tail _ (.tail _ (.tail _ he)), ?_, fun _ _ _ e => e, ?_, _, _, rfl⟩, fun c o hc e => ?_⟩
      · rw [take_succ hci, List.flatMap_append]
        simpa [cfgLines] using L4
      · obtain ⟨h1, t1, e1⟩ := sh1
        obtain ⟨h2, t2, e2⟩ := sh2
        obtain ⟨h4, t4, e4⟩ := sh4
        exact ⟨h4, t4, by rw [e4, e2, e1]⟩
      · exact k4 c o hc (hx3 c o (fun z => hc (.inl (.inl z))) e)
  · rintro s' ⟨s1, R1, L1, hk1, sh1, sh2⟩ kk
    rw [List.length_map, List.take_length] at L1
    obtain ⟨its, hl, r⟩ := L1
    have aP' : s'.heap.get? P ≠ none := by obtain ⟨m, e⟩ := hl; exact some_ne (hk1 _ _ (Ne.symm nIP) e)
    refine hQ s' ?_ ⟨its, hl.at fun o e => hk1 _ _ (Ne.symm nIP) e, r.mono (fun a o h e => hk1 a o (fun z => h.2.2.2 (.inr z)) e) fun a h => ⟨h.1, h.2.1, h.2.2.1, fun z => h.2.2.2 (.inl z)⟩⟩ ?_
    · obtain ⟨m, cm, h1, h2, h3⟩ := R1.frm
      refine R1.go (.of_kmu fun c o hc e => hk1 c o (fun z => hc (.inr (.inr z))) e) sh2 ⟨m, cm, h1.at' fun o e => hk1 _ _ (fun z => nIO (z ▸ .inl rfl)) e, fun n c e => ?_, h3⟩ (fun e he => (R1.rd e he).mono (fun a o h e => hk1 a o (fun z => h.2.2.2 (.inr z)) e) fun a h => ⟨h.1, h.2.1, h.2.2.1, fun z => h.2.2.2 (.inl z)⟩) fun a ha => ?_
      · obtain ⟨o, eo, hd⟩ := h2 n c e
        exact ⟨o, hk1 _ _ (fun z => nIO (z ▸ .inr ⟨n, e⟩)) eo, hd⟩
      · subst ha; exact ⟨(R.newX _ rfl).1, aP', nPO⟩
    · obtain ⟨h1, t1, e1⟩ := sh1
      obtain ⟨h2, t2, e2⟩ := sh2
      exact ⟨h2, t2, by rw [e2, e1]⟩
end
noncomputable def LineOk (l : Str × Str) : Prop := l.1 ∈ namesS ∧ ∃ x ∈ writtenAll, l.2 = parsedV x
noncomputable def valD (l : Str × Str) : D := (valueT l.2).d
noncomputable def bookF (ls : List (Str × Str)) : List (Str × List D) := ls.foldl (fun bv l => pushV bv l.1 (valD l)) []
noncomputable def BX (B bd : Addr) (bk : Bk) (Y : Addr → Prop) (a : Addr) : Prop := (a = B ∨ a = bd ∨ ∃ e ∈ bk, e.2.1 = a) ∨ Y a
noncomputable def PB (s₀ : Shared) (env : Env) (S0 : Addr → Prop) (Fs : List Addr) (bd : Addr) (Y : Addr → Prop) (a : Addr) : Prop := Fr1 S0 s₀.heap a ∧ ¬ Own env a ∧ a ∉ Fs ∧ a ≠ bd ∧ ¬ Y a
structure RBk (w : World) (s₀ : Shared) (env : Env) (S0 : Addr → Prop) (Fs : List Addr) (B bd : Addr) (Y : Addr → Prop) (bk : Bk) (ρ : Rho) (s : Shared) : Prop where
  R : RSt w s₀ env S0 Fs (BX B bd bk Y) ρ s
  st : BookSt w s.heap B bd (PB s₀ env S0 Fs bd Y) bk
  dk : s.heap.get? bd = some emptyD
  hB : B ≠ bd
  hY : ∀ a, Y a → a ≠ B ∧ a ≠ bd ∧ ∀ e ∈ bk, e.2.1 ≠ a
theorem RSt.reD {w : World} {s₀ s : Shared} {env : Env} {S0 : Addr → Prop} {Fs : List Addr} {X X' : Addr → Prop} {ρ ρ' : Rho} (R : RSt w s₀ env S0 Fs X ρ s) (hρ : ∀ e ∈ ρ', ∃ d, (e.1, e.2.1, d) ∈ ρ) (rd : ∀ e ∈ ρ', RD s.heap (OkF s₀ env S0 Fs X') e.2.1 e.2.2) (hX : ∀ a, X' a → s₀.heap.get? a = none ∧ s.heap.get? a ≠ none ∧ ¬ Own env a) : RSt w s₀ env S0 Fs X' ρ' s := by
  obtain ⟨m, cm, h1, h2, h3⟩ := R.frm
  exact ⟨R.T0, R.T, R.kfs, R.fn, ⟨m, cm, h1, h2, fun e he => by obtain ⟨d, hd⟩ := hρ e he; exact h3 (e.1, e.2.1, d) hd⟩, rd, R.kf, R.newO, hX, R.fsA, R.ap, R.sh⟩
section
variable {w : World} {A : Around} {E : Value → Shared → Prop} {s₀ s : Shared} {env : Env} {S0 : Addr → Prop} {Fs : List Addr} {ρ ρ' : Rho} {B bd : Addr} {Y : Addr → Prop} {bk : Bk} {x : Str} {v : Value} {d : D}
theorem RBk.sub (K : RBk w s₀ env S0 Fs B bd Y bk ρ s) (h : ∀ e ∈ ρ', e ∈ ρ) : RBk w s₀ env S0 Fs B bd Y bk ρ' s := ⟨K.R.sub h, K.st, K.dk, K.hB, K.hY⟩
theorem RBk.notOwn (K : RBk w s₀ env S0 Fs B bd Y bk ρ s) {a : Addr} (h : BX B bd bk Y a) : ¬ Own env a := (K.R.newX a h).2.2
theorem RBk.frame {s' : Shared} (K : RBk w s₀ env S0 Fs B bd Y bk ρ s) (R' : RSt w s₀ env S0 Fs (BX B bd bk Y) ρ' s') (k : KeepBut (Own env) s.heap s'.heap) : RBk w s₀ env S0 Fs B bd Y bk ρ' s' := by
  refine ⟨R', K.st.keep fun a o hm e => k a o (fun z => ?_) e, k _ _ (K.notOwn (.inl (.inr (.inl rfl)))) K.dk, K.hB, K.hY⟩
  rcases hm with (rfl | ⟨g, hg, rfl⟩) | hm
  · exact K.notOwn (.inl (.inl rfl)) z
  · exact K.notOwn (.inl (.inr (.inr ⟨g, hg, rfl⟩))) z
  · exact hm.2.1 z
theorem RBk.append (K : RBk w s₀ env S0 Fs B bd Y bk ρ s) (ok : OkA 105 A) (hb : (("book" : Str), Value.ref B, D.atom (.ref B)) ∈ ρ) (hv : (x, v, d) ∈ ρ) (hloc : env.kindOf x = some .local) {nm : Str} {p pos apos cpos epos vp : Pos} {slice : Expr} {Q : Flow → Shared → Prop}
    (ev : EvD pw w A env s.heap (fun _ => False) slice (.str nm)) (g : GoodV (bkV bk) 900)
    (hQ : ∀ bk' s', RBk w s₀ env S0 Fs B bd Y bk' ρ s' → bkV bk' = pushV (bkV bk) nm d → (∀ e ∈ bk', (∃ v, (e.1, e.2.1, v) ∈ bk) ∨ s.heap.get? e.2.1 = none) → (∀ c o, c ≠ B → (∀ e ∈ bk, e.2.1 ≠ c) → s.heap.get? c = some o → s'.heap.get? c = some o) → (∃ h' tk, s' = { s with heap := h', toks := tk }) → Q .next s')
    (hs : ∀ o i, subscripted slice false o i = operate [o, i] (getItem o i) := by intro _ _; rfl) (hline : (apos.endLine == cpos.line) = true := by rfl) (hi : interactive env = false := by rfl)
    (hsw : swapsWith (.Call (.Attribute (.Subscript (.Name "book" p) slice pos) "append" apos) [.Name x vp] [] cpos) none epos.line env = pure false := by rfl) (hx : (x == ("__debug__" : Str)) = false := by decide)
    (hbase : attributeBase (.Subscript (.Name "book" p) slice pos) "append" env (eval (.Subscript (.Name "book" p) slice pos) env) = eval (.Subscript (.Name "book" p) slice pos) env := by rfl) :
    wpAny (model pw w) A (exec (.Expr (.Call (.Attribute (.Subscript (.Name "book" p) slice pos) "append" apos) [.Name x vp] [] cpos) epos) env) Q E s := by
  have hsl : (1000 : Nat) ≤ sizeLine := by decide
  have hbl : bk.length = (bkV bk).length := by unfold bkV; rw [List.length_map]
  have gl := g.len
  have R := K.R
  have hxB : BX B bd bk Y B := .inl (.inl rfl)
  have nbB : ¬ Own env B := K.notOwn hxB
  have alY : ∀ {a}, BX B bd bk Y a → s.heap.get? a ≠ none := fun h => (R.newX _ h).2.1
  refine exec_bookAppend (Se := fun a => OkF s₀ env S0 Fs (BX B bd bk Y) a ∧ s.heap.get? a ≠ none) R.T ok (y := d) (R.var hb) K.st K.dk K.hB (by omega) ev (fun h' hx' => ?_) (fun a h => ⟨⟨h.1.1, h.1.2.1, h.1.2.2.1, fun z => h.1.2.2.2 (.inl (.inr (.inl z))), fun z => h.1.2.2.2 (.inr z)⟩, fun z => h.1.2.2.2 (.inl (z.elim .inl fun q => .inr (.inr q))), h.2⟩)
    (fun a h => ⟨(R.okNew h).1, (R.okNew h).2.1, (R.okNew h).2.2.1, fun z => (R.okNew h).2.2.2 (.inl (.inr (.inl z))), fun z => (R.okNew h).2.2.2 (.inr z)⟩) (fun u hu => Nat.le_trans ((g.touch nm).2 (nm, u) hu) (by omega)) (fun bk' s' hb' hbv hn hs hk => ?_) hs (by rfl) hline hi hsw (by decide) hbase
  · obtain ⟨m, cm, h1, h2, h3⟩ := R.frm
    have hm : m x = some v := by
      rcases h3 _ hv with ⟨_, q⟩ | ⟨c, q, _⟩
      · exact q
      · rw [hloc] at q; cases q
    refine EvD.name (Var.loc R.fn hloc (h1.at' fun o e => hx' _ _ (fun z => nbB (.inl z.symm)) e) hm) ((R.rd _ hv).dom.mono (fun a o h e => hx' a o (fun z => h.1.2.2.2 (z ▸ hxB)) e) fun a h => h) hx
  · have memX : ∀ {a}, BX B bd bk' Y a → BX B bd bk Y a ∨ s.heap.get? a = none := fun {a} h => by
      rcases h with (h | h | ⟨e, he, h⟩) | h
      · exact .inl (.inl (.inl h))
      · exact .inl (.inl (.inr (.inl h)))
      · rcases hn e he with ⟨v', hv'⟩ | q
        · exact .inl (.inl (.inr (.inr ⟨_, hv', h⟩)))
        · exact .inr (h ▸ q)
      · exact .inl (.inr h)
    have dk' : s'.heap.get? bd = some emptyD := hk _ _ (Ne.symm K.hB) (fun e he => (K.st.ne e he).2) K.dk
    have alX : ∀ a, BX B bd bk' Y a → s'.heap.get? a ≠ none := fun a h => by
      rcases h with (rfl | rfl | ⟨e, he, rfl⟩) | h
      · obtain ⟨l, ep, e, _⟩ := hb'.book.at_; exact some_ne e
      · exact some_ne dk'
      · obtain ⟨its, ⟨n, e⟩, _⟩ := hb'.lst e he; exact some_ne e
      · obtain ⟨y1, y2, y3⟩ := K.hY a h
        cases q : s.heap.get? a with
        | none => exact absurd q (alY (.inr h))
        | some o => exact some_ne (hk a o y1 y3 q)
    have kX : ∀ {b o}, ¬ BX B bd bk Y b → s.heap.get? b = some o → s'.heap.get? b = some o := fun {b o} h e => hk b o (fun z => h (.inl (.inl z))) (fun g hg z => h (.inl (.inr (.inr ⟨g, hg, z⟩)))) e
    obtain ⟨m, cm, h1, h2, h3⟩ := R.frm
    refine hQ bk' s' ⟨R.go (.of_kmu fun b o hb e => kX (fun z => hb (.inr z)) e) hs ⟨m, cm, h1.at' fun o e => kX (fun z => K.notOwn z (.inl rfl)) e, fun n c e => ?_, h3⟩ (fun e he => (R.rd e he).dom.mono (fun a o h e => kX h.1.2.2.2 e) fun a h => ⟨h.1.1, h.1.2.1, h.1.2.2.1, fun z => (memX z).elim h.1.2.2.2 h.2⟩) fun a h => ?_, hb', dk', K.hB, fun a h => ?_⟩ hbv hn hk hs
    · obtain ⟨o, eo, hd⟩ := h2 n c e
      exact ⟨o, kX (fun z => K.notOwn z (.inr ⟨n, e⟩)) eo, hd⟩
    · rcases memX h with q | q
      · exact ⟨(R.newX a q).1, alX a h, (R.newX a q).2.2⟩
      · exact ⟨R.fresh0 q, alX a h, fun z => R.ownA z q⟩
    · obtain ⟨y1, y2, y3⟩ := K.hY a h
      refine ⟨y1, y2, fun e he z => ?_⟩
      rcases hn e he with ⟨v', hv'⟩ | q
      · exact y3 _ hv' z
      · exact alY (.inr h) (z ▸ q)
end
noncomputable def pairBody : List Stmt := [.Assign [.Name "value" ⟨219, 8, 219, 13⟩] (.IfExp (.Compare (.Constant (.str "=") 0 ⟨219, 42, 219, 45⟩) [.In] [.Attribute (.Name "pair" ⟨219, 49, 219, 53⟩) "value" ⟨219, 49, 219, 59⟩] ⟨219, 42, 219, 59⟩) (.Call (.Attribute (.Name "Pair" ⟨219, 16, 219, 20⟩) "parse" ⟨219, 16, 219, 26⟩) [.Attribute (.Name "pair" ⟨219, 27, 219, 31⟩) "value" ⟨219, 27, 219, 37⟩] [] ⟨219, 16, 219, 38⟩) (.Attribute (.Name "pair" ⟨219, 65, 219, 69⟩) "value" ⟨219, 65, 219, 75⟩) ⟨219, 16, 219, 75⟩) ⟨219, 8, 219, 75⟩,
  .Expr (.Call (.Attribute (.Subscript (.Name "book" ⟨220, 8, 220, 12⟩) (.Attribute (.Name "pair" ⟨220, 13, 220, 17⟩) "name" ⟨220, 13, 220, 22⟩) ⟨220, 8, 220, 23⟩) "append" ⟨220, 8, 220, 30⟩) [.Name "value" ⟨220, 31, 220, 36⟩] [] ⟨220, 8, 220, 37⟩) ⟨220, 8, 220, 37⟩]
noncomputable def pairFor : Stmt := .For (.Name "pair" ⟨218, 8, 218, 12⟩) (.Name "pairs" ⟨218, 16, 218, 21⟩) pairBody [] ⟨218, 4, 220, 37⟩
section
variable {w : World} {A : Around} {E : Value → Shared → Prop} {s₀ s : Shared} {env : Env} {S0 : Addr → Prop} {Fs : List Addr} {ρ ρ' : Rho} {B bd : Addr} {Y : Addr → Prop} {bk : Bk} {x : Str} {v : Value} {d : D}
theorem RBk.it {s' : Shared} {I : Addr} {Y' : Addr → Prop} (K : RBk w s₀ env S0 Fs B bd Y bk ρ s) (hI : Y I) (k : ∀ b o, b ≠ I → s.heap.get? b = some o → s'.heap.get? b = some o) (sh : ∃ h' tk, s' = { s with heap := h', toks := tk }) (hY' : ∀ a, Y' a → Y a ∧ s'.heap.get? a ≠ none) : RBk w s₀ env S0 Fs B bd Y' bk ρ s' := by
  have hXI : BX B bd bk Y I := .inr hI
  obtain ⟨y1, y2, y3⟩ := K.hY I hI
  obtain ⟨m, cm, h1, h2, h3⟩ := K.R.frm
  have up : ∀ {a}, BX B bd bk Y' a → BX B bd bk Y a := fun h => h.imp id fun h => (hY' _ h).1
  have nI : ∀ {a}, OkF s₀ env S0 Fs (BX B bd bk Y) a → a ≠ I := fun h z => h.2.2.2 (z ▸ hXI)
  refine ⟨K.R.go (.of_kmu fun b o hb e => k b o (fun z => hb (.inr (z ▸ hXI))) e) sh ⟨m, cm, h1.at' fun o e => k _ _ (fun z => K.notOwn hXI (.inl z.symm)) e, fun n c e => ?_, h3⟩ (fun e he => (K.R.rd e he).mono (fun a o h e => k a o (nI h) e) fun a h => ⟨h.1, h.2.1, h.2.2.1, fun z => h.2.2.2 (up z)⟩) fun a h => ⟨(K.R.newX a (up h)).1, ?_, (K.R.newX a (up h)).2.2⟩,
    (K.st.keep fun a o hm e => k a o (fun z => ?_) e).sub fun a h _ => ⟨h.1, h.2.1, h.2.2.1, h.2.2.2.1, fun z => h.2.2.2.2 (hY' a z).1⟩, k _ _ (Ne.symm y2) K.dk, K.hB, fun a h => K.hY a (hY' a h).1⟩
  · obtain ⟨o, eo, hd⟩ := h2 n c e
    exact ⟨o, k _ _ (fun z => K.notOwn hXI (.inr ⟨n, z ▸ e⟩)) eo, hd⟩
  · rcases h with h | h
    · by_cases q : a = I
      · subst q
        rcases h with h | h | ⟨e, he, h⟩
        · exact absurd h y1
        · exact absurd h y2
        · exact absurd h (y3 e he)
      · cases q2 : s.heap.get? a with
        | none => exact absurd q2 (K.R.newX a (.inl h)).2.1
        | some o => exact some_ne (k _ _ q q2)
    · exact (hY' a h).2
  · subst z
    rcases hm with (z | ⟨g, hg, z⟩) | hm
    · exact y1 z
    · exact y3 g hg z
    · exact hm.2.2.2.2 hI
theorem RBk.addI {h' : Heap} {I : Addr} (K : RBk w s₀ env S0 Fs B bd (fun _ => False) bk ρ s) (nI : s.heap.get? I = none) (k : Le s.heap h') (al : h'.get? I ≠ none) : RBk w s₀ env S0 Fs B bd (fun a => a = I) bk ρ { s with heap := h' } := by
  have R1 := K.R.kp (Kp.of' k)
  have ne : ∀ {a}, s.heap.get? a ≠ none → a ≠ I := fun h z => h (z ▸ nI)
  refine ⟨R1.reX (fun e he => he) (fun e he => (K.R.rd e he).dom.mono (fun a o _ e => k a o e) fun a h => ⟨h.1.1, h.1.2.1, h.1.2.2.1, fun z => z.elim (fun z => h.1.2.2.2 (.inl z)) (ne h.2)⟩) fun a h => ?_, (K.st.sub fun a h al => ⟨h.1, h.2.1, h.2.2.1, h.2.2.2.1, ne al⟩).keep fun a o _ e => k a o e, k _ _ K.dk, K.hB, fun a h => ?_⟩
  · rcases h with h | rfl
    · exact R1.newX a (.inl h)
    · exact ⟨K.R.fresh0 nI, al, fun z => K.R.ownA z nI⟩
  · subst h
    refine ⟨fun z => ?_, fun z => ?_, fun e he z => ?_⟩
    · exact (K.R.newX B (.inl (.inl rfl))).2.1 (z ▸ nI)
    · exact (K.R.newX bd (.inl (.inr (.inl rfl)))).2.1 (z ▸ nI)
    · exact (K.R.newX e.2.1 (.inl (.inr (.inr ⟨e, he, rfl⟩)))).2.1 (z ▸ nI)
end
section
variable {w : World} {A : Around} {E : Value → Shared → Prop} {s₀ s : Shared} {N : Nat} {S0 : Addr → Prop} {Fs : List Addr} {ρ : Rho} {B bd P : Addr} {Y : Addr → Prop} {bk : Bk} {u : Value} {l : Str × Str} {ls : List (Str × Str)}
theorem pair_turn (K : RBk w s₀ (envRun N) S0 Fs B bd Y bk ρ s) (ok : OkA 105 A) (hb : (("book" : Str), Value.ref B, D.atom (.ref B)) ∈ ρ) (hp : (("pair" : Str), u, pairD l) ∈ ρ) (hno : ∀ e ∈ ρ, e.1 ≠ "value") (hl : LineOk l) (g : GoodV (bkV bk) 900) {Q : Flow → Shared → Prop}
    (hQ : ∀ bk' s', RBk w s₀ (envRun N) S0 Fs B bd Y bk' ρ s' → bkV bk' = pushV (bkV bk) l.1 (valD l) → (∀ e ∈ bk', (∃ v, (e.1, e.2.1, v) ∈ bk) ∨ s.heap.get? e.2.1 = none) → (∀ c o, ¬ Own (envRun N) c → c ≠ B → (∀ e ∈ bk, e.2.1 ≠ c) → s.heap.get? c = some o → s'.heap.get? c = some o) → (∃ h' tk, s' = { s with heap := h', toks := tk }) → Q .next s') :
    wpAny (model pw w) A (execs pairBody (envRun N)) Q E s := by
  unfold pairBody
  obtain ⟨l1, l2⟩ := l
  obtain ⟨hn, y, hy, e2⟩ := hl
  dsimp only at hn e2
  subst e2
  have R := K.R
  have T := R.T
  refine wpAny_execs_cons (R.assignL (ρ' := ρ) (EvD.value (x := y) (nm := l1) T (ok.weak (by decide)) (Var.glob T rfl (by rfl) rfl (by kernel_rfl)) (R.var hp) (R.rd _ hp) hy (by rfl)) (by rfl) (fun e he => ⟨hno e he, he⟩) (fun v s2 R2 k2 sh2 => ?_) (by rfl))
  have K2 := K.frame R2 fun b o hb e => k2 b o (fun z => hb (.inl z)) e
  have kx : ∀ b o, ¬ Own (envRun N) b → s.heap.get? b = some o → s2.heap.get? b = some o := fun b o h e => k2 b o (fun z => h (.inl z)) e
  refine wpAny_execs_cons (K2.append ok (.tail _ hb) (.head _) (by rfl) ((EvD.pname R2.T (ok.weak (by decide)) (R2.var (.tail _ hp)) (R2.rd _ (.tail _ hp))).flat rfl) g fun bk' s3 K3 hbv hn3 hk3 sh3 => wpAny_execs_nil (hQ bk' s3 (K3.sub fun e he => .tail _ he) hbv (fun e he => (hn3 e he).imp id fun q => ?_) (fun c o hc hB hbk e => hk3 c o hB hbk (kx c o hc e)) ?_))
  · cases q2 : s.heap.get? e.2.1 with
    | none => rfl
    | some o =>
      by_cases z : Own (envRun N) e.2.1
      · exact absurd q (R2.ownA z)
      · rw [kx _ _ z q2] at q; cases q
  · obtain ⟨h1, t1, e1⟩ := sh2
    obtain ⟨h2, t2, e2⟩ := sh3
    exact ⟨h2, t2, by rw [e2, e1]⟩
theorem bookF_take {i : Nat} (h : ls[i]? = some l) : bookF (ls.take (i + 1)) = pushV (bookF (ls.take i)) l.1 (valD l) := by
  unfold bookF
  rw [take_succ h, List.foldl_append]
  rfl
theorem bookF_good : ∀ ls : List (Str × Str), GoodV (bookF ls) ls.length := fun ls => by
  have gen : ∀ (ls : List (Str × Str)) (bv : List (Str × List D)) (n : Nat), GoodV bv n → GoodV (ls.foldl (fun bv l => pushV bv l.1 (valD l)) bv) (n + ls.length) := by
    intro ls
    induction ls with
    | nil => intro bv n g; exact g
    | cons l ls ih =>
      intro bv n g
      have := ih _ (n + 1) (g.push l.1 (valD l))
      rw [List.foldl_cons, List.length_cons, Nat.add_comm ls.length 1, ← Nat.add_assoc]
      exact this
  have := gen ls [] 0 ⟨Nat.le_refl _, fun e he => nomatch he⟩
  rwa [Nat.zero_add] at this
theorem pair_loop (K : RBk w s₀ (envRun N) S0 Fs B bd (fun _ => False) [] ρ s) (ok : OkA 105 A) (hb : (("book" : Str), Value.ref B, D.atom (.ref B)) ∈ ρ) (hp : (("pairs" : Str), Value.ref P, D.lst (ls.map pairD)) ∈ ρ) (hno : ∀ e ∈ ρ, e.1 ≠ "value" ∧ e.1 ≠ "pair") (hl : ∀ l ∈ ls, LineOk l) (hlen : ls.length ≤ 400) {Q : Flow → Shared → Prop}
    (hQ : ∀ bk s', RBk w s₀ (envRun N) S0 Fs B bd (fun _ => False) bk ρ s' → bkV bk = bookF ls → (∃ h' tk, s' = { s with heap := h', toks := tk }) → Q .next s') :
    wpAny (model pw w) A (exec pairFor (envRun N)) Q E s := by
  unfold pairFor
  have R := K.R
  have rp := R.rd _ hp
  refine wpAny_For (wpAny_Name (R.var hp _ _ _ _ s (fun _ _ e => e) ?_) (by decide)) (fun _ => rfl)
  cases rp using RD.lstE with
  | lst sa ea ca da ra =>
  rename_i o vs nl
  have nI := new_none s.heap
  have aB : s.heap.get? B ≠ none := (R.newX B (.inl (.inl rfl))).2.1
  have nIO : ¬ Own (envRun N) s.heap.objs.size := fun z => R.ownA z nI
  have nIB : s.heap.objs.size ≠ B := fun z => aB (z ▸ nI)
  have noK : ∀ {a}, OkF s₀ (envRun N) S0 Fs (BX B bd [] fun _ => False) a → a ≠ B := fun h z => h.2.2.2 (.inl (.inl z))
  refine for_list3 (A := A) (xs := ls.map pairD) (S0 := fun a => OkF s₀ (envRun N) S0 Fs (BX B bd [] fun _ => False) a ∧ s.heap.get? a ≠ none) ok.hd ⟨_, ea, ca, _, da⟩ ra.dom (fun a => Own (envRun N) a ∨ a = B ∨ (s.heap.get? a = none ∧ a ≠ s.heap.objs.size)) (fun z => ?_) (fun a h z => ?_) (fun z => ?_) (fun d hd => ⟨_, .name⟩)
    (fun I i s' => ∃ s1 bk, RBk w s₀ (envRun N) S0 Fs B bd (fun a => a = I) bk ρ s1 ∧ bkV bk = bookF (ls.take i) ∧ (∀ e ∈ bk, s.heap.get? e.2.1 = none ∧ e.2.1 ≠ I) ∧ (∀ b o, b ≠ I → s1.heap.get? b = some o → s'.heap.get? b = some o) ∧ (∃ h' tk, s1 = { s with heap := h', toks := tk }) ∧ ∃ h' tk, s' = { s1 with heap := h', toks := tk }) ?_ ?_ ?_ ?_
  · rcases z with z | z | z
    · exact sa.2.1 z
    · exact noK sa z
    · rw [z.1] at ea; cases ea
  · rcases z with z | z | z
    · exact h.1.2.1 z
    · exact noK h.1 z
    · exact h.2 z.1
  · rcases z with z | z | z
    · exact nIO z
    · exact nIB z
    · exact z.2 rfl
  · intro h' k' hIa
    exact ⟨_, [], K.addI nI k' hIa, rfl, (fun e he => nomatch he), fun _ _ _ e => e, ⟨_, _, rfl⟩, _, _, rfl⟩
  · rintro i s' h' t' ⟨s1, bk, K1, hv, hn, hk1, sh1, h2, t2, rfl⟩ hx
    exact ⟨s1, bk, K1, hv, hn, fun c o hc e => hx c o hc (hk1 c o hc e), sh1, h', t', rfl⟩
  · rintro i d v s' hi ⟨s1, bk, K1, hv, hn, hk1, sh1, sh2⟩ rv kb hIa E'
    obtain ⟨l, hli, rfl⟩ := map_at hi
    have hlm := List.mem_of_getElem? hli
    have K2 := K1.it (Y' := fun a => a = s.heap.objs.size) rfl hk1 sh2 fun a h => ⟨h, h ▸ hIa⟩
    have nbk : ∀ {a}, s.heap.get? a ≠ none → a ≠ B → a ≠ bd → ¬ BX B bd bk (fun a => a = s.heap.objs.size) a := fun h h1 h2 z => by
      rcases z with (z | z | ⟨e, he, z⟩) | z
      · exact h1 z
      · exact h2 z
      · exact h (z ▸ (hn e he).1)
      · exact h (z ▸ nI)
    refine wpAny_assign_Name (K2.R.storeL (ρ' := ρ) (d := pairD l) (by rfl) (fun e he => ⟨(hno e he).2, he⟩) (rv.sub fun a h => ⟨h.1.1.1, h.1.1.2.1, h.1.1.2.2.1, nbk h.2 (noK h.1.1) fun z => h.1.1.2.2.2 (.inl (.inr (.inl z)))⟩) fun s3 R3 x3 sh3 => ?_)
    have K3 := K2.frame R3 fun b o hb e => x3 b o (fun z => hb (.inl z)) e
    have g : GoodV (bkV bk) 900 := by
      rw [hv]
      exact (bookF_good _).up (Nat.le_trans (List.length_take_le' _ _) (by omega))
    refine pair_turn K3 ok (.tail _ hb) (.head _) (fun e he => ?_) (hl l hlm) g fun bk' s4 K4 hbv hn4 hk4 sh4 => ⟨.inl rfl, ⟨s4, bk', K4.sub fun e he => .tail _ he, ?_, fun e he => ?_, fun _ _ _ e => e, ?_, _, _, rfl⟩, fun c o hc e => ?_⟩
    · rcases List.mem_cons.mp he with rfl | he
      · exact (show ("pair" : Str) ≠ "value" by decide)
      · exact (hno e he).1
    · rw [hbv, hv, bookF_take hli]
    · rcases hn4 e he with ⟨v', h⟩ | h
      · exact hn (e.1, e.2.1, v') h
      · have hI3 : s3.heap.get? s.heap.objs.size ≠ none := (K3.R.newX _ (.inr rfl)).2.1
        refine ⟨?_, fun z => hI3 (z ▸ h)⟩
        cases q : s.heap.get? e.2.1 with
        | none => rfl
        | some o =>
          by_cases q1 : Own (envRun N) e.2.1
          · exact absurd h (K3.R.ownA q1)
          by_cases q2 : e.2.1 = B
          · exact absurd h (q2 ▸ (K3.R.newX B (.inl (.inl rfl))).2.1)
          · have := x3 _ _ (fun z => q1 (.inl z)) (kb _ _ (fun z => z.elim q1 fun z => z.elim q2 fun z => by rw [z.1] at q; cases q) q)
            rw [h] at this; cases this
    · obtain ⟨h1, t1, e1⟩ := sh1
      obtain ⟨h2, t2, e2⟩ := sh2
      obtain ⟨h3, t3, e3⟩ := sh3
      obtain ⟨h4, t4, e4⟩ := sh4
      exact ⟨h4, t4, by rw [e4, e3, e2, e1]⟩
    · refine hk4 c o (fun z => hc (.inl z)) (fun z => hc (.inr (.inl z))) (fun u hu z => hc (.inr (.inr (z ▸ hn u hu)))) (x3 c o (fun z => hc (.inl (.inl z))) e)
  · rintro s' ⟨s1, bk, K1, hv, hn, hk1, sh1, sh2⟩ kk
    rw [List.length_map, List.take_length] at hv
    refine hQ bk s' (K1.it rfl hk1 sh2 fun a h => h.elim) hv ?_
    obtain ⟨h1, t1, e1⟩ := sh1
    obtain ⟨h2, t2, e2⟩ := sh2
    exact ⟨h2, t2, by rw [e2, e1]⟩
end
noncomputable def frzStmt : Stmt := .Expr (.Call (.Attribute (.Name "book" ⟨221, 4, 221, 8⟩) "freeze" ⟨221, 4, 221, 15⟩) [] [] ⟨221, 4, 221, 17⟩) ⟨221, 4, 221, 17⟩
theorem find_frz (w : World) : findIn (K01 w) (.ref 162) "freeze" = some (some (.ref 159)) := by kernel_rfl
theorem type_frz (w : World) : typeIn (K01 w) (.ref 159) = some (.type "function") := by kernel_rfl
theorem K_no154 (w : World) : (K01 w).lookup 154 = none := by kernel_rfl
theorem TabAt.nd {h h' : Heap} {ps : Array Value} (x : TabAt h ps) (k1 : h.get? 154 = h'.get? 154) (k : ∀ b o, (∀ es n, o.data ≠ .dict es n) → (∀ vs n, o.data ≠ .seq vs n) → h.get? b = some o → h'.get? b = some o) : TabAt h' ps :=
  ⟨k1 ▸ x.1, x.2.imp id fun ⟨c, e, c', oc, vs, t, e2, hoc, hd, r⟩ => ⟨c, e, c', oc, vs, t, e2, k _ _ (fun _ _ z => by rw [hd] at z; cases z) (fun _ _ z => by rw [hd] at z; cases z) hoc, hd, r⟩⟩
structure FSt (w : World) (s₀ : Shared) (env : Env) (S0 : Addr → Prop) (Fs : List Addr) (B bd : Addr) (bk : Bk) (ps : Array Value) (ρ : Rho) (s : Shared) : Prop where
  R : RSt w s₀ env S0 Fs (fun _ => False) ρ s
  st : BookSt w s.heap B bd (OkF s₀ env S0 Fs (fun _ => False)) bk
  bo : BdOk w true s.heap B bd
  hB : B ≠ bd
  bl : ∀ e ∈ bk, OkF s₀ env S0 Fs (fun _ => False) e.2.1
  tab : ∃ more, TabAt s.heap (ps ++ more)
  own : ¬ Own env B ∧ ¬ Own env bd
section
variable {w : World} {A : Around} {E : Value → Shared → Prop} {s₀ s : Shared} {env : Env} {S0 : Addr → Prop} {outer : List Env} {ρ : Rho} {B bd : Addr} {bk : Bk} {ps : Array Value}
theorem freeze_stmt (K : RBk w s₀ env S0 (framesOf outer) B bd (fun _ => False) bk ρ s) (ok : OkA 104 A) (hb : (("book" : Str), Value.ref B, D.atom (.ref B)) ∈ ρ) (AR : Around1 w s₀.heap outer) (tb : TabAt s₀.heap ps) (h154 : 154 ∉ framesOf outer) (hS : ¬ S0 154) {Q : Flow → Shared → Prop}
    (hQ : ∀ s₁ s', FSt w s₁ env S0 (framesOf outer) B bd bk ps ρ s' → (∀ b o, b ≠ 154 → s₀.heap.get? b = some o → s₁.heap.get? b = some o) → (∀ b, s₁.heap.get? b = none → s₀.heap.get? b = none) → (∃ h', s₁ = { s₀ with heap := h' }) → Around1 w s₁.heap outer → Q .next s')
    (hbase : attributeBase (.Name "book" ⟨221, 4, 221, 8⟩) "freeze" env (eval (.Name "book" ⟨221, 4, 221, 8⟩) env) = eval (.Name "book" ⟨221, 4, 221, 8⟩) env := by rfl) (hi : interactive env = false := by rfl)
    (hsw : swapsWith (.Call (.Attribute (.Name "book" ⟨221, 4, 221, 8⟩) "freeze" ⟨221, 4, 221, 15⟩) [] [] ⟨221, 4, 221, 17⟩) none 221 env = pure false := by rfl) :
    wpAny (model pw w) A (exec frzStmt env) Q E s := by
  unfold frzStmt
  have R := K.R
  have T := R.T
  obtain ⟨l, ep, eB, en⟩ := id K.st.book.at_
  have dF : ∀ {a : Addr} {o : Obj}, (∀ es n, o.data ≠ .dict es n) → s₀.heap.get? a = some o → a ∉ framesOf outer := fun hd e z => by
    obtain ⟨o', es, ep, e', hd'⟩ := AR.dict z
    rw [e'] at e; cases e; exact hd _ _ hd'
  have tbs : TabAt s.heap ps := tb.nd ((tb.1).trans (R.stand tb.1 h154).symm) fun b o h1 _ e => R.stand e (dF h1 e)
  refine wpAny_Expr (call_meth (trees := []) (by rfl) (wpAny_Name (R.var hb _ _ _ _ s (fun _ _ e => e) ?_) (by decide)) hbase) hi hsw
  intro pl
  refine getMethod_book T.K eB K.dk (find_frz w) (type_frz w) ?_
  refine callWith_function (PyProof.Rows.evalArgs_nil3 ⟨⟨T.K _ _ (K_frz w), rfl⟩, ?_⟩)
  show wpAny _ _ (PySem.call (.ref 159) [.ref B]) _ _ _
  refine wpAny_call (codeAny_mono (freeze_spec T (ok.weak (by decide)) eB K.dk tbs) fun r s2 h2 => ?_)
  obtain ⟨rfl, M, t, more, e2, _, hL, ht, hk, h3, t3, rfl⟩ := h2
  have n154 : ∀ {a}, s₀.heap.get? a = none → a ≠ 154 := fun e z => by rw [z, tb.1] at e; cases e
  have gU : (s₀.heap.update 154 fun _ => tabObj (ps ++ more)).get? 154 = some (tabObj (ps ++ more)) := Heap.get?_update_self _ tb.1 rfl
  have gO : ∀ b, b ≠ 154 → (s₀.heap.update 154 fun _ => tabObj (ps ++ more)).get? b = s₀.heap.get? b := fun b h => Heap.get?_update_other _ _ (Ne.symm h)
  generalize s₀.heap.update 154 (fun _ => tabObj (ps ++ more)) = H at *
  have no : ∀ b, H.get? b = none → s₀.heap.get? b = none := fun b h => by
    by_cases z : b = 154
    · rw [z, gU] at h; cases h
    · rw [← gO b z]; exact h
  have on : ∀ b, s₀.heap.get? b = none → H.get? b = none := fun b h => by rw [gO b (n154 h)]; exact h
  have bdX : BX B bd bk (fun _ => False) bd := .inl (.inr (.inl rfl))
  have bdO : ¬ Own env bd := K.notOwn bdX
  have bd0 : s₀.heap.get? bd = none := (R.newX bd bdX).1
  have k0 : KMu (fun a => a = 154) s₀.heap H := fun b o n e => by rw [gO b n]; exact e
  have ko : KOut w (fun a => a = 154) := ⟨fun a o e z => by (rw [z, K_no154] at e; cases e), by decide, by decide, by decide⟩
  have up : ∀ {X : Addr → Prop} {a : Addr}, OkF s₀ env S0 (framesOf outer) X a → OkF { s₀ with heap := H } env S0 (framesOf outer) (fun _ => False) a := fun h => ⟨h.1.imp id (on _), h.2.1, h.2.2.1, id⟩
  have ne154 : ∀ {X : Addr → Prop} {a : Addr}, OkF s₀ env S0 (framesOf outer) X a → a ≠ 154 := fun h z => h.1.elim (fun q => hS (z ▸ q)) fun q => n154 q z
  obtain ⟨m, cm, f1, f2, f3⟩ := R.frm
  have kOwn : ∀ {a o}, Own env a → s.heap.get? a = some o → h3.get? a = some o := fun h e => hk _ _ (n154 (R.newO _ h)) (fun z => bdO (z ▸ h)) e
  have T2 : TopH w h3 := top_kmu (Mu := fun a => a = 154 ∨ a = bd) T (fun b o n e => hk b o (fun z => n (.inl z)) (fun z => n (.inr z)) e) (by
    have off : ∀ {b : Addr} {o : Obj}, b ≠ 154 → s₀.heap.get? b = some o → ¬ (b = 154 ∨ b = bd) := fun h e z => z.elim h fun z => by rw [z, bd0] at e; cases e
    refine ⟨fun a o e => off (ko.1 a o e) (R.T0.K a o e), ?_, ?_, ?_⟩
    · obtain ⟨mb, ⟨o, es, ep, e, r⟩, z⟩ := R.T0.b; exact off ko.2.1 e
    · obtain ⟨mg, o, es, ep, e, r⟩ := R.T0.g; exact off ko.2.2.1 e
    · obtain ⟨mc, ⟨o, es, ep, e, r⟩, z⟩ := R.T0.nl; exact off ko.2.2.2 e)
  have hT0 : TopH w H := top_kmu R.T0 k0 ko
  have R' : RSt w { s₀ with heap := H } env S0 (framesOf outer) (fun _ => False) ρ { s with heap := h3, toks := t3 } := by
    refine ⟨hT0, T2, R.kfs, R.fn, ⟨m, cm, f1.at' fun o e => kOwn (.inl rfl) e, fun n c e => ?_, f3⟩, fun e he => (R.rd e he).mono (fun a o h e => hk a o (ne154 h) (fun z => h.2.2.2 (z ▸ bdX)) e) fun a h => up h, fun b o _ e => ?_, fun a h => on _ (R.newO a h), fun a h => h.elim, fun b hb z => R.fsA b hb (no b z), R.ap, ?_⟩
    · obtain ⟨o, eo, hd⟩ := f2 n c e
      exact ⟨o, kOwn (.inr ⟨n, e⟩) eo, hd⟩
    · by_cases z : b = 154
      · subst z
        have e' : h3.get? 154 = some o := by rw [← e]; exact ht.1.trans gU.symm
        exact ⟨fun hF => ⟨o.slots, e'⟩, fun _ => e'⟩
      · have e0 : s₀.heap.get? b = some o := by rw [← gO b z]; exact e
        have nb : b ≠ bd := fun q => by rw [q, bd0] at e0; cases e0
        have x := R.kf b o id e0
        exact ⟨fun hF => let ⟨sl, q⟩ := x.1 hF; ⟨sl, hk _ _ z nb q⟩, fun hF => hk _ _ z nb (x.2 hF)⟩
    · obtain ⟨h1, t1, e1⟩ := R.sh
      exact ⟨h3, t3, by rw [e1]⟩
  have nB154 : B ≠ 154 := n154 (R.newX B (.inl (.inl rfl))).1
  refine hQ { s₀ with heap := H } _ ⟨R', ?_, ⟨M, t, e2, hL⟩, K.hB, fun e he => ?_, ⟨more, ht⟩, K.notOwn (.inl (.inl rfl)), bdO⟩ (fun b o n e => k0 b o n e) no ⟨H, rfl⟩ (AR.slots fun b hb o e => ⟨o.slots, k0 b o (fun z => h154 (z ▸ hb)) e⟩)
  · refine (K.st.keep fun a o hm e => ?_).sub fun a h _ => ⟨h.1.imp id (on _), h.2.1, h.2.2.1, id⟩
    rcases hm with (z | ⟨g, hg, z⟩) | h
    · subst z; exact hk _ _ nB154 K.hB e
    · have hx : BX B bd bk (fun _ => False) a := .inl (.inr (.inr ⟨g, hg, z⟩))
      exact hk _ _ (n154 (R.newX a hx).1) (fun q => (K.st.ne g hg).2 (z.trans q)) e
    · exact hk _ _ (fun q => h.1.elim (fun y => hS (q ▸ y)) fun y => n154 y q) h.2.2.2.1 e
  · have hx : BX B bd bk (fun _ => False) e.2.1 := .inl (.inr (.inr ⟨e, he, rfl⟩))
    have hn := R.newX _ hx
    exact ⟨.inr (on _ hn.1), hn.2.2, fun z => R.fsA _ z hn.1, id⟩
end
section
variable {w : World} {A : Around} {E : Value → Shared → Prop} {env : Env} {h : Heap} {S : Addr → Prop}
theorem EvD.frz (T : TopH w h) (ok : OkA 106 A) {B bd : Addr} {P : Addr → Prop} {bk : Bk} {x : Str} {p pos : Pos} {slice : Expr} (vb : Var env h "book" (.ref B)) (b : BookSt w h B bd P bk) (hbd : BdOk w true h B bd) (hB : B ≠ bd) (hsz : bk.length ≤ sizeLine) (hP : Up h P S) (hl : ∀ e ∈ bk, S e.2.1)
    (ev : EvD pw w A env h (fun _ => False) slice (.str x)) (hs : ∀ o i, subscripted slice false o i = operate [o, i] (getItem o i) := by intro _ _; rfl) :
    EvD pw w A env h S (.Subscript (.Name "book" p) slice pos) (.lst (getV (bkV bk) x)) := fun s E k => by
  have b1 : BookSt w s.heap B bd S bk := (b.sub hP).keep fun a o _ e => k _ _ e
  have hbd1 : BdOk w true s.heap B bd := by obtain ⟨M, tk, e, L⟩ := hbd; exact ⟨M, tk, k _ _ e, L.keep fun b o _ _ e => k _ _ e⟩
  refine wpAny_mono (ev_item (T.mono k) ok (vb.mono k) b1 hbd1 hB hsz (ev.mono k) hs) (fun r s' q => ?_) fun _ _ q => q
  obtain ⟨a, rfl, ⟨⟨its, ⟨n, hp⟩, r⟩, _, hnew, hsh, _, hle⟩⟩ := q
  refine ⟨.lst ?_ hp rfl rfl (r.sub fun c z => .inl z.1), hle rfl, hsh⟩
  rcases hnew with q | ⟨e, he, q⟩
  · exact .inr q
  · exact .inl (q ▸ hl e he)
end
section
variable {w : World} {A : Around} {E : Value → Shared → Prop} {s₀ s : Shared} {env : Env} {S0 : Addr → Prop} {Fs : List Addr} {X : Addr → Prop} {ρ ρ' : Rho}
theorem RSt.assignComp {elt target iter : Expr} {ifs : List Expr} {scope : Scope} {cl : List (Str × Addr)} {pos spos py : Pos} {y : Str} {xs : List D} {Q : Flow → Shared → Prop} (R : RSt w s₀ env S0 Fs X ρ s) (bd : D → List (Str × D)) (p : D → Bool) (g : D → D)
    (src : SrcL pw w A env s.heap (OkF s₀ env S0 Fs X) iter xs) (ok : OkA 0 A) (hclos : closureFor scope env = pure cl) (hb : ∀ d ∈ xs, Bd target d (bd d)) (hloc : ∀ d ∈ xs, ∀ x e, (x, e) ∈ bd d → scope.names.lookup x = some .local)
    (hel : ∀ d ∈ xs, EltOk pw w A env scope cl s.heap (OkF s₀ env S0 Fs X) ifs elt (bd d) (p d) (g d)) (hsz : xs.length ≤ sizeLine) (hy : env.kindOf y = some .local) (hx : ∀ e ∈ ρ', e.1 ≠ y ∧ e ∈ ρ)
    (hQ : ∀ v s', RSt w s₀ env S0 Fs X ((y, v, .lst ((xs.filter p).map g)) :: ρ') s' → KeepBut (fun a => a = env.locals) s.heap s'.heap → (∃ h' tk, s' = { s with heap := h', toks := tk }) → Q .next s')
    (hsw : swapsWith (.ListComp elt [⟨target, iter, ifs, 0⟩] scope pos) (some (.Name y py)) spos.line env = pure true := by rfl) (hcell : ∀ y ∈ scope.names, y.2 ≠ .cell := by decide) (hkind : scope.kind = .function := by rfl) (hnames : ∀ y ∈ scope.names, y.2 = .local → scope.names.lookup y.1 = some .local := by decide)
    (hst : ∀ x, foldedSetIterable iter env x = pure x := by intro _; rfl) :
    wpAny (model pw w) A (exec (.Assign [.Name y py] (.ListComp elt [⟨target, iter, ifs, 0⟩] scope pos) spos) env) Q E s := by
  obtain ⟨m, cm, h1, h2, h3⟩ := R.frm
  refine assign_comp (h := s.heap) (S := OkF s₀ env S0 Fs X) bd p g hsw src (fun _ _ e => e) ok hclos hcell hkind hnames hb hloc hel hsz hy (by rw [R.fn]; rfl) h1 (fun D h' tk hD rD hn _ hx' => ?_) (fun z => z.2.1 (.inl rfl)) hst
  refine hQ (.ref D) _ (R.step (.of_kmu (.of_but hx' (.inl (.inl rfl)))) ⟨_, _, rfl⟩ ⟨_, cm, hn, fun n c e => ?_, fun e he => ?_⟩ (fun e he => ?_) (R.ownDom hx' fun o _ => ?_)) (fun b o hb e => hx' b o hb e) ⟨_, _, rfl⟩
  · obtain ⟨o, eo, hd⟩ := h2 n c e
    exact ⟨o, hx' _ _ (R.ap.2 n c e) eo, hd⟩
  · rcases List.mem_cons.mp he with rfl | he
    · exact .inl ⟨hy, if_pos rfl⟩
    · rcases h3 e (hx e he).2 with ⟨q1, q2⟩ | q
      · exact .inl ⟨q1, (if_neg (hx e he).1).trans q2⟩
      · exact .inr q
  · rcases List.mem_cons.mp he with rfl | he
    · exact .inr (R.fr rD)
    · exact .inl (hx e he).2
  · obtain ⟨o, _, _, e, _⟩ := hn; exact some_ne e
end
noncomputable abbrev scFnd : Scope := { kind := .function, names := [(".0", .local), ("name", .local), ("book", .free)], isGenerator := false, isCoroutine := false }
noncomputable def fndStmt : Stmt := .Assign [.Name "found" ⟨222, 4, 222, 9⟩] (.ListComp (.Subscript (.Name "book" ⟨222, 13, 222, 17⟩) (.Name "name" ⟨222, 18, 222, 22⟩) ⟨222, 13, 222, 23⟩) [⟨.Name "name" ⟨222, 28, 222, 32⟩, .Name "names" ⟨222, 36, 222, 41⟩, [], 0⟩] scFnd ⟨222, 12, 222, 42⟩) ⟨222, 4, 222, 42⟩
noncomputable def foundD (bv : List (Str × List D)) (ns : List Str) : D := .lst (ns.map fun n => .lst (getV bv n))
noncomputable def nameBd (d : D) : List (Str × D) := [("name", d)]
noncomputable def getD_ (bv : List (Str × List D)) : D → D
  | .str x => .lst (getV bv x)
  | d => d
section
variable {w : World} {A : Around} {E : Value → Shared → Prop} {s₀ s : Shared} {N : Nat} {S0 : Addr → Prop} {Fs : List Addr} {B bd : Addr} {bk : Bk} {ps : Array Value} {ρ ρ' : Rho}
theorem FSt.frame {env : Env} {s' : Shared} (K : FSt w s₀ env S0 Fs B bd bk ps ρ s) (R' : RSt w s₀ env S0 Fs (fun _ => False) ρ' s') (k : KeepBut (fun a => a = env.locals) s.heap s'.heap) : FSt w s₀ env S0 Fs B bd bk ps ρ' s' := by
  obtain ⟨m, cm, ⟨oL, es, epL, eL, hdL, _⟩, f2, f3⟩ := K.R.frm
  obtain ⟨l, ep, eB, _⟩ := id K.st.book.at_
  have nD : ∀ {b o}, (∀ es n, o.data ≠ .dict es n) → s.heap.get? b = some o → b ≠ env.locals := fun h1 e z => by
    rw [z, eL] at e; cases e; exact h1 _ _ hdL
  obtain ⟨M, tk, e, L⟩ := K.bo
  obtain ⟨more, ht⟩ := K.tab
  have n154 : (154 : Addr) ≠ env.locals := nD (fun _ _ z => by cases z) ht.1
  have nB : B ≠ env.locals := fun z => K.own.1 (.inl z)
  refine ⟨R', K.st.keep fun a o hm e => k a o (fun z => ?_) e, ⟨M, tk, k _ _ (fun z => K.own.2 (.inl z)) e, L.keep fun b o h1 _ e => k _ _ (nD h1 e) e⟩, K.hB, K.bl, ⟨more, ht.nd (ht.1.trans (k _ _ n154 ht.1).symm) fun b o h1 _ e => k _ _ (nD h1 e) e⟩, K.own⟩
  · rcases hm with (q | ⟨g, hg, q⟩) | h
    · exact nB (q.symm.trans z)
    · exact (K.bl g hg).2.1 (.inl (q.trans z))
    · exact h.2.1 (.inl z)
theorem found_stmt (K : FSt w s₀ (envRun N) S0 Fs B bd bk ps ρ s) (ok : OkA 106 A) (hb : (("book" : Str), Value.ref B, D.atom (.ref B)) ∈ ρ) {nv : Value} {ns : List Str} (hn : (("names" : Str), nv, D.lst (ns.map .str)) ∈ ρ) (hno : ∀ e ∈ ρ, e.1 ≠ "found") (hlen : ns.length ≤ 100) (hbk : bk.length ≤ 1000) {Q : Flow → Shared → Prop}
    (hQ : ∀ v s', FSt w s₀ (envRun N) S0 Fs B bd bk ps (("found", v, foundD (bkV bk) ns) :: ρ) s' → (∃ h' tk, s' = { s with heap := h', toks := tk }) → Q .next s') :
    wpAny (model pw w) A (exec fndStmt (envRun N)) Q E s := by
  unfold fndStmt
  have hsl : (1000 : Nat) ≤ sizeLine := by decide
  have R := K.R
  obtain ⟨c, hc, hcl⟩ : ∃ c, (envRun N).cells.lookup ("book" : Str) = some c ∧ closureFor scFnd (envRun N) = pure [(("book" : Str), c)] := ⟨_, by rfl, by rfl⟩
  have cB := R.cell hb (by rfl) hc
  refine R.assignComp (ρ' := ρ) nameBd (fun _ => true) (getD_ (bkV bk)) (R.src hn) (ok.weak (by decide)) hcl (fun d hd => ?_) (fun d hd x e he => ?_) (fun d hd => ?_) (by rw [List.length_map]; omega) (by rfl) (fun e he => ⟨hno e he, he⟩) (fun v s' R' k' sh => ?_)
  · exact .name
  · rcases List.mem_singleton.mp he with h
    cases h
    rfl
  · obtain ⟨x, hx, rfl⟩ := List.mem_map.mp hd
    intro S' C h' m up k hns hbi
    refine ⟨rfl, fun _ => ?_⟩
    obtain ⟨v, hv, rv⟩ := hbi _ _ (.head _)
    cases rv using RD.strE with
    | str t =>
    refine EvD.frz (R.T.mono k) ok (B := B) (bd := bd) (bk := bk) (P := fun a => OkF s₀ (envRun N) S0 Fs (fun _ => False) a ∧ s.heap.get? a ≠ none) (Var.cell (c := c) rfl (relabel_free rfl (by rfl) rfl) rfl (cB.keeps k)) ((K.st.sub fun a h al => ⟨h, al⟩).keep fun a o _ e => k _ _ e) ?_ K.hB (by omega) (fun a h al => up a h.1 h.2) (fun e he => up _ (K.bl e he) ?_) (EvD.name (Var.loc rfl (by rfl) hns hv) (.str _ _))
    · obtain ⟨M, tk, e, L⟩ := K.bo; exact ⟨M, tk, k _ _ e, L.keep fun b o _ _ e => k _ _ e⟩
    · obtain ⟨its, ⟨n, e⟩, _⟩ := K.st.lst e he; exact some_ne e
  · refine hQ v s' (K.frame ?_ k') sh
    have e1 : foundD (bkV bk) ns = .lst (((ns.map D.str).filter fun _ => true).map (getD_ (bkV bk))) := by rw [filter_yes, List.map_map]; rfl
    rw [e1]
    exact R'
end
noncomputable def FFNext (Fs : List Addr) (I R : Addr) (S : Str → Bool) (xs : List Str) (i0 : Nat) (s : Shared) (r : Option Value) (s' : Shared) : Prop :=
  (∃ j x t, i0 ≤ j ∧ xs[j]? = some x ∧ S x = false ∧ (∀ k y, i0 ≤ k → k < j → xs[k]? = some y → S y = true) ∧ r = some (.str x t) ∧ s'.heap.IsListIter I R (j + 1) ∧ Heap.ExtBut I s.heap s'.heap ∧ ∃ h' tk, s' = { s with heap := h', toks := tk }) ∨
  ((∀ k y, i0 ≤ k → xs[k]? = some y → S y = true) ∧ r = none ∧ EndChg Fs I s.heap s'.heap ∧ ∃ h' tk, s' = { s with heap := h', toks := tk })
section
variable {w : World} {A : Around} {s : Shared} {E : Value → Shared → Prop}
theorem ff_next (T : TopH w s.heap) (ok : OkA 107 A) {outer : List Env} (hfr : A.frames = some outer) (hO : OuterOk s.heap outer) {F I B d Sa R : Addr} {S : Str → Bool} {n i0 : Nat} {xs : List Str} (eF : s.heap.get? F = some (ffO I B d)) (ed : s.heap.get? d = some emptyD)
    (eB : s.heap.get? B = some (bmSet "set.__contains__" Sa)) (hS : s.heap.SetOf (strKind pw w) Sa S n) (row : RowAt s.heap R xs) (hit : s.heap.IsListIter I R i0) (hI : (∀ a o, (K01 w).lookup a = some o → a ≠ I) ∧ builtinsNs ≠ I ∧ mainGlobals ≠ I ∧ cStatics ≠ I) (hi0 : i0 ≤ xs.length) :
    wpAny (model pw w) A (pyNext (.ref F)) (FFNext (framesOf outer) I R S xs i0 s) E s := by
  unfold pyNext
  refine wpAny_bind (wpAny_attempt (special_fn (name := "__next__") (args := []) T.K (instFF eF ed) (f := 68) (by kernel_rfl) (by kernel_rfl) (wpAny_call (codeAny_mono (ff_call T ok hfr hO eF ed eB hS row hit hI hi0) fun r s' h => ?_))))
  rcases h with ⟨j, x, t, h1, h2, h3, h4, rfl, h5, h6, h7⟩ | ⟨h1, e, rfl, hT, h2, h3⟩
  · exact wpAny_pure (.inl ⟨j, x, t, h1, h2, h3, h4, rfl, h5, h6, h7⟩)
  · refine wpAny_bind (wpAny_isInstance (T := "StopIteration") (b := true) hT isSubtype_stop ?_)
    exact wpAny_pure (.inr ⟨h1, rfl, h2, h3⟩)
end
theorem over_frames {A : Around} {env env' : Env} {outer : List Env} {t : Expr} {it : Value} {b body : List Stmt} {K : Flow → Sem Fin} {H : Value → Sem Fin} {p : Pos} (hfr : A.frames = some outer) :
    (A.over (.forLoop t it b [] env') [loopRet env K H id id (.func body env) p]).frames = some (env :: outer) := by
  simp only [Around.over, hfr]
  rfl
section
variable {w : World} {A : Around} {O : Addr → Prop} {C R : Addr} {outer : List Env} {Sa BM I F B d : Addr} {body : List Stmt} {K1 : Flow → Sem Fin} {H1 : Value → Sem Fin} {p0 pe : Pos}
theorem seg_none (ok : OkA 112 A) (hfr : A.frames = some outer) (hK1 : K1 .next = .pure (.done (.ret .none))) (hF : ∀ b ∈ framesOf outer, O b) (hC : ¬ O F ∧ ¬ O I ∧ ¬ O B ∧ ¬ O d) (hC2 : F ≠ C ∧ I ≠ C ∧ B ≠ C ∧ d ≠ C) : ∀ (n i : Nat) (S : Str → Bool) (xs : List Str) (s₀ s : Shared) (m : Str → Option Value),
    GSt w (fun x => x) O C R .none n S xs Sa BM s₀ s m → OuterOk s₀.heap outer → s.heap.get? F = some (ffO I B d) → s.heap.get? d = some emptyD → s.heap.get? B = some (bmSet "set.__contains__" Sa) → s.heap.IsListIter I R i → i ≤ xs.length → (∀ j y, j < i → xs[j]? = some y → S y = true) →
    Seg (model pw w) A (GR w (fun x => x) O C R outer) (GY w (fun x => x) O C R outer) n s₀ (.forLoop (.Name "element" pe) (.ref F) ueNone [] (envUe C)) ((model pw w).den (.forLoop (.Name "element" pe) (.ref F) ueNone [] (envUe C))) [loopRet (envUe C) K1 H1 id id (.func body (envUe C)) p0] s := by
  intro n
  induction n using Nat.strongRecOn with
  | ind n ihn =>
  intro i S xs s₀ s m G hO eF ed eB hit hil hseen
  have okA := overOk (env := envUe C) (env' := envUe C) (t := .Name "element" pe) (it := .ref F) (b := ueNone) (body := body) (K := K1) (H := H1) (p := p0) (OkA.weak (m := 110) ok (by decide))
  have ok107 : OkA 107 (A.over (.forLoop (.Name "element" pe) (.ref F) ueNone [] (envUe C)) [loopRet (envUe C) K1 H1 id id (.func body (envUe C)) p0]) := overOk2 ok
  have hfr2 := over_frames (env := envUe C) (env' := envUe C) (t := .Name "element" pe) (it := .ref F) (b := ueNone) (body := body) (K := K1) (H := H1) (p := p0) hfr
  have hIC : I ≠ C := hC2.2.1
  obtain ⟨oI, eI, cI, dI⟩ := id hit
  obtain ⟨oS, esS, epS, tS, eS, dS⟩ := G.objS
  have nS : ∀ {b : Addr} {o : Obj}, s.heap.get? b = some o → (∀ es n t, o.data ≠ .set es n t) → b ≠ Sa := fun e hn q => by rw [q, eS] at e; cases e; exact hn _ _ _ dS
  have hIS : I ≠ Sa := nS eI fun _ _ _ z => by rw [dI] at z; cases z
  have hO2 : OuterOk s.heap (envUe C :: outer) := fun env he => by
    rcases List.mem_cons.mp he with rfl | he
    · obtain ⟨o, es, ep, e, hd, _⟩ := G.ns
      exact ⟨show ScopeKind.function ≠ ScopeKind.module by decide, C, o, rfl, e, fun vs z => by rw [hd] at z; cases z⟩
    · obtain ⟨hk, L, o, hf, ho, hd⟩ := hO env he
      exact ⟨hk, L, o, hf, G.chg.low G.nC (hF L (List.mem_filterMap.mpr ⟨env, he, hf⟩)) ho, hd⟩
  obtain ⟨kk, hset, _⟩ := G.set
  refine seg_forLoop (wpAny_mono (ff_next G.T ok107 hfr2 hO2 eF ed eB hset G.row hit ⟨fun a o e q => hC.2.1 (q ▸ G.lk.1 a o e), fun q => hC.2.1 (q ▸ G.lk.2.1), fun q => hC.2.1 (q ▸ G.lk.2.2.1), fun q => hC.2.1 (q ▸ G.lk.2.2.2)⟩ hil) (fun r s1 hr => ?_) fun _ _ q => q)
  rcases hr with ⟨j, x, t, hij, hx, hSx, hbt, rfl, hit1, hx1, hsh⟩ | ⟨hall, rfl, hend, hsh⟩
  · have hxn : x ∈ names8 := G.row.good x (List.mem_of_getElem? hx)
    have hseen2 : ∀ k y, k < j → xs[k]? = some y → S y = true := fun k y hk hy => by
      by_cases q : k < i
      · exact hseen k y q hy
      · exact hbt k y (Nat.le_of_not_lt q) hk hy
    have hfr' : fresh? (fun x => x) S xs = some x := fresh_at (f := fun x => x) hx hseen2 hSx
    have G1 : GSt w (fun x => x) O C R .none n S xs Sa BM s₀ s1 m := G.ext hsh (Chg.of_iter hx1 hC.2.1 eI cI) (G.ns.at' fun o e => hx1 _ _ (Ne.symm hIC) e) (fun _ _ => rfl) fun o e => hx1 _ _ (Ne.symm hIS) e
    have nII : ∀ {b : Addr} {o : Obj}, s.heap.get? b = some o → o.cls ≠ .type "list_iterator" → b ≠ I := fun e hn q => by rw [q, eI] at e; cases e; exact hn cI
    have eF1 := hx1 _ _ (nII eF (show Value.ref 72 ≠ Value.type "list_iterator" by decide)) eF
    have ed1 := hx1 _ _ (nII ed (show Value.type "dict" ≠ Value.type "list_iterator" by decide)) ed
    have eB1 := hx1 _ _ (nII eB (show Value.type "builtin_function_or_method" ≠ Value.type "list_iterator" by decide)) eB
    refine G1.store (by rfl) (by decide) fun s2 G2 x2 sh2 => ?_
    cases n with
    | zero => exact absurd (cnt_add (f := fun x => x) hxn hSx) (by have := G.fuel; omega)
    | succ n =>
    have hit2 : s2.heap.IsListIter I R (j + 1) := hit1.at fun o e => x2 _ _ hIC e
    refine seg_addYield (x := x) (y := "element") G2 (by rfl) (by decide) (upd_eq (m := m)) (upd_eq (m := m)) hxn hfr' rfl rfl rfl (fun s'' ys G6 kf hO'' => ?_) (by rfl)
    show Seg _ _ _ _ _ _ _ (.pure (.again (.forLoop (.Name "element" pe) (.ref F) ueNone [] (envUe C)))) _ _
    have up : ∀ {b : Addr} {o : Obj}, s1.heap.get? b = some o → ¬ O b → b ≠ C → b ≠ Sa → s''.heap.get? b = some o := fun e hb hc n => kf _ _ hb n (x2 _ _ hc e)
    have hjl : j < xs.length := (List.getElem?_eq_some_iff.mp hx).1
    refine seg_again rfl (ihn n (Nat.lt_succ_self _) (j + 1) _ (xs ++ ys) s'' _ _ G6 hO'' (up eF1 hC.1 hC2.1 (nS eF fun _ _ _ z => by cases z)) (up ed1 hC.2.2.2 hC2.2.2.2 (nS ed fun _ _ _ z => by cases z)) (up eB1 hC.2.2.1 hC2.2.2.1 (nS eB fun _ _ _ z => by cases z))
      (hit2.at fun o e => kf _ _ hC.2.1 hIS e) (by rw [List.length_append]; omega) fun k y hk hy => ?_)
    have hkl : k < xs.length := by omega
    rw [List.getElem?_append_left hkl] at hy
    rcases Nat.lt_succ_iff_lt_or_eq.mp hk with hk | rfl
    · show (S y || decide (y = x)) = true
      rw [hseen2 k y hk hy]; rfl
    · rw [hx] at hy; cases hy
      show (S x || decide (x = x)) = true
      simp
  · intro c'
    refine seg_loopEnd ?_
    rw [hK1]
    have hnone : fresh? (fun x => x) S xs = none := by
      rw [List.find?_eq_none]
      intro y hy
      obtain ⟨j, hj, e2⟩ := List.mem_iff_getElem.mp hy
      have e3 : xs[j]? = some y := by rw [List.getElem?_eq_getElem hj, e2]
      by_cases q : j < i
      · simp [hseen j y q e3]
      · simp [hall j y (Nat.le_of_not_lt q) e3]
    refine seg_end (.ok (.ret .none)) ⟨rfl, S, xs, G.st₀, G.row₀, hnone, G.chg.thenF (fun b o e nC => ⟨fun hb => ?_, fun hb z => ?_⟩) hF, ?_⟩
    · exact (hend b o e (fun q => hC.2.1 (q ▸ hF b hb))).1 (List.mem_cons_of_mem _ hb)
    · have nI : b ≠ I := fun q => by
        rw [q, eI] at e; cases e
        rcases z with z | z
        · exact hC.2.1 (q ▸ z)
        · exact z.2 cI
      exact (hend b o e nI).2 (fun q => by
        rcases List.mem_cons.mp q with q | q
        · exact nC q
        · exact hb q)
    · obtain ⟨h1, t1, e1⟩ := G.sh
      obtain ⟨h2, t2, e2⟩ := hsh
      exact ⟨h2, t2, by rw [e2, e1]⟩
end
theorem overOk0 {A : Around} {env : Env} {body : List Stmt} (ok : OkA 112 A) : OkA 110 (A.over (.func body env) []) :=
  ⟨ok.hd, by have h1 : (A.over (.func body env) []).depth = A.depth + 0 + 1 := rfl
             have := ok.dp; omega,
   by have h1 : (A.over (.func body env) []).units = A.units + 0 + 3 := rfl
      have := ok.un; omega⟩
theorem keep72 (w : World) : keepIn (K01 w) (.ref 72) = true := by kernel_rfl
section
variable {w : World} {A : Around} {E : Value → Shared → Prop} {f : Str → Str} {O : Addr → Prop} {C R : Addr} {outer : List Env} {kv : Value} {n : Nat} {xs : List Str} {s : Shared} {m : Str → Option Value}
theorem seg_head (ok : OkA 112 A) (T : TopH w s.heap) (hns : s.heap.Ns C m) (hi : m "iterable" = some (.ref R)) (hk : m "key" = some kv) (hse : m "seen" = none) (row : RowAt s.heap R xs) (hOld : ∀ b, O b → s.heap.get? b ≠ none) (hOR : O R) (hC : ¬ O C)
    (lk : (∀ a o, (K01 w).lookup a = some o → O a) ∧ O builtinsNs ∧ O mainGlobals ∧ O cStatics) (hf : cnt f (fun _ => false) ≤ n) (hn : n ≤ 50) {rest : List Stmt} {K : Flow → Sem Fin} {H : Value → Sem Fin} {body : List Stmt}
    (h : ∀ Sa BM s5 m5 t, GSt w f O C R kv n (fun _ => false) xs Sa BM s s5 m5 → s5.heap.get? Sa = some ⟨.type "set", none, .set #[] 0 t, #[]⟩ → (∀ b, O b → s5.heap.get? b ≠ none) →
      Seg (model pw w) A (GR w f O C R outer) (GY w f O C R outer) n s (.func body (envUe C)) ((execs rest (envUe C)).wrap K H id id) [] s5) :
    Seg (model pw w) A (GR w f O C R outer) (GY w f O C R outer) n s (.func body (envUe C)) ((execs (.Expr (.Constant (.str "List unique elements, preserving order. Remember all elements ever seen.") 0 ⟨27, 4, 27, 82⟩) ⟨27, 4, 27, 82⟩ ::
      .Assign [.Name "seen" ⟨28, 4, 28, 8⟩] (.Call (.Name "set" ⟨28, 11, 28, 14⟩) [] [] ⟨28, 11, 28, 16⟩) ⟨28, 4, 28, 16⟩ ::
      .Assign [.Name "seen_add" ⟨29, 4, 29, 12⟩] (.Attribute (.Name "seen" ⟨29, 15, 29, 19⟩) "add" ⟨29, 15, 29, 23⟩) ⟨29, 4, 29, 23⟩ :: rest) (envUe C)).wrap K H id id) [] s := by
  have okA := overOk0 (env := envUe C) (body := body) ok
  refine seg_stmt (wpAny_Expr (Constant_str ⟨rfl, ?_⟩) (by rfl) (by rfl))
  have k1 : Kp s { s with toks := s.toks + 1 } := Kp.tk _ _
  generalize hs1 : ({ s with toks := s.toks + 1 } : Shared) = s1
  have k1 : Kp s s1 := by rw [← hs1]; exact k1
  have T1 := T.mono k1.le
  refine seg_stmt (wpAny_Assign_Name (wpAny_Call_NameR (wpAny_Name (Var.bi T1 rfl (by rfl) rfl rfl (by kernel_rfl) (v := .type "set") (by decide) (by rfl) _ _ _ _ s1 (fun _ _ e => e) ?_) (by decide))) (by rfl))
  refine PySem.callWith_type (by rfl) (PyProof.Rows.evalArgs_nil3 (call_set_0 fun led => ?_))
  have k2 : Kp s1 { s1 with heap := s1.heap.push { cls := .type "set", dict := none, data := .set #[] 0 (.fresh 0 0 led) } } := Kp.of' fun b o e => Heap.get?_push_of_some _ e
  have hS2 : (s1.heap.push { cls := .type "set", dict := none, data := .set #[] 0 (.fresh 0 0 led) }).get? s1.heap.objs.size = some ⟨.type "set", none, .set #[] 0 (.fresh 0 0 led), #[]⟩ := Heap.get?_push_size _ rfl
  have nSa : s1.heap.get? s1.heap.objs.size = none := new_none _
  generalize hs2 : ({ s1 with heap := s1.heap.push { cls := .type "set", dict := none, data := .set #[] 0 (.fresh 0 0 led) } } : Shared) = s2 at k2
  have hS2' : s2.heap.get? s1.heap.objs.size = some ⟨.type "set", none, .set #[] 0 (.fresh 0 0 led), #[]⟩ := by rw [← hs2]; exact hS2
  generalize s1.heap.objs.size = Sa at *
  have k12 := k1.tr k2
  have T2 := T.mono k12.le
  have hns2 := hns.keeps k12.le
  have nSa' : s.heap.get? Sa = none := fresh_le k1.le nSa
  have aliveC : ∀ {h : Heap} {m : Str → Option Value}, h.Ns C m → h.get? C ≠ none := fun ⟨o, _, _, e, _⟩ => some_ne e
  have hSaO : ¬ O Sa := fun z => hOld _ z nSa'
  have hSaC : Sa ≠ C := fun z => aliveC hns (z ▸ nSa')
  show wpAny _ _ (storeName (envUe C) "seen" (.ref Sa)) _ _ s2
  refine wpAny_storeName_local (by rfl) hns2 fun h3 hns3 hs3 => ⟨rfl, ?_⟩
  have x3 := hs3.extBut
  generalize hs3' : ({ heap := h3, gens := s2.gens, drawn := s2.drawn, toks := s2.toks + 1, os := s2.os } : Shared) = s3
  have hns3 : s3.heap.Ns C (fun y => if y = "seen" then some (.ref Sa) else m y) := by rw [← hs3']; exact hns3
  have x3 : Heap.ExtBut C s2.heap s3.heap := by rw [← hs3']; exact x3
  have low3 : ∀ b o, s2.heap.get? b = some o → O b → s3.heap.get? b = some o := fun b o e hb => x3 b o (fun z => hC (z ▸ hb)) e
  have T3 : TopH w s3.heap := top_chg T2 low3 lk.1 lk.2
  have hS3 := x3 _ _ hSaC hS2'
  have sh3 : ∃ h' tk, s3 = { s with heap := h', toks := tk } := by
    obtain ⟨_, ha, ta, e⟩ := k12
    rw [← hs3', e]
    exact ⟨h3, ta + 1, rfl⟩
  refine seg_stmt (wpAny_Assign_Name (wpAny_mono (ev_setAdd T3 (okA.weak (by decide)) (Var.loc rfl (by rfl) hns3 (by rfl)) hS3) (fun v s4 h4 => ?_) fun _ _ q => q) (by rfl))
  obtain ⟨BM, rfl, eBM, nBM, k4⟩ := h4
  have hns4 := hns3.keeps k4.le
  have hS4 := k4.le _ _ hS3
  have nBMs : s.heap.get? BM = none := by
    cases q : s.heap.get? BM with
    | none => rfl
    | some o =>
      have hBC : BM ≠ C := fun z => aliveC hns3 (z ▸ nBM)
      rw [x3 _ _ hBC (k12.le _ _ q)] at nBM; cases nBM
  have hBO : ¬ O BM := fun z => hOld _ z nBMs
  have hBC : BM ≠ C := fun z => aliveC hns3 (z ▸ nBM)
  refine wpAny_storeName_local (by rfl) hns4 fun h5 hns5 hs5 => ⟨rfl, ?_⟩
  have x5 := hs5.extBut
  have c25 : Chg O C s.heap h5 := (Chg.of_le k12.le).trans ((Chg.of_self x3).trans ((Chg.of_le k4.le).trans (Chg.of_self x5)))
  have hS5 : h5.get? Sa = some ⟨.type "set", none, .set #[] 0 (.fresh 0 0 led), #[]⟩ := x5 _ _ hSaC hS4
  refine h Sa BM _ _ (.fresh 0 0 led) ⟨?_, ⟨m, hns, .inl ⟨hse, rfl⟩⟩, row, c25, top_chg T (fun b o e hb => c25.low hC hb e) lk.1 lk.2, hns5, ?_, ?_, by rfl, by rfl, x5 _ _ hBC eBM, ?_, hf, hOR, lk, hC, ⟨hSaO, hSaC⟩, hBO, hBC⟩ hS5 fun b hb => ?_
  · obtain ⟨h', tk, e⟩ := sh3
    obtain ⟨_, ha, ta, e4⟩ := k4
    exact ⟨h5, s4.toks + 1, by rw [e4, e]⟩
  · exact hi
  · exact hk
  · exact ⟨0, ⟨_, #[], 0, _, hS5, ⟨rfl, rfl, rfl⟩, rfl, fun e he => by simp at he, fun k => by simp, by decide, by rfl, rfl⟩, by omega⟩
  · cases q : s.heap.get? b with
    | none => exact absurd q (hOld b hb)
    | some o => exact some_ne (c25.low hC hb q)
end
theorem keepsIn72 (w : World) {M : Model} (h : Heap) (X : (K01 w).In h) : ∃ k, (k = Keeper.frame ∨ k = Keeper.machine ∨ k = Keeper.boundFrame) ∧ Looks M h (keeperOf (.ref 72)) k := keeps_K (keep72 w) h X
section
variable {w : World} {A : Around} {E : Value → Shared → Prop} {O : Addr → Prop} {C R : Addr} {outer : List Env} {n : Nat} {xs : List Str} {s : Shared} {m : Str → Option Value}
theorem seg_ueN (ok : OkA 112 A) (hfr : A.frames = some outer) (T : TopH w s.heap) (hns : s.heap.Ns C m) (hi : m "iterable" = some (.ref R)) (hk : m "key" = some .none) (hse : m "seen" = none) (row : RowAt s.heap R xs) (hOld : ∀ b, O b → s.heap.get? b ≠ none) (hOR : O R) (hC : ¬ O C) (hO : OuterOk s.heap outer) (hF : ∀ b ∈ framesOf outer, O b)
    (lk : (∀ a o, (K01 w).lookup a = some o → O a) ∧ O builtinsNs ∧ O mainGlobals ∧ O cStatics) (hf : cnt (fun x => x) (fun _ => false) ≤ n) (hn : n ≤ 50) :
    Seg (model pw w) A (GR w (fun x => x) O C R outer) (GY w (fun x => x) O C R outer) n s (.func (fbody (stOf 5)) (envUe C)) ((model pw w).den (.func (fbody (stOf 5)) (envUe C))) [] s := by
  have okA := overOk0 (env := envUe C) (body := fbody (stOf 5)) ok
  refine seg_func ?_
  generalize hb : fbody (stOf 5) = body at *
  rw [show (execs body (envUe C)) = execs (fbody (stOf 5)) (envUe C) by rw [hb], ue_body]
  refine seg_head (f := fun x => x) ok T hns hi hk hse row hOld hOR hC lk hf hn fun Sa BM s5 m5 t G hS5 hOld5 => ?_
  refine seg_execs_cons (seg_If (b := true) ?_)
  refine wpAny_mono ((EvT.isNone (prog := pw) (w := w) (G.loc (by rfl) G.my)) s5 _ fun _ _ e => e) (fun r s6 h6 => ?_) fun _ _ q => q
  obtain ⟨rfl, k6⟩ := h6
  refine ⟨rfl, ?_⟩
  have G6 := G.kp k6
  have hS6 := k6.le _ _ hS5
  have old6 : ∀ b, O b → s6.heap.get? b ≠ none := fun b hb => by
    cases q : s5.heap.get? b with
    | none => exact absurd q (hOld5 b hb)
    | some o => exact some_ne (k6.le _ _ q)
  refine seg_execs_cons (seg_For ?_)
  unfold ueIter
  refine wpAny_Call_NameR (wpAny_Name (Var.glob G6.T rfl (by rfl) rfl (by kernel_rfl) (v := .ref 72) _ _ _ _ s6 (fun _ _ e => e) ?_) (by decide))
  refine callWith_of (P := fun h => (K01 w).In h) (by rfl) (keepsIn72 w) (Calls.evalArgs_plain (Calls.spliced_cons ?_))
  refine wpAny_mono (ev_setCont G6.T (okA.weak (by decide)) (G6.loc (by rfl) G6.ms) hS6) (fun v s7 h7 => ?_) fun _ _ q => q
  obtain ⟨B, rfl, eB, nB, k7⟩ := h7
  have G7 := G6.kp k7
  refine Calls.spliced_cons (wpAny_Name (G7.loc (by rfl) G7.mi _ _ _ _ s7 (fun _ _ e => e) ?_) (by decide))
  refine Calls.spliced_nil ⟨G7.T.K, ?_⟩
  obtain ⟨vs, ⟨nv, eR⟩, rR⟩ := G7.row.lst
  refine wpAny_mono (mk_ff G7.T (okA.weak (by decide)) R B vs nv eR) (fun v s8 h8 => ?_) fun _ _ q => q
  obtain ⟨F, I, d, rfl, eF, ed, eI, nF, nI, hd7, k8⟩ := h8
  have G8 := G7.kp k8
  have k68 := k7.tr k8
  have nB6 : s6.heap.get? B = none := nB
  have nF6 := fresh_le k7.le nF
  have nI6 := fresh_le k7.le nI
  have alC : s7.heap.get? C ≠ none := by obtain ⟨o, _, _, e, _⟩ := G7.ns; exact some_ne e
  have alC6 : s6.heap.get? C ≠ none := by obtain ⟨o, _, _, e, _⟩ := G6.ns; exact some_ne e
  refine ff_iter G8.T (okA.weak (by decide)) eF ed fun s9 k9 => ?_
  intro p
  have G9 := G8.kp k9
  refine seg_none ok hfr (by rfl) hF ⟨fun z => old6 _ z nF6, fun z => old6 _ z nI6, fun z => old6 _ z nB6, fun z => old6 _ z (fresh_le k7.le hd7)⟩ ⟨fun z => alC (by rw [← z]; exact nF), fun z => alC (by rw [← z]; exact nI), fun z => alC6 (by rw [← z]; exact nB6), fun z => alC (by rw [← z]; exact hd7)⟩ n 0 _ xs s s9 _ G9 hO (k9.le _ _ eF) (k9.le _ _ ed) (k9.le _ _ (k8.le _ _ eB)) ⟨_, k9.le _ _ eI, rfl, rfl⟩ (Nat.zero_le _) fun j y hj => absurd hj (Nat.not_lt_zero _)
end
noncomputable abbrev idS : Str → Str := fun x => x
noncomputable def uniqF : Nat → (Str → Bool) → List Str → List Str
  | 0, _, _ => []
  | n + 1, S, xs => match fresh? idS S xs with
    | none => []
    | some x => x :: uniqF n (addS S x) xs
theorem uniqF_none {n : Nat} {S : Str → Bool} {xs : List Str} (h : fresh? idS S xs = none) : uniqF n S xs = [] := by
  cases n with
  | zero => rfl
  | succ n => unfold uniqF; rw [h]
theorem uniqF_some {n : Nat} {S : Str → Bool} {xs : List Str} {x : Str} (h : fresh? idS S xs = some x) : uniqF (n + 1) S xs = x :: uniqF n (addS S x) xs := by
  conv => lhs; unfold uniqF
  rw [h]
theorem set_push {α : Type} (a : Array α) (x y : α) : (a.push x).setIfInBounds a.size y = a.push y := by
  apply Array.ext'
  simp
theorem nolen_gen : typeLookup (.type "generator") "__len__" = pure none := by rw [typeLookup_type, builtinLookup_eq_fast]; kernel_rfl
theorem nohint_gen : typeLookup (.type "generator") "__length_hint__" = pure none := by rw [typeLookup_type, builtinLookup_eq_fast]; kernel_rfl
section
variable {w : World} {A : Around} {s : Shared}
theorem ue_call (T : TopH w s.heap) (ok : OkA 114 A) {R : Addr} (hR : s.heap.get? R ≠ none) :
    codeAny (model pw w) A (.call (.ref 84) ⟨[.ref R], []⟩) (fun r s' => ∃ C G, r = .ok (.ret (.ref G)) ∧ (∀ (O : Addr → Prop) (A' : Around) (outer : List Env), (∀ b, s.heap.get? b ≠ none → O b) → ¬ O C → ¬ O G → OkA 114 A' → A'.frames = some outer → (∀ b ∈ framesOf outer, O b) → GenAt w A' idS O C G R outer s.gens.size 8 (fun _ => false) [] s') ∧ s'.heap.IsGen G s.gens.size ∧ Le s.heap s'.heap ∧ s.heap.get? C = none ∧ s.heap.get? G = none ∧ s'.heap.get? C ≠ none ∧
      ∃ h' tk gs, s' = { s with heap := h', toks := tk, gens := s.gens.push gs }) s := by
  refine codeAny_call_generator ok.room (T.K _ _ (K_ue w)) rfl rfl rfl rfl (codeRec_B T.K (by kernel_rfl)) ?_
  have hb : Looks (model pw w) s.heap (bindArgs fdUe ⟨[.ref R], []⟩) [(("iterable" : Str), Value.ref R), (("key" : Str), .none)] := Looks.of_peek T.K (by kernel_rfl)
  refine hb.here ?_
  refine wpAny_newFunctionEnv (show ∀ x ∈ fdUe.scope.names, x.2 ≠ NameKind.cell by decide) (fun y hy => ?_) (fun h₁ hns hsb => ⟨T.nl.fresh _ hsb, ?_⟩) rfl
  · rcases List.mem_cons.mp hy with rfl | hy
    · rfl
    rcases List.mem_singleton.mp hy with rfl
    rfl
  have hk₁ : Le s.heap h₁ := fun b o e => hsb.extBut b o (Nat.ne_of_lt (Heap.lt_size e)) (Heap.get?_push_of_some _ e)
  have nC := new_none s.heap
  generalize hC : s.heap.objs.size = C at *
  dsimp only
  have hG : s.heap.get? h₁.objs.size = none := by
    refine size_none ?_
    have := hsb.1
    rw [Heap.size_push] at this
    omega
  have kp : ∀ (o : Obj) b ob, h₁.get? b = some ob → (h₁.push o).get? b = some ob := fun o b ob e => Heap.get?_push_of_some _ e
  have hGC : h₁.objs.size ≠ C := by
    have := hsb.1
    rw [Heap.size_push] at this
    omega
  have hf : cnt idS (fun _ => false) ≤ 8 := Nat.le_trans (List.length_filter_le _ _) (by decide)
  refine ⟨C, h₁.objs.size, rfl, fun O A' outer hOi hOC hOG ok' hfr hF => ⟨⟨_, _, _, Heap.get?_push_size _ rfl, rfl, rfl, rfl⟩, ⟨hOG, hGC⟩, ⟨_, hns.push _, .inl ⟨by rfl, rfl⟩⟩, hf, ?_⟩, ⟨_, _, _, Heap.get?_push_size _ rfl, rfl, rfl, rfl⟩, hk₁.trans (kp _), nC, hG, ?_, _, _, _, rfl⟩
  · refine ⟨_, Array.getElem?_push_size .., fun s'' ys kf T'' hO'' row'' => ⟨rfl, ?_⟩⟩
    have lk : (∀ a o, (K01 w).lookup a = some o → O a) ∧ O builtinsNs ∧ O mainGlobals ∧ O cStatics :=
      ⟨fun a o e => hOi _ (some_ne (T.K a o e)), by obtain ⟨mb, ⟨o, es, ep, e, r⟩, z⟩ := T.b; exact hOi _ (some_ne e), by obtain ⟨mg, o, es, ep, e, r⟩ := T.g; exact hOi _ (some_ne e), by obtain ⟨mc, ⟨o, es, ep, e, r⟩, z⟩ := T.nl; exact hOi _ (some_ne e)⟩
    have hns'' : s''.heap.Ns C _ := (hns.push _).at' fun o e => kf.1 _ _ hOC e
    exact seg_ueN (xs := [] ++ ys) (A := A'.in1) (OkA.in1 (n := 113) ok' |>.weak (by decide)) hfr T'' hns'' (by rfl) (by rfl) (by rfl) row'' (fun b hb => kf.2 b hb) (hOi _ hR) hOC hO'' hF lk hf (by decide)
  · obtain ⟨o, es, ep, e, _⟩ := hns
    exact some_ne (kp _ _ _ e)
end
theorem StAt.keep {w : World} {O : Addr → Prop} {C : Addr} {S : Str → Bool} {h h' : Heap} (x : StAt w O h C S) (hC : ¬ O C) (k : KeepFrom O h h') : StAt w O h' C S := by
  obtain ⟨m, hm, x⟩ := x
  exact ⟨m, hm.at' fun o e => k.1 _ _ hC e, x.imp id fun ⟨Sa, n, e1, hO, o, es, ep, t, e, r⟩ => ⟨Sa, n, e1, hO, o, es, ep, t, k.1 _ _ hO e, r⟩⟩
theorem GenAt.keep {w : World} {A : Around} {f : Str → Str} {O : Addr → Prop} {C G R : Addr} {outer : List Env} {g n : Nat} {S : Str → Bool} {xs : List Str} {s s' : Shared} (x : GenAt w A f O C G R outer g n S xs s) (hC : ¬ O C) (k : KeepFrom O s.heap s'.heap) (hg : s'.gens = s.gens) : GenAt w A f O C G R outer g n S xs s' := by
  obtain ⟨o, nm, qn, ho, r⟩ := x.gen
  obtain ⟨gs, e, hgo⟩ := x.go
  exact ⟨⟨o, nm, qn, k.1 _ _ x.cg.1 ho, r⟩, x.cg, x.st.keep hC k, x.fuel, gs, by rw [hg]; exact e, fun s'' ys kf T hO row => hgo s'' ys ⟨fun b o hb e => kf.1 b o hb (k.1 b o hb e), kf.2⟩ T hO row⟩
theorem OuterOk.fr {h h' : Heap} {outer : List Env} (x : OuterOk h outer) (k : ∀ b ∈ framesOf outer, ∀ o, h.get? b = some o → h'.get? b = some o) : OuterOk h' outer := fun env he => by
  obtain ⟨hk, L, o, hf, ho, hd⟩ := x env he
  exact ⟨hk, L, o, hf, k _ (List.mem_filterMap.mpr ⟨env, he, hf⟩) _ ho, hd⟩
section
variable {w : World} {A : Around} {outer : List Env} {O : Addr → Prop} {C G R L : Addr} {xs : List Str} {res : Value} {RR : Result → Shared → Prop} {G0 : Array GenState}
theorem gen_fill (ok : OkA 115 A) (hOL : O L) (hCO : ¬ O C) (hRL : R ≠ L) (hRO : O R) (hFL : L ∉ framesOf outer) (hFO : ∀ b ∈ framesOf outer, O b) (hRF : R ∉ framesOf outer)
    (lk : (∀ a o, (K01 w).lookup a = some o → O a ∧ a ≠ L ∧ a ∉ framesOf outer) ∧ (O builtinsNs ∧ builtinsNs ≠ L ∧ builtinsNs ∉ framesOf outer) ∧ (O mainGlobals ∧ mainGlobals ≠ L ∧ mainGlobals ∉ framesOf outer) ∧ (O cStatics ∧ cStatics ≠ L ∧ cStatics ∉ framesOf outer)) :
    ∀ (n : Nat) (S : Str → Bool) (zs ys : List Str) (s : Shared) (acc : Array Value) (c : Nat), zs ++ ys = xs → GenAt w A.in1 idS O C G R outer G0.size n S zs s → (∃ gs, s.gens = G0.push gs) → TopH w s.heap → OuterOk s.heap outer → (∀ b, O b → s.heap.get? b ≠ none) → RowAt s.heap R xs → s.heap.get? L = some (lstO acc c) → acc.size + n ≤ 100 →
      (∀ s' vs c', s'.heap.get? L = some (lstO (acc ++ vs) c') → RDs s'.heap (fun _ => False) vs.toList ((uniqF n S xs).map .str) → TopH w s'.heap → (∀ b o, O b → b ≠ L → s.heap.get? b = some o → (b ∈ framesOf outer → ∃ sl, s'.heap.get? b = some { o with slots := sl }) ∧ (b ∉ framesOf outer → s'.heap.get? b = some o)) →
        (∃ h' tk, s' = { s with heap := h', toks := tk, gens := G0.push .finished }) → RR (.ok (.ret res)) s') →
      codeAny (model pw w) A (.builtin "list.extend.loop" ⟨[.ref L, .ref G, res], []⟩) RR s := by
  intro n
  induction n using Nat.strongRecOn with
  | _ n ih =>
  intro S zs ys s acc c hz ga hg T hO al row eL hsz hR
  obtain ⟨gs, hg⟩ := hg
  have ok1 : OkA 114 A.in1 := OkA.in1 (n := 114) ok
  have hLC : L ≠ C := fun z => hCO (z ▸ hOL)
  have nOC : ∀ {b}, O b → b ≠ C := fun h z => hCO (z ▸ h)
  refine codeAny_builtin PySem.F.entry_extend_loop ?_
  rw [Around.under_plainId PySem.F.plain_extend_loop _]
  show wpAny _ A.in1 (pyNext (.ref G) >>= _) _ _ _
  refine wpAny_bind (wpAny_mono (gen_next (A := A.in1) ok1.hd ok1.room T hO al (show RowAt s.heap R (zs ++ ys) from hz ▸ row) ga) (fun r s1 hr => ?_) fun _ _ q => q)
  rw [hz] at hr
  cases hf : fresh? idS S xs with
  | none =>
    rw [hf] at hr
    obtain ⟨rfl, hc, h3, tk3, e3⟩ := hr
    have kk : ∀ b o, O b → s.heap.get? b = some o → (b ∈ framesOf outer → ∃ sl, s1.heap.get? b = some { o with slots := sl }) ∧ (b ∉ framesOf outer → s1.heap.get? b = some o) := fun b o hb e => ⟨(hc b o e (nOC hb)).1, fun hF => (hc b o e (nOC hb)).2 hF (.inl hb)⟩
    refine wpAny_pure (hR s1 #[] c ?_ ?_ ?_ (fun b o hb _ e => kk b o hb e) ⟨h3, tk3, ?_⟩)
    · rw [Array.append_empty]; exact (kk _ _ hOL eL).2 hFL
    · rw [uniqF_none hf]; exact .nil
    · exact top_chg (O := fun b => O b ∧ b ∉ framesOf outer) T (fun b o e z => (kk b o z.1 e).2 z.2) (fun a o e => ⟨(lk.1 a o e).1, (lk.1 a o e).2.2⟩) ⟨⟨lk.2.1.1, lk.2.1.2.2⟩, ⟨lk.2.2.1.1, lk.2.2.1.2.2⟩, lk.2.2.2.1, lk.2.2.2.2.2⟩
    · rw [e3]
      simp only [Shared.setGen, hg, set_push]
  | some x =>
    rw [hf] at hr
    obtain ⟨t, m, hm, rfl, ga3, hc, h3, tk3, gs3, e3⟩ := hr
    subst hm
    have kk : ∀ b o, O b → s.heap.get? b = some o → s1.heap.get? b = some o := fun b o hb e => hc b o e (nOC hb) (.inl hb)
    have eL1 := kk _ _ hOL eL
    have kk2 : ∀ b o, b ≠ L → s1.heap.get? b = some o → (s1.heap.update L (Obj.mapSeq (·.push (Value.str x t)))).get? b = some o := fun b o hb e => (Heap.get?_update_other _ _ (Ne.symm hb)).trans e
    have eL2 := Heap.get?_update_self (Obj.mapSeq (·.push (Value.str x t))) eL1 rfl
    have kk3 : ∀ b o, O b → b ≠ L → s.heap.get? b = some o → (s1.heap.update L (Obj.mapSeq (·.push (Value.str x t)))).get? b = some o := fun b o h1 h2 e => kk2 b o h2 (kk b o h1 e)
    show wpAny _ A.in1 (updateSeq L (·.push (Value.str x t)) >>= _) _ _ _
    refine wpAny_bind ?_
    have hs1000 : (1000 : Nat) ≤ sizeLine := by decide
    refine wpAny_updateSeq eL1 rfl (wpAny_pure ⟨plainId_quiet PySem.F.plain_extend_loop _, ?_⟩) (by omega) (by show (acc.push _).size ≤ sizeLine + 1; rw [Array.size_push]; omega)
    generalize hH : s1.heap.update L (Obj.mapSeq (·.push (Value.str x t))) = H at *
    obtain ⟨nr, hrow⟩ := row.lst
    have T2 : TopH w H := top_chg (O := fun b => O b ∧ b ≠ L) T (fun b o e z => kk3 b o z.1 z.2 e) (fun a o e => ⟨(lk.1 a o e).1, (lk.1 a o e).2.1⟩) ⟨⟨lk.2.1.1, lk.2.1.2.1⟩, ⟨lk.2.2.1.1, lk.2.2.1.2.1⟩, lk.2.2.2.1, lk.2.2.2.2.1⟩
    have al2 : ∀ b, O b → H.get? b ≠ none := fun b hb => by
      by_cases z : b = L
      · rw [z, eL2]; exact fun q => nomatch q
      · cases q : s.heap.get? b with
        | none => exact absurd q (al b hb)
        | some o => exact some_ne (kk3 b o hb z q)
    have row2 : RowAt H R xs := row.keep fun o e => kk3 _ o hRO hRL e
    have ga4 : GenAt w A.in1 idS O C G R outer G0.size m (addS S x) xs { s1 with heap := H } := GenAt.keep (s' := { s1 with heap := H }) ga3 hCO ⟨fun b o hb e => kk2 b o (fun z => hb (z ▸ hOL)) e, al2⟩ rfl
    refine ih m (Nat.lt_succ_self m) (addS S x) xs [] { s1 with heap := H } (acc.push (.str x t)) _ (List.append_nil xs) ga4 ⟨gs3, ?_⟩ T2 (hO.fr fun b hb o e => kk3 b o (hFO b hb) (fun z => hFL (z ▸ hb)) e) al2 row2 eL2 (by rw [Array.size_push]; omega) fun s' vs c' e' rv T' kf sh => ?_
    · show s1.gens = _
      rw [e3]
      simp only [Shared.setGen, hg, set_push]
    · refine hR s' (#[.str x t] ++ vs) c' ?_ ?_ T' (fun b o hb hbL e => kf b o hb hbL (kk3 b o hb hbL e)) ?_
      · rw [← Array.append_assoc]
        exact e'
      · rw [uniqF_some hf, Array.toList_append]
        exact .cons (.str _ _) rv
      · obtain ⟨h', tk', e4⟩ := sh
        exact ⟨h', tk', by rw [e4, e3]; rfl⟩
end
section
variable {w : World} {A : Around} {E : Value → Shared → Prop} {s : Shared} {outer : List Env}
structure UniqRes (w : World) (Fs : List Addr) (xs : List Str) (s : Shared) (v : Value) (s' : Shared) : Prop where
  lst : ∃ L vs c, v = .ref L ∧ s.heap.get? L = none ∧ s'.heap.get? L = some (lstO vs c) ∧ RDs s'.heap (fun _ => False) vs.toList ((uniqF 8 (fun _ => false) xs).map .str)
  T : TopH w s'.heap
  kf : KFr (fun _ => False) Fs s.heap s'.heap
  sh : ∃ h' tk, s' = { s with heap := h', toks := tk, gens := s.gens.push .finished }
theorem list_uniq (T : TopH w s.heap) (ok : OkA 118 A) (hfr : A.frames = some outer) (AR : Around1 w s.heap outer) {R : Addr} {xs : List Str} (row : RowAt s.heap R xs) (hRF : R ∉ framesOf outer) :
    wpAny (model pw w) A (PySem.call (.ref 84) [.ref R]) (fun r s1 => wpAny (model pw w) A (PySem.call (.type "list") [r]) (UniqRes w (framesOf outer) xs s) E s1) E s := by
  obtain ⟨rvs, ⟨rn, eR⟩, rR⟩ := id row.lst
  refine wpAny_call (codeAny_mono (ue_call T (ok.weak (by decide)) (some_ne eR)) fun r s1 h1 => ?_)
  obtain ⟨C, G, rfl, ga, hG, k1, nC, nG, aC, h1, tk1, gs1, e1⟩ := h1
  refine callType_codes (Q₁ := fun obj s₁ => obj = .ref s1.heap.objs.size ∧ s₁ = { s1 with heap := s1.heap.push { cls := .type "list", data := .seq #[] } }) PySem.F.called_list (PySem.F.typeCall_list_1 _) PySem.F.entry_list_init
    (code_list_new _ ⟨rfl, rfl⟩) fun obj s₁ h₁ => ?_
  obtain ⟨rfl, rfl⟩ := h₁
  have hS : (s1.heap.push { cls := .type "list", data := .seq #[] }).get? s1.heap.objs.size = some { cls := .type "list", data := .seq #[] } := Heap.get?_push_size _ rfl
  refine ⟨⟨_, hS, rfl⟩, PySem.F.args_list_init_2 _ _, ?_⟩
  show wpAny _ A.in1.in1 (do let old ← Builtin.List.listItems (.ref s1.heap.objs.size); Builtin.List.listUpdate (.ref s1.heap.objs.size) (fun _ => #[]); letGo old.toList.reverse; Builtin.List.listExtendWith (.ref s1.heap.objs.size) (.ref G) .none) _ _ _
  refine wpAny_bind ?_
  unfold Builtin.List.listItems
  refine wpAny_bind (wpAny_seqItems hS rfl (wpAny_pure ?_))
  show wpAny _ A.in1.in1 (updateSeq s1.heap.objs.size (fun _ => #[]) >>= fun _ => letGo (#[] : Array Value).toList.reverse >>= fun _ => Builtin.List.listExtendWith (.ref s1.heap.objs.size) (.ref G) .none) _ _ _
  refine wpAny_bind (wpAny_updateSeq hS rfl ?_)
  have hS₂ := Heap.get?_update_self (Obj.mapSeq (fun _ => (#[] : Array Value))) hS rfl
  have hL1 : s1.heap.get? s1.heap.objs.size = none := new_none _
  have k2 : ∀ b o, b ≠ s1.heap.objs.size → s1.heap.get? b = some o → ((s1.heap.push { cls := .type "list", data := .seq #[] }).update s1.heap.objs.size (Obj.mapSeq (fun _ => (#[] : Array Value)))).get? b = some o :=
    fun b o hb e => (Heap.get?_update_other _ _ (Ne.symm hb)).trans (Heap.get?_push_of_some _ e)
  generalize (s1.heap.push { cls := .type "list", data := .seq #[] }).update s1.heap.objs.size (Obj.mapSeq (fun _ => (#[] : Array Value))) = h2 at *
  generalize s1.heap.objs.size = L at *
  refine wpAny_bind (wpAny_letGo ?_)
  have hL : s.heap.get? L = none := fresh_le k1 hL1
  have nGL : G ≠ L := fun z => by obtain ⟨o, _, _, e, _⟩ := hG; rw [z, hL1] at e; cases e
  have nCL : C ≠ L := fun z => aC (z ▸ hL1)
  let O : Addr → Prop := fun b => s.heap.get? b ≠ none ∨ b = L
  have hOC : ¬ O C := fun z => z.elim (fun z => z nC) nCL
  have hOG : ¬ O G := fun z => z.elim (fun z => z nG) nGL
  have frA : ∀ b ∈ framesOf outer, s.heap.get? b ≠ none := fun b hb => AR.alive hb
  have hLF : L ∉ framesOf outer := fun z => frA L z hL
  have ok2 : OkA 116 A.in1.in1 := OkA.in1 (n := 116) (OkA.in1 (n := 117) ok)
  have lt : ∀ {b o}, s.heap.get? b = some o → b ≠ L := fun e z => by rw [z, hL] at e; cases e
  have fin : ∀ (h3 : Heap) c₁ tk, h3.get? L = some (lstO #[] c₁) → (∀ b o, b ≠ L → s1.heap.get? b = some o → h3.get? b = some o) → codeAny (model pw w) A.in1 (.builtin "list.extend.loop" ⟨[.ref L, .ref G, .none], []⟩) (fun r s' => r = .ok (.ret .none) ∧ UniqRes w (framesOf outer) xs s (.ref L) s') { s1 with heap := h3, toks := tk } := fun h3 c₁ tk eL3 k3 => by
    have k03 : ∀ b o, s.heap.get? b = some o → h3.get? b = some o := fun b o e => k3 b o (lt e) (k1 b o e)
    have al3 : ∀ b, O b → h3.get? b ≠ none := fun b hb => by
      rcases hb with hb | rfl
      · cases q : s.heap.get? b with
        | none => exact absurd q hb
        | some o => exact some_ne (k03 b o q)
      · exact some_ne eL3
    have ga0 : GenAt w A.in1.in1 idS O C G R outer s.gens.size 8 (fun _ => false) [] { s1 with heap := h3, toks := tk } := GenAt.keep (s' := { s1 with heap := h3, toks := tk }) (ga O A.in1.in1 outer (fun b hb => .inl hb) hOC hOG (ok2.weak (by decide)) hfr fun b hb => .inl (frA b hb)) hOC ⟨fun b o hb e => k3 b o (fun z => hb (.inr z)) e, al3⟩ rfl
    have lk : ∀ {a : Addr} {o : Obj}, s.heap.get? a = some o → a ∉ framesOf outer → O a ∧ a ≠ L ∧ a ∉ framesOf outer := fun e h => ⟨.inl (some_ne e), lt e, h⟩
    refine gen_fill (O := O) (C := C) (R := R) (outer := outer) (xs := xs) (OkA.in1 (n := 117) ok |>.weak (by decide)) (.inr rfl) hOC (lt eR) (.inl (some_ne eR)) hLF (fun b hb => .inl (frA b hb)) hRF ⟨fun a o e => lk (T.K a o e) (AR.kf.1 a o e), ?_, ?_, ?_⟩ 8 _ [] xs _ #[] c₁ rfl ga0 ⟨gs1, ?_⟩ (T.mono k03) (AR.ok.fr fun b hb o e => k03 b o e) al3 (row.keep fun o e => k03 _ o e) eL3 (by decide) fun s' vs c' e' rv T' kf sh => ⟨rfl, ⟨⟨L, vs, c', rfl, hL, ?_, rv⟩, T', fun b o _ e => kf b o (.inl (some_ne e)) (lt e) (k03 b o e), ?_⟩⟩
    · obtain ⟨mb, ⟨o, es, ep, e, r⟩, z⟩ := T.b; exact lk e AR.kf.2.1
    · obtain ⟨mg, o, es, ep, e, r⟩ := T.g; exact lk e AR.kf.2.2.1
    · obtain ⟨mc, ⟨o, es, ep, e, r⟩, z⟩ := T.nl; exact lk e AR.kf.2.2.2
    · rw [e1]
    · rw [Array.empty_append] at e'; exact e'
    · obtain ⟨h', tk', e4⟩ := sh
      exact ⟨h', tk', by rw [e4, e1]⟩
  unfold Builtin.List.listExtendWith
  have hG2 : h2.IsGen G s.gens.size := by obtain ⟨o, a, b, e, r⟩ := hG; exact ⟨o, a, b, k2 _ _ nGL e, r⟩
  refine wpAny_bind (wpAny_typeOf (T := "generator") hG2.typeIs ?_)
  have hs1 : Builtin.List.listSameRef (.ref L) (.ref G) = false := by simp [Builtin.List.listSameRef, Ne.symm nGL]
  have e2 : (Value.type "generator" == Value.type "list") = false := by decide
  have e3 : (Value.type "generator" == Value.type "tuple") = false := by decide
  simp only [hs1, e2, e3, Bool.or_false, Bool.false_eq_true, if_false]
  refine wpAny_bind (wpAny_pyIter_gen hG2 ?_)
  refine wpAny_bind (wpAny_holding ?_)
  unfold Builtin.List.listLengthHint
  refine wpAny_bind (wpAny_specialOf (T := "generator") hG2.typeIs nolen_gen ?_)
  show wpAny _ _ (specialOf (Value.ref G) (Str.ofString "__length_hint__") >>= _) _ _ _
  refine wpAny_bind (wpAny_specialOf (T := "generator") hG2.typeIs nohint_gen ?_)
  refine wpAny_pure ?_
  have eL2 : h2.get? L = some (lstO #[] 0) := hS₂
  refine wpAny_ite_split (fun _ => ?_) (fun h => absurd rfl h)
  refine wpAny_bind (wpAny_rule (wpAny_bind ?_))
  show wpAny _ _ (updateSeq L (·.push .none) >>= fun _ => updateSeq L (·.pop)) _ _ _
  refine wpAny_bind (wpAny_updateSeq eL2 rfl ?_)
  have hS3 := Heap.get?_update_self (Obj.mapSeq (·.push Value.none)) eL2 rfl
  refine wpAny_updateSeq hS3 rfl ?_
  have hS4 := Heap.get?_update_self (Obj.mapSeq (·.pop)) hS3 rfl
  exact wpAny_pure ⟨plainId_quiet PySem.F.plain_extend_loop _, codeAny_mono (fin _ _ _ hS4 fun b o hb e => (Heap.get?_update_other _ _ (Ne.symm hb)).trans ((Heap.get?_update_other _ _ (Ne.symm hb)).trans (k2 b o hb e))) fun r s' q => by obtain ⟨rfl, q⟩ := q; exact ⟨rfl, q⟩⟩
end
section
variable {prog : Program} {w : World} {A : Around} {env : Env} {h : Heap} {S : Addr → Prop}
theorem ev_compP {elt target iter : Expr} {ifs : List Expr} {scope : Scope} {cl : List (Str × Addr)} {pos : Pos} {xs : List D} (bd : D → List (Str × D)) (p : D → Bool) (g : D → D)
    (src : SrcL prog w A env h S iter xs) (ok : OkA 0 A) (hclos : closureFor scope env = pure cl) (hcell : ∀ y ∈ scope.names, y.2 ≠ .cell) (hkind : scope.kind = .function)
    (hnames : ∀ y ∈ scope.names, y.2 = .local → scope.names.lookup y.1 = some .local)
    (hb : ∀ d ∈ xs, Bd target d (bd d)) (hloc : ∀ d ∈ xs, ∀ x e, (x, e) ∈ bd d → scope.names.lookup x = some .local)
    (hel : ∀ d ∈ xs, EltOk prog w A env scope cl h S ifs elt (bd d) (p d) (g d)) (hsz : xs.length ≤ sizeLine)
    (hst : ∀ x, foldedSetIterable iter env x = pure x := by intro _; rfl) {s : Shared} {E : Value → Shared → Prop} (hs : Le h s.heap) :
    wpAny (model prog w) A (eval (.ListComp elt [⟨target, iter, ifs, 0⟩] scope pos) env) (fun v s' => (∃ D ys, v = .ref D ∧ s.heap.get? D = none ∧ s'.heap.PlainList D ys ∧ RDs s'.heap (Fr1 S s.heap) ys.toList ((xs.filter p).map g)) ∧ Kp s s') E s := by
  rw [eval_ListComp]
  refine wpAny_comprehension_free (use := none) rfl hst hclos hkind hnames (wpAny_mono (src s E hs) (fun xv s₁ h₁ => ?_) fun _ _ e => e)
  obtain ⟨⟨l, vs, rfl, hl, r⟩, k1⟩ := h₁
  refine comp_block (RR := fun acc C => compPost (model prog w) A E none _ acc C) bd p g ok hcell hkind hs k1 hl r hb hloc hel hsz ?_
  intro D C s' hD hC hDC hn hy hk
  obtain ⟨m, hn⟩ := hn
  obtain ⟨ys, ⟨n, hp⟩, hr⟩ := hy
  refine ⟨m, hn, fun h'' hs'' => ⟨⟨D, ys, rfl, hD, ⟨n, hs''.extBut _ _ hDC hp⟩, (hr.but hs''.extBut fun z => z.2 rfl).sub fun _ z => z.1⟩, ?_⟩⟩
  obtain ⟨kk, hh, tt, rfl⟩ := hk
  exact Kp.of tt fun b o e => hs''.extBut b o (fun z => by rw [z, hC] at e; cases e) (kk b o e)
end
theorem RDs.strs {h : Heap} {S S' : Addr → Prop} : ∀ {xs : List Str} {vs : List Value}, RDs h S vs (xs.map .str) → RDs h S' vs (xs.map .str)
  | [], _, r => by cases r using RDs.nilE; exact .nil
  | x :: xs, _, r => by
    cases r using RDs.consE with
    | cons r1 r2 => exact .cons (r1.flat rfl) (RDs.strs r2)
section
variable {w : World} {A : Around} {E : Value → Shared → Prop} {s₀ s : Shared} {env : Env} {S0 : Addr → Prop} {outer : List Env} {ρ : Rho} {X : Addr → Prop}
theorem RSt.around2 (R : RSt w s₀ env S0 (framesOf outer) X ρ s) (AR : Around1 w s₀.heap outer) (hf : env.frame = some env.locals) : Around1 w s.heap (env :: outer) := by
  have AR2 := R.around AR
  have aL0 : s₀.heap.get? env.locals = none := R.newO _ (.inl rfl)
  have fr : framesOf (env :: outer) = env.locals :: framesOf outer := by unfold framesOf; rw [List.filterMap_cons, hf]
  obtain ⟨m, cm, h1, _⟩ := R.frm
  refine ⟨fun e he => ?_, fun b hb => ?_, ?_⟩
  · rcases List.mem_cons.mp he with rfl | he
    · obtain ⟨o, es, ep, e, hd, _⟩ := h1
      exact ⟨by rw [R.fn]; decide, _, o, hf, e, fun vs z => by rw [hd] at z; cases z⟩
    · exact AR2.ok e he
  · rw [fr] at hb
    rcases List.mem_cons.mp hb with rfl | hb
    · exact ⟨m, h1⟩
    · exact AR2.ns b hb
  · rw [fr]
    have off : ∀ {c : Addr} {o : Obj}, c ∉ framesOf outer → s₀.heap.get? c = some o → c ∉ env.locals :: framesOf outer := fun h e z => by
      rcases List.mem_cons.mp z with z | z
      · rw [z, aL0] at e; cases e
      · exact h z
    refine ⟨fun a o e => off (AR.kf.1 a o e) (R.T0.K a o e), ?_, ?_, ?_⟩
    · obtain ⟨mb, ⟨o, es, ep, e, r⟩, z⟩ := R.T0.b; exact off AR.kf.2.1 e
    · obtain ⟨mg, o, es, ep, e, r⟩ := R.T0.g; exact off AR.kf.2.2.1 e
    · obtain ⟨mc, ⟨o, es, ep, e, r⟩, z⟩ := R.T0.nl; exact off AR.kf.2.2.2 e
end
noncomputable abbrev scPn : Scope := { kind := .function, names := [(".0", .local), ("pair", .local)], isGenerator := false, isCoroutine := false }
noncomputable def uniqE : Expr := .Call (.Name "list" ⟨223, 31, 223, 35⟩) [.Call (.Name "unique_everseen" ⟨223, 36, 223, 51⟩) [.ListComp (.Attribute (.Name "pair" ⟨223, 53, 223, 57⟩) "name" ⟨223, 53, 223, 62⟩) [⟨.Name "pair" ⟨223, 67, 223, 71⟩, .Name "pairs" ⟨223, 75, 223, 80⟩, [], 0⟩] scPn ⟨223, 52, 223, 81⟩] [] ⟨223, 36, 223, 82⟩] [] ⟨223, 31, 223, 83⟩
noncomputable def listE : Expr := .Call (.Name "list" ⟨223, 19, 223, 23⟩) [.Name "book" ⟨223, 24, 223, 28⟩] [] ⟨223, 19, 223, 29⟩
noncomputable def retStmt : Stmt := .Return (some (.Tuple [.Name "found" ⟨223, 12, 223, 17⟩, listE, uniqE] 0 ⟨223, 11, 223, 84⟩)) ⟨223, 4, 223, 84⟩
noncomputable def firstD : D → D
  | .pr (a :: _) => a
  | d => d
section
variable {w : World} {A : Around} {E : Value → Shared → Prop} {s₀ s : Shared} {N : Nat} {S0 : Addr → Prop} {outer : List Env} {ρ : Rho} {X : Addr → Prop} {pv : Value} {ls : List (Str × Str)}
theorem ev_uniq (R : RSt w s₀ (envRun N) S0 (framesOf outer) X ρ s) (ok : OkA 118 A) (hfr : A.frames = some (envRun N :: outer)) (AR : Around1 w s₀.heap outer) (hp : (("pairs" : Str), pv, D.lst (ls.map pairD)) ∈ ρ) (hl : ∀ l ∈ ls, l.1 ∈ names8) (hlen : ls.length ≤ 400) :
    wpAny (model pw w) A (eval uniqE (envRun N)) (UniqRes w ((envRun N).locals :: framesOf outer) (ls.map (·.1)) s) E s := by
  unfold uniqE
  have T := R.T
  have hsl : (1000 : Nat) ≤ sizeLine := by decide
  refine wpAny_Call_NameR (wpAny_Name (Var.bi T rfl (by rfl) rfl rfl (by kernel_rfl) (v := .type "list") (by decide) (by rfl) _ _ _ _ s (fun _ _ e => e) ?_) (by decide))
  refine PySem.callWith_type (by rfl) (Calls.evalArgs_plain (Calls.spliced_cons ?_))
  refine wpAny_Call_NameR (wpAny_Name (Var.glob T rfl (by rfl) rfl (by kernel_rfl) (v := .ref 84) _ _ _ _ s (fun _ _ e => e) ?_) (by decide))
  refine callWith_of (P := FnAt 84) (by rfl) keeps_F (Calls.evalArgs_plain (Calls.spliced_cons ?_))
  refine wpAny_mono (ev_compP (fun d => [("pair", d)]) (fun _ => true) firstD (R.src hp) (ok.weak (by decide)) (cl := []) (by rfl) (by decide) rfl (by decide) (fun d hd => .name) (fun d hd x e he => ?_) (fun d hd => ?_) (by rw [List.length_map]; omega) (by intro _; rfl) (fun _ _ e => e)) (fun r s1 h1 => ?_) fun _ _ q => q
  · rcases List.mem_singleton.mp he with h
    cases h
    rfl
  · obtain ⟨l, hl, rfl⟩ := List.mem_map.mp hd
    intro S' C h' m up k hns hbi
    refine ⟨rfl, fun _ => ?_⟩
    obtain ⟨v, hv, rv⟩ := hbi _ _ (.head _)
    exact EvD.pname (T.mono k) (ok.weak (by decide)) (Var.loc rfl (by rfl) hns hv) rv
  · obtain ⟨⟨D, ys, rfl, nD, ⟨n, eD⟩, rD⟩, k1⟩ := h1
    have T1 := T.mono k1.le
    refine Calls.spliced_nil ⟨⟨_, _, _, _, T1.K _ _ (K_ue w)⟩, ?_⟩
    have e1 : (((ls.map pairD).filter fun _ => true).map firstD) = (ls.map (·.1)).map .str := by rw [filter_yes, List.map_map, List.map_map]; rfl
    rw [e1] at rD
    have row : RowAt s1.heap D (ls.map (·.1)) := ⟨⟨ys, ⟨n, eD⟩, rD.strs⟩, fun x hx => by obtain ⟨l, h, rfl⟩ := List.mem_map.mp hx; exact hl l h⟩
    have R1 := R.kp k1
    have AR2 := R1.around2 AR rfl
    have fr : framesOf (envRun N :: outer) = (envRun N).locals :: framesOf outer := rfl
    refine wpAny_mono (list_uniq (E := E) T1 ok hfr AR2 row fun z => ?_) (fun r s2 h2 => Calls.spliced_nil (wpAny_mono h2 (fun v s3 U => ?_) fun _ _ q => q)) fun _ _ q => q
    · rw [fr] at z
      rcases List.mem_cons.mp z with z | z
      · exact R.ownA (.inl z) nD
      · exact R.alive (R.fsA _ z) nD
    · rw [fr] at U
      obtain ⟨⟨L, vs, c, e1, e2, e3, e4⟩, U2, U3, U4⟩ := U
      refine ⟨⟨L, vs, c, e1, fresh_le k1.le e2, e3, e4⟩, U2, (KFr.of_kmu (.of_le k1.le)).trans U3, ?_⟩
      obtain ⟨_, h', t', rfl⟩ := k1
      obtain ⟨h3, t3, rfl⟩ := U4
      exact ⟨h3, t3, rfl⟩
end
noncomputable def keysD (bv : List (Str × List D)) : D := .lst ((bv.map (·.1)).map .str)
noncomputable def runD (ls : List (Str × Str)) (ns : List Str) : D := .tup [foundD (bookF ls) ns, keysD (bookF ls), .lst ((uniqF 8 (fun _ => false) (ls.map (·.1))).map .str)]
structure RunRes (w : World) (outer : List Env) (ps : Array Value) (d : D) (v : Value) (s s' : Shared) : Prop where
  rd : RD s'.heap (fun _ => True) v d
  T : TopH w s'.heap
  tab : ∃ more, TabAt s'.heap (ps ++ more)
  kf : KFr (fun b => b = 154) (framesOf outer) s.heap s'.heap
  sh : ∃ h' tk gens', s' = { s with heap := h', toks := tk, gens := gens' } ∧ (AllBare s.gens → AllBare gens')
section
variable {w : World} {A : Around} {E : Value → Shared → Prop} {s₀ s : Shared} {N : Nat} {S0 : Addr → Prop} {outer : List Env} {ρ : Rho} {B bd : Addr} {bk : Bk} {ps : Array Value} {pv fv : Value} {fd : D} {ls : List (Str × Str)}
theorem ret_stmt (K : FSt w s₀ (envRun N) S0 (framesOf outer) B bd bk ps ρ s) (ok : OkA 119 A) (hfr : A.frames = some (envRun N :: outer)) (AR : Around1 w s₀.heap outer) (hb : (("book" : Str), Value.ref B, D.atom (.ref B)) ∈ ρ) (hf : (("found" : Str), fv, fd) ∈ ρ) (hp : (("pairs" : Str), pv, D.lst (ls.map pairD)) ∈ ρ) (hl : ∀ l ∈ ls, l.1 ∈ names8) (hlen : ls.length ≤ 400) (hbk : bk.length ≤ 1000) (h154 : 154 ∉ framesOf outer) {Q : Flow → Shared → Prop}
    (hQ : ∀ v s', RD s'.heap (fun _ => True) v (.tup [fd, keysD (bkV bk), .lst ((uniqF 8 (fun _ => false) (ls.map (·.1))).map .str)]) → TopH w s'.heap → (∃ more, TabAt s'.heap (ps ++ more)) → KFr (fun _ => False) (framesOf outer) s₀.heap s'.heap → (∃ h' tk, s' = { s with heap := h', toks := tk, gens := s.gens.push .finished }) → Q (.ret v) s') :
    wpAny (model pw w) A (execs [retStmt] (envRun N)) Q E s := by
  unfold retStmt
  have R := K.R
  have T := R.T
  refine wpAny_execs_cons (wpAny_Return_some (Tuple_ ?_))
  rw [starEach_cons (by rfl), starEach_cons (by rfl), starEach_cons (by rfl)]
  refine Calls.spliced_cons (wpAny_Name (R.var hf _ _ _ _ s (fun _ _ e => e) ?_) (by decide))
  refine Calls.spliced_cons ?_
  unfold listE
  refine wpAny_Call_NameR (wpAny_Name (Var.bi T rfl (by rfl) rfl rfl (by kernel_rfl) (v := .type "list") (by decide) (by rfl) _ _ _ _ s (fun _ _ e => e) ?_) (by decide))
  refine PySem.callWith_type (by rfl) (Calls.evalArgs_plain (Calls.spliced_cons (wpAny_Name (R.var hb _ _ _ _ s (fun _ _ e => e) ?_) (by decide))))
  obtain ⟨M, tkf, ebd, LA⟩ := K.bo
  refine Calls.spliced_nil (wpAny_mono (list_book T (ok.weak (by decide)) K.st.book ebd (by rw [List.length_map]; exact hbk)) (fun v1 s1 h1 => ?_) fun _ _ q => q)
  obtain ⟨⟨L1, vs1, c1, rfl, nL1, eL1, rL1⟩, k1⟩ := h1
  have R1 := R.kp k1
  refine Calls.spliced_cons (wpAny_mono (ev_uniq R1 (ok.weak (by decide)) hfr AR hp hl hlen) (fun v2 s2 U => ?_) fun _ _ q => q)
  obtain ⟨⟨L2, vs2, c2, rfl, nL2, eL2, rL2⟩, T2, kf2, sh2⟩ := U
  refine Calls.spliced_nil (wpAny_newObj_type ?_ (by show (3 : Nat) ≤ sizeLine; decide))
  have k3 : Le s2.heap (s2.heap.push { cls := .type "tuple", data := .seq [fv, .ref L1, .ref L2].toArray }) := fun b o e => Heap.get?_push_of_some _ e
  have eT : (s2.heap.push { cls := .type "tuple", data := .seq [fv, .ref L1, .ref L2].toArray }).get? s2.heap.objs.size = some ⟨.type "tuple", none, .seq [fv, .ref L1, .ref L2].toArray 0, #[]⟩ := Heap.get?_push_size _ rfl
  have AR1 := R1.around2 AR rfl
  have dF : ∀ {b : Addr} {o : Obj}, (∀ es n, o.data ≠ .dict es n) → s1.heap.get? b = some o → b ∉ (envRun N).locals :: framesOf outer := fun hd e z => by
    obtain ⟨o', es, ep, e', hd'⟩ := AR1.dict z
    rw [e'] at e; cases e; exact hd _ _ hd'
  have kk : ∀ b o, b ∉ (envRun N).locals :: framesOf outer → s1.heap.get? b = some o → (s2.heap.push { cls := .type "tuple", data := .seq [fv, .ref L1, .ref L2].toArray }).get? b = some o := fun b o h e => k3 _ _ ((kf2 b o id e).2 h)
  generalize s2.heap.push { cls := .type "tuple", data := .seq [fv, .ref L1, .ref L2].toArray } = H at *
  refine hQ _ _ (.tup trivial eT rfl rfl (.cons ?_ (.cons ?_ (.cons ?_ .nil)))) (T2.mono k3) ?_ (fun b o n e => ?_) ?_
  · refine (R1.rd _ hf).mono (fun a o h e => kk a o (fun z => ?_) e) fun _ _ => trivial
    rcases List.mem_cons.mp z with z | z
    · exact h.2.1 (.inl z)
    · exact h.2.2.1 z
  · have e1 : keysD (bkV bk) = .lst ((ksOf bk).map fun e => .str e.1) := by unfold keysD bkV; rw [List.map_map, List.map_map, List.map_map]; rfl
    rw [e1]
    refine .lst trivial (kk _ _ (dF (fun _ _ z => by cases z) eL1) eL1) rfl rfl (rL1.mono (fun _ _ h _ => h.elim) fun _ h => h.elim)
  · exact .lst trivial (k3 _ _ eL2) rfl rfl (rL2.mono (fun _ _ h _ => h.elim) fun _ h => h.elim)
  · obtain ⟨more, ht⟩ := K.tab
    have ht1 := ht.keep k1.le
    have n154 : (154 : Addr) ∉ (envRun N).locals :: framesOf outer := dF (fun _ _ z => by cases z) ht1.1
    exact ⟨more, ht1.nd (ht1.1.trans (kk _ _ n154 ht1.1).symm) fun b o h1 _ e => kk b o (dF h1 e) e⟩
  · have x := R1.kf b o id e
    have nL : b ≠ (envRun N).locals := fun z => by rw [z, R.newO _ (.inl rfl)] at e; cases e
    refine ⟨fun hF => ?_, fun hF => kk b o (fun z => (List.mem_cons.mp z).elim nL hF) (x.2 hF)⟩
    obtain ⟨sl, q⟩ := x.1 hF
    obtain ⟨sl2, q2⟩ := (kf2 b _ id q).1 (.tail _ hF)
    exact ⟨sl2, k3 _ _ q2⟩
  · obtain ⟨_, h', t', rfl⟩ := k1
    obtain ⟨h2, t2, rfl⟩ := sh2
    exact ⟨H, t2, rfl⟩
end
noncomputable def pairsStmt : Stmt := .Assign [.Name "pairs" ⟨213, 4, 213, 9⟩] (.List [] ⟨213, 12, 213, 14⟩) ⟨213, 4, 213, 14⟩
noncomputable def bookStmt : Stmt := .Assign [.Name "book" ⟨217, 4, 217, 8⟩] (.Call (.Name "FreezableDefaultDict" ⟨217, 11, 217, 31⟩) [.Name "list" ⟨217, 32, 217, 36⟩] [] ⟨217, 11, 217, 37⟩) ⟨217, 4, 217, 37⟩
theorem run_body : fbody (stOf 18) = [pairsStmt, cfgFor, bookStmt, pairFor, frzStmt, fndStmt, retStmt] := by rfl
noncomputable def linesF (b : BaseK) (cs : List Cfg) : List (Str × Str) := cs.flatMap (cfgLines b)
theorem lines_ok {b : BaseK} {cs : List Cfg} (hc : ∀ c ∈ cs, CfgOk b c) : ∀ l ∈ linesF b cs, LineOk l := fun l hl => by
  obtain ⟨c, hcm, hl⟩ := List.mem_flatMap.mp hl
  obtain ⟨t, ht, rfl⟩ := List.mem_map.mp hl
  obtain ⟨c1, c2, c3, c4, c5⟩ := hc c hcm
  exact ⟨c1, _, (c4 t ht).1, rfl⟩
theorem lines_len {b : BaseK} {cs : List Cfg} (hc : ∀ c ∈ cs, CfgOk b c) (hlen : cs.length ≤ 20) : (linesF b cs).length ≤ 160 :=
  Nat.le_trans (flat_len (n := 8) fun c hc' => by unfold cfgLines; rw [List.length_map]; exact (hc c hc').2.2.2.2) (Nat.mul_le_mul_left 8 hlen)
theorem names_in : ∀ x ∈ namesS, x ∈ names8 := by decide
section
variable {w : World} {A : Around} {s : Shared} {outer : List Env} {ps : Array Value} {S0 : Addr → Prop} {cs : List Cfg} {ns : List Str} {sv nv bt : Value} {b : BaseK}
theorem run_call (T : TopH w s.heap) (ok : OkA 121 A) (hfr : A.frames = some outer) (AR : Around1 w s.heap outer) (tb : TabAt s.heap ps) (h154 : 154 ∉ framesOf outer) (hS : ¬ S0 154)
    (rs : RD s.heap (fun a => S0 a ∧ a ∉ framesOf outer) sv (.lst (cs.map cfgD))) (rn : RD s.heap (fun a => S0 a ∧ a ∉ framesOf outer) nv (.lst (ns.map .str))) (BT : BaseT w s.heap b bt) (hc : ∀ c ∈ cs, CfgOk b c) (hlen : cs.length ≤ 20) (hns : ns.length ≤ 100) :
    codeAny (model pw w) A (.call (.ref 296) ⟨[sv, nv, bt], []⟩) (fun r s' => ∃ v, r = .ok (.ret v) ∧ RunRes w outer ps (runD (linesF b cs) ns) v s s') s := by
  refine call_fn (binds := [("settings", sv), ("names", nv), ("base", bt)]) _ ok.room T (K_run w) 295 rfl (by kernel_rfl) rfl (by rfl) rfl (fun y hy => ?_) fun s₁ X k => ?_
  · simp only [List.mem_cons, List.not_mem_nil, or_false] at hy
    rcases hy with rfl | rfl | rfl <;> exact .inl (by rfl)
  have okA : OkA 120 (A.deeper (envRun s.heap.objs.size)) := ok.deeper _
  have hfrA : (A.deeper (envRun s.heap.objs.size)).frames = some (envRun s.heap.objs.size :: outer) := by
    show (A.deeper _).frames = _
    unfold Around.deeper
    simp [hfr]
  generalize hN : s.heap.objs.size = N at *
  have F := Frm.ofCall X
  refine wp_abs fun Q E hQ _ => ?_
  show wpAny _ (A.deeper (envRun N)) (execs (fbody (stOf 18)) (envRun N)) _ _ _
  rw [run_body]
  generalize A.deeper (envRun N) = A1 at *
  have fsA : ∀ b ∈ framesOf outer, s.heap.get? b ≠ none := fun b hb => AR.alive hb
  have R0 : RSt w s (envRun N) S0 (framesOf outer) (fun _ => False) [("settings", sv, .lst (cs.map cfgD)), ("names", nv, .lst (ns.map .str)), ("base", bt, .atom bt)] s₁ := RSt.ofFrm T F rfl AR.kf fsA (fun e he => by
      rcases List.mem_cons.mp he with rfl | he
      · exact .inl ⟨by rfl, by rfl⟩
      rcases List.mem_cons.mp he with rfl | he
      · exact .inl ⟨by rfl, by rfl⟩
      rcases List.mem_singleton.mp he with rfl
      exact .inl ⟨by rfl, by rfl⟩) (fun e he => by
      rcases List.mem_cons.mp he with rfl | he
      · exact rs
      rcases List.mem_cons.mp he with rfl | he
      · exact rn
      rcases List.mem_singleton.mp he with rfl
      exact .atom _)
  clear F X
  unfold pairsStmt
  refine wpAny_execs_cons (wpAny_Assign_Name (List_ (Calls.spliced_nil (wpAny_newObj_type ?_ (by show (0 : Nat) ≤ sizeLine; decide)))) (by rfl))
  have kk : Le s₁.heap (s₁.heap.push { cls := .type "list", data := .seq ([] : List Value).toArray }) := fun b o e => Heap.get?_push_of_some _ e
  have eP : (s₁.heap.push { cls := .type "list", data := .seq ([] : List Value).toArray }).get? s₁.heap.objs.size = some (lstO #[] 0) := Heap.get?_push_size _ rfl
  have nP := new_none s₁.heap
  have R1 := R0.kp (Kp.of' kk)
  generalize s₁.heap.objs.size = P at *
  generalize s₁.heap.push { cls := .type "list", data := .seq ([] : List Value).toArray } = H1 at *
  have nPO : ¬ Own (envRun N) P := fun z => R0.ownA z nP
  have R1 := R1.reX (X' := fun a => a = P) (fun e he => he) (fun e he => (R0.rd e he).dom.mono (fun a o _ e => kk a o e) fun a h => ⟨h.1.1, h.1.2.1, h.1.2.2.1, fun z => h.2 (z ▸ nP)⟩) fun a h => by subst h; exact ⟨R0.fresh0 nP, some_ne eP, nPO⟩
  refine R1.storeL (x := "pairs") (d := .atom (.ref P)) (ρ' := [("settings", sv, .lst (cs.map cfgD)), ("names", nv, .lst (ns.map .str)), ("base", bt, .atom bt)]) (by rfl) (fun e he => ⟨?_, he⟩) (.atom _) fun s2 R2 x2 sh2 => ?_
  · rcases List.mem_cons.mp he with rfl | he
    · exact (show ("settings" : Str) ≠ "pairs" by decide)
    rcases List.mem_cons.mp he with rfl | he
    · exact (show ("names" : Str) ≠ "pairs" by decide)
    rcases List.mem_singleton.mp he with rfl
    exact (show ("base" : Str) ≠ "pairs" by decide)
  have eP2 := x2 _ _ (fun z => nPO (.inl z)) eP
  refine wpAny_execs_cons (outer_loop (cs := cs) (b := b) (bt := bt) (sv := sv) (okA.weak (by decide)) hfrA AR R2 (fun e he => ?_) (.head _) (.tail _ (.tail _ (.tail _ (.head _)))) (.tail _ (.head _)) (fun e he => ?_) ⟨#[], ⟨0, eP2⟩, .nil⟩ BT hc hlen fun s3 R3 L3 sh3 => ?_)
  · rcases List.mem_cons.mp he with rfl | he
    · exact .atom _
    rcases List.mem_cons.mp he with rfl | he
    · exact rs
    rcases List.mem_cons.mp he with rfl | he
    · exact rn
    rcases List.mem_singleton.mp he with rfl
    exact .atom _
  · rcases List.mem_cons.mp he with rfl | he
    · exact (show ("pairs" : Str) ≠ "thing" ∧ ("pairs" : Str) ≠ "name" ∧ ("pairs" : Str) ≠ "kind" ∧ ("pairs" : Str) ≠ "n" by decide)
    rcases List.mem_cons.mp he with rfl | he
    · exact (show ("settings" : Str) ≠ "thing" ∧ ("settings" : Str) ≠ "name" ∧ ("settings" : Str) ≠ "kind" ∧ ("settings" : Str) ≠ "n" by decide)
    rcases List.mem_cons.mp he with rfl | he
    · exact (show ("names" : Str) ≠ "thing" ∧ ("names" : Str) ≠ "name" ∧ ("names" : Str) ≠ "kind" ∧ ("names" : Str) ≠ "n" by decide)
    rcases List.mem_singleton.mp he with rfl
    exact (show ("base" : Str) ≠ "thing" ∧ ("base" : Str) ≠ "name" ∧ ("base" : Str) ≠ "kind" ∧ ("base" : Str) ≠ "n" by decide)
  have hlk := lines_ok hc
  have hll := lines_len hc hlen
  change PairsAt _ _ _ _ _ _ _ (linesF b cs) at L3
  generalize linesF b cs = ls at *
  obtain ⟨its, ⟨np, eP3⟩, rP⟩ := L3
  have nX := R3.newX P rfl
  have up : ∀ {a}, OkF s (envRun N) S0 (framesOf outer) (fun a => a = P) a → OkF s (envRun N) S0 (framesOf outer) (fun _ => False) a := fun h => ⟨h.1, h.2.1, h.2.2.1, id⟩
  have R3 : RSt w s (envRun N) S0 (framesOf outer) (fun _ => False) [("pairs", .ref P, .lst (ls.map pairD)), ("names", nv, .lst (ns.map .str))] s3 := R3.reD (fun e he => by
      rcases List.mem_cons.mp he with rfl | he
      · exact ⟨_, .head _⟩
      rcases List.mem_singleton.mp he with rfl
      exact ⟨_, .tail _ (.tail _ (.head _))⟩) (fun e he => by
      rcases List.mem_cons.mp he with rfl | he
      · exact .lst ⟨.inr nX.1, nX.2.2, fun z => fsA _ z nX.1, id⟩ eP3 rfl rfl (rP.sub fun a h => up h)
      rcases List.mem_singleton.mp he with rfl
      exact (R3.rd _ (.tail _ (.tail _ (.head _)))).sub fun a h => up h) fun a h => h.elim
  have T3 := R3.T
  unfold bookStmt
  refine wpAny_execs_cons (wpAny_Assign_Name (wpAny_mono (ev_newBook T3 (okA.weak (by decide)) (Var.glob T3 rfl (by rfl) rfl (by kernel_rfl)) (Var.bi T3 rfl (by rfl) rfl rfl (by kernel_rfl) (by decide) (by rfl))) (fun v s4 PB => ?_) fun _ _ q => q) (by rfl))
  obtain ⟨B, bd, rfl, eB, ebd, nB, nbd, hlt, k4⟩ := PB
  have nBO : ¬ Own (envRun N) B := fun z => R3.ownA z nB
  have nbdO : ¬ Own (envRun N) bd := fun z => R3.ownA z nbd
  have nX4 : ∀ {a}, s3.heap.get? a ≠ none → ¬ BX B bd [] (fun _ => False) a := fun h z => by
    rcases z with (z | z | ⟨e, he, z⟩) | z
    · exact h (z ▸ nB)
    · exact h (z ▸ nbd)
    · cases he
    · exact z
  have R4 := (R3.kp k4).reX (X' := BX B bd [] fun _ => False) (fun e he => he) (fun e he => (R3.rd e he).dom.mono (fun a o _ e => k4.le a o e) fun a h => ⟨h.1.1, h.1.2.1, h.1.2.2.1, nX4 h.2⟩) fun a h => by
    rcases h with (rfl | rfl | ⟨e, he, z⟩) | z
    · exact ⟨R3.fresh0 nB, some_ne eB, nBO⟩
    · exact ⟨R3.fresh0 nbd, some_ne ebd, nbdO⟩
    · cases he
    · exact z.elim
  obtain ⟨c, hcl⟩ : ∃ c, (envRun N).cells.lookup ("book" : Str) = some c := ⟨_, by rfl⟩
  refine R4.storeC (x := "book") (c := c) (d := .atom (.ref B)) (ρ' := [("pairs", .ref P, .lst (ls.map pairD)), ("names", nv, .lst (ns.map .str))]) (by rfl) hcl (fun e he => ⟨?_, he⟩) (.atom _) fun s5 R5 x5 sh5 => ?_
  · rcases List.mem_cons.mp he with rfl | he
    · exact (show ("pairs" : Str) ≠ "book" by decide)
    rcases List.mem_singleton.mp he with rfl
    exact (show ("names" : Str) ≠ "book" by decide)
  have ocl : Own (envRun N) c := .inr ⟨_, hcl⟩
  have K5 : RBk w s (envRun N) S0 (framesOf outer) B bd (fun _ => False) [] _ s5 := ⟨R5, ⟨⟨[], 0, x5 _ _ (fun z => nBO (z ▸ ocl)) eB, .nil⟩, (fun e he => nomatch he), List.nodup_nil, (fun e he => nomatch he), List.nodup_nil⟩, x5 _ _ (fun z => nbdO (z ▸ ocl)) ebd, Nat.ne_of_gt hlt, fun a h => h.elim⟩
  refine wpAny_execs_cons (pair_loop K5 (okA.weak (by decide)) (.head _) (.tail _ (.head _)) (fun e he => ?_) hlk (by omega) fun bk s6 K6 hbk sh6 => ?_)
  · rcases List.mem_cons.mp he with rfl | he
    · exact (show ("book" : Str) ≠ "value" ∧ ("book" : Str) ≠ "pair" by decide)
    rcases List.mem_cons.mp he with rfl | he
    · exact (show ("pairs" : Str) ≠ "value" ∧ ("pairs" : Str) ≠ "pair" by decide)
    rcases List.mem_singleton.mp he with rfl
    exact (show ("names" : Str) ≠ "value" ∧ ("names" : Str) ≠ "pair" by decide)
  have hbl : bk.length ≤ 160 := by
    have e1 : bk.length = (bkV bk).length := by unfold bkV; rw [List.length_map]
    rw [e1, hbk]
    exact Nat.le_trans (bookF_good ls).len hll
  refine wpAny_execs_cons (freeze_stmt K6 (okA.weak (by decide)) (.head _) AR tb h154 hS (fun sx s7 F7 k7 no7 sh7 AR7 => ?_))
  refine wpAny_execs_cons (found_stmt (ns := ns) F7 (okA.weak (by decide)) (.head _) (.tail _ (.tail _ (.head _))) (fun e he => ?_) hns (by omega) fun fv s8 F8 sh8 => ?_)
  · rcases List.mem_cons.mp he with rfl | he
    · exact (show ("book" : Str) ≠ "found" by decide)
    rcases List.mem_cons.mp he with rfl | he
    · exact (show ("pairs" : Str) ≠ "found" by decide)
    rcases List.mem_singleton.mp he with rfl
    exact (show ("names" : Str) ≠ "found" by decide)
  refine ret_stmt F8 (okA.weak (by decide)) hfrA AR7 (.tail _ (.head _)) (.head _) (.tail _ (.tail _ (.head _))) (fun l hl => names_in _ (hlk l hl).1) (by omega) (by omega) h154 fun v s9 r9 T9 t9 k9 sh9 => ?_
  rw [hbk] at r9
  refine hQ _ _ ⟨v, rfl, r9, T9, t9, fun b' o n e => k9 b' o id (k7 b' o n e), ?_⟩
  obtain ⟨hx, ex⟩ := sh7
  obtain ⟨h8, t8, e8⟩ := F8.R.sh
  obtain ⟨h9, t9', e9⟩ := sh9
  exact ⟨h9, t9', _, by rw [e9, e8, ex], fun h => h.push rfl⟩
end
section
variable {w : World} {A : Around} {E : Value → Shared → Prop} {s₀ s : Shared} {env : Env} {S0 : Addr → Prop} {Fs : List Addr} {X : Addr → Prop} {ρ ρ' : Rho}
theorem RSt.assignSw {elt target iter : Expr} {ifs : List Expr} {scope : Scope} {cl : List (Str × Addr)} {pos spos py : Pos} {y : Str} {ds : List D} {Q : Flow → Shared → Prop} (R : RSt w s₀ env S0 Fs X ρ s) (hclos : closureFor scope env = pure cl) (hy : env.kindOf y = some .local) (hx : ∀ e ∈ ρ', e.1 ≠ y ∧ e ∈ ρ)
    (blk : ∀ (RR : Value → Addr → Result → Shared → Prop) (E : Value → Shared → Prop), (∀ D C s', s.heap.get? D = none → s.heap.get? C = none → D ≠ C → (∃ m, s'.heap.Ns C m) → (∃ ys, s'.heap.PlainList D ys ∧ RDs s'.heap (fun b => Fr1 (OkF s₀ env S0 Fs X) s.heap b ∧ b ≠ C) ys.toList ds) → Kp s s' → RR (.ref D) C (.ok .next) s') →
      wpAny (model pw w) A (eval iter env) (fun xv s₁ => wpAny (model pw w) A (pyIter xv) (fun it s₂ => wpAny (model pw w) A (newList []) (fun acc s₃ => wpAny (model pw w) A (newFunctionEnv scope env.globals cl [] env.qual none .none (some env)) (fun cenv s₄ =>
        codeAny (model pw w) A (.compStart (.ListComp elt [⟨target, iter, ifs, 0⟩] scope pos) 0 it acc { cenv with scope := relabel scope env }) (RR acc cenv.locals) s₄) E s₃) E s₂) E s₁) E s)
    (hQ : ∀ v s', RSt w s₀ env S0 Fs X ((y, v, .lst ds) :: ρ') s' → KeepBut (fun a => a = env.locals) s.heap s'.heap → (∃ h' tk, s' = { s with heap := h', toks := tk }) → Q .next s')
    (hsw : swapsWith (.ListComp elt [⟨target, iter, ifs, 0⟩] scope pos) (some (.Name y py)) spos.line env = pure true := by rfl) (hkind : scope.kind = .function := by rfl) (hnames : ∀ y ∈ scope.names, y.2 = .local → scope.names.lookup y.1 = some .local := by decide)
    (hst : ∀ x, foldedSetIterable iter env x = pure x := by intro _; rfl) :
    wpAny (model pw w) A (exec (.Assign [.Name y py] (.ListComp elt [⟨target, iter, ifs, 0⟩] scope pos) spos) env) Q E s := by
  obtain ⟨m, cm, h1, h2, h3⟩ := R.frm
  have hp : (env.scope.kind == .class || (env.scope.kind == .module && env.locals != env.globals)) = false := by rw [R.fn]; rfl
  rw [exec_Assign_Name_used _ _ _ _ hsw]
  refine wpAny_bind (wpAny_standAt (wpAny_bind ?_))
  show wpAny _ A (do let _ ← comprehension (.ListComp elt [⟨target, iter, ifs, 0⟩] scope pos) scope env _ (newList []) false (eval iter env) (some (assign (.Name y py) env))) _ _ s
  refine wpAny_bind (wpAny_mono (wpAny_comprehension_free (use := some (assign (.Name y py) env)) (Q := fun _ s' => Q .next s') rfl hst hclos hkind hnames
    (blk (fun acc C => compPost (model pw w) A E (some (assign (.Name y py) env)) (fun _ s' => Q .next s') acc C) E ?_)) (fun _ s' hq => wpAny_pure (wpAny_pure hq)) fun _ _ e => e)
  intro D C s' hD hC hDC hn hyy hk
  obtain ⟨m', hn⟩ := hn
  obtain ⟨ys, ⟨n, hpl⟩, hr⟩ := hyy
  have hLs : s.heap.get? env.locals ≠ none := R.ownA (.inl rfl)
  have hLC : env.locals ≠ C := fun z => hLs (z ▸ hC)
  have hLD : env.locals ≠ D := fun z => hLs (z ▸ hD)
  have nL : ∀ {a}, Fr1 (OkF s₀ env S0 Fs X) s.heap a → a ≠ env.locals := fun h z => h.elim (fun h => h.2.1 (.inl z)) fun h => hLs (z ▸ h)
  show wpAny _ A (assign (.Name y py) env (.ref D)) _ _ _
  refine wpAny_assign_Name (wpAny_storeName_local hy (h1.keeps hk.le) (fun h₂ hn₂ hs₂ => ?_) hp)
  refine ⟨m', hn.sameBut hs₂ (Ne.symm hLC), fun h₃ hs₃ => ?_⟩
  have rD : RD h₃ (Fr1 (OkF s₀ env S0 Fs X) s.heap) (.ref D) (.lst ds) := .lst (.inr hD) (hs₃.extBut _ _ hDC (hs₂.extBut _ _ (Ne.symm hLD) hpl)) rfl rfl (((hr.but hs₂.extBut fun z => nL z.1 rfl).but hs₃.extBut fun z => z.2 rfl).sub fun _ z => z.1)
  have hx' : Heap.ExtBut env.locals s.heap h₃ := fun b o hb e => hs₃.extBut b o (fun z => by rw [z, hC] at e; cases e) (hs₂.extBut b o hb (hk.le b o e))
  have hn3 := hn₂.sameBut hs₃ hLC
  obtain ⟨_, hh, tt, rfl⟩ := hk
  refine hQ (.ref D) _ (R.step (.of_kmu (.of_but hx' (.inl (.inl rfl)))) ⟨h₃, _, rfl⟩ ⟨_, cm, hn3, fun n c e => ?_, fun e he => ?_⟩ (fun e he => ?_) (R.ownDom hx' fun o _ => ?_)) (fun b o hb e => hx' b o hb e) ⟨_, _, rfl⟩
  · obtain ⟨o, eo, hd⟩ := h2 n c e
    exact ⟨o, hx' _ _ (R.ap.2 n c e) eo, hd⟩
  · rcases List.mem_cons.mp he with rfl | he
    · exact .inl ⟨hy, if_pos rfl⟩
    · rcases h3 e (hx e he).2 with ⟨q1, q2⟩ | q
      · exact .inl ⟨q1, (if_neg (hx e he).1).trans q2⟩
      · exact .inr q
  · rcases List.mem_cons.mp he with rfl | he
    · exact .inr (R.fr rD)
    · exact .inl (hx e he).2
  · obtain ⟨o, _, _, e, _⟩ := hn3; exact some_ne e
end
noncomputable abbrev envLaw (N : Nat) : Env := callEnvC (fdOf "law" 19 300) N 301
noncomputable abbrev S154 (a : Addr) : Prop := a ≠ 154
structure LSt (w : World) (s₀ : Shared) (ps : Array Value) (N : Nat) (X : Addr → Prop) (ρ : Rho) (s : Shared) : Prop where
  base : ∃ s₁, RSt w s₁ (envLaw N) S154 [] X ρ s ∧ (∃ qs, s₁.heap.get? 154 = some (tabObj qs)) ∧ ∀ b o, b ≠ 154 → s₀.heap.get? b = some o → s₁.heap.get? b = some o
  tab : ∃ more, TabAt s.heap (ps ++ more)
  sh : ∃ h' tk g, s = { s₀ with heap := h', toks := tk, gens := g } ∧ AllBare g
section
variable {w : World} {A : Around} {E : Value → Shared → Prop} {s₀ s : Shared} {ps : Array Value} {N : Nat} {X : Addr → Prop} {ρ ρ' : Rho}
theorem own_data {env : Env} {S0 : Addr → Prop} {Fs : List Addr} (R : RSt w s₀ env S0 Fs X ρ s) {b : Addr} {o : Obj} (h1 : ∀ es n, o.data ≠ .dict es n) (h2 : ∀ v, o.data ≠ .cell v) (e : s.heap.get? b = some o) : ¬ Own env b := fun z => by
  obtain ⟨m, cm, f1, f2, f3⟩ := R.frm
  rcases z with rfl | ⟨n, hc⟩
  · obtain ⟨o', es, ep, e', hd, _⟩ := f1
    rw [e'] at e; cases e; exact h1 _ _ hd
  · obtain ⟨o', e', hd⟩ := f2 n b hc
    rw [e'] at e; cases e; exact h2 _ hd
theorem TabAt.at' {h h' : Heap} {ps : Array Value} (x : TabAt h ps) (k : ∀ b o, (∀ es n, o.data ≠ .dict es n) → (∀ v, o.data ≠ .cell v) → h.get? b = some o → h'.get? b = some o) : TabAt h' ps :=
  ⟨k _ _ (fun _ _ z => by cases z) (fun _ z => by cases z) x.1, x.2.imp id fun ⟨c, e, c', oc, vs, t, e2, hoc, hd, r⟩ => ⟨c, e, c', oc, vs, t, e2, k _ _ (fun _ _ z => by rw [hd] at z; cases z) (fun _ z => by rw [hd] at z; cases z) hoc, hd, r⟩⟩
theorem LSt.step {s₁ s' : Shared} (L : LSt w s₀ ps N X ρ s) (R : RSt w s₁ (envLaw N) S154 [] X ρ s) (q : ∃ qs, s₁.heap.get? 154 = some (tabObj qs)) (k : ∀ b o, b ≠ 154 → s₀.heap.get? b = some o → s₁.heap.get? b = some o) (R' : RSt w s₁ (envLaw N) S154 [] X ρ' s') (kb : KeepBut (Own (envLaw N)) s.heap s'.heap) (sh : ∃ h' tk, s' = { s with heap := h', toks := tk }) : LSt w s₀ ps N X ρ' s' := by
  obtain ⟨more, ht⟩ := L.tab
  refine ⟨⟨s₁, R', q, k⟩, ⟨more, ht.at' fun b o h1 h2 e => kb b o (own_data R h1 h2 e) e⟩, ?_⟩
  obtain ⟨h1, t1, g, rfl, hb⟩ := L.sh
  obtain ⟨h2, t2, rfl⟩ := sh
  exact ⟨h2, t2, g, rfl, hb⟩
theorem LSt.run {d : D} {v : Value} {s' : Shared} (L : LSt w s₀ ps N X ρ s) {more : Array Value} (r : RunRes w [envLaw N] (ps ++ more) d v s s') : LSt w s₀ ps N X ρ s' ∧ ∀ b o, b ≠ 154 → b ≠ N → s.heap.get? b = some o → s'.heap.get? b = some o := by
  obtain ⟨s₁, R, ⟨qs, eq⟩, k0⟩ := L.base
  obtain ⟨rrd, rT, ⟨more2, ht⟩, kf, rsh⟩ := r
  have hF : framesOf [envLaw N] = [N] := rfl
  rw [hF] at kf
  have kk : ∀ b o, b ≠ 154 → b ≠ N → s.heap.get? b = some o → s'.heap.get? b = some o := fun b o h1 h2 e => (kf b o h1 e).2 (by simpa using h2)
  refine ⟨?_, kk⟩
  have n154 : ∀ {a}, s₁.heap.get? a = none → a ≠ 154 := fun e z => by rw [z, eq] at e; cases e
  have gU : (s₁.heap.update 154 fun _ => tabObj (ps ++ more ++ more2)).get? 154 = some (tabObj (ps ++ more ++ more2)) := Heap.get?_update_self _ eq rfl
  have gO : ∀ b, b ≠ 154 → (s₁.heap.update 154 fun _ => tabObj (ps ++ more ++ more2)).get? b = s₁.heap.get? b := fun b h => Heap.get?_update_other _ _ (Ne.symm h)
  generalize s₁.heap.update 154 (fun _ => tabObj (ps ++ more ++ more2)) = H at *
  have no : ∀ b, H.get? b = none → s₁.heap.get? b = none := fun b h => by
    by_cases z : b = 154
    · rw [z, gU] at h; cases h
    · rw [← gO b z]; exact h
  have on : ∀ b, s₁.heap.get? b = none → H.get? b = none := fun b h => by rw [gO b (n154 h)]; exact h
  have k1 : ∀ b o, b ≠ 154 → s₁.heap.get? b = some o → H.get? b = some o := fun b o n e => by rw [gO b n]; exact e
  have nN : s₁.heap.get? N = none := R.newO _ (.inl rfl)
  have notN : ∀ {a}, ¬ Own (envLaw N) a → a ≠ N := fun h z => h (.inl z)
  have up : ∀ {a : Addr}, OkF s₁ (envLaw N) S154 [] X a → OkF { s' with heap := H } (envLaw N) S154 [] X a := fun h => ⟨h.1.imp id (on _), h.2.1, h.2.2.1, h.2.2.2⟩
  have ne154 : ∀ {a : Addr}, OkF s₁ (envLaw N) S154 [] X a → a ≠ 154 := fun h z => h.1.elim (fun q => q z) fun q => n154 q z
  obtain ⟨m, cm, f1, f2, f3⟩ := R.frm
  refine ⟨⟨{ s' with heap := H }, ⟨top_kmu R.T0 (fun b o n e => k1 b o n e) ⟨fun a o e z => (by rw [z, K_no154] at e; cases e), by decide, by decide, by decide⟩, rT, R.kfs, R.fn, ⟨m, cm, Ns.slots f1 (fun o e => (kf _ o (n154 nN) e).1 (.head _)), fun n c e => ?_, f3⟩, fun e he => (R.rd e he).mono (fun a o h e => kk a o (ne154 h) (notN h.2.1) e) fun a h => up h, fun b o _ e => ⟨fun hF => (nomatch hF), fun _ => ?_⟩, fun a h => on _ (R.newO a h), fun a h => ⟨on _ (R.newX a h).1, ?_, (R.newX a h).2.2⟩, fun b hb => (nomatch hb), R.ap, ⟨s'.heap, s'.toks, rfl⟩⟩, ⟨_, gU⟩, fun b o n e => k1 b o n (k0 b o n e)⟩, ⟨more ++ more2, by rw [← Array.append_assoc]; exact ht⟩, ?_⟩
  · obtain ⟨o, eo, hd⟩ := f2 n c e
    exact ⟨o, kk _ _ (n154 (R.newO _ (.inr ⟨n, e⟩))) (R.ap.2 n c e) eo, hd⟩
  · by_cases z : b = 154
    · subst z
      rw [← e]
      exact ht.1.trans gU.symm
    · have e1 : s₁.heap.get? b = some o := by rw [← gO b z]; exact e
      exact kk b o z (fun q => by rw [q, nN] at e1; cases e1) (R.le b o e1)
  · cases q : s.heap.get? a with
    | none => exact absurd q (R.newX a h).2.1
    | some o => exact some_ne (kk a o (n154 (R.newX a h).1) (notN (R.newX a h).2.2) q)
  · obtain ⟨h1, t1, g1, rfl, hb⟩ := L.sh
    obtain ⟨h2, t2, g2, e2, hb2⟩ := rsh
    exact ⟨h2, t2, g2, e2, hb2 hb⟩
end
noncomputable def lw (i : Nat) : Stmt := (fbody (stOf 19)).getD i (.Pass default)
theorem law_body : fbody (stOf 19) = [lw 0, lw 1, lw 2, lw 3, lw 4] := by rfl
noncomputable def fixF : List Nat := [0, 112, 76, 525, 205, 261, 463, 69]
noncomputable def rowF (ns : List Int) : List Nat := ((ns.take 5).map fun x => (x.fmod 4320).toNat) ++ fixF
noncomputable def natD (l : List Nat) : D := .lst (l.map fun x : Nat => .int x)
noncomputable def cfgF (x : Nat) : Cfg := (names8.getD (x % 3) "", x / 3 % 6, x / 18)
noncomputable def cfgsF (ns : List Int) : List Cfg := (rowF ns).map cfgF
noncomputable def namesD : D := .lst (names8.map .str)
theorem row_in (ns : List Int) : ∀ x ∈ rowF ns, x < 4320 := fun x hx => by
  unfold rowF at hx
  rcases List.mem_append.mp hx with hx | hx
  · obtain ⟨y, hy, rfl⟩ := List.mem_map.mp hx
    have h1 := Int.fmod_nonneg_of_pos y (b := 4320) (by decide)
    have h2 := Int.fmod_lt_of_pos y (b := 4320) (by decide)
    omega
  · have : ∀ x ∈ fixF, x < 4320 := by decide
    exact this x hx
theorem row_len (ns : List Int) : (rowF ns).length ≤ 13 := by
  unfold rowF
  rw [List.length_append, List.length_map, List.length_take]
  have : fixF.length = 8 := rfl
  omega
theorem nm_at {k : Nat} (h : k < 4) : (names8.map D.str)[((k : Int)).toNat]? = some (.str (names8.getD k "")) := by
  match k, h with
  | 0, _ => rfl
  | 1, _ => rfl
  | 2, _ => rfl
  | 3, _ => rfl
noncomputable abbrev scX : Scope := { kind := .function, names := [(".0", .local), ("x", .local)], isGenerator := false, isCoroutine := false }
noncomputable abbrev scXN : Scope := { kind := .function, names := [(".0", .local), ("x", .local), ("names", .free)], isGenerator := false, isCoroutine := false }
noncomputable def modD : D → D
  | .int i => .int (i.fmod 4320)
  | d => d
noncomputable def cfD : D → D
  | .int i => cfgD (cfgF i.toNat)
  | d => d
noncomputable def xBd (d : D) : List (Str × D) := [("x", d)]
section
variable {w : World} {A : Around} {E : Value → Shared → Prop} {s₀ s : Shared} {ps : Array Value} {N : Nat} {X : Addr → Prop} {ρ ρ' : Rho} {Q : Flow → Shared → Prop} {ns : List Int} {v : Value}
theorem KeepBut.mono {P P' : Addr → Prop} {h h' : Heap} (k : KeepBut P h h') (m : ∀ a, P a → P' a) : KeepBut P' h h' := fun b o n e => k b o (fun z => n (m _ z)) e
theorem ev_mods {env : Env} {h : Heap} {S : Addr → Prop} {iter : Expr} {p1 p2 p3 p4 p5 : Pos} (ok : OkA 0 A) (src : SrcL pw w A env h S iter (ns.map .int)) (hlen : ns.length ≤ sizeLine) (hclos : closureFor scX env = pure []) (hst : ∀ x, foldedSetIterable iter env x = pure x) :
    EvD pw w A env h S (.ListComp (.BinOp (.Name "x" p1) .Mod (.Constant (.int 4320) 0 p2) p3) [⟨.Name "x" p4, iter, [], 0⟩] scX p5) (natD (ns.map fun x => (x.fmod 4320).toNat)) := by
  refine EvD.congr (EvD.comp xBd (fun _ => true) modD src ok hclos (by decide) rfl (by decide) (fun d hd => .name) ?_ ?_ (by simpa using hlen) hst) ?_
  · intro d hd x e hx
    cases List.mem_singleton.mp hx; rfl
  · intro d hd S' C h' m hS hh hn hb
    obtain ⟨z, hz, rfl⟩ := List.mem_map.mp hd
    refine ⟨rfl, fun _ => ?_⟩
    obtain ⟨v, hv, rv⟩ := hb "x" _ (.head _)
    exact EvD.bin (EvD.name (Var.loc rfl rfl hn hv) rv) EvD.cint (BinD.mod (by decide))
  · rw [filter_yes, List.map_map]
    unfold natD
    rw [List.map_map]
    congr 1
    refine List.map_congr_left fun x _ => ?_
    have h1 := Int.fmod_nonneg_of_pos x (b := 4320) (by decide)
    show D.int (x.fmod 4320) = .int ((x.fmod 4320).toNat : Nat)
    rw [Int.toNat_of_nonneg h1]
theorem lw0 (L : LSt w s₀ ps N X ρ s) (ok : OkA 0 A) (hs : (("script" : Str), v, D.lst (ns.map .int)) ∈ ρ) (hlen : ns.length ≤ sizeLine) (hx : ∀ e ∈ ρ', e.1 ≠ "row" ∧ e ∈ ρ) (hQ : ∀ v s', LSt w s₀ ps N X (("row", v, natD (rowF ns)) :: ρ') s' → Q .next s') : wpAny (model pw w) A (exec (lw 0) (envLaw N)) Q E s := by
  obtain ⟨s₁, R, q, k⟩ := L.base
  have e : natD (rowF ns) = .lst ((((ns.take 5).map fun x => (x.fmod 4320).toNat).map fun x : Nat => D.int x) ++ fixF.map fun x : Nat => D.int x) := by unfold natD rowF; rw [List.map_append]
  have hq : (ns.take 5).length ≤ 5 := by rw [List.length_take]; exact Nat.min_le_left _ _
  have hs6 : (13 : Nat) ≤ sizeLine := by decide
  refine R.assignL (ρ' := ρ') (d := natD (rowF ns)) ?_ (by rfl) hx fun v s' R' k' sh => hQ v s' (L.step R q k R' (k'.mono fun a h => .inl h) sh)
  rw [e]
  refine EvD.bin (ev_mods (ns := ns.take 5) ok (EvD.congr (EvD.upto (ds := ns.map .int) (b := 5) (R.src hs) EvD.cint (by simpa using hlen)) (by rw [List.map_take])).src (by omega) (by rfl) (by intro _; rfl)) (EvD.list (.cons EvD.cint (.cons EvD.cint (.cons EvD.cint (.cons EvD.cint (.cons EvD.cint (.cons EvD.cint (.cons EvD.cint (.cons EvD.cint .nil rfl) rfl) rfl) rfl) rfl) rfl) rfl) rfl) (by decide)) (BinD.addL ?_)
  show (((ns.take 5).map fun x => (x.fmod 4320).toNat).map fun x : Nat => D.int x).length + 8 ≤ sizeLine
  simp only [List.length_map]
  omega
theorem lw1 (L : LSt w s₀ ps N X ρ s) (hx : ∀ e ∈ ρ', e.1 ≠ "names" ∧ e ∈ ρ) (hQ : ∀ v s', LSt w s₀ ps N X (("names", v, namesD) :: ρ') s' → Q .next s') : wpAny (model pw w) A (exec (lw 1) (envLaw N)) Q E s := by
  obtain ⟨s₁, R, q, k⟩ := L.base
  obtain ⟨c, hc⟩ : ∃ c, (envLaw N).cells.lookup ("names" : Str) = some c := ⟨_, by rfl⟩
  exact R.assignC (ρ' := ρ') (EvD.list (.cons EvD.cstr (.cons EvD.cstr (.cons EvD.cstr (.cons EvD.cstr .nil rfl) rfl) rfl) rfl) (by decide)) (by rfl) hc hx fun v s' R' k' sh => hQ v s' (L.step R q k R' (k'.mono fun a h => .inr ⟨_, h ▸ hc⟩) sh)
theorem lw2 (L : LSt w s₀ ps N X ρ s) (ok : OkA 0 A) {vn vr : Value} (hn : (("names" : Str), vn, namesD) ∈ ρ) (hr : (("row" : Str), vr, natD (rowF ns)) ∈ ρ) (hx : ∀ e ∈ ρ', e.1 ≠ "settings" ∧ e ∈ ρ) (hQ : ∀ v s', LSt w s₀ ps N X (("settings", v, .lst ((cfgsF ns).map cfgD)) :: ρ') s' → Q .next s') : wpAny (model pw w) A (exec (lw 2) (envLaw N)) Q E s := by
  obtain ⟨s₁, R, q, k⟩ := L.base
  have hs6 : (13 : Nat) ≤ sizeLine := by decide
  have hl := row_len ns
  obtain ⟨c, hc, hcl⟩ : ∃ c, (envLaw N).cells.lookup ("names" : Str) = some c ∧ closureFor scXN (envLaw N) = pure [(("names" : Str), c)] := ⟨_, by rfl, by rfl⟩
  have cB := R.cell hn (by rfl) hc
  refine R.assignComp (ρ' := ρ') xBd (fun _ => true) cfD (R.src hr) (ok.weak (by decide)) hcl (fun d hd => .name) ?_ ?_ (by rw [List.length_map]; omega) (by rfl) hx (fun v s' R' k' sh => hQ v s' (L.step R q k ?_ (k'.mono fun a h => .inl h) sh))
  · intro d hd x e hx
    cases List.mem_singleton.mp hx; rfl
  · intro d hd S' C h' m hS hh hn' hb
    obtain ⟨z, hz, rfl⟩ := List.mem_map.mp hd
    refine ⟨rfl, fun _ => ?_⟩
    obtain ⟨v1, hv, rv⟩ := hb "x" _ (.head _)
    have hz' := row_in ns z hz
    have hx : ∀ {p : Pos}, EvD pw w A (compEnvC scXN [(("names" : Str), c)] C (envLaw N)) h' S' (.Name "x" p) (.int z) := EvD.name (Var.loc rfl rfl hn' hv) rv
    have vn' : Var (compEnvC scXN [(("names" : Str), c)] C (envLaw N)) h' "names" vn := Var.cell (c := c) rfl (relabel_free rfl (by rfl) rfl) rfl (cB.keeps hh)
    have hnm : ∀ {p : Pos}, SrcL pw w A (compEnvC scXN [(("names" : Str), c)] C (envLaw N)) h' S' (.Name "names" p) (names8.map .str) :=
      (EvD.name vn' ((R.rd _ hn).up hh hS)).src
    have e1 : cfD (.int z) = .tup [.str (names8.getD (z % 3) ""), .int (z / 3 % 6 : Nat), .int (z / 18 : Nat)] := rfl
    rw [e1]
    refine EvD.tuple (.cons (EvD.idxL hnm (EvD.modN hx (k := 3) (by decide)) (by omega) (by omega) (nm_at (by omega))) (.cons (EvD.modN (EvD.divN hx (k := 3) (by decide) (by omega) (by decide)) (k := 6) (by decide)) (.cons (EvD.divN hx (k := 18) (by decide) (by omega) (by decide)) .nil rfl) rfl) rfl) (by show (3 : Nat) ≤ sizeLine; decide)
  · have e1 : D.lst ((cfgsF ns).map cfgD) = .lst ((((rowF ns).map fun x : Nat => D.int x).filter fun _ => true).map cfD) := by
      rw [filter_yes, List.map_map]
      unfold cfgsF
      rw [List.map_map]; rfl
    rw [e1]
    exact R'
end
noncomputable def fbd : List Stmt := match lw 3 with
  | .For _ _ b _ _ => b
  | _ => []
noncomputable def bs (i : Nat) : Stmt := fbd.getD i (.Pass default)
theorem fbd_eq : fbd = [bs 0, bs 1, bs 2, bs 3] := by rfl
noncomputable def openD : BaseK → D
  | .b0 => .atom (.ref 257)
  | .b1 => .tup []
  | .b2 => .atom (.type "str")
noncomputable def baseD : BaseK → D
  | .b0 => .tup []
  | .b1 => .tup [.tup [.atom (.type "str"), .atom (.ref 257)]]
  | .b2 => .tup [.atom (.ref 257)]
theorem open_of {h : Heap} {S : Addr → Prop} {b : BaseK} {v : Value} (r : RD h S v (openD b)) : OpenV h b v := by
  cases b with
  | b0 => cases r using RD.atomE; rfl
  | b1 =>
    cases r using RD.tupE with
    | tup sa ea ca da ra =>
    rename_i a o vs n
    obtain ⟨l⟩ := vs
    cases ra using RDs.nilE
    obtain ⟨c, d, dt, sl⟩ := o
    dsimp only at ca da
    subst ca da
    exact ⟨a, d, n, sl, rfl, ea⟩
  | b2 => cases r using RD.atomE; rfl
theorem base_of {w : World} {h : Heap} {S : Addr → Prop} {b : BaseK} {v : Value} (r : RD h S v (baseD b)) : BaseT w h b v := by
  cases b with
  | b0 =>
    cases r using RD.tupE with
    | tup sa ea ca da ra =>
    rename_i a o vs n
    obtain ⟨l⟩ := vs
    cases ra using RDs.nilE
    exact ⟨a, o, _, n, _, rfl, ea, ca, da, rfl, rfl⟩
  | b1 =>
    cases r using RD.tupE with
    | tup sa ea ca da ra =>
    rename_i a o vs n
    obtain ⟨l⟩ := vs
    cases ra using RDs.consE with
    | cons r1 r2 =>
    cases r2 using RDs.nilE
    cases r1 using RD.tupE with
    | tup sb eb cb db rb =>
    rename_i a2 o2 vs2 n2
    obtain ⟨l2⟩ := vs2
    cases rb using RDs.consE with
    | cons q1 q2 =>
    cases q2 using RDs.consE with
    | cons q3 q4 =>
    cases q4 using RDs.nilE
    cases q1 using RD.atomE
    cases q3 using RD.atomE
    obtain ⟨c, d, dt, sl⟩ := o2
    dsimp only at cb db
    subst cb db
    exact ⟨a, o, _, n, _, rfl, ea, ca, da, a2, d, n2, sl, rfl, rfl, eb⟩
  | b2 =>
    cases r using RD.tupE with
    | tup sa ea ca da ra =>
    rename_i a o vs n
    obtain ⟨l⟩ := vs
    cases ra using RDs.consE with
    | cons r1 r2 =>
    cases r2 using RDs.nilE
    cases r1 using RD.atomE
    exact ⟨a, o, _, n, _, rfl, ea, ca, da, rfl, rfl⟩
noncomputable def flatF (b : BaseK) (cs : List Cfg) : List (Str × Th) := cs.flatMap fun c => (dueF b c.2.1 c.2.2).map fun t => (c.1, t)
noncomputable def flD (p : Str × Th) : D := .tup [.str p.1, p.2.d]
noncomputable def bd3 : D → List (Str × D)
  | .tup [a, b, c] => [("name", a), ("kind", b), ("n", c)]
  | _ => []
noncomputable def ysD (b : BaseK) : D → List D
  | .tup [_, .int k, .int n] => (dueF b k.toNat n.toNat).map Th.d
  | _ => []
noncomputable def gD : D → D → D
  | .tup [a, _, _], e => .tup [a, e]
  | d, _ => d
noncomputable abbrev scFl : Scope := { kind := .function, names := [(".0", .local), ("name", .local), ("kind", .local), ("n", .local), ("thing", .local), ("_law_due", .globalImplicit), ("opened", .free)], isGenerator := false, isCoroutine := false }
section
variable {w : World} {A : Around} {E : Value → Shared → Prop} {s₀ s : Shared} {ps : Array Value} {N : Nat} {X : Addr → Prop} {ρ ρ' : Rho} {Q : Flow → Shared → Prop} {ns : List Int} {v : Value} {b : BaseK} {cs : List Cfg} {sv ov : Value}
theorem bs0 (L : LSt w s₀ ps N X ρ s) (ok : OkA 108 A) (hse : (("settings" : Str), sv, D.lst (cs.map cfgD)) ∈ ρ) (hop : (("opened" : Str), ov, openD b) ∈ ρ) (hc : ∀ c ∈ cs, c.2.2 < 2 ^ 29) (hlen : cs.length ≤ 100) (hsz : (flatF b cs).length ≤ 1000) (hx : ∀ e ∈ ρ', e.1 ≠ "flat" ∧ e ∈ ρ)
    (hQ : ∀ v s', LSt w s₀ ps N X (("flat", v, .lst ((flatF b cs).map flD)) :: ρ') s' → KeepBut (Own (envLaw N)) s.heap s'.heap → Q .next s') : wpAny (model pw w) A (exec (bs 0) (envLaw N)) Q E s := by
  obtain ⟨s₁, R, q, k⟩ := L.base
  have hsl : (1000 : Nat) ≤ sizeLine := by decide
  obtain ⟨cf, hcf⟩ : ∃ c, (envLaw N).cells.lookup ("flat" : Str) = some c := ⟨_, by rfl⟩
  obtain ⟨c, hcc, hcl⟩ : ∃ c, (envLaw N).cells.lookup ("opened" : Str) = some c ∧ closureFor scFl (envLaw N) = pure [(("opened" : Str), c)] := ⟨_, by rfl, by rfl⟩
  have cO := R.cell hop (by rfl) hcc
  have OV := open_of (R.rd _ hop)
  have eF : ((cs.map cfgD).flatMap fun d => (ysD b d).map (gD d)) = (flatF b cs).map flD := by
    unfold flatF
    rw [List.flatMap_map, List.map_flatMap]
    congr 1
    funext c'
    rw [List.map_map]
    show ((dueF b c'.2.1 c'.2.2).map Th.d).map _ = _
    rw [List.map_map]
    rfl
  refine R.assignC (ρ' := ρ') (d := .lst ((flatF b cs).map flD)) ?_ (by rfl) hcf hx fun v s' R' k' sh => hQ v s' (L.step R q k R' (k'.mono fun a h => .inr ⟨_, h ▸ hcf⟩) sh) (k'.mono fun a h => .inr ⟨_, h ▸ hcf⟩)
  rw [← eF]
  refine EvD.comp2 (cl := [(("opened" : Str), c)]) bd3 (ysD b) gD (R.src hse) (ok.weak (by decide)) hcl (by decide) rfl (by decide) (fun d hd => ?_) (fun d hd x e he => ?_) (by rfl) (fun d hd => ?_) (by rw [eF, List.length_map]; omega) (by intro _ _; rfl) (by intro _; rfl)
  · obtain ⟨c', hc', rfl⟩ := List.mem_map.mp hd
    exact .tup3 (by decide) (by decide) (by decide)
  · obtain ⟨c', hc', rfl⟩ := List.mem_map.mp hd
    have he' : (x, e) ∈ [(("name" : Str), D.str c'.1), ("kind", .int c'.2.1), ("n", .int c'.2.2)] := he
    simp only [List.mem_cons, List.not_mem_nil, or_false, Prod.mk.injEq] at he'
    rcases he' with ⟨rfl, _⟩ | ⟨rfl, _⟩ | ⟨rfl, _⟩ <;> exact ⟨rfl, by decide⟩
  · obtain ⟨c', hc', rfl⟩ := List.mem_map.mp hd
    intro S' C h' m up hh hn hb
    have T' := R.T.mono hh
    obtain ⟨v1, hv1, rv1⟩ := hb "name" _ (.head _)
    obtain ⟨v2, hv2, rv2⟩ := hb "kind" _ (.tail _ (.head _))
    obtain ⟨v3, hv3, rv3⟩ := hb "n" _ (.tail _ (.tail _ (.head _)))
    have vo : Var (compEnvC scFl [(("opened" : Str), c)] C (envLaw N)) h' "opened" ov := Var.cell (c := c) rfl (relabel_free rfl (by rfl) rfl) rfl (cO.keeps hh)
    refine ⟨EvD.call (Var.glob T' rfl (by rfl) rfl (by kernel_rfl)) (isFn291 T') (.cons (EvD.name (Var.loc rfl (by rfl) hn hv2) rv2) (.cons (EvD.name (Var.loc rfl (by rfl) hn hv3) rv3) (.cons (EvD.name vo (.atom _)) .nil rfl) rfl) rfl) (by simp) (due_spec T' (OV.mono hh) c'.2.1 c'.2.2 (hc c' hc')) (ok.weak (by decide)), fun e he u hu ru => ?_⟩
    exact EvD.tuple (.cons (EvD.name (Var.loc rfl (by rfl) hn hv1) rv1) (.cons (EvD.name (Var.loc rfl (by rfl) hn hu) ru) .nil rfl) rfl) (by show (2 : Nat) ≤ sizeLine; decide)
end
noncomputable def foundF (fl : List (Str × Th)) (nm : Str) : List Th := (fl.filter fun p => p.1 == nm).map (·.2)
noncomputable def fndD (fl : List (Str × Th)) (ns : List Str) : D := .lst (ns.map fun nm => .lst ((foundF fl nm).map Th.d))
noncomputable abbrev scFo : Scope := { kind := .function, names := [(".0", .local), ("name", .cell), ("flat", .free)], isGenerator := false, isCoroutine := false }
noncomputable abbrev scIn : Scope := { kind := .function, names := [(".0", .local), ("n", .local), ("thing", .local), ("name", .free)], isGenerator := false, isCoroutine := false }
noncomputable def fgD (fl : List (Str × Th)) : D → D
  | .str nm => .lst ((foundF fl nm).map Th.d)
  | d => d
noncomputable def bdNT : D → List (Str × D)
  | .tup [a, t] => [("n", a), ("thing", t)]
  | _ => []
noncomputable def pNm (nm : Str) : D → Bool
  | .tup [.str a, _] => a == nm
  | _ => false
noncomputable def sndD : D → D
  | .tup [_, t] => t
  | d => d
noncomputable def fstD : D → D
  | .tup [a, _] => a
  | d => d
theorem bdNT_loc {fl : List (Str × Th)} {sc : Scope} (h1 : sc.names.lookup ("n" : Str) = some .local) (h2 : sc.names.lookup ("thing" : Str) = some .local) : ∀ d ∈ fl.map flD, ∀ x e, (x, e) ∈ bdNT d → sc.names.lookup x = some .local := fun d hd x e he => by
  obtain ⟨p, hp, rfl⟩ := List.mem_map.mp hd
  have he' : (x, e) ∈ [(("n" : Str), D.str p.1), ("thing", p.2.d)] := he
  simp only [List.mem_cons, List.not_mem_nil, or_false, Prod.mk.injEq] at he'
  rcases he' with ⟨rfl, _⟩ | ⟨rfl, _⟩
  · exact h1
  · exact h2
theorem bdNT_bd {fl : List (Str × Th)} {p1 p2 p3 : Pos} {t : Nat} {c : Nat} : ∀ d ∈ fl.map flD, Bd (.Tuple [.Name "n" p1, .Name "thing" p2] c p3) d (bdNT d) := fun d hd => by
  obtain ⟨p, hp, rfl⟩ := List.mem_map.mp hd
  exact .tup2 (by decide)
section
variable {w : World} {A : Around} {E : Value → Shared → Prop} {s₀ s : Shared} {ps : Array Value} {N : Nat} {X : Addr → Prop} {ρ ρ' : Rho} {Q : Flow → Shared → Prop} {fl : List (Str × Th)} {nv fv : Value}
theorem bs1 (L : LSt w s₀ ps N X ρ s) (ok : OkA 0 A) (hn : (("names" : Str), nv, namesD) ∈ ρ) (hf : (("flat" : Str), fv, D.lst (fl.map flD)) ∈ ρ) (hsz : fl.length ≤ 1000) (hx : ∀ e ∈ ρ', e.1 ≠ "found" ∧ e ∈ ρ)
    (hQ : ∀ v s', LSt w s₀ ps N X (("found", v, fndD fl names8) :: ρ') s' → KeepBut (Own (envLaw N)) s.heap s'.heap → Q .next s') : wpAny (model pw w) A (exec (bs 1) (envLaw N)) Q E s := by
  obtain ⟨s₁, R, q, k⟩ := L.base
  have hsl : (1000 : Nat) ≤ sizeLine := by decide
  obtain ⟨c, hcc, hcl⟩ : ∃ c, (envLaw N).cells.lookup ("flat" : Str) = some c ∧ closureFor scFo (envLaw N) = pure [(("flat" : Str), c)] := ⟨_, by rfl, by rfl⟩
  have cF := R.cell hf (by rfl) hcc
  have rf := R.rd _ hf
  refine R.assignSw (ρ' := ρ') (ds := names8.map fun nm => .lst ((foundF fl nm).map Th.d)) hcl (by rfl) hx (fun RR E' hRR => wpAny_mono ((R.src hn (by decide)) s E' fun _ _ e => e) (fun xv s1 h1 => ?_) fun _ _ e => e) (fun v s' R' k' sh => hQ v s' (L.step R q k R' (k'.mono fun a h => .inl h) sh) (k'.mono fun a h => .inl h))
  obtain ⟨⟨l, vs, rfl, hl, r⟩, k1⟩ := h1
  refine compC_block (x := "name") (fgD fl) ok (fun n => by rfl) (fun h => by rfl) (by rfl) rfl (fun _ _ e => e) k1 hl r (fun d hd => ?_) (by decide) (fun D C s' h1 h2 h3 h4 h5 h6 => hRR D C s' h1 h2 h3 h4 ?_ h6)
  · obtain ⟨nm, hnm, rfl⟩ := List.mem_map.mp hd
    intro S' C Cx h' v up hh hcx rv
    cases rv using RD.strE with
    | str t =>
    have vf : Var (compEnvC scFo ((("name" : Str), Cx) :: [(("flat" : Str), c)]) C (envLaw N)) h' "flat" fv := Var.cell (c := c) rfl (relabel_free rfl (by rfl) rfl) (by rfl) (cF.keeps hh)
    refine EvD.congr (EvD.comp (cl := [(("name" : Str), Cx)]) bdNT (pNm nm) sndD (EvD.name vf (rf.up hh up)).src ok (by rfl) (by decide) rfl (by decide) (bdNT_bd (t := 0)) (bdNT_loc (by rfl) (by rfl)) (fun d hd => ?_) (by rw [List.length_map]; omega)) ?_
    · obtain ⟨p, hp, rfl⟩ := List.mem_map.mp hd
      intro S2 C2 h2 m2 up2 hh2 hn2 hb2
      obtain ⟨v1, hv1, rv1⟩ := hb2 "n" _ (.head _)
      obtain ⟨v2, hv2, rv2⟩ := hb2 "thing" _ (.tail _ (.head _))
      have vn : Var (compEnvC scIn [(("name" : Str), Cx)] C2 (compEnvC scFo ((("name" : Str), Cx) :: [(("flat" : Str), c)]) C (envLaw N))) h2 "name" (.str nm t) := Var.cell (c := Cx) rfl (relabel_free rfl (by rfl) rfl) (by rfl) (hcx.keeps hh2)
      exact ⟨EvT.cmp (EvD.name (Var.loc rfl (by rfl) hn2 hv1) rv1) (EvD.name vn (.str _ _)) CmpD.eqS, fun _ => EvD.name (Var.loc rfl (by rfl) hn2 hv2) rv2⟩
    · show D.lst _ = .lst ((foundF fl nm).map Th.d)
      unfold foundF
      rw [List.filter_map, List.map_map, List.map_map]
      rfl
  · rw [List.map_map] at h5
    exact h5
end
section
variable {prog : Program} {w : World} {A : Around} {env : Env} {h : Heap} {S : Addr → Prop}
theorem EvD.idxT {value slice : Expr} {pos : Pos} {ds : List D} {k : Int} {d : D} (x : EvD prog w A env h S value (.tup ds)) (y : EvD prog w A env h S slice (.int k)) (h0 : 0 ≤ k) (h1 : k < 2 ^ 63) (hk : ds[k.toNat]? = some d)
    (hs : ∀ o i, subscripted slice false o i = operate [o, i] (getItem o i) := by intro _ _; rfl) : EvD prog w A env h S (.Subscript value slice pos) d := fun s E hS => by
  refine Subscript_ (wpAny_mono (x s E hS) (fun o s₁ q => ?_) fun _ _ q => q)
  obtain ⟨r, k1⟩ := q
  cases r using RD.tupE with
  | tup sa ea ca da ra =>
  rename_i a ot vs n
  refine wpAny_mono (y s₁ E (hS.trans k1.le)) (fun i s₂ q => ?_) fun _ _ q => q
  obtain ⟨ri, k2⟩ := q
  cases ri using RD.intE
  have ht : IsTup s₂.heap a vs := ⟨ot, k2.le _ _ ea, ca, n, da⟩
  obtain ⟨v, hv, rv⟩ := ra.get hk
  have hlt : k.toNat < vs.size := by
    rw [← Array.length_toList]
    exact (List.getElem?_eq_some_iff.mp hv).1
  refine tail_any ht.typeIs slot_tuple_getitem.lookup (getItem_tuple ht (by omega) h1 (seqIndex_of h0 (by omega)) (by rw [← Array.getElem?_toList]; exact hv) ⟨rv.le k2.le, k1.tr k2⟩) (hs _ _)
end
noncomputable def orderF (fl : List (Str × Th)) : List Str := ((List.range fl.length).filter fun k => !((fl.take k).map (·.1)).contains (fl.getD k ("", .i 0)).1).map fun k => (fl.getD k ("", .i 0)).1
noncomputable abbrev scOr : Scope := { kind := .function, names := [(".0", .local), ("k", .local), ("flat", .free)], isGenerator := false, isCoroutine := false }
noncomputable abbrev scNs : Scope := { kind := .function, names := [(".0", .local), ("n", .local), ("thing", .local)], isGenerator := false, isCoroutine := false }
noncomputable def pOr (fl : List (Str × Th)) : D → Bool
  | .int k => !((fl.take k.toNat).map (·.1)).contains (fl.getD k.toNat ("", .i 0)).1
  | _ => false
noncomputable def gOr (fl : List (Str × Th)) : D → D
  | .int k => .str (fl.getD k.toNat ("", .i 0)).1
  | d => d
section
variable {w : World} {A : Around} {E : Value → Shared → Prop} {s₀ s : Shared} {ps : Array Value} {N : Nat} {X : Addr → Prop} {ρ ρ' : Rho} {Q : Flow → Shared → Prop} {fl : List (Str × Th)} {nv fv : Value}
theorem bs2 (L : LSt w s₀ ps N X ρ s) (ok : OkA 0 A) (hf : (("flat" : Str), fv, D.lst (fl.map flD)) ∈ ρ) (hsz : fl.length ≤ 1000) (hfn : ∀ p ∈ fl, p.1 ∈ names8) (hx : ∀ e ∈ ρ', e.1 ≠ "order" ∧ e ∈ ρ)
    (hQ : ∀ v s', LSt w s₀ ps N X (("order", v, .lst ((orderF fl).map .str)) :: ρ') s' → KeepBut (Own (envLaw N)) s.heap s'.heap → Q .next s') : wpAny (model pw w) A (exec (bs 2) (envLaw N)) Q E s := by
  obtain ⟨s₁, R, q, k⟩ := L.base
  have hsl : (1000 : Nat) ≤ sizeLine := by decide
  obtain ⟨c, hcc, hcl⟩ : ∃ c, (envLaw N).cells.lookup ("flat" : Str) = some c ∧ closureFor scOr (envLaw N) = pure [(("flat" : Str), c)] := ⟨_, by rfl, by rfl⟩
  have cF := R.cell hf (by rfl) hcc
  have rf := R.rd _ hf
  have T := R.T
  have eO : (((rangeD fl.length).filter (pOr fl)).map (gOr fl)) = (orderF fl).map .str := by
    unfold rangeD orderF
    rw [List.filter_map, List.map_map, List.map_map]
    rfl
  refine R.assignSw (ρ' := ρ') (ds := (orderF fl).map .str) hcl (by rfl) hx (fun RR E' hRR => ?_) (fun v s' R' k' sh => hQ v s' (L.step R q k R' (k'.mono fun a h => .inl h) sh) (k'.mono fun a h => .inl h))
  refine wpAny_Call_NameR (wpAny_Name (Var.bi T rfl (by rfl) rfl rfl (by kernel_rfl) (v := .type "range") (by decide) (by rfl) _ _ _ _ s (fun _ _ e => e) ?_) (by decide))
  rw [starEach_cons (by rfl)]
  refine PySem.callWith_type rfl (Calls.evalArgs_plain (Calls.spliced_cons (wpAny_mono ((EvD.len (S := OkF s₁ (envLaw N) S154 [] X) (Var.bi T rfl (by rfl) rfl rfl (by kernel_rfl) (by decide) (by rfl)) (R.src hf (by decide)) rfl (by rw [List.length_map]; omega)) s _ fun _ _ e => e) (fun nv s1 h1 => Calls.spliced_nil ?_) fun _ _ e => e)))
  obtain ⟨r, k1⟩ := h1
  rw [List.length_map] at r
  cases r using RD.intE
  rename_i tN
  show wpAny _ _ (PySem.call (.type "range") [.int fl.length tN]) _ _ _
  refine call_range_1 ?_
  have kA : Le s1.heap (s1.heap.push { cls := .type "range", data := .fields #[.int 0 s1.toks, .int fl.length tN, .int 1 (s1.toks + 1)] }) := fun b o e => Heap.get?_push_of_some _ e
  refine comp_blockR (pOr fl) (gOr fl) ok (by decide) rfl (fun _ _ e => e) (k1.tr (Kp.of _ kA)) (IsRange.new ..) (by omega) (by rfl) (fun i hi S' C h' m up hh hn hb => ?_) (by omega) (fun D C s' h1 h2 h3 h4 h5 h6 => hRR D C s' h1 h2 h3 h4 (by rw [← eO]; exact h5) h6)
  obtain ⟨v, hv, rv⟩ := hb "k" _ (.head _)
  have vk : Var (compEnvC scOr [(("flat" : Str), c)] C (envLaw N)) h' "k" v := Var.loc rfl (by rfl) hn hv
  have vf : Var (compEnvC scOr [(("flat" : Str), c)] C (envLaw N)) h' "flat" fv := Var.cell (c := c) rfl (relabel_free rfl (by rfl) rfl) rfl (cF.keeps hh)
  have rf' : RD h' S' fv (.lst (fl.map flD)) := rf.up hh up
  have hgd : fl.getD i ("", .i 0) = fl[i] := by rw [List.getD_eq_getElem?_getD, List.getElem?_eq_getElem hi]; rfl
  have hget : (fl.map flD)[((i : Nat) : Int).toNat]? = some (flD (fl.getD i ("", .i 0))) := by
    rw [Int.toNat_natCast, List.getElem?_map, List.getElem?_eq_getElem hi, hgd]; rfl
  have hmem : fl.getD i ("", .i 0) ∈ fl := by rw [hgd]; exact List.getElem_mem hi
  have e1 : ∀ {a1 a2 a3 a4 a5 : Pos}, EvD pw w A (compEnvC scOr [(("flat" : Str), c)] C (envLaw N)) h' S' (.Subscript (.Subscript (.Name "flat" a1) (.Name "k" a2) a3) (.Constant (.int 0) 0 a4) a5) (.str (fl.getD i ("", .i 0)).1) :=
    EvD.idxT (EvD.idxL (EvD.name vf rf').src (EvD.name vk rv) (by omega) (by omega) hget) EvD.cint (by decide) (by decide) rfl
  refine ⟨?_, fun _ => ?_⟩
  · show EvT pw w A _ h' _ (!((fl.take ((i : Nat) : Int).toNat).map (·.1)).contains (fl.getD ((i : Nat) : Int).toNat ("", .i 0)).1)
    rw [Int.toNat_natCast]
    have src : SrcL pw w A (compEnvC scOr [(("flat" : Str), c)] C (envLaw N)) h' S' (.Subscript (.Name "flat" ⟨231, 94, 231, 98⟩) (.Slice none (some (.Name "k" ⟨231, 100, 231, 101⟩)) none ⟨231, 99, 231, 101⟩) ⟨231, 94, 231, 102⟩) ((fl.take i).map flD) :=
      (EvD.congr (EvD.upto (EvD.name vf rf').src (EvD.name vk rv) (by rw [List.length_map]; omega)) (by rw [List.map_take])).src
    have e2 : EvD pw w A (compEnvC scOr [(("flat" : Str), c)] C (envLaw N)) h' S' (.ListComp (.Name "n" ⟨231, 76, 231, 77⟩) [⟨.Tuple [.Name "n" ⟨231, 82, 231, 83⟩, .Name "thing" ⟨231, 85, 231, 90⟩] 0 ⟨231, 82, 231, 90⟩, .Subscript (.Name "flat" ⟨231, 94, 231, 98⟩) (.Slice none (some (.Name "k" ⟨231, 100, 231, 101⟩)) none ⟨231, 99, 231, 101⟩) ⟨231, 94, 231, 102⟩, [], 0⟩] scNs ⟨231, 75, 231, 103⟩) (.lst (((fl.take i).map (·.1)).map .str)) := by
      refine EvD.congr (EvD.comp (cl := []) bdNT (fun _ => true) fstD src ok (by rfl) (by decide) rfl (by decide) (bdNT_bd (t := 0)) (bdNT_loc (by rfl) (by rfl)) (fun d hd => ?_) (by rw [List.length_map, List.length_take]; omega)) ?_
      · obtain ⟨p, hp, rfl⟩ := List.mem_map.mp hd
        intro S2 C2 h2 m2 up2 hh2 hn2 hb2
        obtain ⟨v1, hv1, rv1⟩ := hb2 "n" _ (.head _)
        exact ⟨rfl, fun _ => EvD.name (Var.loc rfl (by rfl) hn2 hv1) rv1⟩
      · rw [filter_yes, List.map_map, List.map_map]; rfl
    exact EvT.cmp e1 e2 (CmpD.notInS (names8_ok _ (hfn _ hmem)) (fun y hy => by obtain ⟨p, hp, rfl⟩ := List.mem_map.mp hy; exact names8_ok _ (hfn _ (List.mem_of_mem_take hp))) ok)
  · have e3 : gOr fl (.int (i : Nat)) = .str (fl.getD i ("", .i 0)).1 := rfl
    rw [e3]
    exact e1
end
noncomputable def EqD (A : Around) (s : Shared) (d : D) : Prop := ∀ (S S' : Addr → Prop) (u v : Value), RD s.heap S u d → RD s.heap S' v d → SeqAt.EqAt A s u v true
section
variable {w : World} {A : Around} {s : Shared}
theorem EqD.th (X : (K01 w).In s.heap) (hu : A.units + 8 < cLine) {t : Th} (g : t.said = true) : EqD A s t.d := fun S S' u v ru rv => by
  have := eq_th X hu g g ru rv
  rwa [decide_eq_true rfl] at this
theorem EqD.str (X : (K01 w).In s.heap) (hu : A.units + 8 < cLine) (x : Str) : EqD A s (.str x) := EqD.th (t := .s x) X hu rfl
theorem all_true (n : Nat) : (List.range n).all (fun _ => true) = true := by simp
theorem RDs.eqd {S S' : Addr → Prop} {A : Around} {us vs : Array Value} {ds : List D} (h : ∀ d ∈ ds, EqD A s d) (ru : RDs s.heap S us.toList ds) (rv : RDs s.heap S' vs.toList ds) : us.size = vs.size ∧ ∀ j (h1 : j < us.size) (h2 : j < vs.size), SeqAt.EqAt A s us[j] vs[j] true := by
  have e1 := ru.length
  have e2 := rv.length
  rw [Array.length_toList] at e1 e2
  refine ⟨e1.trans e2.symm, fun j h1 h2 => ?_⟩
  obtain ⟨d, hd, r1⟩ := ru.get' (i := j) (v := us[j]) (by rw [Array.getElem?_toList]; simp [h1])
  obtain ⟨d', hd', r2⟩ := rv.get' (i := j) (v := vs[j]) (by rw [Array.getElem?_toList]; simp [h2])
  rw [hd] at hd'
  cases hd'
  exact h d (List.mem_of_getElem? hd) _ _ _ _ r1 r2
theorem EqD.list (hu : A.units < cLine) {ds : List D} (h : ∀ d ∈ ds, EqD A.in1 s d) : EqD A s (.lst ds) := fun S S' u v ru rv => by
  cases ru using RD.lstE with
  | lst sa ea ca da ra =>
  cases rv using RD.lstE with
  | lst sb eb cb db rb =>
  rename_i a oa va na b ob vb nb
  obtain ⟨e1, e2⟩ := RDs.eqd h ra rb
  by_cases hab : a = b
  · rw [hab]; exact SeqAt.EqAt.same _
  · have := SeqAt.RcAt.lists (e := fun _ => true) ⟨oa, ea, ca, na, da⟩ ⟨ob, eb, cb, nb, db⟩ e1 hu e2
    rw [all_true] at this
    exact SeqAt.EqAt.of_refs hab this
theorem CmpH.neTup {h : Heap} (T : TopH w h) (hu : A.units < cLine) {ds : List D} (hd : ∀ s, Le h s.heap → ∀ d ∈ ds, EqD A.in1 s d) : CmpH w A h .NotEq (.tup ds) (.tup ds) false := fun s S x y E hs r1 r2 => by
  cases r1 using RD.tupE with
  | tup sa ea ca da ra =>
  cases r2 using RD.tupE with
  | tup sb eb cb db rb =>
  rename_i a oa va na b ob vb nb
  obtain ⟨e1, e2⟩ := RDs.eqd (hd s hs) ra rb
  have := SeqAt.RcNeAt.tuples (e := fun _ => true) ⟨oa, ea, ca, na, da⟩ ⟨ob, eb, cb, nb, db⟩ hu e2
  rw [all_true, e1, beq_self_eq_true] at this
  exact this pw w E _ ⟨rfl, Kp.refl s⟩
end
end Mine
end
section
open PySem PySem.W PyProof.Rows PySem.Calls
namespace Mine
noncomputable def ddG {α : Type} [BEq α] : List α → List α → List α
  | _, [] => []
  | S, x :: xs => if S.contains x = true then ddG S xs else x :: ddG (S ++ [x]) xs
section
variable {α : Type} [BEq α] [LawfulBEq α]
theorem ddG_mem : ∀ {xs : List α} {S : List α} {y : α}, y ∈ ddG S xs → y ∈ xs ∧ ¬ y ∈ S
  | [], _, _, h => nomatch h
  | x :: xs, S, y, h => by
    unfold ddG at h
    split at h
    · have := ddG_mem h
      exact ⟨.tail _ this.1, this.2⟩
    · rename_i hx
      rcases List.mem_cons.mp h with rfl | h
      · exact ⟨.head _, fun z => hx (List.contains_iff_mem.mpr z)⟩
      · have := ddG_mem h
        exact ⟨.tail _ this.1, fun z => this.2 (List.mem_append_left _ z)⟩
theorem ddG_nodup : ∀ {xs : List α} {S : List α}, (ddG S xs).Nodup
  | [], _ => List.nodup_nil
  | x :: xs, S => by
    unfold ddG
    split
    · exact ddG_nodup
    · rw [List.nodup_cons]
      exact ⟨fun z => (ddG_mem z).2 (List.mem_append_right _ (.head _)), ddG_nodup⟩
theorem ddG_snoc (x : α) : ∀ (xs S : List α), ddG S (xs ++ [x]) = ddG S xs ++ (if (S ++ xs).contains x = true then [] else [x])
  | [], S => by
    show (if S.contains x = true then ddG S [] else x :: ddG (S ++ [x]) []) = _
    rw [List.append_nil]
    split <;> rfl
  | y :: xs, S => by
    show (if S.contains y = true then ddG S (xs ++ [x]) else y :: ddG (S ++ [y]) (xs ++ [x])) = (if S.contains y = true then ddG S xs else y :: ddG (S ++ [y]) xs) ++ _
    rw [ddG_snoc x xs S, ddG_snoc x xs (S ++ [y])]
    have e1 : (S ++ [y] ++ xs).contains x = (S ++ y :: xs).contains x := by rw [List.append_assoc]; rfl
    split
    · rename_i hy
      congr 1
      have e2 : (S ++ xs).contains x = (S ++ y :: xs).contains x := by
        rw [Bool.eq_iff_iff]
        simp only [List.contains_iff_mem, List.mem_append, List.mem_cons]
        have := List.contains_iff_mem.mp hy
        exact ⟨fun h => h.imp id .inr, fun h => h.elim .inl fun h => h.elim (fun h => .inl (h ▸ this)) .inr⟩
      rw [e2]
    · rw [e1]; rfl
theorem ddG_range (d : α) (xs : List α) : ((List.range xs.length).filter fun k => !(xs.take k).contains (xs.getD k d)).map (fun k => xs.getD k d) = ddG [] xs := by
  have gen : ∀ (n : Nat) (xs : List α), xs.length = n → ((List.range xs.length).filter fun k => !(xs.take k).contains (xs.getD k d)).map (fun k => xs.getD k d) = ddG [] xs := by
    intro n
    induction n with
    | zero => intro xs h; rw [List.length_eq_zero_iff.mp h]; rfl
    | succ n ih =>
      intro xs h
      have hne : xs ≠ [] := fun z => by rw [z] at h; cases h
      obtain ⟨ys, x, rfl⟩ : ∃ ys x, xs = ys ++ [x] := ⟨xs.dropLast, xs.getLast hne, (List.dropLast_concat_getLast hne).symm⟩
      have hl : ys.length = n := by rw [List.length_append] at h; exact Nat.succ.inj h
      have e1 : (ys ++ [x]).length = ys.length + 1 := by rw [List.length_append]; rfl
      have g : ∀ k, k < ys.length → (ys ++ [x]).getD k d = ys.getD k d := fun k hk => by rw [List.getD_eq_getElem?_getD, List.getD_eq_getElem?_getD, List.getElem?_append_left hk]
      have t : ∀ k, k < ys.length → (ys ++ [x]).take k = ys.take k := fun k hk => List.take_append_of_le_length (Nat.le_of_lt hk)
      have gl : (ys ++ [x]).getD ys.length d = x := by rw [List.getD_eq_getElem?_getD, List.getElem?_append_right (Nat.le_refl _), Nat.sub_self]; rfl
      have tl : (ys ++ [x]).take ys.length = ys := List.take_left
      rw [e1, List.range_succ, List.filter_append, List.map_append, ddG_snoc, ← ih ys hl, List.nil_append]
      congr 1
      · rw [List.filter_congr (q := fun k => !(ys.take k).contains (ys.getD k d)) fun k hk => by rw [g k (List.mem_range.mp hk), t k (List.mem_range.mp hk)]]
        refine List.map_congr_left fun k hk => g k (List.mem_range.mp (List.mem_filter.mp hk).1)
      · rw [List.filter_cons, gl, tl]
        cases ys.contains x <;> simp [gl]
  exact gen _ xs rfl
theorem ddG_map {β : Type} [BEq β] [LawfulBEq β] (g : α → β) : ∀ (xs S : List α), (∀ x ∈ xs, ∀ y ∈ S ++ xs, g x = g y → x = y) → ddG (S.map g) (xs.map g) = (ddG S xs).map g
  | [], _, _ => rfl
  | x :: xs, S, h => by
    show (if (S.map g).contains (g x) = true then ddG (S.map g) (xs.map g) else g x :: ddG (S.map g ++ [g x]) (xs.map g)) = (if S.contains x = true then ddG S xs else x :: ddG (S ++ [x]) xs).map g
    have e : (S.map g).contains (g x) = S.contains x := by
      rw [Bool.eq_iff_iff]
      simp only [List.contains_iff_mem, List.mem_map]
      exact ⟨fun ⟨y, hy, e⟩ => (h x (.head _) y (List.mem_append_left _ hy) e.symm) ▸ hy, fun hx => ⟨x, hx, rfl⟩⟩
    rw [e]
    split
    · exact ddG_map g xs S fun a ha b hb => h a (.tail _ ha) b (by
        rcases List.mem_append.mp hb with hb | hb
        · exact List.mem_append_left _ hb
        · exact List.mem_append_right _ (.tail _ hb))
    · have e2 : S.map g ++ [g x] = (S ++ [x]).map g := by rw [List.map_append]; rfl
      rw [e2, ddG_map g xs (S ++ [x]) fun a ha b hb => h a (.tail _ ha) b (by
        rcases List.mem_append.mp hb with hb | hb
        · rcases List.mem_append.mp hb with hb | hb
          · exact List.mem_append_left _ hb
          · rw [List.mem_singleton.mp hb]; exact List.mem_append_right _ (.head _)
        · exact List.mem_append_right _ (.tail _ hb))]
      rfl
end
theorem touch_dd : ∀ (xs ks : List Str), xs.foldl touchK ks = ks ++ ddG ks xs
  | [], ks => (List.append_nil _).symm
  | x :: xs, ks => by
    show xs.foldl touchK (touchK ks x) = ks ++ (if ks.contains x = true then ddG ks xs else x :: ddG (ks ++ [x]) xs)
    rw [touch_dd xs]
    unfold touchK
    split
    · rfl
    · rw [List.append_assoc]; rfl
theorem uniq_skip {S : Str → Bool} {x : Str} {xs : List Str} (h : S x = true) : ∀ (n : Nat), uniqF n S (x :: xs) = uniqF n S xs
  | 0 => rfl
  | n + 1 => by
    have e : fresh? idS S (x :: xs) = fresh? idS S xs := by
      show List.find? _ (x :: xs) = _
      rw [List.find?_cons]
      simp [h]
    cases hf : fresh? idS S xs with
    | none => rw [uniqF_none hf, uniqF_none (e.trans hf)]
    | some y =>
      rw [uniqF_some hf, uniqF_some (e.trans hf)]
      rw [uniq_skip (S := addS S y) (by show (S x || _) = true; rw [h]; rfl) n]
theorem uniq_dd : ∀ (xs : List Str) (n : Nat) (S : Str → Bool) (ks : List Str), (∀ x, S x = ks.contains x) → (ddG ks xs).length ≤ n → uniqF n S xs = ddG ks xs
  | [], n, S, ks, _, _ => by cases n <;> rfl
  | x :: xs, n, S, ks, h, hl => by
    have e : ddG ks (x :: xs) = if ks.contains x = true then ddG ks xs else x :: ddG (ks ++ [x]) xs := rfl
    rw [e] at hl ⊢
    split
    · rename_i hx
      rw [if_pos hx] at hl
      rw [uniq_skip (by rw [h]; exact hx)]
      exact uniq_dd xs n S ks h hl
    · rename_i hx
      rw [if_neg hx] at hl
      cases n with
      | zero => simp at hl
      | succ n =>
        have hS : S x = false := by rw [h]; simpa using hx
        have hf : fresh? idS S (x :: xs) = some x := by
          show List.find? _ (x :: xs) = _
          rw [List.find?_cons]
          simp [hS]
        have hS2 : addS S x x = true := by simp [addS]
        rw [uniqF_some hf, uniq_skip hS2, uniq_dd xs n (addS S x) (ks ++ [x]) (fun y => ?_) (by simpa using hl)]
        unfold addS
        rw [h y]
        rw [Bool.eq_iff_iff]
        simp
noncomputable def vt (t : Th) : Th := valueT (parsedV (writtenF t))
noncomputable def Known (t : Th) : Prop := match t with
  | .s x => x ∈ plainAll
  | .i n => n < 80
  | .p a b => a ∈ texts4 ∧ b ∈ texts4
theorem vt_known {t : Th} (h : Known t) : vt t = plainT t := by
  cases t with
  | s x => exact facts3 x h
  | i n =>
    refine facts3 (intS n) ?_
    unfold plainAll
    exact List.mem_append_right _ (List.mem_map.mpr ⟨n, List.mem_range.mpr h, rfl⟩)
  | p a b => exact facts4 a h.1 b h.2
theorem written_known {t : Th} (h : Known t) : writtenF t ∈ writtenAll := by
  unfold writtenAll
  cases t with
  | s x => exact List.mem_append_left _ h
  | i n =>
    refine List.mem_append_left _ ?_
    unfold plainAll
    exact List.mem_append_right _ (List.mem_map.mpr ⟨n, List.mem_range.mpr h, rfl⟩)
  | p a b =>
    refine List.mem_append_right _ ?_
    unfold pairAll
    exact List.mem_flatMap.mpr ⟨a, h.1, List.mem_map.mpr ⟨b, h.2, rfl⟩⟩
theorem tx_plain (k : Nat) : tx k ∈ plainAll := by
  unfold plainAll
  rw [List.append_assoc]
  exact List.mem_append_left _ (tx_in k)
theorem thing_known {n : Nat} (h : n < 240) : Known (thingF n) := by
  unfold thingF
  split
  · exact tx_plain _
  split
  · show n / 3 < 80; omega
  · exact ⟨tx_in _, tx_in _⟩
theorem things_known {n : Nat} (h : n < 240) : ∀ t ∈ thingsF n, Known t := fun t ht => by
  obtain ⟨j, hj, rfl⟩ := List.mem_map.mp ht
  have := List.mem_of_mem_take hj
  refine thing_known ?_
  rcases List.mem_cons.mp this with rfl | h
  · omega
  rcases List.mem_cons.mp h with rfl | h
  · omega
  rcases List.mem_singleton.mp h with rfl
  omega
theorem signs_known : ∀ x ∈ texts4, ∀ t ∈ signsT x, Known t := by
  have : ∀ x ∈ texts4, ∀ t ∈ signsT x, (match t with | .s y => plainAll.contains y | _ => false) = true := by decide +kernel
  intro x hx t ht
  have := this x hx t ht
  cases t with
  | s y => exact List.contains_iff_mem.mp this
  | i n => cases this
  | p a b => cases this
theorem signs_len : ∀ x ∈ texts4, (signsT x).length ≤ 3 ∧ x.cps.all (· < 128) = true := by decide +kernel
theorem thing_text {n : Nat} {x : Str} (h : thingF n = .s x) : x ∈ texts4 := by
  unfold thingF at h
  split at h
  · cases h; exact tx_in _
  split at h
  · cases h
  · cases h
theorem written_plain (t : Th) : writtenF (plainT t) = writtenF t := by cases t <;> rfl
theorem keys_dd (ts : List Th) : keysF ts = ddG [] (ts.map writtenF) := by
  have e : keysF ts = (ts.map writtenF).foldl touchK [] := by unfold keysF; rw [List.foldl_map]
  rw [e, touch_dd]; rfl
theorem map_plain {ts : List Th} (h : ∀ t ∈ ts, Known t) : ts.map vt = ts.map plainT := List.map_congr_left fun t ht => vt_known (h t ht)
theorem per_setting (b : BaseK) {kind n : Nat} (hn : n < 240) : ((svF kind n).out b).map vt = dueF b kind n := by
  have kt := things_known hn
  have k1 := thing_known hn
  unfold svF dueF
  by_cases c0 : kind = 0
  · rw [if_pos c0, if_pos c0]; cases b <;> rfl
  rw [if_neg c0, if_neg c0]
  by_cases c1 : kind = 1
  · rw [if_pos c1]
    cases hth : thingF n with
    | s x =>
      have hx := thing_text hth
      rw [hth] at k1
      have e1 : [Th.s x].map vt = [Th.s x].map plainT := map_plain fun t ht => by rw [List.mem_singleton.mp ht]; exact k1
      cases b with
      | b0 => rw [if_neg (fun z => by cases z.2), if_pos (by omega), if_pos c1]; exact e1
      | b1 => rw [if_neg (fun z => by cases z.2), if_pos (by omega), if_pos c1]; exact e1
      | b2 =>
        rw [if_pos ⟨c1, rfl⟩]
        show (signsT x).map vt = signsT x
        rw [map_plain (signs_known x hx)]
        unfold signsT
        rw [List.map_map]
        rfl
    | i m =>
      rw [hth] at k1
      have e1 : [Th.i m].map vt = [Th.i m].map plainT := map_plain fun t ht => by rw [List.mem_singleton.mp ht]; exact k1
      cases b <;> rw [if_neg (fun z => by cases z.2), if_pos (by omega), if_pos c1] <;> exact e1
    | p a b' =>
      rw [hth] at k1
      have e1 : [Th.p a b'].map vt = [Th.p a b'].map plainT := map_plain fun t ht => by rw [List.mem_singleton.mp ht]; exact k1
      cases b with
      | b0 =>
        rw [if_pos ⟨c1, rfl⟩]
        have inp : ∀ {x}, x ∈ texts4 → Known (.s x) := fun hx => by
          show _ ∈ plainAll
          unfold plainAll
          rw [List.append_assoc]
          exact List.mem_append_left _ hx
        show [vt (.s a), vt (.s b')] = [.s a, .s b']
        rw [vt_known (inp k1.1), vt_known (inp k1.2)]
        rfl
      | b1 => rw [if_neg (fun z => by cases z.2), if_pos (by omega), if_pos c1]; exact e1
      | b2 => rw [if_neg (fun z => by cases z.2), if_pos (by omega), if_pos c1]; exact e1
  rw [if_neg c1, if_neg (show ¬ (kind = 1 ∧ isOpen b (thingF n) = true) from fun z => c1 z.1), if_neg c1]
  by_cases c5 : kind < 5
  · rw [if_pos c5]
    by_cases c2 : kind = 2
    · rw [if_pos c2]; cases b <;> exact map_plain kt
    rw [if_neg c2]
    by_cases c3 : kind = 3
    · rw [if_pos c3]; cases b <;> exact map_plain kt
    rw [if_neg c3, if_pos (by omega)]
    cases b <;> exact map_plain kt
  · rw [if_neg c5, if_neg (by omega), if_neg (by omega), if_neg (by omega)]
    have e : ∀ b, ((SV.keys (keysF (thingsF n))).out b) = (keysF (thingsF n)).map .s := fun b => by cases b <;> rfl
    rw [e, List.map_map]
    have ed : dedupT ((thingsF n).map plainT) = ddG [] ((thingsF n).map plainT) := by unfold dedupT; exact ddG_range (Th.i 0) ((thingsF n).map plainT)
    rw [ed, keys_dd]
    have inj : ∀ x ∈ (thingsF n).map writtenF, ∀ y ∈ ([] : List Str) ++ (thingsF n).map writtenF, (vt ∘ Th.s) x = (vt ∘ Th.s) y → x = y := fun x hx y hy e => by
      obtain ⟨t, ht, rfl⟩ := List.mem_map.mp hx
      obtain ⟨u, hu, rfl⟩ := List.mem_map.mp hy
      have e1 : vt t = vt u := e
      rw [vt_known (kt t ht), vt_known (kt u hu)] at e1
      rw [← written_plain t, ← written_plain u, e1]
    have := ddG_map (vt ∘ Th.s) ((thingsF n).map writtenF) [] inj
    rw [← this, List.map_map]
    congr 1
    exact (List.map_congr_left fun t ht => (vt_known (kt t ht)).symm).symm
theorem cfg_ok (b : BaseK) (ns : List Int) : ∀ c ∈ cfgsF ns, CfgOk b c := fun c hc => by
  obtain ⟨x, hx, rfl⟩ := List.mem_map.mp hc
  have hx' := row_in ns x hx
  have hn : x / 18 < 240 := by omega
  have h1 : (cfgF x).1 ∈ namesS := by
    show names8.getD (x % 3) "" ∈ namesS
    have : x % 3 < 3 := Nat.mod_lt _ (by decide)
    generalize x % 3 = k at this
    match k, this with
    | 0, _ => decide
    | 1, _ => decide
    | 2, _ => decide
  have h2 : (cfgF x).2.1 < 6 := Nat.mod_lt _ (by decide)
  show (cfgF x).1 ∈ namesS ∧ x / 18 < 2 ^ 29 ∧ (svF (cfgF x).2.1 (x / 18)).Plain ∧ (∀ t ∈ (svF (cfgF x).2.1 (x / 18)).out b, writtenF t ∈ writtenAll ∧ t.small) ∧ ((svF (cfgF x).2.1 (x / 18)).out b).length ≤ 8
  generalize (cfgF x).2.1 = kind at *
  generalize hn' : x / 18 = n at *
  refine ⟨h1, by omega, ?_⟩
  have kt := things_known hn
  have k1 := thing_known hn
  have small : ∀ {t : Th}, Known t → t.small := fun {t} h => by
    cases t with
    | s x =>
      have := (facts1 "a" (by decide) x (by unfold writtenAll; exact List.mem_append_left _ h)).2.2
      have e2 : (lineS "a" x).length = (("a" : Str) ++ (" = " : Str) ++ x : Str).length + 1 := Str.length_append ..
      have e3 : (("a" : Str) ++ (" = " : Str) ++ x : Str).length = (("a" : Str) ++ (" = " : Str) : Str).length + x.length := Str.length_append ..
      show x.length ≤ 100
      omega
    | i n => show n < 2 ^ 30; have : n < 80 := h; omega
    | p a b =>
      have : ∀ a ∈ texts4, a.length ≤ 100 := by decide
      exact ⟨this a h.1, this b h.2⟩
  have fin : ∀ {ts : List Th}, (∀ t ∈ ts, Known t) → ts.length ≤ 8 → (∀ t ∈ ts, writtenF t ∈ writtenAll ∧ t.small) ∧ ts.length ≤ 8 := fun h hl => ⟨fun t ht => ⟨written_known (h t ht), small (h t ht)⟩, hl⟩
  have hl3 := things_len n
  unfold svF
  by_cases c0 : kind = 0
  · rw [if_pos c0]; exact ⟨trivial, by cases b <;> exact fin (fun t ht => nomatch ht) (Nat.zero_le _)⟩
  rw [if_neg c0]
  by_cases c1 : kind = 1
  · rw [if_pos c1]
    have one : ∀ {t : Th}, Known t → (∀ u ∈ [t], writtenF u ∈ writtenAll ∧ u.small) ∧ [t].length ≤ 8 := fun h => fin (fun u hu => by rw [List.mem_singleton.mp hu]; exact h) (show (1 : Nat) ≤ 8 by decide)
    cases hth : thingF n with
    | s x =>
      have hx := thing_text hth
      rw [hth] at k1
      refine ⟨(signs_len x hx).2, ?_⟩
      cases b with
      | b0 => exact one k1
      | b1 => exact one k1
      | b2 => exact fin (signs_known x hx) (Nat.le_trans (signs_len x hx).1 (by decide))
    | i m => rw [hth] at k1; exact ⟨trivial, by cases b <;> exact one k1⟩
    | p a b' =>
      rw [hth] at k1
      refine ⟨trivial, ?_⟩
      cases b with
      | b0 =>
        refine fin (fun t ht => ?_) (show (2 : Nat) ≤ 8 by decide)
        have inp : ∀ {x}, x ∈ texts4 → Known (.s x) := fun hx => by
          show _ ∈ plainAll
          unfold plainAll
          rw [List.append_assoc]
          exact List.mem_append_left _ hx
        rcases List.mem_cons.mp ht with rfl | ht
        · exact inp k1.1
        rcases List.mem_singleton.mp ht with rfl
        exact inp k1.2
      | b1 => exact one k1
      | b2 => exact one k1
  rw [if_neg c1]
  by_cases c2 : kind = 2
  · rw [if_pos c2]; exact ⟨trivial, by cases b <;> exact fin kt (Nat.le_trans hl3 (by decide))⟩
  rw [if_neg c2]
  by_cases c3 : kind = 3
  · rw [if_pos c3]; exact ⟨trivial, by cases b <;> exact fin kt (Nat.le_trans hl3 (by decide))⟩
  rw [if_neg c3]
  by_cases c4 : kind = 4
  · rw [if_pos c4]; exact ⟨trivial, by cases b <;> exact fin kt (Nat.le_trans hl3 (by decide))⟩
  rw [if_neg c4]
  refine ⟨trivial, ?_⟩
  have e : ((SV.keys (keysF (thingsF n))).out b) = (keysF (thingsF n)).map .s := by cases b <;> rfl
  rw [e]
  have hw : ∀ k ∈ keysF (thingsF n), k ∈ writtenAll := fun k hk => by
    rw [keys_dd] at hk
    obtain ⟨t, ht, rfl⟩ := List.mem_map.mp (ddG_mem hk).1
    exact written_known (kt t ht)
  have hlen : ∀ k ∈ writtenAll, k.length ≤ 100 := fun k hk => by
    have := (facts1 "a" (by decide) k hk).2.2
    have e2 : (lineS "a" k).length = (("a" : Str) ++ (" = " : Str) ++ k : Str).length + 1 := Str.length_append ..
    have e3 : (("a" : Str) ++ (" = " : Str) ++ k : Str).length = (("a" : Str) ++ (" = " : Str) : Str).length + k.length := Str.length_append ..
    omega
  have dl : ∀ (xs S : List Str), (ddG S xs).length ≤ xs.length := by
    intro xs
    induction xs with
    | nil => intro S; exact Nat.le_refl _
    | cons x xs ih =>
      intro S
      unfold ddG
      split
      · exact Nat.le_succ_of_le (ih S)
      · exact Nat.succ_le_succ (ih _)
  refine ⟨fun t ht => ?_, ?_⟩
  · obtain ⟨k, hk, rfl⟩ := List.mem_map.mp ht
    exact ⟨hw k hk, hlen k (hw k hk)⟩
  · rw [List.length_map, keys_dd]
    have := dl ((thingsF n).map writtenF) []
    rw [List.length_map] at this
    omega
noncomputable def lineT (l : Str × Str) : Str × Th := (l.1, valueT l.2)
theorem lines_flat (b : BaseK) (ns : List Int) : (linesF b (cfgsF ns)).map lineT = flatF b (cfgsF ns) := by
  unfold linesF flatF
  rw [List.map_flatMap]
  have : ∀ c ∈ cfgsF ns, (cfgLines b c).map lineT = (dueF b c.2.1 c.2.2).map fun t => (c.1, t) := fun c hc => by
    obtain ⟨x, hx, rfl⟩ := List.mem_map.mp hc
    have hx' := row_in ns x hx
    have h := per_setting b (kind := (cfgF x).2.1) (n := (cfgF x).2.2) (show x / 18 < 240 by omega)
    unfold cfgLines
    rw [← h, List.map_map, List.map_map]
    rfl
  generalize cfgsF ns = cs at *
  induction cs with
  | nil => rfl
  | cons c cs ih =>
    rw [List.flatMap_cons, List.flatMap_cons, this c (.head _), ih fun d hd => this d (.tail _ hd)]
noncomputable def bookG (fl : List (Str × Th)) : List (Str × List D) := fl.foldl (fun bv p => pushV bv p.1 p.2.d) []
theorem book_flat (ls : List (Str × Str)) : bookF ls = bookG (ls.map lineT) := by
  unfold bookF bookG
  rw [List.foldl_map]
  rfl
theorem bookG_snoc (fl : List (Str × Th)) (p : Str × Th) : bookG (fl ++ [p]) = pushV (bookG fl) p.1 p.2.d := by
  unfold bookG
  rw [List.foldl_append]; rfl
theorem snoc_ind {α : Type} {P : List α → Prop} (h0 : P []) (h1 : ∀ l x, P l → P (l ++ [x])) : ∀ l, P l := fun l => by
  have gen : ∀ (n : Nat) (l : List α), l.length = n → P l := by
    intro n
    induction n with
    | zero => intro l h; rw [List.length_eq_zero_iff.mp h]; exact h0
    | succ n ih =>
      intro l h
      have hne : l ≠ [] := fun z => by rw [z] at h; cases h
      rw [← List.dropLast_concat_getLast hne]
      exact h1 _ _ (ih _ (by rw [List.length_dropLast, h]; rfl))
  exact gen _ l rfl
theorem book_keys (fl : List (Str × Th)) : (bookG fl).map (·.1) = ddG [] (fl.map (·.1)) := by
  induction fl using snoc_ind with
  | h0 => rfl
  | h1 l x ih =>
    rw [bookG_snoc, keys_push, ih, List.map_append]
    show touchK _ _ = ddG [] (l.map (·.1) ++ [x.1])
    rw [ddG_snoc, List.nil_append]
    unfold touchK
    have e : (ddG [] (l.map (·.1))).contains x.1 = (l.map (·.1)).contains x.1 := by
      rw [Bool.eq_iff_iff, List.contains_iff_mem, List.contains_iff_mem]
      refine ⟨fun h => (ddG_mem h).1, fun h => ?_⟩
      have gen : ∀ (xs S : List Str) (y : Str), y ∈ xs → ¬ y ∈ S → y ∈ ddG S xs := by
        intro xs
        induction xs with
        | nil => intro S y h; cases h
        | cons a xs ih =>
          intro S y h hS
          unfold ddG
          split
          · rename_i ha
            rcases List.mem_cons.mp h with rfl | h
            · exact absurd (List.contains_iff_mem.mp ha) hS
            · exact ih S y h hS
          · by_cases hya : y = a
            · rw [hya]; exact .head _
            · rcases List.mem_cons.mp h with h | h
              · exact absurd h hya
              · exact .tail _ (ih _ y h fun z => (List.mem_append.mp z).elim hS fun z => hya (List.mem_singleton.mp z))
      exact gen _ _ _ h (fun z => nomatch z)
    rw [e]
    split
    · exact (List.append_nil _).symm
    · rfl
theorem find_map {bv : List (Str × List D)} {f : Str × List D → Str × List D} (hf : ∀ e, (f e).1 = e.1) (y : Str) : (bv.map f).find? (fun e => e.1 == y) = (bv.find? fun e => e.1 == y).map f := by
  induction bv with
  | nil => rfl
  | cons e r ih =>
    rw [List.map_cons, List.find?_cons, List.find?_cons, hf e]
    split
    · rfl
    · exact ih
theorem getV_touch2 (bv : List (Str × List D)) (x y : Str) : getV (touchV bv x) y = getV bv y := by
  unfold touchV
  split
  · rfl
  · unfold getV
    rw [List.find?_append]
    cases q : bv.find? fun e => e.1 == y with
    | some e => rfl
    | none =>
      show ((([(x, ([] : List D))].find? fun e => e.1 == y).map (·.2)).getD []) = []
      rw [List.find?_cons]
      split <;> rfl
theorem touch_find (bv : List (Str × List D)) (x : Str) : ∃ e, (touchV bv x).find? (fun e => e.1 == x) = some e := by
  have : ∃ e ∈ touchV bv x, e.1 = x := by
    unfold touchV
    split
    · rename_i h
      obtain ⟨e, he, h⟩ := List.mem_map.mp (List.contains_iff_mem.mp h)
      exact ⟨e, he, h⟩
    · exact ⟨(x, []), List.mem_append_right _ (.head _), rfl⟩
  obtain ⟨e, he, h⟩ := this
  cases q : (touchV bv x).find? fun e => e.1 == x with
  | some e => exact ⟨e, rfl⟩
  | none => exact absurd h (by simpa using List.find?_eq_none.mp q e he)
theorem getV_push (bv : List (Str × List D)) (x y : Str) (v : D) : getV (pushV bv x v) y = getV bv y ++ (if (x == y) = true then [v] else []) := by
  rw [← getV_touch2 bv x y]
  unfold pushV getV
  rw [find_map (fun e => by split <;> rfl)]
  cases q : (touchV bv x).find? fun e => e.1 == y with
  | none =>
    have : (x == y) = false := by
      cases h : x == y with
      | false => rfl
      | true =>
        obtain ⟨e, he⟩ := touch_find bv x
        rw [← eq_of_beq h, he] at q
        cases q
    rw [this]
    rfl
  | some e =>
    have he : e.1 = y := by simpa using List.find?_some q
    show ((Option.some (if (e.1 == x) = true then (e.1, e.2 ++ [v]) else e)).map (·.2)).getD [] = _
    rw [he]
    by_cases h : x = y
    · rw [h, beq_self_eq_true, if_pos rfl, if_pos rfl]; rfl
    · rw [if_neg (by simpa using fun z => h z.symm), if_neg (by simpa using h)]
      exact (List.append_nil _).symm
theorem book_get (fl : List (Str × Th)) (nm : Str) : getV (bookG fl) nm = (foundF fl nm).map Th.d := by
  induction fl using snoc_ind with
  | h0 => rfl
  | h1 l x ih =>
    rw [bookG_snoc, getV_push, ih]
    unfold foundF
    rw [List.filter_append, List.map_append, List.map_append]
    congr 1
    rw [List.filter_cons]
    split <;> rfl
theorem order_dd (fl : List (Str × Th)) : orderF fl = ddG [] (fl.map (·.1)) := by
  rw [← ddG_range ("" : Str)]
  unfold orderF
  rw [List.length_map]
  have g : ∀ k, (fl.map (·.1)).getD k ("" : Str) = (fl.getD k ("", .i 0)).1 := fun k => by
    rw [List.getD_eq_getElem?_getD, List.getD_eq_getElem?_getD, List.getElem?_map]
    cases fl[k]? <;> rfl
  have e : (fun k => (fl.getD k ("", .i 0)).1) = fun k => (fl.map (·.1)).getD k ("" : Str) := funext fun k => (g k).symm
  have e2 : (fun k => !((fl.take k).map (·.1)).contains (fl.getD k ("", .i 0)).1) = fun k => !((fl.map (·.1)).take k).contains ((fl.map (·.1)).getD k ("" : Str)) := funext fun k => by rw [g k, List.map_take]
  rw [e, e2]
theorem flat_names (b : BaseK) (ns : List Int) : ∀ p ∈ flatF b (cfgsF ns), p.1 ∈ names8 := fun p hp => by
  obtain ⟨c, hc, hp⟩ := List.mem_flatMap.mp hp
  obtain ⟨t, ht, rfl⟩ := List.mem_map.mp hp
  exact names_in _ (cfg_ok b ns c hc).1
theorem cfgs_len (ns : List Int) : (cfgsF ns).length ≤ 13 := by unfold cfgsF; rw [List.length_map]; exact row_len ns
theorem flat_len2 (b : BaseK) (ns : List Int) : (flatF b (cfgsF ns)).length ≤ 160 := by
  rw [← lines_flat, List.length_map]
  exact lines_len (cfg_ok b ns) (Nat.le_trans (cfgs_len ns) (by decide))
theorem run_plain (b : BaseK) (ns : List Int) : runD (linesF b (cfgsF ns)) names8 = .tup [fndD (flatF b (cfgsF ns)) names8, .lst ((orderF (flatF b (cfgsF ns))).map .str), .lst ((orderF (flatF b (cfgsF ns))).map .str)] := by
  have hn := flat_names b ns
  have e2 : (linesF b (cfgsF ns)).map (·.1) = (flatF b (cfgsF ns)).map (·.1) := by rw [← lines_flat, List.map_map]; rfl
  unfold runD
  rw [book_flat, lines_flat, e2]
  generalize flatF b (cfgsF ns) = fl at *
  have e1 : foundD (bookG fl) names8 = fndD fl names8 := by
    unfold foundD fndD
    congr 1
    exact List.map_congr_left fun nm _ => by rw [book_get]
  have e3 : keysD (bookG fl) = .lst ((orderF fl).map .str) := by unfold keysD; rw [book_keys, order_dd]
  have e4 : uniqF 8 (fun _ => false) (fl.map (·.1)) = orderF fl := by
    rw [order_dd]
    refine uniq_dd _ 8 _ [] (fun _ => rfl) ?_
    exact Nat.le_trans (nodup_len ddG_nodup fun x hx => by
      obtain ⟨p, hp, h⟩ := List.mem_map.mp (ddG_mem hx).1
      exact h ▸ hn p hp) (show names8.length ≤ 8 by decide)
  rw [e1, e3, e4]
end Mine
end
section
open PySem PySem.W PyProof.Rows PySem.Calls
namespace Mine
open PySem (eval)
noncomputable def OffL (N : Nat) (X : Addr → Prop) (a : Addr) : Prop := a ≠ 154 ∧ ¬ Own (envLaw N) a ∧ ¬ X a
section
variable {w : World} {A : Around} {E : Value → Shared → Prop} {s₀ s₁ s s' : Shared} {ps : Array Value} {N : Nat} {X : Addr → Prop} {ρ ρ' : Rho} {Q : Flow → Shared → Prop} {ns : List Int} {x : Str} {v : Value} {d : D} {b : BaseK}
theorem OffL.ok {a : Addr} (h : OffL N X a) : OkF s₁ (envLaw N) S154 [] X a := ⟨.inl h.1, h.2.1, (fun z => nomatch z), h.2.2⟩
theorem OffL.of (q : ∃ qs, s₁.heap.get? 154 = some (tabObj qs)) {a : Addr} (h : OkF s₁ (envLaw N) S154 [] X a) : OffL N X a :=
  ⟨fun z => h.1.elim (fun k => k z) fun k => (by obtain ⟨qs, e⟩ := q; rw [z, e] at k; cases k), h.2.1, h.2.2.2⟩
theorem LSt.rd (L : LSt w s₀ ps N X ρ s) (h : (x, v, d) ∈ ρ) : RD s.heap (OffL N X) v d := by
  obtain ⟨s₁, R, q, k⟩ := L.base
  exact (R.rd _ h).sub fun a h => OffL.of q h
theorem LSt.sub (L : LSt w s₀ ps N X ρ s) (h : ∀ e ∈ ρ', e ∈ ρ) : LSt w s₀ ps N X ρ' s := by
  obtain ⟨s₁, R, q, k⟩ := L.base
  exact ⟨⟨s₁, R.sub h, q, k⟩, L.tab, L.sh⟩
theorem LSt.kp (L : LSt w s₀ ps N X ρ s) (kp : Kp s s') : LSt w s₀ ps N X ρ s' := by
  obtain ⟨s₁, R, q, k⟩ := L.base
  exact L.step R q k (R.kp kp) kp.le.keepBut kp.eq
theorem LSt.storeL {Q : Unit → Shared → Prop} (L : LSt w s₀ ps N X ρ s) (hl : (envLaw N).kindOf x = some .local) (hx : ∀ e ∈ ρ', e.1 ≠ x ∧ e ∈ ρ) (r : RD s.heap (OffL N X) v d)
    (hQ : ∀ s', LSt w s₀ ps N X ((x, v, d) :: ρ') s' → KeepBut (Own (envLaw N)) s.heap s'.heap → Q () s') : wpAny (model pw w) A (storeName (envLaw N) x v) Q E s := by
  obtain ⟨s₁, R, q, k⟩ := L.base
  exact R.storeL hl hx (r.sub fun a h => h.ok) fun s' R' x' sh => hQ s' (L.step R q k R' (fun b o n e => x' b o (fun z => n (.inl z)) e) sh) fun b o n e => x' b o (fun z => n (.inl z)) e
theorem LSt.storeC {Q : Unit → Shared → Prop} {c : Addr} (L : LSt w s₀ ps N X ρ s) (hl : (envLaw N).kindOf x = some .cell) (hc : (envLaw N).cells.lookup x = some c) (hx : ∀ e ∈ ρ', e.1 ≠ x ∧ e ∈ ρ) (r : RD s.heap (OffL N X) v d)
    (hQ : ∀ s', LSt w s₀ ps N X ((x, v, d) :: ρ') s' → KeepBut (Own (envLaw N)) s.heap s'.heap → Q () s') : wpAny (model pw w) A (storeName (envLaw N) x v) Q E s := by
  obtain ⟨s₁, R, q, k⟩ := L.base
  exact R.storeC hl hc hx (r.sub fun a h => h.ok) fun s' R' x' sh => hQ s' (L.step R q k R' (fun b o n e => x' b o (fun z => n (.inr ⟨x, z ▸ hc⟩)) e) sh) fun b o n e => x' b o (fun z => n (.inr ⟨x, z ▸ hc⟩)) e
theorem LSt.addI {h' : Heap} {I : Addr} (L : LSt w s₀ ps N (fun _ => False) ρ s) (nI : s.heap.get? I = none) (k : Le s.heap h') (al : h'.get? I ≠ none) : LSt w s₀ ps N (fun a => a = I) ρ { s with heap := h' } := by
  obtain ⟨s₁, R, q, k0⟩ := L.base
  have R1 := R.kp (Kp.of' k)
  have L1 := L.kp (Kp.of' k)
  exact ⟨⟨s₁, R1.reX (fun e he => he) (fun e he => (R.rd e he).dom.mono (fun a o _ e => k a o e) fun a h => ⟨h.1.1, h.1.2.1, h.1.2.2.1, fun z => h.2 (z ▸ nI)⟩) fun a h => by subst h; exact ⟨R.fresh0 nI, al, fun z => R.ownA z nI⟩, q, k0⟩, L1.tab, L1.sh⟩
theorem LSt.it {h' : Heap} {tk : Nat} {I l : Addr} {i : Nat} {X' : Addr → Prop} (L : LSt w s₀ ps N (fun a => a = I) ρ s) (hit : s.heap.IsListIter I l i) (x : Heap.ExtBut I s.heap h') (al : ∀ a, X' a → a = I ∧ h'.get? I ≠ none) : LSt w s₀ ps N X' ρ { s with heap := h', toks := tk } := by
  obtain ⟨s₁, R, ⟨qs, eq⟩, k0⟩ := L.base
  obtain ⟨m, cm, h1, h2, h3⟩ := R.frm
  have nI := R.newX I rfl
  obtain ⟨more, ht⟩ := L.tab
  refine ⟨⟨s₁, R.go (.of_kmu (.of_but x (.inr rfl))) ⟨_, _, rfl⟩ ⟨m, cm, h1.at' fun o e => x _ _ (fun z => nI.2.2 (.inl z.symm)) e, fun n c e => ?_, h3⟩ (fun e he => ((R.rd e he).but x fun z => z.2.2.2 rfl).sub fun a h => ⟨h.1, h.2.1, h.2.2.1, fun z => h.2.2.2 (al a z).1⟩) fun a h => (by have := al a h; rw [this.1]; exact ⟨nI.1, this.2, nI.2.2⟩), ⟨qs, eq⟩, k0⟩, ⟨more, x _ _ (fun z => ?_) ht.1, ht.2.imp id fun ⟨c, e, c', oc, vs, t, e2, hoc, hd, q⟩ => ⟨c, e, c', oc, vs, t, e2, x _ _ (fun z => ?_) hoc, hd, q⟩⟩, ?_⟩
  · obtain ⟨o, eo, hd⟩ := h2 n c e
    exact ⟨o, x _ _ (fun z => nI.2.2 (.inr ⟨n, z ▸ e⟩)) eo, hd⟩
  · rw [← z, eq] at nI; cases nI.1
  · obtain ⟨h4, t4, g4, rfl, hb⟩ := L.sh
    exact ⟨h', tk, g4, rfl, hb⟩
  · obtain ⟨oi, ei, _, di⟩ := hit
    rw [z, ei] at hoc; cases hoc
    rw [di] at hd; cases hd
    exact nomatch q
theorem value_said (x : Str) : (valueT x).said = true := by
  unfold valueT
  split
  · split <;> rfl
  · rfl
theorem flat_said (b : BaseK) (ns : List Int) : ∀ p ∈ flatF b (cfgsF ns), p.2.said = true := fun p hp => by
  rw [← lines_flat] at hp
  obtain ⟨l, hl, rfl⟩ := List.mem_map.mp hp
  exact value_said _
noncomputable abbrev runE (p0 p1 p2 p3 p4 : Pos) : Expr := .Call (.Name "_law_run" p0) [.Name "settings" p1, .Name "names" p2, .Name "base" p3] [] p4
theorem ev_run (L : LSt w s₀ ps N X ρ s) (ok : OkA 121 A) (hfr : A.frames = some [envLaw N]) {sv nv bv : Value} (hs : (("settings" : Str), sv, D.lst ((cfgsF ns).map cfgD)) ∈ ρ) (hn : (("names" : Str), nv, namesD) ∈ ρ) (hb : (("base" : Str), bv, baseD b) ∈ ρ) {p0 p1 p2 p3 p4 : Pos} :
    wpAny (model pw w) A (eval (runE p0 p1 p2 p3 p4) (envLaw N)) (fun r s' => LSt w s₀ ps N X ρ s' ∧ (∀ b o, b ≠ 154 → b ≠ N → s.heap.get? b = some o → s'.heap.get? b = some o) ∧ RD s'.heap (fun _ => True) r (runD (linesF b (cfgsF ns)) names8)) E s := by
  obtain ⟨s₁, R, q, k⟩ := L.base
  have T := R.T
  refine wpAny_Call_NameR (wpAny_Name (Var.glob T rfl (by rfl) rfl (by kernel_rfl) (v := .ref 296) _ _ _ _ s (fun _ _ e => e) ?_) (by decide))
  refine callWith_function (o := ⟨.type "function", none, .func (fdOf "_law_run" 18 295), #[]⟩) (fd := fdOf "_law_run" 18 295) (Calls.evalArgs_plain ?_)
  refine Calls.spliced_cons (wpAny_Name (R.var hs _ _ _ _ s (fun _ _ e => e) ?_) (by decide))
  refine Calls.spliced_cons (wpAny_Name (R.var hn _ _ _ _ s (fun _ _ e => e) ?_) (by decide))
  refine Calls.spliced_cons (wpAny_Name (R.var hb _ _ _ _ s (fun _ _ e => e) ?_) (by decide))
  refine Calls.spliced_nil ⟨⟨T.K _ _ (K_run w), rfl⟩, ?_⟩
  show wpAny _ _ (PySem.call (.ref 296) [sv, nv, bv]) _ _ _
  obtain ⟨more, ht⟩ := L.tab
  have hFr : framesOf [envLaw N] = [N] := rfl
  have AR : Around1 w s.heap [envLaw N] := R.around2 (outer := []) ⟨fun e he => (nomatch he), fun b hb => (nomatch hb), KFs.nil⟩ rfl
  have nN : N ≠ 154 := fun z => by obtain ⟨qs, e⟩ := q; have := R.newO N (.inl rfl); rw [z, e] at this; cases this
  have sub : ∀ {a}, OffL N X a → S154 a ∧ a ∉ framesOf [envLaw N] := fun h => ⟨h.1, by rw [hFr]; exact fun z => h.2.1 (.inl (List.mem_singleton.mp z))⟩
  refine wpAny_call (codeAny_mono (run_call (b := b) T ok hfr AR ht (by rw [hFr]; simpa using Ne.symm nN) (fun z => z rfl) ((L.rd hs).sub fun a h => sub h) ((L.rd hn).sub fun a h => sub h) (base_of (L.rd hb)) (cfg_ok b ns) (Nat.le_trans (cfgs_len ns) (by decide)) (by decide)) fun r s' h => ?_)
  obtain ⟨vr, rfl, RR⟩ := h
  obtain ⟨L', kk⟩ := L.run RR
  exact ⟨L', kk, RR.rd⟩
theorem bs3 (L : LSt w s₀ ps N X ρ s) (ok : OkA 121 A) (hfr : A.frames = some [envLaw N]) {sv nv bv fv ov : Value} (hs : (("settings" : Str), sv, D.lst ((cfgsF ns).map cfgD)) ∈ ρ) (hn : (("names" : Str), nv, namesD) ∈ ρ) (hb : (("base" : Str), bv, baseD b) ∈ ρ)
    (hf : (("found" : Str), fv, fndD (flatF b (cfgsF ns)) names8) ∈ ρ) (ho : (("order" : Str), ov, D.lst ((orderF (flatF b (cfgsF ns))).map .str)) ∈ ρ) (hQ : ∀ s', LSt w s₀ ps N X ρ s' → (∀ b o, b ≠ 154 → b ≠ N → s.heap.get? b = some o → s'.heap.get? b = some o) → Q .next s') :
    wpAny (model pw w) A (exec (bs 3) (envLaw N)) Q E s := by
  refine wpAny_If (wpAny_isTrue_Compare1 ?_ (by with_unfolding_all rfl))
  refine wpAny_mono (ev_run (b := b) (ns := ns) L ok hfr hs hn hb) (fun r s1 h1 => ?_) fun _ _ q => q
  obtain ⟨L1, k1, rr⟩ := h1
  obtain ⟨s₁, R1, q1, kk1⟩ := L1.base
  rw [run_plain] at rr
  have hsd := flat_said b ns
  have ev : ∀ {p1 p2 p3 p4 : Pos} {c : Nat}, EvD pw w A (envLaw N) s1.heap (OkF s₁ (envLaw N) S154 [] X) (.Tuple [.Name "found" p1, .Name "order" p2, .Name "order" p3] c p4) (.tup [fndD (flatF b (cfgsF ns)) names8, .lst ((orderF (flatF b (cfgsF ns))).map .str), .lst ((orderF (flatF b (cfgsF ns))).map .str)]) :=
    EvD.tuple (.cons (R1.ev hf) (.cons (R1.ev ho) (.cons (R1.ev ho) .nil rfl) rfl) rfl) (by show (3 : Nat) ≤ sizeLine; decide)
  refine wpAny_mono (ev s1 _ fun _ _ e => e) (fun u s2 h2 => ?_) fun _ _ q => q
  obtain ⟨ru, k2⟩ := h2
  generalize flatF b (cfgsF ns) = fl at *
  have hun := ok.un
  have T2 := R1.T.mono k2.le
  refine wpAny_mono (CmpH.neTup (A := A) T2 (by omega) (fun s' hs' d hd => ?_) s2 (fun _ => True) r u _ (fun _ _ e => e) (rr.le k2.le) (ru.sub fun _ _ => trivial)) (fun b s3 h3 => ?_) fun _ _ q => q
  · have K := (T2.mono hs').K
    have hs1 : EqD A.in1 s' (.lst ((orderF fl).map .str)) := EqD.list (by show A.units + 1 < cLine; omega) fun d hd => by
      obtain ⟨x, hx, rfl⟩ := List.mem_map.mp hd
      exact EqD.str K (by show A.units + 1 + 1 + 8 < cLine; omega) x
    rcases List.mem_cons.mp hd with rfl | hd
    · refine EqD.list (by show A.units + 1 < cLine; omega) fun d hd => ?_
      obtain ⟨nm, hnm, rfl⟩ := List.mem_map.mp hd
      refine EqD.list (by show A.units + 1 + 1 < cLine; omega) fun d hd => ?_
      obtain ⟨t, ht, rfl⟩ := List.mem_map.mp hd
      unfold foundF at ht
      obtain ⟨p, hp, rfl⟩ := List.mem_map.mp ht
      exact EqD.th K (by show A.units + 1 + 1 + 1 + 8 < cLine; omega) (hsd p (List.mem_filter.mp hp).1)
    rcases List.mem_cons.mp hd with rfl | hd
    · exact hs1
    rcases List.mem_singleton.mp hd with rfl
    exact hs1
  · obtain ⟨rfl, k3⟩ := h3
    refine wpAny_truthy_bool ?_
    show wpAny _ _ (execs [] _) _ _ _
    exact wpAny_execs_nil (hQ s3 ((L1.kp k2).kp k3) fun b o h1 h2 e => (k2.tr k3).le b o (k1 b o h1 h2 e))
end
theorem neOf {ρ : Rho} {x : Str} (h : ρ.all (fun e => e.1 != x) = true) : ∀ e ∈ ρ, e.1 ≠ x := fun e he z => by
  have := List.all_eq_true.mp h e he
  rw [z] at this
  simp at this
theorem neAnd {ρ ρ' : Rho} {x : Str} (h : ρ.all (fun e => e.1 != x) = true) (h2 : ∀ e ∈ ρ, e ∈ ρ') : ∀ e ∈ ρ, e.1 ≠ x ∧ e ∈ ρ' := fun e he => ⟨neOf h e he, h2 e he⟩
noncomputable abbrev rho0 (ns : List Int) (sv nv : Value) : Rho := [("settings", sv, .lst ((cfgsF ns).map cfgD)), ("names", nv, namesD)]
section
variable {w : World} {A : Around} {E : Value → Shared → Prop} {s₀ s : Shared} {ps : Array Value} {N : Nat} {X : Addr → Prop} {ρ ρ' : Rho} {Q : Flow → Shared → Prop} {ns : List Int} {b : BaseK} {sv nv : Value}
theorem law_turn (L : LSt w s₀ ps N X (rho0 ns sv nv) s) (ok : OkA 121 A) (hfr : A.frames = some [envLaw N]) {a : Addr} (rv : RD s.heap (OffL N X) (.ref a) (.tup [baseD b, openD b])) {p q t : Pos} {k : Nat} :
    wpAny (model pw w) A (assign (.Tuple [.Name "base" p, .Name "opened" q] k t) (envLaw N) (.ref a)) (fun _ s₂ => wpAny (model pw w) A (execs fbd (envLaw N)) (fun fl s₃ => fl = .next ∧ LSt w s₀ ps N X (rho0 ns sv nv) s₃ ∧ ∀ b o, b ≠ 154 → ¬ Own (envLaw N) b → s.heap.get? b = some o → s₃.heap.get? b = some o) E s₂) E s := by
  cases rv using RD.tupE with
  | tup sa ea ca da ra =>
  rename_i o vs n
  obtain ⟨l⟩ := vs
  cases ra using RDs.consE with
  | cons r1 r2 =>
  cases r2 using RDs.consE with
  | cons r2 r3 =>
  cases r3 using RDs.nilE
  rename_i bv ov
  refine assign_Tuple_tuple ok.hd ⟨o, ea, ca, n, da⟩ rfl rfl fun h1' hx1 => ?_
  show wpAny _ A (assignInOrder [assign (.Name "base" p) (envLaw N), assign (.Name "opened" q) (envLaw N)] [bv, ov]) _ _ _
  have k1 : Le s.heap h1' := extNew hx1
  have L1 := L.kp (Kp.of' k1)
  obtain ⟨co, hco⟩ : ∃ c, (envLaw N).cells.lookup ("opened" : Str) = some c := ⟨_, by rfl⟩
  have nO : ∀ {h h' : Heap}, KeepBut (Own (envLaw N)) h h' → ∀ {v d}, RD h (OffL N X) v d → RD h' (OffL N X) v d := fun k v d r => r.mono (fun a o h e => k a o h.2.1 e) fun _ h => h
  refine wpAny_bind (wpAny_holding (wpAny_assign_Name (L1.storeL (x := "base") (d := baseD b) (ρ' := rho0 ns sv nv) (by rfl) (neAnd (by rfl) fun e he => he) (r1.le k1) fun s2 L2 k2 => ?_)))
  refine wpAny_bind (wpAny_holding (wpAny_assign_Name (L2.storeC (x := "opened") (d := openD b) (ρ' := ("base", bv, baseD b) :: rho0 ns sv nv) (by rfl) hco (fun e he => ⟨?_, he⟩) (nO k2 (r2.le k1)) fun s3 L3 k3 => ?_)))
  · rcases List.mem_cons.mp he with rfl | he
    · exact (show ("base" : Str) ≠ "opened" by decide)
    · exact neOf (by rfl) e he
  refine wpAny_pure ?_
  rw [fbd_eq]
  have cs := cfg_ok b ns
  have h160 := flat_len2 b ns
  have hfn := flat_names b ns
  have up : ∀ {x : Str} {ρ : Rho}, (∀ e ∈ ρ, e.1 ≠ x) → ∀ e ∈ ρ, e.1 ≠ x ∧ e ∈ ρ := fun h e he => ⟨h e he, he⟩
  have ne2 : ∀ {x : Str}, x ≠ "settings" → x ≠ "names" → x ≠ "base" → x ≠ "opened" → ∀ e ∈ (("opened", ov, openD b) :: ("base", bv, baseD b) :: rho0 ns sv nv : Rho), e.1 ≠ x := fun h1 h2 h3 h4 e he => by
    rcases List.mem_cons.mp he with rfl | he
    · exact Ne.symm h4
    rcases List.mem_cons.mp he with rfl | he
    · exact Ne.symm h3
    rcases List.mem_cons.mp he with rfl | he
    · exact Ne.symm h1
    rcases List.mem_singleton.mp he with rfl
    exact Ne.symm h2
  refine wpAny_execs_cons (bs0 (b := b) (cs := cfgsF ns) (sv := sv) (ov := ov) (ρ' := ("opened", ov, openD b) :: ("base", bv, baseD b) :: rho0 ns sv nv) L3 (ok.weak (by decide)) (.tail _ (.tail _ (.head _))) (.head _) (fun c hc => (cs c hc).2.1) (Nat.le_trans (cfgs_len ns) (by decide)) (by omega) (up (ne2 (by decide) (by decide) (by decide) (by decide))) fun fv s4 L4 k4 => ?_)
  refine wpAny_execs_cons (bs1 (fl := flatF b (cfgsF ns)) (nv := nv) (fv := fv) (ρ' := ("flat", fv, .lst ((flatF b (cfgsF ns)).map flD)) :: ("opened", ov, openD b) :: ("base", bv, baseD b) :: rho0 ns sv nv) L4 (ok.weak (by decide)) (.tail _ (.tail _ (.tail _ (.tail _ (.head _))))) (.head _) (by omega) (up fun e he => ?_) fun fo s5 L5 k5 => ?_)
  · rcases List.mem_cons.mp he with rfl | he
    · exact (show ("flat" : Str) ≠ "found" by decide)
    · exact ne2 (by decide) (by decide) (by decide) (by decide) e he
  refine wpAny_execs_cons (bs2 (fl := flatF b (cfgsF ns)) (fv := fv) (ρ' := ("found", fo, fndD (flatF b (cfgsF ns)) names8) :: ("flat", fv, .lst ((flatF b (cfgsF ns)).map flD)) :: ("opened", ov, openD b) :: ("base", bv, baseD b) :: rho0 ns sv nv) L5 (ok.weak (by decide)) (.tail _ (.head _)) (by omega) hfn (up fun e he => ?_) fun od s6 L6 k6 => ?_)
  · rcases List.mem_cons.mp he with rfl | he
    · exact (show ("found" : Str) ≠ "order" by decide)
    rcases List.mem_cons.mp he with rfl | he
    · exact (show ("flat" : Str) ≠ "order" by decide)
    · exact ne2 (by decide) (by decide) (by decide) (by decide) e he
  refine wpAny_execs_cons (bs3 (b := b) (ns := ns) L6 ok hfr (.tail _ (.tail _ (.tail _ (.tail _ (.tail _ (.head _)))))) (.tail _ (.tail _ (.tail _ (.tail _ (.tail _ (.tail _ (.head _))))))) (.tail _ (.tail _ (.tail _ (.tail _ (.head _))))) (.tail _ (.head _)) (.head _) fun s7 L7 k7 => ?_)
  refine wpAny_execs_nil ⟨rfl, L7.sub fun e he => .tail _ (.tail _ (.tail _ (.tail _ (.tail _ he)))), fun b o h1 h2 e => k7 b o h1 (fun z => h2 (.inl z)) (k6 b o h2 (k5 b o h2 (k4 b o h2 (k3 b o h2 (k2 b o h2 (k1 b o e))))))⟩
noncomputable abbrev dsLaw : List D := [.tup [baseD .b0, openD .b0], .tup [baseD .b1, openD .b1], .tup [baseD .b2, openD .b2]]
theorem law_loop (L : LSt w s₀ ps N (fun _ => False) (rho0 ns sv nv) s) (ok : OkA 121 A) (hfr : A.frames = some [envLaw N]) (hQ : ∀ X s', LSt w s₀ ps N X (rho0 ns sv nv) s' → Q .next s') : wpAny (model pw w) A (exec (lw 3) (envLaw N)) Q E s := by
  obtain ⟨s₁, R, q, k0⟩ := id L.base
  have T := R.T
  have vP : Var (envLaw N) s.heap "Pair" (.ref 257) := Var.glob T rfl (by rfl) rfl (by kernel_rfl)
  have vS : Var (envLaw N) s.heap "str" (.type "str") := Var.bi T rfl (by rfl) rfl rfl (by kernel_rfl) (by decide) (by rfl)
  have h3 : (3 : Nat) ≤ sizeLine := by decide
  have h2 : (2 : Nat) ≤ sizeLine := by decide
  have h1 : (1 : Nat) ≤ sizeLine := by decide
  have h0 : (0 : Nat) ≤ sizeLine := by decide
  have ev : ∀ {p1 p2 p3 p4 p5 p6 p7 p8 p9 q1 q2 q3 q4 q5 : Pos}, EvD pw w A (envLaw N) s.heap (fun _ => False) (.List [.Tuple [.Tuple [] 0 p1, .Name "Pair" p2] 0 p3, .Tuple [.Tuple [.Tuple [.Name "str" p4, .Name "Pair" p5] 0 p6] 0 p7, .Tuple [] 0 p8] 0 p9, .Tuple [.Tuple [.Name "Pair" q1] 0 q2, .Name "str" q3] 0 q4] q5) (.lst dsLaw) := fun {p1 p2 p3 p4 p5 p6 p7 p8 p9 q1 q2 q3 q4 q5} =>
    EvD.list (.cons (EvD.tuple (.cons (EvD.tuple .nil h0) (.cons (EvD.name vP (.atom _)) .nil rfl) rfl) h2) (.cons (EvD.tuple (.cons (EvD.tuple (.cons (EvD.tuple (.cons (EvD.name vS (.atom _)) (.cons (EvD.name vP (.atom _)) .nil rfl) rfl) h2) .nil rfl) h1) (.cons (EvD.tuple .nil h0) .nil rfl) rfl) h2) (.cons (EvD.tuple (.cons (EvD.tuple (.cons (EvD.name vP (.atom _)) .nil rfl) h1) (.cons (EvD.name vS (.atom _)) .nil rfl) rfl) h2) .nil rfl) rfl) rfl) h3
  refine wpAny_For (wpAny_mono (ev s _ fun _ _ e => e) (fun v s1 g1 => ?_) fun _ _ q => q) (fun _ => rfl)
  obtain ⟨r1, k1⟩ := g1
  cases r1 using RD.lstE with
  | lst sa ea ca da ra =>
  rename_i l ol vs nl
  have L1 := L.kp k1
  refine wpAny_pyIter_list ⟨ol, ea, ca, nl, da⟩ ?_
  have nI1 : s1.heap.get? s1.heap.objs.size = none := new_none _
  have k2 : Le s1.heap (s1.heap.push { cls := .type "list_iterator", data := .fields #[.ref l, .int 0 0] }) := fun b o e => Heap.get?_push_of_some _ e
  have hit2 : (s1.heap.push { cls := .type "list_iterator", data := .fields #[.ref l, .int 0 0] }).IsListIter s1.heap.objs.size l 0 := ⟨_, Heap.get?_push_size _ rfl, rfl, rfl⟩
  generalize s1.heap.push { cls := .type "list_iterator", data := .fields #[.ref l, .int 0 0] } = h2' at *
  generalize s1.heap.objs.size = I at *
  have aI : ∀ {h : Heap} {l : Addr} {i : Nat}, h.IsListIter I l i → h.get? I ≠ none := fun ⟨o, e, _⟩ => some_ne e
  have L2 := L1.addI nI1 k2 (aI hit2)
  obtain ⟨s₁', R1, q1, k01⟩ := id L1.base
  have offN : ∀ {a}, s.heap.get? a = none → s1.heap.get? a ≠ none → OffL N (fun a => a = I) a := fun {a} h1 h2 =>
    ⟨fun z => (by obtain ⟨qs, e⟩ := q; rw [z, R.le _ _ e] at h1; cases h1), fun z => R.ownA z h1, fun z => h2 (z ▸ nI1)⟩
  have ol' : OffL N (fun a => a = I) l := offN (sa.elim False.elim id) (some_ne ea)
  have rds : RDs h2' (OffL N fun a => a = I) vs.toList dsLaw := ra.dom.mono (fun a o _ e => k2 a o e) fun a hs => offN (hs.1.elim False.elim id) hs.2
  have nIO : ¬ Own (envLaw N) I := fun z => R1.ownA z nI1
  have nI154 : I ≠ 154 := fun z => by obtain ⟨qs, e⟩ := q1; have := R1.le _ _ e; rw [← z, nI1] at this; cases this
  have hsz : vs.size = 3 := by rw [← Array.length_toList, ra.length]; rfl
  refine codeAny_forLoop_any (fun k s' => ∃ i, k = 4 - i ∧ i ≤ 3 ∧ LSt w s₀ ps N (fun a => a = I) (rho0 ns sv nv) s' ∧ s'.heap.IsListIter I l i ∧ s'.heap.get? l = some ol ∧ RDs s'.heap (OffL N fun a => a = I) vs.toList dsLaw) ?_ 4
    ⟨0, rfl, Nat.zero_le _, L2, hit2, k2 _ _ ea, rds⟩
  rintro k s3 ⟨i, rfl, hi, L3, hit3, el3, rd3⟩
  have hl3 : s3.heap.IsList l vs := ⟨ol, el3, ca, nl, da⟩
  cases hx : vs[i]? with
  | none => exact wpAny_pyNext_list_end ok.hd hit3 hl3 hx fun h4 hx4 => wpAny_execs_nil (hQ (fun _ => False) _ (L3.it (tk := s3.toks) hit3 hx4 fun a h => h.elim))
  | some v =>
    have hlt : i < 3 := by rw [← hsz]; exact (Array.getElem?_eq_some_iff.mp hx).1
    refine wpAny_pyNext_list_item hit3 hl3 hx fun h4 hit4 hsb => ?_
    have x4 := hsb.extBut
    have L4 := L3.it (X' := fun a => a = I) (tk := s3.toks) hit3 x4 fun a h => ⟨h, aI hit4⟩
    have rd4 : RDs h4 (OffL N fun a => a = I) vs.toList dsLaw := rd3.but x4 fun z => z.2.2 rfl
    obtain ⟨d, hd, rv⟩ := rd4.get' (i := i) (v := v) (by rw [Array.getElem?_toList]; exact hx)
    have turn : ∃ b, d = .tup [baseD b, openD b] := by
      match i, hlt, hd with
      | 0, _, hd => cases hd; exact ⟨.b0, rfl⟩
      | 1, _, hd => cases hd; exact ⟨.b1, rfl⟩
      | 2, _, hd => cases hd; exact ⟨.b2, rfl⟩
    obtain ⟨b, rfl⟩ := turn
    have hv : ∃ a, v = .ref a := by cases rv using RD.tupE with | tup => exact ⟨_, rfl⟩
    obtain ⟨a, rfl⟩ := hv
    refine wpAny_letOwnedTupleGo_listiter hit4 ?_
    refine wpAny_mono (law_turn (s := { s3 with heap := h4 }) L4 ok hfr rv) (fun _ s5 q5 => wpAny_mono q5 (fun fl s6 q6 => ?_) fun _ _ q => q) fun _ _ q => q
    obtain ⟨rfl, L6, k6⟩ := q6
    have kk : ∀ b o, OffL N (fun a => a = I) b → h4.get? b = some o → s6.heap.get? b = some o := fun b o hb e => k6 b o hb.1 hb.2.1 e
    refine ⟨4 - (i + 1), by omega, i + 1, rfl, hlt, L6, hit4.at fun o e => k6 _ o nI154 nIO e, kk _ _ ol' (x4 _ _ (fun z => ol'.2.2 z) el3), rd4.mono (fun a o hs e => kk a o hs e) fun _ z => z⟩
end
theorem ints_rd {h : Heap} {S : Addr → Prop} : ∀ {vs : List Value} {ns : List Int}, IntsAre vs ns → RDs h S vs (ns.map .int)
  | _, _, .nil => .nil
  | _, _, .cons n t r => .cons (.int n t) (ints_rd r)
theorem law_call {w : World} {A : Around} {s : Shared} (T : TopH w s.heap) (ok : OkA 122 A) (hfr : A.frames = some []) {ps : Array Value} (tb : TabAt s.heap ps) (hb : AllBare s.gens) {l : Addr} {vs : Array Value} {ns : List Int} (hl : s.heap.IsList l vs) (hr : IntsAre vs.toList ns) (hlen : ns.length ≤ sizeLine) :
    codeAny (model pw w) A (.call (.ref 301) ⟨[.ref l], []⟩) (fun r s' => r = .ok (.ret (.bool true)) ∧ (∃ more, TabAt s'.heap (ps ++ more)) ∧ (∀ b o, b ≠ 154 → s.heap.get? b = some o → s'.heap.get? b = some o) ∧ ∃ h' tk gens', s' = { s with heap := h', toks := tk, gens := gens' } ∧ AllBare gens') s := by
  refine call_fn (binds := [("script", .ref l)]) _ ok.room T (K_law w) 300 rfl (by kernel_rfl) rfl (by rfl) rfl (fun y hy => ?_) fun s₁ X k => ?_
  · rcases List.mem_singleton.mp hy with rfl; exact .inl (by rfl)
  have okD : OkA 121 (A.deeper (envLaw s.heap.objs.size)) := ok.deeper _
  have hfrD : (A.deeper (envLaw s.heap.objs.size)).frames = some [envLaw s.heap.objs.size] := by
    unfold Around.deeper
    simp [hfr]
  generalize hN : s.heap.objs.size = N at *
  have F := Frm.ofCall X
  refine wp_abs fun Q E hQ _ => ?_
  show wpAny _ (A.deeper (envLaw N)) (execs (fbody (stOf 19)) (envLaw N)) _ _ _
  rw [law_body]
  generalize A.deeper (envLaw N) = A1 at *
  obtain ⟨ol, el, cl, nl, dl⟩ := id hl
  have n154 : l ≠ 154 := fun z => by rw [z, tb.1] at el; cases el; cases cl
  have R0 : RSt w s (envLaw N) S154 [] (fun _ => False) [("script", .ref l, .lst (ns.map .int))] s₁ := RSt.ofFrm T F rfl KFs.nil (fun b hb => nomatch hb) (fun e he => by
      rcases List.mem_singleton.mp he with rfl
      exact .inl ⟨by rfl, by rfl⟩) (fun e he => by
      rcases List.mem_singleton.mp he with rfl
      exact .lst ⟨n154, fun z => nomatch z⟩ el cl dl (ints_rd hr))
  have L0 : LSt w s ps N (fun _ => False) [("script", .ref l, .lst (ns.map .int))] s₁ := by
    refine ⟨⟨s, R0, ⟨ps, tb.1⟩, fun b o _ e => e⟩, ⟨#[], by rw [Array.append_empty]; exact tb.keep k.le⟩, ?_⟩
    obtain ⟨h', tk, e⟩ := F.eq
    exact ⟨h', tk, s.gens, e, hb⟩
  refine wpAny_execs_cons (lw0 (ρ' := []) L0 (okD.weak (by decide)) (.head _) hlen (fun e he => nomatch he) fun v1 s2 L1 => ?_)
  refine wpAny_execs_cons (lw1 (ρ' := [("row", v1, natD (rowF ns))]) L1 (neAnd (by rfl) fun e he => he) fun v2 s3 L2 => ?_)
  refine wpAny_execs_cons (lw2 (ρ' := [("names", v2, namesD)]) (ns := ns) L2 (okD.weak (by decide)) (.head _) (.tail _ (.head _)) (neAnd (by rfl) fun e he => by rcases List.mem_singleton.mp he with rfl; exact .head _) fun v3 s4 L3 => ?_)
  refine wpAny_execs_cons (law_loop (ns := ns) (sv := v3) (nv := v2) L3 okD hfrD fun X s5 L5 => ?_)
  refine wpAny_execs_cons (wpAny_Return_some ?_)
  rw [eval_Constant]
  obtain ⟨sb, Rb, _, kb⟩ := L5.base
  exact wpAny_pure (hQ _ _ ⟨rfl, L5.tab, fun b o n e => Rb.le b o (kb b o n e), L5.sh⟩)
theorem kf_heap {P : Params} {a : Addr} {o : Obj} (h0 : (KF P).lookup 154 = none) (e : (KF P).lookup a = some o) : (heapL P).lookup a = some o := by
  have ha : (a == 154) = false := by
    cases q : (a == 154) with
    | false => rfl
    | true => rw [beq_iff_eq.mp q, h0] at e; cases e
  show List.lookup a ((154, ko_154 P) :: KF P) = some o
  simp only [List.lookup, ha]
  exact e
theorem top_of {w : World} {h : Heap} {mg mb : Str → Option Value} (KX : (heapL w.params).In h) (g : h.Ns mainGlobals mg) (b : h.Ns builtinsNs mb) (bb : ∀ x : Str, x ≠ "__name__" → mb x = bootBuiltins x) (nl : h.NoLimit) : TopH w h :=
  ⟨fun a o e => KX a o (kf_heap (K_no154 w) e), ⟨mg, g⟩, ⟨mb, b, bb⟩, nl⟩
theorem K154 (P : Params) : (heapL P).lookup 154 = some (tabObj #[]) := by kernel_rfl
theorem tab_of {w : World} {h : Heap} (KX : (heapL w.params).In h) : TabAt h #[] := ⟨KX _ _ (K154 _), .inl rfl⟩
theorem fin_call {w : World} {s₁ : Shared} {c : ClaimW} {cl : Str → Option Addr} {mean : ExcName → Option Value} {args : List WData} {l : Addr} {vs : List Value} {ns : List Int} (T : TopH w s₁.heap) (tb : TabAt s₁.heap #[]) (hb : AllBare s₁.gens) (hl : s₁.heap.IsList l vs.toArray) (hi : IntsAre vs ns) (hlen : ns.length ≤ sizeLine)
    (hr : ∀ cls, c.raises args cls = false) (hp : c.post args (.bool true) args = true) :
    wpAny (model pw w) callerA (PySem.call (.ref 301) [.ref l]) (fun v s' => GoodWG c cl mean args s₁ (.ok (.ret v)) s') (fun e s' => GoodWG c cl mean args s₁ (.error e) s') s₁ := by
  have ok : OkA 122 callerA := ⟨rfl, by decide, by decide⟩
  refine wpAny_call (codeAny_mono (law_call T ok rfl tb hb hl hi hlen) fun r s' h => ?_)
  obtain ⟨rfl, ⟨more, ht⟩, hk, h', tk, gens', rfl, hb'⟩ := h
  have C : CodeHd s₁.heap 158 154 := code158 T.K
  obtain ⟨o, vs, _, _, _, _, _, _, _, e, ec, ed, e11, _⟩ := C
  have old : OldK s₁.heap h' := OldK.step_table (c₀ := 158) (c := 158) (P := 154) (ps₀ := #[]) (ps := #[]) (more := more) (.refl _) ⟨⟨o, vs, e, ec, ed, e11⟩, tb.1⟩ ⟨⟨o, vs, e, ec, ed, e11⟩, tb.1⟩ ⟨⟨o, vs, hk _ _ (by decide) e, ec, ed, e11⟩, ht.1⟩ (fun b o hb e => hk b o hb e) (by decide)
  exact ⟨.inl ⟨_, _, [], rfl, hr, ReadsW.bool true, hp, fun _ => ⟨List.nodup_nil, fun _ hm => (nomatch hm)⟩⟩, old, rfl, hb'⟩
end Mine
end
section
open PySem PySem.W PyProof.Rows PySem.Spec PySem.Calls PySem.W.X
set_option maxRecDepth 1000000 in
set_option maxHeartbeats 0 in
theorem Mine.saidL : OpenLaw.wellSaid PySem.Challenge.rw_il0121_02 = true := by
  kernel_rfl
set_option maxRecDepth 100000 in
set_option maxHeartbeats 8000000 in
theorem PySem.Challenge.cw_il0121_02_holds : PySem.Challenge.rw_il0121_02.Holds := by
  w_on
  refine holds_law Mine.saidL fun said => ?_
  refine holds_open (q := Mine.qv) (loose := Mine.looseL) (Xt := fun s => xlAt Mine.qv [] s && recOk (RowW.records PySem.Challenge.rw_il0121_02.row.toRowW) s) (XP := XL Mine.qv []) (Yf := Hook.obs Mine.hk) (Ya := Hook.val Mine.hk) (YP := Hook.says Mine.hk) (N := 5300) Mine.left1 (Hook.of Mine.hk) (Hook.keeps Mine.hk) (fun s e => xl_of s (Bool.and_eq_true_iff.mp e).1) XL.keeps (by rfl) (by rfl) (by rfl) (fun s e => recFacts_of (Bool.and_eq_true_iff.mp e).2) (by rfl) (by assumption) (by decide +kernel) ⟨rfl, rfl, rfl, rfl, rfl, by decide +kernel⟩ ?hw ?hc
  case hw => w_witness2
  intro w s₀ s₁ mg mb G Y fa o pm cd doc dV kV ho hd hcd hD hmg hg args vals as hpre hlay hrd hwl hlo
  have KX := kIn_of Y
  have gb : AllBare s₁.gens := .of_eq hg
  refine Ground.open G ?_
  intro T B D TE TW
  have TT := Mine.top_of KX T.g T.b T.builtins T.nolimit
  have TB := Mine.tab_of KX
  wrow_args hpre hlay hrd hwl hlo
  all_goals (
    x_fa T KX hmg)
  refine Mine.fin_call TT TB gb (by assumption) (by assumption) ?_ (fun _ => rfl) ?_
  · rename_i hc _
    rw [PySem.sizeLine_eq]
    omega
  · first | rfl | wrow_post
end
