import PyProof.Rows.All
import Wide.All
import OpenK.AllK
import Wide.FinOn
import Open.Tops
import PySem.Builtin.Sre.Common
import Lean
import PySem.Challenge.RW_sn0092_01
set_option Elab.async false
set_option compiler.extract_closed false
-- part ShN
section
theorem Mine.offShN : True := by
  w_top off
  k_with_none
  trivial
open PySem PySem.W PyProof.Rows PySem.Calls
namespace Mine
set_option maxRecDepth 100000
set_option linter.unusedVariables false
/-- a statement of the text -/
noncomputable def stm (i : Nat) : Stmt := (PySem.Challenge.pw_sn0092_01.main.body[i]?).getD (.Pass default)
noncomputable def fArgs : Stmt → Arguments
  | .FunctionDef _ a _ _ _ _ _ _ _ _ => a
  | _ => default
noncomputable def fBody : Stmt → List Stmt
  | .FunctionDef _ _ b _ _ _ _ _ _ _ => b
  | _ => []
noncomputable def fScope : Stmt → Scope
  | .FunctionDef _ _ _ _ _ _ s _ _ _ => s
  | _ => default
noncomputable def Same {α : Type} (K x : α) : Prop := K = x
theorem same {α : Type} (x : α) : Same x x := rfl
noncomputable def sh.o_1 : Params → Obj := fun P =>
  { cls := PySem.Value.type "dict", data := PySem.Data.dict #[{ hash := PySem.PyData.keyHash P (PySem.Str.ofString "__name__"), key := PySem.Value.str (PySem.Str.ofString "__name__") 1, val := PySem.Value.str (PySem.Str.ofString "builtins") 160 }, { hash := PySem.PyData.keyHash P (PySem.Str.ofString "__doc__"), key := PySem.Value.str (PySem.Str.ofString "__doc__") 2, val := PySem.Value.builtin "builtins.__doc__:str#opaque" }, { hash := PySem.PyData.keyHash P (PySem.Str.ofString "__package__"), key := PySem.Value.str (PySem.Str.ofString "__package__") 3, val := PySem.Value.builtin "builtins.__package__:str#opaque" }, { hash := PySem.PyData.keyHash P (PySem.Str.ofString "__loader__"), key := PySem.Value.str (PySem.Str.ofString "__loader__") 4, val := PySem.Value.builtin "builtins.__loader__:shared#opaque" }, { hash := PySem.PyData.keyHash P (PySem.Str.ofString "__spec__"), key := PySem.Value.str (PySem.Str.ofString "__spec__") 5, val := PySem.Value.builtin "builtins.__spec__#opaque" }, { hash := PySem.PyData.keyHash P (PySem.Str.ofString "__build_class__"), key := PySem.Value.str (PySem.Str.ofString "__build_class__") 6, val := PySem.Value.builtin "__build_class__" }, { hash := PySem.PyData.keyHash P (PySem.Str.ofString "__import__"), key := PySem.Value.str (PySem.Str.ofString "__import__") 7, val := PySem.Value.builtin "__import__" }, { hash := PySem.PyData.keyHash P (PySem.Str.ofString "abs"), key := PySem.Value.str (PySem.Str.ofString "abs") 8, val := PySem.Value.builtin "abs" }, { hash := PySem.PyData.keyHash P (PySem.Str.ofString "all"), key := PySem.Value.str (PySem.Str.ofString "all") 9, val := PySem.Value.builtin "all" }, { hash := PySem.PyData.keyHash P (PySem.Str.ofString "any"), key := PySem.Value.str (PySem.Str.ofString "any") 10, val := PySem.Value.builtin "any" }, { hash := PySem.PyData.keyHash P (PySem.Str.ofString "ascii"), key := PySem.Value.str (PySem.Str.ofString "ascii") 11, val := PySem.Value.builtin "ascii" }, { hash := PySem.PyData.keyHash P (PySem.Str.ofString "bin"), key := PySem.Value.str (PySem.Str.ofString "bin") 12, val := PySem.Value.builtin "bin" }, { hash := PySem.PyData.keyHash P (PySem.Str.ofString "breakpoint"), key := PySem.Value.str (PySem.Str.ofString "breakpoint") 13, val := PySem.Value.builtin "breakpoint" }, { hash := PySem.PyData.keyHash P (PySem.Str.ofString "callable"), key := PySem.Value.str (PySem.Str.ofString "callable") 14, val := PySem.Value.builtin "callable" }, { hash := PySem.PyData.keyHash P (PySem.Str.ofString "chr"), key := PySem.Value.str (PySem.Str.ofString "chr") 15, val := PySem.Value.builtin "chr" }, { hash := PySem.PyData.keyHash P (PySem.Str.ofString "compile"), key := PySem.Value.str (PySem.Str.ofString "compile") 16, val := PySem.Value.builtin "compile" }, { hash := PySem.PyData.keyHash P (PySem.Str.ofString "delattr"), key := PySem.Value.str (PySem.Str.ofString "delattr") 17, val := PySem.Value.builtin "delattr" }, { hash := PySem.PyData.keyHash P (PySem.Str.ofString "dir"), key := PySem.Value.str (PySem.Str.ofString "dir") 18, val := PySem.Value.builtin "dir" }, { hash := PySem.PyData.keyHash P (PySem.Str.ofString "divmod"), key := PySem.Value.str (PySem.Str.ofString "divmod") 19, val := PySem.Value.builtin "divmod" }, { hash := PySem.PyData.keyHash P (PySem.Str.ofString "eval"), key := PySem.Value.str (PySem.Str.ofString "eval") 20, val := PySem.Value.builtin "eval" }, { hash := PySem.PyData.keyHash P (PySem.Str.ofString "exec"), key := PySem.Value.str (PySem.Str.ofString "exec") 21, val := PySem.Value.builtin "exec" }, { hash := PySem.PyData.keyHash P (PySem.Str.ofString "format"), key := PySem.Value.str (PySem.Str.ofString "format") 22, val := PySem.Value.builtin "format" }, { hash := PySem.PyData.keyHash P (PySem.Str.ofString "getattr"), key := PySem.Value.str (PySem.Str.ofString "getattr") 23, val := PySem.Value.builtin "getattr" }, { hash := PySem.PyData.keyHash P (PySem.Str.ofString "globals"), key := PySem.Value.str (PySem.Str.ofString "globals") 24, val := PySem.Value.builtin "globals" }, { hash := PySem.PyData.keyHash P (PySem.Str.ofString "hasattr"), key := PySem.Value.str (PySem.Str.ofString "hasattr") 25, val := PySem.Value.builtin "hasattr" }, { hash := PySem.PyData.keyHash P (PySem.Str.ofString "hash"), key := PySem.Value.str (PySem.Str.ofString "hash") 26, val := PySem.Value.builtin "hash" }, { hash := PySem.PyData.keyHash P (PySem.Str.ofString "hex"), key := PySem.Value.str (PySem.Str.ofString "hex") 27, val := PySem.Value.builtin "hex" }, { hash := PySem.PyData.keyHash P (PySem.Str.ofString "id"), key := PySem.Value.str (PySem.Str.ofString "id") 28, val := PySem.Value.builtin "id" }, { hash := PySem.PyData.keyHash P (PySem.Str.ofString "input"), key := PySem.Value.str (PySem.Str.ofString "input") 29, val := PySem.Value.builtin "input" }, { hash := PySem.PyData.keyHash P (PySem.Str.ofString "isinstance"), key := PySem.Value.str (PySem.Str.ofString "isinstance") 30, val := PySem.Value.builtin "isinstance" }, { hash := PySem.PyData.keyHash P (PySem.Str.ofString "issubclass"), key := PySem.Value.str (PySem.Str.ofString "issubclass") 31, val := PySem.Value.builtin "issubclass" }, { hash := PySem.PyData.keyHash P (PySem.Str.ofString "iter"), key := PySem.Value.str (PySem.Str.ofString "iter") 32, val := PySem.Value.builtin "iter" }, { hash := PySem.PyData.keyHash P (PySem.Str.ofString "aiter"), key := PySem.Value.str (PySem.Str.ofString "aiter") 33, val := PySem.Value.builtin "aiter" }, { hash := PySem.PyData.keyHash P (PySem.Str.ofString "len"), key := PySem.Value.str (PySem.Str.ofString "len") 34, val := PySem.Value.builtin "len" }, { hash := PySem.PyData.keyHash P (PySem.Str.ofString "locals"), key := PySem.Value.str (PySem.Str.ofString "locals") 35, val := PySem.Value.builtin "locals" }, { hash := PySem.PyData.keyHash P (PySem.Str.ofString "max"), key := PySem.Value.str (PySem.Str.ofString "max") 36, val := PySem.Value.builtin "max" }, { hash := PySem.PyData.keyHash P (PySem.Str.ofString "min"), key := PySem.Value.str (PySem.Str.ofString "min") 37, val := PySem.Value.builtin "min" }, { hash := PySem.PyData.keyHash P (PySem.Str.ofString "next"), key := PySem.Value.str (PySem.Str.ofString "next") 38, val := PySem.Value.builtin "next" }, { hash := PySem.PyData.keyHash P (PySem.Str.ofString "anext"), key := PySem.Value.str (PySem.Str.ofString "anext") 39, val := PySem.Value.builtin "anext" }, { hash := PySem.PyData.keyHash P (PySem.Str.ofString "oct"), key := PySem.Value.str (PySem.Str.ofString "oct") 40, val := PySem.Value.builtin "oct" }, { hash := PySem.PyData.keyHash P (PySem.Str.ofString "ord"), key := PySem.Value.str (PySem.Str.ofString "ord") 41, val := PySem.Value.builtin "ord" }, { hash := PySem.PyData.keyHash P (PySem.Str.ofString "pow"), key := PySem.Value.str (PySem.Str.ofString "pow") 42, val := PySem.Value.builtin "pow" }, { hash := PySem.PyData.keyHash P (PySem.Str.ofString "print"), key := PySem.Value.str (PySem.Str.ofString "print") 43, val := PySem.Value.builtin "print" }, { hash := PySem.PyData.keyHash P (PySem.Str.ofString "repr"), key := PySem.Value.str (PySem.Str.ofString "repr") 44, val := PySem.Value.builtin "repr" }, { hash := PySem.PyData.keyHash P (PySem.Str.ofString "round"), key := PySem.Value.str (PySem.Str.ofString "round") 45, val := PySem.Value.builtin "round" }, { hash := PySem.PyData.keyHash P (PySem.Str.ofString "setattr"), key := PySem.Value.str (PySem.Str.ofString "setattr") 46, val := PySem.Value.builtin "setattr" }, { hash := PySem.PyData.keyHash P (PySem.Str.ofString "sorted"), key := PySem.Value.str (PySem.Str.ofString "sorted") 47, val := PySem.Value.builtin "sorted" }, { hash := PySem.PyData.keyHash P (PySem.Str.ofString "sum"), key := PySem.Value.str (PySem.Str.ofString "sum") 48, val := PySem.Value.builtin "sum" }, { hash := PySem.PyData.keyHash P (PySem.Str.ofString "vars"), key := PySem.Value.str (PySem.Str.ofString "vars") 49, val := PySem.Value.builtin "vars" }, { hash := PySem.PyData.keyHash P (PySem.Str.ofString "None"), key := PySem.Value.str (PySem.Str.ofString "None") 50, val := PySem.Value.none }, { hash := PySem.PyData.keyHash P (PySem.Str.ofString "Ellipsis"), key := PySem.Value.str (PySem.Str.ofString "Ellipsis") 51, val := PySem.Value.ellipsis }, { hash := PySem.PyData.keyHash P (PySem.Str.ofString "NotImplemented"), key := PySem.Value.str (PySem.Str.ofString "NotImplemented") 52, val := PySem.Value.notImplemented }, { hash := PySem.PyData.keyHash P (PySem.Str.ofString "False"), key := PySem.Value.str (PySem.Str.ofString "False") 53, val := PySem.Value.bool Bool.false }, { hash := PySem.PyData.keyHash P (PySem.Str.ofString "True"), key := PySem.Value.str (PySem.Str.ofString "True") 54, val := PySem.Value.bool Bool.true }, { hash := PySem.PyData.keyHash P (PySem.Str.ofString "bool"), key := PySem.Value.str (PySem.Str.ofString "bool") 55, val := PySem.Value.type "bool" }, { hash := PySem.PyData.keyHash P (PySem.Str.ofString "memoryview"), key := PySem.Value.str (PySem.Str.ofString "memoryview") 56, val := PySem.Value.type "memoryview" }, { hash := PySem.PyData.keyHash P (PySem.Str.ofString "bytearray"), key := PySem.Value.str (PySem.Str.ofString "bytearray") 57, val := PySem.Value.type "bytearray" }, { hash := PySem.PyData.keyHash P (PySem.Str.ofString "bytes"), key := PySem.Value.str (PySem.Str.ofString "bytes") 58, val := PySem.Value.type "bytes" }, { hash := PySem.PyData.keyHash P (PySem.Str.ofString "classmethod"), key := PySem.Value.str (PySem.Str.ofString "classmethod") 59, val := PySem.Value.type "classmethod" }, { hash := PySem.PyData.keyHash P (PySem.Str.ofString "complex"), key := PySem.Value.str (PySem.Str.ofString "complex") 60, val := PySem.Value.type "complex" }, { hash := PySem.PyData.keyHash P (PySem.Str.ofString "dict"), key := PySem.Value.str (PySem.Str.ofString "dict") 61, val := PySem.Value.type "dict" }, { hash := PySem.PyData.keyHash P (PySem.Str.ofString "enumerate"), key := PySem.Value.str (PySem.Str.ofString "enumerate") 62, val := PySem.Value.type "enumerate" }, { hash := PySem.PyData.keyHash P (PySem.Str.ofString "filter"), key := PySem.Value.str (PySem.Str.ofString "filter") 63, val := PySem.Value.type "filter" }, { hash := PySem.PyData.keyHash P (PySem.Str.ofString "float"), key := PySem.Value.str (PySem.Str.ofString "float") 64, val := PySem.Value.type "float" }, { hash := PySem.PyData.keyHash P (PySem.Str.ofString "frozenset"), key := PySem.Value.str (PySem.Str.ofString "frozenset") 65, val := PySem.Value.type "frozenset" }, { hash := PySem.PyData.keyHash P (PySem.Str.ofString "property"), key := PySem.Value.str (PySem.Str.ofString "property") 66, val := PySem.Value.type "property" }, { hash := PySem.PyData.keyHash P (PySem.Str.ofString "int"), key := PySem.Value.str (PySem.Str.ofString "int") 67, val := PySem.Value.type "int" }, { hash := PySem.PyData.keyHash P (PySem.Str.ofString "list"), key := PySem.Value.str (PySem.Str.ofString "list") 68, val := PySem.Value.type "list" }, { hash := PySem.PyData.keyHash P (PySem.Str.ofString "map"), key := PySem.Value.str (PySem.Str.ofString "map") 69, val := PySem.Value.type "map" }, { hash := PySem.PyData.keyHash P (PySem.Str.ofString "object"), key := PySem.Value.str (PySem.Str.ofString "object") 70, val := PySem.Value.type "object" }, { hash := PySem.PyData.keyHash P (PySem.Str.ofString "range"), key := PySem.Value.str (PySem.Str.ofString "range") 71, val := PySem.Value.type "range" }, { hash := PySem.PyData.keyHash P (PySem.Str.ofString "reversed"), key := PySem.Value.str (PySem.Str.ofString "reversed") 72, val := PySem.Value.type "reversed" }, { hash := PySem.PyData.keyHash P (PySem.Str.ofString "set"), key := PySem.Value.str (PySem.Str.ofString "set") 73, val := PySem.Value.type "set" }, { hash := PySem.PyData.keyHash P (PySem.Str.ofString "slice"), key := PySem.Value.str (PySem.Str.ofString "slice") 74, val := PySem.Value.type "slice" }, { hash := PySem.PyData.keyHash P (PySem.Str.ofString "staticmethod"), key := PySem.Value.str (PySem.Str.ofString "staticmethod") 75, val := PySem.Value.type "staticmethod" }, { hash := PySem.PyData.keyHash P (PySem.Str.ofString "str"), key := PySem.Value.str (PySem.Str.ofString "str") 76, val := PySem.Value.type "str" }, { hash := PySem.PyData.keyHash P (PySem.Str.ofString "super"), key := PySem.Value.str (PySem.Str.ofString "super") 77, val := PySem.Value.type "super" }, { hash := PySem.PyData.keyHash P (PySem.Str.ofString "tuple"), key := PySem.Value.str (PySem.Str.ofString "tuple") 78, val := PySem.Value.type "tuple" }, { hash := PySem.PyData.keyHash P (PySem.Str.ofString "type"), key := PySem.Value.str (PySem.Str.ofString "type") 79, val := PySem.Value.type "type" }, { hash := PySem.PyData.keyHash P (PySem.Str.ofString "zip"), key := PySem.Value.str (PySem.Str.ofString "zip") 80, val := PySem.Value.type "zip" }, { hash := PySem.PyData.keyHash P (PySem.Str.ofString "__debug__"), key := PySem.Value.str (PySem.Str.ofString "__debug__") 81, val := PySem.Value.bool Bool.true }, { hash := PySem.PyData.keyHash P (PySem.Str.ofString "BaseException"), key := PySem.Value.str (PySem.Str.ofString "BaseException") 82, val := PySem.Value.type "BaseException" }, { hash := PySem.PyData.keyHash P (PySem.Str.ofString "BaseExceptionGroup"), key := PySem.Value.str (PySem.Str.ofString "BaseExceptionGroup") 83, val := PySem.Value.type "BaseExceptionGroup" }, { hash := PySem.PyData.keyHash P (PySem.Str.ofString "Exception"), key := PySem.Value.str (PySem.Str.ofString "Exception") 84, val := PySem.Value.type "Exception" }, { hash := PySem.PyData.keyHash P (PySem.Str.ofString "GeneratorExit"), key := PySem.Value.str (PySem.Str.ofString "GeneratorExit") 85, val := PySem.Value.type "GeneratorExit" }, { hash := PySem.PyData.keyHash P (PySem.Str.ofString "KeyboardInterrupt"), key := PySem.Value.str (PySem.Str.ofString "KeyboardInterrupt") 86, val := PySem.Value.type "KeyboardInterrupt" }, { hash := PySem.PyData.keyHash P (PySem.Str.ofString "SystemExit"), key := PySem.Value.str (PySem.Str.ofString "SystemExit") 87, val := PySem.Value.type "SystemExit" }, { hash := PySem.PyData.keyHash P (PySem.Str.ofString "ArithmeticError"), key := PySem.Value.str (PySem.Str.ofString "ArithmeticError") 88, val := PySem.Value.type "ArithmeticError" }, { hash := PySem.PyData.keyHash P (PySem.Str.ofString "AssertionError"), key := PySem.Value.str (PySem.Str.ofString "AssertionError") 89, val := PySem.Value.type "AssertionError" }, { hash := PySem.PyData.keyHash P (PySem.Str.ofString "AttributeError"), key := PySem.Value.str (PySem.Str.ofString "AttributeError") 90, val := PySem.Value.type "AttributeError" }, { hash := PySem.PyData.keyHash P (PySem.Str.ofString "BufferError"), key := PySem.Value.str (PySem.Str.ofString "BufferError") 91, val := PySem.Value.type "BufferError" }, { hash := PySem.PyData.keyHash P (PySem.Str.ofString "EOFError"), key := PySem.Value.str (PySem.Str.ofString "EOFError") 92, val := PySem.Value.type "EOFError" }, { hash := PySem.PyData.keyHash P (PySem.Str.ofString "ImportError"), key := PySem.Value.str (PySem.Str.ofString "ImportError") 93, val := PySem.Value.type "ImportError" }, { hash := PySem.PyData.keyHash P (PySem.Str.ofString "LookupError"), key := PySem.Value.str (PySem.Str.ofString "LookupError") 94, val := PySem.Value.type "LookupError" }, { hash := PySem.PyData.keyHash P (PySem.Str.ofString "MemoryError"), key := PySem.Value.str (PySem.Str.ofString "MemoryError") 95, val := PySem.Value.type "MemoryError" }, { hash := PySem.PyData.keyHash P (PySem.Str.ofString "NameError"), key := PySem.Value.str (PySem.Str.ofString "NameError") 96, val := PySem.Value.type "NameError" }, { hash := PySem.PyData.keyHash P (PySem.Str.ofString "OSError"), key := PySem.Value.str (PySem.Str.ofString "OSError") 97, val := PySem.Value.type "OSError" }, { hash := PySem.PyData.keyHash P (PySem.Str.ofString "ReferenceError"), key := PySem.Value.str (PySem.Str.ofString "ReferenceError") 98, val := PySem.Value.type "ReferenceError" }, { hash := PySem.PyData.keyHash P (PySem.Str.ofString "RuntimeError"), key := PySem.Value.str (PySem.Str.ofString "RuntimeError") 99, val := PySem.Value.type "RuntimeError" }, { hash := PySem.PyData.keyHash P (PySem.Str.ofString "StopAsyncIteration"), key := PySem.Value.str (PySem.Str.ofString "StopAsyncIteration") 100, val := PySem.Value.type "StopAsyncIteration" }, { hash := PySem.PyData.keyHash P (PySem.Str.ofString "StopIteration"), key := PySem.Value.str (PySem.Str.ofString "StopIteration") 101, val := PySem.Value.type "StopIteration" }, { hash := PySem.PyData.keyHash P (PySem.Str.ofString "SyntaxError"), key := PySem.Value.str (PySem.Str.ofString "SyntaxError") 102, val := PySem.Value.type "SyntaxError" }, { hash := PySem.PyData.keyHash P (PySem.Str.ofString "SystemError"), key := PySem.Value.str (PySem.Str.ofString "SystemError") 103, val := PySem.Value.type "SystemError" }, { hash := PySem.PyData.keyHash P (PySem.Str.ofString "TypeError"), key := PySem.Value.str (PySem.Str.ofString "TypeError") 104, val := PySem.Value.type "TypeError" }, { hash := PySem.PyData.keyHash P (PySem.Str.ofString "ValueError"), key := PySem.Value.str (PySem.Str.ofString "ValueError") 105, val := PySem.Value.type "ValueError" }, { hash := PySem.PyData.keyHash P (PySem.Str.ofString "Warning"), key := PySem.Value.str (PySem.Str.ofString "Warning") 106, val := PySem.Value.type "Warning" }, { hash := PySem.PyData.keyHash P (PySem.Str.ofString "FloatingPointError"), key := PySem.Value.str (PySem.Str.ofString "FloatingPointError") 107, val := PySem.Value.type "FloatingPointError" }, { hash := PySem.PyData.keyHash P (PySem.Str.ofString "OverflowError"), key := PySem.Value.str (PySem.Str.ofString "OverflowError") 108, val := PySem.Value.type "OverflowError" }, { hash := PySem.PyData.keyHash P (PySem.Str.ofString "ZeroDivisionError"), key := PySem.Value.str (PySem.Str.ofString "ZeroDivisionError") 109, val := PySem.Value.type "ZeroDivisionError" }, { hash := PySem.PyData.keyHash P (PySem.Str.ofString "BytesWarning"), key := PySem.Value.str (PySem.Str.ofString "BytesWarning") 110, val := PySem.Value.type "BytesWarning" }, { hash := PySem.PyData.keyHash P (PySem.Str.ofString "DeprecationWarning"), key := PySem.Value.str (PySem.Str.ofString "DeprecationWarning") 111, val := PySem.Value.type "DeprecationWarning" }, { hash := PySem.PyData.keyHash P (PySem.Str.ofString "EncodingWarning"), key := PySem.Value.str (PySem.Str.ofString "EncodingWarning") 112, val := PySem.Value.type "EncodingWarning" }, { hash := PySem.PyData.keyHash P (PySem.Str.ofString "FutureWarning"), key := PySem.Value.str (PySem.Str.ofString "FutureWarning") 113, val := PySem.Value.type "FutureWarning" }, { hash := PySem.PyData.keyHash P (PySem.Str.ofString "ImportWarning"), key := PySem.Value.str (PySem.Str.ofString "ImportWarning") 114, val := PySem.Value.type "ImportWarning" }, { hash := PySem.PyData.keyHash P (PySem.Str.ofString "PendingDeprecationWarning"), key := PySem.Value.str (PySem.Str.ofString "PendingDeprecationWarning") 115, val := PySem.Value.type "PendingDeprecationWarning" }, { hash := PySem.PyData.keyHash P (PySem.Str.ofString "ResourceWarning"), key := PySem.Value.str (PySem.Str.ofString "ResourceWarning") 116, val := PySem.Value.type "ResourceWarning" }, { hash := PySem.PyData.keyHash P (PySem.Str.ofString "RuntimeWarning"), key := PySem.Value.str (PySem.Str.ofString "RuntimeWarning") 117, val := PySem.Value.type "RuntimeWarning" }, { hash := PySem.PyData.keyHash P (PySem.Str.ofString "SyntaxWarning"), key := PySem.Value.str (PySem.Str.ofString "SyntaxWarning") 118, val := PySem.Value.type "SyntaxWarning" }, { hash := PySem.PyData.keyHash P (PySem.Str.ofString "UnicodeWarning"), key := PySem.Value.str (PySem.Str.ofString "UnicodeWarning") 119, val := PySem.Value.type "UnicodeWarning" }, { hash := PySem.PyData.keyHash P (PySem.Str.ofString "UserWarning"), key := PySem.Value.str (PySem.Str.ofString "UserWarning") 120, val := PySem.Value.type "UserWarning" }, { hash := PySem.PyData.keyHash P (PySem.Str.ofString "BlockingIOError"), key := PySem.Value.str (PySem.Str.ofString "BlockingIOError") 121, val := PySem.Value.type "BlockingIOError" }, { hash := PySem.PyData.keyHash P (PySem.Str.ofString "ChildProcessError"), key := PySem.Value.str (PySem.Str.ofString "ChildProcessError") 122, val := PySem.Value.type "ChildProcessError" }, { hash := PySem.PyData.keyHash P (PySem.Str.ofString "ConnectionError"), key := PySem.Value.str (PySem.Str.ofString "ConnectionError") 123, val := PySem.Value.type "ConnectionError" }, { hash := PySem.PyData.keyHash P (PySem.Str.ofString "FileExistsError"), key := PySem.Value.str (PySem.Str.ofString "FileExistsError") 124, val := PySem.Value.type "FileExistsError" }, { hash := PySem.PyData.keyHash P (PySem.Str.ofString "FileNotFoundError"), key := PySem.Value.str (PySem.Str.ofString "FileNotFoundError") 125, val := PySem.Value.type "FileNotFoundError" }, { hash := PySem.PyData.keyHash P (PySem.Str.ofString "InterruptedError"), key := PySem.Value.str (PySem.Str.ofString "InterruptedError") 126, val := PySem.Value.type "InterruptedError" }, { hash := PySem.PyData.keyHash P (PySem.Str.ofString "IsADirectoryError"), key := PySem.Value.str (PySem.Str.ofString "IsADirectoryError") 127, val := PySem.Value.type "IsADirectoryError" }, { hash := PySem.PyData.keyHash P (PySem.Str.ofString "NotADirectoryError"), key := PySem.Value.str (PySem.Str.ofString "NotADirectoryError") 128, val := PySem.Value.type "NotADirectoryError" }, { hash := PySem.PyData.keyHash P (PySem.Str.ofString "PermissionError"), key := PySem.Value.str (PySem.Str.ofString "PermissionError") 129, val := PySem.Value.type "PermissionError" }, { hash := PySem.PyData.keyHash P (PySem.Str.ofString "ProcessLookupError"), key := PySem.Value.str (PySem.Str.ofString "ProcessLookupError") 130, val := PySem.Value.type "ProcessLookupError" }, { hash := PySem.PyData.keyHash P (PySem.Str.ofString "TimeoutError"), key := PySem.Value.str (PySem.Str.ofString "TimeoutError") 131, val := PySem.Value.type "TimeoutError" }, { hash := PySem.PyData.keyHash P (PySem.Str.ofString "IndentationError"), key := PySem.Value.str (PySem.Str.ofString "IndentationError") 132, val := PySem.Value.type "IndentationError" }, { hash := PySem.PyData.keyHash P (PySem.Str.ofString "_IncompleteInputError"), key := PySem.Value.str (PySem.Str.ofString "_IncompleteInputError") 133, val := PySem.Value.type "_IncompleteInputError" }, { hash := PySem.PyData.keyHash P (PySem.Str.ofString "IndexError"), key := PySem.Value.str (PySem.Str.ofString "IndexError") 134, val := PySem.Value.type "IndexError" }, { hash := PySem.PyData.keyHash P (PySem.Str.ofString "KeyError"), key := PySem.Value.str (PySem.Str.ofString "KeyError") 135, val := PySem.Value.type "KeyError" }, { hash := PySem.PyData.keyHash P (PySem.Str.ofString "ModuleNotFoundError"), key := PySem.Value.str (PySem.Str.ofString "ModuleNotFoundError") 136, val := PySem.Value.type "ModuleNotFoundError" }, { hash := PySem.PyData.keyHash P (PySem.Str.ofString "NotImplementedError"), key := PySem.Value.str (PySem.Str.ofString "NotImplementedError") 137, val := PySem.Value.type "NotImplementedError" }, { hash := PySem.PyData.keyHash P (PySem.Str.ofString "PythonFinalizationError"), key := PySem.Value.str (PySem.Str.ofString "PythonFinalizationError") 138, val := PySem.Value.type "PythonFinalizationError" }, { hash := PySem.PyData.keyHash P (PySem.Str.ofString "RecursionError"), key := PySem.Value.str (PySem.Str.ofString "RecursionError") 139, val := PySem.Value.type "RecursionError" }, { hash := PySem.PyData.keyHash P (PySem.Str.ofString "UnboundLocalError"), key := PySem.Value.str (PySem.Str.ofString "UnboundLocalError") 140, val := PySem.Value.type "UnboundLocalError" }, { hash := PySem.PyData.keyHash P (PySem.Str.ofString "UnicodeError"), key := PySem.Value.str (PySem.Str.ofString "UnicodeError") 141, val := PySem.Value.type "UnicodeError" }, { hash := PySem.PyData.keyHash P (PySem.Str.ofString "BrokenPipeError"), key := PySem.Value.str (PySem.Str.ofString "BrokenPipeError") 142, val := PySem.Value.type "BrokenPipeError" }, { hash := PySem.PyData.keyHash P (PySem.Str.ofString "ConnectionAbortedError"), key := PySem.Value.str (PySem.Str.ofString "ConnectionAbortedError") 143, val := PySem.Value.type "ConnectionAbortedError" }, { hash := PySem.PyData.keyHash P (PySem.Str.ofString "ConnectionRefusedError"), key := PySem.Value.str (PySem.Str.ofString "ConnectionRefusedError") 144, val := PySem.Value.type "ConnectionRefusedError" }, { hash := PySem.PyData.keyHash P (PySem.Str.ofString "ConnectionResetError"), key := PySem.Value.str (PySem.Str.ofString "ConnectionResetError") 145, val := PySem.Value.type "ConnectionResetError" }, { hash := PySem.PyData.keyHash P (PySem.Str.ofString "TabError"), key := PySem.Value.str (PySem.Str.ofString "TabError") 146, val := PySem.Value.type "TabError" }, { hash := PySem.PyData.keyHash P (PySem.Str.ofString "UnicodeDecodeError"), key := PySem.Value.str (PySem.Str.ofString "UnicodeDecodeError") 147, val := PySem.Value.type "UnicodeDecodeError" }, { hash := PySem.PyData.keyHash P (PySem.Str.ofString "UnicodeEncodeError"), key := PySem.Value.str (PySem.Str.ofString "UnicodeEncodeError") 148, val := PySem.Value.type "UnicodeEncodeError" }, { hash := PySem.PyData.keyHash P (PySem.Str.ofString "UnicodeTranslateError"), key := PySem.Value.str (PySem.Str.ofString "UnicodeTranslateError") 149, val := PySem.Value.type "UnicodeTranslateError" }, { hash := PySem.PyData.keyHash P (PySem.Str.ofString "ExceptionGroup"), key := PySem.Value.str (PySem.Str.ofString "ExceptionGroup") 150, val := PySem.Value.type "ExceptionGroup" }, { hash := PySem.PyData.keyHash P (PySem.Str.ofString "EnvironmentError"), key := PySem.Value.str (PySem.Str.ofString "EnvironmentError") 151, val := PySem.Value.type "OSError" }, { hash := PySem.PyData.keyHash P (PySem.Str.ofString "IOError"), key := PySem.Value.str (PySem.Str.ofString "IOError") 152, val := PySem.Value.type "OSError" }, { hash := PySem.PyData.keyHash P (PySem.Str.ofString "open"), key := PySem.Value.str (PySem.Str.ofString "open") 153, val := PySem.Value.builtin "open" }, { hash := PySem.PyData.keyHash P (PySem.Str.ofString "quit"), key := PySem.Value.str (PySem.Str.ofString "quit") 154, val := PySem.Value.builtin "builtins.quit#opaque" }, { hash := PySem.PyData.keyHash P (PySem.Str.ofString "exit"), key := PySem.Value.str (PySem.Str.ofString "exit") 155, val := PySem.Value.builtin "builtins.exit#opaque" }, { hash := PySem.PyData.keyHash P (PySem.Str.ofString "copyright"), key := PySem.Value.str (PySem.Str.ofString "copyright") 156, val := PySem.Value.builtin "builtins.copyright#opaque" }, { hash := PySem.PyData.keyHash P (PySem.Str.ofString "credits"), key := PySem.Value.str (PySem.Str.ofString "credits") 157, val := PySem.Value.builtin "builtins.credits#opaque" }, { hash := PySem.PyData.keyHash P (PySem.Str.ofString "license"), key := PySem.Value.str (PySem.Str.ofString "license") 158, val := PySem.Value.builtin "builtins.license#opaque" }, { hash := PySem.PyData.keyHash P (PySem.Str.ofString "help"), key := PySem.Value.str (PySem.Str.ofString "help") 159, val := PySem.Value.builtin "builtins.help#opaque" }] 159 }
noncomputable def sh.o_2 : Params → Obj := fun P =>
  { cls := PySem.Value.type "dict", data := PySem.Data.dict #[{ hash := PySem.PyData.keyHash P (PySem.Str.ofString "builtins"), key := PySem.Value.str (PySem.Str.ofString "builtins") 162, val := PySem.Value.ref 4 }, { hash := PySem.PyData.keyHash P (PySem.Str.ofString "__main__"), key := PySem.Value.str (PySem.Str.ofString "__main__") 163, val := PySem.Value.ref 5 }, { hash := PySem.PyData.keyHash P (PySem.Str.ofString "_sre"), key := PySem.Value.str (PySem.Str.ofString "_sre") 244, val := PySem.Value.ref 12 }] 3 }
noncomputable def sh.o_3 : Params → Obj := fun P =>
  { cls := PySem.Value.none, data := PySem.Data.dict #[{ hash := PySem.PyData.keyHash P (PySem.Str.ofString "\x69mport.loaded._sre"), key := PySem.Value.str (PySem.Str.ofString "\x69mport.loaded._sre") 183, val := PySem.Value.bool Bool.true }, { hash := PySem.PyData.keyHash P (PySem.Str.ofString "class._frozen_importlib.BuiltinImporter"), key := PySem.Value.str (PySem.Str.ofString "class._frozen_importlib.BuiltinImporter") 185, val := PySem.Value.ref 14 }, { hash := PySem.PyData.keyHash P (PySem.Str.ofString "watched.\x69mport"), key := PySem.Value.str (PySem.Str.ofString "watched.\x69mport") 206, val := PySem.Value.ref 18 }, { hash := PySem.PyData.keyHash P (PySem.Str.ofString "class._frozen_importlib.ModuleSpec"), key := PySem.Value.str (PySem.Str.ofString "class._frozen_importlib.ModuleSpec") 216, val := PySem.Value.ref 22 }, { hash := PySem.PyData.keyHash P (PySem.Str.ofString "sys.modules.booked-epoch"), key := PySem.Value.str (PySem.Str.ofString "sys.modules.booked-epoch") 245, val := PySem.Value.int 3 0 }, { hash := PySem.PyData.keyHash P (PySem.Str.ofString "\x69mport.later-laid._sre"), key := PySem.Value.str (PySem.Str.ofString "\x69mport.later-laid._sre") 270, val := PySem.Value.bool Bool.true }, { hash := PySem.PyData.keyHash P (PySem.Str.ofString "watched.library"), key := PySem.Value.str (PySem.Str.ofString "watched.library") 272, val := PySem.Value.ref 27 }, { hash := PySem.PyData.keyHash P (PySem.Str.ofString "watched.library-objects"), key := PySem.Value.str (PySem.Str.ofString "watched.library-objects") 0, val := PySem.Value.str (PySem.Str.ofString "\x0c") 0 }, { hash := PySem.PyData.keyHash P (PySem.Str.ofString "watched.library-deep._sre"), key := PySem.Value.str (PySem.Str.ofString "watched.library-deep._sre") 273, val := PySem.Value.str (PySem.Str.ofString "\x04\x00\x00\x0b\x04\x00\x00\x0b\x04\x00\x00\x03\x04\x00\x00\x0b\x08\x04dict\x02") 0 }] 9 }
noncomputable def sh.o_4 : Params → Obj := fun P =>
  { cls := PySem.Value.type "dict", data := PySem.Data.dict #[{ hash := PySem.PyData.keyHash P (PySem.Str.ofString "__name__"), key := PySem.Value.str (PySem.Str.ofString "__name__") 165, val := PySem.Value.str (PySem.Str.ofString "__main__") 164 }, { hash := PySem.PyData.keyHash P (PySem.Str.ofString "__doc__"), key := PySem.Value.str (PySem.Str.ofString "__doc__") 166, val := PySem.Value.none }, { hash := PySem.PyData.keyHash P (PySem.Str.ofString "__package__"), key := PySem.Value.str (PySem.Str.ofString "__package__") 167, val := PySem.Value.none }, { hash := PySem.PyData.keyHash P (PySem.Str.ofString "__loader__"), key := PySem.Value.str (PySem.Str.ofString "__loader__") 168, val := PySem.Value.builtin "__main__.__loader__#opaque" }, { hash := PySem.PyData.keyHash P (PySem.Str.ofString "__spec__"), key := PySem.Value.str (PySem.Str.ofString "__spec__") 169, val := PySem.Value.none }, { hash := PySem.PyData.keyHash P (PySem.Str.ofString "__annotations__"), key := PySem.Value.str (PySem.Str.ofString "__annotations__") 170, val := PySem.Value.ref 6 }, { hash := PySem.PyData.keyHash P (PySem.Str.ofString "__builtins__"), key := PySem.Value.str (PySem.Str.ofString "__builtins__") 171, val := PySem.Value.ref 4 }, { hash := PySem.PyData.keyHash P (PySem.Str.ofString "__file__"), key := PySem.Value.str (PySem.Str.ofString "__file__") 173, val := PySem.Value.str (PySem.Str.ofString "/claim/cut.py") 172 }, { hash := PySem.PyData.keyHash P (PySem.Str.ofString "__cached__"), key := PySem.Value.str (PySem.Str.ofString "__cached__") 174, val := PySem.Value.none }, { hash := PySem.PyData.keyHash P (PySem.Str.ofString "_sre"), key := PySem.Value.str (PySem.Str.ofString "_sre") 275, val := PySem.Value.ref 12 }] 10 }
noncomputable def sh.o_5 : Params → Obj := fun P =>
  { cls := PySem.Value.type "module", dict := Option.some 0 }
noncomputable def sh.o_6 : Params → Obj := fun P =>
  { cls := PySem.Value.type "module", dict := Option.some 3 }
noncomputable def sh.o_7 : Params → Obj := fun P =>
  { cls := PySem.Value.type "dict", data := PySem.Data.dict #[] }
noncomputable def sh.o_8 : Params → Obj := fun P =>
  { cls := PySem.Value.type "tuple", data := PySem.Data.seq #[] }
noncomputable def sh.o_9 : Params → Obj := fun P =>
  { cls := PySem.Value.none, data := PySem.Data.fields #[] }
noncomputable def sh.o_10 : Params → Obj := fun P =>
  { cls := PySem.Value.type "code", data := PySem.Data.fields #[PySem.Value.str (PySem.Str.ofString "<module>") 176, PySem.Value.str (PySem.Str.ofString "<module>") 177, PySem.Value.str (PySem.Str.ofString "/claim/cut.py") 178, PySem.Value.int 1 0, PySem.Value.int 0 0, PySem.Value.int 0 0, PySem.Value.int 0 0, PySem.Value.int 0 0, PySem.Value.ref 7, PySem.Value.bool Bool.false, PySem.Value.int 175 0, PySem.Value.ref 8, PySem.Value.none, PySem.Value.none, PySem.Value.none, PySem.Value.none, PySem.Value.int 179 0, PySem.Value.int 1 0, PySem.Value.str (PySem.Str.ofString "/claim/cut.py") 180] }
noncomputable def sh.o_11 : Params → Obj := fun P =>
  { cls := PySem.Value.type "frame", slots := #[Option.some (PySem.Value.ref 9), Option.some (PySem.Value.ref 3), Option.some (PySem.Value.ref 3), Option.none, Option.some (PySem.Value.str (PySem.Str.ofString "__main__") 164), Option.none, Option.some (PySem.Value.ref 0)] }
noncomputable def sh.o_12 : Params → Obj := fun P =>
  { cls := PySem.Value.type "dict", data := PySem.Data.dict #[{ hash := PySem.PyData.keyHash P (PySem.Str.ofString "__name__"), key := PySem.Value.str (PySem.Str.ofString "__name__") 247, val := PySem.Value.str (PySem.Str.ofString "_sre") 246 }, { hash := PySem.PyData.keyHash P (PySem.Str.ofString "__doc__"), key := PySem.Value.str (PySem.Str.ofString "__doc__") 248, val := PySem.Value.none }, { hash := PySem.PyData.keyHash P (PySem.Str.ofString "__package__"), key := PySem.Value.str (PySem.Str.ofString "__package__") 250, val := PySem.Value.str (PySem.Str.ofString "") 249 }, { hash := PySem.PyData.keyHash P (PySem.Str.ofString "__loader__"), key := PySem.Value.str (PySem.Str.ofString "__loader__") 251, val := PySem.Value.builtin "off-the-table:_sre.__loader__:shared#opaque" }, { hash := PySem.PyData.keyHash P (PySem.Str.ofString "__spec__"), key := PySem.Value.str (PySem.Str.ofString "__spec__") 252, val := PySem.Value.builtin "off-the-table:_sre.__spec__:shared#opaque" }, { hash := PySem.PyData.keyHash P (PySem.Str.ofString "compile"), key := PySem.Value.str (PySem.Str.ofString "compile") 253, val := PySem.Value.builtin "_sre.compile" }, { hash := PySem.PyData.keyHash P (PySem.Str.ofString "template"), key := PySem.Value.str (PySem.Str.ofString "template") 254, val := PySem.Value.builtin "off-the-table:_sre.template:shared#opaque" }, { hash := PySem.PyData.keyHash P (PySem.Str.ofString "getcodesize"), key := PySem.Value.str (PySem.Str.ofString "getcodesize") 255, val := PySem.Value.builtin "off-the-table:_sre.getcodesize:shared#opaque" }, { hash := PySem.PyData.keyHash P (PySem.Str.ofString "ascii_iscased"), key := PySem.Value.str (PySem.Str.ofString "ascii_iscased") 256, val := PySem.Value.builtin "off-the-table:_sre.ascii_iscased:shared#opaque" }, { hash := PySem.PyData.keyHash P (PySem.Str.ofString "unicode_iscased"), key := PySem.Value.str (PySem.Str.ofString "unicode_iscased") 257, val := PySem.Value.builtin "off-the-table:_sre.unicode_iscased:shared#opaque" }, { hash := PySem.PyData.keyHash P (PySem.Str.ofString "ascii_tolower"), key := PySem.Value.str (PySem.Str.ofString "ascii_tolower") 258, val := PySem.Value.builtin "off-the-table:_sre.ascii_tolower:shared#opaque" }, { hash := PySem.PyData.keyHash P (PySem.Str.ofString "unicode_tolower"), key := PySem.Value.str (PySem.Str.ofString "unicode_tolower") 259, val := PySem.Value.builtin "off-the-table:_sre.unicode_tolower:shared#opaque" }, { hash := PySem.PyData.keyHash P (PySem.Str.ofString "MAGIC"), key := PySem.Value.str (PySem.Str.ofString "MAGIC") 261, val := PySem.Value.int 20230612 260 }, { hash := PySem.PyData.keyHash P (PySem.Str.ofString "CODESIZE"), key := PySem.Value.str (PySem.Str.ofString "CODESIZE") 263, val := PySem.Value.int 4 262 }, { hash := PySem.PyData.keyHash P (PySem.Str.ofString "MAXREPEAT"), key := PySem.Value.str (PySem.Str.ofString "MAXREPEAT") 265, val := PySem.Value.int 4294967295 264 }, { hash := PySem.PyData.keyHash P (PySem.Str.ofString "MAXGROUPS"), key := PySem.Value.str (PySem.Str.ofString "MAXGROUPS") 267, val := PySem.Value.int 1073741823 266 }, { hash := PySem.PyData.keyHash P (PySem.Str.ofString "copyright"), key := PySem.Value.str (PySem.Str.ofString "copyright") 269, val := PySem.Value.str (PySem.Str.ofString " SRE 2.2.2 Copyright (c) 1997-2002 by Secret Labs AB ") 268 }] 17 }
noncomputable def sh.o_13 : Params → Obj := fun P =>
  { cls := PySem.Value.type "module", dict := Option.some 11 }
noncomputable def sh.o_14 : Params → Obj := fun P =>
  { cls := PySem.Value.type "dict", data := PySem.Data.dict #[{ hash := PySem.PyData.keyHash P (PySem.Str.ofString "__module__"), key := PySem.Value.str (PySem.Str.ofString "__module__") 189, val := PySem.Value.str (PySem.Str.ofString "_frozen_importlib") 186 }, { hash := PySem.PyData.keyHash P (PySem.Str.ofString "__firstlineno__"), key := PySem.Value.str (PySem.Str.ofString "__firstlineno__") 190, val := PySem.Value.int 971 187 }, { hash := PySem.PyData.keyHash P (PySem.Str.ofString "__doc__"), key := PySem.Value.str (PySem.Str.ofString "__doc__") 191, val := PySem.Value.builtin "_frozen_importlib.BuiltinImporter.__doc__:str#opaque" }, { hash := PySem.PyData.keyHash P (PySem.Str.ofString "_ORIGIN"), key := PySem.Value.str (PySem.Str.ofString "_ORIGIN") 192, val := PySem.Value.str (PySem.Str.ofString "built-in") 188 }, { hash := PySem.PyData.keyHash P (PySem.Str.ofString "find_spec"), key := PySem.Value.str (PySem.Str.ofString "find_spec") 193, val := PySem.Value.builtin "_frozen_importlib.BuiltinImporter.find_spec#opaque" }, { hash := PySem.PyData.keyHash P (PySem.Str.ofString "create_module"), key := PySem.Value.str (PySem.Str.ofString "create_module") 194, val := PySem.Value.builtin "_frozen_importlib.BuiltinImporter.create_module#opaque" }, { hash := PySem.PyData.keyHash P (PySem.Str.ofString "exec_module"), key := PySem.Value.str (PySem.Str.ofString "exec_module") 195, val := PySem.Value.builtin "_frozen_importlib.BuiltinImporter.exec_module#opaque" }, { hash := PySem.PyData.keyHash P (PySem.Str.ofString "get_code"), key := PySem.Value.str (PySem.Str.ofString "get_code") 196, val := PySem.Value.builtin "_frozen_importlib.BuiltinImporter.get_code#opaque" }, { hash := PySem.PyData.keyHash P (PySem.Str.ofString "get_source"), key := PySem.Value.str (PySem.Str.ofString "get_source") 197, val := PySem.Value.builtin "_frozen_importlib.BuiltinImporter.get_source#opaque" }, { hash := PySem.PyData.keyHash P (PySem.Str.ofString "is_package"), key := PySem.Value.str (PySem.Str.ofString "is_package") 198, val := PySem.Value.builtin "_frozen_importlib.BuiltinImporter.is_package#opaque" }, { hash := PySem.PyData.keyHash P (PySem.Str.ofString "load_module"), key := PySem.Value.str (PySem.Str.ofString "load_module") 199, val := PySem.Value.builtin "_frozen_importlib.BuiltinImporter.load_module#opaque" }, { hash := PySem.PyData.keyHash P (PySem.Str.ofString "__static_attributes__"), key := PySem.Value.str (PySem.Str.ofString "__static_attributes__") 200, val := PySem.Value.ref 15 }, { hash := PySem.PyData.keyHash P (PySem.Str.ofString "__dict__"), key := PySem.Value.str (PySem.Str.ofString "__dict__") 202, val := PySem.Value.ref 16 }, { hash := PySem.PyData.keyHash P (PySem.Str.ofString "__weakref__"), key := PySem.Value.str (PySem.Str.ofString "__weakref__") 204, val := PySem.Value.ref 17 }] 14 }
noncomputable def sh.o_15 : Params → Obj := fun P =>
  { cls := PySem.Value.type "type", data := PySem.Data.cls { name := PySem.Str.ofString "BuiltinImporter", bases := [PySem.Value.type "object"], mro := [PySem.Value.ref 14, PySem.Value.type "object"], ns := 13, qualname := PySem.Str.ofString "BuiltinImporter" } }
noncomputable def sh.o_16 : Params → Obj := fun P =>
  { cls := PySem.Value.type "tuple", data := PySem.Data.seq #[] }
noncomputable def sh.o_17 : Params → Obj := fun P =>
  { cls := PySem.Value.type "getset_descriptor", data := PySem.Data.fields #[PySem.Value.str (PySem.Str.ofString "__dict__") 201, PySem.Value.ref 14, PySem.Value.builtin "function.__dict__", PySem.Value.builtin "function.__dict__#set"] }
noncomputable def sh.o_18 : Params → Obj := fun P =>
  { cls := PySem.Value.type "getset_descriptor", data := PySem.Data.fields #[PySem.Value.str (PySem.Str.ofString "__weakref__") 203, PySem.Value.ref 14, PySem.Value.builtin "ExceptionGroup.__weakref__", PySem.Value.none] }
noncomputable def sh.o_19 : Params → Obj := fun P =>
  { cls := PySem.Value.none, data := PySem.Data.seq #[PySem.Value.int 13 0, PySem.Value.str (PySem.Str.ofString "\x06½\n__module__\x06º\x11_frozen_importlib\x06¾\x0f__firstlineno__\x04»\x00ϋ\x06¿\x07__doc__\t4_frozen_importlib.BuiltinImporter.__doc__:str#opaque\x06À\x07_ORIGIN\x06¼\x08built-in\x06Á\tfind_spec\t2_frozen_importlib.BuiltinImporter.find_spec#opaque\x06Â\x0dcreate_module\t6_frozen_importlib.BuiltinImporter.create_module#opaque\x06Ã\x0bexec_module\t4_frozen_importlib.BuiltinImporter.exec_module#opaque\x06Ä\x08get_code\t1_frozen_importlib.BuiltinImporter.get_code#opaque\x06Å\nget_source\t3_frozen_importlib.BuiltinImporter.get_source#opaque\x06Æ\nis_package\t3_frozen_importlib.BuiltinImporter.is_package#opaque\x06Ç\x0bload_module\t4_frozen_importlib.BuiltinImporter.load_module#opaque\x06È\x15__static_attributes__\x04\x00\x00\x0f\x06Ê\x08__dict__\x04\x00\x00\x10\x06Ì\x0b__weakref__\x04\x00\x00\x11") 0, PySem.Value.bool Bool.true, PySem.Value.bool Bool.true, PySem.Value.str (PySem.Str.ofString "") 205, PySem.Value.int 21 0, PySem.Value.str (PySem.Str.ofString "\x06ã\n__module__\x06Ù\x11_frozen_importlib\x06ä\x0f__firstlineno__\x04Ú\x00Ȳ\x06å\x07__doc__\t/_frozen_importlib.ModuleSpec.__doc__:str#opaque\x06æ\x08__init__\t,_frozen_importlib.ModuleSpec.__init__#opaque\x06ç\x08__repr__\t,_frozen_importlib.ModuleSpec.__repr__#opaque\x06è\x06__eq__\t*_frozen_importlib.ModuleSpec.__eq__#opaque\x06é\x06cached\t*_frozen_importlib.ModuleSpec.cached#opaque\x06ê\x06parent\t*_frozen_importlib.ModuleSpec.parent#opaque\x06ë\x0chas_location\t0_frozen_importlib.ModuleSpec.has_location#opaque\x06ì\x15__static_attributes__\x04\x00\x00\x17\x06î\x08__dict__\x04\x00\x00\x18\x06ð\x0b__weakref__\x04\x00\x00\x19\x06ñ\x08__hash__\x00") 0, PySem.Value.bool Bool.true, PySem.Value.bool Bool.true, PySem.Value.str (PySem.Str.ofString "") 242] 1 }
noncomputable def sh.o_20 : Params → Obj := fun P =>
  { cls := PySem.Value.type "list", data := PySem.Data.seq #[] }
noncomputable def sh.o_21 : Params → Obj := fun P =>
  { cls := PySem.Value.type "dict", data := PySem.Data.dict #[{ hash := PySem.PyData.keyHash P (PySem.Str.ofString "name"), key := PySem.Value.str (PySem.Str.ofString "name") 208, val := PySem.Value.str (PySem.Str.ofString "_sre") 207 }, { hash := PySem.PyData.keyHash P (PySem.Str.ofString "loader"), key := PySem.Value.str (PySem.Str.ofString "loader") 209, val := PySem.Value.ref 14 }, { hash := PySem.PyData.keyHash P (PySem.Str.ofString "origin"), key := PySem.Value.str (PySem.Str.ofString "origin") 210, val := PySem.Value.str (PySem.Str.ofString "built-in") 184 }, { hash := PySem.PyData.keyHash P (PySem.Str.ofString "loader_state"), key := PySem.Value.str (PySem.Str.ofString "loader_state") 211, val := PySem.Value.none }, { hash := PySem.PyData.keyHash P (PySem.Str.ofString "submodule_search_locations"), key := PySem.Value.str (PySem.Str.ofString "submodule_search_locations") 212, val := PySem.Value.none }, { hash := PySem.PyData.keyHash P (PySem.Str.ofString "_uninitialized_submodules"), key := PySem.Value.str (PySem.Str.ofString "_uninitialized_submodules") 213, val := PySem.Value.ref 19 }, { hash := PySem.PyData.keyHash P (PySem.Str.ofString "_set_fileattr"), key := PySem.Value.str (PySem.Str.ofString "_set_fileattr") 214, val := PySem.Value.bool Bool.false }, { hash := PySem.PyData.keyHash P (PySem.Str.ofString "_cached"), key := PySem.Value.str (PySem.Str.ofString "_cached") 215, val := PySem.Value.none }, { hash := PySem.PyData.keyHash P (PySem.Str.ofString "_initializing"), key := PySem.Value.str (PySem.Str.ofString "_initializing") 243, val := PySem.Value.bool Bool.false }] 9 }
noncomputable def sh.o_22 : Params → Obj := fun P =>
  { cls := PySem.Value.type "dict", data := PySem.Data.dict #[{ hash := PySem.PyData.keyHash P (PySem.Str.ofString "__module__"), key := PySem.Value.str (PySem.Str.ofString "__module__") 227, val := PySem.Value.str (PySem.Str.ofString "_frozen_importlib") 217 }, { hash := PySem.PyData.keyHash P (PySem.Str.ofString "__firstlineno__"), key := PySem.Value.str (PySem.Str.ofString "__firstlineno__") 228, val := PySem.Value.int 562 218 }, { hash := PySem.PyData.keyHash P (PySem.Str.ofString "__doc__"), key := PySem.Value.str (PySem.Str.ofString "__doc__") 229, val := PySem.Value.builtin "_frozen_importlib.ModuleSpec.__doc__:str#opaque" }, { hash := PySem.PyData.keyHash P (PySem.Str.ofString "__init__"), key := PySem.Value.str (PySem.Str.ofString "__init__") 230, val := PySem.Value.builtin "_frozen_importlib.ModuleSpec.__init__#opaque" }, { hash := PySem.PyData.keyHash P (PySem.Str.ofString "__repr__"), key := PySem.Value.str (PySem.Str.ofString "__repr__") 231, val := PySem.Value.builtin "_frozen_importlib.ModuleSpec.__repr__#opaque" }, { hash := PySem.PyData.keyHash P (PySem.Str.ofString "__eq__"), key := PySem.Value.str (PySem.Str.ofString "__eq__") 232, val := PySem.Value.builtin "_frozen_importlib.ModuleSpec.__eq__#opaque" }, { hash := PySem.PyData.keyHash P (PySem.Str.ofString "cached"), key := PySem.Value.str (PySem.Str.ofString "cached") 233, val := PySem.Value.builtin "_frozen_importlib.ModuleSpec.cached#opaque" }, { hash := PySem.PyData.keyHash P (PySem.Str.ofString "parent"), key := PySem.Value.str (PySem.Str.ofString "parent") 234, val := PySem.Value.builtin "_frozen_importlib.ModuleSpec.parent#opaque" }, { hash := PySem.PyData.keyHash P (PySem.Str.ofString "has_location"), key := PySem.Value.str (PySem.Str.ofString "has_location") 235, val := PySem.Value.builtin "_frozen_importlib.ModuleSpec.has_location#opaque" }, { hash := PySem.PyData.keyHash P (PySem.Str.ofString "__static_attributes__"), key := PySem.Value.str (PySem.Str.ofString "__static_attributes__") 236, val := PySem.Value.ref 23 }, { hash := PySem.PyData.keyHash P (PySem.Str.ofString "__dict__"), key := PySem.Value.str (PySem.Str.ofString "__dict__") 238, val := PySem.Value.ref 24 }, { hash := PySem.PyData.keyHash P (PySem.Str.ofString "__weakref__"), key := PySem.Value.str (PySem.Str.ofString "__weakref__") 240, val := PySem.Value.ref 25 }, { hash := PySem.PyData.keyHash P (PySem.Str.ofString "__hash__"), key := PySem.Value.str (PySem.Str.ofString "__hash__") 241, val := PySem.Value.none }] 13 }
noncomputable def sh.o_23 : Params → Obj := fun P =>
  { cls := PySem.Value.type "type", data := PySem.Data.cls { name := PySem.Str.ofString "ModuleSpec", bases := [PySem.Value.type "object"], mro := [PySem.Value.ref 22, PySem.Value.type "object"], ns := 21, qualname := PySem.Str.ofString "ModuleSpec" } }
noncomputable def sh.o_24 : Params → Obj := fun P =>
  { cls := PySem.Value.type "tuple", data := PySem.Data.seq #[PySem.Value.str (PySem.Str.ofString "_cached") 219, PySem.Value.str (PySem.Str.ofString "_set_fileattr") 220, PySem.Value.str (PySem.Str.ofString "_uninitialized_submodules") 221, PySem.Value.str (PySem.Str.ofString "loader") 222, PySem.Value.str (PySem.Str.ofString "loader_state") 223, PySem.Value.str (PySem.Str.ofString "name") 224, PySem.Value.str (PySem.Str.ofString "origin") 225, PySem.Value.str (PySem.Str.ofString "submodule_search_locations") 226] }
noncomputable def sh.o_25 : Params → Obj := fun P =>
  { cls := PySem.Value.type "getset_descriptor", data := PySem.Data.fields #[PySem.Value.str (PySem.Str.ofString "__dict__") 237, PySem.Value.ref 22, PySem.Value.builtin "function.__dict__", PySem.Value.builtin "function.__dict__#set"] }
noncomputable def sh.o_26 : Params → Obj := fun P =>
  { cls := PySem.Value.type "getset_descriptor", data := PySem.Data.fields #[PySem.Value.str (PySem.Str.ofString "__weakref__") 239, PySem.Value.ref 22, PySem.Value.builtin "ExceptionGroup.__weakref__", PySem.Value.none] }
noncomputable def sh.o_27 : Params → Obj := fun P =>
  { cls := PySem.Value.ref 22, dict := Option.some 20 }
noncomputable def sh.o_28 : Params → Obj := fun P =>
  { cls := PySem.Value.none, data := PySem.Data.seq #[PySem.Value.int 11 0, PySem.Value.str { cps := #[6, 247, 8, 95, 95, 110, 97, 109, 101, 95, 95, 6, 246, 4, 95, 115, 114, 101, 6, 248, 7, 95, 95, 100, 111, 99, 95, 95, 0, 6, 250, 11, 95, 95, 112, 97, 99, 107, 97, 103, 101, 95, 95, 6, 249, 0, 6, 251, 10, 95, 95, 108, 111, 97, 100, 101, 114, 95, 95, 4, 0, 0, 14, 6, 252, 8, 95, 95, 115, 112, 101, 99, 95, 95, 4, 0, 0, 26, 6, 253, 7, 99, 111, 109, 112, 105, 108, 101, 9, 12, 95, 115, 114, 101, 46, 99, 111, 109, 112, 105, 108, 101, 6, 254, 8, 116, 101, 109, 112, 108, 97, 116, 101, 9, 13, 95, 115, 114, 101, 46, 116, 101, 109, 112, 108, 97, 116, 101, 6, 255, 11, 103, 101, 116, 99, 111, 100, 101, 115, 105, 122, 101, 9, 16, 95, 115, 114, 101, 46, 103, 101, 116, 99, 111, 100, 101, 115, 105, 122, 101, 6, 256, 13, 97, 115, 99, 105, 105, 95, 105, 115, 99, 97, 115, 101, 100, 9, 18, 95, 115, 114, 101, 46, 97, 115, 99, 105, 105, 95, 105, 115, 99, 97, 115, 101, 100, 6, 257, 15, 117, 110, 105, 99, 111, 100, 101, 95, 105, 115, 99, 97, 115, 101, 100, 9, 20, 95, 115, 114, 101, 46, 117, 110, 105, 99, 111, 100, 101, 95, 105, 115, 99, 97, 115, 101, 100, 6, 258, 13, 97, 115, 99, 105, 105, 95, 116, 111, 108, 111, 119, 101, 114, 9, 18, 95, 115, 114, 101, 46, 97, 115, 99, 105, 105, 95, 116, 111, 108, 111, 119, 101, 114, 6, 259, 15, 117, 110, 105, 99, 111, 100, 101, 95, 116, 111, 108, 111, 119, 101, 114, 9, 20, 95, 115, 114, 101, 46, 117, 110, 105, 99, 111, 100, 101, 95, 116, 111, 108, 111, 119, 101, 114, 6, 261, 5, 77, 65, 71, 73, 67, 4, 260, 0, 20230612, 6, 263, 8, 67, 79, 68, 69, 83, 73, 90, 69, 4, 262, 0, 4, 6, 265, 9, 77, 65, 88, 82, 69, 80, 69, 65, 84, 4, 264, 0, 4294967295, 6, 267, 9, 77, 65, 88, 71, 82, 79, 85, 80, 83, 4, 266, 0, 1073741823, 6, 269, 9, 99, 111, 112, 121, 114, 105, 103, 104, 116, 6, 268, 53, 32, 83, 82, 69, 32, 50, 46, 50, 46, 50, 32, 67, 111, 112, 121, 114, 105, 103, 104, 116, 32, 40, 99, 41, 32, 49, 57, 57, 55, 45, 50, 48, 48, 50, 32, 98, 121, 32, 83, 101, 99, 114, 101, 116, 32, 76, 97, 98, 115, 32, 65, 66, 32] } 0, PySem.Value.bool Bool.true, PySem.Value.bool Bool.false, PySem.Value.str (PySem.Str.ofString "_sre") 271] }
noncomputable def sh.o_29 : Params → Obj := fun P =>
  { cls := PySem.Value.type "tuple", data := PySem.Data.seq #[] }
noncomputable def sh.o_30 : Params → Obj := fun P =>
  { cls := PySem.Value.none, data := PySem.Data.fields #[] }
noncomputable def sh.o_31 : Params → Obj := fun P =>
  { cls := PySem.Value.type "code", data := PySem.Data.fields #[PySem.Value.str (PySem.Str.ofString "<module>") 277, PySem.Value.str (PySem.Str.ofString "<module>") 278, PySem.Value.str (PySem.Str.ofString "/claim/cut.py") 279, PySem.Value.int 1 0, PySem.Value.int 0 0, PySem.Value.int 0 0, PySem.Value.int 0 0, PySem.Value.int 0 0, PySem.Value.ref 28, PySem.Value.bool Bool.false, PySem.Value.int 276 0, PySem.Value.ref 29, PySem.Value.none, PySem.Value.none, PySem.Value.none, PySem.Value.none, PySem.Value.int 280 0, PySem.Value.int 1 0, PySem.Value.str (PySem.Str.ofString "/claim/cut.py") 281] }
noncomputable def sh.o_32 : Params → Obj := fun P =>
  { cls := PySem.Value.type "frame", slots := #[Option.some (PySem.Value.ref 30), Option.some (PySem.Value.ref 3), Option.some (PySem.Value.ref 3), Option.none, Option.some (PySem.Value.str (PySem.Str.ofString "__main__") 164), Option.none, Option.some (PySem.Value.ref 0)] }
noncomputable def sh.o_109 : Params → Obj := fun P =>
  { cls := PySem.Value.type "dict", data := PySem.Data.dict #[{ hash := PySem.PyData.keyHash P (PySem.Str.ofString "__name__"), key := PySem.Value.str (PySem.Str.ofString "__name__") 165, val := PySem.Value.str (PySem.Str.ofString "cpy313.stringprep") 500 }, { hash := PySem.PyData.keyHash P (PySem.Str.ofString "__doc__"), key := PySem.Value.str (PySem.Str.ofString "__doc__") 166, val := PySem.Value.none }, { hash := PySem.PyData.keyHash P (PySem.Str.ofString "__package__"), key := PySem.Value.str (PySem.Str.ofString "__package__") 167, val := PySem.Value.none }, { hash := PySem.PyData.keyHash P (PySem.Str.ofString "__loader__"), key := PySem.Value.str (PySem.Str.ofString "__loader__") 168, val := PySem.Value.builtin "__main__.__loader__#opaque" }, { hash := PySem.PyData.keyHash P (PySem.Str.ofString "__spec__"), key := PySem.Value.str (PySem.Str.ofString "__spec__") 169, val := PySem.Value.none }, { hash := PySem.PyData.keyHash P (PySem.Str.ofString "__annotations__"), key := PySem.Value.str (PySem.Str.ofString "__annotations__") 170, val := PySem.Value.ref 6 }, { hash := PySem.PyData.keyHash P (PySem.Str.ofString "__builtins__"), key := PySem.Value.str (PySem.Str.ofString "__builtins__") 171, val := PySem.Value.ref 4 }, { hash := PySem.PyData.keyHash P (PySem.Str.ofString "__file__"), key := PySem.Value.str (PySem.Str.ofString "__file__") 173, val := PySem.Value.str (PySem.Str.ofString "/claim/cut.py") 172 }, { hash := PySem.PyData.keyHash P (PySem.Str.ofString "__cached__"), key := PySem.Value.str (PySem.Str.ofString "__cached__") 174, val := PySem.Value.none }, { hash := PySem.PyData.keyHash P (PySem.Str.ofString "_sre"), key := PySem.Value.str (PySem.Str.ofString "_sre") 275, val := PySem.Value.ref 12 }, { hash := PySem.PyData.keyHash P (PySem.Str.ofString "compute_powers"), key := PySem.Value.str (PySem.Str.ofString "compute_powers") 303, val := PySem.Value.ref 39 }, { hash := PySem.PyData.keyHash P (PySem.Str.ofString "_str_to_int_inner"), key := PySem.Value.str (PySem.Str.ofString "_str_to_int_inner") 314, val := PySem.Value.ref 46 }, { hash := PySem.PyData.keyHash P (PySem.Str.ofString "int_from_string"), key := PySem.Value.str (PySem.Str.ofString "int_from_string") 321, val := PySem.Value.ref 53 }, { hash := PySem.PyData.keyHash P (PySem.Str.ofString "_DIV_LIMIT"), key := PySem.Value.str (PySem.Str.ofString "_DIV_LIMIT") 323, val := PySem.Value.int 4000 322 }, { hash := PySem.PyData.keyHash P (PySem.Str.ofString "_div2n1n"), key := PySem.Value.str (PySem.Str.ofString "_div2n1n") 340, val := PySem.Value.ref 60 }, { hash := PySem.PyData.keyHash P (PySem.Str.ofString "_div3n2n"), key := PySem.Value.str (PySem.Str.ofString "_div3n2n") 354, val := PySem.Value.ref 67 }, { hash := PySem.PyData.keyHash P (PySem.Str.ofString "_int2digits"), key := PySem.Value.str (PySem.Str.ofString "_int2digits") 365, val := PySem.Value.ref 74 }, { hash := PySem.PyData.keyHash P (PySem.Str.ofString "_digits2int"), key := PySem.Value.str (PySem.Str.ofString "_digits2int") 376, val := PySem.Value.ref 81 }, { hash := PySem.PyData.keyHash P (PySem.Str.ofString "_divmod_pos"), key := PySem.Value.str (PySem.Str.ofString "_divmod_pos") 391, val := PySem.Value.ref 88 }, { hash := PySem.PyData.keyHash P (PySem.Str.ofString "int_divmod"), key := PySem.Value.str (PySem.Str.ofString "int_divmod") 401, val := PySem.Value.ref 95 }, { hash := PySem.PyData.keyHash P (PySem.Str.ofString "insort_left"), key := PySem.Value.str (PySem.Str.ofString "insort_left") 416, val := PySem.Value.ref 104 }, { hash := PySem.PyData.keyHash P (PySem.Str.ofString "bisect_left"), key := PySem.Value.str (PySem.Str.ofString "bisect_left") 430, val := PySem.Value.ref 113 }, { hash := PySem.PyData.keyHash P (PySem.Str.ofString "_twin_re_1"), key := PySem.Value.str (PySem.Str.ofString "_twin_re_1") 448, val := PySem.Value.ref 118 }, { hash := PySem.PyData.keyHash P (PySem.Str.ofString "_twin_re_2"), key := PySem.Value.str (PySem.Str.ofString "_twin_re_2") 490, val := PySem.Value.ref 123 }, { hash := PySem.PyData.keyHash P (PySem.Str.ofString "CRLF"), key := PySem.Value.str (PySem.Str.ofString "CRLF") 492, val := PySem.Value.str (PySem.Str.ofString "\x0d\n") 491 }, { hash := PySem.PyData.keyHash P (PySem.Str.ofString "quotedata"), key := PySem.Value.str (PySem.Str.ofString "quotedata") 499, val := PySem.Value.ref 130 }] 26 }
noncomputable def sh.o_110 : Params → Obj := fun P =>
  { cls := PySem.Value.none, data := PySem.Data.fields #[PySem.Value.int 3 0, PySem.Value.int 0 0, PySem.Value.ref 38, PySem.Value.int 44 0, PySem.Value.int 0 0, PySem.Value.ref 45, PySem.Value.int 54 0, PySem.Value.int 0 0, PySem.Value.ref 52, PySem.Value.int 58 0, PySem.Value.int 0 0, PySem.Value.ref 59, PySem.Value.int 74 0, PySem.Value.int 0 0, PySem.Value.ref 66, PySem.Value.int 84 0, PySem.Value.int 0 0, PySem.Value.ref 73, PySem.Value.int 100 0, PySem.Value.int 0 0, PySem.Value.ref 80, PySem.Value.int 109 0, PySem.Value.int 0 0, PySem.Value.ref 87, PySem.Value.int 120 0, PySem.Value.int 0 0, PySem.Value.ref 94, PySem.Value.int 132 0, PySem.Value.int 0 0, PySem.Value.ref 103, PySem.Value.int 138 0, PySem.Value.int 0 0, PySem.Value.ref 112, PySem.Value.int 162 0, PySem.Value.int 0 0, PySem.Value.ref 129] }
noncomputable def sh.o_35 : Params → Obj := fun P =>
  { cls := PySem.Value.type "tuple", data := PySem.Data.seq #[PySem.Value.bool Bool.false] }
noncomputable def sh.o_36 : Params → Obj := fun P =>
  { cls := PySem.Value.type "tuple", data := PySem.Data.seq #[] }
noncomputable def sh.o_37 : Params → Obj := fun P =>
  { cls := PySem.Value.none, data := PySem.Data.fields #[] }
noncomputable def sh.o_38 : Params → Obj := fun P =>
  { cls := PySem.Value.type "tuple", data := PySem.Data.seq #[PySem.Value.str (PySem.Str.ofString "w") 287, PySem.Value.str (PySem.Str.ofString "base") 288, PySem.Value.str (PySem.Str.ofString "more_than") 289, PySem.Value.str (PySem.Str.ofString "show") 290, PySem.Value.str (PySem.Str.ofString "seen") 291, PySem.Value.str (PySem.Str.ofString "need") 292, PySem.Value.str (PySem.Str.ofString "ws") 293, PySem.Value.str (PySem.Str.ofString "lo") 294, PySem.Value.str (PySem.Str.ofString "d") 295, PySem.Value.str (PySem.Str.ofString "it") 296, PySem.Value.str (PySem.Str.ofString "first") 297, PySem.Value.str (PySem.Str.ofString "this") 298, PySem.Value.str (PySem.Str.ofString "hi") 299, PySem.Value.str (PySem.Str.ofString "sq") 300] }
noncomputable def sh.o_39 : Params → Obj := fun P =>
  { cls := PySem.Value.type "tuple", data := PySem.Data.seq #[] }
noncomputable def sh.o_40 : Params → Obj := by
  refine (?f : (K : Params → Obj) → Same K (fun P => ⟨(PySem.Value.none), none, .func (FuncData.mk (PySem.Str.ofString "compute_powers") (PySem.Str.ofString "compute_powers") (fArgs (stm 2)) (.stmts (fBody (stm 2))) (fScope (stm 2)) 0 [] (PySem.Value.none) (PySem.Value.none) (PySem.Value.none) (PySem.Value.none) Option.none (PySem.Value.none) (PySem.Value.none) 0), #[]⟩) → Params → Obj) _ (by
    conv in (occs := *) fArgs _ => all_goals whnf
    conv in (occs := *) fBody _ => all_goals whnf
    conv in (occs := *) fScope _ => all_goals whnf
    exact same _)
  exact fun K _ => K
noncomputable def sh.o_41 : Params → Obj := fun P =>
  { cls := PySem.Value.type "code", data := PySem.Data.fields #[PySem.Value.str (PySem.Str.ofString "compute_powers") 284, PySem.Value.str (PySem.Str.ofString "compute_powers") 285, PySem.Value.str (PySem.Str.ofString "/claim/cut.py") 286, PySem.Value.int 3 0, PySem.Value.int 4 0, PySem.Value.int 0 0, PySem.Value.int 0 0, PySem.Value.int 3 0, PySem.Value.ref 33, PySem.Value.bool Bool.true, PySem.Value.int 276 0, PySem.Value.ref 34, PySem.Value.none, PySem.Value.ref 35, PySem.Value.ref 36, PySem.Value.ref 37, PySem.Value.int 301 0, PySem.Value.int 3 0, PySem.Value.str (PySem.Str.ofString "/claim/cut.py") 302] }
noncomputable def sh.o_42 : Params → Obj := by
  refine (?f : (K : Params → Obj) → Same K (fun P => ⟨(PySem.Value.type "function"), none, .func (FuncData.mk (PySem.Str.ofString "compute_powers") (PySem.Str.ofString "compute_powers") (fArgs (stm 2)) (.stmts (fBody (stm 2))) (fScope (stm 2)) 3 [] (PySem.Value.ref 32) (PySem.Value.none) (PySem.Value.none) (PySem.Value.str (PySem.Str.ofString "cpy313._pylong") 282) Option.none (PySem.Value.ref 38) (PySem.Value.none) 0), #[]⟩) → Params → Obj) _ (by
    conv in (occs := *) fArgs _ => all_goals whnf
    conv in (occs := *) fBody _ => all_goals whnf
    conv in (occs := *) fScope _ => all_goals whnf
    exact same _)
  exact fun K _ => K
noncomputable def sh.o_43 : Params → Obj := fun P =>
  { cls := PySem.Value.type "tuple", data := PySem.Data.seq #[] }
noncomputable def sh.o_44 : Params → Obj := fun P =>
  { cls := PySem.Value.none, data := PySem.Data.fields #[] }
noncomputable def sh.o_45 : Params → Obj := fun P =>
  { cls := PySem.Value.type "tuple", data := PySem.Data.seq #[PySem.Value.str (PySem.Str.ofString "s") 307] }
noncomputable def sh.o_46 : Params → Obj := fun P =>
  { cls := PySem.Value.type "tuple", data := PySem.Data.seq #[PySem.Value.str (PySem.Str.ofString "s") 308, PySem.Value.str (PySem.Str.ofString "DIGLIM") 309, PySem.Value.str (PySem.Str.ofString "inner") 310, PySem.Value.str (PySem.Str.ofString "w5pow") 311] }
noncomputable def sh.o_47 : Params → Obj := by
  refine (?f : (K : Params → Obj) → Same K (fun P => ⟨(PySem.Value.none), none, .func (FuncData.mk (PySem.Str.ofString "_str_to_int_inner") (PySem.Str.ofString "_str_to_int_inner") (fArgs (stm 3)) (.stmts (fBody (stm 3))) (fScope (stm 3)) 0 [] (PySem.Value.none) (PySem.Value.none) (PySem.Value.none) (PySem.Value.none) Option.none (PySem.Value.none) (PySem.Value.none) 0), #[]⟩) → Params → Obj) _ (by
    conv in (occs := *) fArgs _ => all_goals whnf
    conv in (occs := *) fBody _ => all_goals whnf
    conv in (occs := *) fScope _ => all_goals whnf
    exact same _)
  exact fun K _ => K
noncomputable def sh.o_48 : Params → Obj := fun P =>
  { cls := PySem.Value.type "code", data := PySem.Data.fields #[PySem.Value.str (PySem.Str.ofString "_str_to_int_inner") 304, PySem.Value.str (PySem.Str.ofString "_str_to_int_inner") 305, PySem.Value.str (PySem.Str.ofString "/claim/cut.py") 306, PySem.Value.int 44 0, PySem.Value.int 1 0, PySem.Value.int 0 0, PySem.Value.int 0 0, PySem.Value.int 3 0, PySem.Value.ref 40, PySem.Value.bool Bool.true, PySem.Value.int 276 0, PySem.Value.ref 41, PySem.Value.none, PySem.Value.ref 42, PySem.Value.ref 43, PySem.Value.ref 44, PySem.Value.int 312 0, PySem.Value.int 44 0, PySem.Value.str (PySem.Str.ofString "/claim/cut.py") 313] }
noncomputable def sh.o_49 : Params → Obj := by
  refine (?f : (K : Params → Obj) → Same K (fun P => ⟨(PySem.Value.type "function"), none, .func (FuncData.mk (PySem.Str.ofString "_str_to_int_inner") (PySem.Str.ofString "_str_to_int_inner") (fArgs (stm 3)) (.stmts (fBody (stm 3))) (fScope (stm 3)) 3 [] (PySem.Value.none) (PySem.Value.none) (PySem.Value.none) (PySem.Value.str (PySem.Str.ofString "cpy313._pylong") 282) Option.none (PySem.Value.ref 45) (PySem.Value.none) 0), #[]⟩) → Params → Obj) _ (by
    conv in (occs := *) fArgs _ => all_goals whnf
    conv in (occs := *) fBody _ => all_goals whnf
    conv in (occs := *) fScope _ => all_goals whnf
    exact same _)
  exact fun K _ => K
noncomputable def sh.o_50 : Params → Obj := fun P =>
  { cls := PySem.Value.type "tuple", data := PySem.Data.seq #[] }
noncomputable def sh.o_51 : Params → Obj := fun P =>
  { cls := PySem.Value.none, data := PySem.Data.fields #[] }
noncomputable def sh.o_52 : Params → Obj := fun P =>
  { cls := PySem.Value.type "tuple", data := PySem.Data.seq #[PySem.Value.str (PySem.Str.ofString "s") 318] }
noncomputable def sh.o_53 : Params → Obj := fun P =>
  { cls := PySem.Value.type "tuple", data := PySem.Data.seq #[] }
noncomputable def sh.o_54 : Params → Obj := by
  refine (?f : (K : Params → Obj) → Same K (fun P => ⟨(PySem.Value.none), none, .func (FuncData.mk (PySem.Str.ofString "int_from_string") (PySem.Str.ofString "int_from_string") (fArgs (stm 4)) (.stmts (fBody (stm 4))) (fScope (stm 4)) 0 [] (PySem.Value.none) (PySem.Value.none) (PySem.Value.none) (PySem.Value.none) Option.none (PySem.Value.none) (PySem.Value.none) 0), #[]⟩) → Params → Obj) _ (by
    conv in (occs := *) fArgs _ => all_goals whnf
    conv in (occs := *) fBody _ => all_goals whnf
    conv in (occs := *) fScope _ => all_goals whnf
    exact same _)
  exact fun K _ => K
noncomputable def sh.o_55 : Params → Obj := fun P =>
  { cls := PySem.Value.type "code", data := PySem.Data.fields #[PySem.Value.str (PySem.Str.ofString "int_from_string") 315, PySem.Value.str (PySem.Str.ofString "int_from_string") 316, PySem.Value.str (PySem.Str.ofString "/claim/cut.py") 317, PySem.Value.int 54 0, PySem.Value.int 1 0, PySem.Value.int 0 0, PySem.Value.int 0 0, PySem.Value.int 3 0, PySem.Value.ref 47, PySem.Value.bool Bool.true, PySem.Value.int 276 0, PySem.Value.ref 48, PySem.Value.none, PySem.Value.ref 49, PySem.Value.ref 50, PySem.Value.ref 51, PySem.Value.int 319 0, PySem.Value.int 54 0, PySem.Value.str (PySem.Str.ofString "/claim/cut.py") 320] }
noncomputable def sh.o_56 : Params → Obj := by
  refine (?f : (K : Params → Obj) → Same K (fun P => ⟨(PySem.Value.type "function"), none, .func (FuncData.mk (PySem.Str.ofString "int_from_string") (PySem.Str.ofString "int_from_string") (fArgs (stm 4)) (.stmts (fBody (stm 4))) (fScope (stm 4)) 3 [] (PySem.Value.none) (PySem.Value.none) (PySem.Value.none) (PySem.Value.str (PySem.Str.ofString "cpy313._pylong") 282) Option.none (PySem.Value.ref 52) (PySem.Value.none) 0), #[]⟩) → Params → Obj) _ (by
    conv in (occs := *) fArgs _ => all_goals whnf
    conv in (occs := *) fBody _ => all_goals whnf
    conv in (occs := *) fScope _ => all_goals whnf
    exact same _)
  exact fun K _ => K
noncomputable def sh.o_57 : Params → Obj := fun P =>
  { cls := PySem.Value.type "tuple", data := PySem.Data.seq #[] }
noncomputable def sh.o_58 : Params → Obj := fun P =>
  { cls := PySem.Value.none, data := PySem.Data.fields #[] }
noncomputable def sh.o_59 : Params → Obj := fun P =>
  { cls := PySem.Value.type "tuple", data := PySem.Data.seq #[PySem.Value.str (PySem.Str.ofString "a") 327, PySem.Value.str (PySem.Str.ofString "b") 328, PySem.Value.str (PySem.Str.ofString "n") 329, PySem.Value.str (PySem.Str.ofString "pad") 330, PySem.Value.str (PySem.Str.ofString "half_n") 331, PySem.Value.str (PySem.Str.ofString "mask") 332, PySem.Value.str (PySem.Str.ofString "b1") 333, PySem.Value.str (PySem.Str.ofString "b2") 334, PySem.Value.str (PySem.Str.ofString "q1") 335, PySem.Value.str (PySem.Str.ofString "r") 336, PySem.Value.str (PySem.Str.ofString "q2") 337] }
noncomputable def sh.o_60 : Params → Obj := fun P =>
  { cls := PySem.Value.type "tuple", data := PySem.Data.seq #[] }
noncomputable def sh.o_61 : Params → Obj := by
  refine (?f : (K : Params → Obj) → Same K (fun P => ⟨(PySem.Value.none), none, .func (FuncData.mk (PySem.Str.ofString "_div2n1n") (PySem.Str.ofString "_div2n1n") (fArgs (stm 6)) (.stmts (fBody (stm 6))) (fScope (stm 6)) 0 [] (PySem.Value.none) (PySem.Value.none) (PySem.Value.none) (PySem.Value.none) Option.none (PySem.Value.none) (PySem.Value.none) 0), #[]⟩) → Params → Obj) _ (by
    conv in (occs := *) fArgs _ => all_goals whnf
    conv in (occs := *) fBody _ => all_goals whnf
    conv in (occs := *) fScope _ => all_goals whnf
    exact same _)
  exact fun K _ => K
noncomputable def sh.o_62 : Params → Obj := fun P =>
  { cls := PySem.Value.type "code", data := PySem.Data.fields #[PySem.Value.str (PySem.Str.ofString "_div2n1n") 324, PySem.Value.str (PySem.Str.ofString "_div2n1n") 325, PySem.Value.str (PySem.Str.ofString "/claim/cut.py") 326, PySem.Value.int 58 0, PySem.Value.int 3 0, PySem.Value.int 0 0, PySem.Value.int 0 0, PySem.Value.int 3 0, PySem.Value.ref 54, PySem.Value.bool Bool.true, PySem.Value.int 276 0, PySem.Value.ref 55, PySem.Value.none, PySem.Value.ref 56, PySem.Value.ref 57, PySem.Value.ref 58, PySem.Value.int 338 0, PySem.Value.int 58 0, PySem.Value.str (PySem.Str.ofString "/claim/cut.py") 339] }
noncomputable def sh.o_63 : Params → Obj := by
  refine (?f : (K : Params → Obj) → Same K (fun P => ⟨(PySem.Value.type "function"), none, .func (FuncData.mk (PySem.Str.ofString "_div2n1n") (PySem.Str.ofString "_div2n1n") (fArgs (stm 6)) (.stmts (fBody (stm 6))) (fScope (stm 6)) 3 [] (PySem.Value.none) (PySem.Value.none) (PySem.Value.none) (PySem.Value.str (PySem.Str.ofString "cpy313._pylong") 282) Option.none (PySem.Value.ref 59) (PySem.Value.none) 0), #[]⟩) → Params → Obj) _ (by
    conv in (occs := *) fArgs _ => all_goals whnf
    conv in (occs := *) fBody _ => all_goals whnf
    conv in (occs := *) fScope _ => all_goals whnf
    exact same _)
  exact fun K _ => K
noncomputable def sh.o_64 : Params → Obj := fun P =>
  { cls := PySem.Value.type "tuple", data := PySem.Data.seq #[] }
noncomputable def sh.o_65 : Params → Obj := fun P =>
  { cls := PySem.Value.none, data := PySem.Data.fields #[] }
noncomputable def sh.o_66 : Params → Obj := fun P =>
  { cls := PySem.Value.type "tuple", data := PySem.Data.seq #[PySem.Value.str (PySem.Str.ofString "a12") 344, PySem.Value.str (PySem.Str.ofString "a3") 345, PySem.Value.str (PySem.Str.ofString "b") 346, PySem.Value.str (PySem.Str.ofString "b1") 347, PySem.Value.str (PySem.Str.ofString "b2") 348, PySem.Value.str (PySem.Str.ofString "n") 349, PySem.Value.str (PySem.Str.ofString "q") 350, PySem.Value.str (PySem.Str.ofString "r") 351] }
noncomputable def sh.o_67 : Params → Obj := fun P =>
  { cls := PySem.Value.type "tuple", data := PySem.Data.seq #[] }
noncomputable def sh.o_68 : Params → Obj := by
  refine (?f : (K : Params → Obj) → Same K (fun P => ⟨(PySem.Value.none), none, .func (FuncData.mk (PySem.Str.ofString "_div3n2n") (PySem.Str.ofString "_div3n2n") (fArgs (stm 7)) (.stmts (fBody (stm 7))) (fScope (stm 7)) 0 [] (PySem.Value.none) (PySem.Value.none) (PySem.Value.none) (PySem.Value.none) Option.none (PySem.Value.none) (PySem.Value.none) 0), #[]⟩) → Params → Obj) _ (by
    conv in (occs := *) fArgs _ => all_goals whnf
    conv in (occs := *) fBody _ => all_goals whnf
    conv in (occs := *) fScope _ => all_goals whnf
    exact same _)
  exact fun K _ => K
noncomputable def sh.o_69 : Params → Obj := fun P =>
  { cls := PySem.Value.type "code", data := PySem.Data.fields #[PySem.Value.str (PySem.Str.ofString "_div3n2n") 341, PySem.Value.str (PySem.Str.ofString "_div3n2n") 342, PySem.Value.str (PySem.Str.ofString "/claim/cut.py") 343, PySem.Value.int 74 0, PySem.Value.int 6 0, PySem.Value.int 0 0, PySem.Value.int 0 0, PySem.Value.int 3 0, PySem.Value.ref 61, PySem.Value.bool Bool.true, PySem.Value.int 276 0, PySem.Value.ref 62, PySem.Value.none, PySem.Value.ref 63, PySem.Value.ref 64, PySem.Value.ref 65, PySem.Value.int 352 0, PySem.Value.int 74 0, PySem.Value.str (PySem.Str.ofString "/claim/cut.py") 353] }
noncomputable def sh.o_70 : Params → Obj := by
  refine (?f : (K : Params → Obj) → Same K (fun P => ⟨(PySem.Value.type "function"), none, .func (FuncData.mk (PySem.Str.ofString "_div3n2n") (PySem.Str.ofString "_div3n2n") (fArgs (stm 7)) (.stmts (fBody (stm 7))) (fScope (stm 7)) 3 [] (PySem.Value.none) (PySem.Value.none) (PySem.Value.none) (PySem.Value.str (PySem.Str.ofString "cpy313._pylong") 282) Option.none (PySem.Value.ref 66) (PySem.Value.none) 0), #[]⟩) → Params → Obj) _ (by
    conv in (occs := *) fArgs _ => all_goals whnf
    conv in (occs := *) fBody _ => all_goals whnf
    conv in (occs := *) fScope _ => all_goals whnf
    exact same _)
  exact fun K _ => K
noncomputable def sh.o_71 : Params → Obj := fun P =>
  { cls := PySem.Value.type "tuple", data := PySem.Data.seq #[] }
noncomputable def sh.o_72 : Params → Obj := fun P =>
  { cls := PySem.Value.none, data := PySem.Data.fields #[] }
noncomputable def sh.o_73 : Params → Obj := fun P =>
  { cls := PySem.Value.type "tuple", data := PySem.Data.seq #[PySem.Value.str (PySem.Str.ofString "a") 358, PySem.Value.str (PySem.Str.ofString "n") 359] }
noncomputable def sh.o_74 : Params → Obj := fun P =>
  { cls := PySem.Value.type "tuple", data := PySem.Data.seq #[PySem.Value.str (PySem.Str.ofString "n") 360, PySem.Value.str (PySem.Str.ofString "a_digits") 361, PySem.Value.str (PySem.Str.ofString "inner") 362] }
noncomputable def sh.o_75 : Params → Obj := by
  refine (?f : (K : Params → Obj) → Same K (fun P => ⟨(PySem.Value.none), none, .func (FuncData.mk (PySem.Str.ofString "_int2digits") (PySem.Str.ofString "_int2digits") (fArgs (stm 8)) (.stmts (fBody (stm 8))) (fScope (stm 8)) 0 [] (PySem.Value.none) (PySem.Value.none) (PySem.Value.none) (PySem.Value.none) Option.none (PySem.Value.none) (PySem.Value.none) 0), #[]⟩) → Params → Obj) _ (by
    conv in (occs := *) fArgs _ => all_goals whnf
    conv in (occs := *) fBody _ => all_goals whnf
    conv in (occs := *) fScope _ => all_goals whnf
    exact same _)
  exact fun K _ => K
noncomputable def sh.o_76 : Params → Obj := fun P =>
  { cls := PySem.Value.type "code", data := PySem.Data.fields #[PySem.Value.str (PySem.Str.ofString "_int2digits") 355, PySem.Value.str (PySem.Str.ofString "_int2digits") 356, PySem.Value.str (PySem.Str.ofString "/claim/cut.py") 357, PySem.Value.int 84 0, PySem.Value.int 2 0, PySem.Value.int 0 0, PySem.Value.int 0 0, PySem.Value.int 3 0, PySem.Value.ref 68, PySem.Value.bool Bool.true, PySem.Value.int 276 0, PySem.Value.ref 69, PySem.Value.none, PySem.Value.ref 70, PySem.Value.ref 71, PySem.Value.ref 72, PySem.Value.int 363 0, PySem.Value.int 84 0, PySem.Value.str (PySem.Str.ofString "/claim/cut.py") 364] }
noncomputable def sh.o_77 : Params → Obj := by
  refine (?f : (K : Params → Obj) → Same K (fun P => ⟨(PySem.Value.type "function"), none, .func (FuncData.mk (PySem.Str.ofString "_int2digits") (PySem.Str.ofString "_int2digits") (fArgs (stm 8)) (.stmts (fBody (stm 8))) (fScope (stm 8)) 3 [] (PySem.Value.none) (PySem.Value.none) (PySem.Value.none) (PySem.Value.str (PySem.Str.ofString "cpy313._pylong") 282) Option.none (PySem.Value.ref 73) (PySem.Value.none) 0), #[]⟩) → Params → Obj) _ (by
    conv in (occs := *) fArgs _ => all_goals whnf
    conv in (occs := *) fBody _ => all_goals whnf
    conv in (occs := *) fScope _ => all_goals whnf
    exact same _)
  exact fun K _ => K
noncomputable def sh.o_78 : Params → Obj := fun P =>
  { cls := PySem.Value.type "tuple", data := PySem.Data.seq #[] }
noncomputable def sh.o_79 : Params → Obj := fun P =>
  { cls := PySem.Value.none, data := PySem.Data.fields #[] }
noncomputable def sh.o_80 : Params → Obj := fun P =>
  { cls := PySem.Value.type "tuple", data := PySem.Data.seq #[PySem.Value.str (PySem.Str.ofString "digits") 369, PySem.Value.str (PySem.Str.ofString "n") 370] }
noncomputable def sh.o_81 : Params → Obj := fun P =>
  { cls := PySem.Value.type "tuple", data := PySem.Data.seq #[PySem.Value.str (PySem.Str.ofString "digits") 371, PySem.Value.str (PySem.Str.ofString "n") 372, PySem.Value.str (PySem.Str.ofString "inner") 373] }
noncomputable def sh.o_82 : Params → Obj := by
  refine (?f : (K : Params → Obj) → Same K (fun P => ⟨(PySem.Value.none), none, .func (FuncData.mk (PySem.Str.ofString "_digits2int") (PySem.Str.ofString "_digits2int") (fArgs (stm 9)) (.stmts (fBody (stm 9))) (fScope (stm 9)) 0 [] (PySem.Value.none) (PySem.Value.none) (PySem.Value.none) (PySem.Value.none) Option.none (PySem.Value.none) (PySem.Value.none) 0), #[]⟩) → Params → Obj) _ (by
    conv in (occs := *) fArgs _ => all_goals whnf
    conv in (occs := *) fBody _ => all_goals whnf
    conv in (occs := *) fScope _ => all_goals whnf
    exact same _)
  exact fun K _ => K
noncomputable def sh.o_83 : Params → Obj := fun P =>
  { cls := PySem.Value.type "code", data := PySem.Data.fields #[PySem.Value.str (PySem.Str.ofString "_digits2int") 366, PySem.Value.str (PySem.Str.ofString "_digits2int") 367, PySem.Value.str (PySem.Str.ofString "/claim/cut.py") 368, PySem.Value.int 100 0, PySem.Value.int 2 0, PySem.Value.int 0 0, PySem.Value.int 0 0, PySem.Value.int 3 0, PySem.Value.ref 75, PySem.Value.bool Bool.true, PySem.Value.int 276 0, PySem.Value.ref 76, PySem.Value.none, PySem.Value.ref 77, PySem.Value.ref 78, PySem.Value.ref 79, PySem.Value.int 374 0, PySem.Value.int 100 0, PySem.Value.str (PySem.Str.ofString "/claim/cut.py") 375] }
noncomputable def sh.o_84 : Params → Obj := by
  refine (?f : (K : Params → Obj) → Same K (fun P => ⟨(PySem.Value.type "function"), none, .func (FuncData.mk (PySem.Str.ofString "_digits2int") (PySem.Str.ofString "_digits2int") (fArgs (stm 9)) (.stmts (fBody (stm 9))) (fScope (stm 9)) 3 [] (PySem.Value.none) (PySem.Value.none) (PySem.Value.none) (PySem.Value.str (PySem.Str.ofString "cpy313._pylong") 282) Option.none (PySem.Value.ref 80) (PySem.Value.none) 0), #[]⟩) → Params → Obj) _ (by
    conv in (occs := *) fArgs _ => all_goals whnf
    conv in (occs := *) fBody _ => all_goals whnf
    conv in (occs := *) fScope _ => all_goals whnf
    exact same _)
  exact fun K _ => K
noncomputable def sh.o_85 : Params → Obj := fun P =>
  { cls := PySem.Value.type "tuple", data := PySem.Data.seq #[] }
noncomputable def sh.o_86 : Params → Obj := fun P =>
  { cls := PySem.Value.none, data := PySem.Data.fields #[] }
noncomputable def sh.o_87 : Params → Obj := fun P =>
  { cls := PySem.Value.type "tuple", data := PySem.Data.seq #[PySem.Value.str (PySem.Str.ofString "a") 380, PySem.Value.str (PySem.Str.ofString "b") 381, PySem.Value.str (PySem.Str.ofString "n") 382, PySem.Value.str (PySem.Str.ofString "a_digits") 383, PySem.Value.str (PySem.Str.ofString "r") 384, PySem.Value.str (PySem.Str.ofString "q_digits") 385, PySem.Value.str (PySem.Str.ofString "a_digit") 386, PySem.Value.str (PySem.Str.ofString "q_digit") 387, PySem.Value.str (PySem.Str.ofString "q") 388] }
noncomputable def sh.o_88 : Params → Obj := fun P =>
  { cls := PySem.Value.type "tuple", data := PySem.Data.seq #[] }
noncomputable def sh.o_89 : Params → Obj := by
  refine (?f : (K : Params → Obj) → Same K (fun P => ⟨(PySem.Value.none), none, .func (FuncData.mk (PySem.Str.ofString "_divmod_pos") (PySem.Str.ofString "_divmod_pos") (fArgs (stm 10)) (.stmts (fBody (stm 10))) (fScope (stm 10)) 0 [] (PySem.Value.none) (PySem.Value.none) (PySem.Value.none) (PySem.Value.none) Option.none (PySem.Value.none) (PySem.Value.none) 0), #[]⟩) → Params → Obj) _ (by
    conv in (occs := *) fArgs _ => all_goals whnf
    conv in (occs := *) fBody _ => all_goals whnf
    conv in (occs := *) fScope _ => all_goals whnf
    exact same _)
  exact fun K _ => K
noncomputable def sh.o_90 : Params → Obj := fun P =>
  { cls := PySem.Value.type "code", data := PySem.Data.fields #[PySem.Value.str (PySem.Str.ofString "_divmod_pos") 377, PySem.Value.str (PySem.Str.ofString "_divmod_pos") 378, PySem.Value.str (PySem.Str.ofString "/claim/cut.py") 379, PySem.Value.int 109 0, PySem.Value.int 2 0, PySem.Value.int 0 0, PySem.Value.int 0 0, PySem.Value.int 3 0, PySem.Value.ref 82, PySem.Value.bool Bool.true, PySem.Value.int 276 0, PySem.Value.ref 83, PySem.Value.none, PySem.Value.ref 84, PySem.Value.ref 85, PySem.Value.ref 86, PySem.Value.int 389 0, PySem.Value.int 109 0, PySem.Value.str (PySem.Str.ofString "/claim/cut.py") 390] }
noncomputable def sh.o_91 : Params → Obj := by
  refine (?f : (K : Params → Obj) → Same K (fun P => ⟨(PySem.Value.type "function"), none, .func (FuncData.mk (PySem.Str.ofString "_divmod_pos") (PySem.Str.ofString "_divmod_pos") (fArgs (stm 10)) (.stmts (fBody (stm 10))) (fScope (stm 10)) 3 [] (PySem.Value.none) (PySem.Value.none) (PySem.Value.none) (PySem.Value.str (PySem.Str.ofString "cpy313._pylong") 282) Option.none (PySem.Value.ref 87) (PySem.Value.none) 0), #[]⟩) → Params → Obj) _ (by
    conv in (occs := *) fArgs _ => all_goals whnf
    conv in (occs := *) fBody _ => all_goals whnf
    conv in (occs := *) fScope _ => all_goals whnf
    exact same _)
  exact fun K _ => K
noncomputable def sh.o_92 : Params → Obj := fun P =>
  { cls := PySem.Value.type "tuple", data := PySem.Data.seq #[] }
noncomputable def sh.o_93 : Params → Obj := fun P =>
  { cls := PySem.Value.none, data := PySem.Data.fields #[] }
noncomputable def sh.o_94 : Params → Obj := fun P =>
  { cls := PySem.Value.type "tuple", data := PySem.Data.seq #[PySem.Value.str (PySem.Str.ofString "a") 395, PySem.Value.str (PySem.Str.ofString "b") 396, PySem.Value.str (PySem.Str.ofString "q") 397, PySem.Value.str (PySem.Str.ofString "r") 398] }
noncomputable def sh.o_95 : Params → Obj := fun P =>
  { cls := PySem.Value.type "tuple", data := PySem.Data.seq #[] }
noncomputable def sh.o_96 : Params → Obj := by
  refine (?f : (K : Params → Obj) → Same K (fun P => ⟨(PySem.Value.none), none, .func (FuncData.mk (PySem.Str.ofString "int_divmod") (PySem.Str.ofString "int_divmod") (fArgs (stm 11)) (.stmts (fBody (stm 11))) (fScope (stm 11)) 0 [] (PySem.Value.none) (PySem.Value.none) (PySem.Value.none) (PySem.Value.none) Option.none (PySem.Value.none) (PySem.Value.none) 0), #[]⟩) → Params → Obj) _ (by
    conv in (occs := *) fArgs _ => all_goals whnf
    conv in (occs := *) fBody _ => all_goals whnf
    conv in (occs := *) fScope _ => all_goals whnf
    exact same _)
  exact fun K _ => K
noncomputable def sh.o_97 : Params → Obj := fun P =>
  { cls := PySem.Value.type "code", data := PySem.Data.fields #[PySem.Value.str (PySem.Str.ofString "int_divmod") 392, PySem.Value.str (PySem.Str.ofString "int_divmod") 393, PySem.Value.str (PySem.Str.ofString "/claim/cut.py") 394, PySem.Value.int 120 0, PySem.Value.int 2 0, PySem.Value.int 0 0, PySem.Value.int 0 0, PySem.Value.int 3 0, PySem.Value.ref 89, PySem.Value.bool Bool.true, PySem.Value.int 276 0, PySem.Value.ref 90, PySem.Value.none, PySem.Value.ref 91, PySem.Value.ref 92, PySem.Value.ref 93, PySem.Value.int 399 0, PySem.Value.int 120 0, PySem.Value.str (PySem.Str.ofString "/claim/cut.py") 400] }
noncomputable def sh.o_98 : Params → Obj := by
  refine (?f : (K : Params → Obj) → Same K (fun P => ⟨(PySem.Value.type "function"), none, .func (FuncData.mk (PySem.Str.ofString "int_divmod") (PySem.Str.ofString "int_divmod") (fArgs (stm 11)) (.stmts (fBody (stm 11))) (fScope (stm 11)) 3 [] (PySem.Value.none) (PySem.Value.none) (PySem.Value.none) (PySem.Value.str (PySem.Str.ofString "cpy313._pylong") 282) Option.none (PySem.Value.ref 94) (PySem.Value.none) 0), #[]⟩) → Params → Obj) _ (by
    conv in (occs := *) fArgs _ => all_goals whnf
    conv in (occs := *) fBody _ => all_goals whnf
    conv in (occs := *) fScope _ => all_goals whnf
    exact same _)
  exact fun K _ => K
noncomputable def sh.o_99 : Params → Obj := fun P =>
  { cls := PySem.Value.type "tuple", data := PySem.Data.seq #[PySem.Value.int 0 404, PySem.Value.none] }
noncomputable def sh.o_100 : Params → Obj := fun P =>
  { cls := PySem.Value.type "dict", data := PySem.Data.dict #[{ hash := PySem.PyData.keyHash P (PySem.Str.ofString "key"), key := PySem.Value.str (PySem.Str.ofString "key") 405, val := PySem.Value.none }] 1 }
noncomputable def sh.o_101 : Params → Obj := fun P =>
  { cls := PySem.Value.type "tuple", data := PySem.Data.seq #[] }
noncomputable def sh.o_102 : Params → Obj := fun P =>
  { cls := PySem.Value.none, data := PySem.Data.fields #[] }
noncomputable def sh.o_103 : Params → Obj := fun P =>
  { cls := PySem.Value.type "tuple", data := PySem.Data.seq #[PySem.Value.str (PySem.Str.ofString "a") 409, PySem.Value.str (PySem.Str.ofString "x") 410, PySem.Value.str (PySem.Str.ofString "lo") 411, PySem.Value.str (PySem.Str.ofString "hi") 412, PySem.Value.str (PySem.Str.ofString "key") 413] }
noncomputable def sh.o_104 : Params → Obj := fun P =>
  { cls := PySem.Value.type "tuple", data := PySem.Data.seq #[] }
noncomputable def sh.o_105 : Params → Obj := by
  refine (?f : (K : Params → Obj) → Same K (fun P => ⟨(PySem.Value.none), none, .func (FuncData.mk (PySem.Str.ofString "insort_left") (PySem.Str.ofString "insort_left") (fArgs (stm 13)) (.stmts (fBody (stm 13))) (fScope (stm 13)) 0 [] (PySem.Value.none) (PySem.Value.none) (PySem.Value.none) (PySem.Value.none) Option.none (PySem.Value.none) (PySem.Value.none) 0), #[]⟩) → Params → Obj) _ (by
    conv in (occs := *) fArgs _ => all_goals whnf
    conv in (occs := *) fBody _ => all_goals whnf
    conv in (occs := *) fScope _ => all_goals whnf
    exact same _)
  exact fun K _ => K
noncomputable def sh.o_106 : Params → Obj := fun P =>
  { cls := PySem.Value.type "code", data := PySem.Data.fields #[PySem.Value.str (PySem.Str.ofString "insort_left") 406, PySem.Value.str (PySem.Str.ofString "insort_left") 407, PySem.Value.str (PySem.Str.ofString "/claim/cut.py") 408, PySem.Value.int 132 0, PySem.Value.int 4 0, PySem.Value.int 0 0, PySem.Value.int 1 0, PySem.Value.int 3 0, PySem.Value.ref 98, PySem.Value.bool Bool.true, PySem.Value.int 276 0, PySem.Value.ref 99, PySem.Value.none, PySem.Value.ref 100, PySem.Value.ref 101, PySem.Value.ref 102, PySem.Value.int 414 0, PySem.Value.int 132 0, PySem.Value.str (PySem.Str.ofString "/claim/cut.py") 415] }
noncomputable def sh.o_107 : Params → Obj := by
  refine (?f : (K : Params → Obj) → Same K (fun P => ⟨(PySem.Value.type "function"), none, .func (FuncData.mk (PySem.Str.ofString "insort_left") (PySem.Str.ofString "insort_left") (fArgs (stm 13)) (.stmts (fBody (stm 13))) (fScope (stm 13)) 3 [] (PySem.Value.ref 96) (PySem.Value.ref 97) (PySem.Value.none) (PySem.Value.str (PySem.Str.ofString "cpy313.bisect") 402) Option.none (PySem.Value.ref 103) (PySem.Value.none) 0), #[]⟩) → Params → Obj) _ (by
    conv in (occs := *) fArgs _ => all_goals whnf
    conv in (occs := *) fBody _ => all_goals whnf
    conv in (occs := *) fScope _ => all_goals whnf
    exact same _)
  exact fun K _ => K
noncomputable def sh.o_111 : Params → Obj := fun P =>
  { cls := PySem.Value.type "tuple", data := PySem.Data.seq #[PySem.Value.int 0 417, PySem.Value.none] }
noncomputable def sh.o_112 : Params → Obj := fun P =>
  { cls := PySem.Value.type "dict", data := PySem.Data.dict #[{ hash := PySem.PyData.keyHash P (PySem.Str.ofString "key"), key := PySem.Value.str (PySem.Str.ofString "key") 418, val := PySem.Value.none }] 1 }
noncomputable def sh.o_113 : Params → Obj := fun P =>
  { cls := PySem.Value.type "tuple", data := PySem.Data.seq #[] }
noncomputable def sh.o_114 : Params → Obj := fun P =>
  { cls := PySem.Value.none, data := PySem.Data.fields #[] }
noncomputable def sh.o_115 : Params → Obj := fun P =>
  { cls := PySem.Value.type "tuple", data := PySem.Data.seq #[PySem.Value.str (PySem.Str.ofString "a") 422, PySem.Value.str (PySem.Str.ofString "x") 423, PySem.Value.str (PySem.Str.ofString "lo") 424, PySem.Value.str (PySem.Str.ofString "hi") 425, PySem.Value.str (PySem.Str.ofString "key") 426, PySem.Value.str (PySem.Str.ofString "mid") 427] }
noncomputable def sh.o_116 : Params → Obj := fun P =>
  { cls := PySem.Value.type "tuple", data := PySem.Data.seq #[] }
noncomputable def sh.o_117 : Params → Obj := by
  refine (?f : (K : Params → Obj) → Same K (fun P => ⟨(PySem.Value.none), none, .func (FuncData.mk (PySem.Str.ofString "bisect_left") (PySem.Str.ofString "bisect_left") (fArgs (stm 14)) (.stmts (fBody (stm 14))) (fScope (stm 14)) 0 [] (PySem.Value.none) (PySem.Value.none) (PySem.Value.none) (PySem.Value.none) Option.none (PySem.Value.none) (PySem.Value.none) 0), #[]⟩) → Params → Obj) _ (by
    conv in (occs := *) fArgs _ => all_goals whnf
    conv in (occs := *) fBody _ => all_goals whnf
    conv in (occs := *) fScope _ => all_goals whnf
    exact same _)
  exact fun K _ => K
noncomputable def sh.o_118 : Params → Obj := fun P =>
  { cls := PySem.Value.type "code", data := PySem.Data.fields #[PySem.Value.str (PySem.Str.ofString "bisect_left") 419, PySem.Value.str (PySem.Str.ofString "bisect_left") 420, PySem.Value.str (PySem.Str.ofString "/claim/cut.py") 421, PySem.Value.int 138 0, PySem.Value.int 4 0, PySem.Value.int 0 0, PySem.Value.int 1 0, PySem.Value.int 3 0, PySem.Value.ref 107, PySem.Value.bool Bool.true, PySem.Value.int 276 0, PySem.Value.ref 108, PySem.Value.none, PySem.Value.ref 109, PySem.Value.ref 110, PySem.Value.ref 111, PySem.Value.int 428 0, PySem.Value.int 138 0, PySem.Value.str (PySem.Str.ofString "/claim/cut.py") 429] }
noncomputable def sh.o_119 : Params → Obj := by
  refine (?f : (K : Params → Obj) → Same K (fun P => ⟨(PySem.Value.type "function"), none, .func (FuncData.mk (PySem.Str.ofString "bisect_left") (PySem.Str.ofString "bisect_left") (fArgs (stm 14)) (.stmts (fBody (stm 14))) (fScope (stm 14)) 3 [] (PySem.Value.ref 105) (PySem.Value.ref 106) (PySem.Value.none) (PySem.Value.str (PySem.Str.ofString "cpy313.bisect") 402) Option.none (PySem.Value.ref 112) (PySem.Value.none) 0), #[]⟩) → Params → Obj) _ (by
    conv in (occs := *) fArgs _ => all_goals whnf
    conv in (occs := *) fBody _ => all_goals whnf
    conv in (occs := *) fScope _ => all_goals whnf
    exact same _)
  exact fun K _ => K
noncomputable def sh.o_120 : Params → Obj := fun P =>
  { cls := PySem.Value.type "list", data := PySem.Data.seq #[PySem.Value.int 14 436, PySem.Value.int 4 437, PySem.Value.int 0 438, PySem.Value.int 1 439, PySem.Value.int 1 440, PySem.Value.int 6 441, PySem.Value.int 1 442, PySem.Value.int 16 443, PySem.Value.int 46 444, PySem.Value.int 1 445] }
noncomputable def sh.o_121 : Params → Obj := fun P =>
  { cls := PySem.Value.type "dict", data := PySem.Data.dict #[] }
noncomputable def sh.o_122 : Params → Obj := fun P =>
  { cls := PySem.Value.type "tuple", data := PySem.Data.seq #[PySem.Value.none] }
noncomputable def sh.o_123 : Params → Obj := fun P =>
  { cls := PySem.Value.type "tuple", data := PySem.Data.seq #[PySem.Value.int 14 0, PySem.Value.int 4 0, PySem.Value.int 0 0, PySem.Value.int 1 0, PySem.Value.int 1 0, PySem.Value.int 6 0, PySem.Value.int 1 0, PySem.Value.int 16 0, PySem.Value.int 46 0, PySem.Value.int 1 0] }
noncomputable def sh.o_124 : Params → Obj := fun P =>
  { cls := PySem.Value.type "re.Pattern", data := PySem.Data.fields #[PySem.Value.str (PySem.Str.ofString "(?m)^\\.") 434, PySem.Value.int 40 447, PySem.Value.int 0 0, PySem.Value.none, PySem.Value.none, PySem.Value.ref 117, PySem.Value.int 0 0] }
noncomputable def sh.o_125 : Params → Obj := fun P =>
  { cls := PySem.Value.type "list", data := PySem.Data.seq #[PySem.Value.int 14 452, PySem.Value.int 9 453, PySem.Value.int 4 454, PySem.Value.int 1 455, PySem.Value.int 2 456, PySem.Value.int 16 457, PySem.Value.int 10 458, PySem.Value.int 16 459, PySem.Value.int 13 460, PySem.Value.int 0 461, PySem.Value.int 7 462, PySem.Value.int 7 463, PySem.Value.int 16 464, PySem.Value.int 13 465, PySem.Value.int 16 466, PySem.Value.int 10 467, PySem.Value.int 15 468, PySem.Value.int 18 469, PySem.Value.int 5 470, PySem.Value.int 16 471, PySem.Value.int 10 472, PySem.Value.int 15 473, PySem.Value.int 13 474, PySem.Value.int 11 475, PySem.Value.int 16 476, PySem.Value.int 13 477, PySem.Value.int 5 478, PySem.Value.int 5 479, PySem.Value.int 0 480, PySem.Value.int 16 481, PySem.Value.int 10 482, PySem.Value.int 1 483, PySem.Value.int 15 484, PySem.Value.int 2 485, PySem.Value.int 0 486, PySem.Value.int 1 487] }
noncomputable def sh.o_126 : Params → Obj := fun P =>
  { cls := PySem.Value.type "dict", data := PySem.Data.dict #[] }
noncomputable def sh.o_127 : Params → Obj := fun P =>
  { cls := PySem.Value.type "tuple", data := PySem.Data.seq #[PySem.Value.none] }
noncomputable def sh.o_128 : Params → Obj := fun P =>
  { cls := PySem.Value.type "tuple", data := PySem.Data.seq #[PySem.Value.int 14 0, PySem.Value.int 9 0, PySem.Value.int 4 0, PySem.Value.int 1 0, PySem.Value.int 2 0, PySem.Value.int 16 0, PySem.Value.int 10 0, PySem.Value.int 16 0, PySem.Value.int 13 0, PySem.Value.int 0 0, PySem.Value.int 7 0, PySem.Value.int 7 0, PySem.Value.int 16 0, PySem.Value.int 13 0, PySem.Value.int 16 0, PySem.Value.int 10 0, PySem.Value.int 15 0, PySem.Value.int 18 0, PySem.Value.int 5 0, PySem.Value.int 16 0, PySem.Value.int 10 0, PySem.Value.int 15 0, PySem.Value.int 13 0, PySem.Value.int 11 0, PySem.Value.int 16 0, PySem.Value.int 13 0, PySem.Value.int 5 0, PySem.Value.int 5 0, PySem.Value.int 0 0, PySem.Value.int 16 0, PySem.Value.int 10 0, PySem.Value.int 1 0, PySem.Value.int 15 0, PySem.Value.int 2 0, PySem.Value.int 0 0, PySem.Value.int 1 0] }
noncomputable def sh.o_129 : Params → Obj := fun P =>
  { cls := PySem.Value.type "re.Pattern", data := PySem.Data.fields #[PySem.Value.str (PySem.Str.ofString "(?:\\r\\n|\\n|\\r(?!\\n))") 450, PySem.Value.int 32 489, PySem.Value.int 0 0, PySem.Value.none, PySem.Value.none, PySem.Value.ref 122, PySem.Value.int 0 0] }
noncomputable def sh.o_130 : Params → Obj := fun P =>
  { cls := PySem.Value.type "tuple", data := PySem.Data.seq #[] }
noncomputable def sh.o_131 : Params → Obj := fun P =>
  { cls := PySem.Value.none, data := PySem.Data.fields #[] }
noncomputable def sh.o_132 : Params → Obj := fun P =>
  { cls := PySem.Value.type "tuple", data := PySem.Data.seq #[PySem.Value.str (PySem.Str.ofString "data") 496] }
noncomputable def sh.o_133 : Params → Obj := fun P =>
  { cls := PySem.Value.type "tuple", data := PySem.Data.seq #[] }
noncomputable def sh.o_134 : Params → Obj := by
  refine (?f : (K : Params → Obj) → Same K (fun P => ⟨(PySem.Value.none), none, .func (FuncData.mk (PySem.Str.ofString "quotedata") (PySem.Str.ofString "quotedata") (fArgs (stm 19)) (.stmts (fBody (stm 19))) (fScope (stm 19)) 0 [] (PySem.Value.none) (PySem.Value.none) (PySem.Value.none) (PySem.Value.none) Option.none (PySem.Value.none) (PySem.Value.none) 0), #[]⟩) → Params → Obj) _ (by
    conv in (occs := *) fArgs _ => all_goals whnf
    conv in (occs := *) fBody _ => all_goals whnf
    conv in (occs := *) fScope _ => all_goals whnf
    exact same _)
  exact fun K _ => K
noncomputable def sh.o_135 : Params → Obj := fun P =>
  { cls := PySem.Value.type "code", data := PySem.Data.fields #[PySem.Value.str (PySem.Str.ofString "quotedata") 493, PySem.Value.str (PySem.Str.ofString "quotedata") 494, PySem.Value.str (PySem.Str.ofString "/claim/cut.py") 495, PySem.Value.int 162 0, PySem.Value.int 1 0, PySem.Value.int 0 0, PySem.Value.int 0 0, PySem.Value.int 3 0, PySem.Value.ref 124, PySem.Value.bool Bool.true, PySem.Value.int 276 0, PySem.Value.ref 125, PySem.Value.none, PySem.Value.ref 126, PySem.Value.ref 127, PySem.Value.ref 128, PySem.Value.int 497 0, PySem.Value.int 162 0, PySem.Value.str (PySem.Str.ofString "/claim/cut.py") 498] }
noncomputable def sh.o_136 : Params → Obj := by
  refine (?f : (K : Params → Obj) → Same K (fun P => ⟨(PySem.Value.type "function"), none, .func (FuncData.mk (PySem.Str.ofString "quotedata") (PySem.Str.ofString "quotedata") (fArgs (stm 19)) (.stmts (fBody (stm 19))) (fScope (stm 19)) 3 [] (PySem.Value.none) (PySem.Value.none) (PySem.Value.none) (PySem.Value.str (PySem.Str.ofString "cpy313.smtplib") 431) Option.none (PySem.Value.ref 129) (PySem.Value.none) 0), #[]⟩) → Params → Obj) _ (by
    conv in (occs := *) fArgs _ => all_goals whnf
    conv in (occs := *) fBody _ => all_goals whnf
    conv in (occs := *) fScope _ => all_goals whnf
    exact same _)
  exact fun K _ => K
noncomputable def sh.tree_32 (P : Params) : BT := (.node (sh.o_1 P) (.node (sh.o_2 P) (.node (sh.o_4 P) (.node (sh.o_8 P) (.node (sh.o_16 P) (.node (sh.o_32 P) .nil .nil) .nil) (.node (sh.o_24 P) .nil .nil)) (.node (sh.o_12 P) (.node (sh.o_20 P) .nil .nil) (.node (sh.o_28 P) .nil .nil))) (.node (sh.o_6 P) (.node (sh.o_10 P) (.node (sh.o_18 P) .nil .nil) (.node (sh.o_26 P) .nil .nil)) (.node (sh.o_14 P) (.node (sh.o_22 P) .nil .nil) (.node (sh.o_30 P) .nil .nil)))) (.node (sh.o_3 P) (.node (sh.o_5 P) (.node (sh.o_9 P) (.node (sh.o_17 P) .nil .nil) (.node (sh.o_25 P) .nil .nil)) (.node (sh.o_13 P) (.node (sh.o_21 P) .nil .nil) (.node (sh.o_29 P) .nil .nil))) (.node (sh.o_7 P) (.node (sh.o_11 P) (.node (sh.o_19 P) .nil .nil) (.node (sh.o_27 P) .nil .nil)) (.node (sh.o_15 P) (.node (sh.o_23 P) .nil .nil) (.node (sh.o_31 P) .nil .nil)))))
noncomputable def sh.tree_136 (P : Params) : BT := (.node (sh.o_1 P) (.node (sh.o_2 P) (.node (sh.o_109 P) (.node (sh.o_8 P) (.node (sh.o_16 P) (.node (sh.o_32 P) (.node (sh.o_66 P) (.node (sh.o_133 P) .nil .nil) .nil) (.node (sh.o_98 P) .nil .nil)) (.node (sh.o_50 P) (.node (sh.o_82 P) .nil .nil) (.node (sh.o_117 P) .nil .nil))) (.node (sh.o_24 P) (.node (sh.o_42 P) (.node (sh.o_74 P) .nil .nil) (.node (sh.o_106 P) .nil .nil)) (.node (sh.o_58 P) (.node (sh.o_90 P) .nil .nil) (.node (sh.o_125 P) .nil .nil)))) (.node (sh.o_12 P) (.node (sh.o_20 P) (.node (sh.o_38 P) (.node (sh.o_70 P) .nil .nil) (.node (sh.o_102 P) .nil .nil)) (.node (sh.o_54 P) (.node (sh.o_86 P) .nil .nil) (.node (sh.o_121 P) .nil .nil))) (.node (sh.o_28 P) (.node (sh.o_46 P) (.node (sh.o_78 P) .nil .nil) (.node (sh.o_113 P) .nil .nil)) (.node (sh.o_62 P) (.node (sh.o_94 P) .nil .nil) (.node (sh.o_129 P) .nil .nil))))) (.node (sh.o_6 P) (.node (sh.o_10 P) (.node (sh.o_18 P) (.node (sh.o_36 P) (.node (sh.o_68 P) (.node (sh.o_135 P) .nil .nil) .nil) (.node (sh.o_100 P) .nil .nil)) (.node (sh.o_52 P) (.node (sh.o_84 P) .nil .nil) (.node (sh.o_119 P) .nil .nil))) (.node (sh.o_26 P) (.node (sh.o_44 P) (.node (sh.o_76 P) .nil .nil) (.node (sh.o_111 P) .nil .nil)) (.node (sh.o_60 P) (.node (sh.o_92 P) .nil .nil) (.node (sh.o_127 P) .nil .nil)))) (.node (sh.o_14 P) (.node (sh.o_22 P) (.node (sh.o_40 P) (.node (sh.o_72 P) .nil .nil) (.node (sh.o_104 P) .nil .nil)) (.node (sh.o_56 P) (.node (sh.o_88 P) .nil .nil) (.node (sh.o_123 P) .nil .nil))) (.node (sh.o_110 P) (.node (sh.o_48 P) (.node (sh.o_80 P) .nil .nil) (.node (sh.o_115 P) .nil .nil)) (.node (sh.o_64 P) (.node (sh.o_96 P) .nil .nil) (.node (sh.o_131 P) .nil .nil)))))) (.node (sh.o_3 P) (.node (sh.o_5 P) (.node (sh.o_9 P) (.node (sh.o_17 P) (.node (sh.o_35 P) (.node (sh.o_67 P) (.node (sh.o_134 P) .nil .nil) .nil) (.node (sh.o_99 P) .nil .nil)) (.node (sh.o_51 P) (.node (sh.o_83 P) .nil .nil) (.node (sh.o_118 P) .nil .nil))) (.node (sh.o_25 P) (.node (sh.o_43 P) (.node (sh.o_75 P) .nil .nil) (.node (sh.o_107 P) .nil .nil)) (.node (sh.o_59 P) (.node (sh.o_91 P) .nil .nil) (.node (sh.o_126 P) .nil .nil)))) (.node (sh.o_13 P) (.node (sh.o_21 P) (.node (sh.o_39 P) (.node (sh.o_71 P) .nil .nil) (.node (sh.o_103 P) .nil .nil)) (.node (sh.o_55 P) (.node (sh.o_87 P) .nil .nil) (.node (sh.o_122 P) .nil .nil))) (.node (sh.o_29 P) (.node (sh.o_47 P) (.node (sh.o_79 P) .nil .nil) (.node (sh.o_114 P) .nil .nil)) (.node (sh.o_63 P) (.node (sh.o_95 P) .nil .nil) (.node (sh.o_130 P) .nil .nil))))) (.node (sh.o_7 P) (.node (sh.o_11 P) (.node (sh.o_19 P) (.node (sh.o_37 P) (.node (sh.o_69 P) (.node (sh.o_136 P) .nil .nil) .nil) (.node (sh.o_101 P) .nil .nil)) (.node (sh.o_53 P) (.node (sh.o_85 P) .nil .nil) (.node (sh.o_120 P) .nil .nil))) (.node (sh.o_27 P) (.node (sh.o_45 P) (.node (sh.o_77 P) .nil .nil) (.node (sh.o_112 P) .nil .nil)) (.node (sh.o_61 P) (.node (sh.o_93 P) .nil .nil) (.node (sh.o_128 P) .nil .nil)))) (.node (sh.o_15 P) (.node (sh.o_23 P) (.node (sh.o_41 P) (.node (sh.o_73 P) .nil .nil) (.node (sh.o_105 P) .nil .nil)) (.node (sh.o_57 P) (.node (sh.o_89 P) .nil .nil) (.node (sh.o_124 P) .nil .nil))) (.node (sh.o_31 P) (.node (sh.o_49 P) (.node (sh.o_81 P) .nil .nil) (.node (sh.o_116 P) .nil .nil)) (.node (sh.o_65 P) (.node (sh.o_97 P) .nil .nil) (.node (sh.o_132 P) .nil .nil)))))))
noncomputable def sh.env_1 : Env := { scope := PySem.Challenge.pw_sn0092_01.main.scope, locals := mainNs, globals := mainNs, cells := [], code := Value.ref 30, frame := some 31 }
end Mine
end
-- part Dp1
section
theorem Mine.offDp1 : True := by
  w_top off
  k_with_none
  trivial
open PySem PySem.W PyProof.Rows PySem.Calls
namespace Mine
set_option maxRecDepth 100000
set_option linter.unusedVariables false

/-- a tree that the top's run goes through, in at most B steps -/
noncomputable def RunB (w : World) (B : Nat) {α : Type} (m : Sem α) (s : Shared) (q : Pos) (a : α) (s' : Shared) (q' : Pos) : Prop :=
  ∃ n, n ≤ B ∧ ∀ (K : α → Sem PySem.Fin) (H : Value → Sem PySem.Fin) (gd : Bool → Bool) (lv : List Value → List Value) (c : Code) (F : PySem.Frame),
    segGo treeTable PySem.Challenge.pw_sn0092_01 w 28 (some (.ref 6)) 1 n s ⟨m.wrap K H gd lv, c, q, [F]⟩ = some (s', ⟨K a, c, q', [F]⟩)

theorem segGo_trans {tb : String → Option Builtin} {p : Program} {w : World} {n₀ : Nat} {ann : Option Value} {b : Nat} : ∀ {n k : Nat} {s s' : Shared} {t t' : Thread} {r : Shared × Thread}, segGo tb p w n₀ ann b n s t = some (s', t') →
    segGo tb p w n₀ ann b k s' t' = some r → segGo tb p w n₀ ann b (n + k) s t = some r
  | 0, k, s, s', t, t', r, h, e => by
    obtain ⟨rfl, rfl⟩ : s = s' ∧ t = t' := by simpa [segGo] using h
    rw [Nat.zero_add]; exact e
  | n + 1, k, s, s', t, t', r, h, e => by
    rw [show n + 1 + k = n + k + 1 by omega]
    unfold segGo at h ⊢
    cases he : endAt b t with
    | some f => rw [he] at h; cases h
    | none =>
      rw [he] at h
      dsimp only at h ⊢
      cases hk : stepOk n₀ ann t with
      | false => rw [hk] at h; cases h
      | true =>
        rw [hk] at h
        dsimp only at h ⊢
        cases hs : step (denote tb) p w s t with
        | halt o s2 => rw [hs] at h; cases h
        | go s2 t2 => rw [hs] at h; exact segGo_trans h e

section
variable {w : World} {α β : Type} {s s1 s2 : Shared} {q q1 q2 : Pos} {A B : Nat}

theorem RunB.pure {a : α} : RunB w 0 (pure a) s q a s q := ⟨0, Nat.le_refl _, fun _ _ _ _ _ _ => rfl⟩
theorem RunB.le {m : Sem α} {a : α} (h : RunB w A m s q a s1 q1) (hb : A ≤ B) : RunB w B m s q a s1 q1 := let ⟨n, x, y⟩ := h; ⟨n, Nat.le_trans x hb, y⟩
theorem RunB.bind {m : Sem α} {f : α → Sem β} {a : α} {b : β} (h : RunB w A m s q a s1 q1) (h' : RunB w B (f a) s1 q1 b s2 q2) : RunB w (A + B) (m >>= f) s q b s2 q2 := by
  obtain ⟨n, x, y⟩ := h
  obtain ⟨n', x', y'⟩ := h'
  refine ⟨n + n', by omega, fun K H gd lv c F => ?_⟩
  rw [Sem.bind_eq_wrap', Sem.wrap_wrap]
  exact segGo_trans (y _ _ _ _ c F) (y' _ _ _ _ c F)
theorem RunB.keep {m : Sem α} {a : α} {vs : List Value} (h : RunB w A m s q a s1 q1) : RunB w A (m.keep vs) s q a s1 q1 := by
  obtain ⟨n, x, y⟩ := h
  refine ⟨n, x, fun K H gd lv c F => ?_⟩
  rw [Sem.keep_eq_wrap, Sem.wrap_wrap]
  exact y _ _ _ _ c F
theorem RunB.holding {m : Sem α} {a : α} {vs : List Value} (h : RunB w A m s q a s1 q1) : RunB w A (holding vs m) s q a s1 q1 := by
  unfold PySem.holding
  split
  · exact h
  · exact h.keep
theorem RunB.onRaise {m : Sem α} {a : α} {f : Value → Sem Unit} (h : RunB w A m s q a s1 q1) : RunB w A (m.onRaise f) s q a s1 q1 := by
  obtain ⟨n, x, y⟩ := h
  refine ⟨n, x, fun K H gd lv c F => ?_⟩
  rw [Sem.onRaise_eq_wrap, Sem.wrap_wrap]
  exact y _ _ _ _ c F
theorem RunB.rule {tag : String} : RunB w 1 (rule tag) s q () s q := ⟨1, Nat.le_refl _, fun _ _ _ _ _ _ => rfl⟩
theorem RunB.standAt {p : Pos} : RunB w 1 (standAt p) s q () s p := ⟨1, Nat.le_refl _, fun _ _ _ _ _ _ => rfl⟩
theorem RunB.fresh : RunB w 1 fresh s q s.toks { s with toks := s.toks + 1 } q := ⟨1, Nat.le_refl _, fun _ _ _ _ _ _ => rfl⟩
theorem RunB.mkInt {i : Int} : RunB w 1 (mkInt i) s q (.int i s.toks) { s with toks := s.toks + 1 } q := ⟨1, Nat.le_refl _, fun _ _ _ _ _ _ => rfl⟩
theorem RunB.mkText {x : Str} : RunB w 1 (mkText x) s q (.str x s.toks) { s with toks := s.toks + 1 } q := ⟨1, Nat.le_refl _, fun _ _ _ _ _ _ => rfl⟩
theorem RunB.alloc {o : Obj} : RunB w 1 (alloc o) s q s.heap.objs.size { s with heap := s.heap.push o } q := ⟨1, Nat.le_refl _, fun _ _ _ _ _ _ => rfl⟩
theorem RunB.load {a : Addr} {part : Option Value} {o : Obj} (h : s.heap.get? a = some o) : RunB w 1 (loadPart a part) s q o s q := by
  refine ⟨1, Nat.le_refl _, fun K H gd lv c F => ?_⟩
  show (match step (denote treeTable) _ w s ⟨.load a part fun x => K x, c, q, [F]⟩ with | .go s' t' => segGo _ _ w _ _ _ 0 s' t' | .halt _ _ => none) = _
  simp only [step, h]
  rfl
theorem RunB.update {a : Addr} {part : Option Value} {f : Obj → Obj} {o : Obj} (h : s.heap.get? a = some o) (ha : 28 ≤ a) : RunB w 1 (updatePart a part f) s q () { s with heap := s.heap.update a f } q := by
  refine ⟨1, Nat.le_refl _, fun K H gd lv c F => ?_⟩
  have hk : stepOk 28 (some (.ref 6)) ⟨.update a part f fun x => K x, c, q, [F]⟩ = true := by
    have : Nat.ble 28 a = true := Nat.ble_eq_true_of_le ha
    show (_ && (Nat.ble 28 a || _ || _ || _)) = true
    rw [this]; rfl
  show (match stepOk 28 (some (.ref 6)) ⟨.update a part f fun x => K x, c, q, [F]⟩ with | false => none | true => match step (denote treeTable) _ w s ⟨.update a part f fun x => K x, c, q, [F]⟩ with | .go s' t' => segGo _ _ w _ _ _ 0 s' t' | .halt _ _ => none) = _
  rw [hk]
  have hi : (s.heap.get? a).isSome = true := by rw [h]; rfl
  simp only [step, hi, if_true]
  rfl
end
end Mine
end
-- part Dp2
section
theorem Mine.offDp2 : True := by
  w_top off
  k_with_none
  trivial
open PySem PySem.W PyProof.Rows PySem.Calls
namespace Mine
set_option maxRecDepth 100000
set_option linter.unusedVariables false

noncomputable def hv (i : Int) : Int := if ((if i < 0 then -(((i.natAbs : Int) % ((2 ^ 61 - 1 : Nat) : Int))) else (i.natAbs : Int) % ((2 ^ 61 - 1 : Nat) : Int)) == -1) = true then -2 else if i < 0 then -(((i.natAbs : Int) % ((2 ^ 61 - 1 : Nat) : Int))) else (i.natAbs : Int) % ((2 ^ 61 - 1 : Nat) : Int)
theorem hv_of {i : Int} (h0 : 0 ≤ i) (h1 : i < 2 ^ 60) : hv i = i := by
  unfold hv
  have e : ((2 ^ 61 - 1 : Nat) : Int) = 2305843009213693951 := by decide
  have e2 : (2 : Int) ^ 60 = 1152921504606846976 := by decide
  rw [e2] at h1
  have h2 : (i.natAbs : Int) % ((2 ^ 61 - 1 : Nat) : Int) = i := by rw [e]; omega
  rw [if_neg (show ¬ i < 0 by omega), h2, if_neg]
  simp; omega

section
variable {w : World} {s : Shared} {q : Pos} {i : Int} {t : Tok}
theorem run_hcall (w : World) {d : Sem Value} : RunB w 5 (callSpecialIfBoundUnlessNone? (.int i t) "__hash__" d) s q (some (.int (hv i) s.toks)) { s with toks := s.toks + 1 } q :=
  byRow2 "special-get-raises" (P := fun w => RunB w 5 (callSpecialIfBoundUnlessNone? (.int i t) "__hash__" d) s q (some (.int (hv i) s.toks)) { s with toks := s.toks + 1 } q)
    (fun w => ⟨5, Nat.le_refl _, fun K H gd lv c F => by kernel_rfl⟩) (fun w => ⟨5, Nat.le_refl _, fun K H gd lv c F => by kernel_rfl⟩) w
theorem hash_tree (i : Int) (t : Tok) : pyHash (.int i t) = (callSpecialIfBoundUnlessNone? (.int i t) "__hash__" (do rule "hash.unhashable"; raiseError "TypeError" s!"unhashable type: '{← typeNameOf (.int i t)}'") >>= fun r => match r with
  | some (.int i _) => pyHashByItsType.reduced i
  | some (.bool b) => pure (if b then 1 else 0)
  | some (.ref a) => do
    match (← load a).data with
    | .prim (.int i _) =>
      rule "hash.int-subclass"
      let h ← pyHashByItsType.reduced i
      point
      pure h
    | _ => raiseError "TypeError" "__hash__ method should return an integer"
  | some r => do notAStandIn r; raiseError "TypeError" "__hash__ method should return an integer"
  | none => do raiseError "TypeError" s!"unhashable type: '{← typeNameOf (.int i t)}'") := by kernel_rfl
theorem run_hash (w : World) (h0 : 0 ≤ i) (h1 : i < 2 ^ 60) : RunB w 5 (pyHash (.int i t)) s q i { s with toks := s.toks + 1 } q := by
  rw [hash_tree i t]
  refine (run_hcall w).bind (B := 0) ?_
  rw [hv_of h0 h1]
  have e2 : (2 : Int) ^ 60 = 1152921504606846976 := by decide
  rw [e2] at h1
  show RunB w 0 (pyHashByItsType.reduced i) _ _ _ _ _
  unfold pyHashByItsType.reduced
  have e3 : (2 : Int) ^ 63 = 9223372036854775808 := by decide
  rw [if_pos (by rw [e3]; simp; omega), if_neg (by simp; omega)]
  exact RunB.pure
end
end Mine
end
-- part Dp3
section
theorem Mine.offDp3 : True := by
  w_top off
  k_with_none
  trivial
open PySem PySem.W PyProof.Rows PySem.Calls
namespace Mine
set_option maxRecDepth 100000
set_option linter.unusedVariables false

noncomputable abbrev dO (es : List DictEntry) : Obj := ⟨.type "dict", none, .dict es.toArray es.length, #[]⟩
theorem no_places {es : List DictEntry} {h : Int} (hne : ∀ e ∈ es, e.hash ≠ h) : placesWithHash es.toArray.size (fun i => es.toArray[i]?.map (·.hash)) h = [] := by
  unfold placesWithHash
  rw [List.filter_eq_nil_iff]
  intro i hi
  simp only [List.mem_range, List.size_toArray] at hi
  have : es.toArray[i]? = some es[i] := by simp [hi]
  dsimp only
  rw [this]
  simp only [Option.map_some, beq_iff_eq, Option.some.injEq]
  exact hne _ (List.getElem_mem hi)
section
variable {w : World} {s : Shared} {q : Pos} {i : Int} {t : Tok}

theorem run_entries {d : Addr} {es : List DictEntry} {part : Option Value} (hg : s.heap.get? d = some (dO es)) : RunB w 1 (dictEntries d part) s q es.toArray s q := by
  unfold dictEntries
  refine ((RunB.load hg).bind (B := 0) ?_)
  exact RunB.pure
theorem run_epoch {d : Addr} {es : List DictEntry} {part : Option Value} (hg : s.heap.get? d = some (dO es)) : RunB w 1 (dictEpoch d part) s q es.length s q := by
  unfold dictEpoch
  refine ((RunB.load hg).bind (B := 0) ?_)
  exact RunB.pure
theorem run_find {d : Addr} {es : List DictEntry} {h : Int} (hg : s.heap.get? d = some (dO es)) (hne : ∀ e ∈ es, e.hash ≠ h) : RunB w 1 (dictFind d (.int i t) h) s q none s q := by
  unfold dictFind
  refine RunB.holding ((run_entries hg).bind (B := 0) ?_)
  dsimp only
  rw [no_places hne]
  show RunB w 0 (dictWalkPlain d (.int i t) h es.toArray [] >>= fun r => Pure.pure r) s q none s q
  exact RunB.bind (A := 0) (B := 0) RunB.pure RunB.pure
theorem dict_size {n : Nat} (h : n ≤ 2048) : ¬ n > sizeLine + 1 := by
  have e : (2 : Nat) ^ 24 = 16777216 := by decide
  show ¬ n > 2 ^ 24 + 1
  rw [e]; omega
theorem run_push {d : Addr} {es : List DictEntry} {x : DictEntry} {part : Option Value} (hg : s.heap.get? d = some (dO es)) (hd : 28 ≤ d) (hz : es.length < 2048) :
    RunB w 3 (updateDictKeys d (·.push x) part) s q () { s with heap := s.heap.update d (Obj.mapDictKeys (·.push x)) } q := by
  unfold updateDictKeys
  refine ((RunB.load hg).bind (B := 2) ?_)
  dsimp only
  refine ((RunB.update hg hd).bind (B := 1) ?_)
  unfold lookBehind
  have hg' : (s.heap.update d (Obj.mapDictKeys (·.push x))).get? d = some (Obj.mapDictKeys (·.push x) (dO es)) := Heap.get?_update_self _ hg rfl
  refine ((RunB.load (s := { s with heap := s.heap.update d (Obj.mapDictKeys (·.push x)) }) hg').bind (B := 0) ?_)
  have hp : (Obj.mapDictKeys (·.push x) (dO es)).data.pastItsLine = none := by
    show (if (es.toArray.push x).size > sizeLine + 1 then some "dict:memory" else none) = none
    rw [if_neg (dict_size (by simp; omega))]
  rw [hp]
  exact RunB.pure
theorem run_set {d : Addr} {es : List DictEntry} {h : Int} {v : Value} (hg : s.heap.get? d = some (dO es)) (hd : 28 ≤ d) (hz : es.length < 2048) (hne : ∀ e ∈ es, e.hash ≠ h) :
    RunB w 5 (dictSetHashed d (.int i t) h v) s q () { s with heap := s.heap.update d (Obj.mapDictKeys (·.push ⟨h, .int i t, v⟩)) } q := by
  unfold dictSetHashed
  refine RunB.holding ((run_find hg hne).bind (B := 4) ?_)
  dsimp only
  exact RunB.rule.bind (B := 3) (run_push hg hd hz)
theorem upd_dO {h : Heap} {d : Addr} {es : List DictEntry} {x : DictEntry} (hg : h.get? d = some (dO es)) : (h.update d (Obj.mapDictKeys (·.push x))).get? d = some (dO (es ++ [x])) := by
  rw [Heap.get?_update_self _ hg rfl]
  simp [Obj.mapDictKeys, dO]
end
end Mine
end
-- part Dp4
section
theorem Mine.offDp4 : True := by
  w_top off
  k_with_none
  trivial
open PySem PySem.W PyProof.Rows PySem.Calls
namespace Mine
set_option maxRecDepth 100000
set_option linter.unusedVariables false

/-- a heap with more objects behind it -/
noncomputable def ap (h : Heap) (os : List Obj) : Heap := { h with objs := h.objs ++ os.toArray }
theorem ap_size (h : Heap) (os : List Obj) : (ap h os).objs.size = h.objs.size + os.length := by simp [ap]
theorem ap_push (h : Heap) (os : List Obj) (o : Obj) : (ap h os).push o = ap h (os ++ [o]) := by
  simp [ap, Heap.push]
theorem ap_update (h : Heap) (os : List Obj) (j : Nat) (f : Obj → Obj) : (ap h os).update (h.objs.size + j) f = ap h (os.modify j f) := by
  unfold ap Heap.update
  simp only
  congr 1
  apply Array.ext_getElem?
  intro i
  rw [Array.getElem?_modify]
  by_cases hi : i < h.objs.size
  · rw [if_neg (by omega), Array.getElem?_append_left hi, Array.getElem?_append_left hi]
  · rw [Array.getElem?_append_right (by omega), Array.getElem?_append_right (by omega)]
    simp only [List.getElem?_toArray, List.getElem?_modify]
    by_cases e : h.objs.size + j = i
    · subst e; simp
    · rw [if_neg e]
      have : ¬ j = i - h.objs.size := by omega
      simp only [this, if_false]
      simp
theorem ap_get (h : Heap) (os : List Obj) (j : Nat) {o : Obj} (e : os[j]? = some o) (hf : o.isFreed = false) : (ap h os).get? (h.objs.size + j) = some o := by
  refine Heap.get?_some_iff.mpr ⟨?_, hf⟩
  unfold ap
  simp only
  rw [Array.getElem?_append_right (by omega)]
  simpa using e
theorem ap_nil (h : Heap) : ap h [] = h := by simp [ap]
end Mine
end
-- part Dp5
section
theorem Mine.offDp5 : True := by
  w_top off
  k_with_none
  trivial
open PySem PySem.W PyProof.Rows PySem.Calls
namespace Mine
set_option maxRecDepth 100000
set_option linter.unusedVariables false

/-- the trees of an item: an int, a text -/
noncomputable def pr (p : Pos) (x : Int × Str) : Sem Value × Sem Value := (mkInt x.1, do let v ← mkText x.2; standAt p; pure v)
/-- the entries of a long run's items, the first token k -/
noncomputable def ents : Nat → List (Int × Str) → List DictEntry
  | _, [] => []
  | k, x :: r => ⟨x.1, .int x.1 k, .str x.2 (k + 1)⟩ :: ents (k + 3) r
/-- the entries of a short run's items -/
noncomputable def entsS : Nat → List (Int × Str) → List DictEntry
  | _, [] => []
  | k, x :: r => ⟨x.1, .int x.1 k, .str x.2 (k + 1)⟩ :: entsS (k + 2) r
/-- the keys rise, from above lo, below 2 ^ 60 -/
noncomputable def Up : Int → List (Int × Str) → Prop
  | _, [] => True
  | lo, x :: r => lo < x.1 ∧ 0 ≤ x.1 ∧ x.1 < 2 ^ 60 ∧ Up x.1 r
noncomputable def hiOf : Int → List (Int × Str) → Int
  | lo, [] => lo
  | _, x :: r => hiOf x.1 r
theorem hiOf_le : ∀ {lo : Int} {xs : List (Int × Str)}, Up lo xs → lo ≤ hiOf lo xs
  | _, [], _ => Int.le_refl _
  | lo, x :: r, h => Int.le_trans (Int.le_of_lt h.1) (hiOf_le h.2.2.2)
theorem ents_le : ∀ {lo : Int} {xs : List (Int × Str)} {k : Nat}, Up lo xs → ∀ e ∈ ents k xs, e.hash ≤ hiOf lo xs
  | _, [], _, _, _, he => nomatch he
  | lo, x :: r, k, h, e, he => by
    rcases List.mem_cons.mp he with rfl | he
    · exact hiOf_le h.2.2.2
    · exact ents_le h.2.2.2 e he
theorem entsS_le : ∀ {lo : Int} {xs : List (Int × Str)} {k : Nat}, Up lo xs → ∀ e ∈ entsS k xs, e.hash ≤ hiOf lo xs
  | _, [], _, _, _, he => nomatch he
  | lo, x :: r, k, h, e, he => by
    rcases List.mem_cons.mp he with rfl | he
    · exact hiOf_le h.2.2.2
    · exact entsS_le h.2.2.2 e he
theorem ents_length : ∀ (k : Nat) (xs : List (Int × Str)), (ents k xs).length = xs.length
  | _, [] => rfl
  | k, x :: r => by rw [ents, List.length_cons, List.length_cons, ents_length]
theorem entsS_length : ∀ (k : Nat) (xs : List (Int × Str)), (entsS k xs).length = xs.length
  | _, [] => rfl
  | k, x :: r => by rw [entsS, List.length_cons, List.length_cons, entsS_length]

section
variable {w : World} {s : Shared} {q : Pos} {p : Pos} {h : Heap} {os : List Obj}
noncomputable abbrev stt (s : Shared) (h : Heap) (k : Nat) : Shared := { s with heap := h, toks := k }

theorem run_key {x : Int × Str} {k : Nat} : RunB w 1 (pr p x).1 (stt s h k) q (.int x.1 k) (stt s h (k + 1)) q := RunB.mkInt
theorem run_val {x : Int × Str} {k : Nat} : RunB w 2 (pr p x).2 (stt s h k) q (.str x.2 k) (stt s h (k + 1)) p :=
  (RunB.mkText (s := stt s h k)).bind (B := 1) (RunB.standAt.bind (B := 0) RunB.pure)
theorem run_dictSet {i : Int} {t : Tok} {v : Value} {d : Addr} {es : List DictEntry} {k : Nat} (hg : h.get? d = some (dO es)) (hd : 28 ≤ d) (hz : es.length < 2048) (hne : ∀ e ∈ es, e.hash ≠ i) (h0 : 0 ≤ i) (h1 : i < 2 ^ 60) :
    RunB w 10 (dictSet d (.int i t) v) (stt s h k) q () (stt s (h.update d (Obj.mapDictKeys (·.push ⟨i, .int i t, v⟩))) (k + 1)) q := by
  unfold dictSet
  exact RunB.holding ((run_hash (s := stt s h k) w h0 h1).bind (B := 5) (run_set (s := stt s h (k + 1)) hg hd hz hne))

theorem modify_last (os : List Obj) (o : Obj) (f : Obj → Obj) : (os ++ [o]).modify os.length f = os ++ [f o] := by
  induction os with
  | nil => rfl
  | cons a os ih => simpa using ih
theorem get_last (os : List Obj) (o : Obj) : (os ++ [o])[os.length]? = some o := by simp
theorem mapKeys_dO (es : List DictEntry) (x : DictEntry) : Obj.mapDictKeys (·.push x) (dO es) = dO (es ++ [x]) := by
  simp [Obj.mapDictKeys, dO]

noncomputable abbrev long1 (d : Addr) (x : Sem Value × Sem Value) : Sem (ForInStep PUnit) := do
  let kv ← x.1
  let vv ← holding [kv] x.2
  holding [kv, vv] (dictSet d kv vv)
  pure (ForInStep.yield PUnit.unit)
/-- the long run's loop -/
theorem run_long {lo : Int} (hb : 28 ≤ h.objs.size) (f : Sem Value × Sem Value → PUnit → Sem (ForInStep PUnit)) (hf : ∀ x, f x PUnit.unit = long1 (h.objs.size + os.length) x) :
    ∀ (xs : List (Int × Str)) (es : List DictEntry) (k : Nat) (q : Pos), Up lo xs → (∀ e ∈ es, e.hash ≤ lo) → es.length + xs.length < 2048 →
    ∃ q', RunB w (13 * xs.length) (forIn (xs.map (pr p)) PUnit.unit f)
      (stt s (ap h (os ++ [dO es])) k) q PUnit.unit (stt s (ap h (os ++ [dO (es ++ ents k xs)])) (k + 3 * xs.length)) q' := by
  intro xs
  induction xs generalizing lo with
  | nil =>
    intro es k q _ _ _
    refine ⟨q, ?_⟩
    rw [List.map_nil, List.forIn_nil]
    simpa [ents] using RunB.pure
  | cons x r ih =>
    intro es k q hu hle hlen
    obtain ⟨u1, u2, u3, u4⟩ := hu
    rw [List.length_cons] at hlen
    obtain ⟨q', hq'⟩ := ih (lo := x.1) (es ++ [⟨x.1, .int x.1 k, .str x.2 (k + 1)⟩]) (k + 3) p u4 (fun e he => by
      rcases List.mem_append.mp he with he | he
      · exact Int.le_trans (hle e he) (Int.le_of_lt u1)
      · rw [List.mem_singleton.mp he]; exact Int.le_refl _) (by simp; omega)
    refine ⟨q', ?_⟩
    rw [List.map_cons, List.forIn_cons, hf]
    have hset := run_dictSet (w := w) (s := s) (q := p) (h := ap h (os ++ [dO es])) (i := x.1) (t := k) (v := .str x.2 (k + 1)) (d := h.objs.size + os.length) (es := es) (k := k + 2)
      (ap_get h _ _ (get_last os _) rfl) (Nat.le_trans hb (Nat.le_add_right _ _)) (by omega) (fun e he => by have := hle e he; omega) u2 u3
    rw [ap_update, modify_last, mapKeys_dO] at hset
    have e1 : k + 3 * (x :: r).length = k + 3 + 3 * r.length := by simp; omega
    have e2 : es ++ ents k (x :: r) = es ++ [⟨x.1, .int x.1 k, .str x.2 (k + 1)⟩] ++ ents (k + 3) r := by simp [ents]
    rw [e1, e2]
    refine RunB.le (A := 13 + 13 * r.length) (RunB.bind (a := ForInStep.yield PUnit.unit) ?_ hq') (by simp; omega)
    refine RunB.bind (A := 1) (B := 12) (run_key (x := x) (k := k)) ?_
    refine RunB.bind (A := 2) (B := 10) (RunB.holding (run_val (x := x) (k := k + 1))) ?_
    exact RunB.bind (A := 10) (B := 0) (RunB.holding hset) RunB.pure
theorem run_subLong {lo : Int} {xs : List (Int × Str)} {k : Nat} (hb : 28 ≤ h.objs.size) (hl : 15 < xs.length) (hu : Up lo xs) (hlen : xs.length < 2048) :
    ∃ q', RunB w (13 * xs.length + 2) (subDict (xs.map (pr p))) (stt s (ap h os) k) q (h.objs.size + os.length) (stt s (ap h (os ++ [dO (ents k xs)])) (k + 3 * xs.length)) q' := by
  unfold subDict
  have ha := RunB.alloc (w := w) (s := stt s (ap h os) k) (q := q) (o := { cls := .type "dict", data := .dict #[] })
  have e1 : (stt s (ap h os) k).heap.objs.size = h.objs.size + os.length := ap_size h os
  rw [e1] at ha
  have e2 : ({ (stt s (ap h os) k) with heap := (stt s (ap h os) k).heap.push { cls := .type "dict", data := .dict #[] } } : Shared) = stt s (ap h (os ++ [dO []])) k := by
    show stt s ((ap h os).push _) k = _
    rw [ap_push]
    rfl
  rw [e2] at ha
  obtain ⟨q', hq⟩ := run_long (w := w) (s := s) (p := p) (h := h) (os := os) hb (fun x _ => long1 (h.objs.size + os.length) x) (fun _ => rfl) xs [] k q hu (fun e he => nomatch he) (by simpa using hlen)
  refine ⟨q', RunB.le (A := 1 + (1 + 13 * xs.length)) (ha.bind ?_) (by omega)⟩
  refine RunB.bind (a := ()) (B := 0) (RunB.holding (a := ()) (A := 1 + 13 * xs.length) ?_) RunB.pure
  rw [if_neg (by simp; omega)]
  refine RunB.rule.bind ?_
  exact (RunB.le (A := 13 * xs.length + 0) (hq.bind RunB.pure) (by omega))

noncomputable def vals : Nat → List (Int × Str) → List (Value × Value)
  | _, [] => []
  | k, x :: r => (.int x.1 k, .str x.2 (k + 1)) :: vals (k + 2) r
theorem run_evalPairs : ∀ (xs : List (Int × Str)) (k : Nat) (q : Pos), ∃ q', RunB w (3 * xs.length) (evalPairs (xs.map (pr p))) (stt s h k) q (vals k xs) (stt s h (k + 2 * xs.length)) q' := by
  intro xs
  induction xs with
  | nil => intro k q; exact ⟨q, RunB.pure⟩
  | cons x r ih =>
    intro k q
    obtain ⟨q', hq⟩ := ih (k + 2) p
    refine ⟨q', ?_⟩
    have e1 : k + 2 * (x :: r).length = k + 2 + 2 * r.length := by simp; omega
    rw [e1, List.map_cons]
    show RunB w _ (evalPairs (((pr p x).1, (pr p x).2) :: r.map (pr p))) _ _ _ _ _
    rw [evalPairs]
    refine RunB.le (A := 1 + (2 + (3 * r.length + 0))) ?_ (by simp; omega)
    refine RunB.bind (run_key (x := x) (k := k)) ?_
    refine RunB.bind (RunB.holding (run_val (x := x) (k := k + 1))) ?_
    exact RunB.bind (RunB.holding hq) RunB.pure
theorem run_store {lo : Int} (hb : 28 ≤ h.objs.size) (f : Value × Value → PUnit → Sem (ForInStep PUnit)) (hf : ∀ x, f x PUnit.unit = (do dictSet (h.objs.size + os.length) x.1 x.2; pure (ForInStep.yield PUnit.unit))) :
    ∀ (xs : List (Int × Str)) (es : List DictEntry) (t k : Nat) (q : Pos), Up lo xs → (∀ e ∈ es, e.hash ≤ lo) → es.length + xs.length < 2048 →
    RunB w (10 * xs.length) (forIn (vals t xs) PUnit.unit f)
      (stt s (ap h (os ++ [dO es])) k) q PUnit.unit (stt s (ap h (os ++ [dO (es ++ entsS t xs)])) (k + xs.length)) q := by
  intro xs
  induction xs generalizing lo with
  | nil =>
    intro es t k q _ _ _
    rw [vals, List.forIn_nil]
    simpa [entsS] using RunB.pure
  | cons x r ih =>
    intro es t k q hu hle hlen
    obtain ⟨u1, u2, u3, u4⟩ := hu
    rw [List.length_cons] at hlen
    have hq' := ih (lo := x.1) (es ++ [⟨x.1, .int x.1 t, .str x.2 (t + 1)⟩]) (t + 2) (k + 1) q u4 (fun e he => by
      rcases List.mem_append.mp he with he | he
      · exact Int.le_trans (hle e he) (Int.le_of_lt u1)
      · rw [List.mem_singleton.mp he]; exact Int.le_refl _) (by simp; omega)
    rw [vals, List.forIn_cons, hf]
    have hset := run_dictSet (w := w) (s := s) (q := q) (h := ap h (os ++ [dO es])) (i := x.1) (t := t) (v := .str x.2 (t + 1)) (d := h.objs.size + os.length) (es := es) (k := k)
      (ap_get h _ _ (get_last os _) rfl) (Nat.le_trans hb (Nat.le_add_right _ _)) (by omega) (fun e he => by have := hle e he; omega) u2 u3
    rw [ap_update, modify_last, mapKeys_dO] at hset
    have e1 : k + (x :: r).length = k + 1 + r.length := by simp; omega
    have e2 : es ++ entsS t (x :: r) = es ++ [⟨x.1, .int x.1 t, .str x.2 (t + 1)⟩] ++ entsS (t + 2) r := by simp [entsS]
    rw [e1, e2]
    refine RunB.le (A := 10 + 10 * r.length) (RunB.bind (a := ForInStep.yield PUnit.unit) ?_ hq') (by simp; omega)
    exact RunB.bind (A := 10) (B := 0) hset RunB.pure
theorem run_subShort {lo : Int} {xs : List (Int × Str)} {k : Nat} (hb : 28 ≤ h.objs.size) (hl : xs.length ≤ 15) (hu : Up lo xs) :
    ∃ q', RunB w (13 * xs.length + 2) (subDict (xs.map (pr p))) (stt s (ap h os) k) q (h.objs.size + os.length) (stt s (ap h (os ++ [dO (entsS k xs)])) (k + 2 * xs.length + xs.length)) q' := by
  unfold subDict
  have ha := RunB.alloc (w := w) (s := stt s (ap h os) k) (q := q) (o := { cls := .type "dict", data := .dict #[] })
  have e1 : (stt s (ap h os) k).heap.objs.size = h.objs.size + os.length := ap_size h os
  rw [e1] at ha
  have e2 : ({ (stt s (ap h os) k) with heap := (stt s (ap h os) k).heap.push { cls := .type "dict", data := .dict #[] } } : Shared) = stt s (ap h (os ++ [dO []])) k := by
    show stt s ((ap h os).push _) k = _
    rw [ap_push]
    rfl
  rw [e2] at ha
  obtain ⟨q', hq⟩ := run_evalPairs (w := w) (s := s) (p := p) (h := ap h (os ++ [dO []])) xs k q
  have hs := run_store (w := w) (s := s) (h := h) (os := os) hb (fun x _ => do dictSet (h.objs.size + os.length) x.1 x.2; pure (ForInStep.yield PUnit.unit)) (fun _ => rfl) xs [] k (k + 2 * xs.length) q' hu (fun e he => nomatch he) (by simp; omega)
  refine ⟨q', RunB.le (A := 1 + (3 * xs.length + 10 * xs.length)) (ha.bind ?_) (by omega)⟩
  refine RunB.bind (a := ()) (B := 0) (RunB.holding (a := ()) (A := 3 * xs.length + 10 * xs.length) ?_) RunB.pure
  rw [if_pos (by simp; omega)]
  refine RunB.bind hq ?_
  exact RunB.holding (RunB.le (A := 10 * xs.length + 0) (hs.bind RunB.pure) (by omega))
end
end Mine
end
-- part Dp6
section
theorem Mine.offDp6 : True := by
  w_top off
  k_with_none
  trivial
open PySem PySem.W PyProof.Rows PySem.Calls
namespace Mine
set_option maxRecDepth 100000
set_option linter.unusedVariables false
section
variable {w : World} {s : Shared} {q : Pos} {p : Pos} {h : Heap} {os : List Obj}

noncomputable def IsIntE (e : DictEntry) : Prop := ∃ i t, e.key = .int i t
theorem run_typeOf {s : Shared} {a : Addr} {es : List DictEntry} (hg : s.heap.get? a = some (dO es)) : RunB w 1 (typeOf (.ref a)) s q (.type "dict") s q := by
  unfold typeOf
  exact (RunB.load hg).bind (B := 0) RunB.pure
theorem run_inst {s : Shared} {a : Addr} {es : List DictEntry} (hg : s.heap.get? a = some (dO es)) : RunB w 1 (isInstance (.ref a) (.type "dict")) s q true s q := by
  unfold isInstance
  exact (run_typeOf hg).bind (B := 0) ⟨0, Nat.le_refl _, fun K H gd lv c F => by kernel_rfl⟩
theorem run_spec {s : Shared} {a : Addr} {es : List DictEntry} (hg : s.heap.get? a = some (dO es)) : RunB w 1 (specialOf (.ref a) "__iter__") s q (some (.builtin "dict.__iter__")) s q := by
  unfold specialOf
  exact (run_typeOf hg).bind (B := 0) ⟨0, Nat.le_refl _, fun K H gd lv c F => by kernel_rfl⟩

/-- one turn of a merge -/
noncomputable abbrev turn1 (d a n : Nat) (i : Nat) : Sem (ForInStep PUnit) := do
  let some e := (← dictEntries a)[i]? | unsupported "dict.changed-during-merge"
  holding [e.key, e.val] do
    dictPut d e.hash e.key e.val
  if (← dictEpoch a) != n then unsupported "dict.changed-during-merge"
  pure (ForInStep.yield PUnit.unit)
theorem run_dictPut {s : Shared} {d : Addr} {es : List DictEntry} {e : DictEntry} (hg : s.heap.get? d = some (dO es)) (hd : 28 ≤ d) (hz : es.length < 2048) (hne : ∀ x ∈ es, x.hash ≠ e.hash) (hi : IsIntE e) :
    RunB w 4 (dictPut d e.hash e.key e.val) s q () { s with heap := s.heap.update d (Obj.mapDictKeys (·.push e)) } q := by
  obtain ⟨eh, ek, ev⟩ := e
  obtain ⟨i, t, rfl⟩ := hi
  unfold dictPut
  refine (run_find hg hne).bind (B := 3) ?_
  exact run_push hg hd hz
theorem get_first (o : Obj) (os : List Obj) : (o :: os)[0]? = some o := rfl
/-- the merge's loop: the first object is the main dict, object j the run's -/
theorem run_turns (hb : 28 ≤ h.objs.size) {j : Nat} {es2 : List DictEntry} {k : Nat} (hj : ∀ o, (o :: os)[j + 1]? = some (dO es2)) (hi : ∀ e ∈ es2, IsIntE e)
    (f : Nat → PUnit → Sem (ForInStep PUnit)) (hf : ∀ i, f i PUnit.unit = turn1 h.objs.size (h.objs.size + (j + 1)) es2.length i) :
    ∀ (r done : List DictEntry) (es : List DictEntry), es2 = done ++ r → es.length + r.length < 2048 → (∀ x ∈ es, ∀ e ∈ r, x.hash ≠ e.hash) → r.Pairwise (fun a b => a.hash ≠ b.hash) →
    RunB w (6 * r.length) (forIn (List.range' done.length r.length) PUnit.unit f) (stt s (ap h (dO es :: os)) k) q PUnit.unit (stt s (ap h (dO (es ++ r) :: os)) k) q := by
  intro r
  induction r with
  | nil =>
    intro done es _ _ _ _
    rw [List.length_nil, List.range'_zero, List.forIn_nil, List.append_nil]
    exact RunB.pure
  | cons e r ih =>
    intro done es hd hz hne hp
    rw [List.length_cons, List.range'_succ, List.forIn_cons, hf]
    have hp' := List.pairwise_cons.mp hp
    have hn := ih (done ++ [e]) (es ++ [e]) (by rw [hd]; simp) (by simp at hz ⊢; omega) (fun x hx y hy => by
      rcases List.mem_append.mp hx with hx | hx
      · exact hne x hx y (List.mem_cons_of_mem _ hy)
      · rw [List.mem_singleton.mp hx]; exact hp'.1 y hy) hp'.2
    rw [List.length_append, List.length_singleton] at hn
    rw [show 6 * (r.length + 1) = 6 + 6 * r.length by omega]
    refine RunB.bind (a := ForInStep.yield PUnit.unit) ?_ (by rw [show es ++ e :: r = es ++ [e] ++ r by simp]; exact hn)
    have g1 : ∀ es, (stt s (ap h (dO es :: os)) k).heap.get? (h.objs.size + (j + 1)) = some (dO es2) := fun es => ap_get h _ _ (hj _) rfl
    have g2 : (stt s (ap h (dO es :: os)) k).heap.get? (h.objs.size + 0) = some (dO es) := ap_get h _ _ (get_first _ _) rfl
    have hput := run_dictPut (w := w) (q := q) (e := e) g2 (Nat.le_trans hb (Nat.le_add_right _ _)) (by simp at hz; omega) (fun x hx => hne x hx e List.mem_cons_self) (hi e (by rw [hd]; simp))
    have e3 : (stt s (ap h (dO es :: os)) k).heap.update (h.objs.size + 0) (Obj.mapDictKeys (·.push e)) = ap h (dO (es ++ [e]) :: os) := by
      show (ap h (dO es :: os)).update (h.objs.size + 0) _ = _
      rw [ap_update]
      show ap h (Obj.mapDictKeys (·.push e) (dO es) :: os) = _
      rw [mapKeys_dO]
    rw [e3] at hput
    refine RunB.bind (A := 1) (B := 5) (run_entries (g1 es)) ?_
    have eg : es2.toArray[done.length]? = some e := by rw [hd]; simp
    dsimp only
    rw [eg]
    dsimp only
    refine RunB.bind (A := 4) (B := 1) (RunB.holding hput) ?_
    refine RunB.bind (A := 1) (B := 0) (run_epoch (s := stt s (ap h (dO (es ++ [e]) :: os)) k) (g1 _)) ?_
    rw [if_neg (by simp)]
    exact RunB.pure
theorem run_merge (hb : 28 ≤ h.objs.size) {j : Nat} {es es2 : List DictEntry} {k : Nat} (hj : ∀ o, (o :: os)[j + 1]? = some (dO es2)) (hi : ∀ e ∈ es2, IsIntE e) (h0 : es ≠ [])
    (hz : es.length + es2.length < 2048) (hne : ∀ x ∈ es, ∀ e ∈ es2, x.hash ≠ e.hash) (hp : es2.Pairwise (fun a b => a.hash ≠ b.hash)) :
    RunB w (5 + 6 * es2.length) (mergeMapping h.objs.size (.ref (h.objs.size + (j + 1))) false) (stt s (ap h (dO es :: os)) k) q () (stt s (ap h (dO (es ++ es2) :: os)) k) q := by
  have g1 : ∀ es, (stt s (ap h (dO es :: os)) k).heap.get? (h.objs.size + (j + 1)) = some (dO es2) := fun es => ap_get h _ _ (hj _) rfl
  have g2 : (stt s (ap h (dO es :: os)) k).heap.get? (h.objs.size + 0) = some (dO es) := ap_get h _ _ (get_first _ _) rfl
  unfold mergeMapping
  rw [show 5 + 6 * es2.length = 1 + (1 + (0 + (1 + (1 + (1 + (6 * es2.length + 0)))))) by omega]
  refine RunB.bind (run_inst (g1 es)) ?_
  rw [if_pos rfl]
  refine RunB.bind (run_spec (g1 es)) ?_
  refine RunB.bind (RunB.pure (a := true)) ?_
  dsimp only
  rw [if_neg (by
    rw [beq_iff_eq]
    exact fun e => absurd (Nat.le_trans hb (Nat.le_add_right h.objs.size (j + 1))) (by rw [e]; decide))]
  refine RunB.bind (run_entries g2) ?_
  rw [if_neg (by simp [h0])]
  refine RunB.bind (run_entries (g1 es)) ?_
  refine RunB.bind (run_epoch (g1 es)) ?_
  refine RunB.bind (a := PUnit.unit) ?_ RunB.pure
  rw [show es2.toArray.size = es2.length by simp, List.range_eq_range']
  exact run_turns hb hj hi _ (fun i => by kernel_rfl) es2 [] es rfl hz hne hp
end
end Mine
end
-- part Dp7
section
theorem Mine.offDp7 : True := by
  w_top off
  k_with_none
  trivial
open PySem PySem.W PyProof.Rows PySem.Calls
namespace Mine
set_option maxRecDepth 100000
set_option linter.unusedVariables false

theorem ents_lt : ∀ {lo : Int} {xs : List (Int × Str)} {k : Nat}, Up lo xs → ∀ e ∈ ents k xs, lo < e.hash
  | _, [], _, _, _, he => nomatch he
  | lo, x :: r, k, h, e, he => by
    rcases List.mem_cons.mp he with rfl | he
    · exact h.1
    · exact Int.lt_trans h.1 (ents_lt h.2.2.2 e he)
theorem entsS_lt : ∀ {lo : Int} {xs : List (Int × Str)} {k : Nat}, Up lo xs → ∀ e ∈ entsS k xs, lo < e.hash
  | _, [], _, _, _, he => nomatch he
  | lo, x :: r, k, h, e, he => by
    rcases List.mem_cons.mp he with rfl | he
    · exact h.1
    · exact Int.lt_trans h.1 (entsS_lt h.2.2.2 e he)
theorem ents_int : ∀ {xs : List (Int × Str)} {k : Nat}, ∀ e ∈ ents k xs, IsIntE e
  | [], _, _, he => nomatch he
  | x :: r, k, e, he => by
    rcases List.mem_cons.mp he with rfl | he
    · exact ⟨_, _, rfl⟩
    · exact ents_int e he
theorem entsS_int : ∀ {xs : List (Int × Str)} {k : Nat}, ∀ e ∈ entsS k xs, IsIntE e
  | [], _, _, he => nomatch he
  | x :: r, k, e, he => by
    rcases List.mem_cons.mp he with rfl | he
    · exact ⟨_, _, rfl⟩
    · exact entsS_int e he
theorem ents_pw : ∀ {lo : Int} {xs : List (Int × Str)} {k : Nat}, Up lo xs → (ents k xs).Pairwise (fun a b => a.hash ≠ b.hash)
  | _, [], _, _ => List.Pairwise.nil
  | lo, x :: r, k, h => List.Pairwise.cons (fun e he => Int.ne_of_lt (ents_lt h.2.2.2 e he)) (ents_pw h.2.2.2)
theorem entsS_pw : ∀ {lo : Int} {xs : List (Int × Str)} {k : Nat}, Up lo xs → (entsS k xs).Pairwise (fun a b => a.hash ≠ b.hash)
  | _, [], _, _ => List.Pairwise.nil
  | lo, x :: r, k, h => List.Pairwise.cons (fun e he => Int.ne_of_lt (entsS_lt h.2.2.2 e he)) (entsS_pw h.2.2.2)
theorem Up_left : ∀ {lo : Int} {xs ys : List (Int × Str)}, Up lo (xs ++ ys) → Up lo xs
  | _, [], _, _ => trivial
  | lo, x :: r, ys, h => ⟨h.1, h.2.1, h.2.2.1, Up_left h.2.2.2⟩
theorem Up_right : ∀ {lo : Int} {xs ys : List (Int × Str)}, Up lo (xs ++ ys) → Up (hiOf lo xs) ys
  | _, [], _, h => h
  | lo, x :: r, ys, h => Up_right (lo := x.1) (xs := r) h.2.2.2

noncomputable def flush1 (run : List (Sem Value × Sem Value)) (main : Option Addr) : Sem (Option Addr) :=
  if run.isEmpty = true then pure main
    else
      match main with
      | none => do
        let __do_lift ← subDict run
        pure (some __do_lift)
      | some d => do
        let sub ← holding [Value.ref d] (subDict run)
        (holding [Value.ref d, Value.ref sub] (mergeMapping d (Value.ref sub) false)).onRaise fun x => do
            let _ ← holding [Value.ref d, x] (runValue (Code.builtin "proto.let_go" { }))
            pure ()
        pure (some d)
section
variable {w : World} {s : Shared} {q : Pos} {p : Pos} {h : Heap} {os os0 : List Obj}
theorem run_flushFirst (hb : 28 ≤ h.objs.size) {lo : Int} {c : List (Int × Str)} {k : Nat} (hl : c.length = 17) (hu : Up lo c) :
    ∃ q', RunB w 223 (flush1 (c.map (pr p)) none) (stt s h k) q (some h.objs.size) (stt s (ap h [dO (ents k c)]) (k + 51)) q' := by
  obtain ⟨q', hq⟩ := run_subLong (w := w) (s := s) (q := q) (p := p) (os := []) (k := k) hb (by omega) hu (by omega)
  rw [hl, ap_nil] at hq
  refine ⟨q', ?_⟩
  unfold flush1
  rw [if_neg (by cases c <;> simp at hl ⊢)]
  exact RunB.bind (A := 223) (B := 0) hq RunB.pure
theorem run_flushMore (hb : 28 ≤ h.objs.size) {lo : Int} {c : List (Int × Str)} {es : List DictEntry} {k : Nat} (hl : c.length = 17) (hu : Up lo c) (h0 : es ≠ []) (hle : ∀ e ∈ es, e.hash ≤ lo) (hz : es.length < 1500) :
    ∃ q', RunB w 330 (flush1 (c.map (pr p)) (some h.objs.size)) (stt s (ap h (dO es :: os)) k) q (some h.objs.size) (stt s (ap h (dO (es ++ ents k c) :: (os ++ [dO (ents k c)]))) (k + 51)) q' := by
  obtain ⟨q', hq⟩ := run_subLong (w := w) (s := s) (q := q) (p := p) (os := dO es :: os) (k := k) hb (by omega) hu (by omega)
  rw [hl] at hq
  refine ⟨q', ?_⟩
  unfold flush1
  rw [if_neg (by cases c <;> simp at hl ⊢)]
  dsimp only
  have hm := run_merge (w := w) (s := s) (q := q') (h := h) (os := os ++ [dO (ents k c)]) hb (j := os.length) (es := es) (es2 := ents k c) (k := k + 51)
    (fun o => get_last (o :: os) _) ents_int h0 (by rw [ents_length]; omega) (fun x hx e he => by have := hle x hx; have := ents_lt hu e he; omega) (ents_pw hu)
  rw [ents_length, hl] at hm
  exact RunB.bind (A := 223) (B := 107) (RunB.holding hq) (RunB.bind (A := 107) (B := 0) (RunB.onRaise (RunB.holding hm)) RunB.pure)
theorem run_flushLast (hb : 28 ≤ h.objs.size) {lo : Int} {c : List (Int × Str)} {es : List DictEntry} {k : Nat} (hl : c.length ≤ 15) (hc : c ≠ []) (hu : Up lo c) (h0 : es ≠ []) (hle : ∀ e ∈ es, e.hash ≤ lo) (hz : es.length < 1500) :
    ∃ q', RunB w 330 (flush1 (c.map (pr p)) (some h.objs.size)) (stt s (ap h (dO es :: os)) k) q (some h.objs.size) (stt s (ap h (dO (es ++ entsS k c) :: (os ++ [dO (entsS k c)]))) (k + 2 * c.length + c.length)) q' := by
  obtain ⟨q', hq⟩ := run_subShort (w := w) (s := s) (q := q) (p := p) (os := dO es :: os) (k := k) hb hl hu
  refine ⟨q', ?_⟩
  unfold flush1
  rw [if_neg (by cases c <;> simp at hc ⊢)]
  dsimp only
  have hm := run_merge (w := w) (s := s) (q := q') (h := h) (os := os ++ [dO (entsS k c)]) hb (j := os.length) (es := es) (es2 := entsS k c) (k := k + 2 * c.length + c.length)
    (fun o => get_last (o :: os) _) entsS_int h0 (by rw [entsS_length]; omega) (fun x hx e he => by have := hle x hx; have := entsS_lt hu e he; omega) (entsS_pw hu)
  rw [entsS_length] at hm
  exact RunB.le (RunB.bind (RunB.holding hq) (RunB.bind (B := 0) (RunB.onRaise (RunB.holding hm)) RunB.pure)) (by omega)

noncomputable def it (p : Pos) (x : Int × Str) : Option (Sem Value) × Sem Value := (some (pr p x).1, (pr p x).2)
noncomputable abbrev St := Option Addr × List (Sem Value × Sem Value)
/-- what the display's loop does at an item -/
noncomputable def HF (f : Option (Sem Value) × Sem Value → St → Sem (ForInStep St)) : Prop := ∀ a b main run, f (some a, b) (main, run) =
  if ((run ++ [(a, b)]).length == 17) = true then (do let m ← flush1 (run ++ [(a, b)]) main; pure (ForInStep.yield (m, []))) else pure (ForInStep.yield (main, run ++ [(a, b)]))
theorem run_gather {f} (hf : HF f) {main : Option Addr} {rest : List (Option (Sem Value) × Sem Value)} {B : Nat} {a : St} {s1 s2 : Shared} {q' : Pos} : ∀ (c run : List (Int × Str)), run.length + c.length < 17 →
    RunB w B (forIn rest (main, (run ++ c).map (pr p)) f) s1 q a s2 q' → RunB w B (forIn (c.map (it p) ++ rest) (main, run.map (pr p)) f) s1 q a s2 q'
  | [], run, _, h => by simpa using h
  | x :: c, run, hl, h => by
    rw [List.map_cons, List.cons_append, List.forIn_cons]
    show RunB w B (f (some (pr p x).1, (pr p x).2) (main, run.map (pr p)) >>= _) _ _ _ _ _
    rw [hf, if_neg (by simp at hl ⊢; omega)]
    refine RunB.le (A := 0 + B) (RunB.bind RunB.pure ?_) (by omega)
    have := run_gather hf (main := main) (rest := rest) (B := B) (a := a) (s1 := s1) (s2 := s2) (q' := q') c (run ++ [x]) (by simp at hl ⊢; omega) (by simpa using h)
    rwa [List.map_append] at this
theorem run_chunk {f} (hf : HF f) {main m' : Option Addr} {rest : List (Option (Sem Value) × Sem Value)} {A B : Nat} {a : St} {s1 s2 s3 : Shared} {q1 q' : Pos} (c : List (Int × Str)) (hl : c.length = 17)
    (h1 : RunB w A (flush1 (c.map (pr p)) main) s1 q m' s2 q1) (h2 : RunB w B (forIn rest (m', []) f) s2 q1 a s3 q') :
    RunB w (A + B) (forIn (c.map (it p) ++ rest) (main, []) f) s1 q a s3 q' := by
  have e : c = c.dropLast ++ [c.getLast (by intro e; rw [e] at hl; cases hl)] := (List.dropLast_concat_getLast _).symm
  generalize hx : c.getLast (by intro e; rw [e] at hl; cases hl) = x at e
  have hd : c.dropLast.length = 16 := by rw [List.length_dropLast, hl]
  generalize c.dropLast = c0 at e hd
  subst e
  rw [List.map_append, List.append_assoc]
  refine run_gather hf (main := main) c0 [] (by simp; omega) ?_
  rw [List.nil_append]
  show RunB w (A + B) (forIn (it p x :: rest) _ f) _ _ _ _ _
  rw [List.forIn_cons]
  show RunB w (A + B) (f (some (pr p x).1, (pr p x).2) (main, c0.map (pr p)) >>= _) _ _ _ _ _
  rw [hf, if_pos (by simp; omega)]
  rw [List.map_append] at h1
  exact RunB.bind (RunB.bind (B := 0) h1 RunB.pure) h2
noncomputable def entsC : Nat → List (List (Int × Str)) → List DictEntry
  | _, [] => []
  | k, c :: r => ents k c ++ entsC (k + 51) r
noncomputable def subs : Nat → List (List (Int × Str)) → List Obj
  | _, [] => []
  | k, c :: r => dO (ents k c) :: subs (k + 51) r
theorem run_chunks {f} (hf : HF f) (hb : 28 ≤ h.objs.size) {rest : List (Option (Sem Value) × Sem Value)} {B : Nat} {a : St} {s3 : Shared} : ∀ (cs : List (List (Int × Str))) {lo : Int} {es : List DictEntry} {os : List Obj} {k : Nat} {q : Pos}, (∀ c ∈ cs, c.length = 17) → Up lo cs.flatten → es ≠ [] → (∀ e ∈ es, e.hash ≤ lo) → es.length + 17 * cs.length < 1500 →
    (∀ q1, ∃ q', RunB w B (forIn rest (some h.objs.size, []) f) (stt s (ap h (dO (es ++ entsC k cs) :: (os ++ subs k cs))) (k + 51 * cs.length)) q1 a s3 q') →
    ∃ q', RunB w (330 * cs.length + B) (forIn (cs.flatten.map (it p) ++ rest) (some h.objs.size, []) f) (stt s (ap h (dO es :: os)) k) q a s3 q'
  | [], lo, es, os, k, q, _, _, _, _, _, hr => by
    simpa [entsC, subs] using hr q
  | c :: cs, lo, es, os, k, q, hl, hu, h0, hle, hz, hr => by
    rw [List.flatten_cons] at hu
    obtain ⟨q1, h1⟩ := run_flushMore (w := w) (s := s) (q := q) (p := p) (h := h) (os := os) hb (c := c) (es := es) (k := k) (hl c List.mem_cons_self) (Up_left hu) h0 hle (by omega)
    have h2 := run_chunks hf hb (rest := rest) (B := B) (a := a) (s3 := s3) cs (lo := hiOf lo c) (es := es ++ ents k c) (os := os ++ [dO (ents k c)]) (k := k + 51) (q := q1)
      (fun c' hc => hl c' (List.mem_cons_of_mem _ hc)) (Up_right hu) (by simp [h0]) (fun e he => by
        rcases List.mem_append.mp he with he | he
        · exact Int.le_trans (hle e he) (hiOf_le (Up_left hu))
        · exact ents_le (Up_left hu) e he) (by rw [List.length_append, ents_length, hl c List.mem_cons_self]; rw [List.length_cons] at hz; omega) (by
        intro q2
        have := hr q2
        simp only [entsC, subs, List.length_cons] at this
        rw [show k + 51 * (cs.length + 1) = k + 51 + 51 * cs.length by omega] at this
        simpa using this)
    obtain ⟨q', h2⟩ := h2
    refine ⟨q', ?_⟩
    rw [List.flatten_cons, List.map_append, List.append_assoc, List.length_cons]
    exact RunB.le (run_chunk hf c (hl c List.mem_cons_self) h1 h2) (by omega)
end
end Mine
end
-- part Dp8
section
theorem Mine.offDp8 : True := by
  w_top off
  k_with_none
  trivial
open PySem PySem.W PyProof.Rows PySem.Calls
namespace Mine
set_option maxRecDepth 100000
set_option linter.unusedVariables false
theorem hiOf_append : ∀ (lo : Int) (xs ys : List (Int × Str)), hiOf lo (xs ++ ys) = hiOf (hiOf lo xs) ys
  | _, [], _ => rfl
  | _, x :: r, ys => hiOf_append x.1 r ys
theorem entsC_le : ∀ {cs : List (List (Int × Str))} {lo : Int} {k : Nat}, Up lo cs.flatten → ∀ e ∈ entsC k cs, e.hash ≤ hiOf lo cs.flatten
  | [], _, _, _, _, he => nomatch he
  | c :: cs, lo, k, hu, e, he => by
    rw [List.flatten_cons] at hu ⊢
    rw [hiOf_append]
    rcases List.mem_append.mp he with he | he
    · exact Int.le_trans (ents_le (Up_left hu) e he) (hiOf_le (Up_right hu))
    · exact entsC_le (Up_right hu) e he
theorem entsC_length : ∀ (k : Nat) (cs : List (List (Int × Str))), (entsC k cs).length = cs.flatten.length
  | _, [] => rfl
  | k, c :: r => by rw [entsC, List.flatten_cons, List.length_append, List.length_append, ents_length, entsC_length]
/-- the display as a loop and an end -/
theorem display_is (items : List (Option (Sem Value) × Sem Value)) : ∃ f, HF f ∧ dictDisplay items = (forIn items ((none, []) : St) f >>= fun z => flush1 z.2 z.1 >>= fun o => match o with | some d => pure (.ref d) | none => newDict) := by
  refine ⟨_, ?_, by unfold dictDisplay; rfl⟩
  intro a b main run
  rfl
section
variable {w : World} {s : Shared} {q : Pos} {p : Pos} {h : Heap}
theorem run_display (hb : 28 ≤ h.objs.size) {c0 : List (Int × Str)} {cs : List (List (Int × Str))} {r : List (Int × Str)} {lo : Int} {k K : Nat} (hc : ∀ c ∈ c0 :: cs, c.length = 17) (hr : r ≠ []) (hl : r.length ≤ 15)
    (hu : Up lo ((c0 :: cs).flatten ++ r)) (hz : cs.length < 80) (hK : K = k + 51 + 51 * cs.length) :
    ∃ q', RunB w (30000) (dictDisplay (((c0 :: cs).flatten ++ r).map (it p))) (stt s h k) q (.ref h.objs.size)
      (stt s (ap h (dO (entsC k (c0 :: cs) ++ entsS K r) :: (subs (k + 51) cs ++ [dO (entsS K r)]))) (K + 3 * r.length)) q' := by
  have l0 := hc c0 List.mem_cons_self
  have hu1 := Up_left hu
  rw [List.flatten_cons] at hu1
  obtain ⟨f, hf, e⟩ := display_is (((c0 :: cs).flatten ++ r).map (it p))
  rw [e]
  obtain ⟨q1, h1⟩ := run_flushFirst (w := w) (s := s) (q := q) (p := p) (k := k) hb l0 (Up_left hu1)
  have ne0 : ents k c0 ≠ [] := by cases c0 with | nil => simp at l0 | cons x c => simp [ents]
  have hsum : cs.flatten.length = 17 * cs.length := by
    clear e hu hu1 hK hz
    induction cs with
    | nil => rfl
    | cons c cs ih =>
      rw [List.flatten_cons, List.length_append, hc c (by simp), ih (fun c' h' => hc c' (by
        rcases List.mem_cons.mp h' with rfl | h'
        · simp
        · simp [h']))]
      simp; omega
  obtain ⟨q2, h2⟩ := run_chunks (p := p) hf hb (s := s) (w := w) (q := q1) (rest := r.map (it p)) (B := 0) (a := ((some h.objs.size, r.map (pr p)) : St))
    (s3 := stt s (ap h (dO (ents k c0 ++ entsC (k + 51) cs) :: ([] ++ subs (k + 51) cs))) (k + 51 + 51 * cs.length)) cs (lo := hiOf lo c0) (es := ents k c0) (os := []) (k := k + 51)
    (fun c hh => hc c (List.mem_cons_of_mem _ hh)) (Up_right hu1) ne0 (ents_le (Up_left hu1)) (by rw [ents_length]; omega) (fun q1 => ⟨q1, by
      have := run_gather (p := p) hf (main := some h.objs.size) (rest := []) (B := 0) (a := ((some h.objs.size, r.map (pr p)) : St)) (w := w) (q := q1) (q' := q1) (s1 := stt s (ap h (dO (ents k c0 ++ entsC (k + 51) cs) :: ([] ++ subs (k + 51) cs))) (k + 51 + 51 * cs.length)) (s2 := stt s (ap h (dO (ents k c0 ++ entsC (k + 51) cs) :: ([] ++ subs (k + 51) cs))) (k + 51 + 51 * cs.length)) r [] (by simp; omega) (by rw [List.nil_append, List.forIn_nil]; exact RunB.pure)
      simpa using this⟩)
  have hloop := run_chunk hf c0 l0 h1 h2
  rw [List.nil_append, ← hK] at hloop
  obtain ⟨q3, h3⟩ := run_flushLast (w := w) (s := s) (q := q2) (p := p) (h := h) (os := subs (k + 51) cs) (c := r) (es := ents k c0 ++ entsC (k + 51) cs) (k := K) hb hl hr
    (lo := hiOf lo (c0 ++ cs.flatten)) (by have := Up_right hu; rwa [List.flatten_cons] at this) (by simp [ne0]) (by have := entsC_le (cs := c0 :: cs) (k := k) (by rw [List.flatten_cons]; exact hu1); rw [List.flatten_cons] at this; exact this) (by rw [List.length_append, ents_length, entsC_length]; omega)
  refine ⟨q3, ?_⟩
  have e3 : K + 2 * r.length + r.length = K + 3 * r.length := by omega
  rw [e3] at h3
  have e4 : List.map (it p) ((c0 :: cs).flatten ++ r) = List.map (it p) c0 ++ (List.map (it p) cs.flatten ++ List.map (it p) r) := by simp
  rw [e4]
  exact RunB.le (RunB.bind hloop (RunB.bind (B := 0) h3 RunB.pure)) (by omega)
end
end Mine
end
-- part HdS
section
theorem Mine.offHdS : True := by
  w_top off
  k_with_none
  trivial
open PySem PySem.W PyProof.Rows PySem.Calls
namespace Mine
set_option maxRecDepth 100000
set_option linter.unusedVariables false
noncomputable def o_170 : Params → Obj := fun P =>
  { cls := PySem.Value.type "tuple", data := PySem.Data.seq #[] }
noncomputable def o_171 : Params → Obj := fun P =>
  { cls := PySem.Value.none, data := PySem.Data.fields #[] }
noncomputable def o_172 : Params → Obj := fun P =>
  { cls := PySem.Value.type "tuple", data := PySem.Data.seq #[PySem.Value.str (PySem.Str.ofString "code") 2456, PySem.Value.str (PySem.Str.ofString "r") 2457] }
noncomputable def o_173 : Params → Obj := fun P =>
  { cls := PySem.Value.type "tuple", data := PySem.Data.seq #[] }
noncomputable def o_174 : Params → Obj := by
  refine (?f : (K : Params → Obj) → Same K (fun P => ⟨(PySem.Value.none), none, .func (FuncData.mk (PySem.Str.ofString "map_table_b3") (PySem.Str.ofString "map_table_b3") (fArgs (stm 22)) (.stmts (fBody (stm 22))) (fScope (stm 22)) 0 [] (PySem.Value.none) (PySem.Value.none) (PySem.Value.none) (PySem.Value.none) Option.none (PySem.Value.none) (PySem.Value.none) 0), #[]⟩) → Params → Obj) _ (by
    conv in (occs := *) fArgs _ => all_goals whnf
    conv in (occs := *) fBody _ => all_goals whnf
    conv in (occs := *) fScope _ => all_goals whnf
    exact same _)
  exact fun K _ => K
noncomputable def o_175 : Params → Obj := fun P =>
  { cls := PySem.Value.type "code", data := PySem.Data.fields #[PySem.Value.str (PySem.Str.ofString "map_table_b3") 2453, PySem.Value.str (PySem.Str.ofString "map_table_b3") 2454, PySem.Value.str (PySem.Str.ofString "/claim/cut.py") 2455, PySem.Value.int 166 0, PySem.Value.int 1 0, PySem.Value.int 0 0, PySem.Value.int 0 0, PySem.Value.int 3 0, PySem.Value.ref 170, PySem.Value.bool Bool.true, PySem.Value.int 276 0, PySem.Value.ref 171, PySem.Value.none, PySem.Value.ref 172, PySem.Value.ref 173, PySem.Value.ref 174, PySem.Value.int 2458 0, PySem.Value.int 166 0, PySem.Value.str (PySem.Str.ofString "/claim/cut.py") 2459] }
noncomputable def o_176 : Params → Obj := by
  refine (?f : (K : Params → Obj) → Same K (fun P => ⟨(PySem.Value.type "function"), none, .func (FuncData.mk (PySem.Str.ofString "map_table_b3") (PySem.Str.ofString "map_table_b3") (fArgs (stm 22)) (.stmts (fBody (stm 22))) (fScope (stm 22)) 3 [] (PySem.Value.none) (PySem.Value.none) (PySem.Value.none) (PySem.Value.str (PySem.Str.ofString "cpy313.stringprep") 500) Option.none (PySem.Value.ref 175) (PySem.Value.none) 0), #[]⟩) → Params → Obj) _ (by
    conv in (occs := *) fArgs _ => all_goals whnf
    conv in (occs := *) fBody _ => all_goals whnf
    conv in (occs := *) fScope _ => all_goals whnf
    exact same _)
  exact fun K _ => K
noncomputable def o_177 : Params → Obj := fun P =>
  { cls := PySem.Value.type "list", data := PySem.Data.seq #[PySem.Value.int 832 2461, PySem.Value.int 833 2462, PySem.Value.int 8206 2463, PySem.Value.int 8207 2464] }
noncomputable def o_178 : Params → Obj := fun P =>
  { cls := PySem.Value.type "range", data := PySem.Data.fields #[PySem.Value.int 8234 2465, PySem.Value.int 8239 2466, PySem.Value.int 1 2467] }
noncomputable def o_179 : Params → Obj := fun P =>
  { cls := PySem.Value.type "list", data := PySem.Data.seq #[PySem.Value.int 8234 2470, PySem.Value.int 8235 2471, PySem.Value.int 8236 2472, PySem.Value.int 8237 2473, PySem.Value.int 8238 2474] 7 }
noncomputable def o_180 : Params → Obj := fun P =>
  { cls := PySem.Value.type "range_iterator", data := PySem.Data.fields #[PySem.Value.int 8239 0, PySem.Value.int 0 0, PySem.Value.int 1 0] }
noncomputable def o_181 : Params → Obj := fun P =>
  { cls := PySem.Value.type "tuple", data := PySem.Data.seq #[] }
noncomputable def o_182 : Params → Obj := fun P =>
  { cls := PySem.Value.type "StopIteration", data := PySem.Data.fields #[PySem.Value.ref 181, PySem.Value.none, PySem.Value.none, PySem.Value.none, PySem.Value.bool Bool.false, PySem.Value.none] }
noncomputable def o_183 : Params → Obj := fun P =>
  { cls := PySem.Value.type "list", data := PySem.Data.seq #[PySem.Value.int 832 2461, PySem.Value.int 833 2462, PySem.Value.int 8206 2463, PySem.Value.int 8207 2464, PySem.Value.int 8234 2470, PySem.Value.int 8235 2471, PySem.Value.int 8236 2472, PySem.Value.int 8237 2473, PySem.Value.int 8238 2474] }
noncomputable def o_184 : Params → Obj := fun P =>
  { cls := PySem.Value.type "range", data := PySem.Data.fields #[PySem.Value.int 8298 2475, PySem.Value.int 8304 2476, PySem.Value.int 1 2477] }
noncomputable def o_185 : Params → Obj := fun P =>
  { cls := PySem.Value.type "list", data := PySem.Data.seq #[PySem.Value.int 8298 2480, PySem.Value.int 8299 2481, PySem.Value.int 8300 2482, PySem.Value.int 8301 2483, PySem.Value.int 8302 2484, PySem.Value.int 8303 2485] 8 }
noncomputable def o_186 : Params → Obj := fun P =>
  { cls := PySem.Value.type "range_iterator", data := PySem.Data.fields #[PySem.Value.int 8304 0, PySem.Value.int 0 0, PySem.Value.int 1 0] }
noncomputable def o_187 : Params → Obj := fun P =>
  { cls := PySem.Value.type "tuple", data := PySem.Data.seq #[] }
noncomputable def o_188 : Params → Obj := fun P =>
  { cls := PySem.Value.type "StopIteration", data := PySem.Data.fields #[PySem.Value.ref 187, PySem.Value.none, PySem.Value.none, PySem.Value.none, PySem.Value.bool Bool.false, PySem.Value.none] }
noncomputable def o_189 : Params → Obj := fun P =>
  { cls := PySem.Value.type "list", data := PySem.Data.seq #[PySem.Value.int 832 2461, PySem.Value.int 833 2462, PySem.Value.int 8206 2463, PySem.Value.int 8207 2464, PySem.Value.int 8234 2470, PySem.Value.int 8235 2471, PySem.Value.int 8236 2472, PySem.Value.int 8237 2473, PySem.Value.int 8238 2474, PySem.Value.int 8298 2480, PySem.Value.int 8299 2481, PySem.Value.int 8300 2482, PySem.Value.int 8301 2483, PySem.Value.int 8302 2484, PySem.Value.int 8303 2485] }
noncomputable def o_190 : Params → Obj := fun P =>
  { cls := PySem.Value.type "set", data := PySem.Data.set #[(832, PySem.Value.int 832 2461), (833, PySem.Value.int 833 2462), (8234, PySem.Value.int 8234 2470), (8235, PySem.Value.int 8235 2471), (8236, PySem.Value.int 8236 2472), (8237, PySem.Value.int 8237 2473), (8206, PySem.Value.int 8206 2463), (8207, PySem.Value.int 8207 2464), (8238, PySem.Value.int 8238 2474), (8298, PySem.Value.int 8298 2480), (8299, PySem.Value.int 8299 2481), (8300, PySem.Value.int 8300 2482), (8301, PySem.Value.int 8301 2483), (8302, PySem.Value.int 8302 2484), (8303, PySem.Value.int 8303 2485)] 16 { mask := 31, place := #[0, 1, 10, 11, 12, 13, 14, 15, 16, 17, 18, 19, 20, 21, 22], dummies := #[], finger := 0, led := !P.followText "set-order", moves := 1, plain := Bool.true } }
noncomputable def o_191 : Params → Obj := fun P =>
  { cls := PySem.Value.type "list_iterator", data := PySem.Data.fields #[PySem.Value.none, PySem.Value.int 15 0] }
noncomputable def o_192 : Params → Obj := fun P =>
  { cls := PySem.Value.type "tuple", data := PySem.Data.seq #[] }
noncomputable def o_193 : Params → Obj := fun P =>
  { cls := PySem.Value.type "StopIteration", data := PySem.Data.fields #[PySem.Value.ref 192, PySem.Value.none, PySem.Value.none, PySem.Value.none, PySem.Value.bool Bool.false, PySem.Value.none] }
noncomputable def o_194 : Params → Obj := fun P =>
  { cls := PySem.Value.type "tuple", data := PySem.Data.seq #[] }
noncomputable def o_195 : Params → Obj := fun P =>
  { cls := PySem.Value.none, data := PySem.Data.fields #[] }
noncomputable def o_196 : Params → Obj := fun P =>
  { cls := PySem.Value.type "tuple", data := PySem.Data.seq #[PySem.Value.str (PySem.Str.ofString "code") 2505] }
noncomputable def o_197 : Params → Obj := fun P =>
  { cls := PySem.Value.type "tuple", data := PySem.Data.seq #[] }
noncomputable def o_198 : Params → Obj := by
  refine (?f : (K : Params → Obj) → Same K (fun P => ⟨(PySem.Value.none), none, .func (FuncData.mk (PySem.Str.ofString "in_table_c8") (PySem.Str.ofString "in_table_c8") (fArgs (stm 24)) (.stmts (fBody (stm 24))) (fScope (stm 24)) 0 [] (PySem.Value.none) (PySem.Value.none) (PySem.Value.none) (PySem.Value.none) Option.none (PySem.Value.none) (PySem.Value.none) 0), #[]⟩) → Params → Obj) _ (by
    conv in (occs := *) fArgs _ => all_goals whnf
    conv in (occs := *) fBody _ => all_goals whnf
    conv in (occs := *) fScope _ => all_goals whnf
    exact same _)
  exact fun K _ => K
noncomputable def o_199 : Params → Obj := fun P =>
  { cls := PySem.Value.type "code", data := PySem.Data.fields #[PySem.Value.str (PySem.Str.ofString "in_table_c8") 2502, PySem.Value.str (PySem.Str.ofString "in_table_c8") 2503, PySem.Value.str (PySem.Str.ofString "/claim/cut.py") 2504, PySem.Value.int 172 0, PySem.Value.int 1 0, PySem.Value.int 0 0, PySem.Value.int 0 0, PySem.Value.int 3 0, PySem.Value.ref 194, PySem.Value.bool Bool.true, PySem.Value.int 276 0, PySem.Value.ref 195, PySem.Value.none, PySem.Value.ref 196, PySem.Value.ref 197, PySem.Value.ref 198, PySem.Value.int 2506 0, PySem.Value.int 172 0, PySem.Value.str (PySem.Str.ofString "/claim/cut.py") 2507] }
noncomputable def o_200 : Params → Obj := by
  refine (?f : (K : Params → Obj) → Same K (fun P => ⟨(PySem.Value.type "function"), none, .func (FuncData.mk (PySem.Str.ofString "in_table_c8") (PySem.Str.ofString "in_table_c8") (fArgs (stm 24)) (.stmts (fBody (stm 24))) (fScope (stm 24)) 3 [] (PySem.Value.none) (PySem.Value.none) (PySem.Value.none) (PySem.Value.str (PySem.Str.ofString "cpy313.stringprep") 500) Option.none (PySem.Value.ref 199) (PySem.Value.none) 0), #[]⟩) → Params → Obj) _ (by
    conv in (occs := *) fArgs _ => all_goals whnf
    conv in (occs := *) fBody _ => all_goals whnf
    conv in (occs := *) fScope _ => all_goals whnf
    exact same _)
  exact fun K _ => K
noncomputable def o_201 : Params → Obj := fun P =>
  { cls := PySem.Value.type "tuple", data := PySem.Data.seq #[] }
noncomputable def o_202 : Params → Obj := fun P =>
  { cls := PySem.Value.none, data := PySem.Data.fields #[] }
noncomputable def o_203 : Params → Obj := fun P =>
  { cls := PySem.Value.type "tuple", data := PySem.Data.seq #[PySem.Value.str (PySem.Str.ofString "drawn") 2514, PySem.Value.str (PySem.Str.ofString "spelled") 2515, PySem.Value.str (PySem.Str.ofString "marks") 2516, PySem.Value.str (PySem.Str.ofString "ends") 2517, PySem.Value.str (PySem.Str.ofString "written") 2518, PySem.Value.str (PySem.Str.ofString "sent") 2519, PySem.Value.str (PySem.Str.ofString "heard") 2520, PySem.Value.str (PySem.Str.ofString "values") 2521, PySem.Value.str (PySem.Str.ofString "k") 2522, PySem.Value.str (PySem.Str.ofString "v") 2523, PySem.Value.str (PySem.Str.ofString "size") 2524, PySem.Value.str (PySem.Str.ofString "mark") 2525, PySem.Value.str (PySem.Str.ofString "line") 2526, PySem.Value.str (PySem.Str.ofString "loud") 2527, PySem.Value.str (PySem.Str.ofString "numeral") 2528] }
noncomputable def o_204 : Params → Obj := fun P =>
  { cls := PySem.Value.type "tuple", data := PySem.Data.seq #[] }
noncomputable def o_205 : Params → Obj := by
  refine (?f : (K : Params → Obj) → Same K (fun P => ⟨(PySem.Value.none), none, .func (FuncData.mk (PySem.Str.ofString "_law_mail") (PySem.Str.ofString "_law_mail") (fArgs (stm 26)) (.stmts (fBody (stm 26))) (fScope (stm 26)) 0 [] (PySem.Value.none) (PySem.Value.none) (PySem.Value.none) (PySem.Value.none) Option.none (PySem.Value.none) (PySem.Value.none) 0), #[]⟩) → Params → Obj) _ (by
    conv in (occs := *) fArgs _ => all_goals whnf
    conv in (occs := *) fBody _ => all_goals whnf
    conv in (occs := *) fScope _ => all_goals whnf
    exact same _)
  exact fun K _ => K
noncomputable def o_206 : Params → Obj := fun P =>
  { cls := PySem.Value.type "code", data := PySem.Data.fields #[PySem.Value.str (PySem.Str.ofString "_law_mail") 2511, PySem.Value.str (PySem.Str.ofString "_law_mail") 2512, PySem.Value.str (PySem.Str.ofString "/claim/cut.py") 2513, PySem.Value.int 175 0, PySem.Value.int 1 0, PySem.Value.int 0 0, PySem.Value.int 0 0, PySem.Value.int 3 0, PySem.Value.ref 201, PySem.Value.bool Bool.true, PySem.Value.int 276 0, PySem.Value.ref 202, PySem.Value.none, PySem.Value.ref 203, PySem.Value.ref 204, PySem.Value.ref 205, PySem.Value.int 2529 0, PySem.Value.int 175 0, PySem.Value.str (PySem.Str.ofString "/claim/cut.py") 2530] }
noncomputable def o_207 : Params → Obj := by
  refine (?f : (K : Params → Obj) → Same K (fun P => ⟨(PySem.Value.type "function"), none, .func (FuncData.mk (PySem.Str.ofString "_law_mail") (PySem.Str.ofString "_law_mail") (fArgs (stm 26)) (.stmts (fBody (stm 26))) (fScope (stm 26)) 3 [] (PySem.Value.none) (PySem.Value.none) (PySem.Value.none) (PySem.Value.str (PySem.Str.ofString "law_sn0092_01") 2509) Option.none (PySem.Value.ref 206) (PySem.Value.none) 0), #[]⟩) → Params → Obj) _ (by
    conv in (occs := *) fArgs _ => all_goals whnf
    conv in (occs := *) fBody _ => all_goals whnf
    conv in (occs := *) fScope _ => all_goals whnf
    exact same _)
  exact fun K _ => K
noncomputable def o_208 : Params → Obj := fun P =>
  { cls := PySem.Value.type "tuple", data := PySem.Data.seq #[] }
noncomputable def o_209 : Params → Obj := fun P =>
  { cls := PySem.Value.none, data := PySem.Data.fields #[] }
noncomputable def o_210 : Params → Obj := fun P =>
  { cls := PySem.Value.type "tuple", data := PySem.Data.seq #[PySem.Value.str (PySem.Str.ofString "n") 2535, PySem.Value.str (PySem.Str.ofString "v") 2536, PySem.Value.str (PySem.Str.ofString "quotients") 2537, PySem.Value.str (PySem.Str.ofString "rests") 2538, PySem.Value.str (PySem.Str.ofString "turn") 2539, PySem.Value.str (PySem.Str.ofString "quotient") 2540, PySem.Value.str (PySem.Str.ofString "rest") 2541] }
noncomputable def o_211 : Params → Obj := fun P =>
  { cls := PySem.Value.type "tuple", data := PySem.Data.seq #[] }
noncomputable def o_212 : Params → Obj := by
  refine (?f : (K : Params → Obj) → Same K (fun P => ⟨(PySem.Value.none), none, .func (FuncData.mk (PySem.Str.ofString "_law_run") (PySem.Str.ofString "_law_run") (fArgs (stm 27)) (.stmts (fBody (stm 27))) (fScope (stm 27)) 0 [] (PySem.Value.none) (PySem.Value.none) (PySem.Value.none) (PySem.Value.none) Option.none (PySem.Value.none) (PySem.Value.none) 0), #[]⟩) → Params → Obj) _ (by
    conv in (occs := *) fArgs _ => all_goals whnf
    conv in (occs := *) fBody _ => all_goals whnf
    conv in (occs := *) fScope _ => all_goals whnf
    exact same _)
  exact fun K _ => K
noncomputable def o_213 : Params → Obj := fun P =>
  { cls := PySem.Value.type "code", data := PySem.Data.fields #[PySem.Value.str (PySem.Str.ofString "_law_run") 2532, PySem.Value.str (PySem.Str.ofString "_law_run") 2533, PySem.Value.str (PySem.Str.ofString "/claim/cut.py") 2534, PySem.Value.int 206 0, PySem.Value.int 2 0, PySem.Value.int 0 0, PySem.Value.int 0 0, PySem.Value.int 3 0, PySem.Value.ref 208, PySem.Value.bool Bool.true, PySem.Value.int 276 0, PySem.Value.ref 209, PySem.Value.none, PySem.Value.ref 210, PySem.Value.ref 211, PySem.Value.ref 212, PySem.Value.int 2542 0, PySem.Value.int 206 0, PySem.Value.str (PySem.Str.ofString "/claim/cut.py") 2543] }
noncomputable def o_214 : Params → Obj := by
  refine (?f : (K : Params → Obj) → Same K (fun P => ⟨(PySem.Value.type "function"), none, .func (FuncData.mk (PySem.Str.ofString "_law_run") (PySem.Str.ofString "_law_run") (fArgs (stm 27)) (.stmts (fBody (stm 27))) (fScope (stm 27)) 3 [] (PySem.Value.none) (PySem.Value.none) (PySem.Value.none) (PySem.Value.str (PySem.Str.ofString "law_sn0092_01") 2509) Option.none (PySem.Value.ref 213) (PySem.Value.none) 0), #[]⟩) → Params → Obj) _ (by
    conv in (occs := *) fArgs _ => all_goals whnf
    conv in (occs := *) fBody _ => all_goals whnf
    conv in (occs := *) fScope _ => all_goals whnf
    exact same _)
  exact fun K _ => K
noncomputable def o_215 : Params → Obj := fun P =>
  { cls := PySem.Value.type "tuple", data := PySem.Data.seq #[] }
noncomputable def o_216 : Params → Obj := fun P =>
  { cls := PySem.Value.none, data := PySem.Data.fields #[] }
noncomputable def o_217 : Params → Obj := fun P =>
  { cls := PySem.Value.type "tuple", data := PySem.Data.seq #[PySem.Value.str (PySem.Str.ofString "rest") 2548] }
noncomputable def o_218 : Params → Obj := fun P =>
  { cls := PySem.Value.type "tuple", data := PySem.Data.seq #[] }
noncomputable def o_219 : Params → Obj := by
  refine (?f : (K : Params → Obj) → Same K (fun P => ⟨(PySem.Value.none), none, .func (FuncData.mk (PySem.Str.ofString "_law_square_below") (PySem.Str.ofString "_law_square_below") (fArgs (stm 28)) (.stmts (fBody (stm 28))) (fScope (stm 28)) 0 [] (PySem.Value.none) (PySem.Value.none) (PySem.Value.none) (PySem.Value.none) Option.none (PySem.Value.none) (PySem.Value.none) 0), #[]⟩) → Params → Obj) _ (by
    conv in (occs := *) fArgs _ => all_goals whnf
    conv in (occs := *) fBody _ => all_goals whnf
    conv in (occs := *) fScope _ => all_goals whnf
    exact same _)
  exact fun K _ => K
noncomputable def o_220 : Params → Obj := fun P =>
  { cls := PySem.Value.type "code", data := PySem.Data.fields #[PySem.Value.str (PySem.Str.ofString "_law_square_below") 2545, PySem.Value.str (PySem.Str.ofString "_law_square_below") 2546, PySem.Value.str (PySem.Str.ofString "/claim/cut.py") 2547, PySem.Value.int 217 0, PySem.Value.int 1 0, PySem.Value.int 0 0, PySem.Value.int 0 0, PySem.Value.int 3 0, PySem.Value.ref 215, PySem.Value.bool Bool.true, PySem.Value.int 276 0, PySem.Value.ref 216, PySem.Value.none, PySem.Value.ref 217, PySem.Value.ref 218, PySem.Value.ref 219, PySem.Value.int 2549 0, PySem.Value.int 217 0, PySem.Value.str (PySem.Str.ofString "/claim/cut.py") 2550] }
noncomputable def o_221 : Params → Obj := by
  refine (?f : (K : Params → Obj) → Same K (fun P => ⟨(PySem.Value.type "function"), none, .func (FuncData.mk (PySem.Str.ofString "_law_square_below") (PySem.Str.ofString "_law_square_below") (fArgs (stm 28)) (.stmts (fBody (stm 28))) (fScope (stm 28)) 3 [] (PySem.Value.none) (PySem.Value.none) (PySem.Value.none) (PySem.Value.str (PySem.Str.ofString "law_sn0092_01") 2509) Option.none (PySem.Value.ref 220) (PySem.Value.none) 0), #[]⟩) → Params → Obj) _ (by
    conv in (occs := *) fArgs _ => all_goals whnf
    conv in (occs := *) fBody _ => all_goals whnf
    conv in (occs := *) fScope _ => all_goals whnf
    exact same _)
  exact fun K _ => K
noncomputable def o_222 : Params → Obj := fun P =>
  { cls := PySem.Value.type "tuple", data := PySem.Data.seq #[] }
noncomputable def o_223 : Params → Obj := fun P =>
  { cls := PySem.Value.none, data := PySem.Data.fields #[] }
noncomputable def o_224 : Params → Obj := fun P =>
  { cls := PySem.Value.type "tuple", data := PySem.Data.seq #[PySem.Value.str (PySem.Str.ofString "n") 2555, PySem.Value.str (PySem.Str.ofString "pairs") 2556, PySem.Value.str (PySem.Str.ofString "y") 2557, PySem.Value.str (PySem.Str.ofString "x") 2558, PySem.Value.str (PySem.Str.ofString "g") 2559, PySem.Value.str (PySem.Str.ofString "rest") 2560] }
noncomputable def o_225 : Params → Obj := fun P =>
  { cls := PySem.Value.type "tuple", data := PySem.Data.seq #[] }
noncomputable def o_226 : Params → Obj := by
  refine (?f : (K : Params → Obj) → Same K (fun P => ⟨(PySem.Value.none), none, .func (FuncData.mk (PySem.Str.ofString "_law_squares") (PySem.Str.ofString "_law_squares") (fArgs (stm 29)) (.stmts (fBody (stm 29))) (fScope (stm 29)) 0 [] (PySem.Value.none) (PySem.Value.none) (PySem.Value.none) (PySem.Value.none) Option.none (PySem.Value.none) (PySem.Value.none) 0), #[]⟩) → Params → Obj) _ (by
    conv in (occs := *) fArgs _ => all_goals whnf
    conv in (occs := *) fBody _ => all_goals whnf
    conv in (occs := *) fScope _ => all_goals whnf
    exact same _)
  exact fun K _ => K
noncomputable def o_227 : Params → Obj := fun P =>
  { cls := PySem.Value.type "code", data := PySem.Data.fields #[PySem.Value.str (PySem.Str.ofString "_law_squares") 2552, PySem.Value.str (PySem.Str.ofString "_law_squares") 2553, PySem.Value.str (PySem.Str.ofString "/claim/cut.py") 2554, PySem.Value.int 219 0, PySem.Value.int 1 0, PySem.Value.int 0 0, PySem.Value.int 0 0, PySem.Value.int 3 0, PySem.Value.ref 222, PySem.Value.bool Bool.true, PySem.Value.int 276 0, PySem.Value.ref 223, PySem.Value.none, PySem.Value.ref 224, PySem.Value.ref 225, PySem.Value.ref 226, PySem.Value.int 2561 0, PySem.Value.int 219 0, PySem.Value.str (PySem.Str.ofString "/claim/cut.py") 2562] }
noncomputable def o_228 : Params → Obj := by
  refine (?f : (K : Params → Obj) → Same K (fun P => ⟨(PySem.Value.type "function"), none, .func (FuncData.mk (PySem.Str.ofString "_law_squares") (PySem.Str.ofString "_law_squares") (fArgs (stm 29)) (.stmts (fBody (stm 29))) (fScope (stm 29)) 3 [] (PySem.Value.none) (PySem.Value.none) (PySem.Value.none) (PySem.Value.str (PySem.Str.ofString "law_sn0092_01") 2509) Option.none (PySem.Value.ref 227) (PySem.Value.none) 0), #[]⟩) → Params → Obj) _ (by
    conv in (occs := *) fArgs _ => all_goals whnf
    conv in (occs := *) fBody _ => all_goals whnf
    conv in (occs := *) fScope _ => all_goals whnf
    exact same _)
  exact fun K _ => K
noncomputable def o_229 : Params → Obj := fun P =>
  { cls := PySem.Value.type "tuple", data := PySem.Data.seq #[] }
noncomputable def o_230 : Params → Obj := fun P =>
  { cls := PySem.Value.none, data := PySem.Data.fields #[] }
noncomputable def o_231 : Params → Obj := by
  refine (?f : (K : Params → Obj) → Same K (fun P => ⟨(PySem.Value.none), none, .func (FuncData.mk (PySem.Str.ofString "law") (PySem.Str.ofString "law") (fArgs (stm 30)) (.stmts (fBody (stm 30))) (fScope (stm 30)) 0 [] (PySem.Value.none) (PySem.Value.none) (PySem.Value.none) (PySem.Value.none) Option.none (PySem.Value.none) (PySem.Value.none) 0), #[]⟩) → Params → Obj) _ (by
    conv in (occs := *) fArgs _ => all_goals whnf
    conv in (occs := *) fBody _ => all_goals whnf
    conv in (occs := *) fScope _ => all_goals whnf
    exact same _)
  exact fun K _ => K
noncomputable def o_232 : Params → Obj := fun P =>
  { cls := PySem.Value.type "code", data := PySem.Data.fields #[PySem.Value.str (PySem.Str.ofString "law") 2564, PySem.Value.str (PySem.Str.ofString "law") 2565, PySem.Value.str (PySem.Str.ofString "/claim/cut.py") 2566, PySem.Value.int 238 0, PySem.Value.int 1 0, PySem.Value.int 0 0, PySem.Value.int 0 0, PySem.Value.int 3 0, PySem.Value.ref 229, PySem.Value.bool Bool.true, PySem.Value.int 276 0, PySem.Value.ref 230, PySem.Value.none, PySem.Value.none, PySem.Value.none, PySem.Value.ref 231, PySem.Value.int 2567 0, PySem.Value.int 238 0, PySem.Value.str (PySem.Str.ofString "/claim/cut.py") 2568] }
noncomputable def o_233 : Params → Obj := by
  refine (?f : (K : Params → Obj) → Same K (fun P => ⟨(PySem.Value.type "function"), none, .func (FuncData.mk (PySem.Str.ofString "law") (PySem.Str.ofString "law") (fArgs (stm 30)) (.stmts (fBody (stm 30))) (fScope (stm 30)) 3 [] (PySem.Value.none) (PySem.Value.none) (PySem.Value.none) (PySem.Value.str (PySem.Str.ofString "law_sn0092_01") 2509) Option.none (PySem.Value.ref 232) (PySem.Value.none) 0), #[]⟩) → Params → Obj) _ (by
    conv in (occs := *) fArgs _ => all_goals whnf
    conv in (occs := *) fBody _ => all_goals whnf
    conv in (occs := *) fScope _ => all_goals whnf
    exact same _)
  exact fun K _ => K
noncomputable def oo_3_20 : Params → Obj := fun P =>
  { cls := PySem.Value.type "dict", data := PySem.Data.dict #[{ hash := PySem.PyData.keyHash P (PySem.Str.ofString "__name__"), key := PySem.Value.str (PySem.Str.ofString "__name__") 165, val := PySem.Value.str (PySem.Str.ofString "cpy313.stringprep") 500 }, { hash := PySem.PyData.keyHash P (PySem.Str.ofString "__doc__"), key := PySem.Value.str (PySem.Str.ofString "__doc__") 166, val := PySem.Value.none }, { hash := PySem.PyData.keyHash P (PySem.Str.ofString "__package__"), key := PySem.Value.str (PySem.Str.ofString "__package__") 167, val := PySem.Value.none }, { hash := PySem.PyData.keyHash P (PySem.Str.ofString "__loader__"), key := PySem.Value.str (PySem.Str.ofString "__loader__") 168, val := PySem.Value.builtin "__main__.__loader__#opaque" }, { hash := PySem.PyData.keyHash P (PySem.Str.ofString "__spec__"), key := PySem.Value.str (PySem.Str.ofString "__spec__") 169, val := PySem.Value.none }, { hash := PySem.PyData.keyHash P (PySem.Str.ofString "__annotations__"), key := PySem.Value.str (PySem.Str.ofString "__annotations__") 170, val := PySem.Value.ref 6 }, { hash := PySem.PyData.keyHash P (PySem.Str.ofString "__builtins__"), key := PySem.Value.str (PySem.Str.ofString "__builtins__") 171, val := PySem.Value.ref 4 }, { hash := PySem.PyData.keyHash P (PySem.Str.ofString "__file__"), key := PySem.Value.str (PySem.Str.ofString "__file__") 173, val := PySem.Value.str (PySem.Str.ofString "/claim/cut.py") 172 }, { hash := PySem.PyData.keyHash P (PySem.Str.ofString "__cached__"), key := PySem.Value.str (PySem.Str.ofString "__cached__") 174, val := PySem.Value.none }, { hash := PySem.PyData.keyHash P (PySem.Str.ofString "_sre"), key := PySem.Value.str (PySem.Str.ofString "_sre") 275, val := PySem.Value.ref 12 }, { hash := PySem.PyData.keyHash P (PySem.Str.ofString "compute_powers"), key := PySem.Value.str (PySem.Str.ofString "compute_powers") 303, val := PySem.Value.ref 39 }, { hash := PySem.PyData.keyHash P (PySem.Str.ofString "_str_to_int_inner"), key := PySem.Value.str (PySem.Str.ofString "_str_to_int_inner") 314, val := PySem.Value.ref 46 }, { hash := PySem.PyData.keyHash P (PySem.Str.ofString "int_from_string"), key := PySem.Value.str (PySem.Str.ofString "int_from_string") 321, val := PySem.Value.ref 53 }, { hash := PySem.PyData.keyHash P (PySem.Str.ofString "_DIV_LIMIT"), key := PySem.Value.str (PySem.Str.ofString "_DIV_LIMIT") 323, val := PySem.Value.int 4000 322 }, { hash := PySem.PyData.keyHash P (PySem.Str.ofString "_div2n1n"), key := PySem.Value.str (PySem.Str.ofString "_div2n1n") 340, val := PySem.Value.ref 60 }, { hash := PySem.PyData.keyHash P (PySem.Str.ofString "_div3n2n"), key := PySem.Value.str (PySem.Str.ofString "_div3n2n") 354, val := PySem.Value.ref 67 }, { hash := PySem.PyData.keyHash P (PySem.Str.ofString "_int2digits"), key := PySem.Value.str (PySem.Str.ofString "_int2digits") 365, val := PySem.Value.ref 74 }, { hash := PySem.PyData.keyHash P (PySem.Str.ofString "_digits2int"), key := PySem.Value.str (PySem.Str.ofString "_digits2int") 376, val := PySem.Value.ref 81 }, { hash := PySem.PyData.keyHash P (PySem.Str.ofString "_divmod_pos"), key := PySem.Value.str (PySem.Str.ofString "_divmod_pos") 391, val := PySem.Value.ref 88 }, { hash := PySem.PyData.keyHash P (PySem.Str.ofString "int_divmod"), key := PySem.Value.str (PySem.Str.ofString "int_divmod") 401, val := PySem.Value.ref 95 }, { hash := PySem.PyData.keyHash P (PySem.Str.ofString "insort_left"), key := PySem.Value.str (PySem.Str.ofString "insort_left") 416, val := PySem.Value.ref 104 }, { hash := PySem.PyData.keyHash P (PySem.Str.ofString "bisect_left"), key := PySem.Value.str (PySem.Str.ofString "bisect_left") 430, val := PySem.Value.ref 113 }, { hash := PySem.PyData.keyHash P (PySem.Str.ofString "_twin_re_1"), key := PySem.Value.str (PySem.Str.ofString "_twin_re_1") 448, val := PySem.Value.ref 118 }, { hash := PySem.PyData.keyHash P (PySem.Str.ofString "_twin_re_2"), key := PySem.Value.str (PySem.Str.ofString "_twin_re_2") 490, val := PySem.Value.ref 123 }, { hash := PySem.PyData.keyHash P (PySem.Str.ofString "CRLF"), key := PySem.Value.str (PySem.Str.ofString "CRLF") 492, val := PySem.Value.str (PySem.Str.ofString "\x0d\n") 491 }, { hash := PySem.PyData.keyHash P (PySem.Str.ofString "quotedata"), key := PySem.Value.str (PySem.Str.ofString "quotedata") 499, val := PySem.Value.ref 130 }, { hash := PySem.PyData.keyHash P (PySem.Str.ofString "b3_exceptions"), key := PySem.Value.str (PySem.Str.ofString "b3_exceptions") 2452, val := PySem.Value.ref 131 }] 27 }
noncomputable def oo_3_22 : Params → Obj := fun P =>
  { cls := PySem.Value.type "dict", data := PySem.Data.dict #[{ hash := PySem.PyData.keyHash P (PySem.Str.ofString "__name__"), key := PySem.Value.str (PySem.Str.ofString "__name__") 165, val := PySem.Value.str (PySem.Str.ofString "cpy313.stringprep") 500 }, { hash := PySem.PyData.keyHash P (PySem.Str.ofString "__doc__"), key := PySem.Value.str (PySem.Str.ofString "__doc__") 166, val := PySem.Value.none }, { hash := PySem.PyData.keyHash P (PySem.Str.ofString "__package__"), key := PySem.Value.str (PySem.Str.ofString "__package__") 167, val := PySem.Value.none }, { hash := PySem.PyData.keyHash P (PySem.Str.ofString "__loader__"), key := PySem.Value.str (PySem.Str.ofString "__loader__") 168, val := PySem.Value.builtin "__main__.__loader__#opaque" }, { hash := PySem.PyData.keyHash P (PySem.Str.ofString "__spec__"), key := PySem.Value.str (PySem.Str.ofString "__spec__") 169, val := PySem.Value.none }, { hash := PySem.PyData.keyHash P (PySem.Str.ofString "__annotations__"), key := PySem.Value.str (PySem.Str.ofString "__annotations__") 170, val := PySem.Value.ref 6 }, { hash := PySem.PyData.keyHash P (PySem.Str.ofString "__builtins__"), key := PySem.Value.str (PySem.Str.ofString "__builtins__") 171, val := PySem.Value.ref 4 }, { hash := PySem.PyData.keyHash P (PySem.Str.ofString "__file__"), key := PySem.Value.str (PySem.Str.ofString "__file__") 173, val := PySem.Value.str (PySem.Str.ofString "/claim/cut.py") 172 }, { hash := PySem.PyData.keyHash P (PySem.Str.ofString "__cached__"), key := PySem.Value.str (PySem.Str.ofString "__cached__") 174, val := PySem.Value.none }, { hash := PySem.PyData.keyHash P (PySem.Str.ofString "_sre"), key := PySem.Value.str (PySem.Str.ofString "_sre") 275, val := PySem.Value.ref 12 }, { hash := PySem.PyData.keyHash P (PySem.Str.ofString "compute_powers"), key := PySem.Value.str (PySem.Str.ofString "compute_powers") 303, val := PySem.Value.ref 39 }, { hash := PySem.PyData.keyHash P (PySem.Str.ofString "_str_to_int_inner"), key := PySem.Value.str (PySem.Str.ofString "_str_to_int_inner") 314, val := PySem.Value.ref 46 }, { hash := PySem.PyData.keyHash P (PySem.Str.ofString "int_from_string"), key := PySem.Value.str (PySem.Str.ofString "int_from_string") 321, val := PySem.Value.ref 53 }, { hash := PySem.PyData.keyHash P (PySem.Str.ofString "_DIV_LIMIT"), key := PySem.Value.str (PySem.Str.ofString "_DIV_LIMIT") 323, val := PySem.Value.int 4000 322 }, { hash := PySem.PyData.keyHash P (PySem.Str.ofString "_div2n1n"), key := PySem.Value.str (PySem.Str.ofString "_div2n1n") 340, val := PySem.Value.ref 60 }, { hash := PySem.PyData.keyHash P (PySem.Str.ofString "_div3n2n"), key := PySem.Value.str (PySem.Str.ofString "_div3n2n") 354, val := PySem.Value.ref 67 }, { hash := PySem.PyData.keyHash P (PySem.Str.ofString "_int2digits"), key := PySem.Value.str (PySem.Str.ofString "_int2digits") 365, val := PySem.Value.ref 74 }, { hash := PySem.PyData.keyHash P (PySem.Str.ofString "_digits2int"), key := PySem.Value.str (PySem.Str.ofString "_digits2int") 376, val := PySem.Value.ref 81 }, { hash := PySem.PyData.keyHash P (PySem.Str.ofString "_divmod_pos"), key := PySem.Value.str (PySem.Str.ofString "_divmod_pos") 391, val := PySem.Value.ref 88 }, { hash := PySem.PyData.keyHash P (PySem.Str.ofString "int_divmod"), key := PySem.Value.str (PySem.Str.ofString "int_divmod") 401, val := PySem.Value.ref 95 }, { hash := PySem.PyData.keyHash P (PySem.Str.ofString "insort_left"), key := PySem.Value.str (PySem.Str.ofString "insort_left") 416, val := PySem.Value.ref 104 }, { hash := PySem.PyData.keyHash P (PySem.Str.ofString "bisect_left"), key := PySem.Value.str (PySem.Str.ofString "bisect_left") 430, val := PySem.Value.ref 113 }, { hash := PySem.PyData.keyHash P (PySem.Str.ofString "_twin_re_1"), key := PySem.Value.str (PySem.Str.ofString "_twin_re_1") 448, val := PySem.Value.ref 118 }, { hash := PySem.PyData.keyHash P (PySem.Str.ofString "_twin_re_2"), key := PySem.Value.str (PySem.Str.ofString "_twin_re_2") 490, val := PySem.Value.ref 123 }, { hash := PySem.PyData.keyHash P (PySem.Str.ofString "CRLF"), key := PySem.Value.str (PySem.Str.ofString "CRLF") 492, val := PySem.Value.str (PySem.Str.ofString "\x0d\n") 491 }, { hash := PySem.PyData.keyHash P (PySem.Str.ofString "quotedata"), key := PySem.Value.str (PySem.Str.ofString "quotedata") 499, val := PySem.Value.ref 130 }, { hash := PySem.PyData.keyHash P (PySem.Str.ofString "b3_exceptions"), key := PySem.Value.str (PySem.Str.ofString "b3_exceptions") 2452, val := PySem.Value.ref 131 }, { hash := PySem.PyData.keyHash P (PySem.Str.ofString "map_table_b3"), key := PySem.Value.str (PySem.Str.ofString "map_table_b3") 2460, val := PySem.Value.ref 176 }, { hash := PySem.PyData.keyHash P (PySem.Str.ofString "c8_set"), key := PySem.Value.str (PySem.Str.ofString "c8_set") 2501, val := PySem.Value.ref 190 }] 29 }
noncomputable def oo_29_22 : Params → Obj := fun P =>
  { cls := PySem.Value.none, data := PySem.Data.fields #[PySem.Value.int 3 0, PySem.Value.int 0 0, PySem.Value.ref 38, PySem.Value.int 44 0, PySem.Value.int 0 0, PySem.Value.ref 45, PySem.Value.int 54 0, PySem.Value.int 0 0, PySem.Value.ref 52, PySem.Value.int 58 0, PySem.Value.int 0 0, PySem.Value.ref 59, PySem.Value.int 74 0, PySem.Value.int 0 0, PySem.Value.ref 66, PySem.Value.int 84 0, PySem.Value.int 0 0, PySem.Value.ref 73, PySem.Value.int 100 0, PySem.Value.int 0 0, PySem.Value.ref 80, PySem.Value.int 109 0, PySem.Value.int 0 0, PySem.Value.ref 87, PySem.Value.int 120 0, PySem.Value.int 0 0, PySem.Value.ref 94, PySem.Value.int 132 0, PySem.Value.int 0 0, PySem.Value.ref 103, PySem.Value.int 138 0, PySem.Value.int 0 0, PySem.Value.ref 112, PySem.Value.int 162 0, PySem.Value.int 0 0, PySem.Value.ref 129, PySem.Value.int 166 0, PySem.Value.int 0 0, PySem.Value.ref 175] }
noncomputable def oo_3_29 : Params → Obj := fun P =>
  { cls := PySem.Value.type "dict", data := PySem.Data.dict #[{ hash := PySem.PyData.keyHash P (PySem.Str.ofString "__name__"), key := PySem.Value.str (PySem.Str.ofString "__name__") 165, val := PySem.Value.str (PySem.Str.ofString "law_sn0092_01") 2509 }, { hash := PySem.PyData.keyHash P (PySem.Str.ofString "__doc__"), key := PySem.Value.str (PySem.Str.ofString "__doc__") 166, val := PySem.Value.none }, { hash := PySem.PyData.keyHash P (PySem.Str.ofString "__package__"), key := PySem.Value.str (PySem.Str.ofString "__package__") 167, val := PySem.Value.none }, { hash := PySem.PyData.keyHash P (PySem.Str.ofString "__loader__"), key := PySem.Value.str (PySem.Str.ofString "__loader__") 168, val := PySem.Value.builtin "__main__.__loader__#opaque" }, { hash := PySem.PyData.keyHash P (PySem.Str.ofString "__spec__"), key := PySem.Value.str (PySem.Str.ofString "__spec__") 169, val := PySem.Value.none }, { hash := PySem.PyData.keyHash P (PySem.Str.ofString "__annotations__"), key := PySem.Value.str (PySem.Str.ofString "__annotations__") 170, val := PySem.Value.ref 6 }, { hash := PySem.PyData.keyHash P (PySem.Str.ofString "__builtins__"), key := PySem.Value.str (PySem.Str.ofString "__builtins__") 171, val := PySem.Value.ref 4 }, { hash := PySem.PyData.keyHash P (PySem.Str.ofString "__file__"), key := PySem.Value.str (PySem.Str.ofString "__file__") 173, val := PySem.Value.str (PySem.Str.ofString "/claim/cut.py") 172 }, { hash := PySem.PyData.keyHash P (PySem.Str.ofString "__cached__"), key := PySem.Value.str (PySem.Str.ofString "__cached__") 174, val := PySem.Value.none }, { hash := PySem.PyData.keyHash P (PySem.Str.ofString "_sre"), key := PySem.Value.str (PySem.Str.ofString "_sre") 275, val := PySem.Value.ref 12 }, { hash := PySem.PyData.keyHash P (PySem.Str.ofString "compute_powers"), key := PySem.Value.str (PySem.Str.ofString "compute_powers") 303, val := PySem.Value.ref 39 }, { hash := PySem.PyData.keyHash P (PySem.Str.ofString "_str_to_int_inner"), key := PySem.Value.str (PySem.Str.ofString "_str_to_int_inner") 314, val := PySem.Value.ref 46 }, { hash := PySem.PyData.keyHash P (PySem.Str.ofString "int_from_string"), key := PySem.Value.str (PySem.Str.ofString "int_from_string") 321, val := PySem.Value.ref 53 }, { hash := PySem.PyData.keyHash P (PySem.Str.ofString "_DIV_LIMIT"), key := PySem.Value.str (PySem.Str.ofString "_DIV_LIMIT") 323, val := PySem.Value.int 4000 322 }, { hash := PySem.PyData.keyHash P (PySem.Str.ofString "_div2n1n"), key := PySem.Value.str (PySem.Str.ofString "_div2n1n") 340, val := PySem.Value.ref 60 }, { hash := PySem.PyData.keyHash P (PySem.Str.ofString "_div3n2n"), key := PySem.Value.str (PySem.Str.ofString "_div3n2n") 354, val := PySem.Value.ref 67 }, { hash := PySem.PyData.keyHash P (PySem.Str.ofString "_int2digits"), key := PySem.Value.str (PySem.Str.ofString "_int2digits") 365, val := PySem.Value.ref 74 }, { hash := PySem.PyData.keyHash P (PySem.Str.ofString "_digits2int"), key := PySem.Value.str (PySem.Str.ofString "_digits2int") 376, val := PySem.Value.ref 81 }, { hash := PySem.PyData.keyHash P (PySem.Str.ofString "_divmod_pos"), key := PySem.Value.str (PySem.Str.ofString "_divmod_pos") 391, val := PySem.Value.ref 88 }, { hash := PySem.PyData.keyHash P (PySem.Str.ofString "int_divmod"), key := PySem.Value.str (PySem.Str.ofString "int_divmod") 401, val := PySem.Value.ref 95 }, { hash := PySem.PyData.keyHash P (PySem.Str.ofString "insort_left"), key := PySem.Value.str (PySem.Str.ofString "insort_left") 416, val := PySem.Value.ref 104 }, { hash := PySem.PyData.keyHash P (PySem.Str.ofString "bisect_left"), key := PySem.Value.str (PySem.Str.ofString "bisect_left") 430, val := PySem.Value.ref 113 }, { hash := PySem.PyData.keyHash P (PySem.Str.ofString "_twin_re_1"), key := PySem.Value.str (PySem.Str.ofString "_twin_re_1") 448, val := PySem.Value.ref 118 }, { hash := PySem.PyData.keyHash P (PySem.Str.ofString "_twin_re_2"), key := PySem.Value.str (PySem.Str.ofString "_twin_re_2") 490, val := PySem.Value.ref 123 }, { hash := PySem.PyData.keyHash P (PySem.Str.ofString "CRLF"), key := PySem.Value.str (PySem.Str.ofString "CRLF") 492, val := PySem.Value.str (PySem.Str.ofString "\x0d\n") 491 }, { hash := PySem.PyData.keyHash P (PySem.Str.ofString "quotedata"), key := PySem.Value.str (PySem.Str.ofString "quotedata") 499, val := PySem.Value.ref 130 }, { hash := PySem.PyData.keyHash P (PySem.Str.ofString "b3_exceptions"), key := PySem.Value.str (PySem.Str.ofString "b3_exceptions") 2452, val := PySem.Value.ref 131 }, { hash := PySem.PyData.keyHash P (PySem.Str.ofString "map_table_b3"), key := PySem.Value.str (PySem.Str.ofString "map_table_b3") 2460, val := PySem.Value.ref 176 }, { hash := PySem.PyData.keyHash P (PySem.Str.ofString "c8_set"), key := PySem.Value.str (PySem.Str.ofString "c8_set") 2501, val := PySem.Value.ref 190 }, { hash := PySem.PyData.keyHash P (PySem.Str.ofString "in_table_c8"), key := PySem.Value.str (PySem.Str.ofString "in_table_c8") 2508, val := PySem.Value.ref 200 }, { hash := PySem.PyData.keyHash P (PySem.Str.ofString "_law_mail"), key := PySem.Value.str (PySem.Str.ofString "_law_mail") 2531, val := PySem.Value.ref 207 }, { hash := PySem.PyData.keyHash P (PySem.Str.ofString "_law_run"), key := PySem.Value.str (PySem.Str.ofString "_law_run") 2544, val := PySem.Value.ref 214 }, { hash := PySem.PyData.keyHash P (PySem.Str.ofString "_law_square_below"), key := PySem.Value.str (PySem.Str.ofString "_law_square_below") 2551, val := PySem.Value.ref 221 }, { hash := PySem.PyData.keyHash P (PySem.Str.ofString "_law_squares"), key := PySem.Value.str (PySem.Str.ofString "_law_squares") 2563, val := PySem.Value.ref 228 }, { hash := PySem.PyData.keyHash P (PySem.Str.ofString "law"), key := PySem.Value.str (PySem.Str.ofString "law") 2569, val := PySem.Value.ref 233 }] 35 }
noncomputable def oo_29_29 : Params → Obj := fun P =>
  { cls := PySem.Value.none, data := PySem.Data.fields #[PySem.Value.int 3 0, PySem.Value.int 0 0, PySem.Value.ref 38, PySem.Value.int 44 0, PySem.Value.int 0 0, PySem.Value.ref 45, PySem.Value.int 54 0, PySem.Value.int 0 0, PySem.Value.ref 52, PySem.Value.int 58 0, PySem.Value.int 0 0, PySem.Value.ref 59, PySem.Value.int 74 0, PySem.Value.int 0 0, PySem.Value.ref 66, PySem.Value.int 84 0, PySem.Value.int 0 0, PySem.Value.ref 73, PySem.Value.int 100 0, PySem.Value.int 0 0, PySem.Value.ref 80, PySem.Value.int 109 0, PySem.Value.int 0 0, PySem.Value.ref 87, PySem.Value.int 120 0, PySem.Value.int 0 0, PySem.Value.ref 94, PySem.Value.int 132 0, PySem.Value.int 0 0, PySem.Value.ref 103, PySem.Value.int 138 0, PySem.Value.int 0 0, PySem.Value.ref 112, PySem.Value.int 162 0, PySem.Value.int 0 0, PySem.Value.ref 129, PySem.Value.int 166 0, PySem.Value.int 0 0, PySem.Value.ref 175, PySem.Value.int 172 0, PySem.Value.int 0 0, PySem.Value.ref 199, PySem.Value.int 175 0, PySem.Value.int 0 0, PySem.Value.ref 206, PySem.Value.int 206 0, PySem.Value.int 0 0, PySem.Value.ref 213, PySem.Value.int 217 0, PySem.Value.int 0 0, PySem.Value.ref 220, PySem.Value.int 219 0, PySem.Value.int 0 0, PySem.Value.ref 227, PySem.Value.int 238 0, PySem.Value.int 0 0, PySem.Value.ref 232] }
noncomputable def itemsOf : Stmt → List (Int × Str)
  | .Assign _ (.Dict ks vs _) _ => (ks.zip vs).filterMap fun
    | (some (.Constant (.int i) _ _), .Constant (.str s) _ _) => some (i, s)
    | _ => none
  | _ => []
noncomputable def chunks : Nat → List (Int × Str) → List (List (Int × Str))
  | 0, _ => []
  | n + 1, xs => xs.take 17 :: chunks n (xs.drop 17)
noncomputable def cks : List (List (Int × Str)) := chunks 38 (itemsOf (stm 21))
noncomputable def lst : List (Int × Str) := (itemsOf (stm 21)).drop 646
noncomputable def bigO : Obj := dO (entsC 502 cks ++ entsS 2440 lst)
noncomputable def subO (i : Nat) : Obj := ((subs 553 cks.tail ++ [dO (entsS 2440 lst)])[i]?).getD default
noncomputable def tree_a (P : Params) : BT := (.node (sh.o_1 P) (.node (sh.o_2 P) (.node (sh.o_109 P) (.node (sh.o_8 P) (.node (sh.o_16 P) (.node (sh.o_32 P) (.node (sh.o_66 P) (.node (sh.o_133 P) .nil .nil) .nil) (.node (sh.o_98 P) (.node (subO 27) .nil .nil) .nil)) (.node (sh.o_50 P) (.node (sh.o_82 P) (.node (subO 11) .nil .nil) .nil) (.node (sh.o_117 P) .nil .nil))) (.node (sh.o_24 P) (.node (sh.o_42 P) (.node (sh.o_74 P) (.node (subO 3) .nil .nil) .nil) (.node (sh.o_106 P) (.node (subO 35) .nil .nil) .nil)) (.node (sh.o_58 P) (.node (sh.o_90 P) (.node (subO 19) .nil .nil) .nil) (.node (sh.o_125 P) .nil .nil)))) (.node (sh.o_12 P) (.node (sh.o_20 P) (.node (sh.o_38 P) (.node (sh.o_70 P) (.node bigO .nil .nil) .nil) (.node (sh.o_102 P) (.node (subO 31) .nil .nil) .nil)) (.node (sh.o_54 P) (.node (sh.o_86 P) (.node (subO 15) .nil .nil) .nil) (.node (sh.o_121 P) .nil .nil))) (.node (sh.o_28 P) (.node (sh.o_46 P) (.node (sh.o_78 P) (.node (subO 7) .nil .nil) .nil) (.node (sh.o_113 P) .nil .nil)) (.node (sh.o_62 P) (.node (sh.o_94 P) (.node (subO 23) .nil .nil) .nil) (.node (sh.o_129 P) .nil .nil))))) (.node (sh.o_6 P) (.node (sh.o_10 P) (.node (sh.o_18 P) (.node (sh.o_36 P) (.node (sh.o_68 P) (.node (sh.o_135 P) .nil .nil) .nil) (.node (sh.o_100 P) (.node (subO 29) .nil .nil) .nil)) (.node (sh.o_52 P) (.node (sh.o_84 P) (.node (subO 13) .nil .nil) .nil) (.node (sh.o_119 P) .nil .nil))) (.node (sh.o_26 P) (.node (sh.o_44 P) (.node (sh.o_76 P) (.node (subO 5) .nil .nil) .nil) (.node (sh.o_111 P) (.node (subO 37) .nil .nil) .nil)) (.node (sh.o_60 P) (.node (sh.o_92 P) (.node (subO 21) .nil .nil) .nil) (.node (sh.o_127 P) .nil .nil)))) (.node (sh.o_14 P) (.node (sh.o_22 P) (.node (sh.o_40 P) (.node (sh.o_72 P) (.node (subO 1) .nil .nil) .nil) (.node (sh.o_104 P) (.node (subO 33) .nil .nil) .nil)) (.node (sh.o_56 P) (.node (sh.o_88 P) (.node (subO 17) .nil .nil) .nil) (.node (sh.o_123 P) .nil .nil))) (.node (sh.o_110 P) (.node (sh.o_48 P) (.node (sh.o_80 P) (.node (subO 9) .nil .nil) .nil) (.node (sh.o_115 P) .nil .nil)) (.node (sh.o_64 P) (.node (sh.o_96 P) (.node (subO 25) .nil .nil) .nil) (.node (sh.o_131 P) .nil .nil)))))) (.node (sh.o_3 P) (.node (sh.o_5 P) (.node (sh.o_9 P) (.node (sh.o_17 P) (.node (sh.o_35 P) (.node (sh.o_67 P) (.node (sh.o_134 P) .nil .nil) .nil) (.node (sh.o_99 P) (.node (subO 28) .nil .nil) .nil)) (.node (sh.o_51 P) (.node (sh.o_83 P) (.node (subO 12) .nil .nil) .nil) (.node (sh.o_118 P) .nil .nil))) (.node (sh.o_25 P) (.node (sh.o_43 P) (.node (sh.o_75 P) (.node (subO 4) .nil .nil) .nil) (.node (sh.o_107 P) (.node (subO 36) .nil .nil) .nil)) (.node (sh.o_59 P) (.node (sh.o_91 P) (.node (subO 20) .nil .nil) .nil) (.node (sh.o_126 P) .nil .nil)))) (.node (sh.o_13 P) (.node (sh.o_21 P) (.node (sh.o_39 P) (.node (sh.o_71 P) (.node (subO 0) .nil .nil) .nil) (.node (sh.o_103 P) (.node (subO 32) .nil .nil) .nil)) (.node (sh.o_55 P) (.node (sh.o_87 P) (.node (subO 16) .nil .nil) .nil) (.node (sh.o_122 P) .nil .nil))) (.node (sh.o_29 P) (.node (sh.o_47 P) (.node (sh.o_79 P) (.node (subO 8) .nil .nil) .nil) (.node (sh.o_114 P) .nil .nil)) (.node (sh.o_63 P) (.node (sh.o_95 P) (.node (subO 24) .nil .nil) .nil) (.node (sh.o_130 P) .nil .nil))))) (.node (sh.o_7 P) (.node (sh.o_11 P) (.node (sh.o_19 P) (.node (sh.o_37 P) (.node (sh.o_69 P) (.node (sh.o_136 P) .nil .nil) .nil) (.node (sh.o_101 P) (.node (subO 30) .nil .nil) .nil)) (.node (sh.o_53 P) (.node (sh.o_85 P) (.node (subO 14) .nil .nil) .nil) (.node (sh.o_120 P) .nil .nil))) (.node (sh.o_27 P) (.node (sh.o_45 P) (.node (sh.o_77 P) (.node (subO 6) .nil .nil) .nil) (.node (sh.o_112 P) .nil .nil)) (.node (sh.o_61 P) (.node (sh.o_93 P) (.node (subO 22) .nil .nil) .nil) (.node (sh.o_128 P) .nil .nil)))) (.node (sh.o_15 P) (.node (sh.o_23 P) (.node (sh.o_41 P) (.node (sh.o_73 P) (.node (subO 2) .nil .nil) .nil) (.node (sh.o_105 P) (.node (subO 34) .nil .nil) .nil)) (.node (sh.o_57 P) (.node (sh.o_89 P) (.node (subO 18) .nil .nil) .nil) (.node (sh.o_124 P) .nil .nil))) (.node (sh.o_31 P) (.node (sh.o_49 P) (.node (sh.o_81 P) (.node (subO 10) .nil .nil) .nil) (.node (sh.o_116 P) .nil .nil)) (.node (sh.o_65 P) (.node (sh.o_97 P) (.node (subO 26) .nil .nil) .nil) (.node (sh.o_132 P) .nil .nil)))))))
noncomputable def tree_b (P : Params) : BT := (.node (sh.o_1 P) (.node (sh.o_2 P) (.node (oo_3_20 P) (.node (sh.o_8 P) (.node (sh.o_16 P) (.node (sh.o_32 P) (.node (sh.o_66 P) (.node (sh.o_133 P) .nil .nil) .nil) (.node (sh.o_98 P) (.node (subO 27) .nil .nil) .nil)) (.node (sh.o_50 P) (.node (sh.o_82 P) (.node (subO 11) .nil .nil) .nil) (.node (sh.o_117 P) .nil .nil))) (.node (sh.o_24 P) (.node (sh.o_42 P) (.node (sh.o_74 P) (.node (subO 3) .nil .nil) .nil) (.node (sh.o_106 P) (.node (subO 35) .nil .nil) .nil)) (.node (sh.o_58 P) (.node (sh.o_90 P) (.node (subO 19) .nil .nil) .nil) (.node (sh.o_125 P) .nil .nil)))) (.node (sh.o_12 P) (.node (sh.o_20 P) (.node (sh.o_38 P) (.node (sh.o_70 P) (.node bigO .nil .nil) .nil) (.node (sh.o_102 P) (.node (subO 31) .nil .nil) .nil)) (.node (sh.o_54 P) (.node (sh.o_86 P) (.node (subO 15) .nil .nil) .nil) (.node (sh.o_121 P) .nil .nil))) (.node (sh.o_28 P) (.node (sh.o_46 P) (.node (sh.o_78 P) (.node (subO 7) .nil .nil) .nil) (.node (sh.o_113 P) .nil .nil)) (.node (sh.o_62 P) (.node (sh.o_94 P) (.node (subO 23) .nil .nil) .nil) (.node (sh.o_129 P) .nil .nil))))) (.node (sh.o_6 P) (.node (sh.o_10 P) (.node (sh.o_18 P) (.node (sh.o_36 P) (.node (sh.o_68 P) (.node (sh.o_135 P) .nil .nil) .nil) (.node (sh.o_100 P) (.node (subO 29) .nil .nil) .nil)) (.node (sh.o_52 P) (.node (sh.o_84 P) (.node (subO 13) .nil .nil) .nil) (.node (sh.o_119 P) .nil .nil))) (.node (sh.o_26 P) (.node (sh.o_44 P) (.node (sh.o_76 P) (.node (subO 5) .nil .nil) .nil) (.node (sh.o_111 P) (.node (subO 37) .nil .nil) .nil)) (.node (sh.o_60 P) (.node (sh.o_92 P) (.node (subO 21) .nil .nil) .nil) (.node (sh.o_127 P) .nil .nil)))) (.node (sh.o_14 P) (.node (sh.o_22 P) (.node (sh.o_40 P) (.node (sh.o_72 P) (.node (subO 1) .nil .nil) .nil) (.node (sh.o_104 P) (.node (subO 33) .nil .nil) .nil)) (.node (sh.o_56 P) (.node (sh.o_88 P) (.node (subO 17) .nil .nil) .nil) (.node (sh.o_123 P) .nil .nil))) (.node (sh.o_110 P) (.node (sh.o_48 P) (.node (sh.o_80 P) (.node (subO 9) .nil .nil) .nil) (.node (sh.o_115 P) .nil .nil)) (.node (sh.o_64 P) (.node (sh.o_96 P) (.node (subO 25) .nil .nil) .nil) (.node (sh.o_131 P) .nil .nil)))))) (.node (sh.o_3 P) (.node (sh.o_5 P) (.node (sh.o_9 P) (.node (sh.o_17 P) (.node (sh.o_35 P) (.node (sh.o_67 P) (.node (sh.o_134 P) .nil .nil) .nil) (.node (sh.o_99 P) (.node (subO 28) .nil .nil) .nil)) (.node (sh.o_51 P) (.node (sh.o_83 P) (.node (subO 12) .nil .nil) .nil) (.node (sh.o_118 P) .nil .nil))) (.node (sh.o_25 P) (.node (sh.o_43 P) (.node (sh.o_75 P) (.node (subO 4) .nil .nil) .nil) (.node (sh.o_107 P) (.node (subO 36) .nil .nil) .nil)) (.node (sh.o_59 P) (.node (sh.o_91 P) (.node (subO 20) .nil .nil) .nil) (.node (sh.o_126 P) .nil .nil)))) (.node (sh.o_13 P) (.node (sh.o_21 P) (.node (sh.o_39 P) (.node (sh.o_71 P) (.node (subO 0) .nil .nil) .nil) (.node (sh.o_103 P) (.node (subO 32) .nil .nil) .nil)) (.node (sh.o_55 P) (.node (sh.o_87 P) (.node (subO 16) .nil .nil) .nil) (.node (sh.o_122 P) .nil .nil))) (.node (sh.o_29 P) (.node (sh.o_47 P) (.node (sh.o_79 P) (.node (subO 8) .nil .nil) .nil) (.node (sh.o_114 P) .nil .nil)) (.node (sh.o_63 P) (.node (sh.o_95 P) (.node (subO 24) .nil .nil) .nil) (.node (sh.o_130 P) .nil .nil))))) (.node (sh.o_7 P) (.node (sh.o_11 P) (.node (sh.o_19 P) (.node (sh.o_37 P) (.node (sh.o_69 P) (.node (sh.o_136 P) .nil .nil) .nil) (.node (sh.o_101 P) (.node (subO 30) .nil .nil) .nil)) (.node (sh.o_53 P) (.node (sh.o_85 P) (.node (subO 14) .nil .nil) .nil) (.node (sh.o_120 P) .nil .nil))) (.node (sh.o_27 P) (.node (sh.o_45 P) (.node (sh.o_77 P) (.node (subO 6) .nil .nil) .nil) (.node (sh.o_112 P) .nil .nil)) (.node (sh.o_61 P) (.node (sh.o_93 P) (.node (subO 22) .nil .nil) .nil) (.node (sh.o_128 P) .nil .nil)))) (.node (sh.o_15 P) (.node (sh.o_23 P) (.node (sh.o_41 P) (.node (sh.o_73 P) (.node (subO 2) .nil .nil) .nil) (.node (sh.o_105 P) (.node (subO 34) .nil .nil) .nil)) (.node (sh.o_57 P) (.node (sh.o_89 P) (.node (subO 18) .nil .nil) .nil) (.node (sh.o_124 P) .nil .nil))) (.node (sh.o_31 P) (.node (sh.o_49 P) (.node (sh.o_81 P) (.node (subO 10) .nil .nil) .nil) (.node (sh.o_116 P) .nil .nil)) (.node (sh.o_65 P) (.node (sh.o_97 P) (.node (subO 26) .nil .nil) .nil) (.node (sh.o_132 P) .nil .nil)))))))
noncomputable def tree_c (P : Params) : BT := (.node (sh.o_1 P) (.node (sh.o_2 P) (.node (oo_3_22 P) (.node (sh.o_8 P) (.node (sh.o_16 P) (.node (sh.o_32 P) (.node (sh.o_66 P) (.node (sh.o_133 P) .nil .nil) (.node (o_191 P) .nil .nil)) (.node (sh.o_98 P) (.node (subO 27) .nil .nil) .nil)) (.node (sh.o_50 P) (.node (sh.o_82 P) (.node (subO 11) .nil .nil) .nil) (.node (sh.o_117 P) (.node (o_175 P) .nil .nil) .nil))) (.node (sh.o_24 P) (.node (sh.o_42 P) (.node (sh.o_74 P) (.node (subO 3) .nil .nil) .nil) (.node (sh.o_106 P) (.node (subO 35) .nil .nil) .nil)) (.node (sh.o_58 P) (.node (sh.o_90 P) (.node (subO 19) .nil .nil) .nil) (.node (sh.o_125 P) (.node (o_183 P) .nil .nil) .nil)))) (.node (sh.o_12 P) (.node (sh.o_20 P) (.node (sh.o_38 P) (.node (sh.o_70 P) (.node bigO .nil .nil) .nil) (.node (sh.o_102 P) (.node (subO 31) .nil .nil) .nil)) (.node (sh.o_54 P) (.node (sh.o_86 P) (.node (subO 15) .nil .nil) .nil) (.node (sh.o_121 P) (.node (o_179 P) .nil .nil) .nil))) (.node (sh.o_28 P) (.node (sh.o_46 P) (.node (sh.o_78 P) (.node (subO 7) .nil .nil) .nil) (.node (sh.o_113 P) (.node (o_171 P) .nil .nil) .nil)) (.node (sh.o_62 P) (.node (sh.o_94 P) (.node (subO 23) .nil .nil) .nil) (.node (sh.o_129 P) (.node (o_187 P) .nil .nil) .nil))))) (.node (sh.o_6 P) (.node (sh.o_10 P) (.node (sh.o_18 P) (.node (sh.o_36 P) (.node (sh.o_68 P) (.node (sh.o_135 P) .nil .nil) (.node (o_193 P) .nil .nil)) (.node (sh.o_100 P) (.node (subO 29) .nil .nil) .nil)) (.node (sh.o_52 P) (.node (sh.o_84 P) (.node (subO 13) .nil .nil) .nil) (.node (sh.o_119 P) (.node (o_177 P) .nil .nil) .nil))) (.node (sh.o_26 P) (.node (sh.o_44 P) (.node (sh.o_76 P) (.node (subO 5) .nil .nil) .nil) (.node (sh.o_111 P) (.node (subO 37) .nil .nil) .nil)) (.node (sh.o_60 P) (.node (sh.o_92 P) (.node (subO 21) .nil .nil) .nil) (.node (sh.o_127 P) (.node (o_185 P) .nil .nil) .nil)))) (.node (sh.o_14 P) (.node (sh.o_22 P) (.node (sh.o_40 P) (.node (sh.o_72 P) (.node (subO 1) .nil .nil) .nil) (.node (sh.o_104 P) (.node (subO 33) .nil .nil) .nil)) (.node (sh.o_56 P) (.node (sh.o_88 P) (.node (subO 17) .nil .nil) .nil) (.node (sh.o_123 P) (.node (o_181 P) .nil .nil) .nil))) (.node (oo_29_22 P) (.node (sh.o_48 P) (.node (sh.o_80 P) (.node (subO 9) .nil .nil) .nil) (.node (sh.o_115 P) (.node (o_173 P) .nil .nil) .nil)) (.node (sh.o_64 P) (.node (sh.o_96 P) (.node (subO 25) .nil .nil) .nil) (.node (sh.o_131 P) (.node (o_189 P) .nil .nil) .nil)))))) (.node (sh.o_3 P) (.node (sh.o_5 P) (.node (sh.o_9 P) (.node (sh.o_17 P) (.node (sh.o_35 P) (.node (sh.o_67 P) (.node (sh.o_134 P) .nil .nil) (.node (o_192 P) .nil .nil)) (.node (sh.o_99 P) (.node (subO 28) .nil .nil) .nil)) (.node (sh.o_51 P) (.node (sh.o_83 P) (.node (subO 12) .nil .nil) .nil) (.node (sh.o_118 P) (.node (o_176 P) .nil .nil) .nil))) (.node (sh.o_25 P) (.node (sh.o_43 P) (.node (sh.o_75 P) (.node (subO 4) .nil .nil) .nil) (.node (sh.o_107 P) (.node (subO 36) .nil .nil) .nil)) (.node (sh.o_59 P) (.node (sh.o_91 P) (.node (subO 20) .nil .nil) .nil) (.node (sh.o_126 P) (.node (o_184 P) .nil .nil) .nil)))) (.node (sh.o_13 P) (.node (sh.o_21 P) (.node (sh.o_39 P) (.node (sh.o_71 P) (.node (subO 0) .nil .nil) .nil) (.node (sh.o_103 P) (.node (subO 32) .nil .nil) .nil)) (.node (sh.o_55 P) (.node (sh.o_87 P) (.node (subO 16) .nil .nil) .nil) (.node (sh.o_122 P) (.node (o_180 P) .nil .nil) .nil))) (.node (sh.o_29 P) (.node (sh.o_47 P) (.node (sh.o_79 P) (.node (subO 8) .nil .nil) .nil) (.node (sh.o_114 P) (.node (o_172 P) .nil .nil) .nil)) (.node (sh.o_63 P) (.node (sh.o_95 P) (.node (subO 24) .nil .nil) .nil) (.node (sh.o_130 P) (.node (o_188 P) .nil .nil) .nil))))) (.node (sh.o_7 P) (.node (sh.o_11 P) (.node (sh.o_19 P) (.node (sh.o_37 P) (.node (sh.o_69 P) (.node (sh.o_136 P) .nil .nil) .nil) (.node (sh.o_101 P) (.node (subO 30) .nil .nil) .nil)) (.node (sh.o_53 P) (.node (sh.o_85 P) (.node (subO 14) .nil .nil) .nil) (.node (sh.o_120 P) (.node (o_178 P) .nil .nil) .nil))) (.node (sh.o_27 P) (.node (sh.o_45 P) (.node (sh.o_77 P) (.node (subO 6) .nil .nil) .nil) (.node (sh.o_112 P) (.node (o_170 P) .nil .nil) .nil)) (.node (sh.o_61 P) (.node (sh.o_93 P) (.node (subO 22) .nil .nil) .nil) (.node (sh.o_128 P) (.node (o_186 P) .nil .nil) .nil)))) (.node (sh.o_15 P) (.node (sh.o_23 P) (.node (sh.o_41 P) (.node (sh.o_73 P) (.node (subO 2) .nil .nil) .nil) (.node (sh.o_105 P) (.node (subO 34) .nil .nil) .nil)) (.node (sh.o_57 P) (.node (sh.o_89 P) (.node (subO 18) .nil .nil) .nil) (.node (sh.o_124 P) (.node (o_182 P) .nil .nil) .nil))) (.node (sh.o_31 P) (.node (sh.o_49 P) (.node (sh.o_81 P) (.node (subO 10) .nil .nil) .nil) (.node (sh.o_116 P) (.node (o_174 P) .nil .nil) .nil)) (.node (sh.o_65 P) (.node (sh.o_97 P) (.node (subO 26) .nil .nil) .nil) (.node (sh.o_132 P) (.node (o_190 P) .nil .nil) .nil)))))))
noncomputable def tree_d (P : Params) : BT := (.node (sh.o_1 P) (.node (sh.o_2 P) (.node (oo_3_29 P) (.node (sh.o_8 P) (.node (sh.o_16 P) (.node (sh.o_32 P) (.node (sh.o_66 P) (.node (sh.o_133 P) .nil .nil) (.node (o_191 P) .nil .nil)) (.node (sh.o_98 P) (.node (subO 27) .nil .nil) (.node (o_223 P) .nil .nil))) (.node (sh.o_50 P) (.node (sh.o_82 P) (.node (subO 11) .nil .nil) (.node (o_207 P) .nil .nil)) (.node (sh.o_117 P) (.node (o_175 P) .nil .nil) .nil))) (.node (sh.o_24 P) (.node (sh.o_42 P) (.node (sh.o_74 P) (.node (subO 3) .nil .nil) (.node (o_199 P) .nil .nil)) (.node (sh.o_106 P) (.node (subO 35) .nil .nil) (.node (o_231 P) .nil .nil))) (.node (sh.o_58 P) (.node (sh.o_90 P) (.node (subO 19) .nil .nil) (.node (o_215 P) .nil .nil)) (.node (sh.o_125 P) (.node (o_183 P) .nil .nil) .nil)))) (.node (sh.o_12 P) (.node (sh.o_20 P) (.node (sh.o_38 P) (.node (sh.o_70 P) (.node bigO .nil .nil) (.node (o_195 P) .nil .nil)) (.node (sh.o_102 P) (.node (subO 31) .nil .nil) (.node (o_227 P) .nil .nil))) (.node (sh.o_54 P) (.node (sh.o_86 P) (.node (subO 15) .nil .nil) (.node (o_211 P) .nil .nil)) (.node (sh.o_121 P) (.node (o_179 P) .nil .nil) .nil))) (.node (sh.o_28 P) (.node (sh.o_46 P) (.node (sh.o_78 P) (.node (subO 7) .nil .nil) (.node (o_203 P) .nil .nil)) (.node (sh.o_113 P) (.node (o_171 P) .nil .nil) .nil)) (.node (sh.o_62 P) (.node (sh.o_94 P) (.node (subO 23) .nil .nil) (.node (o_219 P) .nil .nil)) (.node (sh.o_129 P) (.node (o_187 P) .nil .nil) .nil))))) (.node (sh.o_6 P) (.node (sh.o_10 P) (.node (sh.o_18 P) (.node (sh.o_36 P) (.node (sh.o_68 P) (.node (sh.o_135 P) .nil .nil) (.node (o_193 P) .nil .nil)) (.node (sh.o_100 P) (.node (subO 29) .nil .nil) (.node (o_225 P) .nil .nil))) (.node (sh.o_52 P) (.node (sh.o_84 P) (.node (subO 13) .nil .nil) (.node (o_209 P) .nil .nil)) (.node (sh.o_119 P) (.node (o_177 P) .nil .nil) .nil))) (.node (sh.o_26 P) (.node (sh.o_44 P) (.node (sh.o_76 P) (.node (subO 5) .nil .nil) (.node (o_201 P) .nil .nil)) (.node (sh.o_111 P) (.node (subO 37) .nil .nil) (.node (o_233 P) .nil .nil))) (.node (sh.o_60 P) (.node (sh.o_92 P) (.node (subO 21) .nil .nil) (.node (o_217 P) .nil .nil)) (.node (sh.o_127 P) (.node (o_185 P) .nil .nil) .nil)))) (.node (sh.o_14 P) (.node (sh.o_22 P) (.node (sh.o_40 P) (.node (sh.o_72 P) (.node (subO 1) .nil .nil) (.node (o_197 P) .nil .nil)) (.node (sh.o_104 P) (.node (subO 33) .nil .nil) (.node (o_229 P) .nil .nil))) (.node (sh.o_56 P) (.node (sh.o_88 P) (.node (subO 17) .nil .nil) (.node (o_213 P) .nil .nil)) (.node (sh.o_123 P) (.node (o_181 P) .nil .nil) .nil))) (.node (oo_29_29 P) (.node (sh.o_48 P) (.node (sh.o_80 P) (.node (subO 9) .nil .nil) (.node (o_205 P) .nil .nil)) (.node (sh.o_115 P) (.node (o_173 P) .nil .nil) .nil)) (.node (sh.o_64 P) (.node (sh.o_96 P) (.node (subO 25) .nil .nil) (.node (o_221 P) .nil .nil)) (.node (sh.o_131 P) (.node (o_189 P) .nil .nil) .nil)))))) (.node (sh.o_3 P) (.node (sh.o_5 P) (.node (sh.o_9 P) (.node (sh.o_17 P) (.node (sh.o_35 P) (.node (sh.o_67 P) (.node (sh.o_134 P) .nil .nil) (.node (o_192 P) .nil .nil)) (.node (sh.o_99 P) (.node (subO 28) .nil .nil) (.node (o_224 P) .nil .nil))) (.node (sh.o_51 P) (.node (sh.o_83 P) (.node (subO 12) .nil .nil) (.node (o_208 P) .nil .nil)) (.node (sh.o_118 P) (.node (o_176 P) .nil .nil) .nil))) (.node (sh.o_25 P) (.node (sh.o_43 P) (.node (sh.o_75 P) (.node (subO 4) .nil .nil) (.node (o_200 P) .nil .nil)) (.node (sh.o_107 P) (.node (subO 36) .nil .nil) (.node (o_232 P) .nil .nil))) (.node (sh.o_59 P) (.node (sh.o_91 P) (.node (subO 20) .nil .nil) (.node (o_216 P) .nil .nil)) (.node (sh.o_126 P) (.node (o_184 P) .nil .nil) .nil)))) (.node (sh.o_13 P) (.node (sh.o_21 P) (.node (sh.o_39 P) (.node (sh.o_71 P) (.node (subO 0) .nil .nil) (.node (o_196 P) .nil .nil)) (.node (sh.o_103 P) (.node (subO 32) .nil .nil) (.node (o_228 P) .nil .nil))) (.node (sh.o_55 P) (.node (sh.o_87 P) (.node (subO 16) .nil .nil) (.node (o_212 P) .nil .nil)) (.node (sh.o_122 P) (.node (o_180 P) .nil .nil) .nil))) (.node (sh.o_29 P) (.node (sh.o_47 P) (.node (sh.o_79 P) (.node (subO 8) .nil .nil) (.node (o_204 P) .nil .nil)) (.node (sh.o_114 P) (.node (o_172 P) .nil .nil) .nil)) (.node (sh.o_63 P) (.node (sh.o_95 P) (.node (subO 24) .nil .nil) (.node (o_220 P) .nil .nil)) (.node (sh.o_130 P) (.node (o_188 P) .nil .nil) .nil))))) (.node (sh.o_7 P) (.node (sh.o_11 P) (.node (sh.o_19 P) (.node (sh.o_37 P) (.node (sh.o_69 P) (.node (sh.o_136 P) .nil .nil) (.node (o_194 P) .nil .nil)) (.node (sh.o_101 P) (.node (subO 30) .nil .nil) (.node (o_226 P) .nil .nil))) (.node (sh.o_53 P) (.node (sh.o_85 P) (.node (subO 14) .nil .nil) (.node (o_210 P) .nil .nil)) (.node (sh.o_120 P) (.node (o_178 P) .nil .nil) .nil))) (.node (sh.o_27 P) (.node (sh.o_45 P) (.node (sh.o_77 P) (.node (subO 6) .nil .nil) (.node (o_202 P) .nil .nil)) (.node (sh.o_112 P) (.node (o_170 P) .nil .nil) .nil)) (.node (sh.o_61 P) (.node (sh.o_93 P) (.node (subO 22) .nil .nil) (.node (o_218 P) .nil .nil)) (.node (sh.o_128 P) (.node (o_186 P) .nil .nil) .nil)))) (.node (sh.o_15 P) (.node (sh.o_23 P) (.node (sh.o_41 P) (.node (sh.o_73 P) (.node (subO 2) .nil .nil) (.node (o_198 P) .nil .nil)) (.node (sh.o_105 P) (.node (subO 34) .nil .nil) (.node (o_230 P) .nil .nil))) (.node (sh.o_57 P) (.node (sh.o_89 P) (.node (subO 18) .nil .nil) (.node (o_214 P) .nil .nil)) (.node (sh.o_124 P) (.node (o_182 P) .nil .nil) .nil))) (.node (sh.o_31 P) (.node (sh.o_49 P) (.node (sh.o_81 P) (.node (subO 10) .nil .nil) (.node (o_206 P) .nil .nil)) (.node (sh.o_116 P) (.node (o_174 P) .nil .nil) .nil)) (.node (sh.o_65 P) (.node (sh.o_97 P) (.node (subO 26) .nil .nil) (.node (o_222 P) .nil .nil)) (.node (sh.o_132 P) (.node (o_190 P) .nil .nil) .nil)))))))
end Mine
end
-- part HdD
section
theorem Mine.offHdD : True := by
  w_top off
  k_with_none
  trivial
open PySem PySem.W PyProof.Rows PySem.Calls
namespace Mine
set_option maxRecDepth 100000
set_option maxHeartbeats 0
set_option linter.unusedVariables false
noncomputable def dictV : Stmt → PySem.Expr
  | .Assign _ v _ => v
  | _ => default
noncomputable def dPos : Pos := (dictV (stm 21)).pos
noncomputable def dKeys : PySem.Expr → List (Option PySem.Expr)
  | .Dict ks _ _ => ks
  | _ => []
noncomputable def dVals : PySem.Expr → List PySem.Expr
  | .Dict _ vs _ => vs
  | _ => []
theorem items_split : itemsOf (stm 21) = cks.flatten ++ lst := by kernel_rfl
theorem items_it : ((evalEachOpt (dKeys (dictV (stm 21))) sh.env_1).zip ((evalEach (dVals (dictV (stm 21))) sh.env_1).map fun v => do let x ← v; standAt dPos; pure x)) = (itemsOf (stm 21)).map (it dPos) := by kernel_rfl
noncomputable def upB : Int → List (Int × Str) → Bool
  | _, [] => true
  | lo, x :: r => decide (lo < x.1) && decide (0 ≤ x.1) && decide (x.1 < 1152921504606846976) && upB x.1 r
theorem up_of : ∀ {lo : Int} {xs : List (Int × Str)}, upB lo xs = true → Up lo xs
  | _, [], _ => trivial
  | lo, x :: r, h => by
    simp only [upB, Bool.and_eq_true, decide_eq_true_eq] at h
    exact ⟨h.1.1.1, h.1.1.2, by have := h.1.2; have e2 : (2 : Int) ^ 60 = 1152921504606846976 := by decide
                                omega, up_of h.2⟩
theorem items_up : Up (-1) (cks.flatten ++ lst) := up_of (by decide +kernel)
theorem cks_len : ∀ c ∈ cks, c.length = 17 := by decide +kernel
theorem lst_len : lst.length = 4 := by decide +kernel
end Mine
end
-- part HdE
section
theorem Mine.offHdE : True := by
  w_top off
  k_with_none
  trivial
open PySem PySem.W PyProof.Rows PySem.Calls
namespace Mine
set_option maxRecDepth 100000
set_option maxHeartbeats 0
set_option linter.unusedVariables false
theorem list_a (P : Params) : (tree_a P).list 170 = (sh.tree_136 P).list 131 ++ (bigO :: (subs 553 cks.tail ++ [dO (entsS 2440 lst)])) := by kernel_rfl
theorem heap_a (P : Params) : ap (absHeap (sh.tree_136 P) 131 {}) (bigO :: (subs 553 cks.tail ++ [dO (entsS 2440 lst)])) = absHeap (tree_a P) 170 {} := by
  unfold ap absHeap
  rw [list_a]
  simp only [List.append_toArray]
noncomputable abbrev stA (w : World) (os : OsState) : SharedT := ⟨sh.tree_136 w.params, 131, {}, #[], {}, 502, os⟩
noncomputable abbrev stA' (w : World) (os : OsState) : SharedT := ⟨tree_a w.params, 170, {}, #[], {}, 2452, os⟩
noncomputable abbrev stB (w : World) (os : OsState) : SharedT := ⟨tree_b w.params, 170, {}, #[], {}, 2453, os⟩
theorem run_dict (w : World) (os : OsState) (q : Pos) : ∃ q', RunB w 30001 (eval (dictV (stm 21)) sh.env_1) (stA w os).abs q (.ref 131) (stA' w os).abs q' := by
  have e : dictV (stm 21) = .Dict (dKeys (dictV (stm 21))) (dVals (dictV (stm 21))) dPos := by kernel_rfl
  rw [e, arm_eval_Dict, items_it, items_split]
  have ec : cks = (cks.headD []) :: cks.tail := by kernel_rfl
  have hb : 28 ≤ (absHeap (sh.tree_136 w.params) 131 {}).objs.size := by rw [absHeap_size]; decide
  have hl : cks.tail.length = 37 := by kernel_rfl
  obtain ⟨q', h⟩ := run_display (w := w) (s := (stA w os).abs) (q := dPos) (p := dPos) (h := absHeap (sh.tree_136 w.params) 131 {}) hb (c0 := cks.headD []) (cs := cks.tail) (r := lst) (lo := -1) (k := 502) (K := 2440)
    (by rw [← ec]; exact cks_len) (by intro e; have := lst_len; rw [e] at this; cases this) (by rw [lst_len]; decide) (by rw [← ec]; exact items_up) (by rw [hl]; decide) (by rw [hl])
  rw [absHeap_size, ← ec] at h
  refine ⟨q', RunB.le (RunB.bind (A := 1) (B := 30000) RunB.standAt ?_) (by decide)⟩
  have e2 : stt (stA w os).abs (ap (absHeap (sh.tree_136 w.params) 131 {}) (dO (entsC 502 cks ++ entsS 2440 lst) :: (subs (502 + 51) cks.tail ++ [dO (entsS 2440 lst)]))) (2440 + 3 * lst.length) = (stA' w os).abs := by
    rw [lst_len]
    show Shared.mk (ap (absHeap (sh.tree_136 w.params) 131 {}) (bigO :: (subs 553 cks.tail ++ [dO (entsS 2440 lst)]))) _ _ _ _ = _
    rw [heap_a]
    rfl
  rw [e2] at h
  exact h
end Mine
end
-- part HdF
section
theorem Mine.offHdF : True := by
  w_top off
  k_with_none
  trivial
open PySem PySem.W PyProof.Rows PySem.Calls
namespace Mine
set_option maxRecDepth 100000
set_option maxHeartbeats 0
set_option linter.unusedVariables false
noncomputable def tgts : Stmt → List PySem.Expr
  | .Assign ts _ _ => ts
  | _ => []
noncomputable def sPos : Pos := (stm 21).pos
theorem run_tail (w : World) (os : OsState) (q : Pos) : RunB w 7 (do assignStores sh.env_1 (.ref 131) (← swappedStores (tgts (stm 21)) (dictV (stm 21)) sh.env_1) ((assignEach (tgts (stm 21)) sh.env_1).map Prod.snd)) (stA' w os).abs q .next (stB w os).abs ⟨165, 0, 165, 13⟩ :=
  ⟨7, Nat.le_refl _, fun K H gd lv c F => segGo_of (by kernel_rfl)⟩
theorem run_stm (w : World) (os : OsState) (q : Pos) : RunB w 30009 (exec (stm 21) sh.env_1) (stA w os).abs q .next (stB w os).abs ⟨165, 0, 165, 13⟩ := by
  have e : stm 21 = .Assign (tgts (stm 21)) (dictV (stm 21)) sPos := by kernel_rfl
  rw [e, arm_exec_Assign]
  obtain ⟨q', h⟩ := run_dict w os sPos
  refine RunB.le (RunB.bind (A := 1) RunB.standAt (RunB.bind (A := 0) (B := 30001 + 7) (a := false) (s1 := (stA w os).abs) (q1 := sPos) ⟨0, Nat.le_refl _, fun K H gd lv c F => by kernel_rfl⟩ ?_)) (by decide)
  exact RunB.bind h (run_tail w os q')
theorem seg_stm (w : World) (os : OsState) (c : Code) (pos : Pos) (q : Pos) : ∃ n, n ≤ 30010 ∧ segRun treeTable PySem.Challenge.pw_sn0092_01 w 28 (some (.ref 6)) 1 n (stA w os).abs (pieceOf (stm 21) sh.env_1 c pos [topFrame q]) = some (.next, (stB w os).abs, c, ⟨165, 0, 165, 13⟩) := by
  obtain ⟨n, hn, h⟩ := run_stm w os pos
  refine ⟨n + 1, by omega, seg_go (h doneF deadEnd id id c (topFrame q)) ?_⟩
  rfl
end Mine
end
-- part HdG
section
theorem Mine.offHdG : True := by
  w_top off
  k_with_none
  trivial
open PySem PySem.W PyProof.Rows PySem.Calls
namespace Mine
set_option maxRecDepth 100000
set_option maxHeartbeats 0
set_option linter.unusedVariables false
noncomputable abbrev stC (w : World) (os : OsState) : SharedT := ⟨tree_c w.params, 194, {}, #[], {}, 2502, os⟩
noncomputable abbrev stD (w : World) (os : OsState) : SharedT := ⟨tree_d w.params, 234, {}, #[], {}, 2570, os⟩
noncomputable abbrev l12 : List Stmt := [stm 22, stm 23]
noncomputable abbrev l3 : List Stmt := [stm 24, stm 25, stm 26, stm 27, stm 28, stm 29, stm 30]
noncomputable def P12 (w : World) : Prop := ∀ (os : OsState) (c : Code), segRunT treeTable PySem.Challenge.pw_sn0092_01 w 28 (some (.ref 6)) 1 805 (stB w os) (piecesOf l12 sh.env_1 c ⟨165, 0, 165, 13⟩ [topFrame ⟨0, 0, 0, 0⟩]) = some (.next, stC w os, c, ⟨171, 0, 171, 6⟩)
theorem qk_run : @segRunT = @PySem.W.Fast.tw10110043849684766642 := PySem.W.Fast.te10110043849684766642
theorem qk_tab : @treeTable = @PySem.W.Fast.tw14364793385576792824 := PySem.W.Fast.te14364793385576792824
theorem seg_12 (w : World) : P12 w := by
  unfold P12
  rw [qk_run, qk_tab]
  exact byRow2 "special-get-raises" (P := fun w => ∀ (os : OsState) (c : Code), PySem.W.Fast.tw10110043849684766642 PySem.W.Fast.tw14364793385576792824 PySem.Challenge.pw_sn0092_01 w 28 (some (.ref 6)) 1 805 (stB w os) (piecesOf l12 sh.env_1 c ⟨165, 0, 165, 13⟩ [topFrame ⟨0, 0, 0, 0⟩]) = some (.next, stC w os, c, ⟨171, 0, 171, 6⟩))
    (fun w => byRow2 "set-order" (P := fun w => ∀ (os : OsState) (c : Code), PySem.W.Fast.tw10110043849684766642 PySem.W.Fast.tw14364793385576792824 PySem.Challenge.pw_sn0092_01 (w.withFollow "special-get-raises" false) 28 (some (.ref 6)) 1 805 (stB (w.withFollow "special-get-raises" false) os) (piecesOf l12 sh.env_1 c ⟨165, 0, 165, 13⟩ [topFrame ⟨0, 0, 0, 0⟩]) = some (.next, stC (w.withFollow "special-get-raises" false) os, c, ⟨171, 0, 171, 6⟩)) (fun w os c => by kernel_rfl) (fun w os c => by kernel_rfl) w)
    (fun w => byRow2 "set-order" (P := fun w => ∀ (os : OsState) (c : Code), PySem.W.Fast.tw10110043849684766642 PySem.W.Fast.tw14364793385576792824 PySem.Challenge.pw_sn0092_01 (w.withFollow "special-get-raises" true) 28 (some (.ref 6)) 1 805 (stB (w.withFollow "special-get-raises" true) os) (piecesOf l12 sh.env_1 c ⟨165, 0, 165, 13⟩ [topFrame ⟨0, 0, 0, 0⟩]) = some (.next, stC (w.withFollow "special-get-raises" true) os, c, ⟨171, 0, 171, 6⟩)) (fun w os c => by kernel_rfl) (fun w os c => by kernel_rfl) w) w
theorem seg_3 (w : World) (os : OsState) (c : Code) : segRunT treeTable PySem.Challenge.pw_sn0092_01 w 28 (some (.ref 6)) 1 206 (stC w os) (piecesOf l3 sh.env_1 c ⟨171, 0, 171, 6⟩ [topFrame ⟨0, 0, 0, 0⟩]) = some (.next, stD w os, c, ⟨238, 0, 274, 41⟩) := by kernel_rfl
end Mine
end
-- part HdO
section
theorem Mine.offHdO : True := by
  w_top off
  k_with_none
  trivial
open PySem PySem.W PyProof.Rows PySem.Calls
namespace Mine
set_option maxRecDepth 100000
set_option maxHeartbeats 0
noncomputable def S0h (P : Params) : Heap := ⟨#[sh.o_1 P, sh.o_2 P, sh.o_3 P, sh.o_4 P, sh.o_5 P, sh.o_6 P, sh.o_7 P, sh.o_8 P, sh.o_9 P, sh.o_10 P, sh.o_11 P, sh.o_12 P, sh.o_13 P, sh.o_14 P, sh.o_15 P, sh.o_16 P, sh.o_17 P, sh.o_18 P, sh.o_19 P, sh.o_20 P, sh.o_21 P, sh.o_22 P, sh.o_23 P, sh.o_24 P, sh.o_25 P, sh.o_26 P, sh.o_27 P, sh.o_28 P], {}⟩
theorem opens : ∀ w : World, (fencedOpening treeTable PySem.Challenge.pw_sn0092_01 w 33000).map (fun s => (s.heap, s.gens, s.drawn, s.toks)) = some (S0h w.params, #[], {}, 276) := fun w => by kernel_rfl
end Mine
end
-- part HdR
section
theorem Mine.offHdR : True := by
  w_top off
  k_with_none
  trivial
open PySem PySem.W PyProof.Rows PySem.Calls
namespace Mine
set_option maxRecDepth 100000
set_option maxHeartbeats 0
set_option linter.unusedVariables false
noncomputable abbrev pw : Program := PySem.Challenge.pw_sn0092_01
noncomputable abbrev bd : List Stmt := behindTheImports pw
noncomputable abbrev l0 : List Stmt := [stm 1, stm 2, stm 3, stm 4, stm 5, stm 6, stm 7, stm 8, stm 9, stm 10, stm 11, stm 12, stm 13, stm 14, stm 15, stm 16, stm 17, stm 18, stm 19, stm 20]
theorem bd_is : bd = l0 ++ (stm 21 :: (l12 ++ (l3 ++ []))) := by kernel_rfl
noncomputable abbrev st0 (w : World) (os : OsState) : SharedT := ⟨sh.tree_32 w.params, 32, {}, #[], {}, 282, os⟩
theorem seg_0 (w : World) (os : OsState) (c : Code) : segRunT treeTable PySem.Challenge.pw_sn0092_01 w 28 (some (.ref 6)) 1 625 (st0 w os) (piecesOf l0 sh.env_1 c ⟨0, 0, 0, 0⟩ [topFrame ⟨0, 0, 0, 0⟩]) = some (.next, stA w os, c, ⟨164, 0, 164, 8⟩) := by
  rw [qk_run, qk_tab]
  kernel_rfl
theorem pre (w : World) (os : OsState) : topGo treeTable pw w 28 (some (.ref 6)) 12 ⟨S0h w.params, #[], {}, 276, os⟩ (topStub pw) =
    some ((st0 w os).abs, ⟨denote treeTable (.body bd sh.env_1), .body bd sh.env_1, ⟨0, 0, 0, 0⟩, [topFrame ⟨0, 0, 0, 0⟩]⟩) := by kernel_rfl
theorem blk (w : World) (os : OsState) : segRun treeTable pw w 28 (some (.ref 6)) 1 1 (st0 w os).abs (blockOf bd sh.env_1 (.body bd sh.env_1) ⟨0, 0, 0, 0⟩ [topFrame ⟨0, 0, 0, 0⟩]) = some (.next, (st0 w os).abs, .body bd sh.env_1, ⟨0, 0, 0, 0⟩) := by kernel_rfl
theorem fin_ (w : World) (s : Shared) (c : Code) : topRun treeTable pw w 28 (some (.ref 6)) 3 s ⟨doneF .next, c, ⟨238, 0, 274, 41⟩, [topFrame ⟨0, 0, 0, 0⟩]⟩ = some s := by kernel_rfl
theorem run_all (w : World) (os : OsState) : topRun treeTable pw w 28 (some (.ref 6)) 32000 ⟨S0h w.params, #[], {}, 276, os⟩ (topStub pw) = some (stD w os).abs := by
  have h3 := piece_app (rest := []) (segRun_of (seg_3 w os (.body bd sh.env_1))) (piece_nil (fin_ w (stD w os).abs (.body bd sh.env_1)))
  have h12 := piece_app (rest := l3 ++ []) (segRun_of (seg_12 w os (.body bd sh.env_1))) h3
  obtain ⟨n, hn, hd⟩ := seg_stm w os (.body bd sh.env_1) ⟨164, 0, 164, 8⟩ ⟨0, 0, 0, 0⟩
  have hk := piece_cons hd h12
  have hc := piece_app (rest := stm 21 :: (l12 ++ (l3 ++ []))) (segRun_of (seg_0 w os (.body bd sh.env_1))) hk
  have hb := bd_is
  have ht := piece_block (blk w os) (by rw [hb] at hc ⊢; exact hc)
  have := go_top (pre w os) ht
  have hm := topRun_mono (32000 - (12 + (1 + (625 + (n + (805 + (206 + 3))))))) _ _ _ _ this
  rwa [show 12 + (1 + (625 + (n + (805 + (206 + 3))))) + (32000 - (12 + (1 + (625 + (n + (805 + (206 + 3))))))) = 32000 by omega] at hm
end Mine
end
-- part HdK0
section
theorem Mine.offHdK0 : True := by
  w_top off
  k_with_none
  trivial
open PySem PySem.W PyProof.Rows PySem.Calls
namespace Mine
set_option maxRecDepth 100000
set_option linter.unusedVariables false
noncomputable abbrev kAs : List Addr := [2, 3, 32, 33, 35, 36, 38, 39, 40, 42, 43, 45, 46, 47, 49, 50, 52, 53, 54, 56, 57, 59, 60, 61, 63, 64, 66, 67, 68, 70, 71, 73, 74, 75, 77, 78, 80, 81, 82, 84, 85, 87, 88, 89, 91, 92, 94, 95, 96, 97, 98, 100, 101, 103, 104, 105, 106, 107, 109, 110, 112, 113, 117, 118, 122, 123, 124, 126, 127, 129, 130, 131, 170, 172, 173, 175, 176, 190, 194, 196, 197, 199, 200, 201, 203, 204, 206, 207, 208, 210, 211, 213, 214, 215, 217, 218, 220, 221, 222, 224, 225, 227, 228, 229, 232, 233]
noncomputable def myK : Params → Frag := by
  refine (?f : (K : Params → Frag) → Same K (fun P => (nat_lit 2, (sh.o_3 P)) :: (nat_lit 3, (oo_3_29 P)) :: (nat_lit 32, (sh.o_35 P)) :: (nat_lit 33, (sh.o_36 P)) :: (nat_lit 35, (sh.o_38 P)) :: (nat_lit 36, (sh.o_39 P)) :: (nat_lit 38, (sh.o_41 P)) :: (nat_lit 39, (sh.o_42 P)) :: (nat_lit 40, (sh.o_43 P)) :: (nat_lit 42, (sh.o_45 P)) :: (nat_lit 43, (sh.o_46 P)) :: (nat_lit 45, (sh.o_48 P)) :: (nat_lit 46, (sh.o_49 P)) :: (nat_lit 47, (sh.o_50 P)) :: (nat_lit 49, (sh.o_52 P)) :: (nat_lit 50, (sh.o_53 P)) :: (nat_lit 52, (sh.o_55 P)) :: (nat_lit 53, (sh.o_56 P)) :: (nat_lit 54, (sh.o_57 P)) :: (nat_lit 56, (sh.o_59 P)) :: (nat_lit 57, (sh.o_60 P)) :: (nat_lit 59, (sh.o_62 P)) :: (nat_lit 60, (sh.o_63 P)) :: (nat_lit 61, (sh.o_64 P)) :: (nat_lit 63, (sh.o_66 P)) :: (nat_lit 64, (sh.o_67 P)) :: (nat_lit 66, (sh.o_69 P)) :: (nat_lit 67, (sh.o_70 P)) :: (nat_lit 68, (sh.o_71 P)) :: (nat_lit 70, (sh.o_73 P)) :: (nat_lit 71, (sh.o_74 P)) :: (nat_lit 73, (sh.o_76 P)) :: (nat_lit 74, (sh.o_77 P)) :: (nat_lit 75, (sh.o_78 P)) :: (nat_lit 77, (sh.o_80 P)) :: (nat_lit 78, (sh.o_81 P)) :: (nat_lit 80, (sh.o_83 P)) :: (nat_lit 81, (sh.o_84 P)) :: (nat_lit 82, (sh.o_85 P)) :: (nat_lit 84, (sh.o_87 P)) :: (nat_lit 85, (sh.o_88 P)) :: (nat_lit 87, (sh.o_90 P)) :: (nat_lit 88, (sh.o_91 P)) :: (nat_lit 89, (sh.o_92 P)) :: (nat_lit 91, (sh.o_94 P)) :: (nat_lit 92, (sh.o_95 P)) :: (nat_lit 94, (sh.o_97 P)) :: (nat_lit 95, (sh.o_98 P)) :: (nat_lit 96, (sh.o_99 P)) :: (nat_lit 97, (sh.o_100 P)) :: (nat_lit 98, (sh.o_101 P)) :: (nat_lit 100, (sh.o_103 P)) :: (nat_lit 101, (sh.o_104 P)) :: (nat_lit 103, (sh.o_106 P)) :: (nat_lit 104, (sh.o_107 P)) :: (nat_lit 105, (sh.o_111 P)) :: (nat_lit 106, (sh.o_112 P)) :: (nat_lit 107, (sh.o_113 P)) :: (nat_lit 109, (sh.o_115 P)) :: (nat_lit 110, (sh.o_116 P)) :: (nat_lit 112, (sh.o_118 P)) :: (nat_lit 113, (sh.o_119 P)) :: (nat_lit 117, (sh.o_123 P)) :: (nat_lit 118, (sh.o_124 P)) :: (nat_lit 122, (sh.o_128 P)) :: (nat_lit 123, (sh.o_129 P)) :: (nat_lit 124, (sh.o_130 P)) :: (nat_lit 126, (sh.o_132 P)) :: (nat_lit 127, (sh.o_133 P)) :: (nat_lit 129, (sh.o_135 P)) :: (nat_lit 130, (sh.o_136 P)) :: (nat_lit 131, bigO) :: (nat_lit 170, (o_170 P)) :: (nat_lit 172, (o_172 P)) :: (nat_lit 173, (o_173 P)) :: (nat_lit 175, (o_175 P)) :: (nat_lit 176, (o_176 P)) :: (nat_lit 190, (o_190 P)) :: (nat_lit 194, (o_194 P)) :: (nat_lit 196, (o_196 P)) :: (nat_lit 197, (o_197 P)) :: (nat_lit 199, (o_199 P)) :: (nat_lit 200, (o_200 P)) :: (nat_lit 201, (o_201 P)) :: (nat_lit 203, (o_203 P)) :: (nat_lit 204, (o_204 P)) :: (nat_lit 206, (o_206 P)) :: (nat_lit 207, (o_207 P)) :: (nat_lit 208, (o_208 P)) :: (nat_lit 210, (o_210 P)) :: (nat_lit 211, (o_211 P)) :: (nat_lit 213, (o_213 P)) :: (nat_lit 214, (o_214 P)) :: (nat_lit 215, (o_215 P)) :: (nat_lit 217, (o_217 P)) :: (nat_lit 218, (o_218 P)) :: (nat_lit 220, (o_220 P)) :: (nat_lit 221, (o_221 P)) :: (nat_lit 222, (o_222 P)) :: (nat_lit 224, (o_224 P)) :: (nat_lit 225, (o_225 P)) :: (nat_lit 227, (o_227 P)) :: (nat_lit 228, (o_228 P)) :: (nat_lit 229, (o_229 P)) :: (nat_lit 232, (o_232 P)) :: (nat_lit 233, (o_233 P)) :: []) → Params → Frag) _ (by
  delta sh.o_3 sh.o_35 sh.o_36 sh.o_38 sh.o_39 sh.o_41 sh.o_42 sh.o_43 sh.o_45 sh.o_46 sh.o_48 sh.o_49 sh.o_50 sh.o_52 sh.o_53 sh.o_55 sh.o_56 sh.o_57 sh.o_59 sh.o_60 sh.o_62 sh.o_63 sh.o_64 sh.o_66 sh.o_67 sh.o_69 sh.o_70 sh.o_71 sh.o_73 sh.o_74 sh.o_76 sh.o_77 sh.o_78 sh.o_80 sh.o_81 sh.o_83 sh.o_84 sh.o_85 sh.o_87 sh.o_88 sh.o_90 sh.o_91 sh.o_92 sh.o_94 sh.o_95 sh.o_97 sh.o_98 sh.o_99 sh.o_100 sh.o_101 sh.o_103 sh.o_104 sh.o_106 sh.o_107 sh.o_111 sh.o_112 sh.o_113 sh.o_115 sh.o_116 sh.o_118 sh.o_119 sh.o_123 sh.o_124 sh.o_128 sh.o_129 sh.o_130 sh.o_132 sh.o_133 sh.o_135 sh.o_136 oo_3_29 o_170 o_172 o_173 o_175 o_176 o_190 o_194 o_196 o_197 o_199 o_200 o_201 o_203 o_204 o_206 o_207 o_208 o_210 o_211 o_213 o_214 o_215 o_217 o_218 o_220 o_221 o_222 o_224 o_225 o_227 o_228 o_229 o_232 o_233
  exact same _)
  exact fun K _ => K
noncomputable abbrev myQb : List Stmt := by
  refine (?f : (q : List Stmt) → Same q [stm 0, stm 3, stm 4, stm 5, stm 6, stm 7, stm 8, stm 9, stm 10, stm 11, stm 16, stm 17, stm 18, stm 19, stm 22, stm 23, stm 24, stm 26, stm 27, stm 28, stm 29, stm 30] → List Stmt) _ (by
  conv in (occs := *) stm _ => all_goals whnf
  exact same _)
  exact fun q _ => q
noncomputable def myQ : Program := { PySem.Challenge.pw_sn0092_01 with main := { PySem.Challenge.pw_sn0092_01.main with body := myQb } }
noncomputable abbrev myLoose : List Str := [Str.ofString "compute_powers", Str.ofString "insort_left", Str.ofString "bisect_left", Str.ofString "_twin_re_1", Str.ofString "_twin_re_2", Str.ofString "b3_exceptions", Str.ofString "c8_set"]
end Mine
end
-- part HdL
section
theorem Mine.offHdL : True := by
  w_top off
  k_with_none
  trivial
open PySem PySem.W PyProof.Rows PySem.Calls
namespace Mine
set_option maxRecDepth 100000
set_option maxHeartbeats 0
set_option linter.unusedVariables false
noncomputable abbrev myRow : OpenRow := PySem.Challenge.rw_sn0092_01.row
noncomputable abbrev myXt : Shared → Bool := fun s => xlAt myQ [] s && recOk (RowW.records (OpenRow.toRowW myRow)) s
noncomputable abbrev mods : List Str := importedModules pw.main.body
theorem kAs_is : ∀ P, kAs = (myK P).map (·.1) := fun _ => by kernel_rfl
noncomputable abbrev myH : Hook := kHook myK kAs kAs_is
noncomputable abbrev sD (w : World) (os : OsState) : Shared := (stD w os).abs
section
variable (w : World) (os : OsState)
theorem look1 : (staticsOk mods (S0h w.params) (sD w os).heap && namesBound pw (sD w os).heap && gensDone (sD w os) && laidKept (S0h w.params) (sD w os).heap) = true := by kernel_rfl
theorem look2 : seen ((recsOf myQ).map (·.name)) (ownsOf myQ) [] { (sD w os) with gens := #[] } = expectedOf myQ := by kernel_rfl
theorem look3 : (sD w os).heap.bltView = bltViewBooted := by kernel_rfl
theorem look4 : ((sD w os).heap.keysOk (looseW myQ myLoose) ((recsOf myQ).map (·.name)) ((litsOf myQ).map (·.1)) ((clssOf myQ (looseW myQ myLoose)).map (·.name)) && (sD w os).heap.accountedOkI mods && (sD w os).heap.isNs mainGlobals && (sD w os).heap.isNs builtinsNs && tablesOk myQ (sD w os).heap && myXt (sD w os) && ((sD w os).gens.size == 0)) = true := by kernel_rfl
theorem look5 : tabsOk myQ (sD w os) = true := by kernel_rfl
theorem look6 : pinSeenD myQ (drecsOf myQ) (sD w os) = pinGoodD (drecsOf myQ) := by kernel_rfl
theorem look7 : plainSeenE myQ (looseW myQ myLoose) (sD w os) = plainGoodE myQ (looseW myQ myLoose) := by kernel_rfl
theorem look8 : plainSeenD myQ myLoose (sD w os) = plainGoodD myQ myLoose := by kernel_rfl
theorem look9 : wideSeen myQ (sD w os) = wideGood myQ := by kernel_rfl
theorem look10 : clsSeenW myQ myLoose (sD w os) = clsGoodW myQ myLoose := by kernel_rfl
theorem look11 : myH.obs (sD w os) = myH.val w := by kernel_rfl
end
theorem left_ : LeftO pw myQ myLoose myXt myH.obs myH.val 33000 true :=
  LeftO.of_pieces (H₀ := S0h) (H₁ := fun P => absHeap (tree_d P) 234 {}) (gs₀ := #[]) (gs₁ := #[]) (d₀ := {}) (d₁ := {}) (k₀ := 276) (k₁ := 2570) (m₀ := 28) (ann := some (.ref 6)) (M := 32000)
    opens (fun w => by kernel_rfl) run_all (by decide) (fun w => funext fun os =>
      looks_pair (look1 w os) (looks_pair (looks_pair (look2 w os) (looks_pair (look3 w os) (looks_pair (look4 w os) (looks_pair (look5 w os) (looks_pair (look6 w os) (looks_pair (look7 w os) (looks_pair (look8 w os) (looks_pair (look9 w os) (look10 w os))))))))) (look11 w os)))
end Mine
end
-- part HdH
section
theorem Mine.offHdH : True := by
  w_top off
  k_with_none
  trivial
open PySem PySem.W PyProof.Rows PySem.Calls
namespace Mine
set_option maxRecDepth 100000
set_option maxHeartbeats 0
set_option linter.unusedVariables false
noncomputable def pw0.tw11906180992437018358 : Program := PySem.Challenge.pw_sn0092_01
theorem pw0.te11906180992437018358 : PySem.Challenge.pw_sn0092_01 = pw0.tw11906180992437018358 := rfl
set_option Elab.async true in
theorem pw0 : (!PySem.Challenge.pw_sn0092_01.main.body.isEmpty) = true := by k_qdec
#print axioms Mine.pw0
noncomputable abbrev myD : DefRec := by
  refine (?f : (d : DefRec) → Same d ⟨Str.ofString "law", fArgs (stm 30), fBody (stm 30), fScope (stm 30), ⟨238, 0, 274, 41⟩⟩ → DefRec) _ (by
  conv in (occs := *) fArgs _ => all_goals whnf
  conv in (occs := *) fBody _ => all_goals whnf
  conv in (occs := *) fScope _ => all_goals whnf
  exact same _)
  exact fun d _ => d
theorem hd (walk : WalkO myQ myLoose (XL myQ []) (Hook.says (kHook myK kAs kAs_is)) (OpenRow.toRowW PySem.Challenge.rw_sn0092_01.row) myD [] fun f vs => PySem.call f vs) : PySem.Challenge.rw_sn0092_01.Holds := by
  w_on
  o_law
  refine holds_open (q := myQ) (loose := myLoose) (Xt := myXt) (XP := XL myQ []) (Yf := myH.obs) (Ya := myH.val) (YP := myH.says) (N := 33000) (d := myD) (kwd := [])
    left_ myH.of myH.keeps (fun s e => xl_of s (Bool.and_eq_true_iff.mp e).1) XL.keeps (by kernel_rfl) (by kernel_rfl) (by kernel_rfl) (fun s e => recFacts_of (Bool.and_eq_true_iff.mp e).2) (by rfl) (by assumption) (by decide +kernel) ⟨rfl, rfl, rfl, rfl, rfl, by decide +kernel⟩ ?hw walk
  w_witness2
theorem off : True := by
  w_top off
  trivial
end Mine
end
-- part Fs
section
theorem Mine.offFs : True := by
  w_top off
  k_with_none
  trivial
open PySem PySem.W PyProof.Rows PySem.Calls
set_option Elab.async false
set_option maxRecDepth 100000
set_option maxHeartbeats 0
set_option linter.unusedVariables false
namespace Mine
noncomputable abbrev Led := List (Addr × Obj)
noncomputable abbrev tupO (vs : List Value) : Obj := { cls := .type "tuple", data := .seq vs.toArray }
/-- what a def of the text does at a call from a def -/
noncomputable abbrev FSpec (w : World) (p : Program) (loose : List Str) (mean : ExcName → Option Value) (mg mb : Str → Option Value) (f : Addr) (vs : List Value) (kw : List (Str × Value)) (news : Led) (dd uu : Nat) (Ret : Value → Led → Prop) : Prop :=
  ∀ (dp un : Nat) (gd : Option (List Code)) (cn : Str) (cs : Scope) (ad : Addr) (ccd : Value) (cl : List (Str × Addr)) (outer : List Env) (A₀ : Around) (base h₀ : Heap) (L : Addr) (m : Str → Option Value) (s : Shared) (Q E : Value → Shared → Prop),
    Below A₀ base outer h₀ → Fr h₀ L s.heap m → (myK w.params).In h₀ → News h₀ L s.heap news → Top p loose mean mg mb h₀ → cs.kind = .function →
    dp + dd < recursionLimit → un + uu < cLine →
    (∀ (r : Value) (tl : Led) (h' : Heap) (tk' : Nat), Fr h₀ L h' m → News h₀ L h' (tl ++ news) → (∀ q ∈ news, ∀ p ∈ tl, q.1 < p.1) → Ret r tl → Q r { s with heap := h', toks := tk' }) →
    wpAny (model PySem.Challenge.rw_sn0092_01.row.prog w) (ktrTop dp un gd cn cs L ad ccd cl outer) (call (.ref f) vs kw) Q E s
/-- the walk stops here -/
noncomputable def Stop (P : Prop) : Prop := P
theorem Stop.go {P : Prop} (h : Stop P) : P := h
/-- the walk stops at this key while this stands in the context -/
noncomputable def On (_ : String) : Prop := True
theorem On.mk (k : String) : On k := True.intro
theorem Stop.on {k : String} {P : Prop} (_ : On k) (h : Stop P) : P := h
/-- the walk stops where so many statements are left -/
noncomputable def OnN (_ : Nat) : Prop := True
theorem OnN.mk (n : Nat) : OnN n := True.intro
theorem Stop.len {prog : Program} {w : World} {A : Around} {l : List Stmt} {env : Env} {Q : Flow → Shared → Prop} {E : Value → Shared → Prop} {s : Shared} {n : Nat} (_ : OnN n) (_ : l.length = n) (h : Stop (wpAny (model prog w) A (execs l env) Q E s)) : wpAny (model prog w) A (execs l env) Q E s := h
theorem news_lt {h₀ h : Heap} {L : Addr} {news : Led} (N : News h₀ L h news) : ∀ q ∈ news, q.1 < h.objs.size := fun q hq => Heap.lt_size (N q hq).1
theorem news_one {h₀ h : Heap} {L : Addr} {news : Led} {o : Obj} (N : News h₀ L h news) : ∀ q ∈ news, ∀ p ∈ [(h.objs.size, o)], q.1 < p.1 := fun q hq p hp => by
  rw [List.mem_singleton.mp hp]; exact news_lt N q hq
noncomputable def nthL {α : Type} : List α → Nat → List α
  | [], _ => []
  | a :: _, 0 => [a]
  | _ :: l, i + 1 => nthL l i
theorem nthL_mem {α : Type} : ∀ {l : List α} {i : Nat} {x : α}, x ∈ nthL l i → x ∈ l
  | a :: l, 0, x, h => by rw [List.mem_singleton.mp h]; exact List.mem_cons_self ..
  | a :: l, i + 1, x, h => List.mem_cons_of_mem _ (nthL_mem (l := l) (i := i) h)
noncomputable def pickL {α : Type} (l : List α) (k : Nat) : List Nat → List α
  | [] => l.drop k
  | i :: r => nthL l i ++ pickL l k r
theorem pickL_mem {α : Type} {l : List α} {k : Nat} : ∀ {ix : List Nat} {x : α}, x ∈ pickL l k ix → x ∈ l
  | [], x, h => List.mem_of_mem_drop h
  | i :: r, x, h => by
    rcases List.mem_append.mp h with h | h
    · exact nthL_mem h
    · exact pickL_mem h
theorem News.pick {g h : Heap} {L : Addr} {l : Led} (N : News g L h l) (k : Nat) (ix : List Nat) : News g L h (pickL l k ix) := fun q hq => N q (pickL_mem hq)
theorem News.swapB {g h : Heap} {L : Addr} {A B C : Led} (N : News g L h (B ++ (A ++ C))) : News g L h (A ++ (B ++ C)) := fun q hq => N q (by
  simp only [List.mem_append] at hq ⊢
  rcases hq with h | h | h <;> simp [h])
theorem News.swap1 {g h : Heap} {L : Addr} {a : Addr × Obj} {A B C : Led} (N : News g L h (a :: (A ++ (B ++ C)))) : News g L h (a :: (B ++ (A ++ C))) := fun q hq => N q (by
  simp only [List.mem_cons, List.mem_append] at hq ⊢
  rcases hq with h | h | h | h <;> simp [h])
theorem News.sink {g h : Heap} {L : Addr} {A B C D : Led} (N : News g L h (A ++ (B ++ (C ++ D)))) : News g L h (B ++ (C ++ (A ++ D))) := fun q hq => N q (by
  simp only [List.mem_append] at hq ⊢
  rcases hq with h | h | h | h <;> simp [h])
theorem News.tail {g h : Heap} {L : Addr} {a : Addr × Obj} {l : Led} (N : News g L h (a :: l)) : News g L h l := fun q hq => N q (List.mem_cons_of_mem _ hq)
theorem neL0 {a b : Nat} {P : Prop} (h : a < b ∧ P) : a ≠ b := Nat.ne_of_lt h.1
theorem neG0 {a b : Nat} {P : Prop} (h : b < a ∧ P) : a ≠ b := Nat.ne_of_gt h.1
theorem neE0 {a b : Nat} {P : Prop} (h : a ≠ b ∧ P) : a ≠ b := h.1
theorem neF0 {a b : Nat} {P : Prop} (h : b ≠ a ∧ P) : a ≠ b := Ne.symm h.1
theorem neL1 {a b : Nat} {P Q0 : Prop} (h : Q0 ∧ a < b ∧ P) : a ≠ b := Nat.ne_of_lt h.2.1
theorem neG1 {a b : Nat} {P Q0 : Prop} (h : Q0 ∧ b < a ∧ P) : a ≠ b := Nat.ne_of_gt h.2.1
theorem neE1 {a b : Nat} {P Q0 : Prop} (h : Q0 ∧ a ≠ b ∧ P) : a ≠ b := h.2.1
theorem neF1 {a b : Nat} {P Q0 : Prop} (h : Q0 ∧ b ≠ a ∧ P) : a ≠ b := Ne.symm h.2.1
theorem neL2 {a b : Nat} {P Q0 Q1 : Prop} (h : Q0 ∧ Q1 ∧ a < b ∧ P) : a ≠ b := Nat.ne_of_lt h.2.2.1
theorem neG2 {a b : Nat} {P Q0 Q1 : Prop} (h : Q0 ∧ Q1 ∧ b < a ∧ P) : a ≠ b := Nat.ne_of_gt h.2.2.1
theorem neE2 {a b : Nat} {P Q0 Q1 : Prop} (h : Q0 ∧ Q1 ∧ a ≠ b ∧ P) : a ≠ b := h.2.2.1
theorem neF2 {a b : Nat} {P Q0 Q1 : Prop} (h : Q0 ∧ Q1 ∧ b ≠ a ∧ P) : a ≠ b := Ne.symm h.2.2.1
theorem neL3 {a b : Nat} {P Q0 Q1 Q2 : Prop} (h : Q0 ∧ Q1 ∧ Q2 ∧ a < b ∧ P) : a ≠ b := Nat.ne_of_lt h.2.2.2.1
theorem neG3 {a b : Nat} {P Q0 Q1 Q2 : Prop} (h : Q0 ∧ Q1 ∧ Q2 ∧ b < a ∧ P) : a ≠ b := Nat.ne_of_gt h.2.2.2.1
theorem neE3 {a b : Nat} {P Q0 Q1 Q2 : Prop} (h : Q0 ∧ Q1 ∧ Q2 ∧ a ≠ b ∧ P) : a ≠ b := h.2.2.2.1
theorem neF3 {a b : Nat} {P Q0 Q1 Q2 : Prop} (h : Q0 ∧ Q1 ∧ Q2 ∧ b ≠ a ∧ P) : a ≠ b := Ne.symm h.2.2.2.1
theorem neL4 {a b : Nat} {P Q0 Q1 Q2 Q3 : Prop} (h : Q0 ∧ Q1 ∧ Q2 ∧ Q3 ∧ a < b ∧ P) : a ≠ b := Nat.ne_of_lt h.2.2.2.2.1
theorem neG4 {a b : Nat} {P Q0 Q1 Q2 Q3 : Prop} (h : Q0 ∧ Q1 ∧ Q2 ∧ Q3 ∧ b < a ∧ P) : a ≠ b := Nat.ne_of_gt h.2.2.2.2.1
theorem neE4 {a b : Nat} {P Q0 Q1 Q2 Q3 : Prop} (h : Q0 ∧ Q1 ∧ Q2 ∧ Q3 ∧ a ≠ b ∧ P) : a ≠ b := h.2.2.2.2.1
theorem neF4 {a b : Nat} {P Q0 Q1 Q2 Q3 : Prop} (h : Q0 ∧ Q1 ∧ Q2 ∧ Q3 ∧ b ≠ a ∧ P) : a ≠ b := Ne.symm h.2.2.2.2.1
theorem neL5 {a b : Nat} {P Q0 Q1 Q2 Q3 Q4 : Prop} (h : Q0 ∧ Q1 ∧ Q2 ∧ Q3 ∧ Q4 ∧ a < b ∧ P) : a ≠ b := Nat.ne_of_lt h.2.2.2.2.2.1
theorem neG5 {a b : Nat} {P Q0 Q1 Q2 Q3 Q4 : Prop} (h : Q0 ∧ Q1 ∧ Q2 ∧ Q3 ∧ Q4 ∧ b < a ∧ P) : a ≠ b := Nat.ne_of_gt h.2.2.2.2.2.1
theorem neE5 {a b : Nat} {P Q0 Q1 Q2 Q3 Q4 : Prop} (h : Q0 ∧ Q1 ∧ Q2 ∧ Q3 ∧ Q4 ∧ a ≠ b ∧ P) : a ≠ b := h.2.2.2.2.2.1
theorem neF5 {a b : Nat} {P Q0 Q1 Q2 Q3 Q4 : Prop} (h : Q0 ∧ Q1 ∧ Q2 ∧ Q3 ∧ Q4 ∧ b ≠ a ∧ P) : a ≠ b := Ne.symm h.2.2.2.2.2.1
theorem neL6 {a b : Nat} {P Q0 Q1 Q2 Q3 Q4 Q5 : Prop} (h : Q0 ∧ Q1 ∧ Q2 ∧ Q3 ∧ Q4 ∧ Q5 ∧ a < b ∧ P) : a ≠ b := Nat.ne_of_lt h.2.2.2.2.2.2.1
theorem neG6 {a b : Nat} {P Q0 Q1 Q2 Q3 Q4 Q5 : Prop} (h : Q0 ∧ Q1 ∧ Q2 ∧ Q3 ∧ Q4 ∧ Q5 ∧ b < a ∧ P) : a ≠ b := Nat.ne_of_gt h.2.2.2.2.2.2.1
theorem neE6 {a b : Nat} {P Q0 Q1 Q2 Q3 Q4 Q5 : Prop} (h : Q0 ∧ Q1 ∧ Q2 ∧ Q3 ∧ Q4 ∧ Q5 ∧ a ≠ b ∧ P) : a ≠ b := h.2.2.2.2.2.2.1
theorem neF6 {a b : Nat} {P Q0 Q1 Q2 Q3 Q4 Q5 : Prop} (h : Q0 ∧ Q1 ∧ Q2 ∧ Q3 ∧ Q4 ∧ Q5 ∧ b ≠ a ∧ P) : a ≠ b := Ne.symm h.2.2.2.2.2.2.1
theorem neL7 {a b : Nat} {P Q0 Q1 Q2 Q3 Q4 Q5 Q6 : Prop} (h : Q0 ∧ Q1 ∧ Q2 ∧ Q3 ∧ Q4 ∧ Q5 ∧ Q6 ∧ a < b ∧ P) : a ≠ b := Nat.ne_of_lt h.2.2.2.2.2.2.2.1
theorem neG7 {a b : Nat} {P Q0 Q1 Q2 Q3 Q4 Q5 Q6 : Prop} (h : Q0 ∧ Q1 ∧ Q2 ∧ Q3 ∧ Q4 ∧ Q5 ∧ Q6 ∧ b < a ∧ P) : a ≠ b := Nat.ne_of_gt h.2.2.2.2.2.2.2.1
theorem neE7 {a b : Nat} {P Q0 Q1 Q2 Q3 Q4 Q5 Q6 : Prop} (h : Q0 ∧ Q1 ∧ Q2 ∧ Q3 ∧ Q4 ∧ Q5 ∧ Q6 ∧ a ≠ b ∧ P) : a ≠ b := h.2.2.2.2.2.2.2.1
theorem neF7 {a b : Nat} {P Q0 Q1 Q2 Q3 Q4 Q5 Q6 : Prop} (h : Q0 ∧ Q1 ∧ Q2 ∧ Q3 ∧ Q4 ∧ Q5 ∧ Q6 ∧ b ≠ a ∧ P) : a ≠ b := Ne.symm h.2.2.2.2.2.2.2.1
theorem neL8 {a b : Nat} {P Q0 Q1 Q2 Q3 Q4 Q5 Q6 Q7 : Prop} (h : Q0 ∧ Q1 ∧ Q2 ∧ Q3 ∧ Q4 ∧ Q5 ∧ Q6 ∧ Q7 ∧ a < b ∧ P) : a ≠ b := Nat.ne_of_lt h.2.2.2.2.2.2.2.2.1
theorem neG8 {a b : Nat} {P Q0 Q1 Q2 Q3 Q4 Q5 Q6 Q7 : Prop} (h : Q0 ∧ Q1 ∧ Q2 ∧ Q3 ∧ Q4 ∧ Q5 ∧ Q6 ∧ Q7 ∧ b < a ∧ P) : a ≠ b := Nat.ne_of_gt h.2.2.2.2.2.2.2.2.1
theorem neE8 {a b : Nat} {P Q0 Q1 Q2 Q3 Q4 Q5 Q6 Q7 : Prop} (h : Q0 ∧ Q1 ∧ Q2 ∧ Q3 ∧ Q4 ∧ Q5 ∧ Q6 ∧ Q7 ∧ a ≠ b ∧ P) : a ≠ b := h.2.2.2.2.2.2.2.2.1
theorem neF8 {a b : Nat} {P Q0 Q1 Q2 Q3 Q4 Q5 Q6 Q7 : Prop} (h : Q0 ∧ Q1 ∧ Q2 ∧ Q3 ∧ Q4 ∧ Q5 ∧ Q6 ∧ Q7 ∧ b ≠ a ∧ P) : a ≠ b := Ne.symm h.2.2.2.2.2.2.2.2.1
theorem neL9 {a b : Nat} {P Q0 Q1 Q2 Q3 Q4 Q5 Q6 Q7 Q8 : Prop} (h : Q0 ∧ Q1 ∧ Q2 ∧ Q3 ∧ Q4 ∧ Q5 ∧ Q6 ∧ Q7 ∧ Q8 ∧ a < b ∧ P) : a ≠ b := Nat.ne_of_lt h.2.2.2.2.2.2.2.2.2.1
theorem neG9 {a b : Nat} {P Q0 Q1 Q2 Q3 Q4 Q5 Q6 Q7 Q8 : Prop} (h : Q0 ∧ Q1 ∧ Q2 ∧ Q3 ∧ Q4 ∧ Q5 ∧ Q6 ∧ Q7 ∧ Q8 ∧ b < a ∧ P) : a ≠ b := Nat.ne_of_gt h.2.2.2.2.2.2.2.2.2.1
theorem neE9 {a b : Nat} {P Q0 Q1 Q2 Q3 Q4 Q5 Q6 Q7 Q8 : Prop} (h : Q0 ∧ Q1 ∧ Q2 ∧ Q3 ∧ Q4 ∧ Q5 ∧ Q6 ∧ Q7 ∧ Q8 ∧ a ≠ b ∧ P) : a ≠ b := h.2.2.2.2.2.2.2.2.2.1
theorem neF9 {a b : Nat} {P Q0 Q1 Q2 Q3 Q4 Q5 Q6 Q7 Q8 : Prop} (h : Q0 ∧ Q1 ∧ Q2 ∧ Q3 ∧ Q4 ∧ Q5 ∧ Q6 ∧ Q7 ∧ Q8 ∧ b ≠ a ∧ P) : a ≠ b := Ne.symm h.2.2.2.2.2.2.2.2.2.1
theorem neL10 {a b : Nat} {P Q0 Q1 Q2 Q3 Q4 Q5 Q6 Q7 Q8 Q9 : Prop} (h : Q0 ∧ Q1 ∧ Q2 ∧ Q3 ∧ Q4 ∧ Q5 ∧ Q6 ∧ Q7 ∧ Q8 ∧ Q9 ∧ a < b ∧ P) : a ≠ b := Nat.ne_of_lt h.2.2.2.2.2.2.2.2.2.2.1
theorem neG10 {a b : Nat} {P Q0 Q1 Q2 Q3 Q4 Q5 Q6 Q7 Q8 Q9 : Prop} (h : Q0 ∧ Q1 ∧ Q2 ∧ Q3 ∧ Q4 ∧ Q5 ∧ Q6 ∧ Q7 ∧ Q8 ∧ Q9 ∧ b < a ∧ P) : a ≠ b := Nat.ne_of_gt h.2.2.2.2.2.2.2.2.2.2.1
theorem neE10 {a b : Nat} {P Q0 Q1 Q2 Q3 Q4 Q5 Q6 Q7 Q8 Q9 : Prop} (h : Q0 ∧ Q1 ∧ Q2 ∧ Q3 ∧ Q4 ∧ Q5 ∧ Q6 ∧ Q7 ∧ Q8 ∧ Q9 ∧ a ≠ b ∧ P) : a ≠ b := h.2.2.2.2.2.2.2.2.2.2.1
theorem neF10 {a b : Nat} {P Q0 Q1 Q2 Q3 Q4 Q5 Q6 Q7 Q8 Q9 : Prop} (h : Q0 ∧ Q1 ∧ Q2 ∧ Q3 ∧ Q4 ∧ Q5 ∧ Q6 ∧ Q7 ∧ Q8 ∧ Q9 ∧ b ≠ a ∧ P) : a ≠ b := Ne.symm h.2.2.2.2.2.2.2.2.2.2.1
end Mine
end
local macro_rules | `(tactic| k_ne) => `(tactic| (refine PySem.W.neN ?_; (try dsimp only); with_reducible first | assumption | exact Nat.ne_of_lt (by assumption) | exact Nat.ne_of_gt (by assumption) | exact Ne.symm (by assumption) | exact Mine.neL0 (by assumption) | exact Mine.neL1 (by assumption) | exact Mine.neL2 (by assumption) | exact Mine.neL3 (by assumption) | exact Mine.neL4 (by assumption) | exact Mine.neG0 (by assumption) | exact Mine.neG1 (by assumption) | exact Mine.neG2 (by assumption) | exact Mine.neG3 (by assumption) | exact Mine.neG4 (by assumption) | exact Mine.neE0 (by assumption) | exact Mine.neE1 (by assumption) | exact Mine.neE2 (by assumption) | exact Mine.neE3 (by assumption) | exact Mine.neE4 (by assumption) | exact Mine.neE5 (by assumption) | exact Mine.neF0 (by assumption) | exact Mine.neF1 (by assumption) | exact Mine.neF2 (by assumption) | exact Mine.neF3 (by assumption) | exact Mine.neF4 (by assumption) | exact Mine.neF5 (by assumption)))
local macro_rules | `(tactic| walk_at $k) => `(tactic| refine Mine.Stop.on (k := $k) (by with_reducible assumption) ?_)
local macro_rules | `(tactic| walk_at "execs cons") => `(tactic| k_dflt (refine Mine.Stop.len (by with_reducible assumption) ?_ ?_; rfl))
-- part Inn
section
theorem Mine.offInn : True := by
  w_top off
  k_with_none
  trivial
open PySem PySem.W PyProof.Rows PySem.Calls
set_option Elab.async false
set_option maxRecDepth 100000
set_option maxHeartbeats 0
set_option linter.unusedVariables false
namespace Mine
theorem AllLt.le {a b : Addr} (hab : @LE.le Nat _ a b) : ∀ {l : Led}, AllLt a l → AllLt b l
  | [], _ => trivial
  | _ :: _, h => ⟨Nat.lt_of_lt_of_le h.1 hab, AllLt.le hab h.2⟩
noncomputable abbrev InT := List (Str × Addr) → Value → Value → Addr → Value → Obj
noncomputable def inn (j i : Nat) : Stmt := ((fBody (stm j))[i]?).getD default
noncomputable abbrev in2O : InT := by
  refine (?f : (K : InT) → Same K (fun clos doc pm c' ctv => fnMade (Str.ofString "inner") (Str.ofString "_int2digits.<locals>.inner") (fArgs (inn 8 1)) (fBody (inn 8 1)) (fScope (inn 8 1)) clos doc pm c' ctv) → InT) _ (by
    conv in (occs := *) fArgs _ => all_goals whnf
    conv in (occs := *) fBody _ => all_goals whnf
    conv in (occs := *) fScope _ => all_goals whnf
    exact same _)
  exact fun K _ => K
noncomputable abbrev in3O : InT := by
  refine (?f : (K : InT) → Same K (fun clos doc pm c' ctv => fnMade (Str.ofString "inner") (Str.ofString "_digits2int.<locals>.inner") (fArgs (inn 9 0)) (fBody (inn 9 0)) (fScope (inn 9 0)) clos doc pm c' ctv) → InT) _ (by
    conv in (occs := *) fArgs _ => all_goals whnf
    conv in (occs := *) fBody _ => all_goals whnf
    conv in (occs := *) fScope _ => all_goals whnf
    exact same _)
  exact fun K _ => K
noncomputable abbrev in1O : InT := by
  refine (?f : (K : InT) → Same K (fun clos doc pm c' ctv => fnMade (Str.ofString "inner") (Str.ofString "_str_to_int_inner.<locals>.inner") (fArgs (inn 3 1)) (fBody (inn 3 1)) (fScope (inn 3 1)) clos doc pm c' ctv) → InT) _ (by
    conv in (occs := *) fArgs _ => all_goals whnf
    conv in (occs := *) fBody _ => all_goals whnf
    conv in (occs := *) fScope _ => all_goals whnf
    exact same _)
  exact fun K _ => K
end Mine
end
-- part InP
section
theorem Mine.offInP : True := by
  w_top off
  k_with_none
  trivial
open PySem PySem.W PyProof.Rows PySem.Calls
set_option maxRecDepth 100000
namespace Mine
theorem nat_low (x k : Nat) : x &&& (x / 2 ^ k * 2 ^ k) = x / 2 ^ k * 2 ^ k := by
  rw [← Nat.shiftLeft_eq, ← Nat.shiftRight_eq_div_pow]
  apply Nat.eq_of_testBit_eq
  intro i
  rw [Nat.testBit_and, Nat.testBit_shiftLeft, Nat.testBit_shiftRight]
  by_cases h : k ≤ i
  · rw [show k + (i - k) = i by omega]
    simp [h]
  · simp [h]
theorem int_low {x : Int} (hx : 0 ≤ x) (k : Nat) : Builtin.bitXor x (x.fdiv (2 ^ k) * 2 ^ k) = x % 2 ^ k := by
  obtain ⟨y, rfl⟩ := Int.eq_ofNat_of_zero_le hx
  have e : (2 : Int) ^ k = ((2 ^ k : Nat) : Int) := by rw [Int.natCast_pow]; rfl
  rw [e, Int.fdiv_eq_ediv_of_nonneg _ (Int.natCast_nonneg _), ← Int.natCast_ediv, ← Int.natCast_mul, PyProof.Rows.bitXor_and, bitAnd_pp (Int.natCast_nonneg _) (Int.natCast_nonneg _)]
  rw [Int.toNat_natCast, Int.toNat_natCast, nat_low]
  have h := Nat.div_add_mod y (2 ^ k)
  rw [Nat.mul_comm] at h
  rw [← Int.natCast_emod]
  generalize hz : y / 2 ^ k * 2 ^ k = z at *
  omega
theorem fdiv_pow {x : Int} (hx : 0 ≤ x) (k : Nat) : x.fdiv (2 ^ k) = x / 2 ^ k := Int.fdiv_eq_ediv_of_nonneg _ (Int.le_of_lt (Int.pow_pos (by decide)))
theorem div_bounds {x : Int} (hx : 0 ≤ x) (k : Nat) : 0 ≤ x / 2 ^ k ∧ x / 2 ^ k ≤ x := by
  have hp : (0 : Int) < 2 ^ k := Int.pow_pos (by decide)
  exact ⟨Int.ediv_nonneg hx (Int.le_of_lt hp), Int.ediv_le_self _ hx⟩
theorem mod_bounds {x : Int} (hx : 0 ≤ x) (k : Nat) : 0 ≤ x % 2 ^ k ∧ x % 2 ^ k ≤ x := by
  have hp : (0 : Int) < 2 ^ k := Int.pow_pos (by decide)
  refine ⟨Int.emod_nonneg _ (by omega), ?_⟩
  have := Int.mul_ediv_add_emod x (2 ^ k)
  have h2 : 0 ≤ 2 ^ k * (x / 2 ^ k) := Int.mul_nonneg (by omega) (div_bounds hx k).1
  omega
end Mine
end
-- part In3
section
theorem Mine.offIn3 : True := by
  w_top off
  k_with_none
  trivial
open PySem PySem.W PyProof.Rows PySem.Calls
set_option Elab.async false
set_option maxRecDepth 100000
set_option maxHeartbeats 0
set_option linter.unusedVariables false
namespace Mine
noncomputable def dg3 (n : Int) : Nat → Int → Int → List Int → Int
  | 0, _, _, _ => 0
  | d + 1, L, R, ns => if L + 1 = R then ns.getD L.toNat 0 else
    dg3 n d ((L + R) / 2) R ns * 2 ^ (((L + R) / 2 - L) * n).toNat + dg3 n d L ((L + R) / 2) ns
theorem dg3_one {n : Int} {d : Nat} {L R : Int} {ns : List Int} (h : L + 1 = R) (hb : ∀ i, 0 ≤ ns.getD i 0 ∧ ns.getD i 0 < 4096) : 0 ≤ dg3 n d L R ns ∧ dg3 n d L R ns < 4096 := by
  cases d with
  | zero => unfold dg3; omega
  | succ d => unfold dg3; rw [if_pos h]; exact hb _
theorem dg3_two {n : Int} {d : Nat} {L R : Int} {ns : List Int} (h : L < R) (h2 : R - L ≤ 2) (hn : 0 < n) (hn2 : n < 20) (hb : ∀ i, 0 ≤ ns.getD i 0 ∧ ns.getD i 0 < 4096) : 0 ≤ dg3 n d L R ns ∧ dg3 n d L R ns < 2 ^ 40 := by
  cases d with
  | zero => unfold dg3; decide
  | succ d =>
    unfold dg3
    split
    · have := hb L.toNat
      exact ⟨this.1, Int.lt_trans this.2 (by decide)⟩
    · have e : (L + R) / 2 = L + 1 := by omega
      rw [e, show L + 1 - L = 1 by omega, Int.one_mul]
      have a := dg3_one (n := n) (d := d) (L := L + 1) (R := R) (by omega) hb
      have b := dg3_one (n := n) (d := d) (L := L) (R := L + 1) (by omega) hb
      have hp : (0 : Int) < 2 ^ n.toNat := Int.pow_pos (by decide)
      have hp2 : (2 : Int) ^ n.toNat ≤ 2 ^ 20 := by
        have := Nat.pow_le_pow_right (n := 2) (by decide) (show n.toNat ≤ 20 by omega)
        exact_mod_cast this
      have c : dg3 n d (L + 1) R ns * 2 ^ n.toNat ≤ 4096 * 2 ^ 20 := Int.mul_le_mul (by omega) hp2 (by omega) (by decide)
      have c0 := Int.mul_nonneg a.1 (Int.le_of_lt hp)
      have c1 : (4096 : Int) * 2 ^ 20 + 4096 < 2 ^ 40 := by decide
      omega
local macro_rules | `(tactic| k_all) => `(tactic| assumption)
theorem in3_spec (w : World) (p : Program) (loose : List Str) (mean : ExcName → Option Value) (mg mb : Str → Option Value) (news : Led) (n : Int) (tn : Tok) (hn : 0 < n) (hn2 : n < 20)
    (f c' cA cI cN D : Addr) (doc pm ctv : Value) (oc oA oI oN : Obj) (vs : Array Value) (tq : Tok) (its : List Value) (e : Nat) (ns : List Int) (hi : IntsAre its ns) (hR4 : ns.length ≤ 4) (hb : ∀ i, 0 ≤ ns.getD i 0 ∧ ns.getD i 0 < 4096)
    (h1 : oc.data = .fields vs) (h2 : vs[1]? = some (.str (Str.ofString "_digits2int.<locals>.inner") tq)) (h3 : oA.data = .cell (some (.ref D))) (h4 : oI.data = .cell (some (.ref f))) (h5 : oN.data = .cell (some (.int n tn))) (d : Nat) : 
    ∀ (Lq Rq : Int) (tL tR : Tok) (dp un : Nat) (gd : Option (List Code)) (cn : Str) (cs : Scope) (ad : Addr) (ccd : Value) (cl : List (Str × Addr)) (outer : List Env) (A₀ : Around) (base h₀ : Heap) (L : Addr) (m : Str → Option Value) (s : Shared) (Q E : Value → Shared → Prop),
    0 ≤ Lq → Lq < Rq → Rq ≤ ns.length → Rq - Lq ≤ d → d ≤ 4 → 
    Below A₀ base outer h₀ → Fr h₀ L s.heap m → (myK w.params).In h₀ → CodeHd base 80 76 → News h₀ L s.heap ((f, in3O [(Str.ofString "n", cN), (Str.ofString "inner", cI), (Str.ofString "digits", cA)] doc pm c' ctv) :: (c', oc) :: (cI, oI) :: (cN, oN) :: (cA, oA) :: (D, W.listOf its.toArray e) :: news) → Top p loose mean mg mb h₀ → cs.kind = .function →
    dp + d < recursionLimit → un + 3 * d + 8 < cLine →
    (∀ (t' : Tok) (h' : Heap) (tk' : Nat), Fr h₀ L h' m → News h₀ L h' ((f, in3O [(Str.ofString "n", cN), (Str.ofString "inner", cI), (Str.ofString "digits", cA)] doc pm c' ctv) :: (c', oc) :: (cI, oI) :: (cN, oN) :: (cA, oA) :: (D, W.listOf its.toArray e) :: news) → Q (.int (dg3 n d Lq Rq ns) t') { s with heap := h', toks := tk' }) →
    wpAny (model PySem.Challenge.rw_sn0092_01.row.prog w) (ktrTop dp un gd cn cs L ad ccd cl outer) (call (.ref f) [.int Lq tL, .int Rq tR]) Q E s := by
  k_fill
  induction d with
  | zero => intros; omega
  | succ d ih =>
    intro Lq Rq tL tR dp un gd cn cs ad ccd cl outer A₀ base h₀ L m s Q E hL hLR hR hd hd4 B F X C N T hk hdp hu hret
    refine wpAny_call ?_
    refine' code_nest (binds := [(Str.ofString "L", .int Lq tL), (Str.ofString "R", .int Rq tR)]) ?k1 ?k2 ?k3 ?k4 ?k5 ?kA ?kF ?kK ?k6 ?k7 ?k8 ?k9 ?kB ?_ ?c2 ?c3 ?c4 ?c5
    (case kA => exact rfl); (case kF => exact rfl); (case kK => assumption); (case k1 => k_asm); (case k2 => k_asm); (case k3 => k_asm); (case k4 => k_asm); (case k5 => k_asm); (case k6 => k_mem); (case k7 => exact codeRec_news (by k_asm) (by k_mem) (by assumption) (by assumption)); (case k8 => ktr_room); (case k9 => exact BindsTo.of_eq rfl); (case c5 => decide); (case kB => exact locs rfl); (case c2 => exact rfl); (case c3 => exact rfl); (case c4 => exact rfl)
    intro g' L' h' FG' F' N' B' X' T'
    k_lift B'
    dsimp only [List.reverse_cons, List.reverse_nil, List.nil_append, List.length_cons, List.length_nil] at *
    have hlen := hi.length
    have hM : (Lq + Rq).fdiv (2 ^ Int.toNat 1) = (Lq + Rq) / 2 := fdiv_pow (by omega) 1
    have hM1 : Lq ≤ (Lq + Rq) / 2 := by omega
    have hM2 : (Lq + Rq) / 2 - Lq ≤ 2 := by omega
    have hs0 : 0 ≤ ((Lq + Rq).fdiv (2 ^ Int.toNat 1) - Lq) * n := by rw [hM]; exact Int.mul_nonneg (by omega) (by omega)
    have hs1 : ((Lq + Rq).fdiv (2 ^ Int.toNat 1) - Lq) * n ≤ 40 := by
      rw [hM]
      exact Int.le_trans (Int.mul_le_mul_of_nonneg_right hM2 (by omega)) (by omega)
    k_steps
    · have e1 : dg3 n (d + 1) Lq Rq ns = ns.getD Lq.toNat 0 := by unfold dg3; rw [if_pos (by assumption)]
      rw [e1] at hret
      exact hret _ _ _ (by assumption) (by assumption)
    · rename Fr g' L' _ _ => F2
      rename News g' L' _ _ => N2
      refine ih _ _ _ _ _ _ _ _ _ _ _ _ _ _ _ _ _ _ _ _ _ ?_ ?_ ?_ ?_ ?_ B' F2 X' C N2 T' rfl ?dd ?uu ?kk
      (case dd => (dsimp only; omega)); (case uu => (dsimp only; omega))
      case kk =>
       intro t1' h1' tk1 F3 N3
       have hv := dg3_two (n := n) (d := d) (L := (Lq + Rq).fdiv (2 ^ Int.toNat 1)) (R := Rq) (ns := ns) (by omega) (by omega) hn hn2 hb
       have hv1 := hv.1
       have hv2 := hv.2
       k_steps
       rename Fr g' L' _ _ => F5
       rename News g' L' _ _ => N5
       refine ih _ _ _ _ _ _ _ _ _ _ _ _ _ _ _ _ _ _ _ _ _ ?_ ?_ ?_ ?_ ?_ B' F5 X' C N5 T' rfl ?dd ?uu ?kk
       (case dd => (dsimp only; omega)); (case uu => (dsimp only; omega))
       case kk =>
        intro t2' h2' tk2 F6 N6
        have e1 : dg3 n (d + 1) Lq Rq ns = dg3 n d ((Lq + Rq).fdiv (2 ^ Int.toNat 1)) Rq ns * 2 ^ (((Lq + Rq).fdiv (2 ^ Int.toNat 1) - Lq) * n).toNat + dg3 n d Lq ((Lq + Rq).fdiv (2 ^ Int.toNat 1)) ns := by
          rw [hM]
          show (if Lq + 1 = Rq then _ else _) = _
          rw [if_neg (by assumption)]
        rw [e1] at hret
        k_steps
        exact hret _ _ _ (by assumption) (by assumption)
       all_goals omega
      all_goals omega
end Mine
end
-- part Fst
section
theorem Mine.offFst : True := by
  w_top off
  k_with_none
  trivial
open PySem PySem.W PyProof.Rows PySem.Calls
set_option Elab.async false
set_option maxRecDepth 100000
set_option maxHeartbeats 0
set_option linter.unusedVariables false
namespace Mine
/-- a table of nested defs: not yet grown, or with its one code object -/
noncomputable abbrev TabS := Option (Addr × Obj)
noncomputable abbrev tabL (P : Addr) (ln cl : Int) : TabS → Led
  | none => [(P, tabObj #[])]
  | some (c', oc) => [(P, tabObj #[rawInt ln, rawInt cl, .ref c']), (c', oc)]
noncomputable def tabOk (q : Str) : TabS → Prop
  | none => True
  | some (c', oc) => ∃ vs t, oc.data = .fields vs ∧ vs[1]? = some (.str q t)
noncomputable def apart (P : Addr) (T : TabS) (news : Led) : Prop := (∀ p ∈ news, p.1 ≠ P) ∧ (∀ c' oc, T = some (c', oc) → c' ≠ P ∧ ∀ p ∈ news, p.1 ≠ c')
/-- a def that makes a nested def: the table P grows at the first call -/
noncomputable def FSpecT (w : World) (p : Program) (loose : List Str) (mean : ExcName → Option Value) (mg mb : Str → Option Value) (c P : Addr) (ln cc : Int) (q : Str) (T : TabS) (f : Addr) (vs : List Value) (news : Led) (dd uu : Nat) (Ret : Value → Led → Prop) : Prop :=
  ∀ (dp un : Nat) (gd : Option (List Code)) (cn : Str) (cs : Scope) (ad : Addr) (ccd : Value) (cl : List (Str × Addr)) (outer : List Env) (A₀ : Around) (base h₀ : Heap) (L : Addr) (m : Str → Option Value) (s : Shared) (Q E : Value → Shared → Prop),
    Below A₀ base outer h₀ → Fr h₀ L s.heap m → (myK w.params).In h₀ → CodeHd base c P → News h₀ L s.heap (tabL P ln cc T ++ news) → tabOk q T → apart P T news → Top p loose mean mg mb h₀ → cs.kind = .function →
    dp + dd < recursionLimit → un + uu < cLine →
    (∀ (r : Value) (tl : Led) (c' : Addr) (oc : Obj) (h' : Heap) (tk' : Nat), Fr h₀ L h' m → News h₀ L h' (tabL P ln cc (some (c', oc)) ++ (tl ++ news)) → tabOk q (some (c', oc)) → apart P (some (c', oc)) (tl ++ news) → (T ≠ none → T = some (c', oc)) → (∀ q ∈ news, ∀ p ∈ tl, q.1 < p.1) → Ret r tl → Q r { s with heap := h', toks := tk' }) →
    wpAny (model PySem.Challenge.rw_sn0092_01.row.prog w) (ktrTop dp un gd cn cs L ad ccd cl outer) (call (.ref f) vs []) Q E s
end Mine
end
-- part In2
section
theorem Mine.offIn2 : True := by
  w_top off
  k_with_none
  trivial
open PySem PySem.W PyProof.Rows PySem.Calls
set_option Elab.async false
set_option maxRecDepth 100000
set_option maxHeartbeats 0
set_option linter.unusedVariables false
namespace Mine
noncomputable def dg2 (n : Int) : Nat → Int → Int → Int → List Int → List Int
  | 0, _, _, _, ns => ns
  | d + 1, x, L, R, ns => if L + 1 = R then ns.set L.toNat x else
    dg2 n d (x / 2 ^ (((L + R) / 2 - L) * n).toNat) ((L + R) / 2) R (dg2 n d (x % 2 ^ (((L + R) / 2 - L) * n).toNat) L ((L + R) / 2) ns)
theorem dg2_len (n : Int) : ∀ (d : Nat) (x L R : Int) (ns : List Int), (dg2 n d x L R ns).length = ns.length
  | 0, _, _, _, _ => rfl
  | d + 1, x, L, R, ns => by
    unfold dg2
    split
    · rw [List.length_set]
    · rw [dg2_len n d, dg2_len n d]
local macro_rules | `(tactic| k_all) => `(tactic| assumption)
theorem in2_spec (w : World) (p : Program) (loose : List Str) (mean : ExcName → Option Value) (mg mb : Str → Option Value) (news : Led) (n : Int) (tn : Tok) (hn : 0 < n) (hn2 : n < 20)
    (f c' cA cI cN D : Addr) (doc pm ctv : Value) (oc oA oI oN : Obj) (vs : Array Value) (tq : Tok)
    (h1 : oc.data = .fields vs) (h2 : vs[1]? = some (.str (Str.ofString "_int2digits.<locals>.inner") tq)) (h3 : oA.data = .cell (some (.ref D))) (h4 : oI.data = .cell (some (.ref f))) (h5 : oN.data = .cell (some (.int n tn)))
    (g1 : @Ne Nat cA D ∧ @Ne Nat cI D ∧ @Ne Nat cN D ∧ @Ne Nat c' D ∧ @Ne Nat f D) (g2 : AllLt D news) (d : Nat) : 
    ∀ (x Lq Rq : Int) (tx tL tR : Tok) (dp un : Nat) (gd : Option (List Code)) (cn : Str) (cs : Scope) (ad : Addr) (ccd : Value) (cl : List (Str × Addr)) (outer : List Env) (A₀ : Around) (base h₀ : Heap) (L : Addr) (m : Str → Option Value) (s : Shared) (Q E : Value → Shared → Prop) (its : List Value) (e : Nat) (ns : List Int),
    0 ≤ Lq → Lq < Rq → Rq ≤ ns.length → ns.length ≤ 4 → Rq - Lq ≤ d → d ≤ 4 → 0 ≤ x → x < 2000 → IntsAre its ns →
    Below A₀ base outer h₀ → Fr h₀ L s.heap m → (myK w.params).In h₀ → CodeHd base 73 69 → News h₀ L s.heap ((f, in2O [(Str.ofString "n", cN), (Str.ofString "inner", cI), (Str.ofString "a_digits", cA)] doc pm c' ctv) :: (c', oc) :: (D, W.listOf its.toArray e) :: (cI, oI) :: (cA, oA) :: (cN, oN) :: news) → Top p loose mean mg mb h₀ → cs.kind = .function →
    dp + d < recursionLimit → un + 3 * d + 8 < cLine →
    (∀ (its' : List Value) (e' : Nat) (h' : Heap) (tk' : Nat), Fr h₀ L h' m → News h₀ L h' ((f, in2O [(Str.ofString "n", cN), (Str.ofString "inner", cI), (Str.ofString "a_digits", cA)] doc pm c' ctv) :: (c', oc) :: (D, W.listOf its'.toArray e') :: (cI, oI) :: (cA, oA) :: (cN, oN) :: news) → IntsAre its' (dg2 n d x Lq Rq ns) → Q .none { s with heap := h', toks := tk' }) →
    wpAny (model PySem.Challenge.rw_sn0092_01.row.prog w) (ktrTop dp un gd cn cs L ad ccd cl outer) (call (.ref f) [.int x tx, .int Lq tL, .int Rq tR]) Q E s := by
  k_fill
  induction d with
  | zero => intros; omega
  | succ d ih =>
    intro x Lq Rq tx tL tR dp un gd cn cs ad ccd cl outer A₀ base h₀ L m s Q E its e ns hL hLR hR hR4 hd hd4 hx hx2 hi B F X C N T hk hdp hu hret
    refine wpAny_call ?_
    refine' code_nest (binds := [(Str.ofString "x", .int x tx), (Str.ofString "L", .int Lq tL), (Str.ofString "R", .int Rq tR)]) ?k1 ?k2 ?k3 ?k4 ?k5 ?kA ?kF ?kK ?k6 ?k7 ?k8 ?k9 ?kB ?_ ?c2 ?c3 ?c4 ?c5
    (case kA => exact rfl); (case kF => exact rfl); (case kK => assumption); (case k1 => k_asm); (case k2 => k_asm); (case k3 => k_asm); (case k4 => k_asm); (case k5 => k_asm); (case k6 => k_mem); (case k7 => exact codeRec_news (by k_asm) (by k_mem) (by assumption) (by assumption)); (case k8 => ktr_room); (case k9 => exact BindsTo.of_eq rfl); (case c5 => decide); (case kB => exact locs rfl); (case c2 => exact rfl); (case c3 => exact rfl); (case c4 => exact rfl)
    intro g' L' h' FG' F' N' B' X' T'
    k_lift B'
    dsimp only [List.reverse_cons, List.reverse_nil, List.nil_append, List.length_cons, List.length_nil] at *
    have hlen := hi.length
    have hM : (Lq + Rq).fdiv (2 ^ Int.toNat 1) = (Lq + Rq) / 2 := fdiv_pow (by omega) 1
    have hM1 : Lq ≤ (Lq + Rq) / 2 := by omega
    have hM2 : (Lq + Rq) / 2 - Lq ≤ 2 := by omega
    have hs0 : 0 ≤ ((Lq + Rq).fdiv (2 ^ Int.toNat 1) - Lq) * n := by rw [hM]; exact Int.mul_nonneg (by omega) (by omega)
    have hs1 : ((Lq + Rq).fdiv (2 ^ Int.toNat 1) - Lq) * n ≤ 40 := by
      rw [hM]
      exact Int.le_trans (Int.mul_le_mul_of_nonneg_right hM2 (by omega)) (by omega)
    have hu0 := div_bounds hx (((Lq + Rq).fdiv (2 ^ Int.toNat 1) - Lq) * n).toNat
    rw [← fdiv_pow hx] at hu0
    have hu1 := hu0.1
    have hu2 := hu0.2
    k_steps
    · exact hret _ _ _ _ (by assumption) (by assumption) (by unfold dg2; rw [if_pos (by assumption)]; assumption)
    · rename Fr g' L' _ _ => F2
      rename News g' L' _ _ => N2
      have hxl := int_low hx (((Lq + Rq).fdiv (2 ^ Int.toNat 1) - Lq) * n).toNat
      have hm := mod_bounds hx (((Lq + Rq).fdiv (2 ^ Int.toNat 1) - Lq) * n).toNat
      rw [hxl]
      refine ih _ _ _ _ _ _ _ _ _ _ _ _ _ _ _ _ _ _ _ _ _ _ _ _ _ _ hL ?_ ?_ hR4 ?_ ?_ hm.1 ?_ hi B' F2 X' C N2 T' rfl ?dd ?uu ?kk
      (case dd => (dsimp only; omega)); (case uu => (dsimp only; omega))
      case kk =>
       intro its1 e1 h1' tk1 F3 N3 hi1
       k_steps
       rename Fr g' L' _ _ => F5
       rename News g' L' _ _ => N5
       have hl1 := dg2_len n d (x % 2 ^ (((Lq + Rq).fdiv (2 ^ Int.toNat 1) - Lq) * n).toNat) Lq ((Lq + Rq).fdiv (2 ^ Int.toNat 1)) ns
       refine ih _ _ _ _ _ _ _ _ _ _ _ _ _ _ _ _ _ _ _ _ _ _ _ _ _ _ ?_ ?_ ?_ ?_ ?_ ?_ hu1 ?_ hi1 B' F5 X' C N5 T' rfl ?dd ?uu ?kk
       (case dd => (dsimp only; omega)); (case uu => (dsimp only; omega))
       case kk =>
        intro its2 e2 h2' tk2 F6 N6 hi2
        k_steps
        refine hret _ _ _ _ (by assumption) (by assumption) ?_
        unfold dg2
        rw [if_neg (by assumption)]
        rw [hM, fdiv_pow hx] at hi2
        exact hi2
       all_goals omega
      all_goals omega
end Mine
end
-- part Idg
section
theorem Mine.offIdg : True := by
  w_top off
  k_with_none
  trivial
open PySem PySem.W PyProof.Rows PySem.Calls
set_option Elab.async false
set_option maxRecDepth 100000
set_option maxHeartbeats 0
set_option linter.unusedVariables false
namespace Mine
local macro_rules | `(tactic| k_all) => `(tactic| assumption)
noncomputable abbrev q2 : Str := Str.ofString "_int2digits.<locals>.inner"
noncomputable def digs (n a : Int) : List Int := dg2 n 4 a 0 ((Builtin.Int.intBits a + n - 1) / n) (List.replicate ((Builtin.Int.intBits a + n - 1) / n).toNat 0)
theorem News.sub {h₀ h : Heap} {L : Addr} {l l' : Led} (N : News h₀ L h l) (hs : ∀ q ∈ l', q ∈ l) : News h₀ L h l' := fun q hq => N q (hs q hq)
theorem flat1 (k : Nat) : (List.replicate k [(0 : Int)]).flatten = List.replicate k 0 := by simp
theorem allLt_lt {d : Addr} : ∀ {l : Led}, AllLt d l → ∀ p ∈ l, p.1 < d
  | [], _, _, h => nomatch h
  | _ :: _, x, p, h => by
    rcases List.mem_cons.mp h with rfl | h
    · exact x.1
    · exact allLt_lt x.2 p h
theorem allLt_ne {d : Addr} {l : Led} (x : AllLt d l) : ∀ p ∈ l, p.1 ≠ d := fun p hp => Nat.ne_of_lt (allLt_lt x p hp)
theorem news_name2 {g h : Heap} {L a b : Addr} {o o' : Obj} {r : Led} (N : News g L h ((a, o) :: (b, o') :: r)) : ∃ l0, l0 = b := ⟨b, rfl⟩
theorem idg_spec (w : World) (p : Program) (loose : List Str) (mean : ExcName → Option Value) (mg mb : Str → Option Value) (news : Led) (a n : Int) (t1 t2 : Tok) (T : TabS)
    (ha : 0 < a) (ha2 : a < 2000) (hn : 0 < n) (hn2 : n < 20) (hk : ((Builtin.Int.intBits a : Int) + n - 1) / n ≤ 4) (hk1 : 1 ≤ ((Builtin.Int.intBits a : Int) + n - 1) / n) : 
   FSpecT w p loose mean mg mb 73 69 87 4 q2 T 74 [.int a t1, .int n t2] news 8 40 (fun r tl => ∃ D its e, r = .ref D ∧ tl = [(D, W.listOf (List.toArray its) e)] ∧ IntsAre its (digs n a)) := by
  unfold FSpecT
  k_fill
  intro dp un gd cn cs ad ccd cl outer A₀ base h₀ L m s Q E B F X C N hok hap T0 hk2 hd hu hret
  have hkd : ((Builtin.Int.intBits a : Int) + n - 1).fdiv n = ((Builtin.Int.intBits a : Int) + n - 1) / n := Int.fdiv_eq_ediv_of_nonneg _ (by omega)
  have hap1 := hap.1
  rcases T with _ | ⟨c0, o0⟩
  · dsimp only [tabL, List.cons_append, List.nil_append] at N
    refine wpAny_call ?_
    refine' code_defC (binds := [(Str.ofString "a", .int a t1), (Str.ofString "n", .int n t2)]) ?k1 ?k2 ?k3 ?k4 ?k5 ?kA ?kF ?kK ?k6 ?k7 ?k8 ?k9 ?kB ?kD ?_ ?c2 ?c3 ?c4
    (case kA => exact rfl); (case kF => exact rfl); (case kK => assumption); (case k1 => k_asm); (case k2 => k_asm); (case k3 => k_asm); (case k4 => k_asm); (case k5 => k_asm); (case k6 => k_is); (case k7 => k_is); (case k8 => ktr_room); (case k9 => exact BindsTo.of_eq rfl); (case kB => exact rfl); (case kD => decide +kernel); (case c2 => exact rfl); (case c3 => exact rfl); (case c4 => exact rfl)
    intro g' L' h' tk' cells' FG' F' N' Y' B' X' T' l1; (try k_lt l1); k_cells Y'; (try simp only [List.cons_append, List.nil_append] at N'); (try dsimp only); (try k_lift B'); (try k_fold)
    have q1 : AllLt (L' + 1) news := AllLt.le (Nat.le_succ _) l1.2
    have q2 : AllLt (L' + 1 + 1) news := AllLt.le (Nat.le_succ _) q1
    have q3 : AllLt (L' + 1 + 1 + 1) news := AllLt.le (Nat.le_succ _) q2
    k_steps
    · rename Fr g' L' _ _ => F2
      rename News g' L' _ _ => N2
      rename (0 ≤ _ → _ = _) => e3
      rename (List.flatten _).length = _ => e1
      rename IntsAre _ _ => i1
      rename _ = some (Value.str _ _) => d2
      rename _ = Data.fields _ => d1
      have N3 : News _ _ _ (_ :: _ :: _ :: _ :: _ :: _ :: _ :: (69, _) :: news) := News.pick N2 8 [0, 1, 2, 4, 5, 6, 3, 7]
      refine in2_spec w p loose mean mg mb _ n _ hn hn2 _ _ _ _ _ _ _ _ _ _ _ _ _ _ _ (by assumption) d2 (by assumption) (by assumption) (by assumption) ?g1 ?g2 4 a 0 _ _ _ _ _ _ _ _ _ _ _ _ _ _ _ _ _ _ _ _ _ _ _ _ ?p1 ?p2 ?p3 ?p4 ?p5 ?p6 ?p7 ?p8 i1 B' F2 X' C N3 T' rfl ?dd ?uu ?kk
      case kk =>
        intro its' e' h1' tk1 F4 N4 i4
        k_steps
        have hkk := e3 (by rw [hkd]; omega)
        rw [hkd] at hkk
        rw [show ((_ : Nat) : Int) = _ from hkk, hkd, flat1] at i4
        rw [show ((0 + 1 : Nat) : Int) = 1 from rfl, Int.one_mul] at i4
        rename News h₀ L _ _ => N9
        refine hret _ [(_, W.listOf its'.toArray e')] _ _ _ _ (by assumption) (News.pick N9 8 [7, 1, 2]) ⟨_, _, d1, d2⟩ ⟨?a1, ?a2⟩ (fun h => absurd rfl h) ?o ⟨_, _, _, rfl, rfl, i4⟩
        case a1 =>
          intro q hq
          rcases List.mem_cons.mp hq with rfl | hq
          · refine neN ?_; dsimp only; omega
          · exact hap1 q hq
        case a2 =>
          intro c1 o1 he
          cases he
          refine ⟨by refine neN ?_; omega, ?_⟩
          intro q hq
          rcases List.mem_cons.mp hq with rfl | hq
          · refine neN ?_; dsimp only; omega
          · exact allLt_ne (by tbn_find) q hq
        case o =>
          intro q hq r hr
          rcases List.mem_cons.mp hr with rfl | hr
          · exact allLt_lt (by tbn_find) q hq
          · cases hr
      case g1 => refine ⟨?_, ?_, ?_, ?_, ?_⟩ <;> (refine neN ?_; omega)
      case g2 => exact ⟨by omega, by omega, by tbn_find⟩
      all_goals (first | (dsimp only; omega) | skip)
      all_goals (have hkk := e3 (by rw [hkd]; omega); rw [hkd] at hkk; omega)
    · exfalso; omega
  · dsimp only [tabL, List.cons_append, List.nil_append] at N
    obtain ⟨vs0, t0, d1, d2⟩ := hok
    have hc0 := hap.2 c0 o0 rfl
    have hc1 : @Ne Nat c0 69 := hc0.1
    have hc2 := hc0.2
    refine wpAny_call ?_
    refine' code_defC (binds := [(Str.ofString "a", .int a t1), (Str.ofString "n", .int n t2)]) ?k1 ?k2 ?k3 ?k4 ?k5 ?kA ?kF ?kK ?k6 ?k7 ?k8 ?k9 ?kB ?kD ?_ ?c2 ?c3 ?c4
    (case kA => exact rfl); (case kF => exact rfl); (case kK => assumption); (case k1 => k_asm); (case k2 => k_asm); (case k3 => k_asm); (case k4 => k_asm); (case k5 => k_asm); (case k6 => k_is); (case k7 => k_is); (case k8 => ktr_room); (case k9 => exact BindsTo.of_eq rfl); (case kB => exact rfl); (case kD => decide +kernel); (case c2 => exact rfl); (case c3 => exact rfl); (case c4 => exact rfl)
    intro g' L' h' tk' cells' FG' F' N' Y' B' X' T' l1; (try k_lt l1); k_cells Y'; (try simp only [List.cons_append, List.nil_append] at N'); (try dsimp only); (try k_lift B'); (try k_fold)
    have q1 : AllLt (L' + 1) news := AllLt.le (Nat.le_succ _) l1.2.2
    have q2 : AllLt (L' + 1 + 1) news := AllLt.le (Nat.le_succ _) q1
    have q3 : AllLt (L' + 1 + 1 + 1) news := AllLt.le (Nat.le_succ _) q2
    k_steps
    · rename Fr g' L' _ _ => F2
      rename News g' L' _ _ => N2
      rename (0 ≤ _ → _ = _) => e3
      rename (List.flatten _).length = _ => e1
      rename IntsAre _ _ => i1
      have N3 : News _ _ _ (_ :: (c0, o0) :: _ :: _ :: _ :: _ :: _ :: (69, _) :: news) := News.pick N2 8 [0, 7, 1, 3, 4, 5, 2, 6]
      refine in2_spec w p loose mean mg mb _ n _ hn hn2 _ _ _ _ _ _ _ _ _ _ _ _ _ _ _ (by assumption) d2 (by assumption) (by assumption) (by assumption) ?xg1 ?xg2 4 a 0 _ _ _ _ _ _ _ _ _ _ _ _ _ _ _ _ _ _ _ _ _ _ _ _ ?xp1 ?xp2 ?xp3 ?xp4 ?xp5 ?xp6 ?xp7 ?xp8 i1 B' F2 X' C N3 T' rfl ?xdd ?xuu ?xkk
      case xkk =>
        intro its' e' h1' tk1 F4 N4 i4
        k_steps
        have hkk := e3 (by rw [hkd]; omega)
        rw [hkd] at hkk
        rw [show ((_ : Nat) : Int) = _ from hkk, hkd, flat1] at i4
        rw [show ((0 + 1 : Nat) : Int) = 1 from rfl, Int.one_mul] at i4
        rename News h₀ L _ _ => N9
        refine hret _ [(_, W.listOf its'.toArray e')] c0 _ _ _ (by assumption) (News.pick N9 8 [7, 1, 2]) ⟨_, _, d1, d2⟩ ⟨?xa1, ?xa2⟩ (fun _ => rfl) ?xo ⟨_, _, _, rfl, rfl, i4⟩
        case xa1 =>
          intro q hq
          rcases List.mem_cons.mp hq with rfl | hq
          · refine neN ?_; dsimp only; omega
          · exact hap1 q hq
        case xa2 =>
          intro c1 o1 he
          cases he
          refine ⟨hc1, ?_⟩
          intro q hq
          rcases List.mem_cons.mp hq with rfl | hq
          · refine neN ?_; dsimp only; omega
          · exact hc2 q hq
        case xo =>
          intro q hq r hr
          rcases List.mem_cons.mp hr with rfl | hr
          · exact allLt_lt (by tbn_find) q hq
          · cases hr
      case xg1 => refine ⟨?_, ?_, ?_, ?_, ?_⟩ <;> (refine neN ?_; omega)
      case xg2 => exact ⟨by omega, by omega, by tbn_find⟩
      all_goals (first | (dsimp only; omega) | skip)
      all_goals (have hkk := e3 (by rw [hkd]; omega); rw [hkd] at hkk; omega)
    · exfalso; omega
end Mine
end
-- part Fsd
section
theorem Mine.offFsd : True := by
  w_top off
  k_with_none
  trivial
open PySem PySem.W PyProof.Rows PySem.Calls
set_option Elab.async false
set_option maxRecDepth 100000
set_option maxHeartbeats 0
set_option linter.unusedVariables false
namespace Mine
noncomputable abbrev tabA (S : TabS) : Led := tabL 69 87 4 S
noncomputable abbrev tabB (S : TabS) : Led := tabL 76 102 4 S
noncomputable abbrev nmA : Str := Str.ofString "_int2digits.<locals>.inner"
noncomputable abbrev nmB : Str := Str.ofString "_digits2int.<locals>.inner"
/-- a def that reaches both tables of the division -/
noncomputable def FSpecD (w : World) (p : Program) (loose : List Str) (mean : ExcName → Option Value) (mg mb : Str → Option Value) (S2 S3 : TabS) (f : Addr) (vs : List Value) (news : Led) (dd uu : Nat) (Ret : Value → Led → Prop) : Prop :=
  ∀ (dp un : Nat) (gd : Option (List Code)) (cn : Str) (cs : Scope) (ad : Addr) (ccd : Value) (cl : List (Str × Addr)) (outer : List Env) (A₀ : Around) (base h₀ : Heap) (L : Addr) (m : Str → Option Value) (s : Shared) (Q E : Value → Shared → Prop),
    Below A₀ base outer h₀ → Fr h₀ L s.heap m → (myK w.params).In h₀ → CodeHd base 73 69 → CodeHd base 80 76 → News h₀ L s.heap (tabA S2 ++ (tabB S3 ++ news)) → tabOk nmA S2 → tabOk nmB S3 → apart 69 S2 (tabB S3 ++ news) → apart 76 S3 (tabA S2 ++ news) → Top p loose mean mg mb h₀ → cs.kind = .function →
    dp + dd < recursionLimit → un + uu < cLine →
    (∀ (r : Value) (tl : Led) (c2 c3 : Addr) (o2 o3 : Obj) (h' : Heap) (tk' : Nat), Fr h₀ L h' m → News h₀ L h' (tabA (some (c2, o2)) ++ (tabB (some (c3, o3)) ++ (tl ++ news))) → tabOk nmA (some (c2, o2)) → tabOk nmB (some (c3, o3)) → apart 69 (some (c2, o2)) (tabB (some (c3, o3)) ++ (tl ++ news)) → apart 76 (some (c3, o3)) (tabA (some (c2, o2)) ++ (tl ++ news)) → (∀ q ∈ news, ∀ p ∈ tl, q.1 < p.1) → Ret r tl → Q r { s with heap := h', toks := tk' }) →
    wpAny (model PySem.Challenge.rw_sn0092_01.row.prog w) (ktrTop dp un gd cn cs L ad ccd cl outer) (call (.ref f) vs []) Q E s
end Mine
end
-- part DmP
section
theorem Mine.offDmP : True := by
  w_top off
  k_with_none
  trivial
open PySem PySem.W PyProof.Rows PySem.Calls
set_option maxRecDepth 100000
set_option linter.unusedVariables false
namespace Mine
theorem news_name1 {g h : Heap} {L l : Addr} {o : Obj} {r : Led} (N : News g L h ((l, o) :: r)) : ∃ l0, l0 = l := ⟨l, rfl⟩
theorem head_tup {g h : Heap} {L l : Addr} {x y : Int} {t u : Tok} {r : Led} (N : News g L h ((l, tupO [.int x t, .int y u]) :: r)) : ∃ t' u', t' = t ∧ u' = u := ⟨t, u, rfl, rfl⟩
theorem stepQ {A Bq d b : Int} (hb : 0 < b) : (A * Bq + d) / b = A / b * Bq + ((A % b) * Bq + d) / b ∧ (A * Bq + d) % b = ((A % b) * Bq + d) % b := by
  have e : A * Bq + d = ((A % b) * Bq + d) + b * (A / b * Bq) := by
    have h := Int.mul_ediv_add_emod A b
    have h2 : A * Bq = (b * (A / b) + A % b) * Bq := by rw [h]
    rw [h2, Int.add_mul, Int.mul_assoc]
    omega
  constructor
  · rw [e, Int.add_mul_ediv_left _ _ (by omega)]
    omega
  · rw [e, Int.add_mul_emod_self_left]
theorem ints1 {vs : List Value} {x : Int} (h : IntsAre vs [x]) : ∃ t, vs = [.int x t] := by
  cases h with | cons i t h => cases h; exact ⟨_, rfl⟩
theorem ints2 {vs : List Value} {x y : Int} (h : IntsAre vs [x, y]) : ∃ t u, vs = [.int x t, .int y u] := by
  cases h with | cons i t h => obtain ⟨u, rfl⟩ := ints1 h; exact ⟨_, _, rfl⟩
theorem ints3 {vs : List Value} {x y z : Int} (h : IntsAre vs [x, y, z]) : ∃ t u v, vs = [.int x t, .int y u, .int z v] := by
  cases h with | cons i t h => obtain ⟨u, v, rfl⟩ := ints2 h; exact ⟨_, _, _, rfl⟩
theorem ints4 {vs : List Value} {x y z v : Int} (h : IntsAre vs [x, y, z, v]) : ∃ t u v' w, vs = [.int x t, .int y u, .int z v', .int v w] := by
  cases h with | cons i t h => obtain ⟨u, v, w, rfl⟩ := ints3 h; exact ⟨_, _, _, _, rfl⟩
theorem digs1 {n a : Int} (h : (Builtin.Int.intBits a + n - 1) / n = 1) : digs n a = [a] := by
  unfold digs; rw [h]; rfl
theorem digs2 {n a : Int} (h : (Builtin.Int.intBits a + n - 1) / n = 2) : digs n a = [a % 2 ^ n.toNat, a / 2 ^ n.toNat] := by
  unfold digs; rw [h]
  simp [dg2, List.replicate]
theorem digs3 {n a : Int} (h : (Builtin.Int.intBits a + n - 1) / n = 3) : digs n a = [a % 2 ^ n.toNat, a / 2 ^ n.toNat % 2 ^ n.toNat, a / 2 ^ n.toNat / 2 ^ n.toNat] := by
  unfold digs; rw [h]
  simp [dg2, List.replicate]
theorem digs4 {n a : Int} (h : (Builtin.Int.intBits a + n - 1) / n = 4) : digs n a = [a % 2 ^ (2 * n).toNat % 2 ^ n.toNat, a % 2 ^ (2 * n).toNat / 2 ^ n.toNat, a / 2 ^ (2 * n).toNat % 2 ^ n.toNat, a / 2 ^ (2 * n).toNat / 2 ^ n.toNat] := by
  unfold digs; rw [h]
  simp [dg2, List.replicate]
theorem int_dm (a : Int) (k : Nat) : a = a / 2 ^ k * 2 ^ k + a % 2 ^ k := by
  have := Int.mul_ediv_add_emod a (2 ^ k)
  rw [Int.mul_comm] at this
  omega
theorem law1 {n a b : Int} : dg3 n 4 0 1 [(0 * 2 ^ n.toNat + a) / b] = a / b ∧ (0 * 2 ^ n.toNat + a) % b = a % b := by
  simp [dg3]
theorem law2 {n a b : Int} (hb : 0 < b) : let Bq := (2 : Int) ^ n.toNat
    let r1 := (0 * Bq + a / Bq) % b
    dg3 n 4 0 2 [(r1 * Bq + a % Bq) / b, (0 * Bq + a / Bq) / b] = a / b ∧ (r1 * Bq + a % Bq) % b = a % b := by
  intro Bq r1
  have s := stepQ (A := a / Bq) (Bq := Bq) (d := a % Bq) hb
  rw [← int_dm a n.toNat] at s
  rw [s.1, s.2]
  simp [dg3, r1, Bq]
theorem law3 {n a b : Int} (hb : 0 < b) : let Bq := (2 : Int) ^ n.toNat
    let r2 := (0 * Bq + a / Bq / Bq) % b
    let r1 := (r2 * Bq + a / Bq % Bq) % b
    dg3 n 4 0 3 [(r1 * Bq + a % Bq) / b, (r2 * Bq + a / Bq % Bq) / b, (0 * Bq + a / Bq / Bq) / b] = a / b ∧ (r1 * Bq + a % Bq) % b = a % b := by
  intro Bq r2 r1
  have s := stepQ (A := a / Bq) (Bq := Bq) (d := a % Bq) hb
  have s2 := stepQ (A := a / Bq / Bq) (Bq := Bq) (d := a / Bq % Bq) hb
  rw [← int_dm a n.toNat] at s
  rw [← int_dm (a / Bq) n.toNat] at s2
  have e1 : r1 = a / Bq % b := by rw [s2.2]; simp [r1, r2]
  rw [s.1, s.2, e1, s2.1]
  simp [dg3, r2, Bq]
theorem law4 {n a b : Int} (hb : 0 < b) (hn : 0 ≤ n) : let Bq := (2 : Int) ^ n.toNat
    let B2 := (2 : Int) ^ (2 * n).toNat
    let r3 := (0 * Bq + a / B2 / Bq) % b
    let r2 := (r3 * Bq + a / B2 % Bq) % b
    let r1 := (r2 * Bq + a % B2 / Bq) % b
    dg3 n 4 0 4 [(r1 * Bq + a % B2 % Bq) / b, (r2 * Bq + a % B2 / Bq) / b, (r3 * Bq + a / B2 % Bq) / b, (0 * Bq + a / B2 / Bq) / b] = a / b ∧ (r1 * Bq + a % B2 % Bq) % b = a % b := by
  intro Bq B2 r3 r2 r1
  have hB : B2 = Bq * Bq := by
    show (2 : Int) ^ (2 * n).toNat = 2 ^ n.toNat * 2 ^ n.toNat
    rw [← Int.pow_add]
    congr 1
    omega
  have s3 := stepQ (A := a / B2 / Bq) (Bq := Bq) (d := a / B2 % Bq) hb
  rw [← int_dm (a / B2) n.toNat] at s3
  have s2 := stepQ (A := a / B2) (Bq := Bq) (d := a % B2 / Bq) hb
  have s1 := stepQ (A := a / B2 * Bq + a % B2 / Bq) (Bq := Bq) (d := a % B2 % Bq) hb
  have ea : (a / B2 * Bq + a % B2 / Bq) * Bq + a % B2 % Bq = a := by
    have h1 := int_dm (a % B2) n.toNat
    have h2 := int_dm a (2 * n).toNat
    have h3 : a / B2 * Bq * Bq = a / B2 * B2 := by rw [hB, Int.mul_assoc]
    rw [Int.add_mul, h3]
    show a / B2 * B2 + a % B2 / Bq * Bq + a % B2 % Bq = a
    have h1' : a % B2 = a % B2 / Bq * Bq + a % B2 % Bq := h1
    have h2' : a = a / B2 * B2 + a % B2 := h2
    omega
  rw [ea] at s1
  have e2 : r2 = a / B2 % b := by rw [s3.2]; simp [r2, r3]
  have e1 : r1 = (a / B2 * Bq + a % B2 / Bq) % b := by rw [s2.2, ← e2]
  have ed : ∀ x y z v : Int, dg3 n 4 0 4 [x, y, z, v] = (v * Bq + z) * B2 + (y * Bq + x) := by
    intro x y z v
    simp [dg3, Bq, B2]
  rw [ed, s1.1, s1.2, e1, e2, s2.1, s3.1]
  refine ⟨?_, rfl⟩
  simp only [Int.zero_mul, Int.zero_add, hB, Int.add_mul, Int.mul_assoc, r3]
  omega
theorem side0 {Bq d : Int} (hd : 0 ≤ d) (hd2 : d < 2000) : 0 ≤ 0 * Bq + d ∧ 0 * Bq + d < 2 ^ 60 := by
  rw [Int.zero_mul]
  have e : (2 : Int) ^ 60 = 1152921504606846976 := by decide
  omega
theorem side1 {Bq d x b : Int} (hb : 0 < b) (hb2 : b < 2000) (hB : 0 < Bq) (hB2 : Bq ≤ 2048) (hd : 0 ≤ d) (hd2 : d < 2000) : 0 ≤ x % b * Bq + d ∧ x % b * Bq + d < 2 ^ 60 := by
  have h1 := Int.emod_nonneg x (show b ≠ 0 by omega)
  have h2 := Int.emod_lt_of_pos x hb
  have e : (2 : Int) ^ 60 = 1152921504606846976 := by decide
  have m0 := Int.mul_nonneg h1 (Int.le_of_lt hB)
  have m1 : x % b * Bq ≤ 2000 * 2048 := Int.mul_le_mul (by omega) hB2 (by omega) (by decide)
  omega
theorem qb0 {Bq d b : Int} (hb : 0 < b) (hd : 0 ≤ d) (hd2 : d < 2000) : 0 ≤ (0 * Bq + d) / b ∧ (0 * Bq + d) / b < 4096 := by
  rw [Int.zero_mul, Int.zero_add]
  exact ⟨Int.ediv_nonneg hd (by omega), Int.lt_of_le_of_lt (Int.ediv_le_self _ hd) (by omega)⟩
theorem qb1 {Bq d x b : Int} (hb : 0 < b) (hB : 0 < Bq) (hB2 : Bq ≤ 2048) (hd : 0 ≤ d) (hd2 : d < 2000) : 0 ≤ (x % b * Bq + d) / b ∧ (x % b * Bq + d) / b < 4096 := by
  have h1 := Int.emod_nonneg x (show b ≠ 0 by omega)
  have h2 := Int.emod_lt_of_pos x hb
  have m0 := Int.mul_nonneg h1 (Int.le_of_lt hB)
  refine ⟨Int.ediv_nonneg (by omega) (by omega), ?_⟩
  refine Int.ediv_lt_of_lt_mul hb ?_
  have m1 : x % b * Bq ≤ (b - 1) * 2048 := Int.mul_le_mul (by omega) hB2 (by omega) (by omega)
  omega
theorem bits11 {b : Int} (hb : 0 < b) (hb2 : b < 2000) : 1 ≤ Builtin.Int.intBits b ∧ Builtin.Int.intBits b ≤ 11 := by
  refine ⟨?_, PyProof.Rows.intBits_le (by have e : 2 ^ 11 = 2048 := rfl
                                          omega)⟩
  unfold Builtin.Int.intBits
  rw [if_neg (by simp; omega)]
  omega
theorem pow11 {k : Nat} (h : k ≤ 11) : (0 : Int) < 2 ^ k ∧ (2 : Int) ^ k ≤ 2048 := by
  refine ⟨Int.pow_pos (by decide), ?_⟩
  have := Nat.pow_le_pow_right (n := 2) (by decide) h
  exact_mod_cast this
noncomputable def okD (x : Int) : Prop := 0 ≤ x ∧ x < 4096
theorem gbn : ∀ (ns : List Int), (∀ x ∈ ns, okD x) → ∀ i, 0 ≤ ns.getD i 0 ∧ ns.getD i 0 < 4096
  | [], _, i => by simp
  | x :: r, h, 0 => h x (List.mem_cons_self ..)
  | x :: r, h, i + 1 => gbn r (fun y hy => h y (List.mem_cons_of_mem _ hy)) i
theorem gb0 : ∀ x ∈ ([] : List Int), okD x := fun _ h => nomatch h
theorem gbc {x : Int} {ns : List Int} (h : okD x) (r : ∀ y ∈ ns, okD y) : ∀ y ∈ x :: ns, okD y := fun y hy => by
  rcases List.mem_cons.mp hy with rfl | hy
  · exact h
  · exact r y hy
theorem tab_mem (P : Addr) (ln cc : Int) (S : TabS) : ∃ o, (P, o) ∈ tabL P ln cc S := by
  cases S with
  | none => exact ⟨_, List.mem_cons_self ..⟩
  | some x => exact ⟨_, List.mem_cons_self ..⟩
theorem apart.cons {P : Addr} {ln cc : Int} {S : TabS} {l : Led} {a : Addr × Obj} (h : apart P S l) (ha : AllLt a.1 (tabL P ln cc S)) : apart P S (a :: l) := by
  refine ⟨fun p hp => ?_, fun c o e => ⟨(h.2 c o e).1, fun p hp => ?_⟩⟩
  · rcases List.mem_cons.mp hp with rfl | hp
    · obtain ⟨o, ho⟩ := tab_mem P ln cc S
      exact Nat.ne_of_gt (allLt_lt ha _ ho)
    · exact h.1 p hp
  · rcases List.mem_cons.mp hp with rfl | hp
    · subst e
      exact Nat.ne_of_gt (allLt_lt ha (c, o) (List.mem_cons_of_mem _ (List.mem_cons_self ..)))
    · exact (h.2 c o e).2 p hp
theorem apart.consN {P : Addr} {S : TabS} {l : Led} {a : Addr × Obj} (h : apart P S l) (h1 : a.1 ≠ P) (h2 : ∀ c o, S = some (c, o) → a.1 ≠ c) : apart P S (a :: l) := by
  refine ⟨fun p hp => ?_, fun c o e => ⟨(h.2 c o e).1, fun p hp => ?_⟩⟩
  · rcases List.mem_cons.mp hp with rfl | hp
    · exact h1
    · exact h.1 p hp
  · rcases List.mem_cons.mp hp with rfl | hp
    · exact h2 c o e
    · exact (h.2 c o e).2 p hp
theorem apart.sub {P : Addr} {S : TabS} {l l' : Led} (h : apart P S l) (hs : ∀ p ∈ l', p ∈ l) : apart P S l' :=
  ⟨fun p hp => h.1 p (hs p hp), fun c o e => ⟨(h.2 c o e).1, fun p hp => (h.2 c o e).2 p (hs p hp)⟩⟩
theorem allLt_app {d : Addr} : ∀ {l r : Led}, AllLt d (l ++ r) → AllLt d l ∧ AllLt d r
  | [], _, h => ⟨trivial, h⟩
  | _ :: _, _, h => ⟨⟨h.1, (allLt_app h.2).1⟩, (allLt_app h.2).2⟩
/-- the ledger of the digits' list, apart from the second table -/
theorem apart_q {S3 : TabS} {l c2 D : Addr} {o1 o3 oD o2 : Obj} {news : Led} {l9 : Led} (h : apart 76 S3 (l9 ++ news)) (hl : AllLt l (tabL 76 102 4 S3 ++ news)) (hD : AllLt D (tabL 76 102 4 S3 ++ news)) (hc : ∀ p ∈ tabL 76 102 4 S3, p.1 ≠ c2) (h69 : ∀ c o, S3 = some (c, o) → (69 : Addr) ≠ c) :
    apart 76 S3 ((l, o1) :: (69, o3) :: (c2, o2) :: (D, oD) :: news) := by
  refine apart.cons (ln := 102) (cc := 4) (apart.consN (apart.consN (apart.cons (ln := 102) (cc := 4) (h.sub fun p hp => List.mem_append_right _ hp) (allLt_app hD).1) ?_ ?_) ?_ h69) (allLt_app hl).1
  · obtain ⟨o, ho⟩ := tab_mem 76 102 4 S3
    exact Ne.symm (hc _ ho)
  · intro c o e
    subst e
    exact Ne.symm (hc (c, o) (List.mem_cons_of_mem _ (List.mem_cons_self ..)))
  · exact (by decide : (69 : Nat) ≠ 76)
theorem apart_end3 {c2 c3 l D x : Addr} {o1 o2 o3 oD ox : Obj} {news : Led} (h : apart 76 (some (c3, o3)) ((l, o1) :: (69, tabObj #[rawInt 87, rawInt 4, .ref c2]) :: (c2, o2) :: (D, oD) :: news)) (h3 : @LT.lt Nat _ c3 x) (h76 : @LT.lt Nat _ 76 x) :
    apart 76 (some (c3, o3)) (tabA (some (c2, o2)) ++ ([(x, ox)] ++ news)) := by
  have a := apart.cons (a := (x, ox)) (ln := 102) (cc := 4) h ⟨h76, h3, trivial⟩
  refine a.sub fun p hp => ?_
  simp only [tabL, List.mem_append, List.mem_cons, List.not_mem_nil, or_false] at hp ⊢
  rcases hp with (h | h) | h | h
  · exact .inr (.inr (.inl h))
  · exact .inr (.inr (.inr (.inl h)))
  · exact .inl h
  · exact .inr (.inr (.inr (.inr (.inr h))))
theorem apart_end2 {c2 c3 l D x : Addr} {o1 o2 o3 oD oD' ox : Obj} {news : Led} {S3 : TabS} (h2 : apart 69 (some (c2, o2)) ([(D, oD)] ++ (tabL 76 102 4 S3 ++ news))) (h : apart 76 (some (c3, o3)) ((l, o1) :: (69, tabObj #[rawInt 87, rawInt 4, .ref c2]) :: (c2, o2) :: (D, oD') :: news)) (hx2 : @LT.lt Nat _ c2 x) (h69 : @LT.lt Nat _ 69 x) :
    apart 69 (some (c2, o2)) (tabB (some (c3, o3)) ++ ([(x, ox)] ++ news)) := by
  have a : apart 69 (some (c2, o2)) news := h2.sub fun p hp => List.mem_append_right _ (List.mem_append_right _ hp)
  have b := apart.cons (a := (x, ox)) (ln := 87) (cc := 4) a ⟨h69, hx2, trivial⟩
  have k := (h.2 c3 o3 rfl).2
  refine apart.consN (a := (76, _)) (apart.consN (a := (c3, o3)) b ?_ ?_) ?_ ?_
  · exact Ne.symm (k _ (List.mem_cons_of_mem _ (List.mem_cons_self ..)))
  · intro c o e
    cases e
    exact Ne.symm (k (c2, o2) (List.mem_cons_of_mem _ (List.mem_cons_of_mem _ (List.mem_cons_self ..))))
  · exact (by decide : (76 : Nat) ≠ 69)
  · intro c o e
    cases e
    exact Ne.symm (h.1 (c2, o2) (List.mem_cons_of_mem _ (List.mem_cons_of_mem _ (List.mem_cons_self ..))))
end Mine
end
-- part RevI
section
theorem Mine.offRevI : True := by
  w_top off
  k_with_none
  trivial
open PySem PySem.W PyProof.Rows PySem.Calls
set_option Elab.async false
set_option maxRecDepth 100000
set_option linter.unusedVariables false
namespace Mine
theorem rev_ind {σ : Type} {prog : Program} {w : World} {A : Around} {E : Value → Shared → Prop} {h₀ : Heap} {env : Env} {x : Str} {body : List Stmt} {Q : Flow → Shared → Prop} {s : Shared} {I : Addr} {lp : Addr × Obj}
    (Inv : List Value → σ → (Str → Option Value) → Led → Prop)
    (turn : ∀ v r c m news, Inv (v :: r) c m news → ∀ (it : Obj) h tk, it.cls = .type "list_reverseiterator" → Fr h₀ env.locals h (fun y => if y = x then some v else m y) → News h₀ env.locals h ((I, it) :: news) →
      wpAny (model prog w) A (execs body env) (UnrPost h₀ env.locals { s with heap := h, toks := tk } I it (fun m' n' => lp ∈ n' ∧ ∃ c', Inv r c' m' n') Q) E { s with heap := h, toks := tk })
    (fin : ∀ c m news, Inv [] c m news → ∀ h tk, Fr h₀ env.locals h m → News h₀ env.locals h news → Q .next { s with heap := h, toks := tk }) :
    ∀ (l : List Value) (c : σ) (m : Str → Option Value) (news : Led), Inv l c m news → RevRest prog w A E h₀ env x body Q s I lp l m news
  | [], c, m, news, h => RevRest.zero (fun h' tk F N => fin c m news h h' tk F N)
  | v :: r, c, m, news, h => RevRest.succ (fun it h' tk hit F N => by
    refine wpAny_mono (turn v r c m news h it h' tk hit F N) (fun f s₂ p => ?_) fun _ _ e => e
    have go : UnrEnd h₀ env.locals { s with heap := h', toks := tk } I it (fun m' n' => lp ∈ n' ∧ ∃ c', Inv r c' m' n') s₂ → UnrEnd h₀ env.locals { s with heap := h', toks := tk } I it (fun m' n' => lp ∈ n' ∧ RevRest prog w A E h₀ env x body Q s I lp r m' n') s₂ := by
      rintro ⟨h2, tk2, m2, n2, e2, F2, N2, o2, hl, c', hi⟩
      exact ⟨h2, tk2, m2, n2, e2, F2, N2, o2, hl, rev_ind Inv turn fin r c' m2 n2 hi⟩
    cases f with
    | ret v => exact p
    | brk => exact p
    | next => exact go p
    | cont => exact go p)
noncomputable def stQ (b B : Int) : List Int → Int × List Int → Int × List Int
  | [], s => s
  | d :: r, s => stQ b B r ((s.1 * B + d) % b, s.2 ++ [(s.1 * B + d) / b])
theorem ints_rev : ∀ {vs : List Value} {ns : List Int}, IntsAre vs ns → IntsAre vs.reverse ns.reverse
  | _, _, .nil => .nil
  | _, _, .cons i t h => by
    rw [List.reverse_cons, List.reverse_cons]
    exact (ints_rev h).append (.cons i t .nil)
theorem ints_snoc : ∀ {vs : List Value} {ns : List Int}, IntsAre vs ns → ∀ (i : Int) (t : Tok), IntsAre (vs ++ [.int i t]) (ns ++ [i])
  | _, _, .nil, i, t => .cons i t .nil
  | _, _, .cons j u h, i, t => .cons j u (ints_snoc h i t)
theorem sideX {Bq d x b : Int} (h1 : 0 ≤ x) (h2 : x < b) (hb2 : b < 2000) (hB : 0 < Bq) (hB2 : Bq ≤ 2048) (hd : 0 ≤ d) (hd2 : d < 2000) : 0 ≤ x * Bq + d ∧ x * Bq + d < 2 ^ 60 := by
  have e : (2 : Int) ^ 60 = 1152921504606846976 := by decide
  have m0 := Int.mul_nonneg h1 (Int.le_of_lt hB)
  have m1 : x * Bq ≤ 2000 * 2048 := Int.mul_le_mul (by omega) hB2 (by omega) (by decide)
  omega
theorem qbX {Bq d x b : Int} (hb : 0 < b) (h1 : 0 ≤ x) (h2 : x < b) (hB : 0 < Bq) (hB2 : Bq ≤ 2048) (hd : 0 ≤ d) (hd2 : d < 2000) : okD ((x * Bq + d) / b) := by
  have m0 := Int.mul_nonneg h1 (Int.le_of_lt hB)
  refine ⟨Int.ediv_nonneg (by omega) (by omega), ?_⟩
  refine Int.ediv_lt_of_lt_mul hb ?_
  have m1 : x * Bq ≤ (b - 1) * 2048 := Int.mul_le_mul (by omega) hB2 (by omega) (by omega)
  omega
/-- the state of the division's loop: the rest, its token, the quotient's digits, the list's age -/
noncomputable abbrev StD := Int × Tok × List Value × List Int × Nat
noncomputable def InvD (b B : Int) (m₀ : Str → Option Value) (l : Addr) (rest : Led) (K : Nat) (fin : Int × List Int) (rem : List Value) (c : StD) (m : Str → Option Value) (news : Led) : Prop :=
  ∃ ds, IntsAre rem ds ∧ (∀ d ∈ ds, 0 ≤ d ∧ d < 2000) ∧ (0 ≤ c.1 ∧ c.1 < b) ∧ IntsAre c.2.2.1 c.2.2.2.1 ∧ (∀ y ∈ c.2.2.2.1, okD y) ∧ rem.length + c.2.2.1.length = K ∧
      (∀ p ∈ [(Str.ofString "r", Value.int c.1 c.2.1)], m p.1 = some p.2) ∧ (∀ z, (∀ p ∈ [(Str.ofString "r", Value.int c.1 c.2.1)], z ≠ p.1) → [Str.ofString "q_digit", Str.ofString "a_digit"].contains z = false → m z = m₀ z) ∧
      news = (l, W.listOf (List.toArray c.2.2.1) c.2.2.2.2) :: rest ∧
      stQ b B ds (c.1, c.2.2.2.1) = fin
theorem InvD.step {b B : Int} {m₀ m' : Str → Option Value} {l : Addr} {rest : Led} {K : Nat} {fin : Int × List Int} {r vs : List Value} {ds' qs : List Int} {v : Value} {d x : Int} {tr tq : Tok} {e' : Nat} (hb : 0 < b) (h1 : 0 ≤ x) (h2 : x < b) (hB : 0 < B) (hB2 : B ≤ 2048)
    (hds : IntsAre r ds') (hd : ∀ y ∈ d :: ds', 0 ≤ y ∧ y < 2000) (hvs : IntsAre vs qs) (hok : ∀ y ∈ qs, okD y) (hlen : (v :: r).length + vs.length = K) (hfin : stQ b B (d :: ds') (x, qs) = fin)
    (hm1 : m' (Str.ofString "r") = some (.int ((x * B + d) % b) tr))
    (hm2 : ∀ z, (∀ p ∈ [(Str.ofString "r", Value.int ((x * B + d) % b) tr)], z ≠ p.1) → [Str.ofString "q_digit", Str.ofString "a_digit"].contains z = false → m' z = m₀ z) :
    InvD b B m₀ l rest K fin r ((x * B + d) % b, tr, vs ++ [.int ((x * B + d) / b) tq], qs ++ [(x * B + d) / b], e') m' ((l, W.listOf (vs.toArray.push (.int ((x * B + d) / b) tq)) e') :: rest) := by
  have hd0 := hd d (List.mem_cons_self ..)
  refine ⟨ds', hds, fun y hy => hd y (List.mem_cons_of_mem _ hy), ⟨Int.emod_nonneg _ (by omega), Int.emod_lt_of_pos _ hb⟩, ints_snoc hvs _ _, ?_, ?_, fun p hp => by rw [List.mem_singleton.mp hp]; exact hm1, hm2, ?_, hfin⟩
  · intro y hy
    rcases List.mem_append.mp hy with hy | hy
    · exact hok y hy
    · rw [List.mem_singleton.mp hy]
      exact qbX hb h1 h2 hB hB2 hd0.1 hd0.2
  · simp only [List.length_cons, List.length_append, List.length_nil] at hlen ⊢
    omega
  · simp only [List.push_toArray]
theorem InvD.start {b B : Int} {m₀ : Str → Option Value} {l : Addr} {rest : Led} {its : List Value} {ns : List Int} {t : Tok} (hb : 0 < b) (hi : IntsAre its ns) (hd : ∀ d ∈ ns.reverse, 0 ≤ d ∧ d < 2000) (hm : m₀ (Str.ofString "r") = some (.int 0 t)) :
    InvD b B m₀ l rest its.length (stQ b B ns.reverse (0, [])) its.reverse (0, t, [], [], 0) m₀ ((l, W.listOf #[] 0) :: rest) :=
  ⟨_, ints_rev hi, hd, ⟨by show (0 : Int) ≤ 0; decide, hb⟩, .nil, gb0, by simp, fun p hp => by rw [List.mem_singleton.mp hp]; exact hm, fun _ _ _ => rfl, rfl, rfl⟩
theorem map_two {m : Str → Option Value} {v w : Value} (h : ∀ p ∈ [(Str.ofString "r", w)], m p.1 = some p.2) : ∀ p ∈ [(Str.ofString "a_digit", v), (Str.ofString "r", w)], (fun y => if y = Str.ofString "a_digit" then some v else m y) p.1 = some p.2 := by
  intro p hp
  simp only [List.mem_cons, List.not_mem_nil, or_false] at hp
  rcases hp with rfl | rfl
  · exact if_pos rfl
  · show (if Str.ofString "r" = Str.ofString "a_digit" then some v else m (Str.ofString "r")) = some w
    rw [if_neg (by decide)]
    exact h _ (List.mem_cons_self ..)
theorem map_three {m m₀ : Str → Option Value} {v w w' : Value} (h : ∀ z, (∀ p ∈ [(Str.ofString "r", w)], z ≠ p.1) → [Str.ofString "q_digit", Str.ofString "a_digit"].contains z = false → m z = m₀ z) :
    ∀ z, (∀ p ∈ [(Str.ofString "a_digit", v), (Str.ofString "r", w')], z ≠ p.1) → [Str.ofString "q_digit"].contains z = false → (fun y => if y = Str.ofString "a_digit" then some v else m y) z = m₀ z := by
  intro z h1 h2
  have ha : z ≠ Str.ofString "a_digit" := h1 (Str.ofString "a_digit", v) (List.mem_cons_self ..)
  have hr : z ≠ Str.ofString "r" := h1 (Str.ofString "r", w') (List.mem_cons_of_mem _ (List.mem_cons_self ..))
  show (if z = Str.ofString "a_digit" then some v else m z) = m₀ z
  rw [if_neg ha]
  refine h z (fun p hp => by rw [List.mem_singleton.mp hp]; exact hr) ?_
  simp only [List.contains_cons, List.contains_nil, Bool.or_false, beq_eq_false_iff_ne, Bool.or_eq_false_iff] at h2 ⊢
  exact ⟨h2, ha⟩
theorem lawQ {n a b : Int} (hb : 0 < b) (hn : 0 ≤ n) (h1 : 1 ≤ (Builtin.Int.intBits a + n - 1) / n) (h4 : (Builtin.Int.intBits a + n - 1) / n ≤ 4) :
    dg3 n 4 0 (((stQ b (2 ^ n.toNat) (digs n a).reverse (0, [])).2.reverse.length : Nat) : Int) (stQ b (2 ^ n.toNat) (digs n a).reverse (0, [])).2.reverse = a / b ∧ (stQ b (2 ^ n.toNat) (digs n a).reverse (0, [])).1 = a % b := by
  have hc : (Builtin.Int.intBits a + n - 1) / n = 1 ∨ (Builtin.Int.intBits a + n - 1) / n = 2 ∨ (Builtin.Int.intBits a + n - 1) / n = 3 ∨ (Builtin.Int.intBits a + n - 1) / n = 4 := by omega
  rcases hc with hc | hc | hc | hc
  · rw [digs1 hc]; exact law1
  · rw [digs2 hc]; exact law2 hb
  · rw [digs3 hc]; exact law3 hb
  · rw [digs4 hc]; exact law4 hb hn
theorem digsB {n a : Int} (ha : 0 ≤ a) (ha2 : a < 2000) (h1 : 1 ≤ (Builtin.Int.intBits a + n - 1) / n) (h4 : (Builtin.Int.intBits a + n - 1) / n ≤ 4) :
    (∀ d ∈ (digs n a).reverse, 0 ≤ d ∧ d < 2000) ∧ 1 ≤ (digs n a).length ∧ (digs n a).length ≤ 4 := by
  have hc : (Builtin.Int.intBits a + n - 1) / n = 1 ∨ (Builtin.Int.intBits a + n - 1) / n = 2 ∨ (Builtin.Int.intBits a + n - 1) / n = 3 ∨ (Builtin.Int.intBits a + n - 1) / n = 4 := by omega
  have a1 := div_bounds ha n.toNat
  have a2 := mod_bounds ha n.toNat
  have a3 := div_bounds a1.1 n.toNat
  have a4 := mod_bounds a1.1 n.toNat
  have b1 := div_bounds ha (2 * n).toNat
  have b2 := mod_bounds ha (2 * n).toNat
  have b3 := div_bounds b1.1 n.toNat
  have b4 := mod_bounds b1.1 n.toNat
  have b5 := div_bounds b2.1 n.toNat
  have b6 := mod_bounds b2.1 n.toNat
  rcases hc with hc | hc | hc | hc
  · rw [digs1 hc]
    refine ⟨fun d hd => ?_, by simp, by simp⟩
    simp only [List.mem_reverse, List.mem_cons, List.not_mem_nil, or_false] at hd
    subst hd; omega
  · rw [digs2 hc]
    refine ⟨fun d hd => ?_, by simp, by simp⟩
    simp only [List.mem_reverse, List.mem_cons, List.not_mem_nil, or_false] at hd
    rcases hd with rfl | rfl <;> omega
  · rw [digs3 hc]
    refine ⟨fun d hd => ?_, by simp, by simp⟩
    simp only [List.mem_reverse, List.mem_cons, List.not_mem_nil, or_false] at hd
    rcases hd with rfl | rfl | rfl <;> omega
  · rw [digs4 hc]
    refine ⟨fun d hd => ?_, by simp, by simp⟩
    simp only [List.mem_reverse, List.mem_cons, List.not_mem_nil, or_false] at hd
    rcases hd with rfl | rfl | rfl | rfl <;> omega
end Mine
end
-- part Pl1
section
theorem Mine.offPl1 : True := by
  w_top off
  k_with_none
  trivial
namespace Mine
/-- the quotients and the rests -/
noncomputable def runL : Nat → Int → Int → List Int → List Int → List Int × List Int
  | 0, _, _, qs, rs => (qs, rs)
  | f + 1, n, v, qs, rs => if v ≤ 0 then (qs, rs) else runL f v (n % v) (qs ++ [n / v]) (rs ++ [v])
/-- bisect_left's places -/
noncomputable def bisL (lt : Nat → Bool) : Nat → Nat → Nat → Nat
  | 0, lo, _ => lo
  | f + 1, lo, hi => if lo < hi then (if lt ((lo + hi) / 2) then bisL lt f ((lo + hi) / 2 + 1) hi else bisL lt f lo ((lo + hi) / 2)) else lo
noncomputable def placeOf (rests : List Int) (n : Int) : Nat := bisL (fun i => decide (-(rests.getD i 0) * (rests.getD i 0) < -n)) (rests.length + 1) 0 rests.length
noncomputable def ltP (a b : Int × Int) : Bool := decide (a.1 < b.1) || (a.1 == b.1 && decide (a.2 < b.2))
noncomputable def insP (row : List (Int × Int)) (p : Int × Int) : List (Int × Int) :=
  let j := bisL (fun i => ltP (row.getD i (0, 0)) p) (row.length + 1) 0 row.length
  row.take j ++ p :: row.drop j
/-- one turn of the law's last loop: the pairs found, whether u was met; nothing if it leaves -/
noncomputable def turnL (n u : Int) (mir : List Int) (st : List (Int × Int) × Bool) (v : Int) : Option (List (Int × Int) × Bool) :=
  if v * v % n = n - 1 then
    let (qs, rs) := runL 40 n v [] [n]
    let pl := placeOf rs n
    if qs ≠ qs.reverse ∨ qs.length ≠ 2 * pl then none else
    if pl + 1 < rs.length then
      some (insP st.1 (rs.getD pl 0, rs.getD (pl + 1) 0), if v = u then decide (qs = mir) else st.2)
    else none
  else some st
noncomputable def loopL (n u : Int) (mir : List Int) : List Int → List (Int × Int) × Bool → Option (List (Int × Int) × Bool)
  | [], st => some st
  | v :: r, st => (turnL n u mir st v).bind (loopL n u mir r)
noncomputable def gcdL : Nat → Int → Int → Int
  | 0, g, _ => g
  | f + 1, g, r => if 0 < r then gcdL f r (g % r) else g
/-- the walk down the circle -/
noncomputable def sqL (n : Int) : Nat → Int → Int → List (Int × Int) → List (Int × Int)
  | 0, _, _, ps => ps
  | f + 1, x, y, ps =>
    if y < x then
      if n < x * x + y * y then sqL n f (x - 1) y ps
      else if x * x + y * y < n then sqL n f x (y + 1) ps
      else sqL n f x (y + 1) (if gcdL 100 x y = 1 then ps ++ [(x, y)] else ps)
    else ps
noncomputable def topL (n : Int) : Nat → Int → Int
  | 0, x => x
  | f + 1, x => if x * x < n then topL n f (x + 1) else x
noncomputable def sortL (ps : List (Int × Int)) : List (Int × Int) := ps.foldl (fun r p => (r.filter fun q => !ltP p q) ++ p :: (r.filter fun q => ltP p q)) []
noncomputable def squaresL (n : Int) : List (Int × Int) := sortL (sqL n 200 (topL n 200 1) 1 [])
noncomputable def contL (mir : List Int) : Int × Int := mir.reverse.foldl (fun p q => (q * p.1 + p.2, p.1)) (1, 0)
noncomputable def vsL (n : Int) : List Int := (List.range (n / 2).toNat).map fun (i : Nat) => (i : Int) + 1
noncomputable def checkL (half : List Int) : Bool :=
  let mir := half ++ half.reverse
  let (n, u) := contL mir
  match loopL n u mir (vsL n) ([], false) with
  | some (row, met) => met && row == squaresL n
  | none => false
theorem check2 : ([2, 3].all fun a => [1, 2, 3].all fun b => checkL [a, b]) = true := by decide +kernel
theorem check3 : ([2, 3].all fun a => [1, 2, 3].all fun b => [1, 2, 3].all fun c => checkL [a, b, c]) = true := by decide +kernel
end Mine
end
-- part LoopI
section
theorem Mine.offLoopI : True := by
  w_top off
  k_with_none
  trivial
open PySem PySem.W PyProof.Rows PySem.Calls
set_option Elab.async false
set_option maxRecDepth 100000
set_option linter.unusedVariables false
namespace Mine
theorem range_ind {σ : Type} {prog : Program} {w : World} {A : Around} {E : Value → Shared → Prop} {h₀ : Heap} {env : Env} {x : Str} {body : List Stmt} {Q : Flow → Shared → Prop} {s : Shared} {I : Addr} {a : Int} {n : Nat}
    (Inv : Nat → Nat → σ → (Str → Option Value) → Led → Prop)
    (turn : ∀ k i c m news, Inv (k + 1) i c m news → ∀ (t : Tok) h tk, Fr h₀ env.locals h (fun y => if y = x then some (.int (a + (i : Int)) t) else m y) → News h₀ env.locals h ((I, itR (a + ((i + 1 : Nat) : Int)) ((n : Int) - ((i + 1 : Nat) : Int))) :: news) →
      wpAny (model prog w) A (execs body env) (UnrPost h₀ env.locals { s with heap := h, toks := tk } I (itR (a + ((i + 1 : Nat) : Int)) ((n : Int) - ((i + 1 : Nat) : Int))) (fun m' n' => ∃ c', Inv k (i + 1) c' m' n') Q) E { s with heap := h, toks := tk })
    (fin : ∀ i c m news, Inv 0 i c m news → ∀ h tk, Fr h₀ env.locals h m → News h₀ env.locals h news → Q .next { s with heap := h, toks := tk }) :
    ∀ (k i : Nat) (c : σ) (m : Str → Option Value) (news : Led), Inv k i c m news → RangeRest prog w A E h₀ env x body Q s I a n k i m news
  | 0, i, c, m, news, h => RangeRest.zero (fun h' tk F N => fin i c m news h h' tk F N)
  | k + 1, i, c, m, news, h => RangeRest.succ (fun t h' tk F N => by
    refine wpAny_mono (turn k i c m news h t h' tk F N) (fun f s₂ p => ?_) fun _ _ e => e
    have go : UnrEnd h₀ env.locals { s with heap := h', toks := tk } I (itR (a + ((i + 1 : Nat) : Int)) ((n : Int) - ((i + 1 : Nat) : Int))) (fun m' n' => ∃ c', Inv k (i + 1) c' m' n') s₂ → UnrEnd h₀ env.locals { s with heap := h', toks := tk } I (itR (a + ((i + 1 : Nat) : Int)) ((n : Int) - ((i + 1 : Nat) : Int))) (RangeRest prog w A E h₀ env x body Q s I a n k (i + 1)) s₂ := by
      rintro ⟨h2, tk2, m2, n2, e2, F2, N2, o2, c', hi⟩
      exact ⟨h2, tk2, m2, n2, e2, F2, N2, o2, range_ind Inv turn fin k (i + 1) c' m2 n2 hi⟩
    cases f with
    | ret v => exact p
    | brk => exact p
    | next => exact go p
    | cont => exact go p)
theorem list_ind {σ : Type} {prog : Program} {w : World} {A : Around} {E : Value → Shared → Prop} {h₀ : Heap} {env : Env} {x : Str} {body : List Stmt} {Q : Flow → Shared → Prop} {s : Shared} {I : Addr} {lp : Addr × Obj}
    (Inv : List Value → σ → (Str → Option Value) → Led → Prop)
    (turn : ∀ v r c m news, Inv (v :: r) c m news → ∀ (it : Obj) h tk, it.cls = .type "list_iterator" → Fr h₀ env.locals h (fun y => if y = x then some v else m y) → News h₀ env.locals h ((I, it) :: news) →
      wpAny (model prog w) A (execs body env) (UnrPost h₀ env.locals { s with heap := h, toks := tk } I it (fun m' n' => lp ∈ n' ∧ ∃ c', Inv r c' m' n') Q) E { s with heap := h, toks := tk })
    (fin : ∀ c m news, Inv [] c m news → ∀ h tk, Fr h₀ env.locals h m → News h₀ env.locals h news → Q .next { s with heap := h, toks := tk }) :
    ∀ (l : List Value) (c : σ) (m : Str → Option Value) (news : Led), Inv l c m news → ListRest prog w A E h₀ env x body Q s I lp l m news
  | [], c, m, news, h => ListRest.zero (fun h' tk F N => fin c m news h h' tk F N)
  | v :: r, c, m, news, h => ListRest.succ (fun it h' tk hit F N => by
    refine wpAny_mono (turn v r c m news h it h' tk hit F N) (fun f s₂ p => ?_) fun _ _ e => e
    have go : UnrEnd h₀ env.locals { s with heap := h', toks := tk } I it (fun m' n' => lp ∈ n' ∧ ∃ c', Inv r c' m' n') s₂ → UnrEnd h₀ env.locals { s with heap := h', toks := tk } I it (fun m' n' => lp ∈ n' ∧ ListRest prog w A E h₀ env x body Q s I lp r m' n') s₂ := by
      rintro ⟨h2, tk2, m2, n2, e2, F2, N2, o2, hl, c', hi⟩
      exact ⟨h2, tk2, m2, n2, e2, F2, N2, o2, hl, list_ind Inv turn fin r c' m2 n2 hi⟩
    cases f with
    | ret v => exact p
    | brk => exact p
    | next => exact go p
    | cont => exact go p)
theorem map_cons {m : Str → Option Value} {x : Str} {v : Value} {ps : List (Str × Value)} (h : ∀ p ∈ ps, m p.1 = some p.2) (hne : ∀ p ∈ ps, p.1 ≠ x) : ∀ p ∈ (x, v) :: ps, (fun y => if y = x then some v else m y) p.1 = some p.2 := by
  intro p hp
  rcases List.mem_cons.mp hp with rfl | hp
  · exact if_pos rfl
  · show (if p.1 = x then some v else m p.1) = some p.2
    rw [if_neg (hne p hp)]
    exact h p hp
theorem map_rest {m m₀ : Str → Option Value} {x : Str} {v : Value} {ps : List (Str × Value)} {stored : List Str} (h : ∀ z, (∀ p ∈ ps, z ≠ p.1) → (x :: stored).contains z = false → m z = m₀ z) :
    ∀ z, (∀ p ∈ (x, v) :: ps, z ≠ p.1) → stored.contains z = false → (fun y => if y = x then some v else m y) z = m₀ z := by
  intro z h1 h2
  have ha : z ≠ x := h1 (x, v) (List.mem_cons_self ..)
  show (if z = x then some v else m z) = m₀ z
  rw [if_neg ha]
  refine h z (fun p hp => h1 p (List.mem_cons_of_mem _ hp)) ?_
  rw [List.contains_cons, h2, Bool.or_false]
  exact beq_eq_false_iff_ne.mpr ha
theorem unr_exact {h₀ : Heap} {L I : Addr} {it : Obj} {rest : (Str → Option Value) → List (Addr × Obj) → Prop} {s₁ : Shared} {h' : Heap} {tk : Nat} {m' : Str → Option Value} {l : Led} (F : Fr h₀ L h' m') (N : News h₀ L h' ((I, it) :: l))
    (off : ∀ p ∈ l, p.1 ≠ I) (r : rest m' l) : UnrEnd h₀ L s₁ I it rest { s₁ with heap := h', toks := tk } := UnrEnd.intro F N l (fun p hp => hp) off r
theorem apart.ins {P : Addr} {ln cc : Int} {S : TabS} {l r : Led} {a : Addr × Obj} (h : apart P S (l ++ r)) (ha : ∀ p ∈ tabL P ln cc S, p.1 ≠ a.1) : apart P S (l ++ a :: r) := by
  have b : apart P S (a :: (l ++ r)) := by
    refine apart.consN h ?_ ?_
    · obtain ⟨o, ho⟩ := tab_mem P ln cc S
      exact Ne.symm (ha _ ho)
    · intro c o e
      subst e
      exact Ne.symm (ha (c, o) (List.mem_cons_of_mem _ (List.mem_cons_self ..)))
  refine b.sub fun p hp => ?_
  rcases List.mem_append.mp hp with hp | hp
  · exact List.mem_cons_of_mem _ (List.mem_append_left _ hp)
  · rcases List.mem_cons.mp hp with rfl | hp
    · exact List.mem_cons_self ..
    · exact List.mem_cons_of_mem _ (List.mem_append_right _ hp)
theorem apart.facts {P c : Addr} {o : Obj} {l : Led} (h : apart P (some (c, o)) l) : TLg.AllNe P l ∧ TLg.AllNe c l ∧ @Ne Nat c P := ⟨TLgL.allNe_of h.1, TLgL.allNe_of (h.2 c o rfl).2, (h.2 c o rfl).1⟩
/-- every division of the run is within bounds -/
noncomputable def okRun : Nat → Int → Int → Bool
  | 0, _, _ => true
  | f + 1, n, v => if v ≤ 0 then true else decide (v ≤ n) && decide (n < 2000) && decide (((Builtin.Int.intBits n : Int) + (Builtin.Int.intBits v : Int) - 1) / (Builtin.Int.intBits v : Int) ≤ 4) && okRun f v (n % v)
theorem okRun_step {f : Nat} {n v : Int} (h : okRun (f + 1) n v = true) (hv : ¬ v ≤ 0) : v ≤ n ∧ n < 2000 ∧ ((Builtin.Int.intBits n : Int) + (Builtin.Int.intBits v : Int) - 1) / (Builtin.Int.intBits v : Int) ≤ 4 ∧ okRun f v (n % v) = true := by
  unfold okRun at h
  rw [if_neg hv] at h
  simp only [Bool.and_eq_true, decide_eq_true_eq] at h
  exact ⟨h.1.1.1, h.1.1.2, h.1.2, h.2⟩
noncomputable abbrev StR := Int × Tok × Int × Tok × (List Value × List Int × Nat) × (List Value × List Int × Nat) × TabS × TabS
noncomputable def InvR (m₀ : Str → Option Value) (D1 D2 I : Addr) (news : Led) (fin : List Int × List Int) (k i : Nat) (c : StR) (m : Str → Option Value) (news' : Led) : Prop :=
  IntsAre c.2.2.2.2.1.1 c.2.2.2.2.1.2.1 ∧ IntsAre c.2.2.2.2.2.1.1 c.2.2.2.2.2.1.2.1 ∧ (c.2.2.2.2.1.1.length ≤ i ∧ c.2.2.2.2.2.1.1.length ≤ i + 1) ∧ (i + k = 40 ∧ (i = 0 → 0 < c.2.2.1) ∧ (0 < i → ∃ c2 o2 c3 o3, c.2.2.2.2.2.2.1 = some (c2, o2) ∧ c.2.2.2.2.2.2.2 = some (c3, o3))) ∧ okRun k c.1 c.2.2.1 = true ∧ runL k c.1 c.2.2.1 c.2.2.2.2.1.2.1 c.2.2.2.2.2.1.2.1 = fin ∧
  (∀ p ∈ [(Str.ofString "n", Value.int c.1 c.2.1), (Str.ofString "v", Value.int c.2.2.1 c.2.2.2.1)], m p.1 = some p.2) ∧
  (∀ z, (∀ p ∈ [(Str.ofString "n", Value.int c.1 c.2.1), (Str.ofString "v", Value.int c.2.2.1 c.2.2.2.1)], z ≠ p.1) → [Str.ofString "turn", Str.ofString "quotient", Str.ofString "rest"].contains z = false → m z = m₀ z) ∧
  tabOk nmA c.2.2.2.2.2.2.1 ∧ tabOk nmB c.2.2.2.2.2.2.2 ∧ apart 69 c.2.2.2.2.2.2.1 (tabB c.2.2.2.2.2.2.2 ++ news) ∧ apart 76 c.2.2.2.2.2.2.2 (tabA c.2.2.2.2.2.2.1 ++ news) ∧
  (∀ p ∈ tabA c.2.2.2.2.2.2.1 ++ tabB c.2.2.2.2.2.2.2, p.1 ≠ D1 ∧ p.1 ≠ D2 ∧ p.1 ≠ I) ∧
  news' = (D2, W.listOf (List.toArray c.2.2.2.2.2.1.1) c.2.2.2.2.2.1.2.2) :: (D1, W.listOf (List.toArray c.2.2.2.2.1.1) c.2.2.2.2.1.2.2) :: (tabA c.2.2.2.2.2.2.1 ++ (tabB c.2.2.2.2.2.2.2 ++ news))
end Mine
end
-- part EnumI
section
theorem Mine.offEnumI : True := by
  w_top off
  k_with_none
  trivial
open PySem PySem.W PyProof.Rows PySem.Calls
set_option Elab.async false
set_option maxRecDepth 100000
set_option linter.unusedVariables false
namespace Mine
theorem enum_ind {σ : Type} {prog : Program} {w : World} {A : Around} {E : Value → Shared → Prop} {h₀ : Heap} {env : Env} {target : PySem.Expr} {body : List Stmt} {Q : Flow → Shared → Prop} {s : Shared} {I : Addr} {lp : Addr × Obj}
    (Inv : Nat → List Value → σ → (Str → Option Value) → Led → Prop)
    (turn : ∀ i v r c m news, Inv i (v :: r) c m news → ∀ (T : Addr) (t : Tok) h tk (o1 o2 : Obj), o1.cls = .type "enumerate" → o2.cls = .type "list_iterator" → IsTup h T #[.int (i : Int) t, v] → Fr h₀ env.locals h m → News h₀ env.locals h ((I + 1, o1) :: (I, o2) :: news) →
      wpAny (model prog w) A (assign target env (.ref T)) (fun _ s₂ => wpAny (model prog w) A (execs body env) (UnrPostW h₀ env.locals { s with heap := h, toks := tk } [(I + 1, o1), (I, o2)] (fun m' n' => lp ∈ n' ∧ ∃ c', Inv (i + 1) r c' m' n') Q) E s₂) E { s with heap := h, toks := tk })
    (fin : ∀ i c m news, Inv i [] c m news → ∀ h tk, Fr h₀ env.locals h m → News h₀ env.locals h news → Q .next { s with heap := h, toks := tk }) :
    ∀ (l : List Value) (i : Nat) (c : σ) (m : Str → Option Value) (news : Led), Inv i l c m news → ItemsRest prog w A E h₀ env target body Q s [(I + 1, "enumerate"), (I, "list_iterator")] [lp] (enumItems i l) m news
  | [], i, c, m, news, h => fun h' tk F N => fin i c m news h h' tk F N
  | v :: r, i, c, m, news, h => by
    refine ItemsRest.pair (fun T t h' tk hT F => ?_)
    refine AllObj.cons (fun o1 h1 => AllObj.cons (fun o2 h2 => AllObj.nil (fun N => ?_)))
    refine wpAny_mono (turn i v r c m news h T t h' tk o1 o2 h1 h2 hT F N) (fun _ s₂ p => wpAny_mono p (fun f s₃ q => ?_) fun _ _ e => e) fun _ _ e => e
    have go : UnrEndW h₀ env.locals { s with heap := h', toks := tk } [(I + 1, o1), (I, o2)] (fun m' n' => lp ∈ n' ∧ ∃ c', Inv (i + 1) r c' m' n') s₃ → UnrEndW h₀ env.locals { s with heap := h', toks := tk } [(I + 1, o1), (I, o2)] (fun m' n' => SubL [lp] n' ∧ ItemsRest prog w A E h₀ env target body Q s [(I + 1, "enumerate"), (I, "list_iterator")] [lp] (enumItems (i + 1) r) m' n') s₃ := by
      rintro ⟨h2', tk2, m2, n2, e2, F2, N2, o2', hl, c', hi⟩
      exact ⟨h2', tk2, m2, n2, e2, F2, N2, o2', ⟨hl, trivial⟩, enum_ind Inv turn fin r (i + 1) c' m2 n2 hi⟩
    cases f with
    | ret v => exact q
    | brk => exact q
    | next => exact go q
    | cont => exact go q
end Mine
end
-- part Dti
section
theorem Mine.offDti : True := by
  w_top off
  k_with_none
  trivial
open PySem PySem.W PyProof.Rows PySem.Calls
set_option Elab.async false
set_option maxRecDepth 100000
set_option maxHeartbeats 0
set_option linter.unusedVariables false
namespace Mine
local macro_rules | `(tactic| k_all) => `(tactic| assumption)
noncomputable abbrev q3 : Str := Str.ofString "_digits2int.<locals>.inner"
theorem dti_spec (w : World) (p : Program) (loose : List Str) (mean : ExcName → Option Value) (mg mb : Str → Option Value) (news : Led) (n : Int) (t2 : Tok) (T : TabS) (D : Addr) (its : List Value) (e : Nat) (ns : List Int) (hi : IntsAre its ns) (hR4 : ns.length ≤ 4) (hR1 : 1 ≤ ns.length) (hb : ∀ i, 0 ≤ ns.getD i 0 ∧ ns.getD i 0 < 4096)
    (hn : 0 < n) (hn2 : n < 20) : 
   FSpecT w p loose mean mg mb 80 76 102 4 q3 T 81 [.ref D, .int n t2] ((D, W.listOf (List.toArray its) e) :: news) 8 40 (fun r tl => ∃ t, r = .int (dg3 n 4 0 ns.length ns) t ∧ tl = []) := by
  unfold FSpecT
  k_fill
  intro dp un gd cn cs ad ccd cl outer A₀ base h₀ L m s Q E B F X C N hok hap T0 hk2 hd hu hret
  have hap1 := hap.1
  have hap2 : ∀ p ∈ news, p.1 ≠ 76 := fun p hp => hap1 p (List.mem_cons_of_mem _ hp)
  have hap3 : @Ne Nat D 76 := hap1 _ (List.mem_cons_self ..)
  have hlen := hi.length
  rcases T with _ | ⟨c0, o0⟩
  · dsimp only [tabL, List.cons_append, List.nil_append] at N
    refine wpAny_call ?_
    refine' code_defC (binds := [(Str.ofString "digits", .ref D), (Str.ofString "n", .int n t2)]) ?k1 ?k2 ?k3 ?k4 ?k5 ?kA ?kF ?kK ?k6 ?k7 ?k8 ?k9 ?kB ?kD ?_ ?c2 ?c3 ?c4
    (case kA => exact rfl); (case kF => exact rfl); (case kK => assumption); (case k1 => k_asm); (case k2 => k_asm); (case k3 => k_asm); (case k4 => k_asm); (case k5 => k_asm); (case k6 => k_is); (case k7 => k_is); (case k8 => ktr_room); (case k9 => exact BindsTo.of_eq rfl); (case kB => exact rfl); (case kD => decide +kernel); (case c2 => exact rfl); (case c3 => exact rfl); (case c4 => exact rfl)
    intro g' L' h' tk' cells' FG' F' N' Y' B' X' T' l1; (try k_lt l1); k_cells Y'; (try simp only [List.cons_append, List.nil_append] at N'); (try dsimp only); (try k_lift B'); (try k_fold)
    have q1 : AllLt (L' + 1) news := AllLt.le (Nat.le_succ _) l1.2.2
    have q2 : AllLt (L' + 1 + 1) news := AllLt.le (Nat.le_succ _) q1
    have q3 : AllLt (L' + 1 + 1 + 1) news := AllLt.le (Nat.le_succ _) q2
    k_steps
    rename Fr g' L' _ _ => F2
    rename News g' L' _ _ => N2
    rename _ = some (Value.str _ _) => d2
    rename _ = Data.fields _ => d1
    have N3 : News _ _ _ (_ :: _ :: _ :: _ :: _ :: _ :: (76, _) :: news) := News.pick N2 7 [0, 1, 2, 3, 4, 6, 5]
    refine in3_spec w p loose mean mg mb _ n _ hn hn2 _ _ _ _ _ _ _ _ _ _ _ _ _ _ _ its e ns hi hR4 hb d1 d2 (by assumption) (by assumption) (by assumption) 4 0 _ _ _ _ _ _ _ _ _ _ _ _ _ _ _ _ _ _ _ _ ?p1 ?p2 ?p3 ?p4 ?p5 B' F2 X' C N3 T' rfl ?dd ?uu ?kk
    case kk =>
        intro t9 h1' tk1 F4 N4
        k_steps
        rename News h₀ L _ _ => N9
        refine hret _ [] _ _ _ _ (by assumption) (News.pick N9 7 [6, 1, 5]) ⟨_, _, d1, d2⟩ ⟨?a1, ?a2⟩ (fun h => absurd rfl h) ?o ⟨_, rfl, rfl⟩
        case a1 => exact hap1
        case a2 =>
          intro c1 o1 he
          cases he
          refine ⟨by refine neN ?_; omega, ?_⟩
          intro q hq
          rcases List.mem_cons.mp hq with rfl | hq
          · refine neN ?_; dsimp only; omega
          · exact allLt_ne (by tbn_find) q hq
        case o =>
          intro q hq r hr
          cases hr
    all_goals ((try dsimp only); omega)
  · dsimp only [tabL, List.cons_append, List.nil_append] at N
    obtain ⟨vs0, t0, d1, d2⟩ := hok
    have hc0 := hap.2 c0 o0 rfl
    have hc1 : @Ne Nat c0 76 := hc0.1
    have hc2 := hc0.2
    have hc3 : ∀ p ∈ news, p.1 ≠ c0 := fun p hp => hc2 p (List.mem_cons_of_mem _ hp)
    have hc4 : @Ne Nat D c0 := hc2 _ (List.mem_cons_self ..)
    refine wpAny_call ?_
    refine' code_defC (binds := [(Str.ofString "digits", .ref D), (Str.ofString "n", .int n t2)]) ?k1 ?k2 ?k3 ?k4 ?k5 ?kA ?kF ?kK ?k6 ?k7 ?k8 ?k9 ?kB ?kD ?_ ?c2 ?c3 ?c4
    (case kA => exact rfl); (case kF => exact rfl); (case kK => assumption); (case k1 => k_asm); (case k2 => k_asm); (case k3 => k_asm); (case k4 => k_asm); (case k5 => k_asm); (case k6 => k_is); (case k7 => k_is); (case k8 => ktr_room); (case k9 => exact BindsTo.of_eq rfl); (case kB => exact rfl); (case kD => decide +kernel); (case c2 => exact rfl); (case c3 => exact rfl); (case c4 => exact rfl)
    intro g' L' h' tk' cells' FG' F' N' Y' B' X' T' l1; (try k_lt l1); k_cells Y'; (try simp only [List.cons_append, List.nil_append] at N'); (try dsimp only); (try k_lift B'); (try k_fold)
    have q1 : AllLt (L' + 1) news := AllLt.le (Nat.le_succ _) l1.2.2.2
    have q2 : AllLt (L' + 1 + 1) news := AllLt.le (Nat.le_succ _) q1
    have q3 : AllLt (L' + 1 + 1 + 1) news := AllLt.le (Nat.le_succ _) q2
    k_steps
    rename Fr g' L' _ _ => F2
    rename News g' L' _ _ => N2
    have N3 : News _ _ _ (_ :: (c0, o0) :: _ :: _ :: _ :: (D, _) :: (76, _) :: news) := News.pick N2 7 [0, 5, 1, 2, 3, 6, 4]
    refine in3_spec w p loose mean mg mb _ n _ hn hn2 _ _ _ _ _ _ _ _ _ _ _ _ _ _ _ its e ns hi hR4 hb d1 d2 (by assumption) (by assumption) (by assumption) 4 0 _ _ _ _ _ _ _ _ _ _ _ _ _ _ _ _ _ _ _ _ ?xp1 ?xp2 ?xp3 ?xp4 ?xp5 B' F2 X' C N3 T' rfl ?xdd ?xuu ?xkk
    case xkk =>
        intro t9 h1' tk1 F4 N4
        k_steps
        rename News h₀ L _ _ => N9
        refine hret _ [] c0 _ _ _ (by assumption) (News.pick N9 7 [6, 1, 5]) ⟨_, _, d1, d2⟩ ⟨?xa1, ?xa2⟩ (fun _ => rfl) ?xo ⟨_, rfl, rfl⟩
        case xa1 => exact hap1
        case xa2 =>
          intro c1 o1 he
          cases he
          exact ⟨hc1, hc2⟩
        case xo =>
          intro q hq r hr
          cases hr
    all_goals ((try dsimp only); omega)
end Mine
end
-- part Dv1
section
theorem Mine.offDv1 : True := by
  w_top off
  k_with_none
  trivial
open PySem PySem.W PyProof.Rows PySem.Calls
set_option Elab.async false
set_option maxRecDepth 100000
set_option maxHeartbeats 0
set_option linter.unusedVariables false
namespace Mine
theorem div_spec (w : World) (p : Program) (loose : List Str) (mean : ExcName → Option Value) (mg mb : Str → Option Value) (news : Led) (a b n : Int) (t1 t2 t3 : Tok)
    (ha : 0 ≤ a) (ha2 : a < 2 ^ 60) (hb : 0 < b) (hb2 : b < 1000000) (hn : 0 ≤ n) (hn2 : n < 100) :
   FSpec w p loose mean mg mb 60 [.int a t1, .int b t2, .int n t3] [] news 1 8 (fun r tl => ∃ x t t', r = .ref x ∧ tl = [(x, tupO [.int (a / b) t, .int (a % b) t'])]) := by
  unfold FSpec
  k_fill
  intro dp un gd cn cs ad ccd cl outer A₀ base h₀ L m s Q E B F X N T hk hd hu hret
  have hbl : (Builtin.Int.intBits a : Int) - n ≤ 4000 := by
    have := intBits_le_64 (k := a) (by have e : (2:Int)^64 = 18446744073709551616 := by decide
                                       omega) (by have e : (2:Int)^64 = 18446744073709551616 := by decide
                                                  omega)
    omega
  refine wpAny_call ?_
  k_dflt cell_enter
  k_steps

  rw [Int.fdiv_eq_ediv_of_nonneg a (by omega), Int.fmod_eq_emod_of_nonneg a (by omega)] at *
  exact hret _ [_] _ _ (by assumption) (by assumption) (news_one (by assumption)) ⟨_, _, _, rfl, rfl⟩
end Mine
end
-- part Dmp
section
theorem Mine.offDmp : True := by
  w_top off
  k_with_none
  trivial
open PySem PySem.W PyProof.Rows PySem.Calls
set_option Elab.async false
set_option maxRecDepth 100000
set_option maxHeartbeats 0
set_option linter.unusedVariables false
namespace Mine
local macro_rules | `(tactic| k_all) => `(tactic| assumption)
theorem offI_of {I : Addr} {it : Obj} : ∀ {l : Led}, (∀ p ∈ l, p.1 ≠ I) → OffI I it l
  | [], _ => trivial
  | p :: r, h => ⟨.inl (h p (List.mem_cons_self ..)), offI_of fun q hq => h q (List.mem_cons_of_mem _ hq)⟩
theorem unr_drop {h₀ : Heap} {L I : Addr} {it : Obj} {a : Addr × Obj} {rest : (Str → Option Value) → List (Addr × Obj) → Prop} {s₁ : Shared} {h' : Heap} {tk : Nat} {m' : Str → Option Value} {l : Led} (F : Fr h₀ L h' m') (N : News h₀ L h' (a :: (I, it) :: l))
    (off : ∀ p ∈ l, p.1 ≠ I) (r : rest m' l) : UnrEnd h₀ L s₁ I it rest { s₁ with heap := h', toks := tk } := UnrEnd.intro F N l (fun p hp => List.mem_cons_of_mem _ hp) off r
theorem FSpec.use {w : World} {p : Program} {loose : List Str} {mean : ExcName → Option Value} {mg mb : Str → Option Value} {f : Addr} {vs : List Value} {kw : List (Str × Value)} {news : Led} {dd uu : Nat} {Ret : Value → Led → Prop}
    {dp un : Nat} {gd : Option (List Code)} {cn : Str} {cs : Scope} {ad : Addr} {ccd : Value} {cl : List (Str × Addr)} {outer : List Env} {A₀ : Around} {base h₀ : Heap} {L : Addr} {m : Str → Option Value} {s : Shared} {Q E : Value → Shared → Prop}
    (S : FSpec w p loose mean mg mb f vs kw news dd uu Ret)
    (B : Below A₀ base outer h₀) (F : Fr h₀ L s.heap m) (X : (myK w.params).In h₀) (N : News h₀ L s.heap news) (T : Top p loose mean mg mb h₀) (hk : cs.kind = .function)
    (hd : dp + dd < recursionLimit) (hu : un + uu < cLine)
    (k : ∀ (r : Value) (tl : Led) (h' : Heap) (tk' : Nat), Fr h₀ L h' m → News h₀ L h' (tl ++ news) → (∀ q ∈ news, ∀ p ∈ tl, q.1 < p.1) → Ret r tl → Q r { s with heap := h', toks := tk' }) :
    wpAny (model PySem.Challenge.rw_sn0092_01.row.prog w) (ktrTop dp un gd cn cs L ad ccd cl outer) (call (.ref f) vs kw) Q E s := S dp un gd cn cs ad ccd cl outer A₀ base h₀ L m s Q E B F X N T hk hd hu k
theorem FSpec.pair {w : World} {p : Program} {loose : List Str} {mean : ExcName → Option Value} {mg mb : Str → Option Value} {f : Addr} {vs : List Value} {kw : List (Str × Value)} {news : Led} {dd uu : Nat} {a b : Int}
    {dp un : Nat} {gd : Option (List Code)} {cn : Str} {cs : Scope} {ad : Addr} {ccd : Value} {cl : List (Str × Addr)} {outer : List Env} {A₀ : Around} {base h₀ : Heap} {L : Addr} {m : Str → Option Value} {s : Shared} {Q E : Value → Shared → Prop}
    (S : FSpec w p loose mean mg mb f vs kw news dd uu (fun r tl => ∃ x t t', r = .ref x ∧ tl = [(x, tupO [.int a t, .int b t'])]))
    (B : Below A₀ base outer h₀) (F : Fr h₀ L s.heap m) (X : (myK w.params).In h₀) (N : News h₀ L s.heap news) (T : Top p loose mean mg mb h₀) (hk : cs.kind = .function)
    (hd : dp + dd < recursionLimit) (hu : un + uu < cLine)
    (k : ∀ (x : Addr) (t t' : Tok) (h' : Heap) (tk' : Nat), Fr h₀ L h' m → News h₀ L h' ((x, tupO [.int a t, .int b t']) :: news) → (∀ q ∈ news, q.1 < x) → Q (.ref x) { s with heap := h', toks := tk' }) :
    wpAny (model PySem.Challenge.rw_sn0092_01.row.prog w) (ktrTop dp un gd cn cs L ad ccd cl outer) (call (.ref f) vs kw) Q E s := FSpec.use S B F X N T hk hd hu (by
  rintro r tl h' tk' F' N' l ⟨x, t, t', rfl, rfl⟩
  exact k x t t' h' tk' F' N' fun q hq => l q hq _ (List.mem_cons_self ..))
theorem InvD.turn {b B : Int} {m₀ : Str → Option Value} {l : Addr} {rest : Led} {K : Nat} {fin : Int × List Int} {r : List Value} {G : Value → StD → (Str → Option Value) → Led → Prop}
    (f : ∀ x tx vs qs ea d td m ds', IntsAre r ds' → (∀ y ∈ d :: ds', 0 ≤ y ∧ y < 2000) → 0 ≤ x → x < b → IntsAre vs qs → (∀ y ∈ qs, okD y) → r.length + 1 + vs.length = K →
      (∀ p ∈ [(Str.ofString "r", Value.int x tx)], m p.1 = some p.2) → (∀ z, (∀ p ∈ [(Str.ofString "r", Value.int x tx)], z ≠ p.1) → [Str.ofString "q_digit", Str.ofString "a_digit"].contains z = false → m z = m₀ z) → stQ b B (d :: ds') (x, qs) = fin →
      G (.int d td) (x, tx, vs, qs, ea) m ((l, W.listOf (List.toArray vs) ea) :: rest)) :
    ∀ v c m nw, InvD b B m₀ l rest K fin (v :: r) c m nw → G v c m nw := by
  rintro v ⟨x, tx, vs, qs, ea⟩ m nw ⟨ds, hds, hdb2, hxb, hvs, hok, hlen, hm1, hm2, rfl, hfin⟩
  cases hds with
  | cons d td hds' => exact f x tx vs qs ea d td m _ hds' hdb2 hxb.1 hxb.2 hvs hok hlen hm1 hm2 hfin
theorem InvD.out {b B : Int} {m₀ : Str → Option Value} {l : Addr} {rest : Led} {K : Nat} {fin : Int × List Int} {G : StD → (Str → Option Value) → Led → Prop}
    (f : ∀ x tx vs qs ea m, 0 ≤ x → x < b → IntsAre vs qs → (∀ y ∈ qs, okD y) → 0 + vs.length = K →
      (∀ p ∈ [(Str.ofString "r", Value.int x tx)], m p.1 = some p.2) → (∀ z, (∀ p ∈ [(Str.ofString "r", Value.int x tx)], z ≠ p.1) → [Str.ofString "q_digit", Str.ofString "a_digit"].contains z = false → m z = m₀ z) → (x, qs) = fin →
      G (x, tx, vs, qs, ea) m ((l, W.listOf (List.toArray vs) ea) :: rest)) :
    ∀ c m nw, InvD b B m₀ l rest K fin [] c m nw → G c m nw := by
  rintro ⟨x, tx, vs, qs, ea⟩ m nw ⟨ds, hds, hdb2, hxb, hvs, hok, hlen, hm1, hm2, rfl, hfin⟩
  cases hds
  exact f x tx vs qs ea m hxb.1 hxb.2 hvs hok hlen hm1 hm2 hfin
theorem dmp_spec (w : World) (p : Program) (loose : List Str) (mean : ExcName → Option Value) (mg mb : Str → Option Value) (news : Led) (S2 S3 : TabS) (a b : Int) (ta tb : Tok) (hb : 0 < b) (hab : b ≤ a) (ha2 : a < 2000) (hk : ((Builtin.Int.intBits a : Int) + (Builtin.Int.intBits b : Int) - 1) / (Builtin.Int.intBits b : Int) ≤ 4) :
   FSpecD w p loose mean mg mb S2 S3 88 [.int a ta, .int b tb] news 12 80 (fun r tl => ∃ x t t', r = .ref x ∧ tl = [(x, tupO [.int (a / b) t, .int (a % b) t'])]) := by
  have on1 := On.mk "call ref"
  have on2 := On.mk "UnrEnd"
  unfold FSpecD
  k_fill
  intro dp un gd cn cs ad ccd cl outer A₀ base h₀ L m s Q E B F X C2 C3 N hok2 hok3 hap2 hap3 T hk2 hd hu hret
  refine wpAny_call ?_
  refine' code_def (binds := [(Str.ofString "a", .int a ta), (Str.ofString "b", .int b tb)]) ?k1 ?k2 ?k3 ?k4 ?k5 ?kA ?kF ?kK ?k6 ?k7 ?k8 ?k9 ?kB ?_ ?c2 ?c3 ?c4 ?c5
  (case kA => exact rfl); (case kF => exact rfl); (case kK => assumption); (case k1 => k_asm); (case k2 => k_asm); (case k3 => k_asm); (case k4 => k_asm); (case k5 => k_asm); (case k6 => k_is); (case k7 => k_is); (case k8 => ktr_room); (case k9 => exact BindsTo.of_eq rfl); (case c5 => decide); (case kB => exact locs rfl); (case c2 => exact rfl); (case c3 => exact rfl); (case c4 => exact rfl)
  intro g' L' h' FG' F' N' B' X' T'
  k_lift B'
  dsimp only [List.reverse_cons, List.reverse_nil, List.nil_append, List.length_cons, List.length_nil] at *
  k_steps
  unfold Stop
  rename Fr g' L' _ _ => F2
  rename News g' L' _ _ => N2
  refine idg_spec w p loose mean mg mb (tabB S3 ++ news) a _ _ _ S2 (by omega) ha2 ?n1 ?n2 hk ?n3 _ _ _ _ _ _ _ _ _ _ _ _ _ _ _ _ _ B' F2 X' C2 N2 hok2 hap2 T' rfl ?dd ?uu ?kk
  case kk =>
    intro r tl c2 o2 h2' tk2 F4 N4 hok2' hap2' _ hlt hR
    obtain ⟨D, its, e, rfl, rfl, hi⟩ := hR
    have hb1 := bits11 hb (by omega)
    have hp := pow11 hb1.2
    have hk1 : 1 ≤ ((Builtin.Int.intBits a : Int) + (Builtin.Int.intBits b : Int) - 1) / (Builtin.Int.intBits b : Int) := by
      have := bits11 (show 0 < a by omega) ha2
      exact Int.le_ediv_of_mul_le (by omega) (by omega)
    dsimp only [tabA, tabL, List.cons_append, List.nil_append] at N4
    have hlt2 : AllLt D (tabB S3 ++ news) := allLt_of (fun q hq => hlt q hq _ (List.mem_cons_self ..))
    have hD1 : @Ne Nat D 69 := hap2'.1 _ (List.mem_cons_self ..)
    have hc2 := hap2'.2 c2 o2 rfl
    have hD2 : @Ne Nat D c2 := hc2.2 _ (List.mem_cons_self ..)
    have hc3 : @Ne Nat c2 69 := hc2.1
    have hc2b : ∀ p ∈ tabB S3, p.1 ≠ c2 := fun p hp => hc2.2 p (List.mem_append_right _ (List.mem_append_left _ hp))
    have h69 : ∀ c o, S3 = some (c, o) → (69 : Addr) ≠ c := fun c o e => by
      obtain ⟨o9, ho9⟩ := tab_mem 69 87 4 S2
      exact (hap3.2 c o e).2 _ (List.mem_append_left _ ho9)
    have hp1 : (0 : Int) < 2 ^ (Builtin.Int.intBits b : Int).toNat := hp.1
    have hp2 : (2 : Int) ^ (Builtin.Int.intBits b : Int).toNat ≤ 2048 := hp.2
    have hdb := digsB (n := (Builtin.Int.intBits b : Int)) (show 0 ≤ a by omega) ha2 hk1 hk
    have hlq := lawQ (n := (Builtin.Int.intBits b : Int)) (a := a) hb (by omega) hk1 hk
    have hil := hi.length
    k_steps
    rename Fr g' L' _ _ => F5
    rename News g' L' _ _ => N5
    refine iter_revUnr (lo := W.listOf (List.toArray its) e) (vs := its) rfl F5 N5 (offI_of (by k_all)) (by k_mem) rfl rfl ?_
    refine rev_ind (InvD b (2 ^ (Builtin.Int.intBits b : Int).toNat) _ _ _ _ _) ?turn ?fin _ _ _ _ (InvD.start hb hi hdb.1 rfl)
    case turn =>
      intro v r
      revert v
      refine InvD.turn ?_
      intro x tx vs qs ea d td m1 ds' hds' hdb2 hx1 hx2 hvs hok hlen hm1 hm2 hfin it h7 tk7 hit F7 N7
      have hd0 := hdb2 d (List.mem_cons_self ..)
      have hs1 : 0 ≤ x * 2 ^ (Builtin.Int.intBits b : Int).toNat + d := (sideX hx1 hx2 (by omega) hp1 hp2 hd0.1 hd0.2).1
      have hs2 : x * 2 ^ (Builtin.Int.intBits b : Int).toNat + d < 2 ^ 60 := (sideX hx1 hx2 (by omega) hp1 hp2 hd0.1 hd0.2).2
      have F8 : Fr g' L' h7 _ := ksw_fr (ps := [(Str.ofString "a_digit", .int d td), (Str.ofString "r", .int x tx)]) (stored := [Str.ofString "q_digit"]) (map_two hm1) (map_three hm2) F7
      have N8 : News g' L' h7 _ := N7
      clear F7 N7
      dsimp only [kstB] at F8
      have hlv := hvs.length
      have hvl : vs.length ≤ 3 := by omega
      k_steps
      unfold Stop
      k_here
      refine' FSpec.pair (div_spec _ _ _ _ _ _ _ _ _ _ _ _ _ ?h1 ?h2 ?h3 ?h4 ?h5 ?h6) ?B ?F ?X ?N ?T ?hk ?hd ?hu ?_
      (case h1 => assumption)
      (case h2 => assumption)
      (case h3 => assumption); (case h4 => omega); (case h5 => omega); (case h6 => omega); (case B => k_asm); (case F => k_asm); (case X => k_asm); (case N => k_asm); (case T => k_asm); (case hk => exact rfl); (case hd => (dsimp only; omega)); (case hu => (dsimp only; omega))
      intro x' t' u' h' tk' F' N' l2
      k_lt l2
      k_steps
      unfold Stop
      (k_dflt (refine' unr_drop ?F ?N ?off ?_; (case F => k_asm); (case N => k_asm); (case off => k_all)); (try dsimp only); refine And.intro ?mm ?_; (case mm => k_mem))
      refine' ⟨_, InvD.step (v := .int d td) hb hx1 hx2 hp1 hp2 hds' hdb2 hvs hok hlen hfin ?ra ?rb⟩
      (case ra => exact rfl)
      (case rb => ksw_same)
    case fin =>
      refine InvD.out ?_
      intro x tx vs qs ea m1 hx1 hx2 hvs hok hlen hm1 hm2 hfin h7 tk7 F7 N7
      rw [← hfin] at hlq
      have F8 : Fr g' L' h7 _ := ksw_fr (ps := [(Str.ofString "r", .int x tx)]) (stored := [Str.ofString "q_digit", Str.ofString "a_digit"]) hm1 hm2 F7
      have N8 : News g' L' h7 _ := N7
      clear F7 N7
      dsimp only [kstB] at F8
      have hlv := hvs.length
      have hvl : vs.length ≤ 4 := by omega
      k_steps
      rename Fr g' L' _ _ => F9
      refine kl_reverse (its := vs.toArray) (l := vs.reverse) F9 N8 (by simp) (by k_upd) (by rw [sizeLine_eq]; simp; omega) ?_
      intro h9 F10 N10
      k_steps
      unfold Stop
      rename Fr g' L' _ _ => F6
      rename News g' L' _ _ => N6
      have N7 := News.sub (l' := tabB S3 ++ ((_, W.listOf (List.toArray vs.reverse) _) :: (69, _) :: (c2, o2) :: (D, _) :: news)) N6 (by
        intro q hq
        simp only [List.mem_cons, List.mem_append] at hq ⊢
        rcases hq with h | h | h | h | h | h
        · exact .inr (.inr (.inr (.inr (.inl h))))
        · exact .inl h
        · exact .inr (.inl h)
        · exact .inr (.inr (.inl h))
        · exact .inr (.inr (.inr (.inl h)))
        · exact .inr (.inr (.inr (.inr (.inr h)))))
      have hlr : qs.reverse.length = vs.length := by rw [List.length_reverse]; exact hlv.symm
      have hl0 : 0 + vs.length = its.length := hlen
      refine dti_spec w p loose mean mg mb _ _ _ S3 _ _ _ _ (ints_rev hvs) (by omega) (by omega) (gbn _ fun y hy => hok y (List.mem_reverse.mp hy)) (by omega) (by omega) _ _ _ _ _ _ _ _ _ _ _ _ _ _ _ _ _ B' F6 X' C3 N7 hok3 (apart_q hap3 (by tbn_find) hlt2 hc2b h69) T' rfl ?d2 ?e2 ?f2
      case f2 =>
        intro r tl c3 o3 h3' tk3 F12 N12 hok3' hap3' _ _ hR
        obtain ⟨t9, rfl, rfl⟩ := hR
        dsimp only [tabL, List.cons_append, List.nil_append] at N12
        have hlq1 : dg3 (Builtin.Int.intBits b) 4 0 (qs.reverse.length : Int) qs.reverse = a / b := hlq.1
        have hlq2 : x = a % b := hlq.2
        rw [hlq1]
        subst hlq2
        k_steps
        rename News h₀ L _ _ => N9
        rename_i x9 _ _ _ _ _ _ _
        refine hret _ [(x9, tupO [.int (a / b) _, .int (a % b) _])] c2 c3 o2 o3 _ _ (by assumption) (News.pick N9 7 [4, 5, 1, 2, 0]) hok2' hok3' (apart_end2 hap2' hap3' (by omega) (by omega)) (apart_end3 hap3' (by omega) (by omega)) ?o2 ⟨_, _, _, rfl, rfl⟩
        case o2 =>
          intro q hq r hr
          rcases List.mem_cons.mp hr with rfl | hr
          · exact allLt_lt (by tbn_find) q hq
          · cases hr
      all_goals ((try dsimp only); omega)
  all_goals (have hb1 := bits11 hb (by omega); have hb2 := bits11 (show 0 < a by omega) ha2; first | ((try dsimp only); omega) | exact Int.le_ediv_of_mul_le (by omega) (by omega))
end Mine
end
-- part C8
section
theorem Mine.offC8 : True := by
  w_top off
  k_with_none
  trivial
open PySem PySem.W PyProof.Rows PySem.Calls
set_option Elab.async false
set_option maxRecDepth 100000
set_option maxHeartbeats 0
set_option linter.unusedVariables false
namespace Mine
noncomputable abbrev c8P : List (Int × Tok) := [(832, 2461), (833, 2462), (8234, 2470), (8235, 2471), (8236, 2472), (8237, 2473), (8206, 2463), (8207, 2464), (8238, 2474), (8298, 2480), (8299, 2481), (8300, 2482), (8301, 2483), (8302, 2484), (8303, 2485)]
noncomputable def inC8 (k : Int) : Bool := c8P.any (fun p => p.1 == k)
theorem c8_look (P : Params) : (myK P).lookup 190 = some (o_190 P) := by kernel_rfl
theorem elems_gen {prog : Program} {w : World} {L : List (Int × Tok)} (hL : ∀ p ∈ L, p.1 = hashInt p.1) : ElemsOf (intKind prog w) (L.map fun p => (p.1, Value.int p.1 p.2)) := by
  intro e he
  obtain ⟨p, hp, rfl⟩ := List.mem_map.mp he
  exact ⟨⟨p.1, intKind_is _ _ _ _, hL p hp⟩, rfl⟩
theorem isInt_int {k j : Int} {t : Tok} (h : (intKind prog w).is k (.int j t) = true) : j = k := by
  obtain ⟨t', e⟩ := Value.isInt_shape (show Value.isInt k (.int j t) = true from h)
  injection e
theorem mem_gen {prog : Program} {w : World} {L : List (Int × Tok)} (k : Int) : (L.any fun p => p.1 == k) = true ↔ ∃ e ∈ L.map (fun p => (p.1, Value.int p.1 p.2)), (intKind prog w).is k e.2 = true := by
  rw [List.any_eq_true]
  constructor
  · rintro ⟨p, hp, e⟩
    rw [beq_iff_eq] at e
    subst e
    exact ⟨_, List.mem_map.mpr ⟨p, hp, rfl⟩, intKind_is _ _ _ _⟩
  · rintro ⟨e, he, hk⟩
    obtain ⟨p, hp, rfl⟩ := List.mem_map.mp he
    exact ⟨p, hp, beq_iff_eq.mpr (isInt_int hk)⟩
theorem c8_setof {prog : Program} {w w' : World} {h : Heap} (X : (myK w'.params).In h) : h.SetOf (intKind prog w) 190 inC8 15 :=
  ⟨o_190 w'.params, (c8P.map fun (p : Int × Tok) => ((p.1, Value.int p.1 p.2) : Int × Value)).toArray, _, _, X _ _ (c8_look _), ⟨rfl, rfl, rfl⟩, rfl, elems_gen (by decide +kernel), fun k => mem_gen (L := c8P) k, Nat.le_of_ble_eq_true rfl, rfl, rfl⟩
theorem c8_spec (w : World) (p : Program) (loose : List Str) (mean : ExcName → Option Value) (mg mb : Str → Option Value) (news : Led) (c : Nat) (tc : Tok) :
   FSpec w p loose mean mg mb 200 [.str ⟨#[c]⟩ tc] [] news 4 20 (fun r tl => r = .bool (inC8 c) ∧ tl = []) := by
  have on2 := On.mk "compareOp In int ref"
  unfold FSpec
  k_fill
  intro dp un gd cn cs ad ccd cl outer A₀ base h₀ L m s Q E B F X N T hk hd hu hret
  refine wpAny_call ?_
  k_dflt cell_enter
  k_steps
  unfold Stop
  (k_here; k_dflt (refine' wpAny_inSet_of (knd := intKind _ _) (intKind_is _ _ _ _) rfl (c8_setof ?X) ?_; (case X => k_in)))
  k_steps
  exact hret _ [] _ _ (by assumption) (by assumption) (fun _ _ _ h => nomatch h) ⟨rfl, rfl⟩
end Mine
end
-- part B3
section
theorem Mine.offB3 : True := by
  w_top off
  k_with_none
  trivial
open PySem PySem.W PyProof.Rows PySem.Calls
set_option Elab.async false
set_option maxRecDepth 100000
set_option maxHeartbeats 0
set_option linter.unusedVariables false
namespace Mine
theorem ents_in : ∀ {k : Nat} {c : List (Int × Str)} {e : DictEntry}, e ∈ ents k c → ∃ x ∈ c, ∃ t u, e = ⟨x.1, .int x.1 t, .str x.2 u⟩
  | _, [], _, h => nomatch h
  | k, x :: r, e, h => by
    rcases List.mem_cons.mp h with rfl | h
    · exact ⟨x, List.mem_cons_self .., _, _, rfl⟩
    · obtain ⟨y, hy, t, u, e⟩ := ents_in h
      exact ⟨y, List.mem_cons_of_mem _ hy, t, u, e⟩
theorem entsS_in : ∀ {k : Nat} {c : List (Int × Str)} {e : DictEntry}, e ∈ entsS k c → ∃ x ∈ c, ∃ t u, e = ⟨x.1, .int x.1 t, .str x.2 u⟩
  | _, [], _, h => nomatch h
  | k, x :: r, e, h => by
    rcases List.mem_cons.mp h with rfl | h
    · exact ⟨x, List.mem_cons_self .., _, _, rfl⟩
    · obtain ⟨y, hy, t, u, e⟩ := entsS_in h
      exact ⟨y, List.mem_cons_of_mem _ hy, t, u, e⟩
theorem entsC_in : ∀ {k : Nat} {cs : List (List (Int × Str))} {e : DictEntry}, e ∈ entsC k cs → ∃ x ∈ cs.flatten, ∃ t u, e = ⟨x.1, .int x.1 t, .str x.2 u⟩
  | _, [], _, h => nomatch h
  | k, c :: r, e, h => by
    rcases List.mem_append.mp h with h | h
    · obtain ⟨y, hy, t, u, e⟩ := ents_in h
      exact ⟨y, List.mem_append_left _ hy, t, u, e⟩
    · obtain ⟨y, hy, t, u, e⟩ := entsC_in h
      exact ⟨y, List.mem_append_right _ hy, t, u, e⟩
noncomputable def bigL : List DictEntry := entsC 502 cks ++ entsS 2440 lst
theorem bigL_in {e : DictEntry} (h : e ∈ bigL) : ∃ x ∈ cks.flatten ++ lst, ∃ t u, e = ⟨x.1, .int x.1 t, .str x.2 u⟩ := by
  rcases List.mem_append.mp h with h | h
  · obtain ⟨y, hy, t, u, e⟩ := entsC_in h
    exact ⟨y, List.mem_append_left _ hy, t, u, e⟩
  · obtain ⟨y, hy, t, u, e⟩ := entsS_in h
    exact ⟨y, List.mem_append_right _ hy, t, u, e⟩
theorem big_hash : ((cks.flatten ++ lst).all fun x => x.1 == hashInt x.1) = true := by decide +kernel
theorem b3_look (P : Params) : (myK P).lookup 131 = some bigO := by kernel_rfl
noncomputable def b3F (k : Int) : Option Value := findBy Value.isInt bigL.toArray k
theorem b3_map {prog : Program} {w w' : World} {h : Heap} (X : (myK w'.params).In h) : h.MapOf (intKind prog w) 131 b3F := by
  refine ⟨bigO, bigL.toArray, bigL.length, X _ _ (b3_look _), ⟨rfl, rfl, rfl⟩, rfl, ?_, fun k => rfl⟩
  intro e he
  obtain ⟨x, hx, t, u, rfl⟩ := bigL_in (by simpa using he)
  exact ⟨x.1, intKind_is _ _ _ _, show x.1 = hashInt x.1 by simpa using List.all_eq_true.mp big_hash x hx⟩
theorem b3F_str {k : Int} {v : Value} (h : b3F k = some v) : ∃ x t, v = .str x t := by
  unfold b3F findBy at h
  rw [Option.map_eq_some_iff] at h
  obtain ⟨e, he, rfl⟩ := h
  obtain ⟨x, hx, t, u, rfl⟩ := bigL_in (by simpa using Array.mem_of_find?_eq_some he)
  exact ⟨_, _, rfl⟩
section
variable {prog : Program} {w w' : World} {A : Around} {E : Value → Shared → Prop} {s : Shared}
theorem b3_method {pl : Sem Bool} {Q : Value × List Value → Shared → Prop} (X : (myK w'.params).In s.heap) (h : Q (.builtin "dict.get", [.ref 131]) s) : wpAny (model prog w) A (getMethod (.ref 131) "get" pl) Q E s := by
  have hm : s.heap.MapOf (intKind prog w) 131 b3F := b3_map X
  exact getMethod_builtin hm.typeIs PySem.F.plainAttrs_dict PySem.F.slot_dict_get PySem.F.type_dict_get hm.noDict h
theorem b3_get {c : Int} {t : Tok} {o : Option Value} {Q : Value → Shared → Prop} (X : (myK w'.params).In s.heap) (hf : b3F c = o) (h : Q (o.getD .none) { s with toks := s.toks + 1 }) : wpAny (model prog w) A (call (.builtin "dict.get") [.ref 131, .int c t]) Q E s := by
  have hm : s.heap.MapOf (intKind prog w) 131 b3F := b3_map X
  exact call_meetsIn PySem.F.slot_dict_get hm.typeIs PySem.F.entry_dict_get (PySem.F.args_dict_get_2 _ _) (meets_dict_get (intKind prog w) 131 (intKind_is _ _ _ _) (by decide +kernel)) ⟨_, hm, by rw [hf]; exact h⟩
end
/-- what map_table_b3 gives for a sign -/
noncomputable def mapB3 (c : Nat) : Str := match b3F c with
  | some (.str x _) => x
  | _ => Txt.lower ⟨#[c]⟩
theorem b3_spec (w : World) (p : Program) (loose : List Str) (mean : ExcName → Option Value) (mg mb : Str → Option Value) (news : Led) (c : Nat) (tc : Tok) :
   FSpec w p loose mean mg mb 176 [.str ⟨#[c]⟩ tc] [] news 4 20 (fun r tl => (∃ t, r = .str (mapB3 c) t) ∧ tl = []) := by
  have on2 := On.mk "getMethod ref"
  have on3 := On.mk "call builtin:dict.get"
  have on4 := On.mk "call builtin:str.lower"
  unfold FSpec
  k_fill
  intro dp un gd cn cs ad ccd cl outer A₀ base h₀ L m s Q E B F X N T hk hd hu hret
  unfold mapB3 at hret
  cases hf : b3F c with
  | none =>
    rw [hf] at hret
    dsimp only at hret
    refine wpAny_call ?_
    k_dflt cell_enter
    k_steps
    unfold Stop
    (k_here; k_dflt (refine' b3_method ?X ?_; (case X => k_in)))
    k_steps
    unfold Stop
    (k_here; k_dflt (refine' b3_get ?X ?f ?_; (case X => k_in); (case f => assumption)); dsimp only [Option.getD])
    k_steps
    unfold Stop
    (k_here; k_dflt (refine SCL.lower (Nat.le_of_ble_eq_true rfl) ?_); intro _)
    k_steps
    exact hret _ [] _ _ (by assumption) (by assumption) (fun _ _ _ h => nomatch h) ⟨⟨_, rfl⟩, rfl⟩
  | some v =>
    obtain ⟨x, t, rfl⟩ := b3F_str hf
    rw [hf] at hret
    dsimp only at hret
    refine wpAny_call ?_
    k_dflt cell_enter
    k_steps
    unfold Stop
    (k_here; k_dflt (refine' b3_method ?X ?_; (case X => k_in)))
    k_steps
    unfold Stop
    (k_here; k_dflt (refine' b3_get ?X ?f ?_; (case X => k_in); (case f => assumption)); dsimp only [Option.getD])
    k_steps
    exact hret _ [] _ _ (by assumption) (by assumption) (fun _ _ _ h => nomatch h) ⟨⟨_, rfl⟩, rfl⟩
end Mine
end
-- part Rx1
section
theorem Mine.offRx1 : True := by
  w_top off
  k_with_none
  trivial
open PySem
namespace Mine
open PySem.Sre

theorem runFor_done {m : M} (h : m.outcome.isSome = true) (b : Nat) : M.runFor b m = m := by
  cases b with
  | zero => rfl
  | succ b => simp only [M.runFor, h, if_true]

theorem runFor_add (a b : Nat) (m : M) : M.runFor (a + b) m = M.runFor b (M.runFor a m) := by
  induction a generalizing m with
  | zero => rw [Nat.zero_add]; rfl
  | succ a ih =>
    cases h : m.outcome.isSome with
    | true => rw [runFor_done h, runFor_done h, runFor_done h]
    | false =>
      rw [show a + 1 + b = (a + b) + 1 by omega]
      simp only [M.runFor, h, Bool.false_eq_true, if_false]
      exact ih m.step

noncomputable def code1 : Array Nat := #[14, 4, 0, 1, 1, 6, 1, 16, 46, 1]
noncomputable def code2 : Array Nat := #[14, 9, 4, 1, 2, 16, 10, 16, 13, 0, 7, 7, 16, 13, 16, 10, 15, 18, 5, 16, 10, 15, 13, 11, 16, 13, 5, 5, 0, 16, 10, 1, 15, 2, 0, 1]

/-- the machine at an attempt of code 1 -/
noncomputable def at1 (text : Array Nat) (lim start : Nat) (pc pos handed : Nat) (outer : Bool) (frames : List Sre.Frame) (weight : Nat) (answer : Option Bool) (seen : Seen) (out : Option Sre.Outcome) : M :=
  { code := code1, text, lim, start, lastStart := lim, pc, pos, handed, outermost := outer, marks := #[], frames, weight, answer, seen, outcome := out }

noncomputable def ns (pc pos : Nat) (outer : Bool) : Sre.Frame := { wait := .nextStart, pc, pos, outermost := outer }

theorem s1_at {text : Array Nat} {lim start pos handed : Nat} {outer : Bool} {frames : List Sre.Frame} {weight : Nat} {seen : Seen} :
    M.step (at1 text lim start 5 pos handed outer frames weight none seen none) =
      if (pos == 0 || text.getD (pos - 1) 0 == 10) = true then at1 text lim start 7 pos handed outer frames weight none ((seen.add 6).add 44) none
      else at1 text lim start 5 pos handed outer frames weight (some false) ((seen.add 6).add 44) none := by
  rfl
theorem s1_lit {text : Array Nat} {lim start pos handed : Nat} {outer : Bool} {frames : List Sre.Frame} {weight : Nat} {seen : Seen} :
    M.step (at1 text lim start 7 pos handed outer frames weight none seen none) =
      if pos ≥ lim then at1 text lim start 7 pos handed outer frames weight (some false) (seen.add 16) none else
      if (text.getD pos 0 == 46) = true then at1 text lim start 9 (pos + 1) handed outer frames weight none (seen.add 16) none
      else at1 text lim start 7 pos handed outer frames weight (some false) (seen.add 16) none := by
  show (if pos ≥ lim then _ else _) = _
  split
  · rfl
  · show (match (Except.ok ((text.getD pos 0 == 46), seen.add 16) : Except String (Bool × Seen)) with | .error why => _ | .ok (false, s) => _ | .ok (true, s) => _) = _
    cases text.getD pos 0 == 46 <;> rfl
theorem s1_ok {text : Array Nat} {lim start pos handed : Nat} {outer : Bool} {frames : List Sre.Frame} {weight : Nat} {seen : Seen} :
    M.step (at1 text lim start 9 pos handed outer frames weight none seen none) = at1 text lim start 9 pos pos outer frames weight (some true) (seen.add 1) none := by
  show (if (outer && ((false && _) || (false && _))) = true then _ else _) = _
  simp only [Bool.false_and, Bool.or_false, Bool.and_false, Bool.false_eq_true, if_false]
  rfl
theorem s1_yes {text : Array Nat} {lim start pc pos handed pc' pos' : Nat} {outer outer' : Bool} {weight : Nat} {seen : Seen} :
    M.step (at1 text lim start pc pos handed outer [ns pc' pos' outer'] weight (some true) seen none) = at1 text lim start pc' pos' handed outer' [] (weight - 1) (some true) seen none := rfl
theorem s1_no {text : Array Nat} {lim start pc pos handed pos' : Nat} {outer outer' : Bool} {seen : Seen} :
    M.step (at1 text lim start pc pos handed outer [ns 5 pos' outer'] 1 (some false) seen none) =
     if pos' < lim then at1 text lim (pos' + 1) 5 (pos' + 1) (pos' + 1) false [ns 5 (pos' + 1) false] 1 none seen none
     else at1 text lim start 5 pos' handed outer' [] 0 (some false) seen none := by
  show (if pos' < lim then _ else _) = _
  split <;> rfl
theorem s1_end {text : Array Nat} {lim start pc pos handed : Nat} {outer b : Bool} {weight : Nat} {seen : Seen} :
    M.step (at1 text lim start pc pos handed outer [] weight (some b) seen none) = at1 text lim start pc pos handed outer [] weight (some b) seen (some (if b then .matched else .failed)) := rfl

/-- what a search comes to -/
noncomputable def Ends (k : Nat) (m : M) (s e : Nat) : Prop := (M.runFor k m).outcome = some .matched ∧ (M.runFor k m).start = s ∧ (M.runFor k m).handed = e

theorem runFor_step {n : Nat} {m m' : M} (h : m.outcome = none) (e : m.step = m') : M.runFor (n + 1) m = M.runFor n m' := by
  rw [M.runFor, h, e]; rfl

/-- a place where code 1 matches -/
noncomputable def dotAt (text : Array Nat) (s : Nat) : Bool := (s == 0 || text.getD (s - 1) 0 == 10) && text.getD s 0 == 46

theorem run1 {text : Array Nat} {lim : Nat} : ∀ (d : Nat) {s : Nat} {outer : Bool} {seen : Seen}, d + s = lim →
    (∃ k, k ≤ 8 * (d + 1) ∧
      ((∃ t, s ≤ t ∧ t < lim ∧ dotAt text t = true ∧ (∀ u, s ≤ u → u < t → dotAt text u = false) ∧ Ends k (at1 text lim s 5 s s outer [ns 5 s outer] 1 none seen none) t (t + 1)) ∨
       ((∀ u, s ≤ u → u < lim → dotAt text u = false) ∧ (M.runFor k (at1 text lim s 5 s s outer [ns 5 s outer] 1 none seen none)).outcome = some .failed)))
  | d, s, outer, seen, hd => by
    by_cases hs : s < lim
    · cases hdot : dotAt text s with
      | true =>
        have h1 : (s == 0 || text.getD (s - 1) 0 == 10) = true := (Bool.and_eq_true_iff.mp hdot).1
        have h2 : (text.getD s 0 == 46) = true := (Bool.and_eq_true_iff.mp hdot).2
        refine ⟨5, by omega, .inl ⟨s, Nat.le_refl _, hs, hdot, fun u a b => absurd (Nat.lt_of_le_of_lt a b) (Nat.lt_irrefl _), ?_⟩⟩
        · unfold Ends
          rw [runFor_step rfl (s1_at.trans (if_pos h1)), runFor_step rfl (s1_lit.trans ((if_neg (by omega)).trans (if_pos h2))), runFor_step rfl s1_ok, runFor_step rfl s1_yes, runFor_step rfl s1_end]
          exact ⟨rfl, rfl, rfl⟩
      | false =>
        obtain ⟨d', rfl⟩ : ∃ d', d = d' + 1 := ⟨d - 1, by omega⟩
        have go : ∃ j seen', j ≤ 3 ∧ ∀ n, M.runFor (n + j) (at1 text lim s 5 s s outer [ns 5 s outer] 1 none seen none) = M.runFor n (at1 text lim (s + 1) 5 (s + 1) (s + 1) false [ns 5 (s + 1) false] 1 none seen' none) := by
          cases h1 : (s == 0 || text.getD (s - 1) 0 == 10) with
          | false =>
            refine ⟨2, (seen.add 6).add 44, by omega, fun n => ?_⟩
            rw [runFor_step rfl (s1_at.trans (if_neg (by rw [h1]; exact Bool.false_ne_true))), runFor_step rfl (s1_no.trans (if_pos hs))]
          | true =>
            have h2 : (text.getD s 0 == 46) = false := by unfold dotAt at hdot; rw [h1] at hdot; simpa using hdot
            refine ⟨3, ((seen.add 6).add 44).add 16, by omega, fun n => ?_⟩
            rw [runFor_step rfl (s1_at.trans (if_pos h1)), runFor_step rfl (s1_lit.trans ((if_neg (by omega)).trans (if_neg (by rw [h2]; exact Bool.false_ne_true)))), runFor_step rfl (s1_no.trans (if_pos hs))]
        obtain ⟨j, seen', hj, hgo⟩ := go
        obtain ⟨k, hk, hc⟩ := run1 (text := text) (lim := lim) d' (s := s + 1) (outer := false) (seen := seen') (by omega)
        refine ⟨k + j, by omega, ?_⟩
        unfold Ends at hc ⊢
        rw [hgo k]
        rcases hc with ⟨t, a, b, c, e, f⟩ | ⟨a, b⟩
        · refine .inl ⟨t, by omega, b, c, fun u hu hut => ?_, f⟩
          by_cases hus : u = s
          · rw [hus]; exact hdot
          · exact e u (by omega) hut
        · refine .inr ⟨fun u hu hul => ?_, b⟩
          by_cases hus : u = s
          · rw [hus]; exact hdot
          · exact a u (by omega) hul
    · have fin : ∃ j, j ≤ 4 ∧ (M.runFor j (at1 text lim s 5 s s outer [ns 5 s outer] 1 none seen none)).outcome = some .failed := by
        cases h1 : (s == 0 || text.getD (s - 1) 0 == 10) with
        | false =>
          refine ⟨3, by omega, ?_⟩
          rw [runFor_step rfl (s1_at.trans (if_neg (by rw [h1]; exact Bool.false_ne_true))), runFor_step rfl (s1_no.trans (if_neg hs)), runFor_step rfl s1_end]
          rfl
        | true =>
          refine ⟨4, by omega, ?_⟩
          rw [runFor_step rfl (s1_at.trans (if_pos h1)), runFor_step rfl (s1_lit.trans (if_pos (by omega))), runFor_step rfl (s1_no.trans (if_neg hs)), runFor_step rfl s1_end]
          rfl
      obtain ⟨j, hj, hf⟩ := fin
      exact ⟨j, by omega, .inr ⟨fun u a b => by omega, hf⟩⟩

/-- code 2 -/
noncomputable def at2 (text : Array Nat) (lim start : Nat) (pc pos handed : Nat) (outer : Bool) (frames : List Sre.Frame) (weight : Nat) (answer : Option Bool) (seen : Seen) (out : Option Sre.Outcome) : M :=
  { code := code2, text, lim, start, lastStart := lim, pc, pos, handed, outermost := outer, marks := #[], frames, weight, answer, seen, outcome := out }
noncomputable def nb (pc pos : Nat) (outer : Bool) : Sre.Frame := { wait := .nextBranch, pc, pos, outermost := outer }

theorem s2_branch {text : Array Nat} {lim start pos handed : Nat} {outer : Bool} {frames : List Sre.Frame} {seen : Seen} :
    M.step (at2 text lim start 10 pos handed outer frames 1 none seen none) = at2 text lim start 12 pos pos outer (nb 11 pos outer :: frames) 2 none (seen.add 7) none := rfl
theorem s2_lit13 {text : Array Nat} {lim start pos handed : Nat} {outer : Bool} {frames : List Sre.Frame} {weight : Nat} {seen : Seen} (hp : pos < lim) :
    M.step (at2 text lim start 12 pos handed outer frames weight none seen none) =
      if (text.getD pos 0 == 13) = true then at2 text lim start 14 (pos + 1) handed outer frames weight none (seen.add 16) none
      else at2 text lim start 12 pos handed outer frames weight (some false) (seen.add 16) none := by
  show (if pos ≥ lim then _ else _) = _
  rw [if_neg (by omega)]
  show (match (Except.ok ((text.getD pos 0 == 13), seen.add 16) : Except String (Bool × Seen)) with | .error why => _ | .ok (false, s) => _ | .ok (true, s) => _) = _
  cases text.getD pos 0 == 13 <;> rfl
theorem s2_lit10 {text : Array Nat} {lim start pos handed : Nat} {outer : Bool} {frames : List Sre.Frame} {weight : Nat} {seen : Seen} :
    M.step (at2 text lim start 14 pos handed outer frames weight none seen none) =
      if pos < lim ∧ (text.getD pos 0 == 10) = true then at2 text lim start 16 (pos + 1) handed outer frames weight none (seen.add 16) none
      else at2 text lim start 14 pos handed outer frames weight (some false) (seen.add 16) none := by
  show (if pos ≥ lim then _ else _) = _
  by_cases hp : pos < lim
  · rw [if_neg (by omega)]
    show (match (Except.ok ((text.getD pos 0 == 10), seen.add 16) : Except String (Bool × Seen)) with | .error why => _ | .ok (false, s) => _ | .ok (true, s) => _) = _
    cases text.getD pos 0 == 10 <;> simp [hp] <;> rfl
  · rw [if_pos (by omega), if_neg (by simp [hp])]
    rfl
theorem s2_jump1 {text : Array Nat} {lim start pos handed : Nat} {outer : Bool} {frames : List Sre.Frame} {weight : Nat} {seen : Seen} :
    M.step (at2 text lim start 16 pos handed outer frames weight none seen none) = at2 text lim start 35 pos handed outer frames weight none (seen.add 15) none := rfl
theorem s2_ok {text : Array Nat} {lim start pos handed : Nat} {outer : Bool} {frames : List Sre.Frame} {weight : Nat} {seen : Seen} :
    M.step (at2 text lim start 35 pos handed outer frames weight none seen none) = at2 text lim start 35 pos pos outer frames weight (some true) (seen.add 1) none := by
  show (if (outer && ((false && _) || (false && _))) = true then _ else _) = _
  simp only [Bool.false_and, Bool.or_false, Bool.and_false, Bool.false_eq_true, if_false]
  rfl
theorem s2_bYes {text : Array Nat} {lim start pc pos handed pc' pos' : Nat} {outer outer' : Bool} {frames : List Sre.Frame} {weight : Nat} {seen : Seen} :
    M.step (at2 text lim start pc pos handed outer (nb pc' pos' outer' :: frames) weight (some true) seen none) = at2 text lim start pc' pos' handed outer' frames (weight - 1) (some true) seen none := rfl
theorem s2_yes {text : Array Nat} {lim start pc pos handed pc' pos' : Nat} {outer outer' : Bool} {frames : List Sre.Frame} {weight : Nat} {seen : Seen} :
    M.step (at2 text lim start pc pos handed outer (ns pc' pos' outer' :: frames) weight (some true) seen none) = at2 text lim start pc' pos' handed outer' frames (weight - 1) (some true) seen none := rfl
theorem s2_end {text : Array Nat} {lim start pc pos handed : Nat} {outer b : Bool} {weight : Nat} {seen : Seen} :
    M.step (at2 text lim start pc pos handed outer [] weight (some b) seen none) = at2 text lim start pc pos handed outer [] weight (some b) seen (some (if b then .matched else .failed)) := rfl
theorem s2_bNo1 {text : Array Nat} {lim start pc pos handed pos' : Nat} {outer outer' : Bool} {frames : List Sre.Frame} {seen : Seen} :
    M.step (at2 text lim start pc pos handed outer (nb 11 pos' outer' :: frames) 2 (some false) seen none) = at2 text lim start 19 pos' pos' outer' (nb 18 pos' outer' :: frames) 2 none seen none := rfl
theorem s2_bNo2 {text : Array Nat} {lim start pc pos handed pos' : Nat} {outer outer' : Bool} {frames : List Sre.Frame} {seen : Seen} :
    M.step (at2 text lim start pc pos handed outer (nb 18 pos' outer' :: frames) 2 (some false) seen none) = at2 text lim start 24 pos' pos' outer' (nb 23 pos' outer' :: frames) 2 none seen none := rfl
theorem s2_lit10b {text : Array Nat} {lim start pos handed : Nat} {outer : Bool} {frames : List Sre.Frame} {weight : Nat} {seen : Seen} (hp : pos < lim) :
    M.step (at2 text lim start 19 pos handed outer frames weight none seen none) =
      if (text.getD pos 0 == 10) = true then at2 text lim start 21 (pos + 1) handed outer frames weight none (seen.add 16) none
      else at2 text lim start 19 pos handed outer frames weight (some false) (seen.add 16) none := by
  show (if pos ≥ lim then _ else _) = _
  rw [if_neg (by omega)]
  show (match (Except.ok ((text.getD pos 0 == 10), seen.add 16) : Except String (Bool × Seen)) with | .error why => _ | .ok (false, s) => _ | .ok (true, s) => _) = _
  cases text.getD pos 0 == 10 <;> rfl
theorem s2_jump2 {text : Array Nat} {lim start pos handed : Nat} {outer : Bool} {frames : List Sre.Frame} {weight : Nat} {seen : Seen} :
    M.step (at2 text lim start 21 pos handed outer frames weight none seen none) = at2 text lim start 35 pos handed outer frames weight none (seen.add 15) none := rfl
theorem s2_lit13c {text : Array Nat} {lim start pos handed : Nat} {outer : Bool} {frames : List Sre.Frame} {weight : Nat} {seen : Seen} (hp : pos < lim) :
    M.step (at2 text lim start 24 pos handed outer frames weight none seen none) =
      if (text.getD pos 0 == 13) = true then at2 text lim start 26 (pos + 1) handed outer frames weight none (seen.add 16) none
      else at2 text lim start 24 pos handed outer frames weight (some false) (seen.add 16) none := by
  show (if pos ≥ lim then _ else _) = _
  rw [if_neg (by omega)]
  show (match (Except.ok ((text.getD pos 0 == 13), seen.add 16) : Except String (Bool × Seen)) with | .error why => _ | .ok (false, s) => _ | .ok (true, s) => _) = _
  cases text.getD pos 0 == 13 <;> rfl
noncomputable def ln (pos : Nat) (outer : Bool) : Sre.Frame := { wait := .lookNot, pc := 26, pos, outermost := outer }
theorem s2_not {text : Array Nat} {lim start pos handed : Nat} {outer : Bool} {frames : List Sre.Frame} {seen : Seen} :
    M.step (at2 text lim start 26 pos handed outer frames 2 none seen none) = at2 text lim start 29 pos pos false (ln pos outer :: frames) 3 none (seen.add 5) none := by
  rfl
theorem s2_lit10d {text : Array Nat} {lim start pos handed : Nat} {outer : Bool} {frames : List Sre.Frame} {weight : Nat} {seen : Seen} :
    M.step (at2 text lim start 29 pos handed outer frames weight none seen none) =
      if pos < lim ∧ (text.getD pos 0 == 10) = true then at2 text lim start 31 (pos + 1) handed outer frames weight none (seen.add 16) none
      else at2 text lim start 29 pos handed outer frames weight (some false) (seen.add 16) none := by
  show (if pos ≥ lim then _ else _) = _
  by_cases hp : pos < lim
  · rw [if_neg (by omega)]
    show (match (Except.ok ((text.getD pos 0 == 10), seen.add 16) : Except String (Bool × Seen)) with | .error why => _ | .ok (false, s) => _ | .ok (true, s) => _) = _
    cases text.getD pos 0 == 10 <;> simp [hp] <;> rfl
  · rw [if_pos (by omega), if_neg (by simp [hp])]
    rfl
theorem s2_lnNo {text : Array Nat} {lim start pc pos handed pos' : Nat} {outer outer' : Bool} {frames : List Sre.Frame} {seen : Seen} :
    M.step (at2 text lim start pc pos handed outer (ln pos' outer' :: frames) 3 (some false) seen none) = at2 text lim start 32 pos' handed outer' frames 2 none seen none := rfl
theorem s2_jump3 {text : Array Nat} {lim start pos handed : Nat} {outer : Bool} {frames : List Sre.Frame} {weight : Nat} {seen : Seen} :
    M.step (at2 text lim start 32 pos handed outer frames weight none seen none) = at2 text lim start 35 pos handed outer frames weight none (seen.add 15) none := rfl

/-- the length of the line end at s -/
noncomputable def endLen (text : Array Nat) (lim s : Nat) : Nat := if (text.getD s 0 == 13) = true ∧ s + 1 < lim ∧ (text.getD (s + 1) 0 == 10) = true then 2 else 1

theorem run2 {text : Array Nat} {lim s : Nat} {outer : Bool} {seen : Seen} (hs : s < lim) (hc : text.getD s 0 = 10 ∨ text.getD s 0 = 13) :
    ∃ k, k ≤ 20 ∧ Ends k (at2 text lim s 10 s s outer [ns 10 s outer] 1 none seen none) s (s + endLen text lim s) := by
  unfold Ends
  by_cases h13 : (text.getD s 0 == 13) = true
  · by_cases h10 : s + 1 < lim ∧ (text.getD (s + 1) 0 == 10) = true
    · have e : endLen text lim s = 2 := if_pos ⟨h13, h10⟩
      refine ⟨8, by omega, ?_⟩
      · rw [runFor_step rfl s2_branch, runFor_step rfl ((s2_lit13 hs).trans (if_pos h13)), runFor_step rfl (s2_lit10.trans (if_pos h10)), runFor_step rfl s2_jump1, runFor_step rfl s2_ok, runFor_step rfl s2_bYes, runFor_step rfl s2_yes, runFor_step rfl s2_end]
        rw [e]; exact ⟨rfl, rfl, rfl⟩
    · have e : endLen text lim s = 1 := if_neg (by rintro ⟨_, q⟩; exact h10 q)
      have hne : ¬ (text.getD s 0 == 10) = true := by
        rw [beq_iff_eq] at h13 ⊢; omega
      refine ⟨15, by omega, ?_⟩
      · rw [runFor_step rfl s2_branch, runFor_step rfl ((s2_lit13 hs).trans (if_pos h13)), runFor_step rfl (s2_lit10.trans (if_neg h10)), runFor_step rfl s2_bNo1, runFor_step rfl ((s2_lit10b hs).trans (if_neg hne)), runFor_step rfl s2_bNo2,
          runFor_step rfl ((s2_lit13c hs).trans (if_pos h13)), runFor_step rfl s2_not, runFor_step rfl (s2_lit10d.trans (if_neg h10)), runFor_step rfl s2_lnNo, runFor_step rfl s2_jump3, runFor_step rfl s2_ok, runFor_step rfl s2_bYes, runFor_step rfl s2_yes, runFor_step rfl s2_end]
        rw [e]; exact ⟨rfl, rfl, rfl⟩
  · have e : endLen text lim s = 1 := if_neg (by rintro ⟨q, _⟩; exact h13 q)
    have h10 : (text.getD s 0 == 10) = true := by
      rw [beq_iff_eq] at h13 ⊢; omega
    refine ⟨9, by omega, ?_⟩
    · rw [runFor_step rfl s2_branch, runFor_step rfl ((s2_lit13 hs).trans (if_neg h13)), runFor_step rfl s2_bNo1, runFor_step rfl ((s2_lit10b hs).trans (if_pos h10)), runFor_step rfl s2_jump2, runFor_step rfl s2_ok, runFor_step rfl s2_bYes, runFor_step rfl s2_yes, runFor_step rfl s2_end]
      rw [e]; exact ⟨rfl, rfl, rfl⟩
end Mine
end
-- part Rx2
section
theorem Mine.offRx2 : True := by
  w_top off
  k_with_none
  trivial
open PySem
namespace Mine
open PySem.Sre PySem.Builtin.Re
set_option maxRecDepth 100000

theorem slot_sub : Slot "re.Pattern" "sub" "re.Pattern.sub" :=
  .of (owner := "re.Pattern") (n := "sub") (by rw [typeLookup_type, builtinLookup_eq_fast]; kernel_rfl) (by decide +kernel) (by decide +kernel) (by decide +kernel)
    (by first | exact .inl (by decide +kernel) | exact .inr (by decide +kernel)) (by rw [isSubtype_type]; kernel_rfl)
theorem type_sub : typeOf (.builtin "re.Pattern.sub") = pure (.type "method_descriptor") := by show builtinType _ = _; rw [builtinType_eq_fast]; kernel_rfl
theorem entry_sub : entryFor table "re.Pattern.sub" = some Builtin.«re.Pattern.sub» := entryFor_of_tree (by kernel_rfl)
theorem entry_loop : entryFor table "re.Pattern.sub.loop" = some Builtin.«re.Pattern.sub.loop» := entryFor_of_tree (by kernel_rfl)
theorem owner_pat : Manifest.owners.lookup (String.ofList ['n', 'r', 'e', 't', 't', 'a', 'P', '.', 'e', 'r'].reverse) = some Manifest.sig_re_Pattern := by kernel_rfl
theorem plainAttrs_pat : PlainAttrs "re.Pattern" :=
  ⟨⟨"object.__getattribute__", by rw [typeLookup_type, builtinLookup_eq_fast]; kernel_rfl, by decide +kernel⟩, by rw [typeLookup_type, builtinLookup_eq_fast]; kernel_rfl⟩
theorem args_sub_3 (a b c : Value) : argsOk "re.Pattern.sub" ⟨[a, b, c], []⟩ := by
  unfold argsOk; rw [signature?_of (id := "re.Pattern.sub") (n := ['b', 'u', 's']) (o := ['n', 'r', 'e', 't', 't', 'a', 'P', '.', 'e', 'r']) (by kernel_rfl) owner_pat]; kernel_rfl

/-! the search -/
theorem search1 {text : Array Nat} {pos : Nat} (h : pos ≤ text.size) :
    ∃ k, k ≤ 8 * (text.size + 2) ∧
      ((∃ t, pos ≤ t ∧ t < text.size ∧ dotAt text t = true ∧ (∀ u, pos ≤ u → u < t → dotAt text u = false) ∧ Ends k (forSearch code1 text 0 pos text.size false) t (t + 1)) ∨
       ((∀ u, pos ≤ u → u < text.size → dotAt text u = false) ∧ (M.runFor k (forSearch code1 text 0 pos text.size false)).outcome = some .failed)) := by
  by_cases hp : pos < text.size
  · have e : forSearch code1 text 0 pos text.size false = at1 text text.size pos 5 pos pos true [ns 5 pos true] 1 none (({} : Seen).add 14) none := by
      show (if _ then _ else _) = _
      rw [if_neg (by show ¬ (decide (pos > text.size) || decide (text.size - pos < 1)) = true; simp; omega)]
      rfl
    rw [e]
    obtain ⟨k, hk, hc⟩ := run1 (text := text) (lim := text.size) (text.size - pos) (s := pos) (outer := true) (seen := ({} : Seen).add 14) (by omega)
    exact ⟨k, by omega, hc⟩
  · refine ⟨1, by omega, .inr ⟨fun u a b => by omega, ?_⟩⟩
    have e : forSearch code1 text 0 pos text.size false = { at1 text text.size pos 5 pos pos true [] 0 (some false) (({} : Seen).add 14) none with lastStart := 0 } := by
      show (if _ then _ else _) = _
      rw [if_pos (by show (decide (pos > text.size) || decide (text.size - pos < 1)) = true; simp; omega)]
      rfl
    rw [e]; rfl

noncomputable def isEnd (text : Array Nat) (s : Nat) : Bool := text.getD s 0 == 10 || text.getD s 0 == 13

theorem inSet2 (c : Nat) (seen : Seen) : ∃ s', inSet code2 c code2.size 5 true seen = .ok (c == 10 || c == 13, s') := by
  have e : inSet code2 c code2.size 5 true seen = if (c == 10) = true then .ok (true, seen.add 16) else if (c == 13) = true then .ok (true, (seen.add 16).add 16) else .ok (false, ((seen.add 16).add 16).add 0) := rfl
  rw [e]
  cases c == 10 <;> cases c == 13 <;> exact ⟨_, rfl⟩

theorem admitted2 {m : M} (hm : m.code = code2) : ∀ (fuel s : Nat) (seen : Seen), m.lim + 1 - s ≤ fuel →
    (∃ t s', s ≤ t ∧ t < m.lim ∧ isEnd m.text t = true ∧ (∀ u, s ≤ u → u < t → isEnd m.text u = false) ∧ M.admitted m fuel s seen = .ok (some t, s')) ∨
    ((∀ u, s ≤ u → u < m.lim → isEnd m.text u = false) ∧ ∃ s', M.admitted m fuel s seen = .ok (none, s'))
  | 0, s, seen, h => .inr ⟨fun u a b => by omega, seen, rfl⟩
  | fuel + 1, s, seen, h => by
    unfold M.admitted
    by_cases hs : s ≥ m.lim
    · rw [if_pos hs]
      exact .inr ⟨fun u a b => by omega, _, rfl⟩
    · rw [if_neg hs, hm]
      obtain ⟨s', e⟩ := inSet2 (m.text.getD s 0) seen
      rw [e]
      cases hc : (m.text.getD s 0 == 10 || m.text.getD s 0 == 13) with
      | true => exact .inl ⟨s, s', Nat.le_refl _, by omega, hc, fun u a b => by omega, rfl⟩
      | false =>
        rcases admitted2 hm fuel (s + 1) s' (by omega) with ⟨t, s2, a, b, c, d, f⟩ | ⟨a, b⟩
        · refine .inl ⟨t, s2, by omega, b, c, fun u hu hut => ?_, f⟩
          by_cases hus : u = s
          · rw [hus]; exact hc
          · exact d u (by omega) hut
        · refine .inr ⟨fun u hu hul => ?_, b⟩
          by_cases hus : u = s
          · rw [hus]; exact hc
          · exact a u (by omega) hul

theorem search2 {text : Array Nat} {pos : Nat} (h : pos ≤ text.size) :
    ∃ k, k ≤ 8 * (text.size + 3) ∧
      ((∃ t, pos ≤ t ∧ t < text.size ∧ isEnd text t = true ∧ (∀ u, pos ≤ u → u < t → isEnd text u = false) ∧ Ends k (forSearch code2 text 0 pos text.size false) t (t + endLen text text.size t)) ∨
       ((∀ u, pos ≤ u → u < text.size → isEnd text u = false) ∧ (M.runFor k (forSearch code2 text 0 pos text.size false)).outcome = some .failed)) := by
  by_cases hp : pos < text.size
  · let m0 : M := at2 text text.size pos 10 pos pos true [] 0 none (({} : Seen).add 14) none
    have e : forSearch code2 text 0 pos text.size false = (match M.admitted m0 (text.size + 1 - pos) pos (({} : Seen).add 14) with
        | .ok (some s, seen) => ({ m0 with mustAdvance := false, seen } : M).attemptAt s true
        | .ok (none, seen) => ({ m0 with seen } : M).say false
        | .error why => m0.stick why) := by
      show (if _ then _ else _) = _
      rw [if_neg (by show ¬ (decide (pos > text.size) || decide (text.size - pos < 1)) = true; simp; omega)]
      rfl
    rw [e]
    rcases admitted2 (m := m0) rfl (text.size + 1 - pos) pos (({} : Seen).add 14) (Nat.le_refl _) with ⟨t, s', a, b, c, d, f⟩ | ⟨a, s', f⟩
    · rw [f]
      dsimp only
      have e2 : ({ m0 with mustAdvance := false, seen := s' } : M).attemptAt t true = at2 text text.size t 10 t t true [ns 10 t true] 1 none s' none := rfl
      rw [e2]
      obtain ⟨k, hk, hc⟩ := run2 (text := text) (lim := text.size) (s := t) (outer := true) (seen := s') b (by
        have : (text.getD t 0 == 10 || text.getD t 0 == 13) = true := c
        simpa using this)
      exact ⟨k, by omega, .inl ⟨t, a, b, c, d, hc⟩⟩
    · rw [f]
      exact ⟨1, by omega, .inr ⟨a, rfl⟩⟩
  · refine ⟨1, by omega, .inr ⟨fun u a b => by omega, ?_⟩⟩
    have e : forSearch code2 text 0 pos text.size false = { at2 text text.size pos 10 pos pos true [] 0 (some false) (({} : Seen).add 14) none with lastStart := 0 } := by
      show (if _ then _ else _) = _
      rw [if_pos (by show (decide (pos > text.size) || decide (text.size - pos < 1)) = true; simp; omega)]
      rfl
    rw [e]; rfl

/-! the turns of the machine -/
section
variable {Mo : Model} {A : Around} {E : Value → Shared → Prop} {s : Shared}

theorem drive : ∀ (turns k : Nat) (m : Sre.M) {Q : Sre.M → Shared → Prop}, k ≤ 4 * turns → 0 < turns → (M.runFor k m).outcome.isSome = true → Q (M.runFor k m) s → wpAny Mo A (reDrive turns m) Q E s
  | 0, k, m, Q, _, h0, _, _ => absurd h0 (Nat.lt_irrefl _)
  | turns + 1, k, m, Q, hk, _, ho, hq => by
    unfold reDrive
    dsimp only
    by_cases h4 : k ≤ 4
    · have e : M.runFor reTurnSteps m = M.runFor k m := by
        show M.runFor 4 m = _
        rw [show (4 : Nat) = k + (4 - k) by omega, runFor_add, runFor_done ho]
      rw [e, if_pos ho]
      exact wpAny_pure hq
    · have e : M.runFor k m = M.runFor (k - 4) (M.runFor reTurnSteps m) := by
        show _ = M.runFor (k - 4) (M.runFor 4 m)
        rw [← runFor_add, show 4 + (k - 4) = k by omega]
      rw [e] at ho hq
      split
      · rename_i h
        rw [runFor_done h] at hq
        exact wpAny_pure hq
      · exact wpAny_bind (wpAny_rule (drive turns (k - 4) _ (by omega) (by omega) ho hq))

theorem toEnd_found {m : Sre.M} {k a b : Nat} {Q : Option Sre.M → Shared → Prop} (hk : k ≤ 2 ^ 40) (h : Ends k m a b) (hq : ∀ m', m'.start = a → m'.handed = b → Q (some m') s) : wpAny Mo A (reRunToEnd m) Q E s := by
  obtain ⟨h1, h2, h3⟩ := h
  unfold reRunToEnd
  refine wpAny_bind (drive (2 ^ 64) k m (by omega) (by omega) (by rw [h1]; rfl) ?_)
  refine wpAny_bind (wpAny_forIn_list _ (fun _ _ s' => s' = s) _ (fun x rest b s₁ e => ?_) (fun b s₁ e => ?_) _ _ rfl)
  · subst e
    split
    · exact wpAny_bind (wpAny_rule (wpAny_pure rfl))
    · exact wpAny_pure rfl
  · subst e
    rw [h1]
    exact wpAny_pure (hq _ h2 h3)
theorem toEnd_failed {m : Sre.M} {k : Nat} {Q : Option Sre.M → Shared → Prop} (hk : k ≤ 2 ^ 40) (h : (M.runFor k m).outcome = some .failed) (hq : Q none s) : wpAny Mo A (reRunToEnd m) Q E s := by
  unfold reRunToEnd
  refine wpAny_bind (drive (2 ^ 64) k m (by omega) (by omega) (by rw [h]; rfl) ?_)
  refine wpAny_bind (wpAny_forIn_list _ (fun _ _ s' => s' = s) _ (fun x rest b s₁ e => ?_) (fun b s₁ e => ?_) _ _ rfl)
  · subst e
    split
    · exact wpAny_bind (wpAny_rule (wpAny_pure rfl))
    · exact wpAny_pure rfl
  · subst e
    rw [h]
    exact wpAny_pure hq
end

/-- a pattern's object -/
noncomputable def PatAt (h : Heap) (P : Addr) (code : Array Nat) : Prop := ∃ o fs T ot items n, h.get? P = some o ∧ o.cls = .type "re.Pattern" ∧ o.dict = none ∧ o.data = .fields fs ∧ fs.getD 6 .none = rawInt 0 ∧ fs.getD 2 .none = rawInt 0 ∧ fs.getD 5 .none = .ref T ∧
  h.get? T = some ot ∧ ot.cls = .type "tuple" ∧ ot.data = .seq items n ∧ items.map (fun v => (reRawOf v).toNat) = code

theorem PatAt.keeps {h h' : Heap} {P : Addr} {code : Array Nat} (x : PatAt h P code) (k : ∀ b o, h.get? b = some o → o.cls ≠ .type "list" → h'.get? b = some o) : PatAt h' P code := by
  obtain ⟨o, fs, T, ot, items, n, h1, h2, h3, h4, h5, h6, h7, h8, hc, h9, h10⟩ := x
  exact ⟨o, fs, T, ot, items, n, k _ _ h1 (by rw [h2]; decide), h2, h3, h4, h5, h6, h7, k _ _ h8 (by rw [hc]; decide), hc, h9, h10⟩
theorem PatAt.typeIs {s : Shared} {P : Addr} {code : Array Nat} (x : PatAt s.heap P code) : s.TypeIs (.ref P) "re.Pattern" := by
  obtain ⟨o, fs, T, ot, items, n, h1, h2, _⟩ := x
  exact ⟨o, h1, h2⟩

section
variable {Mo : Model} {A : Around} {E : Value → Shared → Prop} {s : Shared}
theorem whole {P : Addr} {code : Array Nat} {x : Str} {t : Tok} {Q : ReTarget → Shared → Prop} (hP : PatAt s.heap P code)
    (hq : Q { pattern := .ref P, string := .str x t, code, text := x.cps, kind := 0, groups := 0, pos := 0, lim := x.cps.size } s) : wpAny Mo A (reWholeTarget (.ref P) (.str x t)) Q E s := by
  obtain ⟨o, fs, T, ot, items, n, h1, h2, h3, h4, h5, h6, h7, h8, hc, h9, h10⟩ := hP
  unfold reWholeTarget
  refine wpAny_bind (wpAny_fieldsOf h1 h4 ?_)
  refine wpAny_bind (m := reTextOf (.str x t)) (wpAny_pure ?_)
  dsimp only
  rw [h5, h6, h7]
  show wpAny Mo A (reRawItems (.ref T) >>= _) Q E s
  unfold reRawItems
  refine wpAny_bind (wpAny_bind (wpAny_seqItems h8 h9 (wpAny_pure ?_)))
  have e : (Array.map (fun x => x.toNat) (Array.map reRawOf ((some items).getD #[]))) = code := by
    rw [← h10]; simp
  refine wpAny_pure ?_
  rw [e]; exact hq
end
end Mine
end
-- part Rx3
section
theorem Mine.offRx3 : True := by
  w_top off
  k_with_none
  trivial
open PySem
namespace Mine
open PySem.Sre PySem.Builtin.Re PySem.Builtin.Str
set_option maxRecDepth 100000

structure Finds (code text : Array Nat) (hit : Nat → Bool) (len : Nat → Nat) : Prop where
  search : ∀ pos, pos ≤ text.size → ∃ k, k ≤ 2 ^ 40 ∧
      ((∃ t, pos ≤ t ∧ t < text.size ∧ hit t = true ∧ (∀ u, pos ≤ u → u < t → hit u = false) ∧ Ends k (forSearch code text 0 pos text.size false) t (t + len t)) ∨
       ((∀ u, pos ≤ u → u < text.size → hit u = false) ∧ (M.runFor k (forSearch code text 0 pos text.size false)).outcome = some .failed))
  pos : ∀ t, t < text.size → hit t = true → 0 < len t ∧ t + len t ≤ text.size

theorem finds1 {text : Array Nat} (h : text.size ≤ 16777216) : Finds code1 text (dotAt text) (fun _ => 1) :=
  ⟨fun pos hp => let ⟨k, a, b⟩ := search1 hp; ⟨k, by omega, b⟩, fun t a _ => ⟨Nat.one_pos, a⟩⟩
theorem finds2 {text : Array Nat} (h : text.size ≤ 16777216) : Finds code2 text (isEnd text) (endLen text text.size) :=
  ⟨fun pos hp => let ⟨k, a, b⟩ := search2 hp; ⟨k, by omega, b⟩, fun t a _ => by
    have h2 : endLen text text.size t = 1 ∨ (endLen text text.size t = 2 ∧ t + 1 < text.size) := by
      unfold endLen
      by_cases q : (text.getD t 0 == 13) = true ∧ t + 1 < text.size ∧ (text.getD (t + 1) 0 == 10) = true
      · rw [if_pos q]; exact .inr ⟨rfl, q.2.1⟩
      · rw [if_neg q]; exact .inl rfl
    omega⟩

inductive SubTo (text : Array Nat) (hit : Nat → Bool) (len : Nat → Nat) (repl : List Nat) : Nat → List Nat → Prop
  | nil : SubTo text hit len repl text.size []
  | skip {d out} : d < text.size → hit d = false → SubTo text hit len repl (d + 1) out → SubTo text hit len repl d (text.getD d 0 :: out)
  | hit {d out} : d < text.size → hit d = true → SubTo text hit len repl (d + len d) out → SubTo text hit len repl d (repl ++ out)

section
variable {text : Array Nat} {hit : Nat → Bool} {len : Nat → Nat} {repl : List Nat}
theorem extract_cons {d e : Nat} (h : d < text.size) (he : d < e) : (text.extract d e).toList = text.getD d 0 :: (text.extract (d + 1) e).toList := by
  simp only [Array.toList_extract, List.extract]
  rw [List.drop_eq_getElem_cons (by simpa using h), show e - d = (e - (d + 1)) + 1 by omega, List.take_succ_cons]
  congr 1
  simp [Array.getD, h]
theorem SubTo.none {d : Nat} {out : List Nat} (S : SubTo text hit len repl d out) (h : ∀ u, d ≤ u → u < text.size → hit u = false) : out = (text.extract d text.size).toList := by
  induction S with
  | nil => simp
  | skip hd _ _ ih => rw [extract_cons hd hd, ih fun u a b => h u (by omega) b]
  | hit hd hh _ _ => rw [h _ (Nat.le_refl _) hd] at hh; cases hh
theorem SubTo.first {d : Nat} {out : List Nat} (S : SubTo text hit len repl d out) {t : Nat} (hdt : d ≤ t) (ht : t < text.size) (hh : hit t = true) (h : ∀ u, d ≤ u → u < t → hit u = false) :
    ∃ out', SubTo text hit len repl (t + len t) out' ∧ out = (text.extract d t).toList ++ repl ++ out' := by
  induction S with
  | nil => omega
  | @skip d out hd hf S ih =>
    by_cases e : d = t
    · subst e; rw [hh] at hf; cases hf
    · obtain ⟨out', S', e'⟩ := ih (by omega) fun u a b => h u (by omega) b
      exact ⟨out', S', by rw [extract_cons hd (by omega), e']; simp⟩
  | @hit d out hd hf S ih =>
    by_cases e : d = t
    · subst e; exact ⟨out, S, by simp⟩
    · rw [h d (Nat.le_refl _) (by omega)] at hf; cases hf
end

noncomputable def cat (l : List (Str × Tok)) : List Nat := l.flatMap fun p => p.1.cps.toList
theorem join_cat : ∀ l : List (Str × Tok), (Str.join ⟨#[]⟩ (l.map (·.1))).cps.toList = cat l
  | [] => rfl
  | [p] => by simp [cat, Str.join]
  | p :: q :: r => by
    have ih := join_cat (q :: r)
    simp only [List.map_cons] at ih
    simp only [List.map_cons, Str.join, Str.cps_append, Array.toList_append, ih]
    simp [cat]


theorem code_builtin {prog : Program} {w : World} {A : Around} {R : Result → Shared → Prop} {s : Shared} {id : String} {args : Args} {b : Builtin} (hb : entryFor table id = some b) (hp : plainId id = true)
    (h : wpAny (model prog w) A.in1 (b args) (fun fin s' => match fin with | .done f => R (.ok f) s' | .again c' => c'.quiet = true ∧ codeAny (model prog w) A c' R s') (fun e s' => R (.error e) s') s) :
    codeAny (model prog w) A (.builtin id args) R s := by
  refine codeAny_of_tree ?_
  rw [Around.under_plainId hp]
  show wpAny _ _ (match entryFor table id with | some b => b args | none => unsupported ((withoutEnding? id "#data").getD id)) _ _ s
  rw [hb]; exact h
theorem strip_len {text : Array Nat} {d e : Nat} (h : text.size ≤ 1024) : Str.length ⟨text.extract d e⟩ ≤ sizeLine := by
  have e : (2 : Nat) ^ 24 = 16777216 := by decide
  show (text.extract d _).size ≤ 2 ^ 24
  rw [e, Array.size_extract]
  omega

theorem list_update {h : Heap} {l : Addr} {items : Array Value} (hl : h.IsList l items) (f : Array Value → Array Value) : (h.update l (Obj.mapSeq f)).IsList l (f items) := by
  obtain ⟨o, ho, hc, n, hd⟩ := hl
  obtain ⟨c, d, dt, sl⟩ := o
  simp only at hd hc; subst hd; subst hc
  exact ⟨_, Heap.get?_update_self _ ho rfl, rfl, _, rfl⟩

section
variable {prog : Program} {w : World} {A : Around}

theorem loop_ends {P l : Addr} {code : Array Nat} {x rp : Str} {t rt : Tok} {hit : Nat → Bool} {len : Nat → Nat} (Fi : Finds code x.cps hit len) (hx : x.cps.size ≤ 1024) (hrp : rp.cps.size ≤ 16)
    {R : Result → Shared → Prop} : ∀ (fuel : Nat) {s : Shared} {d n : Nat} {n' : Int} {pcs : List (Str × Tok)} {out : List Nat}, x.cps.size - d < fuel → d ≤ x.cps.size → n' = n → pcs.length ≤ 2 * d → (∀ p ∈ pcs, p.1.cps.size ≤ 1024) →
      PatAt s.heap P code → s.heap.IsList l (strValues pcs).toArray → SubTo x.cps hit len rp.cps.toList d out →
      (∀ h' k u y, Heap.SameBut l s.heap h' → y.cps.toList = cat pcs ++ out → R (.ok (.ret (.str y u))) { s with heap := h', toks := k }) →
      codeAny (model prog w) A (.builtin "re.Pattern.sub.loop" ⟨[.ref P, .str x t, .str rp rt, rawInt 0, rawInt 0, rawInt n', rawInt d, rawInt d, .bool false, .ref l, .bool false], []⟩) R s
  | 0, s, d, n, n', pcs, out, hf, _, _, _, _, _, _, _, _ => absurd hf (Nat.not_lt_zero _)
  | fuel + 1, s, d, n, n', pcs, out, hf, hd, hn, hlen, hsz, hP, hl, S, hR => by
    refine code_builtin entry_loop (by decide +kernel) ?_
    show wpAny _ _ (reWholeTarget (.ref P) (.str x t) >>= _) _ _ s
    refine wpAny_bind (whole hP ?_)
    have hd' : ((d : Nat) : Int).toNat = d := Int.toNat_natCast d
    show wpAny _ _ (reLiteralCannotBeTurned (.str rp rt) >>= _) _ _ s
    refine wpAny_bind (wpAny_pure ?_)
    dsimp only
    rw [hd', if_neg (show ¬ ((0 : Int) != 0 && decide (n' ≥ 0)) = true by simp)]
    obtain ⟨k, hk, hc⟩ := Fi.search d hd
    rcases hc with ⟨e, he1, he2, he3, he4, he5⟩ | ⟨hn1, hn2⟩
    · refine wpAny_bind (toEnd_found hk he5 fun m' hs' hh' => ?_)
      dsimp only
      obtain ⟨hp1, hp2⟩ := Fi.pos e he2 he3
      obtain ⟨out', S', hout⟩ := S.first he1 he2 he3 he4
      rw [hs', hh']
      have hbeq : ((e + len e) == e) = false := by rw [beq_eq_false_iff_ne]; omega
      have fin : ∀ (pcs' : List (Str × Tok)) (s' : Shared), s'.heap.IsList l (strValues pcs').toArray → Heap.SameBut l s.heap s'.heap → (∃ h' k', s' = { s with heap := h', toks := k' }) → pcs'.length ≤ pcs.length + 1 → (∀ p ∈ pcs', p.1.cps.size ≤ 1024) →
          cat pcs' = cat pcs ++ (x.cps.extract d e).toList →
          wpAny (model prog w) A.in1 (do
            updateSeq l fun x => x.push (.str rp rt)
            again (Code.builtin "re.Pattern.sub.loop" ⟨[Value.ref P, Value.str x t, Value.str rp rt, rawInt 0, rawInt 0, rawInt (n' + 1), rawInt ((e + len e : Nat) : Int), rawInt ((e + len e : Nat) : Int), Value.bool ((e + len e) == e), Value.ref l, Value.bool false], []⟩))
            (fun fin s' => match fin with | .done f => R (.ok f) s' | .again c' => c'.quiet = true ∧ codeAny (model prog w) A c' R s') (fun e s' => R (.error e) s') s' := by
        intro pcs' s' hl' hsb hs' hlen' hsz' hcat
        obtain ⟨o, ho, hoc, no, hod⟩ := id hl'
        have e24 : (2 : Nat) ^ 24 = 16777216 := by decide
        refine wpAny_bind (wpAny_updateSeq ho hod (wpAny_pure ⟨plainId_quiet (by decide +kernel) _, ?_⟩) (by show _ ≤ 2 ^ 24; rw [e24]; simp [strValues]; omega) (by show _ ≤ 2 ^ 24 + 1; rw [e24]; simp [strValues]; omega))
        rw [hbeq]
        have hu := list_update hl' (fun x => x.push (.str rp rt))
        have hsb2 : Heap.SameBut l s'.heap (s'.heap.update l (Obj.mapSeq fun x => x.push (.str rp rt))) := Heap.SameBut.update ..
        obtain ⟨h', k', rfl⟩ := hs'
        refine loop_ends Fi hx hrp fuel (n := n + 1) (pcs := pcs' ++ [(rp, rt)]) (out := out') (by omega) hp2 (by omega) (by simp; omega) ?_ ?_ ?_ S' ?_
        · intro p hp
          rcases List.mem_append.mp hp with hp | hp
          · exact hsz' p hp
          · rw [List.mem_singleton.mp hp]; dsimp only; omega
        · refine hP.keeps fun b ob hb hcb => ((hsb.trans hsb2).2 b ?_).trans hb
          rintro rfl
          obtain ⟨ol, hol, hlc, _⟩ := hl
          rw [hol] at hb; cases hb; exact hcb hlc
        · have : (strValues (pcs' ++ [(rp, rt)])).toArray = (strValues pcs').toArray.push (.str rp rt) := by simp [strValues]
          rw [this]; exact hu
        · intro h2 k2 u y hb2 hy
          refine hR h2 k2 u y ((hsb.trans hsb2).trans hb2) ?_
          rw [hy, hout]
          have : cat (pcs' ++ [(rp, rt)]) = cat pcs' ++ rp.cps.toList := by simp [cat]
          rw [this, hcat]; simp
      by_cases hde : d < e
      · rw [if_pos hde]
        show wpAny _ _ (mkStr ⟨x.cps.extract d e⟩ >>= _) _ _ s
        obtain ⟨o, ho, hoc, no, hod⟩ := id hl
        have e24 : (2 : Nat) ^ 24 = 16777216 := by decide
        refine wpAny_bind (wpAny_mkStr ?_ (strip_len (by omega)))
        refine wpAny_bind (wpAny_updateSeq ho hod ?_ (by show _ ≤ 2 ^ 24; rw [e24]; simp [strValues]; omega) (by show _ ≤ 2 ^ 24 + 1; rw [e24]; simp [strValues]; omega))
        show wpAny _ _ (pure (Value.str rp rt) >>= _) _ _ _
        refine wpAny_bind (wpAny_pure ?_)
        have hu := list_update hl (fun x' => x'.push (.str ⟨x.cps.extract d e⟩ s.toks))
        refine fin (pcs ++ [(⟨x.cps.extract d e⟩, s.toks)]) _ ?_ (Heap.SameBut.update ..) ⟨_, _, rfl⟩ (by simp) ?_ ?_
        · have : (strValues (pcs ++ [(⟨x.cps.extract d e⟩, s.toks)])).toArray = (strValues pcs).toArray.push (.str ⟨x.cps.extract d e⟩ s.toks) := by simp [strValues]
          rw [this]; exact hu
        · intro p hp
          rcases List.mem_append.mp hp with hp | hp
          · exact hsz p hp
          · rw [List.mem_singleton.mp hp]; dsimp only; rw [Array.size_extract]; omega
        · simp [cat]
      · rw [if_neg hde]
        have hde' : e = d := by omega
        show wpAny _ _ (pure (Value.str rp rt) >>= _) _ _ _
        refine wpAny_bind (wpAny_pure ?_)
        exact fin pcs s hl (Heap.SameBut.refl ..) ⟨_, _, rfl⟩ (by omega) hsz (by rw [hde']; simp)
    · refine wpAny_bind (toEnd_failed hk hn2 ?_)
      dsimp only
      have hout := S.none hn1
      have fin : ∀ (pcs' : List (Str × Tok)) (s' : Shared), s'.heap.IsList l (strValues pcs').toArray → Heap.SameBut l s.heap s'.heap → (∃ h' k', s' = { s with heap := h', toks := k' }) → pcs'.length ≤ pcs.length + 1 → (∀ p ∈ pcs', p.1.cps.size ≤ 1024) →
          cat pcs' = cat pcs ++ out →
          wpAny (model prog w) A.in1 (do
            let joiner ← reSlice x.cps 0 0 0
            let its ← seqItems? (Value.ref l)
            if (its.getD #[]).isEmpty = true then do
              let text ← pure joiner
              ret text
            else do
              let text ← call (Value.builtin "str.join") [joiner, Value.ref l]
              ret text)
            (fun fin s' => match fin with | .done f => R (.ok f) s' | .again c' => c'.quiet = true ∧ codeAny (model prog w) A c' R s') (fun e s' => R (.error e) s') s' := by
        intro pcs' s' hl' hsb hs' hlen' hsz' hcat
        obtain ⟨o, ho, hoc, no, hod⟩ := id hl'
        obtain ⟨h', k', rfl⟩ := hs'
        show wpAny _ _ (mkStr ⟨x.cps.extract 0 0⟩ >>= _) _ _ _
        refine wpAny_bind (wpAny_mkStr ?_ (strip_len (by omega)))
        refine wpAny_bind (wpAny_seqItems ho hod ?_)
        have e0 : (⟨x.cps.extract 0 0⟩ : Str) = ⟨#[]⟩ := by simp
        split
        · rename_i hemp
          refine wpAny_bind (wpAny_pure (wpAny_pure ?_))
          refine hR _ _ _ _ hsb ?_
          have : pcs' = [] := by
            cases pcs' with
            | nil => rfl
            | cons p r => simp [strValues] at hemp
          subst this
          rw [← hcat, e0]; rfl
        · refine wpAny_bind (SC.join hl' rfl ?_ fun t' k'' => wpAny_pure ?_)
          · unfold JoinOk
            rw [StrLaws.joinFits (B := 1024) (fun y hy => ?_) ?_]
            · rfl
            · rw [e0]
              show _ + _ * 0 ≤ _
              rw [List.length_map]; omega
            · obtain ⟨p, hp, rfl⟩ := List.mem_map.mp hy
              exact hsz' p hp
          · refine hR _ _ _ _ hsb ?_
            rw [← hcat, ← join_cat, e0]
            show (Builtin.Str.glued ⟨#[]⟩ _).cps.toList = _
            rw [StrLaws.glued_eq_join]
      by_cases hde : d < x.cps.size
      · rw [if_pos hde]
        show wpAny _ _ (mkStr ⟨x.cps.extract d x.cps.size⟩ >>= _) _ _ s
        obtain ⟨o, ho, hoc, no, hod⟩ := id hl
        have e24 : (2 : Nat) ^ 24 = 16777216 := by decide
        refine wpAny_bind (wpAny_mkStr ?_ (strip_len (by omega)))
        refine wpAny_bind (wpAny_updateSeq ho hod ?_ (by show _ ≤ 2 ^ 24; rw [e24]; simp [strValues]; omega) (by show _ ≤ 2 ^ 24 + 1; rw [e24]; simp [strValues]; omega))
        have hu := list_update hl (fun x' => x'.push (.str ⟨x.cps.extract d x.cps.size⟩ s.toks))
        refine fin (pcs ++ [(⟨x.cps.extract d x.cps.size⟩, s.toks)]) _ ?_ (Heap.SameBut.update ..) ⟨_, _, rfl⟩ (by simp) ?_ ?_
        · have : (strValues (pcs ++ [(⟨x.cps.extract d x.cps.size⟩, s.toks)])).toArray = (strValues pcs).toArray.push (.str ⟨x.cps.extract d x.cps.size⟩ s.toks) := by simp [strValues]
          rw [this]; exact hu
        · intro p hp
          rcases List.mem_append.mp hp with hp | hp
          · exact hsz p hp
          · rw [List.mem_singleton.mp hp]; dsimp only; rw [Array.size_extract]; omega
        · rw [hout]; simp [cat]
      · rw [if_neg hde]
        exact fin pcs s hl (Heap.SameBut.refl ..) ⟨_, _, rfl⟩ (by omega) hsz (by
          rw [hout, show d = x.cps.size by omega]; simp)
end
end Mine
end
-- part Rx4
section
theorem Mine.offRx4 : True := by
  w_top off
  k_with_none
  trivial
open PySem
namespace Mine
open PySem.Sre PySem.Builtin.Re PySem.Builtin.Str
set_option maxRecDepth 100000

theorem str_nocall : typeLookup (.type "str") "__call__" = pure none := by rw [typeLookup_type, builtinLookup_eq_fast]; kernel_rfl
theorem named_sub (a b : Value) : reNamed "re.Pattern.sub" "sub" ["repl", "string", "count"] 2 [a, b] [] = pure [some a, some b, none] := by
  rfl

section
variable {prog : Program} {w : World} {A : Around} {E : Value → Shared → Prop} {s : Shared}
theorem call_sub {P : Addr} {code : Array Nat} {x rp : Str} {t rt : Tok} {hit : Nat → Bool} {len : Nat → Nat} {out : List Nat} {Q : Value → Shared → Prop} (hP : PatAt s.heap P code) (Fi : Finds code x.cps hit len) (hx : x.cps.size ≤ 1024) (hrp : rp.cps.size ≤ 16) (hlit : rp.cps.contains 92 = false)
    (S : SubTo x.cps hit len rp.cps.toList 0 out)
    (hq : ∀ h' k u y, (∀ b o, s.heap.get? b = some o → h'.get? b = some o) → y.cps.toList = out → Q (.str y u) { s with heap := h', toks := k }) :
    wpAny (model prog w) A (call (.builtin "re.Pattern.sub") [.ref P, .str rp rt, .str x t]) Q E s := by
  refine wpAny_call (codeAny_call_builtin slot_sub.plain entry_sub (slot_sub.check _ _ _ _ _ _ _ _ hP.typeIs (args_sub_3 _ _ _) ?_))
  show wpAny _ _ (reNamed "re.Pattern.sub" "sub" ["repl", "string", "count"] 2 [.str rp rt, .str x t] [] >>= _) _ _ s
  rw [named_sub]
  refine wpAny_bind (wpAny_pure ?_)
  dsimp only
  refine wpAny_bind (wpAny_pure ?_)
  refine wpAny_bind (wpAny_specialOf (typeIs_str _ _ _) str_nocall ?_)
  show wpAny _ _ (asStr? (.str rp rt) >>= _) _ _ s
  refine wpAny_bind (m := asStr? (.str rp rt)) (wpAny_pure ?_)
  dsimp only
  rw [hlit]
  refine wpAny_bind (wpAny_pure ?_)
  show wpAny _ _ (pure (Value.str rp rt, (0 : Int)) >>= _) _ _ s
  refine wpAny_bind (wpAny_pure ?_)
  dsimp only
  refine wpAny_bind (wpAny_holding (whole hP ?_))
  show wpAny _ _ (newList [] >>= _) _ _ s
  unfold newList
  refine wpAny_bind (wpAny_newObj_type ?_)
  refine wpAny_pure ⟨plainId_quiet (by decide +kernel) _, ?_⟩
  have hl : (s.heap.push { cls := .type "list", data := .seq ([] : List Value).toArray }).IsList s.heap.objs.size (strValues []).toArray := ⟨_, Heap.get?_push_size _ rfl, rfl, _, rfl⟩
  refine loop_ends Fi hx hrp (x.cps.size + 1) (n := 0) (n' := 0) (d := 0) (pcs := []) (by omega) (by omega) rfl (by simp) (fun p hp => nomatch hp) (hP.keeps fun b o e _ => Heap.get?_push_of_some _ e) hl S fun h' k u y hs hy => ?_
  refine hq h' k u y (fun b o e => ?_) (by simpa [cat] using hy)
  rw [hs.2 b (Nat.ne_of_lt (Heap.lt_size e))]
  exact Heap.get?_push_of_some _ e
theorem meth_sub {P : Addr} {code : Array Nat} {pl : Sem Bool} {Q : Value × List Value → Shared → Prop} (hP : PatAt s.heap P code) (h : Q (.builtin "re.Pattern.sub", [.ref P]) s) : wpAny (model prog w) A (getMethod (.ref P) "sub" pl) Q E s :=
  getMethod_builtin hP.typeIs plainAttrs_pat slot_sub type_sub (fun a e => by
    cases e
    obtain ⟨o, fs, T, ot, items, n, h1, h2, h3, _⟩ := hP
    exact ⟨o, h1, h3⟩) h
end
end Mine
end
-- part Rx5
section
theorem Mine.offRx5 : True := by
  w_top off
  k_with_none
  trivial
open PySem
namespace Mine

/-- every line end made CR LF -/
noncomputable def sub2 : List Nat → List Nat
  | [] => []
  | 13 :: 10 :: r => 13 :: 10 :: sub2 r
  | c :: r => if c = 13 ∨ c = 10 then 13 :: 10 :: sub2 r else c :: sub2 r
/-- a dot ahead of each line that opens with one -/
noncomputable def sub1 : Bool → List Nat → List Nat
  | _, [] => []
  | b, c :: r => if (b && c == 46) = true then 46 :: 46 :: sub1 (c == 10) r else c :: sub1 (c == 10) r

theorem getD_mid (pre : List Nat) (c : Nat) (r : List Nat) : (pre ++ c :: r).toArray.getD pre.length 0 = c := by
  simp [Array.getD]
theorem getD_mid1 (pre : List Nat) (a c : Nat) (r : List Nat) : (pre ++ a :: c :: r).toArray.getD (pre.length + 1) 0 = c := by
  simp [Array.getD]
theorem getD_out (l : List Nat) (n : Nat) (h : l.length ≤ n) : l.toArray.getD n 0 = 0 := by
  simp only [Array.getD, List.size_toArray]
  rw [dif_neg (by omega)]

theorem sub2_to : ∀ (r pre : List Nat), SubTo (pre ++ r).toArray (isEnd (pre ++ r).toArray) (endLen (pre ++ r).toArray (pre ++ r).toArray.size) [13, 10] pre.length (sub2 r) := by
  intro r
  induction r using sub2.induct with
  | case1 =>
    intro pre
    have : (pre ++ []).toArray.size = pre.length := by simp
    have q := SubTo.nil (text := (pre ++ []).toArray) (hit := isEnd (pre ++ []).toArray) (len := endLen (pre ++ []).toArray (pre ++ []).toArray.size) (repl := [13, 10])
    rw [this] at q ⊢
    exact q
  | case2 r ih =>
    intro pre
    have h := ih (pre ++ [13, 10])
    have e : pre ++ [13, 10] ++ r = pre ++ 13 :: 10 :: r := by simp
    rw [e] at h
    have hit : isEnd (pre ++ 13 :: 10 :: r).toArray pre.length = true := by unfold isEnd; rw [getD_mid]; rfl
    have hlen : endLen (pre ++ 13 :: 10 :: r).toArray (pre ++ 13 :: 10 :: r).toArray.size pre.length = 2 := by
      unfold endLen
      rw [getD_mid, getD_mid1, if_pos ⟨rfl, by simp, rfl⟩]
    rw [show sub2 (13 :: 10 :: r) = [13, 10] ++ sub2 r from by simp [sub2]]
    refine SubTo.hit (by simp) hit ?_
    rw [hlen]
    simpa using h
  | case3 c r hne hc ih =>
    intro pre
    have h := ih (pre ++ [c])
    have e : pre ++ [c] ++ r = pre ++ c :: r := by simp
    rw [e] at h
    have hit : isEnd (pre ++ c :: r).toArray pre.length = true := by unfold isEnd; rw [getD_mid]; rcases hc with rfl | rfl <;> rfl
    have hlen : endLen (pre ++ c :: r).toArray (pre ++ c :: r).toArray.size pre.length = 1 := by
      unfold endLen
      rw [getD_mid]
      refine if_neg ?_
      rintro ⟨h1, h2, h3⟩
      cases r with
      | nil => simp at h2
      | cons a r =>
        rw [getD_mid1] at h3
        exact hne r (beq_iff_eq.mp h1) (by rw [beq_iff_eq.mp h3])
    have hs : sub2 (c :: r) = [13, 10] ++ sub2 r := by
      rw [sub2.eq_def]
      split
      · rename_i q; cases q
      · rename_i r' q; cases q; exact absurd rfl (hne _ rfl)
      · rename_i c' r' _ q; cases q; rw [if_pos hc]; rfl
    rw [hs]
    refine SubTo.hit (by simp) hit ?_
    rw [hlen]
    simpa using h
  | case4 c r hne hc ih =>
    intro pre
    have h := ih (pre ++ [c])
    have e : pre ++ [c] ++ r = pre ++ c :: r := by simp
    rw [e] at h
    have hit : isEnd (pre ++ c :: r).toArray pre.length = false := by
      unfold isEnd; rw [getD_mid]
      simp only [Bool.or_eq_false_iff, beq_eq_false_iff_ne]
      exact ⟨fun q => hc (.inr q), fun q => hc (.inl q)⟩
    have hs : sub2 (c :: r) = c :: sub2 r := by
      rw [sub2.eq_def]
      split
      · rename_i q; cases q
      · rename_i r' q; cases q; exact absurd (.inl rfl) hc
      · rename_i c' r' _ q; cases q; rw [if_neg hc]
    rw [hs]
    have := SubTo.skip (text := (pre ++ c :: r).toArray) (len := endLen (pre ++ c :: r).toArray (pre ++ c :: r).toArray.size) (repl := [13, 10]) (by simp) hit (by simpa using h)
    rwa [getD_mid] at this

theorem getD_last (pre r : List Nat) (h : pre ≠ []) : (pre ++ r).toArray.getD (pre.length - 1) 0 = pre.getLast h := by
  have hl : pre.length ≠ 0 := fun e => h (List.length_eq_zero_iff.mp e)
  have e : (pre ++ r).toArray.getD (pre.length - 1) 0 = ((pre ++ r)[pre.length - 1]?).getD 0 := by simp
  rw [e, List.getElem?_append_left (by omega), List.getLast_eq_getElem, List.getElem?_eq_getElem (by omega)]
  rfl

theorem sub1_to : ∀ (r pre : List Nat) (b : Bool), (b = (pre.length == 0 || (pre ++ r).toArray.getD (pre.length - 1) 0 == 10)) →
    SubTo (pre ++ r).toArray (dotAt (pre ++ r).toArray) (fun _ => 1) [46, 46] pre.length (sub1 b r)
  | [], pre, b, _ => by
    have : (pre ++ []).toArray.size = pre.length := by simp
    have q := SubTo.nil (text := (pre ++ []).toArray) (hit := dotAt (pre ++ []).toArray) (len := fun _ => 1) (repl := [46, 46])
    rw [this] at q
    simpa [sub1] using q
  | c :: r, pre, b, hb => by
    have e : pre ++ [c] ++ r = pre ++ c :: r := by simp
    have h := sub1_to r (pre ++ [c]) (c == 10) (by
      rw [getD_last _ _ (by simp)]
      simp)
    rw [e] at h
    have hd : dotAt (pre ++ c :: r).toArray pre.length = (b && c == 46) := by
      unfold dotAt
      rw [getD_mid, ← hb]
    unfold sub1
    cases hc : (b && c == 46) with
    | true =>
      rw [hc] at hd
      simp only [if_true]
      exact SubTo.hit (len := fun _ => 1) (out := sub1 (c == 10) r) (by simp) hd (by simpa using h)
    | false =>
      rw [hc] at hd
      simp only [Bool.false_eq_true, if_false]
      have := SubTo.skip (text := (pre ++ c :: r).toArray) (len := fun _ => 1) (repl := [46, 46]) (by simp) hd (by simpa using h)
      rwa [getD_mid] at this
end Mine
end
-- part Spop
section
theorem Mine.offSpop : True := by
  w_top off
  k_with_none
  trivial
open PySem PySem.W PyProof.Rows PySem.Calls
set_option Elab.async false
set_option maxRecDepth 100000
set_option linter.unusedVariables false
namespace Mine
theorem noBool_set : typeLookup (.type "set") "__bool__" = pure none := by rw [typeLookup_type, builtinLookup_eq_fast]; kernel_rfl
section
variable {prog : Program} {w : World} {A : Around} {E : Value → Shared → Prop} {s : Shared}
theorem truthy_set {a : Addr} {o : Obj} {S : Int → Bool} {n : Nat} {Q : Bool → Shared → Prop} (ho : s.heap.get? a = some o) (hs : o.SetObjOf (intKind prog w) S n) (hn : n < 1000)
    (h : Q (decide (n ≠ 0)) { s with toks := s.toks + 1 + 1 }) : wpAny (model prog w) A (truthy (.ref a)) Q E s := by
  obtain ⟨hex, es, ep, t, hd, hel, hmem, hsz, hf⟩ := hs
  have hT : s.TypeIs (.ref a) "set" := ⟨o, ho, hex.1⟩
  have key : wpAny (model prog w) A (runValue (.builtin "len" ⟨[.ref a], []⟩)) (fun r s' => r = .int es.size (s.toks + 1) ∧ Q (decide (n ≠ 0)) s') E s := by
    refine wpAny_runValue (codeAny_builtin entry_len ?_)
    rw [Around.under_plainId plain_len _]
    exact wpAny_mono (wpAny_len_body_set (Q := fun r s' => r = .int es.size (s.toks + 1) ∧ Q (decide (n ≠ 0)) s') ho hex hd hf (by omega) ⟨rfl, h⟩)
      (fun fin s' h' => by obtain ⟨r, rfl, hq⟩ := h'; exact hq) fun _ _ e => e
  unfold truthy
  refine wpAny_bind (wpAny_callSpecial?_none (name := Str.ofString "__bool__") hT noBool_set ?_)
  refine wpAny_bind (wpAny_specialOf (name := Str.ofString "__len__") hT PySem.F.slot_set_len.lookup ?_)
  exact wpAny_bind (wpAny_mono key (fun r s' h' => by
    obtain ⟨rfl, hq⟩ := h'
    refine wpAny_pure ?_
    have e : ((es.size : Int) != 0) = decide (n ≠ 0) := by
      by_cases h0 : n = 0
      · subst h0; simp [hsz]
      · simp [hsz, h0]
    show Q ((es.size : Int) != 0) s'
    rw [e]; exact hq) fun _ _ e => e)
theorem wpAny_choose {src : Source} {n : Nat} {Q : Nat → Shared → Prop} (hn : n ≠ 0) (h : Q ((model prog w).w.draws src (s.drawn.get src) % n) { s with drawn := s.drawn.bump src }) : wpAny (model prog w) A (choose src n) Q E s := fun _ _ _ => ⟨hn, h⟩
theorem pop_size {t : SetTable} (h1 : t.place.size = 1) (h2 : t.fill ≤ t.mask) : (t.popped 0).fits 0 = true := by
  have hj : t.place[0]? = some t.place[0] := by simp [h1]
  have e : t.popped 0 = { ({ t with place := SetTable.eraseAt t.place 0, dummies := SetTable.insertAt t.dummies (SetTable.below t.dummies t.place[0]) t.place[0] } : SetTable) with finger := t.place.getD 0 0 + 1 } := by
    unfold SetTable.popped SetTable.drop
    rw [hj]
  rw [e]
  have h3 := (SetTable.insertAt_perm t.dummies (SetTable.below t.dummies t.place[0]) t.place[0]).length_eq
  simp only [Array.length_toList, Array.size_push] at h3
  have h4 : (SetTable.eraseAt t.place 0).size = 0 := by simp [SetTable.eraseAt, h1]
  simp only [SetTable.fits, SetTable.fill, h3, h4, Bool.and_eq_true, beq_iff_eq, decide_eq_true_eq, true_and]
  unfold SetTable.fill at h2
  omega
theorem one_list {α : Type} : ∀ {l : List α}, l.length = 1 → ∃ x, l = [x]
  | [x], _ => ⟨x, rfl⟩
theorem one_arr {α : Type} {es : Array α} (h : es.size = 1) : ∃ x, es = #[x] := by
  obtain ⟨l⟩ := es
  obtain ⟨x, rfl⟩ := one_list h
  exact ⟨x, rfl⟩
theorem pop_one {a : Addr} {o : Obj} {k : Int} {Q : Option Value → Shared → Prop} (ho : s.heap.get? a = some o) (hs : o.SetObjOf (intKind prog w) (fun j => decide (j = k)) 1)
    (h : ∀ h' o' d t, Heap.SameBut a s.heap h' → h'.get? a = some o' → o'.SetObjOf (intKind prog w) (fun _ => false) 0 → Q (some (.int k t)) { s with heap := h', drawn := d }) : wpAny (model prog w) A (setPop a) Q E s := by
  obtain ⟨hex, es, ep, t, hd, hel, hmem, hsz, hf⟩ := hs
  have hf' := hf
  simp only [SetTable.fits, Bool.and_eq_true, beq_iff_eq, decide_eq_true_eq] at hf'
  obtain ⟨e0, rfl⟩ : ∃ e0, es = #[e0] := one_arr hsz
  obtain ⟨⟨j, hj, hh⟩, hsc⟩ := hel e0 (List.mem_cons_self ..)
  have hjk : j = k := by
    have := (hmem j).mpr ⟨e0, List.mem_cons_self .., hj⟩
    simpa using this
  subst hjk
  obtain ⟨tk, hv⟩ := Value.isInt_shape (show Value.isInt j e0.2 = true from hj)
  have hp : t.popPlace = some 0 := by
    unfold SetTable.popPlace
    have h1 : t.place.size = 1 := hf'.1
    have h2 : t.place.isEmpty = false := by rw [Array.isEmpty]; simp [h1]
    rw [h2]
    simp only [Bool.false_eq_true, if_false, h1]
    split <;> simp_all
  unfold setPop
  refine wpAny_bind (wpAny_setState_of ho hd hf ?_)
  dsimp only
  rw [hp]
  dsimp only
  have fin : ∀ (s' : Shared), s'.heap = s.heap → (∃ d, s' = { s with drawn := d }) → wpAny (model prog w) A (match (#[e0] : Array (Int × Value))[0]? with
      | some (_, x) => do
        storeSet a (SetTable.eraseAt #[e0] 0) (t.popped 0)
        pure (some x)
      | _ => unsupported "internal:set.pop") Q E s' := by
    rintro s' hs' ⟨d, rfl⟩
    obtain ⟨e1, e2⟩ := e0
    have e2' : e2 = .int j tk := hv
    subst e2'
    show wpAny (model prog w) A (do storeSet a (SetTable.eraseAt #[(e1, Value.int j tk)] 0) (t.popped 0); pure (some (Value.int j tk))) Q E _
    refine wpAny_bind (wpAny_storeSet_of ho hd ?_ (Nat.zero_le _))
    have e := putSet_of (SetTable.eraseAt #[(e1, Value.int j tk)] 0) (t.popped 0) hd
    refine wpAny_pure (h _ _ d tk (Heap.SameBut.update ..) (Heap.get?_update_self _ ho (by rw [e]; rfl)) ?_)
    rw [e]
    exact ⟨hex, _, _, _, rfl, fun x hx => by simp [SetTable.eraseAt] at hx, fun k => by simp [SetTable.eraseAt], by simp [SetTable.eraseAt], by simpa [SetTable.eraseAt] using pop_size hf'.1 hf'.2⟩
  unfold setsByText
  refine wpAny_bind (wpAny_bind (wpAny_askSetting (wpAny_pure ?_)))
  dsimp only
  split
  · refine wpAny_bind (wpAny_choose (show (1 : Nat) ≠ 0 by decide) ?_)
    have e : (model prog w).w.draws Source.order (s.drawn.get Source.order) % (#[e0] : Array (Int × Value)).size = 0 := Nat.mod_one _
    rw [e]
    exact fin _ rfl ⟨_, rfl⟩
  · refine wpAny_bind (m := (if (!t.led && decide ((#[e0] : Array (Int × Value)).size > 1)) = true then unsupported "set:maker-not-led" else pure ())) ?_
    have e : (!t.led && decide ((#[e0] : Array (Int × Value)).size > 1)) = false := by
      have : decide ((#[e0] : Array (Int × Value)).size > 1) = false := rfl
      rw [this, Bool.and_false]
    rw [e]
    simp only [Bool.false_eq_true, if_false]
    refine wpAny_pure (wpAny_bind (wpAny_pure ?_))
    exact fin s rfl ⟨_, rfl⟩
end
section
variable {prog : Program} {w : World} {A : Around} {E : Value → Shared → Prop} {s : Shared} {h₀ : Heap} {L a : Addr} {m : Str → Option Value} {news : Led} {g : Obj → Led}
theorem set_pop_meth {o : Obj} {S : Int → Bool} {n : Nat} {pl : Sem Bool} {Q : Value × List Value → Shared → Prop} (N : News h₀ L s.heap news) (hm : (a, o) ∈ news) (hs : o.SetObjOf (intKind prog w) S n) (hn : n < scanBound) (h : Q (.builtin "set.pop", [.ref a]) s) :
    wpAny (model prog w) A (getMethod (.ref a) "pop" pl) Q E s := by
  have hS := hs.setOf (N.get hm) hn
  exact getMethod_builtin hS.typeIs PySem.F.plainAttrs_set PySem.F.slot_set_pop PySem.F.type_set_pop hS.noDict h
theorem set_pop_call {o : Obj} {k : Int} {Q : Value → Shared → Prop} (F : Fr h₀ L s.heap m) (N : News h₀ L s.heap news) (U : UpdF a o news g) (hs : o.SetObjOf (intKind prog w) (fun j => decide (j = k)) 1)
    (h : ∀ h' o' d t, Fr h₀ L h' m → News h₀ L h' (g o') → o'.SetObjOf (intKind prog w) (fun _ => false) 0 → Q (.int k t) { s with heap := h', drawn := d }) :
    wpAny (model prog w) A (call (.builtin "set.pop") [.ref a]) Q E s := by
  obtain ⟨pre, post, rfl, hg, x1, x2⟩ := U.split
  have z := N (a, o) (List.mem_append.mpr (.inr (.head _)))
  have hS := hs.setOf z.1 (by decide)
  refine wpAny_call_entry PySem.F.slot_set_pop hS.typeIs PySem.F.entry_set_pop ?_ (PySem.F.args_set_pop_1 _)
  show wpAny _ _ (setPop a >>= _) _ _ _
  refine wpAny_bind (pop_one z.1 hs fun h' o' d t hsb ho' hs' => ?_)
  refine wpAny_pure ⟨_, rfl, h h' o' d t (F.change hsb z.2.1 z.2.2) (hg o' ▸ news_set N x1 x2 hsb ho') hs'⟩
end
end Mine
end
-- part Cpw
section
theorem Mine.offCpw : True := by
  w_top off
  k_with_none
  trivial
open PySem PySem.W PyProof.Rows PySem.Calls
set_option Elab.async false
set_option maxRecDepth 100000
set_option maxHeartbeats 0
set_option linter.unusedVariables false
namespace Mine
/-- as FSpec; the def may draw -/
noncomputable def FSpecX (w : World) (p : Program) (loose : List Str) (mean : ExcName → Option Value) (mg mb : Str → Option Value) (f : Addr) (vs : List Value) (kw : List (Str × Value)) (news : Led) (dd uu : Nat) (Ret : Value → Led → Prop) : Prop :=
  ∀ (dp un : Nat) (gd : Option (List Code)) (cn : Str) (cs : Scope) (ad : Addr) (ccd : Value) (cl : List (Str × Addr)) (outer : List Env) (A₀ : Around) (base h₀ : Heap) (L : Addr) (m : Str → Option Value) (s : Shared) (Q E : Value → Shared → Prop),
    Below A₀ base outer h₀ → Fr h₀ L s.heap m → (myK w.params).In h₀ → News h₀ L s.heap news → Top p loose mean mg mb h₀ → cs.kind = .function →
    dp + dd < recursionLimit → un + uu < cLine →
    (∀ (r : Value) (tl : Led) (h' : Heap) (tk' : Nat) d, Fr h₀ L h' m → News h₀ L h' (tl ++ news) → (∀ q ∈ news, ∀ p ∈ tl, q.1 < p.1) → Ret r tl → Q r { s with heap := h', toks := tk', drawn := d }) →
    wpAny (model PySem.Challenge.rw_sn0092_01.row.prog w) (ktrTop dp un gd cn cs L ad ccd cl outer) (call (.ref f) vs kw) Q E s
theorem cpw_spec (w : World) (p : Program) (loose : List Str) (mean : ExcName → Option Value) (mg mb : Str → Option Value) (news : Led) (n : Int) (tn t5 tm : Tok) (h0 : 0 ≤ n) (h1 : n ≤ 10) :
   FSpecX w p loose mean mg mb 39 [.int n tn, .int 5 t5, .int 2048 tm] [] news 4 20 (fun r tl => (∃ d, r = .ref d) ∧ tl = []) := by
  have on1 := On.mk "truthy ref"
  have on2 := On.mk "getMethod ref"
  have on3 := On.mk "call builtin:set.pop"
  unfold FSpecX
  k_fill
  intro dp un gd cn cs ad ccd cl outer A₀ base h₀ L m s Q E B F X N T hk hd hu hret
  refine wpAny_call ?_
  refine' code_def ?k1 ?k2 ?k3 ?k4 ?k5 ?kA ?kF ?kK ?k6 ?k7 ?k8 ?k9 ?kB ?_ ?c2 ?c3 ?c4 ?c5
  (case kA => exact rfl); (case kF => exact rfl); (case kK => assumption); (case k1 => k_asm); (case k2 => k_asm); (case k3 => k_asm); (case k4 => k_asm); (case k5 => k_asm); (case k6 => k_is); (case k7 => k_is); (case k8 => ktr_room); (case k9 => first | exact BindsTo.of_eq rfl | exact binds_K (by k_in) rfl (by k_is) rfl rfl rfl | (refine' kp_binds ?kx ?ke; (case kx => k_in); (case ke => exact fun _ => rfl))); (case c5 => decide); (case kB => exact locs rfl); (case c2 => exact rfl); (case c3 => exact rfl); (case c4 => exact rfl)
  intro g' L' h' FG' F' N' B' X' T'
  k_lift B'
  have F2 : Fr g' L' h' (fun y => List.lookup y [(Str.ofString "show", .bool false), (Str.ofString "more_than", .int 2048 tm), (Str.ofString "base", .int 5 t5), (Str.ofString "w", .int n tn)]) := F'
  clear F'
  k_steps
  repeat (unfold Stop; (first | (k_here; k_dflt (first | (refine' truthy_set ?ho ?hs ?hn ?_; (case ho => exact News.get (by k_asm) (by k_mem)); (case hs => assumption); (case hn => decide)) | (refine' truthy_set ?ho ?hs ?hn ?_; (case ho => exact News.get (by k_asm) (by k_mem)); (case hs => exact setObjOf_fresh _); (case hn => decide)))) | (k_here; k_dflt (refine' set_pop_meth ?N ?m ?s ?n ?_; (case N => k_asm); (case m => k_mem); (case s => assumption); (case n => decide))) | (k_here; k_dflt (refine' set_pop_call ?F ?N ?U ?s ?_; (case F => k_asm); (case N => k_asm); (case U => k_updF); (case s => assumption)); intro h' o' d' t' F' N' s'; (try dsimp only at N'))); k_steps)
  rename News h₀ L _ _ => N9
  exact hret _ [] _ _ _ (by assumption) (fun q hq => N9 q (List.mem_cons_of_mem _ (List.mem_cons_of_mem _ (List.mem_cons_of_mem _ (List.mem_cons_of_mem _ hq))))) (fun _ _ _ h => nomatch h) ⟨⟨_, rfl⟩, rfl⟩
end Mine
end
-- part In1
section
theorem Mine.offIn1 : True := by
  w_top off
  k_with_none
  trivial
open PySem PySem.W PyProof.Rows PySem.Calls
set_option Elab.async false
set_option maxRecDepth 100000
set_option maxHeartbeats 0
set_option linter.unusedVariables false
namespace Mine
theorem in1_spec (w : World) (p : Program) (loose : List Str) (mean : ExcName → Option Value) (mg mb : Str → Option Value) (news : Led) (x : Str) (tx td : Tok) (hx : x.length ≤ 3) (k : Int) (hk1 : PySem.intText? (Txt.slice x (some 0) (some x.length)) = some k) (hk2 : (Txt.slice x (some 0) (some x.length)).length ≤ 640)
    (f c' cD cI cS cW : Addr) (doc pm ctv : Value) (oc oD oI oS oW : Obj) (vs : Array Value) (tq : Tok) (cells : List (Str × Addr)) (hcells : cells = [(Str.ofString "w5pow", cW), (Str.ofString "s", cS), (Str.ofString "inner", cI), (Str.ofString "DIGLIM", cD)])
    (h1 : oc.data = .fields vs) (h2 : vs[1]? = some (.str (Str.ofString "_str_to_int_inner.<locals>.inner") tq)) (h3 : oD.data = .cell (some (.int 2048 td))) (h4 : oS.data = .cell (some (.str x tx))) : 
    ∀ (tL tR : Tok) (dp un : Nat) (gd : Option (List Code)) (cn : Str) (cs : Scope) (ad : Addr) (ccd : Value) (cl : List (Str × Addr)) (outer : List Env) (A₀ : Around) (base h₀ : Heap) (L : Addr) (m : Str → Option Value) (s : Shared) (Q E : Value → Shared → Prop),
    Below A₀ base outer h₀ → Fr h₀ L s.heap m → (myK w.params).In h₀ → CodeHd base 45 41 → News h₀ L s.heap ((f, in1O cells doc pm c' ctv) :: (c', oc) :: (cD, oD) :: (cS, oS) :: news) → Top p loose mean mg mb h₀ → cs.kind = .function →
    dp + 2 < recursionLimit → un + 16 < cLine →
    (∀ (t' : Tok) (h' : Heap) (tk' : Nat), Fr h₀ L h' m → News h₀ L h' ((f, in1O cells doc pm c' ctv) :: (c', oc) :: (cD, oD) :: (cS, oS) :: news) → Q (.int k t') { s with heap := h', toks := tk' }) →
    wpAny (model PySem.Challenge.rw_sn0092_01.row.prog w) (ktrTop dp un gd cn cs L ad ccd cl outer) (call (.ref f) [.int 0 tL, .int x.length tR]) Q E s := by
  have on1 := On.mk "call type:int"
  k_fill
  subst hcells
  intro tL tR dp un gd cn cs ad ccd cl outer A₀ base h₀ L m s Q E B F X C N T hk hdp hu hret
  refine wpAny_call ?_
  refine' code_nest (binds := [(Str.ofString "a", .int 0 tL), (Str.ofString "b", .int x.length tR)]) ?k1 ?k2 ?k3 ?k4 ?k5 ?kA ?kF ?kK ?k6 ?k7 ?k8 ?k9 ?kB ?_ ?c2 ?c3 ?c4 ?c5
  (case kA => exact rfl); (case kF => exact rfl); (case kK => assumption); (case k1 => k_asm); (case k2 => k_asm); (case k3 => k_asm); (case k4 => k_asm); (case k5 => k_asm); (case k6 => k_mem); (case k7 => exact codeRec_news (by k_asm) (by k_mem) (by assumption) (by assumption)); (case k8 => ktr_room); (case k9 => exact BindsTo.of_eq rfl); (case c5 => decide); (case kB => exact locs rfl); (case c2 => exact rfl); (case c3 => exact rfl); (case c4 => exact rfl)
  intro g' L' h' FG' F' N' B' X' T'
  k_lift B'
  dsimp only [List.reverse_cons, List.reverse_nil, List.nil_append, List.length_cons, List.length_nil] at *
  k_steps
  unfold Stop
  (k_here; (refine' KIN.call_text ?a ?b ?_; (case a => with_reducible assumption); (case b => with_reducible assumption)))
  k_steps
  exact hret _ _ _ (by assumption) (by assumption)
end Mine
end
-- part Sti
section
theorem Mine.offSti : True := by
  w_top off
  k_with_none
  trivial
open PySem PySem.W PyProof.Rows PySem.Calls
set_option Elab.async false
set_option maxRecDepth 100000
set_option maxHeartbeats 0
set_option linter.unusedVariables false
namespace Mine
local macro_rules | `(tactic| k_all) => `(tactic| assumption)
noncomputable abbrev q1 : Str := Str.ofString "_str_to_int_inner.<locals>.inner"
noncomputable def FSpecTX (w : World) (p : Program) (loose : List Str) (mean : ExcName → Option Value) (mg mb : Str → Option Value) (c P : Addr) (ln cc : Int) (q : Str) (T : TabS) (f : Addr) (vs : List Value) (news : Led) (dd uu : Nat) (Ret : Value → Led → Prop) : Prop :=
  ∀ (dp un : Nat) (gd : Option (List Code)) (cn : Str) (cs : Scope) (ad : Addr) (ccd : Value) (cl : List (Str × Addr)) (outer : List Env) (A₀ : Around) (base h₀ : Heap) (L : Addr) (m : Str → Option Value) (s : Shared) (Q E : Value → Shared → Prop),
    Below A₀ base outer h₀ → Fr h₀ L s.heap m → (myK w.params).In h₀ → CodeHd base c P → News h₀ L s.heap (tabL P ln cc T ++ news) → tabOk q T → apart P T news → Top p loose mean mg mb h₀ → cs.kind = .function →
    dp + dd < recursionLimit → un + uu < cLine →
    (∀ (r : Value) (tl : Led) (c' : Addr) (oc : Obj) (h' : Heap) (tk' : Nat) d, Fr h₀ L h' m → News h₀ L h' (tabL P ln cc (some (c', oc)) ++ (tl ++ news)) → tabOk q (some (c', oc)) → apart P (some (c', oc)) (tl ++ news) → (T ≠ none → T = some (c', oc)) → (∀ q ∈ news, ∀ p ∈ tl, q.1 < p.1) → Ret r tl → Q r { s with heap := h', toks := tk', drawn := d }) →
    wpAny (model PySem.Challenge.rw_sn0092_01.row.prog w) (ktrTop dp un gd cn cs L ad ccd cl outer) (call (.ref f) vs []) Q E s
theorem sti_spec (w : World) (p : Program) (loose : List Str) (mean : ExcName → Option Value) (mg mb : Str → Option Value) (news : Led) (x : Str) (t1 : Tok) (T : TabS) (hx1 : 1 ≤ x.length) (hx2 : x.length ≤ 3) (k : Int) (hk1 : PySem.intText? (Txt.slice x (some 0) (some x.length)) = some k) (hkl : (Txt.slice x (some 0) (some x.length)).length ≤ 640) :
   FSpecTX w p loose mean mg mb 45 41 47 4 q1 T 46 [.str x t1] news 8 40 (fun r tl => (∃ t, r = .int k t) ∧ tl = []) := by
  have on1 := On.mk "call ref"
  unfold FSpecTX
  k_fill
  intro dp un gd cn cs ad ccd cl outer A₀ base h₀ L m s Q E B F X C N hok hap T0 hk2 hd hu hret
  have hap1 := hap.1
  rcases T with _ | ⟨c0, o0⟩
  · dsimp only [tabL, List.cons_append, List.nil_append] at N
    refine wpAny_call ?_
    refine' code_defC (binds := [(Str.ofString "s", .str x t1)]) ?k1 ?k2 ?k3 ?k4 ?k5 ?kA ?kF ?kK ?k6 ?k7 ?k8 ?k9 ?kB ?kD ?_ ?c2 ?c3 ?c4
    (case kA => exact rfl); (case kF => exact rfl); (case kK => assumption); (case k1 => k_asm); (case k2 => k_asm); (case k3 => k_asm); (case k4 => k_asm); (case k5 => k_asm); (case k6 => k_is); (case k7 => k_is); (case k8 => ktr_room); (case k9 => exact BindsTo.of_eq rfl); (case kB => exact rfl); (case kD => decide +kernel); (case c2 => exact rfl); (case c3 => exact rfl); (case c4 => exact rfl)
    intro g' L' h' tk' cells' FG' F' N' Y' B' X' T' l1; (try k_lt l1); k_cells Y'; (try simp only [List.cons_append, List.nil_append] at N'); (try dsimp only); (try k_lift B'); (try k_fold)
    have q1 : AllLt (L' + 1) news := AllLt.le (Nat.le_succ _) l1.2
    have q2 : AllLt (L' + 1 + 1) news := AllLt.le (Nat.le_succ _) q1
    have q3 : AllLt (L' + 1 + 1 + 1) news := AllLt.le (Nat.le_succ _) q2
    have q4 : AllLt (L' + 1 + 1 + 1 + 1) news := AllLt.le (Nat.le_succ _) q3
    k_steps
    unfold Stop
    rename Fr g' L' _ _ => F2
    rename News g' L' _ _ => N2
    refine cpw_spec w p loose mean mg mb _ _ _ _ _ (by omega) (by omega) _ _ _ _ _ _ _ _ _ _ _ _ _ _ _ _ _ B' F2 X' N2 T' rfl ?dd ?uu ?kk
    (case dd => (dsimp only; omega)); (case uu => (dsimp only; omega))
    case kk =>
      intro r tl h9 tk9 d9 F9 N9 l9 hR
      obtain ⟨⟨dd, rfl⟩, rfl⟩ := hR
      dsimp only [List.nil_append] at N9
      k_steps
      unfold Stop
      rename Fr g' L' _ _ => F3
      rename News g' L' _ _ => N3
      rename _ = some (Value.str _ _) => d2
      rename _ = Data.fields _ => d1
      have N4 : News _ _ _ (_ :: _ :: _ :: _ :: _ :: _ :: (41, _) :: news) := News.pick N3 7 [0, 1, 4, 5, 2, 3, 6]
      have o9 : Obj := { cls := .none, data := .fields #[] }
      refine in1_spec w p loose mean mg mb _ x _ _ hx2 k hk1 hkl _ _ _ _ _ _ _ _ _ _ _ o9 _ o9 _ _ _ rfl d1 d2 (by assumption) (by assumption) _ _ _ _ _ _ _ _ _ _ _ _ _ _ _ _ _ _ _ B' F3 X' C N4 T' rfl ?pd ?pu ?pk
      (case pd => (dsimp only; omega)); (case pu => (dsimp only; omega))
      case pk =>
        intro t9 h1' tk1 F4 N5
        k_steps
        rename News h₀ L _ _ => N9
        refine hret _ [] _ _ _ _ _ (by assumption) (News.pick N9 7 [6, 1]) ⟨_, _, d1, d2⟩ ⟨?a1, ?a2⟩ (fun h => absurd rfl h) ?o ⟨⟨_, rfl⟩, rfl⟩
        case a1 => exact hap1
        case a2 =>
          intro c1 o1 he
          cases he
          refine ⟨by refine neN ?_; omega, ?_⟩
          intro q hq
          exact allLt_ne (by tbn_find) q hq
        case o =>
          intro q hq r hr
          cases hr
  · dsimp only [tabL, List.cons_append, List.nil_append] at N
    obtain ⟨vs0, t0, d1, d2⟩ := hok
    have hc0 := hap.2 c0 o0 rfl
    have hc1 : @Ne Nat c0 41 := hc0.1
    have hc2 := hc0.2
    refine wpAny_call ?_
    refine' code_defC (binds := [(Str.ofString "s", .str x t1)]) ?xk1 ?xk2 ?xk3 ?xk4 ?xk5 ?xkA ?xkF ?xkK ?xk6 ?xk7 ?xk8 ?xk9 ?xkB ?xkD ?_ ?xc2 ?xc3 ?xc4
    (case xkA => exact rfl); (case xkF => exact rfl); (case xkK => assumption); (case xk1 => k_asm); (case xk2 => k_asm); (case xk3 => k_asm); (case xk4 => k_asm); (case xk5 => k_asm); (case xk6 => k_is); (case xk7 => k_is); (case xk8 => ktr_room); (case xk9 => exact BindsTo.of_eq rfl); (case xkB => exact rfl); (case xkD => decide +kernel); (case xc2 => exact rfl); (case xc3 => exact rfl); (case xc4 => exact rfl)
    intro g' L' h' tk' cells' FG' F' N' Y' B' X' T' l1; (try k_lt l1); k_cells Y'; (try simp only [List.cons_append, List.nil_append] at N'); (try dsimp only); (try k_lift B'); (try k_fold)
    have q1 : AllLt (L' + 1) news := AllLt.le (Nat.le_succ _) l1.2.2
    have q2 : AllLt (L' + 1 + 1) news := AllLt.le (Nat.le_succ _) q1
    have q3 : AllLt (L' + 1 + 1 + 1) news := AllLt.le (Nat.le_succ _) q2
    have q4 : AllLt (L' + 1 + 1 + 1 + 1) news := AllLt.le (Nat.le_succ _) q3
    k_steps
    unfold Stop
    rename Fr g' L' _ _ => F2
    rename News g' L' _ _ => N2
    refine cpw_spec w p loose mean mg mb _ _ _ _ _ (by omega) (by omega) _ _ _ _ _ _ _ _ _ _ _ _ _ _ _ _ _ B' F2 X' N2 T' rfl ?xdd ?xuu ?xkk
    (case xdd => (dsimp only; omega)); (case xuu => (dsimp only; omega))
    case xkk =>
      intro r tl h9 tk9 d9 F9 N9 l9 hR
      obtain ⟨⟨dd, rfl⟩, rfl⟩ := hR
      dsimp only [List.nil_append] at N9
      k_steps
      unfold Stop
      rename Fr g' L' _ _ => F3
      rename News g' L' _ _ => N3
      have N4 : News _ _ _ (_ :: (c0, o0) :: _ :: _ :: _ :: _ :: (41, _) :: news) := News.pick N3 7 [0, 6, 3, 4, 1, 2, 5]
      have o9 : Obj := { cls := .none, data := .fields #[] }
      refine in1_spec w p loose mean mg mb _ x _ _ hx2 k hk1 hkl _ _ _ _ _ _ _ _ _ _ _ o9 _ o9 _ _ _ rfl d1 d2 (by assumption) (by assumption) _ _ _ _ _ _ _ _ _ _ _ _ _ _ _ _ _ _ _ B' F3 X' C N4 T' rfl ?xpd ?xpu ?xpk
      (case xpd => (dsimp only; omega)); (case xpu => (dsimp only; omega))
      case xpk =>
        intro t9 h1' tk1 F4 N5
        k_steps
        rename News h₀ L _ _ => N9
        refine hret _ [] c0 _ _ _ _ (by assumption) (News.pick N9 7 [6, 1]) ⟨_, _, d1, d2⟩ ⟨?xa1, ?xa2⟩ (fun _ => rfl) ?xo ⟨⟨_, rfl⟩, rfl⟩
        case xa1 => exact hap1
        case xa2 =>
          intro c1 o1 he
          cases he
          exact ⟨hc1, hc2⟩
        case xo =>
          intro q hq r hr
          cases hr
end Mine
end
-- part Ifs
section
theorem Mine.offIfs : True := by
  w_top off
  k_with_none
  trivial
open PySem PySem.W PyProof.Rows PySem.Calls
set_option Elab.async false
set_option maxRecDepth 100000
set_option maxHeartbeats 0
set_option linter.unusedVariables false
namespace Mine
noncomputable abbrev unsc (z : Str) : Str := Txt.replace z (Str.ofString "_") (Str.ofString "")
theorem rstrip_same {prog : Program} {w : World} {A : Around} {E : Value → Shared → Prop} {s : Shared} {x : Str} {t : Tok} {Q : Value → Shared → Prop} (hs : stripSame Unicode.isSpace false true x = true) (h : Q (.str x t) s) :
    wpAny (model prog w) A (call (.builtin "str.rstrip") [.str x t]) Q E s :=
  call_gives PySem.F.slot_str_rstrip (typeIs_str _ _ _) PySem.F.entry_str_rstrip (PySem.F.args_str_rstrip_1 _) (gives_str_rstrip x t) (by rw [if_pos hs]; exact h)
theorem ifs_spec (w : World) (p : Program) (loose : List Str) (mean : ExcName → Option Value) (mg mb : Str → Option Value) (news : Led) (z : Str) (t1 : Tok) (T : TabS) (hz : z.length ≤ 10) (k : Int) (hsame : stripSame Unicode.isSpace false true z = true) (hx1 : 1 ≤ (unsc z).length) (hx2 : (unsc z).length ≤ 3) (hk1 : PySem.intText? (Txt.slice (unsc z) (some 0) (some (unsc z).length)) = some k) (hkl : (Txt.slice (unsc z) (some 0) (some (unsc z).length)).length ≤ 640) :
   FSpecTX w p loose mean mg mb 45 41 47 4 q1 T 53 [.str z t1] news 12 60 (fun r tl => (∃ t, r = .int k t) ∧ tl = []) := by
  have on1 := On.mk "call ref"
  have on2 := On.mk "call builtin:str.rstrip"
  have on3 := On.mk "call builtin:str.replace"
  unfold FSpecTX
  k_fill
  intro dp un gd cn cs ad ccd cl outer A₀ base h₀ L m s Q E B F X C N hok hap T0 hk2 hd hu hret
  refine wpAny_call ?_
  refine' code_def (binds := [(Str.ofString "s", .str z t1)]) ?k1 ?k2 ?k3 ?k4 ?k5 ?kA ?kF ?kK ?k6 ?k7 ?k8 ?k9 ?kB ?_ ?c2 ?c3 ?c4 ?c5
  (case kA => exact rfl); (case kF => exact rfl); (case kK => assumption); (case k1 => k_asm); (case k2 => k_asm); (case k3 => k_asm); (case k4 => k_asm); (case k5 => k_asm); (case k6 => k_is); (case k7 => k_is); (case k8 => ktr_room); (case k9 => exact BindsTo.of_eq rfl); (case c5 => decide); (case kB => exact locs rfl); (case c2 => exact rfl); (case c3 => exact rfl); (case c4 => exact rfl)
  intro g' L' h' FG' F' N' B' X' T'
  k_lift B'
  dsimp only [List.reverse_cons, List.reverse_nil, List.nil_append, List.length_cons, List.length_nil] at *
  obtain ⟨tk, htk⟩ : ∃ tk, tk = s.toks + (0 + 1) := ⟨_, rfl⟩
  rw [← htk]
  have hpos : tk ≠ 0 := by omega
  clear htk
  k_steps
  unfold Stop
  (k_here; (refine' rstrip_same ?h ?_; (case h => with_reducible assumption)))
  k_steps
  unfold Stop
  (k_here; (refine' SC.replaceW ?un (Nat.succ_ne_zero _) (Nat.ne_of_lt (Nat.lt_succ_self _)) ?yz ?hx ?hz ?_; (case un => assumption); (case yz => decide); (case hx => omega); (case hz => decide)); intro _ _)
  k_steps
  unfold Stop
  rename Fr g' L' _ _ => F2
  rename News g' L' _ _ => N2
  refine sti_spec w p loose mean mg mb news _ _ T hx1 hx2 k hk1 hkl _ _ _ _ _ _ _ _ _ _ _ _ _ _ _ _ _ B' F2 X' C N2 hok hap T' rfl ?dd ?uu ?kk
  (case dd => (dsimp only; omega)); (case uu => (dsimp only; omega))
  case kk =>
    intro r tl c' oc h9 tk9 d9 F9 N9 hok9 hap9 hT9 l9 hR
    k_steps
    exact hret _ _ _ _ _ _ _ (by assumption) (by assumption) hok9 hap9 hT9 l9 hR
end Mine
end
-- part Num9
section
theorem Mine.offNum9 : True := by
  w_top off
  k_with_none
  trivial
open PySem PySem.W PyProof.Rows PySem.Calls
set_option maxRecDepth 100000
namespace Mine
/-- the nine numerals -/
noncomputable def nums : List (Str × Int) := [(Str.ofString "1", 1), (Str.ofString "2", 2), (Str.ofString "3", 3), (Str.ofString "0_1", 1), (Str.ofString "0_2", 2), (Str.ofString "0_3", 3), (Str.ofString "0_0_1", 1), (Str.ofString "0_0_2", 2), (Str.ofString "0_0_3", 3)]
noncomputable def okNum (p : Str × Int) : Bool := decide (p.1.length ≤ 10) && stripSame Unicode.isSpace false true p.1 && decide (1 ≤ (unsc p.1).length) && decide ((unsc p.1).length ≤ 3) && (PySem.intText? (Txt.slice (unsc p.1) (some 0) (some (unsc p.1).length)) == some p.2) && decide ((Txt.slice (unsc p.1) (some 0) (some (unsc p.1).length)).length ≤ 640)
theorem nums_ok : nums.all okNum = true := by decide +kernel
end Mine
end
-- part RowL
section
theorem Mine.offRowL : True := by
  w_top off
  k_with_none
  trivial
open PySem PySem.W PyProof.Rows PySem.Calls
set_option Elab.async false
set_option maxRecDepth 100000
set_option maxHeartbeats 0
set_option linter.unusedVariables false
namespace Mine
noncomputable def marks : List Str := [Str.ofString "\u200e", Str.ofString "\u200f", Str.ofString "\u202a", Str.ofString "\u206f", Str.ofString "\u0341"]
noncomputable def spelled : List Str := [Str.ofString "№", Str.ofString "No", Str.ofString "𝐍O", Str.ofString "n𝐎"]
noncomputable def ends : List Str := [Str.ofString "\n", Str.ofString "\x0d", Str.ofString "\x0d\n"]
noncomputable def dotsS : Nat → Str
  | 0 => Str.ofString ""
  | 1 => Str.ofString "."
  | 2 => Str.ofString ".."
  | _ => Str.ofString "..."
/-- a row of the mail: as written, as sent, as heard, its quotient -/
structure Row where
  line : Str
  loud : Str
  heard : Str
  size : Int
noncomputable def rows0 : List Row := [1, 2].flatMap fun n => marks.map fun m => ⟨dotsS n ++ m, Str.ofString "." ++ (dotsS n ++ m), dotsS (n + 1), (n : Int) + 1⟩
noncomputable def rows1 : List Row := [1, 2, 3].flatMap fun n => marks.map fun m => ⟨m ++ dotsS n, m ++ dotsS n, dotsS n, (n : Int)⟩
noncomputable def rows2 : List Row := spelled.flatMap fun s => marks.flatMap fun m => nums.map fun z => ⟨s ++ m ++ z.1, s ++ m ++ z.1, Str.ofString "no" ++ z.1, z.2⟩
noncomputable def allRows : List Row := rows0 ++ (rows1 ++ rows2)
noncomputable def noEnd (l : List Nat) : Bool := l.all fun c => c != 10 && c != 13
noncomputable def loudOk (r : Row) : Bool := noEnd r.line.cps.toList && noEnd r.loud.cps.toList && !r.line.cps.toList.isEmpty && (r.loud.cps.toList == sub1 true r.line.cps.toList) && decide (r.line.length ≤ 10) && decide (r.loud.length ≤ 10) && decide (r.heard.length ≤ 10) && decide (1 ≤ r.size) && decide (r.size ≤ 3)
theorem loud_all : allRows.all loudOk = true := by decide +kernel
/-- the signs of the rows, and what is heard of each -/
noncomputable def signs : List Nat := [0x2e, 0x200e, 0x200f, 0x202a, 0x206f, 0x341, 0x2116, 0x4e, 0x6f, 0x1d40d, 0x4f, 0x6e, 0x1d40e, 0x30, 0x31, 0x32, 0x33, 0x5f]
noncomputable def quiet (c : Nat) : Bool := [0x200e, 0x200f, 0x202a, 0x206f, 0x341].contains c
noncomputable def heardOf (c : Nat) : List Nat := if c = 0x2116 then [0x6e, 0x6f] else if c = 0x4e ∨ c = 0x1d40d then [0x6e] else if c = 0x4f ∨ c = 0x1d40e then [0x6f] else [c]
theorem signs_c8 : (signs.all fun c => inC8 c == quiet c) = true := by decide +kernel
theorem signs_b3 : (signs.all fun c => quiet c || (mapB3 c).cps.toList == heardOf c) = true := by decide +kernel
noncomputable def hearOk (r : Row) : Bool := (r.loud.cps.toList.all fun c => signs.contains c) && (((r.loud.cps.toList.filter fun c => !quiet c).flatMap heardOf) == r.heard.cps.toList)
theorem hear_all : allRows.all hearOk = true := by decide +kernel
/-- what is read of a row that was heard -/
noncomputable def readOk (r : Row) : Bool := if Txt.slice r.heard none (some 2) = Str.ofString "no" then nums.any (fun z => z.1 == Txt.slice r.heard (some 2) none && z.2 == r.size) else (r.heard.length : Int) == r.size
theorem read_all : allRows.all readOk = true := by decide +kernel
end Mine
end
-- part SplitL
section
theorem Mine.offSplitL : True := by
  w_top off
  k_with_none
  trivial
open PySem PySem.W PyProof.Rows PySem.Calls
open PySem.Builtin PySem.Builtin.Str PySem.StrLaws
set_option Elab.async false
set_option maxRecDepth 100000
set_option linter.unusedVariables false
namespace Mine
noncomputable abbrev crlf : Str := Str.ofString "\x0d\n"
noncomputable def wrS (rows : List (Row × Str)) : Str := rows.foldl (fun a r => a ++ r.1.line ++ r.2) (Str.ofString "")
noncomputable def seS (rows : List (Row × Str)) : Str := rows.foldl (fun a r => a ++ r.1.loud ++ crlf) (Str.ofString "")
noncomputable def RowsOk (rows : List (Row × Str)) : Prop := ∀ r ∈ rows, r.1 ∈ allRows ∧ r.2 ∈ ends
theorem wr_to : ∀ (rows : List (Row × Str)) (a : Str), (rows.foldl (fun a r => a ++ r.1.line ++ r.2) a).cps.toList = a.cps.toList ++ rows.flatMap fun r => r.1.line.cps.toList ++ r.2.cps.toList
  | [], a => by simp
  | r :: t, a => by
    rw [List.foldl_cons, wr_to t]
    simp only [Str.cps_append, Array.toList_append, List.flatMap_cons, List.append_assoc]
theorem se_to : ∀ (rows : List (Row × Str)) (a : Str), (rows.foldl (fun a r => a ++ r.1.loud ++ crlf) a).cps.toList = a.cps.toList ++ rows.flatMap fun r => r.1.loud.cps.toList ++ [13, 10]
  | [], a => by simp
  | r :: t, a => by
    rw [List.foldl_cons, se_to t]
    have e : crlf.cps.toList = [13, 10] := by decide +kernel
    simp only [Str.cps_append, Array.toList_append, List.flatMap_cons, List.append_assoc, e]
theorem ne_of {l : List Nat} (h : noEnd l = true) : ∀ c ∈ l, c ≠ 10 ∧ c ≠ 13 := by
  intro c hc
  have := List.all_eq_true.mp h c hc
  simpa using this
theorem sub2_free : ∀ (l R : List Nat), noEnd l = true → sub2 (l ++ R) = l ++ sub2 R
  | [], R, _ => rfl
  | c :: l, R, h => by
    have hc := ne_of h c (List.mem_cons_self ..)
    have ih := sub2_free l R (by simp only [noEnd, List.all_cons, Bool.and_eq_true] at h; exact h.2)
    show sub2 (c :: (l ++ R)) = c :: (l ++ sub2 R)
    rw [sub2, if_neg (by omega), ih]
    intro r e
    exact absurd e hc.2
theorem sub2_end {e : Str} (he : e ∈ ends) (R : List Nat) (hR : R.head? ≠ some 10) : sub2 (e.cps.toList ++ R) = 13 :: 10 :: sub2 R := by
  have h : e.cps.toList = [10] ∨ e.cps.toList = [13] ∨ e.cps.toList = [13, 10] := by
    have h2 : (ends.all fun e => e.cps.toList == [10] || e.cps.toList == [13] || e.cps.toList == [13, 10]) = true := by decide +kernel
    have := List.all_eq_true.mp h2 e he
    simpa [or_assoc] using this
  rcases h with h | h | h <;> rw [h]
  · show sub2 (10 :: R) = _
    cases R with
    | nil => rfl
    | cons a R => simp [sub2]
  · show sub2 (13 :: R) = _
    cases R with
    | nil => rfl
    | cons a R =>
      have : a ≠ 10 := fun e => hR (by rw [e]; rfl)
      rw [sub2]
      · rw [if_pos (Or.inl rfl)]
      · intro r _ e; injection e with e1 e2; exact absurd e1 this
  · show sub2 (13 :: 10 :: R) = _
    simp [sub2]
theorem sub1_cut (R : List Nat) : ∀ (l : List Nat) (b : Bool), sub1 b (l ++ 13 :: 10 :: R) = sub1 b l ++ 13 :: 10 :: sub1 true R
  | [], b => by simp [sub1]
  | c :: l, b => by
    have e : ∀ r, sub1 b (c :: r) = if (b && c == 46) = true then 46 :: 46 :: sub1 (c == 10) r else c :: sub1 (c == 10) r := fun r => rfl
    show sub1 b (c :: (l ++ 13 :: 10 :: R)) = _
    rw [e, e, sub1_cut R l]
    split <;> rfl
theorem loud_of {r : Row} (h : r ∈ allRows) : noEnd r.line.cps.toList = true ∧ noEnd r.loud.cps.toList = true ∧ r.line.cps.toList ≠ [] ∧ r.loud.cps.toList = sub1 true r.line.cps.toList ∧ r.line.length ≤ 10 ∧ r.loud.length ≤ 10 ∧ r.heard.length ≤ 10 ∧ 1 ≤ r.size ∧ r.size ≤ 3 := by
  have := List.all_eq_true.mp loud_all r h
  simp only [loudOk, Bool.and_eq_true, decide_eq_true_eq, beq_iff_eq, Bool.not_eq_true', List.isEmpty_eq_false_iff] at this
  obtain ⟨⟨⟨⟨⟨⟨⟨⟨a, b⟩, c⟩, d⟩, e⟩, f⟩, g⟩, i⟩, j⟩ := this
  exact ⟨a, b, c, d, e, f, g, i, j⟩
theorem quote_rows : ∀ (rows : List (Row × Str)), RowsOk rows → (rows.flatMap fun r => r.1.line.cps.toList ++ r.2.cps.toList).head? ≠ some 10 ∧ sub1 true (sub2 (rows.flatMap fun r => r.1.line.cps.toList ++ r.2.cps.toList)) = rows.flatMap fun r => r.1.loud.cps.toList ++ [13, 10]
  | [], _ => ⟨by simp, rfl⟩
  | r :: t, h => by
    obtain ⟨ih1, ih2⟩ := quote_rows t fun x hx => h x (List.mem_cons_of_mem _ hx)
    obtain ⟨h1, h2⟩ := h r (List.mem_cons_self ..)
    obtain ⟨a, b, c, d, _⟩ := loud_of h1
    simp only [List.flatMap_cons, List.append_assoc]
    constructor
    · cases hl : r.1.line.cps.toList with
      | nil => exact absurd hl c
      | cons x l =>
        have := (ne_of a x (by rw [hl]; exact List.mem_cons_self ..)).1
        simpa using this
    · rw [sub2_free _ _ a, sub2_end h2 _ ih1, sub1_cut, ih2, ← d]
      rfl
theorem quoted {rows : List (Row × Str)} (h : RowsOk rows) {y : Str} (e : y.cps.toList = sub1 true (sub2 (wrS rows).cps.toList)) : y = seS rows := by
  apply Str.ext'
  apply Array.toList_inj.mp
  rw [e, wrS, seS, wr_to, se_to]
  exact (quote_rows rows h).2
/-- the places of CR LF -/
noncomputable def cutsF : Nat → List Nat → List Nat
  | _, [] => []
  | i, 13 :: 10 :: r => i :: cutsF (i + 2) r
  | i, c :: r => cutsF (i + 1) r
theorem occ_to (x : Str) : ∀ (i : Nat) (r pre : List Nat) (st : Array Nat × Nat), pre.length = i → x.cps.toList = pre ++ r → st.1.size ≤ pre.length → st.2 ≤ pre.length →
    (forIn (List.range' i (r.length + 1)) st (occBody x crlf x.length (x.length + 1))).run.fst.toList = st.1.toList ++ cutsF i r := by
  have hc : crlf.length = 2 := by decide +kernel
  have ht : crlf.cps.toList = [13, 10] := by decide +kernel
  intro i r
  fun_induction cutsF i r with
  | case1 i =>
    intro pre st hi he hs hf
    have hx : x.length = pre.length := by rw [Str.length, ← Array.length_toList, he]; simp
    rw [show ([] : List Nat).length + 1 = 0 + 1 from rfl, List.range'_succ, List.forIn_cons]
    unfold occBody
    rw [if_neg (by rw [hc]; omega)]
    simp
  | case2 i r ih =>
    intro pre st hi he hs hf
    have hx : x.length = pre.length + (r.length + 2) := by rw [Str.length, ← Array.length_toList, he]; simp
    have hat : subAt x crlf i = true := by
      rw [subAt_eq, he, ← hi, hc, ht]
      simp
    rw [show (13 :: 10 :: r).length + 1 = (r.length + 1) + 1 + 1 from rfl, List.range'_succ, List.range'_succ, List.forIn_cons]
    have e1 : occBody x crlf x.length (x.length + 1) i st = pure (ForInStep.yield (st.1.push i, i + 2)) := by
      unfold occBody
      rw [if_pos ⟨⟨⟨by omega, by omega⟩, by rw [hc]; omega⟩, hat⟩, hc]
    rw [e1]
    simp only [pure_bind, List.forIn_cons]
    have e2 : occBody x crlf x.length (x.length + 1) (i + 1) (st.1.push i, i + 2) = pure (ForInStep.yield (st.1.push i, i + 2)) := by
      unfold occBody
      rw [if_neg (by intro h; have := h.1.1.2; simp only at this; omega)]
    rw [e2]
    simp only [pure_bind]
    rw [show i + 1 + 1 = i + 2 from rfl, ih (pre ++ [13, 10]) (st.1.push i, i + 2) (by simp; omega) (by rw [he]; simp) (by simp; omega) (by simp; omega)]
    simp
  | case3 i c r hn ih =>
    intro pre st hi he hs hf
    have hx : x.length = pre.length + (r.length + 1) := by rw [Str.length, ← Array.length_toList, he]; simp
    rw [show (c :: r).length + 1 = (r.length + 1) + 1 from rfl, List.range'_succ, List.forIn_cons]
    have hat : ¬ (subAt x crlf i = true) := by
      rw [subAt_eq, he, ← hi, hc, ht]
      simp only [List.drop_left, beq_iff_eq]
      intro h
      cases r with
      | nil => simp at h
      | cons b r =>
        simp only [List.take_succ_cons, List.take_zero, List.cons.injEq, and_true] at h
        exact hn r (by rw [h.1]) (by rw [h.2])
    have e1 : occBody x crlf x.length (x.length + 1) i st = pure (ForInStep.yield (st.1, st.2)) := by
      unfold occBody
      rw [if_neg (fun h => hat h.2)]
    rw [e1]
    simp only [pure_bind]
    exact ih (pre ++ [c]) st (by simp; omega) (by rw [he]; simp) (by simp; omega) (by simp; omega)
theorem cuts_free : ∀ (l R : List Nat) (i : Nat), noEnd l = true → cutsF i (l ++ 13 :: 10 :: R) = (i + l.length) :: cutsF (i + l.length + 2) R
  | [], R, i, _ => by simp [cutsF]
  | c :: l, R, i, h => by
    have hc := ne_of h c (List.mem_cons_self ..)
    have ih := cuts_free l R (i + 1) (by simp only [noEnd, List.all_cons, Bool.and_eq_true] at h; exact h.2)
    show cutsF i (c :: (l ++ 13 :: 10 :: R)) = _
    rw [cutsF, ih, List.length_cons, show i + 1 + l.length = i + (l.length + 1) by omega]
    intro r e
    exact absurd e hc.2
theorem parts_rows (x : Str) : ∀ (rows : List (Row × Str)) (pre : List Nat) (a : Nat), RowsOk rows → pre.length = a → x.cps.toList = pre ++ (rows.flatMap fun r => r.1.loud.cps.toList ++ [13, 10]) →
    partsFrom x 2 a (cutsF a (rows.flatMap fun r => r.1.loud.cps.toList ++ [13, 10])) = rows.map (fun r => r.1.loud) ++ [⟨#[]⟩]
  | [], pre, a, h, ha, he => by
    have hx : x.length = pre.length := by rw [Str.length, ← Array.length_toList, he]; simp
    show [strSub x a x.length] = [⟨#[]⟩]
    congr 1
    apply Str.ext'
    apply Array.toList_inj.mp
    rw [strSub_toList, hx, ha]
    simp
  | r :: t, pre, a, h, ha, he => by
    obtain ⟨h1, h2⟩ := h r (List.mem_cons_self ..)
    obtain ⟨_, b, _⟩ := loud_of h1
    have hfl : ((r :: t).flatMap fun r => r.1.loud.cps.toList ++ [13, 10]) = r.1.loud.cps.toList ++ 13 :: 10 :: (t.flatMap fun r => r.1.loud.cps.toList ++ [13, 10]) := by simp
    rw [hfl] at he ⊢
    rw [cuts_free _ _ _ b]
    show strSub x a (a + r.1.loud.cps.toList.length) :: partsFrom x 2 (a + r.1.loud.cps.toList.length + 2) _ = _
    rw [parts_rows x t (pre ++ r.1.loud.cps.toList ++ [13, 10]) _ (fun x hx => h x (List.mem_cons_of_mem _ hx)) (by simp; omega) (by rw [he]; simp)]
    show _ = r.1.loud :: _
    congr 1
    apply Str.ext'
    apply Array.toList_inj.mp
    rw [strSub_toList, he, ← ha]
    simp
theorem split_rows {rows : List (Row × Str)} (h : RowsOk rows) (hne : rows ≠ []) : Txt.split (seS rows) crlf = rows.map (fun r => r.1.loud) ++ [⟨#[]⟩] := by
  have hc : crlf.length = 2 := by decide +kernel
  have he : (seS rows).cps.toList = rows.flatMap fun r => r.1.loud.cps.toList ++ [13, 10] := by rw [seS, se_to]; rfl
  have hlen : 2 ≤ (seS rows).length := by
    rw [Str.length, ← Array.length_toList, he]
    cases rows with
    | nil => exact absurd rfl hne
    | cons r t => simp; omega
  have hocc : occurrences (seS rows) crlf 0 (seS rows).length ((seS rows).length + 1) = cutsF 0 (rows.flatMap fun r => r.1.loud.cps.toList ++ [13, 10]) := by
    rw [occ_eq]
    have hl : (seS rows).length + 1 - 0 = (rows.flatMap fun r => r.1.loud.cps.toList ++ [13, 10]).length + 1 := by
      rw [← he]; simp [Str.length]
    rw [hl, occ_to (seS rows) 0 _ [] (#[], 0) rfl (by rw [he]; rfl) (Nat.le_refl _) (Nat.le_refl _)]
    rfl
  have hpos : (cutsF 0 (rows.flatMap fun r => r.1.loud.cps.toList ++ [13, 10])).isEmpty = false := by
    cases rows with
    | nil => exact absurd rfl hne
    | cons r t =>
      obtain ⟨_, b, _⟩ := loud_of (h r (List.mem_cons_self ..)).1
      rw [show ((r :: t).flatMap fun r => r.1.loud.cps.toList ++ [13, 10]) = r.1.loud.cps.toList ++ 13 :: 10 :: (t.flatMap fun r => r.1.loud.cps.toList ++ [13, 10]) by simp, cuts_free _ _ _ b]
      rfl
  unfold Txt.split
  rw [if_neg, hocc, if_neg (by rw [hpos]; decide), partsBetween_eq, hc]
  · exact parts_rows _ rows [] 0 h rfl (by rw [he]; rfl)
  · rw [Bool.or_eq_true, not_or]
    refine ⟨by simp only [decide_eq_true_eq]; omega, ?_⟩
    have hk : PySem.Builtin.Str.strKind crlf = 1 := by decide +kernel
    rw [hk]
    simp only [decide_eq_true_eq]
    unfold PySem.Builtin.Str.strKind
    split <;> (try split) <;> omega
end Mine
end
-- part MailQ
section
theorem Mine.offMailQ : True := by
  w_top off
  k_with_none
  trivial
open PySem PySem.W PyProof.Rows PySem.Calls
set_option Elab.async false
set_option maxRecDepth 100000
set_option maxHeartbeats 0
set_option linter.unusedVariables false
namespace Mine
noncomputable def forB : Stmt → List Stmt
  | .For _ _ b _ _ => b
  | _ => []
noncomputable abbrev mailSc : Scope := by
  refine (?f : (d : Scope) → Same d (fScope (stm 26)) → Scope) _ (by
  conv in (occs := *) fScope _ => all_goals whnf
  exact same _)
  exact fun d _ => d
noncomputable abbrev mailT : List Stmt := by
  refine (?f : (d : List Stmt) → Same d (forB ((fBody (stm 26)).getD 7 default)) → List Stmt) _ (by
  conv in (occs := *) forB _ => all_goals whnf
  exact same _)
  exact fun d _ => d
noncomputable abbrev mailEnv (L : Addr) : Env := envOf (Str.ofString "_law_mail") mailSc L 207 (Value.ref 206)
theorem addS {prog : Program} {w : World} {A : Around} {E : Value → Shared → Prop} {Q : Value → Shared → Prop} {x y : Str} {t u : Tok} {hp : Heap} {gs dr tk os} (hs : x.length + y.length ≤ 16777216) (h : ∀ t' k, Q (.str (x ++ y) t') { heap := hp, gens := gs, drawn := dr, toks := k, os := os }) : wpAny (model prog w) A (binaryOp .Add (.str x t) (.str y u)) Q E { heap := hp, gens := gs, drawn := dr, toks := tk, os := os } :=
  KOpn.add hs (fun t' k _ => h t' k)
theorem mulS {prog : Program} {w : World} {A : Around} {E : Value → Shared → Prop} {Q : Value → Shared → Prop} {x : Str} {n : Int} {t u : Tok} {hp : Heap} {gs dr tk os} (hx : x.length ≤ 16) (hn0 : 0 ≤ n) (hn : n ≤ 10) (h : ∀ t' k, Q (.str (Txt.mul x n) t') { heap := hp, gens := gs, drawn := dr, toks := k, os := os }) : wpAny (model prog w) A (binaryOp .Mult (.str x t) (.int n u)) Q E { heap := hp, gens := gs, drawn := dr, toks := tk, os := os } :=
  KXi.mul rfl hx (by omega) (by omega) (fun t' k _ _ => h t' k)
theorem eqIs {prog : Program} {w : World} {A : Around} {E : Value → Shared → Prop} {Q : Value → Shared → Prop} {a b : Int} {t u : Tok} {s : Shared} {r : Bool} (e : (a == b) = r) (h : Q (.bool r) s) : wpAny (model prog w) A (compareOp .Eq (.int a t) (.int b u)) Q E s :=
  IsLeap.wpAny_eq_int' (by rw [e]; exact h)
theorem neIs {prog : Program} {w : World} {A : Around} {E : Value → Shared → Prop} {Q : Value → Shared → Prop} {a b : Int} {t u : Tok} {s : Shared} {r : Bool} (e : (a != b) = r) (h : Q (.bool r) s) : wpAny (model prog w) A (compareOp .NotEq (.int a t) (.int b u)) Q E s :=
  IsLeap.wpAny_ne_int (by rw [e]; exact h)
theorem strS {prog : Program} {w : World} {A : Around} {E : Value → Shared → Prop} {Q : Value → Shared → Prop} {n : Int} {u : Tok} {hp : Heap} {gs dr tk os} (hn0 : -10 < n) (hn : n < 10) (h : ∀ t' k, Q (.str (toString n) t') { heap := hp, gens := gs, drawn := dr, toks := k, os := os }) : wpAny (model prog w) A (call (.type "str") [.int n u]) Q E { heap := hp, gens := gs, drawn := dr, toks := tk, os := os } :=
  P.str_of_int (shown (N := 10) hn0 hn (by decide +kernel)) (h _ _)
theorem getD_le {l : List Str} {n : Nat} {k : Nat} (h : ∀ x ∈ l, x.length ≤ k) : (l.getD n Str.empty).length ≤ k := by
  by_cases hn : n < l.length
  · have e : l.getD n Str.empty = l[n] := by simp [hn]
    rw [e]
    exact h _ (List.getElem_mem hn)
  · have e : l.getD n Str.empty = Str.empty := by simp [Nat.le_of_not_lt hn]
    rw [e]
    exact Nat.zero_le _
theorem getD_in {l : List Str} {n : Nat} (h : n < l.length) : l.getD n Str.empty ∈ l := by
  have e : l.getD n Str.empty = l[n] := by simp [h]
  rw [e]
  exact List.getElem_mem h
theorem fmodN (x : Int) {k : Int} (hk : 0 < k) : (x.fmod k).toNat < k.toNat := by
  have h := Int.fmod_nonneg_of_pos x hk
  have h2 := Int.fmod_lt_of_pos x hk
  omega
/-- a frame's map after some stores -/
noncomputable def updL : List (Str × Value) → (Str → Option Value) → Str → Option Value
  | [], m, y => m y
  | p :: l, m, y => if y = p.1 then some p.2 else updL l m y
theorem updL_off {names : List Str} {m' m : Str → Option Value} (hE : m' = m) (z : Str) (hz : names.contains z = false) : ∀ {l : List (Str × Value)}, (l.map (·.1)).all (fun k => names.contains k) = true → updL l m' z = m z
  | [], _ => congrFun hE z
  | p :: l, h => by
    have h1 : names.contains p.1 = true ∧ (l.map (·.1)).all (fun k => names.contains k) = true := by
      simpa only [List.map_cons, List.all_cons, Bool.and_eq_true] using h
    have hne : ¬ z = p.1 := fun e => by rw [e, h1.1] at hz; cases hz
    show (if z = p.1 then some p.2 else updL l m' z) = m z
    rw [if_neg hne]
    exact updL_off hE z hz h1.2
/-- the end of a turn of the mail's loop -/
theorem mailB (w : World) (p : Program) (loose : List Str) (mean : ExcName → Option Value) (mg mb : Str → Option Value) (dp un : Nat) (gd : Option (List Code)) (cn : Str) (cs : Scope) (ad : Addr) (ccd : Value) (cl : List (Str × Addr)) (outer : List Env) (g' : Heap) (L L' : Addr) (X : (myK w.params).In g') (T : Top p loose mean mg mb g')
   (I D3 D4 De : Addr) (o1 o2 oh : Obj) (vl : List Value) (e4 : Nat) (nw : Led) (hI : @LT.lt Nat _ D4 I ∧ @LT.lt Nat _ D3 I ∧ @LT.lt Nat _ De I ∧ AllLt I nw) (h4 : @LT.lt Nat _ D3 D4 ∧ @LT.lt Nat _ De D4 ∧ AllLt D4 nw)
   (d sz : Int) (td tz tw ts tl tu q0 q1 q2 : Tok) (wr se line loud : Str) (hw : wr.length ≤ 80) (hs : se.length ≤ 80) (hl : line.length ≤ 10) (hu : loud.length ≤ 10) (hvl : vl.length ≤ 3) (m₁ : Str → Option Value) (s : Shared) (P : Flow → Shared → Prop) (E : Value → Shared → Prop)
   (hm : ∀ p ∈ [(Str.ofString "size", Value.int sz tz), (Str.ofString "line", .str line tl), (Str.ofString "loud", .str loud tu), (Str.ofString "v", .int d td), (Str.ofString "written", .str wr tw), (Str.ofString "sent", .str se ts), (Str.ofString "values", .ref D4), (Str.ofString "ends", .ref De)], m₁ p.1 = some p.2)
   (F₁ : Fr g' L' s.heap m₁)
   (N : News g' L' s.heap ((I + 1, o1) :: (I, o2) :: (D4, W.listOf (List.toArray vl) e4) :: (D3, oh) :: (De, W.listOf #[.str (Str.ofString "\n") q0, .str (Str.ofString "\x0d") q1, .str (Str.ofString "\x0d\n") q2] 0) :: nw))
   (fin : ∀ h' tk t1 t2 e5 m'', Fr g' L' h' m'' → (∀ p ∈ [(Str.ofString "written", Value.str (wr ++ line ++ [Str.ofString "\n", Str.ofString "\x0d", Str.ofString "\x0d\n"].getD ((d.fdiv 6).fmod 3).toNat Str.empty) t1), (Str.ofString "sent", Value.str (se ++ loud ++ Str.ofString "\x0d\n") t2)], m'' p.1 = some p.2) → (∀ z, [Str.ofString "written", Str.ofString "sent"].contains z = false → m'' z = m₁ z) →
     News g' L' h' ((I + 1, o1) :: (I, o2) :: (D4, W.listOf (List.toArray (vl ++ [.int sz tz])) e5) :: (D3, oh) :: (De, W.listOf #[.str (Str.ofString "\n") q0, .str (Str.ofString "\x0d") q1, .str (Str.ofString "\x0d\n") q2] 0) :: nw) → P .next { s with heap := h', toks := tk }) :
   wpAny (model PySem.Challenge.rw_sn0092_01.row.prog w) ((ktrTop dp un gd cn cs L ad ccd cl outer).deeper (mailEnv L')) (execs (List.drop 4 mailT) (mailEnv L')) P E s := by
  have on1 := On.mk "subscriptTail"
  have on2 := On.mk "binaryOp Add str str"
  revert X
  k_fill
  intro X
  have F := ksw_fr (stored := []) (m₀ := m₁) hm (fun _ _ _ => rfl) F₁
  have hE := funext (fun z => kstB_eq (m₁ := m₁) (rest := m₁) (z := z) hm (fun _ => rfl))
  simp only [List.contains_nil, Bool.false_eq_true, if_false] at F
  dsimp only [kstB] at F hE
  clear F₁
  have n2 : (Str.ofString "\x0d\n").length = 2 := by decide +kernel
  have l8 : ([Str.ofString "\n", Str.ofString "\x0d", Str.ofString "\x0d\n"].getD ((d.fdiv 6).fmod 3).toNat Str.empty).length ≤ 2 := getD_le (by decide +kernel)
  (k_with "table" => skip)
  k_steps
  repeat (unfold Stop; (with_reducible (first | (k_here; (show wpAny _ _ (subscriptTail _ _ (Value.ref _) (Value.int (Int.fmod _ _) _)) _ _ _); k_dflt (refine' KTb.item_list ?ktbl ?ktbw ?ktb0 ?ktb1 ?ktbf ?_; (case ktbl => ktb_isList); (case ktbw => repeat constructor); (case ktb0 => exact Int.fmod_nonneg_of_pos _ (by decide)); (case ktb1 => ((simp only [List.length_cons, List.length_nil]); exact Int.lt_of_lt_of_le (Int.fmod_lt_of_pos _ (by decide)) (by decide))); (case ktbf => exact Int.lt_of_lt_of_le (Int.fmod_lt_of_pos _ (by decide)) (by decide))); intro _ ktbLt; clear ktbLt) | (refine' addS ?hadd ?_; (case hadd => ((try simp only [Str.length_append]); omega)); intro _ _))); k_steps)
  rename Fr g' L' _ _ => F9
  rename News g' L' _ _ => N9
  rw [List.push_toArray] at N9
  refine fin _ _ _ _ _ _ F9 (by kst_all) ?_ N9
  intro z hz
  refine updL_off (names := [Str.ofString "written", Str.ofString "sent"]) hE z hz (l := [(_, _), (_, _)]) ?_
  kernel_rfl
theorem mul_dots {n : Int} (h1 : 1 ≤ n) (h3 : n ≤ 3) : Txt.mul (Str.ofString ".") n = dotsS n.toNat ∧ ((n.toNat : Nat) : Int) = n ∧ n.toNat ∈ [1, 2, 3] := by
  have h : n = 1 ∨ n = 2 ∨ n = 3 := by omega
  rcases h with rfl | rfl | rfl <;> exact ⟨by decide +kernel, rfl, by decide⟩
theorem row0 {n : Int} {m : Str} (h1 : 1 ≤ n) (h2 : n ≤ 2) (hm : m ∈ marks) : (⟨Txt.mul (Str.ofString ".") n ++ m, Str.ofString "." ++ (Txt.mul (Str.ofString ".") n ++ m), Txt.mul (Str.ofString ".") (n + 1), n + 1⟩ : Row) ∈ allRows := by
  have h : n = 1 ∨ n = 2 := by omega
  refine List.mem_append_left _ (List.mem_flatMap.mpr ⟨n.toNat, ?_, List.mem_map.mpr ⟨m, hm, ?_⟩⟩)
  · rcases h with rfl | rfl <;> decide
  · have e1 := (mul_dots h1 (by omega)).1
    have e2 := (mul_dots (n := n + 1) (by omega) (by omega)).1
    rw [e1, e2, show (n + 1).toNat = n.toNat + 1 by omega, show ((n.toNat : Nat) : Int) = n by omega]
theorem row1 {n : Int} {m : Str} (h1 : 1 ≤ n) (h2 : n ≤ 3) (hm : m ∈ marks) : (⟨m ++ Txt.mul (Str.ofString ".") n, m ++ Txt.mul (Str.ofString ".") n, Txt.mul (Str.ofString ".") n, n⟩ : Row) ∈ allRows := by
  obtain ⟨e1, e2, e3⟩ := mul_dots h1 h2
  refine List.mem_append_right _ (List.mem_append_left _ (List.mem_flatMap.mpr ⟨n.toNat, e3, List.mem_map.mpr ⟨m, hm, ?_⟩⟩))
  rw [e1, e2]
theorem row2 {n z : Int} {sp m : Str} (h1 : 1 ≤ n) (h2 : n ≤ 3) (z0 : 0 ≤ z) (z2 : z ≤ 2) (hs : sp ∈ spelled) (hm : m ∈ marks) : (⟨sp ++ m ++ (Txt.mul (Str.ofString "0_") z ++ Str.ofString (toString n)), sp ++ m ++ (Txt.mul (Str.ofString "0_") z ++ Str.ofString (toString n)), Str.ofString "no" ++ (Txt.mul (Str.ofString "0_") z ++ Str.ofString (toString n)), n⟩ : Row) ∈ allRows := by
  have e : ∃ q ∈ nums, q.1 = Txt.mul (Str.ofString "0_") z ++ Str.ofString (toString n) ∧ q.2 = n := by
    have h : n = 1 ∨ n = 2 ∨ n = 3 := by omega
    have hz : z = 0 ∨ z = 1 ∨ z = 2 := by omega
    rcases h with rfl | rfl | rfl <;> rcases hz with rfl | rfl | rfl <;> decide +kernel
  obtain ⟨q, hq, e1, e2⟩ := e
  refine List.mem_append_right _ (List.mem_append_right _ (List.mem_flatMap.mpr ⟨sp, hs, List.mem_flatMap.mpr ⟨m, hm, List.mem_map.mpr ⟨q, hq, ?_⟩⟩⟩))
  rw [e1, e2]
end Mine
end
-- part MailR
section
theorem Mine.offMailR : True := by
  w_top off
  k_with_none
  trivial
open PySem PySem.W PyProof.Rows PySem.Calls
set_option Elab.async false
set_option maxRecDepth 100000
set_option maxHeartbeats 0
set_option linter.unusedVariables false
namespace Mine
theorem dots_len {n : Int} (h1 : 1 ≤ n) (h3 : n ≤ 3) : (Txt.mul (Str.ofString ".") n).length ≤ 3 := by
  have h : n = 1 ∨ n = 2 ∨ n = 3 := by omega
  rcases h with rfl | rfl | rfl <;> decide +kernel
theorem num_len {n : Int} (h1 : 1 ≤ n) (h3 : n ≤ 3) : (Str.ofString (toString n)).length ≤ 1 := by
  have h : n = 1 ∨ n = 2 ∨ n = 3 := by omega
  rcases h with rfl | rfl | rfl <;> decide +kernel
theorem nought_len {n : Int} (h1 : 0 ≤ n) (h3 : n ≤ 2) : (Txt.mul (Str.ofString "0_") n).length ≤ 4 := by
  have h : n = 0 ∨ n = 1 ∨ n = 2 := by omega
  rcases h with rfl | rfl | rfl <;> decide +kernel
/-- a turn of the mail's loop from its kind on -/
theorem mailA (w : World) (p : Program) (loose : List Str) (mean : ExcName → Option Value) (mg mb : Str → Option Value) (dp un : Nat) (gd : Option (List Code)) (cn : Str) (cs : Scope) (ad : Addr) (ccd : Value) (cl : List (Str × Addr)) (outer : List Env) (g' : Heap) (L L' : Addr) (X : (myK w.params).In g') (T : Top p loose mean mg mb g')
   (I D3 D4 De Ds : Addr) (o1 o2 : Obj) (hs vl : List Value) (e3 e4 : Nat) (nw : Led) (hI : @LT.lt Nat _ D4 I ∧ @LT.lt Nat _ D3 I ∧ @LT.lt Nat _ De I ∧ @LT.lt Nat _ Ds I ∧ AllLt I nw) (h4 : @LT.lt Nat _ D3 D4 ∧ @LT.lt Nat _ De D4 ∧ @LT.lt Nat _ Ds D4 ∧ AllLt D4 nw) (h3 : @LT.lt Nat _ De D3 ∧ @LT.lt Nat _ Ds D3 ∧ AllLt D3 nw)
   (d sz : Int) (td tz tw ts tm q0 q1 q2 r0 r1 r2 r3 : Tok) (wr se mk : Str) (hw : wr.length ≤ 80) (hse : se.length ≤ 80) (hmk : mk ∈ marks) (hvl : vl.length ≤ 3) (hhs : hs.length ≤ 3) (hz1 : 1 ≤ sz) (hz3 : sz ≤ 3) (hz0 : d.fmod 3 = 0 → sz ≤ 2) (m₁ : Str → Option Value) (s : Shared) (P : Flow → Shared → Prop) (E : Value → Shared → Prop)
   (hm : ∀ p ∈ [(Str.ofString "size", Value.int sz tz), (Str.ofString "mark", .str mk tm), (Str.ofString "v", .int d td), (Str.ofString "written", .str wr tw), (Str.ofString "sent", .str se ts), (Str.ofString "values", .ref D4), (Str.ofString "heard", .ref D3), (Str.ofString "ends", .ref De), (Str.ofString "spelled", .ref Ds)], m₁ p.1 = some p.2)
   (F₁ : Fr g' L' s.heap m₁)
   (N : News g' L' s.heap ((I + 1, o1) :: (I, o2) :: (D4, W.listOf (List.toArray vl) e4) :: (D3, W.listOf (List.toArray hs) e3) :: (De, W.listOf #[.str (Str.ofString "\n") q0, .str (Str.ofString "\x0d") q1, .str (Str.ofString "\x0d\n") q2] 0) :: (Ds, W.listOf #[.str (Str.ofString "№") r0, .str (Str.ofString "No") r1, .str (Str.ofString "𝐍O") r2, .str (Str.ofString "n𝐎") r3] 0) :: nw))
   (fin : ∀ (r : Row) h' tk t1 t2 t3 t4 e5 e6 m'', r ∈ allRows → (sz ≤ r.size ∧ (d.fmod 3 = 0 → sz + 1 ≤ r.size)) → Fr g' L' h' m'' → (∀ p ∈ [(Str.ofString "written", Value.str (wr ++ r.line ++ [Str.ofString "\n", Str.ofString "\x0d", Str.ofString "\x0d\n"].getD ((d.fdiv 6).fmod 3).toNat Str.empty) t1), (Str.ofString "sent", Value.str (se ++ r.loud ++ Str.ofString "\x0d\n") t2)], m'' p.1 = some p.2) → (∀ z, [Str.ofString "written", Str.ofString "sent", Str.ofString "size", Str.ofString "line", Str.ofString "loud", Str.ofString "numeral"].contains z = false → m'' z = m₁ z) →
     News g' L' h' ((I + 1, o1) :: (I, o2) :: (D4, W.listOf (List.toArray (vl ++ [.int r.size t3])) e5) :: (D3, W.listOf (List.toArray (hs ++ [.str r.heard t4])) e6) :: (De, W.listOf #[.str (Str.ofString "\n") q0, .str (Str.ofString "\x0d") q1, .str (Str.ofString "\x0d\n") q2] 0) :: (Ds, W.listOf #[.str (Str.ofString "№") r0, .str (Str.ofString "No") r1, .str (Str.ofString "𝐍O") r2, .str (Str.ofString "n𝐎") r3] 0) :: nw) → P .next { s with heap := h', toks := tk }) :
   wpAny (model PySem.Challenge.rw_sn0092_01.row.prog w) ((ktrTop dp un gd cn cs L ad ccd cl outer).deeper (mailEnv L')) (execs (List.drop 3 mailT) (mailEnv L')) P E s := by
  have on1 := On.mk "subscriptTail"
  have on2 := On.mk "binaryOp Add str str"
  have on3 := On.mk "binaryOp Mult str int"
  have on4 := On.mk "call type:str"
  have on5 := On.mk "compareOp Eq int int"
  have onN := OnN.mk 3
  revert X
  k_fill
  intro X
  have F := ksw_fr (stored := []) (m₀ := m₁) hm (fun _ _ _ => rfl) F₁
  have hE := funext (fun z => kstB_eq (m₁ := m₁) (rest := m₁) (z := z) hm (fun _ => rfl))
  simp only [List.contains_nil, Bool.false_eq_true, if_false] at F
  dsimp only [kstB] at F hE
  clear F₁ hm
  have n1 : (Str.ofString ".").length = 1 := by decide +kernel
  have n3 : (Str.ofString "no").length = 2 := by decide +kernel
  have l0 : mk.length ≤ 1 := by
    have q : (marks.all fun e => decide (e.length ≤ 1)) = true := by decide +kernel
    simpa using List.all_eq_true.mp q mk hmk
  have l1 := dots_len hz1 hz3
  have l2 := num_len hz1 hz3
  have q3 : 0 ≤ (d.fdiv 360).fmod 3 := Int.fmod_nonneg_of_pos _ (by decide)
  have q4 : (d.fdiv 360).fmod 3 < 3 := Int.fmod_lt_of_pos _ (by decide)
  have l3 := nought_len q3 (by omega)
  have l7 : ([Str.ofString "№", Str.ofString "No", Str.ofString "𝐍O", Str.ofString "n𝐎"].getD ((d.fdiv 90).fmod 4).toNat Str.empty).length ≤ 2 := getD_le (by decide +kernel)
  (k_with "table" => skip)
  have same : ∀ (m'' m2 : Str → Option Value), (∀ z, [Str.ofString "written", Str.ofString "sent"].contains z = false → m'' z = m2 z) → (∀ z, [Str.ofString "written", Str.ofString "sent", Str.ofString "size", Str.ofString "line", Str.ofString "loud", Str.ofString "numeral"].contains z = false → m2 z = m₁ z) → (∀ z, [Str.ofString "written", Str.ofString "sent", Str.ofString "size", Str.ofString "line", Str.ofString "loud", Str.ofString "numeral"].contains z = false → m'' z = m₁ z) := by
    intro m'' m2 a b z hz
    refine (a z ?_).trans (b z hz)
    simp only [List.contains_cons, List.contains_nil, Bool.or_false, Bool.or_eq_false_iff] at hz ⊢
    exact ⟨hz.1, hz.2.1⟩
  obtain hk | hk | hk : d.fmod 3 = 0 ∨ d.fmod 3 = 1 ∨ d.fmod 3 = 2 := by
    have h := Int.fmod_nonneg_of_pos d (show (0 : Int) < 3 by decide)
    have h2 := Int.fmod_lt_of_pos d (show (0 : Int) < 3 by decide)
    omega
  · have hk3 : (d.fmod 3 == 0) = true := by rw [hk]; rfl
    have hz2 := hz0 hk
    have l9 := dots_len (n := sz + 1) (by omega) (by omega)
    have hr := row0 hz1 hz2 hmk
    have lr := loud_of hr
    clear l2 l3 l7 q3 q4 hz0 n3
    k_steps
    repeat (unfold Stop; (with_reducible (first | ((show wpAny _ _ (execs (Stmt.Assign _ _ _ :: _) _) _ _ _); refine wpAny_execs_cons ?_) | (k_here; (show wpAny _ _ (subscriptTail _ _ (Value.ref _) (Value.int (Int.fmod _ _) _)) _ _ _); k_dflt (refine' KTb.item_list ?ktbl ?ktbw ?ktb0 ?ktb1 ?ktbf ?_; (case ktbl => ktb_isList); (case ktbw => repeat constructor); (case ktb0 => exact Int.fmod_nonneg_of_pos _ (by decide)); (case ktb1 => ((simp only [List.length_cons, List.length_nil]); exact Int.lt_of_lt_of_le (Int.fmod_lt_of_pos _ (by decide)) (by decide))); (case ktbf => exact Int.lt_of_lt_of_le (Int.fmod_lt_of_pos _ (by decide)) (by decide))); intro _ ktbLt; clear ktbLt) | (refine' addS ?hadd ?_; (case hadd => ((try simp only [Str.length_append]); omega)); intro _ _) | (refine' mulS ?hmu1 ?hmu2 ?hmu3 ?_; (case hmu1 => decide +kernel); (case hmu2 => omega); (case hmu3 => omega); intro _ _) | (refine' strS ?hst1 ?hst2 ?_; (case hst1 => omega); (case hst2 => omega); intro _ _) | (refine eqIs (by with_reducible assumption) ?_))); k_steps)
    unfold Stop
    rename Fr g' L' _ _ => F9
    rename News g' L' _ _ => N9
    rw [List.push_toArray] at N9
    refine mailB w p loose mean mg mb dp un gd cn cs ad ccd cl outer g' L L' X T I D3 D4 De o1 o2 _ vl e4 ((Ds, _) :: nw) hI ⟨h4.1, h4.2.1, h4.2.2⟩ d (sz + 1) td _ tw ts _ _ q0 q1 q2 wr se (Txt.mul (Str.ofString ".") sz ++ mk) (Str.ofString "." ++ (Txt.mul (Str.ofString ".") sz ++ mk)) hw hse lr.2.2.2.2.1 lr.2.2.2.2.2.1 hvl _ _ P E (by kst_all) F9 N9 ?_
    intro h8 tk8 t1 t2 e5 m'' F8 hm8 hz8 N8
    refine fin ⟨Txt.mul (Str.ofString ".") sz ++ mk, Str.ofString "." ++ (Txt.mul (Str.ofString ".") sz ++ mk), Txt.mul (Str.ofString ".") (sz + 1), sz + 1⟩ h8 tk8 t1 t2 _ _ _ _ m'' hr ⟨(by dsimp only; omega), (fun hq => by dsimp only; omega)⟩ F8 hm8 (same m'' _ hz8 ?_) N8
    intro z hz
    refine updL_off (names := [Str.ofString "written", Str.ofString "sent", Str.ofString "size", Str.ofString "line", Str.ofString "loud", Str.ofString "numeral"]) hE z hz (l := [(_, _), (_, _), (_, _)]) ?_
    kernel_rfl
  · have hk3 : (d.fmod 3 == 0) = false := by rw [hk]; rfl
    have hk1 : (d.fmod 3 == 1) = true := by rw [hk]; rfl
    have hr := row1 hz1 hz3 hmk
    have lr := loud_of hr
    clear l2 l3 l7 q3 q4 hz0 n3
    k_steps
    repeat (unfold Stop; (with_reducible (first | ((show wpAny _ _ (execs (Stmt.Assign _ _ _ :: _) _) _ _ _); refine wpAny_execs_cons ?_) | (k_here; (show wpAny _ _ (subscriptTail _ _ (Value.ref _) (Value.int (Int.fmod _ _) _)) _ _ _); k_dflt (refine' KTb.item_list ?ktbl ?ktbw ?ktb0 ?ktb1 ?ktbf ?_; (case ktbl => ktb_isList); (case ktbw => repeat constructor); (case ktb0 => exact Int.fmod_nonneg_of_pos _ (by decide)); (case ktb1 => ((simp only [List.length_cons, List.length_nil]); exact Int.lt_of_lt_of_le (Int.fmod_lt_of_pos _ (by decide)) (by decide))); (case ktbf => exact Int.lt_of_lt_of_le (Int.fmod_lt_of_pos _ (by decide)) (by decide))); intro _ ktbLt; clear ktbLt) | (refine' addS ?hadd ?_; (case hadd => ((try simp only [Str.length_append]); omega)); intro _ _) | (refine' mulS ?hmu1 ?hmu2 ?hmu3 ?_; (case hmu1 => decide +kernel); (case hmu2 => omega); (case hmu3 => omega); intro _ _) | (refine' strS ?hst1 ?hst2 ?_; (case hst1 => omega); (case hst2 => omega); intro _ _) | (refine eqIs (by with_reducible assumption) ?_))); k_steps)
    unfold Stop
    rename Fr g' L' _ _ => F9
    rename News g' L' _ _ => N9
    rw [List.push_toArray] at N9
    refine mailB w p loose mean mg mb dp un gd cn cs ad ccd cl outer g' L L' X T I D3 D4 De o1 o2 _ vl e4 ((Ds, _) :: nw) hI ⟨h4.1, h4.2.1, h4.2.2⟩ d (sz) td _ tw ts _ _ q0 q1 q2 wr se (mk ++ Txt.mul (Str.ofString ".") sz) (mk ++ Txt.mul (Str.ofString ".") sz) hw hse lr.2.2.2.2.1 lr.2.2.2.2.2.1 hvl _ _ P E (by kst_all) F9 N9 ?_
    intro h8 tk8 t1 t2 e5 m'' F8 hm8 hz8 N8
    refine fin ⟨mk ++ Txt.mul (Str.ofString ".") sz, mk ++ Txt.mul (Str.ofString ".") sz, Txt.mul (Str.ofString ".") sz, sz⟩ h8 tk8 t1 t2 _ _ _ _ m'' hr ⟨(by dsimp only; omega), (fun hq => by dsimp only; omega)⟩ F8 hm8 (same m'' _ hz8 ?_) N8
    intro z hz
    refine updL_off (names := [Str.ofString "written", Str.ofString "sent", Str.ofString "size", Str.ofString "line", Str.ofString "loud", Str.ofString "numeral"]) hE z hz (l := [(_, _), (_, _)]) ?_
    kernel_rfl
  · have hk3 : (d.fmod 3 == 0) = false := by rw [hk]; rfl
    have hk1 : (d.fmod 3 == 1) = false := by rw [hk]; rfl
    have hsp : [Str.ofString "№", Str.ofString "No", Str.ofString "𝐍O", Str.ofString "n𝐎"].getD ((d.fdiv 90).fmod 4).toNat Str.empty ∈ spelled := getD_in (l := spelled) (Nat.lt_of_lt_of_le (fmodN _ (by decide)) (by decide))
    have hr := row2 hz1 hz3 q3 (by omega) hsp hmk
    have lr := loud_of hr
    clear l1 hz0 n1 hsp
    k_steps
    repeat (unfold Stop; (with_reducible (first | ((show wpAny _ _ (execs (Stmt.Assign _ _ _ :: _) _) _ _ _); refine wpAny_execs_cons ?_) | (k_here; (show wpAny _ _ (subscriptTail _ _ (Value.ref _) (Value.int (Int.fmod _ _) _)) _ _ _); k_dflt (refine' KTb.item_list ?ktbl ?ktbw ?ktb0 ?ktb1 ?ktbf ?_; (case ktbl => ktb_isList); (case ktbw => repeat constructor); (case ktb0 => exact Int.fmod_nonneg_of_pos _ (by decide)); (case ktb1 => ((simp only [List.length_cons, List.length_nil]); exact Int.lt_of_lt_of_le (Int.fmod_lt_of_pos _ (by decide)) (by decide))); (case ktbf => exact Int.lt_of_lt_of_le (Int.fmod_lt_of_pos _ (by decide)) (by decide))); intro _ ktbLt; clear ktbLt) | (refine' addS ?hadd ?_; (case hadd => ((try simp only [Str.length_append]); omega)); intro _ _) | (refine' mulS ?hmu1 ?hmu2 ?hmu3 ?_; (case hmu1 => decide +kernel); (case hmu2 => omega); (case hmu3 => omega); intro _ _) | (refine' strS ?hst1 ?hst2 ?_; (case hst1 => omega); (case hst2 => omega); intro _ _) | (refine eqIs (by with_reducible assumption) ?_))); k_steps)
    unfold Stop
    rename Fr g' L' _ _ => F9
    rename News g' L' _ _ => N9
    rw [List.push_toArray] at N9
    refine mailB w p loose mean mg mb dp un gd cn cs ad ccd cl outer g' L L' X T I D3 D4 De o1 o2 _ vl e4 ((Ds, _) :: nw) hI ⟨h4.1, h4.2.1, h4.2.2⟩ d (sz) td _ tw ts _ _ q0 q1 q2 wr se (([Str.ofString "№", Str.ofString "No", Str.ofString "𝐍O", Str.ofString "n𝐎"].getD ((d.fdiv 90).fmod 4).toNat Str.empty) ++ mk ++ (Txt.mul (Str.ofString "0_") ((d.fdiv 360).fmod 3) ++ Str.ofString (toString sz))) (([Str.ofString "№", Str.ofString "No", Str.ofString "𝐍O", Str.ofString "n𝐎"].getD ((d.fdiv 90).fmod 4).toNat Str.empty) ++ mk ++ (Txt.mul (Str.ofString "0_") ((d.fdiv 360).fmod 3) ++ Str.ofString (toString sz))) hw hse lr.2.2.2.2.1 lr.2.2.2.2.2.1 hvl _ _ P E (by kst_all) F9 N9 ?_
    intro h8 tk8 t1 t2 e5 m'' F8 hm8 hz8 N8
    refine fin ⟨([Str.ofString "№", Str.ofString "No", Str.ofString "𝐍O", Str.ofString "n𝐎"].getD ((d.fdiv 90).fmod 4).toNat Str.empty) ++ mk ++ (Txt.mul (Str.ofString "0_") ((d.fdiv 360).fmod 3) ++ Str.ofString (toString sz)), ([Str.ofString "№", Str.ofString "No", Str.ofString "𝐍O", Str.ofString "n𝐎"].getD ((d.fdiv 90).fmod 4).toNat Str.empty) ++ mk ++ (Txt.mul (Str.ofString "0_") ((d.fdiv 360).fmod 3) ++ Str.ofString (toString sz)), Str.ofString "no" ++ (Txt.mul (Str.ofString "0_") ((d.fdiv 360).fmod 3) ++ Str.ofString (toString sz)), sz⟩ h8 tk8 t1 t2 _ _ _ _ m'' hr ⟨(by dsimp only; omega), (fun hq => by dsimp only; omega)⟩ F8 hm8 (same m'' _ hz8 ?_) N8
    intro z hz
    refine updL_off (names := [Str.ofString "written", Str.ofString "sent", Str.ofString "size", Str.ofString "line", Str.ofString "loud", Str.ofString "numeral"]) hE z hz (l := [(_, _), (_, _), (_, _)]) ?_
    kernel_rfl
end Mine
end
-- part MailS
section
theorem Mine.offMailS : True := by
  w_top off
  k_with_none
  trivial
open PySem PySem.W PyProof.Rows PySem.Calls
set_option Elab.async false
set_option maxRecDepth 100000
set_option maxHeartbeats 0
set_option linter.unusedVariables false
namespace Mine
theorem swap56 {h₀ h : Heap} {L : Addr} {a b c d e x y : Addr × Obj} {r : Led} (N : News h₀ L h (a :: b :: c :: d :: e :: x :: y :: r)) : News h₀ L h (a :: b :: c :: d :: e :: y :: x :: r) := by
  intro q hq
  refine N q ?_
  simp only [List.mem_cons] at hq ⊢
  rcases hq with h | h | h | h | h | h | h | h <;> simp [h]
theorem mailO (w : World) (p : Program) (loose : List Str) (mean : ExcName → Option Value) (mg mb : Str → Option Value) (dp un : Nat) (gd : Option (List Code)) (cn : Str) (cs : Scope) (ad : Addr) (ccd : Value) (cl : List (Str × Addr)) (outer : List Env) (g' : Heap) (L L' : Addr) (X : (myK w.params).In g') (T : Top p loose mean mg mb g')
   (I D3 D4 De Ds Dm : Addr) (o1 o2 : Obj) (hs vl : List Value) (e3 e4 : Nat) (nw : Led) (hI : @LT.lt Nat _ D4 I ∧ @LT.lt Nat _ D3 I ∧ @LT.lt Nat _ De I ∧ @LT.lt Nat _ Ds I ∧ @LT.lt Nat _ Dm I ∧ AllLt I nw) (h4 : @LT.lt Nat _ D3 D4 ∧ @LT.lt Nat _ De D4 ∧ @LT.lt Nat _ Ds D4 ∧ @LT.lt Nat _ Dm D4 ∧ AllLt D4 nw) (h3 : @LT.lt Nat _ De D3 ∧ @LT.lt Nat _ Ds D3 ∧ @LT.lt Nat _ Dm D3 ∧ AllLt D3 nw)
   (i : Nat) (d : Int) (td tw ts ti q0 q1 q2 r0 r1 r2 r3 k0 k1 k2 k3 k4 : Tok) (wr se : Str) (hw : wr.length ≤ 80) (hse : se.length ≤ 80) (hvl : vl.length ≤ 3) (hhs : hs.length ≤ 3) (m₁ : Str → Option Value) (s : Shared) (P : Flow → Shared → Prop) (E : Value → Shared → Prop)
   (hm : ∀ p ∈ [(Str.ofString "k", Value.int (i : Int) ti), (Str.ofString "v", .int d td), (Str.ofString "written", .str wr tw), (Str.ofString "sent", .str se ts), (Str.ofString "values", .ref D4), (Str.ofString "heard", .ref D3), (Str.ofString "ends", .ref De), (Str.ofString "spelled", .ref Ds), (Str.ofString "marks", .ref Dm)], m₁ p.1 = some p.2)
   (F₁ : Fr g' L' s.heap m₁)
   (N : News g' L' s.heap ((I + 1, o1) :: (I, o2) :: (D4, W.listOf (List.toArray vl) e4) :: (D3, W.listOf (List.toArray hs) e3) :: (De, W.listOf #[.str (Str.ofString "\n") q0, .str (Str.ofString "\x0d") q1, .str (Str.ofString "\x0d\n") q2] 0) :: (Dm, W.listOf #[.str (Str.ofString "\u200e") k0, .str (Str.ofString "\u200f") k1, .str (Str.ofString "\u202a") k2, .str (Str.ofString "\u206f") k3, .str (Str.ofString "\u0341") k4] 0) :: (Ds, W.listOf #[.str (Str.ofString "№") r0, .str (Str.ofString "No") r1, .str (Str.ofString "𝐍O") r2, .str (Str.ofString "n𝐎") r3] 0) :: nw))
   (fin : ∀ (r : Row) h' tk t1 t2 t3 t4 e5 e6 m'', r ∈ allRows → (i = 0 → 2 ≤ r.size) → Fr g' L' h' m'' → (∀ p ∈ [(Str.ofString "written", Value.str (wr ++ r.line ++ [Str.ofString "\n", Str.ofString "\x0d", Str.ofString "\x0d\n"].getD ((d.fdiv 6).fmod 3).toNat Str.empty) t1), (Str.ofString "sent", Value.str (se ++ r.loud ++ Str.ofString "\x0d\n") t2)], m'' p.1 = some p.2) → (∀ z, [Str.ofString "written", Str.ofString "sent", Str.ofString "size", Str.ofString "line", Str.ofString "loud", Str.ofString "numeral", Str.ofString "mark"].contains z = false → m'' z = m₁ z) →
     News g' L' h' ((I + 1, o1) :: (I, o2) :: (D4, W.listOf (List.toArray (vl ++ [.int r.size t3])) e5) :: (D3, W.listOf (List.toArray (hs ++ [.str r.heard t4])) e6) :: (De, W.listOf #[.str (Str.ofString "\n") q0, .str (Str.ofString "\x0d") q1, .str (Str.ofString "\x0d\n") q2] 0) :: (Dm, W.listOf #[.str (Str.ofString "\u200e") k0, .str (Str.ofString "\u200f") k1, .str (Str.ofString "\u202a") k2, .str (Str.ofString "\u206f") k3, .str (Str.ofString "\u0341") k4] 0) :: (Ds, W.listOf #[.str (Str.ofString "№") r0, .str (Str.ofString "No") r1, .str (Str.ofString "𝐍O") r2, .str (Str.ofString "n𝐎") r3] 0) :: nw) → P .next { s with heap := h', toks := tk }) :
   wpAny (model PySem.Challenge.rw_sn0092_01.row.prog w) ((ktrTop dp un gd cn cs L ad ccd cl outer).deeper (mailEnv L')) (execs mailT (mailEnv L')) P E s := by
  have on1 := On.mk "subscriptTail"
  have on2 := On.mk "compareOp Eq int int"
  have on3 := On.mk "compareOp NotEq int int"
  have onN := OnN.mk 4
  revert X
  k_fill
  intro X
  have F := ksw_fr (stored := []) (m₀ := m₁) hm (fun _ _ _ => rfl) F₁
  have hE := funext (fun z => kstB_eq (m₁ := m₁) (rest := m₁) (z := z) hm (fun _ => rfl))
  simp only [List.contains_nil, Bool.false_eq_true, if_false] at F
  dsimp only [kstB] at F hE
  clear F₁ hm
  have q1' : 0 ≤ (d.fdiv 3).fmod 2 := Int.fmod_nonneg_of_pos _ (by decide)
  have q2' : (d.fdiv 3).fmod 2 < 2 := Int.fmod_lt_of_pos _ (by decide)
  have hmk : [Str.ofString "\u200e", Str.ofString "\u200f", Str.ofString "\u202a", Str.ofString "\u206f", Str.ofString "\u0341"].getD ((d.fdiv 18).fmod 5).toNat Str.empty ∈ marks := getD_in (l := marks) (Nat.lt_of_lt_of_le (fmodN _ (by decide)) (by decide))
  (k_with "table" => skip)
  have same : ∀ (m'' m2 : Str → Option Value), (∀ z, [Str.ofString "written", Str.ofString "sent", Str.ofString "size", Str.ofString "line", Str.ofString "loud", Str.ofString "numeral"].contains z = false → m'' z = m2 z) → (∀ z, [Str.ofString "written", Str.ofString "sent", Str.ofString "size", Str.ofString "line", Str.ofString "loud", Str.ofString "numeral", Str.ofString "mark"].contains z = false → m2 z = m₁ z) → (∀ z, [Str.ofString "written", Str.ofString "sent", Str.ofString "size", Str.ofString "line", Str.ofString "loud", Str.ofString "numeral", Str.ofString "mark"].contains z = false → m'' z = m₁ z) := by
    intro m'' m2 a b z hz
    refine (a z ?_).trans (b z hz)
    simp only [List.contains_cons, List.contains_nil, Bool.or_false, Bool.or_eq_false_iff] at hz ⊢
    exact ⟨hz.1, hz.2.1, hz.2.2.1, hz.2.2.2.1, hz.2.2.2.2.1, hz.2.2.2.2.2.1⟩
  obtain h0 | h0 : (i : Int) ≠ 0 ∨ (i : Int) = 0 := by omega
  · have hk0 : ((i : Int) == 0) = false := by simpa using h0
    k_steps
    repeat (unfold Stop; (with_reducible (first | (k_here; (show wpAny _ _ (subscriptTail _ _ (Value.ref _) (Value.int (Int.fmod _ _) _)) _ _ _); k_dflt (refine' KTb.item_list ?ktbl ?ktbw ?ktb0 ?ktb1 ?ktbf ?_; (case ktbl => ktb_isList); (case ktbw => repeat constructor); (case ktb0 => exact Int.fmod_nonneg_of_pos _ (by decide)); (case ktb1 => ((simp only [List.length_cons, List.length_nil]); exact Int.lt_of_lt_of_le (Int.fmod_lt_of_pos _ (by decide)) (by decide))); (case ktbf => exact Int.lt_of_lt_of_le (Int.fmod_lt_of_pos _ (by decide)) (by decide))); intro _ ktbLt; clear ktbLt) | (refine eqIs (by with_reducible assumption) ?_) | (refine neIs (by with_reducible assumption) ?_))); k_steps)
    unfold Stop
    rename Fr g' L' _ _ => F9
    rename News g' L' _ _ => N9
    refine mailA w p loose mean mg mb dp un gd cn cs ad ccd cl outer g' L L' X T I D3 D4 De Ds o1 o2 hs vl e3 e4 ((Dm, _) :: nw) ⟨hI.1, hI.2.1, hI.2.2.1, hI.2.2.2.1, hI.2.2.2.2⟩ ⟨h4.1, h4.2.1, h4.2.2.1, h4.2.2.2⟩ ⟨h3.1, h3.2.1, h3.2.2⟩ d (1 + (d.fdiv 3).fmod 2) td _ tw ts _ q0 q1 q2 r0 r1 r2 r3 wr se ([Str.ofString "\u200e", Str.ofString "\u200f", Str.ofString "\u202a", Str.ofString "\u206f", Str.ofString "\u0341"].getD ((d.fdiv 18).fmod 5).toNat Str.empty) hw hse hmk hvl hhs (by omega) (by omega) (by omega) _ _ P E (by kst_all) F9 (swap56 N9) ?_
    intro r h8 tk8 t1 t2 t3 t4 e5 e6 m'' hr hsz F8 hm8 hz8 N8
    refine fin r h8 tk8 t1 t2 t3 t4 e5 e6 m'' hr (by omega) F8 hm8 (same m'' _ hz8 ?_) (swap56 N8)
    intro z hz
    refine updL_off (names := [Str.ofString "written", Str.ofString "sent", Str.ofString "size", Str.ofString "line", Str.ofString "loud", Str.ofString "numeral", Str.ofString "mark"]) hE z hz (l := [(_, _), (_, _)]) ?_
    kernel_rfl
  · have hk0 : ((i : Int) == 0) = true := by rw [h0]; rfl
    by_cases hk : d.fmod 3 = 0
    · have hkn : (d.fmod 3 != 0) = false := by rw [hk]; rfl
      k_steps
      repeat (unfold Stop; (with_reducible (first | (k_here; (show wpAny _ _ (subscriptTail _ _ (Value.ref _) (Value.int (Int.fmod _ _) _)) _ _ _); k_dflt (refine' KTb.item_list ?ktbl ?ktbw ?ktb0 ?ktb1 ?ktbf ?_; (case ktbl => ktb_isList); (case ktbw => repeat constructor); (case ktb0 => exact Int.fmod_nonneg_of_pos _ (by decide)); (case ktb1 => ((simp only [List.length_cons, List.length_nil]); exact Int.lt_of_lt_of_le (Int.fmod_lt_of_pos _ (by decide)) (by decide))); (case ktbf => exact Int.lt_of_lt_of_le (Int.fmod_lt_of_pos _ (by decide)) (by decide))); intro _ ktbLt; clear ktbLt) | (refine eqIs (by with_reducible assumption) ?_) | (refine neIs (by with_reducible assumption) ?_))); k_steps)
      unfold Stop
      rename Fr g' L' _ _ => F9
      rename News g' L' _ _ => N9
      refine mailA w p loose mean mg mb dp un gd cn cs ad ccd cl outer g' L L' X T I D3 D4 De Ds o1 o2 hs vl e3 e4 ((Dm, _) :: nw) ⟨hI.1, hI.2.1, hI.2.2.1, hI.2.2.2.1, hI.2.2.2.2⟩ ⟨h4.1, h4.2.1, h4.2.2.1, h4.2.2.2⟩ ⟨h3.1, h3.2.1, h3.2.2⟩ d (1 + (d.fdiv 3).fmod 2) td _ tw ts _ q0 q1 q2 r0 r1 r2 r3 wr se ([Str.ofString "\u200e", Str.ofString "\u200f", Str.ofString "\u202a", Str.ofString "\u206f", Str.ofString "\u0341"].getD ((d.fdiv 18).fmod 5).toNat Str.empty) hw hse hmk hvl hhs (by omega) (by omega) (by omega) _ _ P E (by kst_all) F9 (swap56 N9) ?_
      intro r h8 tk8 t1 t2 t3 t4 e5 e6 m'' hr hsz F8 hm8 hz8 N8
      refine fin r h8 tk8 t1 t2 t3 t4 e5 e6 m'' hr (by omega) F8 hm8 (same m'' _ hz8 ?_) (swap56 N8)
      intro z hz
      refine updL_off (names := [Str.ofString "written", Str.ofString "sent", Str.ofString "size", Str.ofString "line", Str.ofString "loud", Str.ofString "numeral", Str.ofString "mark"]) hE z hz (l := [(_, _), (_, _)]) ?_
      kernel_rfl
    · have hkn : (d.fmod 3 != 0) = true := by simpa using hk
      k_steps
      repeat (unfold Stop; (with_reducible (first | (k_here; (show wpAny _ _ (subscriptTail _ _ (Value.ref _) (Value.int (Int.fmod _ _) _)) _ _ _); k_dflt (refine' KTb.item_list ?ktbl ?ktbw ?ktb0 ?ktb1 ?ktbf ?_; (case ktbl => ktb_isList); (case ktbw => repeat constructor); (case ktb0 => exact Int.fmod_nonneg_of_pos _ (by decide)); (case ktb1 => ((simp only [List.length_cons, List.length_nil]); exact Int.lt_of_lt_of_le (Int.fmod_lt_of_pos _ (by decide)) (by decide))); (case ktbf => exact Int.lt_of_lt_of_le (Int.fmod_lt_of_pos _ (by decide)) (by decide))); intro _ ktbLt; clear ktbLt) | (refine eqIs (by with_reducible assumption) ?_) | (refine neIs (by with_reducible assumption) ?_))); k_steps)
      unfold Stop
      rename Fr g' L' _ _ => F9
      rename News g' L' _ _ => N9
      refine mailA w p loose mean mg mb dp un gd cn cs ad ccd cl outer g' L L' X T I D3 D4 De Ds o1 o2 hs vl e3 e4 ((Dm, _) :: nw) ⟨hI.1, hI.2.1, hI.2.2.1, hI.2.2.2.1, hI.2.2.2.2⟩ ⟨h4.1, h4.2.1, h4.2.2.1, h4.2.2.2⟩ ⟨h3.1, h3.2.1, h3.2.2⟩ d (1 + (d.fdiv 3).fmod 2 + 1) td _ tw ts _ q0 q1 q2 r0 r1 r2 r3 wr se ([Str.ofString "\u200e", Str.ofString "\u200f", Str.ofString "\u202a", Str.ofString "\u206f", Str.ofString "\u0341"].getD ((d.fdiv 18).fmod 5).toNat Str.empty) hw hse hmk hvl hhs (by omega) (by omega) (by omega) _ _ P E (by kst_all) F9 (swap56 N9) ?_
      intro r h8 tk8 t1 t2 t3 t4 e5 e6 m'' hr hsz F8 hm8 hz8 N8
      refine fin r h8 tk8 t1 t2 t3 t4 e5 e6 m'' hr (by omega) F8 hm8 (same m'' _ hz8 ?_) (swap56 N8)
      intro z hz
      refine updL_off (names := [Str.ofString "written", Str.ofString "sent", Str.ofString "size", Str.ofString "line", Str.ofString "loud", Str.ofString "numeral", Str.ofString "mark"]) hE z hz (l := [(_, _), (_, _), (_, _)]) ?_
      kernel_rfl
end Mine
end
-- part LenL
section
theorem Mine.offLenL : True := by
  w_top off
  k_with_none
  trivial
open PySem PySem.W PyProof.Rows PySem.Calls
set_option Elab.async false
set_option maxRecDepth 100000
set_option linter.unusedVariables false
namespace Mine
theorem wr_len : ∀ (rows : List (Row × Str)) (a : Str), RowsOk rows → (rows.foldl (fun a r => a ++ r.1.line ++ r.2) a).cps.size ≤ a.cps.size + 20 * rows.length
  | [], a, _ => by simp
  | r :: t, a, h => by
    obtain ⟨h1, h2⟩ := h r (List.mem_cons_self ..)
    have := wr_len t (a ++ r.1.line ++ r.2) fun x hx => h x (List.mem_cons_of_mem _ hx)
    rw [List.foldl_cons]
    refine Nat.le_trans this ?_
    have e1 := (loud_of h1).2.2.2.2.1
    have e2 : r.2.length ≤ 2 := by
      have q : (ends.all fun e => decide (e.length ≤ 2)) = true := by decide +kernel
      simpa using List.all_eq_true.mp q r.2 h2
    simp only [Str.length] at e1 e2
    simp only [Str.cps_append, Array.size_append, List.length_cons]
    omega
theorem se_len : ∀ (rows : List (Row × Str)) (a : Str), RowsOk rows → (rows.foldl (fun a r => a ++ r.1.loud ++ crlf) a).cps.size ≤ a.cps.size + 20 * rows.length
  | [], a, _ => by simp
  | r :: t, a, h => by
    obtain ⟨h1, h2⟩ := h r (List.mem_cons_self ..)
    have := se_len t (a ++ r.1.loud ++ crlf) fun x hx => h x (List.mem_cons_of_mem _ hx)
    rw [List.foldl_cons]
    refine Nat.le_trans this ?_
    have e1 := (loud_of h1).2.2.2.2.2.1
    have e2 : crlf.length = 2 := by decide +kernel
    simp only [Str.length] at e1 e2
    simp only [Str.cps_append, Array.size_append, List.length_cons]
    omega
theorem wrS_len {rows : List (Row × Str)} (h : RowsOk rows) : (wrS rows).cps.size ≤ 20 * rows.length := by
  have := wr_len rows (Str.ofString "") h
  have e : (Str.ofString "").cps.size = 0 := by decide +kernel
  unfold wrS
  omega
theorem seS_len {rows : List (Row × Str)} (h : RowsOk rows) : (seS rows).cps.size ≤ 20 * rows.length := by
  have := se_len rows (Str.ofString "") h
  have e : (Str.ofString "").cps.size = 0 := by decide +kernel
  unfold seS
  omega
theorem wrS_snoc (rows : List (Row × Str)) (r : Row × Str) : wrS (rows ++ [r]) = wrS rows ++ r.1.line ++ r.2 := by unfold wrS; rw [List.foldl_append]; rfl
theorem seS_snoc (rows : List (Row × Str)) (r : Row × Str) : seS (rows ++ [r]) = seS rows ++ r.1.loud ++ crlf := by unfold seS; rw [List.foldl_append]; rfl
end Mine
end
-- part MailT
section
theorem Mine.offMailT : True := by
  w_top off
  k_with_none
  trivial
open PySem PySem.W PyProof.Rows PySem.Calls
set_option Elab.async false
set_option maxRecDepth 100000
set_option maxHeartbeats 0
set_option linter.unusedVariables false
namespace Mine
noncomputable abbrev StM := List (Row × Str) × (Tok × Tok) × (List Value × Nat) × (List Value × Nat)
noncomputable abbrev stoM : List Str := [Str.ofString "written", Str.ofString "sent", Str.ofString "size", Str.ofString "line", Str.ofString "loud", Str.ofString "numeral", Str.ofString "mark", Str.ofString "v", Str.ofString "k"]
noncomputable def InvM (m₀ : Str → Option Value) (D4 D3 De Ds Dm : Addr) (rest : Led) (K : Nat) (i : Nat) (rem : List Value) (c : StM) (m : Str → Option Value) (news' : Led) : Prop :=
  ∃ ds, IntsAre rem ds ∧ i + rem.length = K ∧ RowsOk c.1 ∧ c.1.length = i ∧ (∀ r, c.1.head? = some r → 2 ≤ r.1.size) ∧ StrsAre c.2.2.1.1 (c.1.map (·.1.heard)) ∧ IntsAre c.2.2.2.1 (c.1.map (·.1.size)) ∧
  (∀ p ∈ [(Str.ofString "written", Value.str (wrS c.1) c.2.1.1), (Str.ofString "sent", Value.str (seS c.1) c.2.1.2), (Str.ofString "values", .ref D4), (Str.ofString "heard", .ref D3), (Str.ofString "ends", .ref De), (Str.ofString "spelled", .ref Ds), (Str.ofString "marks", .ref Dm)], m p.1 = some p.2) ∧
  (∀ z, stoM.contains z = false → m z = m₀ z) ∧
  news' = (D4, W.listOf (List.toArray c.2.2.2.1) c.2.2.2.2) :: (D3, W.listOf (List.toArray c.2.2.1.1) c.2.2.1.2) :: rest
theorem InvM.turn {m₀ : Str → Option Value} {D4 D3 De Ds Dm : Addr} {rest : Led} {K i : Nat} {r : List Value} {G : Value → StM → (Str → Option Value) → Led → Prop}
    (f : ∀ rows tw ts hs e3 vl e4 d td m ds', IntsAre r ds' → i + (r.length + 1) = K → RowsOk rows → rows.length = i → (∀ r, rows.head? = some r → 2 ≤ r.1.size) → StrsAre hs (rows.map (·.1.heard)) → IntsAre vl (rows.map (·.1.size)) →
      (∀ p ∈ [(Str.ofString "written", Value.str (wrS rows) tw), (Str.ofString "sent", Value.str (seS rows) ts), (Str.ofString "values", .ref D4), (Str.ofString "heard", .ref D3), (Str.ofString "ends", .ref De), (Str.ofString "spelled", .ref Ds), (Str.ofString "marks", .ref Dm)], m p.1 = some p.2) →
      (∀ z, stoM.contains z = false → m z = m₀ z) → G (.int d td) (rows, (tw, ts), (hs, e3), (vl, e4)) m ((D4, W.listOf (List.toArray vl) e4) :: (D3, W.listOf (List.toArray hs) e3) :: rest)) :
    ∀ v c m nw, InvM m₀ D4 D3 De Ds Dm rest K i (v :: r) c m nw → G v c m nw := by
  rintro v ⟨rows, ⟨tw, ts⟩, ⟨hs, e3⟩, ⟨vl, e4⟩⟩ m nw ⟨ds1, hds, hik, hro, hrl, hrh, hhs, hvl, hm1, hm2, rfl⟩
  cases hds with
  | cons d td hds' => exact f rows tw ts hs e3 vl e4 d td m _ hds' hik hro hrl hrh hhs hvl hm1 hm2
theorem InvM.fin {m₀ : Str → Option Value} {D4 D3 De Ds Dm : Addr} {rest : Led} {K i : Nat} {G : StM → (Str → Option Value) → Led → Prop}
    (f : ∀ rows tw ts hs e3 vl e4 m, RowsOk rows → rows.length = K → (∀ r, rows.head? = some r → 2 ≤ r.1.size) → StrsAre hs (rows.map (·.1.heard)) → IntsAre vl (rows.map (·.1.size)) →
      (∀ p ∈ [(Str.ofString "written", Value.str (wrS rows) tw), (Str.ofString "sent", Value.str (seS rows) ts), (Str.ofString "values", .ref D4), (Str.ofString "heard", .ref D3), (Str.ofString "ends", .ref De), (Str.ofString "spelled", .ref Ds), (Str.ofString "marks", .ref Dm)], m p.1 = some p.2) →
      (∀ z, stoM.contains z = false → m z = m₀ z) → G (rows, (tw, ts), (hs, e3), (vl, e4)) m ((D4, W.listOf (List.toArray vl) e4) :: (D3, W.listOf (List.toArray hs) e3) :: rest)) :
    ∀ c m nw, InvM m₀ D4 D3 De Ds Dm rest K i [] c m nw → G c m nw := by
  rintro ⟨rows, ⟨tw, ts⟩, ⟨hs, e3⟩, ⟨vl, e4⟩⟩ m nw ⟨ds1, hds, hik, hro, hrl, hrh, hhs, hvl, hm1, hm2, rfl⟩
  exact f rows tw ts hs e3 vl e4 m hro (hrl.trans hik) hrh hhs hvl hm1 hm2
theorem mail_spec (w : World) (p : Program) (loose : List Str) (mean : ExcName → Option Value) (mg mb : Str → Option Value) (news : Led) (Dl : Addr) (vs : List Value) (e : Nat) (ds : List Int) (hi : IntsAre vs ds) (hl : ds.length ≤ 3) :
   FSpec w p loose mean mg mb 207 [.ref Dl] [] ((Dl, W.listOf (List.toArray vs) e) :: news) 4 20 (fun r tl => ∃ (R D3 D4 : Addr) (rows : List (Row × Str)) (hs vals : List Value) (e3 e4 : Nat) (tw ts : Tok), r = .ref R ∧ tl = [(R, tupO [.str (wrS rows) tw, .str (seS rows) ts, .ref D3, .ref D4]), (D4, W.listOf (List.toArray vals) e4), (D3, W.listOf (List.toArray hs) e3)] ∧ RowsOk rows ∧ rows.length = ds.length ∧ (∀ r, rows.head? = some r → 2 ≤ r.1.size) ∧ StrsAre hs (rows.map (·.1.heard)) ∧ IntsAre vals (rows.map (·.1.size))) := by
  have on1 := On.mk "call type:enumerate"
  have on2 := On.mk "exec For Tuple Call cons nil"
  unfold FSpec
  k_fill
  intro dp un gd cn cs ad ccd cl outer A₀ base h₀ L m s Q E B F X N T0 hk hd hu hret
  refine wpAny_call ?_
  refine' code_def (binds := [(Str.ofString "drawn", .ref Dl)]) ?k1 ?k2 ?k3 ?k4 ?k5 ?kA ?kF ?kK ?k6 ?k7 ?k8 ?k9 ?kB ?_ ?c2 ?c3 ?c4 ?c5
  (case kA => exact rfl); (case kF => exact rfl); (case kK => assumption); (case k1 => k_asm); (case k2 => k_asm); (case k3 => k_asm); (case k4 => k_asm); (case k5 => k_asm); (case k6 => k_is); (case k7 => k_is); (case k8 => ktr_room); (case k9 => exact BindsTo.of_eq rfl); (case c5 => decide); (case kB => exact locs rfl); (case c2 => exact rfl); (case c3 => exact rfl); (case c4 => exact rfl)
  intro g' L' h' FG' F' N' B' X' T'
  k_lift B'
  dsimp only [List.reverse_cons, List.reverse_nil, List.nil_append, List.length_cons, List.length_nil] at *
  k_steps
  unfold Stop
  rename Fr g' L' _ _ => F4
  refine For_turns F4 ?_
  k_steps
  unfold Stop
  rename Fr g' L' _ _ => F5
  rename News g' L' _ _ => N5
  rename_i D3 _ _ _ _ D4 _ _ _
  rename (@LT.lt Nat _ D3 D4 ∧ _) => hl4
  rename (@LT.lt Nat _ _ D3 ∧ _) => hl3
  have hlen := hi.length
  refine' ktu_enum (lo := W.listOf (List.toArray vs) e) (vs := vs) rfl F5 N5 ?hmm rfl rfl rfl ?_
  (case hmm => k_mem)
  intro I hI
  k_lt hI
  refine enum_ind (InvM _ D4 D3 _ _ _ _ vs.length) ?turn ?fin vs 0 ([], (_, _), ([], 0), ([], 0)) _ _ ⟨ds, hi, by omega, (fun _ h => nomatch h), rfl, (fun _ h => nomatch h), .nil, .nil, by kst_all, fun _ _ => rfl, rfl⟩
  case turn =>
    intro i v r
    revert v
    refine InvM.turn ?_
    intro rows tw ts hs e3 vl e4 d td m1 ds' hds' hik hro hrl hrh hhs hvl hm1 hm2 T t h7 tk7 o1 o2 ho1 ho2 hT F7 N7
    have F8 := ksw_fr (stored := []) (m₀ := m1) hm1 (fun _ _ _ => rfl) F7
    have hE := funext (fun z => kstB_eq (m₁ := m1) (rest := m1) (z := z) hm1 (fun _ => rfl))
    simp only [List.contains_nil, Bool.false_eq_true, if_false] at F8
    dsimp only [kstB] at F8 hE
    have F8' : Fr g' L' h7 _ := F8
    have N8 : News g' L' h7 _ := N7
    clear F7 N7 F8
    generalize hP : UnrPostW _ _ _ _ _ _ = P
    have onN := OnN.mk 7
    have hi3 : i ≤ 2 := by omega
    have hwl : (wrS rows).length ≤ 80 := by have := wrS_len hro; rw [hrl] at this; simp only [Str.length]; omega
    have hsl : (seS rows).length ≤ 80 := by have := seS_len hro; rw [hrl] at this; simp only [Str.length]; omega
    have hvl3 : vl.length ≤ 3 := by rw [hvl.length, List.length_map]; omega
    have hhs3 : hs.length ≤ 3 := by rw [hhs.length, List.length_map]; omega
    k_steps
    unfold Stop
    rename Fr g' L' _ _ => F9
    rename News g' L' _ _ => N9
    refine mailO w p loose mean mg mb dp un gd cn cs ad ccd cl outer g' L L' X' T' I D3 D4 _ _ _ o1 o2 hs vl e3 e4 ((Dl, _) :: news) ⟨hI.1, hI.2.1, hI.2.2.1, hI.2.2.2.2.1, hI.2.2.2.1, hI.2.2.2.2.2⟩ ⟨hl4.1, hl4.2.1, hl4.2.2.2.1, hl4.2.2.1, hl4.2.2.2.2⟩ ⟨hl3.1, hl3.2.2.1, hl3.2.1, hl3.2.2.2⟩ i d td tw ts _ _ _ _ _ _ _ _ _ _ _ _ _ (wrS rows) (seS rows) hwl hsl hvl3 hhs3 _ _ P _ (by kst_all) F9 N9 ?_
    intro r8 h8 tk8 t1 t2 t3 t4 e5 e6 m8 hr8 hsz8 F8 hm8 hz8 N8'
    subst hP
    have hen : [Str.ofString "\n", Str.ofString "\x0d", Str.ofString "\x0d\n"].getD ((d.fdiv 6).fmod 3).toNat Str.empty ∈ ends := getD_in (l := ends) (Nat.lt_of_lt_of_le (fmodN _ (by decide)) (by decide))
    generalize [Str.ofString "\n", Str.ofString "\x0d", Str.ofString "\x0d\n"].getD ((d.fdiv 6).fmod 3).toNat Str.empty = en at *
    refine ⟨h8, tk8, m8, _, rfl, F8, N8', ?off, ?mem, (rows ++ [(r8, en)], (t1, t2), (hs ++ [.str r8.heard t4], e6), (vl ++ [.int r8.size t3], e5)), _, hds', ?i1, ?i2, ?i3, ?i4, ?i5, ?i6, ?i7, ?i8, rfl⟩
    case off =>
      intro q hq q2 hq2
      have hlq : q.1 < I := by
        refine allLt_lt ?_ q hq
        exact hI
      simp only [List.mem_cons, List.not_mem_nil, or_false] at hq2
      rcases hq2 with h | h
      · subst h; exact Nat.ne_of_lt (Nat.lt_succ_of_lt hlq)
      · subst h; exact Nat.ne_of_lt hlq
    case mem => simp only [List.mem_cons, true_or, or_true]
    case i1 => omega
    case i2 =>
      intro q hq
      rcases List.mem_append.mp hq with h | h
      · exact hro q h
      · rw [List.mem_singleton.mp h]; exact ⟨hr8, hen⟩
    case i3 => simp only [List.length_append, List.length_singleton]; omega
    case i4 =>
      intro q hq
      cases rows with
      | nil =>
        cases hq
        exact hsz8 hrl.symm
      | cons a b => exact hrh q hq
    case i5 => simp only [List.map_append, List.map_cons, List.map_nil]; exact hhs.append' (.cons _ _ .nil)
    case i6 => simp only [List.map_append, List.map_cons, List.map_nil]; exact hvl.append (.cons _ _ .nil)
    case i7 =>
      have h1 := hm8 _ (List.mem_cons_self ..)
      have h2 := hm8 _ (List.mem_cons_of_mem _ (List.mem_cons_self ..))
      rw [wrS_snoc, seS_snoc]
      intro q hq
      simp only [List.mem_cons, List.not_mem_nil, or_false] at hq
      have hk9 : ∀ p ∈ [(Str.ofString "values", Value.ref D4), (Str.ofString "heard", .ref D3), (Str.ofString "ends", .ref _), (Str.ofString "spelled", .ref _), (Str.ofString "marks", .ref _)], m1 p.1 = some p.2 := fun p hp => hm1 p (List.mem_cons_of_mem _ (List.mem_cons_of_mem _ hp))
      rcases hq with h | h | h | h | h | h | h
      · subst h; exact h1
      · subst h; exact h2
      all_goals (subst h; refine (hz8 _ ?_).trans rfl; dsimp only; decide +kernel)
    case i8 =>
      intro z hz
      have hzE := congrFun hE z
      have hz' := hz
      simp only [List.contains_cons, List.contains_nil, Bool.or_false, Bool.or_eq_false_iff, beq_eq_false_iff_ne, ne_eq] at hz
      obtain ⟨a1, a2, a3, a4, a5, a6, a7, a8, a9⟩ := hz
      refine (hz8 z ?_).trans ?_
      · simp [a1, a2, a3, a4, a5, a6, a7]
      · simp only [if_neg a8, if_neg a9]
        exact hzE.trans (hm2 z hz')
  case fin =>
    intro i
    refine InvM.fin ?_
    intro rows tw ts hs e3 vl e4 m1 hro hrl hrh hhs hvl hm1 hm2 h7 tk7 F7 N7
    have F8 := ksw_fr (stored := []) (m₀ := m1) hm1 (fun _ _ _ => rfl) F7
    simp only [List.contains_nil, Bool.false_eq_true, if_false] at F8
    dsimp only [kstB] at F8
    have F8' : Fr g' L' h7 _ := F8
    have N8 : News g' L' h7 _ := N7
    clear F7 N7 F8
    have hrl2 : rows.length = ds.length := by omega
    k_steps
    rename News h₀ L _ _ => N9
    rename (@LT.lt Nat _ D4 _ ∧ _) => hlR
    refine hret _ [_, _, _] _ _ (by assumption) (News.pick N9 7 [0, 1, 2, 6]) ?ord ⟨_, D3, D4, rows, hs, vl, e3, e4, tw, ts, rfl, rfl, hro, hrl2, hrh, hhs, hvl⟩
    case ord =>
      intro q hq q2 hq2
      simp only [List.mem_cons, List.not_mem_nil, or_false] at hq2
      rcases hq2 with h | h | h
      · subst h
        refine allLt_lt ?_ q hq
        exact hlR.2.2.2.2.2
      · subst h
        refine allLt_lt ?_ q hq
        exact hl4.2.2.2.2
      · subst h
        refine allLt_lt ?_ q hq
        exact hl3.2.2.2
end Mine
end
-- part CompS
section
theorem Mine.offCompS : True := by
  w_top off
  k_with_none
  trivial
open PySem PySem.W PyProof.Rows PySem.Calls
open PyProof.Rows.LCg PyProof.Rows.LCt
set_option Elab.async false
set_option maxRecDepth 100000
set_option linter.unusedVariables false
namespace Mine
section
variable {prog : Program} {w : World} {A : Around} {E : Value → Shared → Prop} {s : Shared} {h₀ : Heap} {L : Addr} {m : Str → Option Value} {env : Env}
/-- a list comprehension with a test over the signs of a str -/
theorem comp_str {ct elt iter : PySem.Expr} {x : Str} {px : Pos} {scope : Scope} {cl : List (Str × Addr)} {pos : Pos} {Q : Value → Shared → Prop} (hh : A.handled = none)
    (hclos : closureFor scope env = pure cl) (hcell : ∀ y ∈ scope.names, y.2 ≠ .cell) (hkind : scope.kind = .function)
    (hnames : ∀ y ∈ scope.names, y.2 = .local → scope.names.lookup y.1 = some .local) (hx : scope.names.lookup x = some .local)
    (h : wpAny (model prog w) A (eval iter env) (fun xv s₁ => ∃ tx t news, xv = .str tx t ∧ Fr h₀ L s₁.heap m ∧ News h₀ L s₁.heap news ∧ tx.cps.size ≤ sizeLine ∧
      ∀ g, CompRestT prog w A h₀ L m env ct elt x scope cl { s₁ with heap := g } (fun _ => True) (SignAt tx) (FinE h₀ L m { s₁ with heap := g } Q) tx.cps.size 0 [] news) E s)
    (hs : ∀ x, foldedSetIterable iter env x = pure x := by intro _; rfl) :
    wpAny (model prog w) A (eval (.ListComp elt [⟨.Name x px, iter, [ct], 0⟩] scope pos) env) Q E s := by
  rw [eval_ListComp]
  refine wpAny_comprehension_free (use := none) rfl hs hclos hkind hnames (wpAny_mono h (fun xv s₁ h₁ => ?_) fun _ _ e => e)
  obtain ⟨tx, t, news, rfl, F, N, hsz, R⟩ := h₁
  have go : ∀ (T : String) (o : Obj) (RR : Value → Addr → Result → Shared → Prop), Walks prog w A s₁.heap.objs.size [s₁.heap.objs.size] [s₁.heap.objs.size] tx.cps.size (SignAt tx) (fun i h => h.IsStrIter s₁.heap.objs.size T tx t i) →
      (s₁.heap.push o).IsStrIter s₁.heap.objs.size T tx t 0 → 
      (∀ D C h tk m' ys news', Fr h₀ L h m → News h₀ L h ((D, PyProof.Rows.LCg.lst ys) :: news') → Off1 D news' → h.Ns C m' → h₀.get? C = none → h₀.get? D = none → C ≠ L → D ≠ L → C ≠ D → (∀ p ∈ news', p.1 ≠ C) → FinE h₀ L m { s₁ with heap := s₁.heap.push o } Q ys news' → RR (.ref D) C (.ok .next) { s₁ with heap := h, toks := tk }) →
      wpAny (model prog w) A (newList []) (fun acc s₃ => wpAny (model prog w) A (newFunctionEnv scope env.globals cl [] env.qual none .none (some env)) (fun cenv s₄ =>
      codeAny (model prog w) A (.compStart (.ListComp elt [⟨.Name x px, iter, [ct], 0⟩] scope pos) 0 (.ref s₁.heap.objs.size) acc { cenv with scope := relabel scope env }) (RR acc cenv.locals) s₄) E s₃) E { s₁ with heap := s₁.heap.push o } := by
    intro T o RR W hst hRR
    refine block_T (s₂ := { s₁ with heap := s₁.heap.push o }) W hsz (fun i h st => by obtain ⟨o, e, _⟩ := st; exact ⟨o, e⟩) ?_ hcell hkind hx hst (fun b hb => ?_)
      (F.keeps fun _ _ e => Heap.get?_push_of_some _ e) (N.grown fun _ _ e => Heap.get?_push_of_some _ e) (Nat.ne_of_lt F.ns.lt) (next_is_new F) (fun p hp => Nat.ne_of_lt (Heap.lt_size (N p hp).1)) trivial (R _) ?_
    · intro i h h' o nw st e1 e2 _ _ _
      obtain ⟨o', e, r⟩ := st
      rw [e1] at e
      cases e
      exact ⟨_, e2, r⟩
    · rw [List.mem_singleton.mp hb]
      show s₁.heap.objs.size < (s₁.heap.push _).objs.size
      rw [Heap.size_push]; exact Nat.lt_succ_self _
    · exact hRR
  have fin : ∀ (o : Obj) D C h tk m' ys news', Fr h₀ L h m → News h₀ L h ((D, PyProof.Rows.LCg.lst ys) :: news') → Off1 D news' → h.Ns C m' → h₀.get? C = none → h₀.get? D = none → C ≠ L → D ≠ L → C ≠ D → (∀ p ∈ news', p.1 ≠ C) → FinE h₀ L m { s₁ with heap := s₁.heap.push o } Q ys news' →
      ∃ m', h.Ns C m' ∧ ∀ h'' : Heap, Heap.SameBut C h h'' → Q (.ref D) { s₁ with heap := h'', toks := tk } := by
    intro o D C h tk m' ys news' F' N' o1 hn hC₀ hD₀ hCL hDL hCD offC fin
    refine ⟨m', hn, fun h'' hs'' => fin D h'' tk (F'.change hs'' hCL hC₀) (fun p hp => ?_) o1⟩
    refine ⟨hs''.extBut _ _ ?_ (N' p hp).1, (N' p hp).2⟩
    rcases List.mem_cons.mp hp with rfl | hp
    · exact Ne.symm hCD
    · exact offC p hp
  cases ha : tx.cps.all (· < 128)
  · refine wpAny_pyIter_wide ha ?_
    exact go "str_iterator" _ _ (Walks.strWide hh _ tx t) ⟨_, Heap.get?_push_size _ rfl, rfl, rfl⟩ (fin _)
  · refine wpAny_pyIter_ascii ha ?_
    exact go "str_ascii_iterator" _ _ (Walks.strAscii hh _ tx t) ⟨_, Heap.get?_push_size _ rfl, rfl, rfl⟩ (fin _)
end
end Mine
end
-- part CompI
section
theorem Mine.offCompI : True := by
  w_top off
  k_with_none
  trivial
open PySem PySem.W PyProof.Rows PySem.Calls
open PyProof.Rows.LCg PyProof.Rows.LCt
set_option Elab.async false
set_option maxRecDepth 100000
set_option linter.unusedVariables false
namespace Mine
theorem comp_ind {prog : Program} {w : World} {A : Around} {s : Shared} {h₀ : Heap} {L : Addr} {m : Str → Option Value} {env : Env} {ct elt : PySem.Expr} {x : Str} {scope : Scope} {cl : List (Str × Addr)} {P : Nat → Value → Prop} {Fin : List Value → List (Addr × Obj) → Prop} {n : Nat} {news : List (Addr × Obj)} (Inv : Nat → List Value → Prop)
    (turn : ∀ i v ys, i < n → P i v → Inv i ys → ∀ I oI C oC D m₂ h tk (E' : Value → Shared → Prop), NsObj oC m₂ → m₂ x = some v → Fr h₀ L h m → News h₀ L h ((I, oI) :: (C, oC) :: (D, PyProof.Rows.LCg.lst ys) :: news) → Off3 I C D news → ((@Ne Nat I C) ∧ (@Ne Nat I D) ∧ (@Ne Nat C D)) →
      wpAny (model prog w) A (isTrue ct (compEnvC scope cl C env) (eval ct (compEnvC scope cl C env))) (fun ok s' => if ok = true then
        wpAny (model prog w) A (eval elt (compEnvC scope cl C env)) (fun y s₂ => CompEnd h₀ L m { s with heap := h, toks := tk } I oI C oC D (PyProof.Rows.LCg.lst ys) (fun _ => True) (fun y news' => news' = news ∧ Inv (i + 1) (ys ++ [y])) y s₂) E' s'
        else CompEnd h₀ L m { s with heap := h, toks := tk } I oI C oC D (PyProof.Rows.LCg.lst ys) (fun _ => True) (fun _ news' => news' = news ∧ Inv (i + 1) ys) Value.none s') E' { s with heap := h, toks := tk })
    (fin : ∀ ys, Inv n ys → Fin ys news) : ∀ (k i : Nat) (ys : List Value), i + k = n → Inv i ys → CompRestT prog w A h₀ L m env ct elt x scope cl s (fun _ => True) P Fin k i ys news
  | 0, i, ys, e, hI => fin ys (by rw [← e]; exact hI)
  | k + 1, i, ys, e, hI => by
    refine CompRestT.succ (fun v I oI C oC D m₂ h tk E' hP hC hx F N off ne => ?_)
    refine wpAny_mono (turn i v ys (by omega) hP hI I oI C oC D m₂ h tk E' hC hx F N off ne) (fun ok s' q => ?_) fun _ _ e => e
    have hk : i + 1 + k = n := by omega
    cases ok with
    | true =>
      simp only [if_true] at q ⊢
      refine wpAny_mono q (fun y s₂ ⟨h', tk', nw, e1, F', N', o', hS, e2, hi⟩ => ?_) fun _ _ e => e
      subst e2
      exact ⟨h', tk', nw, e1, F', N', o', hS, comp_ind Inv turn fin k (i + 1) _ hk hi⟩
    | false =>
      simp only [Bool.false_eq_true, if_false] at q ⊢
      obtain ⟨h', tk', nw, e1, F', N', o', hS, e2, hi⟩ := q
      subst e2
      exact ⟨h', tk', nw, e1, F', N', o', hS, comp_ind Inv turn fin k (i + 1) _ hk hi⟩
theorem comp_str1 {prog : Program} {w : World} {A : Around} {E : Value → Shared → Prop} {s : Shared} {h₀ : Heap} {L : Addr} {m : Str → Option Value} {env : Env} {ct elt iter : PySem.Expr} {x : Str} {px : Pos} {scope : Scope} {cl : List (Str × Addr)} {pos : Pos} {Q : Value → Shared → Prop} {tx : Str} {t : Tok} {news : List (Addr × Obj)} (hh : A.handled = none)
    (hclos : closureFor scope env = pure cl) (hcell : ∀ y ∈ scope.names, y.2 ≠ .cell) (hkind : scope.kind = .function)
    (hnames : ∀ y ∈ scope.names, y.2 = .local → scope.names.lookup y.1 = some .local) (hx : scope.names.lookup x = some .local)
    (hev : ∀ Q' : Value → Shared → Prop, Q' (.str tx t) s → wpAny (model prog w) A (eval iter env) Q' E s) (F : Fr h₀ L s.heap m) (N : News h₀ L s.heap news) (hsz : tx.cps.size ≤ sizeLine)
    (h : ∀ g, CompRestT prog w A h₀ L m env ct elt x scope cl { s with heap := g } (fun _ => True) (SignAt tx) (FinE h₀ L m { s with heap := g } Q) tx.cps.size 0 [] news)
    (hs : ∀ x, foldedSetIterable iter env x = pure x) :
    wpAny (model prog w) A (eval (.ListComp elt [⟨.Name x px, iter, [ct], 0⟩] scope pos) env) Q E s :=
  comp_str hh hclos hcell hkind hnames hx (hev _ ⟨tx, t, news, rfl, F, N, hsz, h⟩) hs
end Mine
end
-- part HearL
section
theorem Mine.offHearL : True := by
  w_top off
  k_with_none
  trivial
open PySem PySem.W PyProof.Rows PySem.Calls
open PySem.Builtin PySem.Builtin.Str PySem.StrLaws
set_option Elab.async false
set_option maxRecDepth 100000
set_option linter.unusedVariables false
namespace Mine
theorem glue_fold : ∀ (l : List Str) (a : Array Nat), (l.foldl (fun (acc : Array Nat) (p : Str) => acc ++ (Str.ofString "").cps ++ p.cps) a).toList = a.toList ++ l.flatMap fun p => p.cps.toList
  | [], a => by simp
  | p :: r, a => by
    have e : (Str.ofString "").cps = #[] := by decide +kernel
    rw [List.foldl_cons, glue_fold r]
    simp [e]
theorem join_to (l : List Str) : (Txt.join (Str.ofString "") l).cps.toList = l.flatMap fun p => p.cps.toList := by
  cases l with
  | nil => decide +kernel
  | cons p r =>
    have e := glue_fold r p.cps
    rw [List.flatMap_cons]
    exact e
theorem hear_of {r : Row} (hr : r ∈ allRows) : Txt.join (Str.ofString "") ((r.loud.cps.toList.filter fun (c : Nat) => !inC8 c).map fun (c : Nat) => mapB3 c) = r.heard ∧ (((r.loud.cps.toList.filter fun (c : Nat) => !inC8 c).map fun (c : Nat) => mapB3 c).map (·.length)).sum + ((r.loud.cps.toList.filter fun (c : Nat) => !inC8 c).map fun (c : Nat) => mapB3 c).length ≤ 1048576 := by
  have h := List.all_eq_true.mp hear_all r hr
  simp only [hearOk, Bool.and_eq_true, beq_iff_eq] at h
  obtain ⟨h1, h2⟩ := h
  have hl := (loud_of hr).2.2.2.2.2.1
  have hin : ∀ c ∈ r.loud.cps.toList, c ∈ signs := fun c hc => by simpa using List.all_eq_true.mp h1 c hc
  have hq : ∀ c ∈ r.loud.cps.toList, inC8 c = quiet c := fun c hc => by simpa using List.all_eq_true.mp signs_c8 c (hin c hc)
  have hb : ∀ c ∈ r.loud.cps.toList, quiet c = false → (mapB3 c).cps.toList = heardOf c := fun c hc q => by
    have := List.all_eq_true.mp signs_b3 c (hin c hc)
    simpa [q] using this
  have e1 : (r.loud.cps.toList.filter fun (c : Nat) => !inC8 c) = r.loud.cps.toList.filter fun c => !quiet c := List.filter_congr fun c hc => by rw [hq c hc]
  rw [e1]
  have hb2 : ∀ c ∈ (r.loud.cps.toList.filter fun c => !quiet c), (mapB3 c).cps.toList = heardOf c := fun c hc => by
    obtain ⟨a, b⟩ := List.mem_filter.mp hc
    exact hb c a (by simpa using b)
  have hfl : (r.loud.cps.toList.filter fun c => !quiet c).length ≤ 10 := Nat.le_trans (List.length_filter_le ..) (by simpa [Str.length] using hl)
  generalize (r.loud.cps.toList.filter fun c => !quiet c) = S at *
  constructor
  · apply Str.ext'
    apply Array.toList_inj.mp
    rw [join_to, ← h2, List.flatMap_map]
    clear h2 hfl e1
    induction S with
    | nil => rfl
    | cons c S ih =>
      rw [List.flatMap_cons, List.flatMap_cons, hb2 c (List.mem_cons_self ..), ih fun x hx => hb2 x (List.mem_cons_of_mem _ hx)]
  · have hs : ∀ l : List Nat, (∀ c ∈ l, (mapB3 c).cps.toList = heardOf c) → ((l.map fun (c : Nat) => mapB3 c).map (·.length)).sum ≤ 2 * l.length := by
      intro l
      induction l with
      | nil => intro _; simp
      | cons c l ih =>
        intro hh
        have h3 := ih fun x hx => hh x (List.mem_cons_of_mem _ hx)
        have h4 := hh c (List.mem_cons_self ..)
        have h5 : (heardOf c).length ≤ 2 := by unfold heardOf; split <;> (try split) <;> (try split) <;> simp
        have h6 : (mapB3 c).length = (heardOf c).length := by rw [← h4]; simp [Str.length]
        simp only [List.map_cons, List.sum_cons, List.length_cons]
        omega
    have := hs S hb2
    rw [List.length_map]
    omega
end Mine
end
-- part Qdt
section
theorem Mine.offQdt : True := by
  w_top off
  k_with_none
  trivial
open PySem PySem.W PyProof.Rows PySem.Calls
set_option Elab.async false
set_option maxRecDepth 100000
set_option maxHeartbeats 0
set_option linter.unusedVariables false
namespace Mine
theorem pat_of {h : Heap} {K : Frag} (X : K.In h) {P T : Addr} {code : Array Nat} {o ot : Obj} {fs items : Array Value} {n : Nat} (h1 : K.lookup P = some o) (h2 : K.lookup T = some ot) (c1 : o.cls = .type "re.Pattern") (c2 : o.dict = none) (c3 : o.data = .fields fs) (c4 : fs.getD 6 .none = rawInt 0) (c5 : fs.getD 2 .none = rawInt 0) (c6 : fs.getD 5 .none = .ref T)
    (d1 : ot.cls = .type "tuple") (d2 : ot.data = .seq items n) (d3 : items.map (fun v => (PySem.Builtin.Re.reRawOf v).toNat) = code) : PatAt h P code := ⟨o, fs, T, ot, items, n, X _ _ h1, c1, c2, c3, c4, c5, c6, X _ _ h2, d1, d2, d3⟩
theorem pat1 {h : Heap} {P : Params} (X : (myK P).In h) : PatAt h 118 code1 :=
  pat_of (K := myK P) X (P := 118) (T := 117) rfl rfl rfl rfl rfl rfl rfl rfl rfl rfl (by decide +kernel)
theorem pat2 {h : Heap} {P : Params} (X : (myK P).In h) : PatAt h 123 code2 :=
  pat_of (K := myK P) X (P := 123) (T := 122) rfl rfl rfl rfl rfl rfl rfl rfl rfl rfl (by decide +kernel)
theorem sub2_len : ∀ l : List Nat, (sub2 l).length ≤ 2 * l.length := by
  intro l
  fun_induction sub2 l with
  | case1 => exact Nat.le_refl _
  | case2 r ih => simp only [List.length_cons]; omega
  | case3 c r h hc ih => simp only [List.length_cons]; omega
  | case4 c r h hc ih => simp only [List.length_cons]; omega
theorem qdt_spec (w : World) (p : Program) (loose : List Str) (mean : ExcName → Option Value) (mg mb : Str → Option Value) (news : Led) (x : Str) (tc : Tok) (hx : x.cps.size ≤ 400) :
   FSpec w p loose mean mg mb 130 [.str x tc] [] news 4 20 (fun r tl => (∃ y t, r = .str y t ∧ y.cps.toList = sub1 true (sub2 x.cps.toList)) ∧ tl = []) := by
  have on1 := On.mk "getMethod ref"
  unfold FSpec
  k_fill
  intro dp un gd cn cs ad ccd cl outer A₀ base h₀ L m s Q E B F X N T hk hd hu hret
  refine wpAny_call ?_
  k_dflt cell_enter
  k_steps
  unfold Stop
  (k_here; k_dflt (refine' meth_sub (pat1 ?X) ?_; (case X => k_in)))
  k_steps
  unfold Stop
  (k_here; k_dflt (refine' meth_sub (pat2 ?X) ?_; (case X => k_in)))
  k_steps
  rename Fr _ _ _ _ => F3
  rename News _ _ _ _ => N3
  rename Frag.In _ _ => X3
  have hs : x.cps.toList.length = x.cps.size := rfl
  have hs2 : SubTo x.cps (isEnd x.cps) (endLen x.cps x.cps.size) [13, 10] 0 (sub2 x.cps.toList) := by simpa using sub2_to x.cps.toList []
  refine call_sub (pat2 (X3.keeps F3.keep)) (finds2 (by omega)) (by omega) (by decide) (by decide +kernel) hs2 ?_
  intro h4 k4 u4 y4 hk4 hy4
  have F4 := F3.kept hk4
  have N4 := N3.grown hk4
  clear F3 N3
  have hl4 : y4.cps.size ≤ 800 := by
    have e : y4.cps.size = (sub2 x.cps.toList).length := by rw [← hy4]; rfl
    have := sub2_len x.cps.toList
    omega
  k_steps
  have hs1 : SubTo y4.cps (dotAt y4.cps) (fun x => 1) [46, 46] 0 (sub1 true y4.cps.toList) := by simpa using sub1_to y4.cps.toList [] true rfl
  refine call_sub (pat1 (X3.keeps F4.keep)) (finds1 (by omega)) (by omega) (by decide) (by decide +kernel) hs1 ?_
  intro h5 k5 u5 y5 hk5 hy5
  have F5 := F4.kept hk5
  have N5 := N4.grown hk5
  clear F4 N4
  k_steps
  exact hret _ [] _ _ (by assumption) (by assumption) (fun _ _ _ h => nomatch h) ⟨⟨_, _, rfl, by rw [hy5, hy4]⟩, rfl⟩
end Mine
end
-- part LineT
section
theorem Mine.offLineT : True := by
  w_top off
  k_with_none
  trivial
open PySem PySem.W PyProof.Rows PySem.Calls
open PyProof.Rows.LCg PyProof.Rows.LCt
set_option Elab.async false
set_option maxRecDepth 100000
set_option maxHeartbeats 0
set_option linter.unusedVariables false
namespace Mine
noncomputable def forBody : Stmt → List Stmt
  | .For _ _ b _ _ => b
  | _ => []
noncomputable abbrev lineB : List Stmt := by
  refine (?f : (d : List Stmt) → Same d (forBody (myD.body.getD 7 default)) → List Stmt) _ (by
  conv in (occs := *) forBody _ => all_goals whnf
  exact same _)
  exact fun d _ => d
theorem lineT (w : World) (loose : List Str) (mean : ExcName → Option Value) (mg mb : Str → Option Value) (h₀ : Heap) (L fa : Addr) (cd : Value) (X : (myK w.params).In h₀) (T : Top topProg loose mean mg mb h₀) (B : Below callerA h₀ [] h₀)
   (I D9 Dl : Addr) (it o9 : Obj) (news : Led) (r : Row) (hr : r ∈ allRows) (ls : List Value) (e : Nat) (tl : Tok) (hls : ls.length ≤ 3) (hord : @LT.lt Nat _ Dl D9 ∧ @LT.lt Nat _ Dl I ∧ AllLt Dl news) (m₁ : Str → Option Value) (s : Shared) (P : Flow → Shared → Prop) (E : Value → Shared → Prop)
   (hm : ∀ p ∈ [(Str.ofString "line", Value.str r.loud tl), (Str.ofString "lines", .ref Dl)], m₁ p.1 = some p.2) (F₁ : Fr h₀ L s.heap m₁)
   (N : News h₀ L s.heap ((I, it) :: (D9, o9) :: (Dl, W.listOf (List.toArray ls) e) :: news))
   (fin : ∀ h tk t e', Fr h₀ L h m₁ → News h₀ L h ((I, it) :: (D9, o9) :: (Dl, W.listOf (List.toArray (ls ++ [.str r.heard t])) e') :: news) → P .next { s with heap := h, toks := tk }) :
   wpAny (model PySem.Challenge.rw_sn0092_01.row.prog w) (callerA.deeper (envOf myD.name myD.scope L fa cd)) (execs lineB (envOf myD.name myD.scope L fa cd)) P E s := by
  have on1 := On.mk "call ref"
  have on2 := On.mk "eval ListComp"
  have on3 := On.mk "CompEnd"
  revert X
  k_fill
  intro X
  have F := ksw_fr (stored := []) (m₀ := m₁) hm (fun _ _ _ => rfl) F₁
  have hE := funext (fun z => kstB_eq (m₁ := m₁) (rest := m₁) (z := z) hm (fun _ => rfl))
  simp only [List.contains_nil, Bool.false_eq_true, if_false] at F
  dsimp only [kstB] at F hE
  clear F₁ hm
  k_steps
  unfold Stop
  rename Fr h₀ L _ _ => F2
  rename News h₀ L _ _ => N2
  obtain ⟨hj, hjw⟩ := hear_of hr
  have hsz : r.loud.cps.size ≤ sizeLine := by
    have := (loud_of hr).2.2.2.2.2.1
    simp only [Str.length] at this
    rw [sizeLine_eq]
    omega
  k_dflt (refine' comp_str1 (tx := r.loud) (t := tl) rfl ?q1 ?q2 ?q3 ?q4 ?q5 ?q7 F2 N2 hsz ?_ ?q6; (case q1 => with_unfolding_all rfl); (case q2 => decide); (case q3 => rfl); (case q4 => decide); (case q5 => rfl); (case q6 => (intro _; rfl)))
  case q7 =>
    intro Q' hQ'
    k_steps
    exact hQ'
  intro g
  refine comp_ind (fun i ys => StrsAre ys (((r.loud.cps.toList.take i).filter fun (c : Nat) => !inC8 c).map fun (c : Nat) => mapB3 c)) ?turn ?fin _ 0 [] (Nat.zero_add _) .nil
  case turn =>
    rintro i v ys hi ⟨c, u, hc, rfl⟩ hys I2 oI C oC D m₂ h5 tk5 E' hC hx2 F5 N5 off5 ne5
    have hc2 : r.loud.cps.toList[i]? = some c := by simpa using hc
    cases hq : inC8 c with
    | true =>
      have hnx : ((r.loud.cps.toList.take (i + 1)).filter fun (c : Nat) => !inC8 c) = (r.loud.cps.toList.take i).filter fun (c : Nat) => !inC8 c := by
        rw [List.take_add_one, hc2, List.filter_append]
        simp [hq]
      rw [hnx]
      k_steps
      unfold Stop
      refine FSpec.use (c8_spec w topProg loose mean mg mb _ c u) B F5 X N5 T rfl (by decide) (by decide) ?_
      intro r2 tl2 h6 tk6 F6 N6 l6 hR
      obtain ⟨rfl, rfl⟩ := hR
      rw [hq]
      dsimp only [List.nil_append] at N6
      k_steps
      unfold Stop
      exact ⟨h6, _, _, rfl, F6, N6, off5, trivial, rfl, hys⟩
    | false =>
      have hnx : ((r.loud.cps.toList.take (i + 1)).filter fun (c : Nat) => !inC8 c) = ((r.loud.cps.toList.take i).filter fun (c : Nat) => !inC8 c) ++ [c] := by
        rw [List.take_add_one, hc2, List.filter_append]
        simp [hq]
      rw [hnx]
      k_steps
      unfold Stop
      refine FSpec.use (c8_spec w topProg loose mean mg mb _ c u) B F5 X N5 T rfl (by decide) (by decide) ?_
      intro r2 tl2 h6 tk6 F6 N6 l6 hR
      obtain ⟨rfl, rfl⟩ := hR
      rw [hq]
      dsimp only [List.nil_append] at N6
      k_steps
      unfold Stop
      refine FSpec.use (b3_spec w topProg loose mean mg mb _ c u) B F6 X N6 T rfl (by decide) (by decide) ?_
      intro r3 tl3 h7 tk7 F7 N7 l7 hR
      obtain ⟨⟨t7, rfl⟩, rfl⟩ := hR
      dsimp only [List.nil_append] at N7
      k_steps
      unfold Stop
      refine ⟨h7, _, _, rfl, F7, N7, off5, trivial, rfl, ?_⟩
      rw [List.map_append]
      exact hys.append' (.cons _ _ .nil)
  case fin =>
    intro ys hys D8 h8 tk8 F8 N8 o8
    rw [List.take_of_length_le (by simp)] at hys
    k_steps
    have hl8 : h8.IsList D8 ys.toArray := ⟨_, (N8 _ (List.mem_cons_self ..)).1, rfl, _, rfl⟩
    have N9 : News h₀ L h8 ((I, it) :: (D9, o9) :: (Dl, W.listOf (List.toArray ls) e) :: news) := fun q hq => N8 q (List.mem_cons_of_mem _ hq)
    refine join_listW hl8 hys (by decide +kernel) hjw ?_
    intro t9 k9
    rw [hj]
    dsimp only
    clear N8 N2 F2
    k_steps
    rename Fr h₀ L _ _ => F10
    rename News h₀ L _ _ => N10
    rw [List.push_toArray] at N10
    rw [hE] at F10
    exact fin _ _ _ _ F10 N10
end Mine
end
-- part HalfT
section
theorem Mine.offHalfT : True := by
  w_top off
  k_with_none
  trivial
open PySem PySem.W PyProof.Rows PySem.Calls
set_option Elab.async false
set_option maxRecDepth 100000
set_option maxHeartbeats 0
set_option linter.unusedVariables false
namespace Mine
noncomputable abbrev halfB : List Stmt := by
  refine (?f : (d : List Stmt) → Same d (forBody (myD.body.getD 10 default)) → List Stmt) _ (by
  conv in (occs := *) forBody _ => all_goals whnf
  exact same _)
  exact fun d _ => d
local macro_rules | `(tactic| k_all) => `(tactic| assumption)
theorem apart_mid {P : Addr} {S : TabS} {a b x : Addr × Obj} {r : Led} (h : apart P S (a :: b :: r)) (h1 : x.1 ≠ P) (h2 : ∀ c o, S = some (c, o) → x.1 ≠ c) : apart P S (a :: b :: x :: r) := by
  refine ⟨fun p hp => ?_, fun c o e => ⟨(h.2 c o e).1, fun p hp => ?_⟩⟩
  · simp only [List.mem_cons] at hp
    rcases hp with q | q | q | q
    · exact h.1 p (by simp [q])
    · exact h.1 p (by simp [q])
    · rw [q]; exact h1
    · exact h.1 p (by simp [q])
  · simp only [List.mem_cons] at hp
    rcases hp with q | q | q | q
    · exact (h.2 c o e).2 p (by simp [q])
    · exact (h.2 c o e).2 p (by simp [q])
    · rw [q]; exact h2 c o e
    · exact (h.2 c o e).2 p (by simp [q])
theorem tab_ne {Dh : Addr} {S : TabS} {base : Led} (h1 : Dh ≠ 41) (h2 : ∀ c o, S = some (c, o) → Dh ≠ c) (h3 : ∀ p ∈ base, p.1 ≠ Dh) : ∀ p ∈ tabL 41 47 4 S ++ base, p.1 ≠ Dh := by
  intro p hp
  rcases List.mem_append.mp hp with h | h
  · cases S with
    | none => rw [List.mem_singleton.mp h]; exact Ne.symm h1
    | some q =>
      obtain ⟨c, o⟩ := q
      simp only [List.mem_cons, List.not_mem_nil, or_false] at h
      rcases h with h | h
      · subst h; exact Ne.symm h1
      · subst h; exact Ne.symm (h2 c o rfl)
  · exact h3 p h
theorem num_of {z : Str × Int} (h : z ∈ nums) : z.1.length ≤ 10 ∧ stripSame Unicode.isSpace false true z.1 = true ∧ 1 ≤ (unsc z.1).length ∧ (unsc z.1).length ≤ 3 ∧ PySem.intText? (Txt.slice (unsc z.1) (some 0) (some (unsc z.1).length)) = some z.2 ∧ (Txt.slice (unsc z.1) (some 0) (some (unsc z.1).length)).length ≤ 640 := by
  have := List.all_eq_true.mp nums_ok z h
  simp only [okNum, Bool.and_eq_true, decide_eq_true_eq, beq_iff_eq] at this
  obtain ⟨⟨⟨⟨⟨a, b⟩, c⟩, d⟩, e⟩, f⟩ := this
  exact ⟨a, b, c, d, e, f⟩
theorem halfT (w : World) (loose : List Str) (mean : ExcName → Option Value) (mg mb : Str → Option Value) (h₀ : Heap) (L fa : Addr) (cd : Value) (X : (myK w.params).In h₀) (T : Top topProg loose mean mg mb h₀) (B : Below callerA h₀ [] h₀) (C1 : CodeHd h₀ 45 41)
   (I D9 Dh : Addr) (it o9 : Obj) (base : Led) (S : TabS) (hS : tabOk q1 S) (hap : apart 41 S ((I, it) :: (D9, o9) :: base)) (hD41 : Dh ≠ 41) (hDS : ∀ c o, S = some (c, o) → Dh ≠ c) (r : Row) (hr : r ∈ allRows) (hv : List Value) (e : Nat) (tl : Tok) (hls : hv.length ≤ 3) (hn1 : @Ne Nat D9 Dh) (hn2 : @Ne Nat I Dh) (hn3 : ∀ p ∈ base, p.1 ≠ Dh) (m₁ : Str → Option Value) (s : Shared) (P : Flow → Shared → Prop) (E : Value → Shared → Prop)
   (hm : ∀ p ∈ [(Str.ofString "line", Value.str r.heard tl), (Str.ofString "half", .ref Dh)], m₁ p.1 = some p.2) (F₁ : Fr h₀ L s.heap m₁)
   (N : News h₀ L s.heap ((I, it) :: (D9, o9) :: (Dh, W.listOf (List.toArray hv) e) :: (tabL 41 47 4 S ++ base)))
   (fin : ∀ (s' : Shared) t e' S', s'.os = s.os → s'.gens = s.gens → tabOk q1 S' → apart 41 S' ((I, it) :: (D9, o9) :: base) → (∀ c o, S' = some (c, o) → Dh ≠ c) → Fr h₀ L s'.heap m₁ → News h₀ L s'.heap ((I, it) :: (D9, o9) :: (Dh, W.listOf (List.toArray (hv ++ [.int r.size t])) e') :: (tabL 41 47 4 S' ++ base)) → P .next s') :
   wpAny (model PySem.Challenge.rw_sn0092_01.row.prog w) (callerA.deeper (envOf myD.name myD.scope L fa cd)) (execs halfB (envOf myD.name myD.scope L fa cd)) P E s := by
  have on1 := On.mk "call ref"
  revert X
  k_fill
  intro X
  have F := ksw_fr (stored := []) (m₀ := m₁) hm (fun _ _ _ => rfl) F₁
  have hE := funext (fun z => kstB_eq (m₁ := m₁) (rest := m₁) (z := z) hm (fun _ => rfl))
  simp only [List.contains_nil, Bool.false_eq_true, if_false] at F
  dsimp only [kstB] at F hE
  clear F₁ hm
  have lr := (loud_of hr).2.2.2.2.2.2.1
  have hrd := List.all_eq_true.mp read_all r hr
  obtain ⟨nw, hnw⟩ : ∃ nw, nw = tabL 41 47 4 S ++ base := ⟨_, rfl⟩
  rw [← hnw] at N
  have hnn : ∀ p ∈ nw, p.1 ≠ Dh := by rw [hnw]; exact tab_ne hD41 hDS hn3
  k_steps
  · unfold Stop
    rename Fr h₀ L _ _ => F2
    rename News h₀ L _ _ => N2
    have hno : Txt.slice r.heard none (some 2) = Str.ofString "no" := by
      rename (_ == Str.ofString "no") = true => hq
      simpa using hq
    unfold readOk at hrd
    rw [if_pos hno, List.any_eq_true] at hrd
    obtain ⟨z, hz, hz2⟩ := hrd
    simp only [Bool.and_eq_true, beq_iff_eq] at hz2
    rw [← hz2.1]
    obtain ⟨n1, n2, n3, n4, n5, n6⟩ := num_of hz
    have N3 : News h₀ L _ (tabL 41 47 4 S ++ ((I, it) :: (D9, o9) :: (Dh, W.listOf (List.toArray hv) e) :: base)) := News.sub N2 (by
      intro q hq
      rw [hnw]
      simp only [List.mem_append, List.mem_cons] at hq ⊢
      rcases hq with h | h | h | h | h <;> simp [h])
    refine ifs_spec w topProg loose mean mg mb _ z.1 _ S n1 z.2 n2 n3 n4 n5 n6 _ _ _ _ _ _ _ _ _ _ _ _ _ _ _ _ _ B F2 X C1 N3 hS (apart_mid hap hD41 hDS) T rfl (by decide) (by decide) ?_
    intro ret tl2 c' oc h9 tk9 d9 F9 N9 hok9 hap9 hT9 l9 hR
    obtain ⟨⟨t9, rfl⟩, rfl⟩ := hR
    have hDc : ∀ c o, (some (c', oc) : TabS) = some (c, o) → Dh ≠ c := fun c o ec => by
      cases ec
      exact (hap9.2 c' oc rfl).2 (Dh, W.listOf (List.toArray hv) e) (by simp)
    obtain ⟨nw2, hnw2⟩ : ∃ nw2, nw2 = tabL 41 47 4 (some (c', oc)) ++ base := ⟨_, rfl⟩
    have N10 : News h₀ L h9 ((I, it) :: (D9, o9) :: (Dh, W.listOf (List.toArray hv) e) :: nw2) := by
      rw [hnw2]
      exact News.pick N9 5 [2, 3, 4, 0, 1]
    have hnn2 : ∀ p ∈ nw2, p.1 ≠ Dh := by rw [hnw2]; exact tab_ne hD41 hDc hn3
    clear N9 N3 N2
    k_steps
    rename Fr h₀ L _ _ => F11
    rename News h₀ L _ _ => N11
    rw [List.push_toArray, hz2.2, hnw2] at N11
    rw [hE] at F11
    refine fin _ _ _ (some (c', oc)) ?_ ?_ hok9 (hap9.sub ?_) hDc F11 N11
    · rfl
    · rfl
    · intro p hp
      simp only [List.nil_append, List.mem_cons] at hp ⊢
      rcases hp with h | h | h <;> simp [h]
  · rename Fr h₀ L _ _ => F11
    rename News h₀ L _ _ => N11
    have hno : ¬ Txt.slice r.heard none (some 2) = Str.ofString "no" := by
      rename (_ == Str.ofString "no") = false => hq
      simpa using hq
    unfold readOk at hrd
    rw [if_neg hno, beq_iff_eq] at hrd
    rw [List.push_toArray, hrd, hnw] at N11
    rw [hE] at F11
    refine fin _ _ _ S ?_ ?_ hS hap hDS F11 N11
    · rfl
    · rfl
end Mine
end
-- part ForD
section
theorem Mine.offForD : True := by
  w_top off
  k_with_none
  trivial
open PySem PySem.W PyProof.Rows PySem.Calls
set_option Elab.async false
set_option maxRecDepth 100000
set_option linter.unusedVariables false
namespace Mine
/-- the end of a turn that may have drawn -/
noncomputable def EndD {σ : Type} (h₀ : Heap) (L I : Addr) (lp : Addr × Obj) (Inv : σ → (Str → Option Value) → Led → Shared → Prop) (s₂ : Shared) : Prop :=
  ∃ c' m' news' it', Fr h₀ L s₂.heap m' ∧ News h₀ L s₂.heap ((I, it') :: news') ∧ (∀ p ∈ news', p.1 ≠ I) ∧ lp ∈ news' ∧ Inv c' m' news' s₂
noncomputable def PostD {σ : Type} (h₀ : Heap) (L I : Addr) (lp : Addr × Obj) (it : Obj) (Inv : σ → (Str → Option Value) → Led → Shared → Prop) (Q : Flow → Shared → Prop) (f : Flow) (s₂ : Shared) : Prop :=
  match f with
  | .ret v => Q (.ret v) s₂
  | .brk => Q .next s₂
  | _ => ∃ c' m' news', Fr h₀ L s₂.heap m' ∧ News h₀ L s₂.heap ((I, it) :: news') ∧ (∀ p ∈ news', p.1 ≠ I) ∧ lp ∈ news' ∧ Inv c' m' news' s₂
section
variable {prog : Program} {w : World} {A : Around} {E : Value → Shared → Prop} {s : Shared} {h₀ : Heap} {env : Env} {x : Str} {px pos : Pos} {iter : PySem.Expr} {body : List Stmt} {Q : Flow → Shared → Prop}
theorem forD_loop {σ : Type} {l : Addr} {lo : Obj} {vs : List Value} {n : Nat} {m : Str → Option Value} {news : Led} (Inv : List Value → σ → (Str → Option Value) → Led → Shared → Prop)
    (hh : A.handled = none) (hx : env.kindOf x = some .local) (hp : (env.scope.kind == .class || (env.scope.kind == .module && env.locals != env.globals)) = false)
    (F : Fr h₀ env.locals s.heap m) (N : News h₀ env.locals s.heap news) (hm : (l, lo) ∈ news) (hc : lo.cls = .type "list") (hd : lo.data = .seq vs.toArray n)
    (keep : ∀ rem c m news s h tk, Inv rem c m news s → Inv rem c m news { s with heap := h, toks := tk })
    (start : ∃ c, Inv vs c m news s)
    (turn : ∀ (I : Addr) v r c m news (s : Shared), Inv (v :: r) c m news s → ∀ (it : Obj), it.cls = .type "list_iterator" → Fr h₀ env.locals s.heap (fun y => if y = x then some v else m y) → News h₀ env.locals s.heap ((I, it) :: news) → (∀ p ∈ news, p.1 ≠ I) → 
      wpAny (model prog w) A (execs body env) (PostD h₀ env.locals I (l, lo) it (Inv r) Q) E s)
    (fin : ∀ c m news (s : Shared), Inv [] c m news s → Fr h₀ env.locals s.heap m → News h₀ env.locals s.heap news → Q .next s)
    (hE : PassesOwn (model prog w) A env E) :
    wpAny (model prog w) A (pyIter (.ref l)) (fun it s₂ => codeAny (model prog w) A (.forLoop (.Name x px) it body [] env) (fun r s' => match r with | .ok f => Q f s' | .error e => cameBackBy (model prog w) A env E e s') s₂) E s := by
  have hax := N _ hm
  have hl : s.heap.IsList l vs.toArray := ⟨lo, hax.1, hc, n, hd⟩
  have hlt : l < s.heap.objs.size := Heap.lt_size hax.1
  have hne : l ≠ s.heap.objs.size := Nat.ne_of_lt hlt
  refine wpAny_pyIter_list hl ?_
  have W := Walks.list (prog := prog) (w := w) hh s.heap.objs.size l hne vs.toArray
  have hnew : h₀.get? s.heap.objs.size = none := next_is_new F
  have hlen : vs.toArray.size = vs.length := by simp
  rw [hlen] at W
  have hLI : env.locals ≠ s.heap.objs.size := fun e => absurd F.ns.lt (e ▸ Nat.lt_irrefl _)
  have hLl : env.locals ≠ l := fun e => hax.2.1 e.symm
  generalize hI : s.heap.objs.size = I at *
  obtain ⟨c, hinv⟩ := start
  let it0 : Obj := { cls := .type "list_iterator", data := .fields #[.ref l, .int 0 0] }
  refine codeAny_forLoop
    (fun k s' => ∃ i c m' news', (s'.heap.IsListIter I l i ∧ s'.heap.IsList l vs.toArray) ∧ Fr h₀ env.locals s'.heap m' ∧ News h₀ env.locals s'.heap news' ∧ (∀ p ∈ news', p.1 ≠ I) ∧ (l, lo) ∈ news' ∧ Inv (vs.drop i) c m' news' s' ∧ i ≤ vs.length ∧ k = vs.length + 1 - i) ?_ (vs.length + 1)
    ⟨0, c, m, news, ⟨⟨_, hI ▸ Heap.get?_push_size _ rfl, rfl, rfl⟩, hl.at fun o e => Heap.get?_push_of_some _ e⟩, F.push _, (fun p hp => ⟨Heap.get?_push_of_some _ (N p hp).1, (N p hp).2⟩), (fun p hp e => absurd (Heap.lt_size (N p hp).1) (by rw [hI, e]; exact Nat.lt_irrefl _)), hm, by rw [List.drop_zero]; exact keep _ _ _ _ s _ s.toks hinv, Nat.zero_le _, rfl⟩
  rintro k s' ⟨i, c', m', news', hst, F', N', hnI, hmem, hJ, hi, rfl⟩
  have next : ∀ h₁ : Heap, (∀ b o, b ∉ [I] → s'.heap.get? b = some o → h₁.get? b = some o) → Fr h₀ env.locals h₁ m' ∧ News h₀ env.locals h₁ news' := fun h₁ hk₁ =>
    ⟨⟨F'.ns.at' fun o e => hk₁ _ o (fun h => hLI (List.mem_singleton.mp h)) e, fun b o e => hk₁ b o (fun h => by rw [List.mem_singleton.mp h, hnew] at e; cases e) (F'.keep b o e), F'.above⟩,
      fun p hp => ⟨hk₁ _ _ (fun h => hnI p hp (List.mem_singleton.mp h)) (N' p hp).1, (N' p hp).2⟩⟩
  by_cases hlt2 : i < vs.length
  · refine W.item i _ _ _ hlt2 hst fun v h₁ tk₁ hP hst₁ hk₁ => ?_
    obtain ⟨F₁, N₁⟩ := next h₁ hk₁
    refine wpAny_assign_Name (wpAny_storeName_local hx F₁.ns (fun h₂ hn₂ hs₂ => ?_) hp)
    have F₂ := F₁.set hn₂ hs₂
    have N₂ := N₁.set hs₂
    obtain ⟨it, hit, hic, hid⟩ := hst₁.1
    have hit₂ : h₂.get? I = some it := (hs₂.2 I fun q => hLI q.symm).trans hit
    have N₃ : News h₀ env.locals h₂ ((I, it) :: news') := fun p hp => by
      rcases List.mem_cons.mp hp with rfl | hp
      · exact ⟨hit₂, fun e => hLI e.symm, hnew⟩
      · exact N₂ p hp
    have hdrop : vs.drop i = v :: vs.drop (i + 1) := by
      have hv : vs[i]? = some v := by simpa using hP
      rw [List.drop_eq_getElem_cons hlt2]
      congr 1
      exact Option.some.inj ((List.getElem?_eq_getElem hlt2).symm.trans hv)
    rw [hdrop] at hJ
    have T := turn I v (vs.drop (i + 1)) c' m' news' { s' with heap := h₂, toks := tk₁ + 1 } (keep _ _ _ _ s' h₂ (tk₁ + 1) hJ) it hic F₂ N₃ hnI
    refine wpAny_passesOwn hE (wpAny_mono T (fun f s₃ h₃ => ?_) fun _ _ e => e)
    have go : (∃ c' m' news', Fr h₀ env.locals s₃.heap m' ∧ News h₀ env.locals s₃.heap ((I, it) :: news') ∧ (∀ p ∈ news', p.1 ≠ I) ∧ (l, lo) ∈ news' ∧ Inv (vs.drop (i + 1)) c' m' news' s₃) →
        ∃ m, m < vs.length + 1 - i ∧ ∃ i c m' news', (s₃.heap.IsListIter I l i ∧ s₃.heap.IsList l vs.toArray) ∧ Fr h₀ env.locals s₃.heap m' ∧ News h₀ env.locals s₃.heap news' ∧ (∀ p ∈ news', p.1 ≠ I) ∧ (l, lo) ∈ news' ∧ Inv (vs.drop i) c m' news' s₃ ∧ i ≤ vs.length ∧ m = vs.length + 1 - i := by
      rintro ⟨c3, m3, news3, F3, N3, o3, hm3, hi3⟩
      refine ⟨vs.length + 1 - (i + 1), by omega, i + 1, c3, m3, news3, ⟨⟨it, (N3 _ (List.mem_cons_self ..)).1, hic, hid⟩, ⟨lo, (N3 _ (List.mem_cons_of_mem _ hm3)).1, hc, n, hd⟩⟩, F3, fun p hp => N3 p (List.mem_cons_of_mem _ hp), o3, hm3, hi3, hlt2, rfl⟩
    cases f with
    | ret v => exact h₃
    | brk => exact h₃
    | cont => exact go h₃
    | next => exact go h₃
  · have hin : i = vs.length := by omega
    subst hin
    refine W.done _ _ _ hst fun h₁ tk₁ hk₁ => wpAny_execs_nil ?_
    obtain ⟨F₁, N₁⟩ := next h₁ hk₁
    rw [List.drop_of_length_le (Nat.le_refl _)] at hJ
    exact fin c' m' news' _ (keep _ _ _ _ s' h₁ tk₁ hJ) F₁ N₁
theorem forD {P : Shared → Prop} (h : wpAny (model prog w) A (eval iter env) (fun xv s₁ => wpAny (model prog w) A (pyIter xv) (fun it s₂ => codeAny (model prog w) A (.forLoop (.Name x px) it body [] env) (fun r s' => match r with | .ok f => Q f s' | .error e => cameBackBy (model prog w) A env E e s') s₂) E s₁) E s)
    (hs : ∀ x, foldedSetIterable iter env x = pure x := by intro _; rfl) : wpAny (model prog w) A (exec (.For (.Name x px) iter body [] pos) env) Q E s := wpAny_For h hs
end
end Mine
end
-- part Law2
section
theorem Mine.offLaw2 : True := by
  w_top off
  k_with_none
  trivial
open PySem PySem.W PyProof.Rows PySem.Calls
set_option Elab.async false
set_option maxRecDepth 100000
set_option maxHeartbeats 0
set_option linter.unusedVariables false
namespace Mine
/-- the law's body from its statement k on -/
noncomputable abbrev LawSuf (k : Nat) (w : World) (L fa : Addr) (cd : Value) (s : Shared) (Q : Flow → Shared → Prop) (E : Value → Shared → Prop) : Prop :=
  wpAny (model PySem.Challenge.rw_sn0092_01.row.prog w) (callerA.deeper (envOf myD.name myD.scope L fa cd)) (execs (List.drop k myD.body) (envOf myD.name myD.scope L fa cd)) Q E s
theorem news_name3 {g h : Heap} {L a b c : Addr} {o o' o2 : Obj} {r : Led} (N : News g L h ((a, o) :: (b, o') :: (c, o2) :: r)) : ∃ l0, l0 = c := ⟨c, rfl⟩
noncomputable def InvL (D9 Dl : Addr) (o9 : Obj) (base : Led) (mB : Str → Option Value) (rows : List (Row × Str)) (rem : List Value) (c : List Value × Nat) (m : Str → Option Value) (n : Led) : Prop :=
  ∃ done todo : List (Row × Str), rows = done ++ todo ∧ StrsAre rem (todo.map (fun r => r.1.loud)) ∧ StrsAre c.1 (done.map (·.1.heard)) ∧ (∀ z, z ≠ Str.ofString "line" → m z = mB z) ∧ n = (D9, o9) :: (Dl, W.listOf (List.toArray c.1) c.2) :: base
theorem pick_last (vs : List Value) : slicePick vs.toArray none (some (-1)) none = (vs.dropLast).toArray := by
  have e : sliceBounds none (some (-1)) none vs.toArray.size = (((0 : Nat) : Int), ((vs.toArray.size - 1 : Nat) : Int), 1) := by
    simp only [sliceBounds, Option.getD_none, show (1 : Int) > 0 by decide, if_true, show ((-1 : Int) < 0) by decide]
    congr 1
    congr 1
    generalize vs.toArray.size = k
    cases k with
    | zero => rfl
    | succ k => simp only [Nat.add_sub_cancel]; omega
  rw [kmk_pick_nat _ e]
  rw [List.drop_zero, Nat.sub_zero, List.size_toArray, List.dropLast_eq_take]
theorem drop_strs {l : List (Str × Tok)} {xs : List Str} {y : Str} (h : l.map (·.1) = xs ++ [y]) : StrsAre (strValues l).dropLast xs := by
  have e : l.dropLast.map (·.1) = xs := by
    have := congrArg List.dropLast h
    rw [List.dropLast_concat] at this
    rw [← this, List.map_dropLast]
  rw [← e, strValues, ← List.map_dropLast]
  exact strsAre_of_values _
theorem law_2 (w : World) (loose : List Str) (mean : ExcName → Option Value) (mg mb : Str → Option Value) (h₀ : Heap) (L fa : Addr) (cd : Value) (s : Shared) (Q : Flow → Shared → Prop) (E : Value → Shared → Prop)
   (rows : List (Row × Str)) (hrows : RowsOk rows) (hr0 : rows ≠ []) (hr3 : rows.length ≤ 3) (D3 D4 : Addr) (hs vals : List Value) (e3 e4 : Nat) (tw ts : Tok) (m0 : Str → Option Value)
   (X : (myK w.params).In h₀) (T : Top topProg loose mean mg mb h₀) (B : Below callerA h₀ [] h₀) (hE : PassesOwn (model PySem.Challenge.rw_sn0092_01.row.prog w) (callerA.deeper (envOf myD.name myD.scope L fa cd)) (envOf myD.name myD.scope L fa cd) E)
   (F : Fr h₀ L s.heap (fun y => if y = Str.ofString "values" then some (.ref D4) else if y = Str.ofString "heard" then some (.ref D3) else if y = Str.ofString "sent" then some (.str (seS rows) ts) else if y = Str.ofString "written" then some (.str (wrS rows) tw) else m0 y))
   (N : News h₀ L s.heap [(D4, W.listOf (List.toArray vals) e4), (D3, W.listOf (List.toArray hs) e3), (41, tabObj #[]), (69, tabObj #[]), (76, tabObj #[])])
   (cont : ∀ (h : Heap) (tk : Nat) (Dl : Addr) (ls : List Value) (e : Nat) (m' : Str → Option Value), StrsAre ls (rows.map (·.1.heard)) → Fr h₀ L h m' → (∀ p ∈ [(Str.ofString "lines", Value.ref Dl), (Str.ofString "values", .ref D4), (Str.ofString "heard", .ref D3)], m' p.1 = some p.2) → AllLt Dl [(D4, W.listOf (List.toArray vals) e4), (D3, W.listOf (List.toArray hs) e3), (41, tabObj #[]), (69, tabObj #[]), (76, tabObj #[])] → News h₀ L h [(Dl, W.listOf (List.toArray ls) e), (D4, W.listOf (List.toArray vals) e4), (D3, W.listOf (List.toArray hs) e3), (41, tabObj #[]), (69, tabObj #[]), (76, tabObj #[])] → LawSuf 8 w L fa cd { s with heap := h, toks := tk } Q E) :
   LawSuf 4 w L fa cd s Q E := by
  have on1 := On.mk "call ref"
  have on2 := On.mk "call builtin:str.split"
  have on3 := On.mk "subscriptTail"
  have on4 := On.mk "exec For"
  have on5 := On.mk "pyIter ref"
  have on6 := On.mk "eval ListComp"
  unfold LawSuf
  revert X
  k_fill
  intro X
  have hl2 : (wrS rows).cps.size ≤ 400 := by
    have := wrS_len hrows
    omega
  k_steps
  unfold Stop
  rename Fr h₀ L _ _ => F2
  rename News h₀ L _ _ => N2
  refine FSpec.use (qdt_spec w topProg loose mean mg mb _ _ _ hl2) B F2 X N2 T rfl (by decide) (by decide) ?_
  intro r tl h2 tk2 F5 N5 l4 hR
  obtain ⟨⟨y, t4, rfl, hy⟩, rfl⟩ := hR
  have hy2 := quoted hrows hy
  subst hy2
  dsimp only [List.nil_append] at N5
  k_steps
  · rename (_ != _) = true => hbad
    simp at hbad
  unfold Stop
  k_dflt (refine' For_invV h₀ ?fx ?fp ?_ ?fs ?fe)
  (case fx => rfl)
  (case fp => rfl)
  (case fs => (intro _; rfl))
  (case fe => exact hE)
  k_steps
  unfold Stop
  rename Fr h₀ L _ _ => F6
  rename News h₀ L _ _ => N6
  have hse : (seS rows).length + 2 ≤ sizeLine := by
    have := seS_len hrows
    simp only [Str.length, sizeLine_eq]
    omega
  refine KSpl.split1 F6 N6 (by decide +kernel) ?_ hse
  intro D6 l6 h6 k6 hl6 hs6 F7 N7 lt6
  have hl7 : l6.map (·.1) = rows.map (fun r => r.1.loud) ++ [⟨#[]⟩] := hl6.trans (split_rows hrows hr0)
  dsimp only
  k_steps
  unfold Stop
  rename Fr h₀ L _ _ => F8
  rename News h₀ L _ _ => N8
  have hsz : (strValues l6).toArray.size ≤ sizeLine := by
    have e : (strValues l6).length = rows.length + 1 := by
      have := congrArg List.length hl7
      simpa [strValues] using this
    rw [List.size_toArray, e, sizeLine_eq]
    omega
  refine kba_turn (value' := PySem.Expr.Name (Str.ofString "_") ⟨0, 0, 0, 0⟩) (fun _ => rfl) ?_
  k_dflt (refine' kmk_slice F8 N8 ?yl IsPart.none (IsPart.int _ _) ?_ ?ys ?yt hsz)
  (case yl => kmk_list)
  (case ys => with_unfolding_all rfl)
  (case yt => kmk_pure)
  intro D9 h9 F9 N9 l9
  have hpick : slicePick (strValues l6).toArray none (some (-1)) none = ((strValues l6).dropLast).toArray := pick_last _
  have hst : StrsAre (strValues l6).dropLast (rows.map (fun r => r.1.loud)) := drop_strs hl7
  rw [hpick] at N9
  dsimp only
  k_steps
  unfold Stop
  rename Fr h₀ L _ _ => F10
  rename News h₀ L _ _ => N10
  rename_i Dl _ _ _
  have hlD : AllLt Dl [(D4, W.listOf (List.toArray vals) e4), (D3, W.listOf (List.toArray hs) e3), (41, tabObj #[]), (69, tabObj #[]), (76, tabObj #[])] := by
    rename (@LT.lt Nat _ D4 Dl ∧ _) => hq
    exact ⟨hq.1, hq.2.1, hq.2.2.1, hq.2.2.2.1, hq.2.2.2.2, trivial⟩
  have N11 : News h₀ L _ [(D9, W.listOf (strValues l6).dropLast.toArray 0), (Dl, W.listOf (List.toArray []) 0), (D4, W.listOf (List.toArray vals) e4), (D3, W.listOf (List.toArray hs) e3), (41, tabObj #[]), (69, tabObj #[]), (76, tabObj #[])] := News.pick N10 2 [0]
  have hlt9 : @LT.lt Nat _ Dl D9 := l9 (Dl, _) (List.mem_cons_of_mem _ (List.mem_cons_self ..))
  generalize (strValues l6).dropLast = zs at *
  refine iter_listUnr (lo := W.listOf zs.toArray 0) (vs := zs) rfl F10 N11 (List.mem_cons_self ..) rfl rfl ?_
  intro I hI
  have hID : @LT.lt Nat _ Dl I := hI (Dl, _) (List.mem_cons_of_mem _ (List.mem_cons_self ..))
  have hI9 : @LT.lt Nat _ D9 I := hI (D9, _) (List.mem_cons_self ..)
  have hIr : ∀ p ∈ [(D4, W.listOf (List.toArray vals) e4), (D3, W.listOf (List.toArray hs) e3), ((41 : Addr), tabObj #[]), (69, tabObj #[]), (76, tabObj #[])], @LT.lt Nat _ p.1 I := fun p hp => hI p (List.mem_cons_of_mem _ (List.mem_cons_of_mem _ hp))
  refine list_ind (InvL D9 Dl (W.listOf zs.toArray 0) _ _ rows) ?turn ?fin zs ([], 0) _ _ ⟨[], rows, rfl, hst, .nil, fun _ _ => rfl, rfl⟩
  case turn =>
    rintro v r ⟨ls, e⟩ m1 n1 ⟨done, todo, hrs, hrem, hls, hm, rfl⟩ it h7 tk7 hit F7 N7
    dsimp only at hls N7
    cases todo with
    | nil => cases hrem
    | cons row todo =>
    cases hrem with
    | cons x t hrem' =>
    have hrow : row.1 ∈ allRows := (hrows row (by rw [hrs]; simp)).1
    have hdl : ls.length ≤ 3 := by
      rw [hls.length, List.length_map]
      have := congrArg List.length hrs
      simp only [List.length_append, List.length_cons] at this
      omega
    have hml : m1 (Str.ofString "lines") = some (.ref Dl) := (hm _ (by decide +kernel)).trans rfl
    refine lineT w loose mean mg mb h₀ L fa cd X T B I D9 Dl it _ _ row.1 hrow ls e t hdl ⟨hlt9, hID, hlD⟩ _ _ _ _ ?hm7 F7 N7 ?fin7
    case hm7 =>
      intro p hp
      simp only [List.mem_cons, List.not_mem_nil, or_false] at hp
      rcases hp with h | h
      · subst h; exact if_pos rfl
      · subst h
        have hne : ¬ (Str.ofString "lines" = Str.ofString "line") := by decide +kernel
        exact (if_neg hne).trans hml
    case fin7 =>
      intro h8 tk8 t8 e8 F8' N8'
      refine unr_exact F8' N8' ?off ⟨List.mem_cons_self .., (ls ++ [.str row.1.heard t8], e8), done ++ [row], todo, by rw [hrs]; simp, hrem', ?_, ?_, rfl⟩
      case off =>
        intro q hq
        simp only [List.mem_cons] at hq
        rcases hq with h | h | h
        · subst h; exact Nat.ne_of_lt hI9
        · subst h; exact Nat.ne_of_lt hID
        · exact Nat.ne_of_lt (hIr q (by simp only [List.mem_cons]; exact h))
      · simp only [List.map_append, List.map_cons, List.map_nil]; exact hls.append' (.cons _ _ .nil)
      · intro z hz
        exact (if_neg hz).trans (hm z hz)
  case fin =>
    rintro ⟨ls, e⟩ m1 n1 ⟨done, todo, hrs, hrem, hls, hm, rfl⟩ h7 tk7 F7 N7
    dsimp only at hls N7
    cases todo with
    | cons row todo => cases hrem
    | nil =>
    rw [List.append_nil] at hrs
    subst hrs
    refine cont h7 tk7 Dl ls e m1 hls F7 ?_ hlD (fun q hq => N7 q (List.mem_cons_of_mem _ hq))
    intro p hp
    simp only [List.mem_cons, List.not_mem_nil, or_false] at hp
    rcases hp with h | h | h
    all_goals (subst h; exact (hm _ (by dsimp only; decide +kernel)).trans rfl)
end Mine
end
-- part Law3
section
theorem Mine.offLaw3 : True := by
  w_top off
  k_with_none
  trivial
open PySem PySem.W PyProof.Rows PySem.Calls
set_option Elab.async false
set_option maxRecDepth 100000
set_option maxHeartbeats 0
set_option linter.unusedVariables false
namespace Mine
theorem strs_lay : ∀ xs : List Str, (∀ x ∈ xs, PyData.strOk x = true) → PyData.canLayAll0 (xs.map PyData.str) = true
  | [], _ => rfl
  | x :: r, h => by simp [PyData.canLayAll0, PyData.canLay0, strs_lay r fun y hy => h y (List.mem_cons_of_mem _ hy), h x (List.mem_cons_self ..)]
theorem strs_depth : ∀ xs : List Str, PyData.depthAll (xs.map PyData.str) = 0
  | [] => rfl
  | _ :: r => by simp [PyData.depthAll, PyData.depth, strs_depth r]
theorem strs_shaped (xs : List Str) (h : ∀ x ∈ xs, PyData.strOk x = true) : SeqAt.shaped (.list (xs.map PyData.str)) = true := by
  simp [SeqAt.shaped, PyData.canLay0, PyData.depth, strs_lay xs h, strs_depth]
theorem strs_eqv : ∀ xs : List Str, PyData.eqvAll (xs.map PyData.str) (xs.map PyData.str) = true
  | [] => rfl
  | _ :: r => by simp [PyData.eqvAll, PyData.eqv, strs_eqv r]
theorem strs_carried : ∀ {vs : List Value} {xs : List Str}, StrsAre vs xs → CarriedAll vs (xs.map PyData.str)
  | _, _, .nil => .nil
  | _, _, .cons _ t r => .cons (.str _ t) (strs_carried r)
theorem ne_strs {prog : Program} {w : World} {A : Around} {E : Value → Shared → Prop} {s : Shared} {a b : Addr} {vs ws : List Value} {xs : List Str} {Q : Value → Shared → Prop} (ha : s.heap.IsList a vs.toArray) (hb : s.heap.IsList b ws.toArray) (h1 : StrsAre vs xs) (h2 : StrsAre ws xs) (hok : ∀ x ∈ xs, PyData.strOk x = true) (hu : A.units + 64 < cLine) (h : Q (.bool false) s) :
    wpAny (model prog w) A (compareOp .NotEq (.ref a) (.ref b)) Q E s :=
  ne_dataH (reads_newData ha (strs_carried h1)) (reads_newData hb (strs_carried h2)) (strs_shaped _ hok) (strs_shaped _ hok) hu (by
    have e : PyData.eqv (.list (xs.map PyData.str)) (.list (xs.map PyData.str)) = true := by simp [PyData.eqv, strs_eqv]
    rw [e]; exact h)
theorem heard_ok : (allRows.all fun r => PyData.strOk r.heard) = true := by decide +kernel
noncomputable def InvH (Dl Dh : Addr) (o9 : Obj) (base : Led) (mB : Str → Option Value) (rows : List (Row × Str)) (s0 : Shared) (rem : List Value) (c : (List Value × Nat) × TabS) (m : Str → Option Value) (n : Led) (s : Shared) : Prop :=
  ∃ done todo : List (Row × Str), rows = done ++ todo ∧ StrsAre rem (todo.map (·.1.heard)) ∧ IntsAre c.1.1 (done.map (·.1.size)) ∧ (∀ z, z ≠ Str.ofString "line" → m z = mB z) ∧ n = (Dl, o9) :: (Dh, W.listOf (List.toArray c.1.1) c.1.2) :: (tabL 41 47 4 c.2 ++ base) ∧ tabOk q1 c.2 ∧ apart 41 c.2 ((Dl, o9) :: base) ∧ (∀ c' o, c.2 = some (c', o) → Dh ≠ c') ∧ s.os = s0.os ∧ s.gens = s0.gens
theorem InvH.turn {Dl Dh : Addr} {o9 : Obj} {base : Led} {mB : Str → Option Value} {rows : List (Row × Str)} {s0 : Shared} {r : List Value} {G : Value → (List Value × Nat) × TabS → (Str → Option Value) → Led → Shared → Prop}
    (f : ∀ hv e5 S m s done row todo x t, rows = done ++ row :: todo → StrsAre r (todo.map (·.1.heard)) → x = row.1.heard → IntsAre hv (done.map (·.1.size)) → (∀ z, z ≠ Str.ofString "line" → m z = mB z) → tabOk q1 S → apart 41 S ((Dl, o9) :: base) → (∀ c' o, S = some (c', o) → Dh ≠ c') → s.os = s0.os → s.gens = s0.gens →
      G (.str x t) ((hv, e5), S) m ((Dl, o9) :: (Dh, W.listOf (List.toArray hv) e5) :: (tabL 41 47 4 S ++ base)) s) :
    ∀ v c m n s, InvH Dl Dh o9 base mB rows s0 (v :: r) c m n s → G v c m n s := by
  rintro v ⟨⟨hv, e5⟩, S⟩ m n s ⟨done, todo, hrs, hrem, hint, hmm, rfl, hS, hap, hDS, hos, hgs⟩
  cases todo with
  | nil => cases hrem
  | cons row todo =>
    cases hrem with
    | cons x t hrem' => exact f hv e5 S m s done row todo _ t hrs hrem' rfl hint hmm hS hap hDS hos hgs
theorem InvH.out {Dl Dh : Addr} {o9 : Obj} {base : Led} {mB : Str → Option Value} {rows : List (Row × Str)} {s0 : Shared} {G : (List Value × Nat) × TabS → (Str → Option Value) → Led → Shared → Prop}
    (f : ∀ hv e5 S m s, IntsAre hv (rows.map (·.1.size)) → (∀ z, z ≠ Str.ofString "line" → m z = mB z) → tabOk q1 S → apart 41 S ((Dl, o9) :: base) → (∀ c' o, S = some (c', o) → Dh ≠ c') → s.os = s0.os → s.gens = s0.gens →
      G ((hv, e5), S) m ((Dl, o9) :: (Dh, W.listOf (List.toArray hv) e5) :: (tabL 41 47 4 S ++ base)) s) :
    ∀ c m n s, InvH Dl Dh o9 base mB rows s0 [] c m n s → G c m n s := by
  rintro ⟨⟨hv, e5⟩, S⟩ m n s ⟨done, todo, hrs, hrem, hint, hmm, rfl, hS, hap, hDS, hos, hgs⟩
  cases todo with
  | cons row todo => cases hrem
  | nil =>
    rw [List.append_nil] at hrs
    subst hrs
    exact f hv e5 S m s hint hmm hS hap hDS hos hgs
theorem law_3 (w : World) (loose : List Str) (mean : ExcName → Option Value) (mg mb : Str → Option Value) (h₀ : Heap) (L fa : Addr) (cd : Value) (s : Shared) (Q : Flow → Shared → Prop) (E : Value → Shared → Prop)
   (rows : List (Row × Str)) (hrows : RowsOk rows) (hr3 : rows.length ≤ 3) (D3 D4 Dl : Addr) (hs vals ls : List Value) (e e3 e4 : Nat) (m₁ : Str → Option Value)
   (X : (myK w.params).In h₀) (T : Top topProg loose mean mg mb h₀) (B : Below callerA h₀ [] h₀) (C1 : CodeHd h₀ 45 41) (hE : PassesOwn (model PySem.Challenge.rw_sn0092_01.row.prog w) (callerA.deeper (envOf myD.name myD.scope L fa cd)) (envOf myD.name myD.scope L fa cd) E)
   (hhs : StrsAre hs (rows.map (·.1.heard))) (hlsa : StrsAre ls (rows.map (·.1.heard)))
   (F₁ : Fr h₀ L s.heap m₁)
   (hm : ∀ p ∈ [(Str.ofString "lines", Value.ref Dl), (Str.ofString "values", .ref D4), (Str.ofString "heard", .ref D3)], m₁ p.1 = some p.2) (hlt : AllLt Dl [(D4, W.listOf (List.toArray vals) e4), (D3, W.listOf (List.toArray hs) e3), (41, tabObj #[]), (69, tabObj #[]), (76, tabObj #[])])
   (hne4 : D4 ≠ 41) (N : News h₀ L s.heap [(Dl, W.listOf (List.toArray ls) e), (D4, W.listOf (List.toArray vals) e4), (D3, W.listOf (List.toArray hs) e3), (41, tabObj #[]), (69, tabObj #[]), (76, tabObj #[])])
   (cont : ∀ (s' : Shared) (Dh : Addr) (hv : List Value) (e5 : Nat) (S : TabS) (m' : Str → Option Value), s'.os = s.os → s'.gens = s.gens → IntsAre hv (rows.map (·.1.size)) → tabOk q1 S → (∀ p ∈ tabL 41 47 4 S, p.1 ≠ 69 ∧ p.1 ≠ 76) → Fr h₀ L s'.heap m' → (∀ p ∈ [(Str.ofString "half", Value.ref Dh), (Str.ofString "values", .ref D4)], m' p.1 = some p.2) → News h₀ L s'.heap ((Dh, W.listOf (List.toArray hv) e5) :: (D4, W.listOf (List.toArray vals) e4) :: (69, tabObj #[]) :: (76, tabObj #[]) :: tabL 41 47 4 S) → LawSuf 11 w L fa cd s' Q E) :
   LawSuf 8 w L fa cd s Q E := by
  have on1 := On.mk "call ref"
  have on2 := On.mk "exec For Name Name cons nil"
  have on3 := On.mk "pyIter ref"
  have on4 := On.mk "compareOp NotEq ref ref"
  unfold LawSuf
  revert X
  k_fill
  intro X
  have F := ksw_fr (stored := []) (m₀ := m₁) hm (fun _ _ _ => rfl) F₁
  simp only [List.contains_nil, Bool.false_eq_true, if_false] at F
  dsimp only [kstB] at F
  clear F₁ hm
  have hok : ∀ x ∈ rows.map (·.1.heard), PyData.strOk x = true := by
    intro x hx
    obtain ⟨r, hr, rfl⟩ := List.mem_map.mp hx
    exact List.all_eq_true.mp heard_ok r.1 (hrows r hr).1
  k_steps
  unfold Stop
  have hl1 : s.heap.IsList Dl ls.toArray := ⟨_, (N _ (List.mem_cons_self ..)).1, rfl, _, rfl⟩
  have hl2 : s.heap.IsList D3 hs.toArray := ⟨_, (N _ (List.mem_cons_of_mem _ (List.mem_cons_of_mem _ (List.mem_cons_self ..)))).1, rfl, _, rfl⟩
  k_dflt (refine' ne_strs ?n1 ?n2 hlsa hhs hok ?n3 ?_)
  (case n1 => exact hl1)
  (case n2 => exact hl2)
  (case n3 => ke_room)
  k_steps
  unfold Stop
  rename Fr h₀ L _ _ => F2
  rename News h₀ L _ _ => N2
  rename_i Dh _ _ _
  have hDhl : @LT.lt Nat _ Dl Dh ∧ @LT.lt Nat _ D4 Dh ∧ @LT.lt Nat _ D3 Dh ∧ 41 < Dh ∧ 69 < Dh ∧ 76 < Dh := by assumption
  k_dflt (refine' forD (P := fun _ => True) ?_ ?fs; (case fs => (intro _; rfl)))
  k_steps
  unfold Stop
  have N3 : News h₀ L _ ((Dl, W.listOf (List.toArray ls) e) :: (Dh, W.listOf (List.toArray []) 0) :: (tabL 41 47 4 none ++ [(D4, W.listOf (List.toArray vals) e4), (69, tabObj #[]), (76, tabObj #[])])) := News.pick N2 7 [1, 0, 4, 2, 5, 6]
  have hbase : ∀ p ∈ [(D4, W.listOf (List.toArray vals) e4), ((69 : Addr), tabObj #[]), (76, tabObj #[])], p.1 ≠ Dh := by
    intro p hp
    simp only [List.mem_cons, List.not_mem_nil, or_false] at hp
    rcases hp with h | h | h
    · subst h; exact Nat.ne_of_lt hDhl.2.1
    · subst h; exact Nat.ne_of_lt hDhl.2.2.2.2.1
    · subst h; exact Nat.ne_of_lt hDhl.2.2.2.2.2
  have hap0 : apart 41 none [(Dl, W.listOf (List.toArray ls) e), (D4, W.listOf (List.toArray vals) e4), (69, tabObj #[]), (76, tabObj #[])] := by
    refine ⟨?_, fun c o ec => nomatch ec⟩
    intro p hp
    simp only [List.mem_cons, List.not_mem_nil, or_false] at hp
    rcases hp with h | h | h | h
    · subst h; exact Nat.ne_of_gt hlt.2.2.1
    · subst h; exact hne4
    · subst h; decide
    · subst h; decide
  refine forD_loop (InvH Dl Dh (W.listOf (List.toArray ls) e) [(D4, W.listOf (List.toArray vals) e4), (69, tabObj #[]), (76, tabObj #[])] _ rows s) rfl rfl rfl F2 N3 (List.mem_cons_self ..) rfl rfl ?keep ⟨(([], 0), none), [], rows, rfl, hlsa, .nil, fun _ _ => rfl, rfl, trivial, hap0, (fun _ _ ec => nomatch ec), rfl, rfl⟩ ?turn ?fin hE
  case keep =>
    exact fun rem c m n s1 h tk hi => hi
  case turn =>
    intro I v r
    revert v
    refine InvH.turn ?_
    intro hv e5 S m1 s1 done row todo x t hrs hrem' hx hint hmm hS hap hDS hos hgs it hit F7 N7 hnI
    subst hx
    have hrow : row.1 ∈ allRows := (hrows row (by rw [hrs]; simp)).1
    have hdl : hv.length ≤ 3 := by
      rw [hint.length, List.length_map]
      have := congrArg List.length hrs
      simp only [List.length_append, List.length_cons] at this
      omega
    have hml : m1 (Str.ofString "half") = some (.ref Dh) := (hmm _ (by decide +kernel)).trans rfl
    have hI41 : I ≠ 41 := fun ei => by
      cases S with
      | none => exact hnI (41, tabObj #[]) (by simp) ei.symm
      | some q => exact hnI (41, tabObj #[rawInt 47, rawInt 4, .ref q.1]) (by simp) ei.symm
    have hIc : ∀ c o, S = some (c, o) → I ≠ c := fun c o ec ei => by
      subst ec
      exact hnI (c, o) (by simp) ei.symm
    refine halfT w loose mean mg mb h₀ L fa cd X T B C1 I Dl Dh it _ _ S hS (hap.consN hI41 hIc) (Nat.ne_of_gt hDhl.2.2.2.1) hDS row.1 hrow hv e5 t hdl (Nat.ne_of_lt hDhl.1) (fun ei => hnI (Dh, W.listOf (List.toArray hv) e5) (by simp) ei.symm) hbase _ _ _ _ ?hm7 F7 N7 ?fin7
    case hm7 =>
      intro p hp
      simp only [List.mem_cons, List.not_mem_nil, or_false] at hp
      rcases hp with h | h
      · subst h; exact if_pos rfl
      · subst h
        have hne : ¬ (Str.ofString "half" = Str.ofString "line") := by decide +kernel
        exact (if_neg hne).trans hml
    case fin7 =>
      intro s8 t8 e8 S8 hos8 hgs8 hok8 hap8 hDc8 F8 N8
      refine ⟨((hv ++ [.int row.1.size t8], e8), S8), _, _, F8, N8, ?off, List.mem_cons_self .., done ++ [row], todo, by rw [hrs]; simp, hrem', ?_, ?_, rfl, hok8, hap8.sub (fun p hp => List.mem_cons_of_mem _ hp), hDc8, hos8.trans hos, hgs8.trans hgs⟩
      case off =>
        intro q hq
        simp only [List.mem_cons, List.mem_append] at hq
        rcases hq with h | h | h | h
        · subst h; exact hnI (Dl, W.listOf (List.toArray ls) e) (by simp)
        · subst h; exact hnI (Dh, W.listOf (List.toArray hv) e5) (by simp)
        · cases S8 with
          | none =>
            rw [List.mem_singleton.mp h]; exact Ne.symm hI41
          | some q8 =>
            obtain ⟨c8, o8⟩ := q8
            simp only [List.mem_cons, List.not_mem_nil, or_false] at h
            rcases h with h | h
            · subst h; exact Ne.symm hI41
            · subst h; exact Ne.symm ((hap8.2 c8 o8 rfl).2 (I, it) (List.mem_cons_self ..))
        · exact hnI q (by simp only [List.mem_cons, List.mem_append]; exact .inr (.inr (.inr h)))
      · simp only [List.map_append, List.map_cons, List.map_nil]; exact hint.append (.cons _ _ .nil)
      · intro z hz
        exact (if_neg hz).trans (hmm z hz)
  case fin =>
    refine InvH.out ?_
    intro hv e5 S m1 s1 hint hmm hS hap hDS hos hgs F7 N7
    refine cont s1 Dh hv e5 S m1 hos hgs hint hS ?_ F7 ?_ (News.sub N7 ?_)
    · intro p hp
      cases S with
      | none => rw [List.mem_singleton.mp hp]; exact ⟨by decide, by decide⟩
      | some q =>
        obtain ⟨c, o⟩ := q
        simp only [List.mem_cons, List.not_mem_nil, or_false] at hp
        rcases hp with h | h
        · subst h; exact ⟨(by decide : (41 : Nat) ≠ 69), (by decide : (41 : Nat) ≠ 76)⟩
        · subst h; exact ⟨Ne.symm ((hap.2 c o rfl).2 (69, tabObj #[]) (by simp)), Ne.symm ((hap.2 c o rfl).2 (76, tabObj #[]) (by simp))⟩
    · intro p hp
      simp only [List.mem_cons, List.not_mem_nil, or_false] at hp
      rcases hp with h | h
      all_goals (subst h; exact (hmm _ (by dsimp only; decide +kernel)).trans rfl)
    · intro q hq
      simp only [List.mem_cons, List.mem_append, List.not_mem_nil, or_false] at hq ⊢
      rcases hq with h | h | h | h | h <;> simp [h]
end Mine
end
-- part Law4
section
theorem Mine.offLaw4 : True := by
  w_top off
  k_with_none
  trivial
open PySem PySem.W PyProof.Rows PySem.Calls
set_option Elab.async false
set_option maxRecDepth 100000
set_option maxHeartbeats 0
set_option linter.unusedVariables false
namespace Mine
noncomputable def InvN (Dm : Addr) (o : Obj) (base : Led) (mB : Str → Option Value) (fin : Int × Int) (rem : List Value) (c : (Int × Int) × (Tok × Tok)) (m : Str → Option Value) (n : Led) : Prop :=
  ∃ ds : List Int, IntsAre rem ds ∧ (∀ d ∈ ds, 1 ≤ d ∧ d ≤ 3) ∧ ds.foldl (fun p q => (q * p.1 + p.2, p.1)) c.1 = fin ∧ (∀ p ∈ [(Str.ofString "n", Value.int c.1.1 c.2.1), (Str.ofString "u", Value.int c.1.2 c.2.2)], m p.1 = some p.2) ∧ (∀ z, [Str.ofString "n", Str.ofString "u", Str.ofString "part"].contains z = false → m z = mB z) ∧ n = (Dm, o) :: base
theorem law_4 (w : World) (loose : List Str) (mean : ExcName → Option Value) (mg mb : Str → Option Value) (h₀ : Heap) (L fa : Addr) (cd : Value) (s : Shared) (Q : Flow → Shared → Prop) (E : Value → Shared → Prop)
   (zs : List Int) (hz3 : zs.length ≤ 3) (hzb : ∀ d ∈ zs, 1 ≤ d ∧ d ≤ 3) (Dh D4 : Addr) (hv vals : List Value) (e4 e5 : Nat) (nw : Led) (m₁ : Str → Option Value)
   (X : (myK w.params).In h₀) (T : Top topProg loose mean mg mb h₀) (B : Below callerA h₀ [] h₀) (hE : PassesOwn (model PySem.Challenge.rw_sn0092_01.row.prog w) (callerA.deeper (envOf myD.name myD.scope L fa cd)) (envOf myD.name myD.scope L fa cd) E)
   (hh : IntsAre hv zs) (hva : IntsAre vals zs)
   (F₁ : Fr h₀ L s.heap m₁)
   (hm : ∀ p ∈ [(Str.ofString "half", Value.ref Dh), (Str.ofString "values", .ref D4)], m₁ p.1 = some p.2)
   (N : News h₀ L s.heap ((Dh, W.listOf (List.toArray hv) e5) :: (D4, W.listOf (List.toArray vals) e4) :: (69, tabObj #[]) :: (76, tabObj #[]) :: nw))
   (cont : ∀ (h : Heap) (tk : Nat) (Dm : Addr) (mv : List Value) (e : Nat) (t1 t2 : Tok) (m' : Str → Option Value), IntsAre mv (zs ++ zs.reverse) → Fr h₀ L h m' → (∀ p ∈ [(Str.ofString "mirrored", Value.ref Dm), (Str.ofString "n", .int (contL (zs ++ zs.reverse)).1 t1), (Str.ofString "u", .int (contL (zs ++ zs.reverse)).2 t2)], m' p.1 = some p.2) → AllLt Dm ((69, tabObj #[]) :: (76, tabObj #[]) :: nw) → News h₀ L h ((Dm, W.listOf (List.toArray mv) e) :: (69, tabObj #[]) :: (76, tabObj #[]) :: nw) → LawSuf 15 w L fa cd { s with heap := h, toks := tk } Q E) :
   LawSuf 11 w L fa cd s Q E := by
  have on1 := On.mk "call ref"
  have on2 := On.mk "exec For"
  have on3 := On.mk "exec For Name Call cons nil"
  have on4 := On.mk "pyIter ref"
  unfold LawSuf
  revert X
  k_fill
  intro X
  have F := ksw_fr (stored := []) (m₀ := m₁) hm (fun _ _ _ => rfl) F₁
  simp only [List.contains_nil, Bool.false_eq_true, if_false] at F
  dsimp only [kstB] at F
  clear F₁ hm
  k_steps
  unfold Stop
  rename Fr h₀ L _ _ => F2
  rename News h₀ L _ _ => N2
  rename IntsAre _ (zs ++ zs.reverse) => hI2
  rename List Value => mv
  rename_i Dm _ _ _ _ _ _ _ _ _
  have hlD : AllLt Dm ((69, tabObj #[]) :: (76, tabObj #[]) :: nw) := by
    rename (@LT.lt Nat _ _ Dm ∧ _) => hq
    exact hq.2.2.2
  have N3 : News h₀ L _ ((Dm, W.listOf (List.toArray mv) 0) :: (69, tabObj #[]) :: (76, tabObj #[]) :: nw) := News.pick N2 7 [1, 5, 6]
  have hml : mv.length ≤ 6 := by
    rw [hI2.length, List.length_append, List.length_reverse]
    omega
  clear N2
  k_dflt (refine' For_invV h₀ ?fx ?fp ?_ ?fs ?fe)
  (case fx => rfl)
  (case fp => rfl)
  (case fs => (intro _; rfl))
  (case fe => exact hE)
  k_steps
  unfold Stop
  rename Fr h₀ L _ _ => F5
  rename News h₀ L _ _ => N5
  rename_i I _ _
  have hlI : AllLt I ((Dm, W.listOf (List.toArray mv) 0) :: (69, tabObj #[]) :: (76, tabObj #[]) :: nw) := by
    rename (@LT.lt Nat _ Dm I ∧ _) => hq
    exact hq
  refine iter_revUnr (lo := W.listOf (List.toArray mv) 0) (vs := mv) rfl F5 N5 (offI_of (allLt_ne hlI)) (List.mem_cons_self ..) rfl rfl ?_
  refine rev_ind (InvN Dm (W.listOf (List.toArray mv) 0) ((69, tabObj #[]) :: (76, tabObj #[]) :: nw) _ (contL (zs ++ zs.reverse))) ?turn ?fin _ ((1, 0), (_, _)) _ _ ⟨(zs ++ zs.reverse).reverse, ints_rev hI2, ?bd, rfl, by kst_all, fun _ _ => rfl, rfl⟩
  case bd =>
    intro d hd
    simp only [List.mem_reverse, List.mem_append, or_self] at hd
    exact hzb d hd
  case turn =>
    rintro v r ⟨⟨n, u⟩, ⟨t1, t2⟩⟩ m1 n1 ⟨ds, hds, hbd, hfo, hm1, hm2, rfl⟩ it h7 tk7 hit F7 N7
    dsimp only at hfo hm1
    cases hds with
    | cons d td hds' =>
    have F8 : Fr h₀ L h7 _ := ksw_fr (ps := [(Str.ofString "part", .int d td), (Str.ofString "n", .int n t1), (Str.ofString "u", .int u t2)]) (stored := []) (m₀ := fun y => if y = Str.ofString "part" then some (.int d td) else m1 y) (map_cons hm1 (by intro p hp; simp only [List.mem_cons, List.not_mem_nil, or_false] at hp; rcases hp with h | h <;> (subst h; dsimp only; decide +kernel))) (fun _ _ _ => rfl) F7
    have N8 : News h₀ L h7 _ := N7
    clear F7 N7
    simp only [List.contains_nil, Bool.false_eq_true, if_false] at F8
    dsimp only [kstB] at F8
    obtain ⟨hd1, hd3⟩ := hbd d (List.mem_cons_self ..)
    generalize hP : UnrPost _ _ _ _ _ _ _ = P
    k_steps
    subst hP
    rename Fr h₀ L _ _ => F9
    rename News h₀ L _ _ => N9
    refine unr_exact F9 (fun q hq => N9 q (List.mem_cons_of_mem _ hq)) (allLt_ne hlI) ⟨List.mem_cons_self .., ((d * n + u, n), (_, _)), _, hds', (fun x hx => hbd x (List.mem_cons_of_mem _ hx)), hfo, by kst_all, ?_, rfl⟩
    intro z hz
    have hz' := hz
    simp only [List.contains_cons, List.contains_nil, Bool.or_false, Bool.or_eq_false_iff, beq_eq_false_iff_ne, ne_eq] at hz
    obtain ⟨a1, a2, a3⟩ := hz
    simp only [if_neg a1, if_neg a2, if_neg a3]
    have hq := hm2 z hz'
    simp only [if_neg a1, if_neg a2] at hq
    exact hq
  case fin =>
    rintro ⟨⟨n, u⟩, ⟨t1, t2⟩⟩ m1 n1 ⟨ds, hds, hbd, hfo, hm1, hm2, rfl⟩ h7 tk7 F7 N7
    cases hds
    dsimp only [List.foldl_nil] at hfo
    refine cont h7 tk7 Dm mv 0 t1 t2 m1 hI2 F7 ?_ hlD N7
    rw [← hfo]
    dsimp only
    have hmm : m1 (Str.ofString "mirrored") = some (.ref Dm) := (hm2 _ (by decide +kernel)).trans rfl
    intro p hp
    rcases List.mem_cons.mp hp with h | h
    · subst h; exact hmm
    · exact hm1 p h
end Mine
end
-- part Dmi
section
theorem Mine.offDmi : True := by
  w_top off
  k_with_none
  trivial
open PySem PySem.W PyProof.Rows PySem.Calls
set_option Elab.async false
set_option maxRecDepth 100000
set_option maxHeartbeats 0
set_option linter.unusedVariables false
namespace Mine
theorem dmi_spec
   (w : World) (p : Program) (loose : List Str) (mean : ExcName → Option Value) (mg mb : Str → Option Value) (news : Led) (S2 S3 : TabS) (a b : Int) (ta tb : Tok) (hb : 0 < b) (hab : b ≤ a) (ha2 : a < 2000) (hk : ((Builtin.Int.intBits a : Int) + (Builtin.Int.intBits b : Int) - 1) / (Builtin.Int.intBits b : Int) ≤ 4) :
   FSpecD w p loose mean mg mb S2 S3 95 [.int a ta, .int b tb] news 14 90 (fun r tl => ∃ x t t', r = .ref x ∧ tl = [(x, tupO [.int (a / b) t, .int (a % b) t'])]) := by
  have on1 := On.mk "call ref"
  unfold FSpecD
  k_fill
  intro dp un gd cn cs ad ccd cl outer A₀ base h₀ L m s Q E B F X C2 C3 N hok2 hok3 hap2 hap3 T hk2 hd hu hret
  refine wpAny_call ?_
  refine' code_def (binds := [(Str.ofString "a", .int a ta), (Str.ofString "b", .int b tb)]) ?k1 ?k2 ?k3 ?k4 ?k5 ?kA ?kF ?kK ?k6 ?k7 ?k8 ?k9 ?kB ?_ ?c2 ?c3 ?c4 ?c5
  (case kA => exact rfl); (case kF => exact rfl); (case kK => assumption); (case k1 => k_asm); (case k2 => k_asm); (case k3 => k_asm); (case k4 => k_asm); (case k5 => k_asm); (case k6 => k_is); (case k7 => k_is); (case k8 => ktr_room); (case k9 => exact BindsTo.of_eq rfl); (case c5 => decide); (case kB => exact locs rfl); (case c2 => exact rfl); (case c3 => exact rfl); (case c4 => exact rfl)
  intro g' L' h' FG' F' N' B' X' T'
  k_lift B'
  dsimp only [List.reverse_cons, List.reverse_nil, List.nil_append, List.length_cons, List.length_nil] at *
  k_steps
  all_goals try (exfalso; omega)
  unfold Stop
  rename Fr g' L' _ _ => F2
  rename News g' L' _ _ => N2
  refine dmp_spec w p loose mean mg mb news S2 S3 a b _ _ hb hab ha2 hk _ _ _ _ _ _ _ _ _ _ _ _ _ _ _ _ _ B' F2 X' C2 C3 N2 hok2 hok3 hap2 hap3 T' rfl ?dd ?uu ?kk
  case kk =>
    intro r tl c2 c3 o2 o3 h2' tk2 F4 N4 hok2' hok3' hap2' hap3' hlt hR
    k_steps
    exact hret _ _ _ _ _ _ _ _ (by assumption) (by assumption) hok2' hok3' hap2' hap3' hlt hR
  all_goals ((try dsimp only); omega)
end Mine
end
-- part Lrn
section
theorem Mine.offLrn : True := by
  w_top off
  k_with_none
  trivial
open PySem PySem.W PyProof.Rows PySem.Calls
set_option Elab.async false
set_option maxRecDepth 100000
set_option maxHeartbeats 0
set_option linter.unusedVariables false
namespace Mine
local macro_rules | `(tactic| k_all) => `(tactic| assumption)
theorem FSpecD.pair {w : World} {p : Program} {loose : List Str} {mean : ExcName → Option Value} {mg mb : Str → Option Value} {S2 S3 : TabS} {f : Addr} {vs : List Value} {news : Led} {dd uu : Nat} {a b : Int}
    {dp un : Nat} {gd : Option (List Code)} {cn : Str} {cs : Scope} {ad : Addr} {ccd : Value} {cl : List (Str × Addr)} {outer : List Env} {A₀ : Around} {base h₀ : Heap} {L : Addr} {m : Str → Option Value} {s : Shared} {Q E : Value → Shared → Prop}
    (S : FSpecD w p loose mean mg mb S2 S3 f vs news dd uu (fun r tl => ∃ x t t', r = .ref x ∧ tl = [(x, tupO [.int a t, .int b t'])]))
    (B : Below A₀ base outer h₀) (F : Fr h₀ L s.heap m) (X : (myK w.params).In h₀) (C2 : CodeHd base 73 69) (C3 : CodeHd base 80 76) (N : News h₀ L s.heap (tabA S2 ++ (tabB S3 ++ news))) (o2 : tabOk nmA S2) (o3 : tabOk nmB S3) (a2 : apart 69 S2 (tabB S3 ++ news)) (a3 : apart 76 S3 (tabA S2 ++ news)) (T : Top p loose mean mg mb h₀) (hk : cs.kind = .function)
    (hd : dp + dd < recursionLimit) (hu : un + uu < cLine)
    (k : ∀ (x : Addr) (t t' : Tok) (c2 c3 : Addr) (o2 o3 : Obj) (h' : Heap) (tk' : Nat), Fr h₀ L h' m → News h₀ L h' ((69, tabObj #[rawInt 87, rawInt 4, .ref c2]) :: (c2, o2) :: (76, tabObj #[rawInt 102, rawInt 4, .ref c3]) :: (c3, o3) :: (x, tupO [.int a t, .int b t']) :: news) → tabOk nmA (some (c2, o2)) → tabOk nmB (some (c3, o3)) → apart 69 (some (c2, o2)) (tabB (some (c3, o3)) ++ ((x, tupO [.int a t, .int b t']) :: news)) → apart 76 (some (c3, o3)) (tabA (some (c2, o2)) ++ ((x, tupO [.int a t, .int b t']) :: news)) → AllLt x news → Q (.ref x) { s with heap := h', toks := tk' }) :
    wpAny (model PySem.Challenge.rw_sn0092_01.row.prog w) (ktrTop dp un gd cn cs L ad ccd cl outer) (call (.ref f) vs []) Q E s := S dp un gd cn cs ad ccd cl outer A₀ base h₀ L m s Q E B F X C2 C3 N o2 o3 a2 a3 T hk hd hu (by
  rintro r tl c2 c3 o2 o3 h' tk' F' N' k2 k3 p2 p3 l ⟨x, t, t', rfl, rfl⟩
  exact k x t t' c2 c3 o2 o3 h' tk' F' N' k2 k3 p2 p3 (allLt_of fun q hq => l q hq _ (List.mem_cons_self ..)))
theorem InvR.turn {m₀ : Str → Option Value} {D1 D2 I : Addr} {news : Led} {fin : List Int × List Int} {k i : Nat} {G : StR → (Str → Option Value) → Led → Prop}
    (f : ∀ n1 tn1 v1 tv1 vq qs eq vr rs er T2 T3 m, IntsAre vq qs → IntsAre vr rs → vq.length ≤ i → vr.length ≤ i + 1 → i + k = 40 → (i = 0 → 0 < v1) → (0 < i → ∃ c2 o2 c3 o3, T2 = some (c2, o2) ∧ T3 = some (c3, o3)) → okRun k n1 v1 = true → runL k n1 v1 qs rs = fin →
      (∀ p ∈ [(Str.ofString "n", Value.int n1 tn1), (Str.ofString "v", Value.int v1 tv1)], m p.1 = some p.2) →
      (∀ z, (∀ p ∈ [(Str.ofString "n", Value.int n1 tn1), (Str.ofString "v", Value.int v1 tv1)], z ≠ p.1) → [Str.ofString "turn", Str.ofString "quotient", Str.ofString "rest"].contains z = false → m z = m₀ z) →
      tabOk nmA T2 → tabOk nmB T3 → apart 69 T2 (tabB T3 ++ news) → apart 76 T3 (tabA T2 ++ news) → (∀ p ∈ tabA T2 ++ tabB T3, p.1 ≠ D1 ∧ p.1 ≠ D2 ∧ p.1 ≠ I) →
      G (n1, tn1, v1, tv1, (vq, qs, eq), (vr, rs, er), T2, T3) m ((D2, W.listOf (List.toArray vr) er) :: (D1, W.listOf (List.toArray vq) eq) :: (tabA T2 ++ (tabB T3 ++ news)))) :
    ∀ c m nw, InvR m₀ D1 D2 I news fin k i c m nw → G c m nw := by
  rintro ⟨n1, tn1, v1, tv1, ⟨vq, qs, eq⟩, ⟨vr, rs, er⟩, T2, T3⟩ m nw ⟨hq, hr, hlen, hik, hokr, hfin, hm1, hm2, ho2, ho3, ha2, ha3, hne, rfl⟩
  exact f n1 tn1 v1 tv1 vq qs eq vr rs er T2 T3 m hq hr hlen.1 hlen.2 hik.1 hik.2.1 hik.2.2 hokr hfin hm1 hm2 ho2 ho3 ha2 ha3 hne
theorem News.sinkDrop {g h : Heap} {L : Addr} {a b c d : Addr × Obj} {B C D : Led} (N : News g L h (a :: b :: c :: d :: (B ++ (C ++ D)))) : News g L h (B ++ (C ++ ([a, c, d] ++ D))) := News.sink (A := [a, c, d]) (News.pick N 4 [0, 2, 3])
theorem lrn_spec (w : World) (p : Program) (loose : List Str) (mean : ExcName → Option Value) (mg mb : Str → Option Value) (news : Led) (S2 S3 : TabS) (n v : Int) (tn tv : Tok) (hok : okRun 40 n v = true) (hv0 : 0 < v) :
   FSpecD w p loose mean mg mb S2 S3 214 [.int n tn, .int v tv] news 20 120 (fun r tl => ∃ x D1 D2 vs1 vs2 e1 e2, r = .ref x ∧ tl = [(x, tupO [.ref D1, .ref D2]), (D2, W.listOf (List.toArray vs2) e2), (D1, W.listOf (List.toArray vs1) e1)] ∧
     @LT.lt Nat _ D1 D2 ∧ @LT.lt Nat _ D2 x ∧ IntsAre vs1 (runL 40 n v [] [n]).1 ∧ IntsAre vs2 (runL 40 n v [] [n]).2) := by
  have on1 := On.mk "call ref"
  have on2 := On.mk "pyIter ref"
  unfold FSpecD
  k_fill
  intro dp un gd cn cs ad ccd cl outer A₀ base h₀ L m s Q E B F X C2 C3 N hok2 hok3 hap2 hap3 T hk2 hd hu hret
  have hret2 : ∀ T2 T3 : TabS, (∃ c2 o2 c3 o3, T2 = some (c2, o2) ∧ T3 = some (c3, o3)) → ∀ (x D1 D2 : Addr) (vs1 vs2 : List Value) (e1 e2 : Nat) (h' : Heap) (tk' : Nat), Fr h₀ L h' m → News h₀ L h' (tabA T2 ++ (tabB T3 ++ ([(x, tupO [.ref D1, .ref D2]), (D2, W.listOf (List.toArray vs2) e2), (D1, W.listOf (List.toArray vs1) e1)] ++ news))) → tabOk nmA T2 → tabOk nmB T3 → apart 69 T2 (tabB T3 ++ ([(x, tupO [.ref D1, .ref D2]), (D2, W.listOf (List.toArray vs2) e2), (D1, W.listOf (List.toArray vs1) e1)] ++ news)) → apart 76 T3 (tabA T2 ++ ([(x, tupO [.ref D1, .ref D2]), (D2, W.listOf (List.toArray vs2) e2), (D1, W.listOf (List.toArray vs1) e1)] ++ news)) →
      AllLt x news → AllLt D2 news → AllLt D1 news → @LT.lt Nat _ D1 D2 → @LT.lt Nat _ D2 x → IntsAre vs1 (runL 40 n v [] [n]).1 → IntsAre vs2 (runL 40 n v [] [n]).2 → Q (.ref x) { s with heap := h', toks := tk' } := by
    rintro _ _ ⟨c2, o2, c3, o3, rfl, rfl⟩ x D1 D2 vs1 vs2 e1 e2 h' tk' F N k2 k3 p2 p3 l1 l2 l3 q1 q2 i1 i2
    refine hret _ _ c2 c3 o2 o3 h' tk' F N k2 k3 p2 p3 ?_ ⟨_, _, _, _, _, _, _, rfl, rfl, q1, q2, i1, i2⟩
    intro q hq r hr
    rcases List.mem_cons.mp hr with rfl | hr
    · exact allLt_lt l1 q hq
    rcases List.mem_cons.mp hr with rfl | hr
    · exact allLt_lt l2 q hq
    · rw [List.mem_singleton.mp hr]; exact allLt_lt l3 q hq
  clear hret
  refine wpAny_call ?_
  refine' code_def (binds := [(Str.ofString "n", .int n tn), (Str.ofString "v", .int v tv)]) ?k1 ?k2 ?k3 ?k4 ?k5 ?kA ?kF ?kK ?k6 ?k7 ?k8 ?k9 ?kB ?_ ?c2 ?c3 ?c4 ?c5
  (case kA => exact rfl); (case kF => exact rfl); (case kK => assumption); (case k1 => k_asm); (case k2 => k_asm); (case k3 => k_asm); (case k4 => k_asm); (case k5 => k_asm); (case k6 => k_is); (case k7 => k_is); (case k8 => ktr_room); (case k9 => exact BindsTo.of_eq rfl); (case c5 => decide); (case kB => exact locs rfl); (case c2 => exact rfl); (case c3 => exact rfl); (case c4 => exact rfl)
  intro g' L' h' FG' F' N' B' X' T'
  k_lift B'
  dsimp only [List.reverse_cons, List.reverse_nil, List.nil_append, List.length_cons, List.length_nil] at *
  k_steps
  unfold Stop
  rename IsRange _ _ _ _ _ _ _ _ => hR
  rename Fr g' L' _ _ => F5
  rename News g' L' _ _ => N5
  rename_i D1 _ _ _ _ D2 _ _ _ _ _ _ _ _ _ _ _
  refine iter_rangeUnr (n := 40) rfl hR (by decide) (by decide) F5 N5 ?_
  intro I hI
  k_lt hI
  have hl12 : @LT.lt Nat _ D1 D2 ∧ AllLt D2 (tabA S2 ++ (tabB S3 ++ news)) := by assumption
  have hl1 : AllLt D1 (tabA S2 ++ (tabB S3 ++ news)) := allLt_of (by assumption)
  refine range_ind (InvR _ D1 D2 I news (runL 40 n v [] [n])) ?turn ?fin 40 0 (n, tn, v, tv, ([], [], 0), ([.int n tn], [n], 0), S2, S3) _ _ ⟨.nil, .cons _ _ .nil, ⟨Nat.le_refl _, Nat.le_refl _⟩, ⟨rfl, fun _ => hv0, fun h => absurd h (Nat.lt_irrefl _)⟩, hok, rfl, by kst_all, fun _ _ _ => rfl, hok2, hok3, hap2, hap3, ?ne0, rfl⟩
  case ne0 =>
    intro p hp
    have hp' : p ∈ tabA S2 ++ (tabB S3 ++ news) := by
      rcases List.mem_append.mp hp with hp | hp
      · exact List.mem_append_left _ hp
      · exact List.mem_append_right _ (List.mem_append_left _ hp)
    exact ⟨allLt_ne hl1 p hp', allLt_ne hl12.2 p hp', allLt_ne hI.2.2 p hp'⟩
  case turn =>
    intro k i
    refine InvR.turn ?_
    intro n1 tn1 v1 tv1 vq qs eq vr rs er T2 T3 m1 hq hr hlq hlr hik1 hik2 hik3 hokr hfin hm1 hm2 ho2 ho3 ha2 ha3 hne t7 h7 tk7 F7 N7
    have F8 : Fr g' L' h7 _ := ksw_fr (stored := [Str.ofString "quotient", Str.ofString "rest"]) (map_cons hm1 (by simp; decide)) (map_rest hm2) F7
    have N8 : News g' L' h7 _ := N7
    clear F7 N7
    dsimp only [kstB] at F8
    have hn1 : ∀ p ∈ tabA T2 ++ (tabB T3 ++ news), p.1 ≠ D1 := by
      intro p hp
      rcases List.mem_append.mp hp with h | h
      · exact (hne p (List.mem_append_left _ h)).1
      · rcases List.mem_append.mp h with h | h
        · exact (hne p (List.mem_append_right _ h)).1
        · exact allLt_ne (allLt_app (allLt_app hl1).2).2 p h
    have hn2 : ∀ p ∈ tabA T2 ++ (tabB T3 ++ news), p.1 ≠ D2 := by
      intro p hp
      rcases List.mem_append.mp hp with h | h
      · exact (hne p (List.mem_append_left _ h)).2.1
      · rcases List.mem_append.mp h with h | h
        · exact (hne p (List.mem_append_right _ h)).2.1
        · exact allLt_ne (allLt_app (allLt_app hl12.2).2).2 p h
    k_steps
    · have hi0 : 0 < i := by
        rcases Nat.eq_zero_or_pos i with h | h
        · exact absurd (hik2 h) (by omega)
        · exact h
      rename News h₀ L _ _ => N9
      rename_i x9 _ _ _ _ _ _ _
      have hlx : @LT.lt Nat _ D2 x9 ∧ @LT.lt Nat _ D1 x9 ∧ AllLt x9 (tabA T2 ++ (tabB T3 ++ news)) := by
        have h := (show _ ∧ @LT.lt Nat _ D2 x9 ∧ @LT.lt Nat _ D1 x9 ∧ AllLt x9 _ by assumption)
        exact h.2
      have hxA := (allLt_app hlx.2.2).1
      have hxB := (allLt_app (allLt_app hlx.2.2).2).1
      refine hret2 T2 T3 (hik3 hi0) x9 D1 D2 vq vr eq er _ _ (by assumption) (News.sinkDrop N9) ho2 ho3
        (apart.ins (ln := 87) (cc := 4) (apart.ins (ln := 87) (cc := 4) (apart.ins (ln := 87) (cc := 4) ha2 fun p hp => (hne p (List.mem_append_left _ hp)).1) fun p hp => (hne p (List.mem_append_left _ hp)).2.1) fun p hp => allLt_ne hxA p hp)
        (apart.ins (ln := 102) (cc := 4) (apart.ins (ln := 102) (cc := 4) (apart.ins (ln := 102) (cc := 4) ha3 fun p hp => (hne p (List.mem_append_right _ hp)).1) fun p hp => (hne p (List.mem_append_right _ hp)).2.1) fun p hp => allLt_ne hxB p hp)
        (allLt_app (allLt_app hlx.2.2).2).2 (allLt_app (allLt_app hl12.2).2).2 (allLt_app (allLt_app hl1).2).2 hl12.1 hlx.1 ?v1 ?w1
      case v1 => rw [← hfin]; unfold runL; rw [if_pos (by assumption)]; exact hq
      case w1 => rw [← hfin]; unfold runL; rw [if_pos (by assumption)]; exact hr
    · unfold Stop
      have hs := okRun_step hokr (by assumption)
      rename Fr g' L' _ _ => F9
      rename News g' L' _ _ => N9
      have N10 : News g' L' _ (tabA T2 ++ (tabB T3 ++ ((I, _) :: (D2, _) :: (D1, _) :: news))) := News.sink (A := [_, _, _]) N9
      refine FSpecD.pair (dmi_spec w p loose mean mg mb _ T2 T3 n1 v1 _ _ (by omega) hs.1 hs.2.1 hs.2.2.1) B' F9 X' C2 C3 N10 ho2 ho3
        (apart.ins (ln := 87) (cc := 4) (apart.ins (ln := 87) (cc := 4) (apart.ins (ln := 87) (cc := 4) ha2 fun p hp => (hne p (List.mem_append_left _ hp)).1) fun p hp => (hne p (List.mem_append_left _ hp)).2.1) fun p hp => (hne p (List.mem_append_left _ hp)).2.2)
        (apart.ins (ln := 102) (cc := 4) (apart.ins (ln := 102) (cc := 4) (apart.ins (ln := 102) (cc := 4) ha3 fun p hp => (hne p (List.mem_append_right _ hp)).1) fun p hp => (hne p (List.mem_append_right _ hp)).2.1) fun p hp => (hne p (List.mem_append_right _ hp)).2.2)
        T' rfl ?dd ?uu ?kk
      (case dd => (dsimp only; omega)); (case uu => (dsimp only; omega))
      case kk =>
        intro x t t' c2 c3 o2 o3 h2' tk2 F11 N11 hk2' hk3' hp2' hp3' hlx
        have hf2 := hp2'.facts
        have hf3 := hp3'.facts
        simp only [AllLt, TLg.AllNe, tabL, List.cons_append, List.nil_append] at hf2 hf3 hlx
        have hf2a := hf2.1
        have hf2b := hf2.2.1
        have hf2c := hf2.2.2
        have hf3a := hf3.1
        have hf3b := hf3.2.1
        have hf3c := hf3.2.2
        clear hf2 hf3
        have hnn1 : ∀ p ∈ news, p.1 ≠ D1 := allLt_ne (allLt_app (allLt_app hl1).2).2
        k_steps
        rename Fr g' L' _ _ => F13
        rename News g' L' _ _ => N13
        simp only [List.push_toArray] at N13
        have N14 : News g' L' _ ((I, _) :: (D2, _) :: (D1, _) :: (tabA (some (c2, o2)) ++ (tabB (some (c3, o3)) ++ news))) := News.pick N13 9 [6, 7, 8, 1, 2, 3, 4]
        refine unr_exact F13 N14 ?off ⟨(v1, _, n1 % v1, _, (_, qs ++ [n1 / v1], _), (_, rs ++ [v1], _), some (c2, o2), some (c3, o3)), ints_snoc hq _ _, ints_snoc hr _ _, ?len, ⟨by omega, fun h => absurd h (Nat.succ_ne_zero i), fun _ => ⟨_, _, _, _, rfl, rfl⟩⟩, hs.2.2.2, ?run, by kst_all, by ksw_same, hk2', hk3', ?ap2, ?ap3, ?nee, rfl⟩
        case off =>
          intro q hq
          simp only [List.cons_append, List.nil_append, List.mem_cons] at hq
          rcases hq with rfl | rfl | rfl | rfl | rfl | rfl | h
          · k_ne
          · k_ne
          · exact Ne.symm (hf2a.2.2.2.1)
          · exact Ne.symm (hf2b.2.2.2.1)
          · exact Ne.symm (hf3a.2.2.2.1)
          · exact Ne.symm (hf3b.2.2.2.1)
          · exact allLt_ne (allLt_app (allLt_app hI.2.2).2).2 q h
        case len => exact ⟨by dsimp only; simp only [List.length_append, List.length_cons, List.length_nil]; omega, by dsimp only; simp only [List.length_append, List.length_cons, List.length_nil]; omega⟩
        case run =>
          rw [← hfin]
          show _ = runL (k + 1) n1 v1 qs rs
          conv => rhs; unfold runL
          rw [if_neg (by assumption)]
        case ap2 =>
          refine hp2'.sub fun p hp => ?_
          rcases List.mem_append.mp hp with h | h
          · exact List.mem_append_left _ h
          · exact List.mem_append_right _ (List.mem_cons_of_mem _ (List.mem_cons_of_mem _ (List.mem_cons_of_mem _ (List.mem_cons_of_mem _ h))))
        case ap3 =>
          refine hp3'.sub fun p hp => ?_
          rcases List.mem_append.mp hp with h | h
          · exact List.mem_append_left _ h
          · exact List.mem_append_right _ (List.mem_cons_of_mem _ (List.mem_cons_of_mem _ (List.mem_cons_of_mem _ (List.mem_cons_of_mem _ h))))
        case nee =>
          intro q hq
          simp only [List.cons_append, List.nil_append, List.mem_cons, List.not_mem_nil, or_false] at hq
          rcases hq with rfl | rfl | rfl | rfl
          · exact ⟨Ne.symm hf2a.2.2.2.2.2.1, Ne.symm hf2a.2.2.2.2.1, Ne.symm hf2a.2.2.2.1⟩
          · exact ⟨Ne.symm hf2b.2.2.2.2.2.1, Ne.symm hf2b.2.2.2.2.1, Ne.symm hf2b.2.2.2.1⟩
          · exact ⟨Ne.symm hf3a.2.2.2.2.2.1, Ne.symm hf3a.2.2.2.2.1, Ne.symm hf3a.2.2.2.1⟩
          · exact ⟨Ne.symm hf3b.2.2.2.2.2.1, Ne.symm hf3b.2.2.2.2.1, Ne.symm hf3b.2.2.2.1⟩
  case fin =>
    intro i
    refine InvR.turn ?_
    intro n1 tn1 v1 tv1 vq qs eq vr rs er T2 T3 m1 hq hr hlq hlr hik1 hik2 hik3 hokr hfin hm1 hm2 ho2 ho3 ha2 ha3 hne h7 tk7 F7 N7
    have hi0 : 0 < i := by omega
    have F8 : Fr g' L' h7 _ := ksw_fr hm1 hm2 F7
    have N8 : News g' L' h7 _ := N7
    clear F7 N7
    dsimp only [kstB] at F8
    k_steps
    · skip
      rename News h₀ L _ _ => N9
      rename_i x9 _ _ _ _ _ _ _
      have hlx : @LT.lt Nat _ D2 x9 ∧ @LT.lt Nat _ D1 x9 ∧ AllLt x9 (tabA T2 ++ (tabB T3 ++ news)) := by
        have h := (show @LT.lt Nat _ D2 x9 ∧ @LT.lt Nat _ D1 x9 ∧ AllLt x9 _ by assumption)
        exact h
      have hxA := (allLt_app hlx.2.2).1
      have hxB := (allLt_app (allLt_app hlx.2.2).2).1
      refine hret2 T2 T3 (hik3 hi0) x9 D1 D2 vq vr eq er _ _ (by assumption) (News.sink (A := [_, _, _]) N9) ho2 ho3
        (apart.ins (ln := 87) (cc := 4) (apart.ins (ln := 87) (cc := 4) (apart.ins (ln := 87) (cc := 4) ha2 fun p hp => (hne p (List.mem_append_left _ hp)).1) fun p hp => (hne p (List.mem_append_left _ hp)).2.1) fun p hp => allLt_ne hxA p hp)
        (apart.ins (ln := 102) (cc := 4) (apart.ins (ln := 102) (cc := 4) (apart.ins (ln := 102) (cc := 4) ha3 fun p hp => (hne p (List.mem_append_right _ hp)).1) fun p hp => (hne p (List.mem_append_right _ hp)).2.1) fun p hp => allLt_ne hxB p hp)
        (allLt_app (allLt_app hlx.2.2).2).2 (allLt_app (allLt_app hl12.2).2).2 (allLt_app (allLt_app hl1).2).2 hl12.1 hlx.1 ?v1 ?w1
      case v1 => rw [← hfin]; exact hq
      case w1 => rw [← hfin]; exact hr
end Mine
end
-- part Sqb
section
theorem Mine.offSqb : True := by
  w_top off
  k_with_none
  trivial
open PySem PySem.W PyProof.Rows PySem.Calls
set_option Elab.async false
set_option maxRecDepth 100000
set_option maxHeartbeats 0
set_option linter.unusedVariables false
namespace Mine
theorem sqb_spec (w : World) (p : Program) (loose : List Str) (mean : ExcName → Option Value) (mg mb : Str → Option Value) (news : Led) (r : Int) (t : Tok) (h0 : 0 ≤ r) (h1 : r < 100000) :
   FSpec w p loose mean mg mb 221 [.int r t] [] news 1 8 (fun v tl => (∃ t', v = .int (-r * r) t') ∧ tl = []) := by
  unfold FSpec
  k_fill
  intro dp un gd cn cs ad ccd cl outer A₀ base h₀ L m s Q E B F X N T hk hd hu hret
  refine wpAny_call ?_
  k_dflt cell_enter
  k_steps
  exact hret _ [] _ _ (by assumption) (by assumption) (fun _ _ _ h => nomatch h) ⟨⟨_, rfl⟩, rfl⟩
end Mine
end
-- part Bis
section
theorem Mine.offBis : True := by
  w_top off
  k_with_none
  trivial
open PySem PySem.W PyProof.Rows PySem.Calls
set_option Elab.async false
set_option maxRecDepth 100000
set_option maxHeartbeats 0
set_option linter.unusedVariables false
namespace Mine
noncomputable def PB (rs : List Int) (n lo hi : Int) : Prop := 0 ≤ lo ∧ lo ≤ hi ∧ hi ≤ rs.length ∧ ∃ f, (hi - lo).toNat < f ∧ bisL (fun i => decide (-(rs.getD i 0) * (rs.getD i 0) < -n)) f lo.toNat hi.toNat = placeOf rs n
theorem PB.start {rs : List Int} {n : Int} : PB rs n 0 (rs.length : Int) := ⟨Int.le_refl _, by omega, Int.le_refl _, rs.length + 1, by omega, by rw [placeOf]; rfl⟩
theorem PB.bound {rs : List Int} {n lo hi : Int} (h : PB rs n lo hi) : 0 ≤ lo ∧ lo ≤ hi ∧ hi ≤ rs.length := ⟨h.1, h.2.1, h.2.2.1⟩
theorem PB.end {rs : List Int} {n lo hi : Int} (h : PB rs n lo hi) (hlt : ¬ lo < hi) : lo = placeOf rs n := by
  obtain ⟨h1, h2, h3, f, hf, he⟩ := h
  cases f with
  | zero => omega
  | succ f =>
    unfold bisL at he
    rw [if_neg (by omega)] at he
    omega
theorem half_nat {a b : Nat} (h : a < b) : ((a : Int) + (b : Int)).fdiv 2 = ((a + b) / 2 : Nat) ∧ a ≤ (a + b) / 2 ∧ (a + b) / 2 < b := by
  refine ⟨?_, by omega, by omega⟩
  rw [Int.fdiv_eq_ediv_of_nonneg _ (by decide)]
  omega
theorem PB.up {rs : List Int} {n lo hi : Int} (h : PB rs n lo hi) (hlt : lo < hi) (hc : -(rs.getD ((lo + hi).fdiv 2).toNat 0) * (rs.getD ((lo + hi).fdiv 2).toNat 0) < -n) : PB rs n ((lo + hi).fdiv 2 + 1) hi := by
  obtain ⟨h1, h2, h3, f, hf, he⟩ := h
  obtain ⟨a, rfl⟩ := Int.eq_ofNat_of_zero_le h1
  obtain ⟨b, rfl⟩ := Int.eq_ofNat_of_zero_le (Int.le_trans h1 h2)
  have hab : a < b := Int.ofNat_lt.mp hlt
  obtain ⟨em, m1, m2⟩ := half_nat hab
  rw [em] at hc ⊢
  simp only [Int.toNat_natCast] at hc he
  cases f with
  | zero => exact absurd hf (Nat.not_lt_zero _)
  | succ f =>
    unfold bisL at he
    rw [if_pos hab, if_pos (decide_eq_true hc)] at he
    generalize (a + b) / 2 = k at *
    clear hc em
    exact ⟨by omega, by omega, h3, f, by omega, he⟩
theorem PB.down {rs : List Int} {n lo hi : Int} (h : PB rs n lo hi) (hlt : lo < hi) (hc : ¬ -(rs.getD ((lo + hi).fdiv 2).toNat 0) * (rs.getD ((lo + hi).fdiv 2).toNat 0) < -n) : PB rs n lo ((lo + hi).fdiv 2) := by
  obtain ⟨h1, h2, h3, f, hf, he⟩ := h
  obtain ⟨a, rfl⟩ := Int.eq_ofNat_of_zero_le h1
  obtain ⟨b, rfl⟩ := Int.eq_ofNat_of_zero_le (Int.le_trans h1 h2)
  have hab : a < b := Int.ofNat_lt.mp hlt
  obtain ⟨em, m1, m2⟩ := half_nat hab
  rw [em] at hc ⊢
  simp only [Int.toNat_natCast] at hc he
  cases f with
  | zero => exact absurd hf (Nat.not_lt_zero _)
  | succ f =>
    unfold bisL at he
    rw [if_pos hab, if_neg (by simpa using hc)] at he
    generalize (a + b) / 2 = k at *
    clear hc em
    exact ⟨by omega, by omega, by omega, f, by omega, he⟩
theorem PB.name {rs : List Int} {n lo hi : Int} (h : PB rs n lo hi) : ∃ l u, l = lo ∧ u = hi := ⟨_, _, rfl, rfl⟩
theorem bis_spec (w : World) (p : Program) (loose : List Str) (mean : ExcName → Option Value) (mg mb : Str → Option Value) (news : Led) (D : Addr) (its : List Value) (e : Nat) (rs : List Int) (n : Int) (tn : Tok) (hi : IntsAre its rs) (hl : rs.length ≤ 50) (hb : ∀ i, 0 ≤ rs.getD i 0 ∧ rs.getD i 0 < 2000) (hn : 0 ≤ n) (hn2 : n < 2000) :
   FSpec w p loose mean mg mb 113 [.ref D, .int (-n) tn] [(Str.ofString "key", .ref 221)] ((D, W.listOf (List.toArray its) e) :: news) 4 20 (fun r tl => (∃ t, r = .int (placeOf rs n) t) ∧ tl = []) := by
  have on1 := On.mk "exec While Compare cons nil"
  have on2 := On.mk "KswEnd"
  have on3 := On.mk "call ref"
  unfold FSpec
  k_fill
  intro dp un gd cn cs ad ccd cl outer A₀ base h₀ L m s Q E B F X N T hk hd hu hret
  have hlen := hi.length
  refine wpAny_call ?_
  refine' code_def ?k1 ?k2 ?k3 ?k4 ?k5 ?kA ?kF ?kK ?k6 ?k7 ?k8 ?k9 ?kB ?_ ?c2 ?c3 ?c4 ?c5
  (case kA => exact rfl); (case kF => exact rfl); (case kK => assumption); (case k1 => k_asm); (case k2 => k_asm); (case k3 => k_asm); (case k4 => k_asm); (case k5 => k_asm); (case k6 => k_is); (case k7 => k_is); (case k8 => ktr_room); (case k9 => (refine' kp_binds ?kx ?ke; (case kx => k_in); (case ke => exact fun _ => rfl))); (case c5 => decide); (case kB => exact locs rfl); (case c2 => exact rfl); (case c3 => exact rfl); (case c4 => exact rfl)
  intro g' L' h' FG' F' N' B' X' T'
  k_lift B'
  obtain ⟨t0, F2⟩ : ∃ t0 : Tok, Fr g' L' h' (fun y => List.lookup y [(Str.ofString "key", .ref 221), (Str.ofString "hi", .none), (Str.ofString "lo", .int 0 t0), (Str.ofString "x", .int (-n) tn), (Str.ofString "a", .ref D)]) := ⟨_, F'⟩
  clear F'
  dsimp only [List.reverse_cons, List.reverse_nil, List.nil_append, List.length_cons, List.length_nil] at *
  k_steps
  unfold Stop
  (k_with "state" => first | exact PB.start | exact PB.up (by assumption) (by assumption) (by assumption) | exact PB.down (by assumption) (by assumption) (by assumption))
  (k_with "measure" => omega)
  k_while (fun (_ : List Int) lo hi => PB rs n lo hi) (fun (_ : List Int) lo hi => (hi - lo).toNat) "lo" "hi"
  all_goals (rename PB rs n _ _ => hP)
  obtain ⟨l9, u9, hl9, hu9⟩ := hP.name
  subst hl9
  subst hu9
  have hP1 := hP.bound
  have em : (l9 + u9).fdiv 2 = (l9 + u9) / 2 := Int.fdiv_eq_ediv_of_nonneg _ (by decide)
  have hm1 : 0 ≤ (l9 + u9).fdiv 2 := by omega
  k_steps
  · unfold Stop
    rename Fr g' L' _ _ => F3
    rename News g' L' _ _ => N3
    refine FSpec.use (sqb_spec w p loose mean mg mb _ _ _ (hb _).1 (Int.lt_trans (hb _).2 (by decide))) B' F3 X' N3 T' rfl (by dsimp only; omega) (by dsimp only; omega) ?_
    intro r tl h2 tk2 F4 N4 l4 hR
    obtain ⟨⟨t4, rfl⟩, rfl⟩ := hR
    dsimp only [List.nil_append] at N4
    k_steps
    all_goals (unfold Stop; ksw_close)
  · have he := hP.end (by assumption)
    exact hret _ [] _ _ (by assumption) (by assumption) (fun _ _ _ h => nomatch h) ⟨⟨_, by rw [he]⟩, rfl⟩
end Mine
end
-- part TupLt
section
theorem Mine.offTupLt : True := by
  w_top off
  k_with_none
  trivial
open PySem PySem.W PyProof.Rows PySem.Calls
set_option Elab.async false
set_option maxRecDepth 100000
set_option maxHeartbeats 1000000
set_option linter.unusedVariables false
namespace Mine
section
variable {prog : Program} {w : World} {A : Around} {E : Value → Shared → Prop} {s : Shared}
theorem tup_lt_tree {a b : Addr} {x1 y1 x y : Int} {t1 u1 t u : Tok} {P : PySem.Fin → Shared → Prop} (hx : s.heap.get? a = some (tupO [.int x1 t1, .int y1 u1])) (hy : s.heap.get? b = some (tupO [.int x t, .int y u]))
    (h : P (.done (.ret (.bool (decide (x1 < x ∨ (x1 = x ∧ y1 < y)))))) s) : wpAny (model prog w) A (Builtin.«tuple.__lt__» ⟨[.ref a, .ref b], []⟩) P E s := by
  have hTb : s.TypeIs (.ref b) "tuple" := ⟨_, hy, rfl⟩
  show wpAny _ _ (isInstance (.ref b) (.type "tuple") >>= _) _ _ s
  refine wpAny_bind (wpAny_isInstance hTb isSubtype_tuple_tuple ?_)
  simp only [Bool.not_true, Bool.false_eq_true, if_false]
  refine wpAny_bind (wpAny_tupleItemsOf hx rfl ?_)
  refine wpAny_bind (wpAny_tupleItemsOf hy rfl ?_)
  have hz : (List.toArray [Value.int x1 t1, .int y1 u1]).toList.zip (List.toArray [Value.int x t, .int y u]).toList = [(Value.int x1 t1, Value.int x t), (.int y1 u1, .int y u)] := rfl
  rw [hz]
  simp only [List.forIn_cons, List.forIn_nil]
  refine wpAny_bind (wpAny_bind ?_)
  refine wpAny_bind (wpAny_eqBool_int ?_)
  by_cases e1 : x1 = x
  · subst e1
    simp only [beq_self_eq_true, Bool.not_true, Bool.false_eq_true, if_false]
    refine wpAny_pure ?_
    refine wpAny_bind ?_
    refine wpAny_bind (wpAny_eqBool_int ?_)
    by_cases e2 : y1 = y
    · subst e2
      simp only [beq_self_eq_true, Bool.not_true, Bool.false_eq_true, if_false]
      refine wpAny_pure ?_
      refine wpAny_pure ?_
      refine wpAny_pure ?_
      have hd : decide (x1 < x1 ∨ (x1 = x1 ∧ y1 < y1)) = false := decide_eq_false (by omega)
      rw [hd] at h
      exact h
    · have e3 : (y1 == y) = false := beq_eq_false_iff_ne.mpr e2
      simp only [e3, Bool.not_false, if_true]
      have hd : decide (x1 < x1 ∨ (x1 = x1 ∧ y1 < y)) = decide (y1 < y) := by by_cases h : y1 < y <;> simp [h]
      rw [hd] at h
      refine wpAny_bind (wpAny_rule ?_)
      refine wpAny_bind (show wpAny _ _ (compareOp .Lt (.int y1 u1) (.int y u)) _ _ _ from lt_int ?_)
      refine wpAny_bind (wpAny_pure ?_)
      refine wpAny_pure ?_
      refine wpAny_pure ?_
      exact wpAny_pure h
  · have e3 : (x1 == x) = false := beq_eq_false_iff_ne.mpr e1
    simp only [e3, Bool.not_false, if_true]
    have hd : decide (x1 < x ∨ (x1 = x ∧ y1 < y)) = decide (x1 < x) := by by_cases h : x1 < x <;> simp [h, e1]
    rw [hd] at h
    refine wpAny_bind (wpAny_rule ?_)
    refine wpAny_bind (show wpAny _ _ (compareOp .Lt (.int x1 t1) (.int x t)) _ _ _ from lt_int ?_)
    refine wpAny_bind (wpAny_pure ?_)
    refine wpAny_pure ?_
    refine wpAny_pure ?_
    exact wpAny_pure h
theorem tup_lt {a b : Addr} {x1 y1 x y : Int} {t1 u1 t u : Tok} {h₀ : Heap} {L : Addr} {news : Led} {Q : Value → Shared → Prop} (N : News h₀ L s.heap news) (ha : (a, tupO [.int x1 t1, .int y1 u1]) ∈ news) (hb : (b, tupO [.int x t, .int y u]) ∈ news) (hu : A.units < cLine)
    (h : Q (.bool (decide (x1 < x ∨ (x1 = x ∧ y1 < y)))) s) : wpAny (model prog w) A (compareOp .Lt (.ref a) (.ref b)) Q E s := by
  have hx := N.get ha
  have hy := N.get hb
  exact wpAny_richCompare_same_room (op := .Lt) ⟨_, hx, rfl⟩ ⟨_, hy, rfl⟩ F.slot_tuple_lt
      (wpAny_call_entry F.slot_tuple_lt ⟨_, hx, rfl⟩ F.entry_tuple_lt (tup_lt_tree hx hy ⟨_, rfl, (fun e => nomatch e), h⟩) (F.args_tuple_lt_2 _ _)) hu
end
end Mine
end
-- part Bsn
section
theorem Mine.offBsn : True := by
  w_top off
  k_with_none
  trivial
open PySem PySem.W PyProof.Rows PySem.Calls
set_option Elab.async false
set_option maxRecDepth 100000
set_option maxHeartbeats 0
set_option linter.unusedVariables false
namespace Mine
theorem bn0_spec (w : World) (p : Program) (loose : List Str) (mean : ExcName → Option Value) (mg mb : Str → Option Value) (news : Led) (R : Addr) (xv : Value) (e : Nat) (t9 : Tok) :
   FSpec w p loose mean mg mb 113 [.ref R, xv, .int 0 t9, .none] [] ((R, W.listOf #[] e) :: news) 2 10 (fun r tl => (∃ t, r = .int 0 t) ∧ tl = []) := by
  unfold FSpec
  k_fill
  intro dp un gd cn cs ad ccd cl outer A₀ base h₀ L m s Q E B F X N T hk hd hu hret
  refine wpAny_call ?_
  refine' code_def ?k1 ?k2 ?k3 ?k4 ?k5 ?kA ?kF ?kK ?k6 ?k7 ?k8 ?k9 ?kB ?_ ?c2 ?c3 ?c4 ?c5
  (case kA => exact rfl); (case kF => exact rfl); (case kK => assumption); (case k1 => k_asm); (case k2 => k_asm); (case k3 => k_asm); (case k4 => k_asm); (case k5 => k_asm); (case k6 => k_is); (case k7 => k_is); (case k8 => ktr_room); (case k9 => (refine' kp_binds ?kx ?ke; (case kx => k_in); (case ke => exact fun _ => rfl))); (case c5 => decide); (case kB => exact locs rfl); (case c2 => exact rfl); (case c3 => exact rfl); (case c4 => exact rfl)
  intro g' L' h' FG' F' N' B' X' T'
  k_lift B'
  have F2 : Fr g' L' h' (fun y => List.lookup y [(Str.ofString "key", .none), (Str.ofString "hi", .none), (Str.ofString "lo", .int 0 t9), (Str.ofString "x", xv), (Str.ofString "a", .ref R)]) := F'
  clear F'
  k_steps
  exact hret _ [] _ _ (by assumption) (by assumption) (fun _ _ _ h => nomatch h) ⟨⟨_, rfl⟩, rfl⟩
theorem bn1_spec (w : World) (p : Program) (loose : List Str) (mean : ExcName → Option Value) (mg mb : Str → Option Value) (news : Led) (R t a : Addr) (x y x1 y1 : Int) (tx ty tx1 ty1 : Tok) (e : Nat) (t9 : Tok) :
   FSpec w p loose mean mg mb 113 [.ref R, .ref t, .int 0 t9, .none] [] ((t, tupO [.int x tx, .int y ty]) :: (a, tupO [.int x1 tx1, .int y1 ty1]) :: (R, W.listOf #[.ref a] e) :: news) 2 10 (fun r tl => (∃ t, r = .int (if x1 < x ∨ (x1 = x ∧ y1 < y) then 1 else 0) t) ∧ tl = []) := by
  have on1 := On.mk "compareOp Lt ref ref"
  unfold FSpec
  k_fill
  intro dp un gd cn cs ad ccd cl outer A₀ base h₀ L m s Q E B F X N T hk hd hu hret
  refine wpAny_call ?_
  refine' code_def ?k1 ?k2 ?k3 ?k4 ?k5 ?kA ?kF ?kK ?k6 ?k7 ?k8 ?k9 ?kB ?_ ?c2 ?c3 ?c4 ?c5
  (case kA => exact rfl); (case kF => exact rfl); (case kK => assumption); (case k1 => k_asm); (case k2 => k_asm); (case k3 => k_asm); (case k4 => k_asm); (case k5 => k_asm); (case k6 => k_is); (case k7 => k_is); (case k8 => ktr_room); (case k9 => (refine' kp_binds ?kx ?ke; (case kx => k_in); (case ke => exact fun _ => rfl))); (case c5 => decide); (case kB => exact locs rfl); (case c2 => exact rfl); (case c3 => exact rfl); (case c4 => exact rfl)
  intro g' L' h' FG' F' N' B' X' T'
  k_lift B'
  have F2 : Fr g' L' h' (fun y => List.lookup y [(Str.ofString "key", .none), (Str.ofString "hi", .none), (Str.ofString "lo", .int 0 t9), (Str.ofString "x", .ref t), (Str.ofString "a", .ref R)]) := F'
  clear F'
  k_steps
  unfold Stop
  (k_here; k_dflt (refine' tup_lt ?N ?a ?b ?u ?_; (case N => k_asm); (case a => k_mem); (case b => k_mem); (case u => ktr_units)))
  k_steps
  · exact hret _ [] _ _ (by assumption) (by assumption) (fun _ _ _ h => nomatch h) ⟨⟨_, by rw [if_pos (by assumption)]; rfl⟩, rfl⟩
  · exact hret _ [] _ _ (by assumption) (by assumption) (fun _ _ _ h => nomatch h) ⟨⟨_, by rw [if_neg (by assumption)]⟩, rfl⟩
end Mine
end
-- part Ins
section
theorem Mine.offIns : True := by
  w_top off
  k_with_none
  trivial
open PySem PySem.W PyProof.Rows PySem.Calls
set_option Elab.async false
set_option maxRecDepth 100000
set_option maxHeartbeats 0
set_option linter.unusedVariables false
namespace Mine
/-- a def that changes a part of the ledger: from pre to one of the posts -/
noncomputable def FSpecM (w : World) (p : Program) (loose : List Str) (mean : ExcName → Option Value) (mg mb : Str → Option Value) (f : Addr) (vs : List Value) (kw : List (Str × Value)) (pre : Led) (dd uu : Nat) (Post : Value → Led → Prop) : Prop :=
  ∀ (dp un : Nat) (gd : Option (List Code)) (cn : Str) (cs : Scope) (ad : Addr) (ccd : Value) (cl : List (Str × Addr)) (outer : List Env) (A₀ : Around) (base h₀ : Heap) (L : Addr) (m : Str → Option Value) (s : Shared) (Q E : Value → Shared → Prop),
    Below A₀ base outer h₀ → Fr h₀ L s.heap m → (myK w.params).In h₀ → News h₀ L s.heap pre → Top p loose mean mg mb h₀ → cs.kind = .function →
    dp + dd < recursionLimit → un + uu < cLine →
    (∀ (r : Value) (tl : Led) (h' : Heap) (tk' : Nat), Fr h₀ L h' m → News h₀ L h' tl → Post r tl → Q r { s with heap := h', toks := tk' }) →
    wpAny (model PySem.Challenge.rw_sn0092_01.row.prog w) (ktrTop dp un gd cn cs L ad ccd cl outer) (call (.ref f) vs kw) Q E s
local macro_rules | `(tactic| k_all) => `(tactic| assumption)
theorem ins0_spec (w : World) (p : Program) (loose : List Str) (mean : ExcName → Option Value) (mg mb : Str → Option Value) (news : Led) (R t : Addr) (x y : Int) (tx ty : Tok) (e : Nat) (h1 : ∀ p ∈ news, p.1 ≠ R) (h2 : @LT.lt Nat _ R t) :
   FSpecM w p loose mean mg mb 104 [.ref R, .ref t] [] ((t, tupO [.int x tx, .int y ty]) :: (R, W.listOf #[] e) :: news) 4 20 (fun r tl => ∃ e', tl = (R, W.listOf #[.ref t] e') :: (t, tupO [.int x tx, .int y ty]) :: news) := by
  have on1 := On.mk "call ref"
  unfold FSpecM
  k_fill
  intro dp un gd cn cs ad ccd cl outer A₀ base h₀ L m s Q E B F X N T hk hd hu hret
  refine wpAny_call ?_
  refine' code_def ?k1 ?k2 ?k3 ?k4 ?k5 ?kA ?kF ?kK ?k6 ?k7 ?k8 ?k9 ?kB ?_ ?c2 ?c3 ?c4 ?c5
  (case kA => exact rfl); (case kF => exact rfl); (case kK => assumption); (case k1 => k_asm); (case k2 => k_asm); (case k3 => k_asm); (case k4 => k_asm); (case k5 => k_asm); (case k6 => k_is); (case k7 => k_is); (case k8 => ktr_room); (case k9 => (refine' kp_binds ?kx ?ke; (case kx => k_in); (case ke => exact fun _ => rfl))); (case c5 => decide); (case kB => exact locs rfl); (case c2 => exact rfl); (case c3 => exact rfl); (case c4 => exact rfl)
  intro g' L' h' FG' F' N' B' X' T'
  k_lift B'
  obtain ⟨t0, F2⟩ : ∃ t0 : Tok, Fr g' L' h' (fun y => List.lookup y [(Str.ofString "key", .none), (Str.ofString "hi", .none), (Str.ofString "lo", .int 0 t0), (Str.ofString "x", .ref t), (Str.ofString "a", .ref R)]) := ⟨_, F'⟩
  clear F'
  k_steps
  unfold Stop
  rename Fr g' L' _ _ => F3
  rename News g' L' _ _ => N3
  have N4 : News g' L' _ ((R, W.listOf #[] e) :: (t, tupO [.int x tx, .int y ty]) :: news) := News.pick N3 2 [1, 0]
  refine FSpec.use (bn0_spec w p loose mean mg mb _ R _ e t0) B' F3 X' N4 T' rfl (by dsimp only; omega) (by dsimp only; omega) ?_
  intro r tl h2 tk2 F5 N5 l4 hR
  obtain ⟨⟨t4, rfl⟩, rfl⟩ := hR
  dsimp only [List.nil_append] at N5
  k_steps
  exact hret _ _ _ _ (by assumption) (by assumption) ⟨_, rfl⟩
theorem ins1_spec (w : World) (p : Program) (loose : List Str) (mean : ExcName → Option Value) (mg mb : Str → Option Value) (news : Led) (R t a : Addr) (x y x1 y1 : Int) (tx ty tx1 ty1 : Tok) (e : Nat) (h1 : ∀ p ∈ news, p.1 ≠ R) (h2 : @LT.lt Nat _ R t) (h3 : @LT.lt Nat _ R a) :
   FSpecM w p loose mean mg mb 104 [.ref R, .ref t] [] ((t, tupO [.int x tx, .int y ty]) :: (a, tupO [.int x1 tx1, .int y1 ty1]) :: (R, W.listOf #[.ref a] e) :: news) 4 20 (fun r tl => ∃ e', tl = (R, W.listOf (List.toArray (if x1 < x ∨ (x1 = x ∧ y1 < y) then [.ref a, .ref t] else [.ref t, .ref a])) e') :: (t, tupO [.int x tx, .int y ty]) :: (a, tupO [.int x1 tx1, .int y1 ty1]) :: news) := by
  have on1 := On.mk "call ref"
  unfold FSpecM
  k_fill
  intro dp un gd cn cs ad ccd cl outer A₀ base h₀ L m s Q E B F X N T hk hd hu hret
  refine wpAny_call ?_
  refine' code_def ?k1 ?k2 ?k3 ?k4 ?k5 ?kA ?kF ?kK ?k6 ?k7 ?k8 ?k9 ?kB ?_ ?c2 ?c3 ?c4 ?c5
  (case kA => exact rfl); (case kF => exact rfl); (case kK => assumption); (case k1 => k_asm); (case k2 => k_asm); (case k3 => k_asm); (case k4 => k_asm); (case k5 => k_asm); (case k6 => k_is); (case k7 => k_is); (case k8 => ktr_room); (case k9 => (refine' kp_binds ?kx ?ke; (case kx => k_in); (case ke => exact fun _ => rfl))); (case c5 => decide); (case kB => exact locs rfl); (case c2 => exact rfl); (case c3 => exact rfl); (case c4 => exact rfl)
  intro g' L' h' FG' F' N' B' X' T'
  k_lift B'
  obtain ⟨t0, F2⟩ : ∃ t0 : Tok, Fr g' L' h' (fun y => List.lookup y [(Str.ofString "key", .none), (Str.ofString "hi", .none), (Str.ofString "lo", .int 0 t0), (Str.ofString "x", .ref t), (Str.ofString "a", .ref R)]) := ⟨_, F'⟩
  clear F'
  k_steps
  unfold Stop
  rename Fr g' L' _ _ => F3
  rename News g' L' _ _ => N3
  refine FSpec.use (bn1_spec w p loose mean mg mb _ R t a x y x1 y1 tx ty tx1 ty1 e t0) B' F3 X' N3 T' rfl (by dsimp only; omega) (by dsimp only; omega) ?_
  intro r tl h2 tk2 F5 N5 l4 hR
  obtain ⟨⟨t4, rfl⟩, rfl⟩ := hR
  dsimp only [List.nil_append] at N5
  by_cases hc : x1 < x ∨ (x1 = x ∧ y1 < y)
  · rw [if_pos hc]
    k_steps
    rename News h₀ L _ _ => N9
    exact hret _ _ _ _ (by assumption) (News.sub (l' := (R, W.listOf (List.toArray [.ref a, .ref t]) _) :: (t, tupO [.int x tx, .int y ty]) :: (a, tupO [.int x1 tx1, .int y1 ty1]) :: news) N9 (by
      intro q hq
      simp only [List.mem_cons] at hq ⊢
      rcases hq with h | h | h | h
      · exact .inr (.inr (.inl h))
      · exact .inl h
      · exact .inr (.inl h)
      · exact .inr (.inr (.inr h)))) ⟨_, by rw [if_pos hc]⟩
  · rw [if_neg hc]
    k_steps
    rename News h₀ L _ _ => N9
    exact hret _ _ _ _ (by assumption) (News.sub (l' := (R, W.listOf (List.toArray [.ref t, .ref a]) _) :: (t, tupO [.int x tx, .int y ty]) :: (a, tupO [.int x1 tx1, .int y1 ty1]) :: news) N9 (by
      intro q hq
      simp only [List.mem_cons] at hq ⊢
      rcases hq with h | h | h | h
      · exact .inr (.inr (.inl h))
      · exact .inl h
      · exact .inr (.inl h)
      · exact .inr (.inr (.inr h)))) ⟨_, by rw [if_neg hc]⟩
end Mine
end
-- part VT
section
theorem Mine.offVT : True := by
  w_top off
  k_with_none
  trivial
open PySem PySem.W PyProof.Rows PySem.Calls
set_option Elab.async false
set_option maxRecDepth 100000
set_option maxHeartbeats 0
set_option linter.unusedVariables false
namespace Mine
noncomputable abbrev vB : List Stmt := by
  refine (?f : (d : List Stmt) → Same d (forBody (myD.body.getD 17 default)) → List Stmt) _ (by
  conv in (occs := *) forBody _ => all_goals whnf
  exact same _)
  exact fun d _ => d
/-- the row of pairs in the heap -/
noncomputable def RowAt (R : Addr) (row : List (Int × Int)) (l : Led) : Prop :=
  (row = [] ∧ ∃ e, l = [(R, W.listOf #[] e)]) ∨
  (∃ (q : Int × Int) (a : Addr) (e : Nat) (t u : Tok), row = [q] ∧ @LT.lt Nat _ R a ∧ l = [(a, tupO [.int q.1 t, .int q.2 u]), (R, W.listOf #[.ref a] e)]) ∨
  (∃ (q r : Int × Int) (a b : Addr) (e : Nat) (t u t' u' : Tok), row = [q, r] ∧ l = [(b, tupO [.int r.1 t', .int r.2 u']), (a, tupO [.int q.1 t, .int q.2 u]), (R, W.listOf #[.ref a, .ref b] e)])
theorem insP0 (p : Int × Int) : insP [] p = [p] := by simp [insP, bisL]
theorem insP1 (q p : Int × Int) : insP [q] p = if q.1 < p.1 ∨ (q.1 = p.1 ∧ q.2 < p.2) then [q, p] else [p, q] := by
  have e : insP [q] p = if ltP q p = true then [q, p] else [p, q] := by
    unfold insP
    simp only [List.length_singleton, bisL]
    by_cases h : ltP q p = true
    · simp [h]
    · simp [h]
  rw [e]
  have e2 : (ltP q p = true) = (q.1 < p.1 ∨ (q.1 = p.1 ∧ q.2 < p.2)) := by simp [ltP]
  simp only [e2]
theorem tup_toks {g h : Heap} {L t : Addr} {x y : Int} {tx ty : Tok} {r : Led} (N : News g L h ((t, tupO [.int x tx, .int y ty]) :: r)) : ∃ a b, a = tx ∧ b = ty := ⟨_, _, rfl, rfl⟩
theorem apart_step {P t : Addr} {ln cc : Int} {S : TabS} {l l' : Led} (h : apart P S l) (ht : ∀ q ∈ tabL P ln cc S, q.1 < t) (hs : ∀ p ∈ l', (∃ q ∈ l, q.1 = p.1) ∨ p.1 = t) : apart P S l' := by
  have hP : P < t := by
    cases S with
    | none => exact ht _ (List.mem_cons_self ..)
    | some q => exact ht _ (List.mem_cons_self ..)
  refine ⟨fun p hp => ?_, fun c o e => ⟨(h.2 c o e).1, fun p hp => ?_⟩⟩
  · rcases hs p hp with ⟨q, hq, e⟩ | e
    · rw [← e]; exact h.1 q hq
    · rw [e]; exact Nat.ne_of_gt hP
  · rcases hs p hp with ⟨q, hq, e2⟩ | e2
    · rw [← e2]; exact (h.2 c o e).2 q hq
    · subst e
      rw [e2]
      exact Nat.ne_of_gt (ht (c, o) (List.mem_cons_of_mem _ (List.mem_cons_self ..)))
theorem apart_new {P t : Addr} {ln cc : Int} {S : TabS} {T1 X rl rl2 nw : Led} {a b : Addr × Obj} (h : apart P S (T1 ++ (X ++ (a :: b :: (rl ++ nw))))) (ht : ∀ q ∈ tabL P ln cc S, q.1 < t) (hr : ∀ p ∈ rl2, (∃ q ∈ rl, q.1 = p.1) ∨ p.1 = t) : apart P S (T1 ++ (a :: b :: (rl2 ++ nw))) := apart_step h ht (by
    intro p hp
    simp only [List.mem_append, List.mem_cons] at hp
    rcases hp with h | h | h | h | h
    · exact .inl ⟨p, by simp [h], rfl⟩
    · exact .inl ⟨p, by simp [h], rfl⟩
    · exact .inl ⟨p, by simp [h], rfl⟩
    · rcases hr p h with ⟨q, hq, e⟩ | e
      · exact .inl ⟨q, by simp [hq], e⟩
      · exact .inr e
    · exact .inl ⟨p, by simp [h], rfl⟩)
theorem insA_spec (w : World) (p : Program) (loose : List Str) (mean : ExcName → Option Value) (mg mb : Str → Option Value) (news rl : Led) (row : List (Int × Int)) (R t : Addr) (x y : Int) (tx ty : Tok) (hra : RowAt R row rl) (hrow : row.length ≤ 1) (h1 : ∀ p ∈ news, p.1 ≠ R) (h2 : @LT.lt Nat _ R t) :
   FSpecM w p loose mean mg mb 104 [.ref R, .ref t] [] ((t, tupO [.int x tx, .int y ty]) :: (rl ++ news)) 4 20 (fun r tl => ∃ rl2, tl = rl2 ++ news ∧ RowAt R (insP row (x, y)) rl2 ∧ ∀ p ∈ rl2, (∃ q ∈ rl, q.1 = p.1) ∨ p.1 = t) := by
  rcases hra with ⟨hr0, e, h⟩ | ⟨q, a, e, ta, ua, hr0, hRa, h⟩ | ⟨q, r, a, b, e, _, _, _, _, hr0, h⟩
  · subst h
    subst hr0
    unfold FSpecM
    intro dp un gd cn cs ad ccd cl outer A₀ base h₀ L m s Q E B F X N T hk hd hu hret
    refine ins0_spec w p loose mean mg mb news R t x y tx ty e h1 h2 _ _ _ _ _ _ _ _ _ _ _ _ _ _ _ _ _ B F X N T hk hd hu ?_
    rintro r tl h' tk' F' N' ⟨e', rfl⟩
    refine hret r ([(t, tupO [.int x tx, .int y ty]), (R, W.listOf #[.ref t] e')] ++ news) h' tk' F' (News.pick N' 2 [1, 0]) ⟨_, rfl, ?_, ?_⟩
    · rw [insP0]
      exact .inr (.inl ⟨(x, y), t, e', tx, ty, rfl, h2, rfl⟩)
    · intro p hp
      simp only [List.mem_cons, List.not_mem_nil, or_false] at hp
      rcases hp with h | h
      · subst h; exact .inr rfl
      · subst h; exact .inl ⟨_, List.mem_cons_self .., rfl⟩
  · subst h
    subst hr0
    unfold FSpecM
    intro dp un gd cn cs ad ccd cl outer A₀ base h₀ L m s Q E B F X N T hk hd hu hret
    refine ins1_spec w p loose mean mg mb news R t a x y q.1 q.2 tx ty ta ua e h1 h2 hRa _ _ _ _ _ _ _ _ _ _ _ _ _ _ _ _ _ B F X N T hk hd hu ?_
    rintro r tl h' tk' F' N' ⟨e', rfl⟩
    rw [insP1] at hret
    dsimp only at hret
    by_cases hc : q.1 < x ∨ (q.1 = x ∧ q.2 < y)
    · rw [if_pos hc] at N' hret
      refine hret r ([(t, tupO [.int x tx, .int y ty]), (a, tupO [.int q.1 ta, .int q.2 ua]), (R, W.listOf #[.ref a, .ref t] e')] ++ news) h' tk' F' (News.pick N' 3 [1, 2, 0]) ⟨_, rfl, ?_, ?_⟩
      · exact .inr (.inr ⟨q, (x, y), a, t, e', ta, ua, tx, ty, rfl, rfl⟩)
      · intro p hp
        simp only [List.mem_cons, List.not_mem_nil, or_false] at hp
        rcases hp with h | h | h
        · subst h; exact .inr rfl
        · subst h; exact .inl ⟨_, List.mem_cons_self .., rfl⟩
        · subst h; exact .inl ⟨_, List.mem_cons_of_mem _ (List.mem_cons_self ..), rfl⟩
    · rw [if_neg hc] at N' hret
      refine hret r ([(a, tupO [.int q.1 ta, .int q.2 ua]), (t, tupO [.int x tx, .int y ty]), (R, W.listOf #[.ref t, .ref a] e')] ++ news) h' tk' F' (News.pick N' 3 [2, 1, 0]) ⟨_, rfl, ?_, ?_⟩
      · exact .inr (.inr ⟨(x, y), q, t, a, e', tx, ty, ta, ua, rfl, rfl⟩)
      · intro p hp
        simp only [List.mem_cons, List.not_mem_nil, or_false] at hp
        rcases hp with h | h | h
        · subst h; exact .inl ⟨_, List.mem_cons_self .., rfl⟩
        · subst h; exact .inr rfl
        · subst h; exact .inl ⟨_, List.mem_cons_of_mem _ (List.mem_cons_self ..), rfl⟩
  · subst hr0
    simp at hrow
local macro_rules | `(tactic| k_all) => `(tactic| assumption)
theorem FSpecD.run {w : World} {p : Program} {loose : List Str} {mean : ExcName → Option Value} {mg mb : Str → Option Value} {S2 S3 : TabS} {f : Addr} {vs : List Value} {news : Led} {dd uu : Nat} {Rq Rr : List Int}
    {dp un : Nat} {gd : Option (List Code)} {cn : Str} {cs : Scope} {ad : Addr} {ccd : Value} {cl : List (Str × Addr)} {outer : List Env} {A₀ : Around} {base h₀ : Heap} {L : Addr} {m : Str → Option Value} {s : Shared} {Q E : Value → Shared → Prop}
    (S : FSpecD w p loose mean mg mb S2 S3 f vs news dd uu (fun r tl => ∃ x D1 D2 vs1 vs2 e1 e2, r = .ref x ∧ tl = [(x, tupO [.ref D1, .ref D2]), (D2, W.listOf (List.toArray vs2) e2), (D1, W.listOf (List.toArray vs1) e1)] ∧
     @LT.lt Nat _ D1 D2 ∧ @LT.lt Nat _ D2 x ∧ IntsAre vs1 Rq ∧ IntsAre vs2 Rr))
    (B : Below A₀ base outer h₀) (F : Fr h₀ L s.heap m) (X : (myK w.params).In h₀) (C2 : CodeHd base 73 69) (C3 : CodeHd base 80 76) (N : News h₀ L s.heap (tabA S2 ++ (tabB S3 ++ news))) (o2 : tabOk nmA S2) (o3 : tabOk nmB S3) (a2 : apart 69 S2 (tabB S3 ++ news)) (a3 : apart 76 S3 (tabA S2 ++ news)) (T : Top p loose mean mg mb h₀) (hk : cs.kind = .function)
    (hd : dp + dd < recursionLimit) (hu : un + uu < cLine)
    (k : ∀ (x D1 D2 : Addr) (vs1 vs2 : List Value) (e1 e2 : Nat) (c2 c3 : Addr) (o2 o3 : Obj) (h' : Heap) (tk' : Nat), Fr h₀ L h' m → News h₀ L h' ((69, tabObj #[rawInt 87, rawInt 4, .ref c2]) :: (c2, o2) :: (76, tabObj #[rawInt 102, rawInt 4, .ref c3]) :: (c3, o3) :: (x, tupO [.ref D1, .ref D2]) :: (D2, W.listOf (List.toArray vs2) e2) :: (D1, W.listOf (List.toArray vs1) e1) :: news) → tabOk nmA (some (c2, o2)) → tabOk nmB (some (c3, o3)) →
      apart 69 (some (c2, o2)) (tabB (some (c3, o3)) ++ ((x, tupO [.ref D1, .ref D2]) :: (D2, W.listOf (List.toArray vs2) e2) :: (D1, W.listOf (List.toArray vs1) e1) :: news)) → apart 76 (some (c3, o3)) (tabA (some (c2, o2)) ++ ((x, tupO [.ref D1, .ref D2]) :: (D2, W.listOf (List.toArray vs2) e2) :: (D1, W.listOf (List.toArray vs1) e1) :: news)) →
      (∀ q ∈ news, @LT.lt Nat _ q.1 D1) → @LT.lt Nat _ D1 D2 → @LT.lt Nat _ D2 x → IntsAre vs1 Rq → IntsAre vs2 Rr → Q (.ref x) { s with heap := h', toks := tk' }) :
    wpAny (model PySem.Challenge.rw_sn0092_01.row.prog w) (ktrTop dp un gd cn cs L ad ccd cl outer) (call (.ref f) vs []) Q E s := S dp un gd cn cs ad ccd cl outer A₀ base h₀ L m s Q E B F X C2 C3 N o2 o3 a2 a3 T hk hd hu (by
  rintro r tl c2 c3 o2 o3 h' tk' F' N' k2 k3 p2 p3 l ⟨x, D1, D2, vs1, vs2, e1, e2, rfl, rfl, q1, q2, i1, i2⟩
  exact k x D1 D2 vs1 vs2 e1 e2 c2 c3 o2 o3 h' tk' F' N' k2 k3 p2 p3 (fun q hq => l q hq _ (List.mem_cons_of_mem _ (List.mem_cons_of_mem _ (List.mem_cons_self ..)))) q1 q2 i1 i2)
theorem FSpec.int {w : World} {p : Program} {loose : List Str} {mean : ExcName → Option Value} {mg mb : Str → Option Value} {f : Addr} {vs : List Value} {kw : List (Str × Value)} {news : Led} {dd uu : Nat} {K : Int}
    {dp un : Nat} {gd : Option (List Code)} {cn : Str} {cs : Scope} {ad : Addr} {ccd : Value} {cl : List (Str × Addr)} {outer : List Env} {A₀ : Around} {base h₀ : Heap} {L : Addr} {m : Str → Option Value} {s : Shared} {Q E : Value → Shared → Prop}
    (S : FSpec w p loose mean mg mb f vs kw news dd uu (fun r tl => (∃ t, r = .int K t) ∧ tl = []))
    (B : Below A₀ base outer h₀) (F : Fr h₀ L s.heap m) (X : (myK w.params).In h₀) (N : News h₀ L s.heap news) (T : Top p loose mean mg mb h₀) (hk : cs.kind = .function)
    (hd : dp + dd < recursionLimit) (hu : un + uu < cLine)
    (k : ∀ (t : Tok) (h' : Heap) (tk' : Nat), Fr h₀ L h' m → News h₀ L h' news → Q (.int K t) { s with heap := h', toks := tk' }) :
    wpAny (model PySem.Challenge.rw_sn0092_01.row.prog w) (ktrTop dp un gd cn cs L ad ccd cl outer) (call (.ref f) vs kw) Q E s := FSpec.use S B F X N T hk hd hu (by
  rintro r tl h' tk' F' N' l ⟨⟨t, rfl⟩, rfl⟩
  exact k t h' tk' F' N')
theorem ne_ints_is {prog : Program} {w : World} {A : Around} {Q E : Value → Shared → Prop} {s : Shared} {a b : Addr} {xs ys : List Value} {ns ms : List Int} {r : Bool} (hr : (!decide (ns = ms)) = r) (ha : s.heap.IsList a xs.toArray) (hb : s.heap.IsList b ys.toArray) (hi : IntsAre xs ns) (hj : IntsAre ys ms) (hu : A.units + 64 < cLine) (h : Q (.bool r) s) :
    wpAny (model prog w) A (compareOp .NotEq (.ref a) (.ref b)) Q E s := ke_ne_ints ha hb hi hj hu (hr ▸ h)
theorem vT1 (w : World) (loose : List Str) (mean : ExcName → Option Value) (mg mb : Str → Option Value) (h₀ : Heap) (L fa : Addr) (cd : Value) (X : (myK w.params).In h₀) (T : Top topProg loose mean mg mb h₀) (B : Below callerA h₀ [] h₀) (C2 : CodeHd h₀ 73 69) (C3 : CodeHd h₀ 80 76)
   (I Dm R : Addr) (it : Obj) (mv : List Value) (em : Nat) (mir : List Int) (hmv : IntsAre mv mir) (hmir : mir.length ≤ 6) (row : List (Int × Int)) (rl nw : Led) (met : Bool) (S2 S3 : TabS)
   (n u v : Int) (qs rs : List Int) (pl : Nat) (hrun : runL 40 n v [] [n] = (qs, rs)) (hpal : qs.reverse = qs) (hpl : placeOf rs n = pl) (hql : qs.length = 2 * pl) (hplt : pl + 1 < rs.length) (hrs50 : rs.length ≤ 50) (hqs50 : qs.length ≤ 50) (hbd : ∀ i, 0 ≤ rs.getD i 0 ∧ rs.getD i 0 < 2000) (hn1 : 1 ≤ n) (hn2 : n < 2000) (hv1 : 0 < v) (hv2 : v ≤ n) (hok : okRun 40 n v = true) (hsq : (v * v).fmod n = n - 1) (hrow : row.length ≤ 1)
   (hra : RowAt R row rl) (hap2 : apart 69 S2 (tabB S3 ++ ((I, it) :: (Dm, W.listOf (List.toArray mv) em) :: (rl ++ nw)))) (hap3 : apart 76 S3 (tabA S2 ++ ((I, it) :: (Dm, W.listOf (List.toArray mv) em) :: (rl ++ nw)))) (hS2 : tabOk nmA S2) (hS3 : tabOk nmB S3)
   (tv tn tu : Tok) (m₁ : Str → Option Value) (s : Shared) (P : Flow → Shared → Prop) (E : Value → Shared → Prop)
   (hm : ∀ p ∈ [(Str.ofString "v", Value.int v tv), (Str.ofString "n", .int n tn), (Str.ofString "u", .int u tu), (Str.ofString "mirrored", .ref Dm), (Str.ofString "met", .bool met), (Str.ofString "row", .ref R)], m₁ p.1 = some p.2) (F₁ : Fr h₀ L s.heap m₁)
   (N : News h₀ L s.heap (tabA S2 ++ (tabB S3 ++ ((I, it) :: (Dm, W.listOf (List.toArray mv) em) :: (rl ++ nw)))))
   (hnR : ∀ p ∈ nw, p.1 ≠ R) (hIR : @Ne Nat I R) (hDR : @Ne Nat Dm R)
   (fin : ∀ h tk c2 o2 c3 o3 rl' m'', RowAt R (insP row (rs.getD pl 0, rs.getD (pl + 1) 0)) rl' → tabOk nmA (some (c2, o2)) → tabOk nmB (some (c3, o3)) → apart 69 (some (c2, o2)) (tabB (some (c3, o3)) ++ ((I, it) :: (Dm, W.listOf (List.toArray mv) em) :: (rl' ++ nw))) → apart 76 (some (c3, o3)) (tabA (some (c2, o2)) ++ ((I, it) :: (Dm, W.listOf (List.toArray mv) em) :: (rl' ++ nw))) → (∀ p ∈ rl', (∃ q ∈ rl, q.1 = p.1) ∨ @LT.lt Nat _ I p.1) → Fr h₀ L h m'' → m'' (Str.ofString "met") = some (.bool (if v = u then decide (qs = mir) else met)) → (∀ z, [Str.ofString "met", Str.ofString "quotients", Str.ofString "rests", Str.ofString "place"].contains z = false → m'' z = m₁ z) → News h₀ L h (tabA (some (c2, o2)) ++ (tabB (some (c3, o3)) ++ ((I, it) :: (Dm, W.listOf (List.toArray mv) em) :: (rl' ++ nw)))) → P .next { s with heap := h, toks := tk }) :
   wpAny (model PySem.Challenge.rw_sn0092_01.row.prog w) (callerA.deeper (envOf myD.name myD.scope L fa cd)) (execs vB (envOf myD.name myD.scope L fa cd)) P E s := by
  have on1 := On.mk "call ref"
  have on2 := On.mk "compareOp NotEq int int"
  have on3 := On.mk "compareOp NotEq ref ref"
  have on4 := On.mk "compareOp Eq int int"
  revert X
  k_fill
  intro X
  have F := ksw_fr (stored := []) (m₀ := m₁) hm (fun _ _ _ => rfl) F₁
  have hE := funext (fun z => kstB_eq (m₁ := m₁) (rest := m₁) (z := z) hm (fun _ => rfl))
  simp only [List.contains_nil, Bool.false_eq_true, if_false] at F
  dsimp only [kstB] at F hE
  clear F₁ hm
  have hsq2 : ((v * v).fmod n == n - 1) = true := by rw [hsq]; exact beq_self_eq_true _
  k_steps
  unfold Stop
  refine eqIs (by with_reducible assumption) ?_
  k_steps
  unfold Stop
  have hlrn := lrn_spec w topProg loose mean mg mb ((I, it) :: (Dm, W.listOf (List.toArray mv) em) :: (rl ++ nw)) S2 S3 n v tn tv hok hv1
  rw [hrun] at hlrn
  refine FSpecD.run (Rq := qs) (Rr := rs) hlrn B F X C2 C3 N hS2 hS3 hap2 hap3 T rfl (by decide) (by decide) ?_
  clear hlrn
  intro x D1 D2 vs1 vs2 e1 e2 c2 c3 o2 o3 h6 tk6 F6 N6 hk2 hk3 hp2 hp3 hlt6 hD12 hD2x hq hr
  obtain ⟨rest, hrest⟩ : ∃ rest, rest = tabA (some (c2, o2)) ++ (tabB (some (c3, o3)) ++ (rl ++ nw)) := ⟨_, rfl⟩
  have N7 : News h₀ L h6 ((x, tupO [.ref D1, .ref D2]) :: (D2, W.listOf (List.toArray vs2) e2) :: (D1, W.listOf (List.toArray vs1) e1) :: (I, it) :: (Dm, W.listOf (List.toArray mv) em) :: rest) := by
    rw [hrest]
    exact News.pick N6 9 [4, 5, 6, 7, 8, 0, 1, 2, 3]
  clear N6 N F
  have hq1 := hq.length
  have hr1 := hr.length
  k_steps
  unfold Stop
  rename Fr h₀ L _ _ => F8
  rename News h₀ L _ _ => N8
  have N9 := News.sub (l' := (D2, W.listOf (List.toArray vs2) e2) :: (D1, W.listOf (List.toArray vs1) e1) :: (I, it) :: (Dm, W.listOf (List.toArray mv) em) :: rest) N8 (fun q hq => List.mem_cons_of_mem _ hq)
  clear N8
  have hbis := fun news t9 => bis_spec w topProg loose mean mg mb news D2 vs2 e2 rs n t9 hr hrs50 hbd (by omega) hn2
  rw [hpl] at hbis
  refine FSpec.int (hbis _ _) B F8 X N9 T rfl (by decide) (by decide) ?_
  clear hbis
  intro t10 h9 tk9 F10 N10
  clear N9 F8
  have hpx : (!decide (qs = qs.reverse)) = false := by rw [hpal]; simp
  k_steps
  unfold Stop
  k_dflt (refine ne_ints_is hpx (by is_list) (by is_list) (by l_ints) (by l_ints) (by ke_room) ?_)
  k_steps
  unfold Stop
  rename News h₀ L _ _ => N11
  have N12 := News.sub (l' := (D2, W.listOf (List.toArray vs2) e2) :: (D1, W.listOf (List.toArray vs1) e1) :: (I, it) :: (Dm, W.listOf (List.toArray mv) em) :: rest) N11 (fun q hq => List.mem_cons_of_mem _ hq)
  clear N11
  refine neIs (r := false) (by rw [hql]; simp) ?_
  dsimp only
  k_steps
  unfold Stop
  rename Fr h₀ L _ _ => F13
  rename News h₀ L _ _ => N13
  rename_i tx ty t _ _
  rename (@LT.lt Nat _ D2 t ∧ _) => ltt
  have i1 : ((pl : Int)).toNat = pl := by omega
  have i2 : ((pl : Int) + 1).toNat = pl + 1 := by omega
  rw [i1, i2] at N13
  have hRin : ∃ oR, (R, oR) ∈ rl := by
    rcases hra with ⟨_, e, h⟩ | ⟨q, a, e, _, _, _, _, h⟩ | ⟨q, r, a, b, e, _, _, _, _, _, h⟩ <;> subst h
    · exact ⟨W.listOf #[] e, by simp⟩
    · exact ⟨W.listOf #[.ref a] e, by simp⟩
    · exact ⟨W.listOf #[.ref a, .ref b] e, by simp⟩
  obtain ⟨oR, hRin⟩ := hRin
  have hRD1 : @LT.lt Nat _ R D1 := hlt6 (R, oR) (List.mem_cons_of_mem _ (List.mem_cons_of_mem _ (List.mem_append_left _ hRin)))
  have hRD2 : @LT.lt Nat _ R D2 := Nat.lt_trans hRD1 hD12
  have hRt : @LT.lt Nat _ R t := Nat.lt_trans hRD2 ltt.1
  have hID : @LT.lt Nat _ I t := ltt.2.2.1
  have hR2 : R ≠ 69 ∧ R ≠ c2 := ⟨hp2.1 (R, oR) (List.mem_append_right _ (List.mem_cons_of_mem _ (List.mem_cons_of_mem _ (List.mem_cons_of_mem _ (List.mem_cons_of_mem _ (List.mem_cons_of_mem _ (List.mem_append_left _ hRin))))))), (hp2.2 c2 o2 rfl).2 (R, oR) (List.mem_append_right _ (List.mem_cons_of_mem _ (List.mem_cons_of_mem _ (List.mem_cons_of_mem _ (List.mem_cons_of_mem _ (List.mem_cons_of_mem _ (List.mem_append_left _ hRin)))))))⟩
  have hR3 : R ≠ 76 ∧ R ≠ c3 := ⟨hp3.1 (R, oR) (List.mem_append_right _ (List.mem_cons_of_mem _ (List.mem_cons_of_mem _ (List.mem_cons_of_mem _ (List.mem_cons_of_mem _ (List.mem_cons_of_mem _ (List.mem_append_left _ hRin))))))), (hp3.2 c3 o3 rfl).2 (R, oR) (List.mem_append_right _ (List.mem_cons_of_mem _ (List.mem_cons_of_mem _ (List.mem_cons_of_mem _ (List.mem_cons_of_mem _ (List.mem_cons_of_mem _ (List.mem_append_left _ hRin)))))))⟩
  have hnew : ∀ p ∈ (D2, W.listOf (List.toArray vs2) e2) :: (D1, W.listOf (List.toArray vs1) e1) :: (I, it) :: (Dm, W.listOf (List.toArray mv) em) :: (tabA (some (c2, o2)) ++ (tabB (some (c3, o3)) ++ nw)), p.1 ≠ R := by
    intro p hp
    simp only [List.mem_cons, List.mem_append, List.not_mem_nil, or_false] at hp
    rcases hp with h | h | h | h | (h | h) | (h | h) | h
    · subst h; exact Nat.ne_of_gt hRD2
    · subst h; exact Nat.ne_of_gt hRD1
    · subst h; exact hIR
    · subst h; exact hDR
    · subst h; exact Ne.symm hR2.1
    · subst h; exact Ne.symm hR2.2
    · subst h; exact Ne.symm hR3.1
    · subst h; exact Ne.symm hR3.2
    · exact hnR p h
  have htab2 : ∀ q ∈ tabA (some (c2, o2)), q.1 < t := fun q hq => allLt_lt ltt.2.2.2.2 q (by rw [hrest]; simp only [List.mem_append]; exact .inl hq)
  have htab3 : ∀ q ∈ tabB (some (c3, o3)), q.1 < t := fun q hq => allLt_lt ltt.2.2.2.2 q (by rw [hrest]; simp only [List.mem_append]; exact .inr (.inl hq))
  rw [hrest] at N13
  have N14 := News.swap1 (A := [_, _, _, _, _, _, _, _]) (B := rl) (C := nw) N13
  refine insA_spec w topProg loose mean mg mb _ rl row R t (rs.getD pl 0) (rs.getD (pl + 1) 0) tx ty hra hrow hnew hRt _ _ _ _ _ _ _ _ _ _ _ _ _ _ _ _ _ B F13 X N14 T rfl (by decide) (by decide) ?_
  rintro r15 tl15 h15 tk15 F15 N15 ⟨rl2, rfl, hra2, hrl2⟩
  have hp2' := apart_new (ln := 87) (cc := 4) (X := [_, _, _]) hp2 htab2 hrl2
  have hp3' := apart_new (ln := 102) (cc := 4) (X := [_, _, _]) hp3 htab3 hrl2
  have hrl3 : ∀ p ∈ rl2, (∃ q ∈ rl, q.1 = p.1) ∨ @LT.lt Nat _ I p.1 := fun p hp => by
    rcases hrl2 p hp with h | h
    · exact .inl h
    · exact .inr (by rw [h]; exact hID)
  obtain ⟨tb, htb⟩ : ∃ tb, tb = tabA (some (c2, o2)) ++ (tabB (some (c3, o3)) ++ (rl2 ++ nw)) := ⟨_, rfl⟩
  have N16 : News h₀ L h15 ((D1, W.listOf (List.toArray vs1) e1) :: (I, it) :: (Dm, W.listOf (List.toArray mv) em) :: tb) := by
    rw [htb]
    exact News.tail (News.swapB (A := [_, _, _, _, _, _, _, _]) (B := rl2) (C := nw) N15)
  have back : ∀ h, News h₀ L h ((D1, W.listOf (List.toArray vs1) e1) :: (I, it) :: (Dm, W.listOf (List.toArray mv) em) :: tb) → News h₀ L h (tabA (some (c2, o2)) ++ (tabB (some (c3, o3)) ++ ((I, it) :: (Dm, W.listOf (List.toArray mv) em) :: (rl2 ++ nw)))) := by
    rw [htb]
    exact fun h hN => News.pick hN 7 [3, 4, 5, 6, 1, 2]
  clear N15 N14 N13 F13 hnew htab2 htab3 hR2 hR3 hp2 hp3 hlt6 hrl2 hap2 hap3 hrest
  have fin2 := fun h tk m'' a b c d => fin h tk c2 o2 c3 o3 rl2 m'' hra2 hk2 hk3 hp2' hp3' hrl3 a b c (back h d)
  clear fin back hp2' hp3' hrl3 hra2
  by_cases hvu : v = u
  · have hvb : (v == u) = true := by simpa using hvu
    rw [if_pos hvu] at fin2
    k_steps
    unfold Stop
    refine eqIs (by with_reducible assumption) ?_
    k_steps
    rename Fr h₀ L _ _ => F20
    rename News h₀ L _ _ => N20
    refine fin2 _ _ _ F20 ?mt1 ?sm1 N20
    case mt1 =>
      exact if_pos rfl
    case sm1 =>
      intro z hz
      refine updL_off (names := [Str.ofString "met", Str.ofString "quotients", Str.ofString "rests", Str.ofString "place"]) hE z hz (l := [(_, _), (_, _), (_, _), (_, _)]) ?_
      kernel_rfl
  · have hvb : (v == u) = false := by simpa using hvu
    rw [if_neg hvu] at fin2
    k_steps
    unfold Stop
    refine eqIs (by with_reducible assumption) ?_
    k_steps
    rename Fr h₀ L _ _ => F20
    rename News h₀ L _ _ => N20
    refine fin2 _ _ _ F20 ?mt2 ?sm2 N20
    case mt2 =>
      rfl
    case sm2 =>
      intro z hz
      refine updL_off (names := [Str.ofString "met", Str.ofString "quotients", Str.ofString "rests", Str.ofString "place"]) hE z hz (l := [(_, _), (_, _), (_, _)]) ?_
      kernel_rfl
end Mine
end
-- part SqP
section
theorem Mine.offSqP : True := by
  w_top off
  k_with_none
  trivial
namespace Mine
noncomputable def P1 (n x : Int) : Prop := 1 ≤ x ∧ x ≤ 46 ∧ topL n (201 - x.toNat) x = topL n 200 1
theorem p1_start (n : Int) : P1 n 1 := ⟨by decide, by decide, rfl⟩
theorem p1_step {n x : Int} (h : P1 n x) (hn : n ≤ 2000) (hx : x * x < n) : P1 n (x + 1) := by
  obtain ⟨h1, h2, h3⟩ := h
  have hb : x ≤ 44 := by
    rcases Int.lt_or_le x 45 with h | h
    · omega
    · have := Int.mul_le_mul h h (by decide) (by omega)
      omega
  refine ⟨by omega, by omega, ?_⟩
  have hk : x.toNat ≤ 200 := by clear h3; omega
  rw [← h3, Int.toNat_add (Int.le_trans (by decide) h1) (by decide), Nat.succ_sub hk, show (200 - x.toNat) = 201 - (x.toNat + (1 : Int).toNat) from (Nat.succ_sub_succ 200 x.toNat).symm, topL, if_pos hx]
theorem p1_bound {n x : Int} (h : P1 n x) : 1 ≤ x ∧ x ≤ 46 := ⟨h.1, h.2.1⟩
theorem p1_end {n x : Int} (h : P1 n x) (hx : ¬ x * x < n) : topL n 200 1 = x := by
  obtain ⟨h1, h2, h3⟩ := h
  have hk : x.toNat ≤ 200 := by clear h3; omega
  rw [← h3, Nat.succ_sub hk, topL, if_neg hx]
noncomputable abbrev finL (n : Int) : List (Int × Int) := sqL n 200 (topL n 200 1) 1 []
noncomputable def P2 (n x y : Int) (ps : List (Int × Int)) : Prop := 1 ≤ y ∧ y ≤ x ∧ x ≤ 46 ∧ ∃ f, (x - y).toNat < f ∧ sqL n f x y ps = finL n
theorem sqL_len (n : Int) : ∀ (f : Nat) (x y : Int) (ps : List (Int × Int)), ps.length ≤ (sqL n f x y ps).length
  | 0, _, _, _ => Nat.le_refl _
  | f + 1, x, y, ps => by
    rw [sqL]
    split
    · split
      · exact sqL_len n f _ _ _
      · split
        · exact sqL_len n f _ _ _
        · refine Nat.le_trans ?_ (sqL_len n f _ _ _)
          split <;> simp
    · exact Nat.le_refl _
theorem sqL_pre (n : Int) : ∀ (f : Nat) (x y : Int) (ps : List (Int × Int)), ps <+: sqL n f x y ps
  | 0, _, _, ps => List.prefix_refl ps
  | f + 1, x, y, ps => by
    rw [sqL]
    split
    · split
      · exact sqL_pre n f _ _ _
      · split
        · exact sqL_pre n f _ _ _
        · refine List.IsPrefix.trans ?_ (sqL_pre n f _ _ _)
          split
          · exact List.prefix_append _ _
          · exact List.prefix_refl _
    · exact List.prefix_refl _
theorem p2_two {n x y a b c d : Int} (h : P2 n x y [(a, b), (c, d)]) (hl : (finL n).length ≤ 2) : finL n = [(a, b), (c, d)] := by
  obtain ⟨_, _, _, f, _, e⟩ := h
  have hp := sqL_pre n f x y [(a, b), (c, d)]
  rw [e] at hp
  exact (hp.eq_of_length_le (by simpa using hl)).symm
theorem p2_start {n x : Int} (h : P1 n x) (hx : ¬ x * x < n) : P2 n x 1 [] :=
  ⟨by decide, h.1, h.2.1, 200, by have := h.2.1; omega, by rw [finL, p1_end h hx]⟩
theorem p2_len {n x y : Int} {ps : List (Int × Int)} (h : P2 n x y ps) : ps.length ≤ (finL n).length := by
  obtain ⟨_, _, _, f, _, e⟩ := h
  rw [← e]; exact sqL_len n f x y ps
theorem p2_end {n x y : Int} {ps : List (Int × Int)} (h : P2 n x y ps) (hx : ¬ y < x) : ps = finL n := by
  obtain ⟨_, _, _, f, hf, e⟩ := h
  rw [← e]
  cases f with
  | zero => omega
  | succ f => rw [sqL, if_neg hx]
theorem p2_gt {n x y : Int} {ps : List (Int × Int)} (h : P2 n x y ps) (hx : y < x) (hg : x * x + y * y > n) : P2 n (x - 1) y ps := by
  obtain ⟨a, b, c, f, hf, e⟩ := h
  refine ⟨a, by omega, by omega, f - 1, by omega, ?_⟩
  rw [← e]
  cases f with
  | zero => omega
  | succ f => rw [sqL, if_pos hx, if_pos hg]; rfl
theorem p2_lt {n x y : Int} {ps : List (Int × Int)} (h : P2 n x y ps) (hx : y < x) (hg : ¬ x * x + y * y > n) (hl : x * x + y * y < n) : P2 n x (y + 1) ps := by
  obtain ⟨a, b, c, f, hf, e⟩ := h
  refine ⟨by omega, by omega, by omega, f - 1, by omega, ?_⟩
  rw [← e]
  cases f with
  | zero => omega
  | succ f => rw [sqL, if_pos hx, if_neg hg, if_pos hl]; rfl
theorem p2_eq {n x y : Int} {ps : List (Int × Int)} (h : P2 n x y ps) (hx : y < x) (hg : ¬ x * x + y * y > n) (hl : ¬ x * x + y * y < n) : P2 n x (y + 1) (if gcdL 100 x y = 1 then ps ++ [(x, y)] else ps) := by
  obtain ⟨a, b, c, f, hf, e⟩ := h
  refine ⟨by omega, by omega, by omega, f - 1, by omega, ?_⟩
  rw [← e]
  cases f with
  | zero => omega
  | succ f => rw [sqL, if_pos hx, if_neg hg, if_neg hl]; rfl
/-- the inner loop: g and rest -/
noncomputable def P3 (x y g r : Int) : Prop := 0 ≤ r ∧ r ≤ 46 ∧ 0 ≤ g ∧ g ≤ 46 ∧ ∃ f, r.toNat < f ∧ gcdL f g r = gcdL 100 x y
theorem p3_start {n x y : Int} {ps : List (Int × Int)} (h : P2 n x y ps) : P3 x y x y := by
  obtain ⟨a, b, c, _⟩ := h
  exact ⟨by omega, by omega, by omega, by omega, 100, by omega, rfl⟩
theorem p3_step {x y g r : Int} (h : P3 x y g r) (hr : 0 < r) : P3 x y r (g % r) := by
  obtain ⟨a, b, c, d, f, hf, e⟩ := h
  have h1 := Int.emod_nonneg g (show r ≠ 0 by omega)
  have h2 := Int.emod_lt_of_pos g hr
  refine ⟨h1, by omega, by omega, by omega, f - 1, by omega, ?_⟩
  rw [← e]
  cases f with
  | zero => omega
  | succ f => rw [gcdL, if_pos hr]; rfl
theorem p3_stepF {x y g r : Int} (h : P3 x y g r) (hr : 0 < r) : P3 x y r (Int.fmod g r) := by
  rw [Int.fmod_eq_emod_of_nonneg g (by omega)]; exact p3_step h hr
theorem p3_meas {g r : Int} (hr : 0 < r) : (Int.fmod g r).toNat < r.toNat := by
  rw [Int.fmod_eq_emod_of_nonneg g (by omega)]
  have h1 := Int.emod_nonneg g (show r ≠ 0 by omega)
  have h2 := Int.emod_lt_of_pos g hr
  omega
theorem p3_end {x y g r : Int} (h : P3 x y g r) (hr : ¬ 0 < r) : g = gcdL 100 x y := by
  obtain ⟨a, b, c, d, f, hf, e⟩ := h
  rw [← e]
  cases f with
  | zero => omega
  | succ f => rw [gcdL, if_neg hr]
end Mine
end
-- part Srt
section
theorem Mine.offSrt : True := by
  w_top off
  k_with_none
  trivial
open PySem PySem.W PyProof.Rows PySem.Calls
set_option Elab.async false
set_option maxRecDepth 100000
set_option maxHeartbeats 0
set_option linter.unusedVariables false
namespace Mine
section
variable {prog : Program} {w : World} {A : Around} {E : Value → Shared → Prop} {s : Shared} {h₀ : Heap} {L a : Addr} {m : Str → Option Value} {news : List (Addr × Obj)}
theorem lsort_one {n : Nat} {v : Value} {P : PySem.Fin → Shared → Prop} (F : Fr h₀ L s.heap m) (N : News h₀ L s.heap news) (ho : s.heap.get? a = some (seqObj "list" #[v] n)) (haL : a ≠ L) (ha0 : h₀.get? a = none) (hna : ∀ p ∈ news, p.1 ≠ a)
    (h : ∀ e1 h', Fr h₀ L h' m → News h₀ L h' ((a, seqObj "list" #[v] e1) :: news) → P (.done (.ret .none)) { s with heap := h' }) :
    wpAny (model prog w) A (Builtin.«list.sort» ⟨[.ref a], []⟩) P E s := by
  have s1 := Heap.SameBut.update s.heap a (Obj.mapSeq fun _ => (#[] : Array Value))
  obtain ⟨e1, ho1⟩ : ∃ e1, (s.heap.update a (Obj.mapSeq fun _ => (#[] : Array Value))).get? a = some (seqObj "list" #[] e1) := ⟨_, get?_update_seq ho fun _ => #[]⟩
  have F3 : Fr h₀ L (((s.heap.update a (Obj.mapSeq fun _ => (#[] : Array Value))).push (seqObj "tuple" #[v] 0)).push (seqObj "list" #[] 0)) m := ((kas_fr F s1 haL ha0).push _).push _
  have N2 : News h₀ L (((s.heap.update a (Obj.mapSeq fun _ => (#[] : Array Value))).push (seqObj "tuple" #[v] 0)).push (seqObj "list" #[] 0)) news :=
    (kas_news N s1 hna).grown fun b x e => Heap.get?_push_of_some _ (Heap.get?_push_of_some _ e)
  have na : (((s.heap.update a (Obj.mapSeq fun _ => (#[] : Array Value))).push (seqObj "tuple" #[v] 0)).push (seqObj "list" #[] 0)).get? a = some (seqObj "list" #[] e1) := Heap.get?_push_of_some _ (Heap.get?_push_of_some _ ho1)
  rw [list_sort_plain]
  refine wpAny_bind (listItems_at ho rfl ?_)
  refine wpAny_bind (listUpdate_at ho rfl ?_ (by rw [sizeLine_eq]; exact Nat.le_of_ble_eq_true rfl) (Nat.zero_le _))
  refine wpAny_bind (seqEpoch_at ho1 rfl ?_)
  refine wpAny_bind (wpAny_newTuple ?_ (by rw [sizeLine_eq]; exact Nat.le_of_ble_eq_true rfl))
  refine wpAny_bind (wpAny_newList ?_ (Nat.zero_le _))
  refine wpAny_holding ?_
  show wpAny (model prog w) A _ P E { s with heap := ((s.heap.update a (Obj.mapSeq fun _ => (#[] : Array Value))).push (seqObj "tuple" #[v] 0)).push (seqObj "list" #[] 0) }
  dsimp only
  have h2 : (#[v] : Array Value).size < 2 := Nat.le_of_ble_eq_true rfl
  rw [if_pos h2, if_pos h2]
  refine wpAny_bind (wpAny_pure ?_)
  rw [StateT.run_pure]
  refine wpAny_bind (wpAny_pure ?_)
  dsimp only
  have s2 := Heap.SameBut.update (((s.heap.update a (Obj.mapSeq fun _ => (#[] : Array Value))).push (seqObj "tuple" #[v] 0)).push (seqObj "list" #[] 0)) a (Obj.mapSeq fun _ => (#[v] : Array Value))
  obtain ⟨c2, hc2⟩ : ∃ c2, ((((s.heap.update a (Obj.mapSeq fun _ => (#[] : Array Value))).push (seqObj "tuple" #[v] 0)).push (seqObj "list" #[] 0)).update a (Obj.mapSeq fun _ => (#[v] : Array Value))).get? a = some (seqObj "list" #[v] c2) := ⟨_, get?_update_seq na fun _ => #[v]⟩
  refine wpAny_bind (seqEpoch_at na rfl ?_)
  have hm : Array.map (fun x => x.snd) (arrOf (SortSt.mk' general' (#[v].zip #[v]) #[] 7 none)) = #[v] := by
    show Array.map (fun x => x.snd) (#[v].zip #[v]) = #[v]
    simp
  rw [hm]
  refine wpAny_bind (listUpdate_at na rfl ?_ (Nat.zero_le _) (by rw [sizeLine_eq]; exact Nat.le_of_ble_eq_true rfl))
  simp only [bne_self_eq_false, Bool.false_eq_true, if_false]
  refine wpAny_pure (h c2 _ (kas_fr F3 s2 haL ha0) ?_)
  intro p hp
  rcases List.mem_cons.mp hp with rfl | hp
  · exact ⟨hc2, haL, ha0⟩
  · exact kas_news N2 s2 hna p hp
theorem sorted_one {l : Addr} {v : Value} {Q : Value → Shared → Prop} (F : Fr h₀ L s.heap m) (N : News h₀ L s.heap news) (hl : s.heap.IsList l #[v])
    (h : ∀ D e1 h', Fr h₀ L h' m → News h₀ L h' ((D, seqObj "list" #[v] e1) :: news) → (∀ q ∈ news, q.1 < D) → Q (.ref D) { s with heap := h' }) :
    wpAny (model prog w) A (call (.builtin "sorted") [.ref l]) Q E s := by
  refine Calls.call_function_entry kind_sorted plain_sorted entry_sorted (args_sorted1 _) ?_
  unfold Builtin.«sorted»
  refine wpAny_bind (m := checkCount "sorted" 1 1 _) (wpAny_pure ?_)
  refine wpAny_bind (collect_list hl ?_ (by rw [sizeLine_eq]; exact Nat.le_of_ble_eq_true rfl))
  refine wpAny_bind (wpAny_newList ?_ (by rw [sizeLine_eq]; exact Nat.le_of_ble_eq_true rfl))
  have hsz : ((s.heap.push (seqObj "list" #[] 0)).update s.heap.objs.size (Obj.mapSeq (· ++ #[v]))).objs.size = s.heap.objs.size + 1 := by
    rw [Heap.size_update, size_push']
  have hoL : (((s.heap.push (seqObj "list" #[] 0)).update s.heap.objs.size (Obj.mapSeq (· ++ #[v]))).push (seqObj "list" #[v] 0)).get? (s.heap.objs.size + 1) = some (seqObj "list" #[v] 0) := by
    rw [← hsz]; exact Heap.get?_push_size _ rfl
  have keep : ∀ b o, s.heap.get? b = some o → (((s.heap.push (seqObj "list" #[] 0)).update s.heap.objs.size (Obj.mapSeq (· ++ #[v]))).push (seqObj "list" #[v] 0)).get? b = some o := fun b o q => by
    have hlt : b < s.heap.objs.size := Heap.lt_size q
    rw [Heap.get?_push_ne _ _ _ (by rw [hsz]; exact Nat.ne_of_lt (Nat.lt_succ_of_lt hlt)), Heap.get?_update_ne _ _ _ _ (Nat.ne_of_lt hlt), Heap.get?_push_ne _ _ _ (Nat.ne_of_lt hlt)]
    exact q
  have hL : L < s.heap.objs.size := F.ns.lt
  show wpAny _ _ _ _ _ { s with heap := ((s.heap.push (seqObj "list" #[] 0)).update s.heap.objs.size (Obj.mapSeq (· ++ #[v]))).push (seqObj "list" #[v] 0) }
  rw [hsz]
  refine wpAny_bind (wpAny_holding (wpAny_call_entry slot_list_sort ⟨_, hoL, rfl⟩ entry_list_sort ?body (args_list_sort _)))
  refine lsort_one (s := { s with heap := ((s.heap.push (seqObj "list" #[] 0)).update s.heap.objs.size (Obj.mapSeq (· ++ #[v]))).push (seqObj "list" #[v] 0) })
      (F.kept keep) (N.grown keep) hoL (Nat.ne_of_gt (Nat.lt_succ_of_lt hL)) (Heap.get?_none_of_le (Nat.le_trans F.above (Nat.le_succ_of_le (Nat.le_of_lt hL))))
      (fun p hp => Nat.ne_of_lt (Nat.lt_succ_of_lt (Heap.lt_size (N p hp).1))) fun e1 h' F' N' => ?_
  exact ⟨_, rfl, wpAny_pure ⟨_, rfl, h _ _ _ F' N' fun q hq => Nat.lt_succ_of_lt (Heap.lt_size (N q hq).1)⟩⟩
end
end Mine
end
-- part Sqs
section
theorem Mine.offSqs : True := by
  w_top off
  k_with_none
  trivial
open PySem PySem.W PyProof.Rows PySem.Calls
set_option Elab.async false
set_option maxRecDepth 100000
set_option maxHeartbeats 0
set_option linter.unusedVariables false
namespace Mine
local macro_rules | `(tactic| k_all) => `(tactic| with_reducible assumption)
/-- the pairs found, as the ledger bears them -/
noncomputable def POk (l : Addr) (news : Led) (ps : List (Int × Int)) (vs : Array Value) (R : Led) : Prop :=
  (ps = [] ∧ vs = #[] ∧ R = news) ∨
  (∃ a x y t u, @LT.lt Nat _ l a ∧ ps = [(x, y)] ∧ vs = #[.ref a] ∧ R = (a, tupO [.int x t, .int y u]) :: news) ∨
  (∃ a x y t u b z v t' u', (@LT.lt Nat _ l a ∧ @LT.lt Nat _ l b ∧ @LT.lt Nat _ a b) ∧ z < x ∧ ps = [(x, y), (z, v)] ∧ vs = #[.ref a, .ref b] ∧ R = (b, tupO [.int z t', .int v u']) :: (a, tupO [.int x t, .int y u]) :: news)
theorem all8 {A B C D E F G H : Type} {P : A × B × C × D × E × F × G × H → Prop} (h : ∀ a b c d e f g x, P (a, b, c, d, e, f, g, x)) : ∀ c, P c := fun c => h c.1 c.2.1 c.2.2.1 c.2.2.2.1 c.2.2.2.2.1 c.2.2.2.2.2.1 c.2.2.2.2.2.2.1 c.2.2.2.2.2.2.2
theorem POk.elim {l : Addr} {news : Led} {G : List (Int × Int) → Array Value → Led → Prop} (h0 : G [] #[] news) (h1 : ∀ a x y t u, @LT.lt Nat _ l a → G [(x, y)] #[.ref a] ((a, tupO [.int x t, .int y u]) :: news))
    (h2 : ∀ a x y t u b z v t' u', (@LT.lt Nat _ l a ∧ @LT.lt Nat _ l b ∧ @LT.lt Nat _ a b) → z < x → G [(x, y), (z, v)] #[.ref a, .ref b] ((b, tupO [.int z t', .int v u']) :: (a, tupO [.int x t, .int y u]) :: news)) : ∀ ps vs R, POk l news ps vs R → G ps vs R := by
  rintro _ _ _ (⟨rfl, rfl, rfl⟩ | ⟨a, x, y, t, u, h, rfl, rfl, rfl⟩ | ⟨a, x, y, t, u, b, z, v, t', u', h, h', rfl, rfl, rfl⟩)
  · exact h0
  · exact h1 _ _ _ _ _ h
  · exact h2 _ _ _ _ _ _ _ _ _ _ h h'
theorem POk.off {l : Addr} {news : Led} {ps : List (Int × Int)} {vs : Array Value} {R : Led} (h : POk l news ps vs R) (hn : ∀ p ∈ news, p.1 < l) : (∀ p ∈ R, p.1 ≠ l) ∧ vs.size ≤ 2 := by
  have hN : ∀ p ∈ news, p.1 ≠ l := fun p hp => Nat.ne_of_lt (hn p hp)
  rcases h with ⟨_, rfl, rfl⟩ | ⟨a, x, y, t, u, h, _, rfl, rfl⟩ | ⟨a, x, y, t, u, b, z, v, t', u', h, _, _, rfl, rfl⟩
  · exact ⟨hN, by decide⟩
  · exact ⟨List.forall_mem_cons.mpr ⟨Nat.ne_of_gt h, hN⟩, Nat.le_refl 1 |>.step⟩
  · exact ⟨List.forall_mem_cons.mpr ⟨Nat.ne_of_gt h.2.1, List.forall_mem_cons.mpr ⟨Nat.ne_of_gt h.1, hN⟩⟩, Nat.le_refl 2⟩
theorem POk.add {n : Int} {l a : Addr} {news : Led} {ps : List (Int × Int)} {vs : Array Value} {R : Led} {x y : Int} {t u : Tok} (h : POk l news ps vs R) (ha : @LT.lt Nat _ l a) (hR : AllLt a R)
    {X Y : Int} (hq : P2 n X Y (ps ++ [(x, y)])) (hfin : (finL n).length ≤ 2) (hso : ∀ a b c d, finL n = [(a, b), (c, d)] → c < a) : POk l news (ps ++ [(x, y)]) (vs.push (.ref a)) ((a, tupO [.int x t, .int y u]) :: R) := by
  rcases h with ⟨rfl, rfl, rfl⟩ | ⟨b, z, v, t', u', h, rfl, rfl, rfl⟩ | ⟨b, z, v, t', u', c, z2, v2, t2, u2, h, _, rfl, rfl, rfl⟩
  · exact Or.inr (Or.inl ⟨a, x, y, t, u, ha, rfl, rfl, rfl⟩)
  · exact Or.inr (Or.inr ⟨b, z, v, t', u', a, x, y, t, u, ⟨h, ha, hR.1⟩, hso _ _ _ _ (p2_two hq hfin), rfl, rfl, rfl⟩)
  · have := p2_len hq
    simp only [List.length_append, List.length_cons, List.length_nil] at this
    omega
theorem news_name {g h : Heap} {L l : Addr} {o : Obj} {r : Led} (N : News g L h ((l, o) :: r)) : ∃ l0, l0 = l := ⟨l, rfl⟩
noncomputable def SqRet (n : Int) (r : Value) (tl : Led) : Prop :=
  (∃ D l a : Addr, ∃ e e' : Nat, ∃ (x y : Int) (t u : Tok), r = .ref D ∧ finL n = [(x, y)] ∧ tl = [(D, W.listOf #[.ref a] e), (a, tupO [.int x t, .int y u]), (l, W.listOf #[.ref a] e')]) ∨
  (∃ D l a b : Addr, ∃ e e' : Nat, ∃ (x y z v : Int) (t u t' u' : Tok), r = .ref D ∧ finL n = [(x, y), (z, v)] ∧ z < x ∧ tl = [(D, W.listOf #[.ref b, .ref a] e), (b, tupO [.int z t', .int v u']), (a, tupO [.int x t, .int y u]), (l, W.listOf #[.ref a, .ref b] e')])
theorem sqs_spec (w : World) (p : Program) (loose : List Str) (mean : ExcName → Option Value) (mg mb : Str → Option Value) (news : Led) (n : Int) (t1 : Tok)
    (hn : 1 ≤ n) (hn2 : n ≤ 2000) (hfin : (finL n).length ≤ 2) (hne : finL n ≠ []) (hso : ∀ a b c d, finL n = [(a, b), (c, d)] → c < a) :
   FSpec w p loose mean mg mb 228 [.int n t1] [] news 1 8 (SqRet n) := by
  have on4 := On.mk "call builtin:list.append"
  have on1 := On.mk "exec While Compare cons nil"
  have on2 := On.mk "KswEnd"
  have on3 := On.mk "call builtin:sorted"
  unfold FSpec
  k_fill
  intro dp un gd cn cs ad ccd cl outer A₀ base h₀ L m s Q E B F X N T hk hd hu hret
  refine wpAny_call ?_
  refine' code_def (binds := [(Str.ofString "n", .int n t1)]) ?k1 ?k2 ?k3 ?k4 ?k5 ?kA ?kF ?kK ?k6 ?k7 ?k8 ?k9 ?kB ?_ ?c2 ?c3 ?c4 ?c5
  (case kA => exact rfl); (case kF => exact rfl); (case kK => assumption); (case k1 => k_asm); (case k2 => k_asm); (case k3 => k_asm); (case k4 => k_asm); (case k5 => k_asm); (case k6 => k_is); (case k7 => k_is); (case k8 => ktr_room); (case k9 => exact BindsTo.of_eq rfl); (case c5 => decide); (case kB => exact locs rfl); (case c2 => exact rfl); (case c3 => exact rfl); (case c4 => exact rfl)
  intro g' L' h' FG' F' N' B' X' T'
  k_lift B'
  dsimp only [List.reverse_cons, List.reverse_nil, List.nil_append, List.length_cons, List.length_nil] at *
  k_steps
  unfold Stop
  k_while (fun (_ : List Int) x => P1 n x) (fun (_ : List Int) x => (100 - x).toNat) "x"
  (k_with "state" => first | exact p1_start _ | exact p1_step (by assumption) (by omega) (by assumption))
  all_goals (have hP1 := p1_bound (by assumption))
  k_steps
  · unfold Stop
    ksw_close
  rename ¬ _ * _ < n => hx1
  rename P1 n _ => hP
  unfold Stop
  rename Fr _ _ _ _ => F2
  rename News _ _ _ _ => N2
  rename_i l0 _ _ _ _ _ _ _ _
  have hA : ∀ p ∈ news, p.1 < l0 := by assumption
  refine ksw_while (σ := Int × Tok × Int × Tok × Nat × List (Int × Int) × Array Value × Led) (fun c => (l0, W.listOf c.2.2.2.2.2.2.1 c.2.2.2.2.1) :: c.2.2.2.2.2.2.2) (fun c => [(Str.ofString "x", .int c.1 c.2.1), (Str.ofString "y", .int c.2.2.1 c.2.2.2.1)]) (fun c => POk l0 news c.2.2.2.2.2.1 c.2.2.2.2.2.2.1 c.2.2.2.2.2.2.2) [Str.ofString "g", Str.ofString "rest"] (fun c => P2 n c.1 c.2.2.1 c.2.2.2.2.2.1) (fun c => (c.1 - c.2.2.1).toNat) ⟨_, _, 1, _, 0, [], #[], news⟩ F2 N2 (Or.inl ⟨rfl, rfl, rfl⟩) (by kst_all) (p2_start hP hx1) ?_
  refine all8 ?_
  intro x tx y ty e ps vs R u h tk hf hp F4 N4
  clear F2 N2
  dsimp only [kstB] at hf hp F4 N4
  obtain ⟨hoff, hsz⟩ := hf.off hA
  have hb : 1 ≤ y ∧ y ≤ x ∧ x ≤ 46 := ⟨hp.1, hp.2.1, hp.2.2.1⟩
  k_steps
  · unfold Stop
    rename News _ _ _ _ => nE
    have h1 := p2_gt hp (by assumption) (by assumption)
    refine ksw_end ⟨_, _, _, _, _, _, _, _⟩ (by assumption) nE (fun p hp => hp) hf (by kst_all) (by ksw_same) h1 (by dsimp only; omega)
  · unfold Stop
    rename News _ _ _ _ => nE
    have h1 := p2_lt hp (by assumption) (by assumption) (by assumption)
    refine ksw_end ⟨_, _, _, _, _, _, _, _⟩ (by assumption) nE (fun p hp => hp) hf (by kst_all) (by ksw_same) h1 (by dsimp only; omega)
  · unfold Stop
    have hq := p2_eq hp (by assumption) (by assumption) (by assumption)
    (k_with "state" => first | exact p3_start hp | exact p3_stepF (by assumption) (by assumption))
    (k_with "measure" => exact p3_meas (by assumption))
    k_while (fun (_ : List Int) g r => P3 x y g r) (fun (_ : List Int) g r => r.toNat) "g" "rest"
    all_goals (rename P3 x y _ _ => hP3)
    all_goals (have hP3' := hP3.1)
    k_steps
    · unfold Stop
      ksw_close
    · unfold Stop
      (k_here; k_dflt (refine' append_K ?k1 ?k2 ?k3 ?_ ?z; (case k1 => k_asm); (case k2 => k_asm); (case k3 => k_upd); (case z => exact Nat.le_trans (by assumption) (show 2 ≤ sizeLine by decide)); k_whole); intro h' F' N'; (try k_sweep))
      k_steps
      unfold Stop
      rename News _ _ _ _ => nE
      have hg := p3_end hP3 (by assumption)
      rw [if_pos (by omega)] at hq
      have ho := (show _ ∧ @LT.lt Nat _ l0 _ ∧ AllLt _ R by assumption).2
      refine ksw_end ⟨_, _, _, _, _, _, _, _⟩ (by assumption) (News.pick nE 3 [2, 0]) (fun p hp => hp) (hf.add ho.1 ho.2 hq hfin hso) (by kst_all) (by ksw_same) hq (by dsimp only; omega)
    · unfold Stop
      rename News _ _ _ _ => nE
      have hg := p3_end hP3 (by assumption)
      rw [if_neg (by omega)] at hq
      refine ksw_end ⟨_, _, _, _, _, _, _, _⟩ (by assumption) (News.tail nE) (fun p hp => hp) hf (by kst_all) (by ksw_same) hq (by dsimp only; omega)
  · unfold Stop
    have he := p2_end hp (by assumption)
    clear hp hoff hsz
    revert ps vs R
    refine POk.elim ?_ ?_ ?_
    · intro _ he
      exact absurd he.symm hne
    · intro a x1 y1 t1 u1 ha N4 he
      (with_unfolding_all refine' sorted_one ?k1 ?k2 ?k3 ?_; (case k1 => k_asm); (case k2 => k_asm); (case k3 => kso_list); k_whole); intro D' e' h' F' N' l1; (try k_lt l1); (try k_sweep)
      k_steps
      have hB := (show @LT.lt Nat _ l0 _ ∧ _ ∧ AllLt _ news by assumption)
      refine hret _ [_, _, _] _ _ (by assumption) (News.pick (show News h₀ L _ _ by assumption) 3 [0, 2, 1]) ?_ (Or.inl ⟨_, _, _, _, _, _, _, _, _, rfl, he.symm, rfl⟩)
      intro q hq p hp
      have hq' : @LT.lt Nat _ q.1 l0 := hA q hq
      simp only [List.mem_cons, List.not_mem_nil, or_false] at hp
      rcases hp with rfl | rfl | rfl <;> (refine (show @LT.lt Nat _ _ _ from ?_); dsimp only; omega)
    · intro a x1 y1 t1 u1 b z v t2 u2 ha hzx N4 he
      (with_unfolding_all refine' kat_sorted ?k1 ?k2 ?k3 ?k4 ?k5 ?_; (case k1 => k_asm); (case k2 => k_asm); (case k3 => kso_list); (case k4 => exact Nat.le_of_ble_eq_true rfl); (case k5 => exact Nat.le_of_ble_eq_true rfl); k_whole); intro D' e' h' F' N' l1; (try k_lt l1); (try k_sweep); kat_kinds
      k_steps
      all_goals try (exfalso; omega)
      have hB := (show @LT.lt Nat _ l0 _ ∧ _ ∧ _ ∧ AllLt _ news by assumption)
      refine hret _ [_, _, _, _] _ _ (by assumption) (News.pick (show News h₀ L _ _ by assumption) 4 [0, 2, 3, 1]) ?_ (Or.inr ⟨_, _, _, _, _, _, _, _, _, _, _, _, _, _, rfl, he.symm, hzx, rfl⟩)
      intro q hq p hp
      have hq' : @LT.lt Nat _ q.1 l0 := hA q hq
      simp only [List.mem_cons, List.not_mem_nil, or_false] at hp
      rcases hp with rfl | rfl | rfl | rfl <;> (refine (show @LT.lt Nat _ _ _ from ?_); dsimp only; omega)
end Mine
end
-- part GoodL
section
theorem Mine.offGoodL : True := by
  w_top off
  k_with_none
  trivial
set_option maxRecDepth 100000
set_option linter.unusedVariables false
namespace Mine
noncomputable def goodV (n u : Int) (mir : List Int) (v : Int) (st : List (Int × Int) × Bool) : Bool :=
  if (v * v).fmod n = n - 1 then
    (runL 40 n v [] [n]).1.reverse == (runL 40 n v [] [n]).1 && (runL 40 n v [] [n]).1.length == 2 * placeOf (runL 40 n v [] [n]).2 n && decide (placeOf (runL 40 n v [] [n]).2 n + 1 < (runL 40 n v [] [n]).2.length) && decide ((runL 40 n v [] [n]).2.length ≤ 50) && decide ((runL 40 n v [] [n]).1.length ≤ 50) && (runL 40 n v [] [n]).2.all (fun x => decide (0 ≤ x) && decide (x < 2000)) && okRun 40 n v && decide (st.1.length ≤ 1)
  else true
noncomputable def stepV (n u : Int) (mir : List Int) (v : Int) (st : List (Int × Int) × Bool) : List (Int × Int) × Bool :=
  if (v * v).fmod n = n - 1 then
    (insP st.1 ((runL 40 n v [] [n]).2.getD (placeOf (runL 40 n v [] [n]).2 n) 0, (runL 40 n v [] [n]).2.getD (placeOf (runL 40 n v [] [n]).2 n + 1) 0), if v = u then decide ((runL 40 n v [] [n]).1 = mir) else st.2)
  else st
noncomputable def goodL (n u : Int) (mir : List Int) : List Int → List (Int × Int) × Bool → Bool
  | [], st => st.2 && st.1 == squaresL n
  | v :: r, st => goodV n u mir v st && goodL n u mir r (stepV n u mir v st)
noncomputable def sqOk (n : Int) : Bool := match finL n with
  | [_] => true
  | [(a, b), (c, d)] => decide (c < a)
  | _ => false
noncomputable def checkG (zs : List Int) : Bool :=
  decide (1 ≤ (contL (zs ++ zs.reverse)).1) && decide ((contL (zs ++ zs.reverse)).1 < 2000) && sqOk (contL (zs ++ zs.reverse)).1 && goodL (contL (zs ++ zs.reverse)).1 (contL (zs ++ zs.reverse)).2 (zs ++ zs.reverse) (vsL (contL (zs ++ zs.reverse)).1) ([], false)
theorem check2G : ([2, 3].all fun a => [1, 2, 3].all fun b => checkG [a, b]) = true := by decide +kernel
theorem check3G : ([2, 3].all fun a => [1, 2, 3].all fun b => [1, 2, 3].all fun c => checkG [a, b, c]) = true := by decide +kernel
theorem checkG_of {zs : List Int} (hl : zs.length = 2 ∨ zs.length = 3) (hb : ∀ d ∈ zs, 1 ≤ d ∧ d ≤ 3) (h0 : ∀ d, zs.head? = some d → 2 ≤ d) : checkG zs = true := by
  have in3 : ∀ d : Int, 1 ≤ d ∧ d ≤ 3 → d ∈ [(1 : Int), 2, 3] := fun d h => by simp only [List.mem_cons, List.not_mem_nil, or_false]; omega
  have in2 : ∀ d : Int, 1 ≤ d ∧ d ≤ 3 → 2 ≤ d → d ∈ [(2 : Int), 3] := fun d h h2 => by simp only [List.mem_cons, List.not_mem_nil, or_false]; omega
  match zs, hl with
  | [a, b], _ =>
    have ha := in2 a (hb a (by simp)) (h0 a rfl)
    have hb' := in3 b (hb b (by simp))
    exact List.all_eq_true.mp (List.all_eq_true.mp check2G a ha) b hb'
  | [a, b, c], _ =>
    have ha := in2 a (hb a (by simp)) (h0 a rfl)
    have hb' := in3 b (hb b (by simp))
    have hc' := in3 c (hb c (by simp))
    exact List.all_eq_true.mp (List.all_eq_true.mp (List.all_eq_true.mp check3G a ha) b hb') c hc'
  | [], h => rcases h with h | h <;> simp at h
  | [a], h => rcases h with h | h <;> simp at h
  | a :: b :: c :: d :: r, h => rcases h with h | h <;> simp at h
end Mine
end
-- part VT0
section
theorem Mine.offVT0 : True := by
  w_top off
  k_with_none
  trivial
open PySem PySem.W PyProof.Rows PySem.Calls
set_option Elab.async false
set_option maxRecDepth 100000
set_option maxHeartbeats 0
set_option linter.unusedVariables false
namespace Mine
theorem vT0 (w : World) (loose : List Str) (mean : ExcName → Option Value) (mg mb : Str → Option Value) (h₀ : Heap) (L fa : Addr) (cd : Value) (X : (myK w.params).In h₀) (T : Top topProg loose mean mg mb h₀)
   (n v : Int) (hn1 : 1 ≤ n) (hn2 : n < 2000) (hv1 : 0 < v) (hv2 : v ≤ n) (hsq : ¬ (v * v).fmod n = n - 1) (tv tn : Tok) (m₁ : Str → Option Value) (s : Shared) (news : Led) (P : Flow → Shared → Prop) (E : Value → Shared → Prop)
   (hm : ∀ p ∈ [(Str.ofString "v", Value.int v tv), (Str.ofString "n", .int n tn)], m₁ p.1 = some p.2) (F₁ : Fr h₀ L s.heap m₁)
   (N : News h₀ L s.heap news)
   (fin : ∀ h tk, Fr h₀ L h m₁ → News h₀ L h news → P .next { s with heap := h, toks := tk }) :
   wpAny (model PySem.Challenge.rw_sn0092_01.row.prog w) (callerA.deeper (envOf myD.name myD.scope L fa cd)) (execs vB (envOf myD.name myD.scope L fa cd)) P E s := by
  revert X
  k_fill
  intro X
  have F := ksw_fr (stored := []) (m₀ := m₁) hm (fun _ _ _ => rfl) F₁
  have hE := funext (fun z => kstB_eq (m₁ := m₁) (rest := m₁) (z := z) hm (fun _ => rfl))
  simp only [List.contains_nil, Bool.false_eq_true, if_false] at F
  dsimp only [kstB] at F hE
  clear F₁ hm
  have hsq2 : ((v * v).fmod n == n - 1) = false := by simpa using hsq
  k_steps
  rename Fr h₀ L _ _ => F9
  rename News h₀ L _ _ => N9
  rw [hE] at F9
  exact fin _ _ F9 N9
noncomputable def vsR : Nat → Nat → List Int
  | 0, _ => []
  | k + 1, i => (1 + (i : Int)) :: vsR k (i + 1)
theorem vsR_eq : ∀ (k i : Nat), vsR k i = (List.range k).map fun (j : Nat) => ((i + j : Nat) : Int) + 1
  | 0, _ => rfl
  | k + 1, i => by
    rw [vsR, vsR_eq k (i + 1), List.range_succ_eq_map, List.map_cons, List.map_map]
    congr 1
    · simp; omega
    · refine List.map_congr_left fun j _ => ?_
      simp only [Function.comp]
      congr 2
      omega
theorem vsL_eq (n : Int) : vsL n = vsR (n / 2).toNat 0 := by
  rw [vsR_eq]
  unfold vsL
  refine List.map_congr_left fun j _ => ?_
  simp
theorem apart_ins2 {P : Addr} {S : TabS} {l r : Led} {x : Addr × Obj} (h : apart P S (l ++ r)) (h1 : x.1 ≠ P) (h2 : ∀ c o, S = some (c, o) → x.1 ≠ c) : apart P S (l ++ x :: r) := by
  refine ⟨fun p hp => ?_, fun c o e => ⟨(h.2 c o e).1, fun p hp => ?_⟩⟩
  · simp only [List.mem_append, List.mem_cons] at hp
    rcases hp with q | q | q
    · exact h.1 p (by simp [q])
    · rw [q]; exact h1
    · exact h.1 p (by simp [q])
  · simp only [List.mem_append, List.mem_cons] at hp
    rcases hp with q | q | q
    · exact (h.2 c o e).2 p (by simp [q])
    · rw [q]; exact h2 c o e
    · exact (h.2 c o e).2 p (by simp [q])
noncomputable def dRow (row : List (Int × Int)) : PyData := .list (row.map fun q => .tuple [.int q.1, .int q.2])
theorem row_lay : ∀ row : List (Int × Int), PyData.canLayAll0 (row.map fun q => PyData.tuple [.int q.1, .int q.2]) = true
  | [] => rfl
  | _ :: r => by simp [PyData.canLayAll0, PyData.canLay0, row_lay r]
theorem row_depth : ∀ row : List (Int × Int), PyData.depthAll (row.map fun q => PyData.tuple [.int q.1, .int q.2]) ≤ 1
  | [] => by simp [PyData.depthAll]
  | _ :: r => by
    have := row_depth r
    simp [PyData.depthAll, PyData.depth]
    omega
theorem row_shaped (row : List (Int × Int)) : SeqAt.shaped (dRow row) = true := by
  have := row_depth row
  simp only [SeqAt.shaped, dRow, PyData.canLay0, PyData.depth, row_lay, Bool.true_and, decide_eq_true_eq]
  omega
theorem row_eqv : ∀ row : List (Int × Int), PyData.eqvAll (row.map fun q => PyData.tuple [.int q.1, .int q.2]) (row.map fun q => PyData.tuple [.int q.1, .int q.2]) = true
  | [] => rfl
  | _ :: r => by simp [PyData.eqvAll, PyData.eqv, row_eqv r]
theorem tup_reads {h : Heap} {a : Addr} {x y : Int} {t u : Tok} (e : h.get? a = some (tupO [.int x t, .int y u])) : Reads h (.ref a) (.tuple [.int x, .int y]) [] :=
  .tuple e rfl rfl (.cons (.int _ _) (.cons (.int _ _) .nil))
theorem row_reads {g h : Heap} {L R : Addr} {row : List (Int × Int)} {rl rest : Led} (hr : RowAt R row rl) (N : News g L h (rl ++ rest)) : Reads h (.ref R) (dRow row) [R] := by
  rcases hr with ⟨hr0, e, hl⟩ | ⟨q, a, e, ta, ua, hr0, hRa, hl⟩ | ⟨q, r, a, b, e, ta, ua, tb, ub, hr0, hl⟩
  · subst hl; subst hr0
    exact .list (N (R, W.listOf #[] e) (by simp)).1 rfl rfl .nil
  · subst hl; subst hr0
    exact .list (N (R, W.listOf #[.ref a] e) (by simp)).1 rfl rfl (.cons (tup_reads (N (a, tupO [.int q.1 ta, .int q.2 ua]) (by simp)).1) .nil)
  · subst hl; subst hr0
    exact .list (N (R, W.listOf #[.ref a, .ref b] e) (by simp)).1 rfl rfl (.cons (tup_reads (N (a, tupO [.int q.1 ta, .int q.2 ua]) (by simp)).1) (.cons (tup_reads (N (b, tupO [.int r.1 tb, .int r.2 ub]) (by simp)).1) .nil))
end Mine
end
-- part Law5
section
theorem Mine.offLaw5 : True := by
  w_top off
  k_with_none
  trivial
open PySem PySem.W PyProof.Rows PySem.Calls
set_option Elab.async false
set_option maxRecDepth 100000
set_option maxHeartbeats 0
set_option linter.unusedVariables false
namespace Mine
theorem sq_reads {g h : Heap} {L : Addr} {n : Int} {r : Value} {tl rest : Led} (hr : SqRet n r tl) (N : News g L h (tl ++ rest)) : ∃ D, r = .ref D ∧ Reads h (.ref D) (dRow (squaresL n)) [D] := by
  have hs : squaresL n = sortL (finL n) := rfl
  rcases hr with ⟨D, l, a, e, e', x, y, t, u, hr0, hf, hl⟩ | ⟨D, l, a, b, e, e', x, y, z, v, t, u, t', u', hr0, hf, hz, hl⟩
  · subst hl
    have e1 : squaresL n = [(x, y)] := by rw [hs, hf]; simp [sortL]
    rw [e1]
    exact ⟨D, hr0, .list (N (D, W.listOf #[.ref a] e) (by simp)).1 rfl rfl (.cons (tup_reads (N (a, tupO [.int x t, .int y u]) (by simp)).1) .nil)⟩
  · subst hl
    have e1 : squaresL n = [(z, v), (x, y)] := by
      have h1 : ltP (z, v) (x, y) = true := by simp [ltP, hz]
      rw [hs, hf]; simp [sortL, List.filter_cons, h1]
    rw [e1]
    exact ⟨D, hr0, .list (N (D, W.listOf #[.ref b, .ref a] e) (by simp)).1 rfl rfl (.cons (tup_reads (N (b, tupO [.int z t', .int v u']) (by simp)).1) (.cons (tup_reads (N (a, tupO [.int x t, .int y u]) (by simp)).1) .nil))⟩
theorem sqOk_of {n : Int} (h : sqOk n = true) : (finL n).length ≤ 2 ∧ finL n ≠ [] ∧ (∀ a b c d, finL n = [(a, b), (c, d)] → c < a) := by
  unfold sqOk at h
  split at h
  · rename_i e; rw [e]; exact ⟨by simp, by simp, fun a b c d e2 => by simp at e2⟩
  · rename_i a b c d e
    rw [e]
    refine ⟨by simp, by simp, fun a' b' c' d' e2 => ?_⟩
    simp only [List.cons.injEq, Prod.mk.injEq, and_true] at e2
    have := of_decide_eq_true h
    omega
  · cases h
theorem all_getD {rs : List Int} (h : ∀ x ∈ rs, 0 ≤ x ∧ x < 2000) (i : Nat) : 0 ≤ rs.getD i 0 ∧ rs.getD i 0 < 2000 := by
  by_cases hi : i < rs.length
  · have e : rs.getD i 0 = rs[i] := by simp [hi]
    rw [e]; exact h _ (List.getElem_mem hi)
  · have e : rs.getD i 0 = 0 := by simp [Nat.le_of_not_lt hi]
    rw [e]; decide
theorem row_mem {R : Addr} {row : List (Int × Int)} {rl : Led} (hra : RowAt R row rl) : ∃ oR, (R, oR) ∈ rl := by
  rcases hra with ⟨_, e, h⟩ | ⟨q, a, e, _, _, _, _, h⟩ | ⟨q, r, a, b, e, _, _, _, _, _, h⟩ <;> subst h
  · exact ⟨W.listOf #[] e, by simp⟩
  · exact ⟨W.listOf #[.ref a] e, by simp⟩
  · exact ⟨W.listOf #[.ref a, .ref b] e, by simp⟩
noncomputable abbrev StV := (List (Int × Int) × Bool) × Led × TabS × TabS
noncomputable def InvV (K : Nat) (R Dm I : Addr) (oM : Obj) (mir : List Int) (n u : Int) (mB : Str → Option Value) (nw : Led) (k i : Nat) (c : StV) (m : Str → Option Value) (news : Led) : Prop :=
  i + k = K ∧ goodL n u mir (vsR k i) c.1 = true ∧ RowAt R c.1.1 c.2.1 ∧ tabOk nmA c.2.2.1 ∧ tabOk nmB c.2.2.2 ∧ apart 69 c.2.2.1 (tabB c.2.2.2 ++ ((Dm, oM) :: (c.2.1 ++ nw))) ∧ apart 76 c.2.2.2 (tabA c.2.2.1 ++ ((Dm, oM) :: (c.2.1 ++ nw))) ∧ (∀ p ∈ news, p.1 ≠ I) ∧ m (Str.ofString "met") = some (.bool c.1.2) ∧ (∀ z, [Str.ofString "v", Str.ofString "met", Str.ofString "quotients", Str.ofString "rests", Str.ofString "place"].contains z = false → m z = mB z) ∧ news = tabA c.2.2.1 ++ (tabB c.2.2.2 ++ ((Dm, oM) :: (c.2.1 ++ nw)))
theorem InvV.turn {K : Nat} {R Dm I : Addr} {oM : Obj} {mir : List Int} {n u : Int} {mB : Str → Option Value} {nw : Led} {k i : Nat} {G : StV → (Str → Option Value) → Led → Prop}
    (f : ∀ row met rl S2 S3 m, i + k = K → goodL n u mir (vsR k i) (row, met) = true → RowAt R row rl → tabOk nmA S2 → tabOk nmB S3 → apart 69 S2 (tabB S3 ++ ((Dm, oM) :: (rl ++ nw))) → apart 76 S3 (tabA S2 ++ ((Dm, oM) :: (rl ++ nw))) → (∀ p ∈ tabA S2 ++ (tabB S3 ++ ((Dm, oM) :: (rl ++ nw))), p.1 ≠ I) →
      m (Str.ofString "met") = some (.bool met) → (∀ z, [Str.ofString "v", Str.ofString "met", Str.ofString "quotients", Str.ofString "rests", Str.ofString "place"].contains z = false → m z = mB z) → G ((row, met), rl, S2, S3) m (tabA S2 ++ (tabB S3 ++ ((Dm, oM) :: (rl ++ nw))))) :
    ∀ c m news, InvV K R Dm I oM mir n u mB nw k i c m news → G c m news := by
  rintro ⟨⟨row, met⟩, rl, S2, S3⟩ m news ⟨hik, hg, hra, hS2, hS3, ha2, ha3, hnI, hmet, hmm, rfl⟩
  exact f row met rl S2 S3 m hik hg hra hS2 hS3 ha2 ha3 hnI hmet hmm
theorem InvV.out {K : Nat} {R Dm I : Addr} {oM : Obj} {mir : List Int} {n u : Int} {mB : Str → Option Value} {nw : Led} {i : Nat} {G : StV → (Str → Option Value) → Led → Prop}
    (f : ∀ rl S2 S3 m, RowAt R (squaresL n) rl → tabOk nmA S2 → tabOk nmB S3 → m (Str.ofString "met") = some (.bool true) → (∀ z, [Str.ofString "v", Str.ofString "met", Str.ofString "quotients", Str.ofString "rests", Str.ofString "place"].contains z = false → m z = mB z) → G ((squaresL n, true), rl, S2, S3) m (tabA S2 ++ (tabB S3 ++ ((Dm, oM) :: (rl ++ nw))))) :
    ∀ c m news, InvV K R Dm I oM mir n u mB nw 0 i c m news → G c m news := by
  rintro ⟨⟨row, met⟩, rl, S2, S3⟩ m news ⟨hik, hg, hra, hS2, hS3, ha2, ha3, hnI, hmet, hmm, rfl⟩
  dsimp only at hg hra hmet
  rw [vsR, goodL, Bool.and_eq_true, beq_iff_eq] at hg
  obtain ⟨hg1, hg2⟩ := hg
  subst hg1
  subst hg2
  exact f rl S2 S3 m hra hS2 hS3 hmet hmm
theorem sqs_use {w : World} {p : Program} {loose : List Str} {mean : ExcName → Option Value} {mg mb : Str → Option Value} {f : Addr} {vs : List Value} {kw : List (Str × Value)} {news : Led} {dd uu : Nat} {n : Int}
    {dp un : Nat} {gd : Option (List Code)} {cn : Str} {cs : Scope} {ad : Addr} {ccd : Value} {cl : List (Str × Addr)} {outer : List Env} {A₀ : Around} {base h₀ : Heap} {L : Addr} {m : Str → Option Value} {s : Shared} {Q E : Value → Shared → Prop}
    (S : FSpec w p loose mean mg mb f vs kw news dd uu (SqRet n))
    (B : Below A₀ base outer h₀) (F : Fr h₀ L s.heap m) (X : (myK w.params).In h₀) (N : News h₀ L s.heap news) (T : Top p loose mean mg mb h₀) (hk : cs.kind = .function)
    (hd : dp + dd < recursionLimit) (hu : un + uu < cLine)
    (k : ∀ (D : Addr) (tl : Led) (h' : Heap) (tk' : Nat), Fr h₀ L h' m → News h₀ L h' (tl ++ news) → (∀ q ∈ news, ∀ p ∈ tl, q.1 < p.1) → Reads h' (.ref D) (dRow (squaresL n)) [D] → Q (.ref D) { s with heap := h', toks := tk' }) :
    wpAny (model PySem.Challenge.rw_sn0092_01.row.prog w) (ktrTop dp un gd cn cs L ad ccd cl outer) (call (.ref f) vs kw) Q E s := FSpec.use S B F X N T hk hd hu (by
  intro r tl h' tk' F' N' l hR
  obtain ⟨D, rfl, hrd⟩ := sq_reads hR N'
  exact k D tl h' tk' F' N' l hrd)
theorem law_5 (w : World) (loose : List Str) (mean : ExcName → Option Value) (mg mb : Str → Option Value) (h₀ : Heap) (L fa : Addr) (cd : Value) (s : Shared) (Q : Flow → Shared → Prop) (E : Value → Shared → Prop)
   (mir : List Int) (hmir : mir.length ≤ 6) (n u : Int) (hn1 : 1 ≤ n) (hn2 : n < 2000) (hso : sqOk n = true) (hgood : goodL n u mir (vsL n) ([], false) = true) (Dm : Addr) (mv : List Value) (em : Nat) (t1 t2 : Tok) (nw : Led) (m₁ : Str → Option Value)
   (X : (myK w.params).In h₀) (T : Top topProg loose mean mg mb h₀) (B : Below callerA h₀ [] h₀) (C2 : CodeHd h₀ 73 69) (C3 : CodeHd h₀ 80 76) (hE : PassesOwn (model PySem.Challenge.rw_sn0092_01.row.prog w) (callerA.deeper (envOf myD.name myD.scope L fa cd)) (envOf myD.name myD.scope L fa cd) E)
   (hmv : IntsAre mv mir)
   (F₁ : Fr h₀ L s.heap m₁)
   (hm : ∀ p ∈ [(Str.ofString "mirrored", Value.ref Dm), (Str.ofString "n", .int n t1), (Str.ofString "u", .int u t2)], m₁ p.1 = some p.2)
   (hlt : AllLt Dm ((69, tabObj #[]) :: (76, tabObj #[]) :: nw)) (hnw : ∀ p ∈ nw, p.1 ≠ 69 ∧ p.1 ≠ 76)
   (N : News h₀ L s.heap ((Dm, W.listOf (List.toArray mv) em) :: (69, tabObj #[]) :: (76, tabObj #[]) :: nw))
   (cont : ∀ (h : Heap) (tk : Nat) (S2 S3 : TabS) (m' : Str → Option Value), Fr h₀ L h m' → tabOk nmA S2 → tabOk nmB S3 → News h₀ L h (tabA S2 ++ (tabB S3 ++ nw)) → Q (.ret (.bool true)) { s with heap := h, toks := tk }) :
   LawSuf 15 w L fa cd s Q E := by
  have on1 := On.mk "compareOp Eq ref ref"
  have on2 := On.mk "call ref"
  have on3 := On.mk "exec For"
  have on4 := On.mk "exec For Name Call cons nil"
  have on5 := On.mk "pyIter ref"
  unfold LawSuf
  revert X
  k_fill
  intro X
  have F := ksw_fr (stored := []) (m₀ := m₁) hm (fun _ _ _ => rfl) F₁
  simp only [List.contains_nil, Bool.false_eq_true, if_false] at F
  dsimp only [kstB] at F
  clear F₁ hm
  k_steps
  unfold Stop
  k_dflt (refine' For_invV h₀ ?fx ?fp ?_ ?fs ?fe)
  (case fx => rfl)
  (case fp => rfl)
  (case fs => (intro _; rfl))
  (case fe => exact hE)
  k_steps
  unfold Stop
  rename IsRange _ _ _ _ _ _ _ _ => hR
  rename Fr h₀ L _ _ => F5
  rename News h₀ L _ _ => N5
  rename_i R _ _ _ _ _ _ _ _ _ _ _
  have hRl : @LT.lt Nat _ Dm R ∧ @LT.lt Nat _ 69 R ∧ @LT.lt Nat _ 76 R ∧ AllLt R nw := by assumption
  have hnR : ∀ p ∈ nw, p.1 ≠ R := allLt_ne hRl.2.2.2
  have hDm69 : Dm ≠ 69 := Nat.ne_of_gt hlt.1
  have hDm76 : Dm ≠ 76 := Nat.ne_of_gt hlt.2.1
  have efd : n.fdiv 2 = n / 2 := Int.fdiv_eq_ediv_of_nonneg _ (by decide)
  have hK : Builtin.Range.rangeSize 1 (n.fdiv 2 + 1) 1 = (((n / 2).toNat : Nat) : Int) := by
    rw [rangeSize_nat, efd]
    congr 2
    omega
  have N6 : News h₀ L _ (tabA none ++ (tabB none ++ ((Dm, W.listOf (List.toArray mv) em) :: ([(R, W.listOf #[] 0)] ++ nw)))) := News.pick N5 4 [2, 3, 1, 0]
  have hap2 : apart 69 none (tabB none ++ ((Dm, W.listOf (List.toArray mv) em) :: ([(R, W.listOf #[] 0)] ++ nw))) := by
    refine ⟨?_, fun c o ec => nomatch ec⟩
    intro p hp
    simp only [List.mem_append, List.mem_cons, List.not_mem_nil, or_false] at hp
    rcases hp with h | h | h | h
    · subst h; decide
    · subst h; exact hDm69
    · subst h; exact Nat.ne_of_gt hRl.2.1
    · exact (hnw p h).1
  have hap3 : apart 76 none (tabA none ++ ((Dm, W.listOf (List.toArray mv) em) :: ([(R, W.listOf #[] 0)] ++ nw))) := by
    refine ⟨?_, fun c o ec => nomatch ec⟩
    intro p hp
    simp only [List.mem_append, List.mem_cons, List.not_mem_nil, or_false] at hp
    rcases hp with h | h | h | h
    · subst h; decide
    · subst h; exact hDm76
    · subst h; exact Nat.ne_of_gt hRl.2.2.1
    · exact (hnw p h).2
  refine iter_rangeUnr (n := (n / 2).toNat) rfl hR (small_one (by decide) (by decide) (by omega) (by omega)) hK F5 N6 ?_
  intro I hI
  have hIne : ∀ p ∈ tabA none ++ (tabB none ++ ((Dm, W.listOf (List.toArray mv) em) :: ([(R, W.listOf #[] 0)] ++ nw))), p.1 ≠ I := fun p hp => Nat.ne_of_lt (hI p hp)
  have hg0 : goodL n u mir (vsR (n / 2).toNat 0) ([], false) = true := by rw [← vsL_eq]; exact hgood
  refine range_ind (InvV (n / 2).toNat R Dm I (W.listOf (List.toArray mv) em) mir n u _ nw) ?turn ?fin (n / 2).toNat 0 (([], false), [(R, W.listOf #[] 0)], none, none) _ _ ⟨by omega, hg0, .inl ⟨rfl, 0, rfl⟩, trivial, trivial, hap2, hap3, hIne, ?_, fun _ _ => rfl, rfl⟩
  case turn =>
    intro k i
    refine InvV.turn ?_
    intro row met rl S2 S3 m1 hik hg hra hS2 hS3 ha2 ha3 hnI hmet hmm t h7 tk7 F7 N7
    rw [vsR, goodL, Bool.and_eq_true] at hg
    have hgv := hg.1
    have hgl := hg.2
    clear hg
    have hv2 : 1 + (i : Int) ≤ n := by omega
    have hne : ∀ x : Str, x = Str.ofString "v" → x ∈ [Str.ofString "n", Str.ofString "u", Str.ofString "mirrored", Str.ofString "met", Str.ofString "row"] → False := by
      intro x h hx
      subst h
      revert hx
      decide +kernel
    have hmn : m1 (Str.ofString "n") = some (.int n t1) := (hmm _ (by decide +kernel)).trans rfl
    have hmu : m1 (Str.ofString "u") = some (.int u t2) := (hmm _ (by decide +kernel)).trans rfl
    have hmi : m1 (Str.ofString "mirrored") = some (.ref Dm) := (hmm _ (by decide +kernel)).trans rfl
    have hmr : m1 (Str.ofString "row") = some (.ref R) := (hmm _ (by decide +kernel)).trans rfl
    have hI69 : I ≠ 69 := fun ei => by
      cases S2 with
      | none => exact hnI (69, tabObj #[]) (List.mem_append_left _ (List.mem_cons_self ..)) ei.symm
      | some q => exact hnI (69, tabObj #[rawInt 87, rawInt 4, .ref q.1]) (List.mem_append_left _ (List.mem_cons_self ..)) ei.symm
    have hI76 : I ≠ 76 := fun ei => by
      cases S3 with
      | none => exact hnI (76, tabObj #[]) (List.mem_append_right _ (List.mem_append_left _ (List.mem_cons_self ..))) ei.symm
      | some q => exact hnI (76, tabObj #[rawInt 102, rawInt 4, .ref q.1]) (List.mem_append_right _ (List.mem_append_left _ (List.mem_cons_self ..))) ei.symm
    have hIR : @Ne Nat I R := fun ei => by
      obtain ⟨oR, hoR⟩ := row_mem hra
      exact hnI (R, oR) (List.mem_append_right _ (List.mem_append_right _ (List.mem_cons_of_mem _ (List.mem_append_left _ hoR)))) ei.symm
    have hDR : @Ne Nat Dm R := Nat.ne_of_lt hRl.1
    have hm7 : ∀ p ∈ [(Str.ofString "v", Value.int (1 + (i : Int)) t), (Str.ofString "n", .int n t1), (Str.ofString "u", .int u t2), (Str.ofString "mirrored", .ref Dm), (Str.ofString "met", .bool met), (Str.ofString "row", .ref R)], (fun y => if y = Str.ofString "v" then some (Value.int (1 + (i : Int)) t) else m1 y) p.1 = some p.2 := by
      intro p hp
      simp only [List.mem_cons, List.not_mem_nil, or_false] at hp
      rcases hp with h | h | h | h | h | h
      · subst h; exact if_pos rfl
      · subst h; exact (if_neg (fun e => hne _ e (by simp))).trans hmn
      · subst h; exact (if_neg (fun e => hne _ e (by simp))).trans hmu
      · subst h; exact (if_neg (fun e => hne _ e (by simp))).trans hmi
      · subst h; exact (if_neg (fun e => hne _ e (by simp))).trans hmet
      · subst h; exact (if_neg (fun e => hne _ e (by simp))).trans hmr
    have hIc2 : ∀ c o, S2 = some (c, o) → I ≠ c := fun c o ec ei => by
      subst ec
      exact hnI (c, o) (List.mem_append_left _ (List.mem_cons_of_mem _ (List.mem_cons_self ..))) ei.symm
    have hIc3 : ∀ c o, S3 = some (c, o) → I ≠ c := fun c o ec ei => by
      subst ec
      exact hnI (c, o) (List.mem_append_right _ (List.mem_append_left _ (List.mem_cons_of_mem _ (List.mem_cons_self ..)))) ei.symm
    have hv5 : ∀ z : Str, [Str.ofString "v", Str.ofString "met", Str.ofString "quotients", Str.ofString "rests", Str.ofString "place"].contains z = false → z ≠ Str.ofString "v" ∧ [Str.ofString "met", Str.ofString "quotients", Str.ofString "rests", Str.ofString "place"].contains z = false := by
      intro z hz
      simp only [List.contains_cons, Bool.or_eq_false_iff, beq_eq_false_iff_ne, ne_eq] at hz ⊢
      exact hz
    by_cases hsq : ((1 + (i : Int)) * (1 + (i : Int))).fmod n = n - 1
    · unfold goodV at hgv
      rw [if_pos hsq] at hgv
      simp only [Bool.and_eq_true, decide_eq_true_eq, beq_iff_eq] at hgv
      have hst : stepV n u mir (1 + (i : Int)) (row, met) = (insP row ((runL 40 n (1 + (i : Int)) [] [n]).2.getD (placeOf (runL 40 n (1 + (i : Int)) [] [n]).2 n) 0, (runL 40 n (1 + (i : Int)) [] [n]).2.getD (placeOf (runL 40 n (1 + (i : Int)) [] [n]).2 n + 1) 0), if 1 + (i : Int) = u then decide ((runL 40 n (1 + (i : Int)) [] [n]).1 = mir) else met) := if_pos hsq
      rw [hst] at hgl
      have hbd := all_getD (rs := (runL 40 n (1 + (i : Int)) [] [n]).2) (fun x hx => by
        have := List.all_eq_true.mp hgv.1.1.2 x hx
        simpa only [Bool.and_eq_true, decide_eq_true_eq] using this)
      have N8 := News.sink (A := [_]) N7
      refine vT1 w loose mean mg mb h₀ L fa cd X T B C2 C3 I Dm R _ mv em mir hmv hmir row rl nw met S2 S3 n u (1 + (i : Int)) _ _ _ rfl hgv.1.1.1.1.1.1.1 rfl hgv.1.1.1.1.1.1.2 hgv.1.1.1.1.1.2 hgv.1.1.1.1.2 hgv.1.1.1.2 hbd hn1 hn2 (by omega) hv2 hgv.1.2 hsq hgv.2 hra (apart_ins2 ha2 hI69 hIc2) (apart_ins2 ha3 hI76 hIc3) hS2 hS3 t t1 t2 _ _ _ _ hm7 F7 N8 hnR hIR hDR ?fin7
      intro h8 tk8 c2 o2 c3 o3 rl8 m8 hra8 hk2 hk3 hp2 hp3 hrl8 F8 hmet8 hz8 N9
      have hIn2 := hp2.1 (I, _) (List.mem_append_right _ (List.mem_cons_self ..))
      have hIn3 := hp3.1 (I, _) (List.mem_append_right _ (List.mem_cons_self ..))
      have hIm2 := (hp2.2 c2 o2 rfl).2 (I, _) (List.mem_append_right _ (List.mem_cons_self ..))
      have hIm3 := (hp3.2 c3 o3 rfl).2 (I, _) (List.mem_append_right _ (List.mem_cons_self ..))
      have hoff : ∀ p ∈ tabA (some (c2, o2)) ++ (tabB (some (c3, o3)) ++ ((Dm, W.listOf (List.toArray mv) em) :: (rl8 ++ nw))), p.1 ≠ I := by
        intro p hp
        simp only [List.mem_append, List.mem_cons, List.not_mem_nil, or_false] at hp
        rcases hp with (h | h) | (h | h) | h | h | h
        · subst h; exact Ne.symm hIn2
        · subst h; exact Ne.symm hIm2
        · subst h; exact Ne.symm hIn3
        · subst h; exact Ne.symm hIm3
        · subst h; exact hnI (Dm, W.listOf (List.toArray mv) em) (by simp)
        · rcases hrl8 p h with ⟨q, hq, e⟩ | e
          · rw [← e]; exact hnI q (by simp [hq])
          · exact Nat.ne_of_gt e
        · exact hnI p (by simp [h])
      refine unr_exact F8 (News.pick N9 5 [4, 0, 1, 2, 3]) hoff ⟨((insP row ((runL 40 n (1 + (i : Int)) [] [n]).2.getD (placeOf (runL 40 n (1 + (i : Int)) [] [n]).2 n) 0, (runL 40 n (1 + (i : Int)) [] [n]).2.getD (placeOf (runL 40 n (1 + (i : Int)) [] [n]).2 n + 1) 0), if 1 + (i : Int) = u then decide ((runL 40 n (1 + (i : Int)) [] [n]).1 = mir) else met), rl8, some (c2, o2), some (c3, o3)), by omega, hgl, hra8, hk2, hk3, hp2.sub ?s1, hp3.sub ?s2, hoff, hmet8, ?_, rfl⟩
      case s1 =>
        intro q hq
        simp only [List.mem_append, List.mem_cons, List.not_mem_nil, or_false] at hq ⊢
        rcases hq with (h | h) | h | h | h <;> simp [h]
      case s2 =>
        intro q hq
        simp only [List.mem_append, List.mem_cons, List.not_mem_nil, or_false] at hq ⊢
        rcases hq with (h | h) | h | h | h <;> simp [h]
      · intro z hz
        obtain ⟨z1, z2⟩ := hv5 z hz
        exact (hz8 z z2).trans ((if_neg z1).trans (hmm z hz))
    · have hst : stepV n u mir (1 + (i : Int)) (row, met) = (row, met) := if_neg hsq
      rw [hst] at hgl
      refine vT0 w loose mean mg mb h₀ L fa cd X T n (1 + (i : Int)) hn1 hn2 (by omega) hv2 hsq t t1 _ _ _ _ _ (fun p hp => hm7 p (by simp only [List.mem_cons, List.not_mem_nil, or_false] at hp ⊢; rcases hp with h | h <;> simp [h])) F7 N7 ?_
      intro h8 tk8 F8 N9
      refine unr_exact F8 N9 hnI ⟨((row, met), rl, S2, S3), by omega, hgl, hra, hS2, hS3, ha2, ha3, hnI, hm7 (Str.ofString "met", .bool met) (by simp), ?_, rfl⟩
      intro z hz
      exact (if_neg (hv5 z hz).1).trans (hmm z hz)
  case fin =>
    intro i
    refine InvV.out ?_
    intro rl S2 S3 m1 hra hS2 hS3 hmet hmm h7 tk7 F7 N7
    have hmn : m1 (Str.ofString "n") = some (.int n t1) := (hmm _ (by decide +kernel)).trans rfl
    have hmr : m1 (Str.ofString "row") = some (.ref R) := (hmm _ (by decide +kernel)).trans rfl
    have hm8 : ∀ p ∈ [(Str.ofString "met", Value.bool true), (Str.ofString "row", .ref R), (Str.ofString "n", .int n t1)], m1 p.1 = some p.2 := by
      intro p hp
      simp only [List.mem_cons, List.not_mem_nil, or_false] at hp
      rcases hp with h | h | h
      · subst h; exact hmet
      · subst h; exact hmr
      · subst h; exact hmn
    have F8 := ksw_fr (stored := []) (m₀ := m1) hm8 (fun _ _ _ => rfl) F7
    simp only [List.contains_nil, Bool.false_eq_true, if_false] at F8
    dsimp only [kstB] at F8
    have F9 : Fr h₀ L h7 _ := F8
    obtain ⟨al, hal⟩ : ∃ al, al = tabA S2 ++ (tabB S3 ++ ((Dm, W.listOf (List.toArray mv) em) :: (rl ++ nw))) := ⟨_, rfl⟩
    rw [← hal] at N7
    have N8 : News h₀ L h7 al := N7
    clear F8 F7 N7 F5 N5 N6 hap2 hap3 hIne hI hmm hm8
    have q0 := sqOk_of hso
    k_steps
    unfold Stop
    rename Fr h₀ L _ _ => F10
    rename News h₀ L _ _ => N10
    refine sqs_use (sqs_spec w topProg loose mean mg mb al n t1 hn1 (by omega) q0.1 q0.2.1 q0.2.2) B F10 X N10 T rfl (by decide) (by decide) ?_
    intro D11 tl11 h11 tk11 F11 N11 l11 hrd
    have N12 : News h₀ L h11 (rl ++ (tabA S2 ++ (tabB S3 ++ nw))) := News.sub N11 (by
      intro q hq
      rw [hal]
      simp only [List.mem_append, List.mem_cons] at hq ⊢
      rcases hq with h | h | h | h <;> simp [h])
    have hrr := row_reads hra N12
    k_steps
    unfold Stop
    have heq : PyData.eqv (dRow (squaresL n)) (dRow (squaresL n)) = true := by simp only [dRow, PyData.eqv, row_eqv]
    k_dflt (refine' eq_dataH hrr hrd (row_shaped _) (row_shaped _) ?hu ?_)
    (case hu => ke_room)
    rw [heq]
    exact cont h11 _ S2 S3 _ F11 hS2 hS3 (News.sub N12 (by
      intro q hq
      simp only [List.mem_append] at hq ⊢
      rcases hq with h | h | h <;> simp [h]))
  · rfl
end Mine
end
-- part Law1
section
theorem Mine.offLaw1 : True := by
  w_top off
  k_with_none
  trivial
open PySem PySem.W PyProof.Rows PySem.Calls
set_option Elab.async false
set_option maxRecDepth 100000
set_option maxHeartbeats 0
set_option linter.unusedVariables false
namespace Mine
theorem drawn4 (zs : List Int) : ∃ d0 d1 d2 d3 : Int, (List.map (fun k' : Int => k'.fmod 1000000) (List.take 4 zs) ++ List.drop ((List.map (fun k' : Int => k'.fmod 1000000) (List.take 4 zs)).length : Int).toNat [1, 362, 42, 13]) = [d0, d1, d2, d3] ∧ (0 ≤ d0 ∧ d0 < 1000000) ∧ (0 ≤ d1 ∧ d1 < 1000000) ∧ (0 ≤ d2 ∧ d2 < 1000000) ∧ (0 ≤ d3 ∧ d3 < 1000000) := by
  have b : ∀ x : Int, 0 ≤ x.fmod 1000000 ∧ x.fmod 1000000 < 1000000 := fun x => ⟨Int.fmod_nonneg_of_pos x (by decide), Int.fmod_lt_of_pos x (by decide)⟩
  match zs with
  | [] => exact ⟨_, _, _, _, rfl, by decide, by decide, by decide, by decide⟩
  | [x] => exact ⟨_, _, _, _, rfl, b _, by decide, by decide, by decide⟩
  | [x, y] => exact ⟨_, _, _, _, rfl, b _, b _, by decide, by decide⟩
  | [x, y, z] => exact ⟨_, _, _, _, rfl, b _, b _, b _, by decide⟩
  | x :: y :: z :: t :: r => exact ⟨_, _, _, _, rfl, b _, b _, b _, b _⟩
theorem ints4d {ws : List Value} {a b c d : Int} (h : IntsAre ws [a, b, c, d]) : ∃ t0 t1 t2 t3, ws = [.int a t0, .int b t1, .int c t2, .int d t3] := by
  cases h with
  | cons _ _ h => cases h with
    | cons _ _ h => cases h with
      | cons _ _ h => cases h with
        | cons _ _ h => cases h; exact ⟨_, _, _, _, rfl⟩
theorem news_val {g h : Heap} {L l : Addr} {vs : List Value} {e : Nat} {r : Led} (N : News g L h ((l, W.listOf (List.toArray vs) e) :: r)) : ∃ v0, v0 = vs := ⟨vs, rfl⟩
theorem le3 {k : Nat} (h : k = 2 ∨ k = 3) : k ≤ 3 := by omega
theorem ne0 {k : Nat} (h : k = 2 ∨ k = 3) : ¬ 0 = k := by omega
theorem drawn_len (d0 d1 d2 d3 : Int) : (List.take (min (3 + ([d0, d1, d2, d3].getD 0 0).fmod 2).toNat [d0, d1, d2, d3].length - 1) (List.drop 1 [d0, d1, d2, d3])).length = 2 ∨ (List.take (min (3 + ([d0, d1, d2, d3].getD 0 0).fmod 2).toNat [d0, d1, d2, d3].length - 1) (List.drop 1 [d0, d1, d2, d3])).length = 3 := by
  have h : d0.fmod 2 = 0 ∨ d0.fmod 2 = 1 := by
    have f0 := Int.fmod_nonneg_of_pos d0 (show (0 : Int) < 2 by decide)
    have f1 := Int.fmod_lt_of_pos d0 (show (0 : Int) < 2 by decide)
    omega
  have e : [d0, d1, d2, d3].getD 0 0 = d0 := rfl
  rw [e]
  rcases h with h | h
  · rw [h]; exact .inl rfl
  · rw [h]; exact .inr rfl
theorem law_go (w : World) (loose : List Str) (mean : ExcName → Option Value) (mg mb : Str → Option Value) (h₀ : Heap) (L fa : Addr) (cd : Value) (sc : Addr) (its : List Value) (zs : List Int) (s : Shared) (Q : Flow → Shared → Prop) (E : Value → Shared → Prop)
   (X : (myK w.params).In h₀) (T : Top topProg loose mean mg mb h₀) (B : Below callerA h₀ [] h₀) (hsc : h₀.IsList sc its.toArray) (hI : IntsAre its zs) (hlen : ¬ ((63 : Int) < zs.length))
   (C1 : CodeHd h₀ 45 41) (C2 : CodeHd h₀ 73 69) (C3 : CodeHd h₀ 80 76) (hE : PassesOwn (model PySem.Challenge.rw_sn0092_01.row.prog w) (callerA.deeper (envOf myD.name myD.scope L fa cd)) (envOf myD.name myD.scope L fa cd) E)
   (F : Fr h₀ L s.heap (fun y => List.lookup y [(Str.ofString "script", .ref sc)])) (N : News h₀ L s.heap [(41, tabObj #[]), (69, tabObj #[]), (76, tabObj #[])])
   (hret : ∀ (s' : Shared) (m' : Str → Option Value) (S1 S2 S3 : TabS), s'.os = s.os → s'.gens = s.gens → Fr h₀ L s'.heap m' → tabOk q1 S1 → tabOk nmA S2 → tabOk nmB S3 → News h₀ L s'.heap (tabA S2 ++ (tabB S3 ++ tabL 41 47 4 S1)) → Q (.ret (.bool true)) s') :
   LawSuf 0 w L fa cd s Q E := by
  have on1 := On.mk "call ref"
  have on2 := On.mk "call builtin:len"
  have on3 := On.mk "callWith ref"
  have onN := OnN.mk 15
  unfold LawSuf
  revert X
  k_fill
  intro X
  k_steps
  unfold Stop
  clear on2
  have on2 := On.mk "subscriptTail Name Slice ref ref"
  rename IntsAre _ (List.map _ _) => hI2
  rename Fr h₀ L _ _ => F2
  rename News h₀ L _ _ => N2
  rename List Value => ys
  rename ys.length = _ => hL8
  clear hL8
  obtain ⟨cs, hcs⟩ : ∃ cs, cs = List.map (fun k' : Int => k'.fmod 1000000) (List.take 4 zs) := ⟨_, rfl⟩
  have hI3 : IntsAre ys cs := hcs ▸ hI2
  have hL3 : ys.length = cs.length := hI3.length
  have hcl : cs.length ≤ 4 := by rw [hcs, List.length_map, List.length_take]; exact Nat.min_le_left _ _
  clear hI2
  have hTold : IntsAre [Value.int 1 s.toks, Value.int 362 (s.toks + 1), Value.int 42 (s.toks + 1 + 1), Value.int 13 (s.toks + 1 + 1 + 1)] [1, 362, 42, 13] := by l_ints
  k_steps
  unfold Stop
  rename Fr h₀ L _ _ => F3
  rename News h₀ L _ _ => N3
  have ym := kmk_from (x := (cs.length : Int)) hTold (Int.natCast_nonneg _)
  k_dflt (refine' kmk_slice_ints F3 N3 ?yl ?yp ?yq ?yi ym ?yc ?_ ?ys ?yt ?yz)
  (case yl => kmk_list)
  (case yp => kmk_part)
  (case yq => kmk_part)
  (case yi => exact hTold)
  (case yc => kmk_len)
  (case ys => with_unfolding_all rfl)
  (case yt => kmk_pure)
  (case yz => kmk_size)
  intro D4 ws4 h4 F4 N4 l4 hI4 hC4 hL4
  k_lt l4
  clear on2
  clear F3 N3 ym
  dsimp only
  k_steps
  unfold Stop
  clear on3
  rename Fr h₀ L _ _ => F5
  rename News h₀ L _ _ => N5
  rename IntsAre _ (cs ++ _) => hI6
  obtain ⟨d0, d1, d2, d3, hd, b0, b1, b2, b3⟩ := drawn4 zs
  rw [← hcs] at hd
  rw [hd] at hI6
  obtain ⟨t0, t1, t2, t3, hws⟩ := ints4d hI6
  rw [hws] at N5
  rename_i Dd _ _ _ _
  have N6 : News h₀ L _ [(Dd, W.listOf #[Value.int d0 t0, Value.int d1 t1, Value.int d2 t2, Value.int d3 t3] 0), (41, tabObj #[]), (69, tabObj #[]), (76, tabObj #[])] := News.pick N5 8 [0, 5, 6, 7]
  clear N5 hI4 hC4 hL4 hI3 hL3 hTold hI6 hd
  clear hcs
  k_steps
  unfold Stop
  rename Fr h₀ L _ _ => F7
  rename News h₀ L _ _ => N7
  rename IntsAre _ (List.take _ _) => hI7
  rename_i Dv _ _ _ _ _
  obtain ⟨wv, hwv⟩ := news_val N7
  subst hwv
  have hl8 := drawn_len d0 d1 d2 d3
  generalize List.take (min (3 + ([d0, d1, d2, d3].getD 0 0).fmod 2).toNat [d0, d1, d2, d3].length - 1) (List.drop 1 [d0, d1, d2, d3]) = ds at *
  have N8 : News h₀ L _ ((Dv, W.listOf (List.toArray wv) 0) :: [(41, tabObj #[]), (69, tabObj #[]), (76, tabObj #[])]) := News.pick N7 5 [0, 2, 3, 4]
  clear N7
  refine FSpec.use (mail_spec w topProg loose mean mg mb _ Dv _ 0 ds hI7 (le3 hl8)) B F7 X N8 T rfl (by decide) (by decide) ?_
  intro r9 tl9 h9 tk9 F9 N9 l9 hR9
  obtain ⟨Rt, D3, D5, rows, hs, vals, e3, e4, tw, ts, rfl, rfl, hrows, hrl, hrh, hhs, hvals⟩ := hR9
  have h41 : @LT.lt Nat _ 41 D5 := l9 (41, tabObj #[]) (by simp) (D5, W.listOf (List.toArray vals) e4) (by simp)
  clear N8 F7 l9
  have N10 : News h₀ L h9 [(Rt, tupO [.str (wrS rows) tw, .str (seS rows) ts, .ref D3, .ref D5]), (D5, W.listOf (List.toArray vals) e4), (D3, W.listOf (List.toArray hs) e3), (41, tabObj #[]), (69, tabObj #[]), (76, tabObj #[])] := News.pick N9 7 [0, 1, 2, 4, 5, 6]
  clear N9
  k_steps
  unfold Stop
  rename Fr h₀ L _ _ => F12
  rename News h₀ L _ _ => N12
  have hne : rows ≠ [] := by
    intro e
    rw [e] at hrl
    simp only [List.length_nil] at hrl
    exact ne0 hl8 hrl
  have hr3 : rows.length ≤ 3 := by rw [hrl]; exact le3 hl8
  have hsz : ∀ d ∈ rows.map (·.1.size), 1 ≤ d ∧ d ≤ 3 := by
    intro d hd
    obtain ⟨r, hr, rfl⟩ := List.mem_map.mp hd
    have := loud_of (hrows r hr).1
    exact ⟨this.2.2.2.2.2.2.2.1, this.2.2.2.2.2.2.2.2⟩
  have hcg := checkG_of (zs := rows.map (·.1.size)) (by rw [List.length_map, hrl]; exact hl8) hsz (by
    intro d hd
    rw [List.head?_map] at hd
    cases hh : rows.head? with
    | none => rw [hh] at hd; cases hd
    | some r =>
      rw [hh] at hd
      cases hd
      exact hrh r hh)
  simp only [checkG, Bool.and_eq_true, decide_eq_true_eq] at hcg
  obtain ⟨⟨⟨c1, c2⟩, c3⟩, c4⟩ := hcg
  refine law_2 w loose mean mg mb h₀ L fa cd _ Q E rows hrows hne hr3 D3 D5 hs vals e3 e4 tw ts _ X T B hE F12 (fun q hq => N12 q (List.mem_cons_of_mem _ hq)) ?_
  intro h13 tk13 Dl ls e13 m13 hls F13 hm13 hlt13 N13
  refine law_3 w loose mean mg mb h₀ L fa cd _ Q E rows hrows hr3 D3 D5 Dl hs vals ls e13 e3 e4 m13 X T B C1 hE hhs hls F13 hm13 hlt13 (Nat.ne_of_gt h41) N13 ?_
  intro s14 Dh hv e14 S14 m14 hos14 hgs14 hhv hS14 hn14 F14 hm14 N14
  refine law_4 w loose mean mg mb h₀ L fa cd s14 Q E (rows.map (·.1.size)) (by rw [List.length_map]; exact hr3) hsz Dh D5 hv vals e4 e14 _ m14 X T B hE hhv hvals F14 hm14 N14 ?_
  intro h15 tk15 Dm mv e15 t15 u15 m15 hmv15 F15 hm15 hlt15 N15
  refine law_5 w loose mean mg mb h₀ L fa cd _ Q E _ (by rw [List.length_append, List.length_reverse, List.length_map]; exact Nat.add_le_add hr3 hr3) _ _ c1 c2 c3 c4 Dm mv e15 t15 u15 _ m15 X T B C2 C3 hE hmv15 F15 hm15 hlt15 hn14 N15 ?_
  intro h16 tk16 S2 S3 m16 F16 hS2 hS3 N16
  refine hret _ m16 S14 S2 S3 ?_ ?_ F16 hS14 hS2 hS3 N16
  · exact hos14
  · exact hgs14
end Mine
end
-- part Fin
theorem Mine.offFin : True := by
  w_top off
  k_with_none
  trivial
open PySem PySem.W PyProof.Rows PySem.Calls
set_option Elab.async false
set_option maxRecDepth 100000
set_option maxHeartbeats 0
set_option linter.unusedVariables false
theorem PySem.Challenge.cw_sn0092_01_holds : PySem.Challenge.rw_sn0092_01.Holds := by
  refine Mine.hd ?_
  k_fill
  intro w s₀ s₁ mg mb G Y fa o pm cd doc dV kV ho hd hcd hD hmg hg args vals as hpre hlay hrd hwl hlo
  have KX := kIn_of Y
  replace hmg : mg (Str.ofString "law") = _ := hmg
  kn_any hmg
  have X := (Ground.X G).1
  have V := (Ground.X G).2
  refine Ground.open G ?_
  intro T B D TE TW
  try (refine guard_noD D (by decide +kernel) ?_; clear D)
  kn_lay T hmg ho hd cd
  clear hmg
  wrow_args hpre hlay hrd hwl hlo
  all_goals (
    first | refine callC_kw (enter_call ?_) | refine enter_call ?_
    w_top on
    kn_posts
    w_call any ho hd hcd hD T F
    clear hd
    kn_ghosts F T
    k_drop
    skip)
  rename Frag.In _ (ghostOf _ _) => X2
  rename Top _ _ _ _ _ (ghostOf _ _) => T2
  rename Below _ _ _ _ => B2
  rename Heap.IsList (ghostOf _ _) _ _ => hl2
  rename IntsAre _ _ => hi2
  rename ¬ ((63 : Int) < _) => hc2
  rename CodeHd _ (45, 41).1 _ => C1
  rename CodeHd _ (73, 69).1 _ => C2
  rename CodeHd _ (80, 76).1 _ => C3
  rename Fr _ _ _ _ => F2
  rename News _ _ _ _ => N2
  refine Mine.law_go w _ _ _ _ _ _ fa cd _ _ _ _ _ _ X2 T2 B2 hl2 hi2 hc2 C1 C2 C3 ?hE F2 N2 ?hret
  case hE => passes_own
  case hret =>
    intro s' m' S1 S2 S3 hos hgs F9 hS1 hS2 hS3 N9
    refine ⟨?_, ?_⟩
    · exact goodW_bool F9 (hgs.trans hg) (fun cls => rfl) (by with_unfolding_all rfl) hos
    · have g : ∀ (P : Addr) (ln cc : Int) (S : Mine.TabS) (r : Mine.Led), (∀ p ∈ Mine.tabL P ln cc S, p ∈ r) → News (ghostOf s₁.heap [(45, 41), (73, 69), (80, 76)]) s₁.heap.objs.size s'.heap r → GrownAt P s'.heap := by
        intro P ln cc S r hs N
        cases S with
        | none => exact GrownAt.of N (hs _ (List.mem_cons_self ..))
        | some q => exact GrownAt.of N (hs _ (List.mem_cons_self ..))
      refine ⟨g 41 47 4 S1 _ (fun p hp => ?_) N9, g 69 87 4 S2 _ (fun p hp => ?_) N9, g 76 102 4 S3 _ (fun p hp => ?_) N9, trivial⟩
      · simp only [List.mem_append]; exact .inr (.inr hp)
      · simp only [List.mem_append]; exact .inl hp
      · simp only [List.mem_append]; exact .inr (.inl hp)
